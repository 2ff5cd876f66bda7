import PyProof.Rows.All
import Wide.All
import OpenK.AllK
import Wide.FinOn
import PySem.Challenge.RW_pk0047_01
set_option Elab.async false
local macro_rules | `(tactic| omega) => `(tactic| first | lia | omega +splitDisjunctions)

section
set_option maxRecDepth 100000
namespace Mine
open PySem

/-! a small evaluator over plain data -/
noncomputable abbrev D := PyData
noncomputable abbrev Rho := List (Str × PyData)

theorem none_ne {α : Type} {a : α} {P : Prop} (h : (none : Option α) = some a) : P := by cases h
theorem false_ne {P : Prop} (h : false = true) : P := by cases h

noncomputable def scal : D → Bool
  | .none | .bool _ | .int _ | .str _ => true
  | _ => false

noncomputable def pconst : Const → Option D
  | .none => some .none
  | .bool b => some (.bool b)
  | .int i => some (.int i)
  | .str x => if x.length ≤ 200 then some (.str x) else none
  | _ => none

noncomputable def small (i : Int) : Bool := decide (-(2 ^ 40) < i) && decide (i < 2 ^ 40)

noncomputable def ints2 (a b : D) (f : Int → Int → Option D) : Option D := match a with
  | .int i => match b with
    | .int j => f i j
    | _ => none
  | _ => none
noncomputable def badd (a b : D) : Option D := match a with
  | .int i => match b with
    | .int j => some (.int (i + j))
    | _ => none
  | .str x => match b with
    | .str y => if x.length + y.length ≤ 1000 then some (.str (x ++ y)) else none
    | _ => none
  | .list xs => match b with
    | .list ys => if xs.length + ys.length ≤ 1000 then some (.list (xs ++ ys)) else none
    | _ => none
  | _ => none
noncomputable def bmul (a b : D) : Option D := match a with
  | .int i => match b with
    | .int j => if small i && small j then some (.int (i * j)) else none
    | _ => none
  | .list xs => match b with
    | .int n => if decide (0 ≤ n) && decide (n ≤ 1000) && decide (xs.length ≤ 1000) then some (.list (List.replicate n.toNat xs).flatten) else none
    | _ => none
  | _ => none
noncomputable def pbin (op : Operator) (a b : D) : Option D := match op with
  | .Add => badd a b
  | .Sub => ints2 a b fun i j => some (.int (i - j))
  | .Mult => bmul a b
  | .Mod => ints2 a b fun i j => if j != 0 then some (.int (i.fmod j)) else none
  | .FloorDiv => ints2 a b fun i j => if small i && decide (0 < j) && decide (j < 2 ^ 30) then some (.int (i.fdiv j)) else none
  | .Pow => ints2 a b fun i j => if decide (0 ≤ i) && decide (i ≤ 16) && decide (0 ≤ j) && decide (j ≤ 64) then some (.int (i ^ j.toNat)) else none
  | _ => none

noncomputable def eqOk (a b : List D) : Bool := PyData.canLayAll0 a && PyData.canLayAll0 b && decide (PyData.depthAll a ≤ 8)
noncomputable def ceq (neg : Bool) (a b : D) : Option Bool := match a with
  | .str x => match b with
    | .str y => some (if neg then !(x == y) else (x == y))
    | _ => none
  | .int x => match b with
    | .int y => some (if neg then (x != y) else (x == y))
    | _ => none
  | .list x => match b with
    | .list y => if eqOk x y then some (if neg then !PyData.eqvAll x y else PyData.eqvAll x y) else none
    | _ => none
  | _ => none
noncomputable def cints (a b : D) (f : Int → Int → Bool) : Option Bool := match a with
  | .int i => match b with
    | .int j => some (f i j)
    | _ => none
  | _ => none
noncomputable def isNoneD : D → Bool
  | .none => true
  | _ => false
noncomputable def cisn (neg : Bool) (a b : D) : Option Bool := match b with
  | .none => some (if neg then !(isNoneD a) else isNoneD a)
  | .bool y => match a with
    | .bool x => some (if neg then !(x == y) else (x == y))
    | _ => none
  | _ => none
noncomputable def cin (a b : D) : Option Bool := match a with
  | .int i => match b with
    | .list xs => if PyData.canLayAll0 xs then some (xs.any fun y => PyData.eqv y (.int i)) else none
    | .tuple xs => if PyData.canLayAll0 xs then some (xs.any fun y => PyData.eqv y (.int i)) else none
    | _ => none
  | _ => none
noncomputable def cnotin (a b : D) : Option Bool := match a with
  | .str x => match b with
    | .str y => some (!(Txt.contains y x))
    | _ => none
  | _ => none
noncomputable def pcmp (op : CmpOp) (a b : D) : Option Bool := match op with
  | .Eq => ceq false a b
  | .NotEq => ceq true a b
  | .Lt => cints a b fun i j => decide (i < j)
  | .LtE => cints a b fun i j => decide (i ≤ j)
  | .Gt => cints a b fun i j => decide (i > j)
  | .GtE => cints a b fun i j => decide (i ≥ j)
  | .Is => cisn false a b
  | .IsNot => cisn true a b
  | .In => cin a b
  | .NotIn => cnotin a b


noncomputable def ptruth : D → Option Bool
  | .bool b => some b
  | .int i => some (i != 0)
  | .str x => if x.length ≤ 1000 then some ((x.length : Int) != 0) else none
  | _ => none

/-- the places that a cut picks -/
noncomputable def cutAt (lo hi st : Option Int) (n : Nat) : List Nat :=
  sliceRange (sliceBounds lo hi st n).1 (sliceBounds lo hi st n).2.1 (sliceBounds lo hi st n).2.2

noncomputable def pslice (d : D) (lo hi st : Option Int) : Option D :=
  if st == some 0 then none else match d with
  | .list xs => if xs.length ≤ 1000 then some (.list ((cutAt lo hi st xs.length).filterMap (xs[·]?))) else none
  | .str x => if st == none && decide ((Builtin.Str.strSliceIndices lo hi 1 x.length).length ≤ 1000) then some (.str (if ((Builtin.Str.strSliceIndices lo hi 1 x.length).length == x.length) = true then x else ⟨((Builtin.Str.strSliceIndices lo hi 1 x.length).filterMap (x.cps[·]?)).toArray⟩)) else none
  | _ => none

noncomputable def pitem : D → D → Option D
  | .list xs, .int i => if small i then (seqIndex? i xs.length).bind (xs[·]?) else none
  | .str x, .int i => if small i then (Txt.charAt x i).map fun c => .str ⟨#[c]⟩ else none
  | _, _ => none

noncomputable def asInts : List D → Option (List Int)
  | [] => some []
  | .int i :: r => (asInts r).map (i :: ·)
  | _ => none
noncomputable def asBools : List D → Option (List Bool)
  | [] => some []
  | .bool i :: r => (asBools r).map (i :: ·)
  | _ => none
noncomputable def asStrs : List D → Option (List Str)
  | [] => some []
  | .str x :: r => (asStrs r).map (x :: ·)
  | _ => none

noncomputable def minOf : List Int → Option Int
  | [] => none
  | x :: r => some (r.foldl (fun a b => if b < a then b else a) x)

noncomputable def pbuiltin (f : Str) (as : List D) : Option D :=
  if f = "len" then match as with
    | [.str x] => if x.length ≤ 1000 then some (.int x.length) else none
    | [.list xs] => if xs.length ≤ 1000 then some (.int xs.length) else none
    | _ => none
  else if f = "sum" then match as with
    | [.list xs] => if xs.length ≤ 1000 then match asInts xs with
        | some is => some (.int is.sum)
        | none => (asBools xs).map fun bs => .int (bs.map fun b => if b then (1 : Int) else 0).sum
      else none
    | _ => none
  else if f = "min" then match as with
    | [.list xs] => if xs.length ≤ 1000 then ((asInts xs).bind minOf).map .int else none
    | _ => none
  else if f = "int" then match as with
    | [.bool b] => some (.int (if b then 1 else 0))
    | _ => none
  else none

noncomputable def pmethod (f : Str) (self : D) (as : List D) : Option D :=
  if f = "split" then match self, as with
    | .str x, [.str y] => if x.length ≤ 1000 && y.length ≠ 0 then some (.list ((Txt.split x y).map .str)) else none
    | _, _ => none
  else if f = "startswith" then match self, as with
    | .str x, [.str y] => some (.bool (Txt.startswith x y))
    | _, _ => none
  else if f = "endswith" then match self, as with
    | .str x, [.str y] => some (.bool (Txt.endswith x y))
    | _, _ => none
  else if f = "find" then match self, as with
    | .str x, [.str y, .int a, .int b] => if decide (0 ≤ a) && decide (0 ≤ b) && decide (a ≤ x.length) && decide (b ≤ x.length) then
        some (.int (match Builtin.Str.occurrences x y a.toNat b.toNat 1 with | i :: _ => (i : Int) | [] => -1)) else none
    | _, _ => none
  else if f = "join" then match self, as with
    | .str x, [.list xs] => match asStrs xs with
      | some ts => if x.length ≤ 100 && decide (ts.length ≤ 100) && ts.all (fun t => decide (t.length ≤ 1000)) then some (.str (Txt.join x ts)) else none
      | none => none
    | _, _ => none
  else none

noncomputable def gis (last : Option Int) : Nat → List Int → Option (List Int)
  | 0, _ => some []
  | _ + 1, [] => some []
  | k + 1, x :: xs => if x = 127 then some [] else if x = 0 then last.map fun l => List.replicate (k + 1) l
    else (gis (some x) k xs).map (x :: ·)
noncomputable def sumsFrom (a : Int) : List Int → List Int
  | [] => []
  | x :: r => (x + a) :: sumsFrom (x + a) r

noncomputable def pprim (f : Str) (as : List D) : Option D :=
  if f = "_law_sums" then match as with
    | [.list xs] => match asInts xs with
      | some is => if is.length ≤ 10 && is.all small then (gis none 6 is).map fun ys => .list ((sumsFrom 0 ys).map .int) else none
      | none => none
    | _ => none
  else none
/-- what _law_refusal answers -/
noncomputable def refusal (is : List Int) : Str := if is.head? = some 0 then "invalid grouping" else ""

noncomputable def isPrim (f : Str) : Bool := f = "_law_refusal" || f = "_law_sums"

inductive Fl where
  | next | ret (d : D)

structure Stt where
  rho : Rho
  own : Option Str

structure Rec where
  ev : Scope → Rho → Expr → Option D
  ts : Scope → Rho → Expr → Option Bool
  ex : Scope → Stt → List Stmt → Option (Fl × Stt)
  cl : Str → List D → Option D

noncomputable def kindIn (sc : Scope) (x : Str) : Option NameKind := sc.names.lookup x
noncomputable def okName (x : Str) : Bool := !(x == ("__debug__" : Str)) && !(x == ("__classdict__" : Str))
noncomputable def isVar (sc : Scope) (x : Str) : Bool := okName x && (match kindIn sc x with
  | some .local | some .cell | some .free => true
  | _ => false)
noncomputable def isOwnVar (sc : Scope) (x : Str) : Bool := match kindIn sc x with
  | some .local | some .cell => true
  | _ => false
noncomputable def isGlob (sc : Scope) (x : Str) : Bool := okName x && kindIn sc x == some .globalImplicit

/-- the table of a comprehension inside another block, as the model relabels it -/
noncomputable def relab (csc sc : Scope) : Scope :=
  { csc with names := csc.names.map fun (n, k) => if (k == .free && sc.kind == .function && kindIn sc n == some .cell) then (n, .cell) else (n, k) }

noncomputable def dotdot : Str := "..."
/-- which form an expression has, by its place among the forms -/
noncomputable def isAt (n : Nat) (e : Expr) : Bool := Nat.beq e.ctorIdx n
noncomputable abbrev isStar : Expr → Bool := isAt 22
noncomputable def evs (r : Rec) (sc : Scope) (ρ : Rho) : List Expr → Option (List D)
  | [] => some []
  | e :: es => if isStar e then none else do
    let d ← r.ev sc ρ e
    let ds ← evs r sc ρ es
    some (d :: ds)
theorem evs_one {r : Rec} {sc : Scope} {ρ : Rho} {e : Expr} {d : D} (hs : isStar e = false) (h : r.ev sc ρ e = some d) : evs r sc ρ [e] = some [d] := by
  show (if isStar e then none else (r.ev sc ρ e).bind fun d => (evs r sc ρ []).bind fun ds => some (d :: ds)) = _
  rw [hs, h]; rfl
noncomputable def evOpt (r : Rec) (sc : Scope) (ρ : Rho) : Option Expr → Option (Option Int)
  | none => some none
  | some e => match r.ev sc ρ e with
    | some (.int i) => if small i then some (some i) else none
    | _ => none

noncomputable def evBools (r : Rec) (sc : Scope) (ρ : Rho) (op : BoolOp) : List Expr → Option D
  | [] => none
  | [e] => r.ev sc ρ e
  | e :: es => do
    let d ← r.ev sc ρ e
    let b ← ptruth d
    match op, b with
    | .And, false | .Or, true => some d
    | _, _ => evBools r sc ρ op es
noncomputable def tsBools (r : Rec) (sc : Scope) (ρ : Rho) (op : BoolOp) : List Expr → Option Bool
  | [] => some (op == .And)
  | e :: es => do
    let b ← r.ts sc ρ e
    match op, b with
    | .And, false => some false
    | .Or, true => some true
    | _, _ => tsBools r sc ρ op es
noncomputable def tsAll (r : Rec) (sc : Scope) (ρ : Rho) : List Expr → Option Bool
  | [] => some true
  | [e] => r.ts sc ρ e
  | _ => none

noncomputable def irange (a : Int) (n : Nat) : List D := (List.range n).map fun (i : Nat) => .int (a + i)

/-- what a loop's head yields -/
noncomputable abbrev isSetE : Expr → Bool := isAt 7
noncomputable def isName : Expr → Option Str
  | .Name x _ => some x
  | _ => none
/-- a call of a name, with no keywords -/
noncomputable def callN : Expr → Option (Str × List Expr)
  | .Call f args kw _ => if kw.isEmpty then (isName f).map fun x => (x, args) else none
  | _ => none
noncomputable def itemsC (ds : List D) : Option (List D) := match ds with
  | [.int b] => if small b && decide (b ≤ 1000) then some (irange 0 b.toNat) else none
  | [.int a, .int b] => if small a && small b && decide (b - a ≤ 1000) then some (irange a (b - a).toNat) else none
  | _ => none
noncomputable def itemsE (ds : List D) : Option (List D) := match ds with
  | [.list xs] => if xs.length ≤ 1000 then some (xs.zipIdx.map fun (x, i) => .tuple [.int i, x]) else none
  | _ => none
noncomputable def itemsV (d : Option D) : Option (List D) := match d with
  | some (.list xs) => if xs.length ≤ 1000 then some xs else none
  | some (.str x) => if x.length ≤ 1000 then some (x.cps.toList.map fun c => .str ⟨#[c]⟩) else none
  | _ => none
noncomputable def items (r : Rec) (sc : Scope) (ρ : Rho) (e : Expr) : Option (List D) := match callN e with
  | some (f, args) => if f = "range" && isGlob sc f then (evs r sc ρ args).bind itemsC
    else if f = "enumerate" && isGlob sc f then (evs r sc ρ args).bind itemsE
    else none
  | none => if isSetE e then none else itemsV (r.ev sc ρ e)
noncomputable def isEnum (e : Expr) : Bool := match callN e with
  | some (f, _) => f = "enumerate"
  | none => false

noncomputable def names2 : List Expr → Option (Str × Str)
  | [a, b] => (isName a).bind fun x => (isName b).map fun y => (x, y)
  | _ => none
noncomputable def pairD : D → Option (D × D)
  | .tuple ds => match ds with
    | [d, e] => some (d, e)
    | _ => none
  | _ => none
noncomputable def bindT (own : Str → Bool) (ρ : Rho) (t : Expr) (v : D) : Option Rho := match t with
  | .Name x _ => if own x then some ((x, v) :: ρ) else none
  | .Tuple es _ _ => (names2 es).bind fun (a, b) => (pairD v).bind fun (d, e) => if own a && own b then some ((b, e) :: (a, d) :: ρ) else none
  | _ => none

noncomputable def newIn (own : Str → Bool) (ρ : Rho) (x : Str) : Bool := own x && (ρ.lookup x).isNone
noncomputable def tgtOk (i t : Expr) : Bool := match t with
  | .Name .. => !(isEnum i)
  | .Tuple .. => isEnum i
  | _ => false
noncomputable def comp1 (r : Rec) (own : Str → Bool) (sc : Scope) (ρ : Rho) (t : Expr) (ifs : List Expr) (elt : Expr) : List D → Option (List D)
  | [] => some []
  | d :: ds => do
    let ρ' ← bindT (newIn own ρ) ρ t d
    let ok ← tsAll r sc ρ' ifs
    if ok then do
      let y ← r.ev sc ρ' elt
      let ys ← comp1 r own sc ρ t ifs elt ds
      some (y :: ys)
    else comp1 r own sc ρ t ifs elt ds
noncomputable def comp2 (r : Rec) (own : Str → Bool) (sc : Scope) (ρ : Rho) (t : Expr) (t2 i2 : Expr) (ifs2 : List Expr) (elt : Expr) : List D → Option (List D)
  | [] => some []
  | d :: ds => do
    let ρ' ← bindT (newIn own ρ) ρ t d
    let ds2 ← items r sc ρ' i2
    let ys ← comp1 r own sc ρ' t2 ifs2 elt ds2
    let zs ← comp2 r own sc ρ t t2 i2 ifs2 elt ds
    some (ys ++ zs)
noncomputable def nodup (l : List Str) : Bool := match l with
  | [] => true
  | x :: r => !r.contains x && nodup r
/-- a comprehension's table is as the walk wants it -/
noncomputable def compOk (csc sc : Scope) : Bool :=
  csc.kind == .function && nodup (csc.names.map (·.1)) && csc.names.all fun p => p.2 != .free || (kindIn sc p.1 == some .cell || kindIn sc p.1 == some .free)
/-- a comprehension sees the names that it closes over, and its own -/
noncomputable def freeOnly (csc : Scope) (ρ : Rho) : Rho := ρ.filter fun p => kindIn csc p.1 == some .free
noncomputable def evComp (r : Rec) (sc : Scope) (ρ : Rho) (elt : Expr) (gens : List Comprehension) (csc : Scope) : Option (List D) :=
  if compOk csc sc then match gens with
  | [g] => if g.is_async == 0 && tgtOk g.iter g.target then (items r sc ρ g.iter).bind fun ds =>
      comp1 r (isOwnVar csc) (relab csc sc) (freeOnly csc ρ) g.target g.ifs elt ds
    else none
  | [g, g2] => if g.is_async == 0 && g2.is_async == 0 && g.ifs.isEmpty && tgtOk g.iter g.target && tgtOk g2.iter g2.target then (items r sc ρ g.iter).bind fun ds =>
      (comp2 r (isOwnVar csc) (relab csc sc) (freeOnly csc ρ) g.target g2.target g2.iter g2.ifs elt ds).bind fun ys =>
      if ys.length ≤ 1000 then some ys else none
    else none
  | _ => none
  else none

noncomputable def simpleBase : Expr → Bool
  | .Name .. | .Constant .. => true
  | _ => false
noncomputable abbrev isSliceE : Expr → Bool := isAt 26
noncomputable def cutF (r : Rec) (sc : Scope) (ρ : Rho) (v i : Expr) : Option D := match i with
  | .Slice lo hi st _ => do
    let d ← r.ev sc ρ v
    let lo ← evOpt r sc ρ lo
    let hi ← evOpt r sc ρ hi
    let st ← evOpt r sc ρ st
    pslice d lo hi st
  | _ => none
noncomputable def callF (r : Rec) (sc : Scope) (ρ : Rho) (args : List Expr) (p : Pos) (f : Expr) : Option D := match f with
  | .Attribute o name ap => if simpleBase o && ap.endLine == p.line && decide (args.length < 20) then do pmethod name (← r.ev sc ρ o) (← evs r sc ρ args) else none
  | .Name f _ => if isGlob sc f then do
      let ds ← evs r sc ρ args
      match pbuiltin f ds with
      | some d => some d
      | none => r.cl f ds
    else none
  | _ => none
noncomputable def evF (r : Rec) (sc : Scope) (ρ : Rho) (e : Expr) : Option D := match e with
  | .Constant c _ _ => pconst c
  | .Name x _ => if isVar sc x then ρ.lookup x else if isGlob sc x && x = "ELLIPSIS_MARKER" then some (.str "...") else none
  | .BoolOp op vs _ => evBools r sc ρ op vs
  | .BinOp a op b _ => do pbin op (← r.ev sc ρ a) (← r.ev sc ρ b)
  | .UnaryOp .USub x _ => match r.ev sc ρ x with
    | some (.int i) => some (.int (-i))
    | _ => none
  | .IfExp t a b _ => do if ← r.ts sc ρ t then r.ev sc ρ a else r.ev sc ρ b
  | .List es _ => do
    let ds ← evs r sc ρ es
    if ds.length ≤ 1000 then some (.list ds) else none
  | .Tuple es _ _ => do
    let ds ← evs r sc ρ es
    if ds.length ≤ 1000 then some (.tuple ds) else none
  | .ListComp elt gens csc _ => (evComp r sc ρ elt gens csc).map .list
  | .Compare l [op] [c] _ => if isSetE c then none else do (pcmp op (← r.ev sc ρ l) (← r.ev sc ρ c)).map .bool
  | .Subscript v i _ => if isSliceE i then cutF r sc ρ v i else do pitem (← r.ev sc ρ v) (← r.ev sc ρ i)
  | .Call f args [] p => callF r sc ρ args p f
  | _ => none

noncomputable def tsP : Expr → Bool
  | .BoolOp .. | .Compare .. | .IfExp .. => false
  | .UnaryOp op _ _ => match op with
    | .Not => false
    | _ => true
  | _ => true
noncomputable def tsF (r : Rec) (sc : Scope) (ρ : Rho) (e : Expr) : Option Bool := if tsP e then (r.ev sc ρ e).bind ptruth else match e with
  | .BoolOp op vs _ => tsBools r sc ρ op vs
  | .Compare l [op] [c] _ => if isSetE c then none else do pcmp op (← r.ev sc ρ l) (← r.ev sc ρ c)
  | _ => none

noncomputable abbrev isCompE : Expr → Bool := isAt 8
/-- two stores at once: the order of the stores is told -/
noncomputable def swapOk : Expr → Bool
  | .Tuple vs _ _ => !(vs.all (constantsAlone 8))
  | _ => true
noncomputable def mutNames : List Str := ["ws", "rows", "made", "texts"]
/-- the name may be kept for changes: its value is a list just made -/
noncomputable def attrNm : Expr → Option Str
  | .Attribute _ n _ => some n
  | _ => none
noncomputable def freshForm : Expr → Bool
  | .ListComp .. | .List .. => true
  | .Call f _ kw _ => kw.isEmpty && attrNm f == some ("split" : Str)
  | _ => false
noncomputable def scals : D → Bool
  | .list xs => xs.all scal
  | _ => false
noncomputable def freshScal : Expr → D → Bool
  | _, .none | _, .bool _ | _, .int _ | _, .str _ => true
  | .ListComp .., d => scals d
  | _, _ => false
noncomputable def dropOwn (σ : Stt) : Rho := match σ.own with
  | some x => σ.rho.filter fun p => p.1 != x
  | none => σ.rho
noncomputable def scalT : D → Bool
  | .tuple [a, b] => scal a && scal b
  | d => scal d

noncomputable def notBound (t : Expr) : Option Str → Bool
  | none => true
  | some o => match t with
    | .Name x _ => x != o
    | .Tuple es _ _ => match names2 es with
      | some (a, b) => a != o && b != o
      | none => false
    | _ => false
noncomputable def forF (r : Rec) (sc : Scope) (t : Expr) (body : List Stmt) : List D → Stt → Option (Fl × Stt)
  | [], σ => some (.next, σ)
  | d :: ds, σ => if scalT d && notBound t σ.own then do
      let ρ' ← bindT (isOwnVar sc) σ.rho t d
      let (fl, σ') ← r.ex sc ⟨ρ', σ.own⟩ body
      match fl with
      | .next => forF r sc t body ds σ'
      | .ret d => some (.ret d, σ')
    else none

noncomputable def pairTL : D → Option (D × D)
  | .tuple ds | .list ds => match ds with
    | [d, e] => some (d, e)
    | _ => none
  | _ => none
theorem pairTL_inv {d : D} {q : D × D} (h : pairTL d = some q) : d = .tuple [q.1, q.2] ∨ d = .list [q.1, q.2] := by
  cases d <;> first | exact none_ne h | skip
  all_goals
    rename_i ds
    rcases ds with _ | ⟨a, _ | ⟨b, _ | ⟨c, es⟩⟩⟩ <;> first | exact none_ne h | skip
  · cases h; exact .inr rfl
  · cases h; exact .inl rfl
noncomputable def asgF (r : Rec) (sc : Scope) (σ : Stt) (e : Expr) (t : Expr) : Option (Fl × Stt) := match t with
  | .Name x _ => if isOwnVar sc x then do
      let d ← evF r sc σ.rho e
      if scal d && σ.own != some x then some (.next, ⟨(x, d) :: σ.rho, σ.own⟩)
      else if mutNames.contains x && freshForm e && (!(isCompE e) || kindIn sc x == some .cell) then some (.next, ⟨(x, d) :: σ.rho, some x⟩)
      else some (.next, ⟨(x, d) :: σ.rho, none⟩)
    else none
  | .Tuple es _ _ => (names2 es).bind fun (a, b) => if isOwnVar sc a && isOwnVar sc b && σ.own != some a && σ.own != some b && decide (a ≠ b) && swapOk e && !(isCompE e) then do
      let v ← r.ev sc σ.rho e
      let q ← pairTL v
      if scal q.1 && scal q.2 then some (.next, ⟨(b, q.2) :: (a, q.1) :: σ.rho, σ.own⟩) else none
    else none
  | .Subscript v i _ => (isName v).bind fun x => if σ.own = some x && isVar sc x && !(isSliceE i) then do
      let d ← evF r sc σ.rho e
      if freshScal e d then
        match σ.rho.lookup x, ← r.ev sc σ.rho i with
        | some (.list xs), .int k => if decide (0 ≤ k) && decide (k < xs.length) && decide (xs.length ≤ 1000) then some (.next, ⟨(x, .list (xs.set k.toNat d)) :: σ.rho, some x⟩) else none
        | _, _ => none
      else none
    else none
  | _ => none
noncomputable def delF (r : Rec) (sc : Scope) (σ : Stt) (t : Expr) : Option (Fl × Stt) := match t with
  | .Subscript v i _ => (isName v).bind fun x => if σ.own = some x && isVar sc x && !(isSliceE i) then do
      match σ.rho.lookup x, ← r.ev sc σ.rho i with
      | some (.list xs), .int k => if xs.length ≤ 1000 then (seqIndex? k xs.length).map fun j => (.next, ⟨(x, .list (xs.eraseIdx j)) :: σ.rho, some x⟩) else none
      | _, _ => none
    else none
  | _ => none
noncomputable def appF (r : Rec) (sc : Scope) (σ : Stt) (e : Expr) (p : Pos) (f : Expr) : Option (Fl × Stt) := match f with
  | .Attribute v name ap => (isName v).bind fun x => if σ.own = some x && isVar sc x && name = "append" && ap.endLine == p.line && !(isStar e) then do
      let d ← evF r sc σ.rho e
      if freshScal e d then
        match σ.rho.lookup x with
        | some (.list xs) => if xs.length ≤ 1000 then some (.next, ⟨(x, .list (xs ++ [d])) :: σ.rho, some x⟩) else none
        | _ => none
      else none
    else none
  | _ => none

noncomputable def headS (σ : Stt) (i : Expr) : Stt := match isName i with
  | some x => if σ.own = some x then ⟨σ.rho, none⟩ else σ
  | none => σ
theorem headS_or (σ : Stt) (i : Expr) : headS σ i = σ ∨ headS σ i = ⟨σ.rho, none⟩ := by
  unfold headS
  cases isName i with
  | none => exact .inl rfl
  | some x =>
    dsimp only
    by_cases h : σ.own = some x
    · exact .inr (if_pos h)
    · exact .inl (if_neg h)
noncomputable def ex1 (r : Rec) (sc : Scope) (σ : Stt) : Stmt → Option (Fl × Stt)
  | .Assign [t] e _ => asgF r sc σ e t
  | .AugAssign (.Name x _) op e _ => if isOwnVar sc x && σ.own != some x then
      match op, σ.rho.lookup x with
      | .Add, some (.int a) => match r.ev sc σ.rho e with
        | some (.int b) => some (.next, ⟨(x, .int (a + b)) :: σ.rho, σ.own⟩)
        | _ => none
      | .Sub, some (.int a) => match r.ev sc σ.rho e with
        | some (.int b) => some (.next, ⟨(x, .int (a - b)) :: σ.rho, σ.own⟩)
        | _ => none
      | _, _ => none
    else none
  | .If t a b _ => do if ← r.ts sc σ.rho t then r.ex sc σ a else r.ex sc σ b
  | .For t i body [] _ => do
      let ds ← items r sc (dropOwn (headS σ i)) i
      if tgtOk i t then forF r sc t body ds (headS σ i) else none
  | .Return (some e) _ => do some (.ret (← r.ev sc σ.rho e), ⟨σ.rho, none⟩)
  | .Assert t none _ => do if ← r.ts sc σ.rho t then some (.next, σ) else none
  | .Expr (.Call f [e] [] p) _ => appF r sc σ e p f
  | .Delete [t] _ => delF r sc σ t
  | .Try body _ [] [] _ => r.ex sc σ body
  | _ => none

noncomputable def exF (r : Rec) (sc : Scope) (σ : Stt) : List Stmt → Option (Fl × Stt)
  | [] => some (.next, σ)
  | st :: rest => do
    let (fl, σ') ← ex1 r sc σ st
    match fl with
    | .next => r.ex sc σ' rest
    | .ret d => some (.ret d, σ')

noncomputable def defIn (f : Str) : List Stmt → Option (List Str × Scope × List Stmt)
  | [] => none
  | .FunctionDef n args body _ _ _ sc _ _ _ :: rest => if n = f then some (args.args.map (·.arg), sc, body) else defIn f rest
  | _ :: rest => defIn f rest
noncomputable def defOf (f : Str) : Option (List Str × Scope × List Stmt) := defIn f PySem.Challenge.pw_pk0047_01.main.body

noncomputable def clF (r : Rec) (f : Str) (as : List D) : Option D :=
  if isPrim f then pprim f as else if f = "_grouping_intervals" then none else do
    let (ps, sc, body) ← defOf f
    if ps.length = as.length then do
      let (fl, _) ← r.ex sc ⟨(ps.zip as).reverse, none⟩ body
      match fl with
      | .ret d => some d
      | .next => none
    else none

noncomputable def stepR (r : Rec) : Rec := ⟨evF r, tsF r, exF r, clF r⟩
noncomputable def noR : Rec := ⟨fun _ _ _ => none, fun _ _ _ => none, fun _ _ _ => none, fun _ _ => none⟩
noncomputable def R : Nat → Rec
  | 0 => noR
  | n + 1 => stepR (R n)

theorem names2_two {a b : Str} {p q : Pos} : names2 [.Name a p, .Name b q] = some (a, b) := rfl
theorem isName_name {x : Str} {p : Pos} : isName (.Name x p) = some x := rfl
theorem isName_inv {e : Expr} {x : Str} (h : isName e = some x) : ∃ p, e = .Name x p := by
  cases e <;> first | exact none_ne h | exact ⟨_, by cases h; rfl⟩
theorem names2_inv {es : List Expr} {q : Str × Str} (h : names2 es = some q) : ∃ p p', es = [.Name q.1 p, .Name q.2 p'] := by
  rcases es with _ | ⟨a, _ | ⟨b, _ | ⟨c, es⟩⟩⟩ <;> first | exact none_ne h | skip
  obtain ⟨x, hx, h⟩ := Option.bind_eq_some_iff.mp h
  obtain ⟨y, hy, rfl⟩ := Option.map_eq_some_iff.mp h
  obtain ⟨p, rfl⟩ := isName_inv hx
  obtain ⟨p', rfl⟩ := isName_inv hy
  exact ⟨p, p', rfl⟩
theorem pairD_inv {d : D} {q : D × D} (h : pairD d = some q) : d = .tuple [q.1, q.2] := by
  cases d <;> first | exact none_ne h | skip
  rename_i ds
  rcases ds with _ | ⟨a, _ | ⟨b, _ | ⟨c, es⟩⟩⟩ <;> first | exact none_ne h | skip
  cases h; rfl
theorem call_form {e : Expr} {q : Str × List Expr} (h : callN e = some q) : ∃ f as kw p, e = .Call f as kw p := by
  cases e <;> first | exact none_ne h | exact ⟨_, _, _, _, rfl⟩
theorem callN_inv {e : Expr} {f : Str} {args : List Expr} (h : callN e = some (f, args)) : ∃ p p', e = .Call (.Name f p) args [] p' := by
  obtain ⟨g, as, kw, p', rfl⟩ := call_form h
  cases kw <;> first | exact none_ne h | skip
  obtain ⟨x, hx, h⟩ := Option.map_eq_some_iff.mp h
  obtain ⟨p, rfl⟩ := isName_inv hx
  cases h; exact ⟨_, _, rfl⟩
theorem slice_inv {e : Expr} (h : isSliceE e = true) : ∃ lo hi st p, e = .Slice lo hi st p := by
  cases e <;> first | exact false_ne h | exact ⟨_, _, _, _, rfl⟩
theorem bindT_form {own : Str → Bool} {ρ ρ' : Rho} {t : Expr} {v : D} (h : bindT own ρ t v = some ρ') : (∃ x p, t = .Name x p) ∨ ∃ es k p, t = .Tuple es k p := by
  cases t <;> first | exact none_ne h | exact .inl ⟨_, _, rfl⟩ | exact .inr ⟨_, _, _, rfl⟩
noncomputable abbrev BindP (own : Str → Bool) (ρ : Rho) (t : Expr) (v : D) (ρ' : Rho) : Prop := (∃ x p, t = .Name x p ∧ own x = true ∧ ρ' = (x, v) :: ρ) ∨
    ∃ a p b p' k q d e, t = .Tuple [.Name a p, .Name b p'] k q ∧ v = .tuple [d, e] ∧ own a = true ∧ own b = true ∧ ρ' = (b, e) :: (a, d) :: ρ
theorem ite_some {c : Bool} {α : Type} {a d : α} (h : (if c = true then some a else none) = some d) : c = true ∧ a = d := by
  cases c
  · cases h
  · cases h; exact ⟨rfl, rfl⟩
theorem ite_some' {c : Prop} [Decidable c] {α : Type} {a d : α} (h : (if c then some a else none) = some d) : c ∧ a = d := by
  by_cases hc : c
  · rw [if_pos hc] at h; cases h; exact ⟨hc, rfl⟩
  · rw [if_neg hc] at h; cases h
theorem bindT_inv {own : Str → Bool} {ρ ρ' : Rho} {t : Expr} {v : D} (h : bindT own ρ t v = some ρ') : BindP own ρ t v ρ' := by
  rcases bindT_form h with ⟨x, p, rfl⟩ | ⟨es, k, q, rfl⟩
  · obtain ⟨ho, rfl⟩ := ite_some h
    exact .inl ⟨x, p, rfl, ho, rfl⟩
  · obtain ⟨ab, h1, h2⟩ := Option.bind_eq_some_iff.mp h
    obtain ⟨de, h3, h4⟩ := Option.bind_eq_some_iff.mp h2
    clear h h2
    obtain ⟨p, p', rfl⟩ := names2_inv h1
    obtain ⟨ho, rfl⟩ := ite_some h4
    rw [Bool.and_eq_true] at ho
    exact .inr ⟨ab.1, p, ab.2, p', k, q, de.1, de.2, rfl, pairD_inv h3, ho.1, ho.2, rfl⟩

/-- the law itself: one of its tests is walked by hand -/
noncomputable def orTwo : Expr → Option (Expr × Expr)
  | .BoolOp op vs _ => match op with
    | .Or => match vs with
      | [a, b] => some (a, b)
      | _ => none
    | _ => none
  | _ => none
noncomputable def neTwo : Expr → Option (Expr × Expr)
  | .Compare l ops cs _ => match ops with
    | [op] => match op with
      | .NotEq => match cs with
        | [c] => some (l, c)
        | _ => none
      | _ => none
    | _ => none
  | _ => none
noncomputable def lawIf : Stmt → Option (Str × Str × Expr × Expr)
  | .If t _ els _ => match els with
    | [] => (orTwo t).bind fun (a, e2) => (neTwo a).bind fun (l, c) => (callN l).bind fun (f, as) => match as with
      | [x] => (isName x).map fun x => (f, x, c, e2)
      | _ => none
    | _ => none
  | _ => none
theorem bop_form {e : Expr} {q : Expr × Expr} (h : orTwo e = some q) : ∃ op vs p, e = .BoolOp op vs p := by
  cases e <;> first | exact none_ne h | exact ⟨_, _, _, rfl⟩
theorem orTwo_inv {e a b : Expr} (h : orTwo e = some (a, b)) : ∃ p, e = .BoolOp .Or [a, b] p := by
  obtain ⟨op, vs, p, rfl⟩ := bop_form h
  cases op <;> first | exact none_ne h | skip
  rcases vs with _ | ⟨x, _ | ⟨y, _ | ⟨z, vs⟩⟩⟩ <;> first | exact none_ne h | skip
  cases h; exact ⟨p, rfl⟩
theorem cmp_form {e : Expr} {q : Expr × Expr} (h : neTwo e = some q) : ∃ l ops cs p, e = .Compare l ops cs p := by
  cases e <;> first | exact none_ne h | exact ⟨_, _, _, _, rfl⟩
theorem neTwo_inv {e l c : Expr} (h : neTwo e = some (l, c)) : ∃ p, e = .Compare l [.NotEq] [c] p := by
  obtain ⟨l, ops, cs, p, rfl⟩ := cmp_form h
  rcases ops with _ | ⟨op, _ | ⟨op2, ops⟩⟩ <;> first | exact none_ne h | skip
  cases op <;> first | exact none_ne h | skip
  rcases cs with _ | ⟨c, _ | ⟨c2, cs⟩⟩ <;> first | exact none_ne h | skip
  cases h; exact ⟨p, rfl⟩
theorem if_form {st : Stmt} {q : Str × Str × Expr × Expr} (h : lawIf st = some q) : ∃ t a b p, st = .If t a b p := by
  cases st <;> first | exact none_ne h | exact ⟨_, _, _, _, rfl⟩
noncomputable abbrev LawIfP (st : Stmt) (f x : Str) (c e2 : Expr) : Prop := ∃ p1 p2 p3 p4 p5 p6 ret, st = .If (.BoolOp .Or [.Compare (.Call (.Name f p1) [.Name x p2] [] p3) [.NotEq] [c] p4, e2] p5) ret [] p6
noncomputable def lawIf3 (c e2 : Expr) (q : Str × List Expr) : Option (Str × Str × Expr × Expr) := match q.2 with
  | [x] => (isName x).map fun x => (q.1, x, c, e2)
  | _ => none
theorem lawIf3_inv {c e2 c' e2' : Expr} {q : Str × List Expr} {f x : Str} (h : lawIf3 c e2 q = some (f, x, c', e2')) : ∃ p, q = (f, [.Name x p]) ∧ c = c' ∧ e2 = e2' := by
  obtain ⟨f', as⟩ := q
  rcases as with _ | ⟨y, _ | ⟨z, as⟩⟩ <;> first | exact none_ne h | skip
  obtain ⟨x', h4, h5⟩ := Option.map_eq_some_iff.mp h
  clear h
  cases h5
  obtain ⟨p2, rfl⟩ := isName_inv h4
  exact ⟨p2, rfl, rfl, rfl⟩
theorem lawIf_inv {st : Stmt} {f x : Str} {c e2 : Expr} (h : lawIf st = some (f, x, c, e2)) : LawIfP st f x c e2 := by
  obtain ⟨t, ret, els, p6, rfl⟩ := if_form h
  cases els <;> first | exact none_ne h | skip
  have h' : ((orTwo t).bind fun q => (neTwo q.1).bind fun q2 => (callN q2.1).bind fun q3 => lawIf3 q2.2 q.2 q3) = some (f, x, c, e2) := h
  clear h
  obtain ⟨q1, h1, g1⟩ := Option.bind_eq_some_iff.mp h'
  clear h'
  obtain ⟨q2, h2, g2⟩ := Option.bind_eq_some_iff.mp g1
  clear g1
  obtain ⟨q3, h3, g3⟩ := Option.bind_eq_some_iff.mp g2
  clear g2
  obtain ⟨p2, hq, hc, he⟩ := lawIf3_inv g3
  clear g3
  obtain ⟨p5, e5⟩ := orTwo_inv (a := q1.1) (b := q1.2) h1
  obtain ⟨p4, e4⟩ := neTwo_inv (l := q2.1) (c := q2.2) h2
  rw [hq] at h3
  obtain ⟨p1, p3, e3⟩ := callN_inv h3
  exact ⟨p1, p2, p3, p4, p5, p6, ret, by rw [e5, e4, e3, hc, he]⟩
theorem lawIf_mk {f x : Str} {c e2 : Expr} {p1 p2 p3 p4 p5 p6 : Pos} {ret : List Stmt} : lawIf (.If (.BoolOp .Or [.Compare (.Call (.Name f p1) [.Name x p2] [] p3) [.NotEq] [c] p4, e2] p5) ret [] p6) = some (f, x, c, e2) := rfl
theorem bindT_pair {own : Str → Bool} {ρ : Rho} {a b : Str} {p1 p2 p3 : Pos} {k : Nat} {d e : D} : bindT own ρ (.Tuple [.Name a p1, .Name b p2] k p3) (.tuple [d, e]) = if own a && own b then some ((b, e) :: (a, d) :: ρ) else none := rfl
noncomputable def lawMid (r : Rec) (sc : Scope) (σ : Stt) (f x : Str) (c e2 : Expr) : Bool :=
  f = "_law_refusal" && isGlob sc f && isVar sc x && !(isSetE c) && (match σ.rho.lookup x with
    | some (.list xs) => match asInts xs with
      | some is => is.length ≤ 10 && is.all small && (match r.ev sc σ.rho c with
        | some (.str u) => refusal is == u
        | _ => false)
      | none => false
    | _ => false) && r.ts sc σ.rho e2 == some false
noncomputable def lawRest (r : Rec) (sc : Scope) (σ : Stt) : List Stmt → Option D
  | st :: rest => (lawIf st).bind fun (f, x, c, e2) => if lawMid r sc σ f x c e2 then match r.ex sc σ rest with
      | some (.ret d, _) => some d
      | _ => none
    else none
  | _ => none
theorem retOf_inv {o : Option (Fl × Stt)} {d : D} (h : (match o with | some (.ret d, _) => some d | _ => none) = some d) : ∃ σ, o = some (.ret d, σ) := by
  rcases o with _ | ⟨⟨_ | d'⟩, σ⟩ <;> first | exact none_ne h | (cases h; exact ⟨σ, rfl⟩)
noncomputable abbrev LawMidP (r : Rec) (sc : Scope) (σ : Stt) (x : Str) (c : Expr) : Prop := ∃ xs is u, σ.rho.lookup x = some (.list xs) ∧ asInts xs = some is ∧ is.length ≤ 10 ∧ is.all small = true ∧ r.ev sc σ.rho c = some (.str u) ∧ refusal is = u
noncomputable def lawM1 (r : Rec) (sc : Scope) (σ : Stt) (x : Str) (c : Expr) : Bool := match σ.rho.lookup x with
    | some (.list xs) => match asInts xs with
      | some is => is.length ≤ 10 && is.all small && (match r.ev sc σ.rho c with
        | some (.str u) => refusal is == u
        | _ => false)
      | none => false
    | _ => false
theorem str_ne {o : Option D} {z : Str} (h : (match o with | some (.str u) => z == u | _ => false) = true) : o = some (.str z) := by
  rcases o with _ | d
  · cases h
  cases d <;> first | exact false_ne h | skip
  rw [beq_iff_eq] at h; rw [h]
theorem lst_form {o : Option D} {p : List D → Bool} (h : (match o with | some (.list xs) => p xs | _ => false) = true) : ∃ xs, o = some (.list xs) ∧ p xs = true := by
  rcases o with _ | d
  · cases h
  cases d <;> first | exact false_ne h | exact ⟨_, rfl, h⟩
theorem lawM1_inv {r : Rec} {sc : Scope} {σ : Stt} {x : Str} {c : Expr} (h : lawM1 r sc σ x c = true) : LawMidP r sc σ x c := by
  obtain ⟨xs, hx, h⟩ := lst_form h
  rcases hi : asInts xs with _ | is
  · rw [hi] at h; cases h
  rw [hi] at h
  simp only [Bool.and_eq_true, decide_eq_true_eq] at h
  exact ⟨xs, is, _, hx, hi, h.1.1, h.1.2, str_ne h.2, rfl⟩
theorem lawMid_inv {r : Rec} {sc : Scope} {σ : Stt} {f x : Str} {c e2 : Expr} (h : lawMid r sc σ f x c e2 = true) : f = "_law_refusal" ∧ isGlob sc f = true ∧ isVar sc x = true ∧ isSetE c = false ∧
    LawMidP r sc σ x c ∧ r.ts sc σ.rho e2 = some false := by
  have h' : (decide (f = "_law_refusal") && isGlob sc f && isVar sc x && !(isSetE c) && lawM1 r sc σ x c && r.ts sc σ.rho e2 == some false) = true := h
  simp only [Bool.and_eq_true, decide_eq_true_eq, Bool.not_eq_true', beq_iff_eq] at h'
  obtain ⟨⟨⟨⟨⟨h1, h2⟩, h3⟩, h4⟩, h5⟩, h6⟩ := h'
  exact ⟨h1, h2, h3, h4, lawM1_inv h5, h6⟩
noncomputable abbrev LawRestP (r : Rec) (sc : Scope) (σ : Stt) (l : List Stmt) (d : D) : Prop := ∃ st f x c e2 rest, l = st :: rest ∧ LawIfP st f x c e2 ∧ lawMid r sc σ f x c e2 = true ∧ ∃ σ', r.ex sc σ rest = some (.ret d, σ')
theorem lawRest_inv {r : Rec} {sc : Scope} {σ : Stt} {l : List Stmt} {d : D} (h : lawRest r sc σ l = some d) : LawRestP r sc σ l d := by
  cases l with
  | nil => exact none_ne h
  | cons st rest =>
    obtain ⟨⟨f, x, c, e2⟩, h1, h⟩ := Option.bind_eq_some_iff.mp h
    refine ⟨st, f, x, c, e2, rest, rfl, lawIf_inv h1, ?_⟩
    cases hm : lawMid r sc σ f x c e2 with
    | false => exact none_ne ((if_neg (by rw [hm]; decide)).symm.trans h)
    | true => exact ⟨rfl, retOf_inv ((if_pos hm).symm.trans h)⟩
noncomputable def lawAt : Nat := 7
noncomputable def lawF (r : Rec) (script : D) : Option D := do
  let (ps, sc, body) ← defOf "law"
  match r.ex sc ⟨(ps.zip [script]).reverse, none⟩ (body.take lawAt) with
  | some (.next, σ) => lawRest r sc σ (body.drop lawAt)
  | _ => none

end Mine
end

section
set_option maxRecDepth 100000
namespace Mine
open PySem PySem.W PyProof.Rows PySem.Calls

mutual
/-- the value v reads as the datum d in the heap h, through no object of W -/
inductive Is (W : List Addr) (h : Heap) : Value → D → Prop
  | none : Is W h .none .none
  | bool (b) : Is W h (.bool b) (.bool b)
  | int (i t) : Is W h (.int i t) (.int i)
  | str (x t) : Is W h (.str x t) (.str x)
  | list {l : Addr} {vs : List Value} {ds : List D} : l ∉ W → h.PlainList l vs.toArray → IsAll W h vs ds → Is W h (.ref l) (.list ds)
  | tuple {l : Addr} {vs : List Value} {ds : List D} : l ∉ W → h.IsTuple l vs.toArray → IsAll W h vs ds → Is W h (.ref l) (.tuple ds)
inductive IsAll (W : List Addr) (h : Heap) : List Value → List D → Prop
  | nil : IsAll W h [] []
  | cons {v vs d ds} : Is W h v d → IsAll W h vs ds → IsAll W h (v :: vs) (d :: ds)
end

section
variable {W : List Addr} {h : Heap}
theorem IsAll.cons' {vs : List Value} {d : D} {ds : List D} (x : IsAll W h vs (d :: ds)) : ∃ v vs', vs = v :: vs' ∧ Is W h v d ∧ IsAll W h vs' ds := by
  cases x with | cons a b => exact ⟨_, _, rfl, a, b⟩
theorem IsAll.nil' {vs : List Value} (x : IsAll W h vs []) : vs = [] := by cases x; rfl
theorem IsAll.one {vs : List Value} {d : D} (x : IsAll W h vs [d]) : ∃ v, vs = [v] ∧ Is W h v d :=
  let ⟨v, _, e, i, y⟩ := x.cons'; ⟨v, by rw [e, y.nil'], i⟩
theorem IsAll.two {vs : List Value} {d e : D} (x : IsAll W h vs [d, e]) : ∃ u v, vs = [u, v] ∧ Is W h u d ∧ Is W h v e :=
  let ⟨v, _, e, i, y⟩ := x.cons'; let ⟨u, e2, j⟩ := y.one; ⟨v, u, by rw [e, e2], i, j⟩
theorem IsAll.three {vs : List Value} {d e f : D} (x : IsAll W h vs [d, e, f]) : ∃ u v w, vs = [u, v, w] ∧ Is W h u d ∧ Is W h v e ∧ Is W h w f :=
  let ⟨v, _, e, i, y⟩ := x.cons'; let ⟨u, u2, e2, j, k⟩ := y.two; ⟨v, u, u2, by rw [e, e2], i, j, k⟩
theorem Is.list' {v : Value} {ds : List D} (x : Is W h v (.list ds)) : ∃ l vs, v = .ref l ∧ l ∉ W ∧ h.PlainList l vs.toArray ∧ IsAll W h vs ds := by
  cases x with | list a b c => exact ⟨_, _, rfl, a, b, c⟩
theorem Is.tup' {v : Value} {ds : List D} (x : Is W h v (.tuple ds)) : ∃ l vs, v = .ref l ∧ l ∉ W ∧ h.IsTuple l vs.toArray ∧ IsAll W h vs ds := by
  cases x with | tuple a b c => exact ⟨_, _, rfl, a, b, c⟩
theorem Is.str' {v : Value} {x : Str} (i : Is W h v (.str x)) : ∃ t, v = .str x t := by cases i; exact ⟨_, rfl⟩
theorem Is.int' {v : Value} {x : Int} (i : Is W h v (.int x)) : ∃ t, v = .int x t := by cases i; exact ⟨_, rfl⟩
theorem Is.bool' {v : Value} {x : Bool} (i : Is W h v (.bool x)) : v = .bool x := by cases i; rfl
theorem Is.none' {v : Value} (i : Is W h v .none) : v = .none := by cases i; rfl
end

noncomputable def OffW (W : List Addr) (h h' : Heap) : Prop := ∀ b o, b ∉ W → h.get? b = some o → h'.get? b = some o

mutual
theorem Is.mono {W W' : List Addr} {h h' : Heap} (hw : ∀ a, a ∉ W → (∃ o, h.get? a = some o) → a ∉ W') (k : OffW W h h') : ∀ {v : Value} {d : D}, Is W h v d → Is W' h' v d
  | _, _, .none => .none
  | _, _, .bool b => .bool b
  | _, _, .int i t => .int i t
  | _, _, .str x t => .str x t
  | _, _, .list hl hs ha => .list (hw _ hl (let ⟨_, ho⟩ := hs; ⟨_, ho⟩)) (let ⟨n, ho⟩ := hs; ⟨n, k _ _ hl ho⟩) (IsAll.mono hw k ha)
  | _, _, .tuple hl hs ha => .tuple (hw _ hl (let ⟨o, ho, _⟩ := hs; ⟨o, ho⟩)) (let ⟨o, ho, r⟩ := hs; ⟨o, k _ o hl ho, r⟩) (IsAll.mono hw k ha)
theorem IsAll.mono {W W' : List Addr} {h h' : Heap} (hw : ∀ a, a ∉ W → (∃ o, h.get? a = some o) → a ∉ W') (k : OffW W h h') : ∀ {vs : List Value} {ds : List D}, IsAll W h vs ds → IsAll W' h' vs ds
  | _, _, .nil => .nil
  | _, _, .cons x r => .cons (Is.mono hw k x) (IsAll.mono hw k r)
end
theorem Is.off {W : List Addr} {h h' : Heap} (k : OffW W h h') {v : Value} {d : D} (x : Is W h v d) : Is W h' v d := x.mono (fun _ e _ => e) k
theorem IsAll.off {W : List Addr} {h h' : Heap} (k : OffW W h h') {v : List Value} {d : List D} (x : IsAll W h v d) : IsAll W h' v d := x.mono (fun _ e _ => e) k

noncomputable abbrev Kp (h h' : Heap) : Prop := ∀ b o, h.get? b = some o → h'.get? b = some o
theorem Kp.off {W : List Addr} {h h' : Heap} (k : Kp h h') : OffW W h h' := fun b o _ e => k b o e
theorem Is.keep {W : List Addr} {h h' : Heap} (k : Kp h h') {v : Value} {d : D} (x : Is W h v d) : Is W h' v d := x.off (Kp.off k)
theorem IsAll.keep {W : List Addr} {h h' : Heap} (k : Kp h h') {v : List Value} {d : List D} (x : IsAll W h v d) : IsAll W h' v d := x.off (Kp.off k)
/-- fewer objects barred -/
theorem Is.sub {W W' : List Addr} {h : Heap} (hw : ∀ a, a ∈ W' → a ∈ W) {v : Value} {d : D} (x : Is W h v d) : Is W' h v d :=
  x.mono (fun a ha _ hb => ha (hw a hb)) fun _ _ _ e => e
theorem IsAll.sub {W W' : List Addr} {h : Heap} (hw : ∀ a, a ∈ W' → a ∈ W) {v : List Value} {d : List D} (x : IsAll W h v d) : IsAll W' h v d :=
  x.mono (fun a ha _ hb => ha (hw a hb)) fun _ _ _ e => e
/-- more barred, but none that stands yet -/
theorem Is.more {W N : List Addr} {h : Heap} (hn : ∀ a ∈ N, h.get? a = Option.none) {v : Value} {d : D} (x : Is W h v d) : Is (N ++ W) h v d :=
  x.mono (fun a ha ⟨o, ho⟩ hb => by
    rcases List.mem_append.mp hb with q | q
    · rw [hn a q] at ho; cases ho
    · exact ha q) fun _ _ _ e => e
theorem IsAll.more {W N : List Addr} {h : Heap} (hn : ∀ a ∈ N, h.get? a = Option.none) {v : List Value} {d : List D} (x : IsAll W h v d) : IsAll (N ++ W) h v d :=
  x.mono (fun a ha ⟨o, ho⟩ hb => by
    rcases List.mem_append.mp hb with q | q
    · rw [hn a q] at ho; cases ho
    · exact ha q) fun _ _ _ e => e
theorem Is.scal {W W' : List Addr} {h h' : Heap} {v : Value} {d : D} (x : Is W h v d) (hd : Mine.scal d = true) : Is W' h' v d := by
  cases x <;> first | (cases hd; done) | constructor
theorem IsAll.ind {W : List Addr} {h : Heap} {vs : List Value} {ds : List D} (x : IsAll W h vs ds) (P : List Value → List D → Prop) (n : P [] []) (c : ∀ v vs d ds, Is W h v d → IsAll W h vs ds → P vs ds → P (v :: vs) (d :: ds)) : P vs ds :=
  IsAll.rec (motive_1 := fun _ _ _ => True) (motive_2 := fun vs ds _ => P vs ds) trivial (fun _ => trivial) (fun _ _ => trivial) (fun _ _ => trivial) (fun _ _ _ _ => trivial) (fun _ _ _ _ => trivial) n (fun a b _ ih => c _ _ _ _ a b ih) x
section
variable {W W' : List Addr} {h h' : Heap} {vs : List Value} {ds : List D}
theorem IsAll.scals (x : IsAll W h vs ds) (hd : ∀ d ∈ ds, Mine.scal d = true) : IsAll W' h' vs ds :=
  x.ind (fun vs ds => (∀ d ∈ ds, Mine.scal d = true) → IsAll W' h' vs ds) (fun _ => .nil) (fun _ _ _ _ i _ ih hd => .cons (i.scal (hd _ List.mem_cons_self)) (ih fun d h => hd d (List.mem_cons_of_mem _ h))) hd
theorem IsAll.length (x : IsAll W h vs ds) : vs.length = ds.length :=
  x.ind (fun vs ds => vs.length = ds.length) rfl fun _ _ _ _ _ _ ih => congrArg (· + 1) ih
theorem IsAll.get (x : IsAll W h vs ds) {i : Nat} {d : D} (e : ds[i]? = some d) : ∃ v, vs[i]? = some v ∧ Is W h v d :=
  x.ind (fun vs ds => ∀ (i : Nat) (d : D), ds[i]? = some d → ∃ v, vs[i]? = some v ∧ Is W h v d) (fun i d e => none_ne e) (fun v _ _ _ y _ ih i d e => by
    cases i with
    | zero => exact ⟨v, rfl, Option.some.inj e ▸ y⟩
    | succ i => exact ih i d e) i d e
theorem IsAll.get' (x : IsAll W h vs ds) {i : Nat} {v : Value} (e : vs[i]? = some v) : ∃ d, ds[i]? = some d ∧ Is W h v d :=
  x.ind (fun vs ds => ∀ (i : Nat) (v : Value), vs[i]? = some v → ∃ d, ds[i]? = some d ∧ Is W h v d) (fun i d e => none_ne e) (fun _ _ d _ y _ ih i v e => by
    cases i with
    | zero => exact ⟨d, rfl, Option.some.inj e ▸ y⟩
    | succ i => exact ih i v e) i v e
theorem IsAll.append {ws : List Value} {es : List D} (x : IsAll W h vs ds) (y : IsAll W h ws es) : IsAll W h (vs ++ ws) (ds ++ es) :=
  x.ind (fun vs ds => IsAll W h (vs ++ ws) (ds ++ es)) y fun _ _ _ _ i _ ih => .cons i ih
theorem IsAll.set {v : Value} {d : D} (y : Is W h v d) (x : IsAll W h vs ds) (k : Nat) : IsAll W h (vs.set k v) (ds.set k d) :=
  x.ind (fun vs ds => ∀ k : Nat, IsAll W h (vs.set k v) (ds.set k d)) (fun _ => .nil) (fun _ _ _ _ i r ih k => by
    cases k with
    | zero => exact .cons y r
    | succ k => exact .cons i (ih k)) k
theorem IsAll.eraseIdx (x : IsAll W h vs ds) (k : Nat) : IsAll W h (vs.eraseIdx k) (ds.eraseIdx k) :=
  x.ind (fun vs ds => ∀ k : Nat, IsAll W h (vs.eraseIdx k) (ds.eraseIdx k)) (fun _ => .nil) (fun _ _ _ _ i r ih k => by
    cases k with
    | zero => exact r
    | succ k => exact .cons i (ih k)) k
end
theorem IsAll.filterMap {W : List Addr} {h : Heap} {vs : List Value} {ds : List D} (x : IsAll W h vs ds) : ∀ l : List Nat, IsAll W h (l.filterMap (vs[·]?)) (l.filterMap (ds[·]?))
  | [] => .nil
  | i :: l => by
    have ih := x.filterMap l
    cases hv : vs[i]? with
    | none =>
      have : ds[i]? = none := by
        rw [List.getElem?_eq_none_iff] at hv ⊢
        rw [← x.length]; exact hv
      simp only [List.filterMap_cons, hv, this]; exact ih
    | some v =>
      obtain ⟨d, hd, y⟩ := x.get' hv
      simp only [List.filterMap_cons, hv, hd]; exact .cons y ih
theorem IsAll.flatten {W : List Addr} {h : Heap} {vs : List Value} {ds : List D} (x : IsAll W h vs ds) : ∀ n : Nat, IsAll W h (List.replicate n vs).flatten (List.replicate n ds).flatten
  | 0 => .nil
  | n + 1 => by rw [List.replicate_succ, List.replicate_succ, List.flatten_cons, List.flatten_cons]; exact x.append (x.flatten n)
mutual
theorem Is.reads {W : List Addr} {h : Heap} : ∀ {v : Value} {d : D}, Is W h v d → ∃ as, Reads h v d as
  | _, _, .none => ⟨_, .none⟩
  | _, _, .bool b => ⟨_, .bool b⟩
  | _, _, .int i t => ⟨_, .int i t⟩
  | _, _, .str x t => ⟨_, .str x t⟩
  | _, _, .list _ hs ha => by
    obtain ⟨as, r⟩ := IsAll.reads ha
    obtain ⟨n, ho⟩ := hs
    exact ⟨_, .list ho rfl rfl (by simpa using r)⟩
  | _, _, .tuple _ hs ha => by
    obtain ⟨as, r⟩ := IsAll.reads ha
    obtain ⟨o, ho, hc, n, hd⟩ := hs
    exact ⟨_, .tuple ho hc hd (by simpa using r)⟩
theorem IsAll.reads {W : List Addr} {h : Heap} : ∀ {vs : List Value} {ds : List D}, IsAll W h vs ds → ∃ as, ReadsAll h vs ds as
  | _, _, .nil => ⟨_, .nil⟩
  | _, _, .cons x r => by
    obtain ⟨as, a⟩ := Is.reads x
    obtain ⟨bs, b⟩ := IsAll.reads r
    exact ⟨_, .cons a b⟩
end

/-- the generators are bare (where q.1 asks it), and those of q.2 stand -/
noncomputable def GOk (q : Prop × (Nat → GenState → Prop)) (a : Array GenState) : Prop := (q.1 → AllBare a) ∧ ∀ i x, q.2 i x → a[i]? = some x
/-- what every step leaves: all that stood stands; only bare generators; the outside as it was -/
structure Grow (s s' : Shared) : Prop where
  keep : Kp s.heap s'.heap
  gens : ∀ {q}, GOk q s.gens → GOk q s'.gens
  os : s'.os = s.os
theorem Grow.refl (s : Shared) : Grow s s := ⟨fun _ _ e => e, id, rfl⟩
theorem Grow.trans {a b c : Shared} (x : Grow a b) (y : Grow b c) : Grow a c := ⟨fun p o e => y.keep p o (x.keep p o e), fun h => y.gens (x.gens h), y.os.trans x.os⟩
theorem Grow.toks (s : Shared) (t : Nat) : Grow s { s with toks := t } := ⟨fun _ _ e => e, id, rfl⟩
theorem Grow.of {s : Shared} {h : Heap} {t : Nat} (k : Kp s.heap h) : Grow s { s with heap := h, toks := t } := ⟨k, id, rfl⟩
theorem Grow.push (s : Shared) (o : Obj) (t : Nat) : Grow s { s with heap := s.heap.push o, toks := t } := .of fun _ _ e => Heap.get?_push_of_some o e

/-! names -/
noncomputable def Vis (env : Env) (x : Str) : Prop := env.kindOf x = some .local ∨ env.kindOf x = some .cell ∨ env.kindOf x = some .free
noncomputable def Slot (env : Env) (h : Heap) (x : Str) (v : Value) : Prop :=
  (env.kindOf x = some .local ∧ ∃ m, h.Ns env.locals m ∧ m x = some v) ∨
  ((env.kindOf x = some .cell ∨ env.kindOf x = some .free) ∧ ∃ c, env.cells.lookup x = some c ∧ h.IsCell c (some v))
/-- the block's own things stand -/
structure EnvS (h : Heap) (env : Env) : Prop where
  kind : env.scope.kind = .function
  glob : env.globals = mainGlobals
  bltn : env.builtins = builtinsNs
  ns : ∃ m, h.Ns env.locals m
  cell : ∀ x, env.kindOf x = some .cell ∨ env.kindOf x = some .free → ∃ c v, env.cells.lookup x = some c ∧ h.IsCell c v
  inj : ∀ x y c, env.cells.lookup x = some c → env.cells.lookup y = some c → x = y
theorem Slot.keep {env : Env} {h h' : Heap} (k : Kp h h') {x : Str} {v : Value} (a : Slot env h x v) : Slot env h' x v := by
  rcases a with ⟨e, m, hn, hm⟩ | ⟨e, c, hc, hi⟩
  · exact .inl ⟨e, m, hn.keeps k, hm⟩
  · exact .inr ⟨e, c, hc, hi.keeps k⟩
theorem EnvS.keep {h h' : Heap} {env : Env} (a : EnvS h env) (k : Kp h h') : EnvS h' env :=
  ⟨a.kind, a.glob, a.bltn, let ⟨m, hm⟩ := a.ns; ⟨m, hm.keeps k⟩, fun x hx => let ⟨c, v, h1, h2⟩ := a.cell x hx; ⟨c, v, h1, h2.keeps k⟩, a.inj⟩
/-- the names' data -/
noncomputable def EnvD (W : List Addr) (h : Heap) (env : Env) (ρ : Rho) : Prop := ∀ x d, ρ.lookup x = some d → Vis env x → ∃ v, Slot env h x v ∧ Is W h v d
theorem EnvD.keep {W : List Addr} {h h' : Heap} {env : Env} {ρ : Rho} (a : EnvD W h env ρ) (k : Kp h h') : EnvD W h' env ρ :=
  fun x d e hv => let ⟨v, h1, h2⟩ := a x d e hv; ⟨v, h1.keep k, h2.keep k⟩
/-- the block's own objects are all in W -/
structure EnvW (W : List Addr) (env : Env) : Prop where
  loc : env.locals ∈ W
  cel : ∀ x c, env.cells.lookup x = some c → c ∈ W
noncomputable def Live (W : List Addr) (h : Heap) : Prop := ∀ a ∈ W, ∃ o, h.get? a = some o
theorem Live.keep {W : List Addr} {h h' : Heap} (a : Live W h) (k : Kp h h') : Live W h' := fun b hb => let ⟨o, ho⟩ := a b hb; ⟨o, k _ _ ho⟩
theorem Live.fresh {W : List Addr} {h : Heap} (a : Live W h) {b : Addr} (hb : h.get? b = none) : b ∉ W := fun hm => let ⟨o, ho⟩ := a b hm; by rw [hb] at ho; cases ho
theorem get_size (h : Heap) : h.get? h.objs.size = none := by
  cases e : h.get? h.objs.size with
  | none => rfl
  | some o => exact absurd (Heap.lt_size e) (Nat.lt_irrefl _)

section
variable {M : Model} {A : Around} {E : Value → Shared → Prop} {s : Shared} {env : Env}

theorem slot_load {x : Str} {v : Value} {Q : Value → Shared → Prop} (S : EnvS s.heap env) (a : Slot env s.heap x v) (h : Q v s) (hx : (x == ("__classdict__" : Str)) = false) : wpAny M A (loadName env x) Q E s := by
  rcases a with ⟨e, m, hn, hm⟩ | ⟨e | e, c, hc, hi⟩
  · exact wpAny_loadName_local S.kind e hn hm h
  · exact wpAny_loadName_cell S.kind e hc hi h
  · exact wpAny_loadName_free S.kind e hc hi h hx

theorem ns_ne_cell {h : Heap} {a c : Addr} {m : Str → Option Value} {v : Option Value} (hn : h.Ns a m) (hc : h.IsCell c v) : c ≠ a := by
  rintro rfl
  obtain ⟨o, es, ep, ho, hd, _⟩ := hn
  obtain ⟨o', ho', hd'⟩ := hc
  rw [ho] at ho'; cases ho'
  rw [hd] at hd'; cases hd'

/-- a store to a name of the block's own -/
theorem slot_store {x : Str} {v : Value} {Q : Unit → Shared → Prop} (S : EnvS s.heap env) (hx : env.kindOf x = some .local ∨ env.kindOf x = some .cell)
    (h : ∀ a s', (a = env.locals ∨ env.cells.lookup x = some a) → Heap.SameBut a s.heap s'.heap → s'.gens = s.gens → s'.os = s.os → EnvS s'.heap env → Slot env s'.heap x v →
      (∀ y u, y ≠ x → Slot env s.heap y u → Slot env s'.heap y u) → (∃ o, s'.heap.get? a = some o) → Q () s') : wpAny M A (storeName env x v) Q E s := by
  rcases hx with e | e
  · obtain ⟨m, hn⟩ := S.ns
    refine wpAny_storeName_local e hn (fun h' hn' hs' => h env.locals _ (.inl rfl) hs' rfl rfl ?_ (.inl ⟨e, _, hn', by simp⟩) ?_ ?_) (by rw [S.kind]; rfl)
    · refine ⟨S.kind, S.glob, S.bltn, ⟨_, hn'⟩, fun y hy => ?_, S.inj⟩
      obtain ⟨c, w, h1, h2⟩ := S.cell y hy
      exact ⟨c, w, h1, h2.sameBut hs' (ns_ne_cell hn h2)⟩
    · intro y u hy hu
      rcases hu with ⟨e', m', hn2, hm⟩ | ⟨e', c, hc, hi⟩
      · refine .inl ⟨e', _, hn', ?_⟩
        rw [if_neg hy]
        obtain ⟨o, es, ep, ho, hd, _, hf⟩ := hn
        obtain ⟨o', es', ep', ho', hd', _, hf'⟩ := hn2
        rw [ho] at ho'; cases ho'
        rw [hd] at hd'; cases hd'
        rw [← hf, hf', hm]
      · exact .inr ⟨e', c, hc, hi.sameBut hs' (ns_ne_cell hn hi)⟩
    · obtain ⟨o, es, ep, ho, _⟩ := hn'; exact ⟨o, ho⟩
  · obtain ⟨m, hn⟩ := S.ns
    obtain ⟨c, w, hc, hi⟩ := S.cell x (.inl e)
    refine wpAny_storeName_cell S.kind e hc hi fun h' hc' hs' => h c _ (.inr hc) hs' rfl rfl ?_ (.inr ⟨.inl e, c, hc, hc'⟩) ?_ ?_
    · refine ⟨S.kind, S.glob, S.bltn, ⟨m, hn.sameBut hs' (Ne.symm (ns_ne_cell hn hi))⟩, fun y hy => ?_, S.inj⟩
      obtain ⟨c', w', h1, h2⟩ := S.cell y hy
      by_cases hcc : c' = c
      · subst hcc; exact ⟨c', _, h1, hc'⟩
      · exact ⟨c', w', h1, h2.sameBut hs' hcc⟩
    · intro y u hy hu
      rcases hu with ⟨e', m', hn2, hm⟩ | ⟨e', c', hc2, hi2⟩
      · exact .inl ⟨e', m', hn2.sameBut hs' (Ne.symm (ns_ne_cell hn2 hi)), hm⟩
      · refine .inr ⟨e', c', hc2, hi2.sameBut hs' ?_⟩
        rintro rfl
        exact hy (S.inj _ _ _ hc2 hc)
    · obtain ⟨o, ho, _⟩ := hc'; exact ⟨o, ho⟩
end
end Mine
end

section
set_option maxRecDepth 100000
set_option linter.unusedVariables false
namespace Mine
open PySem PySem.W PyProof.Rows PySem.Calls

structure Room (n : Nat) (A : Around) : Prop where
  h : A.handled = none
  d : A.depth + n + 8 < recursionLimit
  u : A.units + 8 * n + 80 < cLine
theorem Room.le {n m : Nat} {A : Around} (r : Room n A) (h : m ≤ n) : Room m A := ⟨r.h, by have := r.d; omega, by have := r.u; omega⟩
theorem Room.units {n : Nat} {A : Around} (r : Room n A) : A.units + 70 < cLine := by have := r.u; omega

/-- the built-in functions that are asked -/
noncomputable def bltVal (x : Str) : Option Value :=
  if x = "len" then some (.builtin "len") else if x = "sum" then some (.builtin "sum") else if x = "min" then some (.builtin "min")
  else if x = "int" then some (.type "int") else if x = "range" then some (.type "range") else if x = "enumerate" then some (.type "enumerate") else none

structure Gd (mg mb : Str → Option Value) (h : Heap) : Prop where
  g : h.Ns mainGlobals mg
  b : h.Ns builtinsNs mb
  lim : h.NoLimit
  fns : ∀ (f : Str) ps sc body, defOf f = some (ps, sc, body) → ∃ a o params pm code doc, mg f = some (.ref a) ∧ h.get? a = some o ∧ o.data = .func (docDef f params body sc pm code doc) ∧ h.CodeRec code f ∧
    (∀ vals, vals.length = ps.length → bindArgs (docDef f params body sc pm code doc) ⟨vals, []⟩ = pure (ps.zip vals)) ∧ (∀ x ∈ ps, isOwnVar sc x = true) ∧ ps.Nodup ∧ sc.isCoroutine = false ∧ sc.isGenerator = decide (f = "_grouping_intervals") ∧ sc.kind = .function ∧ (sc.names.map (·.1)).Nodup ∧
    (∀ p ∈ sc.names, p.2 ≠ .free)
  bn : ∀ x v, bltVal x = some v → mg x = none ∧ mb x = some v
  em : ∃ t, mg "ELLIPSIS_MARKER" = some (.str "..." t)
  cm : ∃ t, mg "CHAR_MAX" = some (.int 127 t)
  ve : mg "ValueError" = none ∧ mb "ValueError" = some (.type "ValueError")
  sr : mg "str" = none ∧ mb "str" = some (.type "str")
theorem Gd.keep {mg mb : Str → Option Value} {h h' : Heap} (a : Gd mg mb h) (k : Kp h h') : Gd mg mb h' where
  g := a.g.keeps k
  b := a.b.keeps k
  lim := a.lim.keeps k
  fns := fun f ps sc body hd => (a.fns f ps sc body hd).imp fun ad => Exists.imp fun o => Exists.imp fun params => Exists.imp fun pm => Exists.imp fun code => Exists.imp fun doc h => ⟨h.1, k _ _ h.2.1, h.2.2.1, h.2.2.2.1.keeps k, h.2.2.2.2⟩
  bn := a.bn
  em := a.em
  cm := a.cm
  ve := a.ve
  sr := a.sr

/-- the grounds, off the objects of W -/
noncomputable def GdW (mg mb : Str → Option Value) (W : List Addr) (h : Heap) : Prop := ∃ h₀, Gd mg mb h₀ ∧ Kp h₀ h ∧ ∀ a ∈ W, h₀.get? a = none
theorem GdW.gd {mg mb : Str → Option Value} {W : List Addr} {h : Heap} (x : GdW mg mb W h) : Gd mg mb h := let ⟨_, g, k, _⟩ := x; g.keep k
theorem GdW.keep {mg mb : Str → Option Value} {W : List Addr} {h h' : Heap} (x : GdW mg mb W h) (k : Kp h h') : GdW mg mb W h' := let ⟨h₀, g, k₀, n⟩ := x; ⟨h₀, g, fun b o e => k b o (k₀ b o e), n⟩
theorem GdW.off {mg mb : Str → Option Value} {W : List Addr} {h h' : Heap} (x : GdW mg mb W h) (k : OffW W h h') : GdW mg mb W h' :=
  let ⟨h₀, g, k₀, n⟩ := x; ⟨h₀, g, fun b o e => k b o (fun hb => by rw [n b hb] at e; cases e) (k₀ b o e), n⟩
theorem GdW.more {mg mb : Str → Option Value} {W N : List Addr} {h : Heap} (x : GdW mg mb W h) (hn : ∀ a ∈ N, h.get? a = none) : GdW mg mb (N ++ W) h :=
  let ⟨h₀, g, k₀, n⟩ := x; ⟨h₀, g, k₀, fun a ha => by
    rcases List.mem_append.mp ha with q | q
    · cases e : h₀.get? a with
      | none => rfl
      | some o => have := k₀ a o e; rw [hn a q] at this; cases this
    · exact n a q⟩
theorem GdW.sub {mg mb : Str → Option Value} {W W' : List Addr} {h : Heap} (x : GdW mg mb W h) (hw : ∀ a ∈ W', a ∈ W) : GdW mg mb W' h :=
  let ⟨h₀, g, k₀, n⟩ := x; ⟨h₀, g, k₀, fun a ha => n a (hw a ha)⟩

structure Cx (mg mb : Str → Option Value) (n : Nat) (A : Around) (W : List Addr) (s : Shared) (env : Env) (ρ : Rho) : Prop where
  room : Room n A
  gd : GdW mg mb W s.heap
  S : EnvS s.heap env
  D : EnvD W s.heap env ρ
  w : EnvW W env
  live : Live W s.heap
theorem Cx.grow {mg mb : Str → Option Value} {n : Nat} {A : Around} {W : List Addr} {s s' : Shared} {env : Env} {ρ : Rho} (c : Cx mg mb n A W s env ρ) (g : Grow s s') : Cx mg mb n A W s' env ρ :=
  ⟨c.room, c.gd.keep g.keep, c.S.keep g.keep, c.D.keep g.keep, c.w, c.live.keep g.keep⟩

/-- what a tree may be used for: it ends in a value that reads as d, and all stands -/
noncomputable def Giv (M : Model) (A : Around) (W : List Addr) (s : Shared) (t : Sem Value) (d : D) : Prop :=
  ∀ (Q : Value → Shared → Prop) (E : Value → Shared → Prop), (∀ v s', Grow s s' → Is W s'.heap v d → Q v s') → wpAny M A t Q E s
noncomputable def GivB (M : Model) (A : Around) (s : Shared) (t : Sem Bool) (b : Bool) : Prop :=
  ∀ (Q : Bool → Shared → Prop) (E : Value → Shared → Prop), (∀ s', Grow s s' → Q b s') → wpAny M A t Q E s

theorem is_new_list {W : List Addr} {h : Heap} (lv : Live W h) {vs : List Value} {ds : List D} (x : IsAll W h vs ds) (n : Nat) :
    Is W (h.push { cls := .type "list", data := .seq vs.toArray n }) (.ref h.objs.size) (.list ds) :=
  .list (lv.fresh (get_size h)) ⟨n, Heap.get?_push_size _ rfl⟩ (x.keep fun _ _ e => Heap.get?_push_of_some _ e)
theorem is_new_list' {W : List Addr} {h : Heap} (lv : Live W h) {vs : Array Value} {ds : List D} (x : IsAll W h vs.toList ds) (n : Nat) :
    Is W (h.push { cls := .type "list", data := .seq vs n }) (.ref h.objs.size) (.list ds) := by
  have := is_new_list lv x n
  simpa using this
theorem is_new_tuple {W : List Addr} {h : Heap} (lv : Live W h) {vs : List Value} {ds : List D} (x : IsAll W h vs ds) (n : Nat) :
    Is W (h.push { cls := .type "tuple", data := .seq vs.toArray n }) (.ref h.objs.size) (.tuple ds) :=
  .tuple (lv.fresh (get_size h)) ⟨_, Heap.get?_push_size _ rfl, rfl, n, rfl⟩ (x.keep fun _ _ e => Heap.get?_push_of_some _ e)

section
variable {prog : Program} {w : World} {A : Around} {s : Shared} {W : List Addr}

theorem small_bits {a : Int} (h : small a = true) : Builtin.Int.intBits a ≤ 64 := by
  simp only [small, Bool.and_eq_true, decide_eq_true_eq] at h
  exact intBits_le_64 (by omega) (by omega)

theorem mul_plain {l : Addr} {items : Array Value} {k : Nat} {x : Int} {u : Tok} {Q E : Value → Shared → Prop}
    (hl : s.heap.get? l = some { cls := .type "list", dict := none, data := .seq items k, slots := #[] })
    (hlo : -(2 ^ 63 : Int) ≤ x) (hhi : x < 2 ^ 63) (hsz : items.size * x.toNat ≤ 2 ^ 24)
    (h : Q (.ref s.heap.objs.size) { s with heap := s.heap.push { cls := .type "list", data := .seq (List.replicate x.toNat items.toList).flatten.toArray } }) :
    wpAny (model prog w) A (binaryOp .Mult (.ref l) (.int x u)) Q E s := by
  rw [← listMul_foldl_if] at h
  exact wpAny_binaryOp_repeat_ref (T := "list") (U := "int") (by decide) ⟨_, hl, rfl⟩ (fun s' => typeIs_int s' x u) noFill_list_mul F.fills_int_mul F.slot_int_rmul repeat_list F.slot_int_index.lookup
    (call_meets F.slot_int_rmul (typeIs_int s x u) F.entry_int_rmul (F.args_int_rmul_2 _ _) (int___rmul___int_list x u l items k)
      ⟨hl, rfl, ⟨_, hl, rfl⟩, call_meets F.slot_list_mul ⟨_, hl, rfl⟩ F.entry_list_mul (F.args_list_mul_2 _ _)
        (AutoListH.list___mul___list_int_3 l items k x u (by simp [Builtin.List.listFitsIndex]; omega) (by omega) (by simp [Builtin.List.listTooLong, sizeLine]; omega))
        ⟨hl, h⟩⟩)

theorem ints2_inv {a b d : D} {f : Int → Int → Option D} (h : ints2 a b f = some d) : ∃ i j, a = .int i ∧ b = .int j ∧ f i j = some d := by
  cases a <;> first | exact none_ne h | skip
  cases b <;> first | exact none_ne h | exact ⟨_, _, rfl, rfl, h⟩
theorem badd_inv {a b d : D} (h : badd a b = some d) : (∃ i j, a = .int i ∧ b = .int j ∧ d = .int (i + j)) ∨ (∃ x y, a = .str x ∧ b = .str y ∧ d = .str (x ++ y) ∧ x.length + y.length ≤ 1000) ∨
    ∃ x y, a = .list x ∧ b = .list y ∧ d = .list (x ++ y) ∧ x.length + y.length ≤ 1000 := by
  cases a <;> first | exact none_ne h | skip
  · cases b <;> first | exact none_ne h | skip
    cases h; exact .inl ⟨_, _, rfl, rfl, rfl⟩
  · cases b <;> first | exact none_ne h | skip
    obtain ⟨hl, rfl⟩ := ite_some' h
    exact .inr (.inl ⟨_, _, rfl, rfl, rfl, hl⟩)
  · cases b <;> first | exact none_ne h | skip
    obtain ⟨hl, rfl⟩ := ite_some' h
    exact .inr (.inr ⟨_, _, rfl, rfl, rfl, hl⟩)
theorem bmul_inv {a b d : D} (h : bmul a b = some d) : (∃ i j, a = .int i ∧ b = .int j ∧ d = .int (i * j) ∧ small i = true) ∨
    ∃ xs n, a = .list xs ∧ b = .int n ∧ d = .list (List.replicate n.toNat xs).flatten ∧ 0 ≤ n ∧ n ≤ 1000 ∧ xs.length ≤ 1000 := by
  cases a <;> first | exact none_ne h | skip
  · cases b <;> first | exact none_ne h | skip
    obtain ⟨hl, rfl⟩ := ite_some h
    rw [Bool.and_eq_true] at hl
    exact .inl ⟨_, _, rfl, rfl, rfl, hl.1⟩
  · cases b <;> first | exact none_ne h | skip
    obtain ⟨hl, rfl⟩ := ite_some h
    simp only [Bool.and_eq_true, decide_eq_true_eq] at hl
    exact .inr ⟨_, _, rfl, rfl, rfl, hl.1.1, hl.1.2, hl.2⟩

theorem bin_add {a b d : D} {va vb : Value} (hp : badd a b = some d) (lv : Live W s.heap) (ia : Is W s.heap va a) (ib : Is W s.heap vb b) :
    Giv (model prog w) A W s (binaryOp .Add va vb) d := by
  intro Q E hQ
  rcases badd_inv hp with ⟨i, j, rfl, rfl, rfl⟩ | ⟨x, y, rfl, rfl, rfl, hl⟩ | ⟨xs, ys, rfl, rfl, rfl, hl⟩
  · obtain ⟨t, rfl⟩ := ia.int'; obtain ⟨u, rfl⟩ := ib.int'
    exact PyProof.Rows.add_int (hQ _ _ (.toks ..) (.int ..))
  · obtain ⟨t, rfl⟩ := ia.str'; obtain ⟨u, rfl⟩ := ib.str'
    exact PyProof.Rows.add_str (fun t' tk => hQ _ _ (.toks ..) (.str ..)) (by unfold sizeLine; omega)
  · cases ia with | list h1 h2 h3 => cases ib with | list k1 k2 k3 =>
    obtain ⟨n, h2⟩ := h2
    obtain ⟨m, k2⟩ := k2
    refine P.add_list h2 k2 (hQ _ _ (.push ..) ?_) ?_
    · exact is_new_list' lv (by simpa using h3.append k3) 0
    · simp [h3.length, k3.length, sizeLine]; omega
theorem bin_mul {a b d : D} {va vb : Value} (hp : bmul a b = some d) (lv : Live W s.heap) (ia : Is W s.heap va a) (ib : Is W s.heap vb b) :
    Giv (model prog w) A W s (binaryOp .Mult va vb) d := by
  intro Q E hQ
  rcases bmul_inv hp with ⟨i, j, rfl, rfl, rfl, hs⟩ | ⟨xs, n, rfl, rfl, rfl, h0, h1, h2⟩
  · obtain ⟨t, rfl⟩ := ia.int'; obtain ⟨u, rfl⟩ := ib.int'
    exact PyProof.Rows.mul_int (hQ _ _ (.toks ..) (.int ..)) (.of_left (small_bits hs))
  · obtain ⟨u, rfl⟩ := ib.int'
    cases ia with | list k1 k2 k3 =>
    obtain ⟨k, k2⟩ := k2
    refine mul_plain k2 (by omega) (by omega) ?_ (hQ _ _ (.push ..) ?_)
    · have : xs.length * n.toNat ≤ 1000 * 1000 := Nat.mul_le_mul h2 (by omega)
      simp [k3.length]; omega
    · exact is_new_list' lv (by simpa using k3.flatten n.toNat) 0
theorem bin_ok {op : Operator} {a b d : D} {va vb : Value} (hp : pbin op a b = some d) (lv : Live W s.heap) (ia : Is W s.heap va a) (ib : Is W s.heap vb b) :
    Giv (model prog w) A W s (binaryOp op va vb) d := by
  cases op <;> first | exact none_ne hp | exact bin_add hp lv ia ib | exact bin_mul hp lv ia ib | skip
  all_goals
    obtain ⟨i, j, rfl, rfl, h⟩ := ints2_inv hp
    obtain ⟨t, rfl⟩ := ia.int'; obtain ⟨u, rfl⟩ := ib.int'
    intro Q E hQ
  case Sub =>
    cases h
    exact PyProof.Rows.sub_int (hQ _ _ (.toks ..) (.int ..))
  case Mod =>
    obtain ⟨hs, rfl⟩ := ite_some h
    exact PyProof.Rows.mod_int (by simpa using hs) (hQ _ _ (.toks ..) (.int ..))
  case FloorDiv =>
    obtain ⟨hs, rfl⟩ := ite_some h
    simp only [Bool.and_eq_true, decide_eq_true_eq] at hs
    exact PyProof.Rows.floordiv_int (by omega) (hQ _ _ (.toks ..) (.int ..)) (.inl (PyProof.noPylong_small (by omega)))
  case Pow =>
    obtain ⟨hs, rfl⟩ := ite_some h
    simp only [Bool.and_eq_true, decide_eq_true_eq] at hs
    refine PyProof.Rows.pow_int (by omega) ?_ (hQ _ _ (.toks ..) (.int ..))
    have hb : Builtin.Int.intBits i ≤ 64 := intBits_le_64 (by omega) (by omega)
    have h1 : (Builtin.Int.intBits i : Int) * j ≤ 64 * 64 := Int.mul_le_mul (by omega) (by omega) (by omega) (by omega)
    omega

theorem depthAll_units {n : Nat} (r : Room n A) {k : Nat} (hk : k ≤ 9) : A.units + k < cLine := by have := r.u; omega

theorem cints_inv {a b : D} {c : Bool} {f : Int → Int → Bool} (h : cints a b f = some c) : ∃ i j, a = .int i ∧ b = .int j ∧ c = f i j := by
  cases a <;> first | exact none_ne h | skip
  cases b <;> first | exact none_ne h | (cases h; exact ⟨_, _, rfl, rfl, rfl⟩)
theorem ceq_inv {neg : Bool} {a b : D} {c : Bool} (h : ceq neg a b = some c) : (∃ x y, a = .str x ∧ b = .str y ∧ c = if neg then !(x == y) else (x == y)) ∨ (∃ x y, a = .int x ∧ b = .int y ∧ c = if neg then (x != y) else (x == y)) ∨
    ∃ x y, a = .list x ∧ b = .list y ∧ eqOk x y = true ∧ c = if neg then !PyData.eqvAll x y else PyData.eqvAll x y := by
  cases a <;> first | exact none_ne h | skip
  · cases b <;> first | exact none_ne h | (cases h; exact .inr (.inl ⟨_, _, rfl, rfl, rfl⟩))
  · cases b <;> first | exact none_ne h | (cases h; exact .inl ⟨_, _, rfl, rfl, rfl⟩)
  · cases b <;> first | exact none_ne h | skip
    obtain ⟨hl, rfl⟩ := ite_some h
    exact .inr (.inr ⟨_, _, rfl, rfl, hl, rfl⟩)
theorem cisn_inv {neg : Bool} {a b : D} {c : Bool} (h : cisn neg a b = some c) : (b = .none ∧ c = if neg then !(isNoneD a) else isNoneD a) ∨ ∃ x y, a = .bool x ∧ b = .bool y ∧ c = if neg then !(x == y) else (x == y) := by
  cases b <;> first | exact none_ne h | (cases h; exact .inl ⟨rfl, rfl⟩) | skip
  cases a <;> first | exact none_ne h | (cases h; exact .inr ⟨_, _, rfl, rfl, rfl⟩)
theorem cin_inv {a b : D} {c : Bool} (h : cin a b = some c) : ∃ i xs, a = .int i ∧ (b = .list xs ∨ b = .tuple xs) ∧ PyData.canLayAll0 xs = true ∧ c = xs.any fun y => PyData.eqv y (.int i) := by
  cases a <;> first | exact none_ne h | skip
  cases b <;> first | exact none_ne h | skip
  · obtain ⟨hl, rfl⟩ := ite_some h
    exact ⟨_, _, rfl, .inl rfl, hl, rfl⟩
  · obtain ⟨hl, rfl⟩ := ite_some h
    exact ⟨_, _, rfl, .inr rfl, hl, rfl⟩
theorem cnotin_inv {a b : D} {c : Bool} (h : cnotin a b = some c) : ∃ x y, a = .str x ∧ b = .str y ∧ c = !(Txt.contains y x) := by
  cases a <;> first | exact none_ne h | skip
  cases b <;> first | exact none_ne h | (cases h; exact ⟨_, _, rfl, rfl, rfl⟩)
theorem list_deep {n : Nat} (r : Room n A) {xs ys : List D} (h : PyData.depthAll xs ≤ 8) : A.units + min (PyData.list xs).depth (PyData.list ys).depth < cLine := by
  have e1 : (PyData.list xs).depth = PyData.depthAll xs + 1 := by simp [PyData.depth]
  have := Nat.min_le_left (PyData.list xs).depth (PyData.list ys).depth
  exact depthAll_units r (by omega)
theorem cmp_Eq {n : Nat} {a b : D} {c : Bool} {va vb : Value} (r : Room n A) (hp : ceq false a b = some c) (ia : Is W s.heap va a) (ib : Is W s.heap vb b)
    {Q E : Value → Shared → Prop} (hQ : Q (.bool c) s) : wpAny (model prog w) A (compareOp .Eq va vb) Q E s := by
  rcases ceq_inv hp with ⟨x, y, rfl, rfl, rfl⟩ | ⟨x, y, rfl, rfl, rfl⟩ | ⟨xs, ys, rfl, rfl, h, rfl⟩
  · obtain ⟨t, rfl⟩ := ia.str'; obtain ⟨u, rfl⟩ := ib.str'; exact PyProof.Rows.eq_str hQ
  · obtain ⟨t, rfl⟩ := ia.int'; obtain ⟨u, rfl⟩ := ib.int'; exact PyProof.Rows.eq_int hQ
  · simp only [eqOk, Bool.and_eq_true, decide_eq_true_eq] at h
    obtain ⟨as, ra⟩ := ia.reads
    obtain ⟨bs, rb⟩ := ib.reads
    exact SeqAt.compareEq_reads ra rb h.1.1 h.1.2 (list_deep r h.2) hQ
theorem cmp_NotEq {n : Nat} {a b : D} {c : Bool} {va vb : Value} (r : Room n A) (hp : ceq true a b = some c) (ia : Is W s.heap va a) (ib : Is W s.heap vb b)
    {Q E : Value → Shared → Prop} (hQ : Q (.bool c) s) : wpAny (model prog w) A (compareOp .NotEq va vb) Q E s := by
  rcases ceq_inv hp with ⟨x, y, rfl, rfl, rfl⟩ | ⟨x, y, rfl, rfl, rfl⟩ | ⟨xs, ys, rfl, rfl, h, rfl⟩
  · obtain ⟨t, rfl⟩ := ia.str'; obtain ⟨u, rfl⟩ := ib.str'; exact PyProof.Rows.ne_str hQ
  · obtain ⟨t, rfl⟩ := ia.int'; obtain ⟨u, rfl⟩ := ib.int'; exact PyProof.Rows.ne_int hQ
  · simp only [eqOk, Bool.and_eq_true, decide_eq_true_eq] at h
    obtain ⟨as, ra⟩ := ia.reads
    obtain ⟨bs, rb⟩ := ib.reads
    exact SeqAt.compareNe_reads ra rb h.1.1 h.1.2 (list_deep r h.2) hQ
theorem cmp_Is {n : Nat} {a b : D} {c : Bool} {va vb : Value} (r : Room n A) (hp : cisn false a b = some c) (ia : Is W s.heap va a) (ib : Is W s.heap vb b)
    {Q E : Value → Shared → Prop} (hQ : Q (.bool c) s) : wpAny (model prog w) A (compareOp .Is va vb) Q E s := by
  rcases cisn_inv hp with ⟨rfl, rfl⟩ | ⟨x, y, rfl, rfl, rfl⟩
  · cases ib
    refine is_none ?_
    cases ia <;> exact hQ
  · cases ia.bool'; cases ib.bool'; exact is_bool hQ
theorem cmp_IsNot {n : Nat} {a b : D} {c : Bool} {va vb : Value} (r : Room n A) (hp : cisn true a b = some c) (ia : Is W s.heap va a) (ib : Is W s.heap vb b)
    {Q E : Value → Shared → Prop} (hQ : Q (.bool c) s) : wpAny (model prog w) A (compareOp .IsNot va vb) Q E s := by
  rcases cisn_inv hp with ⟨rfl, rfl⟩ | ⟨x, y, rfl, rfl, rfl⟩
  · cases ib
    refine isNot_none ?_
    cases ia <;> exact hQ
  · cases ia.bool'; cases ib.bool'; exact isnot_bool hQ
theorem cmp_Lt {n : Nat} {a b : D} {c : Bool} {va vb : Value} (r : Room n A) (hp : cints a b (fun i j => decide (i < j)) = some c) (ia : Is W s.heap va a) (ib : Is W s.heap vb b)
    {Q E : Value → Shared → Prop} (hQ : Q (.bool c) s) : wpAny (model prog w) A (compareOp .Lt va vb) Q E s := by
  obtain ⟨i, j, rfl, rfl, rfl⟩ := cints_inv hp
  obtain ⟨t, rfl⟩ := ia.int'; obtain ⟨u, rfl⟩ := ib.int'; exact PyProof.Rows.lt_int hQ
theorem cmp_LtE {n : Nat} {a b : D} {c : Bool} {va vb : Value} (r : Room n A) (hp : cints a b (fun i j => decide (i ≤ j)) = some c) (ia : Is W s.heap va a) (ib : Is W s.heap vb b)
    {Q E : Value → Shared → Prop} (hQ : Q (.bool c) s) : wpAny (model prog w) A (compareOp .LtE va vb) Q E s := by
  obtain ⟨i, j, rfl, rfl, rfl⟩ := cints_inv hp
  obtain ⟨t, rfl⟩ := ia.int'; obtain ⟨u, rfl⟩ := ib.int'; exact PyProof.Rows.le_int hQ
theorem cmp_Gt {n : Nat} {a b : D} {c : Bool} {va vb : Value} (r : Room n A) (hp : cints a b (fun i j => decide (i > j)) = some c) (ia : Is W s.heap va a) (ib : Is W s.heap vb b)
    {Q E : Value → Shared → Prop} (hQ : Q (.bool c) s) : wpAny (model prog w) A (compareOp .Gt va vb) Q E s := by
  obtain ⟨i, j, rfl, rfl, rfl⟩ := cints_inv hp
  obtain ⟨t, rfl⟩ := ia.int'; obtain ⟨u, rfl⟩ := ib.int'; exact PyProof.Rows.gt_int hQ
theorem cmp_GtE {n : Nat} {a b : D} {c : Bool} {va vb : Value} (r : Room n A) (hp : cints a b (fun i j => decide (i ≥ j)) = some c) (ia : Is W s.heap va a) (ib : Is W s.heap vb b)
    {Q E : Value → Shared → Prop} (hQ : Q (.bool c) s) : wpAny (model prog w) A (compareOp .GtE va vb) Q E s := by
  obtain ⟨i, j, rfl, rfl, rfl⟩ := cints_inv hp
  obtain ⟨t, rfl⟩ := ia.int'; obtain ⟨u, rfl⟩ := ib.int'; exact PyProof.Rows.ge_int hQ
theorem cmp_In {n : Nat} {a b : D} {c : Bool} {va vb : Value} (r : Room n A) (hp : cin a b = some c) (ia : Is W s.heap va a) (ib : Is W s.heap vb b)
    {Q E : Value → Shared → Prop} (hQ : Q (.bool c) s) : wpAny (model prog w) A (compareOp .In va vb) Q E s := by
  obtain ⟨i, xs, rfl, hb, h, rfl⟩ := cin_inv hp
  obtain ⟨as, ra⟩ := ia.reads
  obtain ⟨bs, rb⟩ := ib.reads
  have hd : A.units + 1 + min (PyData.depthAll xs) (PyData.int i).depth < cLine := by
    have := Nat.min_le_right (PyData.depthAll xs) (PyData.int i).depth
    have e : (PyData.int i).depth ≤ 1 := by simp [PyData.depth]
    have := r.u; omega
  rcases hb with rfl | rfl
  · exact SeqAt.in_list_reads rb ra h rfl hd hQ
  · exact SeqAt.in_tuple_reads rb ra h rfl hd hQ
theorem cmp_NotIn {n : Nat} {a b : D} {c : Bool} {va vb : Value} (r : Room n A) (hp : cnotin a b = some c) (ia : Is W s.heap va a) (ib : Is W s.heap vb b)
    {Q E : Value → Shared → Prop} (hQ : Q (.bool c) s) : wpAny (model prog w) A (compareOp .NotIn va vb) Q E s := by
  obtain ⟨x, y, rfl, rfl, rfl⟩ := cnotin_inv hp
  obtain ⟨t, rfl⟩ := ia.str'; obtain ⟨u, rfl⟩ := ib.str'; exact PyProof.Rows.notIn_str hQ
theorem cmp_ok {n : Nat} {op : CmpOp} {a b : D} {c : Bool} {va vb : Value} (r : Room n A) (hp : pcmp op a b = some c) (ia : Is W s.heap va a) (ib : Is W s.heap vb b)
    {Q E : Value → Shared → Prop} (hQ : Q (.bool c) s) : wpAny (model prog w) A (compareOp op va vb) Q E s :=
  match op, hp with
  | .Eq, hp => cmp_Eq r hp ia ib hQ
  | .NotEq, hp => cmp_NotEq r hp ia ib hQ
  | .Lt, hp => cmp_Lt r hp ia ib hQ
  | .LtE, hp => cmp_LtE r hp ia ib hQ
  | .Gt, hp => cmp_Gt r hp ia ib hQ
  | .GtE, hp => cmp_GtE r hp ia ib hQ
  | .Is, hp => cmp_Is r hp ia ib hQ
  | .IsNot, hp => cmp_IsNot r hp ia ib hQ
  | .In, hp => cmp_In r hp ia ib hQ
  | .NotIn, hp => cmp_NotIn r hp ia ib hQ

theorem truth_ok {d : D} {b : Bool} {v : Value} (hp : ptruth d = some b) (i : Is W s.heap v d) : GivB (model prog w) A s (truthy v) b := by
  intro Q E hQ
  cases d <;> first | exact none_ne hp | skip
  · cases hp; cases i.bool'; exact wpAny_truthy_bool (hQ _ (.refl _))
  · cases hp; obtain ⟨t, rfl⟩ := i.int'; exact PyProof.Rows.truthy_int (hQ _ (.refl _))
  · obtain ⟨hl, rfl⟩ := ite_some' hp
    obtain ⟨t, rfl⟩ := i.str'; exact P.truthy_str (by omega) (hQ _ (.toks ..))
end
end Mine
end

section
set_option maxRecDepth 100000
set_option linter.unusedVariables false
namespace Mine
open PySem PySem.W PyProof.Rows PySem.Calls
section
variable {prog : Program} {w : World} {A : Around} {s : Shared} {W : List Addr}

theorem seqIndex_some {i : Int} {n j : Nat} (h : seqIndex? i n = some j) : (i < 0 ∧ -(n : Int) ≤ i ∧ j = (i + n).toNat) ∨ (0 ≤ i ∧ i < n ∧ j = i.toNat) := by
  unfold seqIndex? at h
  by_cases h0 : i < 0
  · simp only [h0, if_true] at h
    split at h
    · rename_i hb
      simp only [Bool.and_eq_true, decide_eq_true_eq] at hb
      cases h
      exact .inl ⟨h0, by omega, rfl⟩
    · cases h
  · simp only [h0, if_false] at h
    split at h
    · rename_i hb
      simp only [Bool.and_eq_true, decide_eq_true_eq] at hb
      cases h
      exact .inr ⟨by omega, by omega, rfl⟩
    · cases h

theorem item_ok {d i e : D} {v u : Value} (hp : pitem d i = some e) (iv : Is W s.heap v d) (iu : Is W s.heap u i) : Giv (model prog w) A W s (getItem v u) e := by
  intro Q E hQ
  unfold pitem at hp
  split at hp
  · split at hp
    · rename_i xs k hs
      simp only [small, Bool.and_eq_true, decide_eq_true_eq] at hs
      cases iu
      cases iv with | list h1 h2 h3 =>
      obtain ⟨j, hj, hx⟩ := Option.bind_eq_some_iff.mp hp
      obtain ⟨y, hy, iy⟩ := h3.get hx
      rcases seqIndex_some hj with ⟨h0, hn, rfl⟩ | ⟨h0, hn, rfl⟩
      · refine wpAny_getItem_list_neg h2.isList h0 ?_ (by omega) ?_ (hQ _ _ (.refl _) iy)
        · simp [h3.length]; omega
        · simp [h3.length]; simpa using hy
      · exact wpAny_getItem_list h2.isList (by omega) (by omega) (by simpa using hy) (hQ _ _ (.refl _) iy)
    · cases hp
  · split at hp
    · rename_i x k hs
      simp only [small, Bool.and_eq_true, decide_eq_true_eq] at hs
      cases iu; cases iv
      simp only [Txt.charAt, Option.map_eq_some_iff] at hp
      obtain ⟨c, hc, rfl⟩ := hp
      refine P.getItem_str ?_ hc (hQ _ _ (.toks ..) (.str ..))
      rw [Bool.or_eq_false_iff]
      exact ⟨decide_eq_false (by omega), decide_eq_false (by omega)⟩
    · cases hp
  · cases hp

/-- a value that may stand in a cut -/
noncomputable def PartIs (v : Value) : Option Int → Prop
  | none => v = .none
  | some i => ∃ t, v = .int i t
theorem PartIs.part {v : Value} {k : Option Int} (h : PartIs v k) : IsPart v k := by
  cases k with
  | none => cases h; exact .none
  | some i => obtain ⟨t, rfl⟩ := h; exact .int ..
theorem PartIs.value {v : Value} {k : Option Int} (h : PartIs v k) : ∃ p : Option (Int × Tok), v = partValue p ∧ p.map (·.1) = k := by
  cases k with
  | none => exact ⟨none, h, rfl⟩
  | some i => obtain ⟨t, rfl⟩ := h; exact ⟨some (i, t), rfl, rfl⟩

theorem slice_ok {d e : D} {v vl vu vs : Value} {lo hi st : Option Int} {a : Addr} (hp : pslice d lo hi st = some e) (lv : Live W s.heap) (iv : Is W s.heap v d)
    (hs : s.heap.get? a = some { cls := .type "slice", data := .fields #[vl, vu, vs] }) (pl : PartIs vl lo) (pu : PartIs vu hi) (ps : PartIs vs st) :
    Giv (model prog w) A W s (getItem v (.ref a)) e := by
  intro Q E hQ
  unfold pslice at hp
  split at hp
  · cases hp
  · rename_i h0
    split at hp
    · split at hp
      · rename_i xs hl
        cases hp
        cases iv with | list h1 h2 h3 =>
        refine wpAny_getItem_list_slice h2.isList ⟨_, hs, rfl, rfl⟩ pl.part pu.part ps.part (fun e => h0 (by rw [e]; rfl)) (hQ _ _ (.push ..) ?_) ?_
        · refine is_new_list' lv ?_ 0
          have := h3.filterMap (cutAt lo hi st xs.length)
          simp only [slicePick, cutAt, List.size_toArray, h3.length, List.getElem?_toArray] at this ⊢
          exact this
        · simp [h3.length, sizeLine]; omega
      · cases hp
    · split at hp
      · rename_i x hl
        simp only [Bool.and_eq_true, decide_eq_true_eq, beq_iff_eq] at hl
        obtain ⟨rfl, hl⟩ := hl
        cases hp
        cases iv
        cases ps
        obtain ⟨p, rfl, rfl⟩ := pl.value
        obtain ⟨q, rfl, rfl⟩ := pu.value
        refine wpAny_getItem_str_slice (l := p) (u := q) (st := none) ⟨_, hs, rfl, rfl⟩ rfl ?_
        unfold sliceMade slicePicked
        simp only [Option.map_none, Option.getD_none, beq_self_eq_true, Bool.true_and]
        split
        · rename_i h
          rw [if_pos h] at hQ
          exact hQ _ _ (.refl _) (.str ..)
        · rename_i h
          rw [if_neg h] at hQ
          refine ⟨?_, hQ _ _ (.toks ..) (.str ..)⟩
          show (List.toArray _).size ≤ sizeLine
          rw [List.size_toArray]
          exact Nat.le_trans (Nat.le_trans (List.length_filterMap_le ..) hl) (by decide)
      · cases hp
    · cases hp

/-! calls -/
theorem asInts_cons {d : D} {ds : List D} {is : List Int} (e : asInts (d :: ds) = some is) : ∃ i l, d = .int i ∧ asInts ds = some l ∧ l.cons i = is := by
  cases d <;> first | exact none_ne e | skip
  obtain ⟨l, hl, e⟩ := Option.map_eq_some_iff.mp e
  exact ⟨_, l, rfl, hl, e⟩
theorem asBools_cons {d : D} {ds : List D} {is : List Bool} (e : asBools (d :: ds) = some is) : ∃ i l, d = .bool i ∧ asBools ds = some l ∧ l.cons i = is := by
  cases d <;> first | exact none_ne e | skip
  obtain ⟨l, hl, e⟩ := Option.map_eq_some_iff.mp e
  exact ⟨_, l, rfl, hl, e⟩
theorem asStrs_cons {d : D} {ds : List D} {is : List Str} (e : asStrs (d :: ds) = some is) : ∃ i l, d = .str i ∧ asStrs ds = some l ∧ l.cons i = is := by
  cases d <;> first | exact none_ne e | skip
  obtain ⟨l, hl, e⟩ := Option.map_eq_some_iff.mp e
  exact ⟨_, l, rfl, hl, e⟩
theorem asInts_is {h : Heap} {vs : List Value} {ds : List D} {is : List Int} (x : IsAll W h vs ds) (e : asInts ds = some is) : IntsAre vs is :=
  x.ind (fun vs ds => ∀ is, asInts ds = some is → IntsAre vs is) (fun is e => by cases e; exact .nil) (fun v vs d ds i _ ih is e => by
    obtain ⟨j, l, rfl, hl, rfl⟩ := asInts_cons e
    obtain ⟨t, rfl⟩ := i.int'
    exact .cons _ _ (ih l hl)) is e
theorem asInts_num {h : Heap} {vs : List Value} {ds : List D} {is : List Int} (x : IsAll W h vs ds) (e : asInts ds = some is) : ∀ (i : Nat) (v : Value), vs[i]? = some v → NumOf (is.getD i 0) v :=
  x.ind (fun vs ds => ∀ is, asInts ds = some is → ∀ (i : Nat) (v : Value), vs[i]? = some v → NumOf (is.getD i 0) v) (fun _ _ i v h => none_ne h) (fun v vs d ds i _ ih is e k u h => by
    obtain ⟨j, l, rfl, hl, rfl⟩ := asInts_cons e
    obtain ⟨t, rfl⟩ := i.int'
    cases k with
    | zero => exact Option.some.inj h ▸ .inl ⟨_, rfl⟩
    | succ k => exact ih l hl k u h) is e
theorem asBools_num {h : Heap} {vs : List Value} {ds : List D} {bs : List Bool} (x : IsAll W h vs ds) (e : asBools ds = some bs) : ∀ (i : Nat) (v : Value), vs[i]? = some v → NumOf ((bs.map fun b => if b then (1 : Int) else 0).getD i 0) v :=
  x.ind (fun vs ds => ∀ bs, asBools ds = some bs → ∀ (i : Nat) (v : Value), vs[i]? = some v → NumOf ((bs.map fun b => if b then (1 : Int) else 0).getD i 0) v) (fun _ _ i v h => none_ne h) (fun v vs d ds i _ ih is e k u h => by
    obtain ⟨j, l, rfl, hl, rfl⟩ := asBools_cons e
    cases i.bool'
    cases k with
    | zero => exact Option.some.inj h ▸ .inr ⟨_, rfl, by simp⟩
    | succ k => exact ih l hl k u h) bs e
theorem asInts_len : ∀ {ds : List D} {is : List Int}, asInts ds = some is → is.length = ds.length
  | [], _, e => by cases e; rfl
  | d :: ds, _, e => by
    obtain ⟨i, l, _, hl, rfl⟩ := asInts_cons e
    exact congrArg (· + 1) (asInts_len hl)
theorem asBools_len : ∀ {ds : List D} {is : List Bool}, asBools ds = some is → is.length = ds.length
  | [], _, e => by cases e; rfl
  | d :: ds, _, e => by
    obtain ⟨i, l, _, hl, rfl⟩ := asBools_cons e
    exact congrArg (· + 1) (asBools_len hl)
theorem asStrs_is {h : Heap} {vs : List Value} {ds : List D} {is : List Str} (x : IsAll W h vs ds) (e : asStrs ds = some is) : ∃ l : List (Str × Tok), vs = strValues l ∧ l.map (·.1) = is :=
  x.ind (fun vs ds => ∀ is, asStrs ds = some is → ∃ l : List (Str × Tok), vs = strValues l ∧ l.map (·.1) = is) (fun is e => by cases e; exact ⟨[], rfl, rfl⟩) (fun v vs d ds i _ ih is e => by
    obtain ⟨j, l, rfl, hl, rfl⟩ := asStrs_cons e
    obtain ⟨t, rfl⟩ := i.str'
    obtain ⟨l', rfl, rfl⟩ := ih l hl
    exact ⟨(j, t) :: l', rfl, rfl⟩) is e

theorem sum_ok {n : Nat} {l : Addr} {vs : List Value} {is : List Int} (r : Room n A) (hl : s.heap.IsList l vs.toArray) (hn : ∀ (i : Nat) (v : Value), vs[i]? = some v → NumOf (is.getD i 0) v) (hlen : is.length = vs.length) :
    Giv (model prog w) A W s (call (.builtin "sum") [.ref l]) (.int is.sum) := by
  intro Q E hQ
  have hlt : l < s.heap.objs.size := by obtain ⟨_, e, _⟩ := hl; exact Heap.lt_size e
  refine call_sum_walkAnyB (wpAny_pyIter_list hl ?_)
  have W0 := Walks.list (prog := prog) (w := w) (A := A.in1) r.h s.heap.objs.size l (Nat.ne_of_lt hlt) vs.toArray
  refine ⟨_, _, _, _, _, _, _, fun i => is.getD i 0, rfl, W0.toS, ?_, ?_, ?_, ?_⟩
  · exact ⟨⟨_, Heap.get?_push_size _ rfl, rfl, rfl⟩, hl.push _⟩
  · intro b hb
    show b < (s.heap.push _).objs.size
    rw [Heap.size_push]
    rcases List.mem_cons.mp hb with rfl | hb
    · exact Nat.lt_succ_self _
    · rcases List.mem_cons.mp hb with rfl | hb
      · exact Nat.lt_succ_of_lt hlt
      · cases hb
  · intro i v hv
    exact hn i v (by simpa using hv)
  · intro s' t' hm
    have hg : Grow s s' := by
      refine ⟨fun b o e => hm.heap b o (fun hb => ?_) (Heap.get?_push_of_some _ e), fun h => ?_, hm.os⟩
      · rw [List.mem_singleton.mp hb, get_size] at e; cases e
      · have := hm.gens; rw [this]; exact h
    have e : preSum (fun i => is.getD i 0) vs.toArray.size = is.sum := by
      rw [preSum_getD, List.size_toArray, ← hlen, List.take_length]
    rw [e]
    exact hQ _ _ hg (.int ..)

theorem minOf_spec : ∀ {is : List Int} {m : Int}, minOf is = some m → m ∈ is ∧ ∀ a ∈ is, m ≤ a := by
  have key : ∀ (r : List Int) (x : Int), (r.foldl (fun a b => if b < a then b else a) x) ∈ x :: r ∧ ∀ a ∈ x :: r, r.foldl (fun a b => if b < a then b else a) x ≤ a := by
    intro r
    induction r with
    | nil => intro x; simp
    | cons y r ih =>
      intro x
      simp only [List.foldl_cons]
      obtain ⟨h1, h2⟩ := ih (if y < x then y else x)
      have h3 := h2 _ List.mem_cons_self
      refine ⟨?_, fun a ha => ?_⟩
      · rcases List.mem_cons.mp h1 with h | h
        · rw [h]; split
          · exact List.mem_cons_of_mem _ List.mem_cons_self
          · exact List.mem_cons_self
        · exact List.mem_cons_of_mem _ (List.mem_cons_of_mem _ h)
      · rcases List.mem_cons.mp ha with rfl | ha
        · refine Int.le_trans h3 ?_; split <;> omega
        · rcases List.mem_cons.mp ha with rfl | ha
          · refine Int.le_trans h3 ?_; split <;> omega
          · exact h2 a (List.mem_cons_of_mem _ ha)
  intro is m h
  cases is with
  | nil => cases h
  | cons x r => cases h; exact key r x

theorem min_ok {n : Nat} {l : Addr} {vs : List Value} {is : List Int} {m : Int} (r : Room n A) (hl : s.heap.IsList l vs.toArray) (hi : IntsAre vs is) (hm : minOf is = some m) :
    Giv (model prog w) A W s (call (.builtin "min") [.ref l]) (.int m) := by
  intro Q E hQ
  obtain ⟨m1, m2⟩ := minOf_spec hm
  obtain ⟨xs, e⟩ := hi.allInts.items
  have hns : is = xs.toList.map (·.1) := by rw [← hi.numsOf, ← nums_intItems, ← e]
  have hsz : 0 < xs.size := by
    have h3 : 0 < is.length := List.length_pos_of_mem m1
    rw [hns, List.length_map, Array.length_toList] at h3; exact h3
  rw [e] at hl
  refine min_intList r.h hl hsz fun v h' tk hv hk => ?_
  obtain ⟨t, rfl⟩ := intItems_at hv
  obtain ⟨h1, h2⟩ := argBest_lt (numAt xs) (xs.size - 1)
  have e2 : numAt xs (argBest (fun i j => decide (numAt xs i < numAt xs j)) (xs.size - 1)) = m := by
    refine Int.le_antisymm ?_ ?_
    · have : m ∈ xs.toList.map (·.1) := hns ▸ m1
      obtain ⟨p, hp, rfl⟩ := List.mem_map.mp this
      obtain ⟨j, hj, rfl⟩ := List.getElem_of_mem hp
      have hj' : j < xs.size := by simpa using hj
      have := h2 j (by omega)
      refine Int.le_trans this ?_
      simp [numAt, hj']
    · refine m2 _ ?_
      rw [hns]
      have hlt : argBest (fun i j => decide (numAt xs i < numAt xs j)) (xs.size - 1) < xs.size := by omega
      generalize argBest (fun i j => decide (numAt xs i < numAt xs j)) (xs.size - 1) = j at hlt
      exact List.mem_map.mpr ⟨xs[j], by simp, by simp [numAt, hlt]⟩
  rw [e2]
  exact hQ _ _ (.of hk) (.int ..)

theorem blt_ok {n : Nat} {f : Str} {as : List D} {d : D} {vs : List Value} (r : Room n A) (hp : pbuiltin f as = some d) (iv : IsAll W s.heap vs as) :
    ∃ fv, bltVal f = some fv ∧ ((∃ id, fv = .builtin id) ∨ ∃ T, fv = .type T) ∧ Giv (model prog w) A W s (call fv vs) d := by
  unfold pbuiltin at hp
  split at hp
  · rename_i hf
    refine ⟨.builtin "len", by rw [bltVal, if_pos hf], .inl ⟨_, rfl⟩, fun Q E hQ => ?_⟩
    split at hp
    · split at hp
      · cases hp
        obtain ⟨v, rfl, i⟩ := iv.one
        obtain ⟨t, rfl⟩ := i.str'
        exact P.len_str (by omega) (hQ _ _ (.toks ..) (.int ..))
      · cases hp
    · split at hp
      · rename_i xs hl
        cases hp
        obtain ⟨v, rfl, i⟩ := iv.one
        obtain ⟨l, vs, rfl, h1, h2, h3⟩ := i.list'
        have := h3.length
        refine call_len_list h2.isList (by simp; omega) ?_
        have e : vs.toArray.size = xs.length := by simp [h3.length]
        rw [e]
        exact hQ _ _ (.toks ..) (.int ..)
      · cases hp
    · cases hp
  · rename_i hf1
    split at hp
    · rename_i hf
      refine ⟨.builtin "sum", by rw [bltVal, if_neg hf1, if_pos hf], .inl ⟨_, rfl⟩, ?_⟩
      split at hp
      · split at hp
        · obtain ⟨v, rfl, i⟩ := iv.one
          obtain ⟨l, vs, rfl, h1, h2, h3⟩ := i.list'
          split at hp
          · rename_i is hi
            cases hp
            exact sum_ok r h2.isList (asInts_num h3 hi) (by rw [asInts_len hi, h3.length])
          · obtain ⟨bs, hb, rfl⟩ := Option.map_eq_some_iff.mp hp
            exact sum_ok r h2.isList (asBools_num h3 hb) (by rw [List.length_map, asBools_len hb, h3.length])
        · cases hp
      · cases hp
    · rename_i hf2
      split at hp
      · rename_i hf
        refine ⟨.builtin "min", by rw [bltVal, if_neg hf1, if_neg hf2, if_pos hf], .inl ⟨_, rfl⟩, ?_⟩
        split at hp
        · split at hp
          · obtain ⟨v, rfl, i⟩ := iv.one
            obtain ⟨l, vs, rfl, h1, h2, h3⟩ := i.list'
            obtain ⟨m, hm, rfl⟩ := Option.map_eq_some_iff.mp hp
            obtain ⟨is, hi, hm⟩ := Option.bind_eq_some_iff.mp hm
            exact min_ok r h2.isList (asInts_is h3 hi) hm
          · cases hp
        · cases hp
      · rename_i hf3
        split at hp
        · rename_i hf
          refine ⟨.type "int", by rw [bltVal, if_neg hf1, if_neg hf2, if_neg hf3, if_pos hf], .inr ⟨_, rfl⟩, fun Q E hQ => ?_⟩
          split at hp
          · cases hp
            obtain ⟨v, rfl, i⟩ := iv.one
            rw [i.bool']
            exact call_int_bool (hQ _ _ (.toks ..) (.int ..))
          · cases hp
        · cases hp

theorem find4 {x y : Str} {a b : Int} {t u v z : Tok} {Q E : Value → Shared → Prop} (ha : 0 ≤ a) (hb : 0 ≤ b) (hbl : b ≤ x.length)
    (h : Q (.int (match Builtin.Str.occurrences x y a.toNat b.toNat 1 with | i :: _ => (i : Int) | [] => -1) s.toks) { s with toks := s.toks + 1 }) :
    wpAny (model prog w) A (call (.builtin "str.find") [.str x t, .str y u, .int a v, .int b z]) Q E s := by
  refine call_gives F.slot_str_find (typeIs_str _ _ _) F.entry_str_find (F.args_str_find_4 _ _ _ _)
    (m := .int (match Builtin.Str.occurrences x y a.toNat b.toNat 1 with | i :: _ => (i : Int) | [] => -1)) ?_ h
  have e1 : (max 0 (if a < 0 then a + x.length else a)).toNat = a.toNat := by rw [if_neg (by omega)]; omega
  have e2 : min (max 0 (if b < 0 then b + x.length else b)).toNat x.length = b.toNat := by rw [if_neg (by omega)]; omega
  show PySem.Gives (match Builtin.Str.occurrences x y (max 0 (if a < 0 then a + x.length else a)).toNat (min (max 0 (if b < 0 then b + x.length else b)).toNat x.length) 1 with | k :: _ => PySem.retInt k | [] => (do rule "str.find.not-found"; PySem.retInt (-1))) _
  rw [e1, e2]
  cases Builtin.Str.occurrences x y a.toNat b.toNat 1 with
  | nil => exact .rule (.of_eq rfl)
  | cons k _ => exact .of_eq rfl

theorem split1 {x y : Str} {t u : Tok} {Q E : Value → Shared → Prop} (hy : (y.length == 0) = false)
    (hq : ∀ D l s', l.map (·.1) = Txt.split x y → Grow s s' → s.heap.get? D = none → s'.heap.PlainList D (strValues l).toArray → Q (.ref D) s')
    (hsz : x.length ≤ sizeLine) (hsz2 : (Builtin.Str.partsBetween x (Builtin.Str.occurrences x y 0 x.length (x.length + 1)) y.length).length ≤ sizeLine) :
    wpAny (model prog w) A (call (.builtin "str.split") [.str x t, .str y u]) Q E s := by
  cases h1 : (decide (x.length < y.length) || decide (Builtin.Str.strKind x < Builtin.Str.strKind y))
  · cases hf : (Builtin.Str.occurrences x y 0 x.length (x.length + 1)).isEmpty
    · refine call_meets F.slot_str_split (typeIs_str _ _ _) F.entry_str_split (F.args_str_split_2 _ _) (meets_str_split_sep x y t u h1 hy hf hsz hsz2) ?_
      show wants Q E _ { s with toks := _, heap := s.heap.push { cls := .type "list", data := .seq (strsFrom s.toks (Builtin.Str.partsBetween x (Builtin.Str.occurrences x y 0 x.length (x.length + 1)) y.length)).toArray } }
      rw [strsFrom_eq]
      exact hq _ (numbered s.toks _) _ ((numbered_texts _ _).trans ((if_neg (ne_true_of_eq_false h1)).trans (if_neg (ne_true_of_eq_false hf))).symm) (.push ..) (get_size _) ⟨_, Heap.get?_push_size _ rfl⟩
    · exact call_meets F.slot_str_split (typeIs_str _ _ _) F.entry_str_split (F.args_str_split_2 _ _) (meets_str_split_not_found x y t u h1 hy hf)
        (hq _ [(x, t)] _ ((if_neg (ne_true_of_eq_false h1)).trans (if_pos hf)).symm (.push _ _ s.toks) (get_size _) ⟨_, Heap.get?_push_size _ rfl⟩)
  · exact call_meets F.slot_str_split (typeIs_str _ _ _) F.entry_str_split (F.args_str_split_2 _ _) (meets_str_split_cannot_occur x y t u h1)
      (hq _ [(x, t)] _ (if_pos h1).symm (.push _ _ s.toks) (get_size _) ⟨_, Heap.get?_push_size _ rfl⟩)

theorem strValues_is {h : Heap} : ∀ l : List (Str × Tok), IsAll W h (strValues l) ((l.map (·.1)).map .str)
  | [] => .nil
  | (x, t) :: l => .cons (.str x t) (strValues_is l)

theorem joinOk_of {x : Str} {ts : List Str} (h1 : x.length ≤ 100) (h2 : ts.length ≤ 100) (h3 : ∀ t ∈ ts, t.length ≤ 1000) : JoinOk x ts = true := by
  have := StrLaws.joinFits (sep := x) (texts := ts) (B := 1000) h3 (by
    have : ts.length * x.length ≤ 100 * 100 := Nat.mul_le_mul h2 h1
    omega)
  unfold JoinOk
  rw [this]; rfl

noncomputable def methId (f : Str) : String :=
  if f = "split" then "str.split" else if f = "startswith" then "str.startswith" else if f = "endswith" then "str.endswith" else if f = "find" then "str.find" else "str.join"
theorem meth_get {f : Str} {self d : D} {as : List D} (hp : pmethod f self as = some d) : ∃ x, self = .str x ∧ ∀ (M : Model) (A : Around) (pl : Sem Bool) (t : Tok) (s : Shared) (Q : Value × List Value → Shared → Prop) (E : Value → Shared → Prop), Q (.builtin (methId f), [.str x t]) s → wpAny M A (getMethod (.str x t) f pl) Q E s := by
  unfold pmethod at hp
  split at hp
  · rename_i hf; subst hf
    split at hp
    · exact ⟨_, rfl, fun M A pl t s Q E h => GM.split h⟩
    · cases hp
  · split at hp
    · rename_i hf; subst hf
      split at hp
      · exact ⟨_, rfl, fun M A pl t s Q E h => GM.startswith h⟩
      · cases hp
    · split at hp
      · rename_i hf; subst hf
        split at hp
        · exact ⟨_, rfl, fun M A pl t s Q E h => GM.endswith h⟩
        · cases hp
      · split at hp
        · rename_i hf; subst hf
          split at hp
          · exact ⟨_, rfl, fun M A pl t s Q E h => GM.find h⟩
          · cases hp
        · split at hp
          · rename_i hf; subst hf
            split at hp
            · exact ⟨_, rfl, fun M A pl t s Q E h => GM.join h⟩
            · cases hp
          · cases hp

/-- a method of a str, by its name -/
theorem meth_ok {n : Nat} {f : Str} {self d : D} {as : List D} {v : Value} {vs : List Value} (r : Room n A) (hp : pmethod f self as = some d) (lv : Live W s.heap) (i : Is W s.heap v self) (is : IsAll W s.heap vs as) :
    Giv (model prog w) A W s (call (.builtin (methId f)) (v :: vs)) d := by
  unfold pmethod at hp
  split at hp
  · rename_i hf
    subst hf
    split at hp
    · split at hp
      · rename_i x y hl
        simp only [Bool.and_eq_true, decide_eq_true_eq, ne_eq] at hl
        cases hp
        obtain ⟨t, rfl⟩ := i.str'
        obtain ⟨v, rfl, j⟩ := is.one
        obtain ⟨u, rfl⟩ := j.str'
        intro Q E hQ
        show wpAny _ _ (call (.builtin "str.split") _) _ _ _
        refine split1 (by simpa using hl.2) (fun D l s' hl' g hD hpl => hQ _ _ g ?_) (by unfold sizeLine; omega) ?_
        · rw [← hl']
          exact .list (lv.fresh hD) hpl (strValues_is l)
        · rw [length_partsBetween]
          have := StrLaws.occ_length_le x y 0 x.length (x.length + 1)
          unfold sizeLine; omega
      · cases hp
    · cases hp
  · split at hp
    · rename_i hf
      subst hf
      split at hp
      · cases hp
        obtain ⟨t, rfl⟩ := i.str'
        obtain ⟨v, rfl, j⟩ := is.one
        obtain ⟨u, rfl⟩ := j.str'
        exact fun Q E hQ => SC.startswith (hQ _ _ (.refl _) (.bool _))
      · cases hp
    · split at hp
      · rename_i hf
        subst hf
        split at hp
        · cases hp
          obtain ⟨t, rfl⟩ := i.str'
          obtain ⟨v, rfl, j⟩ := is.one
          obtain ⟨u, rfl⟩ := j.str'
          exact fun Q E hQ => SC.endswith (hQ _ _ (.refl _) (.bool _))
        · cases hp
      · split at hp
        · rename_i hf
          subst hf
          split at hp
          · split at hp
            · rename_i hl
              simp only [Bool.and_eq_true, decide_eq_true_eq] at hl
              cases hp
              obtain ⟨t, rfl⟩ := i.str'
              obtain ⟨v1, v2, v3, rfl, j1, j2, j3⟩ := is.three
              obtain ⟨u, rfl⟩ := j1.str'
              obtain ⟨_, rfl⟩ := j2.int'
              obtain ⟨_, rfl⟩ := j3.int'
              exact fun Q E hQ => find4 (by omega) (by omega) (by omega) (hQ _ _ (.toks ..) (.int ..))
            · cases hp
          · cases hp
        · split at hp
          · rename_i hf
            subst hf
            split at hp
            · split at hp
              · split at hp
                · rename_i ts hts hl
                  simp only [Bool.and_eq_true, decide_eq_true_eq, List.all_eq_true] at hl
                  cases hp
                  obtain ⟨t, rfl⟩ := i.str'
                  obtain ⟨v, rfl, j⟩ := is.one
                  obtain ⟨l, vs, rfl, h1, h2, h3⟩ := j.list'
                  obtain ⟨l', rfl, rfl⟩ := asStrs_is h3 hts
                  exact fun Q E hQ => SC.join h2.isList rfl (joinOk_of hl.1.1 hl.1.2 hl.2) fun t' k => hQ _ _ (.toks ..) (.str ..)
                · cases hp
              · cases hp
            · cases hp
          · cases hp
end
end Mine
end

section
set_option maxRecDepth 100000
set_option linter.unusedVariables false
namespace Mine
open PySem PySem.W PyProof.Rows PySem.Calls

/-! the cells of a block -/
theorem cellsFrom_other {x : Str} : ∀ (names : List (Str × NameKind)) (n : Nat) (acc : List (Str × Addr)), (∀ p ∈ names, p.1 = x → p.2 ≠ .cell) → (cellsFrom n names acc).lookup x = acc.lookup x
  | [], _, _, _ => rfl
  | (y, k) :: r, n, acc, h => by
    unfold cellsFrom
    have hr : ∀ p ∈ r, p.1 = x → p.2 ≠ .cell := fun p hp => h p (List.mem_cons_of_mem _ hp)
    split
    · rename_i hk
      rw [cellsFrom_other r _ _ hr]
      have hxy : x ≠ y := fun e => h (y, k) List.mem_cons_self e.symm (by simpa using hk)
      rw [List.lookup_cons]
      have : (x == y) = false := by simpa using hxy
      rw [this]
    · exact cellsFrom_other r _ _ hr

/-- own cells: fresh ones, or what was there before -/
theorem cellsFrom_mem : ∀ (names : List (Str × NameKind)) (n : Nat) (acc : List (Str × Addr)) (x : Str) (c : Addr), (x, c) ∈ cellsFrom n names acc → (x, c) ∈ acc ∨ ((x, NameKind.cell) ∈ names ∧ n ≤ c)
  | [], _, _, _, _, h => .inl h
  | (y, k) :: r, n, acc, x, c, h => by
    unfold cellsFrom at h
    split at h
    · rename_i hk
      rcases cellsFrom_mem r _ _ x c h with h1 | ⟨h1, h2⟩
      · rcases List.mem_cons.mp h1 with e | h1
        · cases e
          have : k = .cell := by simpa using hk
          subst this
          exact .inr ⟨List.mem_cons_self, Nat.le_refl _⟩
        · exact .inl h1
      · exact .inr ⟨List.mem_cons_of_mem _ h1, by omega⟩
    · rcases cellsFrom_mem r _ _ x c h with h1 | ⟨h1, h2⟩
      · exact .inl h1
      · exact .inr ⟨List.mem_cons_of_mem _ h1, h2⟩

/-- laid cells: each stands empty, above n -/
theorem cellsFrom_laid : ∀ (names : List (Str × NameKind)) (h : Heap) (acc : List (Str × Addr)) (x : Str) (c : Addr), (x, c) ∈ cellsFrom h.objs.size names acc → (x, c) ∈ acc ∨ ((pushCells h names).IsCell c none ∧ h.get? c = none)
  | [], _, _, _, _, h => .inl h
  | (y, k) :: r, h, acc, x, c, hm => by
    unfold cellsFrom at hm
    unfold pushCells
    split at hm
    · rename_i hk
      rw [if_pos hk]
      have hs : h.objs.size + 1 = (h.push { cls := .type "cell", data := .cell none }).objs.size := (Heap.size_push ..).symm
      rw [hs] at hm
      rcases cellsFrom_laid r _ _ x c hm with h1 | ⟨h1, h2⟩
      · rcases List.mem_cons.mp h1 with e | h1
        · cases e
          exact .inr ⟨⟨_, pushCells_keeps _ _ _ _ (Heap.get?_push_size _ rfl), rfl⟩, get_size h⟩
        · exact .inl h1
      · refine .inr ⟨h1, ?_⟩
        cases e : h.get? c with
        | none => rfl
        | some o => rw [Heap.get?_push_of_some _ e] at h2; cases h2
    · rename_i hk
      rw [if_neg hk]
      exact cellsFrom_laid r _ _ x c hm
theorem cellsFrom_apart (names : List (Str × NameKind)) : ∀ (h : Heap) (acc : List (Str × Addr)), (∀ p ∈ acc, ∃ o, h.get? p.2 = some o) → acc.Pairwise (fun x y => x.2 ≠ y.2) → (cellsFrom h.objs.size names acc).Pairwise fun x y => x.2 ≠ y.2 := by
  induction names with
  | nil => intro h acc _ hp; exact hp
  | cons q r ih =>
    obtain ⟨y, k⟩ := q
    intro h acc hl hp
    unfold cellsFrom
    split
    · have hs : h.objs.size + 1 = (h.push { cls := .type "cell", data := .cell none }).objs.size := (Heap.size_push ..).symm
      rw [hs]
      refine ih _ _ (fun p hp' => ?_) (List.pairwise_cons.mpr ⟨fun p hp' e => ?_, hp⟩)
      · rcases List.mem_cons.mp hp' with rfl | hp'
        · exact ⟨_, Heap.get?_push_size _ rfl⟩
        · obtain ⟨o, ho⟩ := hl p hp'; exact ⟨o, Heap.get?_push_of_some _ ho⟩
      · obtain ⟨o, ho⟩ := hl p hp'
        have e' : p.2 = h.objs.size := e.symm
        rw [e', get_size] at ho; cases ho
    · exact ih h acc hl hp
theorem cellsFrom_some {x : Str} : ∀ (names : List (Str × NameKind)) (n : Nat) (acc : List (Str × Addr)), (x, NameKind.cell) ∈ names → ∃ c, (cellsFrom n names acc).lookup x = some c
  | [], _, _, h => nomatch h
  | (y, k) :: r, n, acc, h => by
    unfold cellsFrom
    by_cases hin : (x, NameKind.cell) ∈ r
    · split
      · exact cellsFrom_some r _ _ hin
      · exact cellsFrom_some r _ _ hin
    · rcases List.mem_cons.mp h with e | h
      · cases e
        rw [if_pos (by rfl), cellsFrom_other r _ _ (fun p hp e hk => hin (by obtain ⟨p1, p2⟩ := p; simp only at e hk; subst e hk; exact hp))]
        exact ⟨n, by simp⟩
      · exact absurd h hin
theorem lookup_mem {α : Type} : ∀ {l : List (Str × α)} {x : Str} {a : α}, l.lookup x = some a → (x, a) ∈ l := fun h => mem_of_lookup h
theorem mem_lookup_nodup {α : Type} : ∀ {l : List (Str × α)} {x : Str} {a : α}, (l.map (·.1)).Nodup → (x, a) ∈ l → l.lookup x = some a
  | [], _, _, _, h => nomatch h
  | (y, b) :: r, x, a, hn, h => by
    simp only [List.map_cons, List.nodup_cons] at hn
    rw [List.lookup_cons]
    rcases List.mem_cons.mp h with e | h
    · cases e; simp
    · have : x ≠ y := fun e => hn.1 (e ▸ List.mem_map.mpr ⟨_, h, rfl⟩)
      have : (x == y) = false := by simpa using this
      rw [this]
      exact mem_lookup_nodup hn.2 h

/-- what a comprehension closes over -/
noncomputable def closOf (env : Env) : List (Str × NameKind) → List (Str × Addr) → List (Str × Addr)
  | [], acc => acc
  | (x, k) :: r, acc => if k == .free then closOf env r ((x, (env.cells.lookup x).getD 0) :: acc) else closOf env r acc
theorem closureFor_is {scope : Scope} {env : Env} (h : ∀ p ∈ scope.names, p.2 = .free → ∃ c, env.cells.lookup p.1 = some c) : closureFor scope env = pure (closOf env scope.names []) := by
  have key : ∀ (names : List (Str × NameKind)) (acc : List (Str × Addr)), (∀ p ∈ names, p.2 = NameKind.free → ∃ c, env.cells.lookup p.1 = some c) →
      (forIn names acc fun (x : Str × NameKind) (cs : List (Str × Addr)) => (match x with | (name, kind) => if (kind == .free) = true then (do let a ← cellOf env name; pure (ForInStep.yield ((name, a) :: cs))) else pure (ForInStep.yield cs) : Sem (ForInStep (List (Str × Addr))))) = pure (closOf env names acc) := by
    intro names
    induction names with
    | nil => intro acc _; rfl
    | cons p r ih =>
      obtain ⟨x, k⟩ := p
      intro acc hp
      rw [List.forIn_cons]
      have hr := ih
      unfold closOf
      by_cases hk : (k == NameKind.free) = true
      · obtain ⟨c, hc⟩ := hp (x, k) List.mem_cons_self (by simpa using hk)
        simp only [hk, if_true]
        have hco : cellOf env x = pure c := by unfold cellOf; rw [hc]
        rw [hco]
        simp only [pure_bind]
        rw [ih _ fun q hq => hp q (List.mem_cons_of_mem _ hq), hc]
        rfl
      · simp only [hk]
        simp only [Bool.false_eq_true, if_false, pure_bind]
        exact ih _ fun q hq => hp q (List.mem_cons_of_mem _ hq)
  have := key scope.names [] h
  show (forIn scope.names [] (fun (x : Str × NameKind) (cs : List (Str × Addr)) => (match x with | (name, kind) => if (kind == .free) = true then (do let a ← cellOf env name; pure (ForInStep.yield ((name, a) :: cs))) else pure (ForInStep.yield cs) : Sem (ForInStep (List (Str × Addr))))) >>= fun cs => pure cs) = _
  rw [this]
  rfl

theorem cellsFrom_append : ∀ (names : List (Str × NameKind)) (n : Nat) (acc : List (Str × Addr)), cellsFrom n names acc = cellsFrom n names [] ++ acc
  | [], _, _ => rfl
  | (y, k) :: r, n, acc => by
    unfold cellsFrom
    split
    · rw [cellsFrom_append r _ ((y, n) :: acc), cellsFrom_append r _ [(y, n)], List.append_assoc]; rfl
    · exact cellsFrom_append r n acc
theorem closOf_other {env : Env} {x : Str} : ∀ (names : List (Str × NameKind)) (acc : List (Str × Addr)), (∀ p ∈ names, p.1 = x → p.2 ≠ .free) → (closOf env names acc).lookup x = acc.lookup x
  | [], _, _ => rfl
  | (y, k) :: r, acc, h => by
    unfold closOf
    have hr : ∀ p ∈ r, p.1 = x → p.2 ≠ .free := fun p hp => h p (List.mem_cons_of_mem _ hp)
    split
    · rename_i hk
      rw [closOf_other r _ hr]
      have hxy : x ≠ y := fun e => h (y, k) List.mem_cons_self e.symm (by simpa using hk)
      rw [List.lookup_cons]
      have : (x == y) = false := by simpa using hxy
      rw [this]
    · exact closOf_other r _ hr
theorem closOf_free {env : Env} {x : Str} {c : Addr} (hc : env.cells.lookup x = some c) : ∀ (names : List (Str × NameKind)) (acc : List (Str × Addr)), (x, NameKind.free) ∈ names → (closOf env names acc).lookup x = some c
  | [], _, h => nomatch h
  | (y, k) :: r, acc, h => by
    unfold closOf
    by_cases hin : (x, NameKind.free) ∈ r
    · split
      · exact closOf_free hc r _ hin
      · exact closOf_free hc r _ hin
    · rcases List.mem_cons.mp h with e | h
      · cases e
        rw [if_pos (by rfl), closOf_other r _ (fun p hp e hk => hin (by obtain ⟨p1, p2⟩ := p; simp only at e hk; subst e hk; exact hp))]
        simp [hc]
      · exact absurd h hin
theorem closOf_mem {env : Env} : ∀ (names : List (Str × NameKind)) (acc : List (Str × Addr)) (x : Str) (c : Addr), (x, c) ∈ closOf env names acc → (x, c) ∈ acc ∨ ((x, NameKind.free) ∈ names ∧ c = (env.cells.lookup x).getD 0)
  | [], _, _, _, h => .inl h
  | (y, k) :: r, acc, x, c, h => by
    unfold closOf at h
    split at h
    · rename_i hk
      rcases closOf_mem r _ x c h with h1 | ⟨h1, h2⟩
      · rcases List.mem_cons.mp h1 with e | h1
        · cases e
          have : k = .free := by simpa using hk
          subst this
          exact .inr ⟨List.mem_cons_self, rfl⟩
        · exact .inl h1
      · exact .inr ⟨List.mem_cons_of_mem _ h1, h2⟩
    · rcases closOf_mem r _ x c h with h1 | ⟨h1, h2⟩
      · exact .inl h1
      · exact .inr ⟨List.mem_cons_of_mem _ h1, h2⟩

theorem kind_relab (csc sc : Scope) (x : Str) : kindIn (relab csc sc) x = (kindIn csc x).map fun k => if (k == .free && sc.kind == .function && kindIn sc x == some .cell) then .cell else k := by
  unfold kindIn relab
  simp only
  induction csc.names with
  | nil => rfl
  | cons p r ih =>
    obtain ⟨y, k⟩ := p
    simp only [List.map_cons]
    by_cases hxy : x = y
    · subst hxy
      split
      · rename_i h; simp [kindIn] at h; simp [h]
      · rename_i h; simp only [kindIn] at h; simp only [List.lookup_cons, beq_self_eq_true, Option.map_some]; rw [if_neg h]
    · have : (x == y) = false := by simpa using hxy
      split <;> simp only [List.lookup_cons, this] <;> exact ih

theorem nodup_ok : ∀ {l : List Str}, nodup l = true → l.Nodup
  | [], _ => List.nodup_nil
  | x :: r, h => by
    unfold nodup at h
    simp only [Bool.and_eq_true, Bool.not_eq_true', List.contains_eq_mem] at h
    exact List.nodup_cons.mpr ⟨by simpa using h.1, nodup_ok h.2⟩

theorem lookup_filter {α : Type} (p : Str → Bool) : ∀ {l : List (Str × α)} {x : Str} {a : α}, (l.filter fun q => p q.1).lookup x = some a → p x = true ∧ l.lookup x = some a
  | [], _, _, h => by simp at h
  | (y, b) :: r, x, a, h => by
    by_cases hy : p y = true
    · rw [List.filter_cons_of_pos (by exact hy), List.lookup_cons] at h
      rw [List.lookup_cons]
      cases hxy : x == y with
      | true => rw [hxy] at h; have : x = y := by simpa using hxy
                subst this; exact ⟨hy, h⟩
      | false => rw [hxy] at h; exact lookup_filter p h
    · rw [List.filter_cons_of_neg (by exact hy)] at h
      obtain ⟨h1, h2⟩ := lookup_filter p h
      refine ⟨h1, ?_⟩
      rw [List.lookup_cons]
      have : (x == y) = false := by
        cases hxy : x == y with
        | true => have : x = y := by simpa using hxy
                  subst this; exact absurd h1 hy
        | false => rfl
      rw [this]; exact h2

/-- the block that a comprehension runs in -/
noncomputable def cenvOf (csc : Scope) (env : Env) (C : Addr) : Env :=
  { scope := relab csc env.scope, locals := C, globals := env.globals, cells := cellsFrom (C + 1) csc.names (closOf env csc.names []), qual := env.qual, func := none, code := env.code, frame := env.frame, builtins := env.builtins }
noncomputable def cenvW (csc : Scope) (C : Addr) (W : List Addr) : List Addr := (C :: (cellsFrom (C + 1) csc.names []).map (·.2)) ++ W
noncomputable def chHeap (csc : Scope) (h : Heap) : Heap := pushCells (h.push { cls := .type "dict", data := .dict #[] }) csc.names

theorem chHeap_keep (csc : Scope) (h : Heap) : Kp h (chHeap csc h) := fun b o e => pushCells_keeps _ _ b o (Heap.get?_push_of_some _ e)
theorem cenvW_fresh (csc : Scope) (h : Heap) : ∀ a ∈ (h.objs.size :: (cellsFrom (h.objs.size + 1) csc.names []).map (·.2)), h.get? a = none ∧ ∃ o, (chHeap csc h).get? a = some o := by
  intro a ha
  rcases List.mem_cons.mp ha with rfl | ha
  · exact ⟨get_size h, _, pushCells_keeps _ _ _ _ (Heap.get?_push_size _ rfl)⟩
  · obtain ⟨⟨x, c⟩, hm, rfl⟩ := List.mem_map.mp ha
    have hs : h.objs.size + 1 = (h.push { cls := .type "dict", data := .dict #[] }).objs.size := (Heap.size_push ..).symm
    rw [hs] at hm
    rcases cellsFrom_laid csc.names _ [] x c hm with h1 | ⟨⟨o, ho, _⟩, h2⟩
    · cases h1
    · refine ⟨?_, o, ho⟩
      cases e : h.get? c with
      | none => rfl
      | some o => rw [Heap.get?_push_of_some _ e] at h2; cases h2

theorem comp_env {mg mb : Str → Option Value} {n : Nat} {A : Around} {W : List Addr} {s : Shared} {env : Env} {ρ : Rho} {csc : Scope} (c : Cx mg mb n A W s env ρ) (ok : compOk csc env.scope = true) (tk : Nat) :
    Cx mg mb n A (cenvW csc s.heap.objs.size W) { s with heap := chHeap csc s.heap, toks := tk } (cenvOf csc env s.heap.objs.size) (freeOnly csc ρ) := by
  simp only [compOk, Bool.and_eq_true, beq_iff_eq, List.all_eq_true, Bool.or_eq_true, bne_iff_ne, ne_eq] at ok
  obtain ⟨⟨hk, hnd⟩, hfree⟩ := ok
  have hnd := nodup_ok hnd
  have K := chHeap_keep csc s.heap
  have fr := cenvW_fresh csc s.heap
  have hs : s.heap.objs.size + 1 = (s.heap.push { cls := .type "dict", data := .dict #[] }).objs.size := (Heap.size_push ..).symm
  -- the cell of a name
  have cellOwn : ∀ x, kindIn csc x = some .cell → ∃ a, (cenvOf csc env s.heap.objs.size).cells.lookup x = some a ∧ (chHeap csc s.heap).IsCell a none := by
    intro x hx
    have hm := lookup_mem hx
    obtain ⟨a, ha⟩ := cellsFrom_some csc.names (s.heap.objs.size + 1) (closOf env csc.names []) hm
    refine ⟨a, ha, ?_⟩
    have hm2 := lookup_mem ha
    rw [hs] at hm2
    rcases cellsFrom_laid csc.names _ _ x a hm2 with h1 | ⟨h1, _⟩
    · rcases closOf_mem _ _ x a h1 with h1 | ⟨h1, _⟩
      · cases h1
      · have e1 := mem_lookup_nodup hnd h1
        have e2 := mem_lookup_nodup hnd hm
        rw [e1] at e2; cases e2
    · exact h1
  have cellFree : ∀ x, kindIn csc x = some .free → ∃ a, env.cells.lookup x = some a ∧ (cenvOf csc env s.heap.objs.size).cells.lookup x = some a ∧ (env.kindOf x = some .cell ∨ env.kindOf x = some .free) := by
    intro x hx
    have hm := lookup_mem hx
    have hv : env.kindOf x = some .cell ∨ env.kindOf x = some .free := by
      rcases hfree (x, .free) hm with h1 | h1
      · exact absurd rfl h1
      · exact h1
    obtain ⟨a, v, ha, _⟩ := c.S.cell x hv
    refine ⟨a, ha, ?_, hv⟩
    show (cellsFrom _ csc.names (closOf env csc.names [])).lookup x = some a
    rw [cellsFrom_other]
    · exact closOf_free ha csc.names [] hm
    · rintro ⟨y, k⟩ hp rfl hk2
      simp only at hk2; subst hk2
      have e1 := mem_lookup_nodup hnd hp
      have e2 := mem_lookup_nodup hnd hm
      rw [e1] at e2; cases e2
  have kinds : ∀ x, (cenvOf csc env s.heap.objs.size).kindOf x = some .cell ∨ (cenvOf csc env s.heap.objs.size).kindOf x = some .free → kindIn csc x = some .cell ∨ kindIn csc x = some .free := by
    intro x hx
    have e : (cenvOf csc env s.heap.objs.size).kindOf x = kindIn (relab csc env.scope) x := rfl
    rw [e, kind_relab] at hx
    cases hkx : kindIn csc x with
    | none => rw [hkx] at hx; simp at hx
    | some k =>
      rw [hkx] at hx
      cases k <;> simp at hx ⊢
  refine ⟨c.room, (c.gd.more fun a ha => (fr a ha).1).keep K, ⟨hk, c.S.glob, c.S.bltn, ?_, ?_, ?_⟩, ?_, ?_, ?_⟩
  · exact ⟨_, (Heap.Ns.new s.heap (.type "dict")).keeps (pushCells_keeps _ _)⟩
  · intro x hx
    rcases kinds x hx with h1 | h1
    · obtain ⟨a, h2, h3⟩ := cellOwn x h1
      exact ⟨a, _, h2, h3⟩
    · obtain ⟨a, h2, h3, h4⟩ := cellFree x h1
      obtain ⟨a', v, h5, h6⟩ := c.S.cell x h4
      rw [h2] at h5; cases h5
      exact ⟨a, v, h3, h6.keeps K⟩
  · intro x y a hx hy
    have hx' := lookup_mem hx
    have hy' := lookup_mem hy
    have cases1 : ∀ x, (x, a) ∈ (cenvOf csc env s.heap.objs.size).cells → ((x, a) ∈ closOf env csc.names []) ∨ s.heap.get? a = none := by
      intro x hm
      have hm : (x, a) ∈ cellsFrom (s.heap.objs.size + 1) csc.names (closOf env csc.names []) := hm
      rw [hs] at hm
      rcases cellsFrom_laid csc.names _ _ x a hm with h1 | ⟨_, h2⟩
      · exact .inl h1
      · right
        cases e : s.heap.get? a with
        | none => rfl
        | some o => rw [Heap.get?_push_of_some _ e] at h2; cases h2
    have clos : ∀ x, (x, a) ∈ closOf env csc.names [] → env.cells.lookup x = some a := by
      intro x hm
      rcases closOf_mem _ _ x a hm with h1 | ⟨h1, h2⟩
      · cases h1
      · obtain ⟨b, h3, _, _⟩ := cellFree x (mem_lookup_nodup hnd h1)
        rw [h3] at h2; rw [h3, h2]; rfl
    have live : ∀ x, env.cells.lookup x = some a → ∃ o, s.heap.get? a = some o := fun x hx => c.live a (c.w.cel x a hx)
    rcases cases1 x hx' with h1 | h1
    · have e1 := clos x h1
      rcases cases1 y hy' with h2 | h2
      · exact c.S.inj x y a e1 (clos y h2)
      · obtain ⟨o, ho⟩ := live x e1; rw [h2] at ho; cases ho
    · rcases cases1 y hy' with h2 | h2
      · obtain ⟨o, ho⟩ := live y (clos y h2); rw [h1] at ho; cases ho
      · -- both laid: apart
        have hm1 : (x, a) ∈ cellsFrom (s.heap.objs.size + 1) csc.names [] := by
          have hm : (x, a) ∈ cellsFrom (s.heap.objs.size + 1) csc.names (closOf env csc.names []) := hx'
          rw [cellsFrom_append] at hm
          rcases List.mem_append.mp hm with q | q
          · exact q
          · obtain ⟨o, ho⟩ := live x (clos x q); rw [h1] at ho; cases ho
        have hm2 : (y, a) ∈ cellsFrom (s.heap.objs.size + 1) csc.names [] := by
          have hm : (y, a) ∈ cellsFrom (s.heap.objs.size + 1) csc.names (closOf env csc.names []) := hy'
          rw [cellsFrom_append] at hm
          rcases List.mem_append.mp hm with q | q
          · exact q
          · obtain ⟨o, ho⟩ := live y (clos y q); rw [h1] at ho; cases ho
        have ap : (cellsFrom (s.heap.objs.size + 1) csc.names []).Pairwise fun x y => x.2 ≠ y.2 := by
          rw [hs]; exact cellsFrom_apart csc.names _ [] (fun p hp => by cases hp) .nil
        exact name_of_addr ap hm1 hm2
  · intro x d hx hv
    obtain ⟨h1, h2⟩ := lookup_filter (fun y => kindIn csc y == some .free) hx
    have h1 : kindIn csc x = some .free := by simpa using h1
    obtain ⟨a, h3, h4, h5⟩ := cellFree x h1
    obtain ⟨v, sl, iv⟩ := c.D x d h2 (by rcases h5 with h5 | h5; exact .inr (.inl h5); exact .inr (.inr h5))
    refine ⟨v, .inr ⟨?_, a, h4, ?_⟩, ?_⟩
    · have e : (cenvOf csc env s.heap.objs.size).kindOf x = kindIn (relab csc env.scope) x := rfl
      rw [e, kind_relab, h1]
      simp only [Option.map_some]
      split <;> simp
    · rcases sl with ⟨e, _⟩ | ⟨_, a', e1, e2⟩
      · rcases h5 with h5 | h5 <;> rw [h5] at e <;> cases e
      · rw [h3] at e1; cases e1; exact e2.keeps K
    · exact (iv.more fun a ha => (fr a ha).1).keep K
  · refine ⟨List.mem_append_left _ List.mem_cons_self, fun x a hx => ?_⟩
    have hm := lookup_mem hx
    have hm : (x, a) ∈ cellsFrom (s.heap.objs.size + 1) csc.names (closOf env csc.names []) := hm
    rw [cellsFrom_append] at hm
    rcases List.mem_append.mp hm with q | q
    · exact List.mem_append_left _ (List.mem_cons_of_mem _ (List.mem_map.mpr ⟨_, q, rfl⟩))
    · rcases closOf_mem _ _ x a q with h1 | ⟨h1, h2⟩
      · cases h1
      · obtain ⟨b, h3, _, _⟩ := cellFree x (mem_lookup_nodup hnd h1)
        rw [h3] at h2; cases h2
        exact List.mem_append_right _ (c.w.cel x b h3)
  · intro a ha
    rcases List.mem_append.mp ha with q | q
    · exact (fr a q).2
    · obtain ⟨o, ho⟩ := c.live a q; exact ⟨o, K _ _ ho⟩
end Mine
end

section
set_option maxRecDepth 100000
set_option linter.unusedVariables false
namespace Mine
open PySem PySem.W PyProof.Rows PySem.Calls

/-- only objects of Ch may have changed -/
structure Mov (Ch : List Addr) (s s' : Shared) : Prop where
  keep : ∀ b o, b ∉ Ch → s.heap.get? b = some o → s'.heap.get? b = some o
  gens : ∀ {q}, GOk q s.gens → GOk q s'.gens
  os : s'.os = s.os
theorem Mov.refl (Ch : List Addr) (s : Shared) : Mov Ch s s := ⟨fun _ _ _ e => e, id, rfl⟩
theorem Mov.trans {Ch : List Addr} {a b c : Shared} (x : Mov Ch a b) (y : Mov Ch b c) : Mov Ch a c := ⟨fun p o h e => y.keep p o h (x.keep p o h e), fun h => y.gens (x.gens h), y.os.trans x.os⟩
theorem Grow.mov {s s' : Shared} (g : Grow s s') (Ch : List Addr) : Mov Ch s s' := ⟨fun b o _ e => g.keep b o e, g.gens, g.os⟩
theorem Mov.mono {Ch Ch' : List Addr} {s s' : Shared} (x : Mov Ch s s') (h : ∀ a ∈ Ch, a ∈ Ch') : Mov Ch' s s' := ⟨fun b o hb e => x.keep b o (fun q => hb (h b q)) e, x.gens, x.os⟩
theorem Mov.off {Ch W : List Addr} {s s' : Shared} (x : Mov Ch s s') (h : ∀ a ∈ Ch, a ∈ W) : OffW W s.heap s'.heap := fun b o hb e => x.keep b o (fun q => hb (h b q)) e
theorem Mov.grow {Ch : List Addr} {s s' : Shared} (x : Mov Ch s s') (h : ∀ a ∈ Ch, s.heap.get? a = none) : Grow s s' := ⟨fun b o e => x.keep b o (fun q => by rw [h b q] at e; cases e) e, x.gens, x.os⟩

noncomputable def OwnK (own : Str → Bool) (env : Env) : Prop := ∀ x, own x = true → env.kindOf x = some .local ∨ env.kindOf x = some .cell
structure OwnCh (own : Str → Bool) (env : Env) (Ch : List Addr) : Prop where
  loc : env.locals ∈ Ch
  cel : ∀ x a, own x = true → env.cells.lookup x = some a → a ∈ Ch

section
variable {prog : Program} {w : World} {A : Around} {s : Shared} {W Ch : List Addr} {mg mb : Str → Option Value} {n : Nat} {env : Env} {ρ ρ' : Rho} {own : Str → Bool}

theorem Cx.moved {s' : Shared} (c : Cx mg mb n A W s env ρ) (gd : GdW mg mb W s'.heap) (S : EnvS s'.heap env) (D : EnvD W s'.heap env ρ') (lv : Live W s'.heap) : Cx mg mb n A W s' env ρ' := ⟨c.room, gd, S, D, c.w, lv⟩

theorem store_ok {x : Str} {v : Value} {d : D} (c : Cx mg mb n A W s env ρ) (hx : env.kindOf x = some .local ∨ env.kindOf x = some .cell) (oc : OwnCh own env Ch) (ho : own x = true) (hCh : ∀ a ∈ Ch, a ∈ W)
    (iv : Is W s.heap v d) (Q : Unit → Shared → Prop) (E : Value → Shared → Prop)
    (hQ : ∀ s', Mov Ch s s' → Cx mg mb n A W s' env ((x, d) :: ρ) → (∀ ρ₀, ρ₀.lookup x = none → EnvD W s.heap env ρ₀ → EnvD W s'.heap env ρ₀) → Q () s') : wpAny (model prog w) A (storeName env x v) Q E s := by
  refine slot_store c.S hx fun a s' ha hs hg ho' S' sl ot lv' => ?_
  have haCh : a ∈ Ch := by
    rcases ha with rfl | ha
    · exact oc.loc
    · exact oc.cel x a ho ha
  have mv : Mov Ch s s' := ⟨fun b o hb e => (hs.2 b (fun q => hb (q ▸ haCh))).trans e, fun h => by rw [hg]; exact h, ho'⟩
  have off := mv.off hCh
  refine hQ s' mv (c.moved (c.gd.off off) S' ?_ ?_) ?_
  · intro y e hy hv
    rw [List.lookup_cons] at hy
    by_cases hyx : y = x
    · subst hyx
      simp only [beq_self_eq_true, Option.some.injEq] at hy
      subst hy
      exact ⟨v, sl, iv.off off⟩
    · have : (y == x) = false := by simpa using hyx
      rw [this] at hy
      obtain ⟨u, h1, h2⟩ := c.D y e hy hv
      exact ⟨u, ot y u hyx h1, h2.off off⟩
  · intro b hb
    by_cases hba : b = a
    · subst hba; exact lv'
    · obtain ⟨o, ho⟩ := c.live b hb
      exact ⟨o, (hs.2 b hba).trans ho⟩
  · intro ρ₀ hn hd y e hy hv
    have hyx : y ≠ x := by rintro rfl; rw [hn] at hy; cases hy
    obtain ⟨u, h1, h2⟩ := hd y e hy hv
    exact ⟨u, ot y u hyx h1, h2.off off⟩

theorem lookup_cons_ne {x y : Str} {d : D} {ρ : Rho} (h : y ≠ x) : List.lookup y ((x, d) :: ρ) = ρ.lookup y := by
  rw [List.lookup_cons]; have : (y == x) = false := by simpa using h
  rw [this]

theorem Is.tuple2 {h : Heap} {v : Value} {d e : D} (x : Is W h v (.tuple [d, e])) : ∃ l va vb, v = .ref l ∧ h.IsTuple l #[va, vb] ∧ Is W h va d ∧ Is W h vb e := by
  obtain ⟨l, vs, rfl, _, h2, h3⟩ := x.tup'
  obtain ⟨va, vb, rfl, ia, ib⟩ := h3.two
  exact ⟨l, va, vb, rfl, h2, ia, ib⟩
theorem assign_ok {t : Expr} {v : Value} {d : D} (hb : bindT own ρ t d = some ρ') (c : Cx mg mb n A W s env ρ) (ok : OwnK own env) (oc : OwnCh own env Ch) (hCh : ∀ a ∈ Ch, a ∈ W) (iv : Is W s.heap v d) (Q : Unit → Shared → Prop) (E : Value → Shared → Prop)
    (hQ : ∀ s', Mov Ch s s' → Cx mg mb n A W s' env ρ' → ((∀ x, own x = true → ρ.lookup x = none) → EnvD W s'.heap env ρ) → Q () s') : wpAny (model prog w) A (assign t env v) Q E s := by
  rcases bindT_inv hb with ⟨x, px, rfl, hx, rfl⟩ | ⟨a, pa, b, pb, k, pt, d, e, rfl, rfl, ha, hb2, rfl⟩
  · refine wpAny_assign_Name (store_ok c (ok x hx) oc hx hCh iv _ _ fun s' mv c' kd => hQ s' mv c' fun hn => kd ρ (hn x hx) c.D)
  · obtain ⟨l, va, vb, rfl, h2, ia, ib⟩ := iv.tuple2
    show wpAny _ A (standAt pt >>= fun _ => unpack (.ref l) [(false, assign (.Name a pa) env), (false, assign (.Name b pb) env)]) _ _ _
    refine wpAny_bind (wpAny_standAt (wpAny_unpack_tuple c.room.h h2 rfl rfl fun h' he => ?_))
    have g : Grow s { s with heap := h' } := ⟨fun b o e => he b o (fun q => by rw [q, get_size] at e; cases e) e, id, rfl⟩
    have c1 := c.grow g
    show wpAny _ A (holding [vb] (assign (.Name a pa) env va) >>= fun _ => (holding [] (assign (.Name b pb) env vb) >>= fun _ => pure ())) _ _ _
    refine wpAny_bind (wpAny_holding (wpAny_assign_Name (store_ok c1 (ok a ha) oc ha hCh (ia.keep g.keep) _ _ fun s1 mv1 c2 kd1 => ?_)))
    refine wpAny_bind (wpAny_holding (wpAny_assign_Name (store_ok c2 (ok b hb2) oc hb2 hCh ((ib.keep g.keep).off (mv1.off hCh)) _ _ fun s2 mv2 c3 kd2 => wpAny_pure ?_)))
    refine hQ s2 ((g.mov Ch).trans (mv1.trans mv2)) c3 fun hn => ?_
    exact kd2 ρ (hn b hb2) (kd1 ρ (hn a ha) c1.D)

/-! what a loop's head feeds -/
structure Feeds (prog : Program) (w : World) (A : Around) (I : Addr) (fp wr : List Addr) (tgt : Expr) (ds : List D) (St : Nat → Heap → Prop) (Src : List Addr → Heap → Prop) : Prop where
  sub : ∀ b ∈ wr, b ∈ fp
  frame : ∀ i h h', St i h → (∀ b ∈ fp, ∀ o, h.get? b = some o → h'.get? b = some o) → St i h'
  src : ∀ W h h', Src W h → OffW W h h' → Src W h'
  more : ∀ W W' h, Src W h → (∀ a ∈ W', a ∈ W ∨ h.get? a = none) → Src W' h
  item : ∀ i (s : Shared) W d (Q : Value → Shared → Prop) (E : Value → Shared → Prop), ds[i]? = some d → St i s.heap → Live W s.heap → (∀ b ∈ wr, b ∈ W) → Src W s.heap →
    (∀ v h' tk, Is W h' v d → St (i + 1) h' → (∀ b o, b ∉ wr → s.heap.get? b = some o → h'.get? b = some o) → (∀ b ∈ wr, ∃ o, h'.get? b = some o) → Q v { s with heap := h', toks := tk }) →
    wpAny (model prog w) A (pyNext (.ref I)) (fun r s₁ => match r with | none => False | some v => wpAny (model prog w) A (letOwnedTupleGo tgt (.ref I) v) (fun _ s₂ => Q v s₂) E s₁) E s
  done : ∀ (s : Shared) (Q : Option Value → Shared → Prop) (E : Value → Shared → Prop), St ds.length s.heap →
    (∀ h' tk, (∀ b o, b ∉ wr → s.heap.get? b = some o → h'.get? b = some o) → Q none { s with heap := h', toks := tk }) → wpAny (model prog w) A (pyNext (.ref I)) Q E s
  self : ∀ i (s : Shared) (Q : Value → Shared → Prop) (E : Value → Shared → Prop), St i s.heap → Q (.ref I) s → wpAny (model prog w) A (pyIter (.ref I)) Q E s
end
end Mine
end

section
set_option maxRecDepth 100000
set_option linter.unusedVariables false
namespace Mine
open PySem PySem.W PyProof.Rows PySem.Calls

structure Sound (prog : Program) (w : World) (mg mb : Str → Option Value) (n : Nat) (r : Rec) : Prop where
  ev : ∀ {ρ : Rho} {e : Expr} {d : D} {A : Around} {W : List Addr} {s : Shared} {env : Env}, r.ev env.scope ρ e = some d → Cx mg mb n A W s env ρ → Giv (model prog w) A W s (eval e env) d
  ts : ∀ {ρ : Rho} {e : Expr} {b : Bool} {A : Around} {W : List Addr} {s : Shared} {env : Env}, r.ts env.scope ρ e = some b → Cx mg mb n A W s env ρ → GivB (model prog w) A s (isTrue e env (eval e env)) b
  clf : ∀ {f : Str} {as : List D} {d : D} {h : Heap}, r.cl f as = some d → Gd mg mb h → ∃ a o fd, mg f = some (.ref a) ∧ h.get? a = some o ∧ o.data = .func fd
  cl : ∀ {f : Str} {as : List D} {d : D} {A : Around} {W : List Addr} {s : Shared} {vs : List Value} {a : Addr}, r.cl f as = some d → mg f = some (.ref a) → Room n A → GdW mg mb W s.heap → Live W s.heap → IsAll W s.heap vs as →
    Giv (model prog w) A W s (call (.ref a) vs) d

section
variable {prog : Program} {w : World} {A : Around} {s : Shared} {W : List Addr} {mg mb : Str → Option Value} {n : Nat} {env : Env} {ρ : Rho} {r : Rec}

theorem okName_d {x : Str} (h : okName x = true) : (x == ("__debug__" : Str)) = false ∧ (x == ("__classdict__" : Str)) = false := by
  simpa [okName] using h
theorem isVar_vis {x : Str} (h : isVar env.scope x = true) : Vis env x ∧ okName x = true := by
  unfold isVar at h
  rw [Bool.and_eq_true] at h
  refine ⟨?_, h.1⟩
  have h := h.2
  unfold kindIn at h
  show env.scope.names.lookup x = _ ∨ _ ∨ _
  split at h
  · rename_i e; exact .inl e
  · rename_i e; exact .inr (.inl e)
  · rename_i e; exact .inr (.inr e)
  · cases h

theorem name_ok {x : Str} {p : Pos} {d : D} (hv : isVar env.scope x = true) (hx : ρ.lookup x = some d) (c : Cx mg mb n A W s env ρ) :
    Giv (model prog w) A W s (eval (.Name x p) env) d := by
  intro Q E hQ
  obtain ⟨h1, h2⟩ := isVar_vis hv
  obtain ⟨v, sl, iv⟩ := c.D x d hx h1
  exact wpAny_Name (slot_load c.S sl (hQ v s (.refl _) iv) (okName_d h2).2) (okName_d h2).1

theorem isGlob_k {x : Str} (hg : isGlob env.scope x = true) : env.kindOf x = some .globalImplicit ∧ (x == ("__debug__" : Str)) = false := by
  unfold isGlob at hg
  rw [Bool.and_eq_true] at hg
  have : kindIn env.scope x = some .globalImplicit := by simpa using hg.2
  exact ⟨this, (okName_d hg.1).1⟩
theorem glob_ok {x : Str} {p : Pos} {v : Value} {Q E : Value → Shared → Prop} (hg : isGlob env.scope x = true) (c : Cx mg mb n A W s env ρ) (hv : mg x = some v) (h : Q v s) :
    wpAny (model prog w) A (eval (.Name x p) env) Q E s :=
  Name_function_global c.S.kind (isGlob_k hg).1 (loadGlobal_global (show s.heap.Ns env.globals mg from c.S.glob ▸ c.gd.gd.g) hv h) (isGlob_k hg).2
theorem blt_load {x : Str} {p : Pos} {v : Value} {Q E : Value → Shared → Prop} (hg : isGlob env.scope x = true) (c : Cx mg mb n A W s env ρ) (hv : bltVal x = some v) (h : Q v s) :
    wpAny (model prog w) A (eval (.Name x p) env) Q E s := by
  obtain ⟨h1, h2⟩ := c.gd.gd.bn x v hv
  exact Name_function_global c.S.kind (isGlob_k hg).1 (loadGlobal_builtin (show s.heap.Ns env.globals mg from c.S.glob ▸ c.gd.gd.g) h1 (show s.heap.Ns env.builtins mb from c.S.bltn ▸ c.gd.gd.b) h2 h) (isGlob_k hg).2

theorem starEach_cons {e : Expr} {rest : List Expr} (h : isStar e = false) : starEach (e :: rest) env = (false, eval e env) :: starEach rest env := by
  cases e <;> first | rfl | cases h

theorem evs_plain : ∀ {es : List Expr} {ds : List D}, evs r env.scope ρ es = some ds → (starEach es env).any (·.1) = false ∧ ∀ pos, (backTo pos (starEach es env)).any (·.1) = false := by
  intro es
  induction es with
  | nil => intro ds _; exact ⟨rfl, fun _ => rfl⟩
  | cons e es ih =>
    intro ds h
    unfold evs at h
    split at h
    · cases h
    · rename_i hs
      have hs : isStar e = false := by simpa using hs
      simp only [Option.bind_eq_bind, Option.bind_eq_some_iff] at h
      obtain ⟨d, hd, ds', hds, _⟩ := h
      obtain ⟨h1, h2⟩ := ih hds
      rw [starEach_cons hs]
      exact ⟨by simpa using h1, fun pos => by have := h2 pos; simpa [backTo] using this⟩

/-- an argument list -/
theorem evs_ok (R : Sound prog w mg mb n r) {pos : Pos} : ∀ {es : List Expr} {ds : List D} {s : Shared}, evs r env.scope ρ es = some ds → Cx mg mb n A W s env ρ → ∀ (Q : List Value → Shared → Prop) (E : Value → Shared → Prop),
    (∀ vs s', Grow s s' → IsAll W s'.heap vs ds → Q vs s') → wpAny (model prog w) A (spliced (backTo pos (starEach es env))) Q E s := by
  intro es
  induction es with
  | nil =>
    intro ds s h c Q E hQ
    cases h
    exact args_nil (hQ _ _ (.refl _) .nil)
  | cons e es ih =>
    intro ds s h c Q E hQ
    unfold evs at h
    split at h
    · cases h
    · rename_i hs
      have hs : isStar e = false := by simpa using hs
      simp only [Option.bind_eq_bind, Option.bind_eq_some_iff, Option.some.injEq] at h
      obtain ⟨d, hd, ds', hds, rfl⟩ := h
      refine args_cons (R.ev hd c _ _ fun v s1 g1 iv => ?_) (starEach_cons hs)
      refine ih hds (c.grow g1) _ _ fun vs s2 g2 ivs => ?_
      exact hQ _ _ (g1.trans g2) (.cons (iv.keep g2.keep) ivs)

theorem args_ok (R : Sound prog w mg mb n r) {f : Value} {pos : Pos} {es : List Expr} {ds : List D} (h : evs r env.scope ρ es = some ds) (c : Cx mg mb n A W s env ρ) (Q : Args → Shared → Prop) (E : Value → Shared → Prop)
    (hQ : ∀ vs s', Grow s s' → IsAll W s'.heap vs ds → Q ⟨vs, []⟩ s') : wpAny (model prog w) A (evalArgs f true (backTo pos (starEach es env)) []) Q E s := by
  cases es with
  | nil => cases h; exact PySem.evalArgs_none (hQ _ _ (.refl _) .nil)
  | cons e es =>
    have hs : isStar e = false := by
      unfold evs at h
      split at h
      · cases h
      · rename_i hs; simpa using hs
    have key := fun Q E => evs_ok R (pos := pos) h c Q E
    rw [starEach_cons hs] at key ⊢
    exact evalArgs_plain (key _ _ fun vs s' g i => hQ vs s' g i)

theorem call_blt (R : Sound prog w mg mb n r) {f : Value} {pos : Pos} {es : List Expr} {ds : List D} {d : D} (hf : (∃ id, f = .builtin id) ∨ ∃ T, f = .type T) (h : evs r env.scope ρ es = some ds) (c : Cx mg mb n A W s env ρ)
    (hc : ∀ vs s', Grow s s' → IsAll W s'.heap vs ds → Giv (model prog w) A W s' (call f vs) d) : Giv (model prog w) A W s (callWith pos f [] (backTo pos (starEach es env)) []) d := by
  intro Q E hQ
  rcases hf with ⟨id, rfl⟩ | ⟨T, rfl⟩
  · exact callWith_builtin ((evs_plain h).2 pos) (args_ok R h c _ _ fun vs s1 g1 i => hc vs s1 g1 i _ _ fun v s2 g2 iv => hQ v s2 (g1.trans g2) iv)
  · exact PySem.callWith_type ((evs_plain h).2 pos) (args_ok R h c _ _ fun vs s1 g1 i => hc vs s1 g1 i _ _ fun v s2 g2 iv => hQ v s2 (g1.trans g2) iv)

theorem isAll_more {W W' : List Addr} {h : Heap} {vs : List Value} {ds : List D} (a : IsAll W h vs ds) (k : ∀ a ∈ W', a ∈ W ∨ h.get? a = none) : IsAll W' h vs ds :=
  a.mono (fun a ha ⟨o, ho⟩ hb => by
    rcases k a hb with q | q
    · exact ha q
    · rw [q] at ho; cases ho) fun _ _ _ e => e
/-! the heads of loops -/
theorem Feeds.ofWalks {I : Addr} {fp wr : List Addr} {k : Nat} {P : Nat → Value → Prop} {St : Nat → Heap → Prop} {tgt : Expr} {ds : List D} {Src : List Addr → Heap → Prop} (Wk : Walks prog w A I fp wr k P St)
    (ht : ∀ v, letOwnedTupleGo tgt (.ref I) v = pure ()) (hn : k = ds.length) (src : ∀ W h h', Src W h → OffW W h h' → Src W h') (more : ∀ W W' h, Src W h → (∀ a ∈ W', a ∈ W ∨ h.get? a = none) → Src W' h)
    (hP : ∀ i v W h d, P i v → Src W h → ds[i]? = some d → Is W h v d) (hl : ∀ i h, St i h → ∀ b ∈ wr, ∃ o, h.get? b = some o) : Feeds prog w A I fp wr tgt ds St Src where
  sub := Wk.sub
  frame := Wk.frame
  src := src
  more := more
  item := fun i s W d Q E hd st lv hw hs hQ => by
    have hi : i < k := by rw [hn]; exact (List.getElem?_eq_some_iff.mp hd).1
    refine Wk.item i s _ E hi st fun v h' tk hv st' hk => ?_
    refine wpAny_of_eq (ht v) (hQ v h' tk ?_ st' hk (hl _ _ st'))
    exact hP i v W h' d hv (src W s.heap h' hs fun b o hb e => hk b o (fun q => hb (hw b q)) e) hd
  done := fun s Q E st hQ => Wk.done s Q E (hn ▸ st) hQ
  self := Wk.self

/-- a loop's head is fed -/
noncomputable def Fed (prog : Program) (w : World) (A : Around) (W : List Addr) (s : Shared) (t : Sem Value) (tgt : Expr) (ds : List D) : Prop :=
  ∀ (Q : Value → Shared → Prop) (E : Value → Shared → Prop), (∀ I fp wr St Src s₂, Feeds prog w A I fp wr tgt ds St Src → Grow s s₂ → St 0 s₂.heap → (∀ b ∈ fp, b ∉ W ∧ ∃ o, s₂.heap.get? b = some o) → (∀ b ∈ wr, s.heap.get? b = none) →
    Src (wr ++ W) s₂.heap → Q (.ref I) s₂) → wpAny (model prog w) A t (fun x s₁ => wpAny (model prog w) A (pyIter x) Q E s₁) E s

theorem feed_list {l : Addr} {vs : List Value} {ds : List D} {tgt : Expr} (hh : A.handled = none) (ht : ∀ I v, letOwnedTupleGo tgt (.ref I) v = pure ()) (lv : Live W s.heap) (hl : s.heap.IsList l vs.toArray) (hW : l ∉ W) (ia : IsAll W s.heap vs ds)
    (Q : Value → Shared → Prop) (E : Value → Shared → Prop) (hQ : ∀ I fp wr St Src s₂, Feeds prog w A I fp wr tgt ds St Src → Grow s s₂ → St 0 s₂.heap → (∀ b ∈ fp, b ∉ W ∧ ∃ o, s₂.heap.get? b = some o) → (∀ b ∈ wr, s.heap.get? b = none) →
    Src (wr ++ W) s₂.heap → Q (.ref I) s₂) : wpAny (model prog w) A (pyIter (.ref l)) Q E s := by
  have hlt : l < s.heap.objs.size := by obtain ⟨_, e, _⟩ := hl; exact Heap.lt_size e
  refine wpAny_pyIter_list hl ?_
  have Wk := Walks.list (prog := prog) (w := w) (A := A) hh s.heap.objs.size l (Nat.ne_of_lt hlt) vs.toArray
  refine hQ _ _ _ _ (fun W h => IsAll W h vs ds) _ (Feeds.ofWalks (ds := ds) Wk (ht _) (by simp [ia.length]) (fun W h h' a k => a.off k) (fun W W' h a k => isAll_more a k) ?_ ?_) (.push ..) ⟨⟨_, Heap.get?_push_size _ rfl, rfl, rfl⟩, hl.push _⟩ ?_ ?_ ?_
  · intro i v W h d hv hs hd
    obtain ⟨d', hd', iv⟩ := hs.get' (i := i) (v := v) (by simpa using hv)
    rw [hd] at hd'; cases hd'; exact iv
  · rintro i h ⟨⟨o, ho, _⟩, _⟩ b hb
    rw [List.mem_singleton.mp hb]; exact ⟨o, ho⟩
  · intro b hb
    rcases List.mem_cons.mp hb with rfl | hb
    · exact ⟨lv.fresh (get_size _), _, Heap.get?_push_size _ rfl⟩
    · rw [List.mem_singleton.mp hb]
      obtain ⟨o, ho, _⟩ := hl
      exact ⟨hW, o, Heap.get?_push_of_some _ ho⟩
  · intro b hb; rw [List.mem_singleton.mp hb]; exact get_size _
  · refine (ia.more fun a ha => ?_).keep fun b o e => Heap.get?_push_of_some _ e
    rw [List.mem_singleton.mp ha]; exact get_size _

theorem feed_range {a b : Int} {k : Nat} {rg : Addr} {t u v : Tok} {tgt : Expr} (hh : A.handled = none) (ht : ∀ I v, letOwnedTupleGo tgt (.ref I) v = pure ()) (lv : Live W s.heap) (hr : IsRange s.heap rg a b 1 t u v)
    (ha : small a = true) (hb : small b = true) (hk : k = (b - a).toNat)
    (Q : Value → Shared → Prop) (E : Value → Shared → Prop) (hQ : ∀ I fp wr St Src s₂, Feeds prog w A I fp wr tgt (irange a k) St Src → Grow s s₂ → St 0 s₂.heap → (∀ b ∈ fp, b ∉ W ∧ ∃ o, s₂.heap.get? b = some o) → (∀ b ∈ wr, s.heap.get? b = none) →
    Src (wr ++ W) s₂.heap → Q (.ref I) s₂) : wpAny (model prog w) A (pyIter (.ref rg)) Q E s := by
  simp only [small, Bool.and_eq_true, decide_eq_true_eq] at ha hb
  refine wpAny_pyIter_range hr (small_one (by omega) (by omega) (by omega) (by omega)) ?_
  have Wk := Walks.range (prog := prog) (w := w) (A := A) hh s.heap.objs.size a 1 k
  refine hQ _ _ _ _ (fun _ _ => True) _ (Feeds.ofWalks (ds := irange a k) Wk (ht _) (by simp [irange]) (fun _ _ _ _ _ => trivial) (fun _ _ _ _ _ => trivial) ?_ ?_) (.push ..) ?_ ?_ ?_ trivial
  · rintro i v W h d ⟨t, rfl⟩ _ hd
    simp only [irange, List.getElem?_map, Option.map_eq_some_iff] at hd
    obtain ⟨j, hj, rfl⟩ := hd
    have : j = i := by
      obtain ⟨h1, h2⟩ := List.getElem?_eq_some_iff.mp hj
      simpa using h2.symm
    subst this
    rw [Int.mul_one]
    exact .int ..
  · intro i h st b hb
    rw [List.mem_singleton.mp hb]; exact ⟨_, st⟩
  · have e : Builtin.Range.rangeSize a b 1 = (k : Int) - (0 : Nat) := by
      rw [rangeSize_one, hk]; split <;> omega
    rw [e]
    have e2 : a + ((0 : Nat) : Int) * 1 = a := by omega
    show IsRangeIter _ _ (a + ((0 : Nat) : Int) * 1) _ 1
    rw [e2]
    exact Heap.get?_push_size _ rfl
  · intro b hb
    rw [List.mem_singleton.mp hb]
    exact ⟨lv.fresh (get_size _), _, Heap.get?_push_size _ rfl⟩
  · intro b hb; rw [List.mem_singleton.mp hb]; exact get_size _

theorem feed_str {x : Str} {t : Tok} {tgt : Expr} (hh : A.handled = none) (ht : ∀ I v, letOwnedTupleGo tgt (.ref I) v = pure ()) (lv : Live W s.heap)
    (Q : Value → Shared → Prop) (E : Value → Shared → Prop) (hQ : ∀ I fp wr St Src s₂, Feeds prog w A I fp wr tgt (x.cps.toList.map fun c => .str ⟨#[c]⟩) St Src → Grow s s₂ → St 0 s₂.heap → (∀ b ∈ fp, b ∉ W ∧ ∃ o, s₂.heap.get? b = some o) → (∀ b ∈ wr, s.heap.get? b = none) →
    Src (wr ++ W) s₂.heap → Q (.ref I) s₂) : wpAny (model prog w) A (pyIter (.str x t)) Q E s := by
  have hP : ∀ i v W h d, SignAt x i v → True → (x.cps.toList.map fun c => PyData.str ⟨#[c]⟩)[i]? = some d → Is W h v d := by
    rintro i v W h d ⟨c, u, hc, rfl⟩ _ hd
    have hc' : x.cps.toList[i]? = some c := by simpa using hc
    rw [List.getElem?_map, hc'] at hd
    cases hd; exact .str ..
  cases ha : x.cps.all (· < 128)
  · refine wpAny_pyIter_wide ha (hQ _ _ _ _ (fun _ _ => True) _ (Feeds.ofWalks (ds := x.cps.toList.map fun c => .str ⟨#[c]⟩) (Walks.strWide hh s.heap.objs.size x t) (ht _) (by simp) (fun _ _ _ _ _ => trivial) (fun _ _ _ _ _ => trivial) hP ?_) (.push ..) ⟨_, Heap.get?_push_size _ rfl, rfl, rfl⟩ ?_ ?_ trivial)
    · rintro i h ⟨o, ho, _⟩ b hb; rw [List.mem_singleton.mp hb]; exact ⟨_, ho⟩
    · intro b hb; rw [List.mem_singleton.mp hb]; exact ⟨lv.fresh (get_size _), _, Heap.get?_push_size _ rfl⟩
    · intro b hb; rw [List.mem_singleton.mp hb]; exact get_size _
  · refine wpAny_pyIter_ascii ha (hQ _ _ _ _ (fun _ _ => True) _ (Feeds.ofWalks (ds := x.cps.toList.map fun c => .str ⟨#[c]⟩) (Walks.strAscii hh s.heap.objs.size x t) (ht _) (by simp) (fun _ _ _ _ _ => trivial) (fun _ _ _ _ _ => trivial) hP ?_) (.push ..) ⟨_, Heap.get?_push_size _ rfl, rfl, rfl⟩ ?_ ?_ trivial)
    · rintro i h ⟨o, ho, _⟩ b hb; rw [List.mem_singleton.mp hb]; exact ⟨_, ho⟩
    · intro b hb; rw [List.mem_singleton.mp hb]; exact ⟨lv.fresh (get_size _), _, Heap.get?_push_size _ rfl⟩
    · intro b hb; rw [List.mem_singleton.mp hb]; exact get_size _

theorem feed_enum {l : Addr} {vs : List Value} {ds : List D} {elts : List Expr} {k : Nat} {pos : Pos} (hh : A.handled = none) (lv : Live W s.heap) (hl : s.heap.IsList l vs.toArray) (hW : l ∉ W) (ia : IsAll W s.heap vs ds)
    (Q : Value → Shared → Prop) (E : Value → Shared → Prop) (hQ : ∀ I fp wr St Src s₂, Feeds prog w A I fp wr (.Tuple elts k pos) (ds.zipIdx.map fun (x, i) => .tuple [.int i, x]) St Src → Grow s s₂ → St 0 s₂.heap → (∀ b ∈ fp, b ∉ W ∧ ∃ o, s₂.heap.get? b = some o) → (∀ b ∈ wr, s.heap.get? b = none) →
    Src (wr ++ W) s₂.heap → Q (.ref I) s₂) : wpAny (model prog w) A (call (.type "enumerate") [.ref l]) (fun x s₁ => wpAny (model prog w) A (pyIter x) Q E s₁) E s := by
  have hlt : l < s.heap.objs.size := by obtain ⟨_, e, _⟩ := hl; exact Heap.lt_size e
  refine call_enumerate_list hl fun h' he hit hsz hk => wpAny_pyIter_enum he ?_
  have g : Grow s { s with heap := h' } := ⟨hk, id, rfl⟩
  have n1 : s.heap.get? (s.heap.objs.size + 1) = none := by
    cases e : s.heap.get? (s.heap.objs.size + 1) with
    | none => rfl
    | some o => exact absurd (Heap.lt_size e) (Nat.not_lt.mpr (Nat.le_succ _))
  have hl' : h'.IsList l vs.toArray := let ⟨o, ho, r⟩ := hl; ⟨o, hk _ _ ho, r⟩
  have WT := WalksT.enumerate (prog := prog) (w := w) (A := A) hh (s.heap.objs.size + 1) s.heap.objs.size l (Nat.succ_ne_self _) (Nat.ne_of_lt (Nat.lt_succ_of_lt hlt)) (Nat.ne_of_lt hlt) vs.toArray
  refine hQ _ _ _ _ (fun W h => IsAll W h vs ds) _ ⟨WT.sub, WT.frame, fun W h h' a k => a.off k, fun W W' h a k => isAll_more a k, ?_, ?_, WT.self⟩ g ⟨⟨_, he⟩, hit, hl'⟩ ?_ ?_ ?_
  · intro i s W d Q E hd st lv' hw hs hQ
    simp only [List.getElem?_map, List.getElem?_zipIdx, Option.map_map, Option.map_eq_some_iff, Function.comp] at hd
    obtain ⟨x, hx, rfl⟩ := hd
    have hi : i < vs.toArray.size := by
      have := (List.getElem?_eq_some_iff.mp hx).1
      simp [ia.length]; exact this
    refine WT.item i s _ E hi st fun T vals h1 tk hPt hT hTup mid hk1 => ?_
    refine WT.go elts k pos i T _ _ E mid fun h2 st2 hk2 => ?_
    obtain ⟨t, y, hy, rfl⟩ := hPt
    obtain ⟨x', hx', iy⟩ := hs.get' (i := i) (v := y) (by simpa using hy)
    rw [hx] at hx'; cases hx'
    have offW : OffW W s.heap h2 := fun b o hb e => hk2 b o (fun q => hb (hw b q)) (hk1 b o (fun q => hb (hw b q)) e)
    have hTn : s.heap.get? T = none := by
      cases e : s.heap.get? T with
      | none => rfl
      | some o => exact absurd (Heap.lt_size e) (Nat.not_lt.mpr hT)
    have hTw := WT.apart i T h1 mid
    refine hQ _ h2 tk ?_ st2 (fun b o hb e => hk2 b o hb (hk1 b o hb e)) ?_
    · refine .tuple (vs := [.int i t, y]) (lv'.fresh hTn) (let ⟨o, ho, r⟩ := hTup; ⟨o, hk2 _ _ hTw ho, r⟩) (.cons ?_ (.cons (iy.off offW) .nil))
      rw [Nat.zero_add]; exact .int ..
    · obtain ⟨⟨old, e1⟩, ⟨o2, e2, _⟩, _⟩ := st2
      intro b hb
      rcases List.mem_cons.mp hb with rfl | hb
      · exact ⟨_, e1⟩
      · rw [List.mem_singleton.mp hb]; exact ⟨_, e2⟩
  · intro s Q E st hQ
    refine WT.done s Q E ?_ hQ
    have : vs.toArray.size = (ds.zipIdx.map fun (x, i) => PyData.tuple [.int i, x]).length := by simp [ia.length]
    rw [this]; exact st
  · intro b hb
    rcases List.mem_cons.mp hb with rfl | hb
    · exact ⟨lv.fresh n1, _, he⟩
    · rcases List.mem_cons.mp hb with rfl | hb
      · obtain ⟨o, ho, _⟩ := hit; exact ⟨lv.fresh (get_size _), _, ho⟩
      · rw [List.mem_singleton.mp hb]
        obtain ⟨o, ho, _⟩ := hl'
        exact ⟨hW, o, ho⟩
  · intro b hb
    rcases List.mem_cons.mp hb with rfl | hb
    · exact n1
    · rw [List.mem_singleton.mp hb]; exact get_size _
  · refine (ia.more fun a ha => ?_).keep hk
    rcases List.mem_cons.mp ha with rfl | ha
    · exact n1
    · rw [List.mem_singleton.mp ha]; exact get_size _
end
end Mine
end

section
set_option maxRecDepth 100000
set_option linter.unusedVariables false
namespace Mine
open PySem PySem.W PyProof.Rows PySem.Calls
section
variable {prog : Program} {w : World} {A : Around} {s : Shared} {W : List Addr} {mg mb : Str → Option Value} {n : Nat} {env : Env} {ρ : Rho} {r : Rec}

theorem Fed.grow {s₁ : Shared} {tgt : Expr} {ds : List D} {Q : Value → Shared → Prop} (g : Grow s s₁)
    (hQ : ∀ I fp wr St Src s₂, Feeds prog w A I fp wr tgt ds St Src → Grow s s₂ → St 0 s₂.heap → (∀ b ∈ fp, b ∉ W ∧ ∃ o, s₂.heap.get? b = some o) → (∀ b ∈ wr, s.heap.get? b = none) → Src (wr ++ W) s₂.heap → Q (.ref I) s₂) :
    ∀ I fp wr St Src s₂, Feeds prog w A I fp wr tgt ds St Src → Grow s₁ s₂ → St 0 s₂.heap → (∀ b ∈ fp, b ∉ W ∧ ∃ o, s₂.heap.get? b = some o) → (∀ b ∈ wr, s₁.heap.get? b = none) → Src (wr ++ W) s₂.heap → Q (.ref I) s₂ :=
  fun I fp wr St Src s₂ F g2 h1 h2 h3 h4 => hQ I fp wr St Src s₂ F (g.trans g2) h1 h2 (fun b hb => by
    cases e : s.heap.get? b with
    | none => rfl
    | some o => have := g.keep b o e; rw [h3 b hb] at this; cases this) h4

theorem notSet_fold {i : Expr} {ds : List D} (h : items r env.scope ρ i = some ds) : ∀ x, foldedSetIterable i env x = pure x := by
  intro x
  cases i <;> first | rfl | exact none_ne h

theorem name_go {tgt : Expr} {i : Expr} (h : tgtOk i tgt = true) (he : isEnum i = false) : ∀ I v, letOwnedTupleGo tgt (.ref I) v = pure () := by
  intro I v
  cases tgt <;> first | rfl | exact false_ne h | exact false_ne (he.symm.trans h)
theorem pair_go {tgt : Expr} {i : Expr} (h : tgtOk i tgt = true) (he : isEnum i = true) : ∃ es k p, tgt = .Tuple es k p := by
  cases tgt <;> first | exact ⟨_, _, _, rfl⟩ | exact false_ne h | (rw [show tgtOk i _ = !(isEnum i) from rfl, he] at h; cases h)

theorem itemsV_inv {o : Option D} {ds : List D} (h : itemsV o = some ds) : (o = some (.list ds) ∧ ds.length ≤ 1000) ∨ ∃ x, o = some (.str x) ∧ x.length ≤ 1000 ∧ ds = x.cps.toList.map fun c => PyData.str ⟨#[c]⟩ := by
  cases o with
  | none => cases h
  | some d =>
    cases d <;> first | exact none_ne h | skip
    · obtain ⟨hl, rfl⟩ := ite_some' h
      exact .inr ⟨_, rfl, hl, rfl⟩
    · obtain ⟨hl, rfl⟩ := ite_some' h
      exact .inl ⟨rfl, hl⟩
theorem itemsC_inv {as ds : List D} (h : itemsC as = some ds) : (∃ b, as = [.int b] ∧ small b = true ∧ b ≤ 1000 ∧ ds = irange 0 b.toNat) ∨ ∃ a b, as = [.int a, .int b] ∧ small a = true ∧ small b = true ∧ b - a ≤ 1000 ∧ ds = irange a (b - a).toNat := by
  rcases as with _ | ⟨d, _ | ⟨e, _ | ⟨f, as⟩⟩⟩ <;> first | exact none_ne h | skip
  · cases d <;> first | exact none_ne h | skip
    obtain ⟨hb, rfl⟩ := ite_some h
    simp only [Bool.and_eq_true, decide_eq_true_eq] at hb
    exact .inl ⟨_, rfl, hb.1, hb.2, rfl⟩
  · cases d <;> first | exact none_ne h | skip
    cases e <;> first | exact none_ne h | skip
    obtain ⟨hb, rfl⟩ := ite_some h
    simp only [Bool.and_eq_true, decide_eq_true_eq] at hb
    exact .inr ⟨_, _, rfl, hb.1.1, hb.1.2, hb.2, rfl⟩
  · cases d <;> first | exact none_ne h | skip
    cases e <;> exact none_ne h
theorem itemsE_inv {as ds : List D} (h : itemsE as = some ds) : ∃ xs, as = [.list xs] ∧ xs.length ≤ 1000 ∧ ds = xs.zipIdx.map fun (x, i) => .tuple [.int i, x] := by
  rcases as with _ | ⟨d, _ | ⟨e, as⟩⟩ <;> first | exact none_ne h | skip
  · cases d <;> first | exact none_ne h | skip
    obtain ⟨hb, rfl⟩ := ite_some' h
    exact ⟨_, rfl, hb, rfl⟩
  · cases d <;> exact none_ne h
/-- what a loop's head is -/
theorem items_inv {r : Rec} {sc : Scope} {ρ : Rho} {e : Expr} {ds : List D} (h : items r sc ρ e = some ds) :
    (∃ p args q as, e = .Call (.Name "range" p) args [] q ∧ isGlob sc "range" = true ∧ evs r sc ρ args = some as ∧ itemsC as = some ds) ∨
    (∃ p args q as, e = .Call (.Name "enumerate" p) args [] q ∧ isGlob sc "enumerate" = true ∧ evs r sc ρ args = some as ∧ itemsE as = some ds) ∨
    (callN e = none ∧ itemsV (r.ev sc ρ e) = some ds) := by
  unfold items at h
  cases hc : callN e with
  | none =>
    rw [hc] at h
    dsimp only at h
    split at h
    · cases h
    · exact .inr (.inr ⟨rfl, h⟩)
  | some fa =>
    obtain ⟨f, args⟩ := fa
    rw [hc] at h
    dsimp only at h
    obtain ⟨p, q, rfl⟩ := callN_inv hc
    split at h
    · rename_i hf
      simp only [Bool.and_eq_true, decide_eq_true_eq] at hf
      obtain ⟨rfl, hg⟩ := hf
      obtain ⟨as, h1, h2⟩ := Option.bind_eq_some_iff.mp h
      exact .inl ⟨p, args, q, as, rfl, hg, h1, h2⟩
    · split at h
      · rename_i hf
        simp only [Bool.and_eq_true, decide_eq_true_eq] at hf
        obtain ⟨rfl, hg⟩ := hf
        obtain ⟨as, h1, h2⟩ := Option.bind_eq_some_iff.mp h
        exact .inr (.inl ⟨p, args, q, as, rfl, hg, h1, h2⟩)
      · cases h

theorem plain_items (R : Sound prog w mg mb n r) {i tgt : Expr} {ds : List D} (he : isEnum i = false) (ht : tgtOk i tgt = true) (c : Cx mg mb n A W s env ρ)
    (h : itemsV (r.ev env.scope ρ i) = some ds) : Fed prog w A W s (eval i env) tgt ds := by
  intro Q E hQ
  have hgo := name_go ht he
  rcases itemsV_inv h with ⟨hx, hl⟩ | ⟨x, hx, hl, rfl⟩
  · refine R.ev hx c _ _ fun v s1 g1 iv => ?_
    obtain ⟨l, vs, rfl, h1, h2, h3⟩ := iv.list'
    exact feed_list c.room.h hgo (c.live.keep g1.keep) h2.isList h1 h3 _ _ (Fed.grow g1 hQ)
  · refine R.ev hx c _ _ fun v s1 g1 iv => ?_
    obtain ⟨t, rfl⟩ := iv.str'
    exact feed_str c.room.h hgo (c.live.keep g1.keep) _ _ (Fed.grow g1 hQ)

theorem items_ok (R : Sound prog w mg mb n r) {i tgt : Expr} {ds : List D} (h : items r env.scope ρ i = some ds) (ht : tgtOk i tgt = true) (c : Cx mg mb n A W s env ρ) : Fed prog w A W s (eval i env) tgt ds := by
  rcases items_inv h with ⟨p, args, q, as, rfl, hg, has, h⟩ | ⟨p, args, q, as, rfl, hg, has, h⟩ | ⟨hc, h⟩
  · have hgo := name_go ht (show decide ((Str.ofString "range") = (Str.ofString "enumerate")) = false by decide)
    intro Q E hQ
    refine Call_Name rfl (blt_load hg c (v := .type "range") (by decide) ?_)
    refine PySem.callWith_type ((evs_plain has).2 q) (args_ok R has c _ _ fun vs s1 g1 ivs => ?_)
    rcases itemsC_inv h with ⟨b, rfl, h1, h2, rfl⟩ | ⟨a, b, rfl, h1, h2, h3, rfl⟩
    · obtain ⟨v, rfl, iv⟩ := ivs.one
      obtain ⟨t, rfl⟩ := iv.int'
      refine call_range_1 ?_
      exact feed_range c.room.h hgo ((c.live.keep g1.keep).keep (Grow.push ..).keep) (IsRange.new ..) (by decide) h1 (by omega) _ _ (Fed.grow (g1.trans (.push ..)) hQ)
    · obtain ⟨v, u, rfl, iv, iu⟩ := ivs.two
      obtain ⟨t, rfl⟩ := iv.int'
      obtain ⟨t', rfl⟩ := iu.int'
      refine call_range_2 ?_
      exact feed_range c.room.h hgo ((c.live.keep g1.keep).keep (Grow.push ..).keep) (IsRange.new ..) h1 h2 rfl _ _ (Fed.grow (g1.trans (.push ..)) hQ)
  · obtain ⟨elts, k, tp, rfl⟩ := pair_go ht (show decide ((Str.ofString "enumerate") = (Str.ofString "enumerate")) = true by decide)
    obtain ⟨xs, rfl, hl, rfl⟩ := itemsE_inv h
    intro Q E hQ
    refine Call_Name rfl (blt_load hg c (v := .type "enumerate") (by decide) ?_)
    refine PySem.callWith_type ((evs_plain has).2 q) (args_ok R has c _ _ fun vs s1 g1 ivs => ?_)
    obtain ⟨v, rfl, iv⟩ := ivs.one
    obtain ⟨l, vs, rfl, h1, h2, h3⟩ := iv.list'
    exact feed_enum c.room.h (c.live.keep g1.keep) h2.isList h1 h3 _ _ (Fed.grow g1 hQ)
  · refine plain_items R ?_ ht c h
    unfold isEnum
    rw [hc]
end
end Mine
end

section
set_option maxRecDepth 100000
set_option linter.unusedVariables false
namespace Mine
open PySem PySem.W PyProof.Rows PySem.Calls

/-- a turn of the innermost clause -/
noncomputable def innerTurn (elt t i : Expr) (ifs : List Expr) (e : Expr) (depth : Nat) (it acc : Value) (env : Env) : Sem Fin := do
  standAt i.pos
  match ← pyNext it with
  | none => pure (.done .next)
  | some v =>
    letOwnedTupleGo t it v
    assign t env v
    let mut ok := true
    for c in ifs do
      if ok then ok ← isTrue c env (eval c env)
    if ok then
      (do let _ ← call (.builtin "list.append") [acc, ← eval elt env])
    again (.compLoop e depth it acc env)
theorem turn1 (elt t i : Expr) (ifs : List Expr) (scope : Scope) (pos : Pos) (it acc : Value) (env : Env) :
    compTurn (.ListComp elt [⟨t, i, ifs, 0⟩] scope pos) 0 it acc env = innerTurn elt t i ifs (.ListComp elt [⟨t, i, ifs, 0⟩] scope pos) 0 it acc env := by rfl
theorem turn2 (elt t i : Expr) (ifs : List Expr) (t2 i2 : Expr) (ifs2 : List Expr) (scope : Scope) (pos : Pos) (it acc : Value) (env : Env) :
    compTurn (.ListComp elt [⟨t, i, ifs, 0⟩, ⟨t2, i2, ifs2, 0⟩] scope pos) 1 it acc env = innerTurn elt t2 i2 ifs2 (.ListComp elt [⟨t, i, ifs, 0⟩, ⟨t2, i2, ifs2, 0⟩] scope pos) 1 it acc env := by rfl
noncomputable def outerTurn (t i i2 : Expr) (e : Expr) (it acc : Value) (env : Env) : Sem Fin := do
  standAt i.pos
  match ← pyNext it with
  | none => pure (.done .next)
  | some v =>
    letOwnedTupleGo t it v
    assign t env v
    let x ← eval i2 env
    standAt i2.pos
    let x ← foldedSetIterable i2 env x
    let _ ← runOwn (.compStart e 1 (← holding [x] (pyIter x)) acc env) env
    again (.compLoop e 0 it acc env)
theorem turnO (elt t i : Expr) (t2 i2 : Expr) (ifs2 : List Expr) (scope : Scope) (pos : Pos) (it acc : Value) (env : Env) :
    compTurn (.ListComp elt [⟨t, i, [], 0⟩, ⟨t2, i2, ifs2, 0⟩] scope pos) 0 it acc env = outerTurn t i i2 (.ListComp elt [⟨t, i, [], 0⟩, ⟨t2, i2, ifs2, 0⟩] scope pos) it acc env := by rfl

section
variable {prog : Program} {w : World} {A : Around} {s : Shared} {W W₁ Ch wr fp : List Addr} {mg mb : Str → Option Value} {n : Nat} {env : Env} {ρ : Rho} {r : Rec} {own : Str → Bool}

noncomputable abbrev But (wr : List Addr) (h h' : Heap) : Prop := ∀ b o, b ∉ wr → h.get? b = some o → h'.get? b = some o
theorem Slot.but {h h' : Heap} {x : Str} {v : Value} (a : Slot env h x v) (k : But wr h h') (hl : env.locals ∉ wr) (hc : ∀ x c, env.cells.lookup x = some c → c ∉ wr) : Slot env h' x v := by
  rcases a with ⟨e, m, hn, hm⟩ | ⟨e, c, hcc, hi⟩
  · exact .inl ⟨e, m, hn.at' fun o q => k _ o hl q, hm⟩
  · refine .inr ⟨e, c, hcc, ?_⟩
    obtain ⟨o, ho, hd⟩ := hi
    exact ⟨o, k _ _ (hc x c hcc) ho, hd⟩
theorem EnvS.but {h h' : Heap} (S : EnvS h env) (k : But wr h h') (hl : env.locals ∉ wr) (hc : ∀ x c, env.cells.lookup x = some c → c ∉ wr) : EnvS h' env :=
  ⟨S.kind, S.glob, S.bltn, let ⟨m, hm⟩ := S.ns; ⟨m, hm.at' fun o q => k _ o hl q⟩, fun x hx => let ⟨c, v, h1, o, ho, hd⟩ := S.cell x hx; ⟨c, v, h1, o, k _ _ (hc x c h1) ho, hd⟩, S.inj⟩
theorem EnvD.but {h h' : Heap} (D : EnvD W h env ρ) (k : But wr h h') (hw : ∀ a ∈ wr, a ∈ W) (hl : env.locals ∉ wr) (hc : ∀ x c, env.cells.lookup x = some c → c ∉ wr) : EnvD W h' env ρ := fun x d e hv =>
  let ⟨v, h1, h2⟩ := D x d e hv; ⟨v, h1.but k hl hc, h2.off fun b o hb q => k b o (fun z => hb (hw b z)) q⟩
theorem Cx.but {s' : Shared} (c : Cx mg mb n A W s env ρ) (k : But wr s.heap s'.heap) (hw : ∀ a ∈ wr, a ∈ W) (hl : env.locals ∉ wr) (hc : ∀ x c, env.cells.lookup x = some c → c ∉ wr) (lv : ∀ a ∈ wr, ∃ o, s'.heap.get? a = some o) : Cx mg mb n A W s' env ρ :=
  ⟨c.room, c.gd.off fun b o hb q => k b o (fun z => hb (hw b z)) q, c.S.but k hl hc, c.D.but k hw hl hc, c.w, fun a ha => by
    by_cases h : a ∈ wr
    · exact lv a h
    · obtain ⟨o, ho⟩ := c.live a ha; exact ⟨o, k a o h ho⟩⟩
theorem Cx.sub (c : Cx mg mb n A W s env ρ) (hw : ∀ a ∈ W₁, a ∈ W) (w₁ : EnvW W₁ env) : Cx mg mb n A W₁ s env ρ :=
  ⟨c.room, c.gd.sub hw, c.S, fun x d e hv => let ⟨v, h1, h2⟩ := c.D x d e hv; ⟨v, h1, h2.sub hw⟩, w₁, fun a ha => c.live a (hw a ha)⟩
theorem Cx.more {N : List Addr} (c : Cx mg mb n A W s env ρ) {s' : Shared} (g : Grow s s') (hn : ∀ a ∈ N, s.heap.get? a = none) (lv : ∀ a ∈ N, ∃ o, s'.heap.get? a = some o) : Cx mg mb n A (N ++ W) s' env ρ :=
  ⟨c.room, (c.gd.more hn).keep g.keep, c.S.keep g.keep, fun x d e hv => let ⟨v, h1, h2⟩ := c.D x d e hv; ⟨v, h1.keep g.keep, (h2.more hn).keep g.keep⟩,
    ⟨List.mem_append_right _ c.w.loc, fun x a h => List.mem_append_right _ (c.w.cel x a h)⟩, fun a ha => by
      rcases List.mem_append.mp ha with q | q
      · exact lv a q
      · obtain ⟨o, ho⟩ := c.live a q; exact ⟨o, g.keep _ _ ho⟩⟩
theorem Cx.d (c : Cx mg mb n A W s env ρ) {ρ' : Rho} (D : EnvD W s.heap env ρ') : Cx mg mb n A W s env ρ' := ⟨c.room, c.gd, c.S, D, c.w, c.live⟩

theorem tests_ok (R : Sound prog w mg mb n r) {ifs : List Expr} {ok : Bool} (h : tsAll r env.scope ρ ifs = some ok) (c : Cx mg mb n A W s env ρ) (Q : Bool → Shared → Prop) (E : Value → Shared → Prop) (hQ : ∀ s', Grow s s' → Q ok s') :
    wpAny (model prog w) A (forIn ifs true fun c r => if r = true then do let ok ← isTrue c env (eval c env); pure (ForInStep.yield ok) else pure (ForInStep.yield r)) Q E s := by
  unfold tsAll at h
  split at h
  · cases h; exact wpAny_tests_nil (hQ s (.refl _))
  · exact wpAny_tests_one (R.ts h c _ _ hQ)
  · cases h

theorem inner_ok (R : Sound prog w mg mb n r) {elt elt' t i : Expr} {ifs : List Expr} {gens : List Comprehension} {csc : Scope} {pos : Pos} {depth : Nat} {I D : Addr} {ds ys₀ ys : List _root_.PySem.PyData} {St : Nat → Heap → Prop} {Src : List Addr → Heap → Prop} {vs₀ : List Value} {R0 : Result → Shared → Prop}
    (hturn : compTurn (.ListComp elt' gens csc pos) depth (.ref I) (.ref D) env = innerTurn elt t i ifs (.ListComp elt' gens csc pos) depth (.ref I) (.ref D) env)
    (F : Feeds prog w A I fp wr t ds St Src) (hc : comp1 r own env.scope ρ t ifs elt ds = some ys) (c : Cx mg mb n A (wr ++ W₁) s env ρ) (w₁ : EnvW W₁ env) (ok : OwnK own env) (oc : OwnCh own env Ch)
    (hCh : ∀ a ∈ Ch, a ∈ W₁) (hD : D ∈ W₁) (hDC : D ∉ Ch) (hDe : D ≠ env.locals) (hDc : ∀ x a, env.cells.lookup x = some a → a ≠ D) (hfp : ∀ b ∈ fp, b ∉ W₁) (st : St 0 s.heap) (src : Src (wr ++ W₁) s.heap)
    (acc : s.heap.PlainList D vs₀.toArray) (ia : IsAll (wr ++ W₁) s.heap vs₀ ys₀) (sz : ys₀.length + ds.length ≤ 100000)
    (hR : ∀ s' vs', Mov (D :: wr ++ Ch) s s' → Cx mg mb n A W₁ s' env ρ → s'.heap.PlainList D vs'.toArray → IsAll W₁ s'.heap vs' (ys₀ ++ ys) → R0 (.ok .next) s') :
    codeAny (model prog w) A (.compLoop (.ListComp elt' gens csc pos) depth (.ref I) (.ref D) env) R0 s := by
  have hw1 : ∀ a ∈ W₁, a ∈ wr ++ W₁ := fun a h => List.mem_append_right _ h
  have hwr : ∀ a ∈ wr, a ∈ wr ++ W₁ := fun a h => List.mem_append_left _ h
  have nwr : ∀ a ∈ W₁, a ∉ wr := fun a h q => hfp a (F.sub a q) h
  have hlw : env.locals ∉ wr := nwr _ w₁.loc
  have hcw : ∀ x c, env.cells.lookup x = some c → c ∉ wr := fun x c h => nwr _ (w₁.cel x c h)
  have hDw : D ∉ wr := nwr _ hD
  refine codeAny_loop rfl (fun k s' => ∃ i vs' ysd ysr, k = ds.length + 1 - i ∧ i ≤ ds.length ∧ Cx mg mb n A (wr ++ W₁) s' env ρ ∧ St i s'.heap ∧ Src (wr ++ W₁) s'.heap ∧ s'.heap.PlainList D (List.toArray vs') ∧
    IsAll (wr ++ W₁) s'.heap vs' (ys₀ ++ ysd) ∧ comp1 r own env.scope ρ t ifs elt (ds.drop i) = some ysr ∧ ys = ysd ++ ysr ∧ Mov (D :: wr ++ Ch) s s' ∧ ysd.length ≤ i) ?_ (ds.length + 1)
    ⟨0, vs₀, [], ys, by omega, by omega, c, st, src, acc, by simpa using ia, by simpa using hc, rfl, .refl .., Nat.le_refl _⟩
  rintro k s1 ⟨i, vs', ysd, ysr, rfl, hi, c1, st1, src1, acc1, ia1, hc1, rfl, mv1, hyl⟩
  show wpAny _ A ((compTurn (.ListComp elt' gens csc pos) depth (.ref I) (.ref D) env).onRaise (fun x => do noteFrame x env; theTreesLotGoes x)) _ _ s1
  refine wpAny_noted ?_
  rw [hturn]
  unfold innerTurn
  refine wpAny_bind (wpAny_standAt (wpAny_bind ?_))
  by_cases hlt : i < ds.length
  · have hd : ds[i]? = some ds[i] := by simp [hlt]
    rw [List.drop_eq_getElem_cons hlt] at hc1
    unfold comp1 at hc1
    simp only [Option.bind_eq_bind, Option.bind_eq_some_iff] at hc1
    obtain ⟨ρ', hb, b, hts, hc1⟩ := hc1
    refine wpAny_mono (F.item i s1 (wr ++ W₁) ds[i] (fun v s2 => Is (wr ++ W₁) s2.heap v ds[i] ∧ St (i + 1) s2.heap ∧ Mov wr s1 s2 ∧ (∀ b ∈ wr, ∃ o, s2.heap.get? b = some o)) _ hd st1 c1.live hwr src1 (fun v h' tk iv st' hk lv => ⟨iv, st', ⟨hk, id, rfl⟩, lv⟩)) (fun rv s2 h2 => ?_) fun _ _ x => x
    cases rv with
    | none => exact h2.elim
    | some v =>
      refine wpAny_bind (wpAny_mono h2 (fun _ s2 h2 => ?_) fun _ _ x => x)
      obtain ⟨iv, st2, mv2, lv2⟩ := h2
      have c2 : Cx mg mb n A (wr ++ W₁) s2 env ρ := c1.but mv2.keep hwr hlw hcw lv2
      have off2 : OffW (wr ++ W₁) s1.heap s2.heap := mv2.off hwr
      refine wpAny_bind (assign_ok hb c2 (fun x hx => ok x (by simp only [newIn, Bool.and_eq_true] at hx; exact hx.1)) (⟨oc.loc, fun x a hx => oc.cel x a (by simp only [newIn, Bool.and_eq_true] at hx; exact hx.1)⟩ : OwnCh (newIn own ρ) env Ch) (fun a h => hw1 a (hCh a h)) iv _ _ fun s3 mv3 c3 kd => ?_)
      have d3 : EnvD (wr ++ W₁) s3.heap env ρ := kd fun x hx => by simp only [newIn, Bool.and_eq_true, Option.isNone_iff_eq_none] at hx; exact hx.2
      have off3 : OffW (wr ++ W₁) s2.heap s3.heap := mv3.off fun a h => hw1 a (hCh a h)
      have st3 : St (i + 1) s3.heap := F.frame _ _ _ st2 fun b hb o e => mv3.keep b o (fun q => hfp b hb (hCh b q)) e
      have src3 : Src (wr ++ W₁) s3.heap := F.src _ _ _ (F.src _ _ _ src1 off2) off3
      have acc3 : s3.heap.PlainList D vs'.toArray := (acc1.at fun o e => mv2.keep D o hDw e).at fun o e => mv3.keep D o hDC e
      have ia3 : IsAll (wr ++ W₁) s3.heap vs' (ys₀ ++ ysd) := (ia1.off off2).off off3
      have mvs3 : Mov (D :: wr ++ Ch) s s3 := mv1.trans ((mv2.mono fun a h => List.mem_cons_of_mem _ (List.mem_append_left _ h)).trans (mv3.mono fun a h => List.mem_cons_of_mem _ (List.mem_append_right _ h)))
      refine wpAny_bind (tests_ok R hts c3 _ _ fun s4 g4 => ?_)
      have c4 := (c3.d d3).grow g4
      have st4 : St (i + 1) s4.heap := F.frame _ _ _ st3 fun b hb o e => g4.keep b o e
      have src4 : Src (wr ++ W₁) s4.heap := F.src _ _ _ src3 (Kp.off g4.keep)
      have acc4 : s4.heap.PlainList D vs'.toArray := acc3.at fun o e => g4.keep D o e
      have ia4 := ia3.keep g4.keep
      have mvs4 := mvs3.trans (g4.mov _)
      cases b with
      | false =>
        simp only [Bool.false_eq_true, if_false] at hc1 ⊢
        exact wpAny_pure ⟨rfl, _, by omega, i + 1, vs', ysd, ysr, rfl, hlt, c4, st4, src4, acc4, ia4, hc1, rfl, mvs4, by omega⟩
      | true =>
        simp only [if_true, Option.bind_eq_some_iff, Option.some.injEq] at hc1 ⊢
        obtain ⟨y, hy, ys2, hc1, rfl⟩ := hc1
        refine wpAny_bind (wpAny_bind (R.ev hy (c3.grow g4) _ _ fun yv s5 g5 iy => ?_))
        have c5 := c4.grow g5
        have acc5 : s5.heap.PlainList D vs'.toArray := acc4.at fun o e => g5.keep D o e
        have hsz : vs'.toArray.size ≤ sizeLine := by
          have := ia4.length
          simp only [List.length_append] at this
          simp only [List.size_toArray, this, sizeLine]; omega
        refine wpAny_bind (wpAny_list_append_plain (hsz := hsz) acc5 fun h6 hl6 hs6 => wpAny_pure (wpAny_pure ?_))
        have k6 : But [D] s5.heap h6 := fun b o hb e => (hs6.2 b (fun q => hb (by simp [q]))).trans e
        have hDW : ∀ a ∈ [D], a ∈ wr ++ W₁ := fun a h => by rw [List.mem_singleton.mp h]; exact hw1 _ hD
        have off6 : OffW (wr ++ W₁) s5.heap h6 := fun b o hb e => k6 b o (fun q => hb (hDW b q)) e
        refine ⟨rfl, ds.length + 1 - (i + 1), by omega, i + 1, vs' ++ [yv], ysd ++ [y], ys2, rfl, hlt, ?_, ?_, ?_, ?_, ?_, hc1, by simp, ?_, by simp; omega⟩
        · refine c5.but (s' := { s5 with heap := h6 }) k6 hDW (fun q => hDe (List.mem_singleton.mp q).symm) (fun x a hx q => hDc x a hx (List.mem_singleton.mp q)) fun a ha => ?_
          rw [List.mem_singleton.mp ha]; obtain ⟨m, hm⟩ := hl6; exact ⟨_, hm⟩
        · exact F.frame _ _ _ (F.frame _ _ _ st4 fun b hb o e => g5.keep b o e) fun b hb o e => k6 b o (fun q => hfp b hb (by rw [List.mem_singleton.mp q]; exact hD)) e
        · exact F.src _ _ _ (F.src _ _ _ src4 (Kp.off g5.keep)) off6
        · simpa using hl6
        · have := ((ia4.keep g5.keep).off off6).append (.cons (iy.off off6) .nil)
          simpa using this
        · refine (mvs4.trans (g5.mov _)).trans ⟨fun b o hb e => k6 b o (fun q => hb (by rw [List.mem_singleton.mp q]; exact List.mem_cons_self)) e, id, rfl⟩
  · have hin : i = ds.length := by omega
    subst hin
    simp only [List.drop_length] at hc1
    cases hc1
    refine F.done s1 _ _ st1 fun h' tk hk => wpAny_pure ?_
    have k2 : But wr s1.heap h' := hk
    have off2 : OffW (wr ++ W₁) s1.heap h' := fun b o hb e => hk b o (fun q => hb (hwr b q)) e
    refine hR _ vs' (mv1.trans ⟨fun b o hb e => hk b o (fun q => hb (List.mem_cons_of_mem _ (List.mem_append_left _ q))) e, id, rfl⟩) ?_ (acc1.at fun o e => hk D o hDw e) ?_
    · have c1' := c1.sub hw1 w₁
      refine ⟨c1.room, (c1.gd.off off2).sub hw1, c1.S.but k2 hlw hcw, fun x d e hv => ?_, w₁, fun a ha => ?_⟩
      · obtain ⟨v, h1, h2⟩ := c1.D x d e hv
        exact ⟨v, h1.but k2 hlw hcw, (h2.off off2).sub hw1⟩
      · obtain ⟨o, ho⟩ := c1'.live a ha; exact ⟨o, hk a o (nwr a ha) ho⟩
    · have := (ia1.off off2).sub hw1
      simpa using this
end
end Mine
end

section
set_option maxRecDepth 100000
set_option linter.unusedVariables false
namespace Mine
open PySem PySem.W PyProof.Rows PySem.Calls
section
variable {prog : Program} {w : World} {A : Around} {s : Shared} {W W₁ Ch wr fp : List Addr} {mg mb : Str → Option Value} {n : Nat} {env : Env} {ρ : Rho} {r : Rec} {own : Str → Bool}

theorem start_ok {elt : Expr} {gens : List Comprehension} {csc : Scope} {pos : Pos} {depth : Nat} {g : Comprehension} {it acc : Value} {R0 : Result → Shared → Prop} (hg : gens[depth]? = some g) (ha : g.is_async = 0)
    (h0 : codeAny (model prog w) A (.compLoop (.ListComp elt gens csc pos) depth it acc env) R0 s)
    (h : wpAny (model prog w) A (pyIter it) (fun it' s' => codeAny (model prog w) A (.compLoop (.ListComp elt gens csc pos) depth it' acc env) R0 s') (notedBy (model prog w) A env fun x s' => R0 (.error x) s') s) :
    codeAny (model prog w) A (.compStart (.ListComp elt gens csc pos) depth it acc env) R0 s := by
  refine codeAny_of_tree ?_
  show wpAny _ _ ((compStart (.ListComp elt gens csc pos) depth it acc env).onRaise (fun x => do noteFrame x env; standAt theWindowsPlace)) _ _ s
  refine wpAny_notedAt ?_
  unfold compStart
  have e1 : (clausesOf (.ListComp elt gens csc pos))[depth]? = some g := hg
  have e2 : ((clausesOf (.ListComp elt gens csc pos))[depth]?).elim false (·.is_async != 0) = false := by rw [e1]; simp [ha]
  rw [e2]
  simp only [Bool.false_eq_true, if_false, e1]
  refine wpAny_bind (wpAny_askSetting (wpAny_ite ?_))
  split
  · first
      | exact wpAny_bind (wpAny_pure (wpAny_pure (And.intro rfl h0)))
      | exact wpAny_pure (And.intro rfl h0)
  · exact wpAny_bind (wpAny_rule (wpAny_bind (wpAny_standAt (wpAny_bind (wpAny_mono h (fun it' s' h' => wpAny_pure (And.intro rfl h')) fun _ _ x => x)))))

theorem items_len {i : Expr} {sc : Scope} {ds : List D} (h : items r sc ρ i = some ds) : ds.length ≤ 1000 := by
  rcases items_inv h with ⟨p, args, q, as, rfl, hg, has, h⟩ | ⟨p, args, q, as, rfl, hg, has, h⟩ | ⟨hc, h⟩
  · rcases itemsC_inv h with ⟨b, rfl, h1, h2, rfl⟩ | ⟨a, b, rfl, h1, h2, h3, rfl⟩
    · simp only [irange, List.length_map, List.length_range]; omega
    · simp only [irange, List.length_map, List.length_range]; omega
  · obtain ⟨xs, rfl, hl, rfl⟩ := itemsE_inv h
    simpa using hl
  · rcases itemsV_inv h with ⟨hx, hl⟩ | ⟨x, hx, hl, rfl⟩
    · exact hl
    · rw [List.length_map]; exact hl

theorem bindT_sub {t : Expr} {d : D} {ρ' : Rho} (h : bindT (newIn own ρ) ρ t d = some ρ') : ∀ y e, ρ.lookup y = some e → ρ'.lookup y = some e := by
  intro y e hy
  have key : ∀ x, newIn own ρ x = true → y ≠ x := by
    rintro x hx rfl
    simp only [newIn, Bool.and_eq_true, Option.isNone_iff_eq_none] at hx
    rw [hx.2] at hy; cases hy
  rcases bindT_inv h with ⟨x, px, rfl, hx, rfl⟩ | ⟨a, pa, b, pb, k, pt, d, e, rfl, rfl, ha, hb, rfl⟩
  · rw [lookup_cons_ne (key _ hx)]; exact hy
  · rw [lookup_cons_ne (key _ hb), lookup_cons_ne (key _ ha)]; exact hy

theorem outer_ok (R : Sound prog w mg mb n r) {elt t i t2 i2 : Expr} {ifs2 : List Expr} {csc : Scope} {pos : Pos} {I D : Addr} {ds ys₀ ys : List _root_.PySem.PyData} {St : Nat → Heap → Prop} {Src : List Addr → Heap → Prop} {vs₀ : List Value} {R0 : Result → Shared → Prop}
    (F : Feeds prog w A I fp wr t ds St Src) (hc : comp2 r own env.scope ρ t t2 i2 ifs2 elt ds = some ys) (ht2 : tgtOk i2 t2 = true) (c : Cx mg mb n A (wr ++ W₁) s env ρ) (w₁ : EnvW W₁ env) (ok : OwnK own env) (oc : OwnCh own env Ch)
    (hCh : ∀ a ∈ Ch, a ∈ W₁) (hD : D ∈ W₁) (hDC : D ∉ Ch) (hDe : D ≠ env.locals) (hDc : ∀ x a, env.cells.lookup x = some a → a ≠ D) (hfp : ∀ b ∈ fp, b ∉ W₁) (st : St 0 s.heap) (src : Src (wr ++ W₁) s.heap)
    (acc : s.heap.PlainList D vs₀.toArray) (ia : IsAll (wr ++ W₁) s.heap vs₀ ys₀) (sz : ys₀.length + ys.length ≤ 10000)
    (hR : ∀ s' vs', Mov (D :: wr ++ Ch) s s' → Cx mg mb n A W₁ s' env ρ → s'.heap.PlainList D vs'.toArray → IsAll W₁ s'.heap vs' (ys₀ ++ ys) → R0 (.ok .next) s') :
    codeAny (model prog w) A (.compLoop (.ListComp elt [⟨t, i, [], 0⟩, ⟨t2, i2, ifs2, 0⟩] csc pos) 0 (.ref I) (.ref D) env) R0 s := by
  have hw1 : ∀ a ∈ W₁, a ∈ wr ++ W₁ := fun a h => List.mem_append_right _ h
  have hwr : ∀ a ∈ wr, a ∈ wr ++ W₁ := fun a h => List.mem_append_left _ h
  have nwr : ∀ a ∈ W₁, a ∉ wr := fun a h q => hfp a (F.sub a q) h
  have hlw : env.locals ∉ wr := nwr _ w₁.loc
  have hcw : ∀ x c, env.cells.lookup x = some c → c ∉ wr := fun x c h => nwr _ (w₁.cel x c h)
  have hDw : D ∉ wr := nwr _ hD
  have hAll : ∀ a ∈ D :: wr ++ Ch, a ∈ wr ++ W₁ := fun a h => by
    rcases List.mem_cons.mp h with rfl | h
    · exact hw1 _ hD
    · rcases List.mem_append.mp h with h | h
      · exact hwr _ h
      · exact hw1 _ (hCh _ h)
  obtain ⟨J, hJ⟩ : ∃ J : Nat → Shared → Prop, J = fun k s' => ∃ i vs' ysd ysr, k = ds.length + 1 - i ∧ i ≤ ds.length ∧ Cx mg mb n A (wr ++ W₁) s' env ρ ∧ St i s'.heap ∧ Src (wr ++ W₁) s'.heap ∧ s'.heap.PlainList D (List.toArray vs') ∧
    IsAll (wr ++ W₁) s'.heap vs' (ys₀ ++ ysd) ∧ comp2 r own env.scope ρ t t2 i2 ifs2 elt (ds.drop i) = some ysr ∧ ys = ysd ++ ysr ∧ Mov (D :: wr ++ Ch) s s' := ⟨_, rfl⟩
  refine codeAny_loop rfl J ?_ (ds.length + 1) (by rw [hJ]; exact ⟨0, vs₀, [], ys, by omega, by omega, c, st, src, acc, by simpa using ia, by simpa using hc, rfl, .refl ..⟩)
  intro k s1 hJ1
  rw [hJ] at hJ1
  obtain ⟨i', vs', ysd, ysr, hk, hi, c1, st1, src1, acc1, ia1, hc1, hys, mv1⟩ := hJ1
  show wpAny _ A ((compTurn (.ListComp elt [⟨t, i, [], 0⟩, ⟨t2, i2, ifs2, 0⟩] csc pos) 0 (.ref I) (.ref D) env).onRaise (fun x => do noteFrame x env; theTreesLotGoes x)) _ _ s1
  refine wpAny_noted ?_
  rw [turnO]
  unfold outerTurn
  refine wpAny_bind (wpAny_standAt (wpAny_bind ?_))
  by_cases hlt : i' < ds.length
  · have hd : ds[i']? = some ds[i'] := by simp [hlt]
    rw [List.drop_eq_getElem_cons hlt] at hc1
    unfold comp2 at hc1
    simp only [Option.bind_eq_bind, Option.bind_eq_some_iff, Option.some.injEq] at hc1
    obtain ⟨ρ', hb, ds2, hds2, ys2, hys2, zs, hzs, rfl⟩ := hc1
    refine wpAny_mono (F.item i' s1 (wr ++ W₁) ds[i'] (fun v s2 => Is (wr ++ W₁) s2.heap v ds[i'] ∧ St (i' + 1) s2.heap ∧ Mov wr s1 s2 ∧ (∀ b ∈ wr, ∃ o, s2.heap.get? b = some o)) _ hd st1 c1.live hwr src1 (fun v h' tk iv st' hk lv => ⟨iv, st', ⟨hk, id, rfl⟩, lv⟩)) (fun rv s2 h2 => ?_) fun _ _ x => x
    cases rv with
    | none => exact h2.elim
    | some v =>
      refine wpAny_bind (wpAny_mono h2 (fun _ s2 h2 => ?_) fun _ _ x => x)
      obtain ⟨iv, st2, mv2, lv2⟩ := h2
      have c2 : Cx mg mb n A (wr ++ W₁) s2 env ρ := c1.but mv2.keep hwr hlw hcw lv2
      have off2 : OffW (wr ++ W₁) s1.heap s2.heap := mv2.off hwr
      refine wpAny_bind (assign_ok hb c2 (fun x hx => ok x (by simp only [newIn, Bool.and_eq_true] at hx; exact hx.1)) (⟨oc.loc, fun x a hx => oc.cel x a (by simp only [newIn, Bool.and_eq_true] at hx; exact hx.1)⟩ : OwnCh (newIn own ρ) env Ch) (fun a h => hw1 a (hCh a h)) iv _ _ fun s3 mv3 c3 kd => ?_)
      have off3 : OffW (wr ++ W₁) s2.heap s3.heap := mv3.off fun a h => hw1 a (hCh a h)
      have st3 : St (i' + 1) s3.heap := F.frame _ _ _ st2 fun b hb o e => mv3.keep b o (fun q => hfp b hb (hCh b q)) e
      have src3 : Src (wr ++ W₁) s3.heap := F.src _ _ _ (F.src _ _ _ src1 off2) off3
      have acc3 : s3.heap.PlainList D vs'.toArray := (acc1.at fun o e => mv2.keep D o hDw e).at fun o e => mv3.keep D o hDC e
      have ia3 : IsAll (wr ++ W₁) s3.heap vs' (ys₀ ++ ysd) := (ia1.off off2).off off3
      have mvs3 : Mov (D :: wr ++ Ch) s s3 := mv1.trans ((mv2.mono fun a h => List.mem_cons_of_mem _ (List.mem_append_left _ h)).trans (mv3.mono fun a h => List.mem_cons_of_mem _ (List.mem_append_right _ h)))
      -- the second head
      refine wpAny_bind (wpAny_mono (items_ok R hds2 ht2 c3 (fun it s4 => codeAny (model prog w) A (.compStart (.ListComp elt [⟨t, i, [], 0⟩, ⟨t2, i2, ifs2, 0⟩] csc pos) 1 it (.ref D) env)
          (fun rr s' => (∀ f, rr = .ok f → ∃ m, m < k ∧ J m s') ∧ ∀ e, rr = .error e → cameBackBy (model prog w) A env (notedBy (model prog w) A env fun e s' => R0 (.error e) s') e s') s4) _ ?_) (fun x s4 h4 => ?_) fun _ _ x => x)
      · intro I2 fp2 wr2 St2 Src2 s4 F2 g4 st4 hfp2 hwr2 src4
        have lv4 : ∀ a ∈ wr2, ∃ o, s4.heap.get? a = some o := fun a ha => (hfp2 a (F2.sub a ha)).2
        have c4 : Cx mg mb n A (wr2 ++ (wr ++ W₁)) s4 env ρ' := c3.more g4 hwr2 lv4
        have loop : codeAny (model prog w) A (.compLoop (.ListComp elt [⟨t, i, [], 0⟩, ⟨t2, i2, ifs2, 0⟩] csc pos) 1 (.ref I2) (.ref D) env)
            (fun rr s' => (∀ f, rr = .ok f → ∃ m, m < k ∧ J m s') ∧ ∀ e, rr = .error e → cameBackBy (model prog w) A env (notedBy (model prog w) A env fun e s' => R0 (.error e) s') e s') s4 := by
          refine inner_ok R (turn2 ..) F2 hys2 c4 c3.w ok oc (fun a h => hw1 a (hCh a h)) (hw1 _ hD) hDC hDe hDc (fun b hb => (hfp2 b hb).1) st4 src4 (acc3.at fun o e => g4.keep _ o e)
            ((ia3.more hwr2).keep g4.keep) ?_ fun s5 vs5 mv5 c5 acc5 ia5 => ⟨fun f _ => ⟨ds.length + 1 - (i' + 1), by omega, ?_⟩, fun e he => by cases he⟩
          · have := items_len hds2
            rw [hys] at sz
            simp only [List.length_append] at sz ⊢
            omega
          · rw [hJ]
            have mvs5 : Mov (D :: wr ++ Ch) s s5 := by
              refine ⟨fun b o hb e => ?_, fun h => mv5.gens (g4.gens (mvs3.gens h)), mv5.os.trans (g4.os.trans mvs3.os)⟩
              have e3 := mvs3.keep b o hb e
              have e4 := g4.keep b o e3
              refine mv5.keep b o (fun q => ?_) e4
              rcases List.mem_cons.mp q with q | q
              · exact hb (q ▸ List.mem_cons_self)
              · rcases List.mem_append.mp q with q | q
                · rw [hwr2 b q] at e3; cases e3
                · exact hb (List.mem_cons_of_mem _ (List.mem_append_right _ q))
            have off35 : OffW (wr ++ W₁) s3.heap s5.heap := fun b o hb e => by
              refine mv5.keep b o (fun q => ?_) (g4.keep b o e)
              rcases List.mem_cons.mp q with q | q
              · exact hb (q ▸ hw1 _ hD)
              · rcases List.mem_append.mp q with q | q
                · rw [hwr2 b q] at e; cases e
                · exact hb (hw1 _ (hCh _ q))
            have fr35 : ∀ b ∈ fp, ∀ o, s3.heap.get? b = some o → s5.heap.get? b = some o := fun b hb o e => by
              refine mv5.keep b o (fun q => ?_) (g4.keep b o e)
              rcases List.mem_cons.mp q with q | q
              · exact hfp b hb (q ▸ hD)
              · rcases List.mem_append.mp q with q | q
                · rw [hwr2 b q] at e; cases e
                · exact hfp b hb (hCh _ q)
            refine ⟨i' + 1, vs5, ysd ++ ys2, zs, rfl, hlt, c5.d fun y e hy hv => c5.D y e (bindT_sub hb y e hy) hv, F.frame _ _ _ st3 fr35, F.src _ _ _ src3 off35, acc5, ?_, hzs, ?_, mvs5⟩
            · simpa using ia5
            · rw [hys]; simp
        exact start_ok (g := ⟨t2, i2, ifs2, 0⟩) rfl rfl loop (F2.self 0 _ _ _ st4 loop)
      · refine wpAny_bind (wpAny_standAt (wpAny_bind (wpAny_of_eq (notSet_fold hds2 x) (wpAny_bind (wpAny_holding (wpAny_mono h4 (fun it s5 h5 => ?_) fun _ _ x => x))))))
        refine wpAny_bind (wpAny_runOwn (codeAny_mono h5 fun rr s' hr => ?_))
        cases rr with
        | ok f => exact wpAny_pure ⟨rfl, hr.1 f rfl⟩
        | error e => exact hr.2 e rfl
  · have hin : i' = ds.length := by omega
    subst hin
    simp only [List.drop_length] at hc1
    cases hc1
    subst hys
    refine F.done s1 _ _ st1 fun h' tk hk => wpAny_pure ?_
    have k2 : But wr s1.heap h' := hk
    have off2 : OffW (wr ++ W₁) s1.heap h' := fun b o hb e => hk b o (fun q => hb (hwr b q)) e
    refine hR _ vs' (mv1.trans ⟨fun b o hb e => hk b o (fun q => hb (List.mem_cons_of_mem _ (List.mem_append_left _ q))) e, id, rfl⟩) ?_ (acc1.at fun o e => hk D o hDw e) ?_
    · have c1' := c1.sub hw1 w₁
      refine ⟨c1.room, (c1.gd.off off2).sub hw1, c1.S.but k2 hlw hcw, fun x d e hv => ?_, w₁, fun a ha => ?_⟩
      · obtain ⟨v, h1, h2⟩ := c1.D x d e hv
        exact ⟨v, h1.but k2 hlw hcw, (h2.off off2).sub hw1⟩
      · obtain ⟨o, ho⟩ := c1'.live a ha; exact ⟨o, hk a o (nwr a ha) ho⟩
    · have := (ia1.off off2).sub hw1
      simpa using this
end
end Mine
end

section
set_option maxRecDepth 100000
set_option linter.unusedVariables false
namespace Mine
open PySem PySem.W PyProof.Rows PySem.Calls
section
variable {prog : Program} {w : World} {A : Around} {s : Shared} {W W₁ Ch wr fp : List Addr} {mg mb : Str → Option Value} {n : Nat} {env : Env} {ρ : Rho} {r : Rec} {own : Str → Bool}

theorem new_cenv {M : Model} {csc : Scope} {cl : List (Str × Addr)} {Q : Env → Shared → Prop} {E : Value → Shared → Prop}
    (h : Q { scope := csc, locals := s.heap.objs.size, globals := env.globals, cells := cellsFrom (s.heap.objs.size + 1) csc.names cl, qual := env.qual, func := none, code := env.code, frame := env.frame, builtins := env.builtins }
      { s with heap := chHeap csc s.heap }) : wpAny M A (newFunctionEnv csc env.globals cl [] env.qual none .none (some env)) Q E s := by
  simp only [newFunctionEnv, Option.isSome_some, if_true]
  refine wpAny_bind (wpAny_alloc ?_)
  refine wpAny_bind (wpAny_layCells _ (fun name kind cells => by cases hkc : kind == NameKind.cell <;> simp [hkc]) _ _ _ _ ?_)
  rw [show ({ s with heap := s.heap.push { cls := .type "dict", data := .dict #[] } } : Shared).heap.objs.size = s.heap.objs.size + 1 from Heap.size_push ..]
  simp only [List.forIn_nil, pure_bind]
  exact wpAny_pure h

theorem own_kinds {csc : Scope} {x : Str} (h : isOwnVar csc x = true) : kindIn csc x = some .local ∨ kindIn csc x = some .cell := by
  unfold isOwnVar at h
  split at h
  · rename_i e; exact .inl e
  · rename_i e; exact .inr e
  · cases h

noncomputable abbrev Comp1P (r : Rec) (sc csc : Scope) (ρ : Rho) (elt : Expr) (gens : List Comprehension) (ys : List D) : Prop := ∃ t i ifs ds, gens = [⟨t, i, ifs, 0⟩] ∧ tgtOk i t = true ∧ items r sc ρ i = some ds ∧ comp1 r (isOwnVar csc) (relab csc sc) (freeOnly csc ρ) t ifs elt ds = some ys
noncomputable abbrev Comp2P (r : Rec) (sc csc : Scope) (ρ : Rho) (elt : Expr) (gens : List Comprehension) (ys : List D) : Prop := ∃ t i t2 i2 ifs2 ds, gens = [⟨t, i, [], 0⟩, ⟨t2, i2, ifs2, 0⟩] ∧ tgtOk i t = true ∧ tgtOk i2 t2 = true ∧ items r sc ρ i = some ds ∧ comp2 r (isOwnVar csc) (relab csc sc) (freeOnly csc ρ) t t2 i2 ifs2 elt ds = some ys ∧ ys.length ≤ 1000
theorem ite_none {c : Bool} {α : Type} {a : Option α} {d : α} (h : (if c = true then a else none) = some d) : c = true ∧ a = some d := by
  cases c
  · cases h
  · exact ⟨rfl, h⟩
theorem evComp1_inv {sc csc : Scope} {elt : Expr} {g : Comprehension} {ys : List D} (h : (if g.is_async == 0 && tgtOk g.iter g.target then (items r sc ρ g.iter).bind fun ds =>
      comp1 r (isOwnVar csc) (relab csc sc) (freeOnly csc ρ) g.target g.ifs elt ds
    else none) = some ys) : Comp1P r sc csc ρ elt [g] ys := by
  obtain ⟨ht, h⟩ := ite_none h
  obtain ⟨t, i, ifs, a⟩ := g
  rw [Bool.and_eq_true, beq_iff_eq] at ht
  obtain ⟨ds, hds, hc⟩ := Option.bind_eq_some_iff.mp h
  exact ⟨t, i, ifs, ds, by rw [show a = 0 from ht.1], ht.2, hds, hc⟩
theorem evComp2_inv {sc csc : Scope} {elt : Expr} {g g2 : Comprehension} {ys : List D} (h : (if g.is_async == 0 && g2.is_async == 0 && g.ifs.isEmpty && tgtOk g.iter g.target && tgtOk g2.iter g2.target then (items r sc ρ g.iter).bind fun ds =>
      (comp2 r (isOwnVar csc) (relab csc sc) (freeOnly csc ρ) g.target g2.target g2.iter g2.ifs elt ds).bind fun ys =>
      if ys.length ≤ 1000 then some ys else none
    else none) = some ys) : Comp2P r sc csc ρ elt [g, g2] ys := by
  obtain ⟨ht, h⟩ := ite_none h
  obtain ⟨t, i, ifs, a⟩ := g
  obtain ⟨t2, i2, ifs2, a2⟩ := g2
  simp only [Bool.and_eq_true, beq_iff_eq, List.isEmpty_iff] at ht
  obtain ⟨ds, hds, h2⟩ := Option.bind_eq_some_iff.mp h
  clear h
  obtain ⟨ys', hc, h3⟩ := Option.bind_eq_some_iff.mp h2
  obtain ⟨hl, rfl⟩ := ite_some' h3
  exact ⟨t, i, t2, i2, ifs2, ds, by rw [ht.1.1.1.1, ht.1.1.1.2, ht.1.1.2], ht.1.2, ht.2, hds, hc, hl⟩
theorem evComp_inv {sc csc : Scope} {elt : Expr} {gens : List Comprehension} {ys : List D} (h : evComp r sc ρ elt gens csc = some ys) : compOk csc sc = true ∧ (Comp1P r sc csc ρ elt gens ys ∨ Comp2P r sc csc ρ elt gens ys) := by
  obtain ⟨hok, h⟩ := ite_none h
  refine ⟨hok, ?_⟩
  rcases gens with _ | ⟨g, _ | ⟨g2, _ | ⟨g3, gs⟩⟩⟩
  · exact none_ne h
  · exact .inl (evComp1_inv h)
  · exact .inr (evComp2_inv h)
  · exact none_ne h

theorem comp_core (R : Sound prog w mg mb n r) {elt : Expr} {gens : List Comprehension} {csc : Scope} {pos : Pos} {ys : List D} (h : evComp r env.scope ρ elt gens csc = some ys) (c : Cx mg mb n A W s env ρ)
    {RR : Value → Addr → Result → Shared → Prop} {E : Value → Shared → Prop}
    (hRR : ∀ D C s' vs, Grow s s' → s.heap.get? D = none → s.heap.get? C = none → D ≠ C → (∃ m, s'.heap.Ns C m) → s'.heap.PlainList D (List.toArray vs) → IsAll (D :: C :: W) s'.heap vs ys → RR (.ref D) C (.ok .next) s') :
    wpAny (model prog w) A (firstIter gens env) (fun x s₁ => wpAny (model prog w) A (pyIter x) (fun it s₂ => wpAny (model prog w) A (newList []) (fun acc s₃ =>
      wpAny (model prog w) A (newFunctionEnv csc env.globals (closOf env csc.names []) [] env.qual none .none (some env)) (fun cenv s₄ =>
        codeAny (model prog w) A (.compStart (.ListComp elt gens csc pos) 0 it acc { cenv with scope := relabel csc env }) (RR acc cenv.locals) s₄) E s₃) E s₂) E s₁) E s := by
  obtain ⟨hok, h⟩ := evComp_inv h
  · have hnd : (csc.names.map (·.1)).Nodup := by
      simp only [compOk, Bool.and_eq_true] at hok
      exact nodup_ok hok.1.2
    -- all that follows the head is alike
    have key : ∀ (I : Addr) (fp wr : List Addr) (t : Expr) (ds : List D) (St : Nat → Heap → Prop) (Src : List Addr → Heap → Prop) (s₂ : Shared), Feeds prog w A I fp wr t ds St Src → Grow s s₂ → St 0 s₂.heap → (∀ b ∈ fp, b ∉ W ∧ ∃ o, s₂.heap.get? b = some o) → (∀ b ∈ wr, s.heap.get? b = none) → Src (wr ++ W) s₂.heap →
        (∀ (D C : Addr) (Ch W₁ : List Addr) (s₄ : Shared), OwnK (isOwnVar csc) (cenvOf csc env C) → OwnCh (isOwnVar csc) (cenvOf csc env C) Ch → Cx mg mb n A (wr ++ W₁) s₄ (cenvOf csc env C) (freeOnly csc ρ) → EnvW W₁ (cenvOf csc env C) → (∀ a ∈ Ch, a ∈ W₁) → D ∈ W₁ → D ∉ Ch → D ≠ C →
          (∀ x a, (cenvOf csc env C).cells.lookup x = some a → a ≠ D) → (∀ b ∈ fp, b ∉ W₁) → St 0 s₄.heap → Src (wr ++ W₁) s₄.heap → s₄.heap.PlainList D ([] : List Value).toArray →
          (∀ s' vs', Mov (D :: wr ++ Ch) s₄ s' → Cx mg mb n A W₁ s' (cenvOf csc env C) (freeOnly csc ρ) → s'.heap.PlainList D vs'.toArray → IsAll W₁ s'.heap vs' ys → RR (.ref D) C (.ok .next) s') →
          codeAny (model prog w) A (.compLoop (.ListComp elt gens csc pos) 0 (.ref I) (.ref D) (cenvOf csc env C)) (RR (.ref D) C) s₄) →
        (∃ g, gens[0]? = some g ∧ g.is_async = 0) →
        wpAny (model prog w) A (newList []) (fun acc s₃ => wpAny (model prog w) A (newFunctionEnv csc env.globals (closOf env csc.names []) [] env.qual none .none (some env)) (fun cenv s₄ =>
          codeAny (model prog w) A (.compStart (.ListComp elt gens csc pos) 0 (.ref I) acc { cenv with scope := relabel csc env }) (RR acc cenv.locals) s₄) E s₃) E s₂ := by
      intro I fp wr t ds St Src s₂ F g2 st2 hfp hwr src2 hloop hg0
      obtain ⟨g0, hg0, hg0a⟩ := hg0
      refine wpAny_newObj_type (new_cenv ?_)
      -- names for the places
      generalize hD : s₂.heap.objs.size = D
      have hDn : s₂.heap.get? D = none := hD ▸ get_size _
      obtain ⟨s₃, hs₃⟩ : ∃ s₃ : Shared, s₃ = { s₂ with heap := s₂.heap.push { cls := .type "list", data := .seq ([] : List Value).toArray } } := ⟨_, rfl⟩
      have g3 : Grow s₂ s₃ := hs₃ ▸ .push s₂ _ s₂.toks
      rw [← hs₃]
      generalize hC : s₃.heap.objs.size = C
      have hCn : s₃.heap.get? C = none := hC ▸ get_size _
      have hD3 : s₃.heap.get? D = some { cls := .type "list", data := .seq ([] : List Value).toArray } := by rw [hs₃, ← hD]; exact Heap.get?_push_size _ rfl
      have fr := cenvW_fresh csc s₃.heap
      rw [hC] at fr
      have cg := c.grow (g2.trans g3)
      have ce := comp_env cg hok s₃.toks
      rw [hC] at ce
      have c2 : Cx mg mb n A (wr ++ W) s₂ env ρ := c.more g2 hwr fun a ha => (hfp a (F.sub a ha)).2
      have c3 : Cx mg mb n A ([D] ++ (wr ++ W)) s₃ env ρ := c2.more g3 (fun a ha => by rw [List.mem_singleton.mp ha]; exact hDn) fun a ha => by rw [List.mem_singleton.mp ha]; exact ⟨_, hD3⟩
      have ce3 := comp_env c3 hok s₃.toks
      rw [hC] at ce3
      have K4 : Kp s₃.heap (chHeap csc s₃.heap) := chHeap_keep csc s₃.heap
      have hDC : D ∉ (C :: (cellsFrom (C + 1) csc.names []).map (·.2)) := fun q => by rw [(fr D q).1] at hD3; cases hD3
      have old : ∀ a, (∃ o, s.heap.get? a = some o) → a ≠ D := fun a ⟨o, ho⟩ e => by have := g2.keep a o ho; rw [e, hDn] at this; cases this
      have w1 : EnvW ([D] ++ cenvW csc C W) (cenvOf csc env C) := ⟨List.mem_append_right _ ce.w.loc, fun x a h => List.mem_append_right _ (ce.w.cel x a h)⟩
      -- own cells
      have ownCel : ∀ x a, isOwnVar csc x = true → (cenvOf csc env C).cells.lookup x = some a → a ∈ (C :: (cellsFrom (C + 1) csc.names []).map (·.2)) := by
        intro x a hx ha
        have hm : (x, a) ∈ cellsFrom (C + 1) csc.names (closOf env csc.names []) := lookup_mem ha
        rw [cellsFrom_append] at hm
        rcases List.mem_append.mp hm with q | q
        · exact List.mem_cons_of_mem _ (List.mem_map.mpr ⟨_, q, rfl⟩)
        · rcases closOf_mem _ _ x a q with q | ⟨q, _⟩
          · cases q
          · have e := mem_lookup_nodup hnd q
            rcases own_kinds hx with e' | e' <;> unfold kindIn at e' <;> rw [e] at e' <;> cases e'
      have hm := hloop D C (C :: (cellsFrom (C + 1) csc.names []).map (·.2)) ([D] ++ cenvW csc C W) { s₃ with heap := chHeap csc s₃.heap } ?_ ⟨List.mem_cons_self, ownCel⟩ ?_ w1 ?_ ?_ hDC ?_ ?_ ?_ ?_ ?_ ?_ ?_
      · exact start_ok hg0 hg0a hm (F.self 0 _ _ _ (F.frame _ _ _ st2 fun b hb o e => K4 _ _ (g3.keep _ _ e)) hm)
      · intro x hx
        have e : (cenvOf csc env C).kindOf x = kindIn (relab csc env.scope) x := rfl
        rw [e, kind_relab]
        rcases own_kinds hx with q | q <;> rw [q]
        · exact .inl rfl
        · exact .inr rfl
      · refine ce3.sub (fun a ha => ?_) ⟨List.mem_append_right _ w1.loc, fun x a h => List.mem_append_right _ (w1.cel x a h)⟩
        rcases List.mem_append.mp ha with q | q
        · exact List.mem_append_right _ (List.mem_append_right _ (List.mem_append_left _ q))
        · rcases List.mem_append.mp q with q | q
          · exact List.mem_append_right _ (List.mem_append_left _ q)
          · rcases List.mem_append.mp q with q | q
            · exact List.mem_append_left _ q
            · exact List.mem_append_right _ (List.mem_append_right _ (List.mem_append_right _ q))
      · exact fun a ha => List.mem_append_right _ (List.mem_append_left _ ha)
      · exact List.mem_append_left _ List.mem_cons_self
      · exact fun q => hDC (q ▸ List.mem_cons_self)
      · intro x a ha e
        rcases List.mem_append.mp (ce.w.cel x a ha) with q | q
        · exact hDC (e ▸ q)
        · exact old a (c.live a q) e
      · intro b hb q
        obtain ⟨hbW, o, ho⟩ := hfp b hb
        rcases List.mem_append.mp q with q | q
        · rw [List.mem_singleton.mp q, hDn] at ho; cases ho
        · rcases List.mem_append.mp q with q | q
          · have := g3.keep b o ho; rw [(fr b q).1] at this; cases this
          · exact hbW q
      · exact F.frame _ _ _ st2 fun b hb o e => K4 _ _ (g3.keep _ _ e)
      · refine F.src _ s₂.heap _ (F.more _ _ _ src2 fun a ha => ?_) (Kp.off fun b o e => K4 _ _ (g3.keep _ _ e))
        rcases List.mem_append.mp ha with q | q
        · exact .inl (List.mem_append_left _ q)
        · rcases List.mem_append.mp q with q | q
          · exact .inr (by rw [List.mem_singleton.mp q]; exact hDn)
          · rcases List.mem_append.mp q with q | q
            · right
              cases e : s₂.heap.get? a with
              | none => rfl
              | some o => have := g3.keep a o e; rw [(fr a q).1] at this; cases this
            · exact .inl (List.mem_append_right _ q)
      · exact ⟨_, K4 _ _ hD3⟩
      · intro s' vs' mv c' acc ia
        refine hRR D C s' vs' ?_ ?_ ?_ (fun q => hDC (q ▸ List.mem_cons_self)) c'.S.ns acc (ia.sub fun a ha => ?_)
        · refine ⟨fun b o e => mv.keep b o (fun q => ?_) (K4 _ _ (g3.keep _ _ (g2.keep _ _ e))), fun h => mv.gens (g3.gens (g2.gens h)), mv.os.trans (g3.os.trans g2.os)⟩
          rcases List.mem_cons.mp q with q | q
          · exact old b ⟨o, e⟩ q
          · rcases List.mem_append.mp q with q | q
            · rw [hwr b q] at e; cases e
            · have := g3.keep _ _ (g2.keep _ _ e); rw [(fr b q).1] at this; cases this
        · cases e : s.heap.get? D with
          | none => rfl
          | some o => exact absurd rfl (old D ⟨o, e⟩)
        · cases e : s.heap.get? C with
          | none => rfl
          | some o => have := g3.keep _ _ (g2.keep _ _ e); rw [hCn] at this; cases this
        · rcases List.mem_cons.mp ha with rfl | ha
          · exact List.mem_append_left _ List.mem_cons_self
          · rcases List.mem_cons.mp ha with rfl | ha
            · exact List.mem_append_right _ (List.mem_append_left _ List.mem_cons_self)
            · exact List.mem_append_right _ (List.mem_append_right _ ha)
    rcases h with ⟨t, i, ifs, ds, rfl, ht, hds, hc⟩ | ⟨t, i, t2, i2, ifs2, ds, rfl, ht, ht2, hds, hc, hl⟩
    · refine items_ok R hds ht c _ _ fun I fp wr St Src s₂ F g2 st2 hfp hwr src2 => ?_
      refine key I fp wr t ds St Src s₂ F g2 st2 hfp hwr src2 ?_ ⟨_, rfl, rfl⟩
      intro D C Ch W₁ s₄ ok oc c4 w1 hCh hD hDC hDe hDc hfp' st4 src4 acc4 hR
      refine inner_ok R (turn1 ..) F hc c4 w1 ok oc hCh hD hDC hDe hDc hfp' st4 src4 acc4 .nil ?_ fun s' vs' mv c' acc ia => hR s' vs' mv c' acc (by simpa using ia)
      have := items_len hds; rw [List.length_nil]; omega
    · refine items_ok R hds ht c _ _ fun I fp wr St Src s₂ F g2 st2 hfp hwr src2 => ?_
      refine key I fp wr t ds St Src s₂ F g2 st2 hfp hwr src2 ?_ ⟨_, rfl, rfl⟩
      intro D C Ch W₁ s₄ ok oc c4 w1 hCh hD hDC hDe hDc hfp' st4 src4 acc4 hR
      refine outer_ok R F hc ht2 c4 w1 ok oc hCh hD hDC hDe hDc hfp' st4 src4 acc4 .nil ?_ fun s' vs' mv c' acc ia => hR s' vs' mv c' acc (by simpa using ia)
      rw [List.length_nil]; omega
end
end Mine
end

section
set_option maxRecDepth 100000
set_option linter.unusedVariables false
namespace Mine
open PySem PySem.W PyProof.Rows PySem.Calls
section
variable {prog : Program} {w : World} {A : Around} {s : Shared} {W : List Addr} {mg mb : Str → Option Value} {n : Nat} {env : Env} {ρ : Rho} {r : Rec}

theorem comp_head {elt : Expr} {gens : List Comprehension} {csc : Scope} {ys : List D} (h : evComp r env.scope ρ elt gens csc = some ys) :
    compOk csc env.scope = true ∧ ∃ g gs, gens = g :: gs ∧ g.is_async = 0 ∧ ∀ x, foldedSetIterable g.iter env x = pure x := by
  obtain ⟨hok, h⟩ := evComp_inv h
  refine ⟨hok, ?_⟩
  rcases h with ⟨t, i, ifs, ds, rfl, ht, hds, hc⟩ | ⟨t, i, t2, i2, ifs2, ds, rfl, ht, ht2, hds, hc, hl⟩
  · exact ⟨_, _, rfl, rfl, notSet_fold hds⟩
  · exact ⟨_, _, rfl, rfl, notSet_fold hds⟩

theorem comp_frame (c : Cx mg mb n A W s env ρ) {csc : Scope} (hok : compOk csc env.scope = true) : closureFor csc env = pure (closOf env csc.names []) ∧ csc.kind = .function ∧ ∀ x ∈ csc.names, x.2 = NameKind.local → csc.names.lookup x.1 = some .local := by
  simp only [compOk, Bool.and_eq_true, beq_iff_eq, List.all_eq_true, Bool.or_eq_true, bne_iff_ne, ne_eq] at hok
  obtain ⟨⟨hk, hnd⟩, hfree⟩ := hok
  refine ⟨closureFor_is fun p hp hf => ?_, hk, fun x hx hl => ?_⟩
  · rcases hfree p hp with q | q
    · exact absurd hf q
    · obtain ⟨a, v, ha, _⟩ := c.S.cell p.1 q
      exact ⟨a, ha⟩
  · obtain ⟨y, k⟩ := x
    simp only at hl; subst hl
    exact mem_lookup_nodup (nodup_ok hnd) hx

/-- a comprehension makes a new list -/
theorem listcomp_ok (R : Sound prog w mg mb n r) {elt : Expr} {gens : List Comprehension} {csc : Scope} {pos : Pos} {ys : List D} (h : evComp r env.scope ρ elt gens csc = some ys) (c : Cx mg mb n A W s env ρ) (Q : Value → Shared → Prop) (E : Value → Shared → Prop)
    (hQ : ∀ D s' vs, Grow s s' → s.heap.get? D = none → s'.heap.PlainList D (List.toArray vs) → IsAll (D :: W) s'.heap vs ys → Q (.ref D) s') : wpAny (model prog w) A (eval (.ListComp elt gens csc pos) env) Q E s := by
  obtain ⟨hok, g, gs, rfl, ha, hf⟩ := comp_head h
  obtain ⟨h1, h2, h3⟩ := comp_frame c hok
  have hfa : firstAsync (g :: gs) = false := by
    obtain ⟨a, b, c, d⟩ := g
    simp only at ha; subst ha; rfl
  rw [eval_ListComp, hfa]
  refine wpAny_comprehension_free (use := none) rfl hf h1 h2 h3 ?_
  refine comp_core R h c (RR := fun acc C => compPost (model prog w) A E none Q acc C) fun D C s' vs gr hD hC hDC hn hl ia => ?_
  obtain ⟨m, hn⟩ := hn
  refine ⟨m, hn, fun h' hs => ?_⟩
  have off : OffW (D :: C :: W) s'.heap h' := fun b o hb e => (hs.2 b fun q => hb (q ▸ List.mem_cons_of_mem _ List.mem_cons_self)).trans e
  refine hQ D _ vs ⟨fun b o e => (hs.2 b fun q => by rw [q, hC] at e; cases e).trans (gr.keep b o e), gr.gens, gr.os⟩ hD (hl.at fun o e => (hs.2 D hDC).trans e) ((ia.off off).sub fun a ha => ?_)
  rcases List.mem_cons.mp ha with rfl | ha
  · exact List.mem_cons_self
  · exact List.mem_cons_of_mem _ (List.mem_cons_of_mem _ ha)

theorem bools_ok (R : Sound prog w mg mb n r) {op : BoolOp} {pos : Pos} : ∀ {es : List Expr} {d : D} {s : Shared}, evBools r env.scope ρ op es = some d → Cx mg mb n A W s env ρ → Giv (model prog w) A W s (boolOp pos op (evalEach es env)) d := by
  intro es
  induction es with
  | nil => intro d s h; cases h
  | cons e es ih =>
    intro d s h c Q E hQ
    cases es with
    | nil => exact R.ev h c Q E hQ
    | cons e2 es =>
      unfold evBools at h
      simp only [Option.bind_eq_bind, Option.bind_eq_some_iff] at h
      obtain ⟨d1, hd1, b, hb, h⟩ := h
      show wpAny _ A (do
        let v ← eval e env
        standAt pos
        let t ← holding [v] (truthy v)
        match op, t with
        | .And, false | .Or, true => pure v
        | _, _ => boolOp pos op (evalEach (e2 :: es) env)) Q E s
      refine wpAny_bind (R.ev hd1 c _ _ fun v s1 g1 iv => wpAny_bind (wpAny_standAt (wpAny_bind (wpAny_holding (truth_ok hb iv _ _ fun s2 g2 => ?_)))))
      cases op <;> cases b
      · cases h; exact wpAny_pure (hQ _ _ (g1.trans g2) (iv.keep g2.keep))
      · exact ih h ((c.grow g1).grow g2) Q E fun v' s3 g3 i3 => hQ v' s3 ((g1.trans g2).trans g3) i3
      · exact ih h ((c.grow g1).grow g2) Q E fun v' s3 g3 i3 => hQ v' s3 ((g1.trans g2).trans g3) i3
      · cases h; exact wpAny_pure (hQ _ _ (g1.trans g2) (iv.keep g2.keep))

theorem tests2_ok (R : Sound prog w mg mb n r) {op : BoolOp} : ∀ {es : List Expr} {b : Bool} {s : Shared}, tsBools r env.scope ρ op es = some b → Cx mg mb n A W s env ρ → GivB (model prog w) A s (allTrue op es env) b := by
  intro es
  induction es with
  | nil =>
    intro b s h c Q E hQ
    cases h
    cases op
    · exact wpAny_allTrue_And_nil (hQ s (.refl _))
    · exact wpAny_allTrue_Or_nil (hQ s (.refl _))
  | cons e es ih =>
    intro b s h c Q E hQ
    unfold tsBools at h
    simp only [Option.bind_eq_bind, Option.bind_eq_some_iff] at h
    obtain ⟨b1, hb1, h⟩ := h
    cases op
    · refine wpAny_allTrue_And_cons (R.ts hb1 c _ _ fun s1 g1 => ?_)
      cases b1
      · cases h; exact hQ s1 g1
      · exact ih h (c.grow g1) Q E fun s2 g2 => hQ s2 (g1.trans g2)
    · refine wpAny_allTrue_Or_cons (R.ts hb1 c _ _ fun s1 g1 => ?_)
      cases b1
      · exact ih h (c.grow g1) Q E fun s2 g2 => hQ s2 (g1.trans g2)
      · cases h; exact hQ s1 g1

theorem part_ok (R : Sound prog w mg mb n r) {e : Option Expr} {k : Option Int} (h : evOpt r env.scope ρ e = some k) (c : Cx mg mb n A W s env ρ) (Q : Value → Shared → Prop) (E : Value → Shared → Prop) (hQ : ∀ v s', Grow s s' → PartIs v k → Q v s') :
    wpAny (model prog w) A (evalPart e env) Q E s := by
  cases e with
  | none => cases h; exact wpAny_pure (hQ _ _ (.refl _) rfl)
  | some e =>
    (unfold evOpt at h; try dsimp only at h)
    split at h
    · rename_i i hi
      split at h
      · cases h
        exact R.ev hi c _ _ fun v s1 g1 iv => hQ v s1 g1 iv.int'
      · cases h
    · cases h

theorem notSetMarks {op : CmpOp} {e : Expr} (h : isSetE e = false) : behindInMarks op e = false := by
  cases e <;> first | rfl | cases h

theorem typeIs_list {l : Addr} {vs : Array Value} (h : s.heap.PlainList l vs) : s.TypeIs (.ref l) "list" := let ⟨_, e⟩ := h; ⟨_, e, rfl⟩

theorem tail_ok {value slice : Expr} {v i : Value} {d e : D} {ops : List Value} (iv : Is W s.heap v d) (hd : (∃ xs, d = .list xs) ∨ ∃ x, d = .str x) (hg : Giv (model prog w) A W s (getItem v i) e)
    (hs : subscripted slice false v i = operate ops (getItem v i)) : Giv (model prog w) A W s (subscriptTail value slice v i) e := by
  intro Q E hQ
  rcases hd with ⟨xs, rfl⟩ | ⟨x, rfl⟩
  · obtain ⟨l, vs, rfl, h1, h2, h3⟩ := iv.list'
    exact tail_any (typeIs_list h2) list_getitem_lookup (hg Q E hQ) hs
  · obtain ⟨t, rfl⟩ := iv.str'
    exact tail_any (typeIs_str _ _ _) F.slot_str_getitem.lookup (hg Q E hQ) hs

theorem evF_Constant (R : Sound prog w mg mb n r) {cst : Const} {k : Nat} {p : Pos} {d : D} (h : evF r env.scope ρ (.Constant cst k p) = some d) (c : Cx mg mb n A W s env ρ) : Giv (model prog w) A W s (eval (.Constant cst k p) env) d := by
  unfold evF at h; dsimp only at h
  intro Q E hQ
  unfold pconst at h
  split at h
  · cases h; exact wpAny_Constant_none (hQ _ _ (.refl _) .none)
  · cases h; exact wpAny_Constant_bool (hQ _ _ (.refl _) (.bool _))
  · cases h; exact wpAny_Constant_int (hQ _ _ (.toks ..) (.int ..))
  · split at h
    · cases h; exact wpAny_Constant_str (hQ _ _ (.toks ..) (.str ..))
    · cases h
  · cases h
theorem evF_Name (R : Sound prog w mg mb n r) {x : Str} {p : Pos} {d : D} (h : evF r env.scope ρ (.Name x p) = some d) (c : Cx mg mb n A W s env ρ) : Giv (model prog w) A W s (eval (.Name x p) env) d := by
  unfold evF at h; dsimp only at h
  split at h
  · rename_i hv
    exact name_ok hv h c
  · split at h
    · rename_i hg
      simp only [Bool.and_eq_true, decide_eq_true_eq] at hg
      obtain ⟨hg, rfl⟩ := hg
      cases h
      intro Q E hQ
      obtain ⟨t, ht⟩ := c.gd.gd.em
      exact glob_ok hg c ht (hQ _ _ (.refl _) (.str ..))
    · cases h
theorem evF_BinOp (R : Sound prog w mg mb n r) {a b : Expr} {op : Operator} {p : Pos} {d : D} (h : evF r env.scope ρ (.BinOp a op b p) = some d) (c : Cx mg mb n A W s env ρ) : Giv (model prog w) A W s (eval (.BinOp a op b p) env) d := by
  unfold evF at h; dsimp only at h
  simp only [Option.bind_eq_bind, Option.bind_eq_some_iff] at h
  obtain ⟨da, ha, db, hb, h⟩ := h
  intro Q E hQ
  refine wpAny_BinOp (R.ev ha c _ _ fun va s1 g1 ia => R.ev hb (c.grow g1) _ _ fun vb s2 g2 ib => ?_)
  exact bin_ok h ((c.grow g1).grow g2).live (ia.keep g2.keep) ib _ _ fun v s3 g3 iv => hQ v s3 ((g1.trans g2).trans g3) iv
theorem evF_USub (R : Sound prog w mg mb n r) {x : Expr} {p : Pos} {d : D} (h : evF r env.scope ρ (.UnaryOp .USub x p) = some d) (c : Cx mg mb n A W s env ρ) : Giv (model prog w) A W s (eval (.UnaryOp .USub x p) env) d := by
  unfold evF at h; dsimp only at h
  split at h
  · rename_i i hi
    cases h
    intro Q E hQ
    refine wpAny_UnaryOp (R.ev hi c _ _ fun v s1 g1 iv => ?_)
    obtain ⟨t, rfl⟩ := iv.int'
    exact PyProof.Rows.neg_int (hQ _ _ (g1.trans (.toks ..)) (.int ..))
  · cases h
theorem evF_IfExp (R : Sound prog w mg mb n r) {t a b : Expr} {p : Pos} {d : D} (h : evF r env.scope ρ (.IfExp t a b p) = some d) (c : Cx mg mb n A W s env ρ) : Giv (model prog w) A W s (eval (.IfExp t a b p) env) d := by
  unfold evF at h; dsimp only at h
  simp only [Option.bind_eq_bind, Option.bind_eq_some_iff] at h
  obtain ⟨bb, hb, h⟩ := h
  intro Q E hQ
  refine wpAny_IfExp (R.ts hb c _ _ fun s1 g1 => ?_)
  cases bb
  · exact R.ev h (c.grow g1) _ _ fun v s2 g2 iv => hQ v s2 (g1.trans g2) iv
  · exact R.ev h (c.grow g1) _ _ fun v s2 g2 iv => hQ v s2 (g1.trans g2) iv
theorem evF_List (R : Sound prog w mg mb n r) {es : List Expr} {p : Pos} {d : D} (h : evF r env.scope ρ (.List es p) = some d) (c : Cx mg mb n A W s env ρ) : Giv (model prog w) A W s (eval (.List es p) env) d := by
  unfold evF at h; dsimp only at h
  simp only [Option.bind_eq_bind, Option.bind_eq_some_iff] at h
  obtain ⟨ds, hds, h⟩ := h
  split at h
  · cases h
    intro Q E hQ
    refine List_ (evs_ok R hds c _ _ fun vs s1 g1 ivs => ?_)
    refine wpAny_newObj_type (hQ _ _ (g1.trans (.push _ _ s1.toks)) (is_new_list (c.grow g1).live ivs 0)) ?_
    show vs.toArray.size ≤ sizeLine
    rw [List.size_toArray, ivs.length]; unfold sizeLine; omega
  · cases h
theorem evF_Tuple (R : Sound prog w mg mb n r) {es : List Expr} {k : Nat} {p : Pos} {d : D} (h : evF r env.scope ρ (.Tuple es k p) = some d) (c : Cx mg mb n A W s env ρ) : Giv (model prog w) A W s (eval (.Tuple es k p) env) d := by
  unfold evF at h; dsimp only at h
  simp only [Option.bind_eq_bind, Option.bind_eq_some_iff] at h
  obtain ⟨ds, hds, h⟩ := h
  split at h
  · cases h
    intro Q E hQ
    refine Tuple_ (evs_ok R hds c _ _ fun vs s1 g1 ivs => ?_)
    refine wpAny_newObj_type (hQ _ _ (g1.trans (.push _ _ s1.toks)) (is_new_tuple (c.grow g1).live ivs 0)) ?_
    show vs.toArray.size ≤ sizeLine
    rw [List.size_toArray, ivs.length]; unfold sizeLine; omega
  · cases h
theorem evF_ListComp (R : Sound prog w mg mb n r) {elt : Expr} {gens : List Comprehension} {csc : Scope} {p : Pos} {d : D} (h : evF r env.scope ρ (.ListComp elt gens csc p) = some d) (c : Cx mg mb n A W s env ρ) : Giv (model prog w) A W s (eval (.ListComp elt gens csc p) env) d := by
  unfold evF at h; dsimp only at h
  obtain ⟨ys, hys, rfl⟩ := Option.map_eq_some_iff.mp h
  intro Q E hQ
  refine listcomp_ok R hys c _ _ fun D s' vs g hD hl ia => hQ _ _ g ?_
  exact .list (c.live.fresh hD) hl (ia.sub fun a ha => List.mem_cons_of_mem _ ha)
theorem evF_Compare (R : Sound prog w mg mb n r) {l cc : Expr} {op : CmpOp} {p : Pos} {d : D} (h : evF r env.scope ρ (.Compare l [op] [cc] p) = some d) (c : Cx mg mb n A W s env ρ) : Giv (model prog w) A W s (eval (.Compare l [op] [cc] p) env) d := by
  unfold evF at h; dsimp only at h
  split at h
  · cases h
  · rename_i hset
    simp only [Option.bind_eq_bind, Option.bind_eq_some_iff] at h
    obtain ⟨da, ha, db, hb, h⟩ := h
    obtain ⟨bb, hbb, rfl⟩ := Option.map_eq_some_iff.mp h
    intro Q E hQ
    refine wpAny_Compare1 (R.ev ha c _ _ fun va s1 g1 ia => R.ev hb (c.grow g1) _ _ fun vb s2 g2 ib => ?_) (notSetMarks (by simpa using hset))
    exact cmp_ok c.room hbb (ia.keep g2.keep) ib (hQ _ _ (g1.trans g2) (.bool _))
theorem evF_cut (R : Sound prog w mg mb n r) {v : Expr} {lo hi st : Option Expr} {sp p : Pos} {d : D} (h : cutF r env.scope ρ v (.Slice lo hi st sp) = some d) (c : Cx mg mb n A W s env ρ) : Giv (model prog w) A W s (eval (.Subscript v (.Slice lo hi st sp) p) env) d := by
  unfold cutF at h; dsimp only at h
  simp only [Option.bind_eq_bind, Option.bind_eq_some_iff] at h
  obtain ⟨dv, hv, l, hl, u, hu, k, hk, h⟩ := h
  intro Q E hQ
  refine Subscript_ (R.ev hv c _ _ fun o s1 g1 io => ?_)
  refine wpAny_Slice (part_ok R hl (c.grow g1) _ _ fun vl s2 g2 pl => part_ok R hu ((c.grow g1).grow g2) _ _ fun vu s3 g3 pu => part_ok R hk (((c.grow g1).grow g2).grow g3) _ _ fun vs s4 g4 ps => ?_)
  have gs : Grow s1 s4 := (g2.trans g3).trans g4
  have io4 := io.keep gs.keep
  have g5 : Grow s4 { s4 with heap := s4.heap.push { cls := .type "slice", data := .fields #[vl, vu, vs] } } := .push s4 _ s4.toks
  have c5 := ((c.grow g1).grow gs).grow g5
  have hd : (∃ xs, dv = .list xs) ∨ ∃ x, dv = .str x := by
    unfold pslice at h
    split at h
    · cases h
    · split at h
      · exact .inl ⟨_, rfl⟩
      · exact .inr ⟨_, rfl⟩
      · cases h
  refine tail_ok (ops := match st with | none => [.ref s4.heap.objs.size, o] | some _ => [o, .ref s4.heap.objs.size]) (io4.keep g5.keep) hd (slice_ok h c5.live (io4.keep g5.keep) (Heap.get?_push_size _ rfl) pl pu ps) ?_ _ _ fun v s6 g6 iv => hQ v s6 (((g1.trans gs).trans g5).trans g6) iv
  cases st <;> rfl
theorem evF_item (R : Sound prog w mg mb n r) {v i : Expr} {p : Pos} {d : D} (hns : isSliceE i = false) (h : (do pitem (← r.ev env.scope ρ v) (← r.ev env.scope ρ i)) = some d) (c : Cx mg mb n A W s env ρ) : Giv (model prog w) A W s (eval (.Subscript v i p) env) d := by
  simp only [Option.bind_eq_bind, Option.bind_eq_some_iff] at h
  obtain ⟨dv, hv, di, hi, h⟩ := h
  intro Q E hQ
  refine Subscript_ (R.ev hv c _ _ fun o s1 g1 io => R.ev hi (c.grow g1) _ _ fun iv s2 g2 ii => ?_)
  have hd : (∃ xs, dv = .list xs) ∨ ∃ x, dv = .str x := by
    unfold pitem at h
    split at h
    · exact .inl ⟨_, rfl⟩
    · exact .inr ⟨_, rfl⟩
    · cases h
  refine tail_ok (ops := [o, iv]) (io.keep g2.keep) hd (item_ok h (io.keep g2.keep) ii) ?_ _ _ fun v s3 g3 iv => hQ v s3 ((g1.trans g2).trans g3) iv
  cases i <;> first | rfl | exact false_ne hns.symm
theorem evF_method (R : Sound prog w mg mb n r) {o : Expr} {name : Str} {ap p : Pos} {args : List Expr} {d : D} (h : callF r env.scope ρ args p (.Attribute o name ap) = some d) (c : Cx mg mb n A W s env ρ) : Giv (model prog w) A W s (eval (.Call (.Attribute o name ap) args [] p) env) d := by
  unfold callF at h; dsimp only at h
  split at h
  · rename_i hs
    simp only [Bool.and_eq_true, decide_eq_true_eq, beq_iff_eq] at hs
    obtain ⟨⟨hs, hap⟩, hlen⟩ := hs
    simp only [Option.bind_eq_bind, Option.bind_eq_some_iff] at h
    obtain ⟨dv, hv, ds, hds, h⟩ := h
    intro Q E hQ
    have hplain := evs_plain hds
    have he : eval (.Call (.Attribute o name ap) args [] p) env = (do
        let ov ← eval o env
        standAt ap.atName
        methodCall o name ap p env ov (args.length + 0) (backTo p (starEach args env)) []) := by
      cases o <;> first | rfl | cases hs
    rw [he]
    refine wpAny_bind (R.ev hv c _ _ fun ov s1 g1 io => wpAny_bind (wpAny_standAt ?_))
    unfold methodCall
    have hform : methodCallForm (args.length + 0) (backTo p (starEach args env)) [] = true := by
      unfold methodCallForm
      have : (backTo p (starEach args env)).all (!·.1) = true := by
        have := hplain.2 p
        rw [List.any_eq_false] at this
        rw [List.all_eq_true]
        intro x hx; have := this x hx; simpa using this
      rw [this]
      simp; omega
    rw [hform]
    obtain ⟨x, rfl, hget⟩ := meth_get h
    obtain ⟨t, rfl⟩ := io.str'
    have hpos : methodCallPos true o env ap p = pure p := by
      unfold methodCallPos; rw [if_pos (by simp [hap])]
    rw [hpos]
    refine wpAny_bind (wpAny_holding (hget _ _ _ t s1 _ _ ?_))
    refine wpAny_bind (wpAny_pure ?_)
    refine callWith_builtin (hplain.2 p) (args_ok R hds (c.grow g1) _ _ fun vs s2 g2 ivs => ?_)
    exact meth_ok c.room h ((c.grow g1).grow g2).live (io.keep g2.keep) ivs _ _ fun v s3 g3 iv => hQ v s3 ((g1.trans g2).trans g3) iv
  · cases h
theorem evF_call (R : Sound prog w mg mb n r) {f : Str} {p p2 : Pos} {args : List Expr} {d : D} (h : callF r env.scope ρ args p2 (.Name f p) = some d) (c : Cx mg mb n A W s env ρ) : Giv (model prog w) A W s (eval (.Call (.Name f p) args [] p2) env) d := by
  unfold callF at h; dsimp only at h
  split at h
  · rename_i hg
    simp only [Option.bind_eq_bind, Option.bind_eq_some_iff] at h
    obtain ⟨ds, hds, h⟩ := h
    intro Q E hQ
    split at h
    · rename_i d' hb
      cases h
      -- which built-in it is hangs on the name alone
      have hfv : ∃ fv, bltVal f = some fv := by
        unfold pbuiltin at hb
        unfold bltVal
        split at hb
        · exact ⟨_, if_pos ‹_›⟩
        · rw [if_neg ‹_›]
          split at hb
          · exact ⟨_, if_pos ‹_›⟩
          · rw [if_neg ‹_›]
            split at hb
            · exact ⟨_, if_pos ‹_›⟩
            · rw [if_neg ‹_›]
              split at hb
              · exact ⟨_, if_pos ‹_›⟩
              · cases hb
      obtain ⟨fv, hfv⟩ := hfv
      refine Call_Name rfl (blt_load hg c hfv ?_)
      have hkind : (∃ id, fv = .builtin id) ∨ ∃ T, fv = .type T := by
        unfold bltVal at hfv
        split at hfv
        · cases hfv; exact .inl ⟨_, rfl⟩
        · split at hfv
          · cases hfv; exact .inl ⟨_, rfl⟩
          · split at hfv
            · cases hfv; exact .inl ⟨_, rfl⟩
            · split at hfv
              · cases hfv; exact .inr ⟨_, rfl⟩
              · split at hfv
                · cases hfv; exact .inr ⟨_, rfl⟩
                · split at hfv
                  · cases hfv; exact .inr ⟨_, rfl⟩
                  · cases hfv
      refine call_blt R hkind hds c (fun vs s1 g1 ivs => ?_) Q E hQ
      obtain ⟨fv', h1, _, h2⟩ := blt_ok (prog := prog) (w := w) c.room hb ivs
      rw [hfv] at h1; cases h1
      exact h2
    · -- a def
      obtain ⟨a, o, fd, hmg, ho, hd⟩ := R.clf h c.gd.gd
      refine Call_Name rfl (glob_ok hg c hmg ?_)
      refine callWith_function (o := o) (fd := fd) (args_ok R hds c _ _ fun vs s1 g1 ivs => ⟨⟨g1.keep _ _ ho, hd⟩, ?_⟩)
      exact R.cl h hmg c.room (c.gd.keep g1.keep) (c.live.keep g1.keep) ivs _ _ fun v s2 g2 iv => hQ v s2 (g1.trans g2) iv
  · cases h
theorem evF_ok (R : Sound prog w mg mb n r) {e : Expr} {d : D} (h : evF r env.scope ρ e = some d) (c : Cx mg mb n A W s env ρ) : Giv (model prog w) A W s (eval e env) d := by
  cases e <;> first | exact none_ne h | skip
  case Constant => exact evF_Constant R h c
  case Name => exact evF_Name R h c
  case BoolOp => exact bools_ok R h c
  case BinOp => exact evF_BinOp R h c
  case UnaryOp op x p => cases op <;> first | exact none_ne h | exact evF_USub R h c
  case IfExp => exact evF_IfExp R h c
  case List => exact evF_List R h c
  case Tuple => exact evF_Tuple R h c
  case ListComp => exact evF_ListComp R h c
  case Compare l ops cs p =>
    rcases ops with _ | ⟨op, _ | ⟨op2, ops⟩⟩ <;> first | exact none_ne h | skip
    · rcases cs with _ | ⟨cc, _ | ⟨c2, cs⟩⟩ <;> first | exact none_ne h | exact evF_Compare R h c
  case Subscript v i p =>
    cases hs : isSliceE i with
    | true =>
      obtain ⟨lo, hi, st, sp, rfl⟩ := slice_inv hs
      exact evF_cut R h c
    | false =>
      unfold evF at h; dsimp only at h
      rw [hs] at h
      exact evF_item R hs h c
  case Call f args kw p =>
    cases kw <;> first | exact none_ne h | skip
    cases f <;> first | exact none_ne h | exact evF_method R h c | exact evF_call R h c


theorem isTrue_same {e : Expr} {m : Sem Value} (hp : tsP e = true) : isTrue e env m = (do let v ← m; standAt e.pos; holding [v] (truthy v)) := by
  cases e <;> first | rfl | exact false_ne hp | skip
  rename_i op x p
  cases op <;> first | rfl | exact false_ne hp
noncomputable abbrev TsForm (e : Expr) : Prop := (∃ op vs p, e = .BoolOp op vs p) ∨ ∃ l op c p, e = .Compare l [op] [c] p
theorem tsF_form {sc : Scope} {e : Expr} {b : Bool} (hp : tsP e = false) (h : tsF r sc ρ e = some b) : TsForm e := by
  unfold tsF at h
  rw [if_neg (by rw [hp]; decide)] at h
  cases e <;> first | exact none_ne h | exact .inl ⟨_, _, _, rfl⟩ | skip
  rename_i l ops cs p
  rcases ops with _ | ⟨op, _ | ⟨op2, ops⟩⟩ <;> first | exact none_ne h | skip
  rcases cs with _ | ⟨cc, _ | ⟨c2, cs⟩⟩ <;> first | exact none_ne h | exact .inr ⟨_, _, _, _, rfl⟩
theorem tsF_ok (R : Sound prog w mg mb n r) {e : Expr} {b : Bool} (h : tsF r env.scope ρ e = some b) (c : Cx mg mb n A W s env ρ) : GivB (model prog w) A s (isTrue e env (eval e env)) b := by
  intro Q E hQ
  cases hp : tsP e with
  | true =>
    replace h := (if_pos hp).symm.trans h
    obtain ⟨d, hd, hb⟩ := Option.bind_eq_some_iff.mp h
    exact wpAny_isTrue_value (R.ev hd c _ _ fun v s1 g1 iv => truth_ok hb iv _ _ fun s2 g2 => hQ s2 (g1.trans g2)) (isTrue_same hp)
  | false =>
    rcases tsF_form hp h with ⟨op, vs, p, rfl⟩ | ⟨l, op, cc, p, rfl⟩
    · exact wpAny_isTrue_BoolOp (tests2_ok R h c Q E hQ)
    · replace h : (if isSetE cc = true then none else (r.ev env.scope ρ l).bind fun a => (r.ev env.scope ρ cc).bind fun b => pcmp op a b) = some b := h
      cases hset : isSetE cc with
      | true => rw [hset] at h; cases h
      | false =>
        rw [hset] at h
        obtain ⟨da, ha, h2⟩ := Option.bind_eq_some_iff.mp h
        obtain ⟨db, hb, h3⟩ := Option.bind_eq_some_iff.mp h2
        refine wpAny_isTrue_Compare1 (R.ev ha c _ _ fun va s1 g1 ia => R.ev hb (c.grow g1) _ _ fun vb s2 g2 ib => ?_) (notSetMarks hset)
        exact cmp_ok c.room h3 (ia.keep g2.keep) ib (wpAny_truthy_bool (hQ _ (g1.trans g2)))
end
end Mine
end

section
set_option maxRecDepth 100000
set_option linter.unusedVariables false
namespace Mine
open PySem PySem.W PyProof.Rows PySem.Calls

noncomputable def envA (env : Env) : List Addr := env.locals :: env.cells.map (·.2)
theorem envA_loc (env : Env) : env.locals ∈ envA env := List.mem_cons_self
theorem envA_cel {env : Env} {x : Str} {a : Addr} (h : env.cells.lookup x = some a) : a ∈ envA env := List.mem_cons_of_mem _ (List.mem_map.mpr ⟨_, lookup_mem h, rfl⟩)

/-- a list that only the name x holds, for changes -/
structure OwnL (s₀ : Shared) (P W : List Addr) (h : Heap) (env : Env) (σ : Stt) (x : Str) (l : Addr) (vs : List Value) (ds : List D) : Prop where
  rho : σ.rho.lookup x = some (.list ds)
  slot : Slot env h x (.ref l)
  inW : l ∈ W
  notP : l ∉ P
  new : s₀.heap.get? l = none
  list : h.PlainList l vs.toArray
  all : IsAll W h vs ds

structure Ex (mg mb : Str → Option Value) (n : Nat) (A : Around) (s₀ : Shared) (P W : List Addr) (s : Shared) (env : Env) (σ : Stt) : Prop where
  cx : Cx mg mb n A W s env (dropOwn σ)
  base : Grow s₀ s
  p : ∀ a ∈ P, a ∈ W
  pe : ∀ a ∈ envA env, a ∈ P
  en : ∀ a ∈ envA env, s₀.heap.get? a = none
  own : ∀ x, σ.own = some x → ∃ l vs ds, OwnL s₀ P W s.heap env σ x l vs ds

structure ExP (mg mb : Str → Option Value) (n : Nat) (A : Around) (s₀ : Shared) (P W : List Addr) (s : Shared) (env : Env) (σ' : Stt) (W' : List Addr) (s' : Shared) : Prop where
  ex : Ex mg mb n A s₀ P W' s' env σ'
  mv : ∀ b o, (b ∉ W ∨ (b ∈ P ∧ b ∉ envA env)) → s.heap.get? b = some o → s'.heap.get? b = some o
  wn : ∀ a ∈ W', a ∈ W ∨ s.heap.get? a = none
  gk : ∀ {q}, GOk q s.gens → GOk q s'.gens

section
variable {prog : Program} {w : World} {A : Around} {s₀ s s' : Shared} {P W W' : List Addr} {mg mb : Str → Option Value} {n : Nat} {env : Env} {σ σ' : Stt} {r : Rec}

theorem OwnL.keep {h h' : Heap} {x : Str} {l : Addr} {vs : List Value} {ds : List D} (o : OwnL s₀ P W h env σ x l vs ds) (k : Kp h h') : OwnL s₀ P W h' env σ x l vs ds :=
  ⟨o.rho, o.slot.keep k, o.inW, o.notP, o.new, o.list.at fun _ e => k _ _ e, o.all.keep k⟩
theorem Ex.grow (x : Ex mg mb n A s₀ P W s env σ) (g : Grow s s') : Ex mg mb n A s₀ P W s' env σ :=
  ⟨x.cx.grow g, x.base.trans g, x.p, x.pe, x.en, fun y hy => let ⟨l, vs, ds, o⟩ := x.own y hy; ⟨l, vs, ds, o.keep g.keep⟩⟩
theorem ExP.refl (x : Ex mg mb n A s₀ P W s env σ) : ExP mg mb n A s₀ P W s env σ W s := ⟨x, fun _ _ _ e => e, fun _ h => .inl h, id⟩
theorem ExP.trans {s₁ s₂ : Shared} {W₁ W₂ : List Addr} {σ₂ : Stt} (x : ExP mg mb n A s₀ P W s env σ W₁ s₁) (y : ExP mg mb n A s₀ P W₁ s₁ env σ₂ W₂ s₂) : ExP mg mb n A s₀ P W s env σ₂ W₂ s₂ where
  ex := y.ex
  mv := fun b o hb e => y.mv b o (by
    rcases hb with q | q
    · left; intro hm
      rcases x.wn b hm with z | z
      · exact q z
      · rw [z] at e; cases e
    · exact .inr q) (x.mv b o hb e)
  wn := fun a ha => by
    rcases y.wn a ha with q | q
    · exact x.wn a q
    · by_cases haw : a ∈ W
      · exact .inl haw
      · right
        cases e : s.heap.get? a with
        | none => rfl
        | some o => have := x.mv a o (.inl haw) e; rw [q] at this; cases this
  gk := fun h => y.gk (x.gk h)
theorem ExP.grow {s₁ : Shared} (x : ExP mg mb n A s₀ P W s env σ W' s₁) (g : Grow s₁ s') : ExP mg mb n A s₀ P W s env σ W' s' :=
  ⟨x.ex.grow g, fun b o hb e => g.keep b o (x.mv b o hb e), x.wn, fun h => g.gens (x.gk h)⟩
theorem Grow.exp (x : Ex mg mb n A s₀ P W s env σ) (g : Grow s s') : ExP mg mb n A s₀ P W s env σ W s' := (ExP.refl x).grow g

theorem drop_none {ρ : Rho} : dropOwn ⟨ρ, none⟩ = ρ := rfl
theorem lookup_filter_ne {x y : Str} {ρ : Rho} (h : y ≠ x) : (ρ.filter fun p => p.1 != x).lookup y = ρ.lookup y := by
  induction ρ with
  | nil => rfl
  | cons p r ih =>
    obtain ⟨z, d⟩ := p
    by_cases hz : z = x
    · subst hz
      rw [List.filter_cons_of_neg (by simp), ih, lookup_cons_ne h]
    · rw [List.filter_cons_of_pos (by simpa using hz), List.lookup_cons, List.lookup_cons, ih]
theorem lookup_filter_self {x : Str} {ρ : Rho} : (ρ.filter fun p => p.1 != x).lookup x = none := by
  induction ρ with
  | nil => rfl
  | cons p r ih =>
    obtain ⟨z, d⟩ := p
    by_cases hz : z = x
    · subst hz
      rw [List.filter_cons_of_neg (by simp)]; exact ih
    · rw [List.filter_cons_of_pos (by simpa using hz), lookup_cons_ne (Ne.symm hz)]; exact ih

theorem slot_vis {h : Heap} {x : Str} {v : Value} (a : Slot env h x v) : Vis env x := by
  rcases a with ⟨e, _⟩ | ⟨e | e, _⟩
  · exact .inl e
  · exact .inr (.inl e)
  · exact .inr (.inr e)

/-- let the kept list go: from here on it stands still -/
theorem Ex.release (x : Ex mg mb n A s₀ P W s env σ) : ∃ Wf, Ex mg mb n A s₀ P Wf s env ⟨σ.rho, none⟩ ∧ (∀ a ∈ Wf, a ∈ W) := by
  cases ho : σ.own with
  | none =>
    refine ⟨W, ⟨?_, x.base, x.p, x.pe, x.en, fun y hy => by cases hy⟩, fun _ h => h⟩
    have e : dropOwn σ = σ.rho := by unfold dropOwn; rw [ho]
    have := x.cx; rw [e] at this; exact this
  | some y =>
    obtain ⟨l, vs, ds, o⟩ := x.own y ho
    have sub : ∀ a ∈ W.filter (fun a => a != l), a ∈ W := fun a ha => (List.mem_filter.mp ha).1
    have hP : ∀ a ∈ P, a ∈ W.filter (fun a => a != l) := fun a ha => List.mem_filter.mpr ⟨x.p a ha, by
      have : a ≠ l := fun e => o.notP (e ▸ ha)
      simpa using this⟩
    have w1 : EnvW (W.filter (fun a => a != l)) env := ⟨hP _ (x.pe _ (envA_loc env)), fun z a hz => hP _ (x.pe _ (envA_cel hz))⟩
    have c1 := x.cx.sub sub w1
    refine ⟨_, ⟨c1.d ?_, x.base, hP, x.pe, x.en, fun y hy => by cases hy⟩, sub⟩
    intro z d hz hv
    have hz : σ.rho.lookup z = some d := hz
    by_cases hzy : z = y
    · subst hzy
      rw [o.rho] at hz; cases hz
      exact ⟨.ref l, o.slot, .list (fun q => by simpa using (List.mem_filter.mp q).2) o.list (o.all.sub sub)⟩
    · refine c1.D z d ?_ hv
      unfold dropOwn; rw [ho, lookup_filter_ne hzy]; exact hz

/-- a store to a name, raw -/
theorem raw_store (x : Ex mg mb n A s₀ P W s env σ) {y : Str} (hy : isOwnVar env.scope y = true) {v : Value} {M : Model} (Q : Unit → Shared → Prop) (E : Value → Shared → Prop)
    (hQ : ∀ a s', a ∈ envA env → Heap.SameBut a s.heap s'.heap → Grow s₀ s' → EnvS s'.heap env → Slot env s'.heap y v → (∀ z u, z ≠ y → Slot env s.heap z u → Slot env s'.heap z u) → Live W s'.heap → OffW W s.heap s'.heap → s'.gens = s.gens → Q () s') :
    wpAny M A (storeName env y v) Q E s := by
  refine slot_store x.cx.S (own_kinds hy) fun a s' ha hs hg ho S' sl ot lv => ?_
  have haE : a ∈ envA env := by
    rcases ha with rfl | ha
    · exact envA_loc env
    · exact envA_cel ha
  have haW : a ∈ W := x.p _ (x.pe _ haE)
  refine hQ a s' haE hs ⟨fun b o e => (hs.2 b fun q => by rw [q, x.en a haE] at e; cases e).trans (x.base.keep b o e), fun h => by rw [hg]; exact x.base.gens h, ho.trans x.base.os⟩ S' sl ot ?_ (fun b o hb e => (hs.2 b fun q => hb (q ▸ haW)).trans e) hg
  intro b hb
  by_cases hba : b = a
  · subst hba; exact lv
  · obtain ⟨o, h⟩ := x.cx.live b hb; exact ⟨o, (hs.2 b hba).trans h⟩

theorem plain_ne_env {l : Addr} {vs : List Value} {h : Heap} (S : EnvS h env) (hv : ∀ a ∈ envA env, (∃ m, h.Ns a m) ∨ ∃ v, h.IsCell a v) (hl : h.PlainList l vs.toArray) : l ∉ envA env := by
  intro q
  obtain ⟨k, hl⟩ := hl
  rcases hv l q with ⟨m, o, es, ep, ho, hd, _⟩ | ⟨v, o, ho, hd⟩ <;> rw [hl] at ho <;> cases ho <;> cases hd

/-- x = v, a datum off W -/
theorem ex_store (x : Ex mg mb n A s₀ P W s env σ) {y : Str} (hy : isOwnVar env.scope y = true) (ho : σ.own ≠ some y) {v : Value} {d : D} (iv : Is W s.heap v d) {M : Model} (Q : Unit → Shared → Prop) (E : Value → Shared → Prop)
    (hQ : ∀ s', ExP mg mb n A s₀ P W s env ⟨(y, d) :: σ.rho, σ.own⟩ W s' → Q () s') : wpAny M A (storeName env y v) Q E s := by
  refine raw_store x hy _ _ fun a s' ha hs g0 S' sl ot lv off hgn => hQ s' ?_
  have haW : a ∈ W := x.p _ (x.pe _ ha)
  have drop : ∀ z e, (dropOwn ⟨(y, d) :: σ.rho, σ.own⟩).lookup z = some e → (z = y ∧ e = d) ∨ (z ≠ y ∧ (dropOwn σ).lookup z = some e) := by
    intro z e hz
    unfold dropOwn at hz ⊢
    cases hso : σ.own with
    | none =>
      rw [hso] at hz
      by_cases hzy : z = y
      · subst hzy; simp at hz; exact .inl ⟨rfl, hz.symm⟩
      · simp only at hz; rw [lookup_cons_ne hzy] at hz; exact .inr ⟨hzy, hz⟩
    | some u =>
      rw [hso] at hz
      have huy : y ≠ u := fun e => ho (by rw [hso, e])
      simp only at hz
      rw [List.filter_cons_of_pos (by simpa using huy)] at hz
      by_cases hzy : z = y
      · subst hzy; simp at hz; exact .inl ⟨rfl, hz.symm⟩
      · rw [lookup_cons_ne hzy] at hz; exact .inr ⟨hzy, hz⟩
  refine ⟨⟨⟨x.cx.room, x.cx.gd.off off, S', ?_, x.cx.w, lv⟩, g0, x.p, x.pe, x.en, ?_⟩, ?_, fun b hb => .inl hb, fun h => by rw [hgn]; exact h⟩
  · intro z e hz hv
    rcases drop z e hz with ⟨rfl, rfl⟩ | ⟨hzy, hz⟩
    · exact ⟨v, sl, iv.off off⟩
    · obtain ⟨u, h1, h2⟩ := x.cx.D z e hz hv
      exact ⟨u, ot z u hzy h1, h2.off off⟩
  · intro z hz
    obtain ⟨l, vs, ds, o⟩ := x.own z hz
    have hzy : z ≠ y := fun e => ho (by rw [← e]; exact hz)
    have hla : l ≠ a := fun e => o.notP (e ▸ x.pe _ ha)
    exact ⟨l, vs, ds, (lookup_cons_ne hzy).trans o.rho, ot z _ hzy o.slot, o.inW, o.notP, o.new, o.list.at fun q e => (hs.2 l hla).trans e, o.all.off off⟩
  · intro b o hb e
    refine (hs.2 b fun q => ?_).trans e
    subst q
    rcases hb with q | q
    · exact q haW
    · exact q.2 ha

/-- x = a list just made, kept for changes -/
theorem ex_own (x : Ex mg mb n A s₀ P W s env ⟨σ.rho, none⟩) {s₁ : Shared} (g : Grow s s₁) {y : Str} (hy : isOwnVar env.scope y = true) {l : Addr} {vs : List Value} {ds : List D} (hl0 : s.heap.get? l = none) (hl : s₁.heap.PlainList l vs.toArray) (ia : IsAll (l :: W) s₁.heap vs ds)
    {M : Model} (Q : Unit → Shared → Prop) (E : Value → Shared → Prop) (hQ : ∀ s', ExP mg mb n A s₀ P W s env ⟨(y, .list ds) :: σ.rho, some y⟩ (l :: W) s' → Q () s') : wpAny M A (storeName env y (.ref l)) Q E s₁ := by
  have hlW : l ∉ W := x.cx.live.fresh hl0
  have l0 : s₀.heap.get? l = none := by
    cases e : s₀.heap.get? l with
    | none => rfl
    | some o => have := x.base.keep l o e; rw [hl0] at this; cases this
  have c1 : Cx mg mb n A ([l] ++ W) s₁ env σ.rho := x.cx.more g (fun a ha => by rw [List.mem_singleton.mp ha]; exact hl0) fun a ha => by
    rw [List.mem_singleton.mp ha]; obtain ⟨k, h⟩ := hl; exact ⟨_, h⟩
  have x1 : Ex mg mb n A s₀ P ([l] ++ W) s₁ env ⟨σ.rho, none⟩ := ⟨c1, x.base.trans g, fun a ha => List.mem_append_right _ (x.p a ha), x.pe, x.en, fun z hz => by cases hz⟩
  refine raw_store x1 hy _ _ fun a s' ha hs g0 S' sl ot lv off hgn => hQ s' ?_
  have haW : a ∈ W := x.p _ (x.pe _ ha)
  have hla : l ≠ a := fun e => hlW (e ▸ haW)
  refine ⟨⟨⟨c1.room, c1.gd.off off, S', ?_, c1.w, lv⟩, g0, fun b hb => List.mem_cons_of_mem _ (x.p b hb), x.pe, x.en, ?_⟩, ?_, ?_, fun h => by rw [hgn]; exact g.gens h⟩
  · intro z e hz hv
    have hz : ((((y, PyData.list ds) :: σ.rho).filter fun p => p.1 != y)).lookup z = some e := hz
    have hzy : z ≠ y := by rintro rfl; rw [lookup_filter_self] at hz; cases hz
    rw [lookup_filter_ne hzy, lookup_cons_ne hzy] at hz
    obtain ⟨u, h1, h2⟩ := c1.D z e hz hv
    exact ⟨u, ot z u hzy h1, h2.off off⟩
  · intro z hz
    cases hz
    exact ⟨l, vs, ds, by simp, sl, List.mem_cons_self, fun q => hlW (x.p _ q), l0, hl.at fun q e => (hs.2 l hla).trans e, ia.off off⟩
  · intro b o hb e
    have e1 := g.keep b o e
    refine (hs.2 b fun q => ?_).trans e1
    subst q
    rcases hb with q | q
    · exact q haW
    · exact q.2 ha
  · intro b hb
    rcases List.mem_cons.mp hb with rfl | hb
    · exact .inr hl0
    · exact .inl hb
end
end Mine
end

section
set_option maxRecDepth 100000
set_option linter.unusedVariables false
namespace Mine
open PySem PySem.W PyProof.Rows PySem.Calls
section
variable {prog : Program} {w : World} {A : Around} {s₀ s s' : Shared} {P W W' : List Addr} {mg mb : Str → Option Value} {n : Nat} {env : Env} {ρ : Rho} {σ σ' : Stt} {r : Rec}

theorem attr_inv {f : Expr} {n : Str} (h : attrNm f = some n) : ∃ o ap, f = .Attribute o n ap := by
  cases f <;> first | exact none_ne h | (cases h; exact ⟨_, _, rfl⟩)
theorem fresh_form {e : Expr} (hf : freshForm e = true) : (∃ elt gens csc p, e = .ListComp elt gens csc p) ∨ (∃ es p, e = .List es p) ∨ ∃ o ap args p, e = .Call (.Attribute o "split" ap) args [] p := by
  cases e <;> first | exact false_ne hf | exact .inl ⟨_, _, _, _, rfl⟩ | exact .inr (.inl ⟨_, _, rfl⟩) | skip
  rename_i f args kw p
  cases kw <;> first | exact false_ne hf | skip
  have h : attrNm f = some ("split" : Str) := beq_iff_eq.mp hf
  obtain ⟨o, ap, rfl⟩ := attr_inv h
  exact .inr (.inr ⟨o, ap, args, p, rfl⟩)
/-- a form that makes a list: the list is new -/
theorem fresh_eval (R : Sound prog w mg mb n r) {e : Expr} {d : D} (hf : freshForm e = true) (h : evF r env.scope ρ e = some d) (c : Cx mg mb n A W s env ρ) (Q : Value → Shared → Prop) (E : Value → Shared → Prop)
    (hQ : ∀ D vs ds s', d = .list ds → Grow s s' → s.heap.get? D = none → s'.heap.PlainList D (List.toArray vs) → IsAll (D :: W) s'.heap vs ds → Q (.ref D) s') : wpAny (model prog w) A (eval e env) Q E s := by
  rcases fresh_form hf with ⟨elt, gens, csc, p, rfl⟩ | ⟨es, p, rfl⟩ | ⟨o, ap, args, p, rfl⟩
  · obtain ⟨ys, hys, rfl⟩ := Option.map_eq_some_iff.mp (show (evComp r env.scope ρ elt gens csc).map .list = some d from h)
    exact listcomp_ok R hys c _ _ fun D s' vs g hD hl ia => hQ D vs ys s' rfl g hD hl ia
  · (unfold evF at h; simp only [Option.bind_eq_bind, Option.bind_eq_some_iff] at h)
    obtain ⟨ds, hds, h⟩ := h
    split at h
    · cases h
      refine List_ (evs_ok R hds c _ _ fun vs s1 g1 ivs => ?_)
      have hn : s.heap.get? s1.heap.objs.size = none := by
        cases e : s.heap.get? s1.heap.objs.size with
        | none => rfl
        | some o => have := g1.keep _ o e; rw [get_size] at this; cases this
      refine wpAny_newObj_type (hQ _ vs ds _ rfl (g1.trans (.push _ _ s1.toks)) hn ⟨_, Heap.get?_push_size _ rfl⟩ ?_) ?_
      · exact (ivs.more (N := [s1.heap.objs.size]) fun a ha => by rw [List.mem_singleton.mp ha]; exact get_size _).keep fun _ _ e => Heap.get?_push_of_some _ e
      · show vs.toArray.size ≤ sizeLine
        rw [List.size_toArray, ivs.length]; unfold sizeLine; omega
    · cases h
  · (unfold evF at h; dsimp only at h; unfold callF at h; dsimp only at h)
    split at h
    · rename_i hs
      simp only [Bool.and_eq_true, decide_eq_true_eq, beq_iff_eq] at hs
      obtain ⟨⟨hs, hap⟩, hlen⟩ := hs
      simp only [Option.bind_eq_bind, Option.bind_eq_some_iff] at h
      obtain ⟨dv, hv, ds, hds, h⟩ := h
      have hplain := evs_plain hds
      have he : eval (.Call (.Attribute o "split" ap) args [] p) env = (do
          let ov ← eval o env
          standAt ap.atName
          methodCall o "split" ap p env ov (args.length + 0) (backTo p (starEach args env)) []) := by
        cases o <;> first | rfl | cases hs
      rw [he]
      refine wpAny_bind (R.ev hv c _ _ fun ov s1 g1 io => wpAny_bind (wpAny_standAt ?_))
      unfold methodCall
      have hform : methodCallForm (args.length + 0) (backTo p (starEach args env)) [] = true := by
        unfold methodCallForm
        have : (backTo p (starEach args env)).all (!·.1) = true := by
          have := hplain.2 p
          rw [List.any_eq_false] at this
          rw [List.all_eq_true]
          intro x hx; have := this x hx; simpa using this
        rw [this]
        simp; omega
      rw [hform]
      obtain ⟨x, rfl, hget⟩ := meth_get h
      obtain ⟨t, rfl⟩ := io.str'
      have hpos : methodCallPos true o env ap p = pure p := by
        unfold methodCallPos; rw [if_pos (by simp [hap])]
      rw [hpos]
      refine wpAny_bind (wpAny_holding (hget _ _ _ t s1 _ _ ?_))
      refine wpAny_bind (wpAny_pure ?_)
      refine callWith_builtin (hplain.2 p) (args_ok R hds (c.grow g1) _ _ fun vs s2 g2 ivs => ?_)
      unfold pmethod at h
      rw [if_pos rfl] at h
      split at h
      · rename_i x' y hself
        have hxx : x = x' := by injection hself
        subst hxx
        split at h
        · rename_i hl
          simp only [Bool.and_eq_true, decide_eq_true_eq, ne_eq] at hl
          cases h
          obtain ⟨v, rfl, j⟩ := ivs.one
          obtain ⟨u, rfl⟩ := j.str'
          refine split1 (by simpa using hl.2) (fun D l s' hl' g hD hpl => ?_) (by unfold sizeLine; omega) ?_
          · have gs := (g1.trans g2)
            have hn : s.heap.get? D = none := by
              cases e : s.heap.get? D with
              | none => rfl
              | some o => have := gs.keep _ o e; rw [hD] at this; cases this
            exact hQ D (strValues l) _ s' (by rw [← hl']) (gs.trans g) hn hpl (strValues_is l)
          · rw [length_partsBetween]
            have := StrLaws.occ_length_le x y 0 x.length (x.length + 1)
            unfold sizeLine; omega
        · cases h
      · cases h
    · cases h
end
end Mine
end

section
set_option maxRecDepth 100000
set_option linter.unusedVariables false
namespace Mine
open PySem PySem.W PyProof.Rows PySem.Calls
section
variable {prog : Program} {w : World} {A : Around} {s₀ s s' : Shared} {P W W' Wf : List Addr} {mg mb : Str → Option Value} {n : Nat} {env : Env} {ρ : Rho} {σ σ' : Stt} {r : Rec}

theorem ExP.wider (x : ExP mg mb n A s₀ P Wf s env σ W' s') (h : ∀ a ∈ Wf, a ∈ W) : ExP mg mb n A s₀ P W s env σ W' s' :=
  ⟨x.ex, fun b o hb e => x.mv b o (hb.imp (fun q z => q (h b z)) id) e, fun a ha => (x.wn a ha).imp (h a) id, x.gk⟩

theorem Cx.drop {N W₁ : List Addr} {s' : Shared} (c : Cx mg mb n A (N ++ W₁) s env ρ) (k : But N s.heap s'.heap) (w₁ : EnvW W₁ env) (hn : ∀ a ∈ W₁, a ∉ N) : Cx mg mb n A W₁ s' env ρ := by
  have hw1 : ∀ a ∈ W₁, a ∈ N ++ W₁ := fun a h => List.mem_append_right _ h
  have off : OffW (N ++ W₁) s.heap s'.heap := fun b o hb e => k b o (fun q => hb (List.mem_append_left _ q)) e
  have hl : env.locals ∉ N := hn _ w₁.loc
  have hc : ∀ x a, env.cells.lookup x = some a → a ∉ N := fun x a h => hn _ (w₁.cel x a h)
  refine ⟨c.room, (c.gd.off off).sub hw1, c.S.but k hl hc, fun x d e hv => ?_, w₁, fun a ha => ?_⟩
  · obtain ⟨v, h1, h2⟩ := c.D x d e hv
    exact ⟨v, h1.but k hl hc, (h2.off off).sub hw1⟩
  · obtain ⟨o, ho⟩ := c.live a (hw1 a ha); exact ⟨o, k a o (hn a ha) ho⟩

theorem comp_form {e : Expr} (h : isCompE e = true) : ∃ elt gens csc p, e = .ListComp elt gens csc p := by
  cases e <;> first | exact false_ne h | exact ⟨_, _, _, _, rfl⟩
theorem noswap {e : Expr} {d : D} {t : Option Expr} {line : Nat} (hc : isCompE e = false) (h : evF r env.scope ρ e = some d) : swapsWith e t line env = pure false := by
  cases e <;> first | rfl | exact none_ne h | exact false_ne hc.symm
theorem swaps_is {e : Expr} {d : D} {y : Str} {py : Pos} {line : Nat} (h : evF r env.scope ρ e = some d) : ∃ b, swapsWith e (some (.Name y py)) line env = pure b ∧ (b = true → isCompE e = true ∧ env.kindOf y = some .local) := by
  cases hc : isCompE e with
  | true =>
    obtain ⟨elt, gens, csc, p, rfl⟩ := comp_form hc
    refine ⟨_, rfl, fun hb => ⟨rfl, ?_⟩⟩
    simp only [Bool.and_eq_true, beq_iff_eq] at hb
    exact hb.1.1.2
  | false => exact ⟨false, noswap hc h, fun q => false_ne q⟩

/-- y = [..], the store ahead of the letting go -/
theorem assign_swap (R : Sound prog w mg mb n r) {y : Str} {py p pos : Pos} {elt : Expr} {gens : List Comprehension} {csc : Scope} {ys : List D} (x : Ex mg mb n A s₀ P Wf s env ⟨σ.rho, none⟩) (hy : isOwnVar env.scope y = true)
    (h : evComp r env.scope σ.rho elt gens csc = some ys) (hsw : swapsWith (.ListComp elt gens csc p) (some (.Name y py)) pos.line env = pure true) (Q : Flow → Shared → Prop) (E : Value → Shared → Prop)
    (hQ : ∀ s', ExP mg mb n A s₀ P Wf s env ⟨(y, .list ys) :: σ.rho, none⟩ Wf s' → Q .next s') : wpAny (model prog w) A (exec (.Assign [.Name y py] (.ListComp elt gens csc p) pos) env) Q E s := by
  rw [exec_Assign_Name_used _ _ _ _ hsw]
  obtain ⟨hok, g, gs, rfl, ha, hf⟩ := comp_head h
  obtain ⟨h1, h2, h3⟩ := comp_frame x.cx hok
  have hfa : firstAsync (g :: gs) = false := by
    obtain ⟨a, b, c, d⟩ := g
    simp only at ha; subst ha; rfl
  refine wpAny_bind (wpAny_standAt (wpAny_bind ?_))
  show wpAny _ A (do let _ ← comprehension (.ListComp elt (g :: gs) csc p) csc env (firstIterPos (g :: gs) p) (newList []) (firstAsync (g :: gs)) (firstIter (g :: gs) env) (some (assign (.Name y py) env))) _ _ s
  rw [hfa]
  refine wpAny_bind (wpAny_mono (wpAny_comprehension_free (use := some (assign (.Name y py) env)) (Q := fun _ s' => Q .next s') rfl hf h1 h2 h3 ?_) (fun _ s' hq => wpAny_pure (wpAny_pure hq)) fun _ _ e => e)
  refine comp_core R h x.cx (RR := fun acc C => compPost (model prog w) A E (some (assign (.Name y py) env)) (fun _ s' => Q .next s') acc C) fun D C s' vs gr hD hC hDC hn hl ia => ?_
  obtain ⟨m, hn⟩ := hn
  have hCl : ∃ o, s'.heap.get? C = some o := by obtain ⟨o, _, _, ho, _⟩ := hn; exact ⟨o, ho⟩
  have cC : Cx mg mb n A ([C] ++ Wf) s' env σ.rho := x.cx.more gr (fun a ha => by rw [List.mem_singleton.mp ha]; exact hC) fun a ha => by rw [List.mem_singleton.mp ha]; exact hCl
  have hCW : C ∉ Wf := x.cx.live.fresh hC
  have xC : Ex mg mb n A s₀ ([C] ++ P) ([C] ++ Wf) s' env ⟨σ.rho, none⟩ := ⟨cC, x.base.trans gr, fun a ha => by
      rcases List.mem_append.mp ha with q | q
      · exact List.mem_append_left _ q
      · exact List.mem_append_right _ (x.p a q), fun a ha => List.mem_append_right _ (x.pe a ha), x.en, fun z hz => by cases hz⟩
  have C0 : s₀.heap.get? C = none := by
    cases e : s₀.heap.get? C with
    | none => rfl
    | some o => have := x.base.keep C o e; rw [hC] at this; cases this
  have iD : Is ([C] ++ Wf) s'.heap (.ref D) (.list ys) := .list (fun q => by
      rcases List.mem_append.mp q with q | q
      · exact hDC (List.mem_singleton.mp q)
      · exact x.cx.live.fresh hD q) hl (ia.sub fun a ha => List.mem_cons_of_mem _ ha)
  show wpAny _ A (assign (.Name y py) env (.ref D)) _ _ _
  refine wpAny_assign_Name (ex_store xC hy (by simp) iD _ _ fun s2 y2 => ?_)
  -- the block's names, and then they go
  have hCe : C ∉ envA env := fun q => hCW (x.p _ (x.pe _ q))
  refine ⟨m, hn.at' fun o e => y2.mv C o (.inr ⟨List.mem_append_left _ List.mem_cons_self, hCe⟩) e, fun h' hs => hQ _ ?_⟩
  have k : But [C] s2.heap h' := fun b o hb e => (hs.2 b fun q => hb (by simp [q])).trans e
  have nC : ∀ a ∈ Wf, a ∉ [C] := fun a ha q => hCW (by rw [← List.mem_singleton.mp q]; exact ha)
  refine ⟨⟨y2.ex.cx.drop (s' := { s2 with heap := h' }) k x.cx.w nC, ⟨fun b o e => k b o (fun q => by rw [List.mem_singleton.mp q, C0] at e; cases e) (y2.ex.base.keep b o e), y2.ex.base.gens, y2.ex.base.os⟩, x.p, x.pe, x.en, fun z hz => by cases hz⟩, fun b o hb e => ?_, fun a ha => .inl ha, fun h => y2.gk (gr.gens h)⟩
  have e1 := gr.keep b o e
  have hbC : b ≠ C := fun q => by rw [q, hC] at e; cases e
  refine k b o (fun q => hbC (List.mem_singleton.mp q)) (y2.mv b o ?_ e1)
  rcases hb with q | q
  · left; intro z
    rcases List.mem_append.mp z with z | z
    · exact hbC (List.mem_singleton.mp z)
    · exact q z
  · exact .inr ⟨List.mem_append_right _ q.1, q.2⟩

theorem assign_name_ok (R : Sound prog w mg mb n r) {y : Str} {py pos : Pos} {e : Expr} {fl : Fl} (x : Ex mg mb n A s₀ P W s env σ) (h : ex1 r env.scope σ (.Assign [.Name y py] e pos) = some (fl, σ')) (Q : Flow → Shared → Prop) (E : Value → Shared → Prop)
    (hQ : ∀ s' W', fl = .next → ExP mg mb n A s₀ P W s env σ' W' s' → Q .next s') : wpAny (model prog w) A (exec (.Assign [.Name y py] e pos) env) Q E s := by
  (unfold ex1 at h; dsimp only at h; unfold asgF at h; dsimp only [isName_name, names2_two, Option.bind_some] at h)
  split at h
  · rename_i hy
    simp only [Option.bind_eq_bind, Option.bind_eq_some_iff] at h
    obtain ⟨d, hd, h⟩ := h
    obtain ⟨Wf, xf, hWf⟩ := x.release
    obtain ⟨b, hsw, hb⟩ := swaps_is (r := r) (env := env) (ρ := σ.rho) (y := y) (py := py) (line := pos.line) hd
    split at h
    · rename_i hs
      simp only [Bool.and_eq_true, bne_iff_ne, ne_eq] at hs
      cases h
      have hb' : b = false := by
        cases b with
        | false => rfl
        | true =>
          obtain ⟨elt, gens, csc, p, rfl⟩ := comp_form (hb rfl).1
          (unfold evF at hd; try dsimp only at hd)
          obtain ⟨ys, _, rfl⟩ := Option.map_eq_some_iff.mp hd
          cases hs.1
      subst hb'
      refine wpAny_Assign_Name (evF_ok R hd xf.cx _ _ fun v s1 g1 iv => ?_) hsw
      exact ex_store (x.grow g1) hy hs.2 (iv.scal hs.1) _ _ fun s2 y2 => hQ s2 _ rfl ((Grow.exp x g1).trans y2)
    · split at h
      · rename_i hns hm
        simp only [Bool.and_eq_true] at hm
        cases h
        have hb' : b = false := by
          cases b with
          | false => rfl
          | true =>
            obtain ⟨h1, h2⟩ := hb rfl
            have := hm.2
            rw [h1] at this
            simp only [Bool.not_true, Bool.false_or, beq_iff_eq] at this
            have h2 : kindIn env.scope y = some .local := h2
            rw [h2] at this; cases this
        subst hb'
        refine wpAny_Assign_Name (fresh_eval R hm.1.2 hd xf.cx _ _ fun D vs ds s1 hdd g1 hD hl ia => ?_) hsw
        subst hdd
        exact ex_own xf g1 hy hD hl ia _ _ fun s2 y2 => hQ s2 _ rfl (y2.wider hWf)
      · cases h
        cases b with
        | false =>
          refine wpAny_Assign_Name (evF_ok R hd xf.cx _ _ fun v s1 g1 iv => ?_) hsw
          exact ex_store (xf.grow g1) hy (by simp) iv _ _ fun s2 y2 => hQ s2 _ rfl (((Grow.exp xf g1).trans y2).wider hWf)
        | true =>
          obtain ⟨elt, gens, csc, p, rfl⟩ := comp_form (hb rfl).1
          obtain ⟨ys, hys, rfl⟩ := Option.map_eq_some_iff.mp (show (evComp r env.scope σ.rho elt gens csc).map .list = some d from hd)
          exact assign_swap R xf hy hys hsw _ _ fun s2 y2 => hQ s2 _ rfl (y2.wider hWf)
  · cases h
end
end Mine
end

section
set_option maxRecDepth 100000
set_option linter.unusedVariables false
namespace Mine
open PySem PySem.W PyProof.Rows PySem.Calls
section
variable {prog : Program} {w : World} {A : Around} {s₀ s s' : Shared} {P P' W W' Wf wr : List Addr} {mg mb : Str → Option Value} {n : Nat} {env : Env} {ρ : Rho} {σ σ' : Stt} {r : Rec}

theorem Cx.drop2 {N W₁ : List Addr} (c : Cx mg mb n A W s env ρ) (k : But N s.heap s'.heap) (hN : ∀ a ∈ N, a ∈ W) (hw1 : ∀ a ∈ W₁, a ∈ W) (w₁ : EnvW W₁ env) (hn : ∀ a ∈ W₁, a ∉ N) : Cx mg mb n A W₁ s' env ρ := by
  have off : OffW W s.heap s'.heap := fun b o hb e => k b o (fun q => hb (hN b q)) e
  have hl : env.locals ∉ N := hn _ w₁.loc
  have hc : ∀ x a, env.cells.lookup x = some a → a ∉ N := fun x a h => hn _ (w₁.cel x a h)
  refine ⟨c.room, (c.gd.off off).sub hw1, c.S.but k hl hc, fun x d e hv => ?_, w₁, fun a ha => ?_⟩
  · obtain ⟨v, h1, h2⟩ := c.D x d e hv
    exact ⟨v, h1.but k hl hc, (h2.off off).sub hw1⟩
  · obtain ⟨o, ho⟩ := c.live a (hw1 a ha); exact ⟨o, k a o (hn a ha) ho⟩

theorem Ex.envW (x : Ex mg mb n A s₀ P W s env σ) : EnvW P env := ⟨x.pe _ (envA_loc env), fun y a h => x.pe _ (envA_cel h)⟩
theorem Ex.lessP (x : Ex mg mb n A s₀ P W s env σ) (h : ∀ a ∈ P', a ∈ P) (he : ∀ a ∈ envA env, a ∈ P') : Ex mg mb n A s₀ P' W s env σ :=
  ⟨x.cx, x.base, fun a ha => x.p a (h a ha), he, x.en, fun y hy => let ⟨l, vs, ds, o⟩ := x.own y hy; ⟨l, vs, ds, o.rho, o.slot, o.inW, fun q => o.notP (h l q), o.new, o.list, o.all⟩⟩
theorem ExP.lessP (x : ExP mg mb n A s₀ P W s env σ W' s') (h : ∀ a ∈ P', a ∈ P) (he : ∀ a ∈ envA env, a ∈ P') : ExP mg mb n A s₀ P' W s env σ W' s' :=
  ⟨x.ex.lessP h he, fun b o hb e => x.mv b o (hb.imp id fun q => ⟨h b q.1, q.2⟩) e, x.wn, x.gk⟩

/-- only protected objects that are not the block's have changed -/
theorem Ex.but (x : Ex mg mb n A s₀ P W s env σ) (k : But wr s.heap s'.heap) (g : ∀ {q}, GOk q s.gens → GOk q s'.gens) (os : s'.os = s.os) (hP : ∀ a ∈ wr, a ∈ P) (he : ∀ a ∈ wr, a ∉ envA env) (h0 : ∀ a ∈ wr, s₀.heap.get? a = none) (lv : ∀ a ∈ wr, ∃ o, s'.heap.get? a = some o) :
    Ex mg mb n A s₀ P W s' env σ := by
  have hl : env.locals ∉ wr := fun q => he _ q (envA_loc env)
  have hc : ∀ y a, env.cells.lookup y = some a → a ∉ wr := fun y a h q => he _ q (envA_cel h)
  have hW : ∀ a ∈ wr, a ∈ W := fun a ha => x.p a (hP a ha)
  have off : OffW W s.heap s'.heap := fun b o hb e => k b o (fun q => hb (hW b q)) e
  refine ⟨x.cx.but k hW hl hc lv, ⟨fun b o e => k b o (fun q => by rw [h0 b q] at e; cases e) (x.base.keep b o e), fun h => g (x.base.gens h), os.trans x.base.os⟩, x.p, x.pe, x.en, fun y hy => ?_⟩
  obtain ⟨l, vs, ds, o⟩ := x.own y hy
  exact ⟨l, vs, ds, o.rho, o.slot.but k hl hc, o.inW, o.notP, o.new, o.list.at fun q e => k l q (fun z => o.notP (hP _ z)) e, o.all.off off⟩

/-- the kept list is changed -/
theorem ex_mut (x : Ex mg mb n A s₀ P W s env σ) {y : Str} {l : Addr} {vs vs' : List Value} {ds ds' : List D} {h' : Heap} (hy : σ.own = some y) (o : OwnL s₀ P W s.heap env σ y l vs ds) (hs : Heap.SameBut l s.heap h') (hl : h'.PlainList l vs'.toArray) (ia : IsAll W s.heap vs' ds') :
    ExP mg mb n A s₀ P W s env ⟨(y, .list ds') :: σ.rho, some y⟩ W { s with heap := h' } := by
  have k : But [l] s.heap h' := fun b q hb e => (hs.2 b fun z => hb (by simp [z])).trans e
  have hle : l ∉ envA env := fun q => o.notP (x.pe _ q)
  have hlo : env.locals ∉ [l] := fun q => hle (List.mem_singleton.mp q ▸ envA_loc env)
  have hc : ∀ z a, env.cells.lookup z = some a → a ∉ [l] := fun z a h q => hle (List.mem_singleton.mp q ▸ envA_cel h)
  have hW : ∀ a ∈ [l], a ∈ W := fun a ha => by rw [List.mem_singleton.mp ha]; exact o.inW
  have off : OffW W s.heap h' := fun b q hb e => k b q (fun z => hb (hW b z)) e
  have lv : ∀ a ∈ [l], ∃ q, h'.get? a = some q := fun a ha => by rw [List.mem_singleton.mp ha]; obtain ⟨m, e⟩ := hl; exact ⟨_, e⟩
  have cx := x.cx.but (s' := { s with heap := h' }) k hW hlo hc lv
  have ed : dropOwn ⟨(y, PyData.list ds') :: σ.rho, some y⟩ = dropOwn σ := by
    unfold dropOwn; rw [hy]
    simp
  refine ⟨⟨ed ▸ cx, ⟨fun b q e => k b q (fun z => by rw [List.mem_singleton.mp z, o.new] at e; cases e) (x.base.keep b q e), x.base.gens, x.base.os⟩, x.p, x.pe, x.en, fun z hz => ?_⟩, fun b q hb e => ?_, fun a ha => .inl ha, id⟩
  · cases hz
    exact ⟨l, vs', ds', by simp, o.slot.but k hlo hc, o.inW, o.notP, o.new, hl, ia.off off⟩
  · refine k b q (fun z => ?_) e
    rw [List.mem_singleton.mp z] at hb
    rcases hb with hb | hb
    · exact hb o.inW
    · exact o.notP hb.1

theorem freshScal_other {e : Expr} {d : D} (he : isCompE e = false) (h : freshScal e d = true) : scal d = true := by
  cases d <;> first | rfl | (cases e <;> first | exact false_ne h | exact false_ne he.symm)
theorem freshScal_comp {elt : Expr} {gens : List Comprehension} {csc : Scope} {p : Pos} {d : D} (h : freshScal (.ListComp elt gens csc p) d = true) (hs : ¬ scal d = true) : scals d = true := by
  cases d <;> first | exact absurd rfl hs | exact h
/-- a value that may go into a kept list -/
theorem fs_eval (R : Sound prog w mg mb n r) {e : Expr} {d : D} (hf : freshScal e d = true) (h : evF r env.scope σ.rho e = some d) (x : Ex mg mb n A s₀ P W s env σ) : Giv (model prog w) A W s (eval e env) d := by
  intro Q E hQ
  obtain ⟨Wf, xf, hWf⟩ := x.release
  by_cases hs : scal d = true
  · exact evF_ok R h xf.cx _ _ fun v s1 g1 iv => hQ v s1 g1 (iv.scal hs)
  · have hc : ∃ elt gens csc p, e = .ListComp elt gens csc p ∧ scals d = true := by
      cases hcc : isCompE e with
      | false => exact absurd (freshScal_other hcc hf) hs
      | true =>
        cases e <;> first | exact false_ne hcc | exact ⟨_, _, _, _, rfl, freshScal_comp hf hs⟩
    obtain ⟨elt, gens, csc, p, rfl, hsc⟩ := hc
    refine fresh_eval R rfl h xf.cx _ _ fun D vs ds s1 hd g1 hD hl ia => hQ _ _ g1 ?_
    subst hd
    exact .list (x.cx.live.fresh hD) hl (ia.scals fun d' hd' => by
      have : ds.all scal = true := hsc
      exact List.all_eq_true.mp this d' hd')

theorem setitem_ok (R : Sound prog w mg mb n r) {y : Str} {py ip pos : Pos} {i e : Expr} {fl : Fl} (x : Ex mg mb n A s₀ P W s env σ) (h : ex1 r env.scope σ (.Assign [.Subscript (.Name y py) i ip] e pos) = some (fl, σ')) (Q : Flow → Shared → Prop) (E : Value → Shared → Prop)
    (hQ : ∀ s' W', fl = .next → ExP mg mb n A s₀ P W s env σ' W' s' → Q .next s') : wpAny (model prog w) A (exec (.Assign [.Subscript (.Name y py) i ip] e pos) env) Q E s := by
  (unfold ex1 at h; dsimp only at h; unfold asgF at h; dsimp only [isName_name, names2_two, Option.bind_some] at h)
  split at h
  · rename_i hy
    simp only [Bool.and_eq_true, decide_eq_true_eq] at hy
    obtain ⟨⟨hown, hvar⟩, hsl⟩ := hy
    simp only [Option.bind_eq_bind, Option.bind_eq_some_iff] at h
    obtain ⟨d, hd, h⟩ := h
    split at h
    · rename_i hf
      simp only [Option.bind_eq_some_iff] at h
      obtain ⟨di, hdi, h⟩ := h
      split at h
      · rename_i xs k hxs
        split at h
        · rename_i hk
          simp only [Bool.and_eq_true, decide_eq_true_eq] at hk
          cases h
          have hsw : swapsWith e (some (.Subscript (.Name y py) i ip)) pos.line env = pure false := by
            cases e <;> rfl
          refine wpAny_Assign_Subscript (fs_eval R hf hd x _ _ fun v s1 g1 iv => ?_) hsw
          have x1 := x.grow g1
          obtain ⟨l, vs, ds, o⟩ := x1.own y hown
          have e1 := o.rho
          rw [hxs] at e1; cases e1
          obtain ⟨Wf, xf, hWf⟩ := x1.release
          refine wpAny_Name (slot_load x1.cx.S o.slot ?_ (okName_d (isVar_vis hvar).2).2) (okName_d (isVar_vis hvar).2).1
          refine R.ev hdi xf.cx _ _ fun iv' s2 g2 ii => ?_
          obtain ⟨t, rfl⟩ := ii.int'
          have o2 := o.keep g2.keep
          have x2 := x1.grow g2
          obtain ⟨m, hm⟩ := o2.list
          have hlen := o2.all.length
          refine ki_setAt (n := m) hm (by omega) (by omega) (by simp; omega) ?_
          have y3 := ex_mut (h' := s2.heap.update l (Obj.mapSeq (·.setIfInBounds k.toNat v))) x2 hown o2 (Heap.SameBut.update ..) (vs' := vs.set k.toNat v) (ds' := xs.set k.toNat d) ?_ (IsAll.set (iv.keep g2.keep) o2.all k.toNat)
          · exact hQ _ _ rfl (((Grow.exp x g1).grow g2).trans y3)
          · have := PySem.IsL.update (n := m) hm (·.setIfInBounds k.toNat v)
            exact ⟨_, by simpa using this⟩
        · cases h
      · cases h
    · cases h
  · cases h
end
end Mine
end

section
set_option maxRecDepth 100000
set_option linter.unusedVariables false
namespace Mine
open PySem PySem.W PyProof.Rows PySem.Calls
section
variable {prog : Program} {w : World} {A : Around} {s₀ s s' : Shared} {P P' W W' Wf wr : List Addr} {mg mb : Str → Option Value} {n : Nat} {env : Env} {ρ : Rho} {σ σ' : Stt} {r : Rec}

theorem append_ok (R : Sound prog w mg mb n r) {y name : Str} {py ap p pos : Pos} {e : Expr} {fl : Fl} (x : Ex mg mb n A s₀ P W s env σ) (h : ex1 r env.scope σ (.Expr (.Call (.Attribute (.Name y py) name ap) [e] [] p) pos) = some (fl, σ')) (Q : Flow → Shared → Prop) (E : Value → Shared → Prop)
    (hQ : ∀ s', fl = .next → ExP mg mb n A s₀ P W s env σ' W s' → Q .next s') : wpAny (model prog w) A (exec (.Expr (.Call (.Attribute (.Name y py) name ap) [e] [] p) pos) env) Q E s := by
  (unfold ex1 at h; dsimp only at h; unfold appF at h; dsimp only [isName_name, names2_two, Option.bind_some] at h)
  split at h
  · rename_i hy
    simp only [Bool.and_eq_true, decide_eq_true_eq, beq_iff_eq] at hy
    obtain ⟨⟨⟨⟨hown, hvar⟩, rfl⟩, hap⟩, hst⟩ := hy
    have hst : isStar e = false := by simpa using hst
    simp only [Option.bind_eq_bind, Option.bind_eq_some_iff] at h
    obtain ⟨d, hd, h⟩ := h
    split at h
    · rename_i hf
      split at h
      · rename_i xs hxs
        split at h
        · rename_i hlen
          cases h
          obtain ⟨l, vs, ds, o⟩ := x.own y hown
          have e1 := o.rho
          rw [hxs] at e1; cases e1
          have hint : interactive env = false := by unfold interactive; rw [x.cx.S.kind]; rfl
          refine wpAny_Expr_any ?_ hint rfl
          have he : eval (.Call (.Attribute (.Name y py) "append" ap) [e] [] p) env = (do
              let ov ← eval (.Name y py) env
              standAt ap.atName
              methodCall (.Name y py) "append" ap p env ov 1 (backTo p (starEach [e] env)) []) := rfl
          rw [he]
          refine wpAny_bind (wpAny_Name (slot_load x.cx.S o.slot ?_ (okName_d (isVar_vis hvar).2).2) (okName_d (isVar_vis hvar).2).1)
          refine wpAny_bind (wpAny_standAt ?_)
          unfold methodCall
          have hform : methodCallForm 1 (backTo p (starEach [e] env)) [] = true := by
            rw [starEach_cons hst]; rfl
          have hpos : methodCallPos true (.Name y py) env ap p = pure p := by
            unfold methodCallPos; rw [if_pos (by simp [hap])]
          rw [hform, hpos]
          obtain ⟨m, hm⟩ := o.list
          refine wpAny_bind (wpAny_holding (getMethod_list_append hm rfl rfl ?_))
          refine wpAny_bind (wpAny_pure ?_)
          rw [starEach_cons hst]
          refine callWith_builtin rfl (evalArgs_plain (spliced_cons (fs_eval R hf hd x _ _ fun v s1 g1 iv => spliced_nil ?_)))
          have x1 := x.grow g1
          have o1 := o.keep g1.keep
          have hl := o1.all.length
          refine wpAny_list_append_plain (hsz := by simp [sizeLine]; omega) o1.list fun h6 hl6 hs6 => ?_
          have y3 := ex_mut (h' := h6) x1 hown o1 hs6 (vs' := vs ++ [v]) (ds' := xs ++ [d]) (by simpa using hl6) (o1.all.append (.cons iv .nil))
          exact hQ _ rfl ((Grow.exp x g1).trans y3)
        · cases h
      · cases h
    · cases h
  · cases h

theorem del_ok (R : Sound prog w mg mb n r) {y : Str} {py ip pos : Pos} {i : Expr} {fl : Fl} (x : Ex mg mb n A s₀ P W s env σ) (h : ex1 r env.scope σ (.Delete [.Subscript (.Name y py) i ip] pos) = some (fl, σ')) (Q : Flow → Shared → Prop) (E : Value → Shared → Prop)
    (hQ : ∀ s' W', fl = .next → ExP mg mb n A s₀ P W s env σ' W' s' → Q .next s') : wpAny (model prog w) A (exec (.Delete [.Subscript (.Name y py) i ip] pos) env) Q E s := by
  (unfold ex1 at h; dsimp only at h; unfold delF at h; dsimp only [isName_name, names2_two, Option.bind_some] at h)
  split at h
  · rename_i hy
    simp only [Bool.and_eq_true, decide_eq_true_eq] at hy
    obtain ⟨⟨hown, hvar⟩, hsl⟩ := hy
    simp only [Option.bind_eq_bind, Option.bind_eq_some_iff] at h
    obtain ⟨di, hdi, h⟩ := h
    split at h
    · rename_i xs k hxs
      split at h
      · rename_i hlen
        obtain ⟨j, hj, h⟩ := Option.map_eq_some_iff.mp h
        cases h
        obtain ⟨l, vs, ds, o⟩ := x.own y hown
        have e1 := o.rho
        rw [hxs] at e1; cases e1
        obtain ⟨Wf, xf, hWf⟩ := x.release
        refine wpAny_Delete (wpAny_deleteEach_cons ?_)
        show wpAny _ A (do
          let ov ← eval (.Name y py) env
          let iv ← holding [ov] (eval i env)
          standAt ip
          holding [ov, iv] (delItem ov iv)
          release [ov, iv] []) _ _ _
        refine wpAny_bind (wpAny_Name (slot_load x.cx.S o.slot ?_ (okName_d (isVar_vis hvar).2).2) (okName_d (isVar_vis hvar).2).1)
        refine wpAny_bind (wpAny_holding (R.ev hdi xf.cx _ _ fun iv' s2 g2 ii => ?_))
        obtain ⟨t, rfl⟩ := ii.int'
        have o2 := o.keep g2.keep
        have x2 := x.grow g2
        have hl := o2.all.length
        refine wpAny_bind (wpAny_standAt (wpAny_bind (wpAny_holding ?_)))
        have hk : Builtin.List.listFitsIndex k = true := by
          rcases seqIndex_some hj with ⟨h0, h1, _⟩ | ⟨h0, h1, _⟩ <;> simp [Builtin.List.listFitsIndex] <;> omega
        refine wpAny_delItem_plain o2.list hk (by simpa [hl] using hj) (fun h6 hl6 hs6 => ?_) (by simp [sizeLine]; omega)
        have y3 := ex_mut (h' := h6) x2 hown o2 hs6 (vs' := vs.eraseIdx j) (ds' := xs.eraseIdx j) (by
          have e : (vs.toArray.eraseIdxIfInBounds j) = (vs.eraseIdx j).toArray := by
            rw [List.eraseIdxIfInBounds_toArray]
          rw [← e]; exact hl6) (o2.all.eraseIdx j)
        refine wpAny_release (wpAny_deleteEach_nil (hQ _ _ rfl ((Grow.exp x g2).trans y3)))
      · cases h
    · cases h
  · cases h

theorem aug_ok (R : Sound prog w mg mb n r) {y : Str} {py pos : Pos} {op : Operator} {e : Expr} {fl : Fl} (x : Ex mg mb n A s₀ P W s env σ) (h : ex1 r env.scope σ (.AugAssign (.Name y py) op e pos) = some (fl, σ')) (Q : Flow → Shared → Prop) (E : Value → Shared → Prop)
    (hQ : ∀ s' W', fl = .next → ExP mg mb n A s₀ P W s env σ' W' s' → Q .next s') : wpAny (model prog w) A (exec (.AugAssign (.Name y py) op e pos) env) Q E s := by
  (unfold ex1 at h; try dsimp only at h)
  split at h
  · rename_i hy
    simp only [Bool.and_eq_true, bne_iff_ne, ne_eq] at hy
    obtain ⟨Wf, xf, hWf⟩ := x.release
    have load : ∀ a, σ.rho.lookup y = some (.int a) → ∃ t, Slot env s.heap y (.int a t) := by
      intro a ha
      obtain ⟨v, sl, iv⟩ := xf.cx.D y _ ha (by rcases own_kinds hy.1 with q | q; exact .inl q; exact .inr (.inl q))
      obtain ⟨t, rfl⟩ := iv.int'
      exact ⟨t, sl⟩
    have hcd : (y == ("__classdict__" : Str)) = false ∨ env.kindOf y ≠ some .free := by
      right
      rcases own_kinds hy.1 with q | q <;> intro e <;> have e : kindIn env.scope y = some .free := e <;> rw [q] at e <;> cases e
    have ld : ∀ {v : Value} {Q E : Value → Shared → Prop}, Slot env s.heap y v → Q v s → wpAny (model prog w) A (loadName env y) Q E s := by
      intro v Q E sl hq
      rcases sl with ⟨e, m, hn, hm⟩ | ⟨e | e, c, hc, hi⟩
      · exact wpAny_loadName_local x.cx.S.kind e hn hm hq
      · exact wpAny_loadName_cell x.cx.S.kind e hc hi hq
      · rcases own_kinds hy.1 with q | q <;> have e : kindIn env.scope y = some .free := e <;> rw [q] at e <;> cases e
    split at h
    · rename_i a ha
      split at h
      · rename_i b hb
        cases h
        obtain ⟨t, sl⟩ := load a ha
        refine wpAny_AugAssign_Name (ld sl (R.ev hb xf.cx _ _ fun v s1 g1 iv => ?_))
        obtain ⟨u, rfl⟩ := iv.int'
        refine PySem.P.iadd_int ?_
        exact ex_store ((x.grow g1).grow (Grow.toks s1 _)) hy.1 hy.2 (.int ..) _ _ fun s2 y2 => hQ s2 _ rfl (((Grow.exp x g1).grow (.toks ..)).trans y2)
      · cases h
    · rename_i a ha
      split at h
      · rename_i b hb
        cases h
        obtain ⟨t, sl⟩ := load a ha
        refine wpAny_AugAssign_Name (ld sl (R.ev hb xf.cx _ _ fun v s1 g1 iv => ?_))
        obtain ⟨u, rfl⟩ := iv.int'
        refine PySem.P.isub_int ?_
        exact ex_store ((x.grow g1).grow (Grow.toks s1 _)) hy.1 hy.2 (.int ..) _ _ fun s2 y2 => hQ s2 _ rfl (((Grow.exp x g1).grow (.toks ..)).trans y2)
      · cases h
    · cases h
  · cases h
end
end Mine
end

section
set_option maxRecDepth 100000
set_option linter.unusedVariables false
namespace Mine
open PySem PySem.W PyProof.Rows PySem.Calls
section
variable {prog : Program} {w : World} {A : Around} {s₀ s s' : Shared} {P P' W W' Wf wr : List Addr} {mg mb : Str → Option Value} {n : Nat} {env : Env} {ρ : Rho} {σ σ' : Stt} {r : Rec}

theorem ite_two {a : Str} {c : Prop} [Decidable c] : (if c then some a else none) = some a ∨ (if c then some a else none) = none := by
  by_cases h : c <;> simp [h]
theorem names_two {a b : Str} {f : Expr → Option Str} {ea eb : Expr} (ha : f ea = some a ∨ f ea = none) (hb : f eb = some b ∨ f eb = none) : List.filterMap f [ea, eb] = [a, b] ∨ (List.filterMap f [ea, eb]).length ≠ 2 := by
  rw [List.filterMap_cons, List.filterMap_cons]
  rcases ha with h | h <;> rcases hb with h' | h' <;> rw [h, h']
  · exact .inl rfl
  · exact .inr (show (1 : Nat) ≠ 2 by decide)
  · exact .inr (show (1 : Nat) ≠ 2 by decide)
  · exact .inr (show (0 : Nat) ≠ 2 by decide)

theorem swst {a b : Str} {pa pb tp : Pos} {k : Nat} {e : Expr} (hs : swapOk e = true) :
    swappedStores [.Tuple [.Name a pa, .Name b pb] k tp] e env = pure none ∨ swappedStores [.Tuple [.Name a pa, .Name b pb] k tp] e env = pure (some [a, b]) := by
  cases e with
  | Tuple vs kk pp =>
    have hs : vs.all (constantsAlone 8) = false := by simpa [swapOk] using hs
    unfold swappedStores
    simp only []
    split
    · exact .inl rfl
    split
    · exact .inl rfl
    rw [hs]
    generalize hnm : (List.filterMap _ [Expr.Name a pa, Expr.Name b pb]) = nm
    have key : nm = [a, b] ∨ nm.length ≠ 2 := by
      rw [← hnm]
      refine names_two ?_ ?_
      · exact ite_two
      · exact ite_two
    rcases key with rfl | hl
    · split
      · exact .inl rfl
      · split
        · exact .inl rfl
        · exact .inr rfl
    · rw [if_pos (by simp [hl])]
      exact .inl rfl
  | _ => exact .inl rfl

theorem draw_list {it t : Addr} {items : Array Value} {E : Value → Shared → Prop} (hne : t ≠ it) : ∀ (n i : Nat) (s : Shared) (Q : List Value → Shared → Prop), s.heap.IsListIter it t i → s.heap.IsList t items → i + n ≤ items.size →
    (∀ h', h'.IsListIter it t (i + n) → Heap.SameBut it s.heap h' → Q ((items.toList.drop i).take n) { s with heap := h' }) → wpAny (model prog w) A (draw (.ref it) n) Q E s
  | 0, i, s, Q, hit, _, _, hQ => by
    show wpAny _ _ (pure []) Q E s
    exact wpAny_pure (by simpa using hQ s.heap hit (Heap.SameBut.refl ..))
  | n + 1, i, s, Q, hit, ht, hle, hQ => by
    have hlt : i < items.size := by omega
    show wpAny _ _ (pyNext (.ref it) >>= _) Q E s
    refine wpAny_bind (wpAny_pyNext_list_item hit ht (x := items[i]) (by simp [hlt]) fun h₁ hit₁ hs₁ => ?_)
    refine wpAny_bind (wpAny_holding (draw_list hne n (i + 1) _ _ hit₁ (ht.at fun o e => (hs₁.2 _ hne).trans e) (by omega) fun h₂ hit₂ hs₂ => wpAny_pure ?_))
    have hd : items.toList.drop i = items[i] :: items.toList.drop (i + 1) := by simp [List.drop_eq_getElem_cons, hlt]
    have := hQ h₂ (by rw [show i + (n + 1) = i + 1 + n by omega]; exact hit₂) (hs₁.trans hs₂)
    rw [hd, List.take_succ_cons] at this
    exact this

theorem unpack_list {t : Addr} {items : Array Value} {Q : List Value → Shared → Prop} {E : Value → Shared → Prop} (hh : A.handled = none) (ht : s.heap.IsList t items)
    (hQ : ∀ h', Heap.ExtBut s.heap.objs.size s.heap h' → Q items.toList { s with heap := h' }) : wpAny (model prog w) A (unpackItems (.ref t) items.size none) Q E s := by
  have hlt : t ≠ s.heap.objs.size := by obtain ⟨o, ho, _⟩ := ht; exact Nat.ne_of_lt (Heap.lt_size ho)
  unfold unpackItems
  refine wpAny_bind ?_
  · unfold notIterableAtAll
    refine wpAny_bind (wpAny_specialOf ht.typeIs F.slot_list_iter.lookup ?_)
    refine wpAny_pure ?_
    simp only [Bool.false_eq_true, if_false]
    refine wpAny_bind (wpAny_holding (wpAny_pyIter_list ht ?_))
    refine wpAny_bind (wpAny_holding (draw_list hlt items.size 0 _ _ ⟨_, Heap.get?_push_size _ rfl, rfl, rfl⟩ (ht.push _) (by omega) fun h₁ hit₁ hs₁ => ?_))
    have hall : List.take items.size (List.drop 0 items.toList) = items.toList := by
      rw [List.drop_zero]; exact List.take_of_length_le (by simp)
    rw [hall]
    rw [if_neg (by simp)]
    have ht₁ : h₁.IsList t items := (ht.push _).at fun o e => (hs₁.2 _ hlt).trans e
    refine wpAny_bind (wpAny_holding (wpAny_pyNext_list_end hh hit₁ ht₁ (by simp) fun h₂ he₂ => ?_))
    simp only [Option.isSome_none, Bool.false_eq_true, if_false]
    refine wpAny_pure (hQ h₂ fun b o hb e => he₂ b o hb (hs₁.extBut b o hb (Heap.get?_push_of_some _ e)))

theorem Is.list2 {h : Heap} {v : Value} {d e : D} (x : Is W h v (.list [d, e])) : ∃ l va vb, v = .ref l ∧ h.IsList l #[va, vb] ∧ Is W h va d ∧ Is W h vb e := by
  cases x with | list h1 h2 h3 => cases h3 with | cons ia h3 => cases h3 with | cons ib h3 => cases h3; exact ⟨_, _, _, rfl, h2.isList, ia, ib⟩

/-- two values behind one -/
theorem unpack_two (hh : A.handled = none) {v : Value} {d f e : D} (he : e = .tuple [d, f] ∨ e = .list [d, f]) (iv : Is W s.heap v e) (Q : List Value → Shared → Prop) (E : Value → Shared → Prop)
    (hQ : ∀ va vb s', Grow s s' → Is W s'.heap va d → Is W s'.heap vb f → Q [va, vb] s') : wpAny (model prog w) A (unpackItems v 2 none) Q E s := by
  have g : ∀ h', Heap.ExtBut s.heap.objs.size s.heap h' → Grow s { s with heap := h' } := fun h' he => ⟨fun b o e => he b o (fun q => by rw [q, get_size] at e; cases e) e, id, rfl⟩
  rcases he with rfl | rfl
  · obtain ⟨l, va, vb, rfl, h2, ia, ib⟩ := iv.tuple2
    exact wpAny_unpackItems_tuple (items := #[va, vb]) hh h2 fun h' he => hQ va vb _ (g h' he) (ia.keep (g h' he).keep) (ib.keep (g h' he).keep)
  · obtain ⟨l, va, vb, rfl, h2, ia, ib⟩ := iv.list2
    exact unpack_list (items := #[va, vb]) hh h2 fun h' he => hQ va vb _ (g h' he) (ia.keep (g h' he).keep) (ib.keep (g h' he).keep)

theorem EnvD.same {h : Heap} {ρ' : Rho} (x : EnvD W h env ρ) (e : ∀ z, ρ'.lookup z = ρ.lookup z) : EnvD W h env ρ' := fun z d hz hv => x z d ((e z).symm.trans hz) hv
theorem drop_same {ρ' : Rho} {o : Option Str} (e : ∀ z, ρ'.lookup z = ρ.lookup z) : ∀ z, (dropOwn ⟨ρ', o⟩).lookup z = (dropOwn ⟨ρ, o⟩).lookup z := by
  intro z
  cases o with
  | none => exact e z
  | some y =>
    show (ρ'.filter fun p => p.1 != y).lookup z = (ρ.filter fun p => p.1 != y).lookup z
    by_cases hz : z = y
    · subst hz; rw [lookup_filter_self, lookup_filter_self]
    · rw [lookup_filter_ne hz, lookup_filter_ne hz]; exact e z
theorem Ex.same {ρ' : Rho} {o : Option Str} (x : Ex mg mb n A s₀ P W s env ⟨ρ, o⟩) (e : ∀ z, ρ'.lookup z = ρ.lookup z) : Ex mg mb n A s₀ P W s env ⟨ρ', o⟩ :=
  ⟨⟨x.cx.room, x.cx.gd, x.cx.S, x.cx.D.same (drop_same e), x.cx.w, x.cx.live⟩, x.base, x.p, x.pe, x.en, fun y hy => let ⟨l, vs, ds, q⟩ := x.own y hy; ⟨l, vs, ds, (e y).trans q.rho, q.slot, q.inW, q.notP, q.new, q.list, q.all⟩⟩
theorem ExP.same {ρ' : Rho} {o : Option Str} (x : ExP mg mb n A s₀ P W s env ⟨ρ, o⟩ W' s') (e : ∀ z, ρ'.lookup z = ρ.lookup z) : ExP mg mb n A s₀ P W s env ⟨ρ', o⟩ W' s' := ⟨x.ex.same e, x.mv, x.wn, x.gk⟩
theorem lookup_swap {a b : Str} {d f : D} (h : a ≠ b) (z : Str) : List.lookup z ((b, f) :: (a, d) :: ρ) = List.lookup z ((a, d) :: (b, f) :: ρ) := by
  by_cases ha : z = a
  · subst ha
    rw [lookup_cons_ne h]; simp
  · rw [lookup_cons_ne (x := a) ha]
    by_cases hb : z = b
    · subst hb; simp
    · rw [lookup_cons_ne hb, lookup_cons_ne ha, lookup_cons_ne hb]

theorem pair_ok (R : Sound prog w mg mb n r) {a b : Str} {pa pb tp pos : Pos} {k : Nat} {e : Expr} {fl : Fl} (x : Ex mg mb n A s₀ P W s env σ) (h : ex1 r env.scope σ (.Assign [.Tuple [.Name a pa, .Name b pb] k tp] e pos) = some (fl, σ')) (Q : Flow → Shared → Prop) (E : Value → Shared → Prop)
    (hQ : ∀ s' W', fl = .next → ExP mg mb n A s₀ P W s env σ' W' s' → Q .next s') : wpAny (model prog w) A (exec (.Assign [.Tuple [.Name a pa, .Name b pb] k tp] e pos) env) Q E s := by
  (unfold ex1 at h; dsimp only at h; unfold asgF at h; dsimp only [isName_name, names2_two, Option.bind_some] at h)
  split at h
  · rename_i hy
    simp only [Bool.and_eq_true, bne_iff_ne, ne_eq, decide_eq_true_eq, Bool.not_eq_true'] at hy
    obtain ⟨⟨⟨⟨⟨⟨ha, hb⟩, oa⟩, ob⟩, hab⟩, hsw⟩, hcmp⟩ := hy
    simp only [Option.bind_eq_bind, Option.bind_eq_some_iff] at h
    obtain ⟨de, hde, q, hq, h⟩ := h
    obtain ⟨d, f⟩ := q
    have hd := pairTL_inv hq
    dsimp only at hd h
    obtain ⟨hs, h⟩ := ite_some h
    rw [Bool.and_eq_true] at hs
    obtain ⟨sd, sf⟩ := hs
    injection h with hfl hσ
    subst hfl; subst hσ
    obtain ⟨Wf, xf, hWf⟩ := x.release
    have hsole : swapsWithSole [.Tuple [.Name a pa, .Name b pb] k tp] e pos.line env = pure false := by
      cases e <;> first | rfl | cases hcmp
    rcases swst (env := env) (a := a) (b := b) (pa := pa) (pb := pb) (tp := tp) (k := k) hsw with hst | hst
    · refine Assign_Tuple (R.ev hde xf.cx _ _ fun v s1 g1 iv => ?_) hsole hst
      show wpAny _ A (standAt tp >>= fun _ => (holding [v] (unpackItems v 2 none) >>= fun items => assignInOrder [assign (.Name a pa) env, assign (.Name b pb) env] items)) _ _ _
      refine wpAny_bind (wpAny_standAt (wpAny_bind (wpAny_holding (unpack_two x.cx.room.h hd iv _ _ fun va vb s2 g2 ia ib => ?_))))
      show wpAny _ A (holding [vb] (assign (.Name a pa) env va) >>= fun _ => (holding [] (assign (.Name b pb) env vb) >>= fun _ => pure ())) _ _ _
      have x2 := (x.grow g1).grow g2
      refine wpAny_bind (wpAny_holding (wpAny_assign_Name (ex_store x2 ha oa (ia.scal sd) _ _ fun s3 y3 => ?_)))
      refine wpAny_bind (wpAny_holding (wpAny_assign_Name (ex_store y3.ex hb ob (ib.scal sf) _ _ fun s4 y4 => wpAny_pure ?_)))
      exact hQ _ _ rfl ((((Grow.exp x g1).grow g2).trans y3).trans y4)
    · refine Assign_Tuple_swapped (R.ev hde xf.cx _ _ fun v s1 g1 iv => ?_) hsole hst
      refine unpack_two x.cx.room.h hd iv _ _ fun va vb s2 g2 ia ib => ?_
      show wpAny _ A (holding [va] (bindName env b vb) >>= fun _ => (holding [] (bindName env a va) >>= fun _ => pure ())) _ _ _
      have x2 := (x.grow g1).grow g2
      refine wpAny_bind (wpAny_holding (wpAny_bindName (ex_store x2 hb ob (ib.scal sf) _ _ fun s3 y3 => ?_)))
      refine wpAny_bind (wpAny_holding (wpAny_bindName (ex_store y3.ex ha oa (ia.scal sd) _ _ fun s4 y4 => wpAny_pure ?_)))
      exact hQ _ _ rfl (((((Grow.exp x g1).grow g2).trans y3).trans y4).same fun z => lookup_swap hab z)
  · cases h
end
end Mine
end

section
set_option maxRecDepth 100000
set_option linter.unusedVariables false
namespace Mine
open PySem PySem.W PyProof.Rows PySem.Calls

noncomputable def FlIs (W : List Addr) (h : Heap) : Flow → Fl → Prop
  | .next, .next => True
  | .ret v, .ret d => Is W h v d
  | _, _ => False

structure SoundX (prog : Program) (w : World) (mg mb : Str → Option Value) (n : Nat) (r : Rec) : Prop extends Sound prog w mg mb n r where
  ex : ∀ {σ σ' : Stt} {fl : Fl} {sts : List Stmt} {A : Around} {s₀ : Shared} {P W : List Addr} {s : Shared} {env : Env}, r.ex env.scope σ sts = some (fl, σ') → Ex mg mb n A s₀ P W s env σ → ∀ (Q : Flow → Shared → Prop) (E : Value → Shared → Prop),
    (∀ f s' W', FlIs W' s'.heap f fl → ExP mg mb n A s₀ P W s env σ' W' s' → Q f s') → wpAny (model prog w) A (execs sts env) Q E s

section
variable {prog : Program} {w : World} {A : Around} {s₀ s s' : Shared} {P P' W W' Wf wr fp : List Addr} {mg mb : Str → Option Value} {n : Nat} {env : Env} {ρ : Rho} {σ σ' : Stt} {r : Rec}

theorem if_ok (R : SoundX prog w mg mb n r) {t : Expr} {a b : List Stmt} {pos : Pos} {fl : Fl} (x : Ex mg mb n A s₀ P W s env σ) (h : ex1 r env.scope σ (.If t a b pos) = some (fl, σ')) (Q : Flow → Shared → Prop) (E : Value → Shared → Prop)
    (hQ : ∀ f s' W', FlIs W' s'.heap f fl → ExP mg mb n A s₀ P W s env σ' W' s' → Q f s') : wpAny (model prog w) A (exec (.If t a b pos) env) Q E s := by
  (unfold ex1 at h; simp only [Option.bind_eq_bind, Option.bind_eq_some_iff] at h)
  obtain ⟨c, hc, h⟩ := h
  obtain ⟨Wf, xf, hWf⟩ := x.release
  refine wpAny_If (R.ts hc xf.cx _ _ fun s1 g1 => ?_)
  cases c with
  | true => exact R.ex h (x.grow g1) _ _ fun f s2 W2 hf y => hQ f s2 W2 hf ((Grow.exp x g1).trans y)
  | false => exact R.ex h (x.grow g1) _ _ fun f s2 W2 hf y => hQ f s2 W2 hf ((Grow.exp x g1).trans y)

theorem return_ok (R : SoundX prog w mg mb n r) {e : Expr} {pos : Pos} {fl : Fl} (x : Ex mg mb n A s₀ P W s env σ) (h : ex1 r env.scope σ (.Return (some e) pos) = some (fl, σ')) (Q : Flow → Shared → Prop) (E : Value → Shared → Prop)
    (hQ : ∀ f s' W', FlIs W' s'.heap f fl → ExP mg mb n A s₀ P W s env σ' W' s' → Q f s') : wpAny (model prog w) A (exec (.Return (some e) pos) env) Q E s := by
  (unfold ex1 at h; simp only [Option.bind_eq_bind, Option.bind_eq_some_iff] at h)
  obtain ⟨d, hd, h⟩ := h
  cases h
  obtain ⟨Wf, xf, hWf⟩ := x.release
  exact wpAny_Return_some (R.ev hd xf.cx _ _ fun v s1 g1 iv => hQ _ _ Wf iv ((Grow.exp xf g1).wider hWf))

theorem assert_ok (R : SoundX prog w mg mb n r) {t : Expr} {pos : Pos} {fl : Fl} (x : Ex mg mb n A s₀ P W s env σ) (h : ex1 r env.scope σ (.Assert t none pos) = some (fl, σ')) (Q : Flow → Shared → Prop) (E : Value → Shared → Prop)
    (hQ : ∀ f s' W', FlIs W' s'.heap f fl → ExP mg mb n A s₀ P W s env σ' W' s' → Q f s') : wpAny (model prog w) A (exec (.Assert t none pos) env) Q E s := by
  (unfold ex1 at h; simp only [Option.bind_eq_bind, Option.bind_eq_some_iff] at h)
  obtain ⟨c, hc, h⟩ := h
  cases c with
  | false => cases h
  | true =>
    cases h
    obtain ⟨Wf, xf, hWf⟩ := x.release
    exact wpAny_Assert_holds (R.ts hc xf.cx _ _ fun s1 g1 => ⟨rfl, hQ _ _ W trivial (Grow.exp x g1)⟩)

theorem try_ok (R : SoundX prog w mg mb n r) {b : List Stmt} {hs : List ExceptHandler} {pos : Pos} {fl : Fl} (x : Ex mg mb n A s₀ P W s env σ) (h : ex1 r env.scope σ (.Try b hs [] [] pos) = some (fl, σ')) (Q : Flow → Shared → Prop) (E : Value → Shared → Prop)
    (hQ : ∀ f s' W', FlIs W' s'.heap f fl → ExP mg mb n A s₀ P W s env σ' W' s' → Q f s') : wpAny (model prog w) A (exec (.Try b hs [] [] pos) env) Q E s := by
  (unfold ex1 at h; try dsimp only at h)
  have key : ∀ E', wpAny (model prog w) A (execs b env) (fun f s₁ => match f with | .next => wpAny (model prog w) A (execs [] env) Q E s₁ | f => Q f s₁) E' s := by
    intro E'
    refine R.ex h x _ _ fun f s2 W2 hf y => ?_
    cases f with
    | next => exact wpAny_execs_nil (hQ _ _ _ hf y)
    | ret v => exact hQ _ _ _ hf y
    | brk => exact hQ _ _ _ hf y
    | cont => exact hQ _ _ _ hf y
  cases hs with
  | cons h0 hs => exact wpAny_Try_except (key _)
  | nil =>
    show wpAny _ A (standAt pos >>= fun _ => tryStmt false (execs b env) [] (execs [] env) [] env) Q E s
    refine wpAny_bind (wpAny_standAt ?_)
    unfold tryStmt
    simp only [List.isEmpty_nil, if_true]
    refine wpAny_bind (wpAny_attempt (wpAny_mono (key fun _ _ => False) (fun f s₁ h₁ => ?_) fun e s₁ h₁ => h₁.elim))
    cases f <;> first | exact h₁ | exact wpAny_pure h₁

theorem notBound_pair {a b : Str} {pa pb pt : Pos} {k : Nat} {o : Option Str} (h : notBound (.Tuple [.Name a pa, .Name b pb] k pt) o = true) : o ≠ some a ∧ o ≠ some b := by
  cases o with
  | none => exact ⟨by simp, by simp⟩
  | some z =>
    have h : (a != z && b != z) = true := h
    rw [Bool.and_eq_true, bne_iff_ne, bne_iff_ne] at h
    exact ⟨fun e => h.1 (Option.some.inj e).symm, fun e => h.2 (Option.some.inj e).symm⟩
/-- a loop's target is bound -/
theorem bind_ok {t : Expr} {v : Value} {d : D} {ρ' : Rho} (x : Ex mg mb n A s₀ P W s env σ) (hb : bindT (isOwnVar env.scope) σ.rho t d = some ρ') (hn : notBound t σ.own = true) (iv : Is W s.heap v d) (Q : Unit → Shared → Prop) (E : Value → Shared → Prop)
    (hQ : ∀ s', ExP mg mb n A s₀ P W s env ⟨ρ', σ.own⟩ W s' → Q () s') : wpAny (model prog w) A (assign t env v) Q E s := by
  rcases bindT_inv hb with ⟨y, py, rfl, hy, rfl⟩ | ⟨a, pa, b, pb, k, pt, d, e, rfl, rfl, ha, hb2, rfl⟩
  · refine wpAny_assign_Name (ex_store x hy (fun e => ?_) iv _ _ fun s1 y1 => hQ _ y1)
    rw [e] at hn
    exact absurd rfl (bne_iff_ne.mp hn)
  · have oab : σ.own ≠ some a ∧ σ.own ≠ some b := notBound_pair hn
    show wpAny _ A (standAt pt >>= fun _ => (holding [v] (unpackItems v 2 none) >>= fun items => assignInOrder [assign (.Name a pa) env, assign (.Name b pb) env] items)) _ _ _
    refine wpAny_bind (wpAny_standAt (wpAny_bind (wpAny_holding (unpack_two x.cx.room.h (.inl rfl) iv _ _ fun va vb s2 g2 ia ib => ?_))))
    show wpAny _ A (holding [vb] (assign (.Name a pa) env va) >>= fun _ => (holding [] (assign (.Name b pb) env vb) >>= fun _ => pure ())) _ _ _
    refine wpAny_bind (wpAny_holding (wpAny_assign_Name (ex_store (x.grow g2) ha oab.1 ia _ _ fun s3 y3 => ?_)))
    have off : OffW W s2.heap s3.heap := fun b o hb e => y3.mv b o (.inl hb) e
    refine wpAny_bind (wpAny_holding (wpAny_assign_Name (ex_store y3.ex hb2 oab.2 (ib.off off) _ _ fun s4 y4 => wpAny_pure ?_)))
    exact hQ _ (((Grow.exp x g2).trans y3).trans y4)

/-- where a loop has come to -/
structure LP (mg mb : Str → Option Value) (n : Nat) (A : Around) (s₀ : Shared) (P wr W : List Addr) (s : Shared) (env : Env) (σ' : Stt) (W' : List Addr) (s' : Shared) : Prop where
  ex : Ex mg mb n A s₀ P W' s' env σ'
  mv : ∀ b o, b ∉ wr → (b ∉ W ∨ (b ∈ P ∧ b ∉ envA env)) → s.heap.get? b = some o → s'.heap.get? b = some o
  wn : ∀ a ∈ W', a ∈ W ∨ s.heap.get? a = none
  gk : ∀ {q}, GOk q s.gens → GOk q s'.gens

theorem loop_ok (R : SoundX prog w mg mb n r) {t : Expr} {body : List Stmt} {I : Addr} {ds : List D} {St : Nat → Heap → Prop} {Src : List Addr → Heap → Prop} {fl : Fl} (F : Feeds prog w A I fp wr t ds St Src) (hP : ∀ a ∈ wr, a ∈ P) (he : ∀ a ∈ wr, a ∉ envA env)
    (h0 : ∀ a ∈ wr, s₀.heap.get? a = none) (x : Ex mg mb n A s₀ P W s env σ) (st : St 0 s.heap) (sr : Src W s.heap) (hfp : ∀ b ∈ fp, (b ∈ wr ∨ b ∉ W) ∧ ∃ o, s.heap.get? b = some o)
    (h : forF r env.scope t body ds σ = some (fl, σ')) {Q : Flow → Shared → Prop} {E' : Value → Shared → Prop}
    (hr : ∀ v s' W', FlIs W' s'.heap (.ret v) fl → LP mg mb n A s₀ P wr W s env σ' W' s' → Q (.ret v) s')
    (hn : ∀ s₂ h' tk W', fl = .next → LP mg mb n A s₀ P wr W s env σ' W' s₂ → But wr s₂.heap h' → Q .next { s₂ with heap := h', toks := tk }) :
    codeAny (model prog w) A (.forLoop t (.ref I) body [] env) (fun r s' => match r with | .ok f => Q f s' | .error e => E' e s') s := by
  refine codeAny_forLoop_any (fun k si => ∃ i Wi σi, i + k = ds.length ∧ LP mg mb n A s₀ P wr W s env σi Wi si ∧ St i si.heap ∧ Src Wi si.heap ∧ (∀ b ∈ fp, (b ∈ wr ∨ b ∉ Wi) ∧ ∃ o, si.heap.get? b = some o) ∧ forF r env.scope t body (ds.drop i) σi = some (fl, σ')) ?_ ds.length
    ⟨0, W, σ, by omega, ⟨x, fun _ _ _ _ e => e, fun _ h => .inl h, id⟩, st, sr, hfp, h⟩
  rintro k si ⟨i, Wi, σi, hk, xi, sti, sri, fpi, hi⟩
  cases k with
  | zero =>
    have hi' : i = ds.length := by omega
    subst hi'
    rw [List.drop_length] at hi
    cases hi
    exact F.done si _ _ sti fun h' tk hkp => wpAny_execs_nil (hn si h' tk Wi rfl xi fun b o hb e => hkp b o hb e)
  | succ k =>
    have hlt : i < ds.length := by omega
    rw [List.drop_eq_getElem_cons hlt] at hi
    unfold forF at hi
    split at hi
    · rename_i hsc
      rw [Bool.and_eq_true] at hsc
      simp only [Option.bind_eq_bind, Option.bind_eq_some_iff] at hi
      obtain ⟨ρ', hρ, ⟨fl1, σ1⟩, hex, hi⟩ := hi
      refine wpAny_mono (F.item i si Wi ds[i] ?K _ (by simp [hlt]) sti xi.ex.cx.live (fun b hb => xi.ex.p b (hP b hb)) sri ?go) (fun r s1 h1 => ?last) fun _ _ e => e
      case last =>
        cases r with
        | none => exact h1.elim
        | some v => exact h1
      case go =>
        intro v h' tk iv st' hkp hlv
        have kb : But wr si.heap h' := fun b o hb e => hkp b o hb e
        have xb : Ex mg mb n A s₀ P Wi { si with heap := h', toks := tk } env σi := xi.ex.but kb id rfl hP he h0 hlv
        have sb : Src Wi h' := F.src Wi _ _ sri fun b o hb e => kb b o (fun q => hb (xi.ex.p b (hP b q))) e
        have fb : ∀ b ∈ fp, (b ∈ wr ∨ b ∉ Wi) ∧ ∃ o, h'.get? b = some o := fun b hb => ⟨(fpi b hb).1, by
          by_cases hw : b ∈ wr
          · exact hlv b hw
          · obtain ⟨o, ho⟩ := (fpi b hb).2; exact ⟨o, kb b o hw ho⟩⟩
        have mid : ∀ {σx : Stt} {Wx : List Addr} {sx : Shared}, ExP mg mb n A s₀ P Wi { si with heap := h', toks := tk } env σx Wx sx → LP mg mb n A s₀ P wr W s env σx Wx sx := by
          intro σx Wx sx y
          refine ⟨y.ex, fun b o hw hb e => y.mv b o ?_ (kb b o hw (xi.mv b o hw hb e)), fun a ha => ?_, fun h => y.gk (xi.gk h)⟩
          · rcases hb with q | q
            · left; intro z
              rcases xi.wn b z with z | z
              · exact q z
              · rw [z] at e; cases e
            · exact .inr q
          · rcases y.wn a ha with q | q
            · exact xi.wn a q
            · by_cases haw : a ∈ W
              · exact .inl haw
              · right
                cases e : s.heap.get? a with
                | none => rfl
                | some o =>
                  have hw : a ∉ wr := fun z => haw (x.p a (hP a z))
                  have := kb a o hw (xi.mv a o hw (.inl haw) e)
                  have q : h'.get? a = none := q
                  rw [q] at this; cases this
        refine bind_ok xb hρ hsc.2 iv _ _ fun s2 y2 => ?_
        refine R.ex hex y2.ex _ _ fun f s3 W3 hf y3 => ?_
        have y := y2.trans y3
        cases fl1 with
        | ret d1 =>
          cases hi
          cases f with
          | ret v1 => exact hr _ _ _ hf (mid y)
          | _ => exact hf.elim
        | next =>
          cases f with
          | next =>
            have kf : ∀ b ∈ fp, ∀ o, h'.get? b = some o → s3.heap.get? b = some o := fun b hb o e => y.mv b o (by
              rcases (fb b hb).1 with q | q
              · exact .inr ⟨hP b q, he b q⟩
              · exact .inl q) e
            have s1 : Src (W3 ++ Wi) h' := F.more Wi _ _ sb fun a ha => by
              rcases List.mem_append.mp ha with q | q
              · exact y.wn a q
              · exact .inl q
            have s2 : Src (W3 ++ Wi) s3.heap := F.src _ _ _ s1 fun b o hb e => y.mv b o (.inl fun q => hb (List.mem_append_right _ q)) e
            refine ⟨k, Nat.lt_succ_self k, i + 1, W3, σ1, by omega, mid y, F.frame _ _ _ st' kf, F.more _ _ _ s2 fun a ha => .inl (List.mem_append_left _ ha), fun b hb => ⟨?_, ?_⟩, hi⟩
            · rcases (fb b hb).1 with q | q
              · exact .inl q
              · right; intro z
                obtain ⟨o, ho⟩ := (fb b hb).2
                rcases y.wn b z with z | z
                · exact q z
                · have z : h'.get? b = none := z
                  rw [ho] at z; cases z
            · obtain ⟨o, ho⟩ := (fb b hb).2
              exact ⟨o, kf b hb o ho⟩
          | _ => exact hf.elim
    · cases hi
end
end Mine
end

section
set_option maxRecDepth 100000
set_option linter.unusedVariables false
namespace Mine
open PySem PySem.W PyProof.Rows PySem.Calls
section
variable {prog : Program} {w : World} {A : Around} {s₀ s s' : Shared} {P P' W W' Wf wr fp : List Addr} {mg mb : Str → Option Value} {n : Nat} {env : Env} {ρ : Rho} {σ σ' : Stt} {r : Rec}

theorem Grow.none (g : Grow s s') {a : Addr} (h : s'.heap.get? a = none) : s.heap.get? a = none := by
  cases e : s.heap.get? a with
  | none => rfl
  | some o => rw [g.keep a o e] at h; cases h

/-- more objects are watched -/
theorem Ex.more {s₂ : Shared} (x : Ex mg mb n A s₀ P W s env σ) (g : Grow s s₂) (hn : ∀ a ∈ wr, s.heap.get? a = none) (lv : ∀ a ∈ wr, ∃ o, s₂.heap.get? a = some o) : Ex mg mb n A s₀ (wr ++ P) (wr ++ W) s₂ env σ := by
  refine ⟨x.cx.more g hn lv, x.base.trans g, fun a ha => ?_, fun a ha => List.mem_append_right _ (x.pe a ha), x.en, fun y hy => ?_⟩
  · rcases List.mem_append.mp ha with q | q
    · exact List.mem_append_left _ q
    · exact List.mem_append_right _ (x.p a q)
  · obtain ⟨l, vs, ds, o⟩ := x.own y hy
    refine ⟨l, vs, ds, o.rho, o.slot.keep g.keep, List.mem_append_right _ o.inW, fun q => ?_, o.new, o.list.at fun _ e => g.keep _ _ e, ?_⟩
    · rcases List.mem_append.mp q with q | q
      · obtain ⟨m, e⟩ := o.list
        rw [hn l q] at e; cases e
      · exact o.notP q
    · refine (isAll_more o.all fun a ha => ?_).keep g.keep
      rcases List.mem_append.mp ha with q | q
      · exact .inr (hn a q)
      · exact .inl q

theorem ex1_For {sc : Scope} {t i : Expr} {body : List Stmt} {pos : Pos} : ex1 r sc σ (.For t i body [] pos) = (items r sc (dropOwn (headS σ i)) i).bind fun ds => if tgtOk i t then forF r sc t body ds (headS σ i) else none := rfl

theorem for_ok (R : SoundX prog w mg mb n r) {t i : Expr} {body : List Stmt} {pos : Pos} {fl : Fl} (x : Ex mg mb n A s₀ P W s env σ) (h : ex1 r env.scope σ (.For t i body [] pos) = some (fl, σ')) (Q : Flow → Shared → Prop) (E : Value → Shared → Prop)
    (hQ : ∀ f s' W', FlIs W' s'.heap f fl → ExP mg mb n A s₀ P W s env σ' W' s' → Q f s') : wpAny (model prog w) A (exec (.For t i body [] pos) env) Q E s := by
  rw [ex1_For] at h
  simp only [Option.bind_eq_some_iff] at h
  obtain ⟨ds, hds, h⟩ := h
  split at h
  rotate_left
  · cases h
  rename_i ht
  generalize hσ : headS σ i = σ₁ at hds h
  have h1 : ∃ W₁, Ex mg mb n A s₀ P W₁ s env σ₁ ∧ ∀ a ∈ W₁, a ∈ W := by
    have : σ₁ = σ ∨ σ₁ = ⟨σ.rho, none⟩ := hσ ▸ headS_or σ i
    rcases this with e | e
    · rw [e]; exact ⟨W, x, fun _ h => h⟩
    · rw [e]; exact x.release
  obtain ⟨W₁, x1, hW₁⟩ := h1
  have hset : ∀ v, foldedSetIterable i env v = pure v := by
    intro v
    exact notSet_fold hds v
  refine wpAny_For (items_ok R.toSound hds ht x1.cx _ _ fun I fp wr St Src s₂ F g st hfp hwr sr => ?_) hset
  have hlv : ∀ a ∈ wr, ∃ o, s₂.heap.get? a = some o := fun a ha => (hfp a (F.sub a ha)).2
  have x2 := x1.more g hwr hlv
  have he : ∀ a ∈ wr, a ∉ envA env := fun a ha q => (hfp a (F.sub a ha)).1 (x1.p a (x1.pe a q))
  have h0 : ∀ a ∈ wr, s₀.heap.get? a = none := fun a ha => x1.base.none (hwr a ha)
  have lift : ∀ {σx : Stt} {Wx Wy : List Addr} {sx sy : Shared}, LP mg mb n A s₀ (wr ++ P) wr (wr ++ W₁) s₂ env σx Wx sx → Ex mg mb n A s₀ P Wy sy env σx → (∀ a ∈ Wy, a ∈ Wx) → But wr sx.heap sy.heap → sy.gens = sx.gens → ExP mg mb n A s₀ P W s env σx Wy sy := by
    intro σx Wx Wy sx sy y ey hy kb hgn
    refine ⟨ey, fun b o hb e => ?_, fun a ha => ?_, fun h => by rw [hgn]; exact y.gk (g.gens h)⟩
    · have hw : b ∉ wr := fun q => by rw [hwr b q] at e; cases e
      refine kb b o hw (y.mv b o hw ?_ (g.keep b o e))
      rcases hb with q | q
      · left; intro z
        rcases List.mem_append.mp z with z | z
        · exact hw z
        · exact q (hW₁ b z)
      · exact .inr ⟨List.mem_append_right _ q.1, q.2⟩
    · rcases y.wn a (hy a ha) with q | q
      · rcases List.mem_append.mp q with q | q
        · exact .inr (hwr a q)
        · exact .inl (hW₁ a q)
      · exact .inr (g.none q)
  refine loop_ok R F (fun a ha => List.mem_append_left _ ha) he h0 x2 st sr (fun b hb => ⟨?_, (hfp b hb).2⟩) h (fun v s3 W3 hf y => ?_) fun s3 h' tk W3 hfl y kb => ?_
  · by_cases hw : b ∈ wr
    · exact .inl hw
    · right; intro z
      rcases List.mem_append.mp z with z | z
      · exact hw z
      · exact (hfp b hb).1 z
  · exact hQ _ _ _ hf (lift y (y.ex.lessP (fun a ha => List.mem_append_right _ ha) x1.pe) (fun _ h => h) (fun _ _ _ e => e) rfl)
  · subst hfl
    have hsub : ∀ a ∈ W3.filter (fun a => !wr.contains a), a ∈ W3 := fun a ha => (List.mem_filter.mp ha).1
    have hno : ∀ a ∈ W3.filter (fun a => !wr.contains a), a ∉ wr := fun a ha q => by
      have := (List.mem_filter.mp ha).2
      simp [q] at this
    have hmem : ∀ a ∈ W3, a ∉ wr → a ∈ W3.filter (fun a => !wr.contains a) := fun a ha hn => List.mem_filter.mpr ⟨ha, by simpa using hn⟩
    have hPW : ∀ a ∈ P, a ∈ W3.filter (fun a => !wr.contains a) := fun a ha => hmem a (y.ex.p a (List.mem_append_right _ ha)) fun q => by
      exact (hfp a (F.sub a q)).1 (x1.p a ha)
    have off : OffW W3 s3.heap h' := fun b o hb e => kb b o (fun q => hb (y.ex.p b (List.mem_append_left _ q))) e
    have hl : env.locals ∉ wr := fun q => he _ q (envA_loc env)
    have hc : ∀ z a, env.cells.lookup z = some a → a ∉ wr := fun z a h q => he _ q (envA_cel h)
    refine hQ _ _ (W3.filter (fun a => !wr.contains a)) trivial (lift y ⟨y.ex.cx.drop2 (N := wr) (s' := { s3 with heap := h', toks := tk }) kb (fun a ha => y.ex.p a (List.mem_append_left _ ha)) hsub ⟨hPW _ (x1.pe _ (envA_loc env)), fun z a hz => hPW _ (x1.pe _ (envA_cel hz))⟩ hno,
      ⟨fun b o e => kb b o (fun q => by rw [h0 b q] at e; cases e) (y.ex.base.keep b o e), y.ex.base.gens, y.ex.base.os⟩, hPW, x1.pe, x1.en, fun z hz => ?_⟩ hsub kb rfl)
    obtain ⟨l, vs, ds, o⟩ := y.ex.own z hz
    have hlw : l ∉ wr := fun q => o.notP (List.mem_append_left _ q)
    exact ⟨l, vs, ds, o.rho, o.slot.but kb hl hc, hmem l o.inW hlw, fun q => o.notP (List.mem_append_right _ q), o.new, o.list.at fun q e => kb l q hlw e, (o.all.off off).sub hsub⟩

/-- the forms of a statement that the evaluator knows -/
inductive StF : Stmt → Prop
  | name {x p e q} : StF (.Assign [.Name x p] e q)
  | pair {a p b p2 k p3 e q} : StF (.Assign [.Tuple [.Name a p, .Name b p2] k p3] e q)
  | item {x p i p2 e q} : StF (.Assign [.Subscript (.Name x p) i p2] e q)
  | aug {x p op e q} : StF (.AugAssign (.Name x p) op e q)
  | ifS {t a b q} : StF (.If t a b q)
  | forS {t i b q} : StF (.For t i b [] q)
  | ret {e q} : StF (.Return (some e) q)
  | asr {t q} : StF (.Assert t none q)
  | app {x p nm ap e pp q} : StF (.Expr (.Call (.Attribute (.Name x p) nm ap) [e] [] pp) q)
  | del {x p i p2 q} : StF (.Delete [.Subscript (.Name x p) i p2] q)
  | tryS {b hs q} : StF (.Try b hs [] [] q)
theorem asg_form {r : Rec} {sc : Scope} {σ : Stt} {e t : Expr} {p : Pos} {q : Fl × Stt} (h : asgF r sc σ e t = some q) : StF (.Assign [t] e p) := by
  cases t <;> first | exact none_ne h | exact .name | skip
  case Subscript v i p2 =>
    obtain ⟨x, hx, h⟩ := Option.bind_eq_some_iff.mp h
    obtain ⟨p, rfl⟩ := isName_inv hx
    exact .item
  case Tuple es k p3 =>
    obtain ⟨x, hx, h⟩ := Option.bind_eq_some_iff.mp h
    obtain ⟨p, p', rfl⟩ := names2_inv hx
    exact .pair
theorem del_form {r : Rec} {sc : Scope} {σ : Stt} {t : Expr} {p : Pos} {q : Fl × Stt} (h : delF r sc σ t = some q) : StF (.Delete [t] p) := by
  cases t <;> first | exact none_ne h | skip
  obtain ⟨x, hx, h⟩ := Option.bind_eq_some_iff.mp h
  obtain ⟨p, rfl⟩ := isName_inv hx
  exact .del
theorem app_form {r : Rec} {sc : Scope} {σ : Stt} {e f : Expr} {p p' : Pos} {q : Fl × Stt} (h : appF r sc σ e p f = some q) : StF (.Expr (.Call f [e] [] p) p') := by
  cases f <;> first | exact none_ne h | skip
  obtain ⟨x, hx, h⟩ := Option.bind_eq_some_iff.mp h
  obtain ⟨p, rfl⟩ := isName_inv hx
  exact .app
theorem ex1_form {r : Rec} {sc : Scope} {σ : Stt} {st : Stmt} {q : Fl × Stt} (h : ex1 r sc σ st = some q) : StF st := by
  cases st <;> first | exact none_ne h | exact .ifS | skip
  case Assign ts e p => rcases ts with _ | ⟨t, _ | ⟨t2, ts⟩⟩ <;> first | exact none_ne h | exact asg_form h
  case AugAssign t op e p => cases t <;> first | exact none_ne h | exact .aug
  case For t i b els p => cases els <;> first | exact none_ne h | exact .forS
  case Return e p => cases e <;> first | exact none_ne h | exact .ret
  case Assert t m p => cases m <;> first | exact none_ne h | exact .asr
  case Expr e p =>
    cases e <;> first | exact none_ne h | skip
    rename_i f as kw pp
    rcases as with _ | ⟨a, _ | ⟨b, as⟩⟩ <;> first | exact none_ne h | skip
    cases kw <;> first | exact none_ne h | exact app_form h
  case Delete ts p => rcases ts with _ | ⟨t, _ | ⟨t2, ts⟩⟩ <;> first | exact none_ne h | exact del_form h
  case Try b hs e f p =>
    cases e <;> first | exact none_ne h | skip
    cases f <;> first | exact none_ne h | exact .tryS

/-- one statement -/
theorem ex1_ok (R : SoundX prog w mg mb n r) {st : Stmt} {fl : Fl} (x : Ex mg mb n A s₀ P W s env σ) (h : ex1 r env.scope σ st = some (fl, σ')) (Q : Flow → Shared → Prop) (E : Value → Shared → Prop)
    (hQ : ∀ f s' W', FlIs W' s'.heap f fl → ExP mg mb n A s₀ P W s env σ' W' s' → Q f s') : wpAny (model prog w) A (exec st env) Q E s := by
  have hQ' : ∀ s' W', fl = .next → ExP mg mb n A s₀ P W s env σ' W' s' → Q .next s' := fun s' W' e y => hQ _ _ W' (by rw [e]; trivial) y
  cases ex1_form h with
  | name => exact assign_name_ok R.toSound x h Q E hQ'
  | pair => exact pair_ok R.toSound x h Q E hQ'
  | item => exact setitem_ok R.toSound x h Q E hQ'
  | aug => exact aug_ok R.toSound x h Q E hQ'
  | ifS => exact if_ok R x h Q E hQ
  | forS => exact for_ok R x h Q E hQ
  | ret => exact return_ok R x h Q E hQ
  | asr => exact assert_ok R x h Q E hQ
  | app => exact append_ok R.toSound x h Q E fun s' e y => hQ' s' W e y
  | del => exact del_ok R.toSound x h Q E hQ'
  | tryS => exact try_ok R x h Q E hQ

theorem exF_ok (R : SoundX prog w mg mb n r) {sts : List Stmt} {fl : Fl} (h : exF r env.scope σ sts = some (fl, σ')) (x : Ex mg mb n A s₀ P W s env σ) (Q : Flow → Shared → Prop) (E : Value → Shared → Prop)
    (hQ : ∀ f s' W', FlIs W' s'.heap f fl → ExP mg mb n A s₀ P W s env σ' W' s' → Q f s') : wpAny (model prog w) A (execs sts env) Q E s := by
  cases sts with
  | nil =>
    cases h
    exact wpAny_execs_nil (hQ _ _ W trivial (ExP.refl x))
  | cons st rest =>
    (unfold exF at h; simp only [Option.bind_eq_bind, Option.bind_eq_some_iff] at h)
    obtain ⟨⟨fl1, σ1⟩, h1, h⟩ := h
    refine wpAny_execs_cons (ex1_ok R x h1 _ _ fun f s1 W1 hf y1 => ?_)
    cases fl1 with
    | ret d =>
      cases h
      cases f with
      | ret v => exact hQ _ _ _ hf y1
      | _ => exact hf.elim
    | next =>
      cases f with
      | next => exact R.ex h y1.ex _ _ fun f2 s2 W2 hf2 y2 => hQ _ _ _ hf2 (y1.trans y2)
      | _ => exact hf.elim
end
end Mine
end

section
set_option maxRecDepth 100000
set_option linter.unusedVariables false
namespace Mine
open PySem PySem.W PyProof.Rows PySem.Calls

theorem cellsFrom_keys : ∀ (names : List (Str × NameKind)) (n : Nat) (acc : List (Str × Addr)), (names.map (·.1)).Nodup → (acc.map (·.1)).Nodup → (∀ x ∈ names.map (·.1), x ∉ acc.map (·.1)) → ((cellsFrom n names acc).map (·.1)).Nodup
  | [], _, _, _, h, _ => h
  | (y, k) :: r, n, acc, h1, h2, h3 => by
    unfold cellsFrom
    simp only [List.map_cons, List.nodup_cons] at h1
    split
    · refine cellsFrom_keys r _ _ h1.2 ?_ ?_
      · simp only [List.map_cons, List.nodup_cons]
        exact ⟨h3 y (by simp), h2⟩
      · intro x hx hm
        simp only [List.map_cons, List.mem_cons] at hm
        rcases hm with rfl | hm
        · exact h1.1 hx
        · exact h3 x (by simp only [List.map_cons, List.mem_cons]; exact .inr hx) hm
    · exact cellsFrom_keys r _ _ h1.2 h2 fun x hx => h3 x (by simp only [List.map_cons, List.mem_cons]; exact .inr hx)

theorem bindL_other {kd : Str → Option NameKind} {x : Str} : ∀ (binds : List (Str × Value)) (m : Str → Option Value), x ∉ binds.map (·.1) → bindL kd binds m x = m x
  | [], _, _ => rfl
  | (y, v) :: r, m, h => by
    simp only [List.map_cons, List.mem_cons, not_or] at h
    unfold bindL
    rw [bindL_other r _ h.2]
    split
    · exact if_neg h.1
    · rfl
theorem bindC_other {kd : Str → Option NameKind} {x : Str} : ∀ (binds : List (Str × Value)) (m : Str → Option Value), x ∉ binds.map (·.1) → bindC kd binds m x = m x
  | [], _, _ => rfl
  | (y, v) :: r, m, h => by
    simp only [List.map_cons, List.mem_cons, not_or] at h
    unfold bindC
    rw [bindC_other r _ h.2]
    split
    · rfl
    · exact if_neg h.1
theorem bindL_at {kd : Str → Option NameKind} {x : Str} {v : Value} (hk : kd x = some .local) : ∀ (binds : List (Str × Value)) (m : Str → Option Value), (binds.map (·.1)).Nodup → (x, v) ∈ binds → bindL kd binds m x = some v
  | [], _, _, h => nomatch h
  | (y, u) :: r, m, hn, h => by
    simp only [List.map_cons, List.nodup_cons] at hn
    unfold bindL
    rcases List.mem_cons.mp h with e | h
    · cases e
      rw [bindL_other r _ hn.1, if_pos hk, if_pos rfl]
    · exact bindL_at hk r _ hn.2 h
theorem bindC_at {kd : Str → Option NameKind} {x : Str} {v : Value} (hk : kd x ≠ some .local) : ∀ (binds : List (Str × Value)) (m : Str → Option Value), (binds.map (·.1)).Nodup → (x, v) ∈ binds → bindC kd binds m x = some v
  | [], _, _, h => nomatch h
  | (y, u) :: r, m, hn, h => by
    simp only [List.map_cons, List.nodup_cons] at hn
    unfold bindC
    rcases List.mem_cons.mp h with e | h
    · cases e
      rw [bindC_other r _ hn.1, if_neg hk, if_pos rfl]
    · exact bindC_at hk r _ hn.2 h
theorem zip_both {W : List Addr} {h : Heap} : ∀ {ps : List Str} {vs : List Value} {ds : List D}, IsAll W h vs ds → ∀ {x : Str} {d : D}, (x, d) ∈ ps.zip ds → ∃ v, (x, v) ∈ ps.zip vs ∧ Is W h v d
  | [], _, _, _, _, _, h => by simp at h
  | p :: ps, _, _, .nil, _, _, h => by simp at h
  | p :: ps, _, _, .cons i r, x, d, h => by
    simp only [List.zip_cons_cons, List.mem_cons] at h ⊢
    rcases h with e | h
    · cases e; exact ⟨_, .inl rfl, i⟩
    · obtain ⟨v, h1, h2⟩ := zip_both r h; exact ⟨v, .inr h1, h2⟩
theorem zip_keys {α : Type} : ∀ {ps : List Str} {vs : List α}, ps.length = vs.length → (ps.zip vs).map (·.1) = ps
  | [], _, _ => by simp
  | p :: ps, [], h => by simp at h
  | p :: ps, v :: vs, h => by
    simp only [List.zip_cons_cons, List.map_cons]
    rw [zip_keys (by simpa using h)]
theorem pairwise_inj {l : List (Str × Addr)} (h : l.Pairwise fun x y => x.2 ≠ y.2) {x y : Str} {c : Addr} (hx : (x, c) ∈ l) (hy : (y, c) ∈ l) : x = y := by
  induction l with
  | nil => cases hx
  | cons p r ih =>
    rw [List.pairwise_cons] at h
    rcases List.mem_cons.mp hx with e | hx
    · rcases List.mem_cons.mp hy with e' | hy
      · rw [← e] at e'; cases e'; rfl
      · exact absurd (by rw [← e]) (h.1 _ hy)
    · rcases List.mem_cons.mp hy with e' | hy
      · exact absurd (by rw [← e']) (h.1 _ hx)
      · exact ih h.2 hx hy

section
variable {prog : Program} {w : World} {A : Around} {s₀ s s' : Shared} {P P' W W' Wf wr fp : List Addr} {mg mb : Str → Option Value} {n : Nat} {env : Env} {ρ : Rho} {σ σ' : Stt} {r : Rec}

theorem Room.deeper (h : Room (n + 1) A) (env : Env) : Room n (A.deeper env) := ⟨h.h, by have := h.d; show A.depth + 1 + n + 8 < _; omega, by have := h.u; show A.units + 3 + 8 * n + 80 < _; omega⟩

theorem user_ok (R : SoundX prog w mg mb n r) {f : Str} {ps : List Str} {sc : Scope} {body : List Stmt} {as : List D} {d : D} {vs : List Value} {a : Addr} (hf : ¬ f = "_grouping_intervals") (hd : defOf f = some (ps, sc, body)) (hl : ps.length = as.length)
    (h : r.ex sc ⟨(ps.zip as).reverse, none⟩ body = some (.ret d, σ')) (ha : mg f = some (.ref a)) (rm : Room (n + 1) A) (gd : GdW mg mb W s.heap) (lv : Live W s.heap) (ia : IsAll W s.heap vs as) : Giv (model prog w) A W s (call (.ref a) vs) d := by
  intro Q E hQ
  obtain ⟨a', o, params, pm, code, doc, h1, h2, h3, h4, h5, h6, h7, h8, h9, h10, h11, h12⟩ := gd.gd.fns f ps sc body hd
  rw [ha] at h1; cases h1
  have hvl : vs.length = ps.length := by rw [ia.length, hl]
  generalize hfd : docDef f params body sc pm code doc = fd at h3 h5
  have hsc : fd.scope = sc := by rw [← hfd]; rfl
  refine wpAny_call ?_
  have hkd : ∀ x ∈ ps, sc.names.lookup x = some .local ∨ sc.names.lookup x = some .cell := fun x hx => by
    have := h6 x hx
    unfold isOwnVar kindIn at this
    split at this
    · rename_i e; exact .inl e
    · rename_i e; exact .inr e
    · cases this
  refine codeAny_call_cells (body := body) (binds := ps.zip vs) (by have := rm.d; omega) h2 h3 gd.gd.lim (by rw [← hfd]; exact h4) (by rw [← hfd]; rfl) (h5 vs hvl) (by rw [← hfd]; rfl) ?_ ?_ (by rw [hsc]; exact h8) (by rw [hsc, h9]; simpa using hf) (by rw [hsc]; exact h10)
  · rintro ⟨x, v⟩ hx
    have hx : x ∈ ps := (List.of_mem_zip hx).1
    rw [hsc]
    rcases hkd x hx with e | e
    · exact .inl e
    · obtain ⟨c, hc⟩ := cellsFrom_some sc.names (s.heap.objs.size + 1) [] (lookup_mem e)
      exact .inr ⟨e, by rw [hc]; rfl⟩
  intro s₁ x
  generalize henv : callEnvC fd s.heap.objs.size a = env at x ⊢
  have e1 : env.scope = sc := by rw [← henv, ← hfd]; rfl
  have e2 : env.locals = s.heap.objs.size := by rw [← henv]; rfl
  have e3 : env.cells = cellsFrom (s.heap.objs.size + 1) sc.names [] := by rw [← henv, ← hfd]; rfl
  have e4 : env.globals = mainGlobals := by rw [← henv, ← hfd]; rfl
  have e5 : env.builtins = builtinsNs := by rw [← henv, ← hfd]; rfl
  have kd : ∀ x, env.kindOf x = sc.names.lookup x := fun x => by show env.scope.names.lookup x = _; rw [e1]
  have g : Grow s s₁ := by
    obtain ⟨h', tk, e⟩ := x.toInCall.same
    refine ⟨x.toInCall.keep, fun q => by rw [e]; exact q, by rw [e]⟩
  have nd : (env.cells.map (·.1)).Nodup := by rw [e3]; exact cellsFrom_keys _ _ _ h11 (by simp) (by simp)
  have new : ∀ a ∈ envA env, s.heap.get? a = none := by
    intro b hb
    have big : s.heap.objs.size ≤ b := by
      rcases List.mem_cons.mp hb with e | hb
      · rw [e, e2]; exact Nat.le_refl _
      · obtain ⟨⟨z, c⟩, hz, rfl⟩ := List.mem_map.mp hb
        have := x.above z c hz
        rw [e2] at this; exact Nat.le_of_lt this
    cases e : s.heap.get? b with
    | none => rfl
    | some o => exact absurd (Heap.lt_size e) (Nat.not_lt_of_le big)
  have lvE : ∀ a ∈ envA env, ∃ o, s₁.heap.get? a = some o := by
    intro b hb
    rcases List.mem_cons.mp hb with e | hb
    · obtain ⟨o, _, _, ho, _⟩ := x.toInCall.ns; rw [e]; exact ⟨o, ho⟩
    · obtain ⟨⟨z, c⟩, hz, rfl⟩ := List.mem_map.mp hb
      obtain ⟨o, ho, _⟩ := x.cell z c (mem_lookup_nodup nd hz); exact ⟨o, ho⟩
  have ia1 : IsAll (envA env ++ W) s₁.heap vs as := (ia.more new).keep g.keep
  have S : EnvS s₁.heap env := by
    refine ⟨by rw [e1]; exact h10, e4, e5, ⟨_, x.toInCall.ns⟩, fun z hz => ?_, fun y z c hy hz => pairwise_inj x.apart (lookup_mem hy) (lookup_mem hz)⟩
    rw [kd z] at hz
    rcases hz with hz | hz
    · obtain ⟨c, hc⟩ := cellsFrom_some sc.names (s.heap.objs.size + 1) [] (lookup_mem hz)
      exact ⟨c, _, by rw [e3]; exact hc, x.cell z c (by rw [e3]; exact hc)⟩
    · exact absurd rfl (h12 _ (lookup_mem hz))
  have hzk : ((ps.zip vs).map (·.1)).Nodup := by rw [zip_keys hvl.symm]; exact h7
  have D : EnvD (envA env ++ W) s₁.heap env (ps.zip as).reverse := by
    intro z dz hz hv
    have hm : (z, dz) ∈ ps.zip as := List.mem_reverse.mp (lookup_mem hz)
    obtain ⟨v, hvm, iv⟩ := zip_both ia1 hm
    refine ⟨v, ?_, iv⟩
    have hz : z ∈ ps := (List.of_mem_zip hm).1
    rcases hkd z hz with e | e
    · exact .inl ⟨(kd z).trans e, _, x.toInCall.ns, bindL_at ((kd z).trans e) _ _ hzk hvm⟩
    · obtain ⟨c, hc⟩ := cellsFrom_some sc.names (s.heap.objs.size + 1) [] (lookup_mem e)
      have hc : env.cells.lookup z = some c := by rw [e3]; exact hc
      have hi := x.cell z c hc
      rw [bindC_at (by rw [kd z, e]; simp) _ _ hzk hvm] at hi
      exact .inr ⟨.inl ((kd z).trans e), c, hc, hi⟩
  have cx : Cx mg mb n (A.deeper env) (envA env ++ W) s₁ env (ps.zip as).reverse :=
    ⟨rm.deeper env, (gd.more new).keep g.keep, S, D, ⟨List.mem_append_left _ (envA_loc env), fun y c hc => List.mem_append_left _ (envA_cel hc)⟩, fun b hb => by
      rcases List.mem_append.mp hb with q | q
      · exact lvE b q
      · exact lv.keep g.keep b q⟩
  have ex : Ex mg mb n (A.deeper env) s (envA env ++ W) (envA env ++ W) s₁ env ⟨(ps.zip as).reverse, none⟩ := ⟨cx, g, fun _ h => h, fun b hb => List.mem_append_left _ hb, new, fun y hy => by cases hy⟩
  refine R.ex (e1 ▸ h) ex _ _ fun fl s2 W2 hfl y => ?_
  cases fl with
  | ret v => exact hQ v s2 y.ex.base (Is.sub (fun b hb => y.ex.p b (List.mem_append_right _ hb)) hfl)
  | _ => exact hfl.elim
end
end Mine
end

section
set_option maxRecDepth 100000
set_option linter.unusedVariables false
namespace Mine
open PySem PySem.W PyProof.Rows PySem.Calls

section
variable {M : Model} {A : Around} {R : GenEnd} {Y : Protocol} {n : Nat} {s₀ : Shared} {c : Code} {fs : List Frame} {s : Shared} {env : Env}
  {K : Flow → Sem Fin} {H : Value → Sem Fin} {gd : Bool → Bool} {lv : List Value → List Value}

theorem seg_If {test : Expr} {body orelse : List Stmt} {pos : Pos}
    (h : wpAny M (A.over c fs) (isTrue test env (eval test env)) (fun b s' => if b = true then Seg M A R Y n s₀ c ((execs body env).wrap K H gd lv) fs s' else Seg M A R Y n s₀ c ((execs orelse env).wrap K H gd lv) fs s')
      (fun x s' => Seg M A R Y n s₀ c (H x) fs s') s) : Seg M A R Y n s₀ c ((exec (.If test body orelse pos) env).wrap K H gd lv) fs s := by
  rw [exec_If]
  refine seg_bind_wrap (wpAny_standAt ?_)
  refine seg_bind_wrap (wpAny_mono h (fun b s' hb => ?_) fun _ _ e => e)
  cases b with
  | true => exact hb
  | false => exact hb

/-- behind a loop's frame -/
noncomputable def ownBack (env : Env) (r : Result) : Sem Flow :=
  (match r with | .ok f => (.pure f : Sem Flow) | .error e => .raise e).onRaise fun (x : Value) => do
        if (← field x 1) == Value.none then unsupported "frame.own-activation:exception-without-traceback"
        setFlight x env.frame

theorem seg_For {target iter : Expr} {body : List Stmt} {pos : Pos} (hs : ∀ x, foldedSetIterable iter env x = pure x)
    (h : wpAny M (A.over c fs) (eval iter env) (fun x s₁ => wpAny M (A.over c fs) (pyIter x) (fun it s₂ => ∀ p, Seg M A R Y n s₀ (.forLoop target it body [] env) (M.den (.forLoop target it body [] env))
      (.ret (fun r => (ownBack env r).wrap K H gd lv) none (gd false) (lv []) c p [] :: fs) s₂) (fun x s' => Seg M A R Y n s₀ c (H x) fs s') s₁) (fun x s' => Seg M A R Y n s₀ c (H x) fs s') s) :
    Seg M A R Y n s₀ c ((exec (.For target iter body [] pos) env).wrap K H gd lv) fs s := by
  rw [exec_For]
  refine seg_bind_wrap (wpAny_standAt ?_)
  refine seg_bind_wrap (wpAny_mono h (fun x s₁ h₁ => ?_) fun _ _ e => e)
  refine seg_bind_wrap (wpAny_of_eq (hs x) ?_)
  refine seg_bind_wrap (wpAny_standAt ?_)
  refine seg_bind_wrap (wpAny_holding (wpAny_mono h₁ (fun it s₂ h₂ => ?_) fun _ _ e => e))
  exact seg_call h₂
end

section
variable {prog : Program} {w : World} {A : Around} {R : GenEnd} {Y : Protocol} {n : Nat} {s₀ : Shared} {fs : List Frame} {s : Shared} {env : Env}

noncomputable def loopK (c : Code) (f : Flow) : Sem Fin := match f with
  | .next | .cont => .pure (.again c)
  | .brk => .pure (.done .next)
  | .ret v => .pure (.done (.ret v))
noncomputable def loopH (env : Env) (e : Value) : Sem Fin := (do noteFrame e env; theTreesLotGoes e : Sem Unit).bind fun _ => .raise e

theorem seg_forLoop {target : Expr} {it : Value} {body : List Stmt} {c : Code} (hc : c = .forLoop target it body [] env) (ht : ∀ v, letOwnedTupleGo target it v = pure ())
    (h : wpAny (model prog w) (A.over c fs) (pyNext it) (fun r s₁ => match r with
      | none => Seg (model prog w) A R Y n s₀ (.block [] env) ((model prog w).den (.block [] env)) fs s₁
      | some v => wpAny (model prog w) (A.over c fs) (assign target env v) (fun _ s₂ => Seg (model prog w) A R Y n s₀ c ((execs body env).wrap (loopK c) (loopH env) id id) fs s₂)
        (fun x s' => Seg (model prog w) A R Y n s₀ c (loopH env x) fs s') s₁) (fun x s' => Seg (model prog w) A R Y n s₀ c (loopH env x) fs s') s) :
    Seg (model prog w) A R Y n s₀ c ((model prog w).den c) fs s := by
  subst hc
  show Seg _ A R Y n s₀ _ ((forTurn target it body [] env).onRaise (fun x => do noteFrame x env; theTreesLotGoes x)) fs s
  unfold forTurn
  rw [Sem.onRaise_eq_wrap]
  refine seg_bind_wrap (wpAny_standAt ?_)
  refine seg_bind_wrap (wpAny_onRaise (wpAny_mono h (fun r s₁ h₁ => ?_) fun _ _ e => wpAny_standAt e))
  cases r with
  | none => exact seg_again rfl h₁
  | some v =>
    refine seg_bind_wrap (wpAny_of_eq (ht v) ?_)
    refine seg_bind_wrap (wpAny_mono h₁ (fun _ s₂ h₂ => ?_) fun _ _ e => e)
    rw [Sem.bind_eq_wrap', Sem.wrap_wrap]
    have key : ∀ K1 H1, (∀ f, K1 f = loopK (.forLoop target it body [] env) f) → (∀ e, H1 e = loopH env e) → Seg (model prog w) A R Y n s₀ (.forLoop target it body [] env) ((execs body env).wrap K1 H1 id id) fs s₂ := fun K1 H1 hk hh => by
      rw [Sem.wrap_congr _ _ _ hk hh]; exact h₂
    exact key _ _ (fun f => by cases f <;> rfl) (fun e => rfl)

theorem seg_block_nil (h : Seg (model prog w) A R Y n s₀ (.block [] env) (.pure (.done .next)) fs s) : Seg (model prog w) A R Y n s₀ (.block [] env) ((model prog w).den (.block [] env)) fs s := by
  exact h
end
end Mine
end

section
set_option maxRecDepth 100000
set_option linter.unusedVariables false
namespace Mine
open PySem PySem.W PyProof.Rows PySem.Calls

set_option genInjectivity false in
set_option genSizeOf false in
structure GP where
  (a1 a2 a3 b1 b2 b3 c1 c2 c3 c4 c5 d1 d2 d3 d4 e1 e2 e3 e4 f1 f2 f3 f4 g1 g2 g3 g4 g5 h1 h2 h3 i1 i2 i3 : Pos)
  (k1 k2 k3 k4 k5 : Nat)
noncomputable def gYield (p : GP) : List Stmt := [.Expr (.Yield (some (.Name "last_interval" p.g3)) p.g4) p.g5]
noncomputable def gLoop (p : GP) : List Stmt := [
  .If (.Compare (.Name "interval" p.c1) [.Eq] [.Name "CHAR_MAX" p.c2] p.c3) [.Return none p.c4] [] p.c5,
  .If (.Compare (.Name "interval" p.d1) [.Eq] [.Constant (.int 0) p.k2 p.d2] p.d3)
    [.If (.Compare (.Name "last_interval" p.e1) [.Is] [.Constant .none p.k3 p.e2] p.e3) [.Raise (some (.Call (.Name "ValueError" p.f1) [.Constant (.str "invalid grouping") p.k4 p.f2] [] p.f3)) none p.f4] [] p.e4,
     .While (.Constant (.bool true) p.k5 p.g1) (gYield p) [] p.g2] [] p.d4,
  .Expr (.Yield (some (.Name "interval" p.h1)) p.h2) p.h3,
  .Assign [.Name "last_interval" p.i1] (.Name "interval" p.i2) p.i3]
noncomputable def gBody (p : GP) : List Stmt := [.Assign [.Name "last_interval" p.a1] (.Constant .none p.k1 p.a2) p.a3, .For (.Name "interval" p.b1) (.Name "grouping" p.b2) (gLoop p) [] p.b3]
noncomputable def gSc : Scope := { kind := .function, names := [("grouping", .local), ("last_interval", .local), ("interval", .local), ("CHAR_MAX", .globalImplicit), ("ValueError", .globalImplicit)], isGenerator := true, isCoroutine := false, more := [] }

theorem g_def : ∃ p : GP, defOf "_grouping_intervals" = some ([("grouping" : Str)], gSc, gBody p) := ⟨⟨_, _, _, _, _, _, _, _, _, _, _, _, _, _, _, _, _, _, _, _, _, _, _, _, _, _, _, _, _, _, _, _, _, _, _, _, _, _, _⟩, rfl⟩

structure GE (genv : Env) (L : Addr) : Prop where
  sc : genv.scope = gSc
  loc : genv.locals = L
  glob : genv.globals = mainGlobals
  bltn : genv.builtins = builtinsNs
  fr : genv.frame = some L

/-- the numbers stand in the list -/
structure IntL (vs : List Value) (is : List Int) : Prop where
  len : vs.length = is.length
  at' : ∀ (i : Nat) (x : Int), is[i]? = some x → ∃ t, vs[i]? = some (Value.int x t)

structure GF (mg mb : Str → Option Value) (L l : Addr) (W : List Addr) (vs : List Value) (m : Str → Option Value) (s : Shared) : Prop where
  gd : GdW mg mb W s.heap
  ns : s.heap.Ns L m
  grp : m "grouping" = some (.ref l)
  list : s.heap.PlainList l vs.toArray
  lW : l ∉ W
  L0 : L ∈ W

structure GMv (L It : Addr) (s₀ s₁ : Shared) : Prop where
  is : ∃ h' tk, s₁ = { s₀ with heap := h', toks := tk }
  keep : ∀ b o, b ≠ L → b ≠ It → s₀.heap.get? b = some o → s₁.heap.get? b = some o
theorem GMv.refl (L It : Addr) (s : Shared) : GMv L It s s := ⟨⟨s.heap, s.toks, rfl⟩, fun _ _ _ _ e => e⟩
theorem GMv.step {L It : Addr} {s₀ s₁ : Shared} {h' : Heap} {tk : Nat} (x : GMv L It s₀ s₁) (k : ∀ b o, b ≠ L → b ≠ It → s₁.heap.get? b = some o → h'.get? b = some o) : GMv L It s₀ { s₁ with heap := h', toks := tk } := by
  obtain ⟨h1, tk1, rfl⟩ := x.is
  exact ⟨⟨h', tk, rfl⟩, fun b o h1 h2 e => k b o h1 h2 (x.keep b o h1 h2 e)⟩

noncomputable def Stp (Wc : List Addr) (s₁ s₂ : Shared) : Prop := ∀ b o, b ∉ Wc → s₁.heap.get? b = some o → s₂.heap.get? b = some o

noncomputable def gY (L It : Addr) (Wc : List Addr) (full : List Int) (cut : Bool) : Protocol := fun m s₀ v s₁ kap =>
  (∃ t, v = .int (full.reverse.getD m 0) t) ∧ GMv L It s₀ s₁ ∧ (∃ o, s₁.heap.get? L = some o) ∧ (∃ o, s₁.heap.get? It = some o) ∧ ((m = 0 ∧ cut = true) ∨ ∀ s'', Stp Wc s₁ s'' → kap (.send .none) s'')
noncomputable def gR (L It : Addr) (cut : Bool) : GenEnd := fun n s₀ r s₁ => r = .ok (.ret .none) ∧ (n = 0 ∧ cut = false ∧ GMv L It s₀ s₁)

section
variable {prog : Program} {w : World} {A : Around} {s₀ s s' : Shared} {W Wc : List Addr} {mg mb : Str → Option Value} {genv : Env} {L l It : Addr} {vs : List Value} {is full : List Int} {cut : Bool} {p : GP} {m : Str → Option Value} {E : Value → Shared → Prop}

theorem GF.off (x : GF mg mb L l W vs m s) (k : Stp Wc s s') (hW : ∀ a ∈ Wc, a ∈ W) (hL : L ∉ Wc) : GF mg mb L l W vs m s' where
  gd := x.gd.off fun b o hb e => k b o (fun q => hb (hW b q)) e
  ns := x.ns.at' fun o e => k L o hL e
  grp := x.grp
  list := x.list.at fun o e => k l o (fun q => x.lW (hW l q)) e
  lW := x.lW
  L0 := x.L0
theorem GF.toks (x : GF mg mb L l W vs m s) (t : Nat) : GF mg mb L l W vs m { s with toks := t } := ⟨x.gd, x.ns, x.grp, x.list, x.lW, x.L0⟩

theorem GE.kd (g : GE genv L) (x : Str) : genv.kindOf x = gSc.names.lookup x := by show genv.scope.names.lookup x = _; rw [g.sc]
theorem GE.kind (g : GE genv L) : genv.scope.kind = .function := by rw [g.sc]; rfl
theorem g_load (g : GE genv L) (x : GF mg mb L l W vs m s) {y : Str} {pos : Pos} {v : Value} {Q : Value → Shared → Prop} (hk : gSc.names.lookup y = some .local) (hm : m y = some v) (hQ : Q v s) (hd : (y == ("__debug__" : Str)) = false) : wpAny (model prog w) A (eval (.Name y pos) genv) Q E s :=
  wpAny_Name (wpAny_loadName_local g.kind ((g.kd y).trans hk) (show s.heap.Ns genv.locals m from g.loc ▸ x.ns) hm hQ) hd
theorem g_store (g : GE genv L) (x : GF mg mb L l W vs m s) {y : Str} {v : Value} {Q : Unit → Shared → Prop} (hk : gSc.names.lookup y = some .local) (hy : y ≠ "grouping") (hQ : ∀ h', GF mg mb L l W vs (fun z => if z = y then some v else m z) { s with heap := h', toks := s.toks + 1 } → Heap.SameBut L s.heap h' → Q () { s with heap := h', toks := s.toks + 1 }) :
    wpAny (model prog w) A (storeName genv y v) Q E s := by
  refine wpAny_storeName_local ((g.kd y).trans hk) (show s.heap.Ns genv.locals m from g.loc ▸ x.ns) (fun h' hn hs => ?_) (by rw [g.kind]; rfl)
  rw [g.loc] at hn hs
  have hlL : l ≠ L := fun e => x.lW (e ▸ x.L0)
  exact hQ h' ⟨x.gd.off fun b o hb e => (hs.2 b fun q => hb (q ▸ x.L0)).trans e, hn, by rw [if_neg (Ne.symm hy)]; exact x.grp, x.list.at fun o e => (hs.2 l hlL).trans e, x.lW, x.L0⟩ hs

/-- numbers told apart -/
theorem g_eq {a b : Int} {ta tb : Nat} {ea eb : Expr} {pos : Pos} {Q : Bool → Shared → Prop} (hset : isSetE eb = false) (h : wpAny (model prog w) A (eval ea genv) (fun va s₁ => va = .int a ta ∧ wpAny (model prog w) A (eval eb genv) (fun vb s₂ => vb = .int b tb ∧ Q (a == b) s₂) E s₁) E s) :
    wpAny (model prog w) A (isTrue (.Compare ea [.Eq] [eb] pos) genv (eval (.Compare ea [.Eq] [eb] pos) genv)) Q E s := by
  refine wpAny_isTrue_Compare1 (wpAny_mono h (fun va s₁ h₁ => ?_) fun _ _ e => e) (notSetMarks hset)
  obtain ⟨rfl, h₁⟩ := h₁
  refine wpAny_mono h₁ (fun vb s₂ h₂ => ?_) fun _ _ e => e
  obtain ⟨rfl, h₂⟩ := h₂
  exact PyProof.Rows.eq_int (wpAny_truthy_bool h₂)

theorem gen_while (g : GE genv L) {fs : List Frame} (hfs : splitAtGen fs = none) (hfg : fs.any Frame.guarded = false) (hcut : cut = true) (hWc : ∀ a ∈ Wc, a ∈ W) (hLc : L ∉ Wc) (hIc : It ∉ Wc) {x : Int} {t : Nat} (hm : m "last_interval" = some (.int x t)) :
    ∀ (j : Nat) (s₀ s : Shared), (∀ i, i ≤ j → full.reverse.getD i 0 = x) → GMv L It s₀ s → GF mg mb L l W vs m s → (∃ o, s.heap.get? It = some o) →
    Seg (model prog w) A (gR L It cut) (gY L It Wc full cut) (j + 1) s₀ (.whileLoop (.Constant (.bool true) p.k5 p.g1) (gYield p) [] genv) ((model prog w).den (.whileLoop (.Constant (.bool true) p.k5 p.g1) (gYield p) [] genv)) fs s := by
  intro j
  induction j with
  | zero =>
    intro s₀ s hx mv gf hI
    refine seg_whileLoop (wpAny_isTrue_value (wpAny_Constant_bool (wpAny_truthy_bool ?_)) rfl)
    rw [if_pos rfl]
    refine seg_execs_cons (seg_Expr_Yield hfs rfl hfg (g_load g gf rfl hm ?_ rfl) (by rw [g.sc]; rfl) (by unfold interactive; rw [g.kind]; rfl))
    intro kap hk
    exact ⟨⟨t, by rw [hx 0 (Nat.le_refl _)]⟩, mv, let ⟨o, _, _, ho, _⟩ := gf.ns; ⟨o, ho⟩, hI, .inl ⟨rfl, hcut⟩⟩
  | succ j ih =>
    intro s₀ s hx mv gf hI
    refine seg_whileLoop (wpAny_isTrue_value (wpAny_Constant_bool (wpAny_truthy_bool ?_)) rfl)
    rw [if_pos rfl]
    refine seg_execs_cons (seg_Expr_Yield hfs rfl hfg (g_load g gf rfl hm ?_ rfl) (by rw [g.sc]; rfl) (by unfold interactive; rw [g.kind]; rfl))
    intro kap hk
    refine ⟨⟨t, by rw [hx (j + 1) (Nat.le_refl _)]⟩, mv, let ⟨o, _, _, ho, _⟩ := gf.ns; ⟨o, ho⟩, hI, .inr fun s'' hs => hk .none s'' ?_⟩
    refine seg_execs_nil (seg_again rfl (ih s'' s'' (fun i hi => hx i (by omega)) (.refl ..) (gf.off hs hWc hLc) ?_))
    obtain ⟨o, ho⟩ := hI
    exact ⟨o, hs It o hIc ho⟩
end
end Mine
end

section
set_option maxRecDepth 100000
set_option linter.unusedVariables false
namespace Mine
open PySem PySem.W PyProof.Rows PySem.Calls

noncomputable def lastV : Option Int → Nat → Value
  | none, _ => .none
  | some x, t => .int x t

theorem rev_head {pre ys : List Int} {x : Int} : (pre ++ x :: ys).reverse.getD ys.length 0 = x := by
  rw [List.reverse_append, List.reverse_cons]
  simp [List.getD_eq_getElem?_getD]
theorem rev_rep {pre : List Int} {x : Int} {k i : Nat} (h : i < k) : (pre ++ List.replicate k x).reverse.getD i 0 = x := by
  rw [List.reverse_append, List.reverse_replicate]
  simp [List.getD_eq_getElem?_getD, List.getElem?_append, h]

section
variable {prog : Program} {w : World} {A : Around} {s₀ s s' : Shared} {W Wc : List Addr} {mg mb : Str → Option Value} {genv : Env} {L l It : Addr} {vs : List Value} {is full : List Int} {cut : Bool} {p : GP} {m : Str → Option Value} {E : Value → Shared → Prop}

theorem GF.it (x : GF mg mb L l W vs m s) {h' : Heap} {tk : Nat} (hs : ∀ b o, b ≠ It → s.heap.get? b = some o → h'.get? b = some o) (hI : It ∈ W) (hIL : It ≠ L) : GF mg mb L l W vs m { s with heap := h', toks := tk } where
  gd := x.gd.off fun b o hb e => hs b o (fun q => hb (q ▸ hI)) e
  ns := x.ns.at' fun o e => hs L o (Ne.symm hIL) e
  grp := x.grp
  list := x.list.at fun o e => hs l o (fun q => x.lW (q ▸ hI)) e
  lW := x.lW
  L0 := x.L0

theorem g_glob (g : GE genv L) (x : GF mg mb L l W vs m s) {y : Str} {pos : Pos} {v : Value} {Q : Value → Shared → Prop} (hk : gSc.names.lookup y = some .globalImplicit) (hm : mg y = some v) (hQ : Q v s) (hd : (y == ("__debug__" : Str)) = false) : wpAny (model prog w) A (eval (.Name y pos) genv) Q E s :=
  Name_function_global g.kind ((g.kd y).trans hk) (loadGlobal_global (show s.heap.Ns genv.globals mg from g.glob ▸ x.gd.gd.g) hm hQ) hd

theorem gen_loop (g : GE genv L) {fs : List Frame} (hfs : splitAtGen fs = none) (hfg : fs.any Frame.guarded = false) (hsp : ∀ k c q, splitAtGen (Frame.ret k none false [] c q [] :: fs) = none) (hWc : ∀ a ∈ Wc, a ∈ W) (hLc : L ∉ Wc) (hIc : It ∉ Wc) (hIW : It ∈ W) (hIL : It ≠ L) (il : IntL vs is)
    (hh : (A.over (.forLoop (.Name "interval" p.b1) (.ref It) (gLoop p) [] genv) fs).handled = none)
    (ends : ∀ c n s₀ s f, (f = .next ∨ f = .ret .none) → gR L It cut n s₀ (.ok (.ret .none)) s → Seg (model prog w) A (gR L It cut) (gY L It Wc full cut) n s₀ c (.pure (.done f)) fs s) :
    ∀ (j i : Nat), i + j = is.length → ∀ (last : Option Int) (t k : Nat) (ys pre : List Int) (m : Str → Option Value) (s₀ s : Shared), gis last (k + 1) (is.drop i) = some ys → full = pre ++ ys → cut = decide (ys.length = k + 1) → m "last_interval" = some (lastV last t) →
      GMv L It s₀ s → GF mg mb L l W vs m s → s.heap.IsListIter It l i →
      Seg (model prog w) A (gR L It cut) (gY L It Wc full cut) ys.length s₀ (.forLoop (.Name "interval" p.b1) (.ref It) (gLoop p) [] genv) ((model prog w).den (.forLoop (.Name "interval" p.b1) (.ref It) (gLoop p) [] genv)) fs s := by
  intro j
  induction j with
  | zero =>
    intro i hi last t k ys pre m s₀ s hg hfull hcut hm mv gf hit
    have hi' : i = is.length := by omega
    rw [hi', List.drop_length] at hg
    have : ys = [] := by simpa [gis] using hg.symm
    subst this
    refine seg_forLoop rfl (fun v => rfl) (wpAny_pyNext_list_end hh hit gf.list.isList (by rw [List.getElem?_toArray]; exact List.getElem?_eq_none (by rw [il.len]; omega)) fun h' he => ?_)
    refine seg_block_nil (ends _ _ _ _ _ (.inl rfl) ⟨rfl, rfl, by rw [hcut]; simp, mv.step fun b o h1 h2 e => he b o h2 e⟩)
  | succ j ih =>
    intro i hi last t k ys pre m s₀ s hg hfull hcut hm mv gf hit
    have hlt : i < is.length := by omega
    rw [List.drop_eq_getElem_cons hlt] at hg
    obtain ⟨ti, hvi⟩ := il.at' i is[i] (by simp [hlt])
    generalize hx : is[i] = x at hg hvi
    refine seg_forLoop rfl (fun v => rfl) (wpAny_pyNext_list_item hit gf.list.isList (x := .int x ti) (by simpa using hvi) fun h1 hit1 hs1 => ?_)
    have gf1 : GF mg mb L l W vs m { s with heap := h1 } := gf.it (tk := s.toks) (fun b o hb e => (hs1.2 b hb).trans e) hIW hIL
    have mv1 : GMv L It s₀ { s with heap := h1 } := mv.step (tk := s.toks) fun b o _ hb e => (hs1.2 b hb).trans e
    refine wpAny_assign_Name (g_store g gf1 rfl (by decide) fun h2 gf2 hs2 => ?_)
    have mv2 : GMv L It s₀ { s with heap := h2, toks := s.toks + 1 } := mv1.step fun b o hb _ e => (hs2.2 b hb).trans e
    have hit2 : h2.IsListIter It l (i + 1) := hit1.at fun o e => (hs2.2 It hIL).trans e
    obtain ⟨tc, hcm⟩ := gf2.gd.gd.cm
    refine seg_execs_cons (seg_If (g_eq rfl (g_load g gf2 (y := "interval") rfl (if_pos rfl) ⟨rfl, g_glob g gf2 rfl hcm ⟨rfl, ?_⟩ rfl⟩ rfl)))
    by_cases h127 : x = 127
    · subst h127
      have : ys = [] := by simpa [gis] using hg.symm
      subst this
      rw [if_pos (by rfl)]
      refine seg_execs_cons (seg_wrap (wpAny_Return_none ?_))
      exact ends _ _ _ _ _ (.inr rfl) ⟨rfl, rfl, by rw [hcut]; simp, mv2⟩
    rw [if_neg (by simpa using h127)]
    refine seg_execs_nil ?_
    refine seg_execs_cons (seg_If (g_eq rfl (g_load g gf2 (y := "interval") rfl (if_pos rfl) ⟨rfl, wpAny_Constant_int ⟨rfl, ?_⟩⟩ rfl)))
    have gf3 := gf2.toks (s.toks + 1 + 1)
    have mv3 : GMv L It s₀ { s with heap := h2, toks := s.toks + 1 + 1 } := mv2.step fun b o _ _ e => e
    by_cases h0 : x = 0
    · subst h0
      rw [if_pos (by rfl)]
      cases last with
      | none => simp [gis] at hg
      | some z =>
        have : ys = List.replicate (k + 1) z := by simpa [gis] using hg.symm
        subst this
        have hm3 : (fun z' => if z' = ("interval" : Str) then some (Value.int 0 ti) else m z') "last_interval" = some (.int z t) := by
          exact (if_neg (by decide)).trans hm
        refine seg_execs_cons (seg_If ?_)
        refine wpAny_isTrue_Compare1 (g_load g gf3 (y := "last_interval") rfl hm3 (wpAny_Constant_none ?_) rfl) (notSetMarks rfl)
        refine is_none (wpAny_truthy_bool ?_)
        rw [if_neg (by simp)]
        refine seg_execs_nil (seg_execs_cons (seg_While fun q => ?_))
        rw [List.length_replicate]
        refine gen_while (m := fun z => if z = ("interval" : Str) then some (Value.int 0 ti) else m z) g (hsp _ _ _) (by simpa [Frame.guarded] using hfg) (by rw [hcut]; simp) hWc hLc hIc hm3 k s₀ _ (fun i hi => ?_) mv3 gf3 (let ⟨o, ho, _⟩ := hit2; ⟨o, ho⟩)
        rw [hfull]; exact rev_rep (by omega)
    · rw [if_neg (by simpa using h0)]
      refine seg_execs_nil ?_
      have : ∃ ys', gis (some x) k (is.drop (i + 1)) = some ys' ∧ ys = x :: ys' := by
        simp only [gis, if_neg h127, if_neg h0] at hg
        obtain ⟨ys', h1, h2⟩ := Option.map_eq_some_iff.mp hg
        exact ⟨ys', h1, h2.symm⟩
      obtain ⟨ys', hg', rfl⟩ := this
      rw [List.length_cons]
      refine seg_execs_cons (seg_Expr_Yield hfs rfl hfg (g_load g gf3 (y := "interval") rfl (if_pos rfl) ?_ rfl) (by rw [g.sc]; rfl) (by unfold interactive; rw [g.kind]; rfl))
      intro kap hk
      refine ⟨⟨ti, by rw [hfull, rev_head]⟩, mv3, let ⟨o, _, _, ho, _⟩ := gf3.ns; ⟨o, ho⟩, let ⟨o, ho, _⟩ := hit2; ⟨o, ho⟩, ?_⟩
      cases k with
      | zero =>
        have : ys' = [] := by simpa [gis] using hg'.symm
        subst this
        exact .inl ⟨rfl, by rw [hcut]; rfl⟩
      | succ k =>
        refine .inr fun s'' hs => hk .none s'' ?_
        have gf4 := gf3.off hs hWc hLc
        have hit4 : s''.heap.IsListIter It l (i + 1) := hit2.at fun o e => hs It o hIc e
        refine seg_execs_cons (seg_wrap (wpAny_Assign_Name (g_load g gf4 (y := "interval") rfl (if_pos rfl) (g_store g gf4 rfl (by decide) fun h5 gf5 hs5 => ?_) rfl)))
        refine seg_execs_nil (seg_again rfl ?_)
        refine ih (i + 1) (by omega) (some x) ti k ys' (pre ++ [x]) _ s'' _ hg' (by rw [hfull]; simp) (by rw [hcut]; simp) (by simp [lastV]) ((GMv.refl L It s'').step fun b o hb _ e => (hs5.2 b hb).trans e) gf5 (hit4.at fun o e => (hs5.2 It hIL).trans e)
end
end Mine
end

section
set_option maxRecDepth 100000
set_option linter.unusedVariables false
namespace Mine
open PySem PySem.W PyProof.Rows PySem.Calls
section
variable {prog : Program} {w : World} {A : Around} {s₀ s s' : Shared} {W Wc : List Addr} {mg mb : Str → Option Value} {genv : Env} {L l It : Addr} {vs : List Value} {is full : List Int} {cut : Bool} {p : GP} {m : Str → Option Value} {E : Value → Shared → Prop}

theorem gen_fresh (g : GE genv L) (hA : A.handled = none) (hWc : ∀ a ∈ Wc, a ∈ W) (hLc : L ∉ Wc) (hIc : It ∉ Wc) (hIW : It ∈ W) (hIL : It ≠ L) (il : IntL vs is) (hsz : s.heap.objs.size = It) {k : Nat} {ys : List Int} (hg : gis none (k + 1) is = some ys) (hcut : cut = decide (ys.length = k + 1))
    (gf : GF mg mb L l W vs m s) : GenState.Goes (model prog w) A (gR L It cut) (gY L It Wc ys cut) ys.length (.fresh (.func (gBody p) genv)) (.send .none) s := by
  refine ⟨rfl, seg_func (seg_execs_cons (seg_wrap (wpAny_Assign_Name (wpAny_Constant_none (g_store g gf rfl (by decide) fun h1 gf1 hs1 => ?_)))))⟩
  refine seg_execs_cons (seg_For (fun _ => rfl) (g_load g gf1 (y := "grouping") rfl gf1.grp (wpAny_pyIter_list gf1.list.isList fun q => ?_) rfl))
  have hI : h1.objs.size = It := by rw [hs1.1]; exact hsz
  have mv : GMv L It s { s with heap := h1, toks := s.toks + 1 } := (GMv.refl L It s).step fun b o hb _ e => (hs1.2 b hb).trans e
  have gf2 := gf1.it (It := It) (h' := h1.push { cls := .type "list_iterator", data := .fields #[.ref l, .int (0 : Nat) 0] }) (tk := s.toks + 1) (fun b o _ e => Heap.get?_push_of_some _ e) hIW hIL
  have mv2 : GMv L It s { s with heap := h1.push { cls := .type "list_iterator", data := .fields #[.ref l, .int (0 : Nat) 0] }, toks := s.toks + 1 } := mv.step fun b o _ _ e => Heap.get?_push_of_some _ e
  rw [show ({ s with heap := h1, toks := s.toks + 1 } : Shared).heap.objs.size = It from hI]
  refine gen_loop g (fs := [Frame.ret _ none false [] _ q []]) rfl rfl (fun _ _ _ => rfl) hWc hLc hIc hIW hIL il ?_ ?_ is.length 0 (by omega) none 0 k ys [] _ s _ (by simpa using hg) rfl hcut (if_pos rfl) mv2 gf2 (by rw [← hI]; exact ⟨_, Heap.get?_push_size _ rfl, rfl, rfl⟩)
  · simpa [Around.over, marksOver, Frame.marks, markOver] using hA
  · intro c n s₀ s f hf hR
    refine seg_leaf (.ok f) ?_
    rcases hf with rfl | rfl
    · exact seg_end (.ok (.ret .none)) hR
    · exact seg_end (.ok (.ret .none)) hR
end
end Mine
end

section
set_option maxRecDepth 100000
set_option linter.unusedVariables false
namespace Mine
open PySem PySem.W PyProof.Rows PySem.Calls
section
variable {prog : Program} {w : World} {A : Around} {s₀ s s' : Shared} {E : Value → Shared → Prop}

/-- the next of a generator whose end is a plain one -/
theorem next_gen {a : Addr} {g n : Nat} {gs : GenState} {Pe : Nat → Shared → Shared → Prop} {Y : Protocol} {Q : Option Value → Shared → Prop} (hh : A.handled = none)
    (hl : s.heap.NoLimit) (hroom : A.depth < recursionLimit) (hg : s.heap.IsGen a g) (hgs : s.gens[g]? = some gs)
    (hgo : gs.Goes (model prog w) A.in1 (fun n s₀ r s₁ => r = .ok (.ret .none) ∧ Pe n s₀ s₁) Y n (.send .none) (s.setGen g .running))
    (hY : ∀ v s₁ gs', gs'.bare = true → Y (n - 1) (s.setGen g .running) v s₁ (fun r' s'' => match n with
        | 0 => False
        | m + 1 => gs'.Goes (model prog w) A.in1 (fun n s₀ r s₁ => r = .ok (.ret .none) ∧ Pe n s₀ s₁) Y m r' s'') → Q (some v) (s₁.setGen g gs'))
    (hP : ∀ s₁, Pe n (s.setGen g .running) s₁ → ∀ h', (∀ b o, s₁.heap.get? b = some o → h'.get? b = some o) → Q none { s₁.setGen g .finished with heap := h' }) :
    wpAny (model prog w) A (pyNext (.ref a)) Q E s := by
  unfold pyNext
  refine wpAny_bind (wpAny_attempt (wpAny_callSpecial?_slot (name := Str.ofString "__next__") hg.typeIs slot_gen_next
    (wpAny_call_entry slot_gen_next hg.typeIs entry_gen_next ?_ (args_gen_next _))))
  show wpAny _ A.in1 (Builtin.Generator.genWake (.ref a) (.send .none)) _ _ s
  unfold Builtin.Generator.genWake
  refine wpAny_bind (wpAny_holding (wpAny_genNumber hg (wpAny_bind (wpAny_genState hgs ?_))))
  cases gs with
  | running => exact hgo.elim
  | finished => exact hgo.elim
  | _ =>
    refine wpAny_bind (wpAny_roomToWake hl hroom ?_)
    show wpAny _ A.in1 (.resume g (.send .none) [] _) _ _ s
    refine wpAny_resumeQ hgs hgo (fun x s₁ hx => ?_) (fun v s₁ gs' hb hv => ?_)
    · obtain ⟨rfl, hp⟩ := hx
      show wpAny _ A.in1 (newExc (.type "StopIteration") [] >>= _) _ _ _
      refine wpAny_bind ?_
      simp only [newExc, newTuple]
      refine wpAny_bind (wpAny_newObj_type ?_ (by size_fits))
      refine wpAny_bind (m := firstArgMember _ _) (wpAny_of_eq (a := Value.none) (by first | rfl | (simp only [firstArgMember]; rfl)) ?_)
      refine wpAny_newObj_type ?_ (by size_fits)
      simp only [raiseNew]
      refine wpAny_bind (wpAny_bind (wpAny_handled ?_))
      first | rw [show A.in1.handled = none from hh] | rw [hh]
      refine wpAny_throw ?_
      refine wpAny_bind (wpAny_isInstance (T := "StopIteration") (b := true) ⟨_, Heap.get?_push_size _ rfl, rfl⟩ isSubtype_stop ?_)
      exact wpAny_pure (hP s₁ hp _ fun b o hb => Heap.get?_push_of_some _ (Heap.get?_push_of_some _ hb))
    · exact wpAny_pure ⟨v, rfl, wpAny_pure (hY v s₁ gs' hb hv)⟩
end

section
variable {prog : Program} {w : World} {A : Around} {s₀ s s' : Shared} {P P' W W' Wf wr N : List Addr} {mg mb : Str → Option Value} {n : Nat} {env : Env} {ρ : Rho} {σ σ' : Stt} {r : Rec}

/-- watched objects have changed, and new ones are watched from here on -/
theorem Ex.step (x : Ex mg mb n A s₀ P W s env σ) (k : But wr s.heap s'.heap) (g : ∀ {q}, GOk q s₀.gens → GOk q s'.gens) (os : s'.os = s.os) (hP : ∀ a ∈ wr, a ∈ P) (he : ∀ a ∈ wr, a ∉ envA env) (h0 : ∀ a ∈ wr, s₀.heap.get? a = none)
    (lv : ∀ a ∈ wr, ∃ o, s'.heap.get? a = some o) (hN : ∀ a ∈ N, s.heap.get? a = none) (lN : ∀ a ∈ N, ∃ o, s'.heap.get? a = some o) : Ex mg mb n A s₀ (N ++ P) (N ++ W) s' env σ := by
  have hl : env.locals ∉ wr := fun q => he _ q (envA_loc env)
  have hc : ∀ y a, env.cells.lookup y = some a → a ∉ wr := fun y a h q => he _ q (envA_cel h)
  have hW : ∀ a ∈ wr, a ∈ W := fun a ha => x.p a (hP a ha)
  have off : OffW (N ++ W) s.heap s'.heap := fun b o hb e => k b o (fun q => hb (List.mem_append_right _ (hW b q))) e
  refine ⟨⟨x.cx.room, (x.cx.gd.more hN).off off, x.cx.S.but k hl hc, fun y d e hv => ?_, ⟨List.mem_append_right _ x.cx.w.loc, fun y a h => List.mem_append_right _ (x.cx.w.cel y a h)⟩, fun b hb => ?_⟩,
    ⟨fun b o e => k b o (fun q => by rw [h0 b q] at e; cases e) (x.base.keep b o e), g, os.trans x.base.os⟩, fun a ha => ?_, fun a ha => List.mem_append_right _ (x.pe a ha), x.en, fun y hy => ?_⟩
  · obtain ⟨v, h1, h2⟩ := x.cx.D y d e hv
    exact ⟨v, h1.but k hl hc, (h2.more hN).off off⟩
  · rcases List.mem_append.mp hb with q | q
    · exact lN b q
    · by_cases hw : b ∈ wr
      · exact lv b hw
      · obtain ⟨o, ho⟩ := x.cx.live b q; exact ⟨o, k b o hw ho⟩
  · rcases List.mem_append.mp ha with q | q
    · exact List.mem_append_left _ q
    · exact List.mem_append_right _ (x.p a q)
  · obtain ⟨l, vs, ds, o⟩ := x.own y hy
    refine ⟨l, vs, ds, o.rho, o.slot.but k hl hc, List.mem_append_right _ o.inW, fun q => ?_, o.new, o.list.at fun q e => k l q (fun z => o.notP (hP _ z)) e, (o.all.more hN).off off⟩
    rcases List.mem_append.mp q with q | q
    · obtain ⟨m, e⟩ := o.list
      rw [hN l q] at e; cases e
    · exact o.notP q
end
end Mine
end

section
set_option maxRecDepth 100000
set_option linter.unusedVariables false
namespace Mine
open PySem PySem.W PyProof.Rows PySem.Calls

/-- expressions that call none of the program's functions -/
noncomputable def PR : Nat → Rec
  | 0 => noR
  | k + 1 => ⟨evF (PR k), tsF (PR k), fun _ _ _ => none, fun _ _ => none⟩
theorem pr_sound {prog : Program} {w : World} {mg mb : Str → Option Value} {n : Nat} : ∀ k, Sound prog w mg mb n (PR k)
  | 0 => { ev := fun h => (nomatch h), ts := fun h => (nomatch h), clf := fun h => (nomatch h), cl := fun h => (nomatch h) }
  | k + 1 => { ev := fun h c => evF_ok (pr_sound k) h c, ts := fun h c => tsF_ok (pr_sound k) h c, clf := fun h => (nomatch h), cl := fun h => (nomatch h) }

section
variable {prog : Program} {w : World} {A : Around} {s : Shared} {mg mb : Str → Option Value} {E : Value → Shared → Prop}

/-- the generator function is called: a generator stands there, fresh -/
theorem gen_make (gd : Gd mg mb s.heap) (hroom : A.depth < recursionLimit) {a l : Addr} (ha : mg "_grouping_intervals" = some (.ref a)) {Q : Value → Shared → Prop}
    (hQ : ∀ p genv ga s', GE genv s.heap.objs.size → s'.heap.IsGen ga s.gens.size → s.heap.get? ga = none → ga ≠ s.heap.objs.size → s'.gens = s.gens.push (.fresh (.func (gBody p) genv)) → Kp s.heap s'.heap → s'.os = s.os →
      s'.heap.Ns s.heap.objs.size (fun x => [(("grouping" : Str), Value.ref l)].reverse.lookup x) → Q (.ref ga) s') : wpAny (model prog w) A (call (.ref a) [.ref l]) Q E s := by
  obtain ⟨p, hd⟩ := g_def
  obtain ⟨a', o, params, pm, code, doc, h1, h2, h3, h4, h5, h6, h7, h8, h9, h10, h11, h12⟩ := gd.fns _ _ _ _ hd
  rw [ha] at h1; cases h1
  refine wpAny_call (codeAny_call_generator hroom h2 h3 rfl rfl rfl h4 ?_)
  rw [h5 [.ref l] rfl]
  refine wpAny_pure ?_
  refine wpAny_newFunctionEnv (show ∀ x ∈ gSc.names, x.2 ≠ .cell by decide) (fun x hx => ?_) (fun h' hn hs => ⟨?_, ?_⟩) rfl
  · rw [List.mem_singleton.mp hx]; rfl
  · exact gd.lim.keeps fun b o e => hs.extBut b o (Nat.ne_of_lt (Heap.lt_size e)) (Heap.get?_push_of_some _ e)
  · have kp : Kp s.heap h' := fun b o e => hs.extBut b o (Nat.ne_of_lt (Heap.lt_size e)) (Heap.get?_push_of_some _ e)
    have hsz : h'.objs.size = s.heap.objs.size + 1 := by rw [hs.1, Heap.size_push]
    refine hQ p _ _ _ ⟨rfl, rfl, rfl, rfl, rfl⟩ ⟨_, _, _, Heap.get?_push_size _ rfl, rfl, rfl, rfl⟩ ?_ ?_ rfl (fun b o e => Heap.get?_push_of_some _ (kp b o e)) rfl (hn.push _)
    · show s.heap.get? h'.objs.size = none
      cases e : s.heap.get? h'.objs.size with
      | none => rfl
      | some o => exact absurd (Heap.lt_size e) (by rw [hsz]; exact Nat.not_lt_of_le (Nat.le_succ _))
    · show h'.objs.size ≠ s.heap.objs.size
      rw [hsz]; exact Nat.succ_ne_self _
end
end Mine
end

section
set_option maxRecDepth 100000
set_option linter.unusedVariables false
namespace Mine
open PySem PySem.W PyProof.Rows PySem.Calls

set_option genInjectivity false in
set_option genSizeOf false in
structure SP where
  (a1 a2 a3 b1 b2 b3 b4 b5 c1 c2 c3 c4 c5 c6 c7 d1 d2 d3 d4 d5 d6 d7 d8 d9 d10 d11 d12 d13 e1 e2 : Pos)
  (k1 k2 : Nat)
noncomputable def sTest (p : SP) : Expr := .Compare (.Call (.Name "len" p.c1) [.Name "sums" p.c2] [] p.c3) [.Eq] [.Constant (.int 6) p.k1 p.c4] p.c5
noncomputable def sVal (p : SP) : Expr := .BinOp (.Name "size" p.d3) .Add (.Call (.Name "sum" p.d4) [.Subscript (.Name "sums" p.d5) (.Slice (some (.UnaryOp .USub (.Constant (.int 1) p.k2 p.d6) p.d7)) none none p.d8) p.d9] [] p.d10) p.d11
noncomputable def sLoop (p : SP) : List Stmt := [.If (sTest p) [.Break p.c6] [] p.c7,
  .Expr (.Call (.Attribute (.Name "sums" p.d1) "append" p.d2) [sVal p] [] p.d12) p.d13]
noncomputable def sBody (p : SP) : List Stmt := [.Assign [.Name "sums" p.a1] (.List [] p.a2) p.a3,
  .For (.Name "size" p.b1) (.Call (.Name "_grouping_intervals" p.b2) [.Name "row" p.b3] [] p.b4) (sLoop p) [] p.b5,
  .Return (some (.Name "sums" p.e1)) p.e2]
noncomputable def sSc : Scope := { kind := .function, names := [("row", .local), ("sums", .local), ("size", .local), ("_grouping_intervals", .globalImplicit), ("len", .globalImplicit), ("sum", .globalImplicit)], isGenerator := false, isCoroutine := false, more := [] }
theorem s_def : ∃ p : SP, defOf "_law_sums" = some ([("row" : Str)], sSc, sBody p) ∧ p.d2.endLine = p.d12.line := ⟨⟨_, _, _, _, _, _, _, _, _, _, _, _, _, _, _, _, _, _, _, _, _, _, _, _, _, _, _, _, _, _, _, _⟩, rfl, rfl⟩

theorem s_test {p : SP} {ρ : Rho} {xs : List D} (h : ρ.lookup ("sums" : Str) = some (.list xs)) (hl : xs.length ≤ 7) : tsF (PR 3) sSc ρ (sTest p) = some (decide (xs.length = 6)) := by
  have e1 : (PR 2).ev sSc ρ (.Name "sums" p.c2) = some (.list xs) := by
    rw [show (PR 2).ev = evF (PR 1) from rfl]
    (unfold evF; try dsimp only); rw [if_pos (by decide)]; exact h
  have e2 : (PR 3).ev sSc ρ (.Call (.Name "len" p.c1) [.Name "sums" p.c2] [] p.c3) = some (.int xs.length) := by
    rw [show (PR 3).ev = evF (PR 2) from rfl]
    (unfold evF; dsimp only; unfold callF; dsimp only); rw [if_pos (by decide)]
    rw [evs_one rfl e1]
    simp only [Option.bind_eq_bind, Option.bind_some, pbuiltin, if_true]
    rw [if_pos (show xs.length ≤ 1000 by omega)]
  have e3 : (PR 3).ev sSc ρ (.Constant (.int 6) p.k1 p.c4) = some (.int 6) := rfl
  show ((PR 3).ev sSc ρ _).bind (fun a => ((PR 3).ev sSc ρ _).bind fun b => pcmp .Eq a b) = _
  rw [e2, e3]
  show some ((xs.length : Int) == 6) = _
  congr 1
  by_cases h6 : xs.length = 6
  · rw [h6]; rfl
  · rw [decide_eq_false h6]
    simp only [beq_eq_false_iff_ne, ne_eq]
    omega

theorem cut_last : ∀ n, n ≤ 7 → cutAt (some (-1)) none none n = if n = 0 then [] else [n - 1] := by decide
theorem asInts_map : ∀ l : List Int, asInts (l.map .int) = some l
  | [] => rfl
  | x :: r => by simp only [List.map_cons, asInts]; rw [asInts_map r]; rfl

noncomputable def lastOr (l : List Int) : Int := (l.getLast?).getD 0
theorem s_val {p : SP} {ρ : Rho} {l : List Int} {y : Int} (h : ρ.lookup ("sums" : Str) = some (.list (l.map .int))) (hy : ρ.lookup ("size" : Str) = some (.int y)) (hl : l.length ≤ 7) : evF (PR 5) sSc ρ (sVal p) = some (.int (y + lastOr l)) := by
  have e1 : (PR 3).ev sSc ρ (.Name "sums" p.d5) = some (.list (l.map .int)) := by
    rw [show (PR 3).ev = evF (PR 2) from rfl]
    (unfold evF; try dsimp only); rw [if_pos (by decide)]; exact h
  have e0 : (PR 5).ev sSc ρ (.Name "size" p.d3) = some (.int y) := by
    rw [show (PR 5).ev = evF (PR 4) from rfl]
    (unfold evF; try dsimp only); rw [if_pos (by decide)]; exact hy
  have e2 : (PR 3).ev sSc ρ (.UnaryOp .USub (.Constant (.int 1) p.k2 p.d6) p.d7) = some (.int (-1)) := rfl
  have e3 : (PR 4).ev sSc ρ (.Subscript (.Name "sums" p.d5) (.Slice (some (.UnaryOp .USub (.Constant (.int 1) p.k2 p.d6) p.d7)) none none p.d8) p.d9) = some (.list ((l.getLast?.toList).map .int)) := by
    rw [show (PR 4).ev = evF (PR 3) from rfl]
    (unfold evF; dsimp only; rw [if_pos (show isSliceE _ = true from rfl)]; unfold cutF; simp only [e1, evOpt, e2, Option.bind_eq_bind, Option.bind_some])
    rw [if_pos (by decide)]
    simp only [Option.bind_some, pslice]
    rw [if_neg (by decide), if_pos (by simp; omega), List.length_map, cut_last _ hl]
    congr 2
    rcases List.eq_nil_or_concat l with rfl | ⟨l', b, rfl⟩
    · rfl
    · simp
  have e4 : (PR 5).ev sSc ρ (.Call (.Name "sum" p.d4) [.Subscript (.Name "sums" p.d5) (.Slice (some (.UnaryOp .USub (.Constant (.int 1) p.k2 p.d6) p.d7)) none none p.d8) p.d9] [] p.d10) = some (.int (lastOr l)) := by
    rw [show (PR 5).ev = evF (PR 4) from rfl]
    (unfold evF; dsimp only; unfold callF; dsimp only); rw [if_pos (by decide)]
    rw [evs_one rfl e3]
    simp only [Option.bind_eq_bind, Option.bind_some, pbuiltin]
    rw [if_neg (by decide), if_pos trivial, if_pos (by cases l.getLast? <;> simp), asInts_map]
    simp only []
    cases h : l.getLast? <;> simp [lastOr, h]
  unfold sVal evF
  simp only [e0, e4, Option.bind_eq_bind, Option.bind_some]
  rfl

theorem sumsFrom_snoc : ∀ (zs : List Int) (a y : Int), sumsFrom a (zs ++ [y]) = sumsFrom a zs ++ [y + ((sumsFrom a zs).getLast?).getD a]
  | [], a, y => rfl
  | z :: zs, a, y => by
    simp only [List.cons_append, sumsFrom]
    rw [sumsFrom_snoc zs (z + a) y]
    cases h : sumsFrom (z + a) zs with
    | nil => simp
    | cons c cs =>
      rw [List.getLast?_cons_cons, List.getLast?_eq_some_getLast (by simp : c :: cs ≠ [])]; rfl
theorem sumsFrom_len : ∀ (zs : List Int) (a : Int), (sumsFrom a zs).length = zs.length
  | [], _ => rfl
  | z :: zs, a => by simp only [sumsFrom, List.length_cons]; rw [sumsFrom_len zs]
theorem gis_len : ∀ (k : Nat) (last : Option Int) (xs ys : List Int), gis last k xs = some ys → ys.length ≤ k
  | 0, _, _, _, h => by simp [gis] at h; subst h; simp
  | k + 1, _, [], _, h => by simp [gis] at h; subst h; simp
  | k + 1, last, x :: xs, ys, h => by
    simp only [gis] at h
    split at h
    · cases h; simp
    · split at h
      · obtain ⟨l, _, rfl⟩ := Option.map_eq_some_iff.mp h; simp
      · obtain ⟨l, h1, rfl⟩ := Option.map_eq_some_iff.mp h
        have := gis_len k _ _ _ h1
        simp; omega
/-- one more asked for -/
theorem gis_more : ∀ (k : Nat) (last : Option Int) (xs ys : List Int), gis last (k + 1) xs = some ys → gis last k xs = some (ys.take k)
  | 0, _, _, _, h => by simp [gis]
  | k + 1, _, [], _, h => by simp [gis] at h ⊢; exact h
  | k + 1, last, x :: xs, ys, h => by
    unfold gis at h ⊢
    split
    · rename_i hx
      rw [if_pos hx] at h; cases h; rfl
    · rename_i hx
      rw [if_neg hx] at h
      split
      · rename_i h0
        rw [if_pos h0] at h
        obtain ⟨l, h1, rfl⟩ := Option.map_eq_some_iff.mp h
        rw [h1]; simp [List.take_replicate]
      · rename_i h0
        rw [if_neg h0] at h
        obtain ⟨l, h1, rfl⟩ := Option.map_eq_some_iff.mp h
        rw [gis_more k _ _ _ h1]; simp
theorem gis_some : ∀ (k : Nat) (xs : List Int) (x : Int), ∃ zs, gis (some x) k xs = some zs
  | 0, _, _ => ⟨[], by simp [gis]⟩
  | k + 1, [], _ => ⟨[], by simp [gis]⟩
  | k + 1, y :: ys, x => by
    simp only [gis]
    split
    · exact ⟨_, rfl⟩
    · split
      · exact ⟨_, rfl⟩
      · obtain ⟨zs, h⟩ := gis_some k ys y
        rw [h]; exact ⟨_, rfl⟩
theorem gis_up (k : Nat) (xs ys : List Int) (h : gis none (k + 1) xs = some ys) : ∃ zs, gis none (k + 2) xs = some zs := by
  cases xs with
  | nil => exact ⟨[], by simp [gis]⟩
  | cons x xs =>
    unfold gis at h ⊢
    split
    · exact ⟨_, rfl⟩
    · rename_i hx
      rw [if_neg hx] at h
      split
      · rename_i h0
        rw [if_pos h0] at h
        cases h
      · obtain ⟨zs, h⟩ := gis_some (k + 1) xs x
        rw [h]; exact ⟨_, rfl⟩
end Mine
end

section
set_option maxRecDepth 100000
set_option linter.unusedVariables false
namespace Mine
open PySem PySem.W PyProof.Rows PySem.Calls
section
variable {prog : Program} {w : World} {A : Around} {s₀ s s' : Shared} {P P' W W' Wf wr fp : List Addr} {mg mb : Str → Option Value} {n : Nat} {env : Env} {ρ : Rho} {σ σ' : Stt} {r : Rec}

/-- a function of the program is entered -/
theorem enter_ok {f : Str} {ps : List Str} {sc : Scope} {body : List Stmt} {as : List D} {vs : List Value} {a : Addr} (hf : ¬ f = "_grouping_intervals") (hd : defOf f = some (ps, sc, body)) (hl : ps.length = as.length)
    (ha : mg f = some (.ref a)) (rm : Room (n + 1) A) (gd : GdW mg mb W s.heap) (lv : Live W s.heap) (ia : IsAll W s.heap vs as) {Q E : Value → Shared → Prop}
    (h : ∀ env s₁ E', env.scope = sc → env.frame = some env.locals → env.locals = s.heap.objs.size → Ex mg mb n (A.deeper env) s (envA env ++ W) (envA env ++ W) s₁ env ⟨(ps.zip as).reverse, none⟩ →
      wpAny (model prog w) (A.deeper env) (execs body env) (fun f s' => Q (match f with | .ret v => v | _ => .none) s') E' s₁) : wpAny (model prog w) A (call (.ref a) vs) Q E s := by
  obtain ⟨a', o, params, pm, code, doc, h1, h2, h3, h4, h5, h6, h7, h8, h9, h10, h11, h12⟩ := gd.gd.fns f ps sc body hd
  rw [ha] at h1; cases h1
  have hvl : vs.length = ps.length := by rw [ia.length, hl]
  generalize hfd : docDef f params body sc pm code doc = fd at h3 h5
  have hsc : fd.scope = sc := by rw [← hfd]; rfl
  refine wpAny_call ?_
  have hkd : ∀ x ∈ ps, sc.names.lookup x = some .local ∨ sc.names.lookup x = some .cell := fun x hx => by
    have := h6 x hx
    unfold isOwnVar kindIn at this
    split at this
    · rename_i e; exact .inl e
    · rename_i e; exact .inr e
    · cases this
  refine codeAny_call_cells (body := body) (binds := ps.zip vs) (by have := rm.d; omega) h2 h3 gd.gd.lim (by rw [← hfd]; exact h4) (by rw [← hfd]; rfl) (h5 vs hvl) (by rw [← hfd]; rfl) ?_ ?_ (by rw [hsc]; exact h8) (by rw [hsc, h9]; simpa using hf) (by rw [hsc]; exact h10)
  · rintro ⟨x, v⟩ hx
    have hx : x ∈ ps := (List.of_mem_zip hx).1
    rw [hsc]
    rcases hkd x hx with e | e
    · exact .inl e
    · obtain ⟨c, hc⟩ := cellsFrom_some sc.names (s.heap.objs.size + 1) [] (lookup_mem e)
      exact .inr ⟨e, by rw [hc]; rfl⟩
  intro s₁ x
  generalize henv : callEnvC fd s.heap.objs.size a = env at x ⊢
  have e1 : env.scope = sc := by rw [← henv, ← hfd]; rfl
  have e2 : env.locals = s.heap.objs.size := by rw [← henv]; rfl
  have e3 : env.cells = cellsFrom (s.heap.objs.size + 1) sc.names [] := by rw [← henv, ← hfd]; rfl
  have e4 : env.globals = mainGlobals := by rw [← henv, ← hfd]; rfl
  have e5 : env.builtins = builtinsNs := by rw [← henv, ← hfd]; rfl
  have kd : ∀ x, env.kindOf x = sc.names.lookup x := fun x => by show env.scope.names.lookup x = _; rw [e1]
  have g : Grow s s₁ := by
    obtain ⟨h', tk, e⟩ := x.toInCall.same
    refine ⟨x.toInCall.keep, fun q => by rw [e]; exact q, by rw [e]⟩
  have nd : (env.cells.map (·.1)).Nodup := by rw [e3]; exact cellsFrom_keys _ _ _ h11 (by simp) (by simp)
  have new : ∀ a ∈ envA env, s.heap.get? a = none := by
    intro b hb
    have big : s.heap.objs.size ≤ b := by
      rcases List.mem_cons.mp hb with e | hb
      · rw [e, e2]; exact Nat.le_refl _
      · obtain ⟨⟨z, c⟩, hz, rfl⟩ := List.mem_map.mp hb
        have := x.above z c hz
        rw [e2] at this; exact Nat.le_of_lt this
    cases e : s.heap.get? b with
    | none => rfl
    | some o => exact absurd (Heap.lt_size e) (Nat.not_lt_of_le big)
  have lvE : ∀ a ∈ envA env, ∃ o, s₁.heap.get? a = some o := by
    intro b hb
    rcases List.mem_cons.mp hb with e | hb
    · obtain ⟨o, _, _, ho, _⟩ := x.toInCall.ns; rw [e]; exact ⟨o, ho⟩
    · obtain ⟨⟨z, c⟩, hz, rfl⟩ := List.mem_map.mp hb
      obtain ⟨o, ho, _⟩ := x.cell z c (mem_lookup_nodup nd hz); exact ⟨o, ho⟩
  have ia1 : IsAll (envA env ++ W) s₁.heap vs as := (ia.more new).keep g.keep
  have S : EnvS s₁.heap env := by
    refine ⟨by rw [e1]; exact h10, e4, e5, ⟨_, x.toInCall.ns⟩, fun z hz => ?_, fun y z c hy hz => pairwise_inj x.apart (lookup_mem hy) (lookup_mem hz)⟩
    rw [kd z] at hz
    rcases hz with hz | hz
    · obtain ⟨c, hc⟩ := cellsFrom_some sc.names (s.heap.objs.size + 1) [] (lookup_mem hz)
      exact ⟨c, _, by rw [e3]; exact hc, x.cell z c (by rw [e3]; exact hc)⟩
    · exact absurd rfl (h12 _ (lookup_mem hz))
  have hzk : ((ps.zip vs).map (·.1)).Nodup := by rw [zip_keys hvl.symm]; exact h7
  have D : EnvD (envA env ++ W) s₁.heap env (ps.zip as).reverse := by
    intro z dz hz hv
    have hm : (z, dz) ∈ ps.zip as := List.mem_reverse.mp (lookup_mem hz)
    obtain ⟨v, hvm, iv⟩ := zip_both ia1 hm
    refine ⟨v, ?_, iv⟩
    have hz : z ∈ ps := (List.of_mem_zip hm).1
    rcases hkd z hz with e | e
    · exact .inl ⟨(kd z).trans e, _, x.toInCall.ns, bindL_at ((kd z).trans e) _ _ hzk hvm⟩
    · obtain ⟨c, hc⟩ := cellsFrom_some sc.names (s.heap.objs.size + 1) [] (lookup_mem e)
      have hc : env.cells.lookup z = some c := by rw [e3]; exact hc
      have hi := x.cell z c hc
      rw [bindC_at (by rw [kd z, e]; simp) _ _ hzk hvm] at hi
      exact .inr ⟨.inl ((kd z).trans e), c, hc, hi⟩
  have cx : Cx mg mb n (A.deeper env) (envA env ++ W) s₁ env (ps.zip as).reverse :=
    ⟨rm.deeper env, (gd.more new).keep g.keep, S, D, ⟨List.mem_append_left _ (envA_loc env), fun y c hc => List.mem_append_left _ (envA_cel hc)⟩, fun b hb => by
      rcases List.mem_append.mp hb with q | q
      · exact lvE b q
      · exact lv.keep g.keep b q⟩
  have ex : Ex mg mb n (A.deeper env) s (envA env ++ W) (envA env ++ W) s₁ env ⟨(ps.zip as).reverse, none⟩ := ⟨cx, g, fun _ h => h, fun b hb => List.mem_append_left _ hb, new, fun y hy => by cases hy⟩
  exact h env s₁ _ e1 (by rw [← henv, ← hfd]; rfl) e2 ex
end
end Mine
end

section
set_option maxRecDepth 100000
set_option linter.unusedVariables false
namespace Mine
open PySem PySem.W PyProof.Rows PySem.Calls

theorem set_gok {q : Prop × (Nat → GenState → Prop)} {s : Shared} {a0 : Array GenState} {g : Nat} {z y gs : GenState} (h0 : GOk q a0) (h : GOk q s.gens) (hg : a0[g]? = none) (hgs : s.gens[g]? = some gs) (hy : y.bare = true) : GOk q ((s.setGen g z).setGen g y).gens := by
  refine ⟨fun hq => AllBare.moved (h.1 hq) (GenOnlyQ.of ((GenOnly.setGen s g z).trans (GenOnly.setGen _ g y)) (setGen_self (gs := z) (setGen_self hgs)) hy), fun i x hq => ?_⟩
  have hi : i ≠ g := fun e => by have := h0.2 i x hq; rw [e, hg] at this; cases this
  exact (((GenOnly.setGen s g z).trans (GenOnly.setGen _ g y)).2 i hi).trans (h.2 i x hq)

section
variable {prog : Program} {w : World} {A : Around} {s₀ s s' : Shared} {P0 Wc : List Addr} {mg mb : Str → Option Value} {n : Nat} {env : Env} {σ σ' : Stt} {L It ga : Addr} {g : Nat} {full : List Int} {cut : Bool} {gs gs' : GenState} {j : Nat}

/-- what stands between two turns of a loop over the generator -/
structure GI (mg mb : Str → Option Value) (n : Nat) (A : Around) (s₀ : Shared) (P0 Wc : List Addr) (env : Env) (L It : Addr) (σ : Stt) (s : Shared) : Prop where
  ex : (Ex mg mb n A s₀ (L :: P0) (L :: Wc) s env σ ∧ s.heap.get? It = none) ∨ Ex mg mb n A s₀ (It :: L :: P0) (It :: L :: Wc) s env σ

structure GS (s₀ : Shared) (Wc : List Addr) (env : Env) (L It ga : Addr) (g : Nat) : Prop where
  ga : ga ∉ It :: L :: Wc
  Le : L ∉ envA env
  Ie : It ∉ envA env
  L0 : s₀.heap.get? L = none
  I0 : s₀.heap.get? It = none
  g0 : s₀.gens[g]? = none
  Lc : L ∉ Wc
  Ic : It ∉ Wc
  IL : It ≠ L

theorem GI.next (x : GI mg mb n A s₀ P0 Wc env L It σ s) (S : GS s₀ Wc env L It ga g) {s₁ : Shared} (hgs : s.gens[g]? = some gs) (mv : GMv L It (s.setGen g .running) s₁) (lL : ∃ o, s₁.heap.get? L = some o) (lI : ∃ o, s₁.heap.get? It = some o) (hb : gs'.bare = true) :
    Ex mg mb n A s₀ (It :: L :: P0) (It :: L :: Wc) (s₁.setGen g gs') env σ := by
  obtain ⟨h', tk, e⟩ := mv.is
  have gk : ∀ {q}, (GOk q s₀.gens → GOk q s.gens) → GOk q s₀.gens → GOk q (s₁.setGen g gs').gens := by
    intro q hb0 h0
    rw [e]
    exact set_gok (z := .running) h0 (hb0 h0) S.g0 hgs hb
  have os : (s₁.setGen g gs').os = s.os := by rw [e]; rfl
  rcases x.ex with ⟨x, hI⟩ | x
  · refine Ex.step (N := [It]) (wr := [L]) x (fun b o hb ho => mv.keep b o (fun q => hb (by simp [q])) (fun q => by rw [q, hI] at ho; cases ho) ho) (gk x.base.gens) os (fun a ha => by simp at ha; simp [ha]) (fun a ha => by simp at ha; rw [ha]; exact S.Le) (fun a ha => by simp at ha; rw [ha]; exact S.L0) (fun a ha => by simp at ha; rw [ha]; exact lL)
      (fun a ha => by simp at ha; rw [ha]; exact hI) fun a ha => by simp at ha; rw [ha]; exact lI
  · refine Ex.step (N := []) (wr := [It, L]) x (fun b o hb ho => mv.keep b o (fun q => hb (by simp [q])) (fun q => hb (by simp [q])) ho) (gk x.base.gens) os (fun a ha => ?_) (fun a ha => ?_) (fun a ha => ?_) (fun a ha => ?_) (fun a ha => by cases ha) fun a ha => by cases ha
    · simp at ha; rcases ha with h | h <;> simp [h]
    · simp at ha; rcases ha with h | h <;> rw [h]
      · exact S.Ie
      · exact S.Le
    · simp at ha; rcases ha with h | h <;> rw [h]
      · exact S.I0
      · exact S.L0
    · simp at ha; rcases ha with h | h <;> rw [h]
      · exact lI
      · exact lL

/-- a block's own steps leave the generator's things -/
theorem stp_of (S : GS s₀ Wc env L It ga g) {s₁ s₂ : Shared} {W' : List Addr} (y : ExP mg mb n A s₀ (It :: L :: P0) (It :: L :: Wc) s₁ env σ W' s₂) : Stp Wc s₁ s₂ := by
  intro b o hb e
  refine y.mv b o ?_ e
  by_cases hI : b = It
  · exact .inr ⟨by simp [hI], hI ▸ S.Ie⟩
  · by_cases hL : b = L
    · exact .inr ⟨by simp [hL], hL ▸ S.Le⟩
    · left; simp [hI, hL, hb]
end
end Mine
end

section
set_option maxRecDepth 100000
set_option linter.unusedVariables false
namespace Mine
open PySem PySem.W PyProof.Rows PySem.Calls

theorem ints_of {W : List Addr} {h : Heap} : ∀ {ds : List D} {vs : List Value} {is : List Int}, IsAll W h vs ds → asInts ds = some is → IntL vs is := by
  intro ds
  induction ds with
  | nil => intro vs is x e; cases x; cases e; exact ⟨rfl, fun i x h => by simp at h⟩
  | cons d ds ih =>
    intro vs is x e
    cases x with | cons iv r =>
    cases d <;> first | (simp [asInts] at e; done) | skip
    rename_i z
    simp only [asInts, Option.map_eq_some_iff] at e
    obtain ⟨is', e, rfl⟩ := e
    have y := ih r e
    cases iv with | int _ t =>
    refine ⟨by simp [y.len], fun i x hx => ?_⟩
    cases i with
    | zero => simp at hx; subst hx; exact ⟨t, rfl⟩
    | succ i => simp at hx; obtain ⟨u, hu⟩ := y.at' i x hx; exact ⟨u, by simpa using hu⟩

section
variable {prog : Program} {w : World} {A : Around} {s₀ s s' : Shared} {P0 Wc : List Addr} {mg mb : Str → Option Value} {n : Nat} {env : Env} {σ σ' : Stt} {L It ga : Addr} {g : Nat} {full : List Int} {cut : Bool} {gs gs' : GenState} {j : Nat}

/-- the loop is left: the generator's things are no more watched -/
theorem GI.done (x : GI mg mb n A s₀ P0 Wc env L It σ s) (S : GS s₀ Wc env L It ga g) (hPW : ∀ a ∈ P0, a ∈ Wc) (hPe : ∀ a ∈ envA env, a ∈ P0) {s₁ : Shared} (hgs : s.gens[g]? = some gs) (mv : GMv L It (s.setGen g .running) s₁)
    {h' : Heap} (kh : ∀ b o, s₁.heap.get? b = some o → h'.get? b = some o) : Ex mg mb n A s₀ P0 Wc { s₁.setGen g .finished with heap := h' } env σ := by
  have key : ∃ Pb Wb N, Ex mg mb n A s₀ Pb Wb s env σ ∧ (∀ a ∈ Wc, a ∈ Wb) ∧ (∀ a ∈ Wb, a ∈ N ∨ a ∈ Wc) ∧ (∀ a ∈ P0, a ∈ Pb) ∧ (∀ a ∈ N, a ∈ Pb) ∧ (∀ a ∈ N, a = L ∨ a = It) ∧ But N s.heap s₁.heap := by
    rcases x.ex with ⟨y, hI⟩ | y
    · refine ⟨_, _, [L], y, fun a h => List.mem_cons_of_mem _ h, fun a h => ?_, fun a h => List.mem_cons_of_mem _ h, fun a h => by rw [List.mem_singleton.mp h]; exact List.mem_cons_self, fun a h => .inl (List.mem_singleton.mp h),
        fun b o hb e => mv.keep b o (fun q => hb (by simp [q])) (fun q => by rw [q, hI] at e; cases e) e⟩
      rcases List.mem_cons.mp h with q | q
      · exact .inl (by simp [q])
      · exact .inr q
    · refine ⟨_, _, [It, L], y, fun a h => List.mem_cons_of_mem _ (List.mem_cons_of_mem _ h), fun a h => ?_, fun a h => List.mem_cons_of_mem _ (List.mem_cons_of_mem _ h), fun a h => ?_, fun a h => ?_,
        fun b o hb e => mv.keep b o (fun q => hb (by simp [q])) (fun q => hb (by simp [q])) e⟩
      · rcases List.mem_cons.mp h with q | q
        · exact .inl (by simp [q])
        · rcases List.mem_cons.mp q with q | q
          · exact .inl (by simp [q])
          · exact .inr q
      · simp at h; rcases h with h | h <;> simp [h]
      · simp at h; exact h.symm
  obtain ⟨Pb, Wb, N, y, h1, h2, h3, h4, h5, h6⟩ := key
  have k : But N s.heap h' := fun b o hb e => kh b o (h6 b o hb e)
  have hnc : ∀ a ∈ Wc, a ∉ N := fun a ha q => by
    rcases h5 a q with e | e
    · exact S.Lc (e ▸ ha)
    · exact S.Ic (e ▸ ha)
  have hne : ∀ a ∈ envA env, a ∉ N := fun a ha => hnc a (hPW a (hPe a ha))
  have hn0 : ∀ a ∈ N, s₀.heap.get? a = none := fun a ha => by
    rcases h5 a ha with e | e
    · rw [e]; exact S.L0
    · rw [e]; exact S.I0
  obtain ⟨h1', tk, e⟩ := mv.is
  have off : OffW Wb s.heap h' := fun b o hb e => k b o (fun q => hb (y.p b (h4 b q))) e
  refine ⟨y.cx.drop2 (N := N) k (fun a ha => y.p a (h4 a ha)) h1 ⟨hPW _ (hPe _ (envA_loc env)), fun z a hz => hPW _ (hPe _ (envA_cel hz))⟩ hnc,
    ⟨fun b o e => k b o (fun q => by rw [hn0 b q] at e; cases e) (y.base.keep b o e), fun {q} h0 => ?_, ?_⟩, hPW, hPe, y.en, fun z hz => ?_⟩
  · show GOk q (s₁.setGen g .finished).gens
    rw [e]
    exact set_gok (z := .running) h0 (y.base.gens h0) S.g0 hgs rfl
  · show (s₁.setGen g .finished).os = s₀.os
    rw [e]; exact y.base.os
  · obtain ⟨l, vs, ds, o⟩ := y.own z hz
    have hlN : l ∉ N := fun q => o.notP (h4 l q)
    refine ⟨l, vs, ds, o.rho, o.slot.but k (hne _ (envA_loc env)) (fun z a hz => hne _ (envA_cel hz)), (h2 l o.inW).resolve_left hlN, fun q => o.notP (h3 l q), o.new, o.list.at fun q e => k l q hlN e, (o.all.off off).sub h1⟩

theorem take_snoc {l : List Int} {j : Nat} {x : Int} (h : l[j]? = some x) : l.take (j + 1) = l.take j ++ [x] := by
  rw [List.take_add_one, h]; rfl

theorem sums_loop {p : SP} (hp : p.d2.endLine = p.d12.line) (hsc : env.scope = sSc) (S : GS s₀ Wc env L It ga g) (hPW : ∀ a ∈ P0, a ∈ Wc) (hPe : ∀ a ∈ envA env, a ∈ P0) (hfl : full.length ≤ 7) (hcut : cut = decide (full.length = 7))
    {ρ : Rho} (hρ : ρ.lookup ("sums" : Str) = some (.list [])) (x : GI mg mb n A s₀ P0 Wc env L It ⟨ρ, some "sums"⟩ s) (hgs : s.gens[g]? = some gs) (hgen : s.heap.IsGen ga g)
    (hgo : gs.Goes (model prog w) A.in1 (gR L It cut) (gY L It Wc full cut) full.length (.send .none) (s.setGen g .running)) {Q : Flow → Shared → Prop} {E' : Value → Shared → Prop}
    (hQ : ∀ s' ρ' P' W', (∀ a ∈ P0, a ∈ P') → Ex mg mb n A s₀ P' W' s' env ⟨ρ', some "sums"⟩ → ρ'.lookup ("sums" : Str) = some (.list ((sumsFrom 0 (full.take 6)).map .int)) → Q .next s') :
    codeAny (model prog w) A (.forLoop (.Name "size" p.b1) (.ref ga) (sLoop p) [] env) (fun r s' => match r with | .ok f => Q f s' | .error e => E' e s') s := by
  refine codeAny_forLoop_any (fun k si => ∃ j ρ' gs, j + k = 7 ∧ 1 ≤ k ∧ j ≤ full.length ∧ ρ'.lookup ("sums" : Str) = some (.list ((sumsFrom 0 (full.take j)).map .int)) ∧ GI mg mb n A s₀ P0 Wc env L It ⟨ρ', some "sums"⟩ si ∧ si.gens[g]? = some gs ∧ si.heap.IsGen ga g ∧
    gs.Goes (model prog w) A.in1 (gR L It cut) (gY L It Wc full cut) (full.length - j) (.send .none) (si.setGen g .running)) ?_ 7 ⟨0, ρ, gs, rfl, by omega, Nat.zero_le _, by simpa [sumsFrom] using hρ, x, hgs, hgen, hgo⟩
  clear x hgs hgen hgo hρ
  rintro k si ⟨j, ρ', gs, hk, hk1, hjl, hρ', x, hgs, hgen, hgo⟩
  have rm : Room n A := by rcases x.ex with ⟨y, _⟩ | y <;> exact y.cx.room
  have hlim : si.heap.NoLimit := by rcases x.ex with ⟨y, _⟩ | y <;> exact y.cx.gd.gd.lim
  have hbase : Grow s₀ si := by rcases x.ex with ⟨y, _⟩ | y <;> exact y.base
  generalize hn : full.length - j = m at hgo
  refine next_gen (Pe := fun n s₀ s₁ => n = 0 ∧ cut = false ∧ GMv L It s₀ s₁) (Y := gY L It Wc full cut) rm.h hlim (by have := rm.d; omega) hgen hgs hgo (fun v s₁ gs' hb hv => ?_) (fun s₁ hpe h' kh => ?_)
  · obtain ⟨⟨t, rfl⟩, mv, lL, lI, hkap⟩ := hv
    have hm : ∃ m', m = m' + 1 := by
      cases m with
      | succ m' => exact ⟨m', rfl⟩
      | zero =>
        exfalso
        rcases hkap with ⟨_, hc⟩ | hkap
        · rw [hcut] at hc
          have := of_decide_eq_true hc
          omega
        · exact hkap s₁ fun _ _ _ e => e
    obtain ⟨m', rfl⟩ := hm
    have hjlt : j < full.length := by omega
    have hv : full.reverse.getD (m' + 1 - 1) 0 = full[j] := by
      have e1 : m' + 1 - 1 = full.length - 1 - j := by omega
      rw [e1, List.getD_eq_getElem?_getD, List.getElem?_reverse (by omega)]
      have e2 : full.length - 1 - (full.length - 1 - j) = j := by omega
      rw [e2]; simp [hjlt]
    rw [hv]
    have x2 := x.next S hgs mv lL lI hb
    refine wpAny_of_eq (a := ()) rfl ?_
    refine wpAny_assign_Name (ex_store x2 (by rw [hsc]; decide) (fun e => absurd (Option.some.inj e) (by decide)) (.int full[j] t) _ _ fun s3 y3 => ?_)
    have hlk : List.lookup ("sums" : Str) ((("size" : Str), PyData.int full[j]) :: ρ') = some (.list ((sumsFrom 0 (full.take j)).map .int)) := (lookup_cons_ne (by decide)).trans hρ'
    have hlen : ((sumsFrom 0 (full.take j)).map PyData.int).length = j := by rw [List.length_map, sumsFrom_len, List.length_take]; omega
    obtain ⟨Wf, xf, hWf⟩ := y3.ex.release
    have ht := s_test (p := p) hlk (by rw [hlen]; omega)
    rw [hlen] at ht
    refine wpAny_execs_cons (wpAny_If ((pr_sound (prog := prog) (w := w) (mg := mg) (mb := mb) (n := n) 4).ts (b := decide (j = 6)) (show (PR 4).ts env.scope _ (sTest p) = _ from (by rw [hsc]; exact ht)) xf.cx _ _ fun s4 g4 => ?_))
    have x4 := y3.ex.grow g4
    by_cases hj6 : j = 6
    · rw [if_pos (by simpa using hj6)]
      refine wpAny_execs_cons (wpAny_Break ?_)
      refine hQ s4 _ _ _ (fun a ha => List.mem_cons_of_mem _ (List.mem_cons_of_mem _ ha)) x4 ?_
      rw [← hj6]; exact hlk
    · rw [if_neg (by simpa using hj6)]
      refine wpAny_execs_nil ?_
      have hval := s_val (p := p) (y := full[j]) hlk (by simp) (by rw [sumsFrom_len, List.length_take]; omega)
      have hsum : (sumsFrom 0 (full.take (j + 1))) = sumsFrom 0 (full.take j) ++ [full[j] + lastOr (sumsFrom 0 (full.take j))] := by
        rw [take_snoc (x := full[j]) (by simp), sumsFrom_snoc]; rfl
      refine wpAny_execs_cons (append_ok (pr_sound 5) (fl := .next) (σ' := ⟨(("sums" : Str), .list ((sumsFrom 0 (full.take (j + 1))).map .int)) :: (("size" : Str), PyData.int full[j]) :: ρ', some "sums"⟩) x4 ?_ _ _ fun s5 _ y5 => ?_)
      · rw [hsc]
        (unfold ex1; dsimp only; unfold appF; dsimp only [isName_name, Option.bind_some])
        rw [if_pos (by rw [hp]; simp only [beq_self_eq_true, Bool.and_true, Bool.and_eq_true, decide_eq_true_eq]; exact ⟨⟨⟨trivial, by decide⟩, trivial⟩, rfl⟩)]
        rw [hval]
        simp only [Option.bind_eq_bind, Option.bind_some]
        rw [if_pos (show freshScal _ (PyData.int _) = true from rfl), hlk]
        dsimp only
        rw [if_pos (by rw [hlen]; omega), hsum, List.map_append]
        rfl
      · refine wpAny_execs_nil ?_
        have yy := (y3.grow g4).trans y5
        have hst : Stp Wc (s₁.setGen g gs') s5 := stp_of S yy
        have hk' : ∀ s'', Stp Wc s₁ s'' → gs'.Goes (model prog w) A.in1 (gR L It cut) (gY L It Wc full cut) m' (.send .none) s'' := by
          rcases hkap with ⟨h0, hc⟩ | hkap
          · exfalso
            rw [hcut] at hc
            have := of_decide_eq_true hc
            omega
          · exact hkap
        have hgs5 : s5.gens[g]? = some gs' := by
          have := yy.gk (q := (False, fun i x => i = g ∧ x = gs')) ⟨fun q => q.elim, fun i x ⟨hi, hx⟩ => by rw [hi, hx]; exact setGen_self (by obtain ⟨h1, tk, e⟩ := mv.is; rw [e]; exact setGen_self hgs)⟩
          exact this.2 g gs' ⟨rfl, rfl⟩
        refine ⟨k - 1, by omega, j + 1, _, gs', by omega, by omega, by omega, ?_, ⟨.inr yy.ex⟩, hgs5, ?_, ?_⟩
        · simp
        · have hgc : ga ∉ It :: L :: Wc := S.ga
          simp only [List.mem_cons, not_or] at hgc
          obtain ⟨c1, c2, o, h1, h2⟩ := hgen
          exact ⟨c1, c2, o, hst ga _ hgc.2.2 (mv.keep ga _ hgc.2.1 hgc.1 h1), h2⟩
        · rw [show full.length - (j + 1) = m' by omega]
          exact hk' _ hst
  · obtain ⟨hm0, hc, mv⟩ := hpe
    subst hm0
    refine wpAny_execs_nil (hQ _ ρ' P0 Wc (fun _ h => h) (x.done S hPW hPe hgs mv kh) ?_)
    rw [hρ', List.take_of_length_le (by omega)]
    have : ¬ full.length = 7 := by rw [hcut] at hc; simpa using hc
    rw [List.take_of_length_le (by omega)]
end
end Mine
end

section
set_option maxRecDepth 100000
set_option linter.unusedVariables false
namespace Mine
open PySem PySem.W PyProof.Rows PySem.Calls
section
variable {prog : Program} {w : World} {A : Around} {s s' : Shared} {W : List Addr} {mg mb : Str → Option Value} {n : Nat}

theorem gens_fresh {a b : Shared} (g : Grow a b) : a.gens[b.gens.size]? = none := by
  cases e : a.gens[b.gens.size]? with
  | none => rfl
  | some x =>
    have := g.gens (q := (False, fun i x => a.gens[i]? = some x)) ⟨fun q => q.elim, fun i x h => h⟩
    have := this.2 _ _ e
    simp at this

theorem push_gok {q : Prop × (Nat → GenState → Prop)} {a : Array GenState} {x : GenState} (hb : x.bare = true) (h : GOk q a) : GOk q (a.push x) :=
  ⟨fun hq => (h.1 hq).push hb, fun i y hy => by
    have := h.2 i y hy
    have hi : i < a.size := by
      rcases Nat.lt_or_ge i a.size with z | z
      · exact z
      · rw [Array.getElem?_eq_none z] at this; cases this
    rw [Array.getElem?_push_lt hi]
    rw [Array.getElem?_eq_getElem hi] at this; exact this⟩

theorem sums_ok {as : List D} {d : D} {vs : List Value} {a : Addr} (h : pprim "_law_sums" as = some d) (ha : mg "_law_sums" = some (.ref a)) (rm : Room (n + 1) A) (gd : GdW mg mb W s.heap) (lv : Live W s.heap) (ia : IsAll W s.heap vs as) :
    Giv (model prog w) A W s (call (.ref a) vs) d := by
  intro Q E hQ
  unfold pprim at h
  rw [if_pos rfl] at h
  split at h
  rotate_left
  · cases h
  rename_i xs
  split at h
  rotate_left
  · cases h
  rename_i is his
  split at h
  rotate_left
  · cases h
  obtain ⟨ys, hys, rfl⟩ := Option.map_eq_some_iff.mp h
  obtain ⟨full, hfull⟩ := gis_up 5 _ _ hys
  have hys' : ys = full.take 6 := by
    have := gis_more 6 none is full hfull
    rw [hys] at this; injection this
  subst hys'
  have hfl : full.length ≤ 7 := gis_len _ _ _ _ hfull
  obtain ⟨p, hd, hp⟩ := s_def
  refine enter_ok (by decide) hd rfl ha rm gd lv ia fun env s₁ E' hsc hfr hloc x => ?_
  have x : Ex mg mb n (A.deeper env) s (envA env ++ W) (envA env ++ W) s₁ env ⟨[(("row" : Str), .list xs)], none⟩ := x
  refine wpAny_execs_cons (wpAny_Assign_Name (fresh_eval (pr_sound 2) (ρ := [(("row" : Str), .list xs)]) (d := .list []) rfl rfl x.cx _ _ fun D vs' ds s1 hdd g1 hD hl ial => ?_) rfl)
  cases hdd
  refine ex_own (σ := ⟨[(("row" : Str), .list xs)], none⟩) x g1 (by rw [hsc]; decide) hD hl ial _ _ fun s2 y2 => ?_
  obtain ⟨p2, hd2⟩ := g_def
  obtain ⟨ag, og, _, _, _, _, hag, hog, hdg, _⟩ := y2.ex.cx.gd.gd.fns _ _ _ _ hd2
  refine wpAny_execs_cons (wpAny_For (Call_Name rfl (glob_ok (by rw [hsc]; decide) y2.ex.cx hag ?_)) fun _ => rfl)
  have hrow : (PR 3).ev env.scope (dropOwn ⟨(("sums" : Str), .list []) :: [(("row" : Str), .list xs)], some "sums"⟩) (.Name "row" p.b3) = some (.list xs) := by rw [hsc]; rfl
  have hds : evs (PR 3) env.scope (dropOwn ⟨(("sums" : Str), .list []) :: [(("row" : Str), .list xs)], some "sums"⟩) [.Name "row" p.b3] = some [.list xs] := by
    exact evs_one rfl hrow
  refine callWith_function (args_ok (pr_sound 3) hds y2.ex.cx _ _ fun vs2 s3 g3 ivs => ⟨⟨g3.keep _ _ hog, hdg⟩, ?_⟩)
  obtain ⟨v, rfl, iv⟩ := ivs.one
  have x3 := y2.ex.grow g3
  cases iv with | list hlW hpl hal =>
  rename_i l ws
  show wpAny _ _ (call (.ref ag) [.ref l]) _ _ _
  have rmd := x3.cx.room
  refine gen_make x3.cx.gd.gd (by have := rmd.d; omega) hag fun p3 genv ga s4 ge hgen hga hgaL hgens kp os hns => ?_
  refine wpAny_pyIter_gen hgen ?_
  have hLfresh : s3.heap.get? s3.heap.objs.size = none := get_size _
  have hIfresh : s4.heap.get? s4.heap.objs.size = none := get_size _
  have hLlive : ∃ o, s4.heap.get? s3.heap.objs.size = some o := by obtain ⟨o, _, _, ho, _⟩ := hns; exact ⟨o, ho⟩
  generalize hL : s3.heap.objs.size = L at *
  generalize hIt : s4.heap.objs.size = It at *
  have hLW : L ∉ D :: (envA env ++ W) := x3.cx.live.fresh hLfresh
  have x4 : Ex mg mb n (A.deeper env) s (L :: (envA env ++ W)) (L :: D :: (envA env ++ W)) s4 env ⟨(("sums" : Str), .list []) :: [(("row" : Str), .list xs)], some "sums"⟩ :=
    Ex.step (N := [L]) (wr := []) x3 (fun b o _ e => kp b o e) (fun h0 => by rw [hgens]; exact push_gok rfl (x3.base.gens h0)) os (fun a ha => by cases ha) (fun a ha => by cases ha) (fun a ha => by cases ha) (fun a ha => by cases ha)
      (fun a ha => by rw [List.mem_singleton.mp ha]; exact hLfresh) fun a ha => by rw [List.mem_singleton.mp ha]; exact hLlive
  have hIW : It ∉ L :: D :: (envA env ++ W) := x4.cx.live.fresh hIfresh
  have hgaI : ga ≠ It := fun e => by obtain ⟨o, _, _, ho, _⟩ := hgen; rw [e, hIfresh] at ho; cases ho
  have hIL : It ≠ L := fun e => hIW (e ▸ List.mem_cons_self)
  have hmem : ∀ a ∈ envA env, a ∈ D :: (envA env ++ W) := fun a ha => List.mem_cons_of_mem _ (List.mem_append_left _ ha)
  have S : GS s (D :: (envA env ++ W)) env L It ga s3.gens.size := by
    refine ⟨?_, fun q => hLW (hmem _ q), fun q => hIW (List.mem_cons_of_mem _ (hmem _ q)), x3.base.none hLfresh, x4.base.none hIfresh, gens_fresh x3.base, hLW, fun q => hIW (List.mem_cons_of_mem _ q), hIL⟩
    intro q
    rcases List.mem_cons.mp q with q | q
    · exact hgaI q
    · rcases List.mem_cons.mp q with q | q
      · exact hgaL q
      · exact x3.cx.live.fresh hga q
  have hgs : s4.gens[s3.gens.size]? = some (.fresh (.func (gBody p3) genv)) := by rw [hgens]; simp
  have il : IntL ws is := ints_of hal his
  have gf : GF mg mb L l (It :: L :: D :: (envA env ++ W)) ws (fun x => [(("grouping" : Str), Value.ref l)].reverse.lookup x) (s4.setGen s3.gens.size .running) := by
    refine ⟨x4.cx.gd.more (N := [It]) fun a ha => by rw [List.mem_singleton.mp ha]; exact hIfresh, hns, rfl, hpl.at fun o e => kp _ _ e, ?_, List.mem_cons_of_mem _ List.mem_cons_self⟩
    intro q
    obtain ⟨m, e⟩ := hpl
    rcases List.mem_cons.mp q with q | q
    · rw [q] at e; have := kp _ _ e; rw [hIfresh] at this; cases this
    · rcases List.mem_cons.mp q with q | q
      · rw [q, hLfresh] at e; cases e
      · exact hlW q
  have hgo : GenState.Goes (model prog w) (A.deeper env).in1 (gR L It (decide (full.length = 7))) (gY L It (D :: (envA env ++ W)) full (decide (full.length = 7))) full.length (.fresh (.func (gBody p3) genv)) (.send .none) (s4.setGen s3.gens.size .running) :=
    gen_fresh (A := (A.deeper env).in1) (s := s4.setGen s3.gens.size .running) (W := It :: L :: D :: (envA env ++ W)) ge rmd.h (fun a ha => List.mem_cons_of_mem _ (List.mem_cons_of_mem _ ha)) S.Lc S.Ic List.mem_cons_self hIL il hIt (k := 6) hfull rfl gf
  refine sums_loop hp hsc S (P0 := envA env ++ W) (fun a ha => List.mem_cons_of_mem _ ha) (fun a ha => List.mem_append_left _ ha) hfl rfl (ρ := (("sums" : Str), .list []) :: [(("row" : Str), .list xs)]) rfl ⟨.inl ⟨x4, hIfresh⟩⟩ hgs hgen hgo (E' := cameBackBy (model prog w) (A.deeper env) env E') fun s5 ρ' P' W' hP' x5 hρ' => ?_
  obtain ⟨Wf, xf, hWf⟩ := x5.release
  have hret : (PR 3).ev env.scope ρ' (.Name "sums" p.e1) = some (.list ((sumsFrom 0 (full.take 6)).map .int)) := by
    rw [hsc, show (PR 3).ev = evF (PR 2) from rfl]
    (unfold evF; try dsimp only); rw [if_pos (by decide)]; exact hρ'
  refine wpAny_execs_cons (wpAny_Return_some ((pr_sound (prog := prog) (w := w) (mg := mg) (mb := mb) (n := n) 3).ev hret xf.cx _ _ fun v s6 g6 iv => ?_))
  exact hQ v s6 (x5.base.trans g6) (iv.sub fun b hb => xf.p b (hP' b (List.mem_append_right _ hb)))
end
end Mine
end

section
set_option maxRecDepth 100000
set_option linter.unusedVariables false
namespace Mine
open PySem PySem.W PyProof.Rows PySem.Calls
section
variable {prog : Program} {w : World} {A : Around} {s₀ s s' : Shared} {P W W' : List Addr} {mg mb : Str → Option Value} {n m : Nat} {env : Env} {ρ : Rho} {σ σ' : Stt} {r : Rec}

theorem Cx.re (c : Cx mg mb n A W s env ρ) (rm : Room m A) : Cx mg mb m A W s env ρ := ⟨rm, c.gd, c.S, c.D, c.w, c.live⟩
theorem Ex.re (x : Ex mg mb n A s₀ P W s env σ) (rm : Room m A) : Ex mg mb m A s₀ P W s env σ := ⟨x.cx.re rm, x.base, x.p, x.pe, x.en, x.own⟩
theorem ExP.re (x : ExP mg mb n A s₀ P W s env σ W' s') (rm : Room m A) : ExP mg mb m A s₀ P W s env σ W' s' := ⟨x.ex.re rm, x.mv, x.wn, x.gk⟩

theorem prim_name {f : Str} {as : List D} {d : D} (h : pprim f as = some d) : f = "_law_sums" := by
  by_cases hf : f = "_law_sums"
  · exact hf
  · unfold pprim at h; rw [if_neg hf] at h; cases h

theorem clF_fn {f : Str} {as : List D} {d : D} {h : Heap} (e : clF r f as = some d) (gd : Gd mg mb h) : ∃ a o fd, mg f = some (.ref a) ∧ h.get? a = some o ∧ o.data = .func fd := by
  have key : ∃ ps sc body, defOf f = some (ps, sc, body) := by
    unfold clF at e
    split at e
    · have := prim_name e; subst this
      obtain ⟨p, hd, _⟩ := s_def; exact ⟨_, _, _, hd⟩
    · split at e
      · cases e
      · simp only [Option.bind_eq_bind, Option.bind_eq_some_iff] at e
        obtain ⟨⟨ps, sc, body⟩, hd, _⟩ := e
        exact ⟨_, _, _, hd⟩
  obtain ⟨ps, sc, body, hd⟩ := key
  obtain ⟨a, o, _, _, _, _, h1, h2, h3, _⟩ := gd.fns f ps sc body hd
  exact ⟨a, o, _, h1, h2, h3⟩

theorem clF_ok (R : SoundX prog w mg mb n r) {f : Str} {as : List D} {d : D} {vs : List Value} {a : Addr} (h : clF r f as = some d) (ha : mg f = some (.ref a)) (rm : Room (n + 1) A) (gd : GdW mg mb W s.heap) (lv : Live W s.heap) (ia : IsAll W s.heap vs as) :
    Giv (model prog w) A W s (call (.ref a) vs) d := by
  unfold clF at h
  split at h
  · have := prim_name h; subst this
    exact sums_ok h ha rm gd lv ia
  · split at h
    · cases h
    · rename_i hf
      simp only [Option.bind_eq_bind, Option.bind_eq_some_iff] at h
      obtain ⟨⟨ps, sc, body⟩, hd, h⟩ := h
      simp only [] at h
      split at h
      · rename_i hl
        simp only [Option.bind_eq_some_iff] at h
        obtain ⟨⟨fl, σ'⟩, h, hfl⟩ := h
        cases fl with
        | ret d' =>
          cases hfl
          exact user_ok R hf hd hl h ha rm gd lv ia
        | next => cases hfl
      · cases h

theorem stepR_sound (R : SoundX prog w mg mb n r) : SoundX prog w mg mb (n + 1) (stepR r) where
  ev := fun h c => evF_ok R.toSound h (c.re (c.room.le (Nat.le_succ n)))
  ts := fun h c => tsF_ok R.toSound h (c.re (c.room.le (Nat.le_succ n)))
  clf := fun h gd => clF_fn h gd
  cl := fun h ha rm gd lv ia => clF_ok R h ha rm gd lv ia
  ex := fun h x Q E hQ => exF_ok R h (x.re (x.cx.room.le (Nat.le_succ n))) Q E fun f s' W' hf y => hQ f s' W' hf (y.re x.cx.room)

theorem R_sound : ∀ n, SoundX prog w mg mb n (R n)
  | 0 => { ev := fun h => (nomatch h), ts := fun h => (nomatch h), clf := fun h => (nomatch h), cl := fun h => (nomatch h), ex := fun h => (nomatch h) }
  | n + 1 => stepR_sound (R_sound n)
end
end Mine
end

section
set_option maxRecDepth 100000
set_option linter.unusedVariables false
namespace Mine
open PySem PySem.W PyProof.Rows PySem.Calls

/-- a heap without some objects -/
noncomputable def erase1 (h : Heap) (a : Addr) : Heap := h.update a fun o => { o with data := .freed }
theorem erase1_self (h : Heap) (a : Addr) : (erase1 h a).get? a = none := by
  unfold erase1 Heap.update Heap.get?
  simp only [Array.getElem?_modify, if_true]
  cases h.objs[a]? with
  | none => rfl
  | some o => rfl
theorem erase1_other (h : Heap) {a b : Addr} (hb : b ≠ a) : (erase1 h a).get? b = h.get? b := Heap.get?_update_other h _ (Ne.symm hb)
noncomputable def eraseL (h : Heap) (l : List Addr) : Heap := l.foldl erase1 h
theorem eraseL_get : ∀ (l : List Addr) (h : Heap) (b : Addr) (o : Obj), (eraseL h l).get? b = some o → b ∉ l ∧ h.get? b = some o
  | [], h, b, o, e => ⟨by simp, e⟩
  | a :: l, h, b, o, e => by
    obtain ⟨h1, h2⟩ := eraseL_get l (erase1 h a) b o e
    by_cases hb : b = a
    · subst hb; rw [erase1_self] at h2; cases h2
    · rw [erase1_other h hb] at h2; exact ⟨by simp [hb, h1], h2⟩
theorem eraseL_keep : ∀ (l : List Addr) (h : Heap) (b : Addr) (o : Obj), b ∉ l → h.get? b = some o → (eraseL h l).get? b = some o
  | [], h, b, o, _, e => e
  | a :: l, h, b, o, hb, e => by
    simp only [List.mem_cons, not_or] at hb
    exact eraseL_keep l (erase1 h a) b o hb.2 (by rw [erase1_other h hb.1]; exact e)
theorem eraseL_none {l : List Addr} {h : Heap} {b : Addr} (hb : b ∈ l) : (eraseL h l).get? b = none := by
  cases e : (eraseL h l).get? b with
  | none => rfl
  | some o => exact absurd hb (eraseL_get l h b o e).1
theorem eraseL_new {l : List Addr} {h : Heap} {b : Addr} (hb : h.get? b = none) : (eraseL h l).get? b = none := by
  cases e : (eraseL h l).get? b with
  | none => rfl
  | some o => have := (eraseL_get l h b o e).2; rw [hb] at this; cases this

section
variable {M : Model} {A : Around} {E : Value → Shared → Prop} {s : Shared}

theorem setFlight_someW {base : Heap} {l : List Env} {e L : Addr} {cls a0 : Value} {Q : Unit → Shared → Prop} (hh : Heap.HeldW base l e cls a0 L s.heap)
    (hQ : ∀ h', Heap.HeldW base l e cls a0 L h' → s.heap.UpToSlots h' → Q () { s with heap := h' }) : wpAny M A (setFlight (.ref e) (some L)) Q E s := by
  obtain ⟨hkb, hen, hl, ht⟩ := hh
  obtain ⟨oe, vs, T, oT, ts, he, hcls, hd, h1, hnT, hTe, hT, hdT, h3⟩ := ht
  have hsz3 : 3 < ts.size := (Array.getElem?_eq_some_iff.mp h3).1
  have other : ∀ b, b ≠ T → (s.heap.update T (Obj.mapFields (·.setIfInBounds 3 ((some L : Option Addr).elim Value.none fun f => rawInt f)))).get? b = s.heap.get? b :=
    fun b hb => Heap.get?_update_other _ _ (Ne.symm hb)
  have noRecord : ∀ b o, s.heap.get? b = some o → (∀ vs, o.data ≠ .fields vs) → b ≠ T := fun b o hb hnf q => by
    rw [q, hT] at hb; injection hb with hb; subst hb; exact hnf ts hdT
  unfold setFlight
  refine wpAny_bind (wpAny_field he hd h1 ?_)
  rw [if_pos (show (Value.ref T != Value.none) = true from by simp)]
  refine wpAny_setField hT hdT hsz3 (hQ _ ⟨fun b o hbo => (other b fun q => by rw [q, hnT] at hbo; cases hbo).trans (hkb b o hbo), hen,
    hl.of_keeps fun b o hb hnf => ⟨o, (other b (noRecord b o hb hnf)).trans hb, rfl⟩, ?_⟩ fun b o hb hnf => ⟨o.slots, (other b (noRecord b o hb hnf)).trans hb⟩)
  exact ⟨oe, vs, T, _, _, (other e (Ne.symm hTe)).trans he, hcls, hd, h1, hnT, hTe, Heap.get?_update_self _ hT (Obj.isFreed_of_fields (Obj.data_mapFields hdT _)), Obj.data_mapFields hdT _, by simp [hsz3]⟩

theorem came_backW {base : Heap} {l : List Env} {env : Env} {e L : Addr} {cls a0 : Value} {Q : Unit → Shared → Prop} (hf : env.frame = some L) (hh : Heap.HeldW base l e cls a0 L s.heap)
    (hQ : ∀ h', Heap.HeldW base l e cls a0 L h' → s.heap.UpToSlots h' → Q () { s with heap := h' }) :
    wpAny M A (do
        if (← field (.ref e) 1) == Value.none then unsupported "frame.own-activation:exception-without-traceback"
        setFlight (.ref e) env.frame) Q E s := by
  obtain ⟨hkb, hen, hl, ht⟩ := id hh
  obtain ⟨oe, vs, T, oT, ts, he, hcls, hd, h1, hnT, hTe, hT, hdT, h3⟩ := ht
  refine wpAny_bind (wpAny_field he hd h1 ?_)
  rw [if_neg (by simp), hf]
  exact setFlight_someW hh hQ

/-- the first frame that notes an exception just made -/
theorem looks_madeW {base h : Heap} {env : Env} {outer : List Env} {L e : Addr} {cls : Value} {args : List Value} {Q : Unit → Shared → Prop}
    (hfr : A.frames = some (env :: outer)) (hf : env.frame = some L) (hkb : base.StaysIn h) (hl : h.FunFrames base (env :: outer)) (hx : Heap.MadeExcOf h s.heap e cls args)
    (hQ : ∀ h' t, Heap.HeldW base (env :: outer) e cls (.ref t) L h' → h'.TupAt t args → base.get? t = none → s.heap.UpToSlots h' → Q () { s with heap := h' }) : wpAny M A (noteFrame (.ref e) env) Q E s := by
  obtain ⟨t, he, htn, ht⟩ := hx.there
  have fresh : ∀ b, h.get? b = none → base.get? b = none := fun b hb => by
    cases hq : base.get? b with
    | none => rfl
    | some o' => have := hkb b o' hq; rw [hb] at this; cases this
  unfold noteFrame
  simp only [hf]
  refine wpAny_bind (wpAny_field he rfl (x := .none) rfl ?_)
  rw [if_neg (by decide)]
  refine wpAny_entryW (a0 := .ref t) hfr (hl.of_keeps fun b o hb _ => ⟨o, hx.keeps b o hb, rfl⟩) hf he (fun b o hb => hx.keeps b o (hkb b o hb)) (fresh e hx.new) rfl (by simp) rfl fun h' hN => ?_
  obtain ⟨k1, k2, k3, k4⟩ := hN
  exact hQ h' t ⟨k1, fresh e hx.new, k2, k3⟩ (Heap.TupAt.of_slots ⟨_, _, ht, rfl, rfl⟩ k4) (fresh t htn) k4
end

noncomputable def refWords : Str := "invalid grouping"
/-- how the generator ends when it raises -/
noncomputable def gX (L It : Addr) (base : Heap) (outer : List Env) : GenEnd := fun _ s₀ r s₁ =>
  ∃ e t tk h₀ h' k, r = .error (.ref e) ∧ (∀ b o, b ≠ L → b ≠ It → s₀.heap.get? b = some o → h₀.get? b = some o) ∧ Heap.UpToSlots h₀ h' ∧ Heap.FlyingW base outer e (.type "ValueError") (.ref t) h' ∧
    h'.TupAt t [.str refWords tk] ∧ base.get? t = none ∧ s₁ = { s₀ with heap := h', toks := k }

section
variable {prog : Program} {w : World} {A : Around} {s₀ s s' : Shared} {W Wc : List Addr} {mg mb : Str → Option Value} {genv e1 e2 : Env} {L l It R Fr0 : Addr} {vs : List Value} {is full : List Int} {cut : Bool} {p : GP} {m : Str → Option Value} {E : Value → Shared → Prop} {Y : Protocol}

theorem g_builtin (g : GE genv L) (x : GF mg mb L l W vs m s) {y : Str} {pos : Pos} {v : Value} {Q : Value → Shared → Prop} (hk : gSc.names.lookup y = some .globalImplicit) (hm : mg y = none) (hb : mb y = some v) (hQ : Q v s) (hd : (y == ("__debug__" : Str)) = false) : wpAny (model prog w) A (eval (.Name y pos) genv) Q E s :=
  Name_function_global g.kind ((g.kd y).trans hk) (loadGlobal_builtin (show s.heap.Ns genv.globals mg from g.glob ▸ x.gd.gd.g) hm (show s.heap.Ns genv.builtins mb from g.bltn ▸ x.gd.gd.b) hb hQ) hd

theorem over_frames {A : Around} {c : Code} {fs : List Frame} {l : List Env} (h : A.frames = some l) : (A.over c fs).frames = some (c.envs ++ (envsOf (fs.map Frame.where_) ++ l)) := by
  show pushEnvs c.envs (pushEnvs (envsOf (fs.map Frame.where_)) A.frames) = _
  rw [pushEnvs_eq, pushEnvs_eq, h]; rfl


theorem gen_raise (g : GE genv L) (hA : A.handled = none) (hfr : A.frames = some [e1, e2]) (f1 : e1.frame = some R) (f2 : e2.frame = some Fr0) (k1 : e1.scope.kind = .function) (k2 : e2.scope.kind = .function)
    (oR : ∃ o, s.heap.get? R = some o ∧ ∀ vs, o.data ≠ .fields vs) (oF : ∃ o, s.heap.get? Fr0 = some o ∧ ∀ vs, o.data ≠ .fields vs) (hRL : R ≠ L) (hFL : Fr0 ≠ L)
    (hIW : It ∈ W) (hIL : It ≠ L) {ti : Nat} (h0 : vs[0]? = some (.int 0 ti)) (hsz : s.heap.objs.size = It) (gf : GF mg mb L l W vs m s) :
    GenState.Goes (model prog w) A (gX L It (eraseL s.heap [Fr0, R, L]) [e1, e2]) Y 0 (.fresh (.func (gBody p) genv)) (.send .none) s := by
  have hIn : s.heap.get? It = none := by rw [← hsz]; exact get_size _
  have hRI : R ≠ It := fun e => by obtain ⟨o, ho, _⟩ := oR; rw [e, hIn] at ho; cases ho
  have hFI : Fr0 ≠ It := fun e => by obtain ⟨o, ho, _⟩ := oF; rw [e, hIn] at ho; cases ho
  refine ⟨rfl, seg_func (seg_execs_cons (seg_wrap (wpAny_Assign_Name (wpAny_Constant_none (g_store g gf rfl (by decide) fun h1 gf1 hs1 => ?_)))))⟩
  refine seg_execs_cons (seg_For (fun _ => rfl) (g_load g gf1 (y := "grouping") rfl gf1.grp (wpAny_pyIter_list gf1.list.isList fun q => ?_) rfl))
  have hI : h1.objs.size = It := by rw [hs1.1]; exact hsz
  have gf2 := gf1.it (It := It) (h' := h1.push { cls := .type "list_iterator", data := .fields #[.ref l, .int (0 : Nat) 0] }) (tk := s.toks + 1) (fun b o _ e => Heap.get?_push_of_some _ e) hIW hIL
  have kp2 : ∀ b o, b ≠ L → b ≠ It → s.heap.get? b = some o → (h1.push { cls := .type "list_iterator", data := .fields #[.ref l, .int (0 : Nat) 0] }).get? b = some o := fun b o hb _ e => Heap.get?_push_of_some _ ((hs1.2 b hb).trans e)
  rw [show ({ s with heap := h1, toks := s.toks + 1 } : Shared).heap.objs.size = It from hI]
  have hit : (h1.push { cls := .type "list_iterator", data := .fields #[.ref l, .int (0 : Nat) 0] }).IsListIter It l 0 := by rw [← hI]; exact ⟨_, Heap.get?_push_size _ rfl, rfl, rfl⟩
  generalize hh2 : h1.push { cls := .type "list_iterator", data := .fields #[.ref l, .int (0 : Nat) 0] } = h2 at gf2 kp2 hit
  refine seg_forLoop rfl (fun v => rfl) (wpAny_pyNext_list_item hit gf2.list.isList (x := .int 0 ti) (by simpa using h0) fun h3 hit3 hs3 => ?_)
  have gf3 : GF mg mb L l W vs _ { s with heap := h3, toks := s.toks + 1 } := gf2.it (tk := s.toks + 1) (fun b o hb e => (hs3.2 b hb).trans e) hIW hIL
  refine wpAny_assign_Name (g_store g gf3 rfl (by decide) fun h4 gf4 hs4 => ?_)
  have kp4 : ∀ b o, b ≠ L → b ≠ It → s.heap.get? b = some o → h4.get? b = some o := fun b o hb hi e => (hs4.2 b hb).trans ((hs3.2 b hi).trans (kp2 b o hb hi e))
  obtain ⟨tc, hcm⟩ := gf4.gd.gd.cm
  refine seg_execs_cons (seg_If (g_eq rfl (g_load g gf4 (y := "interval") rfl (if_pos rfl) ⟨rfl, g_glob g gf4 rfl hcm ⟨rfl, ?_⟩ rfl⟩ rfl)))
  rw [if_neg (by decide)]
  refine seg_execs_nil ?_
  refine seg_execs_cons (seg_If (g_eq rfl (g_load g gf4 (y := "interval") rfl (if_pos rfl) ⟨rfl, wpAny_Constant_int ⟨rfl, ?_⟩⟩ rfl)))
  rw [if_pos (by decide)]
  have gf5 := gf4.toks (s.toks + 1 + 1 + 1)
  refine seg_execs_cons (seg_If ?_)
  refine wpAny_isTrue_Compare1 (g_load g gf5 (y := "last_interval") (v := .none) rfl (by simp; decide) (wpAny_Constant_none ?_) rfl) (notSetMarks rfl)
  refine is_none (wpAny_truthy_bool ?_)
  rw [if_pos (by decide)]
  refine seg_execs_cons (seg_wrap (Raise_madeB F.excCall_ValueError F.excRaise_ValueError (e₀ := .Constant (.str "invalid grouping") p.k4 p.f2) (rest := []) (cpos := p.f3) ?hh (g_builtin g gf5 rfl gf5.gd.gd.ve.1 gf5.gd.gd.ve.2 ⟨rfl, spliced_cons (wpAny_Constant_str (k := p.k4) (pos := p.f2) (spliced_nil ⟨by simp [sizeLine], fun h6 e hx => ?_⟩))⟩ rfl)))
  case hh => simpa [Around.over, marksOver, Frame.marks, markOver] using hA
  show Seg _ _ _ _ _ _ _ (loopH genv (.ref e)) _ _
  have hbase : (eraseL s.heap [Fr0, R, L]).StaysIn h4 := fun b o hb => by
    obtain ⟨h1', h2'⟩ := eraseL_get _ _ _ _ hb
    simp only [List.mem_cons, not_or, List.not_mem_nil, not_false_eq_true, and_true] at h1'
    exact kp4 b o h1'.2.2 (fun q => by rw [q, hIn] at h2'; cases h2') h2'
  have hLd : ∃ o, h4.get? L = some o ∧ ∀ vs, o.data ≠ .fields vs := by
    obtain ⟨o, es, ep, ho, hd, _⟩ := gf5.ns
    exact ⟨o, ho, fun vs q => by rw [hd] at q; cases q⟩
  have frames : h4.FunFrames (eraseL s.heap [Fr0, R, L]) [genv, e1, e2] := by
    obtain ⟨oL, hoL, hdL⟩ := hLd
    obtain ⟨o1, ho1, hd1⟩ := oR
    obtain ⟨o2, ho2, hd2⟩ := oF
    exact ⟨by rw [g.kind]; decide, ⟨L, oL, g.fr, eraseL_none (by simp), hoL, hdL⟩, by rw [k1]; decide, ⟨R, o1, f1, eraseL_none (by simp), kp4 R o1 hRL hRI ho1, hd1⟩, by rw [k2]; decide, ⟨Fr0, o2, f2, eraseL_none (by simp), kp4 Fr0 o2 hFL hFI ho2, hd2⟩, trivial⟩
  have sm6 : Heap.UpToSlots h4 h6 := .of_keeps hx.keeps
  refine seg_bind (m := (do noteFrame (.ref e) genv; theTreesLotGoes (.ref e) : Sem Unit)) (K := fun _ => .raise (.ref e)) ?_
  refine wpAny_bind (looks_madeW (h := h4) (outer := [e1, e2]) ?hfr g.fr hbase frames hx.of fun h7 t hheld htup hnt sm7 => wpAny_theTreesLotGoes ?_)
  case hfr => exact over_frames hfr
  refine seg_leaf (.error (.ref e)) ?_
  refine seg_wrap ?_
  show wpAny _ _ (ownBack genv (.error (.ref e))) _ _ _
  unfold ownBack
  refine wpAny_onRaise (wpAny_throw ?_)
  refine came_backW g.fr hheld fun h8 hheld8 sm8 => ?_
  refine seg_wrap ?_
  unfold leaving
  refine wpAny_bind (wpAny_noteFrame_againW g.fr hheld8.2.2.2 ?_)
  refine wpAny_landsW hheld8 fun h9 hfl sm9 => ?_
  obtain ⟨y1, y2, ⟨_, _, y3⟩, y4⟩ := hfl
  refine seg_end (.error (.ref e)) ⟨e, t, _, h4, h9, _, rfl, kp4, ((sm6.trans sm7).trans sm8).trans sm9, ⟨y1, y2, y3, y4⟩, (htup.of_slots sm8).of_slots sm9, hnt, rfl⟩
end
end Mine
end

section
set_option maxRecDepth 100000
set_option linter.unusedVariables false
namespace Mine
open PySem PySem.W PyProof.Rows PySem.Calls

theorem sub_ve_stop : isSubtype (.type "ValueError") (.type "StopIteration") = pure false := by rw [isSubtype_type]; kernel_rfl

section
variable {prog : Program} {w : World} {A : Around} {s s' : Shared} {E : Value → Shared → Prop}

theorem next_raise {a : Addr} {g : Nat} {gs : GenState} {L It : Addr} {base : Heap} {outer : List Env} {Q : Option Value → Shared → Prop} (hh : A.handled = none)
    (hl : s.heap.NoLimit) (hroom : A.depth < recursionLimit) (hg : s.heap.IsGen a g) (hgb : base.IsGen a g) (hgs : s.gens[g]? = some gs)
    (hgo : gs.Goes (model prog w) A.in1 (gX L It base outer) (fun _ _ _ _ _ => False) 0 (.send .none) (s.setGen g .running))
    (hE : ∀ e t tk h₀ h' k, (∀ b o, b ≠ L → b ≠ It → s.heap.get? b = some o → h₀.get? b = some o) → Heap.UpToSlots h₀ h' → Heap.FlyingW base outer e (.type "ValueError") (.ref t) h' →
      h'.TupAt t [.str refWords tk] → base.get? t = none → E (.ref e) { (s.setGen g .running).setGen g .finished with heap := h', toks := k }) :
    wpAny (model prog w) A (pyNext (.ref a)) Q E s := by
  unfold pyNext
  refine wpAny_bind (wpAny_attempt (wpAny_callSpecial?_slot (name := Str.ofString "__next__") hg.typeIs slot_gen_next
    (wpAny_call_entry slot_gen_next hg.typeIs entry_gen_next ?_ (args_gen_next _))))
  show wpAny _ A.in1 (Builtin.Generator.genWake (.ref a) (.send .none)) _ _ s
  unfold Builtin.Generator.genWake
  refine wpAny_bind (wpAny_holding (wpAny_genNumber hg (wpAny_bind (wpAny_genState hgs ?_))))
  cases gs with
  | running => exact hgo.elim
  | finished => exact hgo.elim
  | _ =>
    refine wpAny_bind (wpAny_roomToWake hl hroom ?_)
    show wpAny _ A.in1 (.resume g (.send .none) [] _) _ _ s
    refine wpAny_resumeQ hgs hgo (fun x s₁ hx => ?_) (fun v s₁ gs' hb hv => hv.elim)
    obtain ⟨e, t, tk, h₀, h', k, rfl, kp, sm, hfl, htup, htn, rfl⟩ := hx
    show wpAny _ A.in1 (Builtin.Generator.genLeft (.ref a) (.ref e)) _ _ _
    have hgen' : h'.IsGen a g := hgb.keeps hfl.1
    obtain ⟨oe, hoe, hce⟩ := hfl.there
    obtain ⟨o, nm, qn, ho, hc, hd, hs⟩ := hgen'
    unfold Builtin.Generator.genLeft Builtin.Generator.madeByALambda
    refine wpAny_bind (wpAny_bind (wpAny_load ho (wpAny_pure ?_)))
    rw [hc, hd]
    refine wpAny_bind (wpAny_isInstance (T := "ValueError") (b := false) ⟨_, hoe, hce⟩ sub_ve_stop ?_)
    rw [if_neg (by simp)]
    unfold Builtin.Generator.genEscaped
    refine wpAny_bind (wpAny_isInstance (T := "ValueError") (b := false) ⟨_, hoe, hce⟩ sub_ve_stop ?_)
    rw [if_pos (by simp)]
    refine wpAny_throw ?_
    refine wpAny_bind (wpAny_isInstance (T := "ValueError") (b := false) ⟨_, hoe, hce⟩ sub_ve_stop ?_)
    rw [if_neg (by simp)]
    exact wpAny_throw (hE e t tk h₀ h' k kp sm hfl htup htn)
end
end Mine
end

section
set_option maxRecDepth 100000
set_option linter.unusedVariables false
namespace Mine
open PySem PySem.W PyProof.Rows PySem.Calls

set_option genInjectivity false in
set_option genSizeOf false in
structure RP where
  (a1 a2 a3 a4 a5 b1 b2 b3 b4 b5 c1 c2 c3 c4 c5 c6 d1 e1 e2 : Pos)
  (k1 k2 : Nat)
noncomputable def rLoop (p : RP) : List Stmt := [.Return (some (.Constant (.str "") p.k1 p.b3)) p.b4]
noncomputable def rHand (p : RP) : List ExceptHandler := [.ExceptHandler (some (.Name "ValueError" p.c1)) (some "error") [.Return (some (.Call (.Name "str" p.c2) [.Name "error" p.c3] [] p.c4)) p.c5] p.c6]
noncomputable def rBody (p : RP) : List Stmt := [.Assign [.Name "sizes" p.a1] (.Call (.Name "_grouping_intervals" p.a2) [.Name "row" p.a3] [] p.a4) p.a5,
  .Try [.For (.Name "size" p.b1) (.Name "sizes" p.b2) (rLoop p) [] p.b5] (rHand p) [] [] p.d1,
  .Return (some (.Constant (.str "") p.k2 p.e1)) p.e2]
noncomputable def rSc : Scope := { kind := .function, names := [("row", .local), ("sizes", .local), ("size", .local), ("error", .local), ("_grouping_intervals", .globalImplicit), ("ValueError", .globalImplicit), ("str", .globalImplicit)], isGenerator := false, isCoroutine := false, more := [] }
theorem r_def : ∃ p : RP, defOf "_law_refusal" = some ([("row" : Str)], rSc, rBody p) := ⟨⟨_, _, _, _, _, _, _, _, _, _, _, _, _, _, _, _, _, _, _, _, _⟩, rfl⟩

/-- what the call leaves: all as it was, but for the slots of one frame's object -/
structure RefEnd (F : Addr) (s s' : Shared) : Prop where
  keep : ∀ b o, b ≠ F → s.heap.get? b = some o → s'.heap.get? b = some o
  slots : ∀ o, s.heap.get? F = some o → (∀ vs, o.data ≠ .fields vs) → ∃ sl, s'.heap.get? F = some { o with slots := sl }
  gens : ∀ {q}, GOk q s.gens → GOk q s'.gens
  os : s'.os = s.os
theorem Grow.refEnd {s s' : Shared} (g : Grow s s') (F : Addr) : RefEnd F s s' := ⟨fun b o _ e => g.keep b o e, fun o e _ => ⟨o.slots, g.keep F o e⟩, g.gens, g.os⟩

theorem sub_ve_base : isSubtype (.type "ValueError") (.type "BaseException") = pure true := by rw [isSubtype_type]; kernel_rfl
theorem sub_ve_self : isSubtype (.type "ValueError") (.type "ValueError") = pure true := by rw [isSubtype_type]; kernel_rfl
theorem meta_ve : isSubtype (.type ((Manifest.find? "ValueError").elim "type" fun y => y.metatype)) (.type "tuple") = pure false := by
  rw [show ((Manifest.find? "ValueError").elim "type" fun y => y.metatype) = "type" from by decide +kernel]; exact tc_notTuple

theorem gis_one (is : List Int) (h : ¬ is.head? = some 0) : ∃ ys, gis none 1 is = some ys := by
  cases is with
  | nil => exact ⟨[], rfl⟩
  | cons x xs =>
    simp only [List.head?_cons, Option.some.injEq] at h
    simp only [gis]
    split
    · exact ⟨_, rfl⟩
    · first | exact ⟨_, rfl⟩ | (rw [if_neg h]; exact ⟨_, rfl⟩)

section
variable {prog : Program} {w : World} {A : Around} {s s' : Shared} {W : List Addr} {mg mb : Str → Option Value} {n : Nat}

/-- the block's own names, local each -/
structure RE (env : Env) (R : Addr) : Prop where
  sc : env.scope = rSc
  loc : env.locals = R
  glob : env.globals = mainGlobals
  bltn : env.builtins = builtinsNs
  fr : env.frame = some R
theorem RE.kd {env : Env} {R : Addr} (g : RE env R) (x : Str) : env.kindOf x = rSc.names.lookup x := by show env.scope.names.lookup x = _; rw [g.sc]
theorem RE.kind {env : Env} {R : Addr} (g : RE env R) : env.scope.kind = .function := by rw [g.sc]; rfl
theorem r_load {env : Env} {R : Addr} {m : Str → Option Value} {E : Value → Shared → Prop} (g : RE env R) (hn : s.heap.Ns R m) {y : Str} {pos : Pos} {v : Value} {Q : Value → Shared → Prop} (hk : rSc.names.lookup y = some .local) (hm : m y = some v) (hQ : Q v s) (hd : (y == ("__debug__" : Str)) = false) : wpAny (model prog w) A (eval (.Name y pos) env) Q E s :=
  wpAny_Name (wpAny_loadName_local g.kind ((g.kd y).trans hk) (show s.heap.Ns env.locals m from g.loc ▸ hn) hm hQ) hd
theorem r_store {env : Env} {R : Addr} {m : Str → Option Value} {E : Value → Shared → Prop} (g : RE env R) (hn : s.heap.Ns R m) {y : Str} {v : Value} {Q : Unit → Shared → Prop} (hk : rSc.names.lookup y = some .local)
    (hQ : ∀ h', h'.Ns R (fun z => if z = y then some v else m z) → Heap.SameBut R s.heap h' → Q () { s with heap := h', toks := s.toks + 1 }) : wpAny (model prog w) A (storeName env y v) Q E s := by
  refine wpAny_storeName_local ((g.kd y).trans hk) (show s.heap.Ns env.locals m from g.loc ▸ hn) (fun h' hn' hs' => ?_) (by rw [g.kind]; rfl)
  rw [g.loc] at hn' hs'
  exact hQ h' hn' hs'
theorem r_builtin {env : Env} {R : Addr} {E : Value → Shared → Prop} (g : RE env R) (gd : Gd mg mb s.heap) {y : Str} {pos : Pos} {v : Value} {Q : Value → Shared → Prop} (hk : rSc.names.lookup y = some .globalImplicit) (hm : mg y = none) (hb : mb y = some v) (hQ : Q v s) (hd : (y == ("__debug__" : Str)) = false) : wpAny (model prog w) A (eval (.Name y pos) env) Q E s :=
  Name_function_global g.kind ((g.kd y).trans hk) (loadGlobal_builtin (show s.heap.Ns env.globals mg from g.glob ▸ gd.g) hm (show s.heap.Ns env.builtins mb from g.bltn ▸ gd.b) hb hQ) hd

/-- the exception has come to the try -/
theorem r_caught {env : Env} {R e t : Addr} {base h₀ : Heap} {tk : Nat} {m : Str → Option Value} {p : RP} {outer : List Env} {Q : Flow → Shared → Prop} {E E1 : Value → Shared → Prop} (g : RE env R) (hu : A.units + 2 < cLine) (hfr : A.frames = some (env :: outer))
    (hbR : base.get? R = none) (gd : Gd mg mb base) (hn : h₀.Ns R m) (sm : Heap.UpToSlots h₀ s.heap) (hfl : Heap.FlyingW base (env :: outer) e (.type "ValueError") (.ref t) s.heap) (htup : s.heap.TupAt t [.str refWords tk]) (htn : base.get? t = none)
    (hQ : ∀ h' k, base.StaysIn h' → (∀ b o, b ≠ R → h₀.get? b = some o → (∀ vs, o.data ≠ .fields vs) → ∃ sl, h'.get? b = some { o with slots := sl }) → Q (.ret (.str refWords tk)) { s with heap := h', toks := k }) :
    wpAny (model prog w) A (noteFrame (.ref e) env) (fun _ s₀ => cameBackBy (model prog w) A env (fun e s₁ => wpAny (model prog w) A (noteFrame e env) (fun _ s₂ => wpAny (model prog w) A (setFlight e none) (fun _ s₃ => wpAny (model prog w) A (handleBy e env (rHand p)) Q E s₃) E s₂) E s₁) (.ref e) s₀) E1 s := by
  refine wpAny_looks_onW hfr g.fr hfl fun h1 hh1 sm1 => ?_
  unfold cameBackBy
  refine came_backW g.fr hh1 fun h2 hh2 sm2 => ?_
  refine wpAny_noteFrame_againW g.fr hh2.2.2.2 ?_
  refine wpAny_landsW hh2 fun h3 hf3 sm3 => ?_
  have smA : Heap.UpToSlots h₀ h3 := ((sm.trans sm1).trans sm2).trans sm3
  have tup3 := ((htup.of_slots sm1).of_slots sm2).of_slots sm3
  obtain ⟨oe, hoe, hce⟩ := hf3.there
  refine wpAny_handleBy_builtin_as (X := "ValueError") (T := "ValueError") (b := true) sub_ve_base meta_ve sub_ve_self (r_builtin (s := { s with heap := h3 }) g (gd.keep hf3.1) rfl gd.ve.1 gd.ve.2 ⟨rfl, ⟨oe, hoe, hce⟩, ?_⟩ rfl)
  rw [if_pos rfl]
  refine lands_againW hf3 fun h4 hf4 sm4 => ?_
  have smB := smA.trans sm4
  have tup4 := tup3.of_slots sm4
  obtain ⟨ox, xs, hox, hcx, hdx, h0x⟩ := hf4.first
  have heR : e ≠ R := fun q => by
    obtain ⟨o, es, ep, ho, hd, _⟩ := smB.ns hn
    rw [← q, hox] at ho; cases ho; rw [hdx] at hd; cases hd
  have htR : t ≠ R := fun q => by
    obtain ⟨o, es, ep, ho, hd, _⟩ := smB.ns hn
    obtain ⟨o2, n2, ho2, _, hd2⟩ := tup4
    rw [← q, ho2] at ho; cases ho; rw [hd2] at hd; cases hd
  refine r_store g (smB.ns hn) (y := "error") rfl fun h5 hn5 hs5 => ?_
  have kp5 : ∀ b o, b ≠ R → h4.get? b = some o → h5.get? b = some o := fun b o hb e => (hs5.2 b hb).trans e
  have st5 : base.StaysIn h5 := fun b o hb => kp5 b o (fun q => by rw [q, hbR] at hb; cases hb) (hf4.1 b o hb)
  have ex5 : h5.ExcAt e "ValueError" (.ref t) := ⟨ox, xs, kp5 e ox heR hox, hcx, hdx, h0x⟩
  have tup5 : h5.TupAt t [.str refWords tk] := by obtain ⟨o2, n2, ho2, r⟩ := tup4; exact ⟨o2, n2, kp5 t o2 htR ho2, r⟩
  refine wpAny_execs_cons (wpAny_Return_some (Call_Name rfl (r_builtin (s := { s with heap := h5, toks := s.toks + 1 }) g (gd.keep st5) rfl gd.sr.1 gd.sr.2 ?_ rfl)))
  refine callWith_type1 (r_load g hn5 (y := "error") rfl (if_pos rfl) ?_ rfl)
  refine PySem.P.str_of_exc_one (A := A.mark (some (.ref e))) (s := { s with heap := h5, toks := s.toks + 1 }) (e := e) (t0 := t) (m := refWords) (tk := tk) PySem.F.excStr_ValueError hu ex5 tup5 ?_
  refine wpAny_nameGoes (m := fun z => if z = "error" then some (.ref e) else m z) ((g.kd _).trans rfl) (show h5.Ns env.locals _ from g.loc ▸ hn5) (by rw [g.kind]; rfl) fun h6 m6 hn6 hs6 => ?_
  rw [g.loc] at hs6
  refine hQ h6 _ (fun b o hb => (hs6.2 b fun q => by rw [q, hbR] at hb; cases hb).trans (st5 b o hb)) fun b o hb e hnf => ?_
  obtain ⟨sl, hsl⟩ := smB b o e hnf
  exact ⟨sl, (hs6.2 b hb).trans (kp5 b _ hb hsl)⟩
end
end Mine
end

section
set_option maxRecDepth 100000
set_option linter.unusedVariables false
namespace Mine
open PySem PySem.W PyProof.Rows PySem.Calls
section
variable {prog : Program} {w : World} {A : Around} {s s' : Shared} {W : List Addr} {mg mb : Str → Option Value} {n : Nat}

theorem refusal_ok {F : Addr} {envL : Env} {ds : List D} {is : List Int} {vs : List Value} {a : Addr} (hfr : A.frames = some [envL]) (hF : envL.frame = some F) (hk : envL.scope.kind = .function) (hFns : ∃ m, s.heap.Ns F m) (hFW : F ∈ W)
    (ha : mg "_law_refusal" = some (.ref a)) (rm : Room (n + 1) A) (gd : GdW mg mb W s.heap) (lv : Live W s.heap) (ia : IsAll W s.heap vs [.list ds]) (his : asInts ds = some is) {Q E : Value → Shared → Prop}
    (hQ : ∀ t s', RefEnd F s s' → Q (.str (refusal is) t) s') : wpAny (model prog w) A (call (.ref a) vs) Q E s := by
  obtain ⟨p, hd⟩ := r_def
  refine enter_ok (by decide) hd rfl ha rm gd lv ia fun env s₁ E' hsc hfre hloc x => ?_
  have x : Ex mg mb n (A.deeper env) s (envA env ++ W) (envA env ++ W) s₁ env ⟨[(("row" : Str), .list ds)], none⟩ := x
  have g : RE env env.locals := ⟨hsc, rfl, x.cx.S.glob, x.cx.S.bltn, hfre⟩
  have rmd := x.cx.room
  have hfr2 : (A.deeper env).frames = some [env, envL] := by show A.frames.map (env :: ·) = _; rw [hfr]; rfl
  generalize hA2 : A.deeper env = A2 at x rmd hfr2 ⊢
  obtain ⟨vr, sl, ir⟩ := x.cx.D "row" _ rfl (by left; rw [g.kd]; rfl)
  obtain ⟨m, hns, hm⟩ : ∃ m, s₁.heap.Ns env.locals m ∧ m "row" = some vr := by
    rcases sl with ⟨_, m, h1, h2⟩ | ⟨e, _⟩
    · exact ⟨m, h1, h2⟩
    · rcases e with e | e <;> rw [g.kd] at e <;> cases e
  cases ir with | list hlW hpl hal =>
  rename_i l ws
  obtain ⟨p2, hd2⟩ := g_def
  obtain ⟨ag, og, _, _, _, _, hag, hog, hdg, _⟩ := x.cx.gd.gd.fns _ _ _ _ hd2
  have hrow : (PR 3).ev env.scope [(("row" : Str), .list ds)] (.Name "row" p.a3) = some (.list ds) := by rw [hsc]; rfl
  refine wpAny_execs_cons (wpAny_Assign_Name (Call_Name rfl (glob_ok (by rw [hsc]; decide) x.cx hag ?_)) rfl)
  refine callWith_function (evalArgs_plain (spliced_cons (show wpAny _ _ (eval (.Name "row" p.a3) env) _ _ _ from r_load g hns rfl hm (spliced_nil ⟨⟨hog, hdg⟩, ?_⟩) rfl)))
  show wpAny _ _ (call (.ref ag) [.ref l]) _ _ _
  refine gen_make x.cx.gd.gd (by have := rmd.d; omega) hag fun p3 genv ga s4 ge hgen hga hgaL hgens kp os hns2 => ?_
  have hLfresh : s₁.heap.get? s₁.heap.objs.size = none := get_size _
  have hLlive : ∃ o, s4.heap.get? s₁.heap.objs.size = some o := by obtain ⟨o, _, _, ho, _⟩ := hns2; exact ⟨o, ho⟩
  generalize hL : s₁.heap.objs.size = L at *
  have hR0 : s.heap.get? env.locals = none := x.en _ (envA_loc env)
  have hRlive : ∃ o, s₁.heap.get? env.locals = some o := by obtain ⟨o, _, _, ho, _⟩ := hns; exact ⟨o, ho⟩
  have hRL : env.locals ≠ L := fun e => by obtain ⟨o, ho⟩ := hRlive; rw [e, hLfresh] at ho; cases ho
  have hgaR : ga ≠ env.locals := fun e => by obtain ⟨o, ho⟩ := hRlive; rw [← e, hga] at ho; cases ho
  refine r_store g (hns.keeps kp) (y := "sizes") rfl fun h5 hn5 hs5 => ?_
  have kp5 : ∀ b o, b ≠ env.locals → s₁.heap.get? b = some o → h5.get? b = some o := fun b o hb e => (hs5.2 b hb).trans (kp b o e)
  have hgen5 : h5.IsGen ga s₁.gens.size := by obtain ⟨o, nm, qn, h1, r⟩ := hgen; exact ⟨o, nm, qn, (hs5.2 ga hgaR).trans h1, r⟩
  have hns5 : h5.Ns L (fun x => [(("grouping" : Str), Value.ref l)].reverse.lookup x) := hns2.at' fun o e => (hs5.2 L (Ne.symm hRL)).trans e
  obtain ⟨gh, ggd, gkp, gno⟩ := x.cx.gd
  have RW : env.locals ∈ envA env ++ W := List.mem_append_left _ (envA_loc env)
  have gkp5 : Kp gh h5 := fun b o e => kp5 b o (fun q => by rw [q, gno _ RW] at e; cases e) (gkp b o e)
  have hsz5 : h5.objs.size = s4.heap.objs.size := hs5.1
  have hIfresh : h5.get? h5.objs.size = none := get_size _
  generalize hIt : h5.objs.size = It at *
  have hlive5 : ∀ b, (∃ o, s₁.heap.get? b = some o) → b ≠ L ∧ b ≠ It := fun b ⟨o, ho⟩ => by
    refine ⟨fun q => (by rw [q, hLfresh] at ho; cases ho), fun q => ?_⟩
    by_cases hb : b = env.locals
    · obtain ⟨o5, _, _, h5', _⟩ := hn5
      rw [← hb, q, hIfresh] at h5'; cases h5'
    · have := kp5 b o hb ho; rw [q, hIfresh] at this; cases this
  have hIL : It ≠ L := fun e => by obtain ⟨o, _, _, ho, _⟩ := hns5; rw [← e, hIfresh] at ho; cases ho
  have hRI : env.locals ≠ It := (hlive5 _ hRlive).2
  have hgs : (s4.gens)[s₁.gens.size]? = some (.fresh (.func (gBody p3) genv)) := by rw [hgens]; simp
  have hbare4 : ∀ {q}, GOk q s.gens → GOk q s4.gens := fun h0 => by rw [hgens]; exact push_gok rfl (x.base.gens h0)
  have il : IntL ws is := ints_of hal his
  have gf : GF mg mb L l (It :: L :: (envA env ++ W)) ws (fun x => [(("grouping" : Str), Value.ref l)].reverse.lookup x) (({ s4 with heap := h5, toks := s4.toks + 1 } : Shared).setGen s₁.gens.size .running) := by
    refine ⟨⟨gh, ggd, gkp5, fun b hb => ?_⟩, hns5, rfl, hpl.at fun o e => kp5 l o (fun q => hlW (q ▸ RW)) e, fun q => ?_, List.mem_cons_of_mem _ List.mem_cons_self⟩
    · rcases List.mem_cons.mp hb with q | hb
      · cases e : gh.get? b with
        | none => rfl
        | some o => have := gkp5 b o e; rw [q, hIfresh] at this; cases this
      · rcases List.mem_cons.mp hb with q | hb
        · cases e : gh.get? b with
          | none => rfl
          | some o => have := gkp b o e; rw [q, hLfresh] at this; cases this
        · exact gno b hb
    · obtain ⟨k, e⟩ := hpl
      have := hlive5 l ⟨_, e⟩
      rcases List.mem_cons.mp q with q | q
      · exact this.2 q
      · rcases List.mem_cons.mp q with q | q
        · exact this.1 q
        · exact hlW q
  have lim5 : h5.NoLimit := ggd.lim.keeps gkp5
  have old : ∀ b o, s.heap.get? b = some o → b ≠ L ∧ b ≠ It ∧ b ≠ env.locals ∧ h5.get? b = some o := fun b o e => by
    have e1 := x.base.keep b o e
    have hb : b ≠ env.locals := fun q => by rw [q, hR0] at e; cases e
    exact ⟨(hlive5 b ⟨o, e1⟩).1, (hlive5 b ⟨o, e1⟩).2, hb, kp5 b o hb e1⟩
  have g0 : s.gens[s₁.gens.size]? = none := gens_fresh x.base
  have os4 : s4.os = s.os := os.trans x.base.os
  -- the last statement
  have last : ∀ (sx : Shared) (E2 : Value → Shared → Prop), RefEnd F s sx → refusal is = "" → wpAny (model prog w) A2 (execs [.Return (some (.Constant (.str "") p.k2 p.e1)) p.e2] env) (fun f s' => Q (match f with | .ret v => v | _ => .none) s') E2 sx := by
    intro sx E2 hx hr
    refine wpAny_execs_cons (wpAny_Return_some (wpAny_Constant_str ?_))
    rw [hr] at hQ
    exact hQ sx.toks _ ⟨hx.keep, hx.slots, hx.gens, hx.os⟩
  refine wpAny_execs_cons (wpAny_Try_except (wpAny_execs_cons (wpAny_For (r_load g hn5 (y := "sizes") rfl (if_pos rfl) (wpAny_pyIter_gen hgen5 ?_) rfl) fun _ => rfl)))
  refine codeAny_forLoop_any (fun k sx => k = 1 ∧ sx = { s4 with heap := h5, toks := s4.toks + 1 }) ?_ 1 ⟨rfl, rfl⟩
  rintro k sx ⟨_, rfl⟩
  by_cases h0 : is.head? = some 0
  · -- it raises
    have hr : refusal is = refWords := by unfold refusal; rw [if_pos h0]; rfl
    obtain ⟨ti, hti⟩ := il.at' 0 0 (by rw [← List.head?_eq_getElem?]; exact h0)
    obtain ⟨mF, oF, esF, epF, hoF, hdF, _⟩ := hFns
    have hF5 := old F oF hoF
    obtain ⟨oR, esR, epR, hoR, hdR, _⟩ := id hn5
    have hgo := gen_raise (prog := prog) (w := w) (A := A2.in1) (Y := fun _ _ _ _ _ => False) (e1 := env) (e2 := envL) (R := env.locals) (Fr0 := F) (p := p3) ge rmd.h hfr2 hfre hF g.kind hk ⟨oR, hoR, fun vs q => by rw [hdR] at q; cases q⟩ ⟨oF, hF5.2.2.2, fun vs q => by rw [hdF] at q; cases q⟩ hRL hF5.1 List.mem_cons_self hIL hti hIt gf
    have hgb : (eraseL h5 [F, env.locals, L]).IsGen ga s₁.gens.size := by
      obtain ⟨o, nm, qn, h1, r⟩ := hgen5
      refine ⟨o, nm, qn, eraseL_keep _ _ _ _ ?_ h1, r⟩
      intro q
      simp only [List.mem_cons, List.not_mem_nil, or_false] at q
      rcases q with q | q | q
      · have e1 := x.base.keep F oF hoF
        rw [← q, hga] at e1; cases e1
      · exact hgaR q
      · exact hgaL q
    refine next_raise rmd.h lim5 (by have := rmd.d; omega) hgen5 hgb hgs hgo fun e t tk h₀ h' k kp0 sm hfl htup htn => ?_
    have gdb : Gd mg mb (eraseL h5 [F, env.locals, L]) := ggd.keep fun b o e => eraseL_keep _ _ _ _ (fun q => by
      simp only [List.mem_cons, List.not_mem_nil, or_false] at q
      rcases q with q | q | q
      · rw [q, gno F (List.mem_append_right _ hFW)] at e; cases e
      · rw [q, gno _ RW] at e; cases e
      · have := gkp b o e; rw [q, hLfresh] at this; cases this) (gkp5 b o e)
    have hn0 : h₀.Ns env.locals _ := hn5.at' fun o e => kp0 _ o hRL hRI e
    refine r_caught (s := { (({ s4 with heap := h5, toks := s4.toks + 1 } : Shared).setGen s₁.gens.size .running).setGen s₁.gens.size .finished with heap := h', toks := k }) g (by have := rmd.u; omega) hfr2 (eraseL_none (by simp)) gdb hn0 sm hfl htup htn fun h6 k6 st6 sl6 => ?_
    rw [← hr]
    refine hQ tk _ ⟨fun b o hb e => ?_, fun o e hnf => ?_, fun {q} hq => ?_, os4⟩
    · obtain ⟨q1, q2, q3, q4⟩ := old b o e
      refine st6 b o (eraseL_keep _ _ _ _ ?_ q4)
      simp [hb, q1, q3]
    · obtain ⟨q1, q2, q3, q4⟩ := old F o e
      exact sl6 F o q3 (kp0 F o q1 q2 q4) hnf
    · exact set_gok (z := .running) (s := { s4 with heap := h5, toks := s4.toks + 1 }) hq (hbare4 hq) g0 hgs rfl
  · have hr : refusal is = "" := by unfold refusal; rw [if_neg h0]
    obtain ⟨ys, hys⟩ := gis_one is h0
    have hgo : GenState.Goes (model prog w) A2.in1 (gR L It (decide (ys.length = 0 + 1))) (gY L It [] ys (decide (ys.length = 0 + 1))) ys.length (.fresh (.func (gBody p3) genv)) (.send .none) (({ s4 with heap := h5, toks := s4.toks + 1 } : Shared).setGen s₁.gens.size .running) :=
      gen_fresh (A := A2.in1) (W := It :: L :: (envA env ++ W)) ge rmd.h (fun a ha => by cases ha) (fun q => by cases q) (fun q => by cases q) List.mem_cons_self hIL il hIt (k := 0) hys rfl gf
    have fin : ∀ (sx : Shared) (y : GenState) (hh : Heap) (tk : Nat), y.bare = true → GMv L It (({ s4 with heap := h5, toks := s4.toks + 1 } : Shared).setGen s₁.gens.size .running) sx → (∀ b o, b ≠ env.locals → sx.heap.get? b = some o → hh.get? b = some o) → RefEnd F s { sx.setGen s₁.gens.size y with heap := hh, toks := tk } := by
      intro sx y hh tk hy mv kh
      obtain ⟨h1, tk1, e⟩ := mv.is
      refine Grow.refEnd ⟨fun b o eb => ?_, fun {q} hq => ?_, ?_⟩ F
      · obtain ⟨q1, q2, q3, q4⟩ := old b o eb
        exact kh b o q3 (mv.keep b o q1 q2 q4)
      · subst e
        exact set_gok (z := .running) (s := { s4 with heap := h5, toks := s4.toks + 1 }) hq (hbare4 hq) g0 hgs hy
      · subst e; exact os4
    refine next_gen (Pe := fun n s₀ s₁ => n = 0 ∧ decide (ys.length = 0 + 1) = false ∧ GMv L It s₀ s₁) (Y := gY L It [] ys (decide (ys.length = 0 + 1))) rmd.h lim5 (by have := rmd.d; omega) hgen5 hgs hgo (fun v sx gs' hb hv => ?_) (fun sx hpe h' kh => ?_)
    · obtain ⟨_, mv, lL, lI, _⟩ := hv
      refine wpAny_of_eq (a := ()) rfl ?_
      have hn6 : (sx.setGen s₁.gens.size gs').heap.Ns env.locals _ := hn5.at' fun o e => mv.keep _ o hRL hRI e
      refine wpAny_assign_Name (r_store g hn6 (y := "size") rfl fun h7 hn7 hs7 => ?_)
      refine wpAny_execs_cons (wpAny_Return_some (wpAny_Constant_str ?_))
      rw [hr] at hQ
      exact hQ _ _ (fin sx gs' h7 _ hb mv fun b o hb e => (hs7.2 b hb).trans e)
    · obtain ⟨_, _, mv⟩ := hpe
      refine wpAny_execs_nil (wpAny_execs_nil (wpAny_execs_nil ?_))
      exact last _ _ (fin sx .finished h' sx.toks rfl mv fun b o _ e => kh b o e) hr
end
end Mine
end

section
set_option maxRecDepth 100000
set_option linter.unusedVariables false
namespace Mine
open PySem PySem.W PyProof.Rows PySem.Calls

theorem sem_assoc {α β γ : Type} (m : Sem α) (f : α → Sem β) (g : β → Sem γ) : (m >>= f) >>= g = m >>= fun a => f a >>= g := by
  rw [Sem.bind_eq_wrap', Sem.bind_eq_wrap', Sem.bind_eq_wrap', Sem.wrap_wrap]
  exact Sem.wrap_congr _ _ _ (fun a => by rw [Sem.bind_eq_wrap']) fun _ => rfl

theorem execs_app (env : Env) (b : List Stmt) : ∀ a : List Stmt, execs (a ++ b) env = execs a env >>= fun f => match f with | .next => execs b env | f => pure f
  | [] => rfl
  | st :: a => by
    rw [List.cons_append, execs_cons, execs_cons, sem_assoc]
    congr 1
    funext f
    cases f with
    | next => exact execs_app env b a
    | _ => rfl

section
variable {prog : Program} {w : World} {A : Around} {s₀ s s' : Shared} {P W W' : List Addr} {mg mb : Str → Option Value} {n : Nat} {env : Env} {ρ : Rho} {σ σ' : Stt} {r : Rec}

theorem RefEnd.ns {F : Addr} {m : Str → Option Value} (x : RefEnd F s s') (hn : s.heap.Ns F m) : s'.heap.Ns F m := by
  obtain ⟨o, es, ep, ho, hd, r⟩ := hn
  obtain ⟨sl, hs⟩ := x.slots o ho fun vs q => by rw [hd] at q; cases q
  exact ⟨_, es, ep, hs, hd, r⟩

/-- only the slots of the block's own object have changed -/
theorem Ex.ref (x : Ex mg mb n A s₀ P W s env σ) (y : RefEnd env.locals s s') : Ex mg mb n A s₀ P W s' env σ := by
  obtain ⟨m, hn⟩ := x.cx.S.ns
  have hF0 : s₀.heap.get? env.locals = none := x.en _ (envA_loc env)
  have hFW : env.locals ∈ W := x.cx.w.loc
  have off : OffW W s.heap s'.heap := fun b o hb e => y.keep b o (fun q => hb (q ▸ hFW)) e
  have slot : ∀ {z v}, Slot env s.heap z v → Slot env s'.heap z v := by
    intro z v sl
    rcases sl with ⟨e, m', hn', hm⟩ | ⟨e, c, hc, hi⟩
    · exact .inl ⟨e, m', y.ns hn', hm⟩
    · refine .inr ⟨e, c, hc, ?_⟩
      obtain ⟨o, ho, hd⟩ := hi
      exact ⟨o, y.keep c o (ns_ne_cell hn ⟨o, ho, hd⟩) ho, hd⟩
  refine ⟨⟨x.cx.room, x.cx.gd.off off, ⟨x.cx.S.kind, x.cx.S.glob, x.cx.S.bltn, ⟨m, y.ns hn⟩, fun z hz => ?_, x.cx.S.inj⟩, fun z d hz hv => ?_, x.cx.w, fun b hb => ?_⟩,
    ⟨fun b o e => y.keep b o (fun q => by rw [q, hF0] at e; cases e) (x.base.keep b o e), fun h => y.gens (x.base.gens h), y.os.trans x.base.os⟩, x.p, x.pe, x.en, fun z hz => ?_⟩
  · obtain ⟨c, v, h1, o, ho, hd⟩ := x.cx.S.cell z hz
    exact ⟨c, v, h1, o, y.keep c o (ns_ne_cell hn ⟨o, ho, hd⟩) ho, hd⟩
  · obtain ⟨v, h1, h2⟩ := x.cx.D z d hz hv
    exact ⟨v, slot h1, h2.off off⟩
  · obtain ⟨o, ho⟩ := x.cx.live b hb
    by_cases hbF : b = env.locals
    · subst hbF
      obtain ⟨_, _, _, h, _⟩ := y.ns hn
      exact ⟨_, h⟩
    · exact ⟨o, y.keep b o hbF ho⟩
  · obtain ⟨l, vs, ds, o⟩ := x.own z hz
    exact ⟨l, vs, ds, o.rho, slot o.slot, o.inW, o.notP, o.new, o.list.at fun q e => y.keep l q (fun z => o.notP (z ▸ x.pe _ (envA_loc env))) e, o.all.off off⟩

theorem law_ok (R : SoundX prog w mg mb (n + 1) r) {script d : D} {vs : List Value} {a : Addr} (h : lawF r script = some d) (ha : mg "law" = some (.ref a)) (hA : A.frames = some []) (rm : Room (n + 2) A) (gd : GdW mg mb W s.heap) (lv : Live W s.heap)
    (ia : IsAll W s.heap vs [script]) : Giv (model prog w) A W s (call (.ref a) vs) d := by
  intro Q E hQ
  unfold lawF at h
  simp only [Option.bind_eq_bind, Option.bind_eq_some_iff] at h
  obtain ⟨⟨ps, sc, body⟩, hd, h⟩ := h
  simp only [] at h
  split at h
  rotate_left
  · cases h
  rename_i σ hex
  have hps : ps = [("script" : Str)] := by
    have : (defOf "law").map (·.1) = some [("script" : Str)] := rfl
    rw [hd] at this; exact Option.some.inj this
  refine enter_ok (by decide) hd (by rw [hps]; rfl) ha rm gd lv ia fun env s₁ E' hsc hfre hloc x => ?_
  subst hsc
  rw [← List.take_append_drop lawAt body, execs_app]
  refine wpAny_bind (R.ex hex x _ _ fun f s2 W2 hf y => ?_)
  cases f with
  | next =>
    show wpAny _ _ (execs _ env) _ _ _
    generalize List.drop lawAt body = rest0 at h
    obtain ⟨st0, f, x0, c, e2, rest, rfl, ⟨p1, p2, p3, p4, p5, p6, ret, rfl⟩, hm, σ3, hrest⟩ := lawRest_inv h
    obtain ⟨rfl, hgl, hvar, hset, ⟨xs, is, u, hx, his, hlen, hsmall, hu, hru⟩, he2⟩ := lawMid_inv hm
    obtain ⟨Wf, xf, hWf⟩ := y.ex.release
    obtain ⟨pr, hdr⟩ := r_def
    obtain ⟨ar, or, _, _, _, _, har, hor, hdor, _⟩ := xf.cx.gd.gd.fns _ _ _ _ hdr
    have hds : evs (PR 3) env.scope σ.rho [.Name x0 p2] = some [.list xs] := by
      have : (PR 3).ev env.scope σ.rho (.Name x0 p2) = some (.list xs) := by
        rw [show (PR 3).ev = evF (PR 2) from rfl]
        (unfold evF; try dsimp only); rw [if_pos hvar]; exact hx
      exact evs_one rfl this
    refine wpAny_execs_cons (wpAny_If (wpAny_isTrue_BoolOp (wpAny_allTrue_Or_cons (wpAny_isTrue_Compare1 (Call_Name rfl (glob_ok hgl xf.cx har ?_)) (notSetMarks hset)))))
    refine callWith_function (args_ok (pr_sound 3) hds xf.cx _ _ fun vs3 s3 g3 ivs => ⟨⟨g3.keep _ _ hor, hdor⟩, ?_⟩)
    have x3 := y.ex.grow g3
    have xf3 := xf.grow g3
    have hfr2 : (A.deeper env).frames = some [env] := by show A.frames.map (env :: ·) = _; rw [hA]; rfl
    refine refusal_ok (n := n) hfr2 hfre x3.cx.S.kind x3.cx.S.ns xf3.cx.w.loc har xf3.cx.room xf3.cx.gd xf3.cx.live ivs his fun t s4 z => ?_
    have x4 := x3.ref z
    have xf4 := xf3.ref z
    refine R.ev hu xf4.cx _ _ fun v2 s5 g5 iv2 => ?_
    obtain ⟨t2, rfl⟩ := iv2.str'
    refine PyProof.Rows.ne_str (wpAny_truthy_bool ?_)
    rw [if_neg (by rw [hru]; simp)]
    refine R.toSound.ts he2 (xf4.grow g5).cx |> fun G => wpAny_allTrue_Or_cons (G _ _ fun s6 g6 => ?_)
    refine wpAny_allTrue_Or_nil ?_
    have x6 := (x4.grow g5).grow g6
    refine wpAny_execs_nil (R.ex hrest x6 _ _ fun f7 s7 W7 hf7 y7 => ?_)
    cases f7 with
    | ret v => exact hQ v s7 y7.ex.base (Is.sub (fun b hb => y7.ex.p b (List.mem_append_right _ hb)) hf7)
    | _ => exact hf7.elim
  | _ => exact hf.elim
end
end Mine
end

section
set_option linter.unusedVariables false
set_option maxRecDepth 100000
namespace Mine
namespace Hd
open PySem PySem.W PyProof.Rows

/-! the head of the law: the top of the text is run, piece by piece; what its functions are is told by their places in the text -/
noncomputable abbrev pg : Program := PySem.Challenge.rw_pk0047_01.row.toRowW.1
noncomputable def p0 : Pos := ⟨0, 0, 0, 0⟩
noncomputable def stAt (i : Nat) : Stmt := pg.main.body.getD i (.Pass p0)
noncomputable def fPar (i : Nat) : Arguments := match stAt i with
  | .FunctionDef _ a _ _ _ _ _ _ _ _ => a
  | _ => ⟨[], [], none, [], [], none, []⟩
noncomputable def fBody (i : Nat) : List Stmt := match stAt i with
  | .FunctionDef _ _ b _ _ _ _ _ _ _ => b
  | _ => []
noncomputable def fScope (i : Nat) : Scope := match stAt i with
  | .FunctionDef _ _ _ _ _ _ sc _ _ _ => sc
  | _ => pg.main.scope
/-- the view: what of the text the walk leans on -/
noncomputable def view : Program := { pg with main := { pg.main with body := [1, 2, 4, 5, 6, 8, 9, 10, 11, 12, 13, 14, 15].map stAt } }
noncomputable def o_43 : Params → Obj := fun P => { cls := Value.type "tuple", data := Data.seq #[] }
noncomputable def o_44 : Params → Obj := fun P => { cls := Value.none, data := Data.fields #[] }
noncomputable def o_45 : Params → Obj := fun P =>
  { cls := Value.type "code",
    data :=
      Data.fields
        #[Value.str (Str.ofString "<module>") 182, Value.str (Str.ofString "<module>") 183,
          Value.str (Str.ofString "/claim/cut.py") 184, Value.int 1 0, Value.int 0 0,
          Value.int 0 0, Value.int 0 0, Value.int 0 0, Value.ref 11, Value.bool false,
          Value.int 181 0, Value.ref 12, Value.none, Value.none, Value.none,
          Value.none, Value.int 185 0, Value.int 1 0,
          Value.str (Str.ofString "/claim/cut.py") 186] }
noncomputable def o_46 : Params → Obj := fun P =>
  { cls := Value.type "frame",
    slots :=
      #[some (Value.ref 13), some (Value.ref 3), some (Value.ref 3), none,
        some (Value.str (Str.ofString "__main__") 164), none, some (Value.ref 0)] }
noncomputable def o_49 : Params → Obj := fun P =>
  { cls := Value.type "dict",
    data :=
      Data.dict
        #[{ hash := PyData.keyHash P (Str.ofString "__name__"),
            key := Value.str (Str.ofString "__name__") 165,
            val := Value.str (Str.ofString "law_pk0047_01") 225 },
          { hash := PyData.keyHash P (Str.ofString "__doc__"),
            key := Value.str (Str.ofString "__doc__") 166, val := Value.none },
          { hash := PyData.keyHash P (Str.ofString "__package__"),
            key := Value.str (Str.ofString "__package__") 167, val := Value.none },
          { hash := PyData.keyHash P (Str.ofString "__loader__"),
            key := Value.str (Str.ofString "__loader__") 168,
            val := Value.builtin "__main__.__loader__#opaque" },
          { hash := PyData.keyHash P (Str.ofString "__spec__"),
            key := Value.str (Str.ofString "__spec__") 169, val := Value.none },
          { hash := PyData.keyHash P (Str.ofString "__annotations__"),
            key := Value.str (Str.ofString "__annotations__") 170, val := Value.ref 6 },
          { hash := PyData.keyHash P (Str.ofString "__builtins__"),
            key := Value.str (Str.ofString "__builtins__") 171, val := Value.ref 4 },
          { hash := PyData.keyHash P (Str.ofString "__file__"),
            key := Value.str (Str.ofString "__file__") 173,
            val := Value.str (Str.ofString "/claim/cut.py") 172 },
          { hash := PyData.keyHash P (Str.ofString "__cached__"),
            key := Value.str (Str.ofString "__cached__") 174, val := Value.none },
          { hash := PyData.keyHash P (Str.ofString "ELLIPSIS_MARKER"),
            key := Value.str (Str.ofString "ELLIPSIS_MARKER") 190,
            val := Value.str (Str.ofString "...") 189 },
          { hash := PyData.keyHash P (Str.ofString "_ellipsis_match"),
            key := Value.str (Str.ofString "_ellipsis_match") 202, val := Value.ref 21 },
          { hash := PyData.keyHash P (Str.ofString "CHAR_MAX"),
            key := Value.str (Str.ofString "CHAR_MAX") 206, val := Value.int 127 205 },
          { hash := PyData.keyHash P (Str.ofString "_grouping_intervals"),
            key := Value.str (Str.ofString "_grouping_intervals") 215, val := Value.ref 28 },
          { hash := PyData.keyHash P (Str.ofString "_build_localename"),
            key := Value.str (Str.ofString "_build_localename") 224, val := Value.ref 35 },
          { hash := PyData.keyHash P (Str.ofString "_law_refusal"),
            key := Value.str (Str.ofString "_law_refusal") 236, val := Value.ref 42 },
          { hash := PyData.keyHash P (Str.ofString "_law_sums"),
            key := Value.str (Str.ofString "_law_sums") 245, val := Value.ref 49 },
          { hash := PyData.keyHash P (Str.ofString "_law_marks"),
            key := Value.str (Str.ofString "_law_marks") 251, val := Value.ref 54 },
          { hash := PyData.keyHash P (Str.ofString "_law_tokens"),
            key := Value.str (Str.ofString "_law_tokens") 260, val := Value.ref 61 },
          { hash := PyData.keyHash P (Str.ofString "_law_taken"),
            key := Value.str (Str.ofString "_law_taken") 266, val := Value.ref 66 },
          { hash := PyData.keyHash P (Str.ofString "_law_counts"),
            key := Value.str (Str.ofString "_law_counts") 272, val := Value.ref 71 },
          { hash := PyData.keyHash P (Str.ofString "_law_told"),
            key := Value.str (Str.ofString "_law_told") 278, val := Value.ref 76 },
          { hash := PyData.keyHash P (Str.ofString "law"),
            key := Value.str (Str.ofString "law") 284, val := Value.ref 81 }]
        22 }
noncomputable def o_50 : Params → Obj := fun P =>
  { cls := Value.none,
    data :=
      Data.fields
        #[Value.int 3 0, Value.int 0 0, Value.ref 20, Value.int 33 0, Value.int 0 0,
          Value.ref 27, Value.int 45 0, Value.int 0 0, Value.ref 34, Value.int 57 0,
          Value.int 0 0, Value.ref 41, Value.int 65 0, Value.int 0 0, Value.ref 48,
          Value.int 72 0, Value.int 0 0, Value.ref 53, Value.int 77 0, Value.int 0 0,
          Value.ref 60, Value.int 84 0, Value.int 0 0, Value.ref 65, Value.int 92 0,
          Value.int 0 0, Value.ref 70, Value.int 106 0, Value.int 0 0, Value.ref 75,
          Value.int 109 0, Value.int 0 0, Value.ref 80] }
noncomputable def o_51 : Params → Obj := fun P => { cls := Value.type "tuple", data := Data.seq #[] }
noncomputable def o_52 : Params → Obj := fun P => { cls := Value.none, data := Data.fields #[] }
noncomputable def o_53 : Params → Obj := fun P =>
  { cls := Value.type "tuple",
    data :=
      Data.seq
        #[Value.str (Str.ofString "want") 194, Value.str (Str.ofString "got") 195,
          Value.str (Str.ofString "ws") 196, Value.str (Str.ofString "startpos") 197,
          Value.str (Str.ofString "endpos") 198, Value.str (Str.ofString "w") 199] }
noncomputable def o_54 : Params → Obj := fun P => { cls := Value.type "tuple", data := Data.seq #[] }
noncomputable def o_55 : Params → Obj := fun P =>
  { cls := Value.none,
    data :=
      Data.func
        { name := Str.ofString "_ellipsis_match", qualname := Str.ofString "_ellipsis_match",
          params := fPar 2, body := FuncBody.stmts (fBody 2), scope := fScope 2, globals := 0,
          closure := [], defaults := Value.none, kwdefaults := Value.none } }
noncomputable def o_56 : Params → Obj := fun P =>
  { cls := Value.type "code",
    data :=
      Data.fields
        #[Value.str (Str.ofString "_ellipsis_match") 191,
          Value.str (Str.ofString "_ellipsis_match") 192,
          Value.str (Str.ofString "/claim/cut.py") 193, Value.int 3 0, Value.int 2 0,
          Value.int 0 0, Value.int 0 0, Value.int 3 0, Value.ref 15, Value.bool true,
          Value.int 181 0, Value.ref 16, Value.none, Value.ref 17, Value.ref 18,
          Value.ref 19, Value.int 200 0, Value.int 3 0,
          Value.str (Str.ofString "/claim/cut.py") 201] }
noncomputable def o_57 : Params → Obj := fun P =>
  { cls := Value.type "function",
    data :=
      Data.func
        { name := Str.ofString "_ellipsis_match", qualname := Str.ofString "_ellipsis_match",
          params := fPar 2, body := FuncBody.stmts (fBody 2), scope := fScope 2, globals := 3,
          closure := [], defaults := Value.none, kwdefaults := Value.none,
          pyModule := Value.str (Str.ofString "cpy313.doctest") 187, code := Value.ref 20 } }
noncomputable def o_58 : Params → Obj := fun P => { cls := Value.type "tuple", data := Data.seq #[] }
noncomputable def o_59 : Params → Obj := fun P => { cls := Value.none, data := Data.fields #[] }
noncomputable def o_60 : Params → Obj := fun P =>
  { cls := Value.type "tuple",
    data :=
      Data.seq
        #[Value.str (Str.ofString "grouping") 210, Value.str (Str.ofString "last_interval") 211,
          Value.str (Str.ofString "interval") 212] }
noncomputable def o_61 : Params → Obj := fun P => { cls := Value.type "tuple", data := Data.seq #[] }
noncomputable def o_62 : Params → Obj := fun P =>
  { cls := Value.none,
    data :=
      Data.func
        { name := Str.ofString "_grouping_intervals", qualname := Str.ofString "_grouping_intervals",
          params := fPar 5, body := FuncBody.stmts (fBody 5), scope := fScope 5, globals := 0,
          closure := [], defaults := Value.none, kwdefaults := Value.none } }
noncomputable def o_63 : Params → Obj := fun P =>
  { cls := Value.type "code",
    data :=
      Data.fields
        #[Value.str (Str.ofString "_grouping_intervals") 207,
          Value.str (Str.ofString "_grouping_intervals") 208,
          Value.str (Str.ofString "/claim/cut.py") 209, Value.int 33 0, Value.int 1 0,
          Value.int 0 0, Value.int 0 0, Value.int 35 0, Value.ref 22, Value.bool true,
          Value.int 181 0, Value.ref 23, Value.none, Value.ref 24, Value.ref 25,
          Value.ref 26, Value.int 213 0, Value.int 33 0,
          Value.str (Str.ofString "/claim/cut.py") 214] }
noncomputable def o_64 : Params → Obj := fun P =>
  { cls := Value.type "function",
    data :=
      Data.func
        { name := Str.ofString "_grouping_intervals", qualname := Str.ofString "_grouping_intervals",
          params := fPar 5, body := FuncBody.stmts (fBody 5), scope := fScope 5, globals := 3,
          closure := [], defaults := Value.none, kwdefaults := Value.none,
          pyModule := Value.str (Str.ofString "cpy313.locale") 203, code := Value.ref 27 } }
noncomputable def o_65 : Params → Obj := fun P => { cls := Value.type "tuple", data := Data.seq #[] }
noncomputable def o_66 : Params → Obj := fun P => { cls := Value.none, data := Data.fields #[] }
noncomputable def o_67 : Params → Obj := fun P =>
  { cls := Value.type "tuple",
    data :=
      Data.seq
        #[Value.str (Str.ofString "localetuple") 219, Value.str (Str.ofString "language") 220,
          Value.str (Str.ofString "encoding") 221] }
noncomputable def o_68 : Params → Obj := fun P => { cls := Value.type "tuple", data := Data.seq #[] }
noncomputable def o_69 : Params → Obj := fun P =>
  { cls := Value.none,
    data :=
      Data.func
        { name := Str.ofString "_build_localename", qualname := Str.ofString "_build_localename",
          params := fPar 6, body := FuncBody.stmts (fBody 6), scope := fScope 6, globals := 0,
          closure := [], defaults := Value.none, kwdefaults := Value.none } }
noncomputable def o_70 : Params → Obj := fun P =>
  { cls := Value.type "code",
    data :=
      Data.fields
        #[Value.str (Str.ofString "_build_localename") 216,
          Value.str (Str.ofString "_build_localename") 217,
          Value.str (Str.ofString "/claim/cut.py") 218, Value.int 45 0, Value.int 1 0,
          Value.int 0 0, Value.int 0 0, Value.int 3 0, Value.ref 29, Value.bool true,
          Value.int 181 0, Value.ref 30, Value.none, Value.ref 31, Value.ref 32,
          Value.ref 33, Value.int 222 0, Value.int 45 0,
          Value.str (Str.ofString "/claim/cut.py") 223] }
noncomputable def o_71 : Params → Obj := fun P =>
  { cls := Value.type "function",
    data :=
      Data.func
        { name := Str.ofString "_build_localename", qualname := Str.ofString "_build_localename",
          params := fPar 6, body := FuncBody.stmts (fBody 6), scope := fScope 6, globals := 3,
          closure := [], defaults := Value.none, kwdefaults := Value.none,
          pyModule := Value.str (Str.ofString "cpy313.locale") 203, code := Value.ref 34 } }
noncomputable def o_72 : Params → Obj := fun P => { cls := Value.type "tuple", data := Data.seq #[] }
noncomputable def o_73 : Params → Obj := fun P => { cls := Value.none, data := Data.fields #[] }
noncomputable def o_74 : Params → Obj := fun P =>
  { cls := Value.type "tuple",
    data :=
      Data.seq
        #[Value.str (Str.ofString "row") 230, Value.str (Str.ofString "sizes") 231,
          Value.str (Str.ofString "size") 232, Value.str (Str.ofString "error") 233] }
noncomputable def o_75 : Params → Obj := fun P => { cls := Value.type "tuple", data := Data.seq #[] }
noncomputable def o_76 : Params → Obj := fun P =>
  { cls := Value.none,
    data :=
      Data.func
        { name := Str.ofString "_law_refusal", qualname := Str.ofString "_law_refusal",
          params := fPar 8, body := FuncBody.stmts (fBody 8), scope := fScope 8, globals := 0,
          closure := [], defaults := Value.none, kwdefaults := Value.none } }
noncomputable def o_77 : Params → Obj := fun P =>
  { cls := Value.type "code",
    data :=
      Data.fields
        #[Value.str (Str.ofString "_law_refusal") 227,
          Value.str (Str.ofString "_law_refusal") 228,
          Value.str (Str.ofString "/claim/cut.py") 229, Value.int 57 0, Value.int 1 0,
          Value.int 0 0, Value.int 0 0, Value.int 3 0, Value.ref 36, Value.bool true,
          Value.int 181 0, Value.ref 37, Value.none, Value.ref 38, Value.ref 39,
          Value.ref 40, Value.int 234 0, Value.int 57 0,
          Value.str (Str.ofString "/claim/cut.py") 235] }
noncomputable def o_78 : Params → Obj := fun P =>
  { cls := Value.type "function",
    data :=
      Data.func
        { name := Str.ofString "_law_refusal", qualname := Str.ofString "_law_refusal",
          params := fPar 8, body := FuncBody.stmts (fBody 8), scope := fScope 8, globals := 3,
          closure := [], defaults := Value.none, kwdefaults := Value.none,
          pyModule := Value.str (Str.ofString "law_pk0047_01") 225, code := Value.ref 41 } }
noncomputable def o_79 : Params → Obj := fun P => { cls := Value.type "tuple", data := Data.seq #[] }
noncomputable def o_80 : Params → Obj := fun P => { cls := Value.none, data := Data.fields #[] }
noncomputable def o_81 : Params → Obj := fun P =>
  { cls := Value.type "tuple",
    data :=
      Data.seq
        #[Value.str (Str.ofString "row") 240, Value.str (Str.ofString "sums") 241,
          Value.str (Str.ofString "size") 242] }
noncomputable def o_82 : Params → Obj := fun P => { cls := Value.type "tuple", data := Data.seq #[] }
noncomputable def o_83 : Params → Obj := fun P =>
  { cls := Value.none,
    data :=
      Data.func
        { name := Str.ofString "_law_sums", qualname := Str.ofString "_law_sums", params := fPar 9,
          body := FuncBody.stmts (fBody 9), scope := fScope 9, globals := 0, closure := [],
          defaults := Value.none, kwdefaults := Value.none } }
noncomputable def o_84 : Params → Obj := fun P =>
  { cls := Value.type "code",
    data :=
      Data.fields
        #[Value.str (Str.ofString "_law_sums") 237, Value.str (Str.ofString "_law_sums") 238,
          Value.str (Str.ofString "/claim/cut.py") 239, Value.int 65 0, Value.int 1 0,
          Value.int 0 0, Value.int 0 0, Value.int 3 0, Value.ref 43, Value.bool true,
          Value.int 181 0, Value.ref 44, Value.none, Value.ref 45, Value.ref 46,
          Value.ref 47, Value.int 243 0, Value.int 65 0,
          Value.str (Str.ofString "/claim/cut.py") 244] }
noncomputable def o_85 : Params → Obj := fun P =>
  { cls := Value.type "function",
    data :=
      Data.func
        { name := Str.ofString "_law_sums", qualname := Str.ofString "_law_sums", params := fPar 9,
          body := FuncBody.stmts (fBody 9), scope := fScope 9, globals := 3, closure := [],
          defaults := Value.none, kwdefaults := Value.none,
          pyModule := Value.str (Str.ofString "law_pk0047_01") 225, code := Value.ref 48 } }
noncomputable def o_86 : Params → Obj := fun P => { cls := Value.type "tuple", data := Data.seq #[] }
noncomputable def o_87 : Params → Obj := fun P => { cls := Value.none, data := Data.fields #[] }
noncomputable def o_88 : Params → Obj := fun P =>
  { cls := Value.none,
    data :=
      Data.func
        { name := Str.ofString "_law_marks", qualname := Str.ofString "_law_marks", params := fPar 10,
          body := FuncBody.stmts (fBody 10), scope := fScope 10, globals := 0, closure := [],
          defaults := Value.none, kwdefaults := Value.none } }
noncomputable def o_89 : Params → Obj := fun P =>
  { cls := Value.type "code",
    data :=
      Data.fields
        #[Value.str (Str.ofString "_law_marks") 246, Value.str (Str.ofString "_law_marks") 247,
          Value.str (Str.ofString "/claim/cut.py") 248, Value.int 72 0, Value.int 1 0,
          Value.int 0 0, Value.int 0 0, Value.int 3 0, Value.ref 50, Value.bool true,
          Value.int 181 0, Value.ref 51, Value.none, Value.none, Value.none,
          Value.ref 52, Value.int 249 0, Value.int 72 0,
          Value.str (Str.ofString "/claim/cut.py") 250] }
noncomputable def o_90 : Params → Obj := fun P =>
  { cls := Value.type "function",
    data :=
      Data.func
        { name := Str.ofString "_law_marks", qualname := Str.ofString "_law_marks", params := fPar 10,
          body := FuncBody.stmts (fBody 10), scope := fScope 10, globals := 3, closure := [],
          defaults := Value.none, kwdefaults := Value.none,
          pyModule := Value.str (Str.ofString "law_pk0047_01") 225, code := Value.ref 53 } }
noncomputable def o_91 : Params → Obj := fun P => { cls := Value.type "tuple", data := Data.seq #[] }
noncomputable def o_92 : Params → Obj := fun P => { cls := Value.none, data := Data.fields #[] }
noncomputable def o_93 : Params → Obj := fun P =>
  { cls := Value.type "tuple",
    data :=
      Data.seq
        #[Value.str (Str.ofString "want") 255, Value.str (Str.ofString "parts") 256,
          Value.str (Str.ofString "sign") 257] }
noncomputable def o_94 : Params → Obj := fun P => { cls := Value.type "tuple", data := Data.seq #[] }
noncomputable def o_95 : Params → Obj := fun P =>
  { cls := Value.none,
    data :=
      Data.func
        { name := Str.ofString "_law_tokens", qualname := Str.ofString "_law_tokens",
          params := fPar 11, body := FuncBody.stmts (fBody 11), scope := fScope 11, globals := 0,
          closure := [], defaults := Value.none, kwdefaults := Value.none } }
noncomputable def o_96 : Params → Obj := fun P =>
  { cls := Value.type "code",
    data :=
      Data.fields
        #[Value.str (Str.ofString "_law_tokens") 252,
          Value.str (Str.ofString "_law_tokens") 253,
          Value.str (Str.ofString "/claim/cut.py") 254, Value.int 77 0, Value.int 1 0,
          Value.int 0 0, Value.int 0 0, Value.int 3 0, Value.ref 55, Value.bool true,
          Value.int 181 0, Value.ref 56, Value.none, Value.ref 57, Value.ref 58,
          Value.ref 59, Value.int 258 0, Value.int 77 0,
          Value.str (Str.ofString "/claim/cut.py") 259] }
noncomputable def o_97 : Params → Obj := fun P =>
  { cls := Value.type "function",
    data :=
      Data.func
        { name := Str.ofString "_law_tokens", qualname := Str.ofString "_law_tokens",
          params := fPar 11, body := FuncBody.stmts (fBody 11), scope := fScope 11, globals := 3,
          closure := [], defaults := Value.none, kwdefaults := Value.none,
          pyModule := Value.str (Str.ofString "law_pk0047_01") 225, code := Value.ref 60 } }
noncomputable def o_98 : Params → Obj := fun P => { cls := Value.type "tuple", data := Data.seq #[] }
noncomputable def o_99 : Params → Obj := fun P => { cls := Value.none, data := Data.fields #[] }
noncomputable def o_100 : Params → Obj := fun P =>
  { cls := Value.none,
    data :=
      Data.func
        { name := Str.ofString "_law_taken", qualname := Str.ofString "_law_taken", params := fPar 12,
          body := FuncBody.stmts (fBody 12), scope := fScope 12, globals := 0, closure := [],
          defaults := Value.none, kwdefaults := Value.none } }
noncomputable def o_101 : Params → Obj := fun P =>
  { cls := Value.type "code",
    data :=
      Data.fields
        #[Value.str (Str.ofString "_law_taken") 261, Value.str (Str.ofString "_law_taken") 262,
          Value.str (Str.ofString "/claim/cut.py") 263, Value.int 84 0, Value.int 2 0,
          Value.int 0 0, Value.int 0 0, Value.int 3 0, Value.ref 62, Value.bool true,
          Value.int 181 0, Value.ref 63, Value.none, Value.none, Value.none,
          Value.ref 64, Value.int 264 0, Value.int 84 0,
          Value.str (Str.ofString "/claim/cut.py") 265] }
noncomputable def o_102 : Params → Obj := fun P =>
  { cls := Value.type "function",
    data :=
      Data.func
        { name := Str.ofString "_law_taken", qualname := Str.ofString "_law_taken", params := fPar 12,
          body := FuncBody.stmts (fBody 12), scope := fScope 12, globals := 3, closure := [],
          defaults := Value.none, kwdefaults := Value.none,
          pyModule := Value.str (Str.ofString "law_pk0047_01") 225, code := Value.ref 65 } }
noncomputable def o_103 : Params → Obj := fun P => { cls := Value.type "tuple", data := Data.seq #[] }
noncomputable def o_104 : Params → Obj := fun P => { cls := Value.none, data := Data.fields #[] }
noncomputable def o_105 : Params → Obj := fun P =>
  { cls := Value.none,
    data :=
      Data.func
        { name := Str.ofString "_law_counts", qualname := Str.ofString "_law_counts",
          params := fPar 13, body := FuncBody.stmts (fBody 13), scope := fScope 13, globals := 0,
          closure := [], defaults := Value.none, kwdefaults := Value.none } }
noncomputable def o_106 : Params → Obj := fun P =>
  { cls := Value.type "code",
    data :=
      Data.fields
        #[Value.str (Str.ofString "_law_counts") 267,
          Value.str (Str.ofString "_law_counts") 268,
          Value.str (Str.ofString "/claim/cut.py") 269, Value.int 92 0, Value.int 2 0,
          Value.int 0 0, Value.int 0 0, Value.int 3 0, Value.ref 67, Value.bool true,
          Value.int 181 0, Value.ref 68, Value.none, Value.none, Value.none,
          Value.ref 69, Value.int 270 0, Value.int 92 0,
          Value.str (Str.ofString "/claim/cut.py") 271] }
noncomputable def o_107 : Params → Obj := fun P =>
  { cls := Value.type "function",
    data :=
      Data.func
        { name := Str.ofString "_law_counts", qualname := Str.ofString "_law_counts",
          params := fPar 13, body := FuncBody.stmts (fBody 13), scope := fScope 13, globals := 3,
          closure := [], defaults := Value.none, kwdefaults := Value.none,
          pyModule := Value.str (Str.ofString "law_pk0047_01") 225, code := Value.ref 70 } }
noncomputable def o_108 : Params → Obj := fun P => { cls := Value.type "tuple", data := Data.seq #[] }
noncomputable def o_109 : Params → Obj := fun P => { cls := Value.none, data := Data.fields #[] }
noncomputable def o_110 : Params → Obj := fun P =>
  { cls := Value.none,
    data :=
      Data.func
        { name := Str.ofString "_law_told", qualname := Str.ofString "_law_told", params := fPar 14,
          body := FuncBody.stmts (fBody 14), scope := fScope 14, globals := 0, closure := [],
          defaults := Value.none, kwdefaults := Value.none } }
noncomputable def o_111 : Params → Obj := fun P =>
  { cls := Value.type "code",
    data :=
      Data.fields
        #[Value.str (Str.ofString "_law_told") 273, Value.str (Str.ofString "_law_told") 274,
          Value.str (Str.ofString "/claim/cut.py") 275, Value.int 106 0, Value.int 2 0,
          Value.int 0 0, Value.int 0 0, Value.int 3 0, Value.ref 72, Value.bool true,
          Value.int 181 0, Value.ref 73, Value.none, Value.none, Value.none,
          Value.ref 74, Value.int 276 0, Value.int 106 0,
          Value.str (Str.ofString "/claim/cut.py") 277] }
noncomputable def o_112 : Params → Obj := fun P =>
  { cls := Value.type "function",
    data :=
      Data.func
        { name := Str.ofString "_law_told", qualname := Str.ofString "_law_told", params := fPar 14,
          body := FuncBody.stmts (fBody 14), scope := fScope 14, globals := 3, closure := [],
          defaults := Value.none, kwdefaults := Value.none,
          pyModule := Value.str (Str.ofString "law_pk0047_01") 225, code := Value.ref 75 } }
noncomputable def o_113 : Params → Obj := fun P => { cls := Value.type "tuple", data := Data.seq #[] }
noncomputable def o_114 : Params → Obj := fun P => { cls := Value.none, data := Data.fields #[] }
noncomputable def o_115 : Params → Obj := fun P =>
  { cls := Value.none,
    data :=
      Data.func
        { name := Str.ofString "law", qualname := Str.ofString "law", params := fPar 15,
          body := FuncBody.stmts (fBody 15), scope := fScope 15, globals := 0, closure := [],
          defaults := Value.none, kwdefaults := Value.none } }
noncomputable def o_116 : Params → Obj := fun P =>
  { cls := Value.type "code",
    data :=
      Data.fields
        #[Value.str (Str.ofString "law") 279, Value.str (Str.ofString "law") 280,
          Value.str (Str.ofString "/claim/cut.py") 281, Value.int 109 0, Value.int 1 0,
          Value.int 0 0, Value.int 0 0, Value.int 3 0, Value.ref 77, Value.bool true,
          Value.int 181 0, Value.ref 78, Value.none, Value.none, Value.none,
          Value.ref 79, Value.int 282 0, Value.int 109 0,
          Value.str (Str.ofString "/claim/cut.py") 283] }
noncomputable def o_117 : Params → Obj := fun P =>
  { cls := Value.type "function",
    data :=
      Data.func
        { name := Str.ofString "law", qualname := Str.ofString "law", params := fPar 15,
          body := FuncBody.stmts (fBody 15), scope := fScope 15, globals := 3, closure := [],
          defaults := Value.none, kwdefaults := Value.none,
          pyModule := Value.str (Str.ofString "law_pk0047_01") 225, code := Value.ref 80 } }
noncomputable def env_41 : Env := {
  scope :=
    Module.scope
      (Program.main (OpenRow.toRowW (OpenLaw.row PySem.Challenge.rw_pk0047_01)).1),
  locals := mainNs, globals := mainNs, cells := [], code := Value.ref 13, frame := some 14 }
noncomputable def heap_46 : Params → Heap := fun P =>
  {
    objs :=
      {
        toList :=
          [boot_o_0 P, boot_o_1 P, boot_o_2 P, boot_o_3 P, boot_o_4 P,
            boot_o_5 P, boot_o_6 P, boot_o_7 P, boot_o_8 P, boot_o_9 P,
            boot_o_10 P, o_43 P, o_44 P, o_45 P, o_46 P] } }
noncomputable def tree_47 : Params → BT := fun P =>
  BT.node (boot_o_0 P)
    (BT.node (boot_o_1 P)
      (BT.node (boot_o_3 P) (BT.node (boot_o_7 P) BT.nil BT.nil)
        (BT.node (o_43 P) BT.nil BT.nil))
      (BT.node (boot_o_5 P) (BT.node (boot_o_9 P) BT.nil BT.nil)
        (BT.node (o_45 P) BT.nil BT.nil)))
    (BT.node (boot_o_2 P)
      (BT.node (boot_o_4 P) (BT.node (boot_o_8 P) BT.nil BT.nil)
        (BT.node (o_44 P) BT.nil BT.nil))
      (BT.node (boot_o_6 P) (BT.node (boot_o_10 P) BT.nil BT.nil)
        (BT.node (o_46 P) BT.nil BT.nil)))
noncomputable def tree_117 : Params → BT := fun P =>
  BT.node (boot_o_0 P)
    (BT.node (boot_o_1 P)
      (BT.node (o_49 P)
        (BT.node (boot_o_7 P)
          (BT.node (o_51 P)
            (BT.node (o_67 P) (BT.node (o_99 P) BT.nil BT.nil)
              BT.nil)
            (BT.node (o_83 P) (BT.node (o_115 P) BT.nil BT.nil)
              BT.nil))
          (BT.node (o_59 P)
            (BT.node (o_75 P) (BT.node (o_107 P) BT.nil BT.nil)
              BT.nil)
            (BT.node (o_91 P) BT.nil BT.nil)))
        (BT.node (o_43 P)
          (BT.node (o_55 P)
            (BT.node (o_71 P) (BT.node (o_103 P) BT.nil BT.nil)
              BT.nil)
            (BT.node (o_87 P) BT.nil BT.nil))
          (BT.node (o_63 P)
            (BT.node (o_79 P) (BT.node (o_111 P) BT.nil BT.nil)
              BT.nil)
            (BT.node (o_95 P) BT.nil BT.nil))))
      (BT.node (boot_o_5 P)
        (BT.node (boot_o_9 P)
          (BT.node (o_53 P)
            (BT.node (o_69 P) (BT.node (o_101 P) BT.nil BT.nil)
              BT.nil)
            (BT.node (o_85 P) (BT.node (o_117 P) BT.nil BT.nil)
              BT.nil))
          (BT.node (o_61 P)
            (BT.node (o_77 P) (BT.node (o_109 P) BT.nil BT.nil)
              BT.nil)
            (BT.node (o_93 P) BT.nil BT.nil)))
        (BT.node (o_45 P)
          (BT.node (o_57 P)
            (BT.node (o_73 P) (BT.node (o_105 P) BT.nil BT.nil)
              BT.nil)
            (BT.node (o_89 P) BT.nil BT.nil))
          (BT.node (o_65 P)
            (BT.node (o_81 P) (BT.node (o_113 P) BT.nil BT.nil)
              BT.nil)
            (BT.node (o_97 P) BT.nil BT.nil)))))
    (BT.node (boot_o_2 P)
      (BT.node (boot_o_4 P)
        (BT.node (boot_o_8 P)
          (BT.node (o_52 P)
            (BT.node (o_68 P) (BT.node (o_100 P) BT.nil BT.nil)
              BT.nil)
            (BT.node (o_84 P) (BT.node (o_116 P) BT.nil BT.nil)
              BT.nil))
          (BT.node (o_60 P)
            (BT.node (o_76 P) (BT.node (o_108 P) BT.nil BT.nil)
              BT.nil)
            (BT.node (o_92 P) BT.nil BT.nil)))
        (BT.node (o_50 P)
          (BT.node (o_56 P)
            (BT.node (o_72 P) (BT.node (o_104 P) BT.nil BT.nil)
              BT.nil)
            (BT.node (o_88 P) BT.nil BT.nil))
          (BT.node (o_64 P)
            (BT.node (o_80 P) (BT.node (o_112 P) BT.nil BT.nil)
              BT.nil)
            (BT.node (o_96 P) BT.nil BT.nil))))
      (BT.node (boot_o_6 P)
        (BT.node (boot_o_10 P)
          (BT.node (o_54 P)
            (BT.node (o_70 P) (BT.node (o_102 P) BT.nil BT.nil)
              BT.nil)
            (BT.node (o_86 P) BT.nil BT.nil))
          (BT.node (o_62 P)
            (BT.node (o_78 P) (BT.node (o_110 P) BT.nil BT.nil)
              BT.nil)
            (BT.node (o_94 P) BT.nil BT.nil)))
        (BT.node (o_46 P)
          (BT.node (o_58 P)
            (BT.node (o_74 P) (BT.node (o_106 P) BT.nil BT.nil)
              BT.nil)
            (BT.node (o_90 P) BT.nil BT.nil))
          (BT.node (o_66 P)
            (BT.node (o_82 P) (BT.node (o_114 P) BT.nil BT.nil)
              BT.nil)
            (BT.node (o_98 P) BT.nil BT.nil)))))
noncomputable def heap_118 : Params → Heap := fun P =>
  {
    objs :=
      {
        toList :=
          [boot_o_0 P, boot_o_1 P, boot_o_2 P, o_49 P, boot_o_4 P,
            boot_o_5 P, boot_o_6 P, boot_o_7 P, boot_o_8 P, boot_o_9 P,
            boot_o_10 P, o_43 P, o_50 P, o_45 P, o_46 P, o_51 P,
            o_52 P, o_53 P, o_54 P, o_55 P, o_56 P, o_57 P,
            o_58 P, o_59 P, o_60 P, o_61 P, o_62 P, o_63 P,
            o_64 P, o_65 P, o_66 P, o_67 P, o_68 P, o_69 P,
            o_70 P, o_71 P, o_72 P, o_73 P, o_74 P, o_75 P,
            o_76 P, o_77 P, o_78 P, o_79 P, o_80 P, o_81 P,
            o_82 P, o_83 P, o_84 P, o_85 P, o_86 P, o_87 P,
            o_88 P, o_89 P, o_90 P, o_91 P, o_92 P, o_93 P,
            o_94 P, o_95 P, o_96 P, o_97 P, o_98 P, o_99 P,
            o_100 P, o_101 P, o_102 P, o_103 P, o_104 P, o_105 P,
            o_106 P, o_107 P, o_108 P, o_109 P, o_110 P, o_111 P,
            o_112 P, o_113 P, o_114 P, o_115 P, o_116 P, o_117 P] } }

noncomputable abbrev cE : Code := Code.body (behindTheImports pg) env_41
noncomputable abbrev tF : Frame := topFrame ⟨0, 0, 0, 0⟩
noncomputable abbrev ann : Option Value := some (Value.ref 6)
theorem pre : ∀ w : World, (fun os => topGo treeTable pg w 11 ann 12 { heap := boot_heap w.params, gens := Array.mk [], drawn := boot_drawn, toks := boot_toks, os := os } (topStub pg)) =
    fun os => some ({ heap := heap_46 w.params, toks := 187, os := os }, ⟨denote treeTable cE, cE, ⟨0, 0, 0, 0⟩, [tF]⟩) := fun w => by kernel_rfl
theorem block : ∀ w : World, (fun os => segRun treeTable pg w 11 ann 1 1 { heap := heap_46 w.params, toks := 187, os := os } (blockOf (behindTheImports pg) env_41 cE ⟨0, 0, 0, 0⟩ [tF])) =
    fun os => some (Flow.next, (SharedT.mk (tree_47 w.params) 15 {} #[] {} 187 os).abs, cE, ⟨0, 0, 0, 0⟩) := fun w => by kernel_rfl
theorem piece : ∀ w : World, (fun os => segRunT treeTable pg w 11 ann 1 366 (SharedT.mk (tree_47 w.params) 15 {} #[] {} 187 os) (piecesOf (behindTheImports pg) env_41 cE ⟨0, 0, 0, 0⟩ [tF])) =
    fun os => some (Flow.next, SharedT.mk (tree_117 w.params) 82 {} #[] {} 285 os, cE, ⟨109, 0, 140, 68⟩) := fun w => by kernel_rfl
theorem fin : ∀ w : World, (fun os => topRun treeTable pg w 11 ann 2 (SharedT.mk (tree_117 w.params) 82 {} #[] {} 285 os).abs ⟨doneF Flow.next, cE, ⟨109, 0, 140, 68⟩, [tF]⟩) =
    fun os => some { heap := heap_118 w.params, toks := 285, os := os } := fun w => by kernel_rfl
theorem run (w : World) (os : OsState) : topRun treeTable pg w 11 ann (12 + (1 + (366 + 2))) { heap := boot_heap w.params, gens := Array.mk [], drawn := boot_drawn, toks := boot_toks, os := os } (topStub pg) = some { heap := heap_118 w.params, toks := 285, os := os } := by
  refine go_top (congrFun (pre w) os) (piece_block (congrFun (block w) os) ?_)
  have h := piece_app (rest := []) (segRun_of (congrFun (piece w) os)) (congrFun (fin w) os)
  rw [List.append_nil] at h
  exact h
theorem size : ∀ w : World, ((boot_heap w.params).isNs mainGlobals && (Array.mk [] : Array GenState).size == 0, (boot_heap w.params).objs.size, (boot_heap w.params).nsMap mainGlobals "__annotations__") = (true, 11, ann) := fun w => by kernel_rfl
noncomputable abbrev fs (w : World) (os : OsState) : Shared := { heap := heap_118 w.params, toks := 285, os := os }
theorem l1 : ∀ w : World, (fun os => staticsOk (importedModules pg.main.body) (boot_heap w.params) (heap_118 w.params) && namesBound pg (heap_118 w.params) && gensDone (fs w os) && laidKept (boot_heap w.params) (heap_118 w.params)) = fun _ => true := fun w => by kernel_rfl
noncomputable abbrev Xt : Shared → Bool := fun s => xlAt view [] s && recOk PySem.Challenge.rw_pk0047_01.row.records s
theorem a1 : ∀ w : World, (fun os => seen ((recsOf view).map (·.name)) (ownsOf view) [] { heap := (fs w os).heap, toks := (fs w os).toks, os := (fs w os).os }) = fun _ => expectedOf view := fun w => by kernel_rfl
theorem a2 : ∀ w : World, (fun os => (fs w os).heap.bltView) = fun _ => bltViewBooted := fun w => by kernel_rfl
theorem a3 : ∀ w : World, (fun os => (fs w os).heap.keysOk (looseW view []) ((recsOf view).map (·.name)) ((litsOf view).map (·.1)) ((clssOf view (looseW view [])).map (·.name)) && (fs w os).heap.accountedOkI (importedModules pg.main.body) && (fs w os).heap.isNs mainGlobals && (fs w os).heap.isNs builtinsNs &&
    tablesOk view (fs w os).heap && Xt (fs w os) && if true = true then (fs w os).gens.size == 0 else !leftWithCleanup (fs w os).gens) = fun _ => true := fun w => by kernel_rfl
theorem a4 : ∀ w : World, (fun os => tabsOk view (fs w os)) = fun _ => true := fun w => by kernel_rfl
theorem a5 : ∀ w : World, (fun os => pinSeenD view (drecsOf view) (fs w os)) = fun _ => pinGoodD (drecsOf view) := fun w => by kernel_rfl
theorem a6 : ∀ w : World, (fun os => plainSeenE view (looseW view []) (fs w os)) = fun _ => plainGoodE view (looseW view []) := fun w => by kernel_rfl
theorem a7 : ∀ w : World, (fun os => plainSeenD view [] (fs w os)) = fun _ => plainGoodD view [] := fun w => by kernel_rfl
theorem a8 : ∀ w : World, (fun os => wideSeen view (fs w os)) = fun _ => wideGood view := fun w => by kernel_rfl
theorem a9 : ∀ w : World, (fun os => clsSeenW view [] (fs w os)) = fun _ => clsGoodW view [] := fun w => by kernel_rfl
theorem l2 (w : World) (os : OsState) : openSeen view [] (importedModules pg.main.body) Xt true (fs w os) = openGood view [] :=
  looks_pair (congrFun (a1 w) os) (looks_pair (congrFun (a2 w) os) (looks_pair (congrFun (a3 w) os) (looks_pair (congrFun (a4 w) os) (looks_pair (congrFun (a5 w) os) (looks_pair (congrFun (a6 w) os) (looks_pair (congrFun (a7 w) os) (looks_pair (congrFun (a8 w) os) (congrFun (a9 w) os))))))))
theorem left : LeftO pg view [] Xt Hook.none.obs Hook.none.val 880 true :=
  LeftO.of_pieces (boot_open (by kernel_rfl) (by decide) fun s => by kernel_rfl) size run (by decide) fun w => funext fun os => looks_pair (congrFun (l1 w) os) (looks_pair (l2 w os) rfl)
noncomputable def lawD : DefRec := ⟨"law", fPar 15, fBody 15, fScope 15, ⟨109, 0, 140, 68⟩⟩
/-! the looks at the text, each by itself -/
noncomputable abbrev lw : OpenLaw := PySem.Challenge.rw_pk0047_01
theorem c1 : (sreFenced lw.row.prog.main && ((moduleNames lw.row.prog.main.body).isEmpty || lookedIntoSs (moduleNames lw.row.prog.main.body) lw.row.prog.main.body)) = true := by kernel_rfl
theorem c2 : namesResolve lw.row.prog = true := by kernel_rfl
theorem c3 : lw.row.prog.boundNames.all (fun n => !worldNames.contains n) = true := by kernel_rfl
theorem c4 : noRoadLSs { strict := !(importedModules lw.row.prog.main.body).all cThrough.contains, foot := none, bare := (["vars", "dir", "locals"] : List Str).filter (readsOut lw.row.prog lw.row.prog.main.body) } lw.row.prog.main.body = true := by kernel_rfl
theorem c5 : (namesMeet lw.row.prog lw.row.prog.main.body fun _ n => attrL n) = true := by kernel_rfl
theorem looks : looksOpen lw.row.prog = true := look_both (look_both (look_both (look_both c1 c2) c3) c4) c5
theorem c6 : (lw.row.loose.isEmpty && (lw.row.makers.isEmpty && ((lw.row.records.isEmpty || lw.row.raises.all fun ct => ct.1 != .builtin "AttributeError" && ct.1 != .builtin "TypeError") &&
  ((lw.row.raises.all fun ct => match ct.1 with | .builtin n => !lw.row.prog.boundNames.contains (Str.ofString n) && !ofTheWorld.contains n | .own _ => true) &&
  (decide (lw.row.records.map (·.1)).Nodup && ((lw.row.records.all fun x => !x.1.opensWith "__" && !builtinNamed x.1 && lw.row.prog.boundNames.contains x.1 && x.2.all fun f => !f.1.opensWith "__") &&
  (lw.row.toRowW.solid && (lw.row.pre.litsOk && (lw.row.post.litsOk && (lw.row.raises.all (·.2.litsOk) &&
  (lw.row.mutates.all (fun i => match lw.row.args[i]? with
    | some sh => !sh.arms.any WShape.isObj
    | none => false) &&
  (lw.row.within.all (fun i => decide (i < lw.row.args.length)) && lw.row.same.all (fun i => decide (i < lw.row.args.length)))))))))))))) = true := by kernel_rfl
theorem and_assoc' {a b c : Bool} (h : (a && (b && c)) = true) : (a && b && c) = true := by rw [Bool.and_assoc]; exact h
theorem partly : lw.row.partSaid = true := by
  have h : (looksOpen lw.row.prog && _) = true := look_both looks c6
  unfold OpenRow.partSaid
  iterate 12 (refine and_assoc' ?_)
  exact h
theorem rowSaid : lw.row.wellSaid = true := look_both (look_both partly (by kernel_rfl)) (by kernel_rfl)
theorem b4 : noClassBlock lw.prog lw.footing = true := by kernel_rfl
theorem b5 : noRoadLSs { strict := true, foot := some lw.bound', writes := lw.writes, may := lw.may } lw.footing = true := by kernel_rfl
theorem b6 : defStands lw.about lw.above = true := by kernel_rfl
theorem b7 : lw.namesIt = true := by kernel_rfl
theorem b8 : lw.bound'.all (fun n => !builtinNamed n || lw.about == [n] || !lw.reads n) = true := by kernel_rfl
theorem b9 : (namesMeet lw.prog lw.footing (fun sc n => (!(["type", "isinstance", "issubclass", "getattr", "hasattr"] : List Str).contains n || sc.names.lookup n == some .globalImplicit) &&
    (lw.may != some n || sc.kind == .module || sc.names.lookup n == some .globalImplicit))) = true := by kernel_rfl
theorem b11 : namesMeet lw.prog lw.above (fun _ n => !lw.own.contains n) = true := by kernel_rfl
theorem b12 : (namesMeet lw.prog lw.footing fun sc n => sc.kind == .module || sc.names.lookup n != some .globalExplicit) = true := by kernel_rfl
theorem said : lw.wellSaid = true := by
  unfold OpenLaw.wellSaid
  refine look_both (look_both (look_both (look_both (look_both (look_both (look_both (look_both (look_both (look_both (look_both (look_both (look_both (look_both (look_both (look_both (look_both (look_both rowSaid ?_) ?_) b4) ?_) ?_) b5) b6) b7) ?_) b8) ?_) ?_) b9) ?_) ?_) ?_) b11) b12
  all_goals kernel_rfl
theorem hd (walk : WalkO view [] (XL view []) Hook.none.says PySem.Challenge.rw_pk0047_01.row.toRowW lawD [] fun f vs => PySem.call f vs) : PySem.Challenge.rw_pk0047_01.Holds :=
  holds_law said fun k1 => holds_open (r := PySem.Challenge.rw_pk0047_01.row) (q := view) (loose := []) (Xt := Xt) (XP := XL view []) (Yf := Hook.none.obs) (Ya := Hook.none.val) (YP := Hook.none.says) (d := lawD) (kwd := []) (N := 880) left Hook.none.of Hook.none.keeps
    (fun s e => xl_of s (Bool.and_eq_true_iff.mp e).1) XL.keeps (by kernel_rfl) (by kernel_rfl) (by kernel_rfl) (fun s e => recFacts_of (Bool.and_eq_true_iff.mp e).2) (by kernel_rfl) k1 (by kernel_rfl) ⟨rfl, rfl, rfl, rfl, rfl, by kernel_rfl⟩
    ⟨[WData.list []], by kernel_rfl, by kernel_rfl⟩ walk
end Hd
end Mine
end

section
set_option maxRecDepth 100000
set_option linter.unusedVariables false
namespace Mine
open PySem PySem.W PyProof.Rows PySem.Calls

noncomputable def nameOf : Stmt → Option Str
  | .FunctionDef n _ _ _ _ _ _ _ _ _ => some n
  | _ => none
theorem defIn_mem {f : Str} {x : List Str × Scope × List Stmt} : ∀ {l : List Stmt}, defIn f l = some x → f ∈ l.filterMap nameOf
  | [], h => none_ne h
  | st :: l, h => by
    have ih := defIn_mem (f := f) (x := x) (l := l)
    by_cases hn : ∃ n, nameOf st = some n
    · obtain ⟨n, hn⟩ := hn
      rw [List.filterMap_cons_some hn]
      by_cases e : n = f
      · rw [e]; exact List.mem_cons_self
      · refine List.mem_cons_of_mem _ (ih ?_)
        cases st <;> first | exact none_ne hn | skip
        cases hn
        exact (if_neg e).symm.trans h
    · rw [List.filterMap_cons_none (by cases e : nameOf st with | none => rfl | some n => exact absurd ⟨n, e⟩ hn)]
      refine ih ?_
      cases st <;> first | exact h | exact absurd ⟨_, rfl⟩ hn
theorem one_of {α : Type} {l : List α} (h : l.length = 1) : ∃ a, l = [a] := by
  match l, h with
  | [a], _ => exact ⟨a, rfl⟩
theorem two_of {α : Type} {l : List α} (h : l.length = 2) : ∃ a b, l = [a, b] := by
  match l, h with
  | [a, b], _ => exact ⟨a, b, rfl⟩
noncomputable def allNames : List Str := ["_ellipsis_match", "_grouping_intervals", "_build_localename", "_law_refusal", "_law_sums", "_law_marks", "_law_tokens", "_law_taken", "_law_counts", "_law_told", "law"]
theorem names_all : PySem.Challenge.pw_pk0047_01.main.body.filterMap nameOf = allNames := by decide +kernel

noncomputable def scOk (f : Str) (ps : List Str) (sc : Scope) : Bool := ps.all (isOwnVar sc) && nodup ps && !sc.isCoroutine && (sc.isGenerator == decide (f = "_grouping_intervals")) && sc.kind == .function && nodup (sc.names.map (·.1)) && sc.names.all fun p => p.2 != .free
/-- what is known of one of the program's functions -/
noncomputable def FnOk (f : Str) : Prop := ∃ d ∈ recsOf Mine.Hd.view, d.name = f ∧ ∃ ps, defOf f = some (ps, d.scope, d.body) ∧ scOk f ps d.scope = true ∧
  ∀ pm code doc (vals : List Value), vals.length = ps.length → bindArgs (docDef d.name d.params d.body d.scope pm code doc) ⟨vals, []⟩ = pure (ps.zip vals)
theorem recs_len : (recsOf Mine.Hd.view).length = 11 := by decide +kernel
theorem fn_ellipsis_match : FnOk "_ellipsis_match" := ⟨(recsOf Mine.Hd.view)[0]'(by rw [recs_len]; decide), List.getElem_mem _, by kernel_rfl, [("want" : Str), ("got" : Str)], by kernel_rfl, by kernel_rfl, fun pm code doc vals h => by
    obtain ⟨v, u, rfl⟩ := two_of h
    kernel_rfl⟩
theorem fn_grouping_intervals : FnOk "_grouping_intervals" := ⟨(recsOf Mine.Hd.view)[1]'(by rw [recs_len]; decide), List.getElem_mem _, by kernel_rfl, [("grouping" : Str)], by kernel_rfl, by kernel_rfl, fun pm code doc vals h => by
    obtain ⟨v, rfl⟩ := one_of h
    kernel_rfl⟩
theorem fn_build_localename : FnOk "_build_localename" := ⟨(recsOf Mine.Hd.view)[2]'(by rw [recs_len]; decide), List.getElem_mem _, by kernel_rfl, [("localetuple" : Str)], by kernel_rfl, by kernel_rfl, fun pm code doc vals h => by
    obtain ⟨v, rfl⟩ := one_of h
    kernel_rfl⟩
theorem fn_law_refusal : FnOk "_law_refusal" := ⟨(recsOf Mine.Hd.view)[3]'(by rw [recs_len]; decide), List.getElem_mem _, by kernel_rfl, [("row" : Str)], by kernel_rfl, by kernel_rfl, fun pm code doc vals h => by
    obtain ⟨v, rfl⟩ := one_of h
    kernel_rfl⟩
theorem fn_law_sums : FnOk "_law_sums" := ⟨(recsOf Mine.Hd.view)[4]'(by rw [recs_len]; decide), List.getElem_mem _, by kernel_rfl, [("row" : Str)], by kernel_rfl, by kernel_rfl, fun pm code doc vals h => by
    obtain ⟨v, rfl⟩ := one_of h
    kernel_rfl⟩
theorem fn_law_marks : FnOk "_law_marks" := ⟨(recsOf Mine.Hd.view)[5]'(by rw [recs_len]; decide), List.getElem_mem _, by kernel_rfl, [("row" : Str)], by kernel_rfl, by kernel_rfl, fun pm code doc vals h => by
    obtain ⟨v, rfl⟩ := one_of h
    kernel_rfl⟩
theorem fn_law_tokens : FnOk "_law_tokens" := ⟨(recsOf Mine.Hd.view)[6]'(by rw [recs_len]; decide), List.getElem_mem _, by kernel_rfl, [("want" : Str)], by kernel_rfl, by kernel_rfl, fun pm code doc vals h => by
    obtain ⟨v, rfl⟩ := one_of h
    kernel_rfl⟩
theorem fn_law_taken : FnOk "_law_taken" := ⟨(recsOf Mine.Hd.view)[7]'(by rw [recs_len]; decide), List.getElem_mem _, by kernel_rfl, [("want" : Str), ("texts" : Str)], by kernel_rfl, by kernel_rfl, fun pm code doc vals h => by
    obtain ⟨v, u, rfl⟩ := two_of h
    kernel_rfl⟩
theorem fn_law_counts : FnOk "_law_counts" := ⟨(recsOf Mine.Hd.view)[8]'(by rw [recs_len]; decide), List.getElem_mem _, by kernel_rfl, [("want" : Str), ("letters" : Str)], by kernel_rfl, by kernel_rfl, fun pm code doc vals h => by
    obtain ⟨v, u, rfl⟩ := two_of h
    kernel_rfl⟩
theorem fn_law_told : FnOk "_law_told" := ⟨(recsOf Mine.Hd.view)[9]'(by rw [recs_len]; decide), List.getElem_mem _, by kernel_rfl, [("want" : Str), ("texts" : Str)], by kernel_rfl, by kernel_rfl, fun pm code doc vals h => by
    obtain ⟨v, u, rfl⟩ := two_of h
    kernel_rfl⟩
theorem fn_law : FnOk "law" := ⟨(recsOf Mine.Hd.view)[10]'(by rw [recs_len]; decide), List.getElem_mem _, by kernel_rfl, [("script" : Str)], by kernel_rfl, by kernel_rfl, fun pm code doc vals h => by
    obtain ⟨v, rfl⟩ := one_of h
    kernel_rfl⟩
theorem fn_all {f : Str} (h : f ∈ allNames) : FnOk f := by
  unfold allNames at h
  simp only [List.mem_cons, List.not_mem_nil, or_false] at h
  rcases h with h | h | h | h | h | h | h | h | h | h | h
  · rw [h]; exact fn_ellipsis_match
  · rw [h]; exact fn_grouping_intervals
  · rw [h]; exact fn_build_localename
  · rw [h]; exact fn_law_refusal
  · rw [h]; exact fn_law_sums
  · rw [h]; exact fn_law_marks
  · rw [h]; exact fn_law_tokens
  · rw [h]; exact fn_law_taken
  · rw [h]; exact fn_law_counts
  · rw [h]; exact fn_law_told
  · rw [h]; exact fn_law
end Mine
end

section
set_option maxRecDepth 100000
set_option linter.unusedVariables false
namespace Mine
open PySem PySem.W PyProof.Rows PySem.Calls

theorem free_ok {mean : ExcName → Option Value} {mg mb : Str → Option Value} {h : Heap} (T : Top Mine.Hd.view (looseW Mine.Hd.view []) mean mg mb h) {x : Str} {v : Value} (h1 : (!(startupNames.contains x) && !((looseW Mine.Hd.view []).contains x) && !((recsOf Mine.Hd.view).map (·.name)).contains x && !((litsOf Mine.Hd.view).map (·.1)).contains x && !((clssOf Mine.Hd.view (looseW Mine.Hd.view [])).map (·.name)).contains x) = true) (hn : x ≠ "__name__")
    (hv : bootBuiltins x = some v) : mg x = none ∧ mb x = some v := by
  simp only [Bool.and_eq_true, Bool.not_eq_true', List.contains_eq_mem, decide_eq_false_iff_not] at h1
  exact ⟨T.free x h1.1.1.1.1 h1.1.1.1.2 h1.1.1.2 h1.1.2 h1.2, (T.builtins x hn).trans hv⟩

theorem gd_of {mean : ExcName → Option Value} {mg mb : Str → Option Value} {h : Heap} (T : Top Mine.Hd.view (looseW Mine.Hd.view []) mean mg mb h) : Gd mg mb h where
  g := T.g
  b := T.b
  lim := T.nolimit
  fns := by
    intro f ps sc body hd
    have hm : f ∈ allNames := by rw [← names_all]; exact defIn_mem hd
    obtain ⟨d, hdm, rfl, ps', hd', hok, hb⟩ := fn_all hm
    rw [hd] at hd'
    injection hd' with hd'
    injection hd' with e1 hd'
    injection hd' with e2 e3
    subst e1; subst e2; subst e3
    obtain ⟨a, o, pm, code, doc, h1, h2, h3, h4⟩ := T.fn d hdm
    simp only [scOk, Bool.and_eq_true, List.all_eq_true, Bool.not_eq_true', beq_iff_eq, bne_iff_ne, ne_eq] at hok
    obtain ⟨⟨⟨⟨⟨⟨o1, o2⟩, o3⟩, o4⟩, o5⟩, o6⟩, o7⟩ := hok
    exact ⟨a, o, d.params, pm, code, doc, h1, h2, h3, h4, hb pm code doc, o1, nodup_ok o2, o3, o4, o5, nodup_ok o6, o7⟩
  bn := by
    intro x v hx
    unfold bltVal at hx
    split at hx
    · rename_i e; subst e; cases hx; exact free_ok T (by decide +kernel) (by decide) (by kernel_rfl)
    split at hx
    · rename_i e; subst e; cases hx; exact free_ok T (by decide +kernel) (by decide) (by kernel_rfl)
    split at hx
    · rename_i e; subst e; cases hx; exact free_ok T (by decide +kernel) (by decide) (by kernel_rfl)
    split at hx
    · rename_i e; subst e; cases hx; exact free_ok T (by decide +kernel) (by decide) (by kernel_rfl)
    split at hx
    · rename_i e; subst e; cases hx; exact free_ok T (by decide +kernel) (by decide) (by kernel_rfl)
    split at hx
    · rename_i e; subst e; cases hx; exact free_ok T (by decide +kernel) (by decide) (by kernel_rfl)
    cases hx
  em := by
    obtain ⟨v, h1, h2⟩ := T.const "ELLIPSIS_MARKER" (.str "...") (by kernel_rfl)
    have := h2 h
    cases this
    exact ⟨_, h1⟩
  cm := by
    obtain ⟨v, h1, h2⟩ := T.const "CHAR_MAX" (.int 127) (by kernel_rfl)
    have := h2 h
    cases this
    exact ⟨_, h1⟩
  ve := free_ok T (by decide +kernel) (by decide) (by kernel_rfl)
  sr := free_ok T (by decide +kernel) (by decide) (by kernel_rfl)

theorem well_all {h : Heap} : ∀ {is : List Int} {vs : List Value}, IntsAre vs is → IsAll [] h vs (is.map .int)
  | [], vs, hi => by cases hi; exact .nil
  | i :: is, vs, hi => by
    cases hi with | cons => exact .cons (.int ..) (well_all (by assumption))
end Mine

open PySem PySem.W PyProof.Rows PySem.Calls
set_option maxHeartbeats 4000000
theorem Mine.join (key : ∀ is : List Int, is.length ≤ 63 → Mine.lawF (Mine.R 120) (.list (is.map .int)) = some (.bool true)) : PySem.Challenge.rw_pk0047_01.Holds := Mine.Hd.hd (by
  intro w s₀ s₁ mg mb G Y fa o pm cd doc dV kV ho hd hcd hD hmg hg args vals as hpre hlay hrd hwl hlo
  wrow_args hpre hlay hrd hwl hlo
  rename_i is _ _ _ _ _ _ _ l vs _ _ _ hw _ hi hcond _ _
  have hw' : Well w.params s₁.heap (.ref l) (.list (ofPys (is.map .int))) := hw
  have hl : s₁.heap.PlainList l vs.toArray := by
    rename s₁.heap.IsList l vs.toArray => hL
    cases hw' with | list ha wa =>
    obtain ⟨o, ho, _, n, hd⟩ := hL
    rw [ha] at ho; cases ho
    injection hd with e1 e2
    rw [← e1]
    exact ⟨_, ha⟩
  have hlen : is.length ≤ 63 := by omega
  refine Mine.law_ok (n := 119) (W := []) (Mine.R_sound 120) (key is hlen) hmg rfl ⟨rfl, by decide, by decide⟩ ⟨s₁.heap, Mine.gd_of G.T, fun _ _ e => e, fun a ha => by cases ha⟩ (fun a ha => by cases ha)
    (.cons (.list (fun q => by cases q) hl (Mine.well_all hi)) .nil) _ _ fun v s' g iv => ?_
  cases iv
  refine ⟨.inl ⟨.bool true, .bool true, [], rfl, fun _ => rfl, .bool true, ?_, fun _ => ⟨List.nodup_nil, fun a ha => by cases ha⟩⟩, .of_keep g.keep, g.os, (g.gens (q := (True, fun _ _ => False)) ⟨fun _ => AllBare.of_eq hg, fun _ _ h => h.elim⟩).1 trivial⟩
  wrow_post)
end

section
set_option maxRecDepth 100000
set_option linter.unusedVariables false
namespace Mine
open PySem Builtin Builtin.Str PySem.StrLaws

/-! texts as lists of signs -/
noncomputable abbrev St (l : List Nat) : Str := ⟨l.toArray⟩
noncomputable abbrev Sx (l : List Nat) : D := .str (St l)
noncomputable abbrev Bx (b : Bool) : D := .bool b
noncomputable abbrev Ix (i : Int) : D := .int i
noncomputable abbrev Lx (l : List D) : D := .list l

theorem st_len (l : List Nat) : (St l).length = l.length := by simp [Str.length]
theorem st_app (a b : List Nat) : St a ++ St b = St (a ++ b) := by
  show Str.append _ _ = _
  simp [Str.append]
theorem st_inj {a b : List Nat} (h : St a = St b) : a = b := by
  injection h with h
  simpa using h
theorem st_beq (a b : List Nat) : (St a == St b) = (a == b) := by
  by_cases h : a = b
  · subst h; simp
  · have : ¬ St a = St b := fun e => h (st_inj e)
    rw [beq_eq_false_iff_ne.mpr this, beq_eq_false_iff_ne.mpr h]
theorem st_of (x : Str) : x = St x.cps.toList := by cases x; simp

theorem sub_at (l y : List Nat) (i : Nat) : subAt (St l) (St y) i = ((l.drop i).take y.length == y) := by
  unfold subAt
  rw [st_len]
  rw [Bool.eq_iff_iff]
  simp only [beq_iff_eq]
  constructor
  · intro h
    have := congrArg Array.toList h
    simpa [List.extract_eq_take_drop] using this
  · intro h
    apply Array.ext'
    simpa [List.extract_eq_take_drop] using h
theorem str_sub (l : List Nat) (i j : Nat) : strSub (St l) i j = St ((l.drop i).take (j - i)) := by
  unfold strSub
  congr 1
  apply Array.ext'
  simp [List.extract_eq_take_drop]

noncomputable def at3 (l : List Nat) (i : Nat) : Prop := (l.drop i).take 3 = [46, 46, 46]
theorem at_iff (l : List Nat) (i : Nat) : At (St l) "..." (St l).length i ↔ at3 l i := by
  have e : ("..." : Str) = St [46, 46, 46] := by decide +kernel
  unfold At at3
  rw [e, st_len, st_len, sub_at]
  simp only [List.length_cons, List.length_nil, beq_iff_eq]
  constructor
  · rintro ⟨_, h⟩; exact h
  · intro h
    refine ⟨?_, h⟩
    have := congrArg List.length h
    simp at this
    omega
end Mine
end

section
set_option maxRecDepth 100000
set_option linter.unusedVariables false
namespace Mine
open PySem Builtin Builtin.Str PySem.StrLaws

noncomputable def tokStep (st : List (List Nat) × List Nat) (c : Nat) : List (List Nat) × List Nat :=
  if (st.2 ++ [c]).drop ((st.2 ++ [c]).length - 3) == [46, 46, 46] then (st.1 ++ [(st.2 ++ [c]).take ((st.2 ++ [c]).length - 3)], []) else (st.1, st.2 ++ [c])
noncomputable def tokEnd (r : List (List Nat) × List Nat) : List (List Nat) := r.1 ++ [r.2]
noncomputable def tok (w : List Nat) : List (List Nat) := tokEnd (w.foldl tokStep ([], []))

theorem tail3 {c s : List Nat} (h : c.drop (c.length - 3) = [46, 46, 46]) : 3 ≤ c.length ∧ at3 (c ++ s) (c.length - 3) ∧ c = c.take (c.length - 3) ++ [46, 46, 46] := by
  have hl : 3 ≤ c.length := by
    have := congrArg List.length h
    simp at this; omega
  refine ⟨hl, ?_, ?_⟩
  · unfold at3
    rw [List.drop_append_of_le_length (by omega), h]; rfl
  · conv => lhs; rw [← List.take_append_drop (c.length - 3) c, h]
theorem fold_done (done : List (List Nat)) : ∀ (s cur : List Nat) (d : List (List Nat)), s.foldl tokStep (done ++ d, cur) = (done ++ (s.foldl tokStep (d, cur)).1, (s.foldl tokStep (d, cur)).2)
  | [], cur, d => rfl
  | c :: s, cur, d => by
    simp only [List.foldl_cons, tokStep]
    split
    · rw [List.append_assoc]; exact fold_done done s _ _
    · exact fold_done done s _ _
theorem fold_none : ∀ (s cur : List Nat) (d : List (List Nat)), (∀ k, ¬ at3 (cur ++ s) k) → s.foldl tokStep (d, cur) = (d, cur ++ s)
  | [], cur, d, _ => by simp
  | c :: s, cur, d, h => by
    have e : cur ++ c :: s = (cur ++ [c]) ++ s := by simp
    rw [List.foldl_cons, tokStep, if_neg, fold_none s _ _ (by rw [← e]; exact h), e]
    intro hc
    exact h _ (by rw [e]; exact (tail3 (beq_iff_eq.mp hc)).2.1)
theorem fold_first (p s' : List Nat) (hp : ∀ k, k < p.length → ¬ at3 (p ++ 46 :: 46 :: 46 :: s') k) : ∀ (s cur : List Nat) (d : List (List Nat)), cur ++ s = p ++ 46 :: 46 :: 46 :: s' → cur.length ≤ p.length + 2 → s.foldl tokStep (d, cur) = s'.foldl tokStep (d ++ [p], [])
  | [], cur, d, h, hl => by
    have := congrArg List.length h
    simp at this; omega
  | c :: s, cur, d, h, hl => by
    have e : cur ++ c :: s = (cur ++ [c]) ++ s := by simp
    rw [e] at h
    have e2 : p ++ 46 :: 46 :: 46 :: s' = (p ++ [46, 46, 46]) ++ s' := by simp
    rw [List.foldl_cons, tokStep]
    simp only []
    split
    · rename_i hc
      have hc := beq_iff_eq.mp hc
      obtain ⟨h1, h2, h3⟩ := tail3 (s := s) hc
      have hk : ¬ (cur ++ [c]).length - 3 < p.length := fun q => hp _ q (by rw [← h]; exact h2)
      have hlen : (cur ++ [c]).length = (p ++ [46, 46, 46]).length := by simp at hk h1 ⊢; omega
      rw [e2] at h
      have := List.append_inj h hlen
      rw [this.2, this.1]
      simp
    · rename_i hc
      refine fold_first p s' hp s _ _ h ?_
      rcases Nat.lt_or_ge (p.length + 2) (cur ++ [c]).length with q | q
      · exfalso
        have hlen : (cur ++ [c]).length = (p ++ [46, 46, 46]).length := by simp at q hl ⊢; omega
        rw [e2] at h
        have := (List.append_inj h hlen).1
        rw [this] at hc
        simp at hc
      · exact q
theorem tok_none {l : List Nat} (h : ∀ k, ¬ at3 l k) : tok l = [l] := by
  unfold tok; rw [fold_none l [] [] h]; rfl
theorem tok_first {p s : List Nat} (h : ∀ k, k < p.length → ¬ at3 (p ++ 46 :: 46 :: 46 :: s) k) : tok (p ++ 46 :: 46 :: 46 :: s) = p :: tok s := by
  unfold tok
  have e := fold_first p s h (p ++ 46 :: 46 :: 46 :: s) [] [] (List.nil_append _) (by simp)
  rw [e, show ([] ++ [p] : List (List Nat)) = [p] ++ [] from rfl, fold_done [p]]
  rfl

theorem at3_drop (l : List Nat) (a k : Nat) : at3 (l.drop a) k ↔ at3 l (a + k) := by
  unfold at3; rw [List.drop_drop]
theorem parts_tok (l : List Nat) : ∀ (cuts : List Nat) (a f : Nat), ChainG (St l) "..." (St l).length a cuts f → (∀ k, f ≤ k → ¬ At (St l) "..." (St l).length k) → partsFrom (St l) 3 a cuts = (tok (l.drop a)).map St
  | [], a, f, h, hn => by
    have e : f = a := h
    subst e
    rw [tok_none fun k hk => hn (f + k) (by omega) ((at_iff l _).mpr ((at3_drop l f k).mp hk))]
    show [strSub (St l) f (St l).length] = [St (l.drop f)]
    rw [str_sub, st_len, List.take_of_length_le (by simp)]
  | c :: r, a, f, h, hn => by
    obtain ⟨h1, h2, h3, h4⟩ := h
    have h2 := (at_iff l c).mp h2
    have hw : ("..." : Str).length = 3 := by decide +kernel
    rw [hw] at h4
    have ih := parts_tok l r (c + 3) f h4 hn
    have hd : l.drop c = 46 :: 46 :: 46 :: l.drop (c + 3) := by
      have := List.take_append_drop 3 (l.drop c)
      unfold at3 at h2
      rw [h2, List.drop_drop] at this
      exact this.symm
    have hsplit : l.drop a = (l.drop a).take (c - a) ++ 46 :: 46 :: 46 :: l.drop (c + 3) := by
      conv => lhs; rw [← List.take_append_drop (c - a) (l.drop a)]
      rw [List.drop_drop, show a + (c - a) = c by omega, hd]
    have hcl : c + 3 ≤ l.length := by
      have := congrArg List.length h2
      simp at this; omega
    have hlen : ((l.drop a).take (c - a)).length = c - a := by simp; omega
    show strSub (St l) a c :: partsFrom (St l) 3 (c + 3) r = _
    rw [ih, str_sub]
    conv => rhs; rw [hsplit, tok_first (by
      intro k hk
      rw [← hsplit]
      rw [hlen] at hk
      intro hk2
      exact h3 (a + k) (by omega) (by omega) ((at_iff l _).mpr ((at3_drop l a k).mp hk2)))]
    rfl

theorem kind_pos (x : Str) : 1 ≤ Str.strKind x := by
  unfold Str.strKind; split
  · exact Nat.le_refl _
  · split <;> decide
theorem split_tok (l : List Nat) : Txt.split (St l) "..." = (tok l).map St := by
  have hw : ("..." : Str).length = 3 := by decide +kernel
  have hk : Str.strKind ("..." : Str) = 1 := by decide +kernel
  obtain ⟨f, h1, h2⟩ := occ_tight (St l) "..." (by rw [hw]; decide)
  have key := parts_tok l _ 0 f h1 h2
  rw [List.drop_zero] at key
  unfold Txt.split
  rw [hk, hw]
  have hkp := kind_pos (St l)
  split
  · rename_i hc
    simp only [Bool.or_eq_true, decide_eq_true_eq] at hc
    have hl : (St l).length < 3 := by omega
    rw [tok_none]
    · rfl
    · intro k hk
      have := congrArg List.length hk
      rw [st_len] at hl
      simp at this; omega
  · split
    · rename_i he
      have he := List.isEmpty_iff.mp he
      rw [he] at h1
      have hf : f = 0 := h1
      subst hf
      rw [tok_none]
      · rfl
      · intro k hk
        exact h2 k (Nat.zero_le _) ((at_iff l k).mpr hk)
    · rw [partsBetween_eq, key]
theorem has_tok (l : List Nat) : Txt.contains (St l) "..." = decide (1 < (tok l).length) := by
  have hw : ("..." : Str).length = 3 := by decide +kernel
  unfold Txt.contains
  rw [Bool.eq_iff_iff, found_iff]
  simp only [decide_eq_true_eq]
  obtain ⟨f, h1, h2⟩ := occ_tight (St l) "..." (by rw [hw]; decide)
  have key := parts_tok l _ 0 f h1 h2
  rw [List.drop_zero] at key
  have hlen : (tok l).length = (occurrences (St l) "..." 0 (St l).length ((St l).length + 1)).length + 1 := by
    have := congrArg List.length key
    rw [List.length_map] at this
    rw [← this]
    generalize occurrences (St l) "..." 0 (St l).length ((St l).length + 1) = cuts
    generalize 0 = a
    induction cuts generalizing a with
    | nil => rfl
    | cons c r ih => show (partsFrom _ _ _ r).length + 1 = _; rw [ih]; rfl
  rw [hlen]
  constructor
  · rintro ⟨i, hi⟩
    cases hc : occurrences (St l) "..." 0 (St l).length ((St l).length + 1) with
    | nil =>
      rw [hc] at h1
      have hf : f = 0 := h1
      subst hf
      exact absurd hi (h2 i (Nat.zero_le _))
    | cons c r => simp
  · intro h
    cases hc : occurrences (St l) "..." 0 (St l).length ((St l).length + 1) with
    | nil => rw [hc] at h; simp at h
    | cons c r => rw [hc] at h1; exact ⟨c, h1.2.1⟩
theorem tok_one {l p : List Nat} (h : tok l = [p]) : p = l := by
  have hw : ("..." : Str).length = 3 := by decide +kernel
  have hn : Txt.contains (St l) "..." = false := by rw [has_tok, h]; rfl
  have : tok l = [l] := by
    refine tok_none fun k hk => ?_
    have := (found_iff (St l) "...").mpr ⟨k, (at_iff l k).mpr hk⟩
    unfold Txt.contains at hn
    rw [this] at hn; cases hn
  rw [h] at this; simpa using this
end Mine
end

section
set_option maxRecDepth 100000
set_option linter.unusedVariables false
namespace Mine
open PySem Builtin Builtin.Str PySem.StrLaws

noncomputable def findR (m : List Nat) : List Nat → Option (List Nat)
  | [] => if m.isEmpty then some [] else none
  | c :: s => if m.isPrefixOf (c :: s) then some ((c :: s).drop m.length) else findR m s
noncomputable def greedy : List (List Nat) → List Nat → Bool
  | [], _ => true
  | m :: ms, s => match findR m s with
    | some r => greedy ms r
    | none => false
noncomputable def emP (ws : List (List Nat)) (g : List Nat) : Bool := match ws with
  | [] => false
  | [p] => p == g
  | p0 :: w1 :: rest => p0.isPrefixOf g && ((w1 :: rest).getLastD []).isSuffixOf g && Nat.ble (p0.length + ((w1 :: rest).getLastD []).length) g.length &&
    greedy (w1 :: rest).dropLast ((g.take (g.length - ((w1 :: rest).getLastD []).length)).drop p0.length)
noncomputable def em (w g : List Nat) : Bool := emP (tok w) g

theorem findR_nil (s : List Nat) : findR [] s = some s := by
  cases s <;> rfl
theorem findR_at {m : List Nat} : ∀ {s : List Nat} {j : Nat}, (∀ k, k < j → ¬ m <+: s.drop k) → m <+: s.drop j → j ≤ s.length → findR m s = some ((s.drop j).drop m.length)
  | [], 0, _, h, _ => by
    have : m = [] := by simpa using h
    subst this; rfl
  | c :: s, 0, _, h, _ => by
    simp only [findR]
    rw [if_pos (by simpa using h)]; rfl
  | c :: s, j + 1, hn, h, hl => by
    simp only [findR]
    have h0 := hn 0 (by omega)
    rw [if_neg (by simpa using h0)]
    have := findR_at (s := s) (j := j) (fun k hk => by simpa using hn (k + 1) (by omega)) (by simpa using h) (by simpa using hl)
    rw [this]; rfl
theorem findR_no {m : List Nat} : ∀ {s : List Nat}, (∀ k, k ≤ s.length → ¬ m <+: s.drop k) → findR m s = none
  | [], h => by
    have := h 0 (by simp)
    simp only [findR]
    rw [if_neg]
    intro e
    exact this (by simp [List.isEmpty_iff.mp e])
  | c :: s, h => by
    simp only [findR]
    rw [if_neg (by simpa using h 0 (by simp))]
    exact findR_no fun k hk => by simpa using h (k + 1) (by simpa using hk)

theorem at_pre (g w : List Nat) (ep i : Nat) (hep : ep ≤ g.length) (hi : i ≤ ep) : At (St g) (St w) ep i ↔ w <+: (g.take ep).drop i := by
  unfold At
  rw [sub_at, st_len, beq_iff_eq, List.drop_take]
  constructor
  · rintro ⟨h1, h2⟩
    have : w = ((g.drop i).take (ep - i)).take w.length := by rw [List.take_take, show min w.length (ep - i) = w.length by omega, h2]
    rw [this]; exact List.take_prefix ..
  · intro h
    have hl := h.length_le
    rw [List.length_take, List.length_drop] at hl
    refine ⟨by omega, ?_⟩
    have := List.prefix_iff_eq_take.mp h
    rw [List.take_take, show min w.length (ep - i) = w.length by omega] at this
    exact this.symm

theorem find_rest (g w : List Nat) (sp ep : Nat) (h : sp ≤ ep) (hep : ep ≤ g.length) :
    (∃ i r, occurrences (St g) (St w) sp ep 1 = i :: r ∧ sp ≤ i ∧ i + w.length ≤ ep ∧ findR w ((g.take ep).drop sp) = some ((g.take ep).drop (i + w.length))) ∨
    (occurrences (St g) (St w) sp ep 1 = [] ∧ findR w ((g.take ep).drop sp) = none) := by
  rw [occ_eq]
  have hm : ∀ i, i ∈ List.range' sp (ep + 1 - sp) ↔ sp ≤ i ∧ i ≤ ep := fun i => by
    rw [List.mem_range'_1]; omega
  have hlen : ((g.take ep).drop sp).length = ep - sp := by simp; omega
  rcases occ_first (St g) (St w) ep 1 (Nat.le_refl 1) (List.range' sp (ep + 1 - sp)) sp (fun i hi => ((hm i).mp hi).1) with ⟨h0, hn⟩ | ⟨pre, a, post, e, h0, ha, hn⟩
  · right
    refine ⟨by rw [h0], findR_no fun k hk hp => ?_⟩
    rw [hlen] at hk
    rw [List.drop_drop] at hp
    exact hn (sp + k) ((hm _).mpr ⟨by omega, by omega⟩) ((at_pre g w ep (sp + k) hep (by omega)).mpr hp)
  · left
    have ham := (hm a).mp (by rw [e]; simp)
    have hpre : ∀ k, sp ≤ k → k < a → k ∈ pre := by
      intro k h1 h2
      have hk : k ∈ pre ++ a :: post := by rw [← e]; exact (hm k).mpr ⟨h1, by omega⟩
      rcases List.mem_append.mp hk with q | q
      · exact q
      · exfalso
        have hp : (pre ++ a :: post).Pairwise (· < ·) := by rw [← e]; exact List.pairwise_lt_range' ..
        have hp2 := (List.pairwise_append.mp hp).2.1
        rcases List.mem_cons.mp q with q | q
        · omega
        · have := (List.pairwise_cons.mp hp2).1 k q; omega
    refine ⟨a, ((forIn (List.range' sp (ep + 1 - sp)) ((#[] : Array Nat), sp) (occBody (St g) (St w) ep 1)).run.fst.toList).tail, ?_, ham.1, ?_, ?_⟩
    · generalize (forIn (List.range' sp (ep + 1 - sp)) ((#[] : Array Nat), sp) (occBody (St g) (St w) ep 1)).run.fst = arr at h0
      have h1 : arr.toList[0]? = some a := by simpa using h0
      cases hL : arr.toList with
      | nil => rw [hL] at h1; cases h1
      | cons b t => rw [hL] at h1; simp at h1; rw [h1]; rfl
    · have := ha.1; rw [st_len] at this; exact this
    · have hp := (at_pre g w ep a hep ham.2).mp ha
      have e1 : (g.take ep).drop a = ((g.take ep).drop sp).drop (a - sp) := by rw [List.drop_drop]; congr 1; omega
      rw [findR_at (j := a - sp) (fun k hk hq => ?_) (by rw [← e1]; exact hp) (by rw [hlen]; omega), ← e1, List.drop_drop]
      rw [List.drop_drop] at hq
      exact hn (sp + k) (hpre _ (by omega) (by omega)) ((at_pre g w ep (sp + k) hep (by omega)).mpr hq)
theorem starts (x y : List Nat) : Txt.startswith (St x) (St y) = y.isPrefixOf x := by
  unfold Txt.startswith
  rw [sub_at, st_len, st_len, Bool.eq_iff_iff]
  simp only [Bool.and_eq_true, decide_eq_true_eq, beq_iff_eq, List.isPrefixOf_iff_prefix, List.drop_zero]
  constructor
  · rintro ⟨_, h⟩; rw [← h]; exact List.take_prefix ..
  · intro h; exact ⟨by have := h.length_le; omega, (List.prefix_iff_eq_take.mp h).symm⟩
theorem ends (x y : List Nat) : Txt.endswith (St x) (St y) = y.isSuffixOf x := by
  unfold Txt.endswith
  rw [sub_at, st_len, st_len, Bool.eq_iff_iff]
  simp only [Bool.and_eq_true, decide_eq_true_eq, beq_iff_eq, List.isSuffixOf_iff_suffix]
  constructor
  · rintro ⟨h1, h⟩
    rw [List.take_of_length_le (by simp; omega)] at h
    rw [← h]; exact List.drop_suffix ..
  · intro h
    have := h.length_le
    refine ⟨by omega, ?_⟩
    rw [List.take_of_length_le (by simp; omega)]
    exact (List.suffix_iff_eq_drop.mp h).symm
end Mine
end

section
set_option maxRecDepth 100000
set_option linter.unusedVariables false
namespace Mine
open PySem

noncomputable abbrev headP (σ : Stt) (i : Expr) : Stt := headS σ i
theorem R_ev (n : Nat) : (R (n + 1)).ev = evF (R n) := rfl
theorem R_ts (n : Nat) : (R (n + 1)).ts = tsF (R n) := rfl
theorem R_ex (n : Nat) : (R (n + 1)).ex = exF (R n) := rfl
theorem R_cl (n : Nat) : (R (n + 1)).cl = clF (R n) := rfl

section
variable {n : Nat} {r : Rec} {sc csc : Scope} {ρ : Rho} {p q : Pos} {d x y : D} {e a b l c i v : Expr} {es args : List Expr} {ds : List D} {op : Operator} {f : Str}

theorem lk_here {z : Str} : List.lookup z ((z, d) :: ρ) = some d := by simp
theorem lk_next {z u : Str} (h : (z == u) = false) (h2 : List.lookup z ρ = some d) : List.lookup z ((u, x) :: ρ) = some d := by
  rw [List.lookup_cons, h]; exact h2
theorem lk_free {z : Str} (h : (kindIn csc z == some .free) = true) (h2 : List.lookup z ρ = some d) : List.lookup z (freeOnly csc ρ) = some d := by
  unfold freeOnly
  induction ρ with
  | nil => exact h2
  | cons t r ih =>
    obtain ⟨u, w⟩ := t
    rw [List.lookup_cons] at h2
    cases hz : (z == u) with
    | true =>
      rw [hz] at h2
      have : z = u := by simpa using hz
      subst this
      rw [List.filter_cons_of_pos (by simpa using h), List.lookup_cons, hz]; exact h2
    | false =>
      rw [hz] at h2
      have ih := ih h2
      rw [List.filter_cons]
      split
      · rw [List.lookup_cons, hz]; exact ih
      · exact ih
theorem new_free {z : Str} (h : isOwnVar csc z = true) : newIn (isOwnVar csc) (freeOnly csc ρ) z = true := by
  unfold newIn
  rw [h, Bool.true_and]
  have hk : (kindIn csc z == some .free) = false := by
    unfold isOwnVar at h
    split at h
    · rename_i e; rw [e]; rfl
    · rename_i e; rw [e]; rfl
    · cases h
  have : List.lookup z (freeOnly csc ρ) = none := by
    unfold freeOnly
    induction ρ with
    | nil => rfl
    | cons t r ih =>
      obtain ⟨u, w⟩ := t
      rw [List.filter_cons]
      split
      · rename_i hu
        rw [List.lookup_cons]
        have : (z == u) = false := by
          cases hz : (z == u) with
          | false => rfl
          | true =>
            have : z = u := by simpa using hz
            subst this
            rw [hk] at hu; cases hu
        rw [this]; exact ih
      · exact ih
  rw [this]; rfl
theorem new_next {own : Str → Bool} {z u : Str} (h : (z == u) = false) (h2 : newIn own ρ z = true) : newIn own ((u, x) :: ρ) z = true := by
  unfold newIn at h2 ⊢
  rw [List.lookup_cons, h]; exact h2

theorem ev_name {z : Str} (hv : isVar sc z = true) (h : List.lookup z ρ = some d) : (R (n + 1)).ev sc ρ (.Name z p) = some d := by
  rw [R_ev]; (unfold evF; dsimp only); rw [if_pos hv]; exact h
theorem ev_mark (hv : isVar sc "ELLIPSIS_MARKER" = false) (hg : isGlob sc "ELLIPSIS_MARKER" = true) : (R (n + 1)).ev sc ρ (.Name "ELLIPSIS_MARKER" p) = some (.str "...") := by
  rw [R_ev]; (unfold evF; dsimp only); rw [if_neg (by rw [hv]; decide), if_pos (by simp [hg])]
theorem ev_const {k : Nat} {co : Const} (h : pconst co = some d) : (R (n + 1)).ev sc ρ (.Constant co k p) = some d := by
  rw [R_ev]; (unfold evF; dsimp only); exact h
theorem ev_bin (ha : (R n).ev sc ρ a = some x) (hb : (R n).ev sc ρ b = some y) (h : pbin op x y = some d) : (R (n + 1)).ev sc ρ (.BinOp a op b p) = some d := by
  rw [R_ev]; (unfold evF; simp only [ha, hb, Option.bind_eq_bind, Option.bind_some]); exact h
theorem ev_neg {i : Int} (ha : (R n).ev sc ρ a = some (.int i)) : (R (n + 1)).ev sc ρ (.UnaryOp .USub a p) = some (.int (-i)) := by
  rw [R_ev]; (unfold evF; simp only [ha])
theorem ev_if_t {t : Expr} (ht : (R n).ts sc ρ t = some true) (ha : (R n).ev sc ρ a = some d) : (R (n + 1)).ev sc ρ (.IfExp t a b p) = some d := by
  rw [R_ev]; (unfold evF; simp only [ht, Option.bind_eq_bind, Option.bind_some, if_true]); exact ha
theorem ev_if_f {t : Expr} (ht : (R n).ts sc ρ t = some false) (ha : (R n).ev sc ρ b = some d) : (R (n + 1)).ev sc ρ (.IfExp t a b p) = some d := by
  rw [R_ev]; (unfold evF; simp only [ht, Option.bind_eq_bind, Option.bind_some, Bool.false_eq_true, if_false]); exact ha
theorem ev_if {t : Expr} {g : Bool} (ht : (R n).ts sc ρ t = some g) (ha : g = true → (R n).ev sc ρ a = some x) (hb : g = false → (R n).ev sc ρ b = some y) : (R (n + 1)).ev sc ρ (.IfExp t a b p) = some (if g then x else y) := by
  cases g with
  | true => exact ev_if_t ht (ha rfl)
  | false => exact ev_if_f ht (hb rfl)
theorem evs_nil : evs r sc ρ [] = some [] := rfl
theorem evs_cons (hs : isStar e = false) (h : r.ev sc ρ e = some d) (h2 : evs r sc ρ es = some ds) : evs r sc ρ (e :: es) = some (d :: ds) := by
  simp only [evs, hs, h, h2, Bool.false_eq_true, if_false, Option.bind_eq_bind, Option.bind_some]
theorem ev_list (h : evs (R n) sc ρ es = some ds) (hl : ds.length ≤ 1000) : (R (n + 1)).ev sc ρ (.List es p) = some (.list ds) := by
  rw [R_ev]; (unfold evF; simp only [h, Option.bind_eq_bind, Option.bind_some]); rw [if_pos hl]
theorem ev_tuple {k : Nat} (h : evs (R n) sc ρ es = some ds) (hl : ds.length ≤ 1000) : (R (n + 1)).ev sc ρ (.Tuple es k p) = some (.tuple ds) := by
  rw [R_ev]; (unfold evF; simp only [h, Option.bind_eq_bind, Option.bind_some]); rw [if_pos hl]
theorem ev_comp {gens : List Comprehension} (h : evComp (R n) sc ρ e gens csc = some ds) : (R (n + 1)).ev sc ρ (.ListComp e gens csc p) = some (.list ds) := by
  rw [R_ev]; (unfold evF; simp only [h, Option.map_some])
theorem ev_cmp {o : CmpOp} {g : Bool} (hs : isSetE c = false) (hl : (R n).ev sc ρ l = some x) (hc : (R n).ev sc ρ c = some y) (h : pcmp o x y = some g) : (R (n + 1)).ev sc ρ (.Compare l [o] [c] p) = some (.bool g) := by
  rw [R_ev]; (unfold evF; simp only [hs, hl, hc, Bool.false_eq_true, if_false, Option.bind_eq_bind, Option.bind_some, h, Option.map_some])
theorem ts_cmp {o : CmpOp} {g : Bool} (hs : isSetE c = false) (hl : (R n).ev sc ρ l = some x) (hc : (R n).ev sc ρ c = some y) (h : pcmp o x y = some g) : (R (n + 1)).ts sc ρ (.Compare l [o] [c] p) = some g := by
  rw [R_ts]; show (if isSetE c = true then none else ((R n).ev sc ρ l).bind fun a => ((R n).ev sc ρ c).bind fun b => pcmp o a b) = _
  rw [if_neg (by rw [hs]; decide), hl, hc]; exact h
theorem eo_none : evOpt r sc ρ none = some none := rfl
theorem eo_some {i : Int} (h : r.ev sc ρ e = some (.int i)) (hs : small i = true) : evOpt r sc ρ (some e) = some (some i) := by
  (unfold evOpt; simp only [h]); rw [if_pos hs]
theorem ev_slice {lo hi st : Option Expr} {lo' hi' st' : Option Int} (h : (R n).ev sc ρ v = some x) (h1 : evOpt (R n) sc ρ lo = some lo') (h2 : evOpt (R n) sc ρ hi = some hi') (h3 : evOpt (R n) sc ρ st = some st') (hp : pslice x lo' hi' st' = some d) :
    (R (n + 1)).ev sc ρ (.Subscript v (.Slice lo hi st q) p) = some d := by
  rw [R_ev]; show cutF (R n) sc ρ v (.Slice lo hi st q) = _
  unfold cutF; simp only [h, h1, h2, h3, Option.bind_eq_bind, Option.bind_some, hp]
theorem ev_item (hs : isSliceE i = false) (h : (R n).ev sc ρ v = some x) (h1 : (R n).ev sc ρ i = some y) (hp : pitem x y = some d) : (R (n + 1)).ev sc ρ (.Subscript v i p) = some d := by
  rw [R_ev]; unfold evF; dsimp only
  rw [if_neg (by rw [hs]; decide)]; simp only [h, h1, Option.bind_eq_bind, Option.bind_some, hp]
theorem ev_meth {o : Expr} {name : Str} {ap : Pos} (hc : (simpleBase o && ap.endLine == p.line && decide (args.length < 20)) = true) (h : (R n).ev sc ρ o = some x) (h1 : evs (R n) sc ρ args = some ds) (hp : pmethod name x ds = some d) :
    (R (n + 1)).ev sc ρ (.Call (.Attribute o name ap) args [] p) = some d := by
  rw [R_ev]; show callF (R n) sc ρ args p (.Attribute o name ap) = _
  unfold callF; dsimp only; rw [if_pos hc]; simp only [h, h1, Option.bind_eq_bind, Option.bind_some, hp]
theorem ev_blt (hg : isGlob sc f = true) (h1 : evs (R n) sc ρ args = some ds) (hp : pbuiltin f ds = some d) : (R (n + 1)).ev sc ρ (.Call (.Name f q) args [] p) = some d := by
  rw [R_ev]; show callF (R n) sc ρ args p (.Name f q) = _
  unfold callF; dsimp only; rw [if_pos hg]; simp only [h1, Option.bind_eq_bind, Option.bind_some, hp]
noncomputable def notBlt (f : Str) : Bool := !(f == "len") && !(f == "sum") && !(f == "min") && !(f == "int")
theorem ev_fun (hg : isGlob sc f = true) (hb : notBlt f = true) (h1 : evs (R n) sc ρ args = some ds) (hp : (R n).cl f ds = some d) : (R (n + 1)).ev sc ρ (.Call (.Name f q) args [] p) = some d := by
  have hn : pbuiltin f ds = none := by
    simp only [notBlt, Bool.and_eq_true, Bool.not_eq_true', beq_eq_false_iff_ne] at hb
    unfold pbuiltin
    rw [if_neg hb.1.1.1, if_neg hb.1.1.2, if_neg hb.1.2, if_neg hb.2]
  rw [R_ev]; show callF (R n) sc ρ args p (.Name f q) = _
  unfold callF; dsimp only; rw [if_pos hg]; simp only [h1, Option.bind_eq_bind, Option.bind_some, hn, hp]
theorem ev_bool {o : BoolOp} (h : evBools (R n) sc ρ o es = some d) : (R (n + 1)).ev sc ρ (.BoolOp o es p) = some d := by
  rw [R_ev]; (unfold evF; dsimp only); exact h
theorem eb_one {o : BoolOp} (h : r.ev sc ρ e = some d) : evBools r sc ρ o [e] = some d := by simp only [evBools]; exact h
theorem eb_and {g h : Bool} {e' : Expr} (h1 : r.ev sc ρ e = some (.bool g)) (h2 : g = true → evBools r sc ρ .And (e' :: es) = some (.bool h)) : evBools r sc ρ .And (e :: e' :: es) = some (.bool (g && h)) := by
  simp only [evBools, h1, Option.bind_eq_bind, Option.bind_some, ptruth]
  cases g with
  | true => exact h2 rfl
  | false => rfl
theorem eb_or {g h : Bool} {e' : Expr} (h1 : r.ev sc ρ e = some (.bool g)) (h2 : g = false → evBools r sc ρ .Or (e' :: es) = some (.bool h)) : evBools r sc ρ .Or (e :: e' :: es) = some (.bool (g || h)) := by
  simp only [evBools, h1, Option.bind_eq_bind, Option.bind_some, ptruth]
  cases g with
  | true => rfl
  | false => exact h2 rfl
theorem ts_bool {o : BoolOp} {g : Bool} (h : tsBools (R n) sc ρ o es = some g) : (R (n + 1)).ts sc ρ (.BoolOp o es p) = some g := by
  rw [R_ts]; exact h
theorem tb_and_nil : tsBools r sc ρ .And [] = some true := rfl
theorem tb_or_nil : tsBools r sc ρ .Or [] = some false := rfl
theorem tb_and {g h : Bool} (h1 : r.ts sc ρ e = some g) (h2 : g = true → tsBools r sc ρ .And es = some h) : tsBools r sc ρ .And (e :: es) = some (g && h) := by
  simp only [tsBools, h1, Option.bind_eq_bind, Option.bind_some]
  cases g with
  | true => exact h2 rfl
  | false => rfl
theorem tb_or {g h : Bool} (h1 : r.ts sc ρ e = some g) (h2 : g = false → tsBools r sc ρ .Or es = some h) : tsBools r sc ρ .Or (e :: es) = some (g || h) := by
  simp only [tsBools, h1, Option.bind_eq_bind, Option.bind_some]
  cases g with
  | true => rfl
  | false => exact h2 rfl
noncomputable def tsPlain : Expr → Bool := tsP
theorem ts_val {g : Bool} (hp : tsPlain e = true) (h : (R n).ev sc ρ e = some d) (h2 : ptruth d = some g) : (R (n + 1)).ts sc ρ e = some g := by
  rw [R_ts]; unfold tsF
  rw [if_pos (show tsP e = true from hp), h]; exact h2
/-! loops' heads -/
theorem it_range1 {k : Int} (hg : isGlob sc "range" = true) (h : evs r sc ρ args = some [.int k]) (hk : small k = true) (hl : k ≤ 1000) : items r sc ρ (.Call (.Name "range" q) args [] p) = some (irange 0 k.toNat) := by
  show (if (decide ((Str.ofString "range") = (Str.ofString "range")) && isGlob sc "range") = true then (evs r sc ρ args).bind itemsC else _) = _
  rw [if_pos (by simp [hg]), h]; show (if (small k && decide (k ≤ 1000)) = true then _ else _) = _
  rw [if_pos (by simp [hk, hl])]
theorem it_range2 {j k : Int} (hg : isGlob sc "range" = true) (h : evs r sc ρ args = some [.int j, .int k]) (hj : small j = true) (hk : small k = true) (hl : k - j ≤ 1000) : items r sc ρ (.Call (.Name "range" q) args [] p) = some (irange j (k - j).toNat) := by
  show (if (decide ((Str.ofString "range") = (Str.ofString "range")) && isGlob sc "range") = true then (evs r sc ρ args).bind itemsC else _) = _
  rw [if_pos (by simp [hg]), h]; show (if (small j && small k && decide (k - j ≤ 1000)) = true then _ else _) = _
  rw [if_pos (by simp [hj, hk, hl])]
theorem it_enum (hg : isGlob sc "enumerate" = true) (h : evs r sc ρ args = some [.list ds]) (hl : ds.length ≤ 1000) : items r sc ρ (.Call (.Name "enumerate" q) args [] p) = some (ds.zipIdx.map fun (x, i) => .tuple [.int i, x]) := by
  show (if (decide ((Str.ofString "enumerate") = (Str.ofString "range")) && isGlob sc "enumerate") = true then (evs r sc ρ args).bind itemsC else if (decide ((Str.ofString "enumerate") = (Str.ofString "enumerate")) && isGlob sc "enumerate") = true then (evs r sc ρ args).bind itemsE else _) = _
  rw [if_neg (by rw [decide_eq_false (by decide +kernel), Bool.false_and]; decide), if_pos (by simp [hg]), h]; show (if ds.length ≤ 1000 then _ else _) = _
  rw [if_pos hl]
noncomputable def itPlain : Expr → Bool
  | .Name .. | .Subscript .. | .List .. => true
  | _ => false
theorem it_plain (hp : itPlain e = true) : items r sc ρ e = itemsV (r.ev sc ρ e) := by
  have hc : callN e = none ∧ isSetE e = false := by cases e <;> first | exact ⟨rfl, rfl⟩ | exact false_ne hp
  unfold items
  rw [hc.1]
  dsimp only
  rw [if_neg (by rw [hc.2]; decide)]
theorem it_list (hp : itPlain e = true) (h : r.ev sc ρ e = some (.list ds)) (hl : ds.length ≤ 1000) : items r sc ρ e = some ds := by
  rw [it_plain hp, h]; show (if ds.length ≤ 1000 then _ else _) = _
  rw [if_pos hl]
theorem it_str {w : List Nat} (hp : itPlain e = true) (h : r.ev sc ρ e = some (Sx w)) (hl : w.length ≤ 1000) : items r sc ρ e = some (w.map fun c => Sx [c]) := by
  rw [it_plain hp, h]; show (if (St w).length ≤ 1000 then some ((St w).cps.toList.map fun c => PyData.str ⟨#[c]⟩) else none) = _
  rw [if_pos (by rw [st_len]; exact hl)]
/-! comprehensions -/
theorem all_scal {α : Type} {f : α → D} (h : ∀ a, scal (f a) = true) (l : List α) : (l.map f).all scal = true := by
  rw [List.all_map, List.all_eq_true]
  exact fun a _ => h a
theorem bindT_name {own : Str → Bool} {z : Str} : bindT own ρ (.Name z p) d = if own z then some ((z, d) :: ρ) else none := rfl
theorem comp_one {t elt : Expr} {ifs : List Expr} {ys : List D} (h1 : compOk csc sc = true) (h2 : tgtOk i t = true) (h3 : items r sc ρ i = some ds) (h4 : comp1 r (isOwnVar csc) (relab csc sc) (freeOnly csc ρ) t ifs elt ds = some ys) :
    evComp r sc ρ elt [⟨t, i, ifs, 0⟩] csc = some ys := by
  unfold evComp
  rw [if_pos h1]
  show (if ((0 : Int) == 0 && tgtOk i t) = true then (items r sc ρ i).bind _ else none) = _
  rw [if_pos (by rw [h2]; rfl), h3]
  exact h4
theorem comp_two {t t2 i2 elt : Expr} {ifs2 : List Expr} {ys : List D} (h1 : compOk csc sc = true) (h2 : (tgtOk i t && tgtOk i2 t2) = true) (h3 : items r sc ρ i = some ds) (h4 : comp2 r (isOwnVar csc) (relab csc sc) (freeOnly csc ρ) t t2 i2 ifs2 elt ds = some ys) (hl : ys.length ≤ 1000) :
    evComp r sc ρ elt [⟨t, i, [], 0⟩, ⟨t2, i2, ifs2, 0⟩] csc = some ys := by
  unfold evComp
  rw [if_pos h1]
  show (if ((0 : Int) == 0 && (0 : Int) == 0 && ([] : List Expr).isEmpty && tgtOk i t && tgtOk i2 t2) = true then (items r sc ρ i).bind _ else none) = _
  rw [Bool.and_eq_true] at h2
  rw [if_pos (by rw [h2.1, h2.2]; rfl), h3]
  show (comp2 r (isOwnVar csc) (relab csc sc) (freeOnly csc ρ) t t2 i2 ifs2 elt ds).bind _ = _
  rw [h4]
  show (if ys.length ≤ 1000 then _ else _) = _
  rw [if_pos hl]
theorem comp_map {α : Type} {own : Str → Bool} {z : Str} {elt : Expr} {g f : α → D} (ho : newIn own ρ z = true) : ∀ {xs : List α}, (∀ w ∈ xs, r.ev sc ((z, g w) :: ρ) elt = some (f w)) → comp1 r own sc ρ (.Name z p) [] elt (xs.map g) = some (xs.map f)
  | [], _ => rfl
  | w :: xs, h => by
    simp only [List.map_cons, comp1, bindT_name, ho, if_true, tsAll, h w List.mem_cons_self, Option.bind_eq_bind, Option.bind_some]
    rw [comp_map ho fun u hu => h u (List.mem_cons_of_mem _ hu)]
    rfl
theorem comp_filter {α : Type} {own : Str → Bool} {z : Str} {elt cnd : Expr} {g f : α → D} {t : α → Bool} (ho : newIn own ρ z = true) : ∀ {xs : List α}, (∀ w ∈ xs, r.ts sc ((z, g w) :: ρ) cnd = some (t w)) → (∀ w ∈ xs, t w = true → r.ev sc ((z, g w) :: ρ) elt = some (f w)) →
    comp1 r own sc ρ (.Name z p) [cnd] elt (xs.map g) = some ((xs.filter t).map f)
  | [], _, _ => rfl
  | w :: xs, h1, h2 => by
    have ih := comp_filter (elt := elt) (f := f) ho (fun u hu => h1 u (List.mem_cons_of_mem _ hu)) (fun u hu => h2 u (List.mem_cons_of_mem _ hu))
    simp only [List.map_cons, comp1, bindT_name, ho, if_true, tsAll, h1 w List.mem_cons_self, Option.bind_eq_bind, Option.bind_some, ih]
    cases ht : t w with
    | true =>
      rw [if_pos rfl, h2 w List.mem_cons_self ht, List.filter_cons_of_pos ht]; rfl
    | false => rw [if_neg (by decide), List.filter_cons_of_neg (by simp [ht])]
theorem comp_pairs {α β : Type} {own : Str → Bool} {z : Str} {t2 i2 elt : Expr} {ifs2 : List Expr} {g : α → D} {ds2 : α → List D} {f : α → List D} (ho : newIn own ρ z = true) : ∀ {xs : List α}, (∀ w ∈ xs, items r sc ((z, g w) :: ρ) i2 = some (ds2 w)) →
    (∀ w ∈ xs, comp1 r own sc ((z, g w) :: ρ) t2 ifs2 elt (ds2 w) = some (f w)) → comp2 r own sc ρ (.Name z p) t2 i2 ifs2 elt (xs.map g) = some (xs.flatMap f)
  | [], _, _ => rfl
  | w :: xs, h1, h2 => by
    simp only [List.map_cons, comp2, bindT_name, ho, if_true, h1 w List.mem_cons_self, h2 w List.mem_cons_self, Option.bind_eq_bind, Option.bind_some]
    rw [comp_pairs (β := β) ho (fun u hu => h1 u (List.mem_cons_of_mem _ hu)) fun u hu => h2 u (List.mem_cons_of_mem _ hu)]
    rfl

/-! statements -/
variable {σ σ' : Stt} {st : Stmt} {rest body els : List Stmt} {res : Fl × Stt} {own : Option Str} {z : Str}
theorem ex_nil : (R (n + 1)).ex sc σ [] = some (.next, σ) := rfl
theorem ex_next (h : ex1 (R n) sc σ st = some (.next, σ')) (h2 : (R n).ex sc σ' rest = some res) : (R (n + 1)).ex sc σ (st :: rest) = some res := by
  rw [R_ex]; (unfold exF; simp only [h, Option.bind_eq_bind, Option.bind_some]); exact h2
theorem ex_ret (h : ex1 (R n) sc σ st = some (.ret d, σ')) : (R (n + 1)).ex sc σ (st :: rest) = some (.ret d, σ') := by
  rw [R_ex]; (unfold exF; simp only [h, Option.bind_eq_bind, Option.bind_some])
theorem e1_scal (ho : isOwnVar sc z = true) (h : (R (n + 1)).ev sc ρ e = some d) (hs : (scal d && own != some z) = true) : ex1 (R n) sc ⟨ρ, own⟩ (.Assign [.Name z p] e q) = some (.next, ⟨(z, d) :: ρ, own⟩) := by
  rw [R_ev] at h
  (unfold ex1; dsimp only; unfold asgF; dsimp only [isName_name, names2_two, Option.bind_some]); rw [if_pos ho]; simp only [h, Option.bind_eq_bind, Option.bind_some]; rw [if_pos hs]
theorem e1_own (ho : isOwnVar sc z = true) (h : (R (n + 1)).ev sc ρ e = some d) (hs : scal d = false) (hm : (mutNames.contains z && freshForm e && (!(isCompE e) || kindIn sc z == some .cell)) = true) : ex1 (R n) sc ⟨ρ, own⟩ (.Assign [.Name z p] e q) = some (.next, ⟨(z, d) :: ρ, some z⟩) := by
  rw [R_ev] at h
  (unfold ex1; dsimp only; unfold asgF; dsimp only [isName_name, names2_two, Option.bind_some]); rw [if_pos ho]; simp only [h, Option.bind_eq_bind, Option.bind_some]; rw [if_neg (by simp [hs]), if_pos hm]
theorem e1_let (ho : isOwnVar sc z = true) (h : (R (n + 1)).ev sc ρ e = some d) (hs : scal d = false) (hm : (mutNames.contains z && freshForm e && (!(isCompE e) || kindIn sc z == some .cell)) = false) : ex1 (R n) sc ⟨ρ, own⟩ (.Assign [.Name z p] e q) = some (.next, ⟨(z, d) :: ρ, none⟩) := by
  rw [R_ev] at h
  (unfold ex1; dsimp only; unfold asgF; dsimp only [isName_name, names2_two, Option.bind_some]); rw [if_pos ho]; simp only [h, Option.bind_eq_bind, Option.bind_some]; rw [if_neg (by simp [hs]), if_neg (by rw [hm]; decide)]
theorem e1_ret (h : (R n).ev sc ρ e = some d) : ex1 (R n) sc ⟨ρ, own⟩ (.Return (some e) p) = some (.ret d, ⟨ρ, none⟩) := by
  (unfold ex1; simp only [h, Option.bind_eq_bind, Option.bind_some])
theorem e1_if_t {t : Expr} (h : (R n).ts sc ρ t = some true) (h2 : (R n).ex sc ⟨ρ, own⟩ body = some res) : ex1 (R n) sc ⟨ρ, own⟩ (.If t body els p) = some res := by
  (unfold ex1; simp only [h, Option.bind_eq_bind, Option.bind_some, if_true]); exact h2
theorem e1_if_f {t : Expr} (h : (R n).ts sc ρ t = some false) (h2 : (R n).ex sc ⟨ρ, own⟩ els = some res) : ex1 (R n) sc ⟨ρ, own⟩ (.If t body els p) = some res := by
  (unfold ex1; simp only [h, Option.bind_eq_bind, Option.bind_some, Bool.false_eq_true, if_false]); exact h2
theorem e1_assert {t : Expr} (h : (R n).ts sc ρ t = some true) : ex1 (R n) sc ⟨ρ, own⟩ (.Assert t none p) = some (.next, ⟨ρ, own⟩) := by
  (unfold ex1; simp only [h, Option.bind_eq_bind, Option.bind_some, if_true])
theorem e1_try {hs : List ExceptHandler} (h : (R n).ex sc ⟨ρ, own⟩ body = some res) : ex1 (R n) sc ⟨ρ, own⟩ (.Try body hs [] [] p) = some res := by
  (unfold ex1; dsimp only); exact h
theorem e1_add {k j : Int} (ho : (isOwnVar sc z && own != some z) = true) (hz : List.lookup z ρ = some (.int k)) (h : (R n).ev sc ρ e = some (.int j)) : ex1 (R n) sc ⟨ρ, own⟩ (.AugAssign (.Name z p) .Add e q) = some (.next, ⟨(z, .int (k + j)) :: ρ, own⟩) := by
  (unfold ex1; dsimp only); rw [if_pos ho]; simp only [hz, h]
theorem e1_sub {k j : Int} (ho : (isOwnVar sc z && own != some z) = true) (hz : List.lookup z ρ = some (.int k)) (h : (R n).ev sc ρ e = some (.int j)) : ex1 (R n) sc ⟨ρ, own⟩ (.AugAssign (.Name z p) .Sub e q) = some (.next, ⟨(z, .int (k - j)) :: ρ, own⟩) := by
  (unfold ex1; dsimp only); rw [if_pos ho]; simp only [hz, h]
theorem e1_del {k : Int} {j : Nat} (ho : (decide (own = some z) && isVar sc z && !(isSliceE i)) = true) (hz : List.lookup z ρ = some (.list ds)) (h : (R n).ev sc ρ i = some (.int k)) (hl : ds.length ≤ 1000) (hj : seqIndex? k ds.length = some j) {q2 : Pos} :
    ex1 (R n) sc ⟨ρ, own⟩ (.Delete [.Subscript (.Name z p) i q] q2) = some (.next, ⟨(z, .list (ds.eraseIdx j)) :: ρ, some z⟩) := by
  (unfold ex1; dsimp only; unfold delF; dsimp only [isName_name, names2_two, Option.bind_some]); rw [if_pos (by simpa using ho)]; simp only [hz, h, Option.bind_eq_bind, Option.bind_some]; rw [if_pos hl, hj]; rfl
theorem e1_append {name : Str} {ap pp : Pos} (ho : (decide (own = some z) && isVar sc z && decide (name = "append") && ap.endLine == p.line && !(isStar e)) = true) (h : (R (n + 1)).ev sc ρ e = some d) (hf : freshScal e d = true) (hz : List.lookup z ρ = some (.list ds)) (hl : ds.length ≤ 1000) :
    ex1 (R n) sc ⟨ρ, own⟩ (.Expr (.Call (.Attribute (.Name z pp) name ap) [e] [] p) q) = some (.next, ⟨(z, .list (ds ++ [d])) :: ρ, some z⟩) := by
  rw [R_ev] at h
  (unfold ex1; dsimp only; unfold appF; dsimp only [isName_name, names2_two, Option.bind_some]); rw [if_pos (by simpa using ho)]; simp only [h, Option.bind_eq_bind, Option.bind_some]; rw [if_pos hf]; simp only [hz]; rw [if_pos hl]
theorem e1_set {k : Int} (ho : (decide (own = some z) && isVar sc z && !(isSliceE i)) = true) (h : (R (n + 1)).ev sc ρ e = some d) (hf : freshScal e d = true) (hz : List.lookup z ρ = some (.list ds)) (hi : (R n).ev sc ρ i = some (.int k)) (hk : (decide (0 ≤ k) && decide (k < ds.length) && decide (ds.length ≤ 1000)) = true) {pp : Pos} :
    ex1 (R n) sc ⟨ρ, own⟩ (.Assign [.Subscript (.Name z pp) i p] e q) = some (.next, ⟨(z, .list (ds.set k.toNat d)) :: ρ, some z⟩) := by
  rw [R_ev] at h
  (unfold ex1; dsimp only; unfold asgF; dsimp only [isName_name, names2_two, Option.bind_some]); rw [if_pos (by simpa using ho)]; simp only [h, Option.bind_eq_bind, Option.bind_some]; rw [if_pos hf]; simp only [hz, hi, Option.bind_some]; rw [if_pos hk]
theorem e1_pair {z2 : Str} {p1 p2 tp : Pos} {k : Nat} (ho : (isOwnVar sc z && isOwnVar sc z2 && own != some z && own != some z2 && decide (z ≠ z2) && swapOk e && !(isCompE e)) = true) (h : (R n).ev sc ρ e = some (.tuple [x, y]) ∨ (R n).ev sc ρ e = some (.list [x, y])) (hs : (scal x && scal y) = true) :
    ex1 (R n) sc ⟨ρ, own⟩ (.Assign [.Tuple [.Name z p1, .Name z2 p2] k tp] e q) = some (.next, ⟨(z2, y) :: (z, x) :: ρ, own⟩) := by
  (unfold ex1; dsimp only; unfold asgF; dsimp only [isName_name, names2_two, Option.bind_some]); rw [if_pos (by simpa using ho)]
  rcases h with h | h <;> rw [h] <;> exact if_pos hs
theorem e1_for {t : Expr} (h : items (R n) sc (dropOwn (headP ⟨ρ, own⟩ i)) i = some ds) (ht : tgtOk i t = true) (h2 : forF (R n) sc t body ds (headP ⟨ρ, own⟩ i) = some res) : ex1 (R n) sc ⟨ρ, own⟩ (.For t i body [] p) = some res := by
  show (items (R n) sc (dropOwn (headP ⟨ρ, own⟩ i)) i).bind (fun ds => if tgtOk i t then forF (R n) sc t body ds (headP ⟨ρ, own⟩ i) else none) = some res
  rw [h, Option.bind_some, if_pos ht]; exact h2
theorem for_nil {t : Expr} : forF r sc t body [] σ = some (.next, σ) := rfl
theorem for_next {ρ' : Rho} {t : Expr} (hs : (scalT d && notBound t own) = true) (hb : bindT (isOwnVar sc) ρ t d = some ρ') (h : r.ex sc ⟨ρ', own⟩ body = some (.next, σ')) (h2 : forF r sc t body ds σ' = some res) : forF r sc t body (d :: ds) ⟨ρ, own⟩ = some res := by
  (unfold forF; dsimp only); rw [if_pos hs]; simp only [hb, h, Option.bind_eq_bind, Option.bind_some]; exact h2
theorem for_ret {ρ' : Rho} {t : Expr} (hs : (scalT d && notBound t own) = true) (hb : bindT (isOwnVar sc) ρ t d = some ρ') (h : r.ex sc ⟨ρ', own⟩ body = some (.ret x, σ')) : forF r sc t body (d :: ds) ⟨ρ, own⟩ = some (.ret x, σ') := by
  (unfold forF; dsimp only); rw [if_pos hs]; simp only [hb, h, Option.bind_eq_bind, Option.bind_some]
theorem bind_name (ho : isOwnVar sc z = true) : bindT (isOwnVar sc) ρ (.Name z p) d = some ((z, d) :: ρ) := by rw [bindT_name, if_pos ho]
theorem cl_fun {ps : List Str} (hp : isPrim f = false) (hg : ¬ f = "_grouping_intervals") (hd : defOf f = some (ps, sc, body)) (hl : ps.length = ds.length) (h : (R n).ex sc ⟨(ps.zip ds).reverse, none⟩ body = some (.ret d, σ)) : (R (n + 1)).cl f ds = some d := by
  rw [R_cl]; unfold clF
  rw [if_neg (by rw [hp]; decide), if_neg hg]
  simp only [hd, Option.bind_eq_bind, Option.bind_some]
  rw [if_pos hl]
  simp only [h, Option.bind_some]
end
end Mine
end

section
set_option maxRecDepth 100000
set_option linter.unusedVariables false
namespace Mine
open PySem

noncomputable def clp (v : Option Int) (dflt n : Nat) : Nat := match v with
  | none => dflt
  | some i => (max 0 (min (if i < 0 then i + n else i) (n : Int))).toNat
noncomputable def sl {α : Type} (lo hi : Option Int) (l : List α) : List α := (l.take (clp hi l.length l.length)).drop (clp lo 0 l.length)

theorem toNat_min (a : Int) (n : Nat) : (max 0 (min a (n : Int))).toNat ≤ n := Int.toNat_le.mpr (Int.max_le.mpr ⟨Int.natCast_nonneg n, Int.min_le_right _ _⟩)
theorem clp_le (v : Option Int) (n : Nat) : clp v n n ≤ n := by
  unfold clp; split
  · exact Nat.le_refl n
  · exact toNat_min _ _
theorem clp_nat {i : Int} {k : Nat} (h : i = (k : Int)) (d n : Nat) : clp (some i) d n = min k n := by
  subst h
  show (max 0 (min (if (k : Int) < 0 then (k : Int) + n else k) (n : Int))).toNat = min k n
  rw [if_neg (Int.not_lt.mpr (Int.natCast_nonneg k))]
  rcases Nat.le_total k n with q | q
  · rw [Int.min_eq_left (Int.ofNat_le.mpr q), Nat.min_eq_left q, Int.max_eq_right (Int.natCast_nonneg _), Int.toNat_natCast]
  · rw [Int.min_eq_right (Int.ofNat_le.mpr q), Nat.min_eq_right q, Int.max_eq_right (Int.natCast_nonneg _), Int.toNat_natCast]
theorem clp_neg {i : Int} {k : Nat} (h : i = -((k + 1 : Nat) : Int)) (d n : Nat) : clp (some i) d n = n - (k + 1) := by
  subst h
  show (max 0 (min (if -((k + 1 : Nat) : Int) < 0 then -((k + 1 : Nat) : Int) + n else -((k + 1 : Nat) : Int)) (n : Int))).toNat = n - (k + 1)
  rw [if_pos (by omega), Int.min_eq_left (by omega)]
  omega
theorem range_map (a b : Nat) : sliceRange (a : Int) (b : Int) 1 = List.range' a (b - a) := by
  unfold sliceRange
  simp only [show (1 : Int) > 0 by decide, if_true]
  have : (if (a : Int) < (b : Int) then ((b : Int) - a + 1 - 1) / 1 else 0).toNat = b - a := by
    split
    · rw [Int.ediv_one]; omega
    · omega
  rw [this]
  apply List.ext_getElem?
  intro i
  rw [List.getElem?_map]
  by_cases hi : i < b - a
  · rw [List.getElem?_range hi, List.getElem?_range' hi]
    simp only [Option.map_some]
    congr 1 <;> omega
  · rw [List.getElem?_eq_none (by simp; omega), List.getElem?_eq_none (by simp; omega)]; rfl
theorem pick_range {α : Type} (l : List α) : ∀ (m a : Nat), a + m ≤ l.length → (List.range' a m).filterMap (l[·]?) = (l.drop a).take m
  | 0, a, _ => by simp
  | m + 1, a, h => by
    rw [List.range'_succ, List.filterMap_cons]
    have ha : a < l.length := by omega
    simp only [List.getElem?_eq_getElem ha]
    rw [pick_range l m (a + 1) (by omega), List.drop_eq_getElem_cons ha, List.take_succ_cons]
theorem pick_sl {α : Type} (l : List α) (lo hi : Option Int) : (List.range' (clp lo 0 l.length) (clp hi l.length l.length - clp lo 0 l.length)).filterMap (l[·]?) = sl lo hi l := by
  unfold sl
  rw [List.drop_take]
  by_cases h : clp lo 0 l.length ≤ clp hi l.length l.length
  · exact pick_range l _ _ (by have := clp_le hi l.length; omega)
  · rw [show clp hi l.length l.length - clp lo 0 l.length = 0 by omega]; simp

theorem idx_str (lo hi : Option Int) (n : Nat) : Builtin.Str.strSliceIndices lo hi 1 n = List.range' (clp lo 0 n) (clp hi n n - clp lo 0 n) := by
  rw [← range_map]
  unfold Builtin.Str.strSliceIndices clp
  simp only [show (1 : Int) > 0 by decide, if_true]
  cases lo <;> cases hi <;> simp only [] <;> congr 1 <;> omega
theorem idx_cut (lo hi : Option Int) (n : Nat) : cutAt lo hi none n = List.range' (clp lo 0 n) (clp hi n n - clp lo 0 n) := by
  rw [← range_map]
  unfold cutAt sliceBounds clp
  simp only [Option.getD_none, show (1 : Int) > 0 by decide, if_true]
  cases lo <;> cases hi <;> simp only [] <;> congr 1 <;> omega

theorem sl_len {α : Type} (lo hi : Option Int) (l : List α) : (sl lo hi l).length ≤ l.length := by
  unfold sl; simp; omega
theorem sl_map {α β : Type} (f : α → β) (lo hi : Option Int) (l : List α) : sl lo hi (l.map f) = (sl lo hi l).map f := by
  unfold sl; simp [List.map_take, List.map_drop]
theorem p_slice_str {l : List Nat} {lo hi : Option Int} (h : l.length ≤ 1000) : pslice (Sx l) lo hi none = some (Sx (sl lo hi l)) := by
  unfold pslice
  rw [if_neg (by decide)]
  simp only []
  rw [st_len, idx_str]
  have hb := clp_le hi l.length
  have e : (List.range' (clp lo 0 l.length) (clp hi l.length l.length - clp lo 0 l.length)).length = clp hi l.length l.length - clp lo 0 l.length := by simp
  rw [if_pos (by simp; omega)]
  congr 2
  have key : (List.range' (clp lo 0 l.length) (clp hi l.length l.length - clp lo 0 l.length)).filterMap (fun x => (St l).cps[x]?) = sl lo hi l := by
    rw [← pick_sl l lo hi]; congr 1; funext i; simp
  split
  · rename_i hx
    rw [e, beq_iff_eq] at hx
    have : clp lo 0 l.length = 0 ∨ l.length = 0 := by omega
    unfold sl
    rcases this with h0 | h0
    · rw [h0, List.drop_zero, List.take_of_length_le (by omega)]
    · have : l = [] := List.length_eq_zero_iff.mp h0
      subst this; simp
  · rw [key]
theorem p_slice_list {f : List D} {lo hi : Option Int} (h : f.length ≤ 1000) : pslice (.list f) lo hi none = some (.list (sl lo hi f)) := by
  unfold pslice
  rw [if_neg (by decide)]
  simp only []
  rw [if_pos h, idx_cut, pick_sl]
theorem cut_rev : ∀ n : Nat, cutAt none none (some (-1)) n = (List.range n).reverse := by
  intro n
  unfold cutAt sliceBounds sliceRange
  simp only [Option.getD_some, show ¬ ((-1 : Int) > 0) by decide, if_false]
  have : (if (n : Int) - 1 > -1 then ((n : Int) - 1 - (-1) - (-1) - 1) / (-(-1)) else 0).toNat = n := by
    split
    · (first | (simp; done) | (simp; omega))
    · omega
  rw [this]
  apply List.ext_getElem?
  intro i
  rw [List.getElem?_map]
  by_cases hi : i < n
  · rw [List.getElem?_range hi, List.getElem?_reverse (by simpa using hi)]
    simp only [Option.map_some, List.length_range]
    rw [List.getElem?_range (by omega)]
    congr 1; omega
  · rw [List.getElem?_eq_none (by simp; omega), List.getElem?_eq_none (by simp; omega)]; rfl
theorem p_rev {f : List D} (h : f.length ≤ 1000) : pslice (.list f) none none (some (-1)) = some (.list f.reverse) := by
  unfold pslice
  rw [if_neg (by decide)]
  simp only []
  rw [if_pos h, cut_rev]
  congr 2
  rw [List.filterMap_reverse]
  congr 1
  have := pick_range f f.length 0 (by omega)
  rw [List.range_eq_range']
  simpa using this

theorem p_item_list {f : List D} {i : Int} {d : D} (h0 : 0 ≤ i) (hs : i < 2 ^ 40) (h : f[i.toNat]? = some d) : pitem (.list f) (.int i) = some d := by
  have hl : i.toNat < f.length := (List.getElem?_eq_some_iff.mp h).1
  simp only [pitem]
  rw [if_pos (by simp [small]; omega)]
  unfold seqIndex?
  simp only []
  rw [if_neg (show ¬ i < 0 by omega), if_pos (by simp; omega)]
  exact h
theorem p_item_last {f : List D} {d : D} (h : f.getLast? = some d) : pitem (.list f) (.int (-1)) = some d := by
  have hl : f ≠ [] := by rintro rfl; cases h
  have hp : 0 < f.length := List.length_pos_iff.mpr hl
  simp only [pitem]
  rw [if_pos (by decide)]
  unfold seqIndex?
  simp only []
  rw [if_pos (show (-1 : Int) < 0 by decide), if_pos (by simp; omega)]
  rw [List.getLast?_eq_getElem?] at h
  simp only [Option.bind_some]
  rw [← h]; congr 1; omega
theorem p_item_str {l : List Nat} {i : Int} {c : Nat} (h0 : 0 ≤ i) (hs : i < 2 ^ 40) (h : l[i.toNat]? = some c) : pitem (Sx l) (.int i) = some (Sx [c]) := by
  have hl : i.toNat < l.length := (List.getElem?_eq_some_iff.mp h).1
  simp only [pitem]
  rw [if_pos (by simp [small]; omega)]
  unfold Txt.charAt seqIndex?
  simp only []
  rw [st_len, if_neg (show ¬ i < 0 by omega), if_pos (by simp; omega)]
  simp only [Option.bind_some]
  have : (St l).cps[i.toNat]? = some c := by simpa using h
  rw [this]; rfl

theorem b_add_str {x y : Str} : pbin .Add (.str x) (.str y) = if x.length + y.length ≤ 1000 then some (.str (x ++ y)) else none := rfl
theorem b_add_list {x y : List D} : pbin .Add (.list x) (.list y) = if x.length + y.length ≤ 1000 then some (.list (x ++ y)) else none := rfl
theorem b_mul_int {i j : Int} : pbin .Mult (.int i) (.int j) = if small i && small j then some (.int (i * j)) else none := rfl
theorem b_mul_list {xs : List D} {n : Int} : pbin .Mult (.list xs) (.int n) = if decide (0 ≤ n) && decide (n ≤ 1000) && decide (xs.length ≤ 1000) then some (.list (List.replicate n.toNat xs).flatten) else none := rfl
theorem b_mod {i j : Int} : pbin .Mod (.int i) (.int j) = if j != 0 then some (.int (i.fmod j)) else none := rfl
theorem b_fdiv {i j : Int} : pbin .FloorDiv (.int i) (.int j) = if small i && decide (0 < j) && decide (j < 2 ^ 30) then some (.int (i.fdiv j)) else none := rfl
theorem b_pow {i j : Int} : pbin .Pow (.int i) (.int j) = if decide (0 ≤ i) && decide (i ≤ 16) && decide (0 ≤ j) && decide (j ≤ 64) then some (.int (i ^ j.toNat)) else none := rfl
theorem c_eq_str {x y : Str} : pcmp .Eq (.str x) (.str y) = some (x == y) := rfl
theorem c_eq_list {x y : List D} : pcmp .Eq (.list x) (.list y) = if eqOk x y then some (PyData.eqvAll x y) else none := rfl
theorem c_ne_list {x y : List D} : pcmp .NotEq (.list x) (.list y) = if eqOk x y then some (!PyData.eqvAll x y) else none := rfl
theorem c_in_list {i : Int} {xs : List D} : pcmp .In (.int i) (.list xs) = if PyData.canLayAll0 xs then some (xs.any fun y => PyData.eqv y (.int i)) else none := rfl
theorem c_in_tup {i : Int} {xs : List D} : pcmp .In (.int i) (.tuple xs) = if PyData.canLayAll0 xs then some (xs.any fun y => PyData.eqv y (.int i)) else none := rfl
theorem c_lt {x y : Int} {b : Bool} (h : decide (x < y) = b) : pcmp .Lt (.int x) (.int y) = some b := congrArg some h
theorem c_ge {x y : Int} {b : Bool} (h : decide (x ≥ y) = b) : pcmp .GtE (.int x) (.int y) = some b := congrArg some h
theorem c_gt {x y : Int} {b : Bool} (h : decide (x > y) = b) : pcmp .Gt (.int x) (.int y) = some b := congrArg some h
theorem c_notin {x y : Str} : pcmp .NotIn (.str x) (.str y) = some (!(Txt.contains y x)) := rfl
theorem p_add_str {a b : List Nat} (h : a.length + b.length ≤ 1000) : pbin .Add (Sx a) (Sx b) = some (Sx (a ++ b)) := by
  rw [b_add_str, st_len, st_len, if_pos h, st_app]
theorem p_add_list {a b : List D} (h : a.length + b.length ≤ 1000) : pbin .Add (.list a) (.list b) = some (.list (a ++ b)) := by
  rw [b_add_list, if_pos h]
theorem p_rep {a : List D} {k : Nat} (h : k ≤ 1000) (h2 : a.length ≤ 1000) : pbin .Mult (.list a) (.int k) = some (.list (List.replicate k a).flatten) := by
  rw [b_mul_list, if_pos (by simp; omega)]; simp
theorem p_eq_str {a b : List Nat} : pcmp .Eq (Sx a) (Sx b) = some (a == b) := by rw [c_eq_str, st_beq]
theorem p_len_str {a : List Nat} (h : a.length ≤ 1000) : pbuiltin "len" [Sx a] = some (.int a.length) := by
  unfold pbuiltin; rw [if_pos rfl]; simp only []; rw [st_len, if_pos h]
theorem p_len_list {a : List D} (h : a.length ≤ 1000) : pbuiltin "len" [.list a] = some (.int a.length) := by
  unfold pbuiltin; rw [if_pos rfl]; simp only []; rw [if_pos h]
theorem asI_map : ∀ l : List Int, asInts (l.map .int) = some l
  | [] => rfl
  | x :: r => by simp only [List.map_cons, asInts]; rw [asI_map r]; rfl
theorem asB_map : ∀ l : List Bool, asBools (l.map .bool) = some l
  | [] => rfl
  | x :: r => by simp only [List.map_cons, asBools]; rw [asB_map r]; rfl
theorem asS_map : ∀ l : List Str, asStrs (l.map .str) = some l
  | [] => rfl
  | x :: r => by simp only [List.map_cons, asStrs]; rw [asS_map r]; rfl
noncomputable def countT (l : List Bool) : Int := (l.map fun b => if b then (1 : Int) else 0).sum
theorem p_sum_int {a : List Int} (h : a.length ≤ 1000) : pbuiltin "sum" [.list (a.map .int)] = some (.int a.sum) := by
  unfold pbuiltin; rw [if_neg (by decide), if_pos rfl]; simp only []; rw [if_pos (by simpa using h), asI_map]
theorem p_sum_bool {a : List Bool} (h : a.length ≤ 1000) : pbuiltin "sum" [.list (a.map .bool)] = some (.int (countT a)) := by
  unfold pbuiltin; rw [if_neg (by decide), if_pos rfl]; simp only []; rw [if_pos (by simpa using h)]
  cases a with
  | nil => rfl
  | cons b r => rw [asB_map]; rfl
noncomputable def minI : List Int → Int
  | [] => 0
  | x :: r => r.foldl (fun a b => if b < a then b else a) x
theorem p_min {a : List Int} (h : a.length ≤ 1000) (hne : a ≠ []) : pbuiltin "min" [.list (a.map .int)] = some (.int (minI a)) := by
  unfold pbuiltin; rw [if_neg (by decide), if_neg (by decide), if_pos rfl]; simp only []; rw [if_pos (by simpa using h), asI_map]
  cases a with
  | nil => exact absurd rfl hne
  | cons b r => rfl
theorem p_int {b : Bool} : pbuiltin "int" [.bool b] = some (.int (if b then 1 else 0)) := by
  unfold pbuiltin; rw [if_neg (by decide), if_neg (by decide), if_neg (by decide), if_pos rfl]
noncomputable def joinN (x : List Nat) : List (List Nat) → List Nat
  | [] => []
  | [p] => p
  | p :: q :: r => p ++ x ++ joinN x (q :: r)
theorem join_st (x : List Nat) : ∀ ps : List (List Nat), Txt.join (St x) (ps.map St) = St (joinN x ps) := by
  intro ps
  unfold Txt.join
  rw [StrLaws.glued_eq_join]
  induction ps with
  | nil => rfl
  | cons p r ih =>
    cases r with
    | nil => rfl
    | cons q r =>
      show St p ++ St x ++ Str.join (St x) (St q :: r.map St) = _
      have ih : Str.join (St x) (St q :: r.map St) = St (joinN x (q :: r)) := ih
      rw [ih, st_app, st_app]; rfl
theorem p_join {x : List Nat} {ps : List (List Nat)} (h : x.length ≤ 100) (h2 : ps.length ≤ 100) (h3 : ∀ p ∈ ps, p.length ≤ 1000) : pmethod "join" (Sx x) [.list (ps.map Sx)] = some (Sx (joinN x ps)) := by
  unfold pmethod
  rw [if_neg (by decide), if_neg (by decide), if_neg (by decide), if_neg (by decide), if_pos rfl]
  simp only []
  have e : ps.map Sx = (ps.map St).map .str := by simp
  rw [e, asS_map]
  simp only []
  rw [if_pos (by
    simp only [Bool.and_eq_true, decide_eq_true_eq, List.all_eq_true, List.length_map, List.mem_map]
    refine ⟨⟨by rw [st_len]; exact h, h2⟩, ?_⟩
    rintro t ⟨p, hp, rfl⟩
    rw [st_len]; exact h3 p hp), join_st]

/-! lists compared -/
theorem eqv_map {α : Type} [BEq α] {f : α → D} (h : ∀ a b, PyData.eqv (f a) (f b) = (a == b)) : ∀ xs ys : List α, PyData.eqvAll (xs.map f) (ys.map f) = (xs == ys)
  | [], [] => by simp [PyData.eqvAll]
  | [], y :: ys => by simp [PyData.eqvAll]
  | x :: xs, [] => by simp [PyData.eqvAll]
  | x :: xs, y :: ys => by simp only [List.map_cons, PyData.eqvAll, h, eqv_map h xs ys]; rfl
theorem lay_map {α : Type} {f : α → D} : ∀ {xs : List α}, (∀ a ∈ xs, PyData.canLay0 (f a) = true) → PyData.canLayAll0 (xs.map f) = true
  | [], _ => rfl
  | x :: xs, h => by simp only [List.map_cons, PyData.canLayAll0, h x List.mem_cons_self, Bool.true_and]; exact lay_map fun a ha => h a (List.mem_cons_of_mem _ ha)
theorem dep_map {α : Type} {f : α → D} {k : Nat} : ∀ {xs : List α}, (∀ a ∈ xs, PyData.depth (f a) ≤ k) → PyData.depthAll (xs.map f) ≤ k
  | [], _ => Nat.zero_le _
  | x :: xs, h => by
    have := dep_map (f := f) fun a ha => h a (List.mem_cons_of_mem x ha)
    have := h x List.mem_cons_self
    simp only [List.map_cons, PyData.depthAll]; omega
theorem eq_ok {α : Type} {f : α → D} {xs ys : List α} (h1 : ∀ a ∈ xs, PyData.canLay0 (f a) = true) (h2 : ∀ a ∈ ys, PyData.canLay0 (f a) = true) (h3 : ∀ a ∈ xs, PyData.depth (f a) ≤ 8) : eqOk (xs.map f) (ys.map f) = true := by
  unfold eqOk
  rw [lay_map h1, lay_map h2, decide_eq_true (dep_map h3)]; rfl
theorem p_eq_list {α : Type} [BEq α] {f : α → D} {xs ys : List α} (h : ∀ a b, PyData.eqv (f a) (f b) = (a == b)) (h1 : ∀ a ∈ xs, PyData.canLay0 (f a) = true) (h2 : ∀ a ∈ ys, PyData.canLay0 (f a) = true) (h3 : ∀ a ∈ xs, PyData.depth (f a) ≤ 8) :
    pcmp .Eq (.list (xs.map f)) (.list (ys.map f)) = some (xs == ys) := by
  rw [c_eq_list, if_pos (eq_ok h1 h2 h3), eqv_map h]
theorem p_ne_list {α : Type} [BEq α] {f : α → D} {xs ys : List α} (h : ∀ a b, PyData.eqv (f a) (f b) = (a == b)) (h1 : ∀ a ∈ xs, PyData.canLay0 (f a) = true) (h2 : ∀ a ∈ ys, PyData.canLay0 (f a) = true) (h3 : ∀ a ∈ xs, PyData.depth (f a) ≤ 8) :
    pcmp .NotEq (.list (xs.map f)) (.list (ys.map f)) = some (!(xs == ys)) := by
  rw [c_ne_list, if_pos (eq_ok h1 h2 h3), eqv_map h]
theorem p_eq_ints {xs ys : List Int} : pcmp .Eq (.list (xs.map .int)) (.list (ys.map .int)) = some (xs == ys) :=
  p_eq_list (fun a b => by simp [PyData.eqv]) (fun _ _ => by simp [PyData.canLay0]) (fun _ _ => by simp [PyData.canLay0]) fun _ _ => by simp [PyData.depth]
theorem p_ne_ints {xs ys : List Int} : pcmp .NotEq (.list (xs.map .int)) (.list (ys.map .int)) = some (!(xs == ys)) :=
  p_ne_list (fun a b => by simp [PyData.eqv]) (fun _ _ => by simp [PyData.canLay0]) (fun _ _ => by simp [PyData.canLay0]) fun _ _ => by simp [PyData.depth]
theorem p_in_ints {x : Int} {xs : List Int} : pcmp .In (.int x) (.list (xs.map .int)) = some (xs.contains x) := by
  rw [c_in_list, if_pos (lay_map fun _ _ => by simp [PyData.canLay0])]
  congr 1
  induction xs with
  | nil => rfl
  | cons y r ih => simp only [List.map_cons, List.any_cons, ih, List.contains_cons, PyData.eqv]; congr 1; exact Bool.beq_comm
end Mine
end

section
set_option maxRecDepth 100000
set_option linter.unusedVariables false
namespace Mine
open PySem

theorem lk_drop {z u : Str} {ρ : Rho} {d : D} (h : (z == u) = false) (h2 : List.lookup z ρ = some d) : List.lookup z (dropOwn ⟨ρ, some u⟩) = some d := by
  unfold dropOwn
  simp only []
  induction ρ with
  | nil => exact h2
  | cons t r ih =>
    obtain ⟨v, w⟩ := t
    rw [List.lookup_cons] at h2
    rw [List.filter_cons]
    cases hz : (z == v) with
    | true =>
      rw [hz] at h2
      have : z = v := by simpa using hz
      subst this
      rw [if_pos (by simpa using h), List.lookup_cons, hz]; exact h2
    | false =>
      rw [hz] at h2
      split
      · rw [List.lookup_cons, hz]; exact ih h2
      · exact ih h2
/-- it comes to something, and P holds of that -/
noncomputable def Ev {α : Type} (x : Option α) (P : α → Prop) : Prop := ∃ a, x = some a ∧ P a
section
variable {n : Nat} {r : Rec} {sc : Scope} {ρ : Rho} {p q : Pos} {d : D} {σ σ' : Stt} {st : Stmt} {rest body els : List Stmt} {own : Option Str} {P : Fl × Stt → Prop} {ds : List D} {f : Str} {t i : Expr}
theorem ev_eq {α : Type} {x : Option α} {a : α} {P : α → Prop} (h : x = some a) (hp : P a) : Ev x P := ⟨a, h, hp⟩
theorem wx_step (h : ex1 (R n) sc σ st = some (.next, σ')) (h2 : Ev ((R n).ex sc σ' rest) P) : Ev ((R (n + 1)).ex sc σ (st :: rest)) P := by
  obtain ⟨a, h2, hp⟩ := h2
  exact ⟨a, ex_next h h2, hp⟩
theorem wx_ret (h : ex1 (R n) sc σ st = some (.ret d, σ')) (h2 : P (.ret d, σ')) : Ev ((R (n + 1)).ex sc σ (st :: rest)) P := ⟨_, ex_ret h, h2⟩
theorem wx_nil (h : P (.next, σ)) : Ev ((R (n + 1)).ex sc σ []) P := ⟨_, ex_nil, h⟩
theorem wx_mid (Mid : Rho → Option Str → Prop) (h : Ev (ex1 (R n) sc σ st) (fun res => match res with | (.next, σ') => Mid σ'.rho σ'.own | res => P res)) (h2 : ∀ ρ own, Mid ρ own → Ev ((R n).ex sc ⟨ρ, own⟩ rest) P) : Ev ((R (n + 1)).ex sc σ (st :: rest)) P := by
  obtain ⟨⟨fl, σ1⟩, h1, hp⟩ := h
  cases fl with
  | next =>
    obtain ⟨a, h3, hp3⟩ := h2 σ1.rho σ1.own hp
    exact ⟨a, ex_next h1 h3, hp3⟩
  | ret d => exact ⟨_, ex_ret h1, hp⟩
theorem wi_if {b : Bool} (h : (R n).ts sc ρ t = some b) (h1 : b = true → Ev ((R n).ex sc ⟨ρ, own⟩ body) P) (h2 : b = false → Ev ((R n).ex sc ⟨ρ, own⟩ els) P) : Ev (ex1 (R n) sc ⟨ρ, own⟩ (.If t body els p)) P := by
  cases b with
  | true => obtain ⟨a, h3, hp⟩ := h1 rfl; exact ⟨a, e1_if_t h h3, hp⟩
  | false => obtain ⟨a, h3, hp⟩ := h2 rfl; exact ⟨a, e1_if_f h h3, hp⟩
theorem for_ev {α : Type} {g : α → D} (I : List α → Rho → Option Str → Prop)
    (hs : ∀ x xs ρ own, I (x :: xs) ρ own → (scalT (g x) && notBound t own) = true ∧ ∃ ρ', bindT (isOwnVar sc) ρ t (g x) = some ρ' ∧ Ev (r.ex sc ⟨ρ', own⟩ body) (fun res => match res with | (.next, σ') => I xs σ'.rho σ'.own | res => P res))
    (hn : ∀ ρ own, I [] ρ own → P (.next, ⟨ρ, own⟩)) : ∀ (xs : List α) (ρ : Rho) (own : Option Str), I xs ρ own → Ev (forF r sc t body (xs.map g) ⟨ρ, own⟩) P
  | [], ρ, own, h => ⟨_, for_nil, hn ρ own h⟩
  | x :: xs, ρ, own, h => by
    obtain ⟨h1, ρ', h2, ⟨fl, σ1⟩, h3, h4⟩ := hs x xs ρ own h
    cases fl with
    | next =>
      obtain ⟨a, h5, h6⟩ := for_ev I hs hn xs σ1.rho σ1.own h4
      exact ⟨a, for_next h1 h2 h3 h5, h6⟩
    | ret d => exact ⟨_, for_ret h1 h2 h3, h4⟩
theorem wi_for {α : Type} {g : α → D} (xs : List α) (I : List α → Rho → Option Str → Prop) (h : items (R n) sc (dropOwn (headP ⟨ρ, own⟩ i)) i = some (xs.map g)) (ht : tgtOk i t = true) (h0 : I xs (headP ⟨ρ, own⟩ i).rho (headP ⟨ρ, own⟩ i).own)
    (hs : ∀ x xs ρ own, I (x :: xs) ρ own → (scalT (g x) && notBound t own) = true ∧ ∃ ρ', bindT (isOwnVar sc) ρ t (g x) = some ρ' ∧ Ev ((R n).ex sc ⟨ρ', own⟩ body) (fun res => match res with | (.next, σ') => I xs σ'.rho σ'.own | res => P res))
    (hn : ∀ ρ own, I [] ρ own → P (.next, ⟨ρ, own⟩)) : Ev (ex1 (R n) sc ⟨ρ, own⟩ (.For t i body [] p)) P := by
  obtain ⟨a, h1, h2⟩ := for_ev (r := R n) (sc := sc) (t := t) (body := body) I hs hn xs _ _ h0
  exact ⟨a, e1_for h ht h1, h2⟩
theorem cl_ev {ps : List Str} (hp : isPrim f = false) (hg : ¬ f = "_grouping_intervals") (hd : defOf f = some (ps, sc, body)) (hl : ps.length = ds.length) (h : Ev ((R n).ex sc ⟨(ps.zip ds).reverse, none⟩ body) (fun res => ∃ σ, res = (.ret d, σ))) : (R (n + 1)).cl f ds = some d := by
  obtain ⟨_, h, σ, rfl⟩ := h
  exact cl_fun hp hg hd hl h
end

theorem tok_all {P : List Nat → Prop} (w : List Nat) (h : ∀ p : List Nat, p.length ≤ w.length → (∀ c ∈ p, c ∈ w) → P p) : ∀ p ∈ tok w, P p := by
  have key : ∀ (s cur : List Nat) (d : List (List Nat)), (cur.length + s.length ≤ w.length) → (∀ c ∈ cur, c ∈ w) → (∀ c ∈ s, c ∈ w) → (∀ p ∈ d, P p) → ∀ p ∈ tokEnd (s.foldl tokStep (d, cur)), P p := by
    intro s
    induction s with
    | nil =>
      intro cur d hl hc _ hd p hp
      unfold tokEnd at hp
      rcases List.mem_append.mp hp with q | q
      · exact hd p q
      · rw [List.mem_singleton.mp q]; exact h cur (by simpa using hl) hc
    | cons c s ih =>
      intro cur d hl hc hs hd
      rw [List.foldl_cons]
      unfold tokStep
      simp only [List.length_cons] at hl
      have hc' : ∀ x ∈ cur ++ [c], x ∈ w := fun x hx => by
        rcases List.mem_append.mp hx with q | q
        · exact hc x q
        · rw [List.mem_singleton.mp q]; exact hs c List.mem_cons_self
      split
      · refine ih [] _ (by simp; omega) (by simp) (fun x hx => hs x (List.mem_cons_of_mem _ hx)) fun p hp => ?_
        rcases List.mem_append.mp hp with q | q
        · exact hd p q
        · rw [List.mem_singleton.mp q]
          exact h _ (by simp only [List.length_take, List.length_append, List.length_cons, List.length_nil]; omega) fun x hx => hc' x (List.mem_of_mem_take hx)
      · exact ih _ _ (by simp; omega) hc' (fun x hx => hs x (List.mem_cons_of_mem _ hx)) hd
  exact key w [] [] (by simp) (by simp) (fun c hc => hc) (by simp)
theorem tokStep_or (st : List (List Nat) × List Nat) (c : Nat) : tokStep st c = (st.1 ++ [(st.2 ++ [c]).take ((st.2 ++ [c]).length - 3)], []) ∨ tokStep st c = (st.1, st.2 ++ [c]) := by
  unfold tokStep
  split
  · exact .inl rfl
  · exact .inr rfl
theorem tok_len (w : List Nat) : (tok w).length ≤ w.length + 1 := by
  have key : ∀ (s cur : List Nat) (d : List (List Nat)), (tokEnd (s.foldl tokStep (d, cur))).length ≤ d.length + s.length + 1 := by
    intro s
    induction s with
    | nil => intro cur d; simp [tokEnd]
    | cons c s ih =>
      intro cur d
      rw [List.foldl_cons]
      rcases tokStep_or (d, cur) c with e | e
      · rw [e]
        have := ih [] (d ++ [List.take ((cur ++ [c]).length - 3) (cur ++ [c])])
        simp only [List.length_append, List.length_cons, List.length_nil] at this ⊢; omega
      · rw [e]
        have := ih (cur ++ [c]) d
        simp only [List.length_cons] at this ⊢; omega
  have := key w [] []
  simpa [tok] using this
theorem greedy_last : ∀ (ms : List (List Nat)) (s : List Nat), greedy (ms ++ [[]]) s = greedy ms s
  | [], s => by simp only [List.nil_append, greedy, findR_nil]
  | m :: ms, s => by
    simp only [List.cons_append, greedy]
    split
    · exact greedy_last ms _
    · rfl
theorem greedy_head (ms : List (List Nat)) (s : List Nat) : greedy ([] :: ms) s = greedy ms s := by simp only [greedy, findR_nil]
end Mine
end

section
set_option maxRecDepth 100000
set_option linter.unusedVariables false
namespace Mine
open PySem

theorem p_truth_str {a : List Nat} (h : a.length ≤ 1000) : ptruth (Sx a) = some (!a.isEmpty) := by
  simp only [ptruth]; rw [st_len, if_pos h]
  cases a <;> simp; omega
theorem idx_last {k : Nat} (h : 0 < k) : seqIndex? (-1) k = some (k - 1) := by
  unfold seqIndex?
  simp only []
  rw [if_pos (show (-1 : Int) < 0 by decide), if_pos (by simp; omega)]
  congr 1; omega
theorem idx_zero {k : Nat} (h : 0 < k) : seqIndex? 0 k = some 0 := by
  unfold seqIndex?
  simp only []
  rw [if_neg (show ¬ (0 : Int) < 0 by decide), if_pos (by simp; omega)]; rfl
theorem p_split {w : List Nat} (h : w.length ≤ 1000) : pmethod "split" (Sx w) [.str "..."] = some (.list ((tok w).map Sx)) := by
  unfold pmethod; rw [if_pos rfl]; simp only []
  rw [if_pos (by rw [st_len]; simp [h]; decide +kernel), split_tok]; simp
theorem p_starts {x y : List Nat} : pmethod "startswith" (Sx x) [Sx y] = some (.bool (y.isPrefixOf x)) := by
  unfold pmethod; rw [if_neg (by decide), if_pos rfl]; simp only []; rw [starts]
theorem p_ends {x y : List Nat} : pmethod "endswith" (Sx x) [Sx y] = some (.bool (y.isSuffixOf x)) := by
  unfold pmethod; rw [if_neg (by decide), if_neg (by decide), if_pos rfl]; simp only []; rw [ends]
theorem p_find {g m : List Nat} {sp ep : Nat} (h1 : sp ≤ g.length) (h2 : ep ≤ g.length) : pmethod "find" (Sx g) [Sx m, .int sp, .int ep] = some (.int (match Builtin.Str.occurrences (St g) (St m) sp ep 1 with | i :: _ => (i : Int) | [] => -1)) := by
  unfold pmethod; rw [if_neg (by decide), if_neg (by decide), if_neg (by decide), if_pos rfl]; simp only []
  rw [if_pos (by rw [st_len]; simp; omega)]; simp only [Int.toNat_natCast] <;> cases Builtin.Str.occurrences (St g) (St m) sp ep 1 <;> rfl

theorem ret_ok {d d' : D} {σ : Stt} (h : d = d') : ∃ σ', (Fl.ret d, σ) = (Fl.ret d', σ') := ⟨σ, by rw [h]⟩
theorem em_ok (n : Nat) (w g : List Nat) (hw : w.length ≤ 100) (hg : g.length ≤ 100) : (R (n + 20)).cl "_ellipsis_match" [Sx w, Sx g] = some (Bx (em w g)) := by
  refine cl_ev (by decide) (by decide) rfl rfl ?_
  show Ev ((R (n + 19)).ex _ ⟨[("got", Sx g), ("want", Sx w)], none⟩ _) _
  have hne : 0 < (tok w).length := by unfold tok tokEnd; simp
  have hlens := tok_all (P := fun p => p.length ≤ 100) w fun p h _ => by omega
  have htl := tok_len w
  by_cases h1 : 1 < (tok w).length
  rotate_left
  · have hn : pcmp .NotIn (.str "...") (Sx w) = some true := by rw [c_notin, has_tok, decide_eq_false h1]; rfl
    refine wx_mid (fun _ _ => False) (wi_if (ts_cmp rfl (ev_mark (by decide +kernel) (by decide +kernel)) (ev_name (by decide +kernel) (by repeat (first | refine lk_free (by decide +kernel) ?_ | refine lk_drop (by decide +kernel) ?_ | refine lk_next (by decide +kernel) ?_ | exact lk_here | assumption))) hn) (fun _ => wx_ret (e1_ret (ev_cmp rfl (ev_name (by decide +kernel) (by repeat (first | refine lk_free (by decide +kernel) ?_ | refine lk_drop (by decide +kernel) ?_ | refine lk_next (by decide +kernel) ?_ | exact lk_here | assumption))) (ev_name (by decide +kernel) (by repeat (first | refine lk_free (by decide +kernel) ?_ | refine lk_drop (by decide +kernel) ?_ | refine lk_next (by decide +kernel) ?_ | exact lk_here | assumption))) p_eq_str)) (ret_ok ?_)) (fun h => by cases h)) (fun _ _ h => h.elim)
    have : em w g = (w == g) := by
      unfold em
      cases ht : tok w with
      | nil => rw [ht] at hne; cases hne
      | cons p r =>
        cases r with
        | nil => rw [tok_one ht]; rfl
        | cons q r => rw [ht] at h1; simp at h1
    rw [this]
  have hn : pcmp .NotIn (.str "...") (Sx w) = some false := by rw [c_notin, has_tok, decide_eq_true h1]; rfl
  obtain ⟨p0, w1, rest, ht⟩ : ∃ p0 w1 rest, tok w = p0 :: w1 :: rest := by
    cases ht : tok w with
    | nil => rw [ht] at hne; cases hne
    | cons p r =>
      cases r with
      | nil => rw [ht] at h1; simp at h1
      | cons q r => exact ⟨_, _, _, rfl⟩
  have hp0 : p0.length ≤ 100 := hlens p0 (by rw [ht]; simp)
  refine wx_step (e1_if_f (ts_cmp rfl (ev_mark (by decide +kernel) (by decide +kernel)) (ev_name (by decide +kernel) (by repeat (first | refine lk_free (by decide +kernel) ?_ | refine lk_drop (by decide +kernel) ?_ | refine lk_next (by decide +kernel) ?_ | exact lk_here | assumption))) hn) ex_nil) ?_
  refine wx_step (e1_own (by decide +kernel) (ev_meth rfl (ev_name (by decide +kernel) (by repeat (first | refine lk_free (by decide +kernel) ?_ | refine lk_drop (by decide +kernel) ?_ | refine lk_next (by decide +kernel) ?_ | exact lk_here | assumption))) (evs_cons rfl (ev_mark (by decide +kernel) (by decide +kernel)) evs_nil) (p_split (by omega))) rfl (by decide +kernel)) ?_
  refine wx_step (e1_assert (ts_cmp rfl (ev_blt (by decide +kernel) (evs_cons rfl (ev_name (by decide +kernel) (by repeat (first | refine lk_free (by decide +kernel) ?_ | refine lk_drop (by decide +kernel) ?_ | refine lk_next (by decide +kernel) ?_ | exact lk_here | assumption))) evs_nil) (p_len_list (by simp; omega))) (ev_const rfl) (c_ge (by simp; omega)))) ?_
  refine wx_step (e1_pair (by decide +kernel) (.inl (ev_tuple (evs_cons rfl (ev_const rfl) (evs_cons rfl (ev_blt (by decide +kernel) (evs_cons rfl (ev_name (by decide +kernel) (by repeat (first | refine lk_free (by decide +kernel) ?_ | refine lk_drop (by decide +kernel) ?_ | refine lk_next (by decide +kernel) ?_ | exact lk_here | assumption))) evs_nil) (p_len_str (by omega))) evs_nil)) (by simp))) rfl) ?_
  refine wx_step (e1_scal (by decide +kernel) (ev_item rfl (ev_name (by decide +kernel) (by repeat (first | refine lk_free (by decide +kernel) ?_ | refine lk_drop (by decide +kernel) ?_ | refine lk_next (by decide +kernel) ?_ | exact lk_here | assumption))) (ev_const rfl) (p_item_list (d := Sx p0) (by decide) (by decide) (by rw [ht]; rfl))) rfl) ?_
  have hlast : ((w1 :: rest).getLastD []) ∈ tok w := by
    rw [ht]
    have : (w1 :: rest).getLastD [] = (w1 :: rest).getLast (by simp) := by simp [List.getLastD_eq_getLast?, List.getLast?_eq_some_getLast]
    rw [this]; exact List.mem_cons_of_mem _ (List.getLast_mem _)
  have hgl : (w1 :: rest).getLast? = some ((w1 :: rest).getLastD []) := by rw [List.getLast?_eq_some_getLast (by simp : w1 :: rest ≠ [])]; simp [List.getLastD_eq_getLast?, List.getLast?_eq_some_getLast]
  have hdl : w1 :: rest = (w1 :: rest).dropLast ++ [(w1 :: rest).getLastD []] := by
    have e := List.dropLast_concat_getLast (l := w1 :: rest) (by simp)
    rw [List.getLast?_eq_some_getLast (by simp : w1 :: rest ≠ [])] at hgl
    injection hgl with hgl
    rw [hgl] at e
    exact e.symm
  generalize hla : (w1 :: rest).getLastD [] = last at *
  generalize hmi : (w1 :: rest).dropLast = mids at *
  have hem : em w g = (p0.isPrefixOf g && last.isSuffixOf g && Nat.ble (p0.length + last.length) g.length && greedy mids ((g.take (g.length - last.length)).drop p0.length)) := by
    unfold em; rw [ht]; simp only [emP]; rw [hla, hmi]
  have hlal : last.length ≤ 100 := hlens last hlast
  clear hla hmi
  refine wx_mid (fun ρ own => own = some "ws" ∧ List.lookup ("got" : Str) ρ = some (Sx g) ∧ List.lookup ("endpos" : Str) ρ = some (.int g.length) ∧ List.lookup ("startpos" : Str) ρ = some (.int p0.length) ∧ List.lookup ("ws" : Str) ρ = some (.list ((if p0.isEmpty then p0 :: w1 :: rest else w1 :: rest).map Sx)) ∧ p0.isPrefixOf g = true)
    (wi_if (b := !p0.isEmpty) (ts_val rfl (ev_name (by decide +kernel) (by repeat (first | refine lk_free (by decide +kernel) ?_ | refine lk_drop (by decide +kernel) ?_ | refine lk_next (by decide +kernel) ?_ | exact lk_here | assumption))) (p_truth_str (by omega))) (fun hb => ?_) (fun hb => ?_)) ?_
  · refine wx_mid (fun ρ own => own = some "ws" ∧ List.lookup ("got" : Str) ρ = some (Sx g) ∧ List.lookup ("endpos" : Str) ρ = some (.int g.length) ∧ List.lookup ("startpos" : Str) ρ = some (.int p0.length) ∧ List.lookup ("ws" : Str) ρ = some (.list ((if p0.isEmpty then p0 :: w1 :: rest else w1 :: rest).map Sx)) ∧ p0.isPrefixOf g = true)
      (wi_if (b := p0.isPrefixOf g) (ts_val rfl (ev_meth rfl (ev_name (by decide +kernel) (by repeat (first | refine lk_free (by decide +kernel) ?_ | refine lk_drop (by decide +kernel) ?_ | refine lk_next (by decide +kernel) ?_ | exact lk_here | assumption))) (evs_cons rfl (ev_name (by decide +kernel) (by repeat (first | refine lk_free (by decide +kernel) ?_ | refine lk_drop (by decide +kernel) ?_ | refine lk_next (by decide +kernel) ?_ | exact lk_here | assumption))) evs_nil) p_starts) rfl) (fun hp => ?_) (fun hp => ?_)) (fun ρ own h => wx_nil h)
    · refine wx_step (e1_scal (by decide +kernel) (ev_blt (by decide +kernel) (evs_cons rfl (ev_name (by decide +kernel) (by repeat (first | refine lk_free (by decide +kernel) ?_ | refine lk_drop (by decide +kernel) ?_ | refine lk_next (by decide +kernel) ?_ | exact lk_here | assumption))) evs_nil) (p_len_str (by omega))) rfl) ?_
      refine wx_step (e1_del (by rfl) (by repeat (first | refine lk_free (by decide +kernel) ?_ | refine lk_drop (by decide +kernel) ?_ | refine lk_next (by decide +kernel) ?_ | exact lk_here | assumption)) (ev_const rfl) (by simp; omega) (idx_zero (by simp; omega))) (wx_nil ⟨rfl, (by repeat (first | refine lk_free (by decide +kernel) ?_ | refine lk_drop (by decide +kernel) ?_ | refine lk_next (by decide +kernel) ?_ | exact lk_here | assumption)), (by repeat (first | refine lk_free (by decide +kernel) ?_ | refine lk_drop (by decide +kernel) ?_ | refine lk_next (by decide +kernel) ?_ | exact lk_here | assumption)), (by repeat (first | refine lk_free (by decide +kernel) ?_ | refine lk_drop (by decide +kernel) ?_ | refine lk_next (by decide +kernel) ?_ | exact lk_here | assumption)), ?_, hp⟩)
      rw [lk_here, ht]
      have : p0.isEmpty = false := by simpa using hb
      rw [this]; rfl
    · refine wx_ret (e1_ret (ev_const rfl)) (ret_ok ?_)
      rw [hem, hp]; rfl
  · have hb : p0.isEmpty = true := by simpa using hb
    have h0 : p0 = [] := List.isEmpty_iff.mp hb
    subst h0
    refine wx_nil ⟨rfl, (by repeat (first | refine lk_free (by decide +kernel) ?_ | refine lk_drop (by decide +kernel) ?_ | refine lk_next (by decide +kernel) ?_ | exact lk_here | assumption)), (by repeat (first | refine lk_free (by decide +kernel) ?_ | refine lk_drop (by decide +kernel) ?_ | refine lk_next (by decide +kernel) ?_ | exact lk_here | assumption)), (by repeat (first | refine lk_free (by decide +kernel) ?_ | refine lk_drop (by decide +kernel) ?_ | refine lk_next (by decide +kernel) ?_ | exact lk_here | assumption)), ?_, rfl⟩
    refine (lk_next (by decide +kernel) (lk_next (by decide +kernel) (lk_next (by decide +kernel) lk_here))).trans ?_
    rw [ht]; rfl
  rintro ρ own ⟨rfl, k1, k2, k3, k4, k5⟩
  generalize hws1 : (if p0.isEmpty then p0 :: w1 :: rest else w1 :: rest) = ws1 at k4
  have hl1 : ws1.getLast? = some last ∧ ws1.length ≤ 101 ∧ ∃ pre, ws1 = pre ++ mids ++ [last] ∧ (pre = [] ∨ pre = [[]]) := by
    rw [← hws1]
    have htl' : (w1 :: rest).length + 1 ≤ 101 := by rw [ht] at htl; simp at htl ⊢; omega
    split
    · rename_i hb
      have h0 : p0 = [] := List.isEmpty_iff.mp hb
      subst h0
      refine ⟨by rw [List.getLast?_cons_cons]; exact hgl, by simpa using htl', [[]], by rw [hdl]; rfl, .inr rfl⟩
    · exact ⟨hgl, by omega, [], by rw [hdl]; rfl, .inl rfl⟩
  obtain ⟨hl1, hl2, pre, hpre, hpre2⟩ := hl1
  refine wx_step (e1_scal (by decide +kernel) (ev_item rfl (ev_name (by decide +kernel) (by repeat (first | refine lk_free (by decide +kernel) ?_ | refine lk_drop (by decide +kernel) ?_ | refine lk_next (by decide +kernel) ?_ | exact lk_here | assumption))) (ev_neg (ev_const rfl)) (p_item_last (d := Sx last) (by rw [List.getLast?_map, hl1]; rfl))) rfl) ?_
  refine wx_mid (fun ρ own => own = some "ws" ∧ List.lookup ("got" : Str) ρ = some (Sx g) ∧ List.lookup ("endpos" : Str) ρ = some (.int (g.length - last.length)) ∧ List.lookup ("startpos" : Str) ρ = some (.int p0.length) ∧ last.isSuffixOf g = true ∧
      ∃ ws2, List.lookup ("ws" : Str) ρ = some (.list (ws2.map Sx)) ∧ ws2.length ≤ 101 ∧ (∀ m ∈ ws2, m.length ≤ 100) ∧ ∀ s, greedy ws2 s = greedy mids s)
    (wi_if (b := !last.isEmpty) (ts_val rfl (ev_name (by decide +kernel) (by repeat (first | refine lk_free (by decide +kernel) ?_ | refine lk_drop (by decide +kernel) ?_ | refine lk_next (by decide +kernel) ?_ | exact lk_here | assumption))) (p_truth_str (by omega))) (fun hb => ?_) (fun hb => ?_)) ?_
  · refine wx_mid (fun ρ own => own = some "ws" ∧ List.lookup ("got" : Str) ρ = some (Sx g) ∧ List.lookup ("endpos" : Str) ρ = some (.int (g.length - last.length)) ∧ List.lookup ("startpos" : Str) ρ = some (.int p0.length) ∧ last.isSuffixOf g = true ∧
      ∃ ws2, List.lookup ("ws" : Str) ρ = some (.list (ws2.map Sx)) ∧ ws2.length ≤ 101 ∧ (∀ m ∈ ws2, m.length ≤ 100) ∧ ∀ s, greedy ws2 s = greedy mids s)
      (wi_if (b := last.isSuffixOf g) (ts_val rfl (ev_meth rfl (ev_name (by decide +kernel) (by repeat (first | refine lk_free (by decide +kernel) ?_ | refine lk_drop (by decide +kernel) ?_ | refine lk_next (by decide +kernel) ?_ | exact lk_here | assumption))) (evs_cons rfl (ev_name (by decide +kernel) (by repeat (first | refine lk_free (by decide +kernel) ?_ | refine lk_drop (by decide +kernel) ?_ | refine lk_next (by decide +kernel) ?_ | exact lk_here | assumption))) evs_nil) p_ends) rfl) (fun hp => ?_) (fun hp => ?_)) (fun ρ own h => wx_nil h)
    · refine wx_step (e1_sub (by rfl) (by repeat (first | refine lk_free (by decide +kernel) ?_ | refine lk_drop (by decide +kernel) ?_ | refine lk_next (by decide +kernel) ?_ | exact lk_here | assumption)) (ev_blt (by decide +kernel) (evs_cons rfl (ev_name (by decide +kernel) (by repeat (first | refine lk_free (by decide +kernel) ?_ | refine lk_drop (by decide +kernel) ?_ | refine lk_next (by decide +kernel) ?_ | exact lk_here | assumption))) evs_nil) (p_len_str (by omega)))) ?_
      refine wx_step (e1_del (by rfl) (by repeat (first | refine lk_free (by decide +kernel) ?_ | refine lk_drop (by decide +kernel) ?_ | refine lk_next (by decide +kernel) ?_ | exact lk_here | assumption)) (ev_neg (ev_const rfl)) (by simp; omega) (idx_last (by rw [hpre]; simp; omega))) (wx_nil ⟨rfl, (by repeat (first | refine lk_free (by decide +kernel) ?_ | refine lk_drop (by decide +kernel) ?_ | refine lk_next (by decide +kernel) ?_ | exact lk_here | assumption)), (by repeat (first | refine lk_free (by decide +kernel) ?_ | refine lk_drop (by decide +kernel) ?_ | refine lk_next (by decide +kernel) ?_ | exact lk_here | assumption)), (by repeat (first | refine lk_free (by decide +kernel) ?_ | refine lk_drop (by decide +kernel) ?_ | refine lk_next (by decide +kernel) ?_ | exact lk_here | assumption)), hp, pre ++ mids, ?_, ?_, ?_, ?_⟩)
      · rw [lk_here, hpre]
        congr 2
        simp [List.eraseIdx_append_of_length_le]
      · rw [hpre] at hl2; simp at hl2 ⊢; omega
      · intro m hm
        refine hlens m ?_
        rw [ht]
        rcases List.mem_append.mp hm with q | q
        · rcases hpre2 with e | e
          · rw [e] at q; cases q
          · have : p0.isEmpty = true := by
              cases hb2 : p0.isEmpty with
              | true => rfl
              | false =>
                rw [hb2] at hws1
                have := congrArg List.length (hws1.trans hpre)
                have h3 := congrArg List.length hdl
                rw [e] at this
                simp at this h3; omega
            rw [e] at q
            rw [List.mem_singleton.mp q, List.isEmpty_iff.mp this]; exact List.mem_cons_self
        · rw [hdl]; exact List.mem_cons_of_mem _ (List.mem_append_left _ q)
      · intro s
        rcases hpre2 with e | e
        · rw [e]; rfl
        · rw [e]; exact greedy_head _ _
    · refine wx_ret (e1_ret (ev_const rfl)) (ret_ok ?_)
      rw [hem, hp]; simp
  · have hb : last.isEmpty = true := by simpa using hb
    have h0 : last = [] := List.isEmpty_iff.mp hb
    subst h0
    refine wx_nil ⟨rfl, (by repeat (first | refine lk_free (by decide +kernel) ?_ | refine lk_drop (by decide +kernel) ?_ | refine lk_next (by decide +kernel) ?_ | exact lk_here | assumption)), ?_, (by repeat (first | refine lk_free (by decide +kernel) ?_ | refine lk_drop (by decide +kernel) ?_ | refine lk_next (by decide +kernel) ?_ | exact lk_here | assumption)), by simp, ws1, (by repeat (first | refine lk_free (by decide +kernel) ?_ | refine lk_drop (by decide +kernel) ?_ | refine lk_next (by decide +kernel) ?_ | exact lk_here | assumption)), hl2, ?_, ?_⟩
    · rw [lk_next (by decide +kernel) k2]; simp
    · intro m hm
      refine hlens m ?_
      rw [ht]
      rw [← hws1] at hm
      split at hm
      · exact hm
      · exact List.mem_cons_of_mem _ hm
    · intro s
      rw [hpre]
      rw [greedy_last]
      rcases hpre2 with e | e
      · rw [e]; rfl
      · rw [e]; exact greedy_head _ _
  rintro ρ own ⟨rfl, k1, k2, k3, k6, ws2, k4, hl3, hl4, hgr⟩
  have hsl : last.length ≤ g.length := (List.isSuffixOf_iff_suffix.mp k6).length_le
  have k2 : List.lookup ("endpos" : Str) ρ = some (.int ((g.length - last.length : Nat) : Int)) := by rw [k2]; congr 2; omega
  refine wx_mid (fun ρ own => own = some "ws" ∧ List.lookup ("got" : Str) ρ = some (Sx g) ∧ List.lookup ("endpos" : Str) ρ = some (.int ((g.length - last.length : Nat) : Int)) ∧ List.lookup ("startpos" : Str) ρ = some (.int p0.length) ∧ List.lookup ("ws" : Str) ρ = some (.list (ws2.map Sx)) ∧ p0.length + last.length ≤ g.length)
    (wi_if (b := decide ((p0.length : Int) > ((g.length - last.length : Nat) : Int))) (ts_cmp rfl (ev_name (by decide +kernel) (by repeat (first | refine lk_free (by decide +kernel) ?_ | refine lk_drop (by decide +kernel) ?_ | refine lk_next (by decide +kernel) ?_ | exact lk_here | assumption))) (ev_name (by decide +kernel) (by repeat (first | refine lk_free (by decide +kernel) ?_ | refine lk_drop (by decide +kernel) ?_ | refine lk_next (by decide +kernel) ?_ | exact lk_here | assumption))) rfl) (fun hb => wx_ret (e1_ret (ev_const rfl)) (ret_ok ?_)) (fun hb => wx_nil ⟨rfl, k1, k2, k3, k4, ?_⟩)) ?_
  · have hb := of_decide_eq_true hb
    have : Nat.ble (p0.length + last.length) g.length = false := by
      cases h : Nat.ble (p0.length + last.length) g.length with
      | false => rfl
      | true => have := Nat.le_of_ble_eq_true h; omega
    rw [hem, this]; simp
  · have hb := of_decide_eq_false hb
    omega
  rintro ρ own ⟨rfl, k1, k2, k3, k4, hle⟩
  have hfin : em w g = greedy ws2 ((g.take (g.length - last.length)).drop p0.length) := by
    rw [hem, k5, k6, hgr, Nat.ble_eq_true_of_le hle]; simp
  generalize hep : g.length - last.length = ep at *
  refine wx_mid (fun ρ own => em w g = true)
    (wi_for (ρ := ρ) ws2 (fun xs ρ own => own = none ∧ List.lookup ("got" : Str) ρ = some (Sx g) ∧ List.lookup ("endpos" : Str) ρ = some (.int ep) ∧ (∀ m ∈ xs, m.length ≤ 100) ∧ ∃ sp : Nat, List.lookup ("startpos" : Str) ρ = some (.int sp) ∧ sp ≤ ep ∧ em w g = greedy xs ((g.take ep).drop sp))
      (it_list rfl (ev_name (by decide +kernel) k4) (by simp; omega)) rfl ⟨rfl, k1, k2, hl4, p0.length, k3, by omega, hfin⟩ ?_ ?_) ?_
  · rintro x xs ρ own ⟨rfl, j1, j2, j5, sp, j3, j4, j6⟩
    refine ⟨rfl, _, bind_name (by decide +kernel), ?_⟩
    have hx : x.length ≤ 100 := j5 x List.mem_cons_self
    have hepg : ep ≤ g.length := by omega
    rcases find_rest g x sp ep j4 hepg with ⟨i, r, ho, hi1, hi2, hf⟩ | ⟨ho, hf⟩
    · refine wx_step (e1_scal (by decide +kernel) (ev_meth rfl (ev_name (by decide +kernel) (by repeat (first | refine lk_free (by decide +kernel) ?_ | refine lk_drop (by decide +kernel) ?_ | refine lk_next (by decide +kernel) ?_ | exact lk_here | assumption))) (evs_cons rfl (ev_name (by decide +kernel) (by repeat (first | refine lk_free (by decide +kernel) ?_ | refine lk_drop (by decide +kernel) ?_ | refine lk_next (by decide +kernel) ?_ | exact lk_here | assumption))) (evs_cons rfl (ev_name (by decide +kernel) (by repeat (first | refine lk_free (by decide +kernel) ?_ | refine lk_drop (by decide +kernel) ?_ | refine lk_next (by decide +kernel) ?_ | exact lk_here | assumption))) (evs_cons rfl (ev_name (by decide +kernel) (by repeat (first | refine lk_free (by decide +kernel) ?_ | refine lk_drop (by decide +kernel) ?_ | refine lk_next (by decide +kernel) ?_ | exact lk_here | assumption))) evs_nil))) (p_find (by omega) hepg)) rfl) ?_
      rw [ho]
      refine wx_step (e1_if_f (ts_cmp rfl (ev_name (by decide +kernel) (by repeat (first | refine lk_free (by decide +kernel) ?_ | refine lk_drop (by decide +kernel) ?_ | refine lk_next (by decide +kernel) ?_ | exact lk_here | assumption))) (ev_const rfl) (c_lt (by simp))) ex_nil) ?_
      refine wx_step (e1_add (by rfl) (by repeat (first | refine lk_free (by decide +kernel) ?_ | refine lk_drop (by decide +kernel) ?_ | refine lk_next (by decide +kernel) ?_ | exact lk_here | assumption)) (ev_blt (by decide +kernel) (evs_cons rfl (ev_name (by decide +kernel) (by repeat (first | refine lk_free (by decide +kernel) ?_ | refine lk_drop (by decide +kernel) ?_ | refine lk_next (by decide +kernel) ?_ | exact lk_here | assumption))) evs_nil) (p_len_str (by omega)))) (wx_nil ⟨rfl, (by repeat (first | refine lk_free (by decide +kernel) ?_ | refine lk_drop (by decide +kernel) ?_ | refine lk_next (by decide +kernel) ?_ | exact lk_here | assumption)), (by repeat (first | refine lk_free (by decide +kernel) ?_ | refine lk_drop (by decide +kernel) ?_ | refine lk_next (by decide +kernel) ?_ | exact lk_here | assumption)), fun m hm => j5 m (List.mem_cons_of_mem _ hm), i + x.length, (by repeat (first | refine lk_free (by decide +kernel) ?_ | refine lk_drop (by decide +kernel) ?_ | refine lk_next (by decide +kernel) ?_ | exact lk_here | assumption)), by omega, ?_⟩)
      rw [j6]; simp only [greedy]; rw [hf]
    · refine wx_step (e1_scal (by decide +kernel) (ev_meth rfl (ev_name (by decide +kernel) (by repeat (first | refine lk_free (by decide +kernel) ?_ | refine lk_drop (by decide +kernel) ?_ | refine lk_next (by decide +kernel) ?_ | exact lk_here | assumption))) (evs_cons rfl (ev_name (by decide +kernel) (by repeat (first | refine lk_free (by decide +kernel) ?_ | refine lk_drop (by decide +kernel) ?_ | refine lk_next (by decide +kernel) ?_ | exact lk_here | assumption))) (evs_cons rfl (ev_name (by decide +kernel) (by repeat (first | refine lk_free (by decide +kernel) ?_ | refine lk_drop (by decide +kernel) ?_ | refine lk_next (by decide +kernel) ?_ | exact lk_here | assumption))) (evs_cons rfl (ev_name (by decide +kernel) (by repeat (first | refine lk_free (by decide +kernel) ?_ | refine lk_drop (by decide +kernel) ?_ | refine lk_next (by decide +kernel) ?_ | exact lk_here | assumption))) evs_nil))) (p_find (by omega) hepg)) rfl) ?_
      rw [ho]
      refine wx_mid (fun _ _ => False) (wi_if (b := true) (ts_cmp rfl (ev_name (by decide +kernel) (by repeat (first | refine lk_free (by decide +kernel) ?_ | refine lk_drop (by decide +kernel) ?_ | refine lk_next (by decide +kernel) ?_ | exact lk_here | assumption))) (ev_const rfl) (c_lt (by decide))) (fun _ => wx_ret (e1_ret (ev_const rfl)) (ret_ok ?_)) (fun h => by cases h)) (fun _ _ h => h.elim)
      rw [j6]; simp only [greedy]; rw [hf]
  · rintro ρ own ⟨rfl, j1, j2, j5, sp, j3, j4, j6⟩
    exact j6
  intro ρ own hfe
  refine wx_ret (e1_ret (ev_const rfl)) (ret_ok ?_)
  rw [hfe]
end Mine
end

section
set_option maxRecDepth 100000
set_option linter.unusedVariables false
namespace Mine
open PySem

theorem cs {x : Str} {l : List Nat} (h : x = St l) (hl : x.length ≤ 200) : pconst (.str x) = some (Sx l) := by
  simp only [pconst]; rw [if_pos hl, h]
theorem sl_init {α : Type} (l : List α) : sl none (some (-1)) l = l.dropLast := by
  show (l.take (clp (some (-1)) l.length l.length)).drop 0 = _
  rw [List.drop_zero, clp_neg (i := -1) (k := 0) rfl, List.dropLast_eq_take]
theorem sl_end3 {α : Type} (l : List α) : sl (some (-3)) none l = l.drop (l.length - 3) := by
  show (l.take l.length).drop (clp (some (-3)) 0 l.length) = _
  rw [List.take_length, clp_neg (i := -3) (k := 2) rfl]
theorem sl_but3 {α : Type} (l : List α) : sl none (some (-3)) l = l.take (l.length - 3) := by
  show (l.take (clp (some (-3)) l.length l.length)).drop 0 = _
  rw [List.drop_zero, clp_neg (i := -3) (k := 2) rfl]
theorem tokEnd_last (st : List (List Nat) × List Nat) : ((tokEnd st).map Sx).getLast? = some (Sx st.2) := by simp [tokEnd]
theorem tokEnd_init (st : List (List Nat) × List Nat) : ((tokEnd st).map Sx).dropLast = st.1.map Sx := by simp [tokEnd]

theorem tokens_ok (n : Nat) (w : List Nat) (hw : w.length ≤ 100) : (R (n + 20)).cl "_law_tokens" [Sx w] = some (.list ((tok w).map Sx)) := by
  refine cl_ev (by decide) (by decide) rfl rfl ?_
  show Ev ((R (n + 19)).ex _ ⟨[("want", Sx w)], none⟩ _) _
  refine wx_step (e1_let (d := .list ((tokEnd ([], [])).map Sx)) (by decide +kernel) (ev_list (evs_cons rfl (ev_const (cs (l := []) (by decide +kernel) (by decide +kernel))) evs_nil) (by simp [tokEnd])) rfl (by decide +kernel)) ?_
  refine wx_mid (fun ρ own => List.lookup ("parts" : Str) ρ = some (.list ((tok w).map Sx)))
    (wi_for w (fun xs ρ own => own = none ∧ ∃ st : List (List Nat) × List Nat, List.lookup ("parts" : Str) ρ = some (.list ((tokEnd st).map Sx)) ∧ tokEnd (xs.foldl tokStep st) = tok w ∧ st.1.length + xs.length ≤ 100 ∧ st.2.length + xs.length ≤ 100)
      (it_str rfl (ev_name (by decide +kernel) (by repeat (first | refine lk_free (by decide +kernel) ?_ | refine lk_drop (by decide +kernel) ?_ | refine lk_next (by decide +kernel) ?_ | exact lk_here | assumption))) (by omega)) rfl ⟨rfl, ([], []), (by repeat (first | refine lk_free (by decide +kernel) ?_ | refine lk_drop (by decide +kernel) ?_ | refine lk_next (by decide +kernel) ?_ | exact lk_here | assumption)), rfl, by simpa using hw, by simpa using hw⟩ ?_ ?_) ?_
  · rintro c xs ρ own ⟨rfl, st, h1, h2, h3, h4⟩
    simp only [List.length_cons] at h3 h4
    refine ⟨rfl, _, bind_name (by decide +kernel), ?_⟩
    have hl : ((tokEnd st).map Sx).length ≤ 1000 := by simp [tokEnd]; omega
    have hl2 : ((tokEnd (st.1, st.2 ++ [c])).map Sx).length ≤ 1000 := by simp [tokEnd]; omega
    refine wx_step (e1_let (d := .list ((tokEnd (st.1, st.2 ++ [c])).map Sx)) (by decide +kernel) ((ev_bin (ev_slice (ev_name (by decide +kernel) (by repeat (first | refine lk_free (by decide +kernel) ?_ | refine lk_drop (by decide +kernel) ?_ | refine lk_next (by decide +kernel) ?_ | exact lk_here | assumption))) eo_none (eo_some (ev_neg (ev_const rfl)) rfl) eo_none (p_slice_list hl)) (ev_list (evs_cons rfl (ev_bin (ev_item rfl (ev_name (by decide +kernel) (by repeat (first | refine lk_free (by decide +kernel) ?_ | refine lk_drop (by decide +kernel) ?_ | refine lk_next (by decide +kernel) ?_ | exact lk_here | assumption))) (ev_neg (ev_const rfl)) (p_item_last (tokEnd_last st))) (ev_name (by decide +kernel) (by repeat (first | refine lk_free (by decide +kernel) ?_ | refine lk_drop (by decide +kernel) ?_ | refine lk_next (by decide +kernel) ?_ | exact lk_here | assumption))) (p_add_str (by simp; omega))) evs_nil) (by simp)) (p_add_list (by
      have := sl_len none (some (-1)) ((tokEnd st).map Sx)
      simp [tokEnd] at this ⊢; omega))).trans ?_) rfl (by decide +kernel)) ?_
    · rw [sl_init, tokEnd_init]; simp [tokEnd]
    rw [List.foldl_cons] at h2
    have hstep : tokStep st c = if sl (some (-3)) none (st.2 ++ [c]) == [46, 46, 46] then (st.1 ++ [(st.2 ++ [c]).take ((st.2 ++ [c]).length - 3)], []) else (st.1, st.2 ++ [c]) := by
      rw [sl_end3]; rfl
    refine wx_mid (fun ρ own => own = none ∧ ∃ st : List (List Nat) × List Nat, List.lookup ("parts" : Str) ρ = some (.list ((tokEnd st).map Sx)) ∧ tokEnd (xs.foldl tokStep st) = tok w ∧ st.1.length + xs.length ≤ 100 ∧ st.2.length + xs.length ≤ 100)
      (wi_if (ts_cmp rfl (ev_slice (ev_item rfl (ev_name (by decide +kernel) (by repeat (first | refine lk_free (by decide +kernel) ?_ | refine lk_drop (by decide +kernel) ?_ | refine lk_next (by decide +kernel) ?_ | exact lk_here | assumption))) (ev_neg (ev_const rfl)) (p_item_last (tokEnd_last _))) (eo_some (ev_neg (ev_const rfl)) rfl) eo_none eo_none (p_slice_str (by simp; omega))) (ev_const (cs (l := [46, 46, 46]) (by decide +kernel) (by decide +kernel))) p_eq_str) (fun hb => ?_) (fun hb => ?_)) (fun ρ own h => wx_nil h)
    · rw [hb, if_pos rfl] at hstep
      refine wx_step (e1_let (d := .list ((tokEnd (tokStep st c)).map Sx)) (by decide +kernel) ((ev_bin (ev_slice (ev_name (by decide +kernel) (by repeat (first | refine lk_free (by decide +kernel) ?_ | refine lk_drop (by decide +kernel) ?_ | refine lk_next (by decide +kernel) ?_ | exact lk_here | assumption))) eo_none (eo_some (ev_neg (ev_const rfl)) rfl) eo_none (p_slice_list hl2)) (ev_list (evs_cons rfl (ev_slice (ev_item rfl (ev_name (by decide +kernel) (by repeat (first | refine lk_free (by decide +kernel) ?_ | refine lk_drop (by decide +kernel) ?_ | refine lk_next (by decide +kernel) ?_ | exact lk_here | assumption))) (ev_neg (ev_const rfl)) (p_item_last (tokEnd_last _))) eo_none (eo_some (ev_neg (ev_const rfl)) rfl) eo_none (p_slice_str (by simp; omega))) (evs_cons rfl (ev_const (cs (l := []) (by decide +kernel) (by decide +kernel))) evs_nil)) (by simp)) (p_add_list (by
        have := sl_len none (some (-1)) ((tokEnd (st.1, st.2 ++ [c])).map Sx)
        simp [tokEnd] at this ⊢; omega))).trans ?_) rfl (by decide +kernel)) (wx_nil ⟨rfl, tokStep st c, (by repeat (first | refine lk_free (by decide +kernel) ?_ | refine lk_drop (by decide +kernel) ?_ | refine lk_next (by decide +kernel) ?_ | exact lk_here | assumption)), h2, ?_, ?_⟩)
      · rw [sl_init, tokEnd_init, sl_but3, hstep]; simp [tokEnd]
      · rw [hstep]; simp; omega
      · rw [hstep]; simp; omega
    · rw [hb, if_neg (by decide)] at hstep
      refine wx_nil ⟨rfl, (st.1, st.2 ++ [c]), (by repeat (first | refine lk_free (by decide +kernel) ?_ | refine lk_drop (by decide +kernel) ?_ | refine lk_next (by decide +kernel) ?_ | exact lk_here | assumption)), by rw [← hstep]; exact h2, by simp; omega, by simp; omega⟩
  · rintro ρ own ⟨rfl, st, h1, h2, _⟩
    have : tokEnd st = tok w := h2
    rw [← this]; exact h1
  · intro ρ own h
    exact wx_ret (e1_ret (ev_name (by decide +kernel) (by repeat (first | refine lk_free (by decide +kernel) ?_ | refine lk_drop (by decide +kernel) ?_ | refine lk_next (by decide +kernel) ?_ | exact lk_here | assumption)))) (ret_ok rfl)

theorem p_isnot {a b : Bool} : pcmp .IsNot (.bool a) (.bool b) = some (!(a == b)) := rfl
theorem told_core (n : Nat) (w : List Nat) (ts : List (List Nat)) (e : List Nat → Bool) (hl : ts.length ≤ 1000) (he : ∀ t ∈ ts, (R (n + 37)).cl "_ellipsis_match" [Sx w, Sx t] = some (Bx (e t))) : (R (n + 40)).cl "_law_told" [Sx w, .list (ts.map Sx)] = some (.list (ts.map fun t => Bx (e t))) := by
  refine cl_ev (by decide) (by decide) rfl rfl ?_
  show Ev ((R (n + 39)).ex _ ⟨[("texts", .list (ts.map Sx)), ("want", Sx w)], none⟩ _) _
  refine wx_step (e1_let (d := .list (ts.map fun t => Bx (e t))) (by decide +kernel) (ev_comp (comp_one (by decide +kernel) rfl (it_list rfl (ev_name (by decide +kernel) (by repeat (first | refine lk_free (by decide +kernel) ?_ | refine lk_drop (by decide +kernel) ?_ | refine lk_next (by decide +kernel) ?_ | exact lk_here | assumption))) (by simpa using hl)) (comp_map (new_free (by decide +kernel)) fun t h => ev_fun (by decide +kernel) (by decide +kernel) (evs_cons rfl (ev_name (by decide +kernel) (by repeat (first | refine lk_free (by decide +kernel) ?_ | refine lk_drop (by decide +kernel) ?_ | refine lk_next (by decide +kernel) ?_ | exact lk_here | assumption))) (evs_cons rfl (ev_name (by decide +kernel) (by repeat (first | refine lk_free (by decide +kernel) ?_ | refine lk_drop (by decide +kernel) ?_ | refine lk_next (by decide +kernel) ?_ | exact lk_here | assumption))) evs_nil)) (he t h)))) rfl (by decide +kernel)) ?_
  refine wx_ret (e1_ret (ev_if_t ?_ (ev_name (by decide +kernel) (by repeat (first | refine lk_free (by decide +kernel) ?_ | refine lk_drop (by decide +kernel) ?_ | refine lk_next (by decide +kernel) ?_ | exact lk_here | assumption))))) (ret_ok rfl)
  refine ts_cmp rfl (ev_comp (ds := []) ?_) (ev_list evs_nil (by simp)) rfl
  refine comp_one (by decide +kernel) rfl (it_list rfl (ev_name (by decide +kernel) (by repeat (first | refine lk_free (by decide +kernel) ?_ | refine lk_drop (by decide +kernel) ?_ | refine lk_next (by decide +kernel) ?_ | exact lk_here | assumption))) (by simpa using hl)) ?_
  refine (comp_filter (t := fun t => !(e t == true) && (!(e t == false) && true)) (f := fun _ => PyData.none) (new_free (by decide +kernel)) (fun t h => ?_) (fun t h hb => ?_)).trans ?_
  · exact ts_bool (tb_and (ts_cmp rfl (ev_name (by decide +kernel) (by repeat (first | refine lk_free (by decide +kernel) ?_ | refine lk_drop (by decide +kernel) ?_ | refine lk_next (by decide +kernel) ?_ | exact lk_here | assumption))) (ev_const rfl) p_isnot) fun _ => tb_and (ts_cmp rfl (ev_name (by decide +kernel) (by repeat (first | refine lk_free (by decide +kernel) ?_ | refine lk_drop (by decide +kernel) ?_ | refine lk_next (by decide +kernel) ?_ | exact lk_here | assumption))) (ev_const rfl) p_isnot) fun _ => tb_and_nil)
  · exfalso
    cases h : e t <;> simp [h] at hb
  · rw [List.filter_eq_nil_iff.mpr (fun t _ => by cases e t <;> simp)]; rfl
theorem told_ok (n : Nat) (w : List Nat) (ts : List (List Nat)) (hw : w.length ≤ 100) (hl : ts.length ≤ 1000) (ht : ∀ t ∈ ts, t.length ≤ 100) : (R (n + 40)).cl "_law_told" [Sx w, .list (ts.map Sx)] = some (.list (ts.map fun t => Bx (em w t))) :=
  told_core n w ts (em w) hl fun t h => em_ok (n + 17) w t hw (ht t h)
end Mine
end

section
set_option maxRecDepth 100000
set_option linter.unusedVariables false
set_option maxHeartbeats 4000000
namespace Mine
open PySem

theorem wi_try {n : Nat} {sc : Scope} {ρ : Rho} {own : Option Str} {body : List Stmt} {hs : List ExceptHandler} {p : Pos} {P : Fl × Stt → Prop} (h : Ev ((R n).ex sc ⟨ρ, own⟩ body) P) : Ev (ex1 (R n) sc ⟨ρ, own⟩ (.Try body hs [] [] p)) P := by
  obtain ⟨a, h1, h2⟩ := h
  exact ⟨a, e1_try h1, h2⟩
noncomputable def onD : Option (List Nat) → D
  | none => .none
  | some l => Sx l
noncomputable def bl (x y : Option (List Nat)) : List Nat := match y with
  | none => x.getD [67]
  | some e => x.getD [67] ++ [46] ++ e
theorem p_is_none (x : Option (List Nat)) : pcmp .Is (onD x) .none = some x.isNone := by cases x <;> rfl
theorem on_scal (x : Option (List Nat)) : scal (onD x) = true := by cases x <;> rfl

theorem build_ok (n : Nat) (x y : Option (List Nat)) (hx : ∀ l, x = some l → l.length ≤ 400) (hy : ∀ l, y = some l → l.length ≤ 400) : (R (n + 20)).cl "_build_localename" [.tuple [onD x, onD y]] = some (Sx (bl x y)) := by
  refine cl_ev (by decide) (by decide) rfl rfl ?_
  show Ev ((R (n + 19)).ex _ ⟨[("localetuple", .tuple [onD x, onD y])], none⟩ _) _
  refine wx_mid (fun _ _ => False) (wi_try ?_) (fun _ _ h => h.elim)
  refine wx_step (e1_pair (by decide +kernel) (.inl (ev_name (by decide +kernel) (by repeat (first | refine lk_free (by decide +kernel) ?_ | refine lk_drop (by decide +kernel) ?_ | refine lk_next (by decide +kernel) ?_ | exact lk_here | assumption)))) (by rw [on_scal, on_scal]; rfl)) ?_
  have hxl : (x.getD [67]).length ≤ 400 := by
    cases x with
    | none => simp
    | some l => exact hx l rfl
  refine wx_mid (fun ρ own => List.lookup ("language" : Str) ρ = some (Sx (x.getD [67])) ∧ List.lookup ("encoding" : Str) ρ = some (onD y))
    (wi_if (ts_cmp rfl (ev_name (by decide +kernel) (by repeat (first | refine lk_free (by decide +kernel) ?_ | refine lk_drop (by decide +kernel) ?_ | refine lk_next (by decide +kernel) ?_ | exact lk_here | assumption))) (ev_const rfl) (p_is_none x)) (fun hb => ?_) (fun hb => ?_)) ?_
  · cases x with
    | some l => cases hb
    | none => exact wx_step (e1_scal (by decide +kernel) (ev_const (cs (l := [67]) (by decide +kernel) (by decide +kernel))) rfl) (wx_nil ⟨(by repeat (first | refine lk_free (by decide +kernel) ?_ | refine lk_drop (by decide +kernel) ?_ | refine lk_next (by decide +kernel) ?_ | exact lk_here | assumption)), (by repeat (first | refine lk_free (by decide +kernel) ?_ | refine lk_drop (by decide +kernel) ?_ | refine lk_next (by decide +kernel) ?_ | exact lk_here | assumption))⟩)
  · cases x with
    | none => cases hb
    | some l => exact wx_nil ⟨(by repeat (first | refine lk_free (by decide +kernel) ?_ | refine lk_drop (by decide +kernel) ?_ | refine lk_next (by decide +kernel) ?_ | exact lk_here | assumption)), (by repeat (first | refine lk_free (by decide +kernel) ?_ | refine lk_drop (by decide +kernel) ?_ | refine lk_next (by decide +kernel) ?_ | exact lk_here | assumption))⟩
  rintro ρ own ⟨h1, h2⟩
  refine wx_mid (fun _ _ => False) (wi_if (ts_cmp rfl (ev_name (by decide +kernel) (by repeat (first | refine lk_free (by decide +kernel) ?_ | refine lk_drop (by decide +kernel) ?_ | refine lk_next (by decide +kernel) ?_ | exact lk_here | assumption))) (ev_const rfl) (p_is_none y)) (fun hb => ?_) (fun hb => ?_)) (fun _ _ h => h.elim)
  · cases y with
    | some l => cases hb
    | none => exact wx_ret (e1_ret (ev_name (by decide +kernel) (by repeat (first | refine lk_free (by decide +kernel) ?_ | refine lk_drop (by decide +kernel) ?_ | refine lk_next (by decide +kernel) ?_ | exact lk_here | assumption)))) (ret_ok rfl)
  · cases y with
    | none => cases hb
    | some e =>
      have he := hy e rfl
      exact wx_ret (e1_ret (ev_bin (ev_bin (ev_name (by decide +kernel) (by repeat (first | refine lk_free (by decide +kernel) ?_ | refine lk_drop (by decide +kernel) ?_ | refine lk_next (by decide +kernel) ?_ | exact lk_here | assumption))) (ev_const (cs (l := [46]) (by decide +kernel) (by decide +kernel))) (p_add_str (by simp; omega))) (ev_name (by decide +kernel) h2) (p_add_str (by simp; omega)))) (ret_ok rfl)

/-! the marks -/
theorem p_gt_int {a b : Int} : pcmp .Gt (.int a) (.int b) = some (decide (a > b)) := rfl
theorem p_lt_int {a b : Int} : pcmp .Lt (.int a) (.int b) = some (decide (a < b)) := rfl
theorem p_ge_int {a b : Int} : pcmp .GtE (.int a) (.int b) = some (decide (a ≥ b)) := rfl
theorem p_eq_int {a b : Int} : pcmp .Eq (.int a) (.int b) = some (a == b) := rfl
theorem p_sub_int {a b : Int} : pbin .Sub (.int a) (.int b) = some (.int (a - b)) := rfl
theorem p_add_int {a b : Int} : pbin .Add (.int a) (.int b) = some (.int (a + b)) := rfl
theorem p_mod_int {a b : Int} (h : b ≠ 0) : pbin .Mod (.int a) (.int b) = some (.int (a.fmod b)) := by
  rw [b_mod, if_pos (by simpa using h)]
theorem p_slice_ints {l : List Int} {lo hi : Option Int} (h : l.length ≤ 1000) : pslice (.list (l.map .int)) lo hi none = some (.list ((sl lo hi l).map .int)) := by
  rw [p_slice_list (by simpa using h), sl_map]
noncomputable def is0or (a : Int) : Bool := 0 == a || (127 == a || false)
theorem p_in_two {a : Int} : pcmp .In (.int a) (.tuple [.int 0, .int 127]) = some (is0or a) := by
  rw [c_in_tup, if_pos (by decide)]; simp [PyData.eqv, is0or]
noncomputable def mPos (row : List Int) : List Int := ((List.range row.length).filter fun k => is0or (row.getD k 0)).map (fun (k : Nat) => (0 : Int) + k) ++ [(row.length : Int)]
noncomputable def mSizes (row : List Int) : List Int := sl none (some (minI (mPos row))) row
noncomputable def mSums (sizes : List Int) : List Int := (List.range sizes.length).map fun (k : Nat) => (sl none (some (0 + k + 1)) sizes).sum
noncomputable def mTest (row : List Int) : Bool := sl none (some 1) (sl (some ((mSizes row).length : Int)) none row) == [0]
noncomputable def mOver (row : List Int) : Int := if mTest row then (mSizes row).getLastD 0 else 0
noncomputable def mPick (sums : List Int) (over : Int) (k : Nat) : Bool := sums.contains (1 + (k : Int)) || ((decide (over > 0) && (decide ((1 + (k : Int)) > sums.getLastD 0) && ((((1 + (k : Int)) - sums.getLastD 0).fmod over == 0) && true))) || false)
noncomputable def marks (row : List Int) : List Int := sl none (some 6) (((List.range 18).filter (mPick (mSums (mSizes row)) (mOver row))).map fun (k : Nat) => (1 : Int) + k)

theorem last_ints {l : List Int} (h : l ≠ []) : (l.map PyData.int).getLast? = some (.int (l.getLastD 0)) := by
  rw [List.getLast?_map, List.getLast?_eq_some_getLast h]
  simp [List.getLastD_eq_getLast?, List.getLast?_eq_some_getLast h]
theorem marks_ok (n : Nat) (row : List Int) (hl : row.length ≤ 10) (hs : small (minI (mPos row)) = true) (hz : mTest row = true → mSizes row ≠ []) : (R (n + 30)).cl "_law_marks" [.list (row.map .int)] = some (.list ((marks row).map .int)) := by
  refine cl_ev (by decide) (by decide) rfl rfl ?_
  show Ev ((R (n + 29)).ex _ ⟨[("row", .list (row.map .int))], none⟩ _) _
  have hsz : (mSizes row).length ≤ 10 := Nat.le_trans (sl_len _ _ _) hl
  -- sizes
  refine wx_step (e1_let (d := .list ((mSizes row).map .int)) (by decide +kernel) (ev_slice (ev_name (by decide +kernel) (by repeat (first | refine lk_free (by decide +kernel) ?_ | refine lk_drop (by decide +kernel) ?_ | refine lk_next (by decide +kernel) ?_ | exact lk_here | assumption))) eo_none (eo_some ?_ hs) eo_none (p_slice_ints (by omega))) rfl (by decide +kernel)) ?_
  · refine ev_blt (by decide +kernel) (evs_cons (d := .list ((mPos row).map .int)) rfl ?_ evs_nil) (p_min ?_ ?_)
    · refine (ev_bin (ev_comp (comp_one (by decide +kernel) rfl (it_range1 (by decide +kernel) (evs_cons rfl (ev_blt (by decide +kernel) (evs_cons rfl (ev_name (by decide +kernel) (by repeat (first | refine lk_free (by decide +kernel) ?_ | refine lk_drop (by decide +kernel) ?_ | refine lk_next (by decide +kernel) ?_ | exact lk_here | assumption))) evs_nil) (p_len_list (by simp; omega))) evs_nil) (by simp [small]; omega) (by simp; omega)) (comp_filter (g := fun (i : Nat) => PyData.int (0 + i)) (f := fun (i : Nat) => PyData.int (0 + i)) (t := fun k => is0or (row.getD k 0)) (new_free (by decide +kernel)) (fun k hk => ?_) (fun k hk _ => (ev_name (by decide +kernel) (by repeat (first | refine lk_free (by decide +kernel) ?_ | refine lk_drop (by decide +kernel) ?_ | refine lk_next (by decide +kernel) ?_ | exact lk_here | assumption)))))))
        (ev_list (evs_cons rfl (ev_blt (by decide +kernel) (evs_cons rfl (ev_name (by decide +kernel) (by repeat (first | refine lk_free (by decide +kernel) ?_ | refine lk_drop (by decide +kernel) ?_ | refine lk_next (by decide +kernel) ?_ | exact lk_here | assumption))) evs_nil) (p_len_list (by simp; omega))) evs_nil) (by simp)) (p_add_list ?_)).trans ?_
      · simp only [List.mem_range, Int.toNat_natCast, List.length_map] at hk
        refine ts_cmp rfl (ev_item rfl (ev_name (by decide +kernel) (by repeat (first | refine lk_free (by decide +kernel) ?_ | refine lk_drop (by decide +kernel) ?_ | refine lk_next (by decide +kernel) ?_ | exact lk_here | assumption))) (ev_name (by decide +kernel) (by repeat (first | refine lk_free (by decide +kernel) ?_ | refine lk_drop (by decide +kernel) ?_ | refine lk_next (by decide +kernel) ?_ | exact lk_here | assumption))) (p_item_list (d := .int (row.getD k 0)) (by omega) (by omega) ?_)) (ev_tuple (evs_cons rfl (ev_const rfl) (evs_cons rfl (ev_const rfl) evs_nil)) (by simp)) p_in_two
        simp [hk]
      · have := List.length_filter_le (fun k => is0or (row.getD k 0)) (List.range ((row.map PyData.int).length : Int).toNat)
        simp at this ⊢; omega
      · simp [mPos]
    · have := List.length_filter_le (fun k => is0or (row.getD k 0)) (List.range row.length)
      simp [mPos] at this ⊢; omega
    · simp [mPos]
  -- sums
  refine wx_step (e1_let (d := .list ((mSums (mSizes row)).map .int)) (by decide +kernel) ((ev_comp (comp_one (by decide +kernel) rfl (it_range1 (by decide +kernel) (evs_cons rfl (ev_blt (by decide +kernel) (evs_cons rfl (ev_name (by decide +kernel) (by repeat (first | refine lk_free (by decide +kernel) ?_ | refine lk_drop (by decide +kernel) ?_ | refine lk_next (by decide +kernel) ?_ | exact lk_here | assumption))) evs_nil) (p_len_list (by simp; omega))) evs_nil) (by simp [small]; omega) (by simp; omega))
    (comp_map (g := fun (i : Nat) => PyData.int (0 + i)) (f := fun (k : Nat) => PyData.int (sl none (some (0 + k + 1)) (mSizes row)).sum) (new_free (by decide +kernel)) (fun k hk => ev_blt (by decide +kernel) (evs_cons rfl (ev_slice (ev_name (by decide +kernel) (by repeat (first | refine lk_free (by decide +kernel) ?_ | refine lk_drop (by decide +kernel) ?_ | refine lk_next (by decide +kernel) ?_ | exact lk_here | assumption))) eo_none (eo_some (ev_bin (ev_name (by decide +kernel) (by repeat (first | refine lk_free (by decide +kernel) ?_ | refine lk_drop (by decide +kernel) ?_ | refine lk_next (by decide +kernel) ?_ | exact lk_here | assumption))) (ev_const rfl) rfl) ?_) eo_none (p_slice_ints (by omega))) evs_nil) (p_sum_int ?_))))).trans ?_) rfl (by decide +kernel)) ?_
  · simp only [List.mem_range, Int.toNat_natCast, List.length_map] at hk
    simp [small]; omega
  · have := sl_len none (some ((0 : Int) + k + 1)) (mSizes row)
    omega
  · simp [mSums]
  -- over
  have hlen : (((mSizes row).map PyData.int).length : Int) = ((mSizes row).length : Int) := by simp
  refine wx_step (e1_scal (d := .int (mOver row)) (by decide +kernel) ((ev_if (g := mTest row) (x := .int ((mSizes row).getLastD 0)) (y := .int 0) (ts_cmp rfl (ev_slice (x := .list ((sl (some ((mSizes row).length : Int)) none row).map .int)) ?_ eo_none (eo_some (ev_const rfl) rfl) eo_none (p_slice_ints ?_)) (ev_list (ds := [.int 0]) (evs_cons rfl (ev_const rfl) evs_nil) (by simp)) ?_)
    (fun hb => ?_) (fun hb => (ev_const rfl))).trans ?_) rfl) ?_
  · refine ev_slice (ev_name (by decide +kernel) (by repeat (first | refine lk_free (by decide +kernel) ?_ | refine lk_drop (by decide +kernel) ?_ | refine lk_next (by decide +kernel) ?_ | exact lk_here | assumption))) (eo_some (i := ((mSizes row).length : Int)) ?_ ?_) eo_none eo_none (p_slice_ints (by omega))
    · rw [← hlen]; exact ev_blt (by decide +kernel) (evs_cons rfl (ev_name (by decide +kernel) (by repeat (first | refine lk_free (by decide +kernel) ?_ | refine lk_drop (by decide +kernel) ?_ | refine lk_next (by decide +kernel) ?_ | exact lk_here | assumption))) evs_nil) (p_len_list (by simp; omega))
    · simp [small]; omega
  · have := sl_len (some ((mSizes row).length : Int)) none row
    omega
  · exact p_eq_ints (ys := [0])
  · exact ev_item rfl (ev_name (by decide +kernel) (by repeat (first | refine lk_free (by decide +kernel) ?_ | refine lk_drop (by decide +kernel) ?_ | refine lk_next (by decide +kernel) ?_ | exact lk_here | assumption))) (ev_neg (ev_const rfl)) (p_item_last (last_ints (hz hb)))
  · unfold mOver; split <;> rfl
  -- the marks
  have hne : mOver row > 0 → mSums (mSizes row) ≠ [] := by
    intro ho e
    have h0 : (mSizes row).length = 0 := by
      have := congrArg List.length e
      simpa [mSums] using this
    have h1 : mSizes row = [] := List.length_eq_zero_iff.mp h0
    unfold mOver at ho
    rw [h1] at ho
    split at ho <;> simp at ho
  have hm : marks row = sl none (some 6) (((List.range 18).filter (mPick (mSums (mSizes row)) (mOver row))).map fun (k : Nat) => (1 : Int) + k) := rfl
  generalize mSums (mSizes row) = ss at *
  generalize mOver row = ov at *
  refine wx_ret (e1_ret (ev_slice (ev_comp ((comp_one (by decide +kernel) rfl (it_range2 (by decide +kernel) (evs_cons rfl (ev_const rfl) (evs_cons rfl (ev_const rfl) evs_nil)) rfl rfl (by decide)) (comp_filter (g := fun (i : Nat) => PyData.int (1 + i)) (f := fun (i : Nat) => PyData.int (1 + i)) (t := mPick ss ov) (new_free (by decide +kernel)) (fun k hk => ?_) (fun k hk _ => (ev_name (by decide +kernel) (by repeat (first | refine lk_free (by decide +kernel) ?_ | refine lk_drop (by decide +kernel) ?_ | refine lk_next (by decide +kernel) ?_ | exact lk_here | assumption)))))).trans ?_)) eo_none (eo_some (ev_const rfl) rfl) eo_none (p_slice_ints ?_))) (ret_ok (by rw [hm]))
  · unfold mPick
    refine ts_bool (tb_or (ts_cmp rfl (ev_name (by decide +kernel) (by repeat (first | refine lk_free (by decide +kernel) ?_ | refine lk_drop (by decide +kernel) ?_ | refine lk_next (by decide +kernel) ?_ | exact lk_here | assumption))) (ev_name (by decide +kernel) (by repeat (first | refine lk_free (by decide +kernel) ?_ | refine lk_drop (by decide +kernel) ?_ | refine lk_next (by decide +kernel) ?_ | exact lk_here | assumption))) p_in_ints) fun _ => tb_or (ts_bool (tb_and (ts_cmp rfl (ev_name (by decide +kernel) (by repeat (first | refine lk_free (by decide +kernel) ?_ | refine lk_drop (by decide +kernel) ?_ | refine lk_next (by decide +kernel) ?_ | exact lk_here | assumption))) (ev_const rfl) p_gt_int) fun ho => ?_)) fun _ => tb_or_nil)
    have ho := of_decide_eq_true ho
    refine tb_and (ts_cmp rfl (ev_name (by decide +kernel) (by repeat (first | refine lk_free (by decide +kernel) ?_ | refine lk_drop (by decide +kernel) ?_ | refine lk_next (by decide +kernel) ?_ | exact lk_here | assumption))) (ev_item rfl (ev_name (by decide +kernel) (by repeat (first | refine lk_free (by decide +kernel) ?_ | refine lk_drop (by decide +kernel) ?_ | refine lk_next (by decide +kernel) ?_ | exact lk_here | assumption))) (ev_neg (ev_const rfl)) (p_item_last (last_ints (hne ho)))) p_gt_int) fun _ => tb_and (ts_cmp rfl (ev_bin (ev_bin (ev_name (by decide +kernel) (by repeat (first | refine lk_free (by decide +kernel) ?_ | refine lk_drop (by decide +kernel) ?_ | refine lk_next (by decide +kernel) ?_ | exact lk_here | assumption))) (ev_item rfl (ev_name (by decide +kernel) (by repeat (first | refine lk_free (by decide +kernel) ?_ | refine lk_drop (by decide +kernel) ?_ | refine lk_next (by decide +kernel) ?_ | exact lk_here | assumption))) (ev_neg (ev_const rfl)) (p_item_last (last_ints (hne ho)))) p_sub_int) (ev_name (by decide +kernel) (by repeat (first | refine lk_free (by decide +kernel) ?_ | refine lk_drop (by decide +kernel) ?_ | refine lk_next (by decide +kernel) ?_ | exact lk_here | assumption))) (p_mod_int (by omega))) (ev_const rfl) p_eq_int) fun _ => tb_and_nil
  · rw [show (List.map (fun (i : Nat) => PyData.int (1 + i)) (List.filter (mPick ss ov) (List.range ((19 : Int) - 1).toNat))) = (((List.range 18).filter (mPick ss ov)).map fun (k : Nat) => (1 : Int) + k).map .int by simp]
  · have := List.length_filter_le (mPick ss ov) (List.range 18)
    simp at this ⊢; omega

/-! the same, with room enough -/
theorem em_ge {m : Nat} (hm : 20 ≤ m) (w g : List Nat) (hw : w.length ≤ 100) (hg : g.length ≤ 100) : (R m).cl "_ellipsis_match" [Sx w, Sx g] = some (Bx (em w g)) := by
  obtain ⟨n, rfl⟩ : ∃ n, m = n + 20 := ⟨m - 20, by omega⟩
  exact em_ok n w g hw hg
theorem tok_ge {m : Nat} (hm : 20 ≤ m) (w : List Nat) (hw : w.length ≤ 100) : (R m).cl "_law_tokens" [Sx w] = some (.list ((tok w).map Sx)) := by
  obtain ⟨n, rfl⟩ : ∃ n, m = n + 20 := ⟨m - 20, by omega⟩
  exact tokens_ok n w hw
theorem told_ge {m : Nat} (hm : 40 ≤ m) (w : List Nat) (ts : List (List Nat)) (hw : w.length ≤ 100) (hl : ts.length ≤ 1000) (ht : ∀ t ∈ ts, t.length ≤ 100) : (R m).cl "_law_told" [Sx w, .list (ts.map Sx)] = some (.list (ts.map fun t => Bx (em w t))) := by
  obtain ⟨n, rfl⟩ : ∃ n, m = n + 40 := ⟨m - 40, by omega⟩
  exact told_ok n w ts hw hl ht
theorem build_ge {m : Nat} (hm : 20 ≤ m) (x y : Option (List Nat)) (hx : ∀ l, x = some l → l.length ≤ 400) (hy : ∀ l, y = some l → l.length ≤ 400) : (R m).cl "_build_localename" [.tuple [onD x, onD y]] = some (Sx (bl x y)) := by
  obtain ⟨n, rfl⟩ : ∃ n, m = n + 20 := ⟨m - 20, by omega⟩
  exact build_ok n x y hx hy
theorem marks_ge {m : Nat} (hm : 30 ≤ m) (row : List Int) (hl : row.length ≤ 10) (hs : small (minI (mPos row)) = true) (hz : mTest row = true → mSizes row ≠ []) : (R m).cl "_law_marks" [.list (row.map .int)] = some (.list ((marks row).map .int)) := by
  obtain ⟨n, rfl⟩ : ∃ n, m = n + 30 := ⟨m - 30, by omega⟩
  exact marks_ok n row hl hs hz
end Mine
end

section
set_option maxRecDepth 100000
set_option linter.unusedVariables false
set_option maxHeartbeats 4000000
namespace Mine
open PySem

theorem bind_pair {sc : Scope} {ρ : Rho} {z u : Str} {p q r : Pos} {k : Nat} {d e : D} (ho : (isOwnVar sc z && isOwnVar sc u) = true) : bindT (isOwnVar sc) ρ (.Tuple [.Name z p, .Name u q] k r) (.tuple [d, e]) = some ((u, e) :: (z, d) :: ρ) := by
  rw [bindT_pair, if_pos ho]
theorem p_item_nat {f : List D} {i : Nat} {j : Int} {d : D} (hj : j = (i : Int)) (hi : i < 1000) (h : f[i]? = some d) : pitem (.list f) (.int j) = some d := by
  subst hj
  exact p_item_list (by omega) (by omega) (by simpa using h)
theorem sl_from {α : Type} {i : Int} {k : Nat} (h : i = (k : Int)) (l : List α) : sl (some i) none l = l.drop k := by
  show (l.take l.length).drop (clp (some i) 0 l.length) = _
  rw [List.take_length, clp_nat h]
  rcases Nat.le_total k l.length with q | q
  · rw [Nat.min_eq_left q]
  · rw [Nat.min_eq_right q, List.drop_length, List.drop_eq_nil_of_le q]
theorem sl_to {α : Type} {i : Int} {k : Nat} (h : i = (k : Int)) (l : List α) : sl none (some i) l = l.take k := by
  show (l.take (clp (some i) l.length l.length)).drop 0 = _
  rw [List.drop_zero, clp_nat h]
  rcases Nat.le_total k l.length with q | q
  · rw [Nat.min_eq_left q]
  · rw [Nat.min_eq_right q, List.take_length, List.take_of_length_le q]

noncomputable abbrev Bl (r : List Bool) : D := .list (r.map .bool)
noncomputable abbrev Tl (r : List (List Nat)) : D := .list (r.map Sx)
noncomputable def gB (rows : List (List Bool)) (n k : Nat) : Bool := (rows.getD n []).getD k false
noncomputable def gT (T : List (List (List Nat))) (n k : Nat) : List Nat := (T.getD n []).getD k []
noncomputable def tk0 (T : List (List (List Nat))) : List (List Bool) := (List.range T.length).map fun n => List.replicate (T.getD n []).length (((0 : Int) + (n : Int)) == 0)
noncomputable def tk1 (T : List (List (List Nat))) (rows : List (List Bool)) (n : Nat) : List (List Bool) := rows.set (n + 1) ((List.range (T.getD (n + 1) []).length).map fun k => gB rows (n + 1) k || gB rows n (k / 2))
noncomputable def tk2 (T : List (List (List Nat))) (rows : List (List Bool)) (part : List Nat) : List (List Bool) := (List.range T.length).map fun n => (List.range (T.getD n []).length).map fun k =>
  Nat.ble part.length n && (((gT T n k).drop (n - part.length) == part) && gB rows (n - part.length) (k / 2 ^ part.length))
noncomputable def tkStep (T : List (List (List Nat))) (rows : List (List Bool)) (x : List Nat × Nat) : List (List Bool) := tk2 T ((List.range ((if x.2 > 0 then T.length else 0) - 1)).foldl (tk1 T) rows) x.1
noncomputable def taken (w : List Nat) (T : List (List (List Nat))) : List (List Bool) := (tok w).zipIdx.foldl (tkStep T) (tk0 T)

structure TOk (T : List (List (List Nat))) : Prop where
  len : T.length ≤ 6
  row : ∀ n, n < T.length → (T.getD n []).length = 2 ^ n
  sgn : ∀ n k, (gT T n k).length ≤ 100
noncomputable def ROk (T : List (List (List Nat))) (rows : List (List Bool)) : Prop := rows.length = T.length ∧ ∀ n, n < T.length → (rows.getD n []).length = 2 ^ n

theorem enc_get {α : Type} {f : α → D} {l : List α} {n : Nat} {a : α} (h : n < l.length) : (l.map f)[n]? = some (f (l.getD n a)) := by
  simp [h]
theorem pow_le {n : Nat} (h : n < 6) : 2 ^ n ≤ 32 := by
  have : n ≤ 5 := by omega
  calc 2 ^ n ≤ 2 ^ 5 := Nat.pow_le_pow_right (by decide) this
    _ = 32 := by decide
theorem tk0_ok {T : List (List (List Nat))} (h : TOk T) : ROk T (tk0 T) := by
  refine ⟨by simp [tk0], fun n hn => ?_⟩
  rw [← h.row n hn]
  simp [tk0, hn]
theorem tk1_ok {T : List (List (List Nat))} {rows : List (List Bool)} (h : TOk T) (hr : ROk T rows) {n : Nat} : ROk T (tk1 T rows n) := by
  refine ⟨by simp [tk1, hr.1], fun m hm => ?_⟩
  unfold tk1
  by_cases e : m = n + 1
  · subst e
    simp [List.getD_eq_getElem?_getD, hr.1, hm, List.getElem?_set]
    have := h.row (n + 1) hm
    simpa [hm] using this
  · rw [List.getD_eq_getElem?_getD, List.getElem?_set_ne (Ne.symm e), ← List.getD_eq_getElem?_getD]
    exact hr.2 m hm
theorem tk2_ok {T : List (List (List Nat))} (rows : List (List Bool)) (h : TOk T) {part : List Nat} : ROk T (tk2 T rows part) := by
  refine ⟨by simp [tk2], fun n hn => ?_⟩
  rw [← h.row n hn]
  simp [tk2, hn]

theorem p_rep1 {b : Bool} {k : Nat} (h : k ≤ 1000) : pbin .Mult (.list [.bool b]) (.int k) = some (Bl (List.replicate k b)) := by
  rw [p_rep h (by simp)]
  simp
theorem p_fdiv {a : Nat} {j : Int} {b : Nat} (hj : j = (a : Int)) (h : a < 1000) (hb : 0 < b) (hb2 : b < 1000) : pbin .FloorDiv (.int j) (.int (b : Int)) = some (.int ((a / b : Nat) : Int)) := by
  subst hj
  rw [b_fdiv, if_pos (by simp [small]; omega)]
  congr 2
  rw [Int.fdiv_eq_ediv_of_nonneg _ (by omega)]; simp
theorem p_pow2 {k : Nat} (h : k ≤ 64) : pbin .Pow (.int 2) (.int (k : Int)) = some (.int ((2 ^ k : Nat) : Int)) := by
  rw [b_pow, if_pos (by simp; omega)]
  simp

theorem taken_ok (n : Nat) (w : List Nat) (T : List (List (List Nat))) (hw : w.length ≤ 100) (hT : TOk T) : (R (n + 60)).cl "_law_taken" [Sx w, .list (T.map Tl)] = some (.list ((taken w T).map Bl)) := by
  refine cl_ev (by decide) (by decide) rfl rfl ?_
  show Ev ((R (n + 59)).ex _ ⟨[("texts", .list (T.map Tl)), ("want", Sx w)], none⟩ _) _
  have hTl := hT.len
  -- rows
  refine wx_step (e1_own (d := .list ((tk0 T).map Bl)) (by decide +kernel) ((ev_comp (comp_one (by decide +kernel) rfl (it_range1 (by decide +kernel) (evs_cons rfl (ev_blt (by decide +kernel) (evs_cons rfl (ev_name (by decide +kernel) (by repeat (first | refine lk_free (by decide +kernel) ?_ | refine lk_drop (by decide +kernel) ?_ | refine lk_next (by decide +kernel) ?_ | exact lk_here | assumption))) evs_nil) (p_len_list (by simp; omega))) evs_nil) (by simp [small]; omega) (by simp; omega))
    (comp_map (g := fun (i : Nat) => PyData.int (0 + i)) (f := fun (i : Nat) => Bl (List.replicate (T.getD i []).length (((0 : Int) + (i : Int)) == 0))) (new_free (by decide +kernel)) (fun k hk => ev_bin (ev_list (evs_cons rfl (ev_cmp rfl (ev_name (by decide +kernel) (by repeat (first | refine lk_free (by decide +kernel) ?_ | refine lk_drop (by decide +kernel) ?_ | refine lk_next (by decide +kernel) ?_ | exact lk_here | assumption))) (ev_const rfl) p_eq_int) evs_nil) (by simp)) (ev_blt (by decide +kernel) (evs_cons rfl (ev_item rfl (ev_name (by decide +kernel) (by repeat (first | refine lk_free (by decide +kernel) ?_ | refine lk_drop (by decide +kernel) ?_ | refine lk_next (by decide +kernel) ?_ | exact lk_here | assumption))) (ev_name (by decide +kernel) (by repeat (first | refine lk_free (by decide +kernel) ?_ | refine lk_drop (by decide +kernel) ?_ | refine lk_next (by decide +kernel) ?_ | exact lk_here | assumption))) (p_item_nat (i := k) (d := Tl (T.getD k [])) ?_ ?_ ?_)) evs_nil) (p_len_list ?_)) ?_)))).trans ?_) rfl (by decide +kernel)) ?_
  · omega
  · simp at hk; omega
  · simp at hk; exact enc_get hk
  · simp at hk
    have := hT.row k hk
    have := pow_le (n := k) (by omega)
    rw [List.length_map]; omega
  · simp at hk
    have := hT.row k hk
    have := pow_le (n := k) (by omega)
    rw [List.length_map]
    exact p_rep1 (by omega)
  · simp [tk0]
  refine wx_mid (fun ρ own => List.lookup ("rows" : Str) ρ = some (.list ((taken w T).map Bl)))
    (wi_for (g := fun x : List Nat × Nat => PyData.tuple [.int x.2, Sx x.1]) (tok w).zipIdx (fun xs ρ own => own = some ("rows" : Str) ∧ List.lookup ("texts" : Str) ρ = some (.list (T.map Tl)) ∧ (∀ x ∈ xs, x.1.length ≤ 100) ∧ ∃ rows, List.lookup ("rows" : Str) ρ = some (.list (rows.map Bl)) ∧ ROk T rows ∧ xs.foldl (tkStep T) rows = taken w T)
      ((it_enum (by decide +kernel) (evs_cons rfl (ev_fun (by decide +kernel) (by decide +kernel) (evs_cons rfl (ev_name (by decide +kernel) (by repeat (first | refine lk_free (by decide +kernel) ?_ | refine lk_drop (by decide +kernel) ?_ | refine lk_next (by decide +kernel) ?_ | exact lk_here | assumption))) evs_nil) (tok_ge (by omega) w hw)) evs_nil) (by have := tok_len w; simp; omega)).trans ?_) rfl ⟨rfl, (by repeat (first | refine lk_free (by decide +kernel) ?_ | refine lk_drop (by decide +kernel) ?_ | refine lk_next (by decide +kernel) ?_ | exact lk_here | assumption)), ?_, tk0 T, (by repeat (first | refine lk_free (by decide +kernel) ?_ | refine lk_drop (by decide +kernel) ?_ | refine lk_next (by decide +kernel) ?_ | exact lk_here | assumption)), tk0_ok hT, rfl⟩ ?_ ?_) ?_
  · rw [List.zipIdx_map, List.map_map]; rfl
  · intro x hx
    have : x.1 ∈ tok w := by
      obtain ⟨a, i⟩ := x
      have := List.mem_zipIdx hx
      rw [this.2.2]; exact List.getElem_mem _
    exact tok_all (P := fun p => p.length ≤ 100) w (fun p h _ => by omega) x.1 this
  · rintro ⟨part, place⟩ xs ρ own ⟨rfl, h1, h5, rows, h2, h3, h4⟩
    have hpl : part.length ≤ 100 := h5 (part, place) List.mem_cons_self
    refine ⟨rfl, _, bind_pair (by decide +kernel), ?_⟩
    show Ev ((R _).ex _ ⟨("part", Sx part) :: ("place", .int (place : Int)) :: ρ, some "rows"⟩ _) _
    refine wx_step (e1_scal (by decide +kernel) (ev_blt (by decide +kernel) (evs_cons rfl (ev_name (by decide +kernel) (by repeat (first | refine lk_free (by decide +kernel) ?_ | refine lk_drop (by decide +kernel) ?_ | refine lk_next (by decide +kernel) ?_ | exact lk_here | assumption))) evs_nil) (p_len_str (by omega))) rfl) ?_
    -- the rows one longer
    refine wx_mid (fun ρ own => own = some ("rows" : Str) ∧ List.lookup ("texts" : Str) ρ = some (.list (T.map Tl)) ∧ List.lookup ("part" : Str) ρ = some (Sx part) ∧ List.lookup ("many" : Str) ρ = some (.int part.length) ∧
        ∃ rows2, List.lookup ("rows" : Str) ρ = some (.list (rows2.map Bl)) ∧ ROk T rows2 ∧ rows2 = (List.range ((if place > 0 then T.length else 0) - 1)).foldl (tk1 T) rows)
      (wi_for (g := fun (i : Nat) => PyData.int (1 + i)) (List.range ((if place > 0 then T.length else 0) - 1)) (fun ys ρ own => own = some ("rows" : Str) ∧ List.lookup ("texts" : Str) ρ = some (.list (T.map Tl)) ∧ List.lookup ("part" : Str) ρ = some (Sx part) ∧ List.lookup ("many" : Str) ρ = some (.int part.length) ∧ (∀ y ∈ ys, y + 1 < T.length) ∧
        ∃ rows2, List.lookup ("rows" : Str) ρ = some (.list (rows2.map Bl)) ∧ ROk T rows2 ∧ ys.foldl (tk1 T) rows2 = (List.range ((if place > 0 then T.length else 0) - 1)).foldl (tk1 T) rows)
        ((it_range2 (j := 1) (k := ((if place > 0 then T.length else 0 : Nat) : Int)) (by decide +kernel) (evs_cons rfl (ev_const rfl) (evs_cons rfl ((ev_if (g := decide (place > 0)) (x := .int ((T.length : Nat) : Int)) (y := .int 0) (ts_cmp rfl (ev_name (by decide +kernel) (lk_drop (by decide +kernel) (lk_next (by decide +kernel) (lk_next (by decide +kernel) lk_here)))) (ev_const rfl) ?_) (fun hb => ?_) (fun hb => (ev_const rfl))).trans ?_) evs_nil)) rfl ?_ ?_).trans ?_) rfl ⟨rfl, (by repeat (first | refine lk_free (by decide +kernel) ?_ | refine lk_drop (by decide +kernel) ?_ | refine lk_next (by decide +kernel) ?_ | exact lk_here | assumption)), (by repeat (first | refine lk_free (by decide +kernel) ?_ | refine lk_drop (by decide +kernel) ?_ | refine lk_next (by decide +kernel) ?_ | exact lk_here | assumption)), (by repeat (first | refine lk_free (by decide +kernel) ?_ | refine lk_drop (by decide +kernel) ?_ | refine lk_next (by decide +kernel) ?_ | exact lk_here | assumption)), ?_, rows, (by repeat (first | refine lk_free (by decide +kernel) ?_ | refine lk_drop (by decide +kernel) ?_ | refine lk_next (by decide +kernel) ?_ | exact lk_here | assumption)), h3, rfl⟩ ?_ ?_) ?_
    · exact p_gt_int.trans (by simp)
    · refine (ev_blt (by decide +kernel) (evs_cons rfl (ev_name (by decide +kernel) (lk_drop (by decide +kernel) (lk_next (by decide +kernel) (lk_next (by decide +kernel) (lk_next (by decide +kernel) h1))))) evs_nil) (p_len_list (by simp; omega))).trans (by simp)
    · by_cases hp : place > 0 <;> simp [hp]
    · split <;> simp [small]; omega
    · split <;> omega
    · congr 2; split <;> simp
    · intro y hy
      simp at hy
      split at hy <;> omega
    · rintro k ys ρ own ⟨rfl, j1, j2, j3, j4, rows2, j5, j6, j7⟩
      have hk := j4 k List.mem_cons_self
      have hk1 := hT.row (k + 1) hk
      have hkp := pow_le (n := k + 1) (by omega)
      have hr1 := j6.2 (k + 1) hk
      have hr0 := j6.2 k (by omega)
      have hrl := j6.1
      refine ⟨rfl, _, bind_name (by decide +kernel), ?_⟩
      refine wx_step (e1_set (k := 1 + (k : Int)) (d := Bl ((List.range (T.getD (k + 1) []).length).map fun i => gB rows2 (k + 1) i || gB rows2 k (i / 2))) (by rfl) ((ev_comp (comp_one (by decide +kernel) rfl (it_range1 (by decide +kernel) (evs_cons rfl (ev_blt (by decide +kernel) (evs_cons rfl (ev_item rfl (ev_name (by decide +kernel) (by repeat (first | refine lk_free (by decide +kernel) ?_ | refine lk_drop (by decide +kernel) ?_ | refine lk_next (by decide +kernel) ?_ | exact lk_here | assumption))) (ev_name (by decide +kernel) (by repeat (first | refine lk_free (by decide +kernel) ?_ | refine lk_drop (by decide +kernel) ?_ | refine lk_next (by decide +kernel) ?_ | exact lk_here | assumption))) (p_item_nat (i := k + 1) (d := Tl (T.getD (k + 1) [])) (by omega) (by omega) (enc_get hk))) evs_nil) (p_len_list (by rw [List.length_map]; omega))) evs_nil) (by rw [List.length_map]; simp only [small, Bool.and_eq_true, decide_eq_true_eq]; omega) (by rw [List.length_map]; omega))
        (comp_map (g := fun (i : Nat) => PyData.int (0 + i)) (f := fun (i : Nat) => Bx (gB rows2 (k + 1) i || gB rows2 k (i / 2))) (new_free (by decide +kernel)) (fun i hi => ?_)))).trans ?_) ?_ (by repeat (first | refine lk_free (by decide +kernel) ?_ | refine lk_drop (by decide +kernel) ?_ | refine lk_next (by decide +kernel) ?_ | exact lk_here | assumption)) (ev_name (by decide +kernel) (by repeat (first | refine lk_free (by decide +kernel) ?_ | refine lk_drop (by decide +kernel) ?_ | refine lk_next (by decide +kernel) ?_ | exact lk_here | assumption))) ?_) ?_
      · simp only [List.mem_range, Int.toNat_natCast, List.length_map] at hi
        have hpw : 2 ^ (k + 1) = 2 * 2 ^ k := by rw [Nat.pow_succ]; omega
        refine ev_bool (eb_or (ev_item rfl (ev_item rfl (ev_name (by decide +kernel) (by repeat (first | refine lk_free (by decide +kernel) ?_ | refine lk_drop (by decide +kernel) ?_ | refine lk_next (by decide +kernel) ?_ | exact lk_here | assumption))) (ev_name (by decide +kernel) (by repeat (first | refine lk_free (by decide +kernel) ?_ | refine lk_drop (by decide +kernel) ?_ | refine lk_next (by decide +kernel) ?_ | exact lk_here | assumption))) (p_item_nat (i := k + 1) (d := Bl (rows2.getD (k + 1) [])) (by omega) (by omega) (enc_get (by omega)))) (ev_name (by decide +kernel) (by repeat (first | refine lk_free (by decide +kernel) ?_ | refine lk_drop (by decide +kernel) ?_ | refine lk_next (by decide +kernel) ?_ | exact lk_here | assumption))) (p_item_nat (i := i) (d := Bx (gB rows2 (k + 1) i)) (by omega) (by omega) (enc_get (by omega)))) fun _ => eb_one ?_)
        refine ev_item rfl (ev_item rfl (ev_name (by decide +kernel) (by repeat (first | refine lk_free (by decide +kernel) ?_ | refine lk_drop (by decide +kernel) ?_ | refine lk_next (by decide +kernel) ?_ | exact lk_here | assumption))) (ev_bin (ev_name (by decide +kernel) (by repeat (first | refine lk_free (by decide +kernel) ?_ | refine lk_drop (by decide +kernel) ?_ | refine lk_next (by decide +kernel) ?_ | exact lk_here | assumption))) (ev_const rfl) p_sub_int) (p_item_nat (i := k) (d := Bl (rows2.getD k [])) (by omega) (by omega) (enc_get (by omega)))) (ev_bin (ev_name (by decide +kernel) (by repeat (first | refine lk_free (by decide +kernel) ?_ | refine lk_drop (by decide +kernel) ?_ | refine lk_next (by decide +kernel) ?_ | exact lk_here | assumption))) (ev_const rfl) (p_fdiv (a := i) (b := 2) (by omega) (by omega) (by decide) (by decide))) (p_item_nat (i := i / 2) (d := Bx (gB rows2 k (i / 2))) rfl (by omega) (enc_get (by omega)))
      · simp
      · exact all_scal (fun _ => rfl) _
      · simp; omega
      · refine wx_nil ⟨rfl, (by repeat (first | refine lk_free (by decide +kernel) ?_ | refine lk_drop (by decide +kernel) ?_ | refine lk_next (by decide +kernel) ?_ | exact lk_here | assumption)), (by repeat (first | refine lk_free (by decide +kernel) ?_ | refine lk_drop (by decide +kernel) ?_ | refine lk_next (by decide +kernel) ?_ | exact lk_here | assumption)), (by repeat (first | refine lk_free (by decide +kernel) ?_ | refine lk_drop (by decide +kernel) ?_ | refine lk_next (by decide +kernel) ?_ | exact lk_here | assumption)), fun y hy => j4 y (List.mem_cons_of_mem _ hy), tk1 T rows2 k, ?_, tk1_ok hT j6, j7⟩
        rw [lk_here]
        congr 2
        unfold tk1
        rw [List.map_set]
        congr 1; omega
    · rintro ρ own ⟨rfl, j1, j2, j3, j4, rows2, j5, j6, j7⟩
      exact ⟨rfl, j1, j2, j3, rows2, j5, j6, j7⟩
    rintro ρ own ⟨rfl, j1, j2, j3, rows2, j5, j6, j7⟩
    have hrl := j6.1
    refine wx_step (e1_own (d := .list ((tk2 T rows2 part).map Bl)) (by decide +kernel) ((ev_comp (comp_one (by decide +kernel) rfl (it_range1 (by decide +kernel) (evs_cons rfl (ev_blt (by decide +kernel) (evs_cons rfl (ev_name (by decide +kernel) (by repeat (first | refine lk_free (by decide +kernel) ?_ | refine lk_drop (by decide +kernel) ?_ | refine lk_next (by decide +kernel) ?_ | exact lk_here | assumption))) evs_nil) (p_len_list (by simp; omega))) evs_nil) (by simp [small]; omega) (by simp; omega))
      (comp_map (g := fun (i : Nat) => PyData.int (0 + i)) (f := fun (m : Nat) => Bl ((List.range (T.getD m []).length).map fun k => Nat.ble part.length m && (((gT T m k).drop (m - part.length) == part) && gB rows2 (m - part.length) (k / 2 ^ part.length)))) (new_free (by decide +kernel)) (fun m hm => ?_)))).trans ?_) rfl (by decide +kernel)) ?_
    · simp only [List.mem_range, Int.toNat_natCast, List.length_map] at hm
      have hm1 := hT.row m hm
      have hmp := pow_le (n := m) (by omega)
      refine (ev_comp (comp_one (by decide +kernel) rfl (it_range1 (by decide +kernel) (evs_cons rfl (ev_blt (by decide +kernel) (evs_cons rfl (ev_item rfl (ev_name (by decide +kernel) (by repeat (first | refine lk_free (by decide +kernel) ?_ | refine lk_drop (by decide +kernel) ?_ | refine lk_next (by decide +kernel) ?_ | exact lk_here | assumption))) (ev_name (by decide +kernel) (by repeat (first | refine lk_free (by decide +kernel) ?_ | refine lk_drop (by decide +kernel) ?_ | refine lk_next (by decide +kernel) ?_ | exact lk_here | assumption))) (p_item_nat (i := m) (d := Tl (T.getD m [])) (by omega) (by omega) (enc_get hm))) evs_nil) (p_len_list (by rw [List.length_map]; omega))) evs_nil) (by rw [List.length_map]; simp only [small, Bool.and_eq_true, decide_eq_true_eq]; omega) (by rw [List.length_map]; omega))
        (comp_map (g := fun (i : Nat) => PyData.int (0 + i)) (f := fun (k : Nat) => Bx (Nat.ble part.length m && (((gT T m k).drop (m - part.length) == part) && gB rows2 (m - part.length) (k / 2 ^ part.length)))) (new_next (by decide +kernel) (new_free (by decide +kernel))) (fun k hk => ?_)))).trans ?_
      · simp only [List.mem_range, Int.toNat_natCast, List.length_map] at hk
        refine ev_bool (eb_and (ev_cmp rfl (ev_name (by decide +kernel) (by repeat (first | refine lk_free (by decide +kernel) ?_ | refine lk_drop (by decide +kernel) ?_ | refine lk_next (by decide +kernel) ?_ | exact lk_here | assumption))) (ev_name (by decide +kernel) (by repeat (first | refine lk_free (by decide +kernel) ?_ | refine lk_drop (by decide +kernel) ?_ | refine lk_next (by decide +kernel) ?_ | exact lk_here | assumption))) (p_ge_int.trans ?_)) fun hb => eb_and (ev_cmp rfl (ev_slice (ev_item rfl (ev_item rfl (ev_name (by decide +kernel) (by repeat (first | refine lk_free (by decide +kernel) ?_ | refine lk_drop (by decide +kernel) ?_ | refine lk_next (by decide +kernel) ?_ | exact lk_here | assumption))) (ev_name (by decide +kernel) (by repeat (first | refine lk_free (by decide +kernel) ?_ | refine lk_drop (by decide +kernel) ?_ | refine lk_next (by decide +kernel) ?_ | exact lk_here | assumption))) (p_item_nat (i := m) (d := Tl (T.getD m [])) (by omega) (by omega) (enc_get hm))) (ev_name (by decide +kernel) (by repeat (first | refine lk_free (by decide +kernel) ?_ | refine lk_drop (by decide +kernel) ?_ | refine lk_next (by decide +kernel) ?_ | exact lk_here | assumption))) (p_item_nat (i := k) (d := Sx (gT T m k)) (by omega) (by omega) (enc_get (by omega)))) (eo_some (ev_bin (ev_name (by decide +kernel) (by repeat (first | refine lk_free (by decide +kernel) ?_ | refine lk_drop (by decide +kernel) ?_ | refine lk_next (by decide +kernel) ?_ | exact lk_here | assumption))) (ev_name (by decide +kernel) (by repeat (first | refine lk_free (by decide +kernel) ?_ | refine lk_drop (by decide +kernel) ?_ | refine lk_next (by decide +kernel) ?_ | exact lk_here | assumption))) p_sub_int) ?_) eo_none eo_none (p_slice_str (by have := hT.sgn m k; omega))) (ev_name (by decide +kernel) (by repeat (first | refine lk_free (by decide +kernel) ?_ | refine lk_drop (by decide +kernel) ?_ | refine lk_next (by decide +kernel) ?_ | exact lk_here | assumption))) (p_eq_str.trans ?_)) fun _ => eb_one ?_)
        · congr 1
          rw [Bool.eq_iff_iff, decide_eq_true_eq]
          exact ⟨fun h => Nat.ble_eq_true_of_le (by omega), fun h => by have := Nat.le_of_ble_eq_true h; omega⟩
        · have := Nat.le_of_ble_eq_true hb
          simp [small]; omega
        · have := Nat.le_of_ble_eq_true hb
          rw [sl_from (k := m - part.length) (by omega)]
        · have hle := Nat.le_of_ble_eq_true hb
          have hr := j6.2 (m - part.length) (by omega)
          have hpw : 2 ^ m = 2 ^ (m - part.length) * 2 ^ part.length := by rw [← Nat.pow_add]; congr 1; omega
          have hpp : 0 < 2 ^ part.length := Nat.pow_pos (by decide)
          have hp5 := pow_le (n := part.length) (by omega)
          have hdiv : k / 2 ^ part.length < 2 ^ (m - part.length) := by
            rw [Nat.div_lt_iff_lt_mul hpp, ← hpw]; omega
          refine ev_item rfl (ev_item rfl (ev_name (by decide +kernel) (by repeat (first | refine lk_free (by decide +kernel) ?_ | refine lk_drop (by decide +kernel) ?_ | refine lk_next (by decide +kernel) ?_ | exact lk_here | assumption))) (ev_bin (ev_name (by decide +kernel) (by repeat (first | refine lk_free (by decide +kernel) ?_ | refine lk_drop (by decide +kernel) ?_ | refine lk_next (by decide +kernel) ?_ | exact lk_here | assumption))) (ev_name (by decide +kernel) (by repeat (first | refine lk_free (by decide +kernel) ?_ | refine lk_drop (by decide +kernel) ?_ | refine lk_next (by decide +kernel) ?_ | exact lk_here | assumption))) p_sub_int) (p_item_nat (i := m - part.length) (d := Bl (rows2.getD (m - part.length) [])) (by omega) (by omega) (enc_get (by omega)))) (ev_bin (ev_name (by decide +kernel) (by repeat (first | refine lk_free (by decide +kernel) ?_ | refine lk_drop (by decide +kernel) ?_ | refine lk_next (by decide +kernel) ?_ | exact lk_here | assumption))) (ev_bin (ev_const rfl) (ev_name (by decide +kernel) (by repeat (first | refine lk_free (by decide +kernel) ?_ | refine lk_drop (by decide +kernel) ?_ | refine lk_next (by decide +kernel) ?_ | exact lk_here | assumption))) (p_pow2 (by omega))) (p_fdiv (a := k) (by omega) (by omega) hpp (by omega))) (p_item_nat (i := k / 2 ^ part.length) (d := Bx (gB rows2 (m - part.length) (k / 2 ^ part.length))) rfl ?_ (enc_get (by omega)))
          have := pow_le (n := m - part.length) (by omega)
          omega
      · simp
    · simp [tk2]
    · refine wx_nil ⟨rfl, (by repeat (first | refine lk_free (by decide +kernel) ?_ | refine lk_drop (by decide +kernel) ?_ | refine lk_next (by decide +kernel) ?_ | exact lk_here | assumption)), fun x hx => h5 x (List.mem_cons_of_mem _ hx), tk2 T rows2 part, (by repeat (first | refine lk_free (by decide +kernel) ?_ | refine lk_drop (by decide +kernel) ?_ | refine lk_next (by decide +kernel) ?_ | exact lk_here | assumption)), tk2_ok rows2 hT, ?_⟩
      rw [← h4, List.foldl_cons]
      congr 1
      unfold tkStep
      rw [j7]
  · rintro ρ own ⟨rfl, h1, h5, rows, h2, h3, h4⟩
    rw [← h4]; exact h2
  · intro ρ own h
    exact wx_ret (e1_ret (ev_name (by decide +kernel) (by repeat (first | refine lk_free (by decide +kernel) ?_ | refine lk_drop (by decide +kernel) ?_ | refine lk_next (by decide +kernel) ?_ | exact lk_here | assumption)))) (ret_ok rfl)
end Mine
end

section
set_option maxRecDepth 100000
set_option linter.unusedVariables false
set_option maxHeartbeats 4000000
namespace Mine
open PySem

theorem tok_flat (w : List Nat) : (tok w).flatten.length ≤ w.length := by
  have key : ∀ (s cur : List Nat) (d : List (List Nat)), (tokEnd (s.foldl tokStep (d, cur))).flatten.length ≤ d.flatten.length + cur.length + s.length := by
    intro s
    induction s with
    | nil => intro cur d; simp [tokEnd]
    | cons c s ih =>
      intro cur d
      rw [List.foldl_cons]
      rcases tokStep_or (d, cur) c with e | e
      · rw [e]
        have := ih [] (d ++ [List.take ((cur ++ [c]).length - 3) (cur ++ [c])])
        simp only [List.flatten_append, List.flatten_cons, List.flatten_nil, List.append_nil, List.length_append, List.length_take, List.length_cons, List.length_nil] at this ⊢
        omega
      · rw [e]
        have := ih (cur ++ [c]) d
        simp only [List.length_append, List.length_cons, List.length_nil] at this ⊢; omega
  have := key w [] []
  simpa [tok] using this
theorem p_mul_int {a b : Int} (ha : small a = true) (hb : small b = true) : pbin .Mult (.int a) (.int b) = some (.int (a * b)) := by
  rw [b_mul_int, if_pos (by rw [ha, hb]; rfl)]
theorem p_notin {c : Nat} {l : List Nat} : pcmp .NotIn (Sx [c]) (Sx l) = some (!(l.contains c)) := by
  rw [c_notin]
  unfold Txt.contains
  rw [StrLaws.found_one]
  congr 1
  simp [List.contains_eq_mem]
theorem p_ne_signs {xs : List Nat} (h : ∀ c ∈ xs, c < 1000) : pcmp .NotEq (.list (xs.map fun c => Sx [c])) (.list []) = some (!(xs == [])) := by
  refine p_ne_list (f := fun c => Sx [c]) (ys := []) (fun a b => ?_) (fun c hc => ?_) (fun _ h => by cases h) (fun c hc => by simp [PyData.depth])
  · simp only [PyData.eqv]; rw [st_beq]; simp
  · have := h c hc
    simp [PyData.canLay0, PyData.strOk]; omega

noncomputable def cFit (part : List Nat) : List Int := ((List.range part.length).map fun k => if part.drop k == part.take (part.length - k) then (1 : Int) else 0) ++ List.replicate 6 0
noncomputable def cAhead (row : List Int) (many n : Nat) : Int := if Nat.ble many n then row.getD (n - many) 0 else 0
noncomputable def cCoef (part : List Nat) (i : Nat) : Int := (cFit part).getD (i + 1) 0 - 2 * (cFit part).getD i 0 + (if ((1 : Int) + (i : Int)) == (part.length : Int) then 1 else 0)
noncomputable def cVal (row : List Int) (part : List Nat) (made : List Int) (n : Nat) : Int := cAhead row part.length n - ((List.range n).map fun i => cCoef part i * made.getD (n - (i + 1)) 0).sum
noncomputable def cMk (row : List Int) (part : List Nat) : Nat → List Int
  | 0 => []
  | n + 1 => cMk row part n ++ [cVal row part (cMk row part n) n]
noncomputable def cStep (row : List Int) (part : List Nat) : List Int := cMk row part 6
noncomputable def cSafe : List (List Nat) → List Int → Bool
  | [], row => row.all small
  | p :: ps, row => row.all small && cSafe ps (cStep row p)
noncomputable def cInit : List Int := [1, 2, 4, 8, 16, 32]
noncomputable def cMids (w : List Nat) : List (List Nat) := sl (some 1) (some (-1)) (tok w)
noncomputable def cBad (w lt : List Nat) : Bool := !(((tok w).flatMap fun p => p.filter fun c => !(lt.contains c)) == [])
noncomputable def counts (w lt : List Nat) : List Int := if cBad w lt then List.replicate 6 0 else sl none (some 6) (List.replicate ((tok w).headD [] ++ (tok w).getLastD []).length 0 ++ (cMids w).foldl cStep cInit)

theorem fit_len (part : List Nat) : (cFit part).length = part.length + 6 := by simp [cFit]
theorem fit_01 (part : List Nat) (k : Nat) : (cFit part).getD k 0 = 0 ∨ (cFit part).getD k 0 = 1 := by
  have key : ∀ x ∈ cFit part, x = 0 ∨ x = 1 := by
    intro x hx
    unfold cFit at hx
    rcases List.mem_append.mp hx with q | q
    · obtain ⟨i, _, rfl⟩ := List.mem_map.mp q
      split
      · exact .inr rfl
      · exact .inl rfl
    · exact .inl (List.eq_of_mem_replicate q)
  by_cases h : k < (cFit part).length
  · have : (cFit part).getD k 0 = (cFit part)[k] := by simp [List.getD_eq_getElem?_getD, h]
    rw [this]; exact key _ (List.getElem_mem h)
  · left; simp [List.getD_eq_getElem?_getD, List.getElem?_eq_none (by omega : (cFit part).length ≤ k)]
theorem mk_len (row : List Int) (part : List Nat) : ∀ n, (cMk row part n).length = n
  | 0 => rfl
  | n + 1 => by simp [cMk, mk_len row part n]
theorem mk_sub (row : List Int) (part : List Nat) {j : Nat} : ∀ {m : Nat}, j ≤ m → ∀ x ∈ cMk row part j, x ∈ cMk row part m
  | 0, h, x, hx => by
    have : j = 0 := by omega
    subst this; exact hx
  | m + 1, h, x, hx => by
    by_cases e : j = m + 1
    · subst e; exact hx
    · exact List.mem_append_left _ (mk_sub row part (by omega) x hx)
theorem safe_row {ps : List (List Nat)} {row : List Int} (h : cSafe ps row = true) : ∀ x ∈ row, small x = true := by
  cases ps with
  | nil => exact List.all_eq_true.mp h
  | cons p ps =>
    unfold cSafe at h
    rw [Bool.and_eq_true] at h
    exact List.all_eq_true.mp h.1
theorem small_getD {l : List Int} (h : ∀ x ∈ l, small x = true) (k : Nat) : small (l.getD k 0) = true := by
  by_cases hk : k < l.length
  · have : l.getD k 0 = l[k] := by simp [List.getD_eq_getElem?_getD, hk]
    rw [this]; exact h _ (List.getElem_mem hk)
  · rw [show l.getD k 0 = 0 by simp [List.getD_eq_getElem?_getD, List.getElem?_eq_none (by omega : l.length ≤ k)]]; decide
theorem coef_small (part : List Nat) (i : Nat) : small (cCoef part i) = true := by
  unfold cCoef small
  rcases fit_01 part i with h | h <;> rcases fit_01 part (i + 1) with h2 | h2 <;> rw [h, h2] <;> split <;> decide

theorem counts_ok (n : Nat) (w lt : List Nat) (hw : w.length ≤ 100) (hc : ∀ c ∈ w, c < 1000) (hs : (cBad w lt || cSafe (cMids w) cInit) = true) : (R (n + 60)).cl "_law_counts" [Sx w, Sx lt] = some (.list ((counts w lt).map .int)) := by
  refine cl_ev (by decide) (by decide) rfl rfl ?_
  show Ev ((R (n + 59)).ex _ ⟨[("letters", Sx lt), ("want", Sx w)], none⟩ _) _
  have htl := tok_len w
  have hlens := tok_all (P := fun p => p.length ≤ 100) w fun p h _ => by omega
  have hchr := tok_all (P := fun p => ∀ c ∈ p, c < 1000) w fun p _ h => fun c hcp => hc c (h c hcp)
  refine wx_step (e1_let (d := .list ((tok w).map Sx)) (by decide +kernel) (ev_fun (by decide +kernel) (by decide +kernel) (evs_cons rfl (ev_name (by decide +kernel) (by repeat (first | refine lk_free (by decide +kernel) ?_ | refine lk_drop (by decide +kernel) ?_ | refine lk_next (by decide +kernel) ?_ | exact lk_here | assumption))) evs_nil) (tok_ge (by omega) w hw)) rfl (by decide +kernel)) ?_
  refine wx_mid (fun ρ own => own = none ∧ List.lookup ("parts" : Str) ρ = some (.list ((tok w).map Sx)) ∧ cBad w lt = false)
    (wi_if (b := cBad w lt) (ts_cmp (x := .list (((tok w).flatMap fun (p : List Nat) => p.filter fun c => !(lt.contains c)).map fun c => Sx [c])) rfl ?_ (ev_list evs_nil (by simp)) (p_ne_signs ?_)) (fun hb => ?_) (fun hb => wx_nil ⟨rfl, (by repeat (first | refine lk_free (by decide +kernel) ?_ | refine lk_drop (by decide +kernel) ?_ | refine lk_next (by decide +kernel) ?_ | exact lk_here | assumption)), hb⟩)) ?_
  · refine ev_comp ((comp_two (by decide +kernel) rfl (it_list rfl (ev_name (by decide +kernel) (by repeat (first | refine lk_free (by decide +kernel) ?_ | refine lk_drop (by decide +kernel) ?_ | refine lk_next (by decide +kernel) ?_ | exact lk_here | assumption))) (by simp; omega)) (comp_pairs (β := Nat) (ds2 := fun (p : List Nat) => p.map fun c => Sx [c]) (f := fun (p : List Nat) => (p.filter fun c => !(lt.contains c)).map fun c => Sx [c]) (new_free (by decide +kernel)) (fun p hp => ?_) (fun p hp => ?_)) ?_).trans ?_)
    · exact it_str rfl (ev_name (by decide +kernel) (by repeat (first | refine lk_free (by decide +kernel) ?_ | refine lk_drop (by decide +kernel) ?_ | refine lk_next (by decide +kernel) ?_ | exact lk_here | assumption))) (by have := hlens p hp; omega)
    · exact comp_filter (new_next (by decide +kernel) (new_free (by decide +kernel))) (fun c hcp => ts_cmp rfl (ev_name (by decide +kernel) (by repeat (first | refine lk_free (by decide +kernel) ?_ | refine lk_drop (by decide +kernel) ?_ | refine lk_next (by decide +kernel) ?_ | exact lk_here | assumption))) (ev_name (by decide +kernel) (by repeat (first | refine lk_free (by decide +kernel) ?_ | refine lk_drop (by decide +kernel) ?_ | refine lk_next (by decide +kernel) ?_ | exact lk_here | assumption))) p_notin) (fun c hcp _ => (ev_name (by decide +kernel) (by repeat (first | refine lk_free (by decide +kernel) ?_ | refine lk_drop (by decide +kernel) ?_ | refine lk_next (by decide +kernel) ?_ | exact lk_here | assumption))))
    · have h1 := tok_flat w
      have h2 : ∀ l : List (List Nat), ((l.flatMap fun p => (p.filter fun c => !(lt.contains c)).map fun c => Sx [c])).length ≤ l.flatten.length := by
        intro l
        induction l with
        | nil => simp
        | cons p r ih =>
          have := List.length_filter_le (fun c => !(lt.contains c)) p
          simp only [List.flatMap_cons, List.length_append, List.length_map, List.flatten_cons]; omega
      have := h2 (tok w)
      omega
    · rw [List.map_flatMap]
  · intro c hcp
    obtain ⟨p, hp, hcp⟩ := List.mem_flatMap.mp hcp
    exact hchr p hp c (List.mem_filter.mp hcp).1
  · refine wx_ret (e1_ret (ev_bin (ev_list (evs_cons rfl (ev_const rfl) evs_nil) (by simp)) (ev_const rfl) (p_rep (k := 6) (by decide) (by simp)))) (ret_ok ?_)
    unfold counts; rw [hb]; rfl
  rintro ρ own ⟨rfl, hparts, hbad⟩
  have hs : cSafe (cMids w) cInit = true := by rw [hbad] at hs; simpa using hs
  have hne : tok w ≠ [] := by unfold tok tokEnd; simp
  refine wx_step (e1_let (d := .list (cInit.map .int)) (by decide +kernel) (ev_list (evs_cons rfl (ev_const rfl) (evs_cons rfl (ev_const rfl) (evs_cons rfl (ev_const rfl) (evs_cons rfl (ev_const rfl) (evs_cons rfl (ev_const rfl) (evs_cons rfl (ev_const rfl) evs_nil)))))) (by simp [cInit])) rfl (by decide +kernel)) ?_
  have hml : (cMids w).length ≤ 101 := Nat.le_trans (sl_len _ _ _) (by omega)
  have hmem : ∀ p ∈ cMids w, p ∈ tok w := fun p hp => by
    unfold cMids sl at hp
    exact List.mem_of_mem_take (List.mem_of_mem_drop hp)
  refine wx_mid (fun ρ own => List.lookup ("parts" : Str) ρ = some (.list ((tok w).map Sx)) ∧ List.lookup ("row" : Str) ρ = some (.list (((cMids w).foldl cStep cInit).map .int)) ∧ ((cMids w).foldl cStep cInit).length = 6)
    (wi_for (g := Sx) (cMids w) (fun xs ρ own => own = none ∧ List.lookup ("parts" : Str) ρ = some (.list ((tok w).map Sx)) ∧ (∀ p ∈ xs, p.length ≤ 100) ∧ ∃ row, List.lookup ("row" : Str) ρ = some (.list (row.map .int)) ∧ row.length = 6 ∧ cSafe xs row = true ∧ xs.foldl cStep row = (cMids w).foldl cStep cInit)
      (it_list rfl ((ev_slice (ev_name (by decide +kernel) (lk_next (by decide +kernel) hparts)) (eo_some (ev_const rfl) rfl) (eo_some (ev_neg (ev_const rfl)) rfl) eo_none (p_slice_list (by simp; omega))).trans (by rw [sl_map]; rfl)) (by simp; omega)) rfl ⟨rfl, (by repeat (first | refine lk_free (by decide +kernel) ?_ | refine lk_drop (by decide +kernel) ?_ | refine lk_next (by decide +kernel) ?_ | exact lk_here | assumption)), fun p hp => hlens p (hmem p hp), cInit, (by repeat (first | refine lk_free (by decide +kernel) ?_ | refine lk_drop (by decide +kernel) ?_ | refine lk_next (by decide +kernel) ?_ | exact lk_here | assumption)), rfl, hs, rfl⟩ ?_ ?_) ?_
  · rintro part xs ρ own ⟨rfl, k1, k2, row, k3, k4, k5, k6⟩
    have hpl : part.length ≤ 100 := k2 part List.mem_cons_self
    have k5' := k5
    unfold cSafe at k5
    rw [Bool.and_eq_true] at k5
    have hnext : ∀ x ∈ cMk row part 6, small x = true := safe_row k5.2
    refine ⟨rfl, _, bind_name (by decide +kernel), ?_⟩
    refine wx_step (e1_scal (by decide +kernel) (ev_blt (by decide +kernel) (evs_cons rfl (ev_name (by decide +kernel) (by repeat (first | refine lk_free (by decide +kernel) ?_ | refine lk_drop (by decide +kernel) ?_ | refine lk_next (by decide +kernel) ?_ | exact lk_here | assumption))) evs_nil) (p_len_str (by omega))) rfl) ?_
    -- fit
    refine wx_step (e1_let (d := .list ((cFit part).map .int)) (by decide +kernel) ((ev_bin (ev_comp (comp_one (by decide +kernel) rfl (it_range1 (by decide +kernel) (evs_cons rfl (ev_name (by decide +kernel) (by repeat (first | refine lk_free (by decide +kernel) ?_ | refine lk_drop (by decide +kernel) ?_ | refine lk_next (by decide +kernel) ?_ | exact lk_here | assumption))) evs_nil) (by simp [small]; omega) (by omega))
      (comp_map (g := fun (i : Nat) => PyData.int (0 + i)) (f := fun (k : Nat) => PyData.int (if part.drop k == part.take (part.length - k) then 1 else 0)) (new_free (by decide +kernel)) (fun k hk => ?_)))) (ev_bin (ev_list (evs_cons rfl (ev_const rfl) evs_nil) (by simp)) (ev_const rfl) (p_rep (k := 6) (by decide) (by simp))) (p_add_list ?_)).trans ?_) rfl (by decide +kernel)) ?_
    · simp only [List.mem_range, Int.toNat_natCast] at hk
      refine ev_blt (by decide +kernel) (evs_cons rfl (ev_cmp rfl (ev_slice (ev_name (by decide +kernel) (by repeat (first | refine lk_free (by decide +kernel) ?_ | refine lk_drop (by decide +kernel) ?_ | refine lk_next (by decide +kernel) ?_ | exact lk_here | assumption))) (eo_some (ev_name (by decide +kernel) (by repeat (first | refine lk_free (by decide +kernel) ?_ | refine lk_drop (by decide +kernel) ?_ | refine lk_next (by decide +kernel) ?_ | exact lk_here | assumption))) (by simp [small]; omega)) eo_none eo_none (p_slice_str (by omega))) (ev_slice (ev_name (by decide +kernel) (by repeat (first | refine lk_free (by decide +kernel) ?_ | refine lk_drop (by decide +kernel) ?_ | refine lk_next (by decide +kernel) ?_ | exact lk_here | assumption))) eo_none (eo_some (ev_bin (ev_name (by decide +kernel) (by repeat (first | refine lk_free (by decide +kernel) ?_ | refine lk_drop (by decide +kernel) ?_ | refine lk_next (by decide +kernel) ?_ | exact lk_here | assumption))) (ev_name (by decide +kernel) (by repeat (first | refine lk_free (by decide +kernel) ?_ | refine lk_drop (by decide +kernel) ?_ | refine lk_next (by decide +kernel) ?_ | exact lk_here | assumption))) p_sub_int) (by simp [small]; omega)) eo_none (p_slice_str (by omega))) (p_eq_str.trans ?_)) evs_nil) p_int
      rw [sl_from (k := k) (by omega), sl_to (k := part.length - k) (by omega)]
    · simp; omega
    · simp [cFit]
    refine wx_step (e1_own (d := .list ([].map .int)) (by decide +kernel) (ev_list evs_nil (by simp)) rfl (by decide +kernel)) ?_
    -- made
    refine wx_mid (fun ρ own => List.lookup ("parts" : Str) ρ = some (.list ((tok w).map Sx)) ∧ List.lookup ("made" : Str) ρ = some (.list ((cStep row part).map .int)))
      (wi_for (g := fun (i : Nat) => PyData.int (0 + i)) (List.range 6) (fun ys ρ own => own = some ("made" : Str) ∧ List.lookup ("parts" : Str) ρ = some (.list ((tok w).map Sx)) ∧ List.lookup ("row" : Str) ρ = some (.list (row.map .int)) ∧ List.lookup ("many" : Str) ρ = some (.int part.length) ∧ List.lookup ("fit" : Str) ρ = some (.list ((cFit part).map .int)) ∧
        ∃ j, ys = (List.range 6).drop j ∧ j ≤ 6 ∧ List.lookup ("made" : Str) ρ = some (.list ((cMk row part j).map .int)))
        (it_range1 (k := 6) (by decide +kernel) (evs_cons rfl (ev_const rfl) evs_nil) rfl (by decide)) rfl ⟨rfl, (by repeat (first | refine lk_free (by decide +kernel) ?_ | refine lk_drop (by decide +kernel) ?_ | refine lk_next (by decide +kernel) ?_ | exact lk_here | assumption)), (by repeat (first | refine lk_free (by decide +kernel) ?_ | refine lk_drop (by decide +kernel) ?_ | refine lk_next (by decide +kernel) ?_ | exact lk_here | assumption)), (by repeat (first | refine lk_free (by decide +kernel) ?_ | refine lk_drop (by decide +kernel) ?_ | refine lk_next (by decide +kernel) ?_ | exact lk_here | assumption)), (by repeat (first | refine lk_free (by decide +kernel) ?_ | refine lk_drop (by decide +kernel) ?_ | refine lk_next (by decide +kernel) ?_ | exact lk_here | assumption)), 0, rfl, by decide, (by repeat (first | refine lk_free (by decide +kernel) ?_ | refine lk_drop (by decide +kernel) ?_ | refine lk_next (by decide +kernel) ?_ | exact lk_here | assumption))⟩ ?_ ?_) ?_
    · rintro y ys ρ own ⟨rfl, j1, j2, j3, j4, j, j5, j6, j7⟩
      have hj : j < 6 := by
        rcases Nat.lt_or_ge j 6 with q | q
        · exact q
        · rw [List.drop_eq_nil_of_le (by simpa using q)] at j5; cases j5
      have hyj : y = j ∧ ys = (List.range 6).drop (j + 1) := by
        rw [List.drop_eq_getElem_cons (by simpa using hj)] at j5
        injection j5 with e1 e2
        exact ⟨by rw [e1]; simp, e2⟩
      obtain ⟨rfl, hys⟩ := hyj
      have hmk := mk_len row part y
      have hmsm : ∀ x ∈ cMk row part y, small x = true := fun x hx => hnext x (mk_sub row part (by omega) x hx)
      refine ⟨rfl, _, bind_name (by decide +kernel), ?_⟩
      refine wx_step (e1_scal (d := .int (cAhead row part.length y)) (by decide +kernel) ((ev_if (g := Nat.ble part.length y) (x := .int (row.getD (y - part.length) 0)) (y := .int 0) (ts_cmp rfl (ev_name (by decide +kernel) (by repeat (first | refine lk_free (by decide +kernel) ?_ | refine lk_drop (by decide +kernel) ?_ | refine lk_next (by decide +kernel) ?_ | exact lk_here | assumption))) (ev_name (by decide +kernel) (by repeat (first | refine lk_free (by decide +kernel) ?_ | refine lk_drop (by decide +kernel) ?_ | refine lk_next (by decide +kernel) ?_ | exact lk_here | assumption))) (p_ge_int.trans ?_)) (fun hb => ?_) (fun hb => (ev_const rfl))).trans ?_) rfl) ?_
      · congr 1
        rw [Bool.eq_iff_iff, decide_eq_true_eq]
        exact ⟨fun h => Nat.ble_eq_true_of_le (by omega), fun h => by have := Nat.le_of_ble_eq_true h; omega⟩
      · have := Nat.le_of_ble_eq_true hb
        exact ev_item rfl (ev_name (by decide +kernel) (by repeat (first | refine lk_free (by decide +kernel) ?_ | refine lk_drop (by decide +kernel) ?_ | refine lk_next (by decide +kernel) ?_ | exact lk_here | assumption))) (ev_bin (ev_name (by decide +kernel) (by repeat (first | refine lk_free (by decide +kernel) ?_ | refine lk_drop (by decide +kernel) ?_ | refine lk_next (by decide +kernel) ?_ | exact lk_here | assumption))) (ev_name (by decide +kernel) (by repeat (first | refine lk_free (by decide +kernel) ?_ | refine lk_drop (by decide +kernel) ?_ | refine lk_next (by decide +kernel) ?_ | exact lk_here | assumption))) p_sub_int) (p_item_nat (i := y - part.length) (by omega) (by omega) (enc_get (by omega)))
      · unfold cAhead; split <;> rfl
      refine wx_step (e1_append (d := .int (cVal row part (cMk row part y) y)) (by rfl) (ev_bin (ev_name (by decide +kernel) (by repeat (first | refine lk_free (by decide +kernel) ?_ | refine lk_drop (by decide +kernel) ?_ | refine lk_next (by decide +kernel) ?_ | exact lk_here | assumption))) (ev_blt (by decide +kernel) (evs_cons (d := .list (((List.range y).map fun i => cCoef part i * (cMk row part y).getD (y - (i + 1)) 0).map .int)) rfl ?_ evs_nil) (p_sum_int (by simp; omega))) p_sub_int) rfl (by repeat (first | refine lk_free (by decide +kernel) ?_ | refine lk_drop (by decide +kernel) ?_ | refine lk_next (by decide +kernel) ?_ | exact lk_here | assumption)) (by simp [hmk]; omega)) ?_
      · refine (ev_comp (comp_one (by decide +kernel) rfl (it_range2 (by decide +kernel) (evs_cons rfl (ev_const rfl) (evs_cons rfl (ev_bin (ev_name (by decide +kernel) (by repeat (first | refine lk_free (by decide +kernel) ?_ | refine lk_drop (by decide +kernel) ?_ | refine lk_next (by decide +kernel) ?_ | exact lk_here | assumption))) (ev_const rfl) p_add_int) evs_nil)) rfl (by simp [small]; omega) (by omega)) (comp_map (g := fun (i : Nat) => PyData.int (1 + i)) (f := fun (i : Nat) => PyData.int (cCoef part i * (cMk row part y).getD (y - (i + 1)) 0)) (new_free (by decide +kernel)) (fun i hi => ?_)))).trans ?_
        · simp only [List.mem_range] at hi
          have hfl := fit_len part
          refine ev_bin (ev_bin (ev_bin (ev_item rfl (ev_name (by decide +kernel) (by repeat (first | refine lk_free (by decide +kernel) ?_ | refine lk_drop (by decide +kernel) ?_ | refine lk_next (by decide +kernel) ?_ | exact lk_here | assumption))) (ev_name (by decide +kernel) (by repeat (first | refine lk_free (by decide +kernel) ?_ | refine lk_drop (by decide +kernel) ?_ | refine lk_next (by decide +kernel) ?_ | exact lk_here | assumption))) (p_item_nat (i := i + 1) (d := .int ((cFit part).getD (i + 1) 0)) (by omega) (by omega) (enc_get (by omega)))) (ev_bin (ev_const rfl) (ev_item rfl (ev_name (by decide +kernel) (by repeat (first | refine lk_free (by decide +kernel) ?_ | refine lk_drop (by decide +kernel) ?_ | refine lk_next (by decide +kernel) ?_ | exact lk_here | assumption))) (ev_bin (ev_name (by decide +kernel) (by repeat (first | refine lk_free (by decide +kernel) ?_ | refine lk_drop (by decide +kernel) ?_ | refine lk_next (by decide +kernel) ?_ | exact lk_here | assumption))) (ev_const rfl) p_sub_int) (p_item_nat (i := i) (d := .int ((cFit part).getD i 0)) (by omega) (by omega) (enc_get (by omega)))) (p_mul_int rfl ?_)) p_sub_int) (ev_blt (by decide +kernel) (evs_cons rfl (ev_cmp rfl (ev_name (by decide +kernel) (by repeat (first | refine lk_free (by decide +kernel) ?_ | refine lk_drop (by decide +kernel) ?_ | refine lk_next (by decide +kernel) ?_ | exact lk_here | assumption))) (ev_name (by decide +kernel) (by repeat (first | refine lk_free (by decide +kernel) ?_ | refine lk_drop (by decide +kernel) ?_ | refine lk_next (by decide +kernel) ?_ | exact lk_here | assumption))) p_eq_int) evs_nil) p_int) p_add_int)
            (ev_item rfl (ev_name (by decide +kernel) (by repeat (first | refine lk_free (by decide +kernel) ?_ | refine lk_drop (by decide +kernel) ?_ | refine lk_next (by decide +kernel) ?_ | exact lk_here | assumption))) (ev_bin (ev_name (by decide +kernel) (by repeat (first | refine lk_free (by decide +kernel) ?_ | refine lk_drop (by decide +kernel) ?_ | refine lk_next (by decide +kernel) ?_ | exact lk_here | assumption))) (ev_name (by decide +kernel) (by repeat (first | refine lk_free (by decide +kernel) ?_ | refine lk_drop (by decide +kernel) ?_ | refine lk_next (by decide +kernel) ?_ | exact lk_here | assumption))) p_sub_int) (p_item_nat (i := y - (i + 1)) (d := .int ((cMk row part y).getD (y - (i + 1)) 0)) (by omega) (by omega) (enc_get (by omega)))) (p_mul_int (a := cCoef part i) (coef_small part i) (small_getD hmsm _))
          rcases fit_01 part i with h | h <;> rw [h] <;> decide
        · rw [show ((0 : Int) + (y : Int) + 1 - 1).toNat = y by omega, List.map_map]; rfl
      refine wx_nil ⟨rfl, (by repeat (first | refine lk_free (by decide +kernel) ?_ | refine lk_drop (by decide +kernel) ?_ | refine lk_next (by decide +kernel) ?_ | exact lk_here | assumption)), (by repeat (first | refine lk_free (by decide +kernel) ?_ | refine lk_drop (by decide +kernel) ?_ | refine lk_next (by decide +kernel) ?_ | exact lk_here | assumption)), (by repeat (first | refine lk_free (by decide +kernel) ?_ | refine lk_drop (by decide +kernel) ?_ | refine lk_next (by decide +kernel) ?_ | exact lk_here | assumption)), (by repeat (first | refine lk_free (by decide +kernel) ?_ | refine lk_drop (by decide +kernel) ?_ | refine lk_next (by decide +kernel) ?_ | exact lk_here | assumption)), y + 1, hys, by omega, ?_⟩
      rw [lk_here]
      simp [cMk]
    · rintro ρ own ⟨rfl, j1, j2, j3, j4, j, j5, j6, j7⟩
      have : j = 6 := by
        have := congrArg List.length j5
        simp at this; omega
      subst this
      exact ⟨j1, j7⟩
    rintro ρ own ⟨q1, q2⟩
    refine wx_step (e1_let (by decide +kernel) (ev_name (by decide +kernel) (by repeat (first | refine lk_free (by decide +kernel) ?_ | refine lk_drop (by decide +kernel) ?_ | refine lk_next (by decide +kernel) ?_ | exact lk_here | assumption))) rfl (by decide +kernel)) (wx_nil ⟨rfl, (by repeat (first | refine lk_free (by decide +kernel) ?_ | refine lk_drop (by decide +kernel) ?_ | refine lk_next (by decide +kernel) ?_ | exact lk_here | assumption)), fun p hp => k2 p (List.mem_cons_of_mem _ hp), cStep row part, (by repeat (first | refine lk_free (by decide +kernel) ?_ | refine lk_drop (by decide +kernel) ?_ | refine lk_next (by decide +kernel) ?_ | exact lk_here | assumption)), mk_len row part 6, k5.2, ?_⟩)
    rw [← k6]; rfl
  · rintro ρ own ⟨rfl, k1, k2, row, k3, k4, k5, k6⟩
    have k6 : row = _ := k6
    rw [← k6]
    exact ⟨k1, k3, k4⟩
  rintro ρ own ⟨k1, k3, k4⟩
  generalize hrow : (cMids w).foldl cStep cInit = row at *
  have hhead : (tok w)[0]? = some ((tok w).headD []) := by cases h : tok w with
    | nil => exact absurd h hne
    | cons a b => rfl
  have hlast : (tok w).getLast? = some ((tok w).getLastD []) := by
    rw [List.getLast?_eq_some_getLast hne]; simp [List.getLastD_eq_getLast?, List.getLast?_eq_some_getLast hne]
  have hh : ((tok w).headD []).length ≤ 100 := hlens _ (List.mem_of_getElem? hhead)
  have hl : ((tok w).getLastD []).length ≤ 100 := hlens _ (List.mem_of_getLast? hlast)
  have hcn : counts w lt = sl none (some 6) (List.replicate ((tok w).headD [] ++ (tok w).getLastD []).length 0 ++ row) := by unfold counts; rw [hbad, hrow]; rfl
  generalize (tok w).headD [] = p0 at *
  generalize (tok w).getLastD [] = pl at *
  have hpp : (p0 ++ pl).length ≤ 200 := by simp; omega
  refine wx_ret (e1_ret (ev_slice (x := .list ((List.replicate (p0 ++ pl).length 0 ++ row).map .int)) ?_ eo_none (eo_some (ev_const rfl) rfl) eo_none (p_slice_ints (by rw [List.length_append, List.length_replicate]; omega)))) (ret_ok ?_)
  · refine (ev_bin (ev_bin (ev_list (evs_cons rfl (ev_const rfl) evs_nil) (by simp)) (ev_blt (by decide +kernel) (evs_cons rfl (ev_bin (ev_item rfl (ev_name (by decide +kernel) (by repeat (first | refine lk_free (by decide +kernel) ?_ | refine lk_drop (by decide +kernel) ?_ | refine lk_next (by decide +kernel) ?_ | exact lk_here | assumption))) (ev_const rfl) (p_item_nat (i := 0) (d := Sx p0) rfl (by decide) (by rw [List.getElem?_map, hhead]; rfl))) (ev_item rfl (ev_name (by decide +kernel) (by repeat (first | refine lk_free (by decide +kernel) ?_ | refine lk_drop (by decide +kernel) ?_ | refine lk_next (by decide +kernel) ?_ | exact lk_here | assumption))) (ev_neg (ev_const rfl)) (p_item_last (d := Sx pl) (by rw [List.getLast?_map, hlast]; rfl))) (p_add_str (by omega))) evs_nil) (p_len_str (by omega))) (p_rep (by omega) (by simp))) (ev_name (by decide +kernel) (by repeat (first | refine lk_free (by decide +kernel) ?_ | refine lk_drop (by decide +kernel) ?_ | refine lk_next (by decide +kernel) ?_ | exact lk_here | assumption))) (p_add_list ?_)).trans ?_
    · simp at hpp ⊢; omega
    · simp
  · rw [hcn]
theorem counts_ge {m : Nat} (hm : 60 ≤ m) (w lt : List Nat) (hw : w.length ≤ 100) (hc : ∀ c ∈ w, c < 1000) (hs : (cBad w lt || cSafe (cMids w) cInit) = true) : (R m).cl "_law_counts" [Sx w, Sx lt] = some (.list ((counts w lt).map .int)) := by
  obtain ⟨n, rfl⟩ : ∃ n, m = n + 60 := ⟨m - 60, by omega⟩
  exact counts_ok n w lt hw hc hs
theorem taken_ge {m : Nat} (hm : 60 ≤ m) (w : List Nat) (T : List (List (List Nat))) (hw : w.length ≤ 100) (hT : TOk T) : (R m).cl "_law_taken" [Sx w, .list (T.map Tl)] = some (.list ((taken w T).map Bl)) := by
  obtain ⟨n, rfl⟩ : ∃ n, m = n + 60 := ⟨m - 60, by omega⟩
  exact taken_ok n w T hw hT
end Mine
end

section
set_option maxRecDepth 100000
set_option linter.unusedVariables false
namespace Mine
open PySem

/-! what the law itself makes, in plain lists -/
noncomputable def lts : List (List Nat) := [[46, 97], [97, 98], [67, 46], [10, 67]]
noncomputable def frs : List (Option (List Nat)) := [none, some []]
noncomputable def nCuts (tx : List Nat) (ss : List Int) : List Int := [(0 : Int)] ++ (ss.reverse.filter fun k => decide (k < (tx.length : Int))).map (fun k => (tx.length : Int) - k) ++ [(tx.length : Int)]
noncomputable def nGroups (tx : List Nat) (cuts : List Int) : List (List Nat) := (List.range (cuts.length - 1)).map fun k => sl (some (cuts.getD k 0)) (some (cuts.getD (k + 1) 0)) tx
noncomputable def nName (gs : List (List Nat)) : List Nat := gs.dropLast.reverse.foldl (fun nm g => bl (some g) (some ([46, 46] ++ nm))) (bl (some (gs.getLastD [])) none)
noncomputable def nWide (fr : Option (List Nat)) (nm : List Nat) : List Nat := bl (some (bl fr (some ([46, 46] ++ nm)))) (some [46, 46])
noncomputable def nNext (lt : List Nat) (l : List (List Nat)) : List (List Nat) := l.flatMap fun one => lt.map fun s => one ++ [s]
noncomputable def nTexts (lt : List Nat) : Nat → List (List (List Nat))
  | 0 => [[[]]]
  | k + 1 => nTexts lt k ++ [nNext lt ((nTexts lt k).getD k [])]
noncomputable def nFlat (gs : List (List Nat)) : List Nat := joinN [46, 46, 46] gs
/-- the names are the groups with three dots between -/
noncomputable def okNames (fr : Option (List Nat)) (gs : List (List Nat)) : Bool :=
  nName gs == nFlat gs && nWide fr (nName gs) == (if fr.isNone then [67] else []) ++ [46, 46, 46] ++ nFlat gs ++ [46, 46, 46]
/-- the first name, as a pattern -/
noncomputable def okFirst (lt nm : List Nat) : Bool := ((nTexts lt 4).map fun l => l.map (em nm)) == taken nm (nTexts lt 4)
/-- the second name, as a pattern -/
noncomputable def okSecond (lt wd : List Nat) : Bool := (cBad wd lt || cSafe (cMids wd) cInit) && (((nTexts lt 5).map fun l => countT (l.map (em wd))) == counts wd lt && em wd (joinN [] (tok wd)))
noncomputable def okBody (lt : List Nat) (fr : Option (List Nat)) (gs : List (List Nat)) : Bool := okNames fr gs && okSecond lt (nWide fr (nName gs))
noncomputable def subs3 : List (List Int) := [[], [1], [2], [3], [1, 2], [1, 3], [2, 3], [1, 2, 3]]
end Mine
end

section
set_option maxRecDepth 100000
set_option linter.unusedVariables false
set_option maxHeartbeats 8000000
namespace Mine
open PySem

theorem build_list {m : Nat} (hm : 21 ≤ m) (x y : Option (List Nat)) (hx : ∀ l, x = some l → l.length ≤ 400) (hy : ∀ l, y = some l → l.length ≤ 400) : (R m).cl "_build_localename" [.list [onD x, onD y]] = some (Sx (bl x y)) := by
  obtain ⟨n, rfl⟩ : ∃ n, m = n + 20 := ⟨m - 20, by omega⟩
  refine cl_ev (by decide) (by decide) rfl rfl ?_
  show Ev ((R (n + 19)).ex _ ⟨[("localetuple", .list [onD x, onD y])], none⟩ _) _
  refine wx_mid (fun _ _ => False) (wi_try ?_) (fun _ _ h => h.elim)
  refine wx_step (e1_pair (by decide +kernel) (.inr (ev_name (by decide +kernel) (by repeat (first | refine lk_free (by decide +kernel) ?_ | refine lk_drop (by decide +kernel) ?_ | refine lk_next (by decide +kernel) ?_ | exact lk_here | assumption)))) (by rw [on_scal, on_scal]; rfl)) ?_
  have hxl : (x.getD [67]).length ≤ 400 := by
    cases x with
    | none => simp
    | some l => exact hx l rfl
  refine wx_mid (fun ρ own => List.lookup ("language" : Str) ρ = some (Sx (x.getD [67])) ∧ List.lookup ("encoding" : Str) ρ = some (onD y))
    (wi_if (ts_cmp rfl (ev_name (by decide +kernel) (by repeat (first | refine lk_free (by decide +kernel) ?_ | refine lk_drop (by decide +kernel) ?_ | refine lk_next (by decide +kernel) ?_ | exact lk_here | assumption))) (ev_const rfl) (p_is_none x)) (fun hb => ?_) (fun hb => ?_)) ?_
  · cases x with
    | some l => cases hb
    | none => exact wx_step (e1_scal (by decide +kernel) (ev_const (cs (l := [67]) (by decide +kernel) (by decide +kernel))) rfl) (wx_nil ⟨(by repeat (first | refine lk_free (by decide +kernel) ?_ | refine lk_drop (by decide +kernel) ?_ | refine lk_next (by decide +kernel) ?_ | exact lk_here | assumption)), (by repeat (first | refine lk_free (by decide +kernel) ?_ | refine lk_drop (by decide +kernel) ?_ | refine lk_next (by decide +kernel) ?_ | exact lk_here | assumption))⟩)
  · cases x with
    | none => cases hb
    | some l => exact wx_nil ⟨(by repeat (first | refine lk_free (by decide +kernel) ?_ | refine lk_drop (by decide +kernel) ?_ | refine lk_next (by decide +kernel) ?_ | exact lk_here | assumption)), (by repeat (first | refine lk_free (by decide +kernel) ?_ | refine lk_drop (by decide +kernel) ?_ | refine lk_next (by decide +kernel) ?_ | exact lk_here | assumption))⟩
  rintro ρ own ⟨h1, h2⟩
  refine wx_mid (fun _ _ => False) (wi_if (ts_cmp rfl (ev_name (by decide +kernel) (by repeat (first | refine lk_free (by decide +kernel) ?_ | refine lk_drop (by decide +kernel) ?_ | refine lk_next (by decide +kernel) ?_ | exact lk_here | assumption))) (ev_const rfl) (p_is_none y)) (fun hb => ?_) (fun hb => ?_)) (fun _ _ h => h.elim)
  · cases y with
    | some l => cases hb
    | none => exact wx_ret (e1_ret (ev_name (by decide +kernel) (by repeat (first | refine lk_free (by decide +kernel) ?_ | refine lk_drop (by decide +kernel) ?_ | refine lk_next (by decide +kernel) ?_ | exact lk_here | assumption)))) (ret_ok rfl)
  · cases y with
    | none => cases hb
    | some e =>
      have he := hy e rfl
      exact wx_ret (e1_ret (ev_bin (ev_bin (ev_name (by decide +kernel) (by repeat (first | refine lk_free (by decide +kernel) ?_ | refine lk_drop (by decide +kernel) ?_ | refine lk_next (by decide +kernel) ?_ | exact lk_here | assumption))) (ev_const (cs (l := [46]) (by decide +kernel) (by decide +kernel))) (p_add_str (by simp; omega))) (ev_name (by decide +kernel) h2) (p_add_str (by simp; omega)))) (ret_ok rfl)

section
variable {r : Rec} {sc : Scope} {σ σ' : Stt} {rest ret : List Stmt} {f z : Str} {c e2 : Expr} {p1 p2 p3 p4 p5 p6 : Pos} {xs : List D} {u : Str} {is : List Int} {d : D}
theorem lr_ok (hf : (decide (f = "_law_refusal") && isGlob sc f && isVar sc z && !(isSetE c)) = true) (hx : List.lookup z σ.rho = some (.list xs)) (hc : r.ev sc σ.rho c = some (.str u)) (hi : asInts xs = some is)
    (hb : (decide (is.length ≤ 10) && is.all small && refusal is == u) = true) (h2 : r.ts sc σ.rho e2 = some false) (h3 : Ev (r.ex sc σ rest) (fun res => ∃ σ, res = (.ret d, σ))) :
    lawRest r sc σ (.If (.BoolOp .Or [.Compare (.Call (.Name f p1) [.Name z p2] [] p3) [.NotEq] [c] p4, e2] p5) ret [] p6 :: rest) = some d := by
  obtain ⟨_, h3, σ1, rfl⟩ := h3
  show (if lawMid r sc σ f z c e2 = true then match r.ex sc σ rest with
      | some (.ret d, _) => some d
      | _ => none
    else none) = some d
  have hm : lawMid r sc σ f z c e2 = true := by
    unfold lawMid
    rw [hf, hx]
    dsimp only
    rw [hi]
    dsimp only
    rw [hc, h2]
    dsimp only
    rw [hb]
    rfl
  rw [if_pos hm, h3]
theorem lf_ok {script : D} {ps : List Str} {body : List Stmt} (hd : defOf "law" = some (ps, sc, body)) (h : Ev (r.ex sc ⟨(ps.zip [script]).reverse, none⟩ (body.take lawAt)) (fun res => ∃ σ, res = (.next, σ) ∧ lawRest r sc σ (body.drop lawAt) = some d)) : lawF r script = some d := by
  obtain ⟨_, h1, σ1, rfl, h2⟩ := h
  unfold lawF
  simp only [hd, Option.bind_eq_bind, Option.bind_some, h1, h2]
end

theorem comp_mapT {α : Type} {r : Rec} {sc : Scope} {ρ : Rho} {own : Str → Bool} {a b : Str} {k : Nat} {p1 p2 p3 : Pos} {elt : Expr} {g1 g2 f : α → D} (ho : (newIn own ρ a && newIn own ρ b) = true) : ∀ {xs : List α}, (∀ w ∈ xs, r.ev sc ((b, g2 w) :: (a, g1 w) :: ρ) elt = some (f w)) →
    comp1 r own sc ρ (.Tuple [.Name a p1, .Name b p2] k p3) [] elt (xs.map fun w => .tuple [g1 w, g2 w]) = some (xs.map f)
  | [], _ => rfl
  | w :: xs, h => by
    simp only [List.map_cons, comp1, bindT_pair, ho, if_true, tsAll, h w List.mem_cons_self, Option.bind_eq_bind, Option.bind_some]
    rw [comp_mapT ho fun u hu => h u (List.mem_cons_of_mem _ hu)]
    rfl
theorem p_slice5 {l : List Int} {j : Nat} (hl : l.length ≤ 1000) : ∃ m : List Int, m.length ≤ 1000 ∧ pslice (.list (l.map .int)) (some (j : Int)) (some 60) (some 5) = some (.list (m.map .int)) := by
  refine ⟨(cutAt (some (j : Int)) (some 60) (some 5) l.length).filterMap (l[·]?), ?_, ?_⟩
  · refine Nat.le_trans (List.length_filterMap_le _ _) ?_
    unfold cutAt sliceBounds sliceRange
    simp only [Option.getD_some, show (5 : Int) > 0 by decide, if_true, List.length_map, List.length_range]
    split
    · rename_i h
      omega
    · omega
  · unfold pslice
    rw [if_neg (by decide)]
    simp only []
    rw [if_pos (by simpa using hl), List.length_map]
    congr 2
    rw [List.map_filterMap]
    congr 1
    funext i
    simp
theorem fmod_lt {a b : Int} (hb : 0 < b) : 0 ≤ a.fmod b ∧ a.fmod b < b := ⟨Int.fmod_nonneg_of_pos a hb, Int.fmod_lt_of_pos a hb⟩
theorem p_fdivI {a b : Int} (h0 : small a = true) (hb : 0 < b) (hb2 : b < 1000) : pbin .FloorDiv (.int a) (.int b) = some (.int (a.fdiv b)) := by
  rw [b_fdiv, if_pos (by simp [h0]; omega)]
end Mine
end

section
set_option maxRecDepth 100000
set_option linter.unusedVariables false
set_option maxHeartbeats 16000000
namespace Mine
open PySem

noncomputable def nPos (rw : List Int) : List Int := ((List.range rw.length).filter fun k => !(rw.getD k 0 == 0)).map (fun (k : Nat) => (0 : Int) + k) ++ [(rw.length : Int)]
noncomputable def nRuler (rw : List Int) : List Int := sl (some (minI (nPos rw))) none rw
/-- a row, and the sums that its ruler has -/
structure RowOk (rw ss : List Int) : Prop where
  len : rw.length ≤ 6
  sm : rw.all small = true
  pos : small (minI (nPos rw)) = true
  sums : (gis none 6 (nRuler rw)).map (sumsFrom 0) = some ss
  mpos : small (minI (mPos (nRuler rw))) = true
  mtst : mTest (nRuler rw) = true → mSizes (nRuler rw) ≠ []
  same : (ss == marks (nRuler rw)) = true
  small : ∀ k ∈ ss, 0 ≤ k ∧ k < 1000
structure BodyOk (lt : List Nat) (fr : Option (List Nat)) (gs : List (List Nat)) : Prop where
  names : okNames fr gs = true
  first : okFirst lt (nName gs) = true
  second : okSecond lt (nWide fr (nName gs)) = true
  chr : ∀ c ∈ nWide fr (nName gs), c < 1000
  chr1 : ∀ c ∈ nName gs, c < 1000

theorem rowfacts {rw : List Int} : (sl none (some 1) rw == [0]) = decide (rw.head? = some 0) := by
  have e : sl none (some 1) rw = rw.take 1 := sl_to (k := 1) rfl rw
  rw [e]
  cases rw with
  | nil => rfl
  | cons x r =>
    rw [Bool.eq_iff_iff]; simp
theorem ss_len {is ss : List Int} (h : (gis none 6 is).map (sumsFrom 0) = some ss) : ss.length ≤ 6 := by
  have key : ∀ (k : Nat) (last : Option Int) (xs ys : List Int), gis last k xs = some ys → ys.length ≤ k := by
    intro k
    induction k with
    | zero => intro last xs ys h; simp [gis] at h; subst h; simp
    | succ k ih =>
      intro last xs ys h
      cases xs with
      | nil => simp [gis] at h; subst h; simp
      | cons x xs =>
        simp only [gis] at h
        split at h
        · cases h; simp
        · split at h
          · obtain ⟨l, _, rfl⟩ := Option.map_eq_some_iff.mp h; simp
          · obtain ⟨l, h1, rfl⟩ := Option.map_eq_some_iff.mp h
            have := ih _ _ _ h1
            simp; omega
  have slen : ∀ (l : List Int) (a : Int), (sumsFrom a l).length = l.length := by
    intro l
    induction l with
    | nil => intro a; rfl
    | cons x r ih => intro a; simp only [sumsFrom, List.length_cons, ih]
  obtain ⟨ys, h1, rfl⟩ := Option.map_eq_some_iff.mp h
  rw [slen]; exact key 6 _ _ _ h1
theorem sums_cl {m : Nat} {is ss : List Int} (hl : is.length ≤ 10) (hs : is.all small = true) (h : (gis none 6 is).map (sumsFrom 0) = some ss) : (R (m + 1)).cl "_law_sums" [.list (is.map .int)] = some (.list (ss.map .int)) := by
  rw [R_cl]; unfold clF
  rw [if_pos (by decide)]
  unfold pprim
  rw [if_pos rfl]
  simp only [asI_map]
  rw [if_pos (by simp [hl, hs])]
  obtain ⟨ys, h1, rfl⟩ := Option.map_eq_some_iff.mp h
  rw [h1]; rfl
theorem p_len_lt {a b : Int} : pcmp .Lt (.int a) (.int b) = some (decide (a < b)) := rfl
theorem p_neq_int {a b : Int} : pcmp .NotEq (.int a) (.int b) = some (a != b) := rfl
theorem eqv_Bl (a b : List Bool) : PyData.eqv (Bl a) (Bl b) = (a == b) := by
  show PyData.eqvAll _ _ = _
  exact eqv_map (fun a b => by simp [PyData.eqv]) a b
theorem lay_Bl (a : List Bool) : PyData.canLay0 (Bl a) = true := by
  show PyData.canLayAll0 _ = true
  exact lay_map fun _ _ => by simp [PyData.canLay0]
theorem dep_Bl (a : List Bool) : PyData.depth (Bl a) ≤ 8 := by
  have := dep_map (f := PyData.bool) (k := 0) (xs := a) fun _ _ => by simp [PyData.depth]
  show PyData.depthAll _ + 1 ≤ 8
  omega
theorem p_ne_strs {xs ys : List (List Nat)} (h1 : ∀ a ∈ xs, ∀ c ∈ a, c < 1000) (h2 : ∀ a ∈ ys, ∀ c ∈ a, c < 1000) : pcmp .NotEq (.list (xs.map Sx)) (.list (ys.map Sx)) = some (!(xs == ys)) := by
  have key : ∀ a : List Nat, (∀ c ∈ a, c < 1000) → PyData.canLay0 (Sx a) = true := by
    intro a h
    simp only [PyData.canLay0, PyData.strOk]
    rw [← Array.all_toList]
    simp only [List.all_eq_true, decide_eq_true_eq]
    intro c hc
    have := h c (by simpa using hc)
    omega
  exact p_ne_list (fun a b => by simp only [PyData.eqv]; exact st_beq a b) (fun a ha => key a (h1 a ha)) (fun a ha => key a (h2 a ha)) fun a _ => by simp [PyData.depth]

theorem name_len (gs : List (List Nat)) (hg : ∀ g ∈ gs, g.length ≤ 4) (hl : gs.length ≤ 7) : (nName gs).length ≤ 60 := by
  have key : ∀ (l : List (List Nat)) (nm : List Nat), (∀ g ∈ l, g.length ≤ 4) → (l.foldl (fun nm g => bl (some g) (some ([46, 46] ++ nm))) nm).length ≤ nm.length + 7 * l.length := by
    intro l
    induction l with
    | nil => intro nm _; simp
    | cons g l ih =>
      intro nm h
      have h1 := h g List.mem_cons_self
      have := ih (bl (some g) (some ([46, 46] ++ nm))) fun x hx => h x (List.mem_cons_of_mem _ hx)
      rw [List.foldl_cons]
      simp only [bl, Option.getD_some, List.length_append, List.length_cons, List.length_nil] at this ⊢
      omega
  have h0 : (bl (some (gs.getLastD [])) none).length ≤ 4 := by
    show (gs.getLastD []).length ≤ 4
    cases h : gs.getLast? with
    | none => simp [List.getLastD_eq_getLast?, h]
    | some x => simp [List.getLastD_eq_getLast?, h]; exact hg x (List.mem_of_getLast? h)
  have := key gs.dropLast.reverse (bl (some (gs.getLastD [])) none) fun g h => hg g (List.dropLast_subset _ (List.mem_reverse.mp h))
  unfold nName
  rw [List.length_reverse, List.length_dropLast] at this
  omega
theorem texts_len (a b : Nat) : ∀ j, j ≤ 5 → (nTexts [a, b] j).length = j + 1
  | 0, _ => rfl
  | k + 1, h => by simp [nTexts, texts_len a b k (by omega)]
theorem texts_row (a b : Nat) : ∀ n, n < 6 → ((nTexts [a, b] 5).getD n []).length = 2 ^ n := by
  intro n hn
  have : n = 0 ∨ n = 1 ∨ n = 2 ∨ n = 3 ∨ n = 4 ∨ n = 5 := by omega
  rcases this with rfl | rfl | rfl | rfl | rfl | rfl <;> rfl
theorem texts_all (a b : Nat) : ((nTexts [a, b] 5).all fun l => l.all fun t => Nat.ble t.length 5) = true := rfl
theorem texts_four (a b : Nat) : sl none (some 5) (nTexts [a, b] 5) = nTexts [a, b] 4 := rfl
theorem texts_pre (a b : Nat) : ∀ j, j ≤ 5 → ∀ n, n ≤ j → (nTexts [a, b] j).getD n [] = (nTexts [a, b] 5).getD n [] := by
  intro j hj n hn
  have hj6 : j = 0 ∨ j = 1 ∨ j = 2 ∨ j = 3 ∨ j = 4 ∨ j = 5 := by omega
  have hn6 : n = 0 ∨ n = 1 ∨ n = 2 ∨ n = 3 ∨ n = 4 ∨ n = 5 := by omega
  rcases hj6 with rfl | rfl | rfl | rfl | rfl | rfl <;> rcases hn6 with rfl | rfl | rfl | rfl | rfl | rfl <;> first | rfl | omega
theorem texts_short (a b n : Nat) (t : List Nat) (h : t ∈ (nTexts [a, b] 5).getD n []) : t.length ≤ 5 := by
  have := texts_all a b
  rw [List.all_eq_true] at this
  by_cases hn : n < (nTexts [a, b] 5).length
  · have e : (nTexts [a, b] 5).getD n [] = (nTexts [a, b] 5)[n] := by simp [List.getD_eq_getElem?_getD, hn]
    rw [e] at h
    have h1 := this _ (List.getElem_mem hn)
    rw [List.all_eq_true] at h1
    exact Nat.le_of_ble_eq_true (h1 t h)
  · rw [show (nTexts [a, b] 5).getD n [] = [] by simp [List.getD_eq_getElem?_getD, List.getElem?_eq_none (by omega : (nTexts [a, b] 5).length ≤ n)]] at h
    cases h
theorem texts_ok (a b : Nat) : TOk (nTexts [a, b] 4) := by
  refine ⟨by rw [texts_len a b 4 (by decide)]; decide, fun n hn => ?_, fun n k => ?_⟩
  · rw [texts_len a b 4 (by decide)] at hn
    rw [texts_pre a b 4 (by decide) n (by omega)]
    exact texts_row a b n (by omega)
  · unfold gT
    by_cases hn : n ≤ 4
    · rw [texts_pre a b 4 (by decide) n hn]
      by_cases hk : k < ((nTexts [a, b] 5).getD n []).length
      · have e : ((nTexts [a, b] 5).getD n []).getD k [] = ((nTexts [a, b] 5).getD n [])[k] := by rw [List.getD_eq_getElem?_getD, List.getElem?_eq_getElem hk]; rfl
        rw [e]
        have := texts_short a b n _ (List.getElem_mem hk)
        omega
      · rw [List.getD_eq_getElem?_getD, List.getElem?_eq_none (by omega)]; simp
    · rw [show (nTexts [a, b] 4).getD n [] = [] by rw [List.getD_eq_getElem?_getD, List.getElem?_eq_none (by rw [texts_len a b 4 (by decide)]; omega)]; rfl]
      simp
end Mine
end

section
set_option maxRecDepth 100000
set_option linter.unusedVariables false
set_option maxHeartbeats 16000000
namespace Mine
open PySem

theorem texts_mem (a b : Nat) {j : Nat} (hj : j ≤ 5) : ∀ l ∈ nTexts [a, b] j, l.length ≤ 32 ∧ ∀ t ∈ l, t.length ≤ 100 := by
  intro l hl
  obtain ⟨i, hi⟩ := List.mem_iff_getElem?.mp hl
  have hlt : i < j + 1 := by
    rw [← texts_len a b j hj]
    exact (List.getElem?_eq_some_iff.mp hi).1
  have e : l = (nTexts [a, b] 5).getD i [] := by
    rw [← texts_pre a b j hj i (by omega), List.getD_eq_getElem?_getD, hi]; rfl
  rw [e]
  refine ⟨by rw [texts_row a b i (by omega)]; exact pow_le (by omega), fun t ht => ?_⟩
  have := texts_short a b i t ht
  omega
noncomputable def txOf (a b : Nat) (t0 t1 t2 t3 : Int) : List Nat := joinN [] ([t0, t1, t2, t3].map fun t => [[a], [b], []].getD t.toNat [])
noncomputable def rwOf (r0 r1 r2 m : Int) : List Int := ([r0, r1, r2].map fun t => [1, 2, 127, 3, 0].getD t.toNat 0) ++ [[0], [127, 1], []].getD m.toNat []

/-- the law, for all scripts, from what is asked of the finitely many cases -/
theorem law_plain (is : List Int) (hl : is.length ≤ 63)
    (key : ∀ i j t0 t1 t2 t3 r0 r1 r2 m : Int, 0 ≤ i ∧ i < 4 → 0 ≤ j ∧ j < 2 → 0 ≤ t0 ∧ t0 < 3 → 0 ≤ t1 ∧ t1 < 3 → 0 ≤ t2 ∧ t2 < 3 → 0 ≤ t3 ∧ t3 < 3 → 0 ≤ r0 ∧ r0 < 5 → 0 ≤ r1 ∧ r1 < 5 → 0 ≤ r2 ∧ r2 < 5 → 0 ≤ m ∧ m < 3 →
      ∃ a b, lts.getD i.toNat [] = [a, b] ∧ a < 1000 ∧ b < 1000 ∧ (txOf a b t0 t1 t2 t3).length ≤ 4 ∧ ∃ ss, RowOk (rwOf r0 r1 r2 m) ss ∧ BodyOk [a, b] (frs.getD j.toNat none) (nGroups (txOf a b t0 t1 t2 t3) (nCuts (txOf a b t0 t1 t2 t3) ss))) :
    lawF (R 120) (.list (is.map .int)) = some (.bool true) := by
  refine lf_ok rfl ?_
  show Ev ((R 120).ex _ ⟨[("script", .list (is.map .int))], none⟩ _) _
  have hm : ∀ j : Nat, ∃ m : List Int, m.length ≤ 1000 ∧ pslice (.list (is.map .int)) (some (j : Int)) (some 60) (some 5) = some (.list (m.map .int)) := fun j => p_slice5 (by omega)
  obtain ⟨ms, hms⟩ := Classical.axiomOfChoice hm
  -- cells
  refine wx_step (e1_let (d := .list (([((0 : Nat), (3 : Int)), (1, 1), (2, 9), (3, 2), (4, 14)].map fun x : Nat × Int => (x.2 + (ms x.1).sum).fmod 1000000).map .int)) (by decide +kernel)
    ((ev_comp (comp_one (by decide +kernel) rfl ((it_enum (ds := [(3 : Int), 1, 9, 2, 14].map .int) (by decide +kernel) (evs_cons rfl (ev_list (evs_cons rfl (ev_const rfl) (evs_cons rfl (ev_const rfl) (evs_cons rfl (ev_const rfl) (evs_cons rfl (ev_const rfl) (evs_cons rfl (ev_const rfl) evs_nil))))) (by simp)) evs_nil) (by simp)).trans ?_)
      (comp_mapT (xs := [((0 : Nat), (3 : Int)), (1, 1), (2, 9), (3, 2), (4, 14)]) (g1 := fun x : Nat × Int => PyData.int x.1) (g2 := fun x => PyData.int x.2) (f := fun x => PyData.int ((x.2 + (ms x.1).sum).fmod 1000000)) (by rw [new_free (by decide +kernel), new_free (by decide +kernel)]; rfl) (fun x hx => ?_)))).trans ?_) rfl (by decide +kernel)) ?_
  · rfl
  · have hx4 : x.1 ≤ 4 := by
      simp only [List.mem_cons, List.not_mem_nil, or_false] at hx
      rcases hx with rfl | rfl | rfl | rfl | rfl <;> decide
    exact ev_bin (ev_bin (ev_name (by decide +kernel) (by repeat (first | refine lk_free (by decide +kernel) ?_ | refine lk_drop (by decide +kernel) ?_ | refine lk_next (by decide +kernel) ?_ | exact lk_here | assumption))) (ev_blt (by decide +kernel) (evs_cons rfl (ev_slice (ev_name (by decide +kernel) (by repeat (first | refine lk_free (by decide +kernel) ?_ | refine lk_drop (by decide +kernel) ?_ | refine lk_next (by decide +kernel) ?_ | exact lk_here | assumption))) (eo_some (ev_name (by decide +kernel) (by repeat (first | refine lk_free (by decide +kernel) ?_ | refine lk_drop (by decide +kernel) ?_ | refine lk_next (by decide +kernel) ?_ | exact lk_here | assumption))) (by simp [small]; omega)) (eo_some (ev_const rfl) rfl) (eo_some (ev_const rfl) rfl) (hms x.1).2) evs_nil) (p_sum_int (hms x.1).1)) p_add_int) (ev_bin (ev_const rfl) (ev_const rfl) (show pbin .Pow (.int 10) (.int 6) = some (.int 1000000) from rfl)) (p_mod_int (by decide))
  · rw [List.map_map]; rfl
  have hcs : ∃ c0 c1 c2 c3 c4 : Int, ([((0 : Nat), (3 : Int)), (1, 1), (2, 9), (3, 2), (4, 14)].map fun x : Nat × Int => (x.2 + (ms x.1).sum).fmod 1000000) = [c0, c1, c2, c3, c4] ∧ (0 ≤ c0 ∧ c0 < 1000000) ∧ (0 ≤ c1 ∧ c1 < 1000000) ∧ (0 ≤ c2 ∧ c2 < 1000000) ∧ (0 ≤ c3 ∧ c3 < 1000000) ∧ (0 ≤ c4 ∧ c4 < 1000000) :=
    ⟨_, _, _, _, _, rfl, fmod_lt (by decide), fmod_lt (by decide), fmod_lt (by decide), fmod_lt (by decide), fmod_lt (by decide)⟩
  obtain ⟨c0, c1, c2, c3, c4, hce, h0, h1, h2, h3, h4⟩ := hcs
  rw [hce]
  clear hce hms hm
  -- pick
  refine wx_step (e1_scal (d := .int [c0, c1, c2, c3, c4].sum) (by decide +kernel) (ev_blt (by decide +kernel) (evs_cons rfl (ev_name (by decide +kernel) (by repeat (first | refine lk_free (by decide +kernel) ?_ | refine lk_drop (by decide +kernel) ?_ | refine lk_next (by decide +kernel) ?_ | exact lk_here | assumption))) evs_nil) (p_sum_int (by simp))) rfl) ?_
  have hpk : 0 ≤ [c0, c1, c2, c3, c4].sum ∧ [c0, c1, c2, c3, c4].sum < 10000000 := by simp; omega
  generalize [c0, c1, c2, c3, c4].sum = pk at *
  have hi := fmod_lt (a := pk) (b := 4) (by decide)
  have hj := fmod_lt (a := pk.fdiv 4) (b := 2) (by decide)
  have hmm := fmod_lt (a := pk.fdiv 8) (b := 3) (by decide)
  obtain ⟨a, b, hlt, ha, hb, htl, ss, hrow, hbody⟩ := key (pk.fmod 4) ((pk.fdiv 4).fmod 2) (c0.fmod 3) (c1.fmod 3) (c2.fmod 3) (c3.fmod 3) ((c0.fdiv 3).fmod 5) ((c1.fdiv 3).fmod 5) ((c2.fdiv 3).fmod 5) ((pk.fdiv 8).fmod 3)
    hi hj (fmod_lt (by decide)) (fmod_lt (by decide)) (fmod_lt (by decide)) (fmod_lt (by decide)) (fmod_lt (by decide)) (fmod_lt (by decide)) (fmod_lt (by decide)) hmm
  have hsm : small pk = true := by simp [small]; omega
  -- letters
  refine wx_step (e1_scal (d := Sx [a, b]) (by decide +kernel) (ev_item rfl (ev_list (ds := [Sx [46, 97], Sx [97, 98], Sx [67, 46], Sx [10, 67]]) (evs_cons rfl (ev_const (cs (l := [46, 97]) (by decide +kernel) (by decide +kernel))) (evs_cons rfl (ev_const (cs (l := [97, 98]) (by decide +kernel) (by decide +kernel))) (evs_cons rfl (ev_const (cs (l := [67, 46]) (by decide +kernel) (by decide +kernel))) (evs_cons rfl (ev_const (cs (l := [10, 67]) (by decide +kernel) (by decide +kernel))) evs_nil)))) (by simp)) (ev_bin (ev_name (by decide +kernel) (by repeat (first | refine lk_free (by decide +kernel) ?_ | refine lk_drop (by decide +kernel) ?_ | refine lk_next (by decide +kernel) ?_ | exact lk_here | assumption))) (ev_const rfl) (p_mod_int (by decide))) (p_item_list hi.1 (by omega) ?_)) rfl) ?_
  · rw [← hlt]
    exact enc_get (f := Sx) (l := lts) (by show (pk.fmod 4).toNat < 4; omega)
  -- front
  generalize hfr : frs.getD ((pk.fdiv 4).fmod 2).toNat none = fr at hbody
  refine wx_step (e1_scal (d := onD fr) (by decide +kernel) (ev_item rfl (ev_list (ds := [onD none, onD (some [])]) (evs_cons rfl (ev_const rfl) (evs_cons rfl (ev_const (cs (l := []) (by decide +kernel) (by decide +kernel))) evs_nil)) (by simp)) (ev_bin (ev_bin (ev_name (by decide +kernel) (by repeat (first | refine lk_free (by decide +kernel) ?_ | refine lk_drop (by decide +kernel) ?_ | refine lk_next (by decide +kernel) ?_ | exact lk_here | assumption))) (ev_const rfl) (p_fdivI hsm (by decide) (by decide))) (ev_const rfl) (p_mod_int (by decide))) (p_item_list hj.1 (by omega) ?_)) (by rw [on_scal]; rfl)) ?_
  · rw [← hfr]
    exact enc_get (f := onD) (l := frs) (by show ((pk.fdiv 4).fmod 2).toNat < 2; omega)
  -- text
  have hdig : ∀ x : Int, ([Sx [a], Sx [b], Sx []] : List D)[(x.fmod 3).toNat]? = some (Sx ([[a], [b], []].getD (x.fmod 3).toNat [])) := fun x =>
    enc_get (f := Sx) (l := [[a], [b], []]) (by have := fmod_lt (a := x) (b := 3) (by decide); show (x.fmod 3).toNat < 3; omega)
  refine wx_step (e1_scal (d := Sx (txOf a b (c0.fmod 3) (c1.fmod 3) (c2.fmod 3) (c3.fmod 3))) (by decide +kernel) (ev_meth rfl (ev_const (cs (l := []) (by decide +kernel) (by decide +kernel))) (evs_cons (d := .list (([c0, c1, c2, c3].map fun x => [[a], [b], []].getD (x.fmod 3).toNat []).map Sx)) rfl ?_ evs_nil) (p_join (by decide) (by simp) ?_)) rfl) ?_
  · refine (ev_comp (comp_one (by decide +kernel) rfl ((it_list rfl (ev_slice (ev_name (by decide +kernel) (by repeat (first | refine lk_free (by decide +kernel) ?_ | refine lk_drop (by decide +kernel) ?_ | refine lk_next (by decide +kernel) ?_ | exact lk_here | assumption))) eo_none (eo_some (ev_const rfl) rfl) eo_none (p_slice_ints (by simp))) (by simp; exact Nat.le_trans (sl_len _ _ _) (by simp))).trans ?_) (comp_map (xs := [c0, c1, c2, c3]) (g := PyData.int) (f := fun x : Int => Sx ([[a], [b], []].getD (x.fmod 3).toNat [])) (new_free (by decide +kernel)) (fun x hx => ?_)))).trans ?_
    · rfl
    · have := fmod_lt (a := x) (b := 3) (by decide)
      exact ev_item rfl (ev_list (ds := [Sx [a], Sx [b], Sx []]) (evs_cons rfl (ev_item rfl (ev_name (by decide +kernel) (by repeat (first | refine lk_free (by decide +kernel) ?_ | refine lk_drop (by decide +kernel) ?_ | refine lk_next (by decide +kernel) ?_ | exact lk_here | assumption))) (ev_const rfl) (p_item_str (l := [a, b]) (i := 0) (c := a) (by decide) (by decide) rfl)) (evs_cons rfl (ev_item rfl (ev_name (by decide +kernel) (by repeat (first | refine lk_free (by decide +kernel) ?_ | refine lk_drop (by decide +kernel) ?_ | refine lk_next (by decide +kernel) ?_ | exact lk_here | assumption))) (ev_const rfl) (p_item_str (l := [a, b]) (i := 1) (c := b) (by decide) (by decide) rfl)) (evs_cons rfl (ev_const (cs (l := []) (by decide +kernel) (by decide +kernel))) evs_nil))) (by simp)) (ev_bin (ev_name (by decide +kernel) (by repeat (first | refine lk_free (by decide +kernel) ?_ | refine lk_drop (by decide +kernel) ?_ | refine lk_next (by decide +kernel) ?_ | exact lk_here | assumption))) (ev_const rfl) (p_mod_int (by decide))) (p_item_list this.1 (by omega) (hdig x))
    · rw [List.map_map]; rfl
  · intro p hp
    obtain ⟨x, _, rfl⟩ := List.mem_map.mp hp
    have := fmod_lt (a := x) (b := 3) (by decide)
    have : (x.fmod 3).toNat = 0 ∨ (x.fmod 3).toNat = 1 ∨ (x.fmod 3).toNat = 2 := by omega
    rcases this with e | e | e <;> rw [e] <;> simp
  -- row
  have hdig5 : ∀ x : Int, ([(1 : Int), 2, 127, 3, 0].map PyData.int)[((x.fdiv 3).fmod 5).toNat]? = some (.int ([1, 2, 127, 3, 0].getD ((x.fdiv 3).fmod 5).toNat 0)) := fun x =>
    enc_get (f := PyData.int) (l := [1, 2, 127, 3, 0]) (by have := fmod_lt (a := x.fdiv 3) (b := 5) (by decide); show ((x.fdiv 3).fmod 5).toNat < 5; omega)
  generalize hrw : rwOf ((c0.fdiv 3).fmod 5) ((c1.fdiv 3).fmod 5) ((c2.fdiv 3).fmod 5) ((pk.fdiv 8).fmod 3) = rw_ at hrow
  refine wx_step (e1_let (d := .list (rw_.map .int)) (by decide +kernel) ((ev_bin (ev_comp (comp_one (by decide +kernel) rfl ((it_list rfl (ev_slice (ev_name (by decide +kernel) (by repeat (first | refine lk_free (by decide +kernel) ?_ | refine lk_drop (by decide +kernel) ?_ | refine lk_next (by decide +kernel) ?_ | exact lk_here | assumption))) eo_none (eo_some (ev_const rfl) rfl) eo_none (p_slice_ints (by simp))) (by simp; exact Nat.le_trans (sl_len _ _ _) (by simp))).trans ?_) (comp_map (xs := [c0, c1, c2]) (g := PyData.int) (f := fun x : Int => PyData.int ([1, 2, 127, 3, 0].getD ((x.fdiv 3).fmod 5).toNat 0)) (new_free (by decide +kernel)) (fun x hx => ?_))))
    (ev_item rfl (ev_list (ds := [.list ([(0 : Int)].map .int), .list ([(127 : Int), 1].map .int), .list (([] : List Int).map .int)]) (evs_cons rfl (ev_list (evs_cons rfl (ev_const rfl) evs_nil) (by simp)) (evs_cons rfl (ev_list (evs_cons rfl (ev_const rfl) (evs_cons rfl (ev_const rfl) evs_nil)) (by simp)) (evs_cons rfl (ev_list evs_nil (by simp)) evs_nil))) (by simp)) (ev_bin (ev_bin (ev_name (by decide +kernel) (by repeat (first | refine lk_free (by decide +kernel) ?_ | refine lk_drop (by decide +kernel) ?_ | refine lk_next (by decide +kernel) ?_ | exact lk_here | assumption))) (ev_const rfl) (p_fdivI hsm (by decide) (by decide))) (ev_const rfl) (p_mod_int (by decide))) (p_item_list (d := .list (([[0], [127, 1], []].getD ((pk.fdiv 8).fmod 3).toNat []).map .int)) hmm.1 (by omega) ?_)) (p_add_list ?_)).trans ?_) rfl (by decide +kernel)) ?_
  · rfl
  · have := fmod_lt (a := x.fdiv 3) (b := 5) (by decide)
    have hx2 : small x = true := by
      simp only [List.mem_cons, List.not_mem_nil, or_false] at hx
      rcases hx with rfl | rfl | rfl <;> simp [small] <;> omega
    exact ev_item rfl (ev_list (ds := [(1 : Int), 2, 127, 3, 0].map PyData.int) (evs_cons rfl (ev_const rfl) (evs_cons rfl (ev_const rfl) (evs_cons rfl (ev_const rfl) (evs_cons rfl (ev_const rfl) (evs_cons rfl (ev_const rfl) evs_nil))))) (by simp)) (ev_bin (ev_bin (ev_name (by decide +kernel) (by repeat (first | refine lk_free (by decide +kernel) ?_ | refine lk_drop (by decide +kernel) ?_ | refine lk_next (by decide +kernel) ?_ | exact lk_here | assumption))) (ev_const rfl) (p_fdivI hx2 (by decide) (by decide))) (ev_const rfl) (p_mod_int (by decide))) (p_item_list this.1 (by omega) (hdig5 x))
  · exact enc_get (f := fun l : List Int => PyData.list (l.map .int)) (l := [[0], [127, 1], []]) (by show ((pk.fdiv 8).fmod 3).toNat < 3; omega)
  · have : ((pk.fdiv 8).fmod 3).toNat = 0 ∨ ((pk.fdiv 8).fmod 3).toNat = 1 ∨ ((pk.fdiv 8).fmod 3).toNat = 2 := by omega
    rcases this with e | e | e <;> rw [e] <;> simp
  · rw [← hrw]; simp [rwOf]
  -- kept
  have hrl := hrow.len
  have hall : ∀ l : List Int, sl none none l = l := fun l => by unfold sl clp; simp
  refine wx_step (e1_let (d := .list (rw_.map .int)) (by decide +kernel) ((ev_slice (ev_name (by decide +kernel) (by repeat (first | refine lk_free (by decide +kernel) ?_ | refine lk_drop (by decide +kernel) ?_ | refine lk_next (by decide +kernel) ?_ | exact lk_here | assumption))) eo_none eo_none eo_none (p_slice_ints (by omega))).trans (by rw [hall])) rfl (by decide +kernel)) ?_
  refine wx_nil ⟨_, rfl, ?_⟩
  have href : ∀ x y : D, (if (sl none (some 1) rw_ == [0]) then PyData.str "invalid grouping" else PyData.str "") = PyData.str (refusal rw_) := fun _ _ => by
    rw [rowfacts]; unfold refusal
    by_cases h : rw_.head? = some 0
    · rw [decide_eq_true h, if_pos rfl, if_pos h]
    · rw [decide_eq_false h, if_neg (by decide), if_neg h]
  refine lr_ok (u := refusal rw_) (is := rw_) (by decide +kernel) (by repeat (first | refine lk_free (by decide +kernel) ?_ | refine lk_drop (by decide +kernel) ?_ | refine lk_next (by decide +kernel) ?_ | exact lk_here | assumption)) ((ev_if (g := (sl none (some 1) rw_ == [0])) (x := .str "invalid grouping") (y := .str "") (ts_cmp rfl (ev_slice (ev_name (by decide +kernel) (by repeat (first | refine lk_free (by decide +kernel) ?_ | refine lk_drop (by decide +kernel) ?_ | refine lk_next (by decide +kernel) ?_ | exact lk_here | assumption))) eo_none (eo_some (ev_const rfl) rfl) eo_none (p_slice_ints (by omega))) (ev_list (ds := [.int 0]) (evs_cons rfl (ev_const rfl) evs_nil) (by simp)) (p_eq_ints (ys := [0]))) (fun _ => ev_const rfl) (fun _ => ev_const rfl)).trans (by rw [href .none .none])) (asI_map _) (by
    rw [hrow.sm]; simp; omega) (ts_cmp rfl (ev_name (by decide +kernel) (by repeat (first | refine lk_free (by decide +kernel) ?_ | refine lk_drop (by decide +kernel) ?_ | refine lk_next (by decide +kernel) ?_ | exact lk_here | assumption))) (ev_name (by decide +kernel) (by repeat (first | refine lk_free (by decide +kernel) ?_ | refine lk_drop (by decide +kernel) ?_ | refine lk_next (by decide +kernel) ?_ | exact lk_here | assumption))) (p_ne_ints.trans (by simp))) ?_
  generalize htx : txOf a b (c0.fmod 3) (c1.fmod 3) (c2.fmod 3) (c3.fmod 3) = tx at *
  -- ruler
  have hnl : (nRuler rw_).length ≤ 6 := Nat.le_trans (sl_len _ _ _) hrl
  refine wx_step (e1_let (d := .list ((nRuler rw_).map .int)) (by decide +kernel) (ev_slice (ev_name (by decide +kernel) (by repeat (first | refine lk_free (by decide +kernel) ?_ | refine lk_drop (by decide +kernel) ?_ | refine lk_next (by decide +kernel) ?_ | exact lk_here | assumption))) (eo_some ?_ hrow.pos) eo_none eo_none (p_slice_ints (by omega))) rfl (by decide +kernel)) ?_
  · refine ev_blt (by decide +kernel) (evs_cons (d := .list ((nPos rw_).map .int)) rfl ?_ evs_nil) (p_min ?_ ?_)
    · refine (ev_bin (ev_comp (comp_one (by decide +kernel) rfl (it_range1 (by decide +kernel) (evs_cons rfl (ev_blt (by decide +kernel) (evs_cons rfl (ev_name (by decide +kernel) (by repeat (first | refine lk_free (by decide +kernel) ?_ | refine lk_drop (by decide +kernel) ?_ | refine lk_next (by decide +kernel) ?_ | exact lk_here | assumption))) evs_nil) (p_len_list (by simp; omega))) evs_nil) (by simp [small]; omega) (by simp; omega)) (comp_filter (g := fun (i : Nat) => PyData.int (0 + i)) (f := fun (i : Nat) => PyData.int (0 + i)) (t := fun k => !(rw_.getD k 0 == 0)) (new_free (by decide +kernel)) (fun k hk => ?_) (fun k hk _ => (ev_name (by decide +kernel) (by repeat (first | refine lk_free (by decide +kernel) ?_ | refine lk_drop (by decide +kernel) ?_ | refine lk_next (by decide +kernel) ?_ | exact lk_here | assumption)))))))
        (ev_list (evs_cons rfl (ev_blt (by decide +kernel) (evs_cons rfl (ev_name (by decide +kernel) (by repeat (first | refine lk_free (by decide +kernel) ?_ | refine lk_drop (by decide +kernel) ?_ | refine lk_next (by decide +kernel) ?_ | exact lk_here | assumption))) evs_nil) (p_len_list (by simp; omega))) evs_nil) (by simp)) (p_add_list ?_)).trans ?_
      · simp only [List.mem_range, Int.toNat_natCast, List.length_map] at hk
        exact ts_cmp rfl (ev_item rfl (ev_name (by decide +kernel) (by repeat (first | refine lk_free (by decide +kernel) ?_ | refine lk_drop (by decide +kernel) ?_ | refine lk_next (by decide +kernel) ?_ | exact lk_here | assumption))) (ev_name (by decide +kernel) (by repeat (first | refine lk_free (by decide +kernel) ?_ | refine lk_drop (by decide +kernel) ?_ | refine lk_next (by decide +kernel) ?_ | exact lk_here | assumption))) (p_item_nat (i := k) (d := .int (rw_.getD k 0)) (by omega) (by omega) (enc_get hk))) (ev_const rfl) p_neq_int
      · have := List.length_filter_le (fun k => !(rw_.getD k 0 == 0)) (List.range ((rw_.map PyData.int).length : Int).toNat)
        simp at this ⊢; omega
      · simp [nPos]
    · have := List.length_filter_le (fun k => !(rw_.getD k 0 == 0)) (List.range rw_.length)
      simp [nPos] at this ⊢; omega
    · simp [nPos]
  -- sums
  have hnsm : (nRuler rw_).all small = true := by
    rw [List.all_eq_true]
    intro x hx
    unfold nRuler sl at hx
    exact List.all_eq_true.mp hrow.sm x (List.mem_of_mem_take (List.mem_of_mem_drop hx))
  have hsl := ss_len hrow.sums
  refine wx_step (e1_let (d := .list (ss.map .int)) (by decide +kernel) (ev_fun (by decide +kernel) (by decide +kernel) (evs_cons rfl (ev_name (by decide +kernel) (by repeat (first | refine lk_free (by decide +kernel) ?_ | refine lk_drop (by decide +kernel) ?_ | refine lk_next (by decide +kernel) ?_ | exact lk_here | assumption))) evs_nil) (sums_cl (by omega) hnsm hrow.sums)) rfl (by decide +kernel)) ?_
  refine wx_step (e1_if_f (ts_cmp rfl (ev_name (by decide +kernel) (by repeat (first | refine lk_free (by decide +kernel) ?_ | refine lk_drop (by decide +kernel) ?_ | refine lk_next (by decide +kernel) ?_ | exact lk_here | assumption))) (ev_fun (by decide +kernel) (by decide +kernel) (evs_cons rfl (ev_name (by decide +kernel) (by repeat (first | refine lk_free (by decide +kernel) ?_ | refine lk_drop (by decide +kernel) ?_ | refine lk_next (by decide +kernel) ?_ | exact lk_here | assumption))) evs_nil) (marks_ge (by omega) _ (by omega) hrow.mpos hrow.mtst)) (p_ne_ints.trans (by rw [hrow.same]; rfl))) ex_nil) ?_
  -- cuts
  have hcl : (nCuts tx ss).length ≤ 8 ∧ 2 ≤ (nCuts tx ss).length := by
    have := List.length_filter_le (fun k : Int => decide (k < (tx.length : Int))) ss.reverse
    simp [nCuts] at this ⊢; omega
  have hcb : ∀ c ∈ nCuts tx ss, small c = true := by
    intro c hc
    unfold nCuts at hc
    rcases List.mem_append.mp hc with q | q
    · rcases List.mem_append.mp q with q | q
      · rw [List.mem_singleton.mp q]; decide
      · obtain ⟨k, hk, rfl⟩ := List.mem_map.mp q
        have := hrow.small k (List.mem_reverse.mp (List.mem_filter.mp hk).1)
        simp [small]; omega
    · rw [List.mem_singleton.mp q]; simp [small]; omega
  refine wx_step (e1_let (d := .list ((nCuts tx ss).map .int)) (by decide +kernel) ((ev_bin (ev_bin (ev_list (evs_cons rfl (ev_const rfl) evs_nil) (by simp)) (ev_comp (comp_one (by decide +kernel) rfl ((it_list rfl (ev_slice (ev_name (by decide +kernel) (by repeat (first | refine lk_free (by decide +kernel) ?_ | refine lk_drop (by decide +kernel) ?_ | refine lk_next (by decide +kernel) ?_ | exact lk_here | assumption))) eo_none eo_none (eo_some (ev_neg (ev_const rfl)) rfl) (p_rev (by simp; omega))) (by simp; omega)).trans (by rw [← List.map_reverse])) (comp_filter (xs := ss.reverse) (g := PyData.int) (f := fun k : Int => PyData.int ((tx.length : Int) - k)) (t := fun k : Int => decide (k < (tx.length : Int))) (new_free (by decide +kernel)) (fun k hk => ts_cmp rfl (ev_name (by decide +kernel) (by repeat (first | refine lk_free (by decide +kernel) ?_ | refine lk_drop (by decide +kernel) ?_ | refine lk_next (by decide +kernel) ?_ | exact lk_here | assumption))) (ev_blt (by decide +kernel) (evs_cons rfl (ev_name (by decide +kernel) (by repeat (first | refine lk_free (by decide +kernel) ?_ | refine lk_drop (by decide +kernel) ?_ | refine lk_next (by decide +kernel) ?_ | exact lk_here | assumption))) evs_nil) (p_len_str (by omega))) p_len_lt)
    (fun k hk _ => ev_bin (ev_blt (by decide +kernel) (evs_cons rfl (ev_name (by decide +kernel) (by repeat (first | refine lk_free (by decide +kernel) ?_ | refine lk_drop (by decide +kernel) ?_ | refine lk_next (by decide +kernel) ?_ | exact lk_here | assumption))) evs_nil) (p_len_str (by omega))) (ev_name (by decide +kernel) (by repeat (first | refine lk_free (by decide +kernel) ?_ | refine lk_drop (by decide +kernel) ?_ | refine lk_next (by decide +kernel) ?_ | exact lk_here | assumption))) p_sub_int)))) (p_add_list ?_)) (ev_list (evs_cons rfl (ev_blt (by decide +kernel) (evs_cons rfl (ev_name (by decide +kernel) (by repeat (first | refine lk_free (by decide +kernel) ?_ | refine lk_drop (by decide +kernel) ?_ | refine lk_next (by decide +kernel) ?_ | exact lk_here | assumption))) evs_nil) (p_len_str (by omega))) evs_nil) (by simp)) (p_add_list ?_)).trans ?_) rfl (by decide +kernel)) ?_
  · have := List.length_filter_le (fun k : Int => decide (k < (tx.length : Int))) ss.reverse
    simp at this ⊢; omega
  · have := List.length_filter_le (fun k : Int => decide (k < (tx.length : Int))) ss.reverse
    simp at this ⊢; omega
  · simp [nCuts]
  -- groups
  generalize hcuts : nCuts tx ss = cuts at *
  refine wx_step (e1_let (d := .list ((nGroups tx cuts).map Sx)) (by decide +kernel) ((ev_comp (comp_one (by decide +kernel) rfl (it_range1 (by decide +kernel) (evs_cons rfl (ev_bin (ev_blt (by decide +kernel) (evs_cons rfl (ev_name (by decide +kernel) (by repeat (first | refine lk_free (by decide +kernel) ?_ | refine lk_drop (by decide +kernel) ?_ | refine lk_next (by decide +kernel) ?_ | exact lk_here | assumption))) evs_nil) (p_len_list (by simp; omega))) (ev_const rfl) p_sub_int) evs_nil) (by simp [small]; omega) (by simp; omega)) (comp_map (g := fun (i : Nat) => PyData.int (0 + i)) (f := fun (k : Nat) => Sx (sl (some (cuts.getD k 0)) (some (cuts.getD (k + 1) 0)) tx)) (new_free (by decide +kernel)) (fun k hk => ?_)))).trans ?_) rfl (by decide +kernel)) ?_
  · have hk : k + 1 < cuts.length := by simp at hk; omega
    exact ev_slice (ev_name (by decide +kernel) (by repeat (first | refine lk_free (by decide +kernel) ?_ | refine lk_drop (by decide +kernel) ?_ | refine lk_next (by decide +kernel) ?_ | exact lk_here | assumption))) (eo_some (i := cuts.getD k 0) (ev_item rfl (ev_name (by decide +kernel) (by repeat (first | refine lk_free (by decide +kernel) ?_ | refine lk_drop (by decide +kernel) ?_ | refine lk_next (by decide +kernel) ?_ | exact lk_here | assumption))) (ev_name (by decide +kernel) (by repeat (first | refine lk_free (by decide +kernel) ?_ | refine lk_drop (by decide +kernel) ?_ | refine lk_next (by decide +kernel) ?_ | exact lk_here | assumption))) (p_item_nat (i := k) (by omega) (by omega) (enc_get (by omega)))) (small_getD hcb k)) (eo_some (i := cuts.getD (k + 1) 0) (ev_item rfl (ev_name (by decide +kernel) (by repeat (first | refine lk_free (by decide +kernel) ?_ | refine lk_drop (by decide +kernel) ?_ | refine lk_next (by decide +kernel) ?_ | exact lk_here | assumption))) (ev_bin (ev_name (by decide +kernel) (by repeat (first | refine lk_free (by decide +kernel) ?_ | refine lk_drop (by decide +kernel) ?_ | refine lk_next (by decide +kernel) ?_ | exact lk_here | assumption))) (ev_const rfl) p_add_int) (p_item_nat (i := k + 1) (by omega) (by omega) (enc_get hk))) (small_getD hcb (k + 1))) eo_none (p_slice_str (by omega))
  · rw [show (((cuts.map PyData.int).length : Int) - 1).toNat = cuts.length - 1 by simp]
    simp [nGroups]
  have hgl : (nGroups tx cuts).length = cuts.length - 1 := by simp [nGroups]
  have hg4 : ∀ g ∈ nGroups tx cuts, g.length ≤ 4 := by
    intro g hg
    obtain ⟨k, _, rfl⟩ := List.mem_map.mp hg
    exact Nat.le_trans (sl_len _ _ _) htl
  have hnl60 := name_len (nGroups tx cuts) hg4 (by omega)
  generalize hgs : nGroups tx cuts = gs at *
  have hgne : gs ≠ [] := fun e => by rw [e] at hgl; simp at hgl; omega
  have hlast : gs.getLast? = some (gs.getLastD []) := by
    rw [List.getLast?_eq_some_getLast hgne]; simp [List.getLastD_eq_getLast?, List.getLast?_eq_some_getLast hgne]
  have hl4 : (gs.getLastD []).length ≤ 4 := hg4 _ (List.mem_of_getLast? hlast)
  -- name
  refine wx_step (e1_scal (d := Sx (bl (some (gs.getLastD [])) none)) (by decide +kernel) (ev_fun (by decide +kernel) (by decide +kernel) (evs_cons (d := .tuple [onD (some (gs.getLastD [])), onD none]) rfl (ev_tuple (evs_cons rfl (ev_item rfl (ev_name (by decide +kernel) (by repeat (first | refine lk_free (by decide +kernel) ?_ | refine lk_drop (by decide +kernel) ?_ | refine lk_next (by decide +kernel) ?_ | exact lk_here | assumption))) (ev_neg (ev_const rfl)) (p_item_last (d := Sx (gs.getLastD [])) (by rw [List.getLast?_map, hlast]; rfl))) (evs_cons rfl (ev_const rfl) evs_nil)) (by simp)) evs_nil) (build_ge (by omega) _ _ (fun l h => by cases h; omega) (fun l h => by cases h))) rfl) ?_
  refine wx_mid (fun ρ own => own = none ∧ List.lookup ("front" : Str) ρ = some (onD fr) ∧ List.lookup ("letters" : Str) ρ = some (Sx [a, b]) ∧ List.lookup ("groups" : Str) ρ = some (.list (gs.map Sx)) ∧ List.lookup ("name" : Str) ρ = some (Sx (nName gs)))
    (wi_for (g := Sx) gs.dropLast.reverse (fun xs ρ own => own = none ∧ List.lookup ("front" : Str) ρ = some (onD fr) ∧ List.lookup ("letters" : Str) ρ = some (Sx [a, b]) ∧ List.lookup ("groups" : Str) ρ = some (.list (gs.map Sx)) ∧ (∀ g ∈ xs, g.length ≤ 4) ∧ ∃ nm, List.lookup ("name" : Str) ρ = some (Sx nm) ∧ nm.length + 7 * xs.length ≤ 60 ∧ xs.foldl (fun nm g => bl (some g) (some ([46, 46] ++ nm))) nm = nName gs)
      ((it_list rfl (ev_slice (ev_slice (ev_name (by decide +kernel) (by repeat (first | refine lk_free (by decide +kernel) ?_ | refine lk_drop (by decide +kernel) ?_ | refine lk_next (by decide +kernel) ?_ | exact lk_here | assumption))) eo_none (eo_some (ev_neg (ev_const rfl)) rfl) eo_none (p_slice_list (by simp; omega))) eo_none eo_none (eo_some (ev_neg (ev_const rfl)) rfl) (p_rev ?_)) ?_).trans ?_) rfl ⟨rfl, (by repeat (first | refine lk_free (by decide +kernel) ?_ | refine lk_drop (by decide +kernel) ?_ | refine lk_next (by decide +kernel) ?_ | exact lk_here | assumption)), (by repeat (first | refine lk_free (by decide +kernel) ?_ | refine lk_drop (by decide +kernel) ?_ | refine lk_next (by decide +kernel) ?_ | exact lk_here | assumption)), (by repeat (first | refine lk_free (by decide +kernel) ?_ | refine lk_drop (by decide +kernel) ?_ | refine lk_next (by decide +kernel) ?_ | exact lk_here | assumption)), ?_, bl (some (gs.getLastD [])) none, (by repeat (first | refine lk_free (by decide +kernel) ?_ | refine lk_drop (by decide +kernel) ?_ | refine lk_next (by decide +kernel) ?_ | exact lk_here | assumption)), ?_, rfl⟩ ?_ ?_) ?_
  · exact Nat.le_trans (sl_len _ _ _) (by simp; omega)
  · rw [List.length_reverse]; exact Nat.le_trans (sl_len _ _ _) (by simp; omega)
  · rw [sl_init, ← List.map_dropLast, ← List.map_reverse]
  · exact fun g hg => hg4 g (List.dropLast_subset _ (List.mem_reverse.mp hg))
  · show (gs.getLastD []).length + _ ≤ 60
    rw [List.length_reverse, List.length_dropLast]; omega
  · rintro g xs ρ own ⟨rfl, k1, k2, k3, k4, nm, k5, k6, k7⟩
    have hg := k4 g List.mem_cons_self
    simp only [List.length_cons] at k6
    refine ⟨rfl, _, bind_name (by decide +kernel), ?_⟩
    refine wx_step (e1_scal (d := Sx (bl (some g) (some ([46, 46] ++ nm)))) (by decide +kernel) (ev_fun (by decide +kernel) (by decide +kernel) (evs_cons (d := .tuple [onD (some g), onD (some ([46, 46] ++ nm))]) rfl (ev_tuple (evs_cons rfl (ev_name (by decide +kernel) (by repeat (first | refine lk_free (by decide +kernel) ?_ | refine lk_drop (by decide +kernel) ?_ | refine lk_next (by decide +kernel) ?_ | exact lk_here | assumption))) (evs_cons rfl (ev_bin (ev_const (cs (l := [46, 46]) (by decide +kernel) (by decide +kernel))) (ev_name (by decide +kernel) (by repeat (first | refine lk_free (by decide +kernel) ?_ | refine lk_drop (by decide +kernel) ?_ | refine lk_next (by decide +kernel) ?_ | exact lk_here | assumption))) (p_add_str (by simp; omega))) evs_nil)) (by simp)) evs_nil) (build_ge (by omega) _ _ (fun l h => by cases h; omega) (fun l h => by cases h; simp; omega))) rfl) (wx_nil ⟨rfl, (by repeat (first | refine lk_free (by decide +kernel) ?_ | refine lk_drop (by decide +kernel) ?_ | refine lk_next (by decide +kernel) ?_ | exact lk_here | assumption)), (by repeat (first | refine lk_free (by decide +kernel) ?_ | refine lk_drop (by decide +kernel) ?_ | refine lk_next (by decide +kernel) ?_ | exact lk_here | assumption)), (by repeat (first | refine lk_free (by decide +kernel) ?_ | refine lk_drop (by decide +kernel) ?_ | refine lk_next (by decide +kernel) ?_ | exact lk_here | assumption)), fun g hg => k4 g (List.mem_cons_of_mem _ hg), bl (some g) (some ([46, 46] ++ nm)), (by repeat (first | refine lk_free (by decide +kernel) ?_ | refine lk_drop (by decide +kernel) ?_ | refine lk_next (by decide +kernel) ?_ | exact lk_here | assumption)), ?_, k7⟩)
    simp [bl]; omega
  · rintro ρ own ⟨rfl, k1, k2, k3, k4, nm, k5, k6, k7⟩
    have k7 : nm = nName gs := k7
    subst k7
    exact ⟨rfl, k1, k2, k3, k5⟩
  rintro ρ own ⟨rfl, k1, k2, k3, k5⟩
  have hfr2 : (fr.getD [67]).length ≤ 1 := by
    rw [← hfr]
    have : ((pk.fdiv 4).fmod 2).toNat = 0 ∨ ((pk.fdiv 4).fmod 2).toNat = 1 := by omega
    rcases this with e | e <;> rw [e] <;> decide
  have hfr3 : ∀ l, fr = some l → l.length ≤ 400 := by
    intro l e
    rw [e] at hfr2
    simp at hfr2; omega
  have hnames := hbody.names
  unfold okNames at hnames
  rw [Bool.and_eq_true, beq_iff_eq, beq_iff_eq] at hnames
  obtain ⟨hn1, hn2⟩ := hnames
  have hsec := hbody.second
  unfold okSecond at hsec
  rw [Bool.and_eq_true, Bool.and_eq_true, beq_iff_eq] at hsec
  obtain ⟨hs1, hs2, hs3⟩ := hsec
  have hfst := hbody.first
  unfold okFirst at hfst
  have hc1 := hbody.chr1
  have hc2 := hbody.chr
  have hflat : nFlat gs = nName gs := hn1.symm
  have hwlen : (nWide fr (nName gs)).length ≤ 100 := by simp [nWide, bl] at hfr2 ⊢; omega
  have hwd : bl (some (bl fr (some ([46, 46] ++ nName gs)))) (some [46, 46]) = nWide fr (nName gs) := rfl
  have hinner : (bl fr (some ([46, 46] ++ nName gs))).length ≤ 400 := by simp [bl] at hfr2 ⊢; omega
  generalize nName gs = nm at *
  generalize hwide : nWide fr nm = wd at *
  -- wide
  refine wx_step (e1_scal (d := Sx wd) (by decide +kernel) (ev_fun (by decide +kernel) (by decide +kernel) (evs_cons (d := .list [onD (some (bl fr (some ([46, 46] ++ nm)))), onD (some [46, 46])]) rfl (ev_list (evs_cons rfl (ev_fun (by decide +kernel) (by decide +kernel) (evs_cons (d := .tuple [onD fr, onD (some ([46, 46] ++ nm))]) rfl (ev_tuple (evs_cons rfl (ev_name (by decide +kernel) (by repeat (first | refine lk_free (by decide +kernel) ?_ | refine lk_drop (by decide +kernel) ?_ | refine lk_next (by decide +kernel) ?_ | exact lk_here | assumption))) (evs_cons rfl (ev_bin (ev_const (cs (l := [46, 46]) (by decide +kernel) (by decide +kernel))) (ev_name (by decide +kernel) (by repeat (first | refine lk_free (by decide +kernel) ?_ | refine lk_drop (by decide +kernel) ?_ | refine lk_next (by decide +kernel) ?_ | exact lk_here | assumption))) (p_add_str (by simp; omega))) evs_nil)) (by simp)) evs_nil) (build_ge (by omega) _ _ hfr3 (fun l h => by cases h; simp; omega)))
    (evs_cons rfl (ev_const (cs (l := [46, 46]) (by decide +kernel) (by decide +kernel))) evs_nil)) (by simp)) evs_nil) (hwd ▸ build_list (by omega) _ _ (fun l h => by cases h; exact hinner) (fun l h => by cases h; decide))) rfl) ?_
  -- flat
  refine wx_step (e1_scal (d := Sx nm) (by decide +kernel) (ev_meth rfl (ev_const (cs (l := [46, 46, 46]) (by decide +kernel) (by decide +kernel))) (evs_cons rfl (ev_name (by decide +kernel) (by repeat (first | refine lk_free (by decide +kernel) ?_ | refine lk_drop (by decide +kernel) ?_ | refine lk_next (by decide +kernel) ?_ | exact lk_here | assumption))) evs_nil) ((p_join (x := [46, 46, 46]) (by decide) (by omega) (fun p hp => by have := hg4 p hp; omega)).trans (by rw [← hflat]; rfl))) rfl) ?_
  have hn3 : wd = (if fr.isNone then [67] else []) ++ [46, 46, 46] ++ nm ++ [46, 46, 46] := by rw [hn2, hflat]
  refine wx_step (e1_if_f (ts_cmp (x := .list ([nm, wd].map Sx)) (y := .list ([nm, wd].map Sx)) rfl (ev_list (evs_cons rfl (ev_name (by decide +kernel) (by repeat (first | refine lk_free (by decide +kernel) ?_ | refine lk_drop (by decide +kernel) ?_ | refine lk_next (by decide +kernel) ?_ | exact lk_here | assumption))) (evs_cons rfl (ev_name (by decide +kernel) (by repeat (first | refine lk_free (by decide +kernel) ?_ | refine lk_drop (by decide +kernel) ?_ | refine lk_next (by decide +kernel) ?_ | exact lk_here | assumption))) evs_nil)) (by simp)) (ev_list (evs_cons rfl (ev_name (by decide +kernel) (by repeat (first | refine lk_free (by decide +kernel) ?_ | refine lk_drop (by decide +kernel) ?_ | refine lk_next (by decide +kernel) ?_ | exact lk_here | assumption))) (evs_cons rfl ((ev_bin (ev_bin (ev_bin (x := Sx (if fr.isNone then [67] else [])) ((ev_if (g := fr.isNone) (x := Sx [67]) (y := Sx []) (ts_cmp rfl (ev_name (by decide +kernel) (by repeat (first | refine lk_free (by decide +kernel) ?_ | refine lk_drop (by decide +kernel) ?_ | refine lk_next (by decide +kernel) ?_ | exact lk_here | assumption))) (ev_const rfl) (p_is_none fr)) (fun _ => ev_const (cs (l := [67]) (by decide +kernel) (by decide +kernel))) (fun _ => ev_const (cs (l := []) (by decide +kernel) (by decide +kernel)))).trans ?_) (ev_const (cs (l := [46, 46, 46]) (by decide +kernel) (by decide +kernel))) (p_add_str ?_)) (ev_name (by decide +kernel) (by repeat (first | refine lk_free (by decide +kernel) ?_ | refine lk_drop (by decide +kernel) ?_ | refine lk_next (by decide +kernel) ?_ | exact lk_here | assumption))) (p_add_str ?_)) (ev_const (cs (l := [46, 46, 46]) (by decide +kernel) (by decide +kernel))) (p_add_str ?_)).trans ?_) evs_nil)) (by simp)) ((p_ne_strs ?_ ?_).trans (by simp))) ex_nil) ?_
  · cases fr <;> rfl
  · split <;> simp
  · split <;> simp <;> omega
  · split <;> simp <;> omega
  · rw [← hn3]
  · intro x hx
    simp only [List.mem_cons, List.not_mem_nil, or_false] at hx
    rcases hx with rfl | rfl
    · exact hc1
    · exact hc2
  · intro x hx
    simp only [List.mem_cons, List.not_mem_nil, or_false] at hx
    rcases hx with rfl | rfl
    · exact hc1
    · exact hc2
  -- texts
  refine wx_step (e1_own (d := .list ((nTexts [a, b] 0).map Tl)) (by decide +kernel) (ev_list (evs_cons rfl (ev_list (evs_cons rfl (ev_const (cs (l := []) (by decide +kernel) (by decide +kernel))) evs_nil) (by simp)) evs_nil) (by simp [nTexts])) rfl (by decide +kernel)) ?_
  refine wx_mid (fun ρ own => List.lookup ("letters" : Str) ρ = some (Sx [a, b]) ∧ List.lookup ("name" : Str) ρ = some (Sx nm) ∧ List.lookup ("wide" : Str) ρ = some (Sx wd) ∧ List.lookup ("texts" : Str) ρ = some (.list ((nTexts [a, b] 5).map Tl)))
    (wi_for (g := fun (i : Nat) => PyData.int (0 + i)) (List.range 5) (fun ys ρ own => own = some ("texts" : Str) ∧ List.lookup ("letters" : Str) ρ = some (Sx [a, b]) ∧ List.lookup ("name" : Str) ρ = some (Sx nm) ∧ List.lookup ("wide" : Str) ρ = some (Sx wd) ∧ ∃ j, ys = (List.range 5).drop j ∧ j ≤ 5 ∧ List.lookup ("texts" : Str) ρ = some (.list ((nTexts [a, b] j).map Tl)))
      (it_range1 (k := 5) (by decide +kernel) (evs_cons rfl (ev_const rfl) evs_nil) rfl (by decide)) rfl ⟨rfl, (by repeat (first | refine lk_free (by decide +kernel) ?_ | refine lk_drop (by decide +kernel) ?_ | refine lk_next (by decide +kernel) ?_ | exact lk_here | assumption)), (by repeat (first | refine lk_free (by decide +kernel) ?_ | refine lk_drop (by decide +kernel) ?_ | refine lk_next (by decide +kernel) ?_ | exact lk_here | assumption)), (by repeat (first | refine lk_free (by decide +kernel) ?_ | refine lk_drop (by decide +kernel) ?_ | refine lk_next (by decide +kernel) ?_ | exact lk_here | assumption)), 0, rfl, by decide, (by repeat (first | refine lk_free (by decide +kernel) ?_ | refine lk_drop (by decide +kernel) ?_ | refine lk_next (by decide +kernel) ?_ | exact lk_here | assumption))⟩ ?_ ?_) ?_
  · rintro y ys ρ own ⟨rfl, j1, j2, j3, j, j5, j6, j7⟩
    have hj5 : j < 5 := by
      rcases Nat.lt_or_ge j 5 with q | q
      · exact q
      · rw [List.drop_eq_nil_of_le (by simpa using q)] at j5; cases j5
    have hyj : y = j ∧ ys = (List.range 5).drop (j + 1) := by
      rw [List.drop_eq_getElem_cons (by simpa using hj5)] at j5
      injection j5 with e1 e2
      exact ⟨by rw [e1]; simp, e2⟩
    obtain ⟨rfl, hys⟩ := hyj
    have htlen := texts_len a b y (by omega)
    have hpre := texts_pre a b y (by omega) y (Nat.le_refl y)
    have hrowl := texts_row a b y (by omega)
    have hp2 := pow_le (n := y) (by omega)
    refine ⟨rfl, _, bind_name (by decide +kernel), ?_⟩
    refine wx_step (e1_append (d := Tl (nNext [a, b] ((nTexts [a, b] y).getD y []))) (by rfl) ((ev_comp (comp_two (by decide +kernel) rfl (it_list rfl (ev_item rfl (ev_name (by decide +kernel) (by repeat (first | refine lk_free (by decide +kernel) ?_ | refine lk_drop (by decide +kernel) ?_ | refine lk_next (by decide +kernel) ?_ | exact lk_here | assumption))) (ev_name (by decide +kernel) (by repeat (first | refine lk_free (by decide +kernel) ?_ | refine lk_drop (by decide +kernel) ?_ | refine lk_next (by decide +kernel) ?_ | exact lk_here | assumption))) (p_item_nat (i := y) (d := Tl ((nTexts [a, b] y).getD y [])) (by omega) (by omega) (enc_get (by omega)))) (by rw [List.length_map, hpre, hrowl]; omega)) (comp_pairs (β := Nat) (ds2 := fun (one : List Nat) => [a, b].map fun c => Sx [c]) (f := fun (one : List Nat) => [a, b].map fun s => Sx (one ++ [s])) (new_free (by decide +kernel)) (fun one ho => it_str rfl (ev_name (by decide +kernel) (by repeat (first | refine lk_free (by decide +kernel) ?_ | refine lk_drop (by decide +kernel) ?_ | refine lk_next (by decide +kernel) ?_ | exact lk_here | assumption))) (by simp)) (fun one ho => comp_map (xs := [a, b]) (g := fun c => Sx [c]) (new_next (by decide +kernel) (new_free (by decide +kernel))) (fun s hs => ev_bin (ev_name (by decide +kernel) (by repeat (first | refine lk_free (by decide +kernel) ?_ | refine lk_drop (by decide +kernel) ?_ | refine lk_next (by decide +kernel) ?_ | exact lk_here | assumption))) (ev_name (by decide +kernel) (by repeat (first | refine lk_free (by decide +kernel) ?_ | refine lk_drop (by decide +kernel) ?_ | refine lk_next (by decide +kernel) ?_ | exact lk_here | assumption))) (p_add_str ?_)))) ?_)).trans ?_) ?_ (by repeat (first | refine lk_free (by decide +kernel) ?_ | refine lk_drop (by decide +kernel) ?_ | refine lk_next (by decide +kernel) ?_ | exact lk_here | assumption)) (by simp; omega)) ?_
    · rw [hpre] at ho
      have := texts_short a b y one ho
      simp; omega
    · have : ∀ l : List (List Nat), (l.flatMap fun one => [a, b].map fun s => Sx (one ++ [s])).length = 2 * l.length := by
        intro l
        induction l with
        | nil => rfl
        | cons x r ih => simp only [List.flatMap_cons, List.length_append, ih, List.length_cons, List.length_map, List.length_nil]; omega
      rw [this, hpre, hrowl]; omega
    · show some (PyData.list _) = some (PyData.list (List.map Sx (nNext [a, b] _)))
      rw [nNext, List.map_flatMap]; rfl
    · exact all_scal (fun _ => rfl) _
    refine wx_nil ⟨rfl, (by repeat (first | refine lk_free (by decide +kernel) ?_ | refine lk_drop (by decide +kernel) ?_ | refine lk_next (by decide +kernel) ?_ | exact lk_here | assumption)), (by repeat (first | refine lk_free (by decide +kernel) ?_ | refine lk_drop (by decide +kernel) ?_ | refine lk_next (by decide +kernel) ?_ | exact lk_here | assumption)), (by repeat (first | refine lk_free (by decide +kernel) ?_ | refine lk_drop (by decide +kernel) ?_ | refine lk_next (by decide +kernel) ?_ | exact lk_here | assumption)), y + 1, hys, by omega, ?_⟩
    rw [lk_here]
    simp [nTexts]
  · rintro ρ own ⟨rfl, j1, j2, j3, j, j5, j6, j7⟩
    have : j = 5 := by
      have := congrArg List.length j5
      simp at this; omega
    subst this
    exact ⟨j1, j2, j3, j7⟩
  rintro ρ own ⟨j1, j2, j3, j4⟩
  have hT4 := texts_mem a b (j := 4) (by decide)
  have hT5 := texts_mem a b (j := 5) (by decide)
  have htl5 := texts_len a b 5 (by decide)
  have htl4 := texts_len a b 4 (by decide)
  have hcut : sl none (some 5) ((nTexts [a, b] 5).map Tl) = (nTexts [a, b] 4).map Tl := by rw [sl_map, texts_four]
  have htold : ∀ (wq : List Nat) (l : List (List Nat)), (PyData.list (l.map fun t => Bx (em wq t))) = Bl (l.map (em wq)) := fun wq l => by
    show PyData.list _ = PyData.list ((l.map (em wq)).map .bool)
    rw [List.map_map]; rfl
  -- the first name told
  refine wx_step (e1_if_f (ts_cmp (x := .list (((nTexts [a, b] 4).map fun l => l.map (em nm)).map Bl)) (y := .list ((taken nm (nTexts [a, b] 4)).map Bl)) rfl ((ev_comp (comp_one (by decide +kernel) rfl ((it_list rfl (ev_slice (ev_name (by decide +kernel) (by repeat (first | refine lk_free (by decide +kernel) ?_ | refine lk_drop (by decide +kernel) ?_ | refine lk_next (by decide +kernel) ?_ | exact lk_here | assumption))) eo_none (eo_some (ev_const rfl) rfl) eo_none (p_slice_list (by simp; omega))) (by rw [hcut]; simp; omega)).trans (by rw [hcut])) (comp_map (g := Tl) (f := fun l : List (List Nat) => Bl (l.map (em nm))) (new_free (by decide +kernel)) (fun l hl => (ev_fun (by decide +kernel) (by decide +kernel) (evs_cons rfl (ev_name (by decide +kernel) (by repeat (first | refine lk_free (by decide +kernel) ?_ | refine lk_drop (by decide +kernel) ?_ | refine lk_next (by decide +kernel) ?_ | exact lk_here | assumption))) (evs_cons rfl (ev_name (by decide +kernel) (by repeat (first | refine lk_free (by decide +kernel) ?_ | refine lk_drop (by decide +kernel) ?_ | refine lk_next (by decide +kernel) ?_ | exact lk_here | assumption))) evs_nil)) (told_ge (by omega) nm l (by omega) (by have := (hT4 l hl).1; omega) (hT4 l hl).2)).trans (by rw [htold]))))).trans ?_)
    (ev_fun (by decide +kernel) (by decide +kernel) (evs_cons rfl (ev_name (by decide +kernel) (by repeat (first | refine lk_free (by decide +kernel) ?_ | refine lk_drop (by decide +kernel) ?_ | refine lk_next (by decide +kernel) ?_ | exact lk_here | assumption))) (evs_cons rfl ((ev_slice (ev_name (by decide +kernel) (by repeat (first | refine lk_free (by decide +kernel) ?_ | refine lk_drop (by decide +kernel) ?_ | refine lk_next (by decide +kernel) ?_ | exact lk_here | assumption))) eo_none (eo_some (ev_const rfl) rfl) eo_none (p_slice_list (by simp; omega))).trans (by rw [hcut])) evs_nil)) (taken_ge (by omega) nm _ (by omega) (texts_ok a b))) ((p_ne_list eqv_Bl (fun _ _ => lay_Bl _) (fun _ _ => lay_Bl _) (fun _ _ => dep_Bl _)).trans (by rw [hfst]; rfl))) ex_nil) ?_
  · rw [List.map_map]; rfl
  -- the second name told
  refine wx_step (e1_let (d := .list (((nTexts [a, b] 5).map fun l => l.map (em wd)).map Bl)) (by decide +kernel) ((ev_comp (comp_one (by decide +kernel) rfl (it_list rfl (ev_name (by decide +kernel) (by repeat (first | refine lk_free (by decide +kernel) ?_ | refine lk_drop (by decide +kernel) ?_ | refine lk_next (by decide +kernel) ?_ | exact lk_here | assumption))) (by simp; omega)) (comp_map (g := Tl) (f := fun l : List (List Nat) => Bl (l.map (em wd))) (new_free (by decide +kernel)) (fun l hl => (ev_fun (by decide +kernel) (by decide +kernel) (evs_cons rfl (ev_name (by decide +kernel) (by repeat (first | refine lk_free (by decide +kernel) ?_ | refine lk_drop (by decide +kernel) ?_ | refine lk_next (by decide +kernel) ?_ | exact lk_here | assumption))) (evs_cons rfl (ev_name (by decide +kernel) (by repeat (first | refine lk_free (by decide +kernel) ?_ | refine lk_drop (by decide +kernel) ?_ | refine lk_next (by decide +kernel) ?_ | exact lk_here | assumption))) evs_nil)) (told_ge (by omega) wd l hwlen (by have := (hT5 l hl).1; omega) (hT5 l hl).2)).trans (by rw [htold]))))).trans (by rw [List.map_map]; rfl)) rfl (by decide +kernel)) ?_
  have hbl : ∀ l ∈ ((nTexts [a, b] 5).map fun l => l.map (em wd)), l.length ≤ 32 := by
    intro l hl
    obtain ⟨m, hm, rfl⟩ := List.mem_map.mp hl
    rw [List.length_map]; exact (hT5 m hm).1
  have hlens6 : ((nTexts [a, b] 5).map fun l => (l.length : Int)) = [1, 2, 4, 8, 16, 32] := rfl
  refine wx_step (e1_if_f (ts_bool ((tb_or (g := false) (h := false) (ts_cmp (x := .list (((nTexts [a, b] 5).map fun l => (l.length : Int)).map .int)) (y := .list ([1, 2, 4, 8, 16, 32].map .int)) rfl ((ev_comp (comp_one (by decide +kernel) rfl (it_list rfl (ev_name (by decide +kernel) (by repeat (first | refine lk_free (by decide +kernel) ?_ | refine lk_drop (by decide +kernel) ?_ | refine lk_next (by decide +kernel) ?_ | exact lk_here | assumption))) (by simp; omega)) (comp_map (g := Bl) (f := fun l : List Bool => PyData.int l.length) (new_free (by decide +kernel)) (fun l hl => (ev_blt (by decide +kernel) (evs_cons rfl (ev_name (by decide +kernel) (by repeat (first | refine lk_free (by decide +kernel) ?_ | refine lk_drop (by decide +kernel) ?_ | refine lk_next (by decide +kernel) ?_ | exact lk_here | assumption))) evs_nil) (p_len_list (by have := hbl l hl; simp; omega))).trans (by simp))))).trans ?_) (ev_list (evs_cons rfl (ev_const rfl) (evs_cons rfl (ev_const rfl) (evs_cons rfl (ev_const rfl) (evs_cons rfl (ev_const rfl) (evs_cons rfl (ev_const rfl) (evs_cons rfl (ev_const rfl) evs_nil)))))) (by simp)) (p_ne_ints.trans (by rw [hlens6]; rfl)))
    fun _ => tb_or (g := false) (h := false) (ts_cmp (x := .list (((nTexts [a, b] 5).map fun l => countT (l.map (em wd))).map .int)) (y := .list ((counts wd [a, b]).map .int)) rfl ((ev_comp (comp_one (by decide +kernel) rfl (it_list rfl (ev_name (by decide +kernel) (by repeat (first | refine lk_free (by decide +kernel) ?_ | refine lk_drop (by decide +kernel) ?_ | refine lk_next (by decide +kernel) ?_ | exact lk_here | assumption))) (by simp; omega)) (comp_map (g := Bl) (f := fun l : List Bool => PyData.int (countT l)) (new_free (by decide +kernel)) (fun l hl => ev_blt (by decide +kernel) (evs_cons rfl (ev_name (by decide +kernel) (by repeat (first | refine lk_free (by decide +kernel) ?_ | refine lk_drop (by decide +kernel) ?_ | refine lk_next (by decide +kernel) ?_ | exact lk_here | assumption))) evs_nil) (p_sum_bool (by have := hbl l hl; omega)))))).trans ?_) (ev_fun (by decide +kernel) (by decide +kernel) (evs_cons rfl (ev_name (by decide +kernel) (by repeat (first | refine lk_free (by decide +kernel) ?_ | refine lk_drop (by decide +kernel) ?_ | refine lk_next (by decide +kernel) ?_ | exact lk_here | assumption))) (evs_cons rfl (ev_name (by decide +kernel) (by repeat (first | refine lk_free (by decide +kernel) ?_ | refine lk_drop (by decide +kernel) ?_ | refine lk_next (by decide +kernel) ?_ | exact lk_here | assumption))) evs_nil)) (counts_ge (by omega) wd [a, b] hwlen hc2 hs1)) (p_ne_ints.trans (by rw [hs2]; simp))) fun _ => tb_or_nil).trans rfl)) ex_nil) ?_
  · rw [List.map_map, List.map_map]; congr 2
  · rw [List.map_map, List.map_map]; rfl
  -- and its pieces, end to end
  have htk := tok_all (P := fun p => p.length ≤ 100) wd fun p h _ => by omega
  have htkl := tok_len wd
  have hjl : (joinN [] (tok wd)).length ≤ 100 := by
    have h1 := tok_flat wd
    have h2 : ∀ ps : List (List Nat), joinN [] ps = ps.flatten := by
      intro ps
      induction ps with
      | nil => rfl
      | cons p r ih =>
        cases r with
        | nil => simp [joinN]
        | cons q r => simp only [joinN, ih]; simp
    rw [h2]; omega
  refine wx_ret (e1_ret (ev_cmp rfl (ev_fun (by decide +kernel) (by decide +kernel) (evs_cons rfl (ev_name (by decide +kernel) (by repeat (first | refine lk_free (by decide +kernel) ?_ | refine lk_drop (by decide +kernel) ?_ | refine lk_next (by decide +kernel) ?_ | exact lk_here | assumption))) (evs_cons rfl (ev_meth rfl (ev_const (cs (l := []) (by decide +kernel) (by decide +kernel))) (evs_cons rfl (ev_fun (by decide +kernel) (by decide +kernel) (evs_cons rfl (ev_name (by decide +kernel) (by repeat (first | refine lk_free (by decide +kernel) ?_ | refine lk_drop (by decide +kernel) ?_ | refine lk_next (by decide +kernel) ?_ | exact lk_here | assumption))) evs_nil) (tok_ge (by omega) wd hwlen)) evs_nil) (p_join (by decide) ?_ (fun p hp => by have := htk p hp; omega))) evs_nil)) (em_ge (by omega) wd _ hwlen hjl)) (ev_const rfl) rfl)) (ret_ok ?_)
  · have hwl2 : wd.length ≤ 99 := by rw [← hwide]; simp [nWide, bl] at hfr2 ⊢; omega
    omega
  · rw [hs3]; rfl
end Mine
end

section
set_option maxRecDepth 100000
set_option linter.unusedVariables false
namespace Mine
open PySem

/-! the texts by their first sign -/
noncomputable def Tf (a b : Nat) : Nat → List (List Nat)
  | 0 => [[]]
  | n + 1 => (Tf a b n).map (a :: ·) ++ (Tf a b n).map (b :: ·)
theorem texts_Tf (a b : Nat) : nTexts [a, b] 5 = (List.range 6).map (Tf a b) := rfl
theorem next_app (a b : Nat) (l m : List (List Nat)) : nNext [a, b] (l ++ m) = nNext [a, b] l ++ nNext [a, b] m := by simp [nNext]
theorem next_map (a b c : Nat) : ∀ l : List (List Nat), nNext [a, b] (l.map (c :: ·)) = (nNext [a, b] l).map (c :: ·)
  | [] => rfl
  | x :: l => by
    have := next_map a b c l
    simp only [nNext, List.map_cons, List.flatMap_cons, List.map_append] at this ⊢
    rw [this]; rfl
theorem next_Tf (a b : Nat) : ∀ n, nNext [a, b] (Tf a b n) = Tf a b (n + 1)
  | 0 => rfl
  | n + 1 => by
    show nNext [a, b] ((Tf a b n).map (a :: ·) ++ (Tf a b n).map (b :: ·)) = (Tf a b (n + 1)).map (a :: ·) ++ (Tf a b (n + 1)).map (b :: ·)
    rw [next_app, next_map, next_map, next_Tf a b n]
theorem cnt_front (a b n : Nat) (f : List Nat → Bool) : (Tf a b (n + 1)).countP f = (Tf a b n).countP (fun g => f (a :: g)) + (Tf a b n).countP (fun g => f (b :: g)) := by
  show ((Tf a b n).map (a :: ·) ++ (Tf a b n).map (b :: ·)).countP f = _
  rw [List.countP_append, List.countP_map, List.countP_map]; rfl
theorem cnt_next (a b : Nat) (f : List Nat → Bool) : ∀ l : List (List Nat), (nNext [a, b] l).countP f = l.countP (fun g => f (g ++ [a])) + l.countP (fun g => f (g ++ [b]))
  | [] => rfl
  | x :: l => by
    have := cnt_next a b f l
    have e : nNext [a, b] (x :: l) = [x ++ [a], x ++ [b]] ++ nNext [a, b] l := rfl
    rw [e, List.countP_append, this]
    simp only [List.countP_cons, List.countP_nil]
    omega
theorem cnt_back (a b n : Nat) (f : List Nat → Bool) : (Tf a b (n + 1)).countP f = (Tf a b n).countP (fun g => f (g ++ [a])) + (Tf a b n).countP (fun g => f (g ++ [b])) := by
  rw [← next_Tf, cnt_next]
theorem count_T (l : List (List Nat)) (f : List Nat → Bool) : countT (l.map f) = (l.countP f : Int) := by
  unfold countT
  induction l with
  | nil => rfl
  | cons x l ih =>
    simp only [List.map_cons, List.sum_cons, List.countP_cons]
    rw [List.map_map] at ih ⊢
    rw [ih]
    cases f x <;> simp <;> omega
theorem cnt_false (l : List (List Nat)) : l.countP (fun _ => false) = 0 := by
  induction l with
  | nil => rfl
  | cons x l ih => rw [List.countP_cons, ih]; rfl

/-! what stands ahead, and what behind -/
noncomputable def emQ (p0 : List Nat) (mids : List (List Nat)) (last g : List Nat) : Bool :=
  p0.isPrefixOf g && last.isSuffixOf g && Nat.ble (p0.length + last.length) g.length && greedy mids ((g.take (g.length - last.length)).drop p0.length)
theorem emP_Q (p0 : List Nat) (mids : List (List Nat)) (last g : List Nat) : emP (p0 :: (mids ++ [last])) g = emQ p0 mids last g := by
  cases mids with
  | nil => rfl
  | cons m ms =>
    show emP (p0 :: m :: (ms ++ [last])) g = _
    simp only [emP]
    have e1 : (m :: (ms ++ [last])).getLastD [] = last := by
      rw [← List.cons_append, List.getLastD_eq_getLast?, List.getLast?_append]; rfl
    have e2 : (m :: (ms ++ [last])).dropLast = m :: ms := by rw [← List.cons_append, List.dropLast_concat]
    rw [e1, e2]; rfl
theorem ble_iff {m n : Nat} : Nat.ble m n = true ↔ m ≤ n := ⟨Nat.le_of_ble_eq_true, Nat.ble_eq_true_of_le⟩
theorem Q_cons (c d : Nat) (p : List Nat) (mids : List (List Nat)) (last g : List Nat) : emQ (c :: p) mids last (d :: g) = ((c == d) && emQ p mids last g) := by
  rw [Bool.eq_iff_iff]
  unfold emQ
  simp only [Bool.and_eq_true, List.isPrefixOf_iff_prefix, List.isSuffixOf_iff_suffix, ble_iff, List.length_cons, beq_iff_eq, List.cons_prefix_cons]
  have key : last.length ≤ g.length → (List.drop (p.length + 1) (List.take (g.length + 1 - last.length) (d :: g))) = List.drop p.length (List.take (g.length - last.length) g) := by
    intro h
    rw [show g.length + 1 - last.length = (g.length - last.length) + 1 by omega, List.take_succ_cons, List.drop_succ_cons]
  have suf : last.length ≤ g.length → (last <:+ d :: g ↔ last <:+ g) := by
    intro h
    rw [List.suffix_cons_iff]
    constructor
    · rintro (e | e)
      · rw [e] at h; simp at h; omega
      · exact e
    · exact .inr
  constructor
  · rintro ⟨⟨⟨⟨h1, h2⟩, h3⟩, h4⟩, h5⟩
    have hl : last.length ≤ g.length := by omega
    exact ⟨h1, ⟨⟨h2, (suf hl).mp h3⟩, by omega⟩, by rw [← key hl]; exact h5⟩
  · rintro ⟨h1, ⟨⟨h2, h3⟩, h4⟩, h5⟩
    have hl : last.length ≤ g.length := by omega
    exact ⟨⟨⟨⟨h1, h2⟩, (suf hl).mpr h3⟩, by omega⟩, by rw [key hl]; exact h5⟩
theorem Q_snoc (c d : Nat) (l : List Nat) (mids : List (List Nat)) (g : List Nat) : emQ [] mids (l ++ [c]) (g ++ [d]) = ((c == d) && emQ [] mids l g) := by
  rw [Bool.eq_iff_iff]
  unfold emQ
  simp only [Bool.and_eq_true, List.isPrefixOf_iff_prefix, List.isSuffixOf_iff_suffix, ble_iff, List.length_append, List.length_cons, List.length_nil, beq_iff_eq, List.nil_prefix, true_and, Nat.zero_add, List.drop_zero]
  have key : (List.take (g.length + 1 - (l.length + 1)) (g ++ [d])) = List.take (g.length - l.length) g := by
    rw [show g.length + 1 - (l.length + 1) = g.length - l.length by omega, List.take_append_of_le_length (by omega)]
  rw [key]
  have suf : (l ++ [c] <:+ g ++ [d]) ↔ (c = d ∧ l <:+ g) := by
    constructor
    · rintro ⟨t, ht⟩
      rw [← List.append_assoc] at ht
      have := List.append_inj' ht rfl
      exact ⟨by simpa using this.2, t, this.1⟩
    · rintro ⟨rfl, t, rfl⟩
      exact ⟨t, by simp⟩
  rw [suf]
  constructor
  · rintro ⟨⟨⟨h1, h2⟩, h3⟩, h4⟩; exact ⟨h1, ⟨h2, by omega⟩, h4⟩
  · rintro ⟨h1, ⟨h2, h3⟩, h4⟩; exact ⟨⟨⟨h1, h2⟩, by omega⟩, h4⟩
theorem Q_zero (mids : List (List Nat)) (g : List Nat) : emQ [] mids [] g = greedy mids g := by
  unfold emQ
  simp

theorem cnt_last {a b : Nat} (hab : a ≠ b) (mids : List (List Nat)) : ∀ (r : List Nat) (n : Nat), (∀ c ∈ r, c = a ∨ c = b) → (Tf a b n).countP (emQ [] mids r.reverse) = if r.length ≤ n then (Tf a b (n - r.length)).countP (greedy mids) else 0
  | [], n, _ => by
    rw [if_pos (show ([] : List Nat).length ≤ n from Nat.zero_le _)]
    have : emQ [] mids ([] : List Nat).reverse = greedy mids := by funext g; exact Q_zero mids g
    rw [this]; rfl
  | c :: r, 0, _ => by
    rw [if_neg (by simp)]
    show ([[]] : List (List Nat)).countP _ = 0
    rw [List.countP_cons, List.countP_nil]
    have : emQ [] mids (c :: r).reverse [] = false := by
      unfold emQ
      have : Nat.ble (([] : List Nat).length + (c :: r).reverse.length) ([] : List Nat).length = false := by simp; rfl
      rw [this]; simp
    rw [this]; rfl
  | c :: r, n + 1, h => by
    have ih := cnt_last hab mids r n fun x hx => h x (List.mem_cons_of_mem _ hx)
    rw [cnt_back]
    have e : ∀ d, (fun g => emQ [] mids (c :: r).reverse (g ++ [d])) = fun g => (c == d) && emQ [] mids r.reverse g := fun d => by
      funext g; rw [List.reverse_cons]; exact Q_snoc c d _ _ g
    rw [e a, e b]
    have hf : ∀ d, c ≠ d → (Tf a b n).countP (fun g => (c == d) && emQ [] mids r.reverse g) = 0 := fun d hd => by
      have : (fun g => (c == d) && emQ [] mids r.reverse g) = fun _ => false := by funext g; simp [hd]
      rw [this]; exact cnt_false _
    have ht : (Tf a b n).countP (fun g => (c == c) && emQ [] mids r.reverse g) = (Tf a b n).countP (emQ [] mids r.reverse) := by
      congr 1; funext g; simp
    have fin : (Tf a b n).countP (emQ [] mids r.reverse) = if (c :: r).length ≤ n + 1 then (Tf a b (n + 1 - (c :: r).length)).countP (greedy mids) else 0 := by
      rw [ih]
      simp only [List.length_cons]
      by_cases q : r.length ≤ n
      · rw [if_pos q, if_pos (by omega), show n + 1 - (r.length + 1) = n - r.length by omega]
      · rw [if_neg q, if_neg (by omega)]
    rcases h c List.mem_cons_self with rfl | rfl
    · rw [hf b hab, ht, Nat.add_zero]; exact fin
    · rw [hf a (Ne.symm hab), ht, Nat.zero_add]; exact fin
theorem cnt_all {a b : Nat} (hab : a ≠ b) (mids : List (List Nat)) (last : List Nat) (hl : ∀ c ∈ last, c = a ∨ c = b) : ∀ (p : List Nat) (n : Nat), (∀ c ∈ p, c = a ∨ c = b) → (Tf a b n).countP (emQ p mids last) = if p.length + last.length ≤ n then (Tf a b (n - (p.length + last.length))).countP (greedy mids) else 0
  | [], n, _ => by
    have := cnt_last hab mids last.reverse n fun c hc => hl c (List.mem_reverse.mp hc)
    rw [List.reverse_reverse] at this
    rw [this]
    simp
  | c :: p, 0, _ => by
    rw [if_neg (by simp)]
    show ([[]] : List (List Nat)).countP _ = 0
    rw [List.countP_cons, List.countP_nil]
    rfl
  | c :: p, n + 1, h => by
    have ih := cnt_all hab mids last hl p n fun x hx => h x (List.mem_cons_of_mem _ hx)
    rw [cnt_front]
    have e : ∀ d, (fun g => emQ (c :: p) mids last (d :: g)) = fun g => (c == d) && emQ p mids last g := fun d => by funext g; exact Q_cons c d p mids last g
    rw [e a, e b]
    have hf : ∀ d, c ≠ d → (Tf a b n).countP (fun g => (c == d) && emQ p mids last g) = 0 := fun d hd => by
      have : (fun g => (c == d) && emQ p mids last g) = fun _ => false := by funext g; simp [hd]
      rw [this]; exact cnt_false _
    have ht : (Tf a b n).countP (fun g => (c == c) && emQ p mids last g) = (Tf a b n).countP (emQ p mids last) := by
      congr 1; funext g; simp
    have fin : (Tf a b n).countP (emQ p mids last) = if (c :: p).length + last.length ≤ n + 1 then (Tf a b (n + 1 - ((c :: p).length + last.length))).countP (greedy mids) else 0 := by
      rw [ih]
      simp only [List.length_cons]
      by_cases q : p.length + last.length ≤ n
      · rw [if_pos q, if_pos (by omega), show n + 1 - (p.length + 1 + last.length) = n - (p.length + last.length) by omega]
      · rw [if_neg q, if_neg (by omega)]
    rcases h c List.mem_cons_self with rfl | rfl
    · rw [hf b hab, ht, Nat.add_zero]; exact fin
    · rw [hf a (Ne.symm hab), ht, Nat.zero_add]; exact fin
/-- a first piece with a sign of no text -/
theorem cnt_alien {a b c : Nat} (ha : c ≠ a) (hb : c ≠ b) (p : List Nat) (mids : List (List Nat)) (last : List Nat) : ∀ n, (Tf a b n).countP (emQ (c :: p) mids last) = 0
  | 0 => rfl
  | n + 1 => by
    rw [cnt_front]
    have e : ∀ d, c ≠ d → (fun g => emQ (c :: p) mids last (d :: g)) = fun _ => false := fun d hd => by funext g; rw [Q_cons]; simp [hd]
    rw [e a ha, e b hb, cnt_false]
/-- its own pieces end to end -/
theorem Q_self (p0 : List Nat) (mids : List (List Nat)) (last m : List Nat) : emQ p0 mids last (p0 ++ (m ++ last)) = greedy mids m := by
  unfold emQ
  have h1 : p0.isPrefixOf (p0 ++ (m ++ last)) = true := List.isPrefixOf_iff_prefix.mpr (List.prefix_append _ _)
  have h2 : last.isSuffixOf (p0 ++ (m ++ last)) = true := List.isSuffixOf_iff_suffix.mpr ⟨p0 ++ m, by simp⟩
  have h3 : Nat.ble (p0.length + last.length) (p0 ++ (m ++ last)).length = true := ble_iff.mpr (by simp only [List.length_append]; omega)
  have h4 : List.drop p0.length (List.take ((p0 ++ (m ++ last)).length - last.length) (p0 ++ (m ++ last))) = m := by
    rw [← List.append_assoc, show ((p0 ++ m) ++ last).length - last.length = (p0 ++ m).length by (simp only [List.length_append]; omega), List.take_left, List.drop_left]
  rw [h1, h2, h3, h4]; rfl
end Mine
end

section
set_option maxRecDepth 100000
set_option linter.unusedVariables false
namespace Mine
open PySem

/-! reading from the left: the pieces turned round, and what has been read since the last piece, turned round -/
noncomputable def pf (l : List Nat) : List Nat → Bool := List.rec (motive := fun _ => List Nat → Bool) (fun _ => true) (fun x _ ih ys => List.rec (motive := fun _ => Bool) false (fun y ys' _ => Bool.rec (motive := fun _ => Bool) false (ih ys') (Nat.beq x y)) ys) l
theorem pf_eq : ∀ l ys : List Nat, pf l ys = l.isPrefixOf ys
  | [], ys => by cases ys <;> rfl
  | x :: xs, [] => rfl
  | x :: xs, y :: ys => by
    have ih := pf_eq xs ys
    show Bool.rec (motive := fun _ => Bool) false (pf xs ys) (Nat.beq x y) = (x == y && xs.isPrefixOf ys)
    rw [ih]
    have : (x == y) = Nat.beq x y := by
      rw [Bool.eq_iff_iff, beq_iff_eq]
      exact ⟨fun h => by rw [h]; exact Nat.beq_refl y, fun h => Nat.eq_of_beq_eq_true h⟩
    rw [this]
    cases Nat.beq x y <;> rfl
noncomputable def scR (ms : List (List Nat)) : List Nat → List Nat → Bool :=
  List.rec (motive := fun _ => List Nat → List Nat → Bool) (fun _ _ => true)
    (fun m _ ih w t => List.rec (motive := fun _ => List Nat → Bool) (fun w => Bool.rec (motive := fun _ => Bool) false (ih [] []) (pf m w))
      (fun c t' iht w => Bool.rec (motive := fun _ => Bool) (iht (c :: w)) (ih [] (c :: t')) (pf m w)) t w) ms
noncomputable def wkR (a b : Nat) (ms : List (List Nat)) : List Nat → Nat → Nat :=
  List.rec (motive := fun _ => List Nat → Nat → Nat) (fun _ n => Nat.pow 2 n)
    (fun m _ ih w n => Nat.rec (motive := fun _ => List Nat → Nat) (fun w => Bool.rec (motive := fun _ => Nat) 0 (ih [] 0) (pf m w))
      (fun k ihk w => Bool.rec (motive := fun _ => Nat) (Nat.add (ihk (a :: w)) (ihk (b :: w))) (ih [] (Nat.succ k)) (pf m w)) n w) ms
theorem sc_nil (w t : List Nat) : scR [] w t = true := rfl
theorem sc_hit {m w : List Nat} (ms : List (List Nat)) (t : List Nat) (h : pf m w = true) : scR (m :: ms) w t = scR ms [] t := by
  cases t with
  | nil =>
    show Bool.rec (motive := fun _ => Bool) false (scR ms [] []) (pf m w) = _
    rw [h]
  | cons c t =>
    show Bool.rec (motive := fun _ => Bool) (scR (m :: ms) (c :: w) t) (scR ms [] (c :: t)) (pf m w) = _
    rw [h]
theorem sc_end {m w : List Nat} (ms : List (List Nat)) (h : pf m w = false) : scR (m :: ms) w [] = false := by
  show Bool.rec (motive := fun _ => Bool) false (scR ms [] []) (pf m w) = _
  rw [h]
theorem sc_go {m w : List Nat} (ms : List (List Nat)) (c : Nat) (t : List Nat) (h : pf m w = false) : scR (m :: ms) w (c :: t) = scR (m :: ms) (c :: w) t := by
  show Bool.rec (motive := fun _ => Bool) (scR (m :: ms) (c :: w) t) (scR ms [] (c :: t)) (pf m w) = _
  rw [h]
theorem wk_hit {a b : Nat} {m w : List Nat} (ms : List (List Nat)) (n : Nat) (h : pf m w = true) : wkR a b (m :: ms) w n = wkR a b ms [] n := by
  cases n with
  | zero =>
    show Bool.rec (motive := fun _ => Nat) 0 (wkR a b ms [] 0) (pf m w) = _
    rw [h]
  | succ n =>
    show Bool.rec (motive := fun _ => Nat) (wkR a b (m :: ms) (a :: w) n + wkR a b (m :: ms) (b :: w) n) (wkR a b ms [] (n + 1)) (pf m w) = _
    rw [h]
theorem wk_end {a b : Nat} {m w : List Nat} (ms : List (List Nat)) (h : pf m w = false) : wkR a b (m :: ms) w 0 = 0 := by
  show Bool.rec (motive := fun _ => Nat) 0 (wkR a b ms [] 0) (pf m w) = _
  rw [h]
theorem wk_go {a b : Nat} {m w : List Nat} (ms : List (List Nat)) (n : Nat) (h : pf m w = false) : wkR a b (m :: ms) w (n + 1) = wkR a b (m :: ms) (a :: w) n + wkR a b (m :: ms) (b :: w) n := by
  show Bool.rec (motive := fun _ => Nat) (wkR a b (m :: ms) (a :: w) n + wkR a b (m :: ms) (b :: w) n) (wkR a b ms [] (n + 1)) (pf m w) = _
  rw [h]
theorem Tf_len (a b : Nat) : ∀ n, (Tf a b n).length = 2 ^ n
  | 0 => rfl
  | n + 1 => by
    show ((Tf a b n).map (a :: ·) ++ (Tf a b n).map (b :: ·)).length = _
    rw [List.length_append, List.length_map, List.length_map, Tf_len a b n, Nat.pow_succ]; omega
theorem cnt_scan (a b : Nat) : ∀ (ms : List (List Nat)) (n : Nat) (w : List Nat), (Tf a b n).countP (scR ms w) = wkR a b ms w n
  | [], n, w => by
    show (Tf a b n).countP (fun _ => true) = 2 ^ n
    rw [← Tf_len a b n]; simp
  | m :: ms, n, w => by
    have IH := cnt_scan a b ms
    induction n generalizing w with
    | zero =>
      cases h : pf m w with
      | true =>
        rw [wk_hit ms 0 h, ← IH 0 []]
        congr 1; funext t; exact sc_hit ms t h
      | false =>
        rw [wk_end ms h]
        show ([[]] : List (List Nat)).countP _ = 0
        rw [List.countP_cons, List.countP_nil, sc_end ms h]; rfl
    | succ n ih =>
      cases h : pf m w with
      | true =>
        rw [wk_hit ms (n + 1) h, ← IH (n + 1) []]
        congr 1; funext t; exact sc_hit ms t h
      | false =>
        rw [wk_go ms n h, cnt_front, ← ih (a :: w), ← ih (b :: w)]
        congr 1
        · congr 1; funext t; exact sc_go ms a t h
        · congr 1; funext t; exact sc_go ms b t h

theorem occ_back {m w s : List Nat} {k : Nat} (h : m <+: (w.reverse ++ s).drop k) (hk : k + m.length ≤ w.length) : m.reverse <+: w.drop (w.length - (k + m.length)) := by
  rw [List.drop_append_of_le_length (by simp; omega)] at h
  have hm : m <+: w.reverse.drop k := by
    have := List.prefix_of_prefix_length_le h (List.prefix_append (w.reverse.drop k) s) (by simp; omega)
    exact this
  obtain ⟨r, hr⟩ := hm
  have e : w.reverse = w.reverse.take k ++ (m ++ r) := by rw [hr, List.take_append_drop]
  have hl : r.length = w.length - (k + m.length) := by
    have := congrArg List.length hr
    simp at this; omega
  have e2 : w = r.reverse ++ (m.reverse ++ (w.reverse.take k).reverse) := by
    have := congrArg List.reverse e
    rw [List.reverse_reverse, List.reverse_append, List.reverse_append, List.append_assoc] at this
    exact this
  rw [← hl]
  conv => rhs; rw [e2]
  rw [show r.length = r.reverse.length by simp, List.drop_left]
  exact List.prefix_append ..
theorem scan_one (m : List Nat) (ms : List (List Nat)) : ∀ (s w : List Nat), (∀ j, 0 < j → j ≤ w.length → ¬ m.reverse <+: w.drop j) → scR (m.reverse :: ms) w s = match findR m (w.reverse ++ s) with
    | some r => scR ms [] r
    | none => false := by
  intro s
  induction s with
  | nil =>
    intro w hw
    cases h : pf m.reverse w with
    | true =>
      rw [sc_hit ms [] h]
      rw [pf_eq, List.isPrefixOf_iff_prefix] at h
      obtain ⟨u, hu⟩ := h
      have e : w.reverse = u.reverse ++ m := by rw [← hu]; simp
      rw [findR_at (j := u.reverse.length) (fun k hk hp => ?_) ?_ (by rw [e]; simp)]
      · simp only []
        rw [List.append_nil, e, List.drop_left, List.drop_length]
      · rw [List.append_nil, e, List.drop_left]; exact List.prefix_rfl
      · have hl : w.length = m.length + u.length := by rw [← hu]; simp
        simp at hk
        have := occ_back hp (by omega)
        exact hw _ (by omega) (by omega) this
    | false =>
      rw [sc_end ms h]
      rw [findR_no fun k hk hp => ?_]
      have hle := hp.length_le
      rw [List.append_nil] at hk hle
      simp at hk hle
      have := occ_back hp (by omega)
      by_cases hz : w.length - (k + m.length) = 0
      · rw [hz, List.drop_zero] at this
        rw [pf_eq] at h
        rw [List.isPrefixOf_iff_prefix.mpr this] at h; cases h
      · exact hw _ (by omega) (by omega) this
  | cons c s ih =>
    intro w hw
    cases h : pf m.reverse w with
    | true =>
      rw [sc_hit ms (c :: s) h]
      rw [pf_eq, List.isPrefixOf_iff_prefix] at h
      obtain ⟨u, hu⟩ := h
      have e : w.reverse = u.reverse ++ m := by rw [← hu]; simp
      rw [findR_at (j := u.reverse.length) (fun k hk hp => ?_) ?_ (by rw [e]; simp)]
      · simp only []
        rw [e, List.append_assoc, List.drop_left, List.drop_left]
      · rw [e, List.append_assoc, List.drop_left]; exact List.prefix_append ..
      · have hl : w.length = m.length + u.length := by rw [← hu]; simp
        simp at hk
        have := occ_back hp (by omega)
        exact hw _ (by omega) (by omega) this
    | false =>
      rw [sc_go ms c s h, ih (c :: w) ?_]
      · rw [List.reverse_cons, List.append_assoc]; rfl
      · intro j hj hjl hp
        obtain ⟨j', rfl⟩ : ∃ j', j = j' + 1 := ⟨j - 1, by omega⟩
        rw [List.drop_succ_cons] at hp
        by_cases hz : j' = 0
        · rw [hz, List.drop_zero] at hp
          rw [pf_eq] at h
          rw [List.isPrefixOf_iff_prefix.mpr hp] at h; cases h
        · exact hw j' (by omega) (by simp at hjl; omega) hp
theorem greedy_scan : ∀ (ms : List (List Nat)) (s : List Nat), greedy ms s = scR (ms.map List.reverse) [] s
  | [], s => rfl
  | m :: ms, s => by
    rw [List.map_cons, scan_one m _ s [] (fun j h1 h2 => by simp at h2; omega)]
    simp only [greedy, List.reverse_nil, List.nil_append]
    cases findR m s with
    | none => rfl
    | some r => exact greedy_scan ms r
theorem cnt_greedy (a b n : Nat) (ms : List (List Nat)) : (Tf a b n).countP (greedy ms) = wkR a b (ms.map List.reverse) [] n := by
  rw [← cnt_scan]
  congr 1; funext s; exact greedy_scan ms s
end Mine
end

section
set_option maxRecDepth 100000
set_option linter.unusedVariables false
namespace Mine
open PySem

noncomputable def wList (a b : Nat) (ms : List (List Nat)) : List Int := (List.range 6).map fun n => (wkR a b (ms.map List.reverse) [] n : Int)
theorem wk_le (a b : Nat) (ms : List (List Nat)) (n : Nat) : wkR a b ms [] n ≤ 2 ^ n := by
  rw [← cnt_scan, ← Tf_len a b n]; exact List.countP_le_length
theorem wList_small (a b : Nat) (ms : List (List Nat)) : (wList a b ms).all small = true := by
  rw [List.all_eq_true]
  intro x hx
  obtain ⟨n, hn, rfl⟩ := List.mem_map.mp hx
  have h1 := wk_le a b (ms.map List.reverse) n
  have h2 := pow_le (n := n) (by simpa using hn)
  simp [small]; omega
theorem wList_len (a b : Nat) (ms : List (List Nat)) : (wList a b ms).length = 6 := by simp [wList]
theorem greedy_self : ∀ ms : List (List Nat), greedy ms ms.flatten = true
  | [] => rfl
  | m :: ms => by
    simp only [List.flatten_cons, greedy]
    rw [findR_at (j := 0) (fun k hk => by omega) (by simp) (by simp)]
    simp only [List.drop_zero, List.drop_left]
    exact greedy_self ms
theorem greedy_drop : ∀ (pre rest : List (List Nat)) (s : List Nat), greedy (pre ++ [] :: rest) s = greedy (pre ++ rest) s
  | [], rest, s => greedy_head rest s
  | m :: pre, rest, s => by
    simp only [List.cons_append, greedy]
    split
    · exact greedy_drop pre rest _
    · rfl
theorem wk_greedy {a b : Nat} {ms ms' : List (List Nat)} (h : ∀ s, greedy ms s = greedy ms' s) : wList a b ms = wList a b ms' := by
  unfold wList
  apply List.map_congr_left
  intro n _
  rw [← cnt_greedy, ← cnt_greedy, show greedy ms = greedy ms' from funext h]
theorem greedy_filter : ∀ (ms : List (List Nat)) (s : List Nat), greedy (ms.filter fun p => !p.isEmpty) s = greedy ms s
  | [], s => rfl
  | [] :: ms, s => by
    rw [List.filter_cons_of_neg (by simp), greedy_head]; exact greedy_filter ms s
  | (c :: p) :: ms, s => by
    rw [List.filter_cons_of_pos (by simp)]
    simp only [greedy]
    split
    · exact greedy_filter ms _
    · rfl
theorem step_nil {row : List Int} (h : row.length = 6) : cStep row [] = row := by
  have hc : ∀ i, cCoef [] i = 0 := by
    intro i
    unfold cCoef
    have hz : ∀ x ∈ cFit ([] : List Nat), x = 0 := by decide
    have h1 : ∀ k, (cFit []).getD k 0 = 0 := fun k => by
      by_cases hk : k < (cFit []).length
      · have e : (cFit []).getD k 0 = (cFit [])[k] := by rw [List.getD_eq_getElem?_getD, List.getElem?_eq_getElem hk]; rfl
        rw [e]; exact hz _ (List.getElem_mem hk)
      · rw [List.getD_eq_getElem?_getD, List.getElem?_eq_none (by omega)]; rfl
    rw [h1, h1, if_neg]
    · rfl
    · simp; omega
  have hv : ∀ made n, cVal row [] made n = row.getD n 0 := by
    intro made n
    unfold cVal cAhead
    have : ((List.range n).map fun i => cCoef [] i * made.getD (n - (i + 1)) 0).sum = 0 := by
      have : ((List.range n).map fun i => cCoef [] i * made.getD (n - (i + 1)) 0) = (List.range n).map fun _ => (0 : Int) := by
        apply List.map_congr_left; intro i _; rw [hc]; simp
      rw [this]
      generalize List.range n = l
      induction l with
      | nil => rfl
      | cons x l ih => simp only [List.map_cons, List.sum_cons, ih]; rfl
    rw [this]
    simp
  obtain ⟨r0, r1, r2, r3, r4, r5, rfl⟩ : ∃ r0 r1 r2 r3 r4 r5, row = [r0, r1, r2, r3, r4, r5] := by
    match row, h with
    | [r0, r1, r2, r3, r4, r5], _ => exact ⟨_, _, _, _, _, _, rfl⟩
  unfold cStep
  simp only [cMk, hv]
  rfl

theorem Tf_mem (a b : Nat) : ∀ p : List Nat, (∀ c ∈ p, c = a ∨ c = b) → p ∈ Tf a b p.length
  | [], _ => by simp [Tf]
  | c :: p, h => by
    have ih := Tf_mem a b p fun x hx => h x (List.mem_cons_of_mem _ hx)
    show c :: p ∈ (Tf a b p.length).map (a :: ·) ++ (Tf a b p.length).map (b :: ·)
    rcases h c List.mem_cons_self with rfl | rfl
    · exact List.mem_append_left _ (List.mem_map_of_mem ih)
    · exact List.mem_append_right _ (List.mem_map_of_mem ih)
noncomputable def gen (a b : Nat) : Nat → Nat → List (List (List Nat))
  | 0, _ => [[]]
  | f + 1, k => [] :: (List.range k).flatMap fun i => (Tf a b (i + 1)).flatMap fun p => (gen a b f (k - (i + 1))).map (p :: ·)
theorem gen_mem (a b : Nat) : ∀ (f k : Nat) (ms : List (List Nat)), (∀ p ∈ ms, p ≠ [] ∧ ∀ c ∈ p, c = a ∨ c = b) → ms.flatten.length ≤ k → ms.length ≤ f → ms ∈ gen a b f k
  | 0, k, ms, _, _, hl => by
    have : ms = [] := List.length_eq_zero_iff.mp (by omega)
    subst this; simp [gen]
  | f + 1, k, [], _, _, _ => by simp [gen]
  | f + 1, k, p :: ms, h, hk, hl => by
    have hp := h p List.mem_cons_self
    have hp1 : 0 < p.length := List.length_pos_iff.mpr hp.1
    simp only [List.flatten_cons, List.length_append, List.length_cons] at hk hl
    have ih := gen_mem a b f (k - p.length) ms (fun q hq => h q (List.mem_cons_of_mem _ hq)) (by omega) (by omega)
    unfold gen
    refine List.mem_cons_of_mem _ (List.mem_flatMap.mpr ⟨p.length - 1, by simp; omega, List.mem_flatMap.mpr ⟨p, ?_, ?_⟩⟩)
    · rw [show p.length - 1 + 1 = p.length by omega]; exact Tf_mem a b p hp.2
    · rw [show k - (p.length - 1 + 1) = k - p.length by omega]; exact List.mem_map_of_mem ih
/-- one step of the sums, and the count from the left -/
noncomputable def stepOk (a b : Nat) (ms : List (List Nat)) : Bool := ms.isEmpty || cStep (wList a b ms.dropLast) (ms.getLastD []) == wList a b ms
noncomputable def UOk (a b : Nat) : Bool := (gen a b 4 4).all (stepOk a b)

theorem flat_filter : ∀ ms : List (List Nat), (ms.filter fun p => !p.isEmpty).flatten = ms.flatten
  | [] => rfl
  | [] :: ms => by rw [List.filter_cons_of_neg (by simp), List.flatten_cons, List.nil_append]; exact flat_filter ms
  | (c :: p) :: ms => by rw [List.filter_cons_of_pos (by simp), List.flatten_cons, List.flatten_cons, flat_filter ms]
theorem len_flat : ∀ ms : List (List Nat), (∀ p ∈ ms, p ≠ []) → ms.length ≤ ms.flatten.length
  | [], _ => Nat.le_refl _
  | p :: ms, h => by
    have := len_flat ms fun q hq => h q (List.mem_cons_of_mem _ hq)
    have := List.length_pos_iff.mpr (h p List.mem_cons_self)
    simp only [List.length_cons, List.flatten_cons, List.length_append]; omega
theorem step_any {a b : Nat} (hU : UOk a b = true) (pre : List (List Nat)) (m : List Nat) (h : ∀ p ∈ pre ++ [m], ∀ c ∈ p, c = a ∨ c = b) (hl : (pre ++ [m]).flatten.length ≤ 4) : cStep (wList a b pre) m = wList a b (pre ++ [m]) := by
  by_cases hm : m = []
  · subst hm
    rw [step_nil (wList_len a b pre)]
    refine wk_greedy fun s => ?_
    have := greedy_drop pre [] s
    simpa using this.symm
  · have e1 : wList a b pre = wList a b (pre.filter fun p => !p.isEmpty) := wk_greedy fun s => (greedy_filter pre s).symm
    have e2 : wList a b (pre ++ [m]) = wList a b ((pre.filter fun p => !p.isEmpty) ++ [m]) := by
      refine wk_greedy fun s => ?_
      have := greedy_filter (pre ++ [m]) s
      rw [List.filter_append, List.filter_cons_of_pos (by simp [hm]), List.filter_nil] at this
      exact this.symm
    have hne : ∀ p ∈ (pre.filter fun p => !p.isEmpty) ++ [m], p ≠ [] := by
      intro p hp
      rcases List.mem_append.mp hp with q | q
      · have := (List.mem_filter.mp q).2
        simpa using this
      · rw [List.mem_singleton.mp q]; exact hm
    have hfl : ((pre.filter fun p => !p.isEmpty) ++ [m]).flatten.length ≤ 4 := by
      rw [List.flatten_append, flat_filter, ← List.flatten_append]; exact hl
    have hmem := gen_mem a b 4 4 ((pre.filter fun p => !p.isEmpty) ++ [m]) (fun p hp => ⟨hne p hp, h p (by
      rcases List.mem_append.mp hp with q | q
      · exact List.mem_append_left _ (List.mem_filter.mp q).1
      · exact List.mem_append_right _ q)⟩) hfl (Nat.le_trans (len_flat _ hne) hfl)
    have := List.all_eq_true.mp hU _ hmem
    unfold stepOk at this
    rw [Bool.or_eq_true] at this
    rcases this with q | q
    · simp at q
    · rw [beq_iff_eq, List.dropLast_concat, List.getLastD_concat] at q
      rw [e1, e2]; exact q
theorem fold_any {a b : Nat} (hU : UOk a b = true) : ∀ (rest pre : List (List Nat)), (∀ p ∈ pre ++ rest, ∀ c ∈ p, c = a ∨ c = b) → (pre ++ rest).flatten.length ≤ 4 → rest.foldl cStep (wList a b pre) = wList a b (pre ++ rest) ∧ cSafe rest (wList a b pre) = true
  | [], pre, _, _ => ⟨by simp, wList_small a b pre⟩
  | m :: rest, pre, h, hl => by
    have e : pre ++ m :: rest = (pre ++ [m]) ++ rest := by simp
    rw [e] at h hl
    have hs := step_any hU pre m (fun p hp => h p (List.mem_append_left _ hp)) (by
      rw [List.flatten_append, List.length_append] at hl; omega)
    have ih := fold_any hU rest (pre ++ [m]) h hl
    rw [e]
    refine ⟨by rw [List.foldl_cons, hs]; exact ih.1, ?_⟩
    unfold cSafe
    rw [wList_small, hs, ih.2]; rfl
theorem wList_nil (a b : Nat) : wList a b [] = cInit := by
  unfold wList
  simp only [List.map_nil]
  rfl

theorem tok_split {p s : List Nat} (h : ∀ k, k < p.length → ¬ at3 (p ++ 46 :: 46 :: 46 :: s) k) : tok (p ++ ([46, 46, 46] ++ s)) = p :: tok s := tok_first h
theorem join_flat : ∀ ps : List (List Nat), joinN [] ps = ps.flatten := by
  intro ps
  induction ps with
  | nil => rfl
  | cons p r ih =>
    cases r with
    | nil => simp [joinN]
    | cons q r => simp only [joinN, ih]; simp
theorem sl_six {l : List Int} : sl none (some 6) l = l.take 6 := sl_to (k := 6) rfl l
theorem rep_take (W : Nat → Int) (k : Nat) : (List.replicate k 0 ++ (List.range 6).map W).take 6 = (List.range 6).map fun n => if k ≤ n then W (n - k) else 0 := by
  apply List.ext_getElem?
  intro n
  by_cases hn : n < 6
  · rw [List.getElem?_take_of_lt hn, List.getElem?_map, List.getElem?_range hn]
    simp only [Option.map_some]
    by_cases hk : k ≤ n
    · rw [if_pos hk, List.getElem?_append_right (by simpa using hk), List.length_replicate, List.getElem?_map, List.getElem?_range (by omega)]; rfl
    · rw [if_neg hk, List.getElem?_append_left (by simp; omega), List.getElem?_replicate, if_pos (by omega)]
  · rw [List.getElem?_eq_none (by simp; omega), List.getElem?_eq_none (by simp; omega)]
end Mine
end

section
set_option maxRecDepth 100000
set_option linter.unusedVariables false
namespace Mine
open PySem

theorem sl_mid (c last : List Nat) (mids : List (List Nat)) : sl (some 1) (some (-1)) (c :: (mids ++ [last])) = mids := by
  have h1 : (c :: (mids ++ [last])).length = mids.length + 1 + 1 := by rw [List.length_cons, List.length_append]; rfl
  show ((c :: (mids ++ [last])).take (clp (some (-1)) _ _)).drop (clp (some 1) 0 _) = mids
  rw [clp_neg (i := -1) (k := 0) rfl, clp_nat (i := 1) (k := 1) rfl, h1, Nat.min_eq_left (Nat.le_add_left 1 _)]
  show ((c :: (mids ++ [last])).take (mids.length + 1)).drop 1 = mids
  rw [List.take_succ_cons, List.drop_succ_cons, List.drop_zero, List.take_left]
theorem last_cons (c last : List Nat) (mids : List (List Nat)) : (c :: (mids ++ [last])).getLastD [] = last := by
  rw [← List.cons_append, List.getLastD_eq_getLast?, List.getLast?_append]; rfl

noncomputable def litOk (a b : Nat) (nm : List Nat) : Bool := (tok (nm ++ [46, 46, 46])).all (fun p => p.all fun c => c == a || c == b) && Nat.ble (tok (nm ++ [46, 46, 46])).dropLast.flatten.length 4

theorem second_ok {a b : Nat} (hab : a ≠ b) (hU : UOk a b = true) {nm : List Nat} (h : litOk a b nm = true) {fr : Option (List Nat)} (hfr : fr = none ∨ fr = some []) : okSecond [a, b] (nWide fr nm) = true := by
  unfold litOk at h
  rw [Bool.and_eq_true] at h
  obtain ⟨h1, h2⟩ := h
  have h2 := Nat.le_of_ble_eq_true h2
  generalize htk : tok (nm ++ [46, 46, 46]) = tk at *
  have hne : tk ≠ [] := by rw [← htk]; unfold tok tokEnd; simp
  obtain ⟨mids, last, rfl⟩ : ∃ mids last, tk = mids ++ [last] := ⟨tk.dropLast, tk.getLast hne, (List.dropLast_concat_getLast hne).symm⟩
  rw [List.dropLast_concat] at h2
  have hch : ∀ p ∈ mids ++ [last], ∀ c ∈ p, c = a ∨ c = b := by
    intro p hp c hc
    have := List.all_eq_true.mp (List.all_eq_true.mp h1 p hp) c hc
    simpa using this
  have hmc : ∀ p ∈ mids, ∀ c ∈ p, c = a ∨ c = b := fun p hp => hch p (List.mem_append_left _ hp)
  have hlc : ∀ c ∈ last, c = a ∨ c = b := hch last (by simp)
  obtain ⟨hfold, hsafe⟩ := fold_any hU mids [] (by simpa using hmc) (by simpa using h2)
  rw [wList_nil, List.nil_append] at hfold
  rw [wList_nil] at hsafe
  generalize hc : fr.getD [67] = c
  have hc2 : c = [67] ∨ c = [] := by rcases hfr with rfl | rfl <;> simp at hc <;> simp [← hc]
  have hw : nWide fr nm = c ++ ([46, 46, 46] ++ (nm ++ [46, 46, 46])) := by
    simp only [nWide, bl, Option.getD_some, hc]
    simp
  have htok : tok (nWide fr nm) = c :: (mids ++ [last]) := by
    rw [hw, tok_split, htk]
    rcases hc2 with rfl | rfl
    · intro k hk
      have : k = 0 := by simpa using hk
      subst this
      unfold at3
      simp
    · intro k hk; simp at hk
  have hem : em (nWide fr nm) = emQ c mids last := by
    funext g
    unfold em
    rw [htok]; exact emP_Q c mids last g
  have hmids : cMids (nWide fr nm) = mids := by unfold cMids; rw [htok, sl_mid]
  unfold okSecond
  rw [hmids, hsafe, Bool.or_true, Bool.true_and, Bool.and_eq_true, beq_iff_eq]
  constructor
  · have hL : ((nTexts [a, b] 5).map fun l => countT (l.map (em (nWide fr nm)))) = (List.range 6).map fun n => (((Tf a b n).countP (emQ c mids last) : Nat) : Int) := by
      rw [texts_Tf, List.map_map, hem]
      apply List.map_congr_left
      intro n _
      exact count_T _ _
    rw [hL]
    unfold counts cBad
    rw [htok, hmids]
    have hbadf : ∀ p : List Nat, (∀ x ∈ p, x = a ∨ x = b) → (p.filter fun c => !([a, b].contains c)) = [] := by
      intro p hp
      rw [List.filter_eq_nil_iff]
      intro x hx
      rcases hp x hx with rfl | rfl <;> simp
    by_cases hcc : ∀ x ∈ c, x = a ∨ x = b
    · have hbad : ((c :: (mids ++ [last])).flatMap fun p => p.filter fun c => !([a, b].contains c)) = [] := by
        rw [List.flatMap_eq_nil_iff]
        intro p hp
        rcases List.mem_cons.mp hp with rfl | hp
        · exact hbadf _ hcc
        · exact hbadf p (hch p hp)
      rw [hbad, if_neg (by simp), sl_six, hfold]
      show _ = (List.replicate (((c :: (mids ++ [last])).headD []) ++ (c :: (mids ++ [last])).getLastD []).length 0 ++ (List.range 6).map fun n => (wkR a b (mids.map List.reverse) [] n : Int)).take 6
      rw [rep_take, last_cons]
      apply List.map_congr_left
      intro n _
      rw [cnt_all hab mids last hlc c n hcc]
      simp only [List.headD_cons, List.length_append]
      split
      · rw [cnt_greedy]
      · rfl
    · have h67 : c = [67] := by
        rcases hc2 with e | e
        · exact e
        · exact absurd (by rw [e]; simp) hcc
      subst h67
      have ha : 67 ≠ a := fun e => hcc (by intro x hx; simp at hx; rw [hx]; exact .inl e)
      have hb : 67 ≠ b := fun e => hcc (by intro x hx; simp at hx; rw [hx]; exact .inr e)
      have hbad : (!(([67] :: (mids ++ [last])).flatMap (fun p => p.filter fun c => !([a, b].contains c)) == [])) = true := by
        rw [List.flatMap_cons]
        have : ([67].filter fun c => !([a, b].contains c)) = [67] := by simp [ha, hb]
        rw [this]; simp
      rw [if_pos hbad]
      have : (fun n => (((Tf a b n).countP (emQ [67] mids last) : Nat) : Int)) = fun _ => 0 := by
        funext n; rw [cnt_alien ha hb]; rfl
      rw [this]; rfl
  · rw [hem, htok, join_flat]
    have : (c :: (mids ++ [last])).flatten = c ++ (mids.flatten ++ last) := by simp
    rw [this, Q_self]
    exact greedy_self mids

/-! one division of one text -/
noncomputable def caseOk (a b : Nat) (gs : List (List Nat)) : Bool := nName gs == nFlat gs && ((nName gs).all fun c => Nat.blt c 1000) && litOk a b (nName gs) && okFirst [a, b] (nName gs)
theorem body_of {a b : Nat} (hab : a ≠ b) (ha : a < 1000) (hb : b < 1000) (hU : UOk a b = true) {gs : List (List Nat)} (h : caseOk a b gs = true) {fr : Option (List Nat)} (hfr : fr = none ∨ fr = some []) : BodyOk [a, b] fr gs := by
  unfold caseOk at h
  rw [Bool.and_eq_true, Bool.and_eq_true, Bool.and_eq_true, beq_iff_eq] at h
  obtain ⟨⟨⟨h1, h2⟩, h3⟩, h4⟩ := h
  have hc1 : ∀ c ∈ nName gs, c < 1000 := fun c hc => by
    have := List.all_eq_true.mp h2 c hc
    exact Nat.le_of_ble_eq_true this
  refine ⟨?_, h4, second_ok hab hU h3 hfr, ?_, hc1⟩
  · unfold okNames
    rw [Bool.and_eq_true, beq_iff_eq, beq_iff_eq]
    refine ⟨h1, ?_⟩
    rw [← h1]
    rcases hfr with rfl | rfl <;> simp [nWide, bl]
  · intro c hc
    generalize nName gs = nm at *
    by_cases hn : c ∈ nm
    · exact hc1 c hn
    · rcases hfr with rfl | rfl <;> simp [nWide, bl, hn] at hc <;> omega
end Mine
end

section
set_option maxRecDepth 1000000
set_option linter.unusedVariables false
namespace Mine
open PySem

noncomputable def rowChk (rw : List Int) : Bool := Nat.ble rw.length 6 && rw.all small && small (minI (nPos rw)) && small (minI (mPos (nRuler rw))) && (!(mTest (nRuler rw)) || !((mSizes (nRuler rw)).isEmpty)) &&
  match gis none 6 (nRuler rw) with
  | some ys => (sumsFrom 0 ys == marks (nRuler rw)) && (sumsFrom 0 ys).all (fun k => decide (0 ≤ k) && decide (k < 1000)) && subs3.contains ((sumsFrom 0 ys).filter fun k => decide (k < 4))
  | none => false
theorem row_of {rw : List Int} (h : rowChk rw = true) : ∃ ss, RowOk rw ss ∧ (ss.filter fun k => decide (k < 4)) ∈ subs3 := by
  unfold rowChk at h
  simp only [Bool.and_eq_true] at h
  obtain ⟨⟨⟨⟨⟨h1, h2⟩, h3⟩, h4⟩, h5⟩, h6⟩ := h
  split at h6
  · rename_i ys hy
    simp only [Bool.and_eq_true] at h6
    obtain ⟨⟨h7, h8⟩, h9⟩ := h6
    refine ⟨sumsFrom 0 ys, ⟨Nat.le_of_ble_eq_true h1, h2, h3, by rw [hy]; rfl, h4, fun ht e => ?_, h7, fun k hk => ?_⟩, by simpa using h9⟩
    · rw [ht, e] at h5; cases h5
    · have := List.all_eq_true.mp h8 k hk
      simpa using this
  · cases h6
noncomputable def rowsAll (r0 : Nat) : Bool := (List.range 5).all fun r1 => (List.range 5).all fun r2 => (List.range 3).all fun m => rowChk (rwOf r0 r1 r2 m)
theorem rows0 : rowsAll 0 = true := by decide +kernel
theorem rows1 : rowsAll 1 = true := by decide +kernel
theorem rows2 : rowsAll 2 = true := by decide +kernel
theorem rows3 : rowsAll 3 = true := by decide +kernel
theorem rows4 : rowsAll 4 = true := by decide +kernel
theorem rows_ok {r0 r1 r2 m : Int} (h0 : 0 ≤ r0 ∧ r0 < 5) (h1 : 0 ≤ r1 ∧ r1 < 5) (h2 : 0 ≤ r2 ∧ r2 < 5) (hm : 0 ≤ m ∧ m < 3) : ∃ ss, RowOk (rwOf r0 r1 r2 m) ss ∧ (ss.filter fun k => decide (k < 4)) ∈ subs3 := by
  have key : rowsAll r0.toNat = true := by
    have : r0.toNat = 0 ∨ r0.toNat = 1 ∨ r0.toNat = 2 ∨ r0.toNat = 3 ∨ r0.toNat = 4 := by omega
    rcases this with e | e | e | e | e <;> rw [e]
    · exact rows0
    · exact rows1
    · exact rows2
    · exact rows3
    · exact rows4
  unfold rowsAll at key
  have k1 := List.all_eq_true.mp key r1.toNat (by simp; omega)
  have k2 := List.all_eq_true.mp k1 r2.toNat (by simp; omega)
  have k3 := List.all_eq_true.mp k2 m.toNat (by simp; omega)
  have e : rwOf (r0.toNat : Int) (r1.toNat : Int) (r2.toNat : Int) (m.toNat : Int) = rwOf r0 r1 r2 m := by
    rw [Int.toNat_of_nonneg h0.1, Int.toNat_of_nonneg h1.1, Int.toNat_of_nonneg h2.1, Int.toNat_of_nonneg hm.1]
  rw [e] at k3
  exact row_of k3
noncomputable def subsN : Nat → List (List Int)
  | 0 | 1 => [[]]
  | 2 => [[], [1]]
  | 3 => [[], [1], [2], [1, 2]]
  | _ => subs3
theorem subs_in : ∀ n, n ≤ 4 → ∀ s ∈ subs3, (s.filter fun k => decide (k < (n : Int))) ∈ subsN n := by decide
theorem cuts_same {tx : List Nat} (hl : tx.length ≤ 4) (ss : List Int) : nCuts tx ss = nCuts tx ((ss.filter fun k => decide (k < 4)).filter fun k => decide (k < (tx.length : Int))) := by
  unfold nCuts
  have : (((ss.filter fun k => decide (k < 4)).filter fun k => decide (k < (tx.length : Int))).reverse.filter fun k => decide (k < (tx.length : Int))) = (ss.reverse.filter fun k => decide (k < (tx.length : Int))) := by
    rw [List.filter_reverse, List.filter_reverse, List.filter_filter, List.filter_filter]
    congr 1
    apply List.filter_congr
    intro k _
    rw [Bool.eq_iff_iff]
    simp only [Bool.and_eq_true, decide_eq_true_eq]
    omega
  rw [this]
theorem tx_facts (a b : Nat) (t0 t1 t2 t3 : Int) : (∀ c ∈ txOf a b t0 t1 t2 t3, c = a ∨ c = b) ∧ (txOf a b t0 t1 t2 t3).length ≤ 4 := by
  have hd : ∀ t : Int, ([[a], [b], []].getD t.toNat [] : List Nat) = [a] ∨ ([[a], [b], []].getD t.toNat [] : List Nat) = [b] ∨ ([[a], [b], []].getD t.toNat [] : List Nat) = [] := by
    intro t
    match t.toNat with
    | 0 => exact .inl rfl
    | 1 => exact .inr (.inl rfl)
    | 2 => exact .inr (.inr rfl)
    | n + 3 => exact .inr (.inr (by simp))
  unfold txOf
  rw [join_flat]
  simp only [List.map_cons, List.map_nil, List.flatten_cons, List.flatten_nil, List.append_nil]
  have hc : ∀ t : Int, (∀ c ∈ ([[a], [b], []].getD t.toNat [] : List Nat), c = a ∨ c = b) ∧ ([[a], [b], []].getD t.toNat [] : List Nat).length ≤ 1 := by
    intro t
    rcases hd t with e | e | e <;> rw [e] <;> simp
  have c0 := hc t0; have c1 := hc t1; have c2 := hc t2; have c3 := hc t3
  refine ⟨fun c h => ?_, ?_⟩
  · rcases List.mem_append.mp h with h | h
    · exact c0.1 c h
    · rcases List.mem_append.mp h with h | h
      · exact c1.1 c h
      · rcases List.mem_append.mp h with h | h
        · exact c2.1 c h
        · exact c3.1 c h
  · simp only [List.length_append]; omega
noncomputable def casesN (a b n : Nat) : Bool := (Tf a b n).all fun tx => (subsN n).all fun s => caseOk a b (nGroups tx (nCuts tx s))
theorem key_of {a b : Nat} (hab : a ≠ b) (ha : a < 1000) (hb : b < 1000) (hU : UOk a b = true) (hc : ∀ n, n ≤ 4 → casesN a b n = true) {r0 r1 r2 m : Int} (h0 : 0 ≤ r0 ∧ r0 < 5) (h1 : 0 ≤ r1 ∧ r1 < 5) (h2 : 0 ≤ r2 ∧ r2 < 5) (hm : 0 ≤ m ∧ m < 3) (t0 t1 t2 t3 : Int) {fr : Option (List Nat)} (hfr : fr = none ∨ fr = some []) :
    (txOf a b t0 t1 t2 t3).length ≤ 4 ∧ ∃ ss, RowOk (rwOf r0 r1 r2 m) ss ∧ BodyOk [a, b] fr (nGroups (txOf a b t0 t1 t2 t3) (nCuts (txOf a b t0 t1 t2 t3) ss)) := by
  obtain ⟨x1, x2⟩ := tx_facts a b t0 t1 t2 t3
  generalize txOf a b t0 t1 t2 t3 = tx at *
  obtain ⟨ss, hr, hs⟩ := rows_ok h0 h1 h2 hm
  refine ⟨x2, ss, hr, ?_⟩
  rw [cuts_same x2]
  have hin := subs_in tx.length x2 _ hs
  have := hc tx.length x2
  unfold casesN at this
  have k1 := List.all_eq_true.mp this tx (Tf_mem a b tx x1)
  have k2 := List.all_eq_true.mp k1 _ hin
  exact body_of hab ha hb hU k2 hfr
end Mine
end

section
set_option maxRecDepth 1000000
set_option linter.unusedVariables false
namespace Mine
open PySem

theorem un0 : UOk 46 97 = true := by decide +kernel
theorem ca0 : casesN 46 97 0 = true := by decide +kernel
theorem ca1 : casesN 46 97 1 = true := by decide +kernel
theorem ca2 : casesN 46 97 2 = true := by decide +kernel
theorem ca3 : casesN 46 97 3 = true := by decide +kernel
theorem ca4 : casesN 46 97 4 = true := by decide +kernel
theorem cza : ∀ n, n ≤ 4 → casesN 46 97 n = true := by
  intro n hn
  have : n = 0 ∨ n = 1 ∨ n = 2 ∨ n = 3 ∨ n = 4 := by omega
  rcases this with rfl | rfl | rfl | rfl | rfl
  · exact ca0
  · exact ca1
  · exact ca2
  · exact ca3
  · exact ca4
theorem un1 : UOk 97 98 = true := by decide +kernel
theorem cb0 : casesN 97 98 0 = true := by decide +kernel
theorem cb1 : casesN 97 98 1 = true := by decide +kernel
theorem cb2 : casesN 97 98 2 = true := by decide +kernel
theorem cb3 : casesN 97 98 3 = true := by decide +kernel
theorem cb4 : casesN 97 98 4 = true := by decide +kernel
theorem czb : ∀ n, n ≤ 4 → casesN 97 98 n = true := by
  intro n hn
  have : n = 0 ∨ n = 1 ∨ n = 2 ∨ n = 3 ∨ n = 4 := by omega
  rcases this with rfl | rfl | rfl | rfl | rfl
  · exact cb0
  · exact cb1
  · exact cb2
  · exact cb3
  · exact cb4
theorem un2 : UOk 67 46 = true := by decide +kernel
theorem cc0 : casesN 67 46 0 = true := by decide +kernel
theorem cc1 : casesN 67 46 1 = true := by decide +kernel
theorem cc2 : casesN 67 46 2 = true := by decide +kernel
theorem cc3 : casesN 67 46 3 = true := by decide +kernel
theorem cc4 : casesN 67 46 4 = true := by decide +kernel
theorem czc : ∀ n, n ≤ 4 → casesN 67 46 n = true := by
  intro n hn
  have : n = 0 ∨ n = 1 ∨ n = 2 ∨ n = 3 ∨ n = 4 := by omega
  rcases this with rfl | rfl | rfl | rfl | rfl
  · exact cc0
  · exact cc1
  · exact cc2
  · exact cc3
  · exact cc4
theorem un3 : UOk 10 67 = true := by decide +kernel
theorem cd0 : casesN 10 67 0 = true := by decide +kernel
theorem cd1 : casesN 10 67 1 = true := by decide +kernel
theorem cd2 : casesN 10 67 2 = true := by decide +kernel
theorem cd3 : casesN 10 67 3 = true := by decide +kernel
theorem cd4 : casesN 10 67 4 = true := by decide +kernel
theorem czd : ∀ n, n ≤ 4 → casesN 10 67 n = true := by
  intro n hn
  have : n = 0 ∨ n = 1 ∨ n = 2 ∨ n = 3 ∨ n = 4 := by omega
  rcases this with rfl | rfl | rfl | rfl | rfl
  · exact cd0
  · exact cd1
  · exact cd2
  · exact cd3
  · exact cd4

theorem frs_or (j : Int) (h : 0 ≤ j ∧ j < 2) : frs.getD j.toNat none = none ∨ frs.getD j.toNat none = some [] := by
  have : j.toNat = 0 ∨ j.toNat = 1 := by omega
  rcases this with e | e <;> rw [e]
  · exact .inl rfl
  · exact .inr rfl
theorem plain (is : List Int) (hl : is.length ≤ 63) : lawF (R 120) (.list (is.map .int)) = some (.bool true) := by
  refine law_plain is hl fun i j t0 t1 t2 t3 r0 r1 r2 m hi hj _ _ _ _ h0 h1 h2 hm => ?_
  have hfr := frs_or j hj
  have : i.toNat = 0 ∨ i.toNat = 1 ∨ i.toNat = 2 ∨ i.toNat = 3 := by omega
  rcases this with e | e | e | e <;> rw [e]
  · exact ⟨46, 97, rfl, by decide, by decide, key_of (by decide) (by decide) (by decide) un0 cza h0 h1 h2 hm t0 t1 t2 t3 hfr⟩
  · exact ⟨97, 98, rfl, by decide, by decide, key_of (by decide) (by decide) (by decide) un1 czb h0 h1 h2 hm t0 t1 t2 t3 hfr⟩
  · exact ⟨67, 46, rfl, by decide, by decide, key_of (by decide) (by decide) (by decide) un2 czc h0 h1 h2 hm t0 t1 t2 t3 hfr⟩
  · exact ⟨10, 67, rfl, by decide, by decide, key_of (by decide) (by decide) (by decide) un3 czd h0 h1 h2 hm t0 t1 t2 t3 hfr⟩
end Mine
end

theorem PySem.Challenge.cw_pk0047_01_holds : PySem.Challenge.rw_pk0047_01.Holds := by
  exact Mine.join Mine.plain
