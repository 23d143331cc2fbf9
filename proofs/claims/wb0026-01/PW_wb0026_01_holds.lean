import PyProof.Rows.All
import Wide.All
import OpenK.AllK
import Wide.FinOn
import PySem.Challenge.RW_wb0026_01
set_option Elab.async false
set_option linter.all false
section
open PySem PySem.W PyProof.Rows PySem.Calls Builtin.Str
set_option backward.match.sparseCases false
namespace Mine

inductive Atm where
  | none | bool (b : Bool) | int (i : Int) | str (s : Str)
  deriving DecidableEq
inductive V where
  | at (a : Atm) | list (l : List Atm) | tup (l : List Atm) | dict (l : List (Str × Int))
  deriving DecidableEq
noncomputable abbrev V.int (i : Int) : V := .at (.int i)
noncomputable abbrev V.str (s : Str) : V := .at (.str s)
noncomputable abbrev V.bool (b : Bool) : V := .at (.bool b)

structure ME where
  kinds : List (Str × NameKind)
  val : List (Str × V)
  own : List Str := []
  tok : List Str := []
  lit : Bool := false

noncomputable def put (x : Str) (v : V) : List (Str × V) → List (Str × V)
  | [] => [(x, v)]
  | (y, u) :: r => if y == x then (x, v) :: r else (y, u) :: put x v r
noncomputable def unique (x : Str) (l : List Str) : List Str := l.filter fun y => !(y == x)

noncomputable def ME.set (m : ME) (x : Str) (v : V) (own : Bool) : ME :=
  { m with val := put x v m.val, own := if own then x :: unique x m.own else unique x m.own, tok := unique x m.tok }

noncomputable def dget : List (Str × Int) → Str → Option Int
  | [], _ => none
  | (k, v) :: r, x => if k = x then some v else dget r x
noncomputable def dput (x : Str) (v : Int) : List (Str × Int) → List (Str × Int)
  | [] => [(x, v)]
  | (y, u) :: r => if y = x then (y, v) :: r else (y, u) :: dput x v r

/-- a text without the five letters -/
noncomputable def plainStr (s : Str) : Bool := s.cps.toList.all fun c => !(decide (97 ≤ c) && decide (c ≤ 101))
noncomputable def plainC : Const → Bool
  | .str s => plainStr s
  | _ => true
/-- the functions that any change of letters leaves as they are -/
noncomputable def pureF (f : Str) : Bool := !(f == ("law" : Str)) && !(f == ("_law_text" : Str)) && !(f == ("sorted" : Str))

noncomputable def constV : Const → Option V
  | .none => some (.at .none)
  | .bool b => some (.bool b)
  | .int i => some (.int i)
  | .str s => some (.str s)
  | _ => none

noncomputable abbrev sizeCap : Nat := 4096

noncomputable def asInt : V → Option Int
  | .at (.int i) => some i
  | _ => none
noncomputable def asStr : V → Option Str
  | .at (.str s) => some s
  | _ => none
noncomputable def asList : V → Option (List Atm)
  | .list l => some l
  | _ => none
noncomputable def asAtm : V → Option Atm
  | .at a => some a
  | _ => none
noncomputable def asBool : Atm → Option Bool
  | .bool b => some b
  | _ => none
/-- two of a kind, or something else -/
noncomputable def two {α β : Type} (x y : Option α) (k : α → α → Option β) (r : Option β) : Option β := match x with
  | some a => match y with
    | some b => k a b
    | none => r
  | none => r
noncomputable def intOp (op : Operator) (a b : Int) : Option V := match op with
  | .Add => some (.int (a + b))
  | .Sub => some (.int (a - b))
  | .Mult => if a.natAbs ≤ 1 && b.natAbs ≤ 1 then some (.int (a * b)) else none
  | .FloorDiv => if 0 < b && 0 ≤ a && a < 1000000 && b < 1000000 then some (.int (a.fdiv b)) else none
  | .Mod => if 0 < b then some (.int (a.fmod b)) else none
  | .Pow => if a == 10 && b == 6 then some (.int 1000000) else none
  | _ => none
noncomputable def isAdd : Operator → Bool
  | .Add => true
  | _ => false
noncomputable def strAdd (op : Operator) (a b : Str) : Option V := if isAdd op && (a.length ≤ sizeCap && b.length ≤ sizeCap) then some (.str (a ++ b)) else none
noncomputable def listAdd (op : Operator) (a b : List Atm) : Option V := if isAdd op && (a.length ≤ sizeCap && b.length ≤ sizeCap) then some (.list (a ++ b)) else none
noncomputable def binop (op : Operator) (a b : V) : Option V := two (asInt a) (asInt b) (intOp op) (two (asStr a) (asStr b) (strAdd op) (two (asList a) (asList b) (listAdd op) none))

noncomputable def cmpInt (op : CmpOp) (a b : Int) : Option Bool := match op with
  | .Eq => some (a == b)
  | .NotEq => some (!(a == b))
  | .Lt => some (decide (a < b))
  | .Gt => some (decide (a > b))
  | .GtE => some (decide (a ≥ b))
  | _ => none
noncomputable def cmpStr (op : CmpOp) (a b : Str) : Option Bool := match op with
  | .Eq => some (a == b)
  | .NotEq => some (!(a == b))
  | .In => if a.length ≤ sizeCap && b.length ≤ sizeCap then some (Txt.contains b a) else none
  | .NotIn => if a.length ≤ sizeCap && b.length ≤ sizeCap then some (!Txt.contains b a) else none
  | _ => none
noncomputable def isNoneA : Atm → Bool
  | .none => true
  | _ => false
noncomputable def cmpIs (op : CmpOp) (a b : Atm) : Option Bool := match op with
  | .Is => if isNoneA b then some (isNoneA a) else two (asBool a) (asBool b) (fun x y => some (x == y)) none
  | .IsNot => two (asBool a) (asBool b) (fun x y => some (!(x == y))) none
  | _ => none
/-- the rows of comparison; the right side of `is` never a text, an int or an object -/
noncomputable def cmpop (op : CmpOp) (a b : V) : Option Bool := two (asInt a) (asInt b) (cmpInt op) (two (asStr a) (asStr b) (cmpStr op) (two (asAtm a) (asAtm b) (cmpIs op) none))

theorem no_some {α : Type} {a : α} {P : Prop} (h : (none : Option α) = some a) : P := nomatch h
theorem bindK {α β : Type} {x : Option α} {k : α → Option β} {r : β} {P : Prop} (h : x.bind k = some r) (q : ∀ a, x = some a → k a = some r → P) : P := by
  cases x with
  | none => exact no_some h
  | some a => exact q a rfl h
theorem mapK {α β : Type} {x : Option α} {k : α → β} {r : β} {P : Prop} (h : x.map k = some r) (q : ∀ a, x = some a → k a = r → P) : P := by
  cases x with
  | none => exact no_some h
  | some a => exact q a rfl (Option.some.inj h)
theorem iteK {α : Type} {c : Prop} [Decidable c] {x : Option α} {r : α} {P : Prop} (h : (if c then x else none) = some r) (q : c → x = some r → P) : P := by
  by_cases hc : c
  · exact q hc ((if_pos hc).symm.trans h)
  · exact no_some ((if_neg hc).symm.trans h)
theorem condK {α : Type} {c : Prop} [Decidable c] {x y : α} {r : α} {P : Prop} (h : (if c then x else y) = r) (q : c → x = r → P) (q' : ¬ c → y = r → P) : P := by
  by_cases hc : c
  · exact q hc ((if_pos hc).symm.trans h)
  · exact q' hc ((if_neg hc).symm.trans h)
theorem elimK {α β : Type} {x : Option α} {y : β} {k : α → β} {r : β} {P : Prop} (h : x.elim y k = r) (q : ∀ a, x = some a → k a = r → P) (q' : x = none → y = r → P) : P := by
  cases x with
  | none => exact q' rfl h
  | some a => exact q a rfl h
theorem andK {a b : Bool} {P : Prop} (h : (a && b) = true) (q : a = true → b = true → P) : P := by
  cases a with
  | false => exact absurd h Bool.false_ne_true
  | true => exact q rfl h
theorem orK {a b : Bool} {P : Prop} (h : (a || b) = true) (q : a = true → P) (q' : b = true → P) : P := by
  cases a with
  | false => exact q' h
  | true => exact q rfl
/-- an answer of two parts -/
theorem pairK {α β : Type} {a c : α} {b d : β} {P : α → β → Prop} (h : some (a, b) = some (c, d)) (q : P a b) : P c d := by
  cases h; exact q
theorem cps {G : Prop} (h : ∀ P : Prop, (G → P) → P) : G := h G id

theorem two_inv {α β : Type} {x y : Option α} {k : α → α → Option β} {r : Option β} {v : β} (h : two x y k r = some v) : (∃ a b, x = some a ∧ y = some b ∧ k a b = some v) ∨ r = some v := by
  cases x with
  | none => exact .inr h
  | some a => cases y with
    | none => exact .inr h
    | some b => exact .inl ⟨a, b, rfl, rfl, h⟩
theorem twoK {α β : Type} {x y : Option α} {k : α → α → Option β} {r : Option β} {v : β} {P : Prop} (h : two x y k r = some v) (q : ∀ a b, x = some a → y = some b → k a b = some v → P) (q' : r = some v → P) : P := by
  cases x with
  | none => exact q' h
  | some a => cases y with
    | none => exact q' h
    | some b => exact q a b rfl rfl h
theorem asInt_eq {v : V} {i : Int} (h : asInt v = some i) : v = .int i := by
  cases v with
  | «at» a => cases a <;> first | exact no_some h | exact congrArg (fun i => V.at (.int i)) (Option.some.inj h)
  | _ => exact no_some h
theorem asStr_eq {v : V} {i : Str} (h : asStr v = some i) : v = .str i := by
  cases v with
  | «at» a => cases a <;> first | exact no_some h | exact congrArg (fun i => V.at (.str i)) (Option.some.inj h)
  | _ => exact no_some h
theorem asList_eq {v : V} {i : List Atm} (h : asList v = some i) : v = .list i := by
  cases v <;> first | exact no_some h | exact congrArg _ (Option.some.inj h)
noncomputable def asTupV : V → Option (List Atm)
  | .tup l => some l
  | _ => none
theorem asTupV_eq {v : V} {i : List Atm} (h : asTupV v = some i) : v = .tup i := by
  cases v <;> first | exact no_some h | exact congrArg _ (Option.some.inj h)
noncomputable def asDict : V → Option (List (Str × Int))
  | .dict l => some l
  | _ => none
theorem asDict_eq {v : V} {i : List (Str × Int)} (h : asDict v = some i) : v = .dict i := by
  cases v <;> first | exact no_some h | exact congrArg _ (Option.some.inj h)
theorem asAtm_eq {v : V} {i : Atm} (h : asAtm v = some i) : v = .at i := by
  cases v <;> first | exact no_some h | exact congrArg _ (Option.some.inj h)
theorem asBool_eq {v : Atm} {i : Bool} (h : asBool v = some i) : v = .bool i := by
  cases v <;> first | exact no_some h | exact congrArg _ (Option.some.inj h)
noncomputable def oInt (o : Option V) : Option Int := o.bind asInt
noncomputable def oStr (o : Option V) : Option Str := o.bind asStr
noncomputable def oList (o : Option V) : Option (List Atm) := o.bind asList
noncomputable def oDict (o : Option V) : Option (List (Str × Int)) := o.bind asDict
theorem oInt_eq {o : Option V} {i : Int} (h : oInt o = some i) : o = some (.int i) := bindK h fun _ e h => e.trans (congrArg _ (asInt_eq h))
theorem oStr_eq {o : Option V} {i : Str} (h : oStr o = some i) : o = some (.str i) := bindK h fun _ e h => e.trans (congrArg _ (asStr_eq h))
theorem oList_eq {o : Option V} {i : List Atm} (h : oList o = some i) : o = some (.list i) := bindK h fun _ e h => e.trans (congrArg _ (asList_eq h))
theorem oDict_eq {o : Option V} {i : List (Str × Int)} (h : oDict o = some i) : o = some (.dict i) := bindK h fun _ e h => e.trans (congrArg _ (asDict_eq h))

/-! lists of a length, forms of the text -/
noncomputable def one? {α : Type} : List α → Option α
  | [x] => some x
  | _ => none
noncomputable def two? {α : Type} : List α → Option (α × α)
  | [x, y] => some (x, y)
  | _ => none
noncomputable def three? {α : Type} : List α → Option (α × α × α)
  | [x, y, z] => some (x, y, z)
  | _ => none
theorem one_eq {α : Type} {l : List α} {x : α} (h : one? l = some x) : l = [x] := by
  cases l with
  | nil => exact no_some h
  | cons a r => cases r with
    | nil => exact congrArg (fun y => [y]) (Option.some.inj h)
    | cons => exact no_some h
theorem two_eq {α : Type} {l : List α} {x : α × α} (h : two? l = some x) : l = [x.1, x.2] := by
  cases l with
  | nil => exact no_some h
  | cons a r => cases r with
    | nil => exact no_some h
    | cons b r => cases r with
      | nil => exact congrArg (fun y => [y.1, y.2]) (Option.some.inj h)
      | cons => exact no_some h
theorem three_eq {α : Type} {l : List α} {x : α × α × α} (h : three? l = some x) : l = [x.1, x.2.1, x.2.2] := by
  cases l with
  | nil => exact no_some h
  | cons a r => cases r with
    | nil => exact no_some h
    | cons b r => cases r with
      | nil => exact no_some h
      | cons c r => cases r with
        | nil => exact congrArg (fun y => [y.1, y.2.1, y.2.2]) (Option.some.inj h)
        | cons => exact no_some h
set_option genInjectivity false in
set_option genSizeOf false in
structure CallS where
  f : Expr
  args : List Expr
  p : Pos
set_option genInjectivity false in
set_option genSizeOf false in
structure AttrS where
  o : Expr
  f : Str
  p : Pos
set_option genInjectivity false in
set_option genSizeOf false in
structure BinS where
  l : Expr
  op : Operator
  r : Expr
  p : Pos
set_option genInjectivity false in
set_option genSizeOf false in
structure SubS where
  v : Expr
  i : Expr
  p : Pos
set_option genInjectivity false in
set_option genSizeOf false in
structure SliS where
  a : Option Expr
  b : Option Expr
  c : Option Expr
  p : Pos
set_option genInjectivity false in
set_option genSizeOf false in
structure DictS where
  ks : List (Option Expr)
  vs : List Expr
  p : Pos
set_option genInjectivity false in
set_option genSizeOf false in
structure TupS where
  es : List Expr
  k : Nat
  p : Pos
set_option genInjectivity false in
set_option genSizeOf false in
structure NameS where
  x : Str
  p : Pos
set_option genInjectivity false in
set_option genSizeOf false in
structure ListS where
  es : List Expr
  p : Pos
set_option genInjectivity false in
set_option genSizeOf false in
structure ConS where
  c : Const
  k : Nat
  p : Pos
noncomputable def asName : Expr → Option NameS
  | .Name x p => some ⟨x, p⟩
  | _ => none
noncomputable def asCall : Expr → Option CallS
  | .Call f as ks p => if ks.isEmpty then some ⟨f, as, p⟩ else none
  | _ => none
noncomputable def asAttr : Expr → Option AttrS
  | .Attribute o f p => some ⟨o, f, p⟩
  | _ => none
noncomputable def asBin : Expr → Option BinS
  | .BinOp l op r p => some ⟨l, op, r, p⟩
  | _ => none
noncomputable def asSub : Expr → Option SubS
  | .Subscript v i p => some ⟨v, i, p⟩
  | _ => none
noncomputable def asSli : Expr → Option SliS
  | .Slice a b c p => some ⟨a, b, c, p⟩
  | _ => none
noncomputable def asDic : Expr → Option DictS
  | .Dict ks vs p => some ⟨ks, vs, p⟩
  | _ => none
noncomputable def asTup : Expr → Option TupS
  | .Tuple es k p => some ⟨es, k, p⟩
  | _ => none
noncomputable def asLst : Expr → Option ListS
  | .List es p => some ⟨es, p⟩
  | _ => none
noncomputable def asCon : Expr → Option ConS
  | .Constant c k p => some ⟨c, k, p⟩
  | _ => none
theorem asName_eq {e : Expr} {q : NameS} (h : asName e = some q) : e = .Name q.x q.p := by
  cases e <;> first | exact no_some h | exact congrArg (fun q => Expr.Name q.x q.p) (Option.some.inj h)
theorem asCall_eq {e : Expr} {q : CallS} (h : asCall e = some q) : e = .Call q.f q.args [] q.p := by
  cases e with
  | Call f as ks p => cases ks with
    | nil => exact congrArg (fun q => Expr.Call q.f q.args [] q.p) (Option.some.inj h)
    | cons => exact no_some h
  | _ => exact no_some h
theorem asAttr_eq {e : Expr} {q : AttrS} (h : asAttr e = some q) : e = .Attribute q.o q.f q.p := by
  cases e <;> first | exact no_some h | exact congrArg (fun q => Expr.Attribute q.o q.f q.p) (Option.some.inj h)
theorem asBin_eq {e : Expr} {q : BinS} (h : asBin e = some q) : e = .BinOp q.l q.op q.r q.p := by
  cases e <;> first | exact no_some h | exact congrArg (fun q => Expr.BinOp q.l q.op q.r q.p) (Option.some.inj h)
theorem asSub_eq {e : Expr} {q : SubS} (h : asSub e = some q) : e = .Subscript q.v q.i q.p := by
  cases e <;> first | exact no_some h | exact congrArg (fun q => Expr.Subscript q.v q.i q.p) (Option.some.inj h)
theorem asSli_eq {e : Expr} {q : SliS} (h : asSli e = some q) : e = .Slice q.a q.b q.c q.p := by
  cases e <;> first | exact no_some h | exact congrArg (fun q => Expr.Slice q.a q.b q.c q.p) (Option.some.inj h)
theorem asDic_eq {e : Expr} {q : DictS} (h : asDic e = some q) : e = .Dict q.ks q.vs q.p := by
  cases e <;> first | exact no_some h | exact congrArg (fun q => Expr.Dict q.ks q.vs q.p) (Option.some.inj h)
theorem asTup_eq {e : Expr} {q : TupS} (h : asTup e = some q) : e = .Tuple q.es q.k q.p := by
  cases e <;> first | exact no_some h | exact congrArg (fun q => Expr.Tuple q.es q.k q.p) (Option.some.inj h)
theorem asLst_eq {e : Expr} {q : ListS} (h : asLst e = some q) : e = .List q.es q.p := by
  cases e <;> first | exact no_some h | exact congrArg (fun q => Expr.List q.es q.p) (Option.some.inj h)
theorem asCon_eq {e : Expr} {q : ConS} (h : asCon e = some q) : e = .Constant q.c q.k q.p := by
  cases e <;> first | exact no_some h | exact congrArg (fun q => Expr.Constant q.c q.k q.p) (Option.some.inj h)
noncomputable def isIntC : Const → Bool
  | .int _ => true
  | _ => false
noncomputable def isSubO : Operator → Bool
  | .Sub => true
  | _ => false
noncomputable def isUSub : UnaryOp → Bool
  | .USub => true
  | _ => false
noncomputable def isNotO : UnaryOp → Bool
  | .Not => true
  | _ => false
noncomputable def isAndO : BoolOp → Bool
  | .And => true
  | .Or => false

noncomputable def intsOf : List Atm → Option (List Int)
  | [] => some []
  | .int i :: r => (intsOf r).map (i :: ·)
  | _ :: _ => none
noncomputable def strsOf : List Atm → Option (List Str)
  | [] => some []
  | .str i :: r => (strsOf r).map (i :: ·)
  | _ :: _ => none

/-- == and != of two lists: ints both, or the right one empty -/
noncomputable def cmpLists (op : CmpOp) (a b : List Atm) : Option Bool := match op with
  | .NotEq => (intsOf a).bind fun x => (intsOf b).bind fun y => if x.length ≤ 8 && y.length ≤ 8 then some (!(x == y)) else none
  | .Eq => if a.isEmpty && b.isEmpty then some true else none
  | _ => none
noncomputable def cmpList (op : CmpOp) (a b : V) : Option Bool := (asList a).bind fun x => (asList b).bind fun y => cmpLists op x y
noncomputable def cmpAll (op : CmpOp) (a b : V) : Option Bool := (cmpop op a b).elim (cmpList op a b) some

noncomputable def truth (v : V) : Option Bool := ((asAtm v).bind asBool).elim ((asStr v).bind fun s => if s.length ≤ sizeCap then some (decide (s.length ≠ 0)) else none) some

noncomputable def idx {α : Type} (l : List α) (i : Int) : Option α :=
  if 0 ≤ i then l[i.toNat]? else if 0 ≤ i + l.length then l[(i + l.length).toNat]? else none

noncomputable def item (o i : V) : Option V := (asStr o).elim ((asList o).elim ((asDict o).bind fun d => (asStr i).bind fun k => (dget d k).map .int)
  fun l => (asInt i).bind fun i => if l.length ≤ sizeCap then (idx l i).map .at else none)
  fun s => (asInt i).bind fun i => if s.length ≤ sizeCap then (idx s.cps.toList i).map fun c => .str ⟨#[c]⟩ else none

noncomputable def listSlice (l : List Atm) (a b : Option Int) : List Atm :=
  (l.drop (a.elim 0 (clipAt l.length))).take (b.elim l.length (clipAt l.length) - a.elim 0 (clipAt l.length))

noncomputable def small (a : Option Int) : Bool := a.elim true fun i => decide (-1000 ≤ i) && decide (i ≤ 100000)

noncomputable def slice (v : V) (a b : Option Int) : Option V := if small a && small b then
  (asStr v).elim ((asList v).bind fun l => if l.length ≤ sizeCap then some (.list (listSlice l a b)) else none)
    fun s => if s.length ≤ sizeCap then some (.str (Txt.slice s a b)) else none
  else none

noncomputable def findIn (x y : Str) (a b : Int) : Int :=
  if 0 ≤ a ∧ a ≤ b ∧ b ≤ x.length then (match occurrences x y a.toNat b.toNat 1 with | i :: _ => (i : Int) | [] => -1) else -1

noncomputable def methL (f : Str) (x : Str) (l : List Atm) : Option V :=
  if f == ("join" : Str) then (strsOf l).bind fun ys => if x.length ≤ 8 && ys.length ≤ 64 && ys.all (fun y => decide (y.length ≤ 64)) then some (.str (Txt.join x ys)) else none else none
noncomputable def methS (f : Str) (x y : Str) : Option V :=
    if f == ("split" : Str) then (if y.length == 0 || !decide (x.length ≤ sizeCap) then none else some (.list ((Txt.split x y).map .str)))
    else if f == ("startswith" : Str) then some (.bool (Txt.startswith x y))
    else if f == ("endswith" : Str) then some (.bool (Txt.endswith x y))
    else if f == ("join" : Str) then (if x.length ≤ 8 && y.length ≤ 64 then some (.str (Txt.join x (y.cps.toList.map fun c => ⟨#[c]⟩))) else none)
    else none
noncomputable def methF (f : Str) (x y : Str) (a b : Int) : Option V :=
    if f == ("find" : Str) && decide (0 ≤ a) && decide (a ≤ b) && decide (b ≤ x.length) && decide (x.length ≤ sizeCap) then some (.int (findIn x y a b)) else none
noncomputable def meth (f : Str) (o : V) (vs : List V) : Option V := (asStr o).bind fun x => (one? vs).elim
  ((three? vs).bind fun q => (asStr q.1).bind fun y => (asInt q.2.1).bind fun a => (asInt q.2.2).bind fun b => methF f x y a b)
  fun v => (asStr v).elim ((asList v).bind fun l => methL f x l) fun y => methS f x y

noncomputable def capN (n : Nat) : Option Nat := if n ≤ sizeCap then some n else none
noncomputable def lenOf : V → Option Nat
  | .at a => (asStr (.at a)).bind fun s => capN s.length
  | .list l => capN l.length
  | .dict l => capN l.length
  | .tup _ => none

noncomputable def strLt (a b : Str) : Bool := decide (a.cps.toList < b.cps.toList)
noncomputable def insStr (x : Str) : List Str → List Str
  | [] => [x]
  | y :: r => if strLt x y then x :: y :: r else y :: insStr x r
noncomputable def sortStr (l : List Str) : List Str := l.foldr insStr []

noncomputable def builtin1 (f : Str) (v : V) : Option V :=
    if f == ("len" : Str) then (lenOf v).map fun (n : Nat) => V.int (n : Int)
    else if f == ("list" : Str) then (asList v).bind fun l => if l.length ≤ sizeCap then some (.list l) else none
    else if f == ("sum" : Str) then (asList v).bind fun l => (intsOf l).bind fun ns => if ns.all (fun n => decide (n.natAbs ≤ 2000000)) && decide (ns.length ≤ 64) then some (.int ns.sum) else none
    else if f == ("sorted" : Str) then (asDict v).bind fun d => if d.length < 64 then some (.list ((sortStr (d.map (·.1))).map .str)) else none
    else none
noncomputable def builtins : List Str := ["len", "list", "sum", "sorted", "range", "enumerate", "ValueError"]

/-- the expressions whose value, if it is an object, is a new one -/
noncomputable def fresh : Expr → Bool
  | .List .. | .Tuple .. | .Dict .. | .ListComp .. | .BinOp .. | .Call .. | .Constant .. | .Compare .. => true
  | .Subscript .. => true
  | _ => false

noncomputable def relab (scope : Scope) (kinds : List (Str × NameKind)) : List (Str × NameKind) :=
  scope.names.map fun (n, k) => if k == .free && kinds.lookup n == some .cell then (n, .cell) else (n, k)

noncomputable def chrV (c : Nat) : V := .str ⟨#[c]⟩
noncomputable def iterOf : V → Option (List V)
  | .list l => some (l.map .at)
  | .tup l => some (l.map .at)
  | .dict d => some (d.map fun kv => .str kv.1)
  | .at a => (asStr (.at a)).map fun s => s.cps.toList.map chrV

noncomputable def rangeOf (a b : Int) : List V := (List.range (b - a).toNat).map fun (i : Nat) => .int (a + i)

noncomputable def allM {α : Type} (f : α → Option Bool) : List α → Option Bool
  | [] => some true
  | x :: r => (f x).bind fun b => if b then allM f r else some false

noncomputable def compM (one : V → Option (Option Atm)) : List V → Option (List Atm)
  | [] => some []
  | x :: r => (one x).bind fun o => o.elim (compM one r) fun a => (compM one r).map (a :: ·)

noncomputable def seqM {α β : Type} (f : α → Option β) : List α → Option (List β)
  | [] => some []
  | x :: r => (f x).bind fun y => (seqM f r).map (y :: ·)

noncomputable abbrev atom : V → Option Atm := asAtm

noncomputable abbrev CallT := Str → List V → Option V

noncomputable def constGlobals : List (Str × Str) := [("ELLIPSIS_MARKER", "...")]

noncomputable def notSuper : Expr → Bool
  | .Call (.Name _ _) [] [] _ => false
  | _ => true
noncomputable def okName (x : Str) : Bool := !(x == ("__debug__" : Str)) && !(x == ("__classdict__" : Str))
noncomputable def itemShape (e : Expr) : Option Str := (asSub e).bind fun q => (asCon q.i).bind fun c => (asName q.v).bind fun x => if isIntC c.c then some x.x else none
noncomputable def isStrItem (m : ME) (e : Expr) : Bool := ((itemShape e).bind fun x => oStr (m.val.lookup x)).isSome
/-- a comprehension's frame -/
noncomputable def okComp (scope : Scope) (m : ME) (x : Str) : Bool :=
  scope.kind == .function && scope.names.all (fun y => !(y.2 == .cell)) && scope.names.all (fun y => !(y.2 == .local) || scope.names.lookup y.1 == some .local)
    && scope.names.all (fun y => !(y.2 == .free) || m.kinds.lookup y.1 == some .cell) && scope.names.lookup x == some .local
noncomputable def compME (scope : Scope) (m : ME) (x : Str) (a : Atm) : ME :=
  { kinds := relab scope m.kinds, val := (x, .at a) :: m.val.filter (fun kv => !((relab scope m.kinds).lookup kv.1 == some .local)), own := [], tok := [], lit := m.lit }

noncomputable def kindV (a b : Option V) : NameKind → Option V
  | .local | .cell | .free => a
  | .globalImplicit => b
  | _ => none
noncomputable def evName (x : Str) (m : ME) : Option V := if okName x then (m.kinds.lookup x).bind (kindV (m.val.lookup x) ((constGlobals.lookup x).map .str)) else none
noncomputable def evBin (op : Operator) (a b : Option V) : Option V := a.bind fun x => b.bind fun y => binop op x y
noncomputable def evUn (op : UnaryOp) (a : Option V) : Option V := if isUSub op then (oInt a).bind fun i => some (.int (-i)) else none
noncomputable def evCompare (I : CmpOp → Expr → Option Bool) (ops : List CmpOp) (rs : List Expr) : Option V := (one? ops).bind fun op => (one? rs).bind fun r => (I op r).map .bool
noncomputable def evSeq (k : List Atm → V) (o : Option (List Atm)) : Option V := o.bind fun l => if l.length ≤ 64 then some (k l) else none
noncomputable def evDict (I : Expr → Option V) (ks : List (Option Expr)) (vs : List Expr) : Option V :=
  if ks.isEmpty then (if vs.isEmpty then some (.dict []) else none)
  else (one? ks).bind fun k => k.bind fun k => (one? vs).bind fun v => (oStr (I k)).bind fun x => (oInt (I v)).bind fun i => some (.dict [(x, i)])
noncomputable def evPart (I : Expr → Option V) (o : Option Expr) : Option (Option Int) := o.elim (some none) fun a => (oInt (I a)).map some
noncomputable def evSlice (o : Option V) (a b : Option (Option Int)) : Option V := o.bind fun o => a.bind fun a => b.bind fun b => slice o a b
noncomputable def evLists (l : Option (List V)) (k : Option V) : Option V := l.bind fun l => (oInt k).bind fun k => if l.length ≤ 64 && decide (0 ≤ k) then l[k.toNat]? else none
noncomputable def evItem (o i : Option V) : Option V := o.bind fun o => i.bind fun i => item o i
noncomputable def listOnly (I : Expr → Option V) (e : Expr) : Option V := (asLst e).bind fun _ => I e
noncomputable def evSub2 (I : Expr → Option V) (i v : Expr) : Option V := (asLst v).elim (evItem (I v) (I i)) fun q => evLists (seqM (listOnly I) q.es) (I i)
noncomputable def evSub (I : Expr → Option V) (v i : Expr) : Option V := (asSli i).elim (evSub2 I i v) fun q => if q.c.isNone then evSlice (I v) (evPart I q.a) (evPart I q.b) else none
noncomputable def evHid (call : CallT) (m : ME) (vs : List V) (args : List Expr) : Option V := (three? args).bind fun q => if isStrItem m q.2.1 && isStrItem m q.2.2 then call ("_law_hidden_ones" : Str) vs else none
noncomputable def evFn (call : CallT) (f : Str) (args : List Expr) (m : ME) (o : Option (List V)) : Option V := o.bind fun vs =>
  if builtins.contains f then (one? vs).bind fun v => builtin1 f v
    else if f == ("_law_hidden_ones" : Str) then evHid call m vs args
    else call f vs
noncomputable def evGet (a b c d e f : Option V) : Option V := (oInt a).bind fun k1 => (oInt b).bind fun v1 => (oInt c).bind fun k2 => (oInt d).bind fun v2 => (oInt e).bind fun a => (oInt f).bind fun b =>
  some (.int (if a = k2 then v2 else if a = k1 then v1 else b))
noncomputable def evGetD (I : Expr → Option V) (a b o : Expr) : Option V := (asDic o).bind fun q => (two? q.ks).bind fun k => (two? q.vs).bind fun v => k.1.bind fun k1 => k.2.bind fun k2 => evGet (I k1) (I v.1) (I k2) (I v.2) (I a) (I b)
noncomputable def evRep (a b c d : Option V) : Option V := (oStr a).bind fun x => (oStr b).bind fun y => (oStr c).bind fun z => (oStr d).bind fun u =>
  if y.length == 1 && decide (x.length ≤ 256) && decide (z.length + u.length ≤ 8) && decide (1 ≤ z.length) && decide (1 ≤ u.length) then some (.str (Txt.replace x y (z ++ u))) else none
noncomputable def evRepA (I : Expr → Option V) (o : Expr) (m : ME) (args : List Expr) : Option V := (two? args).bind fun q => (asName q.1).bind fun a => (asBin q.2).bind fun b =>
  if isAdd b.op && m.tok.contains a.x && m.kinds.lookup a.x == some .local then evRep (I o) (I (.Name a.x a.p)) (I b.l) (I b.r) else none
noncomputable def evMeth (f : Str) (o : Option V) (vs : Option (List V)) : Option V := o.bind fun o => vs.bind fun vs => meth f o vs
noncomputable def evAttr (I : Expr → Option V) (o : Expr) (f : Str) (args : List Expr) (m : ME) : Option V :=
  if f == ("get" : Str) then (two? args).bind fun q => evGetD I q.1 q.2 o
  else if f == ("replace" : Str) then (if notSuper o then evRepA I o m args else none)
  else if notSuper o && decide (args.length < 20) then evMeth f (I o) (seqM I args) else none
noncomputable def evCall (call : CallT) (I : Expr → Option V) (args : List Expr) (p : Pos) (m : ME) (f : Expr) : Option V :=
  (asName f).elim ((asAttr f).bind fun q => if q.p.endLine == p.line then evAttr I q.o q.f args m else none)
    fun q => if okName q.x && m.kinds.lookup q.x == some .globalImplicit && (m.lit || pureF q.x) then evFn call q.x args m (seqM I args) else none
noncomputable def evElt (T : List Expr → Option Bool) (I : Option V) (ifs : List Expr) : Option (Option Atm) := (T ifs).bind fun b => if b then (I.bind atom).bind fun a => some (some a) else some none
noncomputable def evItems (one : Atm → Option (Option Atm)) (o : Option (List V)) : Option V := o.bind fun items => if items.length ≤ 4096 then (compM (fun v => (atom v).bind one) items).map .list else none
set_option genInjectivity false in
set_option genSizeOf false in
structure CompS where
  x : Str
  px : Pos
  iter : Expr
  ifs : List Expr
noncomputable def asComp (l : List Comprehension) : Option CompS := (one? l).bind fun g => (asName g.target).bind fun x => if g.is_async == 0 then some ⟨x.x, x.p, g.iter, g.ifs⟩ else none
theorem asComp_eq {l : List Comprehension} {q : CompS} (h : asComp l = some q) : l = [⟨.Name q.x q.px, q.iter, q.ifs, 0⟩] :=
  bindK h fun g h1 h => bindK h fun x h2 h => iteK h fun h3 h => by
    obtain rfl := Option.some.inj h
    rw [one_eq h1]
    obtain ⟨t, i, f, a⟩ := g
    obtain rfl : a = 0 := beq_iff_eq.mp h3
    obtain rfl := asName_eq h2
    rfl
set_option genInjectivity false in
set_option genSizeOf false in
structure CnS where
  f : Str
  pf : Pos
  args : List Expr
  p : Pos
noncomputable def callName (e : Expr) : Option CnS := (asCall e).bind fun q => (asName q.f).bind fun x => some ⟨x.x, x.p, q.args, q.p⟩
theorem callName_eq {e : Expr} {q : CnS} (h : callName e = some q) : e = .Call (.Name q.f q.pf) q.args [] q.p :=
  bindK h fun a h1 h => bindK h fun x h2 h => by
    obtain rfl := Option.some.inj h
    rw [asCall_eq h1, asName_eq h2]
noncomputable def rangeItems (vs : List V) : Option (List V) := (one? vs).elim
  ((two? vs).bind fun q => (asInt q.1).bind fun a => (asInt q.2).bind fun b => if decide (0 ≤ a) && decide (a ≤ 4096) && decide (0 ≤ b) && decide (b ≤ 4096) then some (rangeOf a b) else none)
  fun v => (asInt v).bind fun b => if decide (0 ≤ b) && decide (b ≤ 4096) then some (rangeOf 0 b) else none

mutual
noncomputable def ev (call : CallT) : Nat → Expr → ME → Option V
  | 0, _, _ => none
  | n + 1, e, m => match e with
    | .Constant c _ _ => if m.lit || plainC c then constV c else none
    | .Name x _ => evName x m
    | .BinOp l op r _ => evBin op (ev call n l m) (ev call n r m)
    | .UnaryOp op x _ => evUn op (ev call n x m)
    | .Compare l ops rs _ => evCompare (fun op r => cmp call n l op r m) ops rs
    | .IfExp t a b _ => (tr call n t m).bind fun c => if c then ev call n a m else ev call n b m
    | .List es _ => evSeq .list (seqM (fun e => (ev call n e m).bind atom) es)
    | .Tuple es _ _ => evSeq .tup (seqM (fun e => (ev call n e m).bind atom) es)
    | .Dict ks vs _ => evDict (fun e => ev call n e m) ks vs
    | .Subscript v i _ => evSub (fun e => ev call n e m) v i
    | .Call f args kws p => if kws.isEmpty then evCall call (fun e => ev call n e m) args p m f else none
    | .ListComp elt gens scope _ => (asComp gens).bind fun q => if okComp scope m q.x then evItems (fun a => evElt (allM (fun c => tr call n c (compME scope m q.x a))) (ev call n elt (compME scope m q.x a)) q.ifs) (its call n q.iter m) else none
    | _ => none
noncomputable def its (call : CallT) : Nat → Expr → ME → Option (List V)
  | 0, _, _ => none
  | n + 1, e, m => (callName e).elim ((ev call n e m).bind iterOf) fun q => if q.f == ("range" : Str) && m.kinds.lookup q.f == some .globalImplicit then (seqM (fun e => ev call n e m) q.args).bind rangeItems else none
noncomputable def cmp (call : CallT) : Nat → Expr → CmpOp → Expr → ME → Option Bool
  | 0, _, _, _, _ => none
  | n + 1, l, op, r, m => (ev call n l m).bind fun a => (ev call n r m).bind fun b => cmpAll op a b
noncomputable def tr (call : CallT) : Nat → Expr → ME → Option Bool
  | 0, _, _ => none
  | n + 1, e, m => match e with
    | .UnaryOp op x _ => if isNotO op then (tr call n x m).map (!·) else none
    | .BoolOp op es _ => trs call n op es m
    | .Compare l ops rs _ => (one? ops).bind fun op => (one? rs).bind fun r => cmp call n l op r m
    | .Name x p => (ev call n (.Name x p) m).bind truth
    | .Call f as ks p => (ev call n (.Call f as ks p) m).bind truth
    | _ => none
noncomputable def trs (call : CallT) : Nat → BoolOp → List Expr → ME → Option Bool
  | 0, _, _, _ => none
  | _ + 1, op, [], _ => some (isAndO op)
  | n + 1, op, x :: r, m => (tr call n x m).bind fun b => if b == isAndO op then trs call n op r m else some b
end

inductive Fl where
  | next | brk | ret (v : V)

/-- what comes behind a turn -/
noncomputable def turnK (k : ME → Option (Fl × ME)) (m : ME) : Fl → Option (Fl × ME)
  | .next => k m
  | .brk => some (.next, m)
  | .ret v => some (.ret v, m)
noncomputable def forM (body : V → ME → Option (Fl × ME)) : List V → Bool → ME → Option (Fl × ME)
  | [], ended, m => if ended then some (.next, m) else none
  | x :: r, ended, m => (body x m).bind fun q => turnK (fun m' => forM body r ended m') q.2 q.1

noncomputable abbrev GenT := Str → List V → Option (List V × Bool)

noncomputable def disown (m : ME) (e : Expr) : ME := (asName e).elim m fun q => { m with own := unique q.x m.own }
noncomputable def isLoc (m : ME) (x : Str) : Bool := m.kinds.lookup x == some .local

noncomputable def bindTgt (t : Expr) (v : V) (m : ME) : Option ME := (asName t).elim
  ((asTup t).bind fun q => (two? q.es).bind fun q => (asName q.1).bind fun x => (asName q.2).bind fun y => ((asTupV v).bind two?).bind fun ab =>
    if isLoc m x.x && isLoc m y.x then some ((m.set x.x (.at ab.1) false).set y.x (.at ab.2) false) else none)
  fun x => (asAtm v).bind fun a => if m.kinds.lookup x.x == some .local || m.kinds.lookup x.x == some .cell then some (m.set x.x (.at a) false) else none

noncomputable def isName (e : Expr) : Bool := (asName e).isSome
noncomputable def ownName (m : ME) (e : Expr) : Bool := (asName e).any fun q => m.own.contains q.x && (m.kinds.lookup q.x == some .local || m.kinds.lookup q.x == some .cell)
noncomputable def isList (v : V) : Bool := (asList v).isSome

set_option genInjectivity false in
set_option genSizeOf false in
structure MfS where
  y : Str
  py : Pos
  ap : Pos
  i : Expr
  p : Pos
/-- a call of a method of a name, with one argument -/
noncomputable def methForm (name : Str) (e : Expr) : Option MfS := (asCall e).bind fun q => (asAttr q.f).bind fun a => (asName a.o).bind fun y => (one? q.args).bind fun i =>
  if a.f == name && (a.p.endLine == q.p.line) then some ⟨y.x, y.p, a.p, i, q.p⟩ else none
theorem methForm_eq {name : Str} {e : Expr} {q : MfS} (h : methForm name e = some q) : e = .Call (.Attribute (.Name q.y q.py) name q.ap) [q.i] [] q.p ∧ (q.ap.endLine == q.p.line) = true :=
  bindK h fun c h1 h => bindK h fun a h2 h => bindK h fun y h3 h => bindK h fun i h4 h => iteK h fun h5 h => andK h5 fun h5 h6 => by
    obtain rfl := Option.some.inj h
    refine ⟨?_, h6⟩
    rw [asCall_eq h1, asAttr_eq h2, asName_eq h3, one_eq h4, beq_iff_eq.mp h5]
noncomputable abbrev popForm (e : Expr) : Option MfS := methForm ("pop" : Str) e
noncomputable def isComp : Expr → Bool
  | .ListComp .. => true
  | _ => false
noncomputable def swapOk (m : ME) (x : Str) (px : Pos) : Expr → Bool
  | .ListComp _ _ scope p => m.kinds.lookup x == some .local && px.line == p.line && !(scope.names.any fun (n, k) => n == x && (k == .local || k == .cell))
  | _ => false

set_option genInjectivity false in
set_option genSizeOf false in
structure GcS where
  f : Str
  pf : Pos
  arg : Expr
  p : Pos
noncomputable def genCall (e : Expr) : Option GcS := (callName e).bind fun q => (one? q.args).bind fun a => some ⟨q.f, q.pf, a, q.p⟩
theorem genCall_eq {e : Expr} {q : GcS} (h : genCall e = some q) : e = .Call (.Name q.f q.pf) [q.arg] [] q.p :=
  bindK h fun a h1 h => bindK h fun x h2 h => by
    obtain rfl := Option.some.inj h
    rw [callName_eq h1, one_eq h2]
noncomputable abbrev appendForm (e : Expr) : Option MfS := methForm ("append" : Str) e
noncomputable def exPop (x y : Str) (m : ME) (i : Option V) : Option (Fl × ME) :=
  if okName y && isLoc m y && m.own.contains y && isLoc m x && !(x == y) then
    (oList (m.val.lookup y)).bind fun l => (oInt i).bind fun k => if decide (0 ≤ k) && decide (l.length ≤ sizeCap) then (l[k.toNat]?).bind fun a =>
      some (.next, (m.set y (.list (l.eraseIdx k.toNat)) true).set x (.at a) false) else none else none
noncomputable def exLst (x : Str) (m : ME) (o : Option V) : Option (Fl × ME) := (oList o).bind fun l => some (.next, m.set x (.list l) true)
noncomputable def isAtV (v : V) : Bool := (asAtm v).isSome
noncomputable def exVal (x : Str) (m : ME) (e : Expr) (o : Option V) : Option (Fl × ME) := o.bind fun v => if isAtV v || fresh e then some (.next, m.set x v (!isAtV v)) else none
noncomputable def exName (I : Expr → Option V) (x : Str) (px : Pos) (e : Expr) (m : ME) : Option (Fl × ME) := (popForm e).elim
  (if isComp e then (if swapOk m x px e then exLst x m (I e) else none)
    else if m.kinds.lookup x == some .local || m.kinds.lookup x == some .cell then exVal x m e (I e) else none)
  fun q => exPop x q.y m (I q.i)
noncomputable def exTup (I : Expr → Option V) (m : ME) (t e : List Expr) : Option (Fl × ME) := (two? t).bind fun t => (two? e).bind fun e => (asName t.1).bind fun x => (asName t.2).bind fun y =>
  if (y.p.line == x.p.line) && isLoc m x.x && isLoc m y.x && !(x.x == y.x) && (asCall e.2).isSome then
    ((I e.1).bind atom).bind fun a => ((I e.2).bind atom).bind fun b => some (.next, (m.set y.x (.at b) false).set x.x (.at a) false) else none
noncomputable def exItem (I : Expr → Option V) (k e : Expr) (m : ME) (d : Expr) : Option (Fl × ME) := (asName d).bind fun d => if okName d.x && isLoc m d.x && m.own.contains d.x then
  (oDict (m.val.lookup d.x)).bind fun l => (oStr (I k)).bind fun x => (oInt (I e)).bind fun i => if l.length ≤ 64 then some (.next, m.set d.x (.dict (dput x i l)) true) else none
  else none
noncomputable def exAssign (I : Expr → Option V) (e : Expr) (m : ME) (t : Expr) : Option (Fl × ME) := (asName t).elim
  ((asTup t).elim ((asSub t).bind fun q => exItem I q.i e m q.v) fun q => (asTup e).bind fun es => exTup I m q.es es.es)
  fun q => exName I q.x q.p e m
noncomputable def augOp (op : Operator) (a b : Int) : Option Int := if isAdd op then some (a + b) else if isSubO op then some (a - b) else none
noncomputable def exAug (I : Expr → Option V) (op : Operator) (e : Expr) (m : ME) (t : Expr) : Option (Fl × ME) := (asName t).bind fun x => if isLoc m x.x then
  (oInt (m.val.lookup x.x)).bind fun a => (oInt (I e)).bind fun b => (augOp op a b).bind fun c => some (.next, m.set x.x (.int c) false) else none
noncomputable def exRet (m : ME) (e : Expr) (o : Option V) : Option (Fl × ME) := o.bind fun v => if isAtV v || (fresh e || ownName m e) then some (.ret v, m) else none
noncomputable def exApp (I : Expr → Option V) (m : ME) (e : Expr) : Option (Fl × ME) := (appendForm e).bind fun q => if okName q.y && isLoc m q.y && m.own.contains q.y then
  (oList (m.val.lookup q.y)).bind fun l => ((I q.i).bind atom).bind fun a => if l.length ≤ sizeCap then some (.next, m.set q.y (.list (l ++ [a])) true) else none
  else none
noncomputable def delAt (l : List Atm) (k : Int) : Option (List Atm) := if l.isEmpty then none else if k = 0 then some l.tail else if k = -1 then some l.dropLast else none
noncomputable def exDel (I : Expr → Option V) (m : ME) (t : Expr) : Option (Fl × ME) := (asSub t).bind fun q => (asName q.v).bind fun y => if okName y.x && isLoc m y.x && m.own.contains y.x then
  (oList (m.val.lookup y.x)).bind fun l => (oInt (I q.i)).bind fun k => if l.length ≤ sizeCap then (delAt l k).bind fun r => some (.next, m.set y.x (.list r) true) else none
  else none
noncomputable def exFor2 (turn : V → ME → Option (Fl × ME)) (m : ME) (o : Option (List V × Bool)) : Option (Fl × ME) := o.bind fun q => forM turn q.1 q.2 m
noncomputable def plainItems (o : Option V) : Option (List V × Bool) := o.bind fun v => (iterOf v).bind fun items => if items.length ≤ 4096 then some (items, true) else none
noncomputable def genItems (gen : GenT) (f : Str) (o : Option V) : Option (List V × Bool) := o.bind fun v => gen f [v]
noncomputable def exFor (I : Expr → Option V) (gen : GenT) (turn : V → ME → Option (Fl × ME)) (iter : Expr) (m : ME) : Option (Fl × ME) := (genCall iter).elim
  (if fresh iter || isName iter then exFor2 turn (disown m iter) (plainItems (I iter)) else none)
  fun q => if okName q.f && m.kinds.lookup q.f == some .globalImplicit && (fresh q.arg || isName q.arg) then exFor2 turn (disown m q.arg) (genItems gen q.f (I q.arg)) else none
noncomputable def goOn (k : ME → Option (Fl × ME)) (m : ME) : Fl → Option (Fl × ME)
  | .next => k m
  | f => some (f, m)
mutual
noncomputable def exs (call : CallT) (gen : GenT) : Nat → List Stmt → ME → Option (Fl × ME)
  | 0, _, _ => none
  | _ + 1, [], m => some (.next, m)
  | n + 1, st :: r, m => (ex call gen n st m).bind fun q => goOn (fun m' => exs call gen n r m') q.2 q.1
noncomputable def ex (call : CallT) (gen : GenT) : Nat → Stmt → ME → Option (Fl × ME)
  | 0, _, _ => none
  | n + 1, st, m => match st with
    | .Assign ts e _ => (one? ts).bind (exAssign (fun e => ev call n e m) e m)
    | .AugAssign t op e _ => exAug (fun e => ev call n e m) op e m t
    | .If t a b _ => (tr call n t m).bind fun c => if c then exs call gen n a m else exs call gen n b m
    | .For tgt iter body els _ => if els.isEmpty then exFor (fun e => ev call n e m) gen (fun v m => (bindTgt tgt v m).bind fun m' => exs call gen n body m') iter m else none
    | .Return e _ => e.bind fun e => exRet m e (ev call n e m)
    | .Expr e _ => exApp (fun e => ev call n e m) m e
    | .Delete ts _ => (one? ts).bind (exDel (fun e => ev call n e m) m)
    | .Assert t _ _ => (tr call n t m).bind fun c => if c then some (.next, m) else none
    | .Break _ => some (.brk, m)
    | _ => none
end

/-- the generator functions, by what they yield -/
noncomputable def escs (s : List Nat) (pos : Int) (escape : Bool) (last : Int) : List V :=
  match s with
  | [] => if escape then [.tup [.int last, .str ⟨#[92]⟩]] else []
  | c :: r =>
    if escape then .tup [.int pos, .str (⟨#[92]⟩ ++ ⟨#[c]⟩)] :: escs r (pos + 1) false pos
    else if c == 92 then escs r (pos + 1) true pos
    else .tup [.int pos, .str ⟨#[c]⟩] :: escs r (pos + 1) false pos

noncomputable def grps (l : List Int) (last : Option Int) : List V × Bool :=
  match l with
  | [] => ([], true)
  | i :: r =>
    if i == 127 then ([], true)
    else if i == 0 then last.elim ([], false) fun j => (List.replicate 16 (.int j), false)
    else (.int i :: (grps r (some i)).1, (grps r (some i)).2)

noncomputable def genF (f : Str) (vs : List V) : Option (List V × Bool) := (one? vs).bind fun v => (asStr v).elim
  ((asList v).bind fun l => if f == ("_grouping_intervals" : Str) then (intsOf l).bind fun l => if l.length ≤ 64 then some (grps l none) else none else none)
  fun s => if f == ("_iter_escaped_chars" : Str) && decide (s.length ≤ 256) then some (escs s.cps.toList 0 false 0, true) else none

noncomputable def binds : List Arg → List V → Option (List (Str × V))
  | [], [] => some []
  | a :: r, v :: vs => (binds r vs).map ((a.arg, v) :: ·)
  | _, _ => none

noncomputable def hidArgs (q : Str × Str × Str) : Bool := q.2.1 == ("first" : Str) && q.2.2 == ("second" : Str) && !(q.1 == q.2.1) && !(q.1 == q.2.2)
/-- a function of plain parameters -/
noncomputable def plainDef (f : Str) (r : DefRec) : Bool :=
  r.params.posonlyargs.isEmpty && r.params.vararg.isNone && r.params.kwonlyargs.isEmpty && r.params.kw_defaults.isEmpty && r.params.kwarg.isNone && r.params.defaults.isEmpty
    && !r.scope.isCoroutine && !r.scope.isGenerator && r.scope.kind == .function && r.scope.names.all (fun y => !(y.2 == .free)) && decide ((r.params.args.map (·.arg)).Nodup)
    && r.params.args.all (fun a => r.scope.names.lookup a.arg == some .local || r.scope.names.lookup a.arg == some .cell)
    && (!(f == ("_law_hidden_ones" : Str)) || (three? (r.params.args.map (·.arg))).any hidArgs)

noncomputable def frameME (f : Str) (r : DefRec) (bs : List (Str × V)) : ME :=
  { kinds := r.scope.names, val := bs, tok := if f == ("_law_hidden_ones" : Str) then ["first", "second"] else [], lit := f == ("law" : Str) || f == ("_law_text" : Str) }
noncomputable def flV : Fl → V
  | .ret v => v
  | _ => .at .none
noncomputable def callF (defs : List DefRec) : Nat → CallT
  | 0, _, _ => none
  | d + 1, f, vs => if f == ("_law_refused" : Str) then none else (defs.find? (fun r => r.name == f)).bind fun r => if plainDef f r then (binds r.params.args vs).bind fun bs =>
      (exs (callF defs d) genF 40 r.body (frameME f r bs)).bind fun q => some (flV q.1) else none

end Mine
end
section
open PySem PySem.W PyProof.Rows PySem.Calls Builtin.Str
namespace Mine

/-! what a run of the model may do beside its answer -/
structure Ext (s s' : Shared) : Prop where
  heap : ∀ b o, s.heap.get? b = some o → s'.heap.get? b = some o
  gsz : s.gens.size ≤ s'.gens.size
  gens : ∀ i, i < s.gens.size → s'.gens[i]? = s.gens[i]?
  bare : AllBare s.gens → AllBare s'.gens
  os : s'.os = s.os
  toks : s.toks ≤ s'.toks

namespace Ext
theorem refl (s : Shared) : Ext s s := ⟨fun _ _ e => e, Nat.le_refl _, fun _ _ => rfl, id, rfl, Nat.le_refl _⟩
theorem trans {s s' s'' : Shared} (a : Ext s s') (b : Ext s' s'') : Ext s s'' :=
  ⟨fun x o e => b.heap x o (a.heap x o e), Nat.le_trans a.gsz b.gsz, fun i h => (b.gens i (Nat.lt_of_lt_of_le h a.gsz)).trans (a.gens i h), fun h => b.bare (a.bare h), b.os.trans a.os, Nat.le_trans a.toks b.toks⟩
theorem of {s : Shared} {h' : Heap} {k : Nat} (hk : ∀ b o, s.heap.get? b = some o → h'.get? b = some o) (ht : s.toks ≤ k) : Ext s { s with heap := h', toks := k } :=
  ⟨hk, Nat.le_refl _, fun _ _ => rfl, id, rfl, ht⟩
theorem tok {s : Shared} {k : Nat} (ht : s.toks ≤ k) : Ext s { s with toks := k } := of (fun _ _ e => e) ht
theorem push {s : Shared} (o : Obj) {k : Nat} (ht : s.toks ≤ k) : Ext s { s with heap := s.heap.push o, toks := k } := of (fun _ _ e => Heap.get?_push_of_some _ e) ht
theorem none {s s' : Shared} (a : Ext s s') {b : Addr} (h : s'.heap.get? b = none) : s.heap.get? b = none := by
  cases e : s.heap.get? b with
  | none => rfl
  | some o => rw [a.heap b o e] at h; cases h
end Ext
theorem get_size (h : Heap) : h.get? h.objs.size = none := by
  cases e : h.get? h.objs.size with
  | none => rfl
  | some o => exact absurd (Heap.lt_size e) (Nat.lt_irrefl _)

/-! values -/
noncomputable def AtmIs (v : Value) : Atm → Prop
  | .none => v = .none
  | .bool b => v = .bool b
  | .int i => ∃ t, v = .int i t
  | .str s => ∃ t, v = .str s t
inductive Are : List Value → List Atm → Prop
  | nil : Are [] []
  | cons {v a vs l} : AtmIs v a → Are vs l → Are (v :: vs) (a :: l)
inductive Kvs : List (Str × Value) → List (Str × Int) → Prop
  | nil : Kvs [] []
  | cons {k i t kvs l} : Kvs kvs l → Kvs ((k, .int i t) :: kvs) ((k, i) :: l)
variable {prog : Program} {w : World}
noncomputable abbrev sk (prog : Program) (w : World) : PySem.KeyKind prog w Str := PySem.strKind prog w
noncomputable def HasV (prog : Program) (w : World) (h : Heap) (mv : Value) : V → Prop
  | .at a => AtmIs mv a
  | .list l => ∃ a vs n, mv = .ref a ∧ IsL h a vs n ∧ Are vs.toList l
  | .tup l => ∃ a vs, mv = .ref a ∧ h.IsTuple a vs ∧ Are vs.toList l
  | .dict l => ∃ a kvs, mv = .ref a ∧ h.DictOf (sk prog w) a kvs ∧ Kvs kvs l ∧ (a == sysModules) = false

theorem HasV.mono {h h' : Heap} {mv : Value} {v : V} (H : HasV prog w h mv v) (hk : ∀ a, mv = .ref a → ∀ o, h.get? a = some o → h'.get? a = some o) : HasV prog w h' mv v := by
  cases v with
  | «at» a => exact H
  | list l => obtain ⟨a, vs, n, e, i, r⟩ := H; exact ⟨a, vs, n, e, hk a e _ i, r⟩
  | tup l => obtain ⟨a, vs, e, ⟨o, ho, i⟩, r⟩ := H; exact ⟨a, vs, e, ⟨o, hk a e _ ho, i⟩, r⟩
  | dict l => obtain ⟨a, kvs, e, ⟨o, es, ep, ho, i⟩, r⟩ := H; exact ⟨a, kvs, e, ⟨o, es, ep, hk a e _ ho, i⟩, r⟩
theorem HasV.ext {s s' : Shared} {mv : Value} {v : V} (H : HasV prog w s.heap mv v) (x : Ext s s') : HasV prog w s'.heap mv v := H.mono fun a _ o e => x.heap a o e
theorem HasV.there {h : Heap} {a : Addr} {v : V} (H : HasV prog w h (.ref a) v) : ∃ o, h.get? a = some o := by
  cases v with
  | «at» x => cases x <;> simp [HasV, AtmIs] at H
  | list l => obtain ⟨a, vs, n, e, i, r⟩ := H; cases e; exact ⟨_, i⟩
  | tup l => obtain ⟨a, vs, e, ⟨o, ho, i⟩, r⟩ := H; cases e; exact ⟨_, ho⟩
  | dict l => obtain ⟨a, kvs, e, ⟨o, es, ep, ho, i⟩, r⟩ := H; cases e; exact ⟨_, ho⟩
theorem HasV.noRef {h : Heap} {mv : Value} {a : Atm} (H : HasV prog w h mv (.at a)) (b : Addr) : mv ≠ .ref b := by
  rintro rfl
  cases a <;> simp [HasV, AtmIs] at H

theorem Are.length {vs l} (h : Are vs l) : vs.length = l.length := by induction h <;> simp_all
theorem Are.size {vs : Array Value} {l : List Atm} (h : Are vs.toList l) : vs.size = l.length := Array.length_toList.symm.trans h.length
theorem fuel_lt {n i : Nat} (h : i < n) : n + 1 - (i + 1) < n + 1 - i := by omega
theorem cap_line {a : Nat} (h : a ≤ 4096) : a + 1 ≤ sizeLine := by rw [sizeLine_eq]; omega
theorem Are.get {vs l} (h : Are vs l) : ∀ (i : Nat) (a : Atm), l[i]? = some a → ∃ v, vs[i]? = some v ∧ AtmIs v a := by
  induction h with
  | nil => intro i a e; simp at e
  | cons hv _ ih =>
    intro i a e
    cases i with
    | zero => simp at e; subst e; exact ⟨_, rfl, hv⟩
    | succ i => simpa using ih i a (by simpa using e)
theorem Are.append {vs l} (h : Are vs l) {us k} (h' : Are us k) : Are (vs ++ us) (l ++ k) := by
  induction h with
  | nil => exact h'
  | cons hv _ ih => exact .cons hv ih
theorem Are.drop {vs l} (h : Are vs l) : ∀ n, Are (vs.drop n) (l.drop n) := by
  induction h with
  | nil => intro n; simpa using Are.nil
  | cons hv ht ih => intro n; cases n with
    | zero => exact .cons hv ht
    | succ n => simpa using ih n
theorem Are.take {vs l} (h : Are vs l) : ∀ n, Are (vs.take n) (l.take n) := by
  induction h with
  | nil => intro n; simpa using Are.nil
  | cons hv ht ih => intro n; cases n with
    | zero => exact .nil
    | succ n => simpa using Are.cons hv (ih n)
theorem Are.eraseIdx {vs l} (h : Are vs l) : ∀ n, Are (vs.eraseIdx n) (l.eraseIdx n) := by
  induction h with
  | nil => intro n; simpa using Are.nil
  | cons hv ht ih => intro n; cases n with
    | zero => simpa using ht
    | succ n => simpa using Are.cons hv (ih n)
theorem Are.ints {vs l} (h : Are vs l) : ∀ {ns}, intsOf l = some ns → IntsAre vs ns := by
  induction h with
  | nil => intro ns e; obtain rfl := Option.some.inj e; exact .nil
  | @cons v a vs l hv ht ih =>
    intro ns e
    cases a with
    | int i =>
      refine mapK e fun ms hm e => ?_
      obtain ⟨t, rfl⟩ := hv
      exact e ▸ .cons i t (ih hm)
    | _ => exact no_some e
theorem Are.strs {vs l} (h : Are vs l) : ∀ {ns}, strsOf l = some ns → StrsAre vs ns := by
  induction h with
  | nil => intro ns e; obtain rfl := Option.some.inj e; exact .nil
  | @cons v a vs l hv ht ih =>
    intro ns e
    cases a with
    | str i =>
      refine mapK e fun ms hm e => ?_
      obtain ⟨t, rfl⟩ := hv
      exact e ▸ .cons i t (ih hm)
    | _ => exact no_some e
theorem are_strs {vs : List Value} {ns : List Str} (h : StrsAre vs ns) : Are vs (ns.map .str) := by
  induction h with
  | nil => exact .nil
  | cons y t _ ih => exact .cons ⟨t, rfl⟩ ih
theorem are_ints {vs : List Value} {ns : List Int} (h : IntsAre vs ns) : Are vs (ns.map .int) := by
  induction h with
  | nil => exact .nil
  | cons y t _ ih => exact .cons ⟨t, rfl⟩ ih

structure Room (A : Around) (d : Nat) : Prop where
  h : A.handled = none
  dep : A.depth + d < recursionLimit
  un : A.units + 32 * d + 64 < cLine
theorem Room.le {A : Around} {d e : Nat} (R : Room A d) (h : e ≤ d) : Room A e := ⟨R.h, by have := R.dep; omega, by have := R.un; omega⟩
theorem Room.deeper {A : Around} {d : Nat} (R : Room A (d + 1)) (env : Env) : Room (A.deeper env) d := by
  refine ⟨R.h, ?_, ?_⟩
  · have := R.dep; show A.depth + 1 + d < _; omega
  · have := R.un; show A.units + 3 + _ + _ < _; omega
theorem Room.in1 {A : Around} {d : Nat} (R : Room A (d + 1)) : Room A.in1 d := ⟨R.h, by have := R.dep; show A.depth + d < _; omega, by have := R.un; show A.units + 1 + _ + _ < _; omega⟩

/-- what every step leaves as it is -/
structure Glb (mg mb : Str → Option Value) (defs : List DefRec) (h : Heap) : Prop where
  g : h.Ns mainGlobals mg
  b : h.Ns builtinsNs mb
  nl : h.NoLimit
  fn : ∀ d ∈ defs, ∃ a o pm code doc, mg d.name = some (.ref a) ∧ h.get? a = some o ∧ o.data = .func (docDef d.name d.params d.body d.scope pm code doc) ∧ h.CodeRec code d.name
  cst : ∀ x y, constGlobals.lookup x = some y → ∃ t, mg x = some (.str y t)
  cm : ∃ t, mg ("CHAR_MAX" : Str) = some (.int 127 t)
  bmiss : ∀ x ∈ builtins, mg x = none
  bi : ∀ x, x ≠ ("__name__" : Str) → mb x = bootBuiltins x
theorem Glb.ext {mg mb : Str → Option Value} {defs : List DefRec} {s s' : Shared} (G : Glb mg mb defs s.heap) (x : Ext s s') : Glb mg mb defs s'.heap where
  g := G.g.keeps x.heap
  b := G.b.keeps x.heap
  nl := G.nl.keeps x.heap
  fn := fun d hd => by
    obtain ⟨a, o, pm, code, doc, h1, h2, h3, h4⟩ := G.fn d hd
    exact ⟨a, o, pm, code, doc, h1, x.heap _ _ h2, h3, h4.keeps x.heap⟩
  cst := G.cst
  cm := G.cm
  bmiss := G.bmiss
  bi := G.bi

/-- an answer that is an object is a new one -/
noncomputable def Newly (s : Shared) (mv : Value) : Prop := ∀ a, mv = .ref a → s.heap.get? a = none
theorem Newly.int {s : Shared} {i : Int} {t : Tok} : Newly s (.int i t) := fun _ e => Value.noConfusion e
theorem Newly.str {s : Shared} {i : Str} {t : Tok} : Newly s (.str i t) := fun _ e => Value.noConfusion e
theorem Newly.new {s s' : Shared} (x : Ext s s') : Newly s (.ref s'.heap.objs.size) := fun a e => by
  obtain rfl := Value.ref.inj e
  exact x.none (get_size _)
theorem Newly.here {s : Shared} : Newly s (.ref s.heap.objs.size) := Newly.new (.refl s)
theorem no_item {e : Bool} {P : Prop} (h : e = true) (q : e = false) : P := Bool.noConfusion (q.symm.trans h)
theorem Newly.at {s : Shared} {h : Heap} {mv : Value} {a : Atm} (H : HasV prog w h mv (.at a)) : Newly s mv := fun b e => absurd e (H.noRef b)
theorem Newly.ext {s s' : Shared} {mv : Value} (h : Newly s' mv) (x : Ext s s') : Newly s mv := fun a e => x.none (h a e)

section ops
variable {A : Around} {E : Value → Shared → Prop} {s : Shared} {d : Nat}

theorem add_str_new {x y : Str} {t u : Tok} {Q : Value → Shared → Prop} (hx : x.length ≠ 0) (hy : y.length ≠ 0) (h : Q (.str (x ++ y) s.toks) { s with toks := s.toks + 1 }) (hsz : x.length + y.length ≤ sizeLine) :
    wpAny (model prog w) A (binaryOp .Add (.str x t) (.str y u)) Q E s := by
  refine PyProof.Rows.binaryOp_concat (typeIs_str s x t) (typeIs_str s y u) PyProof.Rows.noFill_str_add PyProof.Rows.seq_str_add ?_
  refine wpAny_call_entry slot_str_add (typeIs_str s x t) entry_str_add ?_ (args_str_add _ _)
  show wpAny _ _ (do
    if (true && x.length == 0) = true then (do rule "str.__add__.left-empty"; ret (.str y u)) else
    if (true && y.length == 0) = true then (do rule "str.__add__.right-empty"; ret (.str x t)) else
    retStr (x ++ y)) _ _ s
  have e1 : (x.length == 0) = false := by simpa using hx
  have e2 : (y.length == 0) = false := by simpa using hy
  rw [e1, e2]
  exact wpAny_bind (wpAny_mkStr (wpAny_pure ⟨_, rfl, h⟩) (by rw [strLen_append]; exact hsz))

theorem HasV.intE {h : Heap} {x : Value} {a : V} {i : Int} {motive : Value → Prop} (hx : HasV prog w h x a) (e : asInt a = some i) (q : ∀ t, motive (.int i t)) : motive x := by
  rw [asInt_eq e] at hx
  obtain ⟨t, rfl⟩ := hx
  exact q t
theorem HasV.strE {h : Heap} {x : Value} {a : V} {i : Str} {motive : Value → Prop} (hx : HasV prog w h x a) (e : asStr a = some i) (q : ∀ t, motive (.str i t)) : motive x := by
  rw [asStr_eq e] at hx
  obtain ⟨t, rfl⟩ := hx
  exact q t
theorem intOp_ok {op : Operator} {i j : Int} {t u : Tok} {v : V} (e : intOp op i j = some v) (R : Room A d)
    {Q : Value → Shared → Prop} (hQ : ∀ i k t, s.toks ≤ k → V.int i = v → Q (.int i t) { s with toks := k }) : wpAny (model prog w) A (binaryOp op (.int i t) (.int j u)) Q E s := by
  have h1 : s.toks ≤ s.toks + 1 := Nat.le_succ _
  cases op with
  | Add => exact add_int (hQ _ _ _ h1 (Option.some.inj e))
  | Sub => exact sub_int (hQ _ _ _ h1 (Option.some.inj e))
  | Mult => exact iteK e fun hc e => andK hc fun h2 h3 => mul_int (hQ _ _ _ h1 (Option.some.inj e)) (IntMulOk.of_left (by
      have hi : i = 0 ∨ i = 1 ∨ i = -1 := by have := of_decide_eq_true h2; omega
      rcases hi with rfl | rfl | rfl <;> decide +kernel))
  | FloorDiv =>
      refine iteK e fun hc e => ?_
      simp only [Bool.and_eq_true, decide_eq_true_eq] at hc
      refine floordiv_int_or R.h (fun h => by omega) (fun _ => hQ _ _ _ h1 (Option.some.inj e)) (fun _ => .inl ?_)
      have hl : j.natAbs.log2 < 20 := (Nat.log2_lt (by omega)).mpr (by omega)
      unfold Builtin.divisionGoesByPylong
      have hj0 : (j == 0) = false := by simp; omega
      simp only [hj0, Bool.false_eq_true, if_false, Bool.and_eq_false_iff, decide_eq_false_iff_not]
      left; omega
  | Mod => exact iteK e fun hc e => mod_int' (Int.ne_of_gt hc) (hQ _ _ _ h1 (Option.some.inj e))
  | Pow =>
      refine iteK e fun hc e => andK hc fun h2 h3 => ?_
      obtain rfl := beq_iff_eq.mp h2
      obtain rfl := beq_iff_eq.mp h3
      exact pow_int (by decide) (by decide +kernel) (hQ _ _ _ h1 (Option.some.inj e))
  | _ => exact no_some e
theorem isAdd_eq {op : Operator} (h : isAdd op = true) : op = .Add := by
  cases op <;> first | rfl | exact absurd h Bool.false_ne_true
theorem add_ok {a b : Nat} (hx : a ≤ 4096) (hy : b ≤ 4096) : (isAdd .Add && (decide (a ≤ sizeCap) && decide (b ≤ sizeCap))) = true := by
  rw [decide_eq_true (show a ≤ sizeCap from hx), decide_eq_true (show b ≤ sizeCap from hy)]; rfl
theorem size_line {a b : Nat} (h1 : decide (a ≤ sizeCap) = true) (h2 : decide (b ≤ sizeCap) = true) : a + b ≤ sizeLine :=
  Nat.le_trans (Nat.add_le_add (of_decide_eq_true h1) (of_decide_eq_true h2)) (by rw [sizeLine_eq]; decide)
theorem binop_ok {op : Operator} {a b v : V} (e : binop op a b = some v) {x y : Value} (hx : HasV prog w s.heap x a) (hy : HasV prog w s.heap y b) (R : Room A d)
    {Q : Value → Shared → Prop} (hQ : ∀ mv s', Ext s s' → HasV prog w s'.heap mv v → Newly s mv → Q mv s') : wpAny (model prog w) A (binaryOp op x y) Q E s := by
  refine twoK e (fun i j h1 h2 e => ?_) fun e => twoK e (fun i j h1 h2 e => ?_) fun e => twoK e (fun i j h1 h2 e => ?_) no_some
  · refine hx.intE (motive := fun x => wpAny (model prog w) A (binaryOp op x y) Q E s) h1 fun t => hy.intE (motive := fun y => wpAny (model prog w) A (binaryOp op _ y) Q E s) h2 fun u => intOp_ok e R fun i k t hk hv => ?_
    subst hv
    exact hQ _ _ (.tok hk) ⟨_, rfl⟩ Newly.int
  · refine hx.strE (motive := fun x => wpAny (model prog w) A (binaryOp op x y) Q E s) h1 fun t => hy.strE (motive := fun y => wpAny (model prog w) A (binaryOp op _ y) Q E s) h2 fun u => iteK e fun hc ee => andK hc fun h3 h4 => andK h4 fun h4 h5 => ?_
    obtain rfl := isAdd_eq h3
    obtain rfl := Option.some.inj ee
    exact wpAny_with_toks (Nat.le_refl s.toks) (add_str (fun t' tk ht => hQ _ _ (.tok ht) ⟨_, rfl⟩ Newly.str) (size_line h4 h5))
  · refine iteK e fun hc ee => andK hc fun h3 h4 => andK h4 fun h4 h5 => ?_
    rw [asList_eq h1] at hx
    rw [asList_eq h2] at hy
    obtain rfl := isAdd_eq h3
    obtain rfl := Option.some.inj ee
    obtain ⟨a, vs, n, rfl, hl, hv⟩ := hx
    obtain ⟨b, us, n', rfl, hl', hv'⟩ := hy
    have l1 := hv.length
    have l2 := hv'.length
    rw [← l1] at h4
    rw [← l2] at h5
    refine P.add_list hl hl' (hQ _ _ (.push _ (Nat.le_refl _)) ⟨_, _, 0, rfl, IsL.new _ _, ?_⟩ Newly.here) (size_line h4 h5)
    rw [Array.toList_append]; exact hv.append hv'
end ops
end Mine
end
section
open PySem PySem.W PyProof.Rows PySem.Calls Builtin.Str PySem.Spec
namespace Mine
variable {prog : Program} {w : World}
section ops
variable {A : Around} {E : Value → Shared → Prop} {s : Shared} {d : Nat}

theorem isSame_bool {a b : Bool} {Q : Value → Shared → Prop} (h : Q (.bool (a == b)) s) : wpAny (model prog w) A (compareOp .Is (.bool a) (.bool b)) Q E s := by
  show wpAny _ _ (do return .bool (← isSame (.bool a) (.bool b))) Q E s
  refine wpAny_bind (wpAny_of_eq (a := (a == b)) ?_ (wpAny_pure h))
  show (pure (Value.bool a == Value.bool b) : Sem Bool) = _
  cases a <;> cases b <;> rfl
theorem isNotSame_bool {a b : Bool} {Q : Value → Shared → Prop} (h : Q (.bool (!(a == b))) s) : wpAny (model prog w) A (compareOp .IsNot (.bool a) (.bool b)) Q E s := by
  show wpAny _ _ (do return .bool (!(← isSame (.bool a) (.bool b)))) Q E s
  refine wpAny_bind (wpAny_of_eq (a := (a == b)) ?_ (wpAny_pure h))
  show (pure (Value.bool a == Value.bool b) : Sem Bool) = _
  cases a <;> cases b <;> rfl

theorem cmpInt_ok {op : CmpOp} {i j : Int} {t u : Tok} {v : Bool} (e : cmpInt op i j = some v) {Q : Value → Shared → Prop} (hQ : Q (.bool v) s) : wpAny (model prog w) A (compareOp op (.int i t) (.int j u)) Q E s := by
  cases op with
  | Eq => obtain rfl := Option.some.inj e; exact eq_int hQ
  | NotEq => obtain rfl := Option.some.inj e; exact ne_int hQ
  | Lt => obtain rfl := Option.some.inj e; exact lt_int hQ
  | Gt => obtain rfl := Option.some.inj e; exact gt_int hQ
  | GtE => obtain rfl := Option.some.inj e; exact P.ge_int hQ
  | _ => exact no_some e
theorem bne_cps (p q : Str) : (p.cps.toList != q.cps.toList) = !(p == q) := by
  obtain ⟨⟨p⟩⟩ := p; obtain ⟨⟨q⟩⟩ := q
  by_cases h : p = q
  · subst h; simp
  · have h2 : ¬ ((⟨⟨p⟩⟩ : Str) = ⟨⟨q⟩⟩) := fun e => h (by cases e; rfl)
    rw [bne, beq_eq_false_iff_ne.mpr h, beq_eq_false_iff_ne.mpr h2]
theorem cmpStr_ok {op : CmpOp} {i j : Str} {t u : Tok} {v : Bool} (e : cmpStr op i j = some v) {Q : Value → Shared → Prop} (hQ : Q (.bool v) s) : wpAny (model prog w) A (compareOp op (.str i t) (.str j u)) Q E s := by
  cases op with
  | Eq => obtain rfl := Option.some.inj e; exact eq_str hQ
  | NotEq => obtain rfl := Option.some.inj e; exact P.ne_str (by rw [bne_cps]; exact hQ)
  | In => refine iteK e fun _ e => ?_; obtain rfl := Option.some.inj e; exact in_str hQ
  | NotIn => refine iteK e fun _ e => ?_; obtain rfl := Option.some.inj e; exact notIn_str hQ
  | _ => exact no_some e
theorem atm_none {x : Value} {c : Atm} (hx : AtmIs x c) : (x == Value.none) = isNoneA c := by
  cases c with
  | none => obtain rfl := hx; rfl
  | bool b => obtain rfl := hx; rfl
  | int b => obtain ⟨t, rfl⟩ := hx; rfl
  | str b => obtain ⟨t, rfl⟩ := hx; rfl
theorem isNoneA_eq {c : Atm} (h : isNoneA c = true) : c = .none := by
  cases c <;> first | rfl | exact absurd h Bool.false_ne_true
theorem cmpIs_ok {op : CmpOp} {c d : Atm} {x y : Value} {v : Bool} (e : cmpIs op c d = some v) (hx : AtmIs x c) (hy : AtmIs y d) {Q : Value → Shared → Prop} (hQ : Q (.bool v) s) : wpAny (model prog w) A (compareOp op x y) Q E s := by
  cases op with
  | Is =>
    refine condK e (fun hd e => ?_) fun _ e => twoK e (fun i j h3 h4 e => ?_) no_some
    · obtain rfl := isNoneA_eq hd
      obtain rfl := hy
      obtain rfl := Option.some.inj e
      exact is_none (by rw [atm_none hx]; exact hQ)
    · rw [asBool_eq h3] at hx
      rw [asBool_eq h4] at hy
      obtain rfl := hx
      obtain rfl := hy
      exact isSame_bool (Option.some.inj e ▸ hQ)
  | IsNot =>
    refine twoK e (fun i j h3 h4 e => ?_) no_some
    rw [asBool_eq h3] at hx
    rw [asBool_eq h4] at hy
    obtain rfl := hx
    obtain rfl := hy
    exact isNotSame_bool (Option.some.inj e ▸ hQ)
  | _ => exact no_some e
theorem cmpop_ok {op : CmpOp} {a b : V} {v : Bool} (e : cmpop op a b = some v) {x y : Value} (hx : HasV prog w s.heap x a) (hy : HasV prog w s.heap y b)
    {Q : Value → Shared → Prop} (hQ : Q (.bool v) s) : wpAny (model prog w) A (compareOp op x y) Q E s :=
  twoK e (fun i j h1 h2 e => hx.intE (motive := fun x => wpAny (model prog w) A (compareOp op x y) Q E s) h1 fun t => hy.intE (motive := fun y => wpAny (model prog w) A (compareOp op _ y) Q E s) h2 fun u => cmpInt_ok e hQ) fun e =>
  twoK e (fun i j h1 h2 e => hx.strE (motive := fun x => wpAny (model prog w) A (compareOp op x y) Q E s) h1 fun t => hy.strE (motive := fun y => wpAny (model prog w) A (compareOp op _ y) Q E s) h2 fun u => cmpStr_ok e hQ) fun e =>
  twoK e (fun c d h1 h2 e => cmpIs_ok e (asAtm_eq h1 ▸ hx : HasV prog w s.heap x (.at c)) (asAtm_eq h2 ▸ hy : HasV prog w s.heap y (.at d)) hQ) no_some

theorem cmpList_ok {op : CmpOp} {a b : V} {v : Bool} (e : cmpList op a b = some v) {x y : Value} (hx : HasV prog w s.heap x a) (hy : HasV prog w s.heap y b) (R : Room A d)
    {Q : Value → Shared → Prop} (hQ : Q (.bool v) s) : wpAny (model prog w) A (compareOp op x y) Q E s := by
  have hu : A.units + 64 < cLine := Nat.lt_of_le_of_lt (Nat.add_le_add_right (Nat.le_add_right _ _) _) R.un
  refine bindK e fun p h1 e => bindK e fun q h2 e => ?_
  rw [asList_eq h1] at hx
  rw [asList_eq h2] at hy
  obtain ⟨a, vs, n, rfl, hl, hv⟩ := hx
  obtain ⟨b, us, n', rfl, hl', hv'⟩ := hy
  cases op with
  | NotEq =>
    refine bindK e fun ns h1 e => bindK e fun ms h2 e => iteK e fun _ e => ?_
    obtain rfl := Option.some.inj e
    refine ne_intsK (vs := vs.toList) (us := us.toList) hl.isList (hv.ints h1) hl'.isList (hv'.ints h2) hu ?_
    have : decide (ns = ms) = (ns == ms) := by rw [Bool.eq_iff_iff]; simp
    rw [this]; exact hQ
  | Eq =>
    refine iteK e fun hc e => andK hc fun h3 h4 => ?_
    obtain rfl := Option.some.inj e
    obtain rfl := List.isEmpty_iff.mp h3
    obtain rfl := List.isEmpty_iff.mp h4
    exact eq_intsK (vs := vs.toList) (us := us.toList) hl.isList (hv.ints (ns := []) rfl) hl'.isList (hv'.ints (ns := []) rfl) hu hQ
  | _ => exact no_some e
theorem cmpAll_ok {op : CmpOp} {a b : V} {v : Bool} (e : cmpAll op a b = some v) {x y : Value} (hx : HasV prog w s.heap x a) (hy : HasV prog w s.heap y b) (R : Room A d)
    {Q : Value → Shared → Prop} (hQ : Q (.bool v) s) : wpAny (model prog w) A (compareOp op x y) Q E s :=
  elimK e (fun c hc e => cmpop_ok (Option.some.inj e ▸ hc) hx hy hQ) fun _ e => cmpList_ok e hx hy R hQ

theorem truth_ok {v : V} {b : Bool} (e : truth v = some b) {x : Value} (hx : HasV prog w s.heap x v) {Q : Bool → Shared → Prop} (hQ : ∀ s', Ext s s' → Q b s') :
    wpAny (model prog w) A (truthy x) Q E s := by
  refine elimK e (fun c hc e => bindK hc fun a h1 h2 => ?_) fun _ e => bindK e fun p h1 e => hx.strE (motive := fun x => wpAny (model prog w) A (truthy x) Q E s) h1 fun t => iteK e fun hp e => ?_
  · obtain rfl := Option.some.inj e
    rw [asAtm_eq h1, asBool_eq h2] at hx
    obtain rfl := hx
    exact wpAny_truthy_bool (hQ s (.refl s))
  · obtain rfl := Option.some.inj e
    refine P.truthy_str (by have hp : p.length ≤ 4096 := hp; omega) ?_
    have h : (((p.length : Nat) : Int) != 0) = decide (p.length ≠ 0) := by
      rw [Bool.eq_iff_iff]; simp
    rw [h]; exact hQ _ (.tok (Nat.le_add_right _ 2))

theorem seqIndex_of {α : Type} {l : List α} {i : Int} {a : α} (h : idx l i = some a) : ∃ k, seqIndex? i l.length = some k ∧ l[k]? = some a ∧ -(l.length : Int) ≤ i ∧ i < l.length := by
  unfold idx at h
  split at h
  · rename_i h0
    have hlt : i.toNat < l.length := by
      by_cases q : i.toNat < l.length
      · exact q
      · rw [List.getElem?_eq_none (by omega)] at h; cases h
    refine ⟨i.toNat, ?_, h, by omega, by omega⟩
    unfold seqIndex?
    have hn : ¬ i < 0 := by omega
    simp only [hn, if_false]
    rw [if_pos (by simp only [Bool.and_eq_true, decide_eq_true_eq]; omega)]
  · split at h
    · rename_i h1 h0
      exact ⟨(i + l.length).toNat, MeetsSeq.seqIndex_neg (by omega) h0, h, by omega, by omega⟩
    · cases h

theorem kvs_get {kvs : List (Str × Value)} {l : List (Str × Int)} (h : Kvs kvs l) : ∀ {k i}, dget l k = some i → ∃ t, valueAt kvs k = some (.int i t) := by
  induction h with
  | nil => intro k i e; cases e
  | @cons k' i' t kvs l hr ih =>
    intro k i e
    unfold dget at e
    unfold valueAt at ih ⊢
    by_cases q : k' = k
    · rw [if_pos q] at e; cases e; exact ⟨t, by simp [q]⟩
    · rw [if_neg q] at e
      obtain ⟨u, hu⟩ := ih e
      exact ⟨u, by rw [List.find?_cons]; simp only [q, decide_false]; exact hu⟩
theorem Kvs.length {kvs : List (Str × Value)} {l : List (Str × Int)} (h : Kvs kvs l) : kvs.length = l.length := by induction h <;> simp_all
theorem Kvs.keys {kvs : List (Str × Value)} {l : List (Str × Int)} (h : Kvs kvs l) : kvs.map (·.1) = l.map (·.1) := by induction h <;> simp_all
theorem kvs_any {kvs : List (Str × Value)} {l : List (Str × Int)} (h : Kvs kvs l) (k : Str) : (kvs.any fun kv => decide (kv.1 = k)) = l.any fun kv => decide (kv.1 = k) := by induction h <;> simp_all
theorem dput_new : ∀ {l : List (Str × Int)} {k : Str} {i : Int}, (l.any fun kv => decide (kv.1 = k)) = false → dput k i l = l ++ [(k, i)]
  | [], _, _, _ => rfl
  | (y, u) :: r, k, i, h => by
    simp only [List.any_cons, Bool.or_eq_false_iff, decide_eq_false_iff_not] at h
    unfold dput
    rw [if_neg h.1, dput_new h.2]; rfl
theorem Kvs.snoc {kvs : List (Str × Value)} {l : List (Str × Int)} (h : Kvs kvs l) (k : Str) (i : Int) (t : Tok) : Kvs (kvs ++ [(k, .int i t)]) (l ++ [(k, i)]) := by
  induction h with
  | nil => exact .cons .nil
  | cons _ ih => exact .cons ih
theorem map_off {kvs : List (Str × Value)} {k : Str} {v : Value} (h : k ∉ kvs.map (·.1)) : (kvs.map fun kv => if kv.1 = k then (kv.1, v) else kv) = kvs := by
  induction kvs with
  | nil => rfl
  | cons p r ih =>
    simp only [List.map_cons, List.mem_cons, not_or] at h
    rw [List.map_cons, if_neg (Ne.symm h.1), ih h.2]
theorem kvs_put {kvs : List (Str × Value)} {l : List (Str × Int)} (h : Kvs kvs l) (hn : (kvs.map (·.1)).Nodup) (k : Str) (i : Int) (t : Tok) : Kvs (stored kvs k (.int i t)) (dput k i l) := by
  unfold stored
  rw [kvs_any h k]
  by_cases q : (l.any fun kv => decide (kv.1 = k)) = true
  · rw [if_pos q]
    induction h with
    | nil => simp at q
    | @cons k' i' t' kvs l hr ih =>
      simp only [List.map_cons, List.nodup_cons] at hn
      unfold dput
      rw [List.map_cons]
      by_cases e : k' = k
      · subst e
        rw [if_pos rfl, if_pos rfl, map_off hn.1]
        exact .cons hr
      · rw [if_neg e, if_neg e]
        exact .cons (ih hn.2 (by simpa [e] using q))
  · rw [if_neg q, dput_new (by simpa only [Bool.not_eq_true] using q)]
    exact h.snoc k i t

theorem item_ok {o i v : V} (e : item o i = some v) {x y : Value} (hx : HasV prog w s.heap x o) (hy : HasV prog w s.heap y i)
    {Q : Value → Shared → Prop} (hQ : ∀ mv s', Ext s s' → HasV prog w s'.heap mv v → (∀ b, mv ≠ .ref b) → ((∃ p, o = .str p) → ∃ z, mv = .str z s.toks ∧ s'.toks = s.toks + 1) → Q mv s') :
    wpAny (model prog w) A (getItem x y) Q E s := by
  refine elimK e (fun p h1 e => bindK e fun k h2 e => iteK e fun hp e => mapK e fun c hc e => ?_) fun hno e => elimK e (fun p h1 e => bindK e fun k h2 e => iteK e fun hp e => mapK e fun c hc e => ?_) fun _ e => bindK e fun p h1 e => bindK e fun k h2 e => mapK e fun c hc e => ?_
  · subst e
    refine hx.strE (motive := fun x => wpAny (model prog w) A (getItem x y) Q E s) h1 fun t => hy.intE (motive := fun y => wpAny (model prog w) A (getItem _ y) Q E s) h2 fun u => ?_
    obtain ⟨j, h1, h2, h3, h4⟩ := seqIndex_of hc
    have hl : p.cps.toList.length = p.length := Array.length_toList
    rw [hl] at h1 h3 h4
    have hp : p.length ≤ 4096 := hp
    refine PyProof.Rows.getItem_str (c := c) (by rw [Bool.or_eq_false_iff]; exact ⟨decide_eq_false (by omega), decide_eq_false (by omega)⟩) ?_ (hQ _ _ (.tok (Nat.le_succ _)) ⟨_, rfl⟩ (fun _ e => Value.noConfusion e) (fun _ => ⟨_, rfl, rfl⟩))
    rw [h1]
    simpa using h2
  · subst e
    rw [asList_eq h1] at hx
    refine hy.intE (motive := fun y => wpAny (model prog w) A (getItem x y) Q E s) h2 fun u => ?_
    obtain ⟨a, vs, n, rfl, hl, hv⟩ := hx
    obtain ⟨j, h1', h2, h3, h4⟩ := seqIndex_of hc
    have hlen := hv.size
    obtain ⟨z, hz, hzv⟩ := hv.get _ _ h2
    have fin : Q z s := hQ z s (.refl s) hzv (fun b e => HasV.noRef (prog := prog) (w := w) (h := s.heap) (a := c) hzv b e) (fun ⟨p, e⟩ => by rw [e] at hno; exact no_some hno.symm)
    have hz' : vs[j]? = some z := by rw [← Array.getElem?_toList]; exact hz
    have hp : p.length ≤ 4096 := hp
    unfold seqIndex? at h1'
    by_cases h0 : k < 0
    · simp only [h0, if_true] at h1'
      refine iteK h1' fun _ e => ?_
      obtain rfl := Option.some.inj e
      exact wpAny_getItem_list_neg hl.isList h0 (by omega) (by omega) (by rw [hlen]; exact hz') fin
    · simp only [h0, if_false] at h1'
      refine iteK h1' fun _ e => ?_
      obtain rfl := Option.some.inj e
      exact wpAny_getItem_list hl.isList (Int.not_lt.mp h0) (by omega) hz' fin
  · subst e
    rw [asDict_eq h1] at hx
    refine hy.strE (motive := fun y => wpAny (model prog w) A (getItem x y) Q E s) h2 fun u => ?_
    obtain ⟨a, kvs, rfl, hd, hk, hm⟩ := hx
    obtain ⟨t, ht⟩ := kvs_get hk hc
    refine wpAny_getItem_of (knd := sk prog w) (k := k) (f := valueAt kvs) ?_ hd.mapOf ht (hQ _ _ (.tok (Nat.le_succ _)) ⟨_, rfl⟩ (fun _ e => Value.noConfusion e) (fun ⟨p, e⟩ => by rw [e] at hno; exact no_some hno.symm))
    simp [PySem.strKind, Value.isStrOf]

noncomputable def PartIs (v : Value) : Option Int → Prop
  | none => v = .none
  | some i => ∃ t, v = .int i t
theorem PartIs.part {v : Value} {k : Option Int} (h : PartIs v k) : ∃ l : Option (Int × Tok), v = partValue l ∧ l.map (·.1) = k := by
  cases k with
  | none => exact ⟨none, h, rfl⟩
  | some i => obtain ⟨t, rfl⟩ := h; exact ⟨some (i, t), rfl, rfl⟩
theorem PartIs.is {v : Value} {k : Option Int} (h : PartIs v k) : IsPart v k := by
  cases k with
  | none => obtain rfl := h; exact .none
  | some i =>
    obtain ⟨t, rfl⟩ := h
    exact .int i t

theorem slice_ok {o v : V} {a b : Option Int} (e : slice o a b = some v) {x vl vu : Value} {sl : Addr} (hx : HasV prog w s.heap x o) (ha : PartIs vl a) (hb : PartIs vu b)
    (hs : s.heap.get? sl = some { cls := .type "slice", data := .fields #[vl, vu, .none] })
    {Q : Value → Shared → Prop} (hQ : ∀ mv s', Ext s s' → HasV prog w s'.heap mv v → Newly s mv → Q mv s') :
    wpAny (model prog w) A (getItem x (.ref sl)) Q E s := by
  refine iteK e fun _ e => elimK e (fun p h1 e => iteK e fun hp e => hx.strE (motive := fun x => wpAny (model prog w) A (getItem x _) Q E s) h1 fun t => ?_) fun _ e => bindK e fun p h1 e => iteK e fun hp e => ?_
  · obtain rfl := Option.some.inj e
    obtain ⟨l, rfl, rfl⟩ := ha.part
    obtain ⟨u, rfl, rfl⟩ := hb.part
    refine wpAny_getItem_str_slice (l := l) (u := u) (st := none) ⟨_, hs, rfl, rfl⟩ rfl ?_
    unfold sliceMade slicePicked
    have hdef : Txt.slice p (l.map (·.1)) (u.map (·.1)) = if ((1 : Int) == 1 && (strSliceIndices (l.map (·.1)) (u.map (·.1)) 1 p.length).length == p.length) = true then p else ⟨((strSliceIndices (l.map (·.1)) (u.map (·.1)) 1 p.length).filterMap (p.cps[·]?)).toArray⟩ := rfl
    by_cases hc : ((1 : Int) == 1 && (strSliceIndices (l.map (·.1)) (u.map (·.1)) 1 p.length).length == p.length) = true
    · rw [if_pos hc] at hdef
      show Made.post (if _ then _ else _) Q s
      rw [if_pos (by simpa using hc)]
      exact hQ _ _ (.refl s) ⟨t, by rw [hdef]⟩ Newly.str
    · rw [if_neg hc] at hdef
      show Made.post (if _ then _ else _) Q s
      rw [if_neg (by simpa using hc)]
      refine ⟨?_, hQ _ _ (.tok (Nat.le_succ _)) ⟨_, by rw [hdef]; rfl⟩ Newly.str⟩
      have h1 := Txt.slice_le p (l.map (·.1)) (u.map (·.1))
      rw [hdef] at h1
      exact Nat.le_trans h1 (Nat.le_trans hp (by rw [sizeLine_eq]; decide))
  · obtain rfl := Option.some.inj e
    rw [asList_eq h1] at hx
    obtain ⟨ad, vs, n, rfl, hl, hv⟩ := hx
    have hlen := hv.size
    refine wpAny_getItem_list_slice hl.isList ⟨_, hs, rfl, rfl⟩ ha.is hb.is .none (by simp) (hQ _ _ (.push _ (Nat.le_refl _)) ⟨_, _, 0, rfl, IsL.new _ _, ?_⟩ Newly.here) (hlen ▸ Nat.le_trans hp (by rw [sizeLine_eq]; decide))
    rw [slicePick_plain]
    unfold listSlice
    rw [hlen]
    simpa using (hv.drop _).take _
end ops
end Mine
end
section
open PySem PySem.W PyProof.Rows PySem.Calls Builtin.Str PySem.Spec
namespace Mine
variable {prog : Program} {w : World}

/-! sorting -/
noncomputable def leS (a b : Str) : Prop := strLt b a = false
theorem leS.trans {a b c : Str} (h : leS a b) (h' : leS b c) : leS a c := by
  unfold leS strLt at *
  simp only [decide_eq_false_iff_not] at *
  exact List.not_lt.mpr (List.le_trans (List.not_lt.mp h) (List.not_lt.mp h'))
theorem leS.antisymm {a b : Str} (h : leS a b) (h' : leS b a) : a = b := by
  unfold leS strLt at *
  simp only [decide_eq_false_iff_not] at *
  have := List.le_antisymm (List.not_lt.mp h) (List.not_lt.mp h')
  obtain ⟨⟨a⟩⟩ := a; obtain ⟨⟨b⟩⟩ := b
  simp at this; rw [this]
theorem leS.total (a b : Str) : leS a b ∨ leS b a := by
  unfold leS strLt
  simp only [decide_eq_false_iff_not]
  rcases List.le_total a.cps.toList b.cps.toList with h | h
  · exact .inl (List.not_lt.mpr h)
  · exact .inr (List.not_lt.mpr h)
theorem pairwise_rising : ∀ (r : List Str) (p : Str), risingS p r = true → (p :: r).Pairwise leS
  | [], p, _ => by simp
  | x :: r, p, h => by
    have h' : (!ltCps x.cps.toList p.cps.toList && risingS x r) = true := h
    rw [Bool.and_eq_true, Bool.not_eq_true', ltCps_eq] at h'
    have ih := pairwise_rising r x h'.2
    have h1 : leS p x := h'.1
    refine .cons (fun y hy => ?_) ih
    rcases List.mem_cons.mp hy with rfl | hy
    · exact h1
    · exact h1.trans (List.rel_of_pairwise_cons ih hy)
theorem pairwise_sortedS : ∀ (l : List Str), sortedS l = true → l.Pairwise leS
  | [], _ => .nil
  | x :: r, h => pairwise_rising r x h
theorem perm_sorted : ∀ {l k : List Str}, l.Perm k → l.Pairwise leS → k.Pairwise leS → l = k
  | [], k, p, _, _ => (List.Perm.nil_eq p)
  | a :: l, [], p, _, _ => by have := p.length_eq; simp at this
  | a :: l, b :: k, p, h1, h2 => by
    have ha : a ∈ b :: k := p.mem_iff.mp (List.mem_cons_self ..)
    have hb : b ∈ a :: l := p.mem_iff.mpr (List.mem_cons_self ..)
    have e : a = b := by
      rcases List.mem_cons.mp ha with e | ha
      · exact e
      · rcases List.mem_cons.mp hb with e | hb
        · exact e.symm
        · exact (List.rel_of_pairwise_cons h1 hb).antisymm (List.rel_of_pairwise_cons h2 ha)
    subst e
    rw [perm_sorted (List.Perm.cons_inv p) (List.pairwise_cons.mp h1).2 (List.pairwise_cons.mp h2).2]
theorem insStr_perm (x : Str) : ∀ l, (insStr x l).Perm (x :: l)
  | [] => .refl _
  | y :: r => by
    unfold insStr
    split
    · exact .refl _
    · exact ((insStr_perm x r).cons y).trans (.swap x y r)
theorem insStr_sorted (x : Str) : ∀ l, l.Pairwise leS → (insStr x l).Pairwise leS
  | [], _ => by simp [insStr]
  | y :: r, h => by
    unfold insStr
    split
    · rename_i hlt
      have hxy : leS x y := by
        rcases leS.total x y with q | q
        · exact q
        · unfold leS at q; rw [hlt] at q; cases q
      refine .cons (fun z hz => ?_) h
      rcases List.mem_cons.mp hz with rfl | hz
      · exact hxy
      · exact hxy.trans (List.rel_of_pairwise_cons h hz)
    · rename_i hlt
      have hyx : leS y x := by unfold leS; simpa using hlt
      refine .cons (fun z hz => ?_) (insStr_sorted x r (List.pairwise_cons.mp h).2)
      rcases List.mem_cons.mp ((insStr_perm x r).mem_iff.mp hz) with rfl | hz
      · exact hyx
      · exact List.rel_of_pairwise_cons h hz
theorem sortStr_perm : ∀ l : List Str, (sortStr l).Perm l
  | [] => .refl _
  | x :: r => (insStr_perm x _).trans ((sortStr_perm r).cons x)
theorem sortStr_sorted : ∀ l : List Str, (sortStr l).Pairwise leS
  | [] => .nil
  | x :: r => insStr_sorted x _ (sortStr_sorted r)

section ops
variable {A : Around} {E : Value → Shared → Prop} {s : Shared} {d : Nat}

theorem capN_le {n k : Nat} (e : capN n = some k) : n ≤ 4096 ∧ n = k := iteK e fun h e => ⟨h, Option.some.inj e⟩
theorem len_ok {v : V} {n : Nat} (e : lenOf v = some n) {x : Value} (hx : HasV prog w s.heap x v)
    {Q : Value → Shared → Prop} (hQ : ∀ mv s', Ext s s' → HasV prog w s'.heap mv (.int n) → Q mv s') : wpAny (model prog w) A (call (.builtin "len") [x]) Q E s := by
  have fin : ∀ t, Q (.int n t) { s with toks := s.toks + 1 + 1 } := fun t => hQ _ _ (.tok (Nat.le_add_right _ 2)) ⟨_, rfl⟩
  cases v with
  | «at» a =>
    refine bindK e fun p h1 e => hx.strE (motive := fun x => wpAny (model prog w) A (call (.builtin "len") [x]) Q E s) h1 fun t => ?_
    obtain ⟨h, rfl⟩ := capN_le e
    exact PyProof.Rows.len_str (by omega) (fin _)
  | list l =>
    obtain ⟨h, rfl⟩ := capN_le e
    obtain ⟨a, vs, n, rfl, hi, hv⟩ := hx
    have hl := hv.size
    rw [← hl] at h fin
    exact Calls.call_len_list hi.isList (by omega) (fin _)
  | dict l =>
    obtain ⟨h, rfl⟩ := capN_le e
    obtain ⟨a, kvs, rfl, hd, hk, hm⟩ := hx
    rw [← hk.length] at h fin
    exact call_len_dict hm hd (by omega) (fin _)
  | tup l => exact no_some e

theorem list_ok {l : List Atm} (hl : l.length ≤ sizeCap) {x : Value} (hx : HasV prog w s.heap x (.list l))
    {Q : Value → Shared → Prop} (hQ : ∀ mv s', Ext s s' → HasV prog w s'.heap mv (.list l) → Newly s mv → Q mv s') : wpAny (model prog w) A (call (.type "list") [x]) Q E s := by
  have : sizeCap = 4096 := rfl
  obtain ⟨a, vs, n, rfl, hi, hv⟩ := hx
  have h := hv.size
  exact call_list_seq a (.inl rfl) hi rfl rfl (fun h' c' hk hn => hQ _ _ (.of hk (Nat.le_refl _)) ⟨_, _, c', rfl, hn, hv⟩ Newly.here) (by rw [sizeLine_eq]; omega)

theorem preSum_eq (ns : List Int) : ∀ j, j ≤ ns.length → preSum (fun i => ns.getD i 0) j = (ns.take j).sum
  | 0, _ => rfl
  | j + 1, h => by
    show preSum _ j + _ = _
    rw [preSum_eq ns j (by omega), List.take_add_one, List.sum_append]
    dsimp only
    rw [List.getD_eq_getElem?_getD, List.getElem?_eq_getElem (by omega)]
    simp

theorem sum_ok {l : List Atm} {ns : List Int} (hl : intsOf l = some ns) (R : Room A (d + 1)) {x : Value} (hx : HasV prog w s.heap x (.list l))
    {Q : Value → Shared → Prop} (hQ : ∀ mv s', Ext s s' → HasV prog w s'.heap mv (.int ns.sum) → Q mv s') : wpAny (model prog w) A (call (.builtin "sum") [x]) Q E s := by
  obtain ⟨a, vs, n, rfl, hi, hv⟩ := hx
  have hints := hv.ints hl
  have hlen := hints.length
  rw [Array.length_toList] at hlen
  refine call_sum_walkAnyS (wpAny_pyIter_list hi.isList ?_)
  have hne : a ≠ s.heap.objs.size := Nat.ne_of_lt (Heap.lt_size hi)
  have W := Walks.list (prog := prog) (w := w) (A := A.in1) R.h s.heap.objs.size a hne vs
  refine ⟨_, _, _, _, _, _, _, fun i => ns.getD i 0, rfl, W.toS, ⟨⟨_, Heap.get?_push_size _ rfl, rfl, rfl⟩, (hi.isList).push _⟩, ?_, ?_, ?_⟩
  · intro b hb
    show b < (s.heap.push _).objs.size
    rw [Heap.size_push]
    rcases List.mem_cons.mp hb with e | hb
    · rw [e]; exact Nat.lt_succ_self _
    · rw [List.mem_singleton.mp hb]; exact Nat.lt_succ_of_lt (Heap.lt_size hi)
  · intro i v hP
    have hi' : i < vs.size := by
      by_cases q : i < vs.size
      · exact q
      · rw [Array.getElem?_eq_none (by omega)] at hP; cases hP
    obtain ⟨t, ht⟩ := hints.get i (ns.getD i 0) (by rw [List.getD_eq_getElem?_getD, List.getElem?_eq_getElem (by omega)]; rfl)
    refine ⟨t, ?_⟩
    have : vs[i]? = some (.int (ns.getD i 0) t) := by simpa using ht
    rw [this] at hP; exact (Option.some.inj hP).symm
  · intro s' t' hm
    have e : preSum (fun i => ns.getD i 0) vs.size = ns.sum := by rw [hlen, preSum_eq ns _ (Nat.le_refl _), List.take_length]
    have hg : s'.gens = s.gens := hm.gens
    refine hQ _ _ ⟨fun b o e => hm.heap b o (fun h => ?_) (Heap.get?_push_of_some _ e), by rw [hg]; exact Nat.le_refl _, fun _ _ => by rw [hg], by rw [hg]; exact id, hm.os, hm.toks⟩ ⟨t', by rw [e]⟩
    rw [List.mem_singleton.mp h] at e
    exact absurd (Heap.lt_size e) (Nat.lt_irrefl _)

theorem sorted_ok {l : List (Str × Int)} (hl : l.length < 64) (R : Room A (d + 1)) {x : Value} (hx : HasV prog w s.heap x (.dict l))
    {Q : Value → Shared → Prop} (hQ : ∀ mv s', Ext s s' → HasV prog w s'.heap mv (.list ((sortStr (l.map (·.1))).map .str)) → Newly s mv → Q mv s') :
    wpAny (model prog w) A (call (.builtin "sorted") [x]) Q E s := by
  obtain ⟨a, kvs, rfl, hd, hk, hm⟩ := hx
  obtain ⟨ep, hat⟩ := hd.dictAt
  have hlen := hk.length
  refine call_function_entry kind_sorted plain_sorted entry_sorted (args_sorted1 _) ?_
  unfold Builtin.«sorted»
  refine wpAny_bind (m := checkCount "sorted" 1 1 _) (wpAny_pure ?_)
  refine wpAny_with_toks (Nat.le_refl s.toks) (wpAny_bind (kdu_collect (A := A.in1) (kdl_dict (knd := sk prog w) (kvs := kvs) (ep := ep) hm) R.h hat (by rw [sizeLine_eq]; omega) fun h' tk acc hk' hacc => ?_))
  have hal : acc.toList.length = kvs.length := by rw [Array.length_toList]; exact hacc.1
  have hS : StrsAre acc.toList (l.map (·.1)) := by
    rw [← hk.keys]
    clear hal hk hlen hQ hat hd
    obtain ⟨acc⟩ := acc
    obtain ⟨h1, h2⟩ := hacc
    simp only [List.size_toArray, List.getElem?_toArray] at h1 h2 ⊢
    clear hm hk' 
    induction kvs generalizing acc with
    | nil => cases acc with
      | nil => exact .nil
      | cons => simp at h1
    | cons p r ih =>
      cases acc with
      | nil => simp at h1
      | cons v vs =>
        obtain ⟨k, x, e, hkv⟩ := h2 0 v rfl
        simp at e; subst e
        obtain ⟨t, rfl⟩ := Value.isStrOf_shape hkv
        refine .cons k t (ih vs (by simpa using h1) fun j v hv => ?_)
        simpa using h2 (j + 1) v (by simpa using hv)
  refine wpAny_bind (wpAny_newList ?_ (by rw [hal, sizeLine_eq]; omega))
  have hoL : (h'.push (seqObj "list" acc.toList.toArray 0)).get? h'.objs.size = some (seqObj "list" acc.toList.toArray 0) := Heap.get?_push_size _ rfl
  show wpAny _ _ _ _ _ { s with heap := h'.push (seqObj "list" acc.toList.toArray 0), toks := tk }
  refine wpAny_bind (wpAny_holding (wpAny_call_entry slot_list_sort ⟨_, hoL, rfl⟩ entry_list_sort (list_sort_treeK strKind_oneLt hoL hS.keysOf (fun v₁ v₂ rest e => keyKind_strs (by rw [← e]; exact hS)) (by omega) fun st' hp hs => ⟨_, rfl, ?_⟩) (args_list_sort _)))
  refine wpAny_pure fun htk => ⟨_, rfl, ?_⟩
  obtain ⟨ss', h1, h2, h3⟩ := sorted_out_str hS hp hs
  have hss : ss' = sortStr (l.map (·.1)) := perm_sorted (h2.trans (sortStr_perm _).symm) (pairwise_sortedS _ h3) (sortStr_sorted _)
  have ho := sortedHeap_at (vs := acc.toList) (out := (arrOf st').map (·.2)) hoL
  have hne : s.heap.get? h'.objs.size = none := by
    cases q : s.heap.get? h'.objs.size with
    | none => rfl
    | some o => exact absurd (Heap.lt_size (hk' _ _ q)) (Nat.lt_irrefl _)
  refine hQ _ _ (.of (fun b o e => ?_) htk) ?_ (fun _ e => by cases e; exact hne)
  · have hb : b < h'.objs.size := Heap.lt_size (hk' _ _ e)
    rw [sortedHeap_old (Nat.ne_of_lt hb) (by rw [Heap.size_push]; exact Nat.lt_succ_of_lt hb)]
    exact Heap.get?_push_of_some _ (hk' _ _ e)
  · obtain ⟨e', he'⟩ := ho
    refine ⟨_, (arrOf st').map (·.2), e', rfl, he', ?_⟩
    rw [← hss]
    exact are_strs h1
end ops
end Mine
end
section
open PySem PySem.W PyProof.Rows PySem.Calls Builtin.Str PySem.Spec
namespace Mine
variable {prog : Program} {w : World}

inductive HasVs (prog : Program) (w : World) (h : Heap) : List Value → List V → Prop
  | nil : HasVs prog w h [] []
  | cons {x v xs vs} : HasV prog w h x v → HasVs prog w h xs vs → HasVs prog w h (x :: xs) (v :: vs)
theorem HasVs.ext {s s' : Shared} {xs vs} (H : HasVs prog w s.heap xs vs) (x : Ext s s') : HasVs prog w s'.heap xs vs := by
  induction H with
  | nil => exact .nil
  | cons h _ ih => exact .cons (h.ext x) ih
theorem HasVs.length {h : Heap} {xs vs} (H : HasVs prog w h xs vs) : xs.length = vs.length := by induction H <;> simp_all

section ops
variable {A : Around} {E : Value → Shared → Prop} {s : Shared} {d : Nat}

theorem from_nn (n : Nat) (a : Int) (h : 0 ≤ a) : fromIndex n a = a.toNat := by
  unfold fromIndex
  rw [if_neg (Int.not_lt.mpr h), Int.max_eq_right h]
theorem find4 {x y : Str} {a b : Int} {t u v z : Tok} {Q : Value → Shared → Prop} (ha : 0 ≤ a) (hab : a ≤ b) (hb : b ≤ x.length)
    (h : Q (.int (findIn x y a b) s.toks) { s with toks := s.toks + 1 }) : wpAny (model prog w) A (call (.builtin "str.find") [.str x t, .str y u, .int a v, .int b z]) Q E s := by
  have g : Gives (Builtin.«str.find» ⟨[.str x t, .str y u, .int a v, .int b z], []⟩) (.int (findIn x y a b)) := by
    show Gives (match occurrences x y (fromIndex x.length a) (min (fromIndex x.length b) x.length) 1 with | k :: _ => retInt k | [] => (do rule "str.find.not-found"; retInt (-1))) _
    rw [from_nn _ _ ha, from_nn _ _ (Int.le_trans ha hab), Nat.min_eq_left (Int.toNat_le.mpr hb)]
    unfold findIn
    rw [if_pos ⟨ha, hab, hb⟩]
    cases occurrences x y a.toNat b.toNat 1 with
    | nil => exact .rule (.of_eq rfl)
    | cons i r => exact .of_eq rfl
  exact call_gives F.slot_str_find (typeIs_str _ _ _) F.entry_str_find (F.args_str_find_4 _ _ _ _) g h

theorem split_ok {x y : Str} {t u : Tok} {Q : Value → Shared → Prop} (hy : (y.length == 0) = false) (hx : x.length ≤ sizeCap)
    (hQ : ∀ mv s', Ext s s' → HasV prog w s'.heap mv (.list ((Txt.split x y).map .str)) → Newly s mv → Q mv s') :
    wpAny (model prog w) A (call (.builtin "str.split") [.str x t, .str y u]) Q E s := by
  have hc : sizeCap = 4096 := rfl
  have key : ∀ (l : List (Str × Tok)) (k : Nat), s.toks ≤ k → l.map (·.1) = Txt.split x y → Q (.ref s.heap.objs.size) { s with heap := s.heap.push { cls := .type "list", data := .seq (strValues l).toArray }, toks := k } := fun l k hk e =>
    hQ _ _ (.push _ hk) ⟨_, _, 0, rfl, IsL.new _ _, by rw [← e]; exact are_strs (strsAre_of_values l)⟩ Newly.here
  cases h1 : (decide (x.length < y.length) || decide (Builtin.Str.strKind x < Builtin.Str.strKind y))
  · cases hf : (occurrences x y 0 x.length (x.length + 1)).isEmpty
    · have hn : (partsBetween x (occurrences x y 0 x.length (x.length + 1)) y.length).length ≤ sizeLine := by
        rw [length_partsBetween]; have e1 := StrLaws.occ_length_le x y 0 x.length (x.length + 1); rw [sizeLine_eq]; omega
      refine call_meets F.slot_str_split (typeIs_str _ _ _) F.entry_str_split (F.args_str_split_2 _ _) (meets_str_split_sep x y t u h1 hy hf (by rw [sizeLine_eq]; omega) hn) ?_
      show wants Q E _ { s with toks := _, heap := s.heap.push { cls := .type "list", data := .seq (strsFrom s.toks (partsBetween x (occurrences x y 0 x.length (x.length + 1)) y.length)).toArray } }
      rw [strsFrom_eq]
      exact key (numbered s.toks _) _ (by omega) ((numbered_texts _ _).trans ((if_neg (ne_true_of_eq_false h1)).trans (if_neg (ne_true_of_eq_false hf))).symm)
    · exact call_meets F.slot_str_split (typeIs_str _ _ _) F.entry_str_split (F.args_str_split_2 _ _) (meets_str_split_not_found x y t u h1 hy hf)
        (key [(x, t)] s.toks (Nat.le_refl _) ((if_neg (ne_true_of_eq_false h1)).trans (if_pos hf)).symm)
  · exact call_meets F.slot_str_split (typeIs_str _ _ _) F.entry_str_split (F.args_str_split_2 _ _) (meets_str_split_cannot_occur x y t u h1)
      (key [(x, t)] s.toks (Nat.le_refl _) (if_pos h1).symm)

theorem joinOk_of {x : Str} {ys : List Str} (hx : x.length ≤ 8) (hn : ys.length ≤ 64) (hy : ∀ y ∈ ys, y.length ≤ 64) : JoinOk x ys = true := by
  unfold JoinOk tooLong
  rw [Bool.not_eq_true', StrLaws.joinTotal]
  have h1 : ∀ l : List Str, (∀ y ∈ l, y.length ≤ 64) → (l.map (·.length)).sum ≤ 64 * l.length := by
    intro l
    induction l with
    | nil => intro _; simp
    | cons a r ih =>
      intro h
      have h2 := ih fun y hy => h y (List.mem_cons_of_mem _ hy)
      have h3 := h a (List.mem_cons_self ..)
      simp only [List.map_cons, List.sum_cons, List.length_cons]; omega
  have h2 := h1 ys hy
  have h3 : ys.length * x.length ≤ 64 * 8 := Nat.mul_le_mul hn hx
  rw [sizeLine_eq]
  exact decide_eq_false (by omega)

noncomputable def onId (f : Str) : String := if f == ("split" : Str) then "str.split" else if f == ("startswith" : Str) then "str.startswith" else if f == ("endswith" : Str) then "str.endswith" else if f == ("join" : Str) then "str.join" else "str.find"

theorem on_split : onId ("split" : Str) = "str.split" := by decide +kernel
theorem on_starts : onId ("startswith" : Str) = "str.startswith" := by decide +kernel
theorem on_ends : onId ("endswith" : Str) = "str.endswith" := by decide +kernel
theorem on_join : onId ("join" : Str) = "str.join" := by decide +kernel
theorem on_find : onId ("find" : Str) = "str.find" := by decide +kernel
theorem HasVs.oneK {h : Heap} {xs : List Value} {v : V} {motive : List Value → Prop} (H : HasVs prog w h xs [v]) (q : ∀ x, HasV prog w h x v → motive [x]) : motive xs := by
  cases H with
  | cons a b => cases b; exact q _ a
theorem HasVs.threeK {h : Heap} {xs : List Value} {u v z : V} {motive : List Value → Prop} (H : HasVs prog w h xs [u, v, z]) (q : ∀ x y c, HasV prog w h x u → HasV prog w h y v → HasV prog w h c z → motive [x, y, c]) : motive xs := by
  cases H with
  | cons a b => cases b with
    | cons b c => cases c with
      | cons c d => cases d; exact q _ _ _ a b c
theorem methS_ok {f x y : Str} {v : V} {t u : Tok} (e : methS f x y = some v) (R : Room A (d + 1)) {Q : Value → Shared → Prop} (hQ : ∀ mv s', Ext s s' → HasV prog w s'.heap mv v → Newly s mv → Q mv s') :
    wpAny (model prog w) A (call (.builtin (onId f)) [.str x t, .str y u]) Q E s := by
  have nb : ∀ b, Newly s (.bool b) := fun b _ e => Value.noConfusion e
  refine condK e (fun h e => ?_) fun _ e => condK e (fun h e => ?_) fun _ e => condK e (fun h e => ?_) fun _ e => iteK e fun h e => ?_
  · rw [beq_iff_eq.mp h, on_split]
    refine condK e (fun _ e => no_some e) fun hn e => ?_
    obtain rfl := Option.some.inj e
    simp only [Bool.or_eq_true, beq_iff_eq, Bool.not_eq_true', decide_eq_false_iff_not, not_or, Classical.not_not] at hn
    exact split_ok (beq_eq_false_iff_ne.mpr hn.1) hn.2 hQ
  · rw [beq_iff_eq.mp h, on_starts]
    obtain rfl := Option.some.inj e
    exact SC.startswith (hQ _ _ (.refl s) rfl (nb _))
  · rw [beq_iff_eq.mp h, on_ends]
    obtain rfl := Option.some.inj e
    exact SC.endswith (hQ _ _ (.refl s) rfl (nb _))
  · rw [beq_iff_eq.mp h, on_join]
    refine iteK e fun hn e => andK hn fun h1 h2 => ?_
    obtain rfl := Option.some.inj e
    refine wpAny_with_toks (Nat.le_refl s.toks) (SC.joinStr R.h (joinOk_of (of_decide_eq_true h1) ?_ ?_) fun h' k t' hk ht => hQ _ _ (.of hk ht) ⟨t', rfl⟩ Newly.str)
    · have := of_decide_eq_true h2
      simpa [PyProof.Rows.signs, Str.length] using this
    · intro z hz
      obtain ⟨c, _, rfl⟩ := List.mem_map.mp hz
      show 1 ≤ 64
      decide
theorem methL_ok {f x : Str} {l : List Atm} {y : Value} {v : V} {t : Tok} (e : methL f x l = some v) (hy : HasV prog w s.heap y (.list l)) {Q : Value → Shared → Prop} (hQ : ∀ mv s', Ext s s' → HasV prog w s'.heap mv v → Newly s mv → Q mv s') :
    wpAny (model prog w) A (call (.builtin (onId f)) [.str x t, y]) Q E s := by
  refine iteK e fun h e => bindK e fun ys hys e => iteK e fun hn e => andK hn fun h1 h2 => andK h1 fun h1 h3 => ?_
  rw [beq_iff_eq.mp h, on_join]
  obtain rfl := Option.some.inj e
  obtain ⟨a, vs, n, rfl, hi, hv⟩ := hy
  obtain ⟨p, hp, hq⟩ := strsAre_values (hv.strs hys)
  exact wpAny_with_toks (Nat.le_refl s.toks) (SC.join (D := a) (l := p) (by rw [← hp]; exact hi.isList) hq (joinOk_of (of_decide_eq_true h1) (of_decide_eq_true h3) fun y hy => of_decide_eq_true (List.all_eq_true.mp h2 y hy)) fun t' k hk => hQ _ _ (.tok hk) ⟨t', rfl⟩ Newly.str)
theorem methF_ok {f x y : Str} {a b : Int} {v : V} {t u p q : Tok} (e : methF f x y a b = some v) {Q : Value → Shared → Prop} (hQ : ∀ mv s', Ext s s' → HasV prog w s'.heap mv v → Newly s mv → Q mv s') :
    wpAny (model prog w) A (call (.builtin (onId f)) [.str x t, .str y u, .int a p, .int b q]) Q E s := by
  refine iteK e fun h e => andK h fun h _ => andK h fun h h3 => andK h fun h h2 => andK h fun h h1 => ?_
  rw [beq_iff_eq.mp h, on_find]
  obtain rfl := Option.some.inj e
  exact find4 (of_decide_eq_true h1) (of_decide_eq_true h2) (of_decide_eq_true h3) (hQ _ _ (.tok (Nat.le_succ _)) ⟨_, rfl⟩ Newly.int)
theorem meth_call {f : Str} {ov v : V} {vs : List V} (e : meth f ov vs = some v) {x : Value} {xs : List Value} (hx : HasV prog w s.heap x ov) (hxs : HasVs prog w s.heap xs vs) (R : Room A (d + 1))
    {Q : Value → Shared → Prop} (hQ : ∀ mv s', Ext s s' → HasV prog w s'.heap mv v → Newly s mv → Q mv s') : wpAny (model prog w) A (call (.builtin (onId f)) (x :: xs)) Q E s :=
  bindK e fun p h1 e => hx.strE (motive := fun x => wpAny (model prog w) A (call (.builtin (onId f)) (x :: xs)) Q E s) h1 fun t =>
  elimK e (fun v1 hv e => HasVs.oneK (motive := fun xs => wpAny (model prog w) A (call (.builtin (onId f)) (_ :: xs)) Q E s) (one_eq hv ▸ hxs : HasVs prog w s.heap xs [v1]) fun y hy =>
    elimK e (fun q hq e => hy.strE (motive := fun y => wpAny (model prog w) A (call (.builtin (onId f)) [_, y]) Q E s) hq fun u => methS_ok e R hQ) fun _ e => bindK e fun l hl e => methL_ok e (asList_eq hl ▸ hy : HasV prog w s.heap y (.list l)) hQ)
  fun _ e => bindK e fun q hq e => HasVs.threeK (motive := fun xs => wpAny (model prog w) A (call (.builtin (onId f)) (_ :: xs)) Q E s) (three_eq hq ▸ hxs : HasVs prog w s.heap xs [q.1, q.2.1, q.2.2]) fun y a b hy ha hb =>
    bindK e fun _ h2 e => bindK e fun _ h3 e => bindK e fun _ h4 e => hy.strE (motive := fun y => wpAny (model prog w) A (call (.builtin (onId f)) [_, y, _, _]) Q E s) h2 fun _ =>
      ha.intE (motive := fun a => wpAny (model prog w) A (call (.builtin (onId f)) [_, _, a, _]) Q E s) h3 fun _ => hb.intE (motive := fun b => wpAny (model prog w) A (call (.builtin (onId f)) [_, _, _, b]) Q E s) h4 fun _ => methF_ok e hQ

noncomputable def OnS (f : Str) : Prop := Slot "str" f (onId f) ∧ typeOf (.builtin (onId f)) = pure (.type "method_descriptor")
theorem onS_join : OnS ("join" : Str) := by unfold OnS; rw [on_join]; exact ⟨F.slot_str_join, F.type_str_join⟩
theorem onS_split : OnS ("split" : Str) := by unfold OnS; rw [on_split]; exact ⟨F.slot_str_split, F.type_str_split⟩
theorem onS_starts : OnS ("startswith" : Str) := by unfold OnS; rw [on_starts]; exact ⟨F.slot_str_startswith, F.type_str_startswith⟩
theorem onS_ends : OnS ("endswith" : Str) := by unfold OnS; rw [on_ends]; exact ⟨F.slot_str_endswith, F.type_str_endswith⟩
theorem onS_find : OnS ("find" : Str) := by unfold OnS; rw [on_find]; exact ⟨F.slot_str_find, F.type_str_find⟩
theorem onS_of {f g : Str} (h : (f == g) = true) (o : OnS g) : OnS f := (beq_iff_eq.mp h).symm ▸ o
theorem onSlot {f : Str} {ov v : V} {vs : List V} (e : meth f ov vs = some v) : OnS f ∧ ∃ x, ov = .str x :=
  bindK e fun p h1 e => ⟨elimK e (fun v1 hv e => elimK e (fun q hq e => condK e (fun h _ => onS_of h onS_split) fun _ e => condK e (fun h _ => onS_of h onS_starts) fun _ e => condK e (fun h _ => onS_of h onS_ends) fun _ e => iteK e fun h _ => onS_of h onS_join)
    fun _ e => bindK e fun l hl e => iteK e fun h _ => onS_of h onS_join) fun _ e => bindK e fun q hq e => bindK e fun _ h2 e => bindK e fun _ h3 e => bindK e fun _ h4 e => iteK e fun h _ => andK h fun h _ => andK h fun h _ => andK h fun h _ => andK h fun h _ => onS_of h onS_find, _, asStr_eq h1⟩
end ops
end Mine
end
section
open PySem PySem.W PyProof.Rows PySem.Calls Builtin.Str PySem.Spec
namespace Mine
variable {prog : Program} {w : World}

/-- as Sg, but for the tokens -/
structure Sg0 (mg mb : Str → Option Value) (defs : List DefRec) (hG : Heap) (s : Shared) : Prop where
  gG : Glb mg mb defs hG
  base : ∀ b o, hG.get? b = some o → s.heap.get? b = some o
  bare : AllBare s.gens
/-- what was there before the call of the law stays as it is -/
structure Sg (mg mb : Str → Option Value) (defs : List DefRec) (hG : Heap) (s : Shared) : Prop where
  gG : Glb mg mb defs hG
  base : ∀ b o, hG.get? b = some o → s.heap.get? b = some o
  tpos : 0 < s.toks
  bare : AllBare s.gens
theorem Glb.keeps {mg mb : Str → Option Value} {defs : List DefRec} {h h' : Heap} (G : Glb mg mb defs h) (hk : ∀ b o, h.get? b = some o → h'.get? b = some o) : Glb mg mb defs h' where
  g := G.g.keeps hk
  b := G.b.keeps hk
  nl := G.nl.keeps hk
  fn := fun d hd => by
    obtain ⟨a, o, pm, code, doc, h1, h2, h3, h4⟩ := G.fn d hd
    exact ⟨a, o, pm, code, doc, h1, hk _ _ h2, h3, h4.keeps hk⟩
  cst := G.cst
  cm := G.cm
  bmiss := G.bmiss
  bi := G.bi
theorem Sg.glb {mg mb : Str → Option Value} {defs : List DefRec} {hG : Heap} {s : Shared} (G : Sg mg mb defs hG s) : Glb mg mb defs s.heap := G.gG.keeps G.base
theorem Sg.ext {mg mb : Str → Option Value} {defs : List DefRec} {hG : Heap} {s s' : Shared} (G : Sg mg mb defs hG s) (x : Ext s s') : Sg mg mb defs hG s' :=
  ⟨G.gG, fun b o e => x.heap b o (G.base b o e), Nat.lt_of_lt_of_le G.tpos x.toks, x.bare G.bare⟩

theorem Sg.zero {mg mb : Str → Option Value} {defs : List DefRec} {hG : Heap} {s : Shared} (G : Sg mg mb defs hG s) : Sg0 mg mb defs hG s := ⟨G.gG, G.base, G.bare⟩
theorem Sg0.ext {mg mb : Str → Option Value} {defs : List DefRec} {hG : Heap} {s s' : Shared} (G : Sg0 mg mb defs hG s) (x : Ext s s') (h : 0 < s'.toks) : Sg mg mb defs hG s' :=
  ⟨G.gG, fun b o e => x.heap b o (G.base b o e), h, x.bare G.bare⟩
theorem Sg0.glb {mg mb : Str → Option Value} {defs : List DefRec} {hG : Heap} {s : Shared} (G : Sg0 mg mb defs hG s) : Glb mg mb defs s.heap := G.gG.keeps G.base

structure ERel (prog : Program) (w : World) (env : Env) (m : ME) (s : Shared) : Prop where
  names : env.scope.names = m.kinds
  kind : env.scope.kind = .function
  globals : env.globals = mainGlobals
  builtins : env.builtins = builtinsNs
  ns : ∃ ml, s.heap.Ns env.locals ml ∧ ∀ x v, m.kinds.lookup x = some .local → m.val.lookup x = some v →
    ∃ mv, ml x = some mv ∧ HasV prog w s.heap mv v ∧ (x ∈ m.tok → ∃ z t, mv = .str z t ∧ t ≠ 0 ∧ t < s.toks)
  cell : ∀ x v, (m.kinds.lookup x = some .cell ∨ m.kinds.lookup x = some .free) → m.val.lookup x = some v →
    ∃ c mv, env.cells.lookup x = some c ∧ s.heap.IsCell c (some mv) ∧ HasV prog w s.heap mv v
  cells : ∀ x, m.kinds.lookup x = some .cell → ∃ c, env.cells.lookup x = some c

theorem ERel.ext {env : Env} {m : ME} {s s' : Shared} (R : ERel prog w env m s) (x : Ext s s') : ERel prog w env m s' where
  names := R.names
  kind := R.kind
  globals := R.globals
  builtins := R.builtins
  ns := by
    obtain ⟨ml, h1, h2⟩ := R.ns
    refine ⟨ml, h1.keeps x.heap, fun y v hk hv => ?_⟩
    obtain ⟨mv, a, b, c⟩ := h2 y v hk hv
    refine ⟨mv, a, b.ext x, fun ht => ?_⟩
    obtain ⟨z, t, e, h0, h1⟩ := c ht
    exact ⟨z, t, e, h0, Nat.lt_of_lt_of_le h1 x.toks⟩
  cell := fun y v hk hv => by
    obtain ⟨c, mv, a, b, d⟩ := R.cell y v hk hv
    exact ⟨c, mv, a, b.keeps x.heap, d.ext x⟩
  cells := R.cells
theorem ERel.kindOf {env : Env} {m : ME} {s : Shared} (R : ERel prog w env m s) (x : Str) : env.kindOf x = m.kinds.lookup x := by
  unfold Env.kindOf; rw [R.names]

/-- one call of a named function -/
structure HC (prog : Program) (w : World) (mg mb : Str → Option Value) (defs : List DefRec) (hG : Heap) (A : Around) (call : CallT) : Prop where
  name : ∀ f vs v, call f vs = some v → ∃ d ∈ defs, d.name = f
  ok : ∀ f vs v, call f vs = some v → ∀ a, mg f = some (.ref a) → ∀ s xs Q E, Sg mg mb defs hG s → HasVs prog w s.heap xs vs →
    (f = ("_law_hidden_ones" : Str) → ∃ x0 x1 x2 t1 t2, xs = [x0, .str x1 t1, .str x2 t2] ∧ t1 ≠ 0 ∧ t1 < s.toks ∧ t2 ≠ 0 ∧ t2 < s.toks) →
    (∀ mv s', Ext s s' → HasV prog w s'.heap mv v → Newly s mv → Q mv s') → wpAny (model prog w) A (PySem.call (.ref a) xs) Q E s

section
variable {mg mb : Str → Option Value} {defs : List DefRec} {hG : Heap} {A : Around} {E : Value → Shared → Prop} {s : Shared} {d : Nat} {env : Env} {m : ME}

theorem const_ok {c : Const} {k : Nat} {p : Pos} {v : V} (e : constV c = some v) {Q : Value → Shared → Prop} (hQ : ∀ mv s', Ext s s' → HasV prog w s'.heap mv v → Newly s mv → Q mv s') :
    wpAny (model prog w) A (eval (.Constant c k p) env) Q E s := by
  cases c with
  | none => obtain rfl := Option.some.inj e; exact Constant_none (hQ _ _ (.refl s) rfl (fun _ e => Value.noConfusion e))
  | bool b => obtain rfl := Option.some.inj e; exact Constant_bool (hQ _ _ (.refl s) rfl (fun _ e => Value.noConfusion e))
  | int i => obtain rfl := Option.some.inj e; exact wpAny_Constant_int (hQ _ _ (.tok (Nat.le_succ _)) ⟨_, rfl⟩ Newly.int)
  | str i => obtain rfl := Option.some.inj e; exact Constant_str (hQ _ _ (.tok (Nat.le_succ _)) ⟨_, rfl⟩ Newly.str)
  | _ => exact no_some e
theorem okName_inv {x : Str} (h : okName x = true) : (x == ("__debug__" : Str)) = false ∧ (x == ("__classdict__" : Str)) = false :=
  andK h fun h1 h2 => ⟨Bool.not_eq_true' _ ▸ h1, Bool.not_eq_true' _ ▸ h2⟩
theorem no_kind {k k' : NameKind} {P : Prop} {o : Option NameKind} (h : o = some k) (h' : o = some k') (q : k ≠ k') : P := absurd (Option.some.inj (h.symm.trans h')) q

theorem name_ok (G : Sg mg mb defs hG s) (R : ERel prog w env m s) {x : Str} {p : Pos} {call : CallT} {n : Nat} {v : V} (e : ev call (n + 1) (.Name x p) m = some v)
    {Q : Value → Shared → Prop} (hQ : ∀ mv, HasV prog w s.heap mv v → (m.kinds.lookup x = some .local → x ∈ m.tok → ∃ z t, mv = .str z t ∧ t ≠ 0 ∧ t < s.toks) → Q mv s) :
    wpAny (model prog w) A (eval (.Name x p) env) Q E s := by
  have hk := R.kindOf x
  change evName x m = some v at e
  refine iteK e fun hn e => bindK e fun k hl e => ?_
  have hn := okName_inv hn
  cases k with
  | «local» =>
    obtain ⟨ml, h1, h2⟩ := R.ns
    obtain ⟨mv, a, b, c⟩ := h2 x v hl e
    exact wpAny_Name (wpAny_loadName_local R.kind (hk.trans hl) h1 a (hQ mv b fun _ => c)) hn.1
  | cell =>
    obtain ⟨c, mv, a, b, h⟩ := R.cell x v (.inl hl) e
    exact wpAny_Name (wpAny_loadName_cell R.kind (hk.trans hl) a b (hQ mv h fun h => no_kind hl h (by decide))) hn.1
  | free =>
    obtain ⟨c, mv, a, b, h⟩ := R.cell x v (.inr hl) e
    exact wpAny_Name (wpAny_loadName_free R.kind (hk.trans hl) a b (hQ mv h fun h => no_kind hl h (by decide)) hn.2) hn.1
  | globalImplicit =>
    refine mapK e fun y hy e => ?_
    subst e
    obtain ⟨t, ht⟩ := G.glb.cst x y hy
    exact Name_function_global R.kind (hk.trans hl) (loadGlobal_global (mg := mg) (by rw [R.globals]; exact G.glb.g) ht (hQ _ ⟨t, rfl⟩ fun h => no_kind hl h (by decide))) hn.1
  | _ => exact no_some e

theorem atoms_of {α : Type} {f : α → Atm} {l : List α} (j : Nat) (v : V) (h : (l.map fun x => V.at (f x))[j]? = some v) : ∃ a, v = V.at a := by
  rw [List.getElem?_map] at h
  cases e : l[j]? with
  | none => rw [e] at h; cases h
  | some x => rw [e] at h; cases h; exact ⟨_, rfl⟩
/-- an iterator that hands out plain values -/
structure Src (prog : Program) (w : World) (A : Around) (I : Addr) (items : List V) (fp : List Addr) (P : Nat → Value → Prop) (St : Nat → Heap → Prop) : Prop where
  W : Walks prog w A I fp [I] items.length P St
  P : ∀ i v, i < items.length → P i v → ∃ a, items[i]? = some (.at a) ∧ AtmIs v a
  ex : ∀ i h, St i h → ∀ b ∈ fp, ∃ o, h.get? b = some o
  atoms : ∀ (j : Nat) (v : V), items[j]? = some v → ∃ a, v = V.at a

theorem two_mem {α : Type} {x a b : α} {P : Prop} (h : b ∈ [x, a]) (q1 : b = x → P) (q2 : b = a → P) : P := (List.mem_cons.mp h).elim q1 fun h => q2 (List.mem_singleton.mp h)
theorem push_lt (h : Heap) (o : Obj) : h.objs.size < (h.push o).objs.size := by rw [Heap.size_push]; exact Nat.lt_succ_self _
theorem Are.getV {vs l} (h : Are vs l) : ∀ (i : Nat) (v : Value), vs[i]? = some v → ∃ a, (l.map V.at)[i]? = some (.at a) ∧ AtmIs v a := by
  induction h with
  | nil => intro i v e; exact no_some e
  | cons hv _ ih =>
    intro i v e
    cases i with
    | zero => obtain rfl := Option.some.inj e; exact ⟨_, rfl, hv⟩
    | succ i => exact ih i v e
theorem iterOf_ok {v : V} {items : List V} (e : iterOf v = some items) {mv : Value} (hv : HasV prog w s.heap mv v) (R : Room A d)
    {Q : Value → Shared → Prop} (hQ : ∀ s' fp P St, Ext s s' → s.heap.objs.size < s'.heap.objs.size → Src prog w A s.heap.objs.size items fp P St → St 0 s'.heap →
      (∀ b ∈ fp, b = s.heap.objs.size ∨ mv = .ref b) → Q (.ref s.heap.objs.size) s') :
    wpAny (model prog w) A (pyIter mv) Q E s := by
  have hh := R.h
  have fpOr : ∀ {a b : Addr}, b ∈ [s.heap.objs.size, a] → b = s.heap.objs.size ∨ Value.ref a = .ref b := fun hb => two_mem hb .inl fun e => .inr (e ▸ rfl)
  cases v with
  | list l =>
    obtain rfl := Option.some.inj e
    obtain ⟨a, vs, n, rfl, hi, hr⟩ := hv
    have hl := hi.isList
    have hlt : a < s.heap.objs.size := Heap.lt_size hi
    have hlen := hr.size
    refine wpAny_pyIter_list hl (hQ _ [s.heap.objs.size, a] (fun i v => vs[i]? = some v) (fun i h => h.IsListIter s.heap.objs.size a i ∧ h.IsList a vs) (.push _ (Nat.le_refl _)) (push_lt _ _)
      ⟨?_, fun i v _ hv => hr.getV i v (Array.getElem?_toList.trans hv), fun i h H b hb => two_mem hb (fun e => e ▸ H.1.imp fun _ => And.left) (fun e => ?_), fun j v hj => atoms_of (f := id) j v hj⟩ ⟨⟨_, Heap.get?_push_size _ rfl, rfl, rfl⟩, hl.push _⟩ fun b hb => fpOr hb)
    · rw [List.length_map, ← hlen]; exact Walks.list hh _ a (Nat.ne_of_lt hlt) vs
    · subst e; first
        | exact H.2.imp fun _ => And.left
        | (obtain ⟨es, ho⟩ := H.2; exact ⟨_, ho⟩)
  | tup l =>
    obtain rfl := Option.some.inj e
    obtain ⟨a, vs, rfl, hi, hr⟩ := hv
    have hlt : a < s.heap.objs.size := by obtain ⟨_, ho, _⟩ := hi; exact Heap.lt_size ho
    have hlen := hr.size
    refine wpAny_pyIter_tuple hi (hQ _ [s.heap.objs.size, a] (fun i v => vs[i]? = some v) (fun i h => h.IsTupleIter s.heap.objs.size a i ∧ h.IsTuple a vs) (.push _ (Nat.le_refl _)) (push_lt _ _)
      ⟨?_, fun i v _ hv => hr.getV i v (Array.getElem?_toList.trans hv), fun i h H b hb => two_mem hb (fun e => e ▸ H.1.imp fun _ => And.left) (fun e => e ▸ H.2.imp fun _ => And.left), fun j v hj => atoms_of (f := id) j v hj⟩ ⟨⟨_, Heap.get?_push_size _ rfl, rfl, rfl⟩, hi.at fun o e => Heap.get?_push_of_some _ e⟩ fun b hb => fpOr hb)
    rw [List.length_map, ← hlen]; exact Walks.tuple hh _ a (Nat.ne_of_lt hlt) vs
  | dict l =>
    obtain rfl := Option.some.inj e
    obtain ⟨a, kvs, rfl, hd, hk, hm⟩ := hv
    obtain ⟨ep, hat⟩ := hd.dictAt
    have hlt : a < s.heap.objs.size := hat.lt_size
    have hlen := hk.length
    refine wpAny_pyIter_dict hm hat (hQ _ [s.heap.objs.size, a] (fun i v => ∃ k x, kvs[i]? = some (k, x) ∧ (sk prog w).is k v = true) (fun i h => h.IsKeyIter s.heap.objs.size a i kvs.length ep ∧ h.DictAt (sk prog w) a kvs ep) (.push _ (Nat.le_refl _)) (push_lt _ _)
      ⟨?_, ?_, fun i h H b hb => two_mem hb (fun e => e ▸ H.1.imp fun _ => And.left) (fun e => e ▸ ?_), fun j v hj => atoms_of (f := fun (kv : Str × Int) => Atm.str kv.1) j v hj⟩ ⟨⟨_, Heap.get?_push_size _ rfl, rfl, rfl⟩, hat.push _⟩ fun b hb => fpOr hb)
    · rw [List.length_map, ← hlen]; exact Walks.dictKeys hh _ a (Nat.ne_of_lt hlt) kvs ep
    · rintro i v _ ⟨k, x, h1, h2⟩
      obtain ⟨t, rfl⟩ := Value.isStrOf_shape h2
      have h3 := congrArg (·[i]?) hk.keys
      simp only [List.getElem?_map, h1] at h3
      refine mapK h3.symm fun y q h3 => ⟨.str k, ?_, t, rfl⟩
      rw [List.getElem?_map, q, show k = y.1 from h3.symm]; rfl
    · first
        | exact H.2.imp fun _ => And.left
        | (obtain ⟨o, es, ho, _⟩ := H.2; exact ⟨o, ho⟩)
  | «at» z0 =>
    refine mapK e fun z hz e => ?_
    subst e
    rw [asStr_eq hz] at hv
    obtain ⟨t, rfl⟩ := hv
    have fin : ∀ (St : Nat → Heap → Prop) (o : Obj), Walks prog w A s.heap.objs.size [s.heap.objs.size] [s.heap.objs.size] z.cps.size (SignAt z) St → (∀ i h, St i h → ∀ b ∈ [s.heap.objs.size], ∃ o, h.get? b = some o) → St 0 (s.heap.push o) → Q (.ref s.heap.objs.size) { s with heap := s.heap.push o } := by
     intro St o W hex hst
     refine hQ _ [s.heap.objs.size] (SignAt z) St (.push _ (Nat.le_refl _)) (push_lt _ _) ⟨?_, ?_, hex, (fun j v hj => atoms_of (f := fun (c : Nat) => Atm.str ⟨#[c]⟩) j v hj)⟩ hst ?_
     · rw [List.length_map, Array.length_toList]; exact W
     · rintro i v _ ⟨c, u, h1, rfl⟩
       exact ⟨.str ⟨#[c]⟩, by rw [List.getElem?_map, Array.getElem?_toList, h1]; rfl, u, rfl⟩
     · exact fun b hb => .inl (List.mem_singleton.mp hb)
    cases ha : z.cps.all (· < 128)
    · exact wpAny_pyIter_wide ha (fin _ _ (Walks.strWide hh _ z t) (fun _ _ h b hb => List.mem_singleton.mp hb ▸ h.imp fun _ => And.left) ⟨_, Heap.get?_push_size _ rfl, rfl, rfl⟩)
    · exact wpAny_pyIter_ascii ha (fin _ _ (Walks.strAscii hh _ z t) (fun _ _ h b hb => List.mem_singleton.mp hb ▸ h.imp fun _ => And.left) ⟨_, Heap.get?_push_size _ rfl, rfl, rfl⟩)
end
end Mine
end
section
open PySem PySem.W PyProof.Rows PySem.Calls Builtin.Str PySem.Spec
namespace Mine
variable {prog : Program} {w : World}

noncomputable def EvOk (prog : Program) (w : World) (mg mb : Str → Option Value) (defs : List DefRec) (hG : Heap) (A : Around) (call : CallT) (n : Nat) : Prop :=
  ∀ e m v env s Q E, ev call n e m = some v → Sg mg mb defs hG s → ERel prog w env m s →
    (∀ mv s', Ext s s' → HasV prog w s'.heap mv v → (fresh e = true → Newly s mv) → (isStrItem m e = true → ∃ z t, mv = .str z t ∧ t ≠ 0 ∧ t < s'.toks) → Q mv s') →
    wpAny (model prog w) A (eval e env) Q E s
noncomputable def TrOk (prog : Program) (w : World) (mg mb : Str → Option Value) (defs : List DefRec) (hG : Heap) (A : Around) (call : CallT) (n : Nat) : Prop :=
  ∀ e m b env s Q E, tr call n e m = some b → Sg mg mb defs hG s → ERel prog w env m s → (∀ s', Ext s s' → Q b s') →
    wpAny (model prog w) A (PySem.isTrue e env (eval e env)) Q E s
noncomputable def TrsOk (prog : Program) (w : World) (mg mb : Str → Option Value) (defs : List DefRec) (hG : Heap) (A : Around) (call : CallT) (n : Nat) : Prop :=
  ∀ op es m b env s Q E, trs call n op es m = some b → Sg mg mb defs hG s → ERel prog w env m s → (∀ s', Ext s s' → Q b s') →
    wpAny (model prog w) A (allTrue op es env) Q E s
noncomputable def CmpOk (prog : Program) (w : World) (mg mb : Str → Option Value) (defs : List DefRec) (hG : Heap) (A : Around) (call : CallT) (n : Nat) : Prop :=
  ∀ l op r m b env s Q E, cmp call n l op r m = some b → Sg mg mb defs hG s → ERel prog w env m s → (∀ s', Ext s s' → Q (.bool b) s') →
    wpAny (model prog w) A (eval l env) (fun x s₁ => wpAny (model prog w) A (eval r env) (fun y s₂ => wpAny (model prog w) A (compareOp op x y) Q E s₂) E s₁) E s
noncomputable def ItsOk (prog : Program) (w : World) (mg mb : Str → Option Value) (defs : List DefRec) (hG : Heap) (A : Around) (call : CallT) (n : Nat) : Prop :=
  ∀ e m items env s Q E, its call n e m = some items → Sg mg mb defs hG s → ERel prog w env m s →
    (∀ I s' fp P St, Ext s s' → Src prog w A I items fp P St → St 0 s'.heap → s.heap.get? I = none → (∀ b ∈ fp, b < s'.heap.objs.size) → Q (.ref I) s') →
    wpAny (model prog w) A (eval e env) (fun x s₁ => wpAny (model prog w) A (pyIter x) Q E s₁) E s

inductive ArgOk (m : ME) (s s' : Shared) : List Expr → List Value → Prop
  | nil : ArgOk m s s' [] []
  | cons {e x es xs} : (fresh e = true → Newly s x) → (isStrItem m e = true → ∃ z t, x = .str z t ∧ t ≠ 0 ∧ t < s'.toks) → ArgOk m s s' es xs → ArgOk m s s' (e :: es) (x :: xs)
theorem ArgOk.ext {m : ME} {s s₁ s' : Shared} {es xs} (a : ArgOk m s₁ s' es xs) (x : Ext s s₁) : ArgOk m s s' es xs := by
  induction a with
  | nil => exact .nil
  | cons h1 h2 _ ih => exact .cons (fun h => (h1 h).ext x) h2 ih

variable {mg mb : Str → Option Value} {defs : List DefRec} {hG : Heap} {A : Around} {E : Value → Shared → Prop} {s : Shared} {d n : Nat} {env : Env} {m : ME} {call : CallT}

theorem star_plain {e : Expr} {m : ME} {v : V} (h : ev call n e m = some v) (env : Env) (rest : List Expr) : starEach (e :: rest) env = (false, eval e env) :: starEach rest env := by
  cases n with
  | zero => exact no_some h
  | succ n => cases e <;> first | rfl | exact no_some h

theorem seqM_cons {α β : Type} {f : α → Option β} {x : α} {r : List α} {l : List β} (h : seqM f (x :: r) = some l) : ∃ y ys, f x = some y ∧ seqM f r = some ys ∧ l = y :: ys :=
  bindK h fun y hy h => mapK h fun ys h1 h => ⟨y, ys, hy, h1, h.symm⟩
theorem bind_at {o : Option V} {a : Atm} (h : o.bind atom = some a) : o = some (.at a) := bindK h fun _ e h => e.trans (congrArg _ (asAtm_eq h))

theorem seqM_atom {f : Expr → Option V} : ∀ {es : List Expr} {l : List Atm}, seqM (fun e => (f e).bind atom) es = some l → seqM f es = some (l.map .at)
  | [], l, h => Option.some.inj h ▸ rfl
  | e :: es, l, h => by
    obtain ⟨y, ys, h1, h2, rfl⟩ := seqM_cons h
    show (f e).bind _ = _
    rw [bind_at h1, Option.bind_some, seqM_atom h2]; rfl

theorem any_plain {env : Env} {pos : Pos} : ∀ {es : List Expr} {vs : List V}, seqM (fun e => ev call n e m) es = some vs → (backTo pos (starEach es env)).any (·.1) = false ∧ (backTo pos (starEach es env)).length = es.length
  | [], _, _ => ⟨rfl, rfl⟩
  | e :: es, vs, h => by
    obtain ⟨y, ys, h1, h2, rfl⟩ := seqM_cons h
    rw [star_plain h1]
    have := any_plain (env := env) (pos := pos) h2
    exact ⟨this.1, congrArg (· + 1) this.2⟩

theorem args_ok (I : EvOk prog w mg mb defs hG A call n) {pos : Pos} : ∀ {es : List Expr} {vs : List V} {s : Shared} {Q : List Value → Shared → Prop}, seqM (fun e => ev call n e m) es = some vs → Sg mg mb defs hG s → ERel prog w env m s →
    (∀ xs s', Ext s s' → HasVs prog w s'.heap xs vs → ArgOk m s s' es xs → Q xs s') → wpAny (model prog w) A (spliced (backTo pos (starEach es env))) Q E s
  | [], vs, s, Q, h, G, R, hQ => by obtain rfl := Option.some.inj h; exact spliced_nil (hQ [] s (.refl s) .nil .nil)
  | e :: es, vs, s, Q, h, G, R, hQ => by
    obtain ⟨y, ys, h1, h2, rfl⟩ := seqM_cons h
    rw [star_plain h1]
    refine spliced_cons (I e m y env s _ E h1 G R fun mv s₁ x hv hf ht => ?_)
    refine args_ok I h2 (G.ext x) (R.ext x) fun xs s₂ x₂ hvs ha => hQ _ _ (x.trans x₂) (.cons (hv.ext x₂) hvs) (.cons hf (fun h => ?_) (ha.ext x))
    obtain ⟨z, t, e1, e2, e3⟩ := ht h
    exact ⟨z, t, e1, e2, Nat.lt_of_lt_of_le e3 x₂.toks⟩

theorem evalArgs_ok {f : Value} {pos : Pos} {es : List Expr} {vs : List V} {Q : Args → Shared → Prop} (h : seqM (fun e => ev call n e m) es = some vs)
    (hq : wpAny (model prog w) A (spliced (backTo pos (starEach es env))) (fun xs s' => Q ⟨xs, []⟩ s') E s) :
    wpAny (model prog w) A (evalArgs f true (backTo pos (starEach es env)) []) Q E s := by
  cases es with
  | nil =>
    unfold evalArgs
    show wpAny _ A (spliced [] >>= _) Q E s
    refine wpAny_bind (wpAny_mono hq (fun xs s' h' => ?_) fun _ _ e => e)
    refine wpAny_holding ?_
    exact wpAny_bind (wpAny_pure (wpAny_bind (wpAny_pure (wpAny_pure h'))))
  | cons e es =>
    obtain ⟨y, ys, h1, h2, rfl⟩ := seqM_cons h
    rw [star_plain h1] at hq ⊢
    exact evalArgs_plain hq

/-- the cells a comprehension takes with it -/
noncomputable def clOf (cells : List (Str × Addr)) : List (Str × NameKind) → List (Str × Addr) → List (Str × Addr)
  | [], acc => acc
  | (x, k) :: r, acc => if k == .free then clOf cells r ((x, (cells.lookup x).getD 0) :: acc) else clOf cells r acc

theorem closure_go : ∀ (names : List (Str × NameKind)) (acc : List (Str × Addr)), (∀ y ∈ names, y.2 = .free → ∃ c, env.cells.lookup y.1 = some c) →
    (forIn names acc fun x r => if (x.2 == NameKind.free) = true then (do let c ← cellOf env x.1; pure (ForInStep.yield ((x.1, c) :: r))) else pure (ForInStep.yield r) : Sem (List (Str × Addr))) = pure (clOf env.cells names acc)
  | [], acc, _ => rfl
  | (x, k) :: r, acc, h => by
    rw [List.forIn_cons]
    unfold clOf
    by_cases hk : (k == NameKind.free) = true
    · obtain ⟨c, hc⟩ := h (x, k) (List.mem_cons_self ..) (by simpa using hk)
      have hc' : cellOf env x = pure c := by unfold cellOf; rw [hc]
      simp only [hk, if_true]
      rw [hc']
      simp only [pure_bind]
      rw [closure_go r _ fun y hy => h y (List.mem_cons_of_mem _ hy), hc]
      rfl
    · simp only [hk]
      exact closure_go r acc fun y hy => h y (List.mem_cons_of_mem _ hy)
theorem closure_ok {scope : Scope} (h : ∀ y ∈ scope.names, y.2 = .free → ∃ c, env.cells.lookup y.1 = some c) : closureFor scope env = pure (clOf env.cells scope.names []) := by
  have e := closure_go scope.names [] h
  show (forIn scope.names [] _ >>= fun cs => pure cs) = _
  rw [bind_pure]
  exact e

theorem clOf_lookup (cells : List (Str × Addr)) : ∀ (names : List (Str × NameKind)) (acc : List (Str × Addr)) (x : Str) (c : Addr),
    (x, NameKind.free) ∈ names ∨ acc.lookup x = some c → cells.lookup x = some c → (clOf cells names acc).lookup x = some c
  | [], acc, x, c, h, _ => by simpa [clOf] using h
  | (y, k) :: r, acc, x, c, h, hc => by
    unfold clOf
    by_cases hk : (k == NameKind.free) = true
    · rw [if_pos hk]
      refine clOf_lookup cells r _ x c ?_ hc
      by_cases hx : x = y
      · subst hx
        right; simp [hc]
      · have hb : (x == y) = false := beq_eq_false_iff_ne.mpr hx
        rcases h with h | h
        · left
          rcases List.mem_cons.mp h with e | e
          · cases e; exact absurd rfl hx
          · exact e
        · right; simp [List.lookup_cons, hb, h]
    · rw [if_neg hk]
      refine clOf_lookup cells r acc x c ?_ hc
      rcases h with h | h
      · left
        rcases List.mem_cons.mp h with e | e
        · cases e; simp at hk
        · exact e
      · exact .inr h
end Mine
end
section
open PySem PySem.W PyProof.Rows PySem.Calls Builtin.Str PySem.Spec
namespace Mine
variable {prog : Program} {w : World}

/-- as Ext, but for some objects -/
structure ExtX (X : Addr → Prop) (s s' : Shared) : Prop where
  heap : ∀ b o, ¬ X b → s.heap.get? b = some o → s'.heap.get? b = some o
  gsz : s.gens.size ≤ s'.gens.size
  gens : ∀ i, i < s.gens.size → s'.gens[i]? = s.gens[i]?
  bare : AllBare s.gens → AllBare s'.gens
  os : s'.os = s.os
  toks : s.toks ≤ s'.toks
namespace ExtX
variable {X : Addr → Prop} {s s' s'' : Shared}
theorem refl (s : Shared) : ExtX X s s := ⟨fun _ _ _ e => e, Nat.le_refl _, fun _ _ => rfl, id, rfl, Nat.le_refl _⟩
theorem trans (a : ExtX X s s') (b : ExtX X s' s'') : ExtX X s s'' :=
  ⟨fun x o h e => b.heap x o h (a.heap x o h e), Nat.le_trans a.gsz b.gsz, fun i h => (b.gens i (Nat.lt_of_lt_of_le h a.gsz)).trans (a.gens i h), fun h => b.bare (a.bare h), b.os.trans a.os, Nat.le_trans a.toks b.toks⟩
theorem ext (a : Ext s s') : ExtX X s s' := ⟨fun b o _ e => a.heap b o e, a.gsz, a.gens, a.bare, a.os, a.toks⟩
theorem toExt (a : ExtX X s s') (h : ∀ b o, s.heap.get? b = some o → ¬ X b) : Ext s s' := ⟨fun b o e => a.heap b o (h b o e) e, a.gsz, a.gens, a.bare, a.os, a.toks⟩
theorem of {h' : Heap} {k : Nat} (hk : ∀ b o, ¬ X b → s.heap.get? b = some o → h'.get? b = some o) (ht : s.toks ≤ k) : ExtX X s { s with heap := h', toks := k } :=
  ⟨hk, Nat.le_refl _, fun _ _ => rfl, id, rfl, ht⟩
theorem mono {Y : Addr → Prop} (a : ExtX X s s') (h : ∀ b, X b → Y b) : ExtX Y s s' := ⟨fun b o hb e => a.heap b o (fun hx => hb (h b hx)) e, a.gsz, a.gens, a.bare, a.os, a.toks⟩
end ExtX

variable {mg mb : Str → Option Value} {defs : List DefRec} {hG : Heap} {A : Around} {E : Value → Shared → Prop} {s : Shared} {d n : Nat} {env : Env} {m : ME} {call : CallT}

theorem relabel_eq (R : ERel prog w env m s) (scope : Scope) : (relabel scope env).names = relab scope m.kinds := by
  unfold relabel relab
  simp only [R.kind, R.kindOf, beq_self_eq_true, Bool.and_true]
theorem relab_lookup {scope : Scope} {kinds : List (Str × NameKind)} {x : Str} : (relab scope kinds).lookup x = (scope.names.lookup x).map fun k => if k == .free && kinds.lookup x == some .cell then .cell else k := by
  unfold relab
  induction scope.names with
  | nil => rfl
  | cons p r ih =>
    obtain ⟨y, k⟩ := p
    show List.lookup x ((if (k == .free && kinds.lookup y == some .cell) = true then (y, NameKind.cell) else (y, k)) :: _) = Option.map _ (List.lookup x ((y, k) :: r))
    cases hx : x == y with
    | true =>
      have hxy := beq_iff_eq.mp hx
      subst hxy
      rw [List.lookup_cons, List.lookup_cons, hx, Option.map_some]
      by_cases hk : (k == .free && kinds.lookup x == some .cell) = true
      · rw [if_pos hk, if_pos hk]; simp
      · rw [if_neg hk, if_neg hk]; simp
    | false =>
      have e2 : List.lookup x ((y, k) :: r) = List.lookup x r := by rw [List.lookup_cons, hx]
      rw [e2]
      by_cases hk : (k == .free && kinds.lookup y == some .cell) = true
      · rw [if_pos hk, List.lookup_cons, hx]; exact ih
      · rw [if_neg hk, List.lookup_cons, hx]; exact ih
theorem filter_lookup {l : List (Str × V)} {p : Str → Bool} {x : Str} {v : V} (h : (l.filter fun kv => p kv.1).lookup x = some v) : p x = true ∧ l.lookup x = some v := by
  induction l with
  | nil => cases h
  | cons a r ih =>
    obtain ⟨y, u⟩ := a
    rw [List.filter_cons] at h
    cases hx : x == y with
    | true =>
      have hxy := beq_iff_eq.mp hx
      subst hxy
      by_cases hp : p x = true
      · rw [if_pos hp, List.lookup_cons, hx] at h
        exact ⟨hp, by rw [List.lookup_cons, hx]; exact h⟩
      · rw [if_neg hp] at h; exact absurd (ih h).1 hp
    | false =>
      by_cases hp : p y = true
      · rw [if_pos hp, List.lookup_cons, hx] at h
        exact ⟨(ih h).1, by rw [List.lookup_cons, hx]; exact (ih h).2⟩
      · rw [if_neg hp] at h
        exact ⟨(ih h).1, by rw [List.lookup_cons, hx]; exact (ih h).2⟩

structure CompFacts (scope : Scope) (m : ME) (x : Str) : Prop where
  kind : scope.kind = .function
  cell : ∀ y ∈ scope.names, y.2 ≠ .cell
  names : ∀ y ∈ scope.names, y.2 = .local → scope.names.lookup y.1 = some .local
  free : ∀ y ∈ scope.names, y.2 = .free → m.kinds.lookup y.1 = some .cell
  var : scope.names.lookup x = some .local
theorem compFacts {scope : Scope} {m : ME} {x : Str} (h : okComp scope m x = true) : CompFacts scope m x := by
  unfold okComp at h
  simp only [Bool.and_eq_true, beq_iff_eq, List.all_eq_true, Bool.or_eq_true, Bool.not_eq_true', beq_eq_false_iff_ne] at h
  obtain ⟨⟨⟨⟨h1, h2⟩, h3⟩, h4⟩, h5⟩ := h
  exact ⟨h1, h2, fun y hy e => (h3 y hy).resolve_left fun h => h e, fun y hy e => (h4 y hy).resolve_left fun h => h e, h5⟩

/-- the frame of a comprehension -/
theorem comp_rel {s' : Shared} {scope : Scope} {x : Str} {C : Addr} {a : Atm} {mv : Value} {mC : Str → Option Value} (F : CompFacts scope m x) (R : ERel prog w env m s) (hs : ∀ b o, s.heap.get? b = some o → s'.heap.get? b = some o)
    (hC : s'.heap.Ns C mC) (hx : mC x = some mv) (hv : AtmIs mv a) : ERel prog w (compEnvC scope (clOf env.cells scope.names []) C env) (compME scope m x a) s' where
  names := relabel_eq R scope
  kind := by show (relabel scope env).kind = _; exact F.kind
  globals := R.globals
  builtins := R.builtins
  ns := by
    refine ⟨mC, hC, fun y v hk hl => ?_⟩
    refine ⟨mv, ?_⟩
    change List.lookup y ((x, V.at a) :: _) = some v at hl
    rw [List.lookup_cons] at hl
    cases hxy : y == x with
    | true =>
      rw [hxy] at hl
      cases hl
      rw [beq_iff_eq.mp hxy]
      exact ⟨hx, hv, fun h => by cases h⟩
    | false =>
      rw [hxy] at hl
      have := (filter_lookup (p := fun y => !((relab scope m.kinds).lookup y == some .local)) hl).1
      change (relab scope m.kinds).lookup y = _ at hk
      rw [hk] at this
      cases this
  cell := fun y v hk hl => by
    change (relab scope m.kinds).lookup y = _ ∨ (relab scope m.kinds).lookup y = _ at hk
    change List.lookup y ((x, V.at a) :: _) = some v at hl
    rw [List.lookup_cons] at hl
    have hx' : (relab scope m.kinds).lookup x = some .local := by rw [relab_lookup, F.var]; rfl
    cases hxy : y == x with
    | true => rw [beq_iff_eq.mp hxy, hx'] at hk; rcases hk with h | h <;> cases h
    | false =>
      rw [hxy] at hl
      have hl' := (filter_lookup (p := fun y => !((relab scope m.kinds).lookup y == some .local)) hl).2
      rw [relab_lookup] at hk
      cases hs' : scope.names.lookup y with
      | none => rw [hs'] at hk; simp at hk
      | some k =>
        rw [hs'] at hk
        have hmem := mem_of_lookup hs'
        have hk' : k = .free := by
          by_cases q : k = .free
          · exact q
          · have : (k == NameKind.free) = false := by simpa using q
            simp only [this, Bool.false_and, Option.map_some, Option.some.injEq] at hk
            rcases hk with h | h
            · exact absurd h (F.cell _ hmem)
            · exact absurd h q
        subst hk'
        have hc := F.free _ hmem rfl
        obtain ⟨c, mv', h1, h2, h3⟩ := R.cell y v (.inl hc) hl'
        exact ⟨c, mv', clOf_lookup _ _ _ _ _ (.inl hmem) h1, h2.keeps hs, h3.mono fun b _ o e => hs b o e⟩
  cells := fun y hk => by
    change (relab scope m.kinds).lookup y = _ at hk
    rw [relab_lookup] at hk
    cases hs' : scope.names.lookup y with
    | none => rw [hs'] at hk; simp at hk
    | some k =>
      rw [hs'] at hk
      have hmem := mem_of_lookup hs'
      have hk' : k = .free := by
        by_cases q : k = .free
        · exact q
        · have : (k == NameKind.free) = false := by simpa using q
          simp only [this, Bool.false_and, Option.map_some, Option.some.injEq] at hk
          exact absurd hk (F.cell _ hmem)
      subst hk'
      obtain ⟨c, hc⟩ := R.cells y (F.free _ hmem rfl)
      exact ⟨c, clOf_lookup _ _ _ _ _ (.inl hmem) hc⟩

theorem tests_ok (I : TrOk prog w mg mb defs hG A call n) {cm : ME} {cenv : Env} : ∀ {ifs : List Expr} {b : Bool} {s : Shared} {Q : Bool → Shared → Prop}, allM (fun c => tr call n c cm) ifs = some b → Sg mg mb defs hG s → ERel prog w cenv cm s →
    (∀ s', Ext s s' → Q b s') →
    wpAny (model prog w) A (forIn ifs true fun c r => if r = true then do let ok ← PySem.isTrue c cenv (eval c cenv); pure (ForInStep.yield ok) else pure (ForInStep.yield r)) Q E s
  | [], b, s, Q, h, G, R, hQ => by obtain rfl := Option.some.inj h; rw [List.forIn_nil]; exact wpAny_pure (hQ s (.refl s))
  | c :: r, b, s, Q, h, G, R, hQ => by
    rw [List.forIn_cons]
    simp only [if_true]
    have skip : ∀ (r : List Expr) (s : Shared), Q false s → wpAny (model prog w) A (forIn r false fun c r => if r = true then do let ok ← PySem.isTrue c cenv (eval c cenv); pure (ForInStep.yield ok) else pure (ForInStep.yield r)) Q E s := by
      intro r
      induction r with
      | nil => intro s hq; rw [List.forIn_nil]; exact wpAny_pure hq
      | cons c r ih => intro s hq; rw [List.forIn_cons]; simp only [Bool.false_eq_true, if_false]; exact wpAny_bind (wpAny_pure (ih s hq))
    refine bindK h fun b' ht h => ?_
    cases b' with
    | true =>
      refine wpAny_bind (wpAny_bind (I c cm true cenv s _ _ ht G R fun s₁ x => wpAny_pure ?_))
      exact tests_ok I h (G.ext x) (R.ext x) fun s₂ x₂ => hQ _ (x.trans x₂)
    | false =>
      obtain rfl := Option.some.inj h
      exact wpAny_bind (wpAny_bind (I c cm false cenv s _ _ ht G R fun s₁ x => wpAny_pure (skip r s₁ (hQ _ x))))

noncomputable def compOne (call : CallT) (n : Nat) (scope : Scope) (m : ME) (x : Str) (ifs : List Expr) (elt : Expr) (v : V) : Option (Option Atm) :=
  (atom v).bind fun a => evElt (allM (fun c => tr call n c (compME scope m x a))) (ev call n elt (compME scope m x a)) ifs

theorem compM_cons {one : V → Option (Option Atm)} {x : V} {r : List V} {l : List Atm} (h : compM one (x :: r) = some l) :
    (∃ a l', one x = some (some a) ∧ compM one r = some l' ∧ l = a :: l') ∨ (one x = some none ∧ compM one r = some l) :=
  bindK h fun o ho h => by
    cases o with
    | some a => exact mapK h fun l' h1 e => .inl ⟨a, l', ho, h1, e.symm⟩
    | none => exact .inr ⟨ho, h⟩
/-- the loop of a comprehension, at its head -/
inductive CInv (prog : Program) (w : World) (s₂ : Shared) (I D C : Addr) (St : Nat → Heap → Prop) (one : V → Option (Option Atm)) (items : List V) (l : List Atm) (k : Nat) (s' : Shared) : Prop
  | mk (i : Nat) (mC : Str → Option Value) (ys : Array Value) (l1 l2 : List Atm) (ext : ExtX (fun b => b = I) s₂ s') (st : St i s'.heap) (acc : s'.heap.PlainList D ys) (ns : s'.heap.Ns C mC) (are : Are ys.toList l1)
    (rest : compM one (items.drop i) = some l2) (all : l = l1 ++ l2) (le : i ≤ items.length) (len : l1.length ≤ i) (fuel : k = items.length + 1 - i)

theorem comp_ok (I1 : EvOk prog w mg mb defs hG A call n) (I2 : TrOk prog w mg mb defs hG A call n) (I3 : ItsOk prog w mg mb defs hG A call n) {elt iter : Expr} {x : Str} {px pos pos' : Pos} {ifs : List Expr} {scope : Scope} {items : List V} {l : List Atm}
    {use : Option (Value → Sem Unit)} {Q : Value → Shared → Prop} (F : CompFacts scope m x) (G : Sg mg mb defs hG s) (R : ERel prog w env m s) (hits : its call n iter m = some items) (hlen : items.length ≤ 4096)
    (hl : compM (compOne call n scope m x ifs elt) items = some l) (hfold : ∀ x, foldedSetIterable iter env x = pure x)
    (hend : ∀ D C s' m', Ext s s' → s'.heap.Ns C m' → s.heap.get? C = none → s.heap.get? D = none → D ≠ C → HasV prog w s'.heap (.ref D) (.list l) → compPost (model prog w) A E use Q (.ref D) C (.ok .next) s') :
    wpAny (model prog w) A (comprehension (.ListComp elt [⟨.Name x px, iter, ifs, 0⟩] scope pos) scope env pos' (newList []) false (eval iter env) use) Q E s := by
  have hclos := closure_ok (scope := scope) (env := env) fun y hy hf => R.cells _ (F.free y hy hf)
  refine wpAny_comprehension_free rfl hfold hclos F.kind F.names (I3 iter m items env s _ E hits G R fun I s₂ fp P St x₂ src hst hI hfp => ?_)
  refine wpAny_newObj_type (wpAny_newFunctionEnv F.cell (by intro y hy; simp at hy) (fun h₁ hns₁ hsb₁ => ?_) F.kind)
  dsimp only at hns₁ hsb₁ ⊢
  generalize hH2 : s₂.heap.push { cls := .type "list", dict := none, data := .seq ([] : List Value).toArray } = H2 at hns₁ hsb₁ ⊢
  have hC : H2.objs.size = s₂.heap.objs.size + 1 := by rw [← hH2, Heap.size_push]
  generalize hD : s₂.heap.objs.size = D at *
  have hDC : D ≠ H2.objs.size := by rw [hC]; exact Nat.ne_of_lt (Nat.lt_succ_self _)
  have below : ∀ b, b < D → b ≠ H2.objs.size ∧ b ≠ D := fun b hb => ⟨by rw [hC]; exact Nat.ne_of_lt (Nat.lt_succ_of_lt hb), Nat.ne_of_lt hb⟩
  have hlts : ∀ b o, s₂.heap.get? b = some o → b < D := fun b o e => hD ▸ Heap.lt_size e
  have old : ∀ b o, s₂.heap.get? b = some o → h₁.get? b = some o := fun b o e => hsb₁.extBut b o (below b (hlts b o e)).1 (Heap.get?_push_of_some _ (hH2 ▸ Heap.get?_push_of_some _ e))
  have hacc : h₁.PlainList D #[] := ⟨_, hsb₁.extBut _ _ hDC (Heap.get?_push_of_some _ (hH2 ▸ hD ▸ Heap.get?_push_size _ rfl))⟩
  have hst₁ : St 0 h₁ := src.W.frame _ _ _ hst fun b _ o e => old b o e
  have hIfp : I ∈ fp := src.W.sub I (by simp)
  have hIlt := hfp I hIfp
  have hDs : s.heap.get? D = none := x₂.none (hD ▸ get_size _)
  have hCs : s.heap.get? H2.objs.size = none := by
    refine x₂.none ?_
    cases e : s₂.heap.get? H2.objs.size with
    | none => rfl
    | some o => exact absurd (hlts _ _ e) (by rw [hC]; exact Nat.not_lt.mpr (Nat.le_succ D))
  -- the loop
  have loop : ∀ s₃ : Shared, s₃ = { s₂ with heap := h₁, toks := s₂.toks + ([] : List (Str × Value)).length } →
      codeAny (model prog w) A (.compLoop (.ListComp elt [⟨.Name x px, iter, ifs, 0⟩] scope pos) 0 (.ref I) (.ref D) (compEnvC scope (clOf env.cells scope.names []) H2.objs.size env))
        (compPost (model prog w) A E use Q (.ref D) H2.objs.size) s₃ := by
    rintro s₃ rfl
    refine codeAny_compLoop_tests
      (CInv prog w s₂ I D H2.objs.size St (compOne call n scope m x ifs elt) items l)
      ?_ (items.length + 1) ⟨0, _, #[], [], l, ⟨fun b o _ e => old b o e, Nat.le_refl _, fun _ _ => rfl, id, rfl, Nat.le_add_right _ _⟩, hst₁, hacc, hns₁, .nil, hl, rfl, Nat.zero_le _, Nat.le_refl _, rfl⟩
    rintro k s' ⟨i, mC, ys, l1, l2, xx, hst', hpl, hns, hare, hl2, hall, hi, hli, rfl⟩
    have hkeep : ∀ {s'' : Shared}, ExtX (fun b => b = I) s₂ s'' → Ext s s'' := fun y => (ExtX.trans (ExtX.ext x₂) y).toExt fun b o e hb => by subst hb; rw [hI] at e; cases e
    by_cases hlt : i < items.length
    · refine wpAny_with_toks (Nat.le_refl s'.toks) (src.W.item i s' _ _ hlt hst' fun v h' tk hP hst'' hk htk => ?_)
      obtain ⟨a, ha, hav⟩ := src.P i v hlt hP
      have hdrop : items.drop i = .at a :: items.drop (i + 1) := by
        rw [List.drop_eq_getElem_cons hlt]
        have := List.getElem?_eq_getElem hlt
        rw [ha] at this
        rw [← Option.some.inj this]
      rw [hdrop] at hl2
      have hCI : H2.objs.size ≠ I := fun h => by rw [← h, hC] at hIlt; exact Nat.lt_irrefl _ (Nat.lt_of_succ_lt hIlt)
      have hDI : D ≠ I := fun h => by rw [← h] at hIlt; exact Nat.lt_irrefl _ hIlt
      have hk' : ∀ b o, b ≠ I → s'.heap.get? b = some o → h'.get? b = some o := fun b o hb e => hk b o (by simpa using hb) e
      have hns' := hns.at' fun o e => hk' _ o hCI e
      have hpl' : h'.PlainList D ys := hpl.imp fun _ he => hk' _ _ hDI he
      have hkx : Env.kindOf (compEnvC scope (clOf env.cells scope.names []) H2.objs.size env) x = some .local := lookup_relabel_local F.var
      show wpAny (model prog w) A (standAt px >>= fun _ => bindName _ x v) _ _ _
      refine wpAny_bind (wpAny_standAt (wpAny_bindName (wpAny_storeName_local hkx hns' (fun h'' hns'' hs'' => ?_) (by simp [compEnvC, relabel, F.kind]))))
      have htk : s'.toks ≤ tk := htk
      have k4 : ∀ b o, b ≠ I → b < D → s'.heap.get? b = some o → h''.get? b = some o := fun b o hb hlt e => hs''.extBut b o (below b hlt).1 (hk' b o hb e)
      have x4 : Ext s { s' with heap := h'', toks := tk + 1 } := hkeep ⟨fun b o hb e => k4 b o hb (hlts b o e) (xx.heap b o hb e), xx.gsz, xx.gens, xx.bare, xx.os, Nat.le_trans xx.toks (Nat.le_succ_of_le htk)⟩
      have R4 := comp_rel F R x4.heap hns'' (by simp) hav
      have fin : ∀ s5 : Shared, Ext { s' with heap := h'', toks := tk + 1 } s5 → ∃ mC', s5.heap.Ns H2.objs.size mC' := fun s5 x5 => ⟨_, hns''.keeps x5.heap⟩
      have step : ∀ (s5 : Shared) (h6 : Heap), Ext { s' with heap := h'', toks := tk + 1 } s5 → (∀ b o, b ≠ D → s5.heap.get? b = some o → h6.get? b = some o) →
          ExtX (fun b => b = I) s₂ { s5 with heap := h6 } ∧ St (i + 1) h6 ∧ ∃ mC', h6.Ns H2.objs.size mC' := fun s5 h6 x5 hk6 => by
        refine ⟨⟨fun b o hb e => hk6 b o (below b (hlts b o e)).2 (x5.heap b o (k4 b o hb (hlts b o e) (xx.heap b o hb e))), Nat.le_trans xx.gsz x5.gsz,
          fun j hj => (x5.gens j (Nat.lt_of_lt_of_le hj xx.gsz)).trans (xx.gens j hj), fun h => x5.bare (xx.bare h), x5.os.trans xx.os, Nat.le_trans xx.toks (Nat.le_trans (Nat.le_succ_of_le htk) x5.toks)⟩,
          src.W.frame _ _ _ hst'' fun b hb o e => hk6 b o (below b (hfp b hb)).2 (x5.heap b o (hs''.extBut b o (below b (hfp b hb)).1 e)), ?_⟩
        exact ⟨_, (hns''.keeps x5.heap).at' fun o e => hk6 _ o hDC.symm e⟩
      have hpl4 : h''.PlainList D ys := hpl'.imp fun _ he => hs''.extBut _ _ hDC he
      rcases compM_cons hl2 with ⟨a', l2', ho, hr, rfl⟩ | ⟨ho, hr⟩
      · subst hall
        refine bindK (bindK ho fun a1 e1 ho => Option.some.inj e1 ▸ ho : evElt _ _ _ = _) fun b0 ht ho => ?_
        cases b0 with
        | false => exact no_some (Option.some.inj ho)
        | true =>
          refine bindK ho fun b he ho => ?_
          obtain rfl : b = a' := Option.some.inj (Option.some.inj ho)
          refine tests_ok I2 ht (G.ext x4) R4 fun s5 x5 => ?_
          simp only [if_true]
          refine I1 _ _ _ _ _ _ _ (bind_at he) ((G.ext x4).ext x5) (R4.ext x5) fun mv s6 x6 hmv _ _ => ?_
          have hpl6 : s6.heap.PlainList D ys := hpl4.imp fun _ he => x6.heap _ _ (x5.heap _ _ he)
          refine wpAny_list_append_plain hpl6 (fun h7 hpl7 hs7 => ?_) ?_
          · obtain ⟨y1, y2, mC', y3⟩ := step s6 h7 (x5.trans x6) (fun b o hb e => hs7.extBut b o hb e)
            refine ⟨items.length + 1 - (i + 1), fuel_lt hlt, i + 1, mC', ys.push mv, l1 ++ [b], l2', y1, y2, hpl7, y3, ?_, hr, by rw [List.append_assoc]; rfl, hlt, ?_, rfl⟩
            · rw [Array.toList_push]; exact hare.append (.cons hmv .nil)
            · rw [List.length_append]; exact Nat.succ_le_succ hli
          · exact Nat.le_of_succ_le (cap_line (hare.size ▸ Nat.le_trans hli (Nat.le_trans hi hlen)))
      · refine bindK (bindK ho fun a1 e1 ho => Option.some.inj e1 ▸ ho : evElt _ _ _ = _) fun b0 ht ho => ?_
        cases b0 with
        | true => exact bindK ho fun b he ho => no_some (Option.some.inj ho).symm
        | false =>
          refine tests_ok I2 ht (G.ext x4) R4 fun s5 x5 => ?_
          simp only [Bool.false_eq_true, if_false]
          obtain ⟨y1, y2, mC', y3⟩ := step s5 s5.heap x5 (fun b o _ e => e)
          exact ⟨items.length + 1 - (i + 1), fuel_lt hlt, i + 1, mC', ys, l1, l2, y1, y2, hpl4.imp fun _ he => x5.heap _ _ he, y3, hare, hr, hall, hlt, Nat.le_succ_of_le hli, rfl⟩
    · have hie : i = items.length := Nat.le_antisymm hi (Nat.not_lt.mp hlt)
      subst hie
      refine wpAny_with_toks (Nat.le_refl s'.toks) (src.W.done s' _ _ hst' fun h' tk hk htk => ?_)
      rw [List.drop_length] at hl2
      obtain rfl := Option.some.inj hl2
      rw [List.append_nil] at hall
      have hCI : H2.objs.size ≠ I := fun h => by rw [← h, hC] at hIlt; exact Nat.lt_irrefl _ (Nat.lt_of_succ_lt hIlt)
      have hDI : D ≠ I := fun h => by rw [← h] at hIlt; exact Nat.lt_irrefl _ hIlt
      have hk' : ∀ b o, b ≠ I → s'.heap.get? b = some o → h'.get? b = some o := fun b o hb e => hk b o (by simpa using hb) e
      have htk : s'.toks ≤ tk := htk
      have hns' := hns.at' fun o e => hk' _ o hCI e
      have hpl' : h'.PlainList D ys := hpl.imp fun _ he => hk' _ _ hDI he
      obtain ⟨e0, he⟩ := hpl'
      refine hend D _ _ _ (hkeep ⟨fun b o hb e => hk' b o hb (xx.heap b o hb e), xx.gsz, xx.gens, xx.bare, xx.os, Nat.le_trans xx.toks htk⟩) hns' hCs hDs hDC ⟨D, ys, e0, rfl, he, hall ▸ hare⟩
  exact codeAny_compStart_list (loop _ rfl) (src.W.self 0 _ _ _ hst₁ (loop _ rfl))
end Mine
end
section
open PySem PySem.W PyProof.Rows PySem.Calls Builtin.Str PySem.Spec
namespace Mine
variable {prog : Program} {w : World}
variable {mg mb : Str → Option Value} {defs : List DefRec} {hG : Heap} {A : Around} {E : Value → Shared → Prop} {s : Shared} {d n : Nat} {env : Env} {m : ME} {call : CallT}

theorem noSet_of_ev {e : Expr} {v : V} {op : CmpOp} (h : ev call n e m = some v) : behindInMarks op e = false := by
  cases n with
  | zero => exact no_some h
  | succ n => cases e <;> first | rfl | exact no_some h
theorem fold_of_its {e : Expr} {v : List V} (h : its call n e m = some v) (x : Value) : foldedSetIterable e env x = pure x := by
  cases n with
  | zero => exact no_some h
  | succ n =>
    cases e <;> first | rfl | skip
    refine bindK (show (ev call n _ m).bind iterOf = some v from h) fun u h _ => ?_
    cases n with
    | zero => exact no_some h
    | succ n => exact no_some h
theorem base_of {o : Expr} {name : Str} (h : notSuper o = true) : attributeBase o name env (eval o env) = eval o env := by
  cases o <;> first | rfl | skip
  rename_i f as ks p
  cases f <;> first | rfl | skip
  cases as <;> first | rfl | skip
  cases ks <;> first | rfl | exact absurd h Bool.false_ne_true

theorem getitem_type {v : V} {x : Value} (h : HasV prog w s.heap x v) (hv : (∃ z, v = .str z) ∨ (∃ l, v = .list l) ∨ ∃ l, v = .dict l) :
    ∃ T id, s.TypeIs x T ∧ typeLookup (.type T) "__getitem__" = pure (some (.builtin id)) := by
  rcases hv with ⟨z, rfl⟩ | ⟨l, rfl⟩ | ⟨l, rfl⟩
  · obtain ⟨t, rfl⟩ := h; exact ⟨_, _, typeIs_str _ _ _, F.slot_str_getitem.lookup⟩
  · obtain ⟨a, vs, n, rfl, hi, _⟩ := h; exact ⟨_, _, hi.isList.typeIs, slot_list_getitem.lookup⟩
  · obtain ⟨a, kvs, rfl, hd, _⟩ := h; exact ⟨_, _, hd.typeIs, slot_dict_getitem.lookup⟩
theorem item_kinds {o i v : V} (h : item o i = some v) : (∃ z, o = .str z) ∨ (∃ l, o = .list l) ∨ ∃ l, o = .dict l :=
  elimK h (fun z h _ => .inl ⟨z, asStr_eq h⟩) fun _ h => elimK h (fun l h _ => .inr (.inl ⟨l, asList_eq h⟩)) fun _ h => bindK h fun l h _ => .inr (.inr ⟨l, asDict_eq h⟩)
theorem slice_kinds {o v : V} {a b} (h : slice o a b = some v) : (∃ z, o = .str z) ∨ (∃ l, o = .list l) ∨ ∃ l, o = .dict l :=
  iteK h fun _ h => elimK h (fun z h _ => .inl ⟨z, asStr_eq h⟩) fun _ h => bindK h fun l h _ => .inr (.inl ⟨l, asList_eq h⟩)

theorem hasVs_get {h : Heap} {xs : List Value} {vs : List V} (H : HasVs prog w h xs vs) : ∀ {k : Nat} {v : V}, vs[k]? = some v → ∃ x, xs[k]? = some x ∧ HasV prog w h x v := by
  induction H with
  | nil => intro k v e; exact no_some e
  | cons hx _ ih =>
    intro k v e
    cases k with
    | zero => obtain rfl := Option.some.inj e; exact ⟨_, rfl, hx⟩
    | succ k => exact ih e
theorem hasVs_at {h : Heap} : ∀ {l : List Atm} {xs : List Value}, HasVs prog w h xs (l.map .at) → Are xs l
  | [], xs, H => by cases H; exact .nil
  | a :: l, xs, H => by cases H with | cons hx hr => exact .cons hx (hasVs_at hr)
theorem argOk_get {s' : Shared} {es : List Expr} {xs : List Value} (H : ArgOk m s s' es xs) : ∀ {k : Nat} {x : Value}, xs[k]? = some x → ∃ e, es[k]? = some e ∧ (fresh e = true → Newly s x) := by
  induction H with
  | nil => intro k x e; exact no_some e
  | cons h1 _ _ ih =>
    intro k x e
    cases k with
    | zero => obtain rfl := Option.some.inj e; exact ⟨_, rfl, h1⟩
    | succ k => exact ih e

theorem evInt (I : EvOk prog w mg mb defs hG A call n) {e : Expr} {i : Int} (h : ev call n e m = some (.int i)) (G : Sg mg mb defs hG s) (R : ERel prog w env m s) {Q : Value → Shared → Prop} (hQ : ∀ t s', Ext s s' → Q (.int i t) s') : wpAny (model prog w) A (eval e env) Q E s :=
  I _ _ _ _ _ _ _ h G R fun mv s' x hv _ _ => hv.intE (motive := fun mv => Q mv s') rfl fun t => hQ t s' x
theorem evStr (I : EvOk prog w mg mb defs hG A call n) {e : Expr} {i : Str} (h : ev call n e m = some (.str i)) (G : Sg mg mb defs hG s) (R : ERel prog w env m s) {Q : Value → Shared → Prop} (hQ : ∀ t s', Ext s s' → Q (.str i t) s') : wpAny (model prog w) A (eval e env) Q E s :=
  I _ _ _ _ _ _ _ h G R fun mv s' x hv _ _ => hv.strE (motive := fun mv => Q mv s') rfl fun t => hQ t s' x
theorem part_ok (I : EvOk prog w mg mb defs hG A call n) (G : Sg mg mb defs hG s) (R : ERel prog w env m s) {a : Option Expr} {i : Option Int}
    (h : evPart (fun e => ev call n e m) a = some i) {Q : Value → Shared → Prop} (hQ : ∀ mv s', Ext s s' → PartIs mv i → Q mv s') :
    wpAny (model prog w) A (evalPart a env) Q E s := by
  cases a with
  | none => obtain rfl := Option.some.inj h; rw [evalPart_none]; exact wpAny_pure (hQ _ _ (.refl s) rfl)
  | some a =>
    refine mapK h fun x h1 h2 => ?_
    subst h2
    rw [evalPart_some]
    exact I _ _ _ _ _ _ _ (oInt_eq h1) G R fun mv s' x hv _ _ => hQ _ _ x hv

theorem gname_ok (G : Sg mg mb defs hG s) (R : ERel prog w env m s) {f : Str} {p : Pos} {a : Addr} (hn : okName f = true) (hk : m.kinds.lookup f = some .globalImplicit) (hf : mg f = some (.ref a)) {Q : Value → Shared → Prop} (hQ : Q (.ref a) s) :
    wpAny (model prog w) A (eval (.Name f p) env) Q E s := by
  replace hn := okName_inv hn
  exact Name_function_global R.kind ((R.kindOf f).trans hk) (loadGlobal_global (mg := mg) (by rw [R.globals]; exact G.glb.g) hf hQ) hn.1
theorem bname_ok (G : Sg mg mb defs hG s) (R : ERel prog w env m s) {f : Str} {p : Pos} {v : Value} (hn : okName f = true) (hk : m.kinds.lookup f = some .globalImplicit) (hf : f ∈ builtins) (hv : bootBuiltins f = some v) {Q : Value → Shared → Prop} (hQ : Q v s) :
    wpAny (model prog w) A (eval (.Name f p) env) Q E s := by
  replace hn := okName_inv hn
  refine Name_function_global R.kind ((R.kindOf f).trans hk) (loadGlobal_builtin (mg := mg) (mb := mb) (by rw [R.globals]; exact G.glb.g) (G.glb.bmiss f hf) (by rw [R.builtins]; exact G.glb.b) ((G.glb.bi f ?_).trans hv) hQ) hn.1
  rintro rfl
  simp [builtins] at hf
  revert hf; decide

theorem get_eq {k1 k2 a : Int} {v1 v2 b : Value} : (valueAt (merged [] [(k1, v1), (k2, v2)]) a).getD b = if a = k2 then v2 else if a = k1 then v1 else b := by
  show (valueAt (stored (stored [] k1 v1) k2 v2) a).getD b = _
  have e1 : stored ([] : List (Int × Value)) k1 v1 = [(k1, v1)] := rfl
  rw [e1]
  unfold stored
  by_cases h : k1 = k2
  · subst h
    simp only [List.any_cons, List.any_nil, decide_true, Bool.or_false, if_true, List.map_cons, List.map_nil]
    unfold valueAt
    by_cases h2 : a = k1
    · subst h2; simp
    · have : ¬ k1 = a := fun h => h2 h.symm
      simp [h2, this]
  · have h' : decide (k1 = k2) = false := by simpa using h
    simp only [List.any_cons, List.any_nil, h', Bool.or_false, Bool.false_eq_true, if_false, List.cons_append, List.nil_append]
    unfold valueAt
    by_cases h2 : a = k2
    · subst h2; simp [h]
    · have q2 : ¬ k2 = a := fun h => h2 h.symm
      by_cases h3 : a = k1
      · subst h3; simp [h]
      · have q3 : ¬ k1 = a := fun h => h3 h.symm
        simp [h2, h3, q2, q3]

theorem dict_new_ok {D : Addr} (G : Sg mg mb defs hG s) (hD : D = s.heap.objs.size) : (D == sysModules) = false := by
  have h := G.glb.g.lt
  rw [beq_eq_false_iff_ne]
  intro e
  rw [hD] at e
  rw [e] at h
  exact absurd h (by decide)
end Mine
end
section
open PySem PySem.W PyProof.Rows PySem.Calls Builtin.Str PySem.Spec
namespace Mine
variable {prog : Program} {w : World}
variable {mg mb : Str → Option Value} {defs : List DefRec} {hG : Heap} {A : Around} {E : Value → Shared → Prop} {s : Shared} {d n : Nat} {env : Env} {m : ME} {call : CallT}

noncomputable abbrev Post (prog : Program) (w : World) (m : ME) (e : Expr) (s : Shared) (v : V) (Q : Value → Shared → Prop) : Prop :=
  ∀ mv s', Ext s s' → HasV prog w s'.heap mv v → (fresh e = true → Newly s mv) → (isStrItem m e = true → ∃ z t, mv = .str z t ∧ t ≠ 0 ∧ t < s'.toks) → Q mv s'

theorem line64 {a : Nat} (h : a ≤ 64) : a ≤ sizeLine := by rw [sizeLine_eq]; omega
theorem list_case (I : EvOk prog w mg mb defs hG A call n) (G : Sg mg mb defs hG s) (R : ERel prog w env m s) {es : List Expr} {p : Pos} {l : List Atm}
    (h : seqM (fun e => (ev call n e m).bind atom) es = some l) (hl : l.length ≤ 64) {Q : Value → Shared → Prop} (hQ : Post prog w m (.List es p) s (.list l) Q) :
    wpAny (model prog w) A (eval (.List es p) env) Q E s := by
  refine List_ (args_ok I (seqM_atom h) G R fun xs s₁ x hv ha => ?_)
  have hr := hasVs_at hv
  have hlen := hr.length
  refine wpAny_newList ?_ (hlen ▸ line64 hl)
  exact hQ _ _ (x.trans (.push _ (Nat.le_refl _))) ⟨_, _, 0, rfl, IsL.new _ _, hr⟩ (fun _ => Newly.new x) (fun h => no_item h rfl)
theorem tuple_case (I : EvOk prog w mg mb defs hG A call n) (G : Sg mg mb defs hG s) (R : ERel prog w env m s) {es : List Expr} {k : Nat} {p : Pos} {l : List Atm}
    (h : seqM (fun e => (ev call n e m).bind atom) es = some l) (hl : l.length ≤ 64) {Q : Value → Shared → Prop} (hQ : Post prog w m (.Tuple es k p) s (.tup l) Q) :
    wpAny (model prog w) A (eval (.Tuple es k p) env) Q E s := by
  refine Tuple_ (args_ok I (seqM_atom h) G R fun xs s₁ x hv ha => ?_)
  have hr := hasVs_at hv
  have hlen := hr.length
  refine wpAny_newObj_type ?_ (by show xs.toArray.size ≤ sizeLine; rw [List.size_toArray, hlen]; exact line64 hl)
  refine hQ _ _ (x.trans (.push _ (Nat.le_refl _))) ⟨_, xs.toArray, rfl, ⟨_, Heap.get?_push_size _ rfl, rfl, 0, rfl⟩, hr⟩ (fun _ => Newly.new x) (fun h => no_item h rfl)

theorem dict1_case (I : EvOk prog w mg mb defs hG A call n) (G : Sg mg mb defs hG s) (R : ERel prog w env m s) {k v : Expr} {p : Pos} {x : Str} {i : Int}
    (hk : ev call n k m = some (.str x)) (hv : ev call n v m = some (.int i)) {Q : Value → Shared → Prop} (hQ : Post prog w m (.Dict [some k] [v] p) s (.dict [(x, i)]) Q) :
    wpAny (model prog w) A (eval (.Dict [some k] [v] p) env) Q E s := by
  have x0 : Ext s { s with heap := s.heap.push { cls := .type "dict", data := .dict #[] } } := .push _ (Nat.le_refl _)
  refine wpAny_Dict_pairs (knd := sk prog w) (pairs := [(eval k env, do let x ← eval v env; standAt p; pure x)]) rfl (by simp) (by simp) ?_
  refine evalPairs_cons (evStr I hk (G.ext x0) (R.ext x0) fun t s₁ x₁ => wpAny_bind (evInt I hv ((G.ext x0).ext x₁) ((R.ext x0).ext x₁) fun u s₂ x₂ => wpAny_bind (wpAny_standAt (wpAny_pure (evalPairs_nil ?_)))))
  refine ⟨[(x, .int i u)], ⟨strKind_is prog w x t, rfl, trivial⟩, ?_, fun h' hd hs => ?_⟩
  · obtain ⟨o, es, ep, ho, hr⟩ := Heap.DictOf.new (knd := sk prog w) s.heap
    exact ⟨o, es, ep, x₂.heap _ _ (x₁.heap _ _ ho), hr⟩
  · have x12 := x0.trans (x₁.trans x₂)
    have y : ExtX (fun b => b = s.heap.objs.size) s { s₂ with heap := h', toks := s₂.toks + 1 } := (ExtX.ext x12).trans (.of (fun b o hb e => hs.extBut b o hb e) (Nat.le_add_right _ _))
    refine hQ _ _ (y.toExt fun b o e hb => ?_) ⟨_, [(x, .int i u)], rfl, hd, .cons .nil, dict_new_ok G rfl⟩ (fun _ => Newly.here) (fun h => no_item h rfl)
    subst hb; rw [get_size] at e; cases e

theorem slice_case (I : EvOk prog w mg mb defs hG A call n) (G : Sg mg mb defs hG s) (R : ERel prog w env m s) {ve : Expr} {a b : Option Expr} {p p' : Pos} {o v : V} {i j : Option Int}
    (ho : ev call n ve m = some o) (ha : evPart (fun e => ev call n e m) a = some i) (hb : evPart (fun e => ev call n e m) b = some j)
    (h : slice o i j = some v) {Q : Value → Shared → Prop} (hQ : Post prog w m (.Subscript ve (.Slice a b none p) p') s v Q) :
    wpAny (model prog w) A (eval (.Subscript ve (.Slice a b none p) p') env) Q E s := by
  refine Subscript_ (I _ _ _ _ _ _ _ ho G R fun x s₁ x₁ hx _ _ => wpAny_Slice (part_ok I (G.ext x₁) (R.ext x₁) ha fun l s₂ x₂ hl => part_ok I ((G.ext x₁).ext x₂) ((R.ext x₁).ext x₂) hb fun u s₃ x₃ hu => ?_))
  rw [evalPart_none]
  refine wpAny_pure ?_
  have y : Ext s₃ { s₃ with heap := s₃.heap.push { cls := .type "slice", data := .fields #[l, u, .none] } } := .push _ (Nat.le_refl _)
  have hx' := ((hx.ext x₂).ext x₃).ext y
  have x03 := ((x₁.trans x₂).trans x₃).trans y
  obtain ⟨T, id, hT, hlk⟩ := getitem_type (s := { s₃ with heap := s₃.heap.push { cls := .type "slice", data := .fields #[l, u, .none] } }) hx' (slice_kinds h)
  refine tail_any hT hlk (slice_ok h hx' hl hu (Heap.get?_push_size _ rfl) fun mv s' x' hv hn => hQ mv s' (x03.trans x') hv (fun _ => hn.ext x03) (fun h => no_item h rfl)) rfl

theorem sub_plain {ie : Expr} {i : V} {x y : Value} (hi : ev call n ie m = some i) : subscripted ie false x y = operate [x, y] (getItem x y) := by
  cases ie <;> first | rfl | skip
  cases n with
  | zero => exact no_some hi
  | succ n => exact no_some hi
theorem strItem_name {ve ie : Expr} {p : Pos} (h : isStrItem m (.Subscript ve ie p) = true) : ∃ x px z, ve = .Name x px ∧ m.val.lookup x = some (.str z) := by
  obtain ⟨z, hz⟩ := Option.isSome_iff_exists.mp h
  refine bindK hz fun x hx hz => bindK hx fun q hq hx => bindK hx fun c _ hx => bindK hx fun y hy hx => iteK hx fun _ e => ?_
  obtain rfl := Option.some.inj hq
  obtain rfl := Option.some.inj e
  exact ⟨y.x, y.p, z, asName_eq hy, oStr_eq hz⟩
theorem name_str {x : Str} {px : Pos} {z : Str} {o : V} (hz : m.val.lookup x = some (.str z)) (ho : ev call n (.Name x px) m = some o) : ∃ q, o = .str q := by
  cases n with
  | zero => exact no_some ho
  | succ n =>
    refine iteK (show evName x m = some o from ho) fun _ ho => bindK ho fun k _ ho => ?_
    rw [hz] at ho
    cases k with
    | «local» => exact ⟨_, (Option.some.inj ho).symm⟩
    | cell => exact ⟨_, (Option.some.inj ho).symm⟩
    | free => exact ⟨_, (Option.some.inj ho).symm⟩
    | globalImplicit => exact mapK ho fun y _ h => ⟨y, h.symm⟩
    | _ => exact no_some ho

theorem item_case (I : EvOk prog w mg mb defs hG A call n) (G : Sg mg mb defs hG s) (R : ERel prog w env m s) {ve ie : Expr} {p : Pos} {o i v : V}
    (ho : ev call n ve m = some o) (hi : ev call n ie m = some i) (h : item o i = some v) {Q : Value → Shared → Prop} (hQ : Post prog w m (.Subscript ve ie p) s v Q) :
    wpAny (model prog w) A (eval (.Subscript ve ie p) env) Q E s := by
  refine Subscript_ (I _ _ _ _ _ _ _ ho G R fun x s₁ x₁ hx _ _ => I _ _ _ _ _ _ _ hi (G.ext x₁) (R.ext x₁) fun y s₂ x₂ hy _ _ => ?_)
  have hx' := hx.ext x₂
  obtain ⟨T, id, hT, hlk⟩ := getitem_type (s := s₂) hx' (item_kinds h)
  refine tail_any (ops := [x, y]) hT hlk (item_ok h hx' hy fun mv s' x' hv hn htok => hQ mv s' ((x₁.trans x₂).trans x') hv (fun _ b e => absurd e (hn b)) fun hs => ?_) ?_
  · have hstr : ∃ q, o = .str q := by
      obtain ⟨xx, px, z, rfl, hz⟩ := strItem_name hs
      exact name_str hz ho
    obtain ⟨z, e1, e2⟩ := htok hstr
    exact ⟨z, s₂.toks, e1, Nat.ne_of_gt ((G.ext x₁).ext x₂).tpos, by rw [e2]; exact Nat.lt_succ_self _⟩
  · exact sub_plain hi

theorem lists_case (I : EvOk prog w mg mb defs hG A call n) (G : Sg mg mb defs hG s) (R : ERel prog w env m s) {es : List Expr} {ie : Expr} {p p' : Pos} {l : List V} {k : Int} {v : V}
    (hl : seqM (listOnly fun e => ev call n e m) es = some l) (hi : ev call n ie m = some (.int k)) (hlen : l.length ≤ 64) (hk : 0 ≤ k) (h : l[k.toNat]? = some v)
    {Q : Value → Shared → Prop} (hQ : Post prog w m (.Subscript (.List es p') ie p) s v Q) : wpAny (model prog w) A (eval (.Subscript (.List es p') ie p) env) Q E s := by
  have conv : ∀ {es : List Expr} {l : List V}, seqM (listOnly fun e => ev call n e m) es = some l → seqM (fun e => ev call n e m) es = some l ∧ ∀ e ∈ es, fresh e = true := by
    intro es
    induction es with
    | nil => intro l h; exact ⟨h, fun e he => (List.not_mem_nil he).elim⟩
    | cons e es ih =>
      intro l h
      obtain ⟨y, ys, h1, h2, rfl⟩ := seqM_cons h
      obtain ⟨i1, i2⟩ := ih h2
      refine bindK h1 fun q hq h1 => ⟨?_, fun e' he => ?_⟩
      · have h1 : ev call n e m = some y := h1
        show (ev call n e m).bind _ = _
        rw [h1, Option.bind_some, i1]; rfl
      · rcases List.mem_cons.mp he with rfl | he
        · rw [asLst_eq hq]; rfl
        · exact i2 e' he
  obtain ⟨hl', hf⟩ := conv hl
  refine Subscript_ (List_ (args_ok I hl' G R fun xs s₁ x₁ hxs ha => ?_))
  have hxl := hxs.length
  refine wpAny_newList ?_ (hxl ▸ line64 hlen)
  have y : Ext s₁ { s₁ with heap := s₁.heap.push { cls := .type "list", data := .seq xs.toArray } } := .push _ (Nat.le_refl _)
  refine evInt I hi ((G.ext x₁).ext y) ((R.ext x₁).ext y) fun t s₂ x₂ => ?_
  obtain ⟨x, hx1, hx2⟩ := hasVs_get hxs h
  obtain ⟨e, he1, he2⟩ := argOk_get ha hx1
  have hlst : s₂.heap.IsList s₁.heap.objs.size xs.toArray := (IsL.isList (show IsL _ _ _ 0 from x₂.heap _ _ (Heap.get?_push_size _ rfl)))
  have hkl : k.toNat < xs.length := by
    by_cases q : k.toNat < xs.length
    · exact q
    · rw [List.getElem?_eq_none (Nat.not_lt.mp q)] at hx1; cases hx1
  refine tail_any (ops := [.ref s₁.heap.objs.size, .int k t]) hlst.typeIs slot_list_getitem.lookup (wpAny_getItem_list (x := x) hlst hk (by omega) (by simpa using hx1) ?_) ?_
  · have xx := (x₁.trans y).trans x₂
    exact hQ _ _ xx ((hx2.ext y).ext x₂) (fun _ => he2 (hf e (List.mem_of_getElem? he1))) (fun h => by obtain ⟨x, px, z, e, _⟩ := strItem_name h; exact Expr.noConfusion e)
  · exact sub_plain hi
end Mine
end
section
open PySem PySem.W PyProof.Rows PySem.Calls Builtin.Str PySem.Spec
namespace Mine
variable {prog : Program} {w : World}
variable {mg mb : Str → Option Value} {defs : List DefRec} {hG : Heap} {A : Around} {E : Value → Shared → Prop} {s : Shared} {d n : Nat} {env : Env} {m : ME} {call : CallT}

theorem hasVs_one {h : Heap} {xs : List Value} {v : V} (H : HasVs prog w h xs [v]) : ∃ x, xs = [x] ∧ HasV prog w h x v := H.oneK (motive := fun xs => ∃ x, xs = [x] ∧ HasV prog w h x v) fun x hx => ⟨x, rfl, hx⟩
theorem ArgOk.threeK {s s' : Shared} {a b c : Expr} {xs : List Value} {motive : List Value → Prop} (H : ArgOk m s s' [a, b, c] xs) (hb : isStrItem m b = true) (hc : isStrItem m c = true)
    (q : ∀ x z1 t1 z2 t2, t1 ≠ 0 → t1 < s'.toks → t2 ≠ 0 → t2 < s'.toks → motive [x, .str z1 t1, .str z2 t2]) : motive xs := by
  cases H with
  | cons _ _ H => cases H with
    | cons _ h1 H => cases H with
      | cons _ h2 H =>
        cases H
        obtain ⟨z1, t1, rfl, e1, e2⟩ := h1 hb
        obtain ⟨z2, t2, rfl, e3, e4⟩ := h2 hc
        exact q _ z1 t1 z2 t2 e1 e2 e3 e4

theorem builtin_case (I : EvOk prog w mg mb defs hG A call n) (Rm : Room A (d + 1)) (G : Sg mg mb defs hG s) (R : ERel prog w env m s) {f : Str} {p pos : Pos} {args : List Expr} {v r : V} (hn : okName f = true) (hk : m.kinds.lookup f = some .globalImplicit)
    (hargs : seqM (fun e => ev call n e m) args = some [v]) (h : builtin1 f v = some r) {Q : Value → Shared → Prop} (hQ : Post prog w m (.Call (.Name f p) args [] pos) s r Q) :
    wpAny (model prog w) A (eval (.Call (.Name f p) args [] pos) env) Q E s := by
  have viaB : ∀ id, f ∈ builtins → bootBuiltins f = some (.builtin id) → (∀ x s₁, Ext s s₁ → HasV prog w s₁.heap x v → wpAny (model prog w) A (PySem.call (.builtin id) [x]) Q E s₁) → wpAny (model prog w) A (eval (.Call (.Name f p) args [] pos) env) Q E s := by
    intro id hb hv hc
    refine Call_Name rfl (bname_ok G R hn hk hb hv (callWith_builtin (any_plain hargs).1 (evalArgs_ok hargs (args_ok I hargs G R fun xs s₁ x₁ hxs _ => ?_))))
    exact hxs.oneK (motive := fun xs => wpAny (model prog w) A (PySem.call _ xs) Q E s₁) fun x hx => hc x s₁ x₁ hx
  refine condK h (fun h1 h => mapK h fun k hk' h => ?_) fun _ h => condK h (fun h1 h => bindK h fun l hl h => iteK h fun hc h => ?_) fun _ h =>
    condK h (fun h1 h => bindK h fun l hl h => bindK h fun ns hns h => iteK h fun _ h => ?_) fun _ h => iteK h fun h1 h => bindK h fun l hl h => iteK h fun hc h => ?_
  · subst h
    obtain rfl := beq_iff_eq.mp h1
    exact viaB "len" (by simp [builtins]) rfl fun x s₁ x₁ hx => len_ok hk' hx fun mv s' x' hv => hQ _ _ (x₁.trans x') hv (fun _ => Newly.at hv) (fun h => no_item h rfl)
  · obtain rfl := Option.some.inj h
    obtain rfl := beq_iff_eq.mp h1
    refine Call_Name rfl (bname_ok G R hn hk (by simp [builtins]) rfl (PyProof.Rows.callWith_type (any_plain hargs).1 (evalArgs_ok hargs (args_ok I hargs G R fun xs s₁ x₁ hxs _ => ?_))))
    obtain ⟨x, rfl, hx⟩ := hasVs_one hxs
    exact list_ok hc (asList_eq hl ▸ hx : HasV prog w s₁.heap x (.list l)) fun mv s' x' hv hn => hQ _ _ (x₁.trans x') hv (fun _ => hn.ext x₁) (fun h => no_item h rfl)
  · obtain rfl := Option.some.inj h
    obtain rfl := beq_iff_eq.mp h1
    exact viaB "sum" (by simp [builtins]) rfl fun x s₁ x₁ hx => sum_ok hns Rm (asList_eq hl ▸ hx : HasV prog w s₁.heap x (.list l)) fun mv s' x' hv => hQ _ _ (x₁.trans x') hv (fun _ => Newly.at hv) (fun h => no_item h rfl)
  · obtain rfl := Option.some.inj h
    obtain rfl := beq_iff_eq.mp h1
    exact viaB "sorted" (by simp [builtins]) rfl fun x s₁ x₁ hx => sorted_ok hc Rm (asDict_eq hl ▸ hx : HasV prog w s₁.heap x (.dict l)) fun mv s' x' hv hn => hQ _ _ (x₁.trans x') hv (fun _ => hn.ext x₁) (fun h => no_item h rfl)

theorem func_case (I : EvOk prog w mg mb defs hG A call n) (H : HC prog w mg mb defs hG A call) (G : Sg mg mb defs hG s) (R : ERel prog w env m s) {f : Str} {p pos : Pos} {args : List Expr} {vs : List V} {r : V} (hn : okName f = true) (hk : m.kinds.lookup f = some .globalImplicit)
    (hargs : seqM (fun e => ev call n e m) args = some vs) (h : call f vs = some r) (htok : f = ("_law_hidden_ones" : Str) → ∃ a b c, args = [a, b, c] ∧ isStrItem m b = true ∧ isStrItem m c = true)
    {Q : Value → Shared → Prop} (hQ : Post prog w m (.Call (.Name f p) args [] pos) s r Q) :
    wpAny (model prog w) A (eval (.Call (.Name f p) args [] pos) env) Q E s := by
  obtain ⟨dr, hd, hname⟩ := H.name f vs r h
  obtain ⟨a, o, pm, code, doc, hmg, ho, hdat, hrec⟩ := G.glb.fn dr hd
  rw [hname] at hmg
  refine Call_Name rfl (gname_ok G R hn hk hmg (callWith_function (o := o) (evalArgs_ok hargs (args_ok I hargs G R fun xs s₁ x₁ hxs ha => ⟨⟨x₁.heap _ _ ho, hdat⟩, ?_⟩))))
  refine H.ok f vs r h a hmg s₁ xs _ _ (G.ext x₁) hxs (fun e => ?_) fun mv s' x' hv hnew => hQ _ _ (x₁.trans x') hv (fun _ => hnew.ext x₁) (fun h => no_item h rfl)
  obtain ⟨a0, b, c, rfl, hb, hc⟩ := htok e
  exact ha.threeK (motive := fun xs => ∃ x0 x1 x2 t1 t2, xs = [x0, .str x1 t1, .str x2 t2] ∧ t1 ≠ 0 ∧ t1 < s₁.toks ∧ t2 ≠ 0 ∧ t2 < s₁.toks) hb hc fun x z1 t1 z2 t2 e1 e2 e3 e4 => ⟨x, z1, z2, t1, t2, rfl, e1, e2, e3, e4⟩

theorem few_of {pos : Pos} {args : List Expr} {vs : List V} (hargs : seqM (fun e => ev call n e m) args = some vs) (hlen : args.length < 20) :
    ((backTo pos (starEach args env)).all (fun x => !x.1) && (backToKw pos (keywordEach [] env)).all (fun x => x.1.isSome)
      && decide (args.length + ([] : List Keyword).length + (if ([] : List Keyword).isEmpty then 0 else 1) < 30)) = true := by
  have h1 := (any_plain (env := env) (pos := pos) hargs).1
  rw [Bool.and_eq_true, Bool.and_eq_true]
  refine ⟨⟨?_, rfl⟩, ?_⟩
  · rw [List.all_eq_true]
    rw [List.any_eq_false] at h1
    intro x hx
    have := h1 x hx
    simpa using this
  · rw [decide_eq_true_eq]
    show args.length + 0 + 0 < 30
    omega

theorem meth_case (I : EvOk prog w mg mb defs hG A call n) (Rm : Room A (d + 1)) (G : Sg mg mb defs hG s) (R : ERel prog w env m s) {o : Expr} {f : Str} {ap pos : Pos} {args : List Expr} {ov : V} {vs : List V} {r : V} (hns : notSuper o = true) (hline : (ap.endLine == pos.line) = true) (hlen : args.length < 20)
    (ho : ev call n o m = some ov) (hargs : seqM (fun e => ev call n e m) args = some vs) (h : meth f ov vs = some r) {Q : Value → Shared → Prop} (hQ : Post prog w m (.Call (.Attribute o f ap) args [] pos) s r Q) :
    wpAny (model prog w) A (eval (.Call (.Attribute o f ap) args [] pos) env) Q E s := by
  obtain ⟨⟨hslot, hty⟩, z, rfl⟩ := onSlot h
  refine wpAny_Call_method_lateS (base_of hns) (few_of hargs hlen) hline (I _ _ _ _ _ _ _ ho G R fun x s₁ x₁ hx _ _ => ?_)
  obtain ⟨t, rfl⟩ := id hx
  refine ⟨"str", onId f, F.plainAttrs_str, hslot, hty, typeIs_str _ _ _, (fun _ e => nomatch e), ?_⟩
  refine callWith_builtin (any_plain hargs).1 (evalArgs_ok hargs (args_ok I hargs (G.ext x₁) (R.ext x₁) fun xs s₂ x₂ hxs _ => ?_))
  exact meth_call h (hx.ext x₂) hxs Rm fun mv s' x' hv hn => hQ _ _ ((x₁.trans x₂).trans x') hv (fun _ => hn.ext (x₁.trans x₂)) (fun h => no_item h rfl)

theorem replace_case (I : EvOk prog w mg mb defs hG A call n) (G : Sg mg mb defs hG s) (R : ERel prog w env m s) {o l r : Expr} {a : Str} {ap pa pb pos : Pos} {x y z u : Str} (hns : notSuper o = true) (hline : (ap.endLine == pos.line) = true)
    (htok : m.tok.contains a = true) (hloc : m.kinds.lookup a = some .local) (ho : ev call n o m = some (.str x)) (ha : ev call n (.Name a pa) m = some (.str y)) (hl : ev call n l m = some (.str z)) (hr : ev call n r m = some (.str u))
    (h1 : y.length = 1) (h2 : x.length ≤ 256) (h3 : z.length + u.length ≤ 8) (h4 : 1 ≤ z.length) (h5 : 1 ≤ u.length) {Q : Value → Shared → Prop}
    (hQ : Post prog w m (.Call (.Attribute o ("replace" : Str) ap) [.Name a pa, .BinOp l .Add r pb] [] pos) s (.str (Txt.replace x y (z ++ u))) Q) :
    wpAny (model prog w) A (eval (.Call (.Attribute o ("replace" : Str) ap) [.Name a pa, .BinOp l .Add r pb] [] pos) env) Q E s := by
  refine wpAny_Call_method_lateS (base_of hns) rfl hline (I _ _ _ _ _ _ _ ho G R fun xv s₁ x₁ hx _ _ => ?_)
  obtain ⟨t, rfl⟩ := id hx
  refine ⟨"str", "str.replace", F.plainAttrs_str, F.slot_str_replace, F.type_str_replace, typeIs_str _ _ _, (fun _ e => nomatch e), ?_⟩
  refine callWith_builtin rfl (evalArgs_plain (spliced_cons ?_))
  cases n with
  | zero => exact no_some ha
  | succ n =>
    refine name_ok (G.ext x₁) (R.ext x₁) ha fun yv hy ht => spliced_cons (wpAny_BinOp (evStr I hl (G.ext x₁) (R.ext x₁) fun tz s₂ x₂ => evStr I hr ((G.ext x₁).ext x₂) ((R.ext x₁).ext x₂) fun tu s₃ x₃ => ?_))
    obtain ⟨ty, rfl⟩ := id hy
    obtain ⟨zz, tt, e1, e2, e3⟩ := ht hloc (by simpa using htok)
    cases e1
    refine add_str_new (by omega) (by omega) (spliced_nil ?_) (by rw [sizeLine_eq]; omega)
    have hpos := ((G.ext x₁).ext x₂).ext x₃ |>.tpos
    have hle := Nat.le_trans x₂.toks x₃.toks
    have hzl : (z ++ u).length = z.length + u.length := strLen_append z u
    refine wpAny_with_toks (n := s₃.toks) (Nat.le_succ _) (SC.replace e2 (Nat.ne_of_gt hpos) (fun e => by rw [e] at e3; exact absurd (Nat.lt_of_lt_of_le e3 hle) (Nat.lt_irrefl _)) ?_ ?_ fun t' k hk => ?_)
    · rw [beq_eq_false_iff_ne]
      intro e
      rw [e, hzl] at h1
      omega
    · rw [hzl]
      have : (x.length + 1) * (z.length + u.length) ≤ 257 * 8 := Nat.mul_le_mul (by omega) h3
      omega
    · exact hQ _ _ (((x₁.trans x₂).trans x₃).trans (.tok hk)) ⟨t', rfl⟩ (fun _ => Newly.str) (fun h => no_item h rfl)

theorem get_case (I : EvOk prog w mg mb defs hG A call n) (G : Sg mg mb defs hG s) (R : ERel prog w env m s) {k1 k2 v1 v2 a b : Expr} {ap pd pos : Pos} {i1 i2 j1 j2 ia ib : Int} (hline : (ap.endLine == pos.line) = true)
    (h1 : ev call n k1 m = some (.int i1)) (h2 : ev call n v1 m = some (.int j1)) (h3 : ev call n k2 m = some (.int i2)) (h4 : ev call n v2 m = some (.int j2)) (h5 : ev call n a m = some (.int ia)) (h6 : ev call n b m = some (.int ib))
    {Q : Value → Shared → Prop} (hQ : Post prog w m (.Call (.Attribute (.Dict [some k1, some k2] [v1, v2] pd) ("get" : Str) ap) [a, b] [] pos) s (.int (if ia = i2 then j2 else if ia = i1 then j1 else ib)) Q) :
    wpAny (model prog w) A (eval (.Call (.Attribute (.Dict [some k1, some k2] [v1, v2] pd) ("get" : Str) ap) [a, b] [] pos) env) Q E s := by
  have hst : starEach [a, b] env = [(false, eval a env), (false, eval b env)] := by rw [star_plain h5, star_plain h6]; rfl
  refine wpAny_Call_method_lateS (base_of rfl) (by rw [hst]; rfl) hline ?_
  rw [hst]
  have x0 : Ext s { s with heap := s.heap.push { cls := .type "dict", data := .dict #[] } } := .push _ (Nat.le_refl _)
  refine wpAny_Dict_pairs (knd := intKind prog w) (pairs := [(eval k1 env, do let x ← eval v1 env; standAt pd; pure x), (eval k2 env, do let x ← eval v2 env; standAt pd; pure x)]) rfl (by simp) (by simp) ?_
  refine evalPairs_cons (evInt I h1 (G.ext x0) (R.ext x0) fun t1 s₁ x₁ => ?_)
  refine wpAny_bind (evInt I h2 ((G.ext x0).ext x₁) ((R.ext x0).ext x₁) fun t2 s₂ x₂ => wpAny_bind (wpAny_standAt (wpAny_pure (evalPairs_cons ?_))))
  have x02 := x0.trans (x₁.trans x₂)
  refine evInt I h3 (G.ext x02) (R.ext x02) fun t3 s₃ x₃ => ?_
  refine wpAny_bind (evInt I h4 ((G.ext x02).ext x₃) ((R.ext x02).ext x₃) fun t4 s₄ x₄ => wpAny_bind (wpAny_standAt (wpAny_pure (evalPairs_nil ?_))))
  refine ⟨[(i1, .int j1 t2), (i2, .int j2 t4)], ⟨intKind_is prog w i1 t1, rfl, intKind_is prog w i2 t3, rfl, trivial⟩, ?_, fun h' hd hs => ?_⟩
  · obtain ⟨o, es, ep, ho, hr⟩ := Heap.DictOf.new (knd := intKind prog w) s.heap
    exact ⟨o, es, ep, x₄.heap _ _ (x₃.heap _ _ (x₂.heap _ _ (x₁.heap _ _ ho))), hr⟩
  · have x04 := x02.trans (x₃.trans x₄)
    have y : ExtX (fun b => b = s.heap.objs.size) s { s₄ with heap := h', toks := s₄.toks + 2 } := (ExtX.ext x04).trans (.of (fun b o hb e => hs.extBut b o hb e) (Nat.le_add_right _ _))
    have y' : Ext s { s₄ with heap := h', toks := s₄.toks + 2 } := y.toExt fun b o e hb => by subst hb; rw [get_size] at e; cases e
    obtain ⟨o, es, ep, ho, hex, hr⟩ := id hd
    refine ⟨"dict", "dict.get", F.plainAttrs_dict, F.slot_dict_get, F.type_dict_get, hd.typeIs, (fun b e => by cases e; exact ⟨o, ho, hex.2.1⟩), ?_⟩
    refine wpAny_dict_get2 (knd := intKind prog w) (dict_new_ok G rfl) (evInt I h5 (G.ext y') (R.ext y') fun ta s₅ x₅ => evInt I h6 ((G.ext y').ext x₅) ((R.ext y').ext x₅) fun tb s₆ x₆ => ?_)
    have hd6 : s₆.heap.DictOf (intKind prog w) s.heap.objs.size (merged [] [(i1, .int j1 t2), (i2, .int j2 t4)]) := ⟨o, es, ep, x₆.heap _ _ (x₅.heap _ _ ho), hex, hr⟩
    refine ⟨ia, _, intKind_is prog w ia ta, hd6.mapOf, ?_⟩
    rw [get_eq]
    have pick : ∃ t, (if ia = i2 then Value.int j2 t4 else if ia = i1 then .int j1 t2 else .int ib tb) = .int (if ia = i2 then j2 else if ia = i1 then j1 else ib) t := by
      by_cases q : ia = i2
      · rw [if_pos q, if_pos q]; exact ⟨_, rfl⟩
      · rw [if_neg q, if_neg q]
        by_cases q : ia = i1
        · rw [if_pos q, if_pos q]; exact ⟨_, rfl⟩
        · rw [if_neg q, if_neg q]; exact ⟨_, rfl⟩
    obtain ⟨tp, ep⟩ := pick
    rw [ep]
    exact hQ _ _ ((y'.trans (x₅.trans x₆)).trans (.tok (by simp))) ⟨_, rfl⟩ (fun _ => Newly.int) (fun h => no_item h rfl)
end Mine
end
section
open PySem PySem.W PyProof.Rows PySem.Calls Builtin.Str PySem.Spec
namespace Mine
variable {prog : Program} {w : World}
variable {mg mb : Str → Option Value} {defs : List DefRec} {hG : Heap} {A : Around} {E : Value → Shared → Prop} {s : Shared} {d n : Nat} {env : Env} {m : ME} {call : CallT}

theorem isUSub_eq {op : UnaryOp} (h : isUSub op = true) : op = .USub := by
  cases op <;> first | rfl | exact absurd h Bool.false_ne_true
theorem isNotO_eq {op : UnaryOp} (h : isNotO op = true) : op = .Not := by
  cases op <;> first | rfl | exact absurd h Bool.false_ne_true
theorem cmp_step (I : EvOk prog w mg mb defs hG A call n) (Rm : Room A d) : CmpOk prog w mg mb defs hG A call (n + 1) := by
  intro l op r m b env s Q E h G R hQ
  exact bindK h fun x hl h => bindK h fun y hr h => I _ _ _ _ _ _ _ hl G R fun xv s₁ x₁ hx _ _ => I _ _ _ _ _ _ _ hr (G.ext x₁) (R.ext x₁) fun yv s₂ x₂ hy _ _ => cmpAll_ok h (hx.ext x₂) hy Rm (hQ _ (x₁.trans x₂))
theorem cmp_right {l r : Expr} {op : CmpOp} {b : Bool} (h : cmp call n l op r m = some b) : behindInMarks op r = false := by
  cases n with
  | zero => exact no_some h
  | succ n => exact bindK h fun x hl h => bindK h fun y hr h => noSet_of_ev hr

theorem tr_step (I : EvOk prog w mg mb defs hG A call n) (J : TrOk prog w mg mb defs hG A call n) (K : TrsOk prog w mg mb defs hG A call n) (C : CmpOk prog w mg mb defs hG A call n) : TrOk prog w mg mb defs hG A call (n + 1) := by
  intro e m b env s Q E h G R hQ
  have plain : ∀ {e}, (ev call n e m).bind truth = some b → wpAny (model prog w) A (eval e env) (fun v s' => wpAny (model prog w) A (truthy v) Q E s') E s := fun h => bindK h fun v hv ht =>
    I _ _ _ _ _ _ _ hv G R fun mv s₁ x₁ hm _ _ => truth_ok ht hm fun s' x' => hQ _ (x₁.trans x')
  cases e with
  | UnaryOp op x p =>
    refine iteK h fun ho h => mapK h fun c hc h => ?_
    subst h
    obtain rfl := isNotO_eq ho
    exact isTrue_not (J _ _ _ _ _ _ _ hc G R fun s' x => hQ s' x)
  | BoolOp op es p => exact wpAny_isTrue_BoolOp (K _ _ _ _ _ _ _ _ h G R hQ)
  | Compare l ops rs p =>
    refine bindK h fun op ho h => bindK h fun r hr h => ?_
    rw [one_eq ho, one_eq hr]
    exact wpAny_isTrue_Compare1 (C _ _ _ _ _ _ _ _ _ h G R fun s' x => wpAny_truthy_bool (hQ s' x)) (cmp_right h)
  | Name x p => exact isTrue_plain (plain h)
  | Call f as ks p => exact isTrue_plain (plain h)
  | _ => exact no_some h

theorem trs_step (J : TrOk prog w mg mb defs hG A call n) (K : TrsOk prog w mg mb defs hG A call n) : TrsOk prog w mg mb defs hG A call (n + 1) := by
  intro op es m b env s Q E h G R hQ
  cases es with
  | nil =>
    obtain rfl := Option.some.inj h
    cases op
    · exact wpAny_allTrue_And_nil (hQ s (.refl s))
    · exact wpAny_allTrue_Or_nil (hQ s (.refl s))
  | cons x r =>
    refine bindK h fun c hx h => ?_
    cases op <;> cases c
    · obtain rfl := Option.some.inj h
      exact wpAny_allTrue_And_cons (J _ _ _ _ _ _ _ hx G R fun s' x => hQ _ x)
    · exact wpAny_allTrue_And_cons (J _ _ _ _ _ _ _ hx G R fun s₁ x₁ => K _ _ _ _ _ _ _ _ h (G.ext x₁) (R.ext x₁) fun s' x' => hQ _ (x₁.trans x'))
    · exact wpAny_allTrue_Or_cons (J _ _ _ _ _ _ _ hx G R fun s₁ x₁ => K _ _ _ _ _ _ _ _ h (G.ext x₁) (R.ext x₁) fun s' x' => hQ _ (x₁.trans x'))
    · obtain rfl := Option.some.inj h
      exact wpAny_allTrue_Or_cons (J _ _ _ _ _ _ _ hx G R fun s' x => hQ _ x)

theorem range_src (R : Room A d) {a b : Int} {r : Addr} {t u v : Tok} (ha : 0 ≤ a) (ha' : a ≤ 4096) (hb : 0 ≤ b) (hb' : b ≤ 4096) (hr : IsRange s.heap r a b 1 t u v)
    {Q : Value → Shared → Prop} (hQ : ∀ s' fp P St, Ext s s' → Src prog w A s.heap.objs.size (rangeOf a b) fp P St → St 0 s'.heap → (∀ c ∈ fp, c < s'.heap.objs.size) → Q (.ref s.heap.objs.size) s') :
    wpAny (model prog w) A (pyIter (.ref r)) Q E s := by
  have hsz : Builtin.Range.rangeSize a b 1 = ((b - a).toNat : Int) := by rw [rangeSize_one]; split <;> omega
  have hlen : (rangeOf a b).length = (b - a).toNat := by simp [rangeOf]
  refine wpAny_pyIter_range hr (small_one (by omega) (by omega) (by omega) (by omega)) (hQ _ [s.heap.objs.size] (fun i v => ∃ t, v = .int (a + i * 1) t) (fun i h => IsRangeIter h s.heap.objs.size (a + (i : Nat) * 1) (((b - a).toNat : Int) - (i : Nat)) 1) (.push _ (Nat.le_refl _)) ⟨?_, ?_, (fun _ _ h b hb => by simp only [List.mem_cons, List.not_mem_nil, or_false] at hb; subst hb; exact ⟨_, h⟩), (fun j v hj => atoms_of (f := fun (i : Nat) => Atm.int (a + i)) j v hj)⟩ ?_ ?_)
  · rw [hlen]; exact Walks.range R.h _ a 1 (b - a).toNat
  · rintro i v hi ⟨t, rfl⟩
    rw [hlen] at hi
    refine ⟨.int (a + i), ?_, t, by simp⟩
    unfold rangeOf
    rw [List.getElem?_map, List.getElem?_range hi]; rfl
  · show IsRangeIter _ _ _ _ _
    rw [hsz]; simpa using Heap.get?_push_size _ rfl
  · intro c hc
    simp at hc
    subst hc
    show _ < (s.heap.push _).objs.size
    rw [Heap.size_push]; exact Nat.lt_succ_self _

theorem HasVs.twoK {h : Heap} {xs : List Value} {u v : V} {motive : List Value → Prop} (H : HasVs prog w h xs [u, v]) (q : ∀ x y, HasV prog w h x u → HasV prog w h y v → motive [x, y]) : motive xs := by
  cases H with
  | cons a b => cases b with
    | cons b c => cases c; exact q _ _ a b
theorem its_step (I : EvOk prog w mg mb defs hG A call n) (Rm : Room A d) : ItsOk prog w mg mb defs hG A call (n + 1) := by
  intro e m items env s Q E h G R hQ
  refine elimK h (fun q hq h => iteK h fun hc h => andK hc fun hf hk => bindK h fun vs hargs h => ?_) fun _ h => bindK h fun v hv hi => ?_
  · rw [callName_eq hq, beq_iff_eq.mp hf]
    rw [beq_iff_eq.mp hf] at hk
    have fin : ∀ s₁, Ext s s₁ → ∀ (ob : Obj) k s' fp P St, s₁.toks ≤ k → Ext { s₁ with heap := s₁.heap.push ob, toks := k } s' → Src prog w A (s₁.heap.push ob).objs.size items fp P St → St 0 s'.heap → (∀ c ∈ fp, c < s'.heap.objs.size) → Q (.ref (s₁.heap.push ob).objs.size) s' :=
      fun s₁ x₁ ob k s' fp P St hk x' src hst hfp => hQ _ _ fp P St ((x₁.trans (.push _ hk)).trans x') src hst ((x₁.trans (.push ob hk)).none (get_size _)) hfp
    refine Call_Name rfl (bname_ok G R (by decide) (beq_iff_eq.mp hk) (by simp [builtins]) rfl (PyProof.Rows.callWith_type (any_plain hargs).1 (evalArgs_ok hargs (args_ok I hargs G R fun xs s₁ x₁ hxs _ => ?_))))
    refine elimK h (fun v hv h => bindK h fun b hb h => iteK h fun hc h => andK hc fun h1 h2 => ?_) fun _ h => bindK h fun v hv h => bindK h fun a ha h => bindK h fun b hb h => iteK h fun hc h => andK hc fun hc h4 => andK hc fun hc h3 => andK hc fun h1 h2 => ?_
    · obtain rfl := Option.some.inj h
      refine HasVs.oneK (motive := fun xs => wpAny (model prog w) A (PySem.call (.type "range") xs) _ E s₁) (one_eq hv ▸ hxs : HasVs prog w s₁.heap xs [v]) fun x hx => hx.intE (motive := fun x => wpAny (model prog w) A (PySem.call (.type "range") [x]) _ E s₁) hb fun t => ?_
      exact call_range_1 (range_src Rm (Int.le_refl 0) (by decide) (of_decide_eq_true h1) (of_decide_eq_true h2) (IsRange.new _ _ _ _ _ _ _) fun s' fp P St x' src hst hfp => fin s₁ x₁ _ _ s' fp P St (Nat.le_add_right _ 2) x' src hst hfp)
    · obtain rfl := Option.some.inj h
      refine HasVs.twoK (motive := fun xs => wpAny (model prog w) A (PySem.call (.type "range") xs) _ E s₁) (two_eq hv ▸ hxs : HasVs prog w s₁.heap xs [v.1, v.2]) fun x y hx hy => hx.intE (motive := fun x => wpAny (model prog w) A (PySem.call (.type "range") [x, y]) _ E s₁) ha fun ta => hy.intE (motive := fun y => wpAny (model prog w) A (PySem.call (.type "range") [_, y]) _ E s₁) hb fun tb => ?_
      exact call_range_2 (range_src Rm (of_decide_eq_true h1) (of_decide_eq_true h2) (of_decide_eq_true h3) (of_decide_eq_true h4) (IsRange.new _ _ _ _ _ _ _) fun s' fp P St x' src hst hfp => fin s₁ x₁ _ _ s' fp P St (Nat.le_succ _) x' src hst hfp)
  · refine I _ _ _ _ _ _ _ hv G R fun mv s₁ x₁ hm _ _ => iterOf_ok hi hm Rm fun s' fp P St x' hsz src hst hfp => hQ _ s' fp P St (x₁.trans x') src hst (x₁.none (get_size _)) fun b hb => ?_
    rcases hfp b hb with rfl | e
    · exact hsz
    · subst e
      obtain ⟨o, ho⟩ := hm.there
      exact Heap.lt_size (x'.heap _ _ ho)

section cases
variable {v : V} {Q : Value → Shared → Prop} (I : EvOk prog w mg mb defs hG A call n) (Rm : Room A (d + 1)) (G : Sg mg mb defs hG s) (R : ERel prog w env m s)
include I Rm G R
theorem dict_step {ks : List (Option Expr)} {vs : List Expr} {p : Pos} (h0 : evDict (fun e => ev call n e m) ks vs = some v) (hQ : Post prog w m (.Dict ks vs p) s v Q) : wpAny (model prog w) A (eval (.Dict ks vs p) env) Q E s := by
  refine condK h0 (fun h1 h => iteK h fun h2 h => ?_) fun _ h => bindK h fun k0 hk0 h => bindK h fun k hk1 h => bindK h fun v1 hv1 h => bindK h fun x hx h => bindK h fun i hi h => ?_
  · obtain rfl := Option.some.inj h
    obtain rfl := List.isEmpty_iff.mp h1
    obtain rfl := List.isEmpty_iff.mp h2
    exact wpAny_Dict_empty (hQ _ _ (.push _ (Nat.le_refl _)) ⟨_, [], rfl, Heap.DictOf.new (knd := sk prog w) s.heap, .nil, dict_new_ok G rfl⟩ (fun _ => Newly.here) (fun h => no_item h rfl))
  · obtain rfl := Option.some.inj h
    obtain rfl := one_eq hk0
    obtain rfl := one_eq hv1
    subst hk1
    exact dict1_case I G R (oStr_eq hx) (oInt_eq hi) hQ
theorem sub_step {ve i : Expr} {p : Pos} (h0 : evSub (fun e => ev call n e m) ve i = some v) (hQ : Post prog w m (.Subscript ve i p) s v Q) : wpAny (model prog w) A (eval (.Subscript ve i p) env) Q E s := by
  refine elimK h0 (fun q hq h => iteK h fun hc h => bindK h fun o ho h => bindK h fun a ha h => bindK h fun b hb hz => ?_) fun _ h => elimK h (fun q hq h => bindK h fun l hl h => bindK h fun k hk h => iteK h fun hc hz => andK hc fun h1 h2 => ?_) fun _ h => bindK h fun o ho h => bindK h fun j hj h => item_case I G R ho hj h hQ
  · obtain rfl := asSli_eq hq
    obtain ⟨a0, b0, c0, p0⟩ := q
    obtain rfl := Option.isNone_iff_eq_none.mp hc
    exact slice_case I G R ho ha hb hz hQ
  · obtain rfl := asLst_eq hq
    exact lists_case I G R hl (oInt_eq hk) (of_decide_eq_true h1) (of_decide_eq_true h2) hz hQ
omit Rm in
theorem get_step {o : Expr} {args : List Expr} {ap p : Pos} (hl : (ap.endLine == p.line) = true) (h0 : ((two? args).bind fun q => evGetD (fun e => ev call n e m) q.1 q.2 o) = some v) (hQ : Post prog w m (.Call (.Attribute o ("get" : Str) ap) args [] p) s v Q) :
    wpAny (model prog w) A (eval (.Call (.Attribute o ("get" : Str) ap) args [] p) env) Q E s := by
  refine bindK h0 fun q2 h2 h => bindK h fun qd hd h => bindK h fun k hk h => bindK h fun w' hw h => bindK h fun k1 e1 h => bindK h fun k2 e2 h =>
    bindK h fun i1 h1 h => bindK h fun i2 h2' h => bindK h fun i3 h3 h => bindK h fun i4 h4 h => bindK h fun i5 h5 h => bindK h fun i6 h6 hz => ?_
  have e : qd.ks = [some k1, some k2] := by rw [two_eq hk, e1, e2]
  rw [two_eq h2, asDic_eq hd, e, two_eq hw, ← Option.some.inj hz] at hQ
  rw [two_eq h2, asDic_eq hd, e, two_eq hw]
  exact get_case I G R hl (oInt_eq h1) (oInt_eq h2') (oInt_eq h3) (oInt_eq h4) (oInt_eq h5) (oInt_eq h6) hQ
omit Rm in
theorem rep_step {o : Expr} {args : List Expr} {ap p : Pos} (hl : (ap.endLine == p.line) = true) (hn : notSuper o = true) (h0 : evRepA (fun e => ev call n e m) o m args = some v) (hQ : Post prog w m (.Call (.Attribute o ("replace" : Str) ap) args [] p) s v Q) :
    wpAny (model prog w) A (eval (.Call (.Attribute o ("replace" : Str) ap) args [] p) env) Q E s := by
  refine bindK h0 fun q2 h2 h => bindK h fun a ha h => bindK h fun b hb h => iteK h fun hc h => andK hc fun hc hc3 => andK hc fun hc1 hc2 =>
    bindK h fun x h1 h => bindK h fun y h2' h => bindK h fun z h3 h => bindK h fun u h4 h => iteK h fun hd hz => andK hd fun hd d5 => andK hd fun hd d4 => andK hd fun hd d3 => andK hd fun d1 d2 => ?_
  rw [two_eq h2, asName_eq ha, asBin_eq hb, isAdd_eq hc1, ← Option.some.inj hz] at hQ
  rw [two_eq h2, asName_eq ha, asBin_eq hb, isAdd_eq hc1]
  exact replace_case I G R hn hl hc2 (beq_iff_eq.mp hc3) (oStr_eq h1) (oStr_eq h2') (oStr_eq h3) (oStr_eq h4) (beq_iff_eq.mp d1) (of_decide_eq_true d2) (of_decide_eq_true d3) (of_decide_eq_true d4) (of_decide_eq_true d5) hQ
theorem attr_step {o : Expr} {f : Str} {args : List Expr} {ap p : Pos} (hl : (ap.endLine == p.line) = true) (h0 : evAttr (fun e => ev call n e m) o f args m = some v) (hQ : Post prog w m (.Call (.Attribute o f ap) args [] p) s v Q) :
    wpAny (model prog w) A (eval (.Call (.Attribute o f ap) args [] p) env) Q E s := by
  refine condK h0 (fun hf h => ?_) fun _ h => condK h (fun hf h => iteK h fun hn h => ?_) fun _ h => iteK h fun hc h => andK hc fun hn hlen => bindK h fun o ho h => bindK h fun vs hvs h => meth_case I Rm G R hn hl (of_decide_eq_true hlen) ho hvs h hQ
  · rw [beq_iff_eq.mp hf] at hQ ⊢
    exact get_step I G R hl h hQ
  · rw [beq_iff_eq.mp hf] at hQ ⊢
    exact rep_step I G R hl hn h hQ
theorem fn_step (H : HC prog w mg mb defs hG A call) {f : Str} {pf p : Pos} {args : List Expr} (h1 : okName f = true) (h2 : m.kinds.lookup f = some .globalImplicit) (h0 : evFn call f args m (seqM (fun e => ev call n e m) args) = some v)
    (hQ : Post prog w m (.Call (.Name f pf) args [] p) s v Q) : wpAny (model prog w) A (eval (.Call (.Name f pf) args [] p) env) Q E s :=
  bindK h0 fun vs hargs hy => condK hy (fun _ h => bindK h fun v0 hv0 hz => builtin_case I Rm G R h1 h2 (hargs.trans (congrArg _ (one_eq hv0))) hz hQ) fun _ h =>
    condK h (fun hf h => bindK h fun q3 h3 h => iteK h fun hs hz => andK hs fun hb hc => func_case I H G R h1 h2 hargs (beq_iff_eq.mp hf ▸ hz) (fun _ => ⟨_, _, _, three_eq h3, hb, hc⟩) hQ)
      fun hf h => func_case I H G R h1 h2 hargs h (fun e => absurd (by rw [e]; rfl) hf) hQ
theorem call_step (H : HC prog w mg mb defs hG A call) {f : Expr} {args : List Expr} {p : Pos} (h0 : evCall call (fun e => ev call n e m) args p m f = some v) (hQ : Post prog w m (.Call f args [] p) s v Q) : wpAny (model prog w) A (eval (.Call f args [] p) env) Q E s := by
  refine elimK h0 (fun q hq h => iteK h fun hc h => andK hc fun hc _ => andK hc fun h1 h2 => ?_) fun _ h => bindK h fun q hq h => iteK h fun hl h => ?_
  · rw [asName_eq hq] at hQ ⊢
    exact fn_step I Rm G R H h1 (beq_iff_eq.mp h2) h hQ
  · rw [asAttr_eq hq] at hQ ⊢
    exact attr_step I Rm G R hl h hQ
omit Rm in
theorem comp_step (J : TrOk prog w mg mb defs hG A call n) (K : ItsOk prog w mg mb defs hG A call n) {elt : Expr} {gens : List Comprehension} {scope : Scope} {p : Pos}
    (h : ((asComp gens).bind fun q => if okComp scope m q.x then evItems (fun a => evElt (allM (fun c => tr call n c (compME scope m q.x a))) (ev call n elt (compME scope m q.x a)) q.ifs) (its call n q.iter m) else none) = some v) (hQ : Post prog w m (.ListComp elt gens scope p) s v Q) :
    wpAny (model prog w) A (eval (.ListComp elt gens scope p) env) Q E s := by
  refine bindK h fun q hq h => iteK h fun hc h => bindK h fun items hits h => iteK h fun hlen h => mapK h fun l hl h => ?_
  subst h
  rw [asComp_eq hq, eval_ListComp]
  refine comp_ok (use := none) I J K (compFacts hc) G R hits hlen hl (fold_of_its hits) fun D C s' m' x hn hC hD hDC hv => ⟨m', hn, fun h' hs => ?_⟩
  have y : ExtX (fun b => b = C) s { s' with heap := h' } := (ExtX.ext x).trans ⟨fun b o hb e => hs.extBut b o hb e, Nat.le_refl _, fun _ _ => rfl, id, rfl, Nat.le_refl _⟩
  refine hQ _ _ (y.toExt fun b o e hb => by rw [hb, hC] at e; exact no_some e) (hv.mono fun a e o ho => ?_) (fun _ a e => Value.ref.inj e ▸ hD) (fun h => no_item h rfl)
  obtain rfl := Value.ref.inj e
  exact hs.extBut _ _ hDC ho
end cases
theorem ev_step (H : HC prog w mg mb defs hG A call) (Rm : Room A (d + 1)) (I : EvOk prog w mg mb defs hG A call n) (J : TrOk prog w mg mb defs hG A call n) (K : ItsOk prog w mg mb defs hG A call n) (C : CmpOk prog w mg mb defs hG A call n) : EvOk prog w mg mb defs hG A call (n + 1) := by
  intro e m v env s Q E h G R hQ
  cases e with
  | Constant c k p => exact iteK h fun _ h => const_ok h fun mv s' x hv hn => hQ _ _ x hv (fun _ => hn) (fun h => no_item h rfl)
  | Name x p => exact name_ok (call := call) (n := n) G R (v := v) h fun mv hv _ => hQ _ _ (.refl s) hv (fun h => no_item h rfl) (fun h => no_item h rfl)
  | BinOp l op r p => exact bindK h fun a hl h => bindK h fun b hr h => wpAny_BinOp (I _ _ _ _ _ _ _ hl G R fun xv s₁ x₁ hx _ _ => I _ _ _ _ _ _ _ hr (G.ext x₁) (R.ext x₁) fun yv s₂ x₂ hy _ _ =>
      binop_ok h (hx.ext x₂) hy Rm fun mv s' x' hv hn => hQ _ _ ((x₁.trans x₂).trans x') hv (fun _ => hn.ext (x₁.trans x₂)) (fun h => no_item h rfl))
  | UnaryOp op x p =>
    refine iteK h fun ho h => bindK h fun i hx h => ?_
    obtain rfl := Option.some.inj h
    obtain rfl := isUSub_eq ho
    exact UnaryOp_ (evInt I (oInt_eq hx) G R fun t s₁ x₁ => neg_int (hQ _ _ (x₁.trans (.tok (Nat.le_succ _))) ⟨_, rfl⟩ (fun h => no_item h rfl) (fun h => no_item h rfl)))
  | Compare l ops rs p =>
    refine bindK h fun op ho h => bindK h fun r hr h => mapK h fun b hb h => ?_
    subst h
    rw [one_eq ho, one_eq hr] at hQ ⊢
    exact wpAny_Compare1 (C _ _ _ _ _ _ _ _ _ hb G R fun s' x => hQ _ _ x rfl (fun _ _ e => Value.noConfusion e) (fun h => no_item h rfl)) (cmp_right hb)
  | IfExp t a b p =>
    refine bindK h fun c ht h => IfExp_ (J _ _ _ _ _ _ _ ht G R fun s₁ x₁ => ?_)
    cases c <;> exact I _ _ _ _ _ _ _ h (G.ext x₁) (R.ext x₁) fun mv s' x' hv _ _ => hQ _ _ (x₁.trans x') hv (fun h => no_item h rfl) (fun h => no_item h rfl)
  | List es p => exact bindK h fun l hl h => iteK h fun hc h => list_case I G R hl hc (Option.some.inj h ▸ hQ)
  | Tuple es k p => exact bindK h fun l hl h => iteK h fun hc h => tuple_case I G R hl hc (Option.some.inj h ▸ hQ)
  | Dict ks vs p => exact dict_step I Rm G R h hQ
  | Subscript w' i p => exact sub_step I Rm G R h hQ
  | Call f args kws p =>
    cases kws with
    | cons => exact no_some h
    | nil => exact call_step I Rm G R H h hQ
  | ListComp elt gens scope p => exact comp_step I G R J K h hQ
  | _ => exact no_some h

structure AllOk (prog : Program) (w : World) (mg mb : Str → Option Value) (defs : List DefRec) (hG : Heap) (A : Around) (call : CallT) (n : Nat) : Prop where
  ev : EvOk prog w mg mb defs hG A call n
  tr : TrOk prog w mg mb defs hG A call n
  trs : TrsOk prog w mg mb defs hG A call n
  cmp : CmpOk prog w mg mb defs hG A call n
  its : ItsOk prog w mg mb defs hG A call n
theorem all_ok (H : HC prog w mg mb defs hG A call) (Rm : Room A (d + 1)) : ∀ n, AllOk prog w mg mb defs hG A call n
  | 0 => ⟨fun _ _ _ _ _ _ _ h => by exact no_some h, fun _ _ _ _ _ _ _ h => by exact no_some h, fun _ _ _ _ _ _ _ _ h => by exact no_some h, fun _ _ _ _ _ _ _ _ _ h => by exact no_some h, fun _ _ _ _ _ _ _ h => by exact no_some h⟩
  | n + 1 => let X := all_ok H Rm n; ⟨ev_step H Rm X.ev X.tr X.its X.cmp, tr_step X.ev X.tr X.trs X.cmp, trs_step X.tr X.trs, cmp_step X.ev Rm, its_step X.ev Rm⟩
end Mine
end
section
open PySem PySem.W PyProof.Rows PySem.Calls Builtin.Str PySem.Spec
namespace Mine
variable {prog : Program} {w : World}

/-- what a block may not touch -/
structure Base where
  prot : Addr → Prop
  hid : Addr → Prop
  ref : Heap
  gn : Nat
  gref : Array GenState

structure Kept (B : Base) (s : Shared) : Prop where
  obj : ∀ b o, B.prot b → B.ref.get? b = some o → s.heap.get? b = some o
  gn : B.gn ≤ s.gens.size
  gen : ∀ i, i < B.gn → s.gens[i]? = B.gref[i]?

structure SRel (prog : Program) (w : World) (mg mb : Str → Option Value) (defs : List DefRec) (hG : Heap) (s₀ : Shared) (B : Base) (env : Env) (m : ME) (σ : Str → Option Value) (s : Shared) : Prop where
  g0 : Sg0 mg mb defs hG s₀
  tp : 0 < s.toks
  x0 : Ext s₀ s
  pb : ∀ b o, s₀.heap.get? b = some o → B.prot b
  kept : Kept B s
  names : env.scope.names = m.kinds
  kind : env.scope.kind = .function
  globals : env.globals = mainGlobals
  builtins : env.builtins = builtinsNs
  ns : ∃ ml, s.heap.Ns env.locals ml ∧ ∀ x, m.kinds.lookup x = some .local → ml x = σ x
  nofree : ∀ x, m.kinds.lookup x ≠ some .free
  cells : ∀ x, m.kinds.lookup x = some .cell → ∃ c, env.cells.lookup x = some c ∧ s.heap.IsCell c (σ x) ∧ B.hid c ∧ ¬ B.prot c ∧ c ≠ env.locals
  apart : ∀ x y c, x ≠ y → m.kinds.lookup x = some .cell → m.kinds.lookup y = some .cell → env.cells.lookup x = some c → env.cells.lookup y ≠ some c
  hidEx : ∀ b, B.hid b → ∃ o, s.heap.get? b = some o
  protEx : ∀ b, B.prot b → ∃ o, s.heap.get? b = some o
  loc : B.hid env.locals ∧ ¬ B.prot env.locals
  vals : ∀ x v, (m.kinds.lookup x = some .local ∨ m.kinds.lookup x = some .cell) → m.val.lookup x = some v → ∃ mv, σ x = some mv ∧ HasV prog w s.heap mv v
  refs : ∀ x a, σ x = some (.ref a) → ¬ B.hid a ∧ ∃ o, s.heap.get? a = some o
  own : ∀ x a, x ∈ m.own → σ x = some (.ref a) → ¬ B.prot a ∧ ∀ y, y ≠ x → σ y ≠ some (.ref a)
  tok : ∀ x, x ∈ m.tok → m.kinds.lookup x = some .local → ∃ z t, σ x = some (.str z t) ∧ t ≠ 0 ∧ t < s.toks

variable {mg mb : Str → Option Value} {defs : List DefRec} {hG : Heap} {A : Around} {E : Value → Shared → Prop} {s₀ s s' : Shared} {d n : Nat} {B : Base} {env : Env} {m : ME} {σ : Str → Option Value} {call : CallT}

theorem gone {h : Heap} {b : Addr} {P : Prop} (hn : h.get? b = none) (e : ∃ o, h.get? b = some o) : P := by
  obtain ⟨o, ho⟩ := e
  exact no_some (hn.symm.trans ho)
/-- an object that no name of the block reaches -/
structure Off (B : Base) (env : Env) (m : ME) (σ : Str → Option Value) (b : Addr) : Prop where
  ref : ∀ x, σ x ≠ some (.ref b)
  loc : b ≠ env.locals
  cell : ∀ y, m.kinds.lookup y = some .cell → env.cells.lookup y ≠ some b
  prot : ¬ B.prot b
  hid : ¬ B.hid b
theorem SRel.cellAt (S : SRel prog w mg mb defs hG s₀ B env m σ s) {y : Str} {b : Addr} (hy : m.kinds.lookup y = some .cell) (e : env.cells.lookup y = some b) : B.hid b ∧ ¬ B.prot b := by
  obtain ⟨c, a1, _, a3, a4, _⟩ := S.cells y hy
  obtain rfl := Option.some.inj (a1.symm.trans e)
  exact ⟨a3, a4⟩
theorem SRel.off (S : SRel prog w mg mb defs hG s₀ B env m σ s) {b : Addr} (hn : s.heap.get? b = none) : Off B env m σ b where
  ref := fun x e => gone hn (S.refs x b e).2
  loc := fun e => gone hn (e ▸ S.hidEx _ S.loc.1)
  cell := fun y hy e => gone hn (S.hidEx _ (S.cellAt hy e).1)
  prot := fun h => gone hn (S.protEx b h)
  hid := fun h => gone hn (S.hidEx b h)
theorem SRel.sg (S : SRel prog w mg mb defs hG s₀ B env m σ s) : Sg mg mb defs hG s := S.g0.ext S.x0 S.tp
theorem SRel.e (S : SRel prog w mg mb defs hG s₀ B env m σ s) : ERel prog w env m s where
  names := S.names
  kind := S.kind
  globals := S.globals
  builtins := S.builtins
  ns := by
    obtain ⟨ml, h1, h2⟩ := S.ns
    refine ⟨ml, h1, fun x v hk hv => ?_⟩
    obtain ⟨mv, e, hm⟩ := S.vals x v (.inl hk) hv
    refine ⟨mv, (h2 x hk).trans e, hm, fun ht => ?_⟩
    obtain ⟨z, t, e', h⟩ := S.tok x ht hk
    rw [e] at e'
    exact ⟨z, t, Option.some.inj e', h⟩
  cell := fun x v hk hv => by
    rcases hk with hk | hk
    · obtain ⟨c, hc, hi, _⟩ := S.cells x hk
      obtain ⟨mv, e, hm⟩ := S.vals x v (.inr hk) hv
      exact ⟨c, mv, hc, e ▸ hi, hm⟩
    · exact absurd hk (S.nofree x)
  cells := fun x hk => by obtain ⟨c, hc, _⟩ := S.cells x hk; exact ⟨c, hc⟩

theorem Kept.ext (K : Kept B s) (x : Ext s s') : Kept B s' :=
  ⟨fun b o hb e => x.heap b o (K.obj b o hb e), Nat.le_trans K.gn x.gsz, fun i hi => (x.gens i (Nat.lt_of_lt_of_le hi K.gn)).trans (K.gen i hi)⟩
theorem SRel.ext (S : SRel prog w mg mb defs hG s₀ B env m σ s) (x : Ext s s') : SRel prog w mg mb defs hG s₀ B env m σ s' where
  g0 := S.g0
  tp := Nat.lt_of_lt_of_le S.tp x.toks
  x0 := S.x0.trans x
  pb := S.pb
  kept := S.kept.ext x
  names := S.names
  kind := S.kind
  globals := S.globals
  builtins := S.builtins
  ns := by obtain ⟨ml, h1, h2⟩ := S.ns; exact ⟨ml, h1.keeps x.heap, h2⟩
  nofree := S.nofree
  cells := fun y hk => by obtain ⟨c, a, b, h⟩ := S.cells y hk; exact ⟨c, a, b.keeps x.heap, h⟩
  apart := S.apart
  hidEx := fun b hb => by obtain ⟨o, ho⟩ := S.hidEx b hb; exact ⟨o, x.heap _ _ ho⟩
  protEx := fun b hb => by obtain ⟨o, ho⟩ := S.protEx b hb; exact ⟨o, x.heap _ _ ho⟩
  loc := S.loc
  vals := fun y v hk hv => by obtain ⟨mv, e, h⟩ := S.vals y v hk hv; exact ⟨mv, e, h.ext x⟩
  refs := fun y a e => by obtain ⟨h, o, ho⟩ := S.refs y a e; exact ⟨h, o, x.heap _ _ ho⟩
  own := S.own
  tok := fun y ht hk => by obtain ⟨z, t, e, h, h'⟩ := S.tok y ht hk; exact ⟨z, t, e, h, Nat.lt_of_lt_of_le h' x.toks⟩

theorem put_lookup (x : Str) (v : V) : ∀ (l : List (Str × V)) (y : Str), (put x v l).lookup y = if y = x then some v else l.lookup y
  | [], y => by
    unfold put
    rw [List.lookup_cons]
    by_cases h : y = x
    · subst h; simp
    · have hb : (y == x) = false := beq_eq_false_iff_ne.mpr h
      rw [hb, if_neg h]
  | (z, u) :: r, y => by
    unfold put
    by_cases hz : (z == x) = true
    · have hzx := beq_iff_eq.mp hz
      subst hzx
      rw [if_pos hz, List.lookup_cons, List.lookup_cons]
      by_cases h : y = z
      · subst h; simp
      · have hb : (y == z) = false := beq_eq_false_iff_ne.mpr h
        rw [hb, if_neg h]
    · rw [if_neg hz, List.lookup_cons, List.lookup_cons, put_lookup x v r y]
      by_cases h : y = z
      · subst h
        have : ¬ y = x := fun e => hz (by rw [e]; simp)
        simp [this]
      · have hb : (y == z) = false := beq_eq_false_iff_ne.mpr h
        rw [hb]
theorem mem_unique {x y : Str} {l : List Str} (h : y ∈ unique x l) : y ∈ l ∧ y ≠ x := by
  unfold unique at h
  rw [List.mem_filter] at h
  exact ⟨h.1, by simpa using h.2⟩

/-- an object that the block may change -/
theorem SRel.not_prot_s0 (S : SRel prog w mg mb defs hG s₀ B env m σ s) {a : Addr} (h : ¬ B.prot a) : s₀.heap.get? a = none := by
  cases e : s₀.heap.get? a with
  | none => rfl
  | some o => exact absurd (S.pb a o e) h

theorem hasV_but {h h' : Heap} {a : Addr} {mv : Value} {v : V} (H : HasV prog w h mv v) (hs : ∀ b o, b ≠ a → h.get? b = some o → h'.get? b = some o) (hne : mv ≠ .ref a) : HasV prog w h' mv v :=
  H.mono fun b e o ho => hs b o (fun q => hne (by rw [e, q])) ho

/-- bind a name -/
theorem SRel.store (S : SRel prog w mg mb defs hG s₀ B env m σ s) {x : Str} {v : V} {mv : Value} {own : Bool} (hk : m.kinds.lookup x = some .local ∨ m.kinds.lookup x = some .cell) (hv : HasV prog w s.heap mv v)
    (hr : ∀ a, mv = .ref a → ¬ B.hid a ∧ (∀ y, y ≠ x → σ y ≠ some (.ref a)) ∧ (own = true → ¬ B.prot a))
    {Q : Unit → Shared → Prop} (hQ : ∀ s', SRel prog w mg mb defs hG s₀ B env (m.set x v own) (fun y => if y = x then some mv else σ y) s' → (∃ c, B.hid c ∧ Heap.SameBut c s.heap s'.heap) → Q () s') :
    wpAny (model prog w) A (storeName env x mv) Q E s := by
  have hkk : env.kindOf x = m.kinds.lookup x := by unfold Env.kindOf; rw [S.names]
  have hfr : ∀ a, mv = .ref a → ∃ o, s.heap.get? a = some o := fun a e => (e ▸ hv).there
  -- the common part
  have fin : ∀ (c : Addr) (h' : Heap) (k : Nat), s.toks ≤ k → Heap.SameBut c s.heap h' → B.hid c → ¬ B.prot c → (∃ o, h'.get? c = some o) →
      (∃ ml, h'.Ns env.locals ml ∧ ∀ y, m.kinds.lookup y = some .local → ml y = if y = x then some mv else σ y) →
      (∀ y, m.kinds.lookup y = some .cell → ∃ c, env.cells.lookup y = some c ∧ h'.IsCell c (if y = x then some mv else σ y) ∧ B.hid c ∧ ¬ B.prot c ∧ c ≠ env.locals) →
      SRel prog w mg mb defs hG s₀ B env (m.set x v own) (fun y => if y = x then some mv else σ y) { s with heap := h', toks := k } := by
    intro c h' k hle hs hh hp hex hns hcs
    have keep : ∀ b o, b ≠ c → s.heap.get? b = some o → h'.get? b = some o := fun b o hb e => hs.extBut b o hb e
    have here : ∀ b, (∃ o, s.heap.get? b = some o) → ∃ o, h'.get? b = some o := fun b ⟨o, ho⟩ => by
      by_cases hb : b = c
      · subst hb; exact hex
      · exact ⟨o, keep b o hb ho⟩
    exact {
      g0 := S.g0
      tp := Nat.lt_of_lt_of_le S.tp hle
      x0 := ((ExtX.ext (X := fun b => b = c) S.x0).trans (ExtX.of (s := s) (h' := h') (k := k) keep hle)).toExt fun b o e hb => by subst hb; exact hp (S.pb _ _ e)
      pb := S.pb
      kept := ⟨fun b o hb e => keep b o (fun q => hp (q ▸ hb)) (S.kept.obj b o hb e), S.kept.gn, S.kept.gen⟩
      names := S.names
      kind := S.kind
      globals := S.globals
      builtins := S.builtins
      ns := hns
      nofree := S.nofree
      cells := hcs
      apart := S.apart
      hidEx := fun b hb => here b (S.hidEx b hb)
      protEx := fun b hb => here b (S.protEx b hb)
      loc := S.loc
      vals := fun y u hy hu => by
        change (put x v m.val).lookup y = some u at hu
        rw [put_lookup] at hu
        by_cases hyx : y = x
        · rw [if_pos hyx] at hu ⊢
          obtain rfl := Option.some.inj hu
          exact ⟨mv, rfl, hasV_but hv keep fun e => (hr c e).1 hh⟩
        · rw [if_neg hyx] at hu ⊢
          obtain ⟨mu, e, h⟩ := S.vals y u hy hu
          exact ⟨mu, e, hasV_but h keep fun q => (S.refs y c (q ▸ e)).1 hh⟩
      refs := fun y a e => by
        by_cases hyx : y = x
        · rw [if_pos hyx] at e
          have e' := Option.some.inj e
          exact ⟨(hr a e').1, here a (hfr a e')⟩
        · rw [if_neg hyx] at e
          obtain ⟨h1, h2⟩ := S.refs y a e
          exact ⟨h1, here a h2⟩
      own := fun y a hy e => by
        by_cases hyx : y = x
        · subst hyx
          rw [if_pos rfl] at e
          have e' := Option.some.inj e
          refine ⟨(hr a e').2.2 ?_, fun z hz => by rw [if_neg hz]; exact (hr a e').2.1 z hz⟩
          cases own with
          | true => rfl
          | false => exact absurd rfl (mem_unique hy).2
        · rw [if_neg hyx] at e
          have hy' : y ∈ m.own := by
            change y ∈ (if own = true then x :: unique x m.own else unique x m.own) at hy
            split at hy
            · rcases List.mem_cons.mp hy with h | h
              · exact absurd h hyx
              · exact (mem_unique h).1
            · exact (mem_unique hy).1
          obtain ⟨h1, h2⟩ := S.own y a hy' e
          refine ⟨h1, fun z hz => ?_⟩
          by_cases hzx : z = x
          · rw [if_pos hzx]
            intro q
            exact (hr a (Option.some.inj q)).2.1 y hyx e
          · rw [if_neg hzx]; exact h2 z hz
      tok := fun y hy hky => by
        obtain ⟨h1, h2⟩ := mem_unique hy
        rw [if_neg h2]
        obtain ⟨z, t, e, h, h'⟩ := S.tok y h1 hky
        exact ⟨z, t, e, h, Nat.lt_of_lt_of_le h' hle⟩ }
  rcases hk with hk | hk
  · obtain ⟨ml, hn, hml⟩ := S.ns
    refine wpAny_storeName_local (hkk.trans hk) hn (fun h' hn' hs => hQ _ (fin env.locals h' _ (Nat.le_succ _) hs S.loc.1 S.loc.2 ?_ ?_ ?_) ⟨_, S.loc.1, hs⟩) (by simp [S.kind])
    · obtain ⟨o, es, ep, ho, _⟩ := hn'; exact ⟨o, ho⟩
    · refine ⟨_, hn', fun y hy => ?_⟩
      by_cases hyx : y = x
      · simp [hyx]
      · simp [hyx, hml y hy]
    · intro y hy
      obtain ⟨c, a1, a2, a3, a4, a5⟩ := S.cells y hy
      have hyx : y ≠ x := fun e => no_kind hk (e ▸ hy) (by decide)
      rw [if_neg hyx]
      exact ⟨c, a1, a2.sameBut hs a5, a3, a4, a5⟩
  · obtain ⟨c, a1, a2, a3, a4, a5⟩ := S.cells x hk
    refine wpAny_storeName_cell S.kind (hkk.trans hk) a1 a2 (fun h' hc hs => hQ _ (fin c h' s.toks (Nat.le_refl _) hs a3 a4 ?_ ?_ ?_) ⟨_, a3, hs⟩)
    · obtain ⟨o, ho, _⟩ := hc; exact ⟨o, ho⟩
    · obtain ⟨ml, hn, hml⟩ := S.ns
      refine ⟨ml, hn.at' fun o e => hs.extBut _ o (Ne.symm a5) e, fun y hy => ?_⟩
      have hyx : y ≠ x := fun e => no_kind hk (e ▸ hy) (by decide)
      rw [if_neg hyx, hml y hy]
    · intro y hy
      by_cases hyx : y = x
      · subst hyx
        rw [if_pos rfl]
        exact ⟨c, a1, hc, a3, a4, a5⟩
      · rw [if_neg hyx]
        obtain ⟨c', b1, b2, b3, b4, b5⟩ := S.cells y hy
        refine ⟨c', b1, b2.sameBut hs (fun e => ?_), b3, b4, b5⟩
        subst e
        exact S.apart x y c' (Ne.symm hyx) hk hy a1 b1

/-- change an object of one's own -/
theorem SRel.mutate (S : SRel prog w mg mb defs hG s₀ B env m σ s) {x : Str} {a : Addr} {v : V} {h' : Heap} {k : Nat} (hx : x ∈ m.own) (hk : m.kinds.lookup x = some .local) (hσ : σ x = some (.ref a))
    (hs : Heap.SameBut a s.heap h') (hle : s.toks ≤ k) (hv : HasV prog w h' (.ref a) v) : SRel prog w mg mb defs hG s₀ B env (m.set x v true) σ { s with heap := h', toks := k } := by
  obtain ⟨hp, halone⟩ := S.own x a hx hσ
  obtain ⟨hnh, _⟩ := S.refs x a hσ
  have keep : ∀ b o, b ≠ a → s.heap.get? b = some o → h'.get? b = some o := fun b o hb e => hs.extBut b o hb e
  have here : ∀ b, (∃ o, s.heap.get? b = some o) → ∃ o, h'.get? b = some o := fun b ⟨o, ho⟩ => by
    by_cases hb : b = a
    · subst hb; exact hv.there
    · exact ⟨o, keep b o hb ho⟩
  have hal : env.locals ≠ a := fun e => hnh (e ▸ S.loc.1)
  exact {
    g0 := S.g0
    tp := Nat.lt_of_lt_of_le S.tp hle
    x0 := ((ExtX.ext (X := fun b => b = a) S.x0).trans (ExtX.of (s := s) (h' := h') (k := k) keep hle)).toExt fun b o e hb => by subst hb; exact hp (S.pb _ _ e)
    pb := S.pb
    kept := ⟨fun b o hb e => keep b o (fun q => hp (q ▸ hb)) (S.kept.obj b o hb e), S.kept.gn, S.kept.gen⟩
    names := S.names
    kind := S.kind
    globals := S.globals
    builtins := S.builtins
    ns := by obtain ⟨ml, h1, h2⟩ := S.ns; exact ⟨ml, h1.at' fun o e => keep _ o hal e, h2⟩
    nofree := S.nofree
    cells := fun y hy => by obtain ⟨c, a1, a2, a3, a4⟩ := S.cells y hy; exact ⟨c, a1, a2.sameBut hs fun e => hnh (e ▸ a3), a3, a4⟩
    apart := S.apart
    hidEx := fun b hb => here b (S.hidEx b hb)
    protEx := fun b hb => here b (S.protEx b hb)
    loc := S.loc
    vals := fun y u hy hu => by
      change (put x v m.val).lookup y = some u at hu
      rw [put_lookup] at hu
      by_cases hyx : y = x
      · rw [if_pos hyx] at hu
        obtain rfl := Option.some.inj hu
        subst hyx
        exact ⟨_, hσ, hv⟩
      · rw [if_neg hyx] at hu
        obtain ⟨mu, e, h⟩ := S.vals y u hy hu
        exact ⟨mu, e, hasV_but h keep fun q => halone y hyx (q ▸ e)⟩
    refs := fun y b e => by obtain ⟨h1, h2⟩ := S.refs y b e; exact ⟨h1, here b h2⟩
    own := fun y b hy e => by
      have hy' : y ∈ m.own := by
        change y ∈ x :: unique x m.own at hy
        rcases List.mem_cons.mp hy with h | h
        · exact h ▸ hx
        · exact (mem_unique h).1
      exact S.own y b hy' e
    tok := fun y hy hky => by obtain ⟨z, t, e, h, h'⟩ := S.tok y (mem_unique hy).1 hky; exact ⟨z, t, e, h, Nat.lt_of_lt_of_le h' hle⟩ }

/-- another base -/
theorem SRel.base (S : SRel prog w mg mb defs hG s₀ B env m σ s) {B' : Base} (hkept : Kept B' s) (pb : ∀ b o, s₀.heap.get? b = some o → B'.prot b)
    (hcell : ∀ c, (c = env.locals ∨ ∃ x, m.kinds.lookup x = some .cell ∧ env.cells.lookup x = some c) → B'.hid c ∧ ¬ B'.prot c) (hidEx : ∀ b, B'.hid b → ∃ o, s.heap.get? b = some o) (protEx : ∀ b, B'.prot b → ∃ o, s.heap.get? b = some o)
    (refs : ∀ x a, σ x = some (.ref a) → ¬ B'.hid a) (own : ∀ x a, x ∈ m.own → σ x = some (.ref a) → ¬ B'.prot a) : SRel prog w mg mb defs hG s₀ B' env m σ s where
  g0 := S.g0
  tp := S.tp
  x0 := S.x0
  pb := pb
  kept := hkept
  names := S.names
  kind := S.kind
  globals := S.globals
  builtins := S.builtins
  ns := S.ns
  nofree := S.nofree
  cells := fun y hy => by obtain ⟨c, a1, a2, a3, a4, a5⟩ := S.cells y hy; exact ⟨c, a1, a2, (hcell c (.inr ⟨y, hy, a1⟩)).1, (hcell c (.inr ⟨y, hy, a1⟩)).2, a5⟩
  apart := S.apart
  hidEx := hidEx
  protEx := protEx
  loc := hcell _ (.inl rfl)
  vals := S.vals
  refs := fun y b e => ⟨refs y b e, (S.refs y b e).2⟩
  own := fun y b hy e => ⟨own y b hy e, (S.own y b hy e).2⟩
  tok := S.tok

/-- a step that changes objects that no name reaches -/
theorem SRel.outside (S : SRel prog w mg mb defs hG s₀ B env m σ s) {X : Addr → Prop} {r : Heap} {gn : Nat} {gr : Array GenState} (x0 : Ext s₀ s') (hkeep : ∀ b o, ¬ X b → s.heap.get? b = some o → s'.heap.get? b = some o) (htok : s.toks ≤ s'.toks)
    (hXr : ∀ b, X b → ∀ x, σ x ≠ some (.ref b)) (hXc : ∀ b, X b → b ≠ env.locals ∧ ∀ y, m.kinds.lookup y = some .cell → env.cells.lookup y ≠ some b) (hXe : ∀ b, X b → (B.hid b ∨ B.prot b) → ∃ o, s'.heap.get? b = some o)
    (hkept : Kept { B with ref := r, gn := gn, gref := gr } s') : SRel prog w mg mb defs hG s₀ { B with ref := r, gn := gn, gref := gr } env m σ s' := by
  have here : ∀ b, (B.hid b ∨ B.prot b ∨ ∃ x, σ x = some (.ref b)) → (∃ o, s.heap.get? b = some o) → ∃ o, s'.heap.get? b = some o := fun b hb ⟨o, ho⟩ => by
    by_cases q : X b
    · rcases hb with hb | hb | ⟨x, hx⟩
      · exact hXe b q (.inl hb)
      · exact hXe b q (.inr hb)
      · exact absurd hx (hXr b q x)
    · exact ⟨o, hkeep b o q ho⟩
  have hl : ¬ X env.locals := fun h => (hXc _ h).1 rfl
  exact {
    g0 := S.g0
    tp := Nat.lt_of_lt_of_le S.tp htok
    x0 := x0
    pb := S.pb
    kept := hkept
    names := S.names
    kind := S.kind
    globals := S.globals
    builtins := S.builtins
    ns := by obtain ⟨ml, h1, h2⟩ := S.ns; exact ⟨ml, h1.at' fun o e => hkeep _ o hl e, h2⟩
    nofree := S.nofree
    cells := fun y hy => by obtain ⟨c, a1, a2, a3, a4, a5⟩ := S.cells y hy; exact ⟨c, a1, (by obtain ⟨o, ho, hd⟩ := a2; exact ⟨o, hkeep _ o (fun h => (hXc c h).2 y hy a1) ho, hd⟩), a3, a4, a5⟩
    apart := S.apart
    hidEx := fun b hb => here b (.inl hb) (S.hidEx b hb)
    protEx := fun b hb => here b (.inr (.inl hb)) (S.protEx b hb)
    loc := S.loc
    vals := fun y u hy hu => by obtain ⟨mu, e, h⟩ := S.vals y u hy hu; exact ⟨mu, e, h.mono fun a ea o ho => hkeep a o (fun q => hXr a q y (ea ▸ e)) ho⟩
    refs := fun y b e => by obtain ⟨h1, h2⟩ := S.refs y b e; exact ⟨h1, here b (.inr (.inr ⟨y, e⟩)) h2⟩
    own := S.own
    tok := fun y hy hky => by obtain ⟨z, t, e, h, h'⟩ := S.tok y hy hky; exact ⟨z, t, e, h, Nat.lt_of_lt_of_le h' htok⟩ }

theorem SRel.ownSub (S : SRel prog w mg mb defs hG s₀ B env m σ s) {l : List Str} (h : ∀ x, x ∈ l → x ∈ m.own) : SRel prog w mg mb defs hG s₀ B env { m with own := l } σ s where
  g0 := S.g0
  tp := S.tp
  x0 := S.x0
  pb := S.pb
  kept := S.kept
  names := S.names
  kind := S.kind
  globals := S.globals
  builtins := S.builtins
  ns := S.ns
  nofree := S.nofree
  cells := S.cells
  apart := S.apart
  hidEx := S.hidEx
  protEx := S.protEx
  loc := S.loc
  vals := S.vals
  refs := S.refs
  own := fun y b hy e => S.own y b (h y hy) e
  tok := S.tok
end Mine
end
section
open PySem PySem.W PyProof.Rows PySem.Calls Builtin.Str PySem.Spec
namespace Mine
variable {prog : Program} {w : World}

structure Adv (wr : List Addr) (gp : Nat → Prop) (s s' : Shared) : Prop where
  heap : ∀ b o, b ∉ wr → s.heap.get? b = some o → s'.heap.get? b = some o
  gsz : s.gens.size ≤ s'.gens.size
  gens : ∀ i, i < s.gens.size → ¬ gp i → s'.gens[i]? = s.gens[i]?
  bare : AllBare s.gens → AllBare s'.gens
  os : s'.os = s.os
  toks : s.toks ≤ s'.toks

/-- an iterator that hands out values -/
structure GSrc (prog : Program) (w : World) (mg mb : Str → Option Value) (defs : List DefRec) (hG : Heap) (A : Around) (I : Addr) (items : List V) (ended : Bool) (ro : List Addr) (gp : Nat → Prop) (St : List Addr → Nat → Shared → Prop) : Prop where
  frame : ∀ wr i s s', St wr i s → (∀ b, b ∈ wr ∨ b ∈ ro → ∀ o, s.heap.get? b = some o → s'.heap.get? b = some o) → (∀ j, gp j → s'.gens[j]? = s.gens[j]?) → s.gens.size ≤ s'.gens.size → St wr i s'
  exw : ∀ wr i s, St wr i s → ∀ b, b ∈ wr ∨ b ∈ ro → ∃ o, s.heap.get? b = some o
  exg : ∀ wr i s, St wr i s → ∀ j, gp j → j < s.gens.size
  next : ∀ wr i s Q E, St wr i s → Sg mg mb defs hG s → ∀ h : i < items.length, (∀ mv s' wr', Adv wr gp s s' → HasV prog w s'.heap mv items[i] → St wr' (i + 1) s' → (∀ b ∈ wr', b ∈ wr ∨ s.heap.get? b = none) → (∀ b ∈ wr, b ∈ wr') → Q (some mv) s') → wpAny (model prog w) A (pyNext (.ref I)) Q E s
  done : ended = true → ∀ wr s Q E, St wr items.length s → Sg mg mb defs hG s → (∀ s', Adv wr gp s s' → Q none s') → wpAny (model prog w) A (pyNext (.ref I)) Q E s
  go : (∃ (j : Nat) (l : List Atm), items[j]? = some (V.tup l)) → ∀ wr i s elts k p mv Q E, St wr i s → Q () s → wpAny (model prog w) A (letOwnedTupleGo (.Tuple elts k p) (.ref I) mv) Q E s

variable {mg mb : Str → Option Value} {defs : List DefRec} {hG : Heap} {A : Around} {E : Value → Shared → Prop} {s₀ s s' : Shared} {d n : Nat} {B : Base} {env : Env} {m : ME} {σ : Str → Option Value} {call : CallT} {gen : GenT}

theorem Src.toG {I : Addr} {items : List V} {fp : List Addr} {P : Nat → Value → Prop} {St : Nat → Heap → Prop} (S : Src prog w A I items fp P St) :
    GSrc prog w mg mb defs hG A I items true fp (fun _ => False) (fun wr i s => wr = [I] ∧ St i s.heap) where
  frame := fun wr i s s' h hk _ _ => ⟨h.1, S.W.frame _ _ _ h.2 fun b hb o e => hk b (.inr hb) o e⟩
  exw := fun wr i s h b hb => S.ex i _ h.2 b (by
    rcases hb with hb | hb
    · rw [h.1] at hb; exact S.W.sub _ hb
    · exact hb)
  exg := fun _ _ _ _ _ h => h.elim
  next := fun wr i s Q E h G hi hQ => by
    obtain ⟨rfl, h⟩ := h
    refine wpAny_with_toks (Nat.le_refl s.toks) (S.W.item i s _ _ hi h fun v h' tk hP hst hk htk => ?_)
    obtain ⟨a, ha, hav⟩ := S.P i v hi hP
    have hia : items[i] = .at a := by
      have := List.getElem?_eq_getElem hi
      rw [ha] at this
      exact (Option.some.inj this).symm
    refine hQ v _ [I] ⟨hk, Nat.le_refl _, fun _ _ _ => rfl, id, rfl, htk⟩ (by rw [hia]; exact hav) ⟨rfl, hst⟩ (fun b hb => .inl hb) (fun b hb => hb)
  done := fun _ wr s Q E h G hQ => by
    obtain ⟨rfl, h⟩ := h
    exact wpAny_with_toks (Nat.le_refl s.toks) (S.W.done s _ _ h fun h' tk hk htk => hQ _ ⟨hk, Nat.le_refl _, fun _ _ _ => rfl, id, rfl, htk⟩)
  go := fun ⟨j, l, e⟩ => by
    obtain ⟨a, ha⟩ := S.atoms j _ e
    exact V.noConfusion ha

noncomputable def FlowIs (prog : Program) (w : World) (s₀ : Shared) (h : Heap) : Fl → Flow → Prop
  | .next, .next => True
  | .brk, .brk => True
  | .ret v, .ret mv => HasV prog w h mv v ∧ Newly s₀ mv
  | _, _ => False

noncomputable def ExsOk (prog : Program) (w : World) (mg mb : Str → Option Value) (defs : List DefRec) (hG : Heap) (A : Around) (call : CallT) (gen : GenT) (n : Nat) : Prop :=
  ∀ sts m f m' env σ B s₀ s Q E, exs call gen n sts m = some (f, m') → SRel prog w mg mb defs hG s₀ B env m σ s →
    (∀ fl s' σ', FlowIs prog w s₀ s'.heap f fl → SRel prog w mg mb defs hG s₀ B env m' σ' s' → Q fl s') → wpAny (model prog w) A (execs sts env) Q E s
noncomputable def ExOk (prog : Program) (w : World) (mg mb : Str → Option Value) (defs : List DefRec) (hG : Heap) (A : Around) (call : CallT) (gen : GenT) (n : Nat) : Prop :=
  ∀ st m f m' env σ B s₀ s Q E, ex call gen n st m = some (f, m') → SRel prog w mg mb defs hG s₀ B env m σ s →
    (∀ fl s' σ', FlowIs prog w s₀ s'.heap f fl → SRel prog w mg mb defs hG s₀ B env m' σ' s' → Q fl s') → wpAny (model prog w) A (exec st env) Q E s

noncomputable abbrev turnF (call : CallT) (gen : GenT) (n : Nat) (tgt : Expr) (body : List Stmt) : V → ME → Option (Fl × ME) :=
  fun v m => (bindTgt tgt v m).bind fun m' => exs call gen n body m'

noncomputable def Bx (B : Base) (wr ro : List Addr) (s : Shared) : Base :=
  { prot := fun b => B.prot b ∨ b ∈ wr ∨ b ∈ ro, hid := fun b => B.hid b ∨ b ∈ wr, ref := s.heap, gn := s.gens.size, gref := s.gens }

theorem Are.two {vs : List Value} {a b : Atm} (h : Are vs [a, b]) : ∃ x y, vs = [x, y] ∧ AtmIs x a ∧ AtmIs y b := by
  cases h with
  | cons h1 hr => cases hr with
    | cons h2 hr => cases hr; exact ⟨_, _, rfl, h1, h2⟩
theorem atm_noRef {x : Value} {a : Atm} (h : AtmIs x a) (b : Addr) : x ≠ .ref b := by
  intro e
  subst e
  cases a with
  | none => exact Value.noConfusion h
  | bool => exact Value.noConfusion h
  | int => exact h.elim fun _ e => Value.noConfusion e
  | str => exact h.elim fun _ e => Value.noConfusion e
/-- bind the target of a loop -/
theorem bindTgt_ok (S : SRel prog w mg mb defs hG s₀ B env m σ s) (hh : A.handled = none) {tgt : Expr} {v : V} {m' : ME} (h : bindTgt tgt v m = some m') {mv : Value} (hv : HasV prog w s.heap mv v)
    {Q : Unit → Shared → Prop} (hQ : ∀ s' σ', SRel prog w mg mb defs hG s₀ B env m' σ' s' → Q () s') : wpAny (model prog w) A (assign tgt env mv) Q E s := by
  refine elimK h (fun q hq h => bindK h fun a ha h => iteK h fun hk hz => ?_) fun _ h => bindK h fun q hq h => bindK h fun e2 he h => bindK h fun x hx h => bindK h fun y hy h => bindK h fun ab hab h => iteK h fun hk hz => ?_
  · rw [asAtm_eq ha] at hv
    rw [asName_eq hq]
    rw [← Option.some.inj hz] at hQ
    exact wpAny_assign_Name (S.store (orK hk (fun h => .inl (beq_iff_eq.mp h)) fun h => .inr (beq_iff_eq.mp h)) hv (fun b e => absurd e (hv.noRef b)) fun s' S' _ => hQ _ _ S')
  · refine bindK hab fun vl hvl hab => andK hk fun hkx hky => ?_
    rw [asTupV_eq hvl, two_eq hab] at hv
    rw [asTup_eq hq, two_eq he, asName_eq hx, asName_eq hy]
    rw [← Option.some.inj hz] at hQ
    obtain ⟨t, vs, rfl, ht, hr⟩ := hv
    obtain ⟨xv, yv, hvs, hxv, hyv⟩ := hr.two
    have hsz : vs.size = 2 := hr.size
    refine wpAny_assign_Tuple hh ht (by rw [hsz]; rfl) rfl fun h' he => ?_
    have S' := S.ext (s' := { s with heap := h' }) ⟨fun b o e => he b o (fun q => gone (get_size s.heap) ⟨o, q ▸ e⟩) e, Nat.le_refl _, fun _ _ => rfl, id, rfl, Nat.le_refl _⟩
    rw [hvs]
    show wpAny (model prog w) A (do holding [yv] (assign (.Name x.x x.p) env xv); do holding [] (assign (.Name y.x y.p) env yv); pure ()) Q E _
    refine wpAny_bind (wpAny_holding (wpAny_assign_Name (S'.store (v := .at ab.1) (own := false) (.inl (beq_iff_eq.mp hkx)) hxv (fun b e => absurd e (atm_noRef hxv b)) fun s₂ S₂ _ => ?_)))
    exact wpAny_bind (wpAny_holding (wpAny_assign_Name (S₂.store (v := .at ab.2) (own := false) (.inl (beq_iff_eq.mp hky)) hyv (fun b e => absurd e (atm_noRef hyv b)) fun s₃ S₃ _ => wpAny_pure (hQ _ _ S₃))))

theorem SRel.in_loop (S : SRel prog w mg mb defs hG s₀ B env m σ s) {wr ro : List Addr} (hwr : ∀ b ∈ wr, (∀ x, σ x ≠ some (.ref b)) ∧ b ≠ env.locals ∧ ∀ y, m.kinds.lookup y = some .cell → env.cells.lookup y ≠ some b)
    (hro : ∀ b ∈ ro, b ∈ wr ∨ (b ≠ env.locals ∧ (∀ y, m.kinds.lookup y = some .cell → env.cells.lookup y ≠ some b) ∧ ∀ x, x ∈ m.own → σ x ≠ some (.ref b))) (hex : ∀ b, b ∈ wr ∨ b ∈ ro → ∃ o, s.heap.get? b = some o) :
    SRel prog w mg mb defs hG s₀ (Bx B wr ro s) env m σ s := by
  have hc : ∀ c, (c = env.locals ∨ ∃ x, m.kinds.lookup x = some .cell ∧ env.cells.lookup x = some c) → B.hid c ∧ ¬ B.prot c ∧ c ∉ wr ∧ c ∉ ro := by
    intro c hc
    have hw : c ∉ wr := fun h => by
      obtain ⟨h1, h2, h3⟩ := hwr c h
      rcases hc with e | ⟨x, hx, e⟩
      · exact h2 e
      · exact h3 x hx e
    refine ⟨?_, ?_, hw, fun h => ?_⟩
    · rcases hc with e | ⟨x, hx, e⟩
      · exact e ▸ S.loc.1
      · exact (S.cellAt hx e).1
    · rcases hc with e | ⟨x, hx, e⟩
      · exact e ▸ S.loc.2
      · exact (S.cellAt hx e).2
    · rcases hro c h with h | ⟨h2, h3, _⟩
      · exact hw h
      · rcases hc with e | ⟨x, hx, e⟩
        · exact h2 e
        · exact h3 x hx e
  refine S.base ⟨fun b o _ e => e, Nat.le_refl _, fun _ _ => rfl⟩ (fun b o e => .inl (S.pb b o e)) (fun c h => ?_) (fun b h => ?_) (fun b h => ?_) (fun x a e h => ?_) (fun x a hx e h => ?_)
  · obtain ⟨h1, h2, h3, h4⟩ := hc c h
    exact ⟨.inl h1, fun h => by rcases h with h | h | h <;> contradiction⟩
  · rcases h with h | h
    · exact S.hidEx b h
    · exact hex b (.inl h)
  · rcases h with h | h
    · exact S.protEx b h
    · exact hex b h
  · rcases h with h | h
    · exact (S.refs x a e).1 h
    · exact (hwr a h).1 x e
  · rcases h with h | h | h
    · exact (S.own x a hx e).1 h
    · exact (hwr a h).1 x e
    · rcases hro a h with h | ⟨_, _, h⟩
      · exact (hwr a h).1 x e
      · exact h x hx e

structure Inv (prog : Program) (w : World) (mg mb : Str → Option Value) (defs : List DefRec) (hG : Heap) (s₀ : Shared) (B : Base) (env : Env) (kinds : List (Str × NameKind)) (wr ro : List Addr) (m : ME) (σ : Str → Option Value) (s : Shared) : Prop where
  S : SRel prog w mg mb defs hG s₀ (Bx B wr ro s) env m σ s
  K : Kept B s
  kinds : m.kinds = kinds
  fresh : ∀ b ∈ wr, s₀.heap.get? b = none ∧ ¬ B.prot b ∧ ¬ B.hid b

/-- the head of a loop -/
inductive FInv (prog : Program) (w : World) (mg mb : Str → Option Value) (defs : List DefRec) (hG : Heap) (s₀ : Shared) (B : Base) (env : Env) (kinds : List (Str × NameKind)) (ro : List Addr) (St : List Addr → Nat → Shared → Prop) (turn : V → ME → Option (Fl × ME)) (items : List V) (ended : Bool) (r : Fl × ME) (k : Nat) (s : Shared) : Prop
  | mk (i : Nat) (m : ME) (σ : Str → Option Value) (wr : List Addr) (J : Inv prog w mg mb defs hG s₀ B env kinds wr ro m σ s) (st : St wr i s) (rest : forM turn (items.drop i) ended m = some r) (le : i ≤ items.length) (fuel : k = items.length + 1 - i)
theorem for_loop (X : ExsOk prog w mg mb defs hG A call gen n) (hh : A.handled = none) {I : Addr} {items : List V} {ended : Bool} {ro : List Addr} {gp : Nat → Prop} {St : List Addr → Nat → Shared → Prop} (G : GSrc prog w mg mb defs hG A I items ended ro gp St) {tgt : Expr} {body : List Stmt}
    (hgp : ∀ j, gp j → s₀.gens.size ≤ j ∧ B.gn ≤ j) (hloc : B.hid env.locals ∧ ¬ B.prot env.locals) (hcells : ∀ x c, m.kinds.lookup x = some .cell → env.cells.lookup x = some c → B.hid c ∧ ¬ B.prot c) (pb : ∀ b o, s₀.heap.get? b = some o → B.prot b)
    {f : Fl} {m' : ME} {R : Result → Shared → Prop} (hR : ∀ fl s' σ', FlowIs prog w s₀ s'.heap f fl → SRel prog w mg mb defs hG s₀ B env m' σ' s' → R (.ok fl) s')
    {wr : List Addr} (J : Inv prog w mg mb defs hG s₀ B env m.kinds wr ro m σ s) (hst : St wr 0 s) (h : forM (turnF call gen n tgt body) items ended m = some (f, m')) :
    codeAny (model prog w) A (.forLoop tgt (.ref I) body [] env) R s := by
  -- out of the loop
  have out : ∀ {wr : List Addr} {m₁ : ME} {σ : Str → Option Value} {s : Shared}, Inv prog w mg mb defs hG s₀ B env m.kinds wr ro m₁ σ s → SRel prog w mg mb defs hG s₀ B env m₁ σ s := by
    intro wr m₁ σ s J
    refine J.S.base J.K pb (fun c h => ?_) (fun b h => J.S.hidEx b (.inl h)) (fun b h => J.S.protEx b (.inl h)) (fun x a e h => (J.S.refs x a e).1 (.inl h)) (fun x a hx e h => (J.S.own x a hx e).1 (.inl h))
    rcases h with e | ⟨x, hx, e⟩
    · exact e ▸ hloc
    · exact hcells x c (J.kinds ▸ hx) e
  refine codeAny_forLoop_any (FInv prog w mg mb defs hG s₀ B env m.kinds ro St (turnF call gen n tgt body) items ended (f, m')) ?_ (items.length + 1)
    ⟨0, m, σ, wr, J, hst, h, Nat.zero_le _, rfl⟩
  rintro k s ⟨i, m₁, σ, wr, J, hst, h, hi, rfl⟩
  have hsg := J.S.sg
  -- after the iterator's step
  have gensK : ∀ {s' : Shared}, Adv wr gp s s' → Ext s₀ s' := fun {s'} adv =>
    ⟨fun b o e => adv.heap b o (fun hb => gone (J.fresh b hb).1 ⟨o, e⟩) (J.S.x0.heap b o e), Nat.le_trans J.S.x0.gsz adv.gsz,
      fun j hj => (adv.gens j (Nat.lt_of_lt_of_le hj J.S.x0.gsz) (fun hg => absurd hj (Nat.not_lt.mpr (hgp j hg).1))).trans (J.S.x0.gens j hj), fun hb => adv.bare (J.S.x0.bare hb), adv.os.trans J.S.x0.os, Nat.le_trans J.S.x0.toks adv.toks⟩
  have keptK : ∀ {s' : Shared}, Adv wr gp s s' → Kept B s' := fun {s'} adv =>
    ⟨fun b o hb e => adv.heap b o (fun hw => (J.fresh b hw).2.1 hb) (J.K.obj b o hb e), Nat.le_trans J.K.gn adv.gsz,
      fun j hj => (adv.gens j (Nat.lt_of_lt_of_le hj J.K.gn) (fun hg => absurd hj (Nat.not_lt.mpr (hgp j hg).2))).trans (J.K.gen j hj)⟩
  have hXr : ∀ b, b ∈ wr → ∀ x, σ x ≠ some (.ref b) := fun b hb x e => (J.S.refs x b e).1 (.inr hb)
  have hXc : ∀ b, b ∈ wr → b ≠ env.locals ∧ ∀ y, m₁.kinds.lookup y = some .cell → env.cells.lookup y ≠ some b := fun b hb =>
    ⟨fun e => J.S.loc.2 (.inr (.inl (e ▸ hb))), fun y hy e => (J.S.cellAt hy e).2 (.inr (.inl hb))⟩
  by_cases hlt : i < items.length
  · have hdrop : items.drop i = items[i] :: items.drop (i + 1) := List.drop_eq_getElem_cons hlt
    rw [hdrop] at h
    refine G.next wr i s _ _ hst hsg hlt fun mv s' wr' adv hmv hst' hnew hsub => ?_
    have S1 : SRel prog w mg mb defs hG s₀ (Bx B wr ro s') env m₁ σ s' :=
      J.S.outside (X := fun b => b ∈ wr) (gensK adv) (fun b o hb e => adv.heap b o hb e) adv.toks hXr hXc (fun b hb _ => G.exw _ _ _ hst' b (.inl (hsub b hb))) ⟨fun b o _ e => e, Nat.le_refl _, fun _ _ => rfl⟩
    have S1' := out (m₁ := m₁) (wr := wr) ⟨S1, keptK adv, J.kinds, J.fresh⟩
    have hnew' : ∀ b ∈ wr', b ∉ wr → s.heap.get? b = none := fun b hb hw => (hnew b hb).resolve_left hw
    have S2 : SRel prog w mg mb defs hG s₀ (Bx B wr' ro s') env m₁ σ s' := by
      refine S1'.in_loop (fun b hb => ?_) (fun b hb => ?_) (fun b hb => G.exw _ _ _ hst' b hb)
      · by_cases hw : b ∈ wr
        · exact ⟨hXr b hw, hXc b hw⟩
        · have hn := hnew' b hb hw
          have o := J.S.off hn
          exact ⟨o.ref, o.loc, o.cell⟩
      · right
        refine ⟨fun e => J.S.loc.2 (.inr (.inr (e ▸ hb))), fun y hy e => (J.S.cellAt hy e).2 (.inr (.inr hb)), fun x hx e => (J.S.own x b hx e).1 (.inr (.inr hb))⟩
    have fresh' : ∀ b ∈ wr', s₀.heap.get? b = none ∧ ¬ B.prot b ∧ ¬ B.hid b := fun b hb => by
      by_cases hw : b ∈ wr
      · exact J.fresh b hw
      · have hn := hnew' b hb hw
        exact ⟨J.S.x0.none hn, fun hp => gone hn (J.S.protEx b (.inl hp)), fun hp => gone hn (J.S.hidEx b (.inl hp))⟩
    -- the target and the body
    refine bindK h fun r ht hk => bindK ht fun m₂ hb hx => ?_
    have go : ∀ (Q : Unit → Shared → Prop) E, Q () s' → wpAny (model prog w) A (letOwnedTupleGo tgt (.ref I) mv) Q E s' := by
      intro Q E hq
      refine elimK hb (fun q hq' _ => ?_) fun _ hb => bindK hb fun q hq' hb => bindK hb fun _ _ hb => bindK hb fun _ _ hb => bindK hb fun _ _ hb => bindK hb fun ab hab _ => bindK hab fun l hl _ => ?_
      · rw [asName_eq hq']; exact wpAny_pure hq
      · rw [asTup_eq hq']
        exact G.go ⟨i, l, (List.getElem?_eq_getElem hlt).trans (congrArg some (asTupV_eq hl))⟩ _ _ _ _ _ _ _ _ _ hst' hq
    refine go _ _ (bindTgt_ok S2 hh hb hmv fun s₃ σ₃ S₃ => ?_)
    obtain ⟨f₁, m₃⟩ := r
    refine X _ _ _ _ _ _ _ _ _ _ _ hx S₃ fun fl s₄ σ₄ hfl S₄ => ?_
    have J₄ : Inv prog w mg mb defs hG s₀ B env m.kinds wr' ro m₃ σ₄ s₄ := by
      refine ⟨?_, ⟨fun b o hb e => S₄.kept.obj b o (.inl hb) ((keptK adv).obj b o hb e), Nat.le_trans (keptK adv).gn S₄.kept.gn, fun j hj => (S₄.kept.gen j (Nat.lt_of_lt_of_le hj (keptK adv).gn)).trans ((keptK adv).gen j hj)⟩, ?_, fresh'⟩
      · refine S₄.base ⟨fun b o _ e => e, Nat.le_refl _, fun _ _ => rfl⟩ S₄.pb (fun c h => ?_) S₄.hidEx S₄.protEx (fun x a e => (S₄.refs x a e).1) (fun x a hx e => (S₄.own x a hx e).1)
        rcases h with e | ⟨x, hx, e⟩
        · exact e ▸ S₄.loc
        · exact S₄.cellAt hx e
      · rw [← S₄.names, J.S.names, J.kinds]
    have hst₄ : St wr' (i + 1) s₄ := G.frame _ _ _ _ hst' (fun b hb o e => S₄.kept.obj b o (.inr hb) e) (fun j hj => S₄.kept.gen j (G.exg _ _ _ hst' j hj)) S₄.kept.gn
    cases f₁ with
    | next =>
      cases fl <;> first | exact hfl.elim | skip
      exact ⟨items.length + 1 - (i + 1), fuel_lt hlt, i + 1, m₃, σ₄, wr', J₄, hst₄, hk, hlt, rfl⟩
    | brk =>
      cases fl <;> first | exact hfl.elim | skip
      obtain ⟨rfl, rfl⟩ := Prod.mk.inj (Option.some.inj hk)
      exact hR .next _ _ trivial (out J₄)
    | ret v =>
      cases fl <;> first | exact hfl.elim | skip
      obtain ⟨rfl, rfl⟩ := Prod.mk.inj (Option.some.inj hk)
      exact hR (.ret _) _ _ hfl (out J₄)
  · have hie : i = items.length := Nat.le_antisymm hi (Nat.not_lt.mp hlt)
    subst hie
    rw [List.drop_length] at h
    refine iteK h fun he h => ?_
    · obtain ⟨rfl, rfl⟩ := Prod.mk.inj (Option.some.inj h)
      refine G.done he wr s _ _ hst hsg fun s' adv => ?_
      have S1 := out J
      have S2 : SRel prog w mg mb defs hG s₀ B env _ σ s' := S1.outside (X := fun b => b ∈ wr) (r := B.ref) (gn := B.gn) (gr := B.gref) (gensK adv) (fun b o hb e => adv.heap b o hb e) adv.toks hXr hXc (fun b hb h => by
        rcases h with h | h
        · exact absurd h (J.fresh b hb).2.2
        · exact absurd h (J.fresh b hb).2.1) (keptK adv)
      exact wpAny_execs_nil (hR .next _ _ trivial S2)
end Mine
end
section
open PySem PySem.W PyProof.Rows PySem.Calls Builtin.Str PySem.Spec
namespace Mine
variable {prog : Program} {w : World}
variable {mg mb : Str → Option Value} {defs : List DefRec} {hG : Heap} {A : Around} {E : Value → Shared → Prop} {s₀ s s' : Shared} {d n : Nat} {B : Base} {env : Env} {m : ME} {σ : Str → Option Value} {call : CallT} {gen : GenT}

/-- the generator functions -/
structure HG (prog : Program) (w : World) (mg mb : Str → Option Value) (defs : List DefRec) (hG : Heap) (A : Around) (gen : GenT) : Prop where
  name : ∀ f v r, gen f [v] = some r → ∃ d ∈ defs, d.name = f
  ok : ∀ f v items ended, gen f [v] = some (items, ended) → ∀ a, mg f = some (.ref a) → ∀ s x Q E, Sg mg mb defs hG s → HasV prog w s.heap x v →
    (∀ g s' wr ro gp St, Ext s s' → GSrc prog w mg mb defs hG A g items ended ro gp St → St wr 0 s' → (∀ b ∈ wr, s.heap.get? b = none) → (∀ b ∈ ro, x = .ref b ∨ s.heap.get? b = none) → (∀ j, gp j → s.gens.size ≤ j) → Q (.ref g) s') →
    wpAny (model prog w) A (PySem.call (.ref a) [x]) (fun g s₁ => wpAny (model prog w) A (pyIter g) Q E s₁) E s

/-- a value and where it lies -/
theorem evalS (I : EvOk prog w mg mb defs hG A call n) (S : SRel prog w mg mb defs hG s₀ B env m σ s) {e : Expr} {v : V} (h : ev call n e m = some v) (hf : fresh e = true ∨ isName e = true)
    {Q : Value → Shared → Prop} (hQ : ∀ mv s', Ext s s' → HasV prog w s'.heap mv v → (∀ b, mv = .ref b → s.heap.get? b = none ∨ ∃ x p, e = .Name x p ∧ σ x = some mv) → Q mv s') :
    wpAny (model prog w) A (eval e env) Q E s := by
  rcases hf with hf | hf
  · exact I _ _ _ _ _ _ _ h S.sg S.e fun mv s' x hv hn _ => hQ _ _ x hv fun b e => .inl (hn hf b e)
  · obtain ⟨⟨x, p⟩, hq⟩ := Option.isSome_iff_exists.mp hf
    obtain rfl := asName_eq hq
    cases n with
    | zero => exact no_some h
    | succ n =>
      refine iteK (show evName x m = some v from h) fun hn h => bindK h fun k hl h => ?_
      replace hn := okName_inv hn
      have hkk : env.kindOf x = m.kinds.lookup x := congrArg (List.lookup x) S.names
      cases k with
      | «local» =>
        obtain ⟨ml, h1, h2⟩ := S.ns
        obtain ⟨mv, e, hv⟩ := S.vals x v (.inl hl) h
        exact wpAny_Name (wpAny_loadName_local S.kind (hkk.trans hl) h1 ((h2 x hl).trans e) (hQ mv s (.refl s) hv fun b _ => .inr ⟨x, p, rfl, e⟩)) hn.1
      | cell =>
        obtain ⟨c, a1, a2, _⟩ := S.cells x hl
        obtain ⟨mv, e, hv⟩ := S.vals x v (.inr hl) h
        exact wpAny_Name (wpAny_loadName_cell S.kind (hkk.trans hl) a1 (e ▸ a2) (hQ mv s (.refl s) hv fun b _ => .inr ⟨x, p, rfl, e⟩)) hn.1
      | free => exact absurd hl (S.nofree x)
      | globalImplicit =>
        refine mapK h fun y hy h => ?_
        subst h
        obtain ⟨t, ht⟩ := S.sg.glb.cst x y hy
        exact Name_function_global S.kind (hkk.trans hl) (loadGlobal_global (mg := mg) (by rw [S.globals]; exact S.sg.glb.g) ht (hQ _ _ (.refl s) ⟨t, rfl⟩ fun b e => Value.noConfusion e)) hn.1
      | _ => exact no_some h

theorem local_ok (S : SRel prog w mg mb defs hG s₀ B env m σ s) {x : Str} {p : Pos} {v : V} (hn : okName x = true) (hk : m.kinds.lookup x = some .local) (hv : m.val.lookup x = some v) {Q : Value → Shared → Prop}
    (hQ : ∀ mv, σ x = some mv → HasV prog w s.heap mv v → Q mv s) : wpAny (model prog w) A (eval (.Name x p) env) Q E s := by
  replace hn := okName_inv hn
  have hkk : env.kindOf x = m.kinds.lookup x := congrArg (List.lookup x) S.names
  obtain ⟨ml, h1, h2⟩ := S.ns
  obtain ⟨mv, e, hv⟩ := S.vals x v (.inl hk) hv
  exact wpAny_Name (wpAny_loadName_local S.kind (hkk.trans hk) h1 ((h2 x hk).trans e) (hQ mv e hv)) hn.1

theorem noSwap {e : Expr} {v : V} (h : ev call n e m = some v) (hc : isComp e = false) (t : Option Expr) (line : Nat) (env : Env) : swapsWith e t line env = pure false := by
  cases n with
  | zero => exact no_some h
  | succ n => cases e <;> first | rfl | exact no_some h | exact no_item hc.symm rfl

noncomputable abbrev Post2 (prog : Program) (w : World) (mg mb : Str → Option Value) (defs : List DefRec) (hG : Heap) (s₀ : Shared) (B : Base) (env : Env) (f : Fl) (m' : ME) (Q : Flow → Shared → Prop) : Prop :=
  ∀ fl s' σ', FlowIs prog w s₀ s'.heap f fl → SRel prog w mg mb defs hG s₀ B env m' σ' s' → Q fl s'

theorem assign_case (I : EvOk prog w mg mb defs hG A call n) (S : SRel prog w mg mb defs hG s₀ B env m σ s) {x : Str} {px p : Pos} {e : Expr} {v : V} {own : Bool} (hk : m.kinds.lookup x = some .local ∨ m.kinds.lookup x = some .cell) (hc : isComp e = false)
    (h : ev call n e m = some v) (hown : (∃ a, v = .at a) ∨ fresh e = true) {Q : Flow → Shared → Prop} (hQ : Post2 prog w mg mb defs hG s₀ B env .next (m.set x v own) Q) :
    wpAny (model prog w) A (exec (.Assign [.Name x px] e p) env) Q E s := by
  refine wpAny_Assign_Name (I _ _ _ _ _ _ _ h S.sg S.e fun mv s₁ x₁ hv hn _ => ?_) (noSwap h hc _ _ _)
  have S₁ := S.ext x₁
  refine S₁.store hk hv (fun a e => ?_) fun s₂ S₂ _ => hQ .next _ _ trivial S₂
  rcases hown with ⟨b, rfl⟩ | hf
  · exact absurd e (hv.noRef a)
  · have hnew := hn hf a e
    have o := S.off hnew
    exact ⟨o.hid, fun y _ => o.ref y, fun _ => o.prot⟩

theorem ev_comp {elt : Expr} {gens : List Comprehension} {scope : Scope} {pc : Pos} {v : V} (h : ev call (n + 1) (.ListComp elt gens scope pc) m = some v) :
    ∃ y py iter ifs items l, gens = [⟨.Name y py, iter, ifs, 0⟩] ∧ okComp scope m y = true ∧ its call n iter m = some items ∧ items.length ≤ 4096 ∧ compM (compOne call n scope m y ifs elt) items = some l ∧ v = .list l := by
  exact bindK (show ((asComp gens).bind fun q => if okComp scope m q.x then evItems (fun a => evElt (allM (fun c => tr call n c (compME scope m q.x a))) (ev call n elt (compME scope m q.x a)) q.ifs) (its call n q.iter m) else none) = some v from h) fun q hq h =>
    iteK h fun hc h => bindK h fun items hits h => iteK h fun hlen h => mapK h fun l hl h => ⟨q.x, q.px, q.iter, q.ifs, items, l, asComp_eq hq, hc, hits, hlen, hl, h.symm⟩

theorem comp_assign_case (X : AllOk prog w mg mb defs hG A call n) (S : SRel prog w mg mb defs hG s₀ B env m σ s) {x : Str} {px p : Pos} {e : Expr} {l : List Atm} (hs : swapOk m x px e = true)
    (h : ev call (n + 1) e m = some (.list l)) {Q : Flow → Shared → Prop} (hQ : Post2 prog w mg mb defs hG s₀ B env .next (m.set x (.list l) true) Q) :
    wpAny (model prog w) A (exec (.Assign [.Name x px] e p) env) Q E s := by
  cases e <;> first | exact no_item hs rfl | skip
  rename_i elt gens scope pc
  change (m.kinds.lookup x == some .local && px.line == pc.line && !(scope.names.any fun (n, k) => n == x && (k == .local || k == .cell))) = true at hs
  simp only [Bool.and_eq_true, beq_iff_eq, Bool.not_eq_true'] at hs
  obtain ⟨⟨hk, hline⟩, hany⟩ := hs
  have hkk : env.kindOf x = m.kinds.lookup x := congrArg (List.lookup x) S.names
  have hsw : swapsWith (.ListComp elt gens scope pc) (some (.Name x px)) p.line env = pure true := by
    show (pure (env.blockKind == .function && env.kindOf x == some .local && px.line == pc.line && !(scope.names.any fun (n, k) => n == x && (k == .local || k == .cell))) : Sem Bool) = _
    rw [hkk, hk, hline, hany]
    unfold Env.blockKind
    rw [S.kind]
    simp
  rw [exec_Assign_Name_used _ _ _ _ hsw]
  refine wpAny_bind (wpAny_standAt (wpAny_bind ?_))
  obtain ⟨y, py, iter, ifs, items, l', rfl, hc, hits, hlen, hl, hll⟩ := ev_comp h
  obtain rfl := V.list.inj hll
  show wpAny _ A (do let _ ← comprehension (.ListComp elt [⟨.Name y py, iter, ifs, 0⟩] scope pc) scope env _ (newList []) false (eval iter env) (some (assign (.Name x px) env))) _ _ s
  refine wpAny_bind (comp_ok (use := some (assign (.Name x px) env)) (Q := fun _ s' => wpAny (model prog w) A (pure ()) _ E s') X.ev X.tr X.its (compFacts hc) S.sg S.e hits hlen hl (fold_of_its hits) fun D C s' m' x' hn hC hD hDC hv => ?_)
  have S' := S.ext x'
  refine wpAny_assign_Name (S'.store (own := true) (.inl hk) hv (fun a e => ?_) fun s₂ S₂ hs₂ => ?_)
  · obtain rfl := Value.ref.inj e
    have o := S.off hD
    exact ⟨o.hid, fun y _ => o.ref y, fun _ => o.prot⟩
  · obtain ⟨c, hc1, hc2⟩ := hs₂
    have oC := S.off hC
    have hCc : C ≠ c := fun e => oC.hid (e ▸ hc1)
    refine ⟨m', hn.at' fun o e => hc2.extBut _ o hCc e, fun h' hs' => wpAny_pure (wpAny_pure ?_)⟩
    have hCs₀ : s₀.heap.get? C = none := S.x0.none hC
    refine hQ .next _ _ trivial (S₂.outside (X := fun b => b = C) (r := B.ref) (gn := B.gn) (gr := B.gref) ?_ (fun b o hb e => hs'.extBut b o hb e) (Nat.le_refl _) ?_ ?_ ?_ ?_)
    · exact ((ExtX.ext (X := fun b => b = C) S₂.x0).trans (ExtX.of (s := s₂) (h' := h') (k := s₂.toks) (fun b o hb e => hs'.extBut b o hb e) (Nat.le_refl _))).toExt fun b o e hb => by subst hb; exact gone hCs₀ ⟨o, e⟩
    · rintro b rfl z e
      by_cases hz : z = x
      · rw [if_pos hz] at e; exact hDC (Value.ref.inj (Option.some.inj e))
      · rw [if_neg hz] at e
        exact oC.ref z e
    · rintro b rfl
      exact ⟨oC.loc, oC.cell⟩
    · rintro b rfl hb
      exact (hb.elim oC.hid oC.prot).elim
    · exact ⟨fun b o hb e => hs'.extBut b o (fun q => oC.prot (q ▸ hb)) (S₂.kept.obj b o hb e), S₂.kept.gn, S₂.kept.gen⟩
end Mine
end
section
open PySem PySem.W PyProof.Rows PySem.Calls Builtin.Str PySem.Spec
namespace Mine
variable {prog : Program} {w : World}
variable {mg mb : Str → Option Value} {defs : List DefRec} {hG : Heap} {A : Around} {E : Value → Shared → Prop} {s₀ s s' : Shared} {d n : Nat} {B : Base} {env : Env} {m : ME} {σ : Str → Option Value} {call : CallT} {gen : GenT}

theorem eraseIdx_eq (vs : Array Value) (k : Nat) : (vs.eraseIdxIfInBounds k).toList = vs.toList.eraseIdx k := by
  simp [Array.eraseIdxIfInBounds]
  split
  · simp
  · rename_i h; rw [List.eraseIdx_of_length_le]; simpa using h

theorem get_lt {α : Type} {l : List α} {k : Nat} {a : α} (h : l[k]? = some a) : k < l.length := (List.getElem?_eq_some_iff.mp h).1
theorem idx_nat {k : Int} {n : Nat} (h : 0 ≤ k) (h' : k.toNat < n) : seqIndex? k n = some k.toNat := by
  unfold seqIndex?
  simp only [Int.not_lt.mpr h, if_false]
  rw [if_pos (by simp only [Bool.and_eq_true, decide_eq_true_eq]; omega)]
theorem fit_cap {n : Nat} (h : n ≤ sizeCap) : n ≤ sizeLine := Nat.le_trans h (by rw [sizeLine_eq]; decide)
theorem is_local {m : ME} {x : Str} (h : isLoc m x = true) : m.kinds.lookup x = some .local := beq_iff_eq.mp h
theorem pop_case (I : EvOk prog w mg mb defs hG A call n) (S : SRel prog w mg mb defs hG s₀ B env m σ s) {x y : Str} {px py ap pc p : Pos} {i : Expr} {l : List Atm} {k : Int} {a : Atm} (hn : okName y = true) (hky : m.kinds.lookup y = some .local) (hoy : y ∈ m.own) (hkx : m.kinds.lookup x = some .local)
    (hxy : x ≠ y) (hline : (ap.endLine == pc.line) = true) (hl : m.val.lookup y = some (.list l)) (hi : ev call n i m = some (.int k)) (hk : 0 ≤ k) (hlen : l.length ≤ sizeCap) (ha : l[k.toNat]? = some a) {Q : Flow → Shared → Prop}
    (hQ : Post2 prog w mg mb defs hG s₀ B env .next ((m.set y (.list (l.eraseIdx k.toNat)) true).set x (.at a) false) Q) :
    wpAny (model prog w) A (exec (.Assign [.Name x px] (.Call (.Attribute (.Name y py) ("pop" : Str) ap) [i] [] pc) p) env) Q E s := by
  refine wpAny_Assign_Name (wpAny_Call_method_lateS (base_of rfl) (few_of (n := n) (m := m) (vs := [.int k]) (by unfold seqM; rw [hi]; rfl) (by show 1 < 20; omega)) hline (local_ok S hn hky hl fun mv hσ hv => ?_)) rfl
  obtain ⟨b, vs, q, rfl, hil, hr⟩ := id hv
  refine ⟨"list", "list.pop", F.plainAttrs_list, F.slot_list_pop, F.type_list_pop, hil.isList.typeIs, (fun c e => by cases e; exact ⟨_, hil, rfl⟩), ?_⟩
  rw [star_plain hi]
  refine P.pop_at_list (evInt I hi S.sg S.e fun t s₁ x₁ => ?_)
  have hlen' := hr.size
  have hkl := get_lt ha
  obtain ⟨yv, hy1, hy2⟩ := hr.get _ _ ha
  rw [Array.getElem?_toList] at hy1
  have hil₁ : IsL s₁.heap b vs q := x₁.heap _ _ hil
  refine ⟨vs, q, k, t, k.toNat, yv, hlen' ▸ fit_cap hlen, rfl, hil₁, ?_, idx_nat hk (hlen' ▸ hkl), hy1, ?_⟩
  · show (decide _ && decide _) = true
    rw [Bool.and_eq_true, decide_eq_true_eq, decide_eq_true_eq]
    have : l.length ≤ 4096 := hlen
    omega
  · have S₁ := S.ext x₁
    have hnew := IsL.update (n := q) hil₁ (fun xs => xs.eraseIdxIfInBounds k.toNat)
    have S₂ := S₁.mutate (v := .list (l.eraseIdx k.toNat)) (k := s₁.toks) hoy hky hσ (Heap.SameBut.update ..) (Nat.le_refl _) ⟨b, _, _, rfl, hnew, by rw [eraseIdx_eq]; exact hr.eraseIdx _⟩
    refine S₂.store (v := .at a) (own := false) (.inl hkx) hy2 (fun c e => ?_) fun s₃ S₃ _ => hQ .next _ _ trivial S₃
    exact absurd e (atm_noRef hy2 c)

theorem append_case (I : EvOk prog w mg mb defs hG A call n) (S : SRel prog w mg mb defs hG s₀ B env m σ s) {y : Str} {py ap pc p : Pos} {e : Expr} {l : List Atm} {a : Atm} (hn : okName y = true) (hky : m.kinds.lookup y = some .local) (hoy : y ∈ m.own)
    (hline : (ap.endLine == pc.line) = true) (hl : m.val.lookup y = some (.list l)) (he : (ev call n e m).bind atom = some a) (hlen : l.length ≤ sizeCap) {Q : Flow → Shared → Prop} (hQ : Post2 prog w mg mb defs hG s₀ B env .next (m.set y (.list (l ++ [a])) true) Q) :
    wpAny (model prog w) A (exec (.Expr (.Call (.Attribute (.Name y py) ("append" : Str) ap) [e] [] pc) p) env) Q E s := by
  replace he := bind_at he
  refine wpAny_Expr (wpAny_Call_method_lateS (base_of rfl) (few_of (n := n) (m := m) (vs := [.at a]) (by unfold seqM; rw [he]; rfl) (by show 1 < 20; omega)) hline (local_ok S hn hky hl fun mv hσ hv => ?_)) (by simp [interactive, S.kind]) rfl
  obtain ⟨b, vs, q, rfl, hil, hr⟩ := id hv
  refine ⟨"list", "list.append", F.plainAttrs_list, slot_list_append, F.type_list_append, hil.isList.typeIs, (fun c e => by cases e; exact ⟨_, hil, rfl⟩), ?_⟩
  rw [star_plain he]
  refine P.append_list (I _ _ _ _ _ _ _ he S.sg S.e fun iv s₁ x₁ hiv _ _ => ?_)
  have hlen' := hr.size
  have hil₁ : IsL s₁.heap b vs q := x₁.heap _ _ hil
  refine ⟨vs, q, Nat.le_of_succ_le (cap_line (hlen' ▸ hlen)), hil₁, ?_⟩
  have S₁ := S.ext x₁
  have hnew := IsL.update (n := q) hil₁ (fun xs => xs.push iv)
  refine hQ .next _ _ trivial (S₁.mutate (v := .list (l ++ [a])) (k := s₁.toks) hoy hky hσ (Heap.SameBut.update ..) (Nat.le_refl _) ⟨b, _, _, rfl, hnew, ?_⟩)
  rw [Array.toList_push]; exact hr.append (.cons hiv .nil)

theorem del_case (I : EvOk prog w mg mb defs hG A call n) (S : SRel prog w mg mb defs hG s₀ B env m σ s) {y : Str} {py ps p : Pos} {i : Expr} {l : List Atm} {k : Int} {j : Nat} (hn : okName y = true) (hky : m.kinds.lookup y = some .local) (hoy : y ∈ m.own)
    (hl : m.val.lookup y = some (.list l)) (hi : ev call n i m = some (.int k)) (hfit : Builtin.List.listFitsIndex k = true) (hj : seqIndex? k l.length = some j) (hlen : l.length ≤ sizeCap) {Q : Flow → Shared → Prop} (hQ : Post2 prog w mg mb defs hG s₀ B env .next (m.set y (.list (l.eraseIdx j)) true) Q) :
    wpAny (model prog w) A (exec (.Delete [.Subscript (.Name y py) i ps] p) env) Q E s := by
  refine wpAny_Delete (wpAny_deleteEach_cons (wpAny_delete_Subscript (local_ok S hn hky hl fun mv hσ hv => evInt I hi S.sg S.e fun t s₁ x₁ => ?_)))
  obtain ⟨b, vs, q, rfl, hil, hr⟩ := id hv
  have hlen' := hr.size
  have hil₁ : IsL s₁.heap b vs q := x₁.heap _ _ hil
  refine P.delItem_list hil₁ hfit (by rw [hlen']; exact hj) (wpAny_deleteEach_nil ?_) (hlen' ▸ fit_cap hlen)
  have S₁ := S.ext x₁
  have hnew := IsL.update (n := q) hil₁ (fun xs => xs.eraseIdxIfInBounds j)
  exact hQ .next _ _ trivial (S₁.mutate (v := .list (l.eraseIdx j)) (k := s₁.toks) hoy hky hσ (Heap.SameBut.update ..) (Nat.le_refl _) ⟨b, _, _, rfl, hnew, by rw [eraseIdx_eq]; exact hr.eraseIdx _⟩)

theorem dictset_case (I : EvOk prog w mg mb defs hG A call n) (S : SRel prog w mg mb defs hG s₀ B env m σ s) {y : Str} {py ps p : Pos} {k e : Expr} {l : List (Str × Int)} {x : Str} {i : Int} (hn : okName y = true) (hky : m.kinds.lookup y = some .local) (hoy : y ∈ m.own)
    (hl : m.val.lookup y = some (.dict l)) (hk : ev call n k m = some (.str x)) (he : ev call n e m = some (.int i)) (hlen : l.length ≤ 64) {Q : Flow → Shared → Prop} (hQ : Post2 prog w mg mb defs hG s₀ B env .next (m.set y (.dict (dput x i l)) true) Q) :
    wpAny (model prog w) A (exec (.Assign [.Subscript (.Name y py) k ps] e p) env) Q E s := by
  have hsw : swapsWith e (some (.Subscript (.Name y py) k ps)) p.line env = pure false := by
    cases n with
    | zero => exact no_some he
    | succ n => cases e <;> first | rfl | (exact no_some he)
  refine wpAny_Assign_Subscript (evInt I he S.sg S.e fun t s₁ x₁ => ?_) hsw
  have S₁ := S.ext x₁
  refine local_ok S₁ hn hky hl fun mv hσ hv => evStr I hk S₁.sg S₁.e fun u s₂ x₂ => ?_
  have S₂ := S₁.ext x₂
  obtain ⟨b, kvs, rfl, hd, hr, hm⟩ := hv.ext x₂
  have hlen' := hr.length
  have hnd : (kvs.map (·.1)).Nodup := by obtain ⟨_, _, _, _, _, _, _, _, h⟩ := hd; exact h
  refine wpAny_setItem_pairs (strKind_is prog w x u) hd (fun h' hd' hs => ?_) (by rw [sizeLine_eq]; omega)
  exact hQ .next _ _ trivial (S₂.mutate (v := .dict (dput x i l)) (k := s₂.toks + 1) hoy hky hσ hs (Nat.le_succ _) ⟨b, _, rfl, hd', kvs_put hr hnd x i t, hm⟩)

theorem isSubO_eq {op : Operator} (h : isSubO op = true) : op = .Sub := by
  cases op <;> first | rfl | exact absurd h Bool.false_ne_true
theorem aug_case (I : EvOk prog w mg mb defs hG A call n) (S : SRel prog w mg mb defs hG s₀ B env m σ s) {x : Str} {px p : Pos} {op : Operator} {e : Expr} {a b c : Int} (hk : m.kinds.lookup x = some .local) (hx : m.val.lookup x = some (.int a)) (he : ev call n e m = some (.int b))
    (hop : augOp op a b = some c) {Q : Flow → Shared → Prop} (hQ : Post2 prog w mg mb defs hG s₀ B env .next (m.set x (.int c) false) Q) :
    wpAny (model prog w) A (exec (.AugAssign (.Name x px) op e p) env) Q E s := by
  have hkk : env.kindOf x = m.kinds.lookup x := congrArg (List.lookup x) S.names
  obtain ⟨ml, h1, h2⟩ := S.ns
  obtain ⟨mv, e', t, rfl⟩ := S.vals x _ (.inl hk) hx
  refine wpAny_AugAssign_Name (wpAny_loadName_local S.kind (hkk.trans hk) h1 ((h2 x hk).trans e') (evInt I he S.sg S.e fun u s₁ x₁ => ?_))
  have S₁ := S.ext x₁
  have y : Ext s₁ { s₁ with toks := s₁.toks + 1 } := .tok (Nat.le_succ _)
  have fin : wpAny (model prog w) A (storeName env x (.int c s₁.toks)) (fun _ => Q .next) E { s₁ with toks := s₁.toks + 1 } :=
    (S₁.ext y).store (v := .int c) (own := false) (.inl hk) ⟨_, rfl⟩ (fun _ e => Value.noConfusion e) fun s₃ S₃ _ => hQ .next _ _ trivial S₃
  refine condK hop (fun h1 h => ?_) fun _ h => iteK h fun h1 h => ?_
  · rw [isAdd_eq h1]
    rw [← Option.some.inj h] at fin
    exact iadd_int fin
  · rw [isSubO_eq h1]
    rw [← Option.some.inj h] at fin
    exact isub_int fin

noncomputable def starB : Expr → Bool
  | .Starred .. => true
  | _ => false
theorem swapped_ok {env : Env} {x y : Str} {px py pt pv pc : Pos} {kt kv : Nat} {e f : Expr} {as : List Expr} {ks : List Keyword} (hk : env.scope.kind = .function) (hl : py.line = px.line) (hkkx : env.kindOf x = some .local) (hkky : env.kindOf y = some .local) (hxy : x ≠ y)
  (hestar : starB e = false) : swappedStores [.Tuple [.Name x px, .Name y py] kt pt] (.Tuple [e, .Call f as ks pc] kv pv) env = pure (some [x, y]) := by
  have hb : env.blockKind = .function := by unfold Env.blockKind; rw [hk]; rfl
  have hx' : (y == x) = false := by rw [beq_eq_false_iff_ne]; exact Ne.symm hxy
  have he : ([x, y] : List Str).eraseDups.length = 2 := by
    simp [List.eraseDups_cons, hx']
  have h3 : foldedForSure 8 (.Call f as ks pc) = false := rfl
  have h4 : constantsAlone 8 (.Call f as ks pc) = false := rfl
  have f1 : (if (env.kindOf x == some .local && px.line == px.line) = true then some x else none) = some x := if_pos (by rw [hkkx, beq_self_eq_true, beq_self_eq_true]; rfl)
  have f2 : (if (env.kindOf y == some .local && py.line == px.line) = true then some y else none) = some y := if_pos (by rw [hkky, hl, beq_self_eq_true, beq_self_eq_true]; rfl)
  have hn : ([Expr.Name x px, Expr.Name y py].filterMap fun
    | .Name id pos => if env.kindOf id == some .local && pos.line == px.line then some id else none
    | _ => none) = [x, y] := by
    refine (List.filterMap_cons_some (b := x) ?_).trans (congrArg (x :: ·) (List.filterMap_cons_some (b := y) ?_))
    · exact f1
    · exact f2
  unfold swappedStores
  rw [hb]
  have hany : (List.any [e, .Call f as ks pc] fun | .Starred .. => true | _ => false) = false := by
    cases e <;> first | rfl | exact no_item hestar.symm rfl
  have hf : (List.all [e, .Call f as ks pc] (foldedForSure 8)) = false := by simp [List.all_cons, h3]
  have hc : (List.all [e, .Call f as ks pc] (constantsAlone 8)) = false := by simp [List.all_cons, h4]
  have key : ∀ L : List Str, L = [x, y] → (if (L.length != 0 + 1 + 1 || L.eraseDups.length != L.length) = true then (pure none : Sem (Option (List Str))) else
      if ([e, .Call f as ks pc].all (foldedForSure 8)) = true then pure none else
      if ([e, .Call f as ks pc].all (constantsAlone 8)) = true then (do unsupported "assign.tuple-of-constant-expressions:order-of-the-stores"; pure (some L)) else pure (some L)) = pure (some [x, y]) := by
    rintro L rfl
    rw [he, hf, hc]
    rfl
  refine (if_neg (show ¬ (false = true) from Bool.false_ne_true)).trans ((if_neg (by rw [Bool.not_eq_true]; exact hany)).trans ?_)
  exact key _ hn

theorem noStar {e : Expr} (h : ∃ v, ev call n e m = some v) : starB e = false := by
  obtain ⟨v, h⟩ := h
  cases n with
  | zero => exact no_some h
  | succ n => cases e <;> first | rfl | (exact no_some h)
theorem tupassign_case (I : EvOk prog w mg mb defs hG A call n) (hh : A.handled = none) (S : SRel prog w mg mb defs hG s₀ B env m σ s) {x y : Str} {px py pt p pv pc : Pos} {kt kv : Nat} {e f : Expr} {as : List Expr} {ks : List Keyword} {a b : Atm} (hl : py.line = px.line) (hkx : m.kinds.lookup x = some .local) (hky : m.kinds.lookup y = some .local) (hxy : x ≠ y)
    (ha : (ev call n e m).bind atom = some a) (hb : (ev call n (.Call f as ks pc) m).bind atom = some b) {Q : Flow → Shared → Prop} (hQ : Post2 prog w mg mb defs hG s₀ B env .next ((m.set y (.at b) false).set x (.at a) false) Q) :
    wpAny (model prog w) A (exec (.Assign [.Tuple [.Name x px, .Name y py] kt pt] (.Tuple [e, .Call f as ks pc] kv pv) p) env) Q E s := by
  have hkkx : env.kindOf x = some .local := (congrArg (List.lookup x) S.names).trans hkx
  have hkky : env.kindOf y = some .local := (congrArg (List.lookup y) S.names).trans hky
  have hestar := noStar (e := e) ⟨_, bind_at ha⟩
  have hw : swappedStores [.Tuple [.Name x px, .Name y py] kt pt] (.Tuple [e, .Call f as ks pc] kv pv) env = pure (some [x, y]) := swapped_ok S.kind hl hkkx hkky hxy hestar
  refine Assign_Tuple_swapped (names := [x, y]) ?_ rfl hw
  refine tuple_case (l := [a, b]) I S.sg S.e (by unfold seqM; rw [ha]; unfold seqM; rw [hb]; rfl) (by simp) fun mv s₁ x₁ hv _ _ => ?_
  obtain ⟨t, vs, rfl, ht, hr⟩ := hv
  obtain ⟨xv, yv, hvs, hxv, hyv⟩ := hr.two
  rw [show [x, y].length = vs.size from hr.size.symm]
  refine wpAny_unpackItems_tuple hh ht fun h' he => ?_
  have S' := (S.ext x₁).ext (s' := { s₁ with heap := h' }) ⟨fun b o e => he b o (fun q => gone (get_size s₁.heap) ⟨o, q ▸ e⟩) e, Nat.le_refl _, fun _ _ => rfl, id, rfl, Nat.le_refl _⟩
  rw [hvs]
  show wpAny (model prog w) A (do holding [xv] (bindName env y yv); do holding [] (bindName env x xv); pure ()) _ E _
  refine wpAny_bind (wpAny_holding (wpAny_bindName (S'.store (v := .at b) (own := false) (.inl hky) hyv (fun b e => absurd e (atm_noRef hyv b)) fun s₂ S₂ _ => ?_)))
  exact wpAny_bind (wpAny_holding (wpAny_bindName (S₂.store (v := .at a) (own := false) (.inl hkx) hxv (fun b e => absurd e (atm_noRef hxv b)) fun s₃ S₃ _ => wpAny_pure (hQ .next _ _ trivial S₃))))
end Mine
end
section
open PySem PySem.W PyProof.Rows PySem.Calls Builtin.Str PySem.Spec
namespace Mine
variable {prog : Program} {w : World}
variable {mg mb : Str → Option Value} {defs : List DefRec} {hG : Heap} {A : Around} {E : Value → Shared → Prop} {s₀ s s' : Shared} {d n : Nat} {B : Base} {env : Env} {m : ME} {σ : Str → Option Value} {call : CallT} {gen : GenT}

theorem ownName_inv {e : Expr} (h : ownName m e = true) : ∃ x p, e = .Name x p ∧ x ∈ m.own := by
  unfold ownName at h
  cases hq : asName e with
  | none => rw [hq] at h; exact no_item h rfl
  | some q =>
    rw [hq] at h
    exact andK h fun h1 _ => ⟨q.x, q.p, asName_eq hq, List.contains_iff_mem.mp h1⟩
theorem isName_eq {e : Expr} (h : isName e = true) : ∃ x p, e = .Name x p := by
  obtain ⟨q, hq⟩ := Option.isSome_iff_exists.mp h
  exact ⟨q.x, q.p, asName_eq hq⟩
theorem return_case (I : EvOk prog w mg mb defs hG A call n) (S : SRel prog w mg mb defs hG s₀ B env m σ s) {p : Pos} {e : Expr} {v : V} (h : ev call n e m = some v) (hown : (isAtV v || (fresh e || ownName m e)) = true)
    {Q : Flow → Shared → Prop} (hQ : Post2 prog w mg mb defs hG s₀ B env (.ret v) m Q) : wpAny (model prog w) A (exec (.Return (some e) p) env) Q E s := by
  refine orK hown (fun hat => ?_) fun h2 => orK h2 (fun hf => ?_) fun ho => ?_
  · obtain ⟨a, ha⟩ := Option.isSome_iff_exists.mp hat
    rw [asAtm_eq ha] at h hQ
    exact wpAny_Return_some (I _ _ _ _ _ _ _ h S.sg S.e fun mv s₁ x₁ hv _ _ => hQ (.ret mv) _ _ ⟨hv, Newly.at hv⟩ (S.ext x₁))
  · exact wpAny_Return_some (I _ _ _ _ _ _ _ h S.sg S.e fun mv s₁ x₁ hv hn _ => hQ (.ret mv) _ _ ⟨hv, fun b e' => S.x0.none (hn hf b e')⟩ (S.ext x₁))
  · obtain ⟨x, px, rfl, hm⟩ := ownName_inv ho
    refine wpAny_Return_some (evalS I S h (.inr rfl) fun mv s₁ x₁ hv hb => hQ (.ret mv) _ _ ⟨hv, fun b e' => ?_⟩ (S.ext x₁))
    rcases hb b e' with hb | ⟨x', px, e, hσ⟩
    · exact S.x0.none hb
    · obtain rfl := (Expr.Name.inj e).1
      exact S.not_prot_s0 (S.own x b hm (e' ▸ hσ)).1

theorem loop_enter {m' : ME} {f : Fl} (X : ExsOk prog w mg mb defs hG A call gen n) (hh : A.handled = none) (S : SRel prog w mg mb defs hG s₀ B env m σ s) {e : Expr} {mv : Value} (hmv : ∀ b, mv = .ref b → s.heap.get? b = none ∨ ∃ x p, e = .Name x p ∧ σ x = some mv)
    {s₁ : Shared} (x₁ : Ext s s₁) {tgt : Expr} {body : List Stmt} {I : Addr} {items : List V} {ended : Bool} {wr ro : List Addr} {gp : Nat → Prop} {St : List Addr → Nat → Shared → Prop} (G : GSrc prog w mg mb defs hG A I items ended ro gp St) (hst : St wr 0 s₁)
    (hwr : ∀ b ∈ wr, s.heap.get? b = none) (hro : ∀ b ∈ ro, b ∈ wr ∨ mv = .ref b ∨ s.heap.get? b = none) (hgp : ∀ j, gp j → s.gens.size ≤ j) (h : forM (turnF call gen n tgt body) items ended (disown m e) = some (f, m'))
    {R : Result → Shared → Prop} (hR : ∀ fl s' σ', FlowIs prog w s₀ s'.heap f fl → SRel prog w mg mb defs hG s₀ B env m' σ' s' → R (.ok fl) s') :
    codeAny (model prog w) A (.forLoop tgt (.ref I) body [] env) R s₁ := by
  have hd : ∃ l, disown m e = { m with own := l } ∧ (∀ x, x ∈ l → x ∈ m.own) ∧ ∀ x p, e = .Name x p → x ∉ l := by
    unfold disown
    cases hq : asName e with
    | none => exact ⟨m.own, rfl, fun x h => h, fun x p e => by rw [e] at hq; exact no_some hq.symm⟩
    | some q => exact ⟨unique q.x m.own, rfl, fun y hy => (mem_unique hy).1, fun y p e hy => (mem_unique hy).2 (Expr.Name.inj (e.symm.trans (asName_eq hq))).1⟩
  obtain ⟨l, hl, hsub, hname⟩ := hd
  rw [hl] at h
  have S₁ := (S.ext x₁).ownSub hsub
  refine for_loop X hh G (m := { m with own := l }) (wr := wr) (σ := σ) (fun j hj => ⟨Nat.le_trans S.x0.gsz (hgp j hj), Nat.le_trans S.kept.gn (hgp j hj)⟩) S.loc
    (fun x c hk e => S.cellAt hk e) S.pb hR ⟨?_, S₁.kept, rfl, fun b hb => ⟨S.x0.none (hwr b hb), (S.off (hwr b hb)).prot, (S.off (hwr b hb)).hid⟩⟩ hst h
  refine S₁.in_loop (fun b hb => ?_) (fun b hb => ?_) (G.exw _ _ _ hst)
  · have o := S.off (hwr b hb)
    exact ⟨o.ref, o.loc, o.cell⟩
  · rcases hro b hb with hb | hb | hb
    · exact .inl hb
    rotate_left
    · right
      have o := S.off hb
      exact ⟨o.loc, o.cell, fun x _ => o.ref x⟩
    · right
      rcases hmv b hb with hn | ⟨x, p, rfl, hσ⟩
      · have o := S.off hn
        exact ⟨o.loc, o.cell, fun x _ => o.ref x⟩
      · rw [hb] at hσ
        obtain ⟨hnh, _⟩ := S.refs x b hσ
        refine ⟨fun e => hnh (e ▸ S.loc.1), fun y hy e => ?_, fun y hy e => ?_⟩
        · exact hnh (S.cellAt hy e).1
        · by_cases hyx : x = y
          · subst hyx; exact hname x p rfl hy
          · exact (S.own y b (hsub y hy) e).2 x hyx hσ

theorem for_case (X : ExsOk prog w mg mb defs hG A call gen n) (I : EvOk prog w mg mb defs hG A call n) (Rm : Room A d) (S : SRel prog w mg mb defs hG s₀ B env m σ s) {tgt iter : Expr} {body : List Stmt} {p : Pos} {v : V} {items : List V} {f : Fl} {m' : ME}
    (hv : ev call n iter m = some v) (hi : iterOf v = some items) (hf : fresh iter = true ∨ isName iter = true) (h : forM (turnF call gen n tgt body) items true (disown m iter) = some (f, m')) {Q : Flow → Shared → Prop} (hQ : Post2 prog w mg mb defs hG s₀ B env f m' Q) :
    wpAny (model prog w) A (exec (.For tgt iter body [] p) env) Q E s := by
  have hset : ∀ x, foldedSetIterable iter env x = pure x := by
    intro x
    cases iter <;> first | rfl | exact hf.elim (fun h => no_item h rfl) fun h => no_item h rfl
  refine wpAny_For (evalS I S hv hf fun mv s₁ x₁ hmv hb => iterOf_ok hi hmv Rm fun s₂ fp P St x₂ hsz src hst hfp => ?_) hset
  refine loop_enter (m := m) (wr := [s₁.heap.objs.size]) X Rm.h S (e := iter) (mv := mv) hb (x₁.trans x₂) src.toG ⟨rfl, hst⟩ (fun b hb => ?_) (fun b hb => ?_) (fun _ h => h.elim) h fun fl s' σ' hfl S' => hQ fl s' σ' hfl S'
  · exact List.mem_singleton.mp hb ▸ x₁.none (get_size _)
  · exact (hfp b hb).imp (fun h => List.mem_singleton.mpr h) .inl

theorem forgen_case (X : ExsOk prog w mg mb defs hG A call gen n) (I : EvOk prog w mg mb defs hG A call n) (H : HG prog w mg mb defs hG A gen) (Rm : Room A d) (S : SRel prog w mg mb defs hG s₀ B env m σ s) {tgt arg : Expr} {g : Str} {pg pc : Pos} {body : List Stmt} {p : Pos} {v : V} {items : List V} {ended : Bool} {f : Fl} {m' : ME}
    (hn : okName g = true) (hk : m.kinds.lookup g = some .globalImplicit) (hv : ev call n arg m = some v) (hg : gen g [v] = some (items, ended)) (hf : fresh arg = true ∨ isName arg = true) (h : forM (turnF call gen n tgt body) items ended (disown m arg) = some (f, m'))
    {Q : Flow → Shared → Prop} (hQ : Post2 prog w mg mb defs hG s₀ B env f m' Q) : wpAny (model prog w) A (exec (.For tgt (.Call (.Name g pg) [arg] [] pc) body [] p) env) Q E s := by
  obtain ⟨dr, hd, hname⟩ := H.name g v _ hg
  obtain ⟨a, o, pm, code, doc, hmg, ho, hdat, hrec⟩ := S.sg.glb.fn dr hd
  rw [hname] at hmg
  have hargs : seqM (fun e => ev call n e m) [arg] = some [v] := by show (ev call n arg m).bind _ = _; rw [hv]; rfl
  refine wpAny_For (Call_Name rfl (gname_ok S.sg S.e hn hk hmg ?_))
  rw [star_plain hv]
  refine callWith_function (o := o) (evalArgs_plain (spliced_cons (evalS I S hv hf fun mv s₁ x₁ hmv hb => spliced_nil ⟨⟨x₁.heap _ _ ho, hdat⟩, ?_⟩)))
  refine H.ok g v items ended hg a hmg s₁ mv _ _ (S.sg.ext x₁) hmv fun gi s₂ wr ro gp St x₂ G hst hwr hro hgp => ?_
  exact loop_enter (m := m) X Rm.h S (e := arg) (mv := mv) hb (x₁.trans x₂) G hst (fun b hb => x₁.none (hwr b hb)) (fun b hb => .inr ((hro b hb).imp id x₁.none)) (fun j hj => Nat.le_trans x₁.gsz (hgp j hj)) h fun fl s' σ' hfl S' => hQ fl s' σ' hfl S'
end Mine
end
section
open PySem PySem.W PyProof.Rows PySem.Calls Builtin.Str PySem.Spec
namespace Mine
variable {prog : Program} {w : World}
variable {mg mb : Str → Option Value} {defs : List DefRec} {hG : Heap} {A : Around} {E : Value → Shared → Prop} {s₀ s s' : Shared} {d n : Nat} {B : Base} {env : Env} {m : ME} {σ : Str → Option Value} {call : CallT} {gen : GenT}

theorem exs_step (X : ExsOk prog w mg mb defs hG A call gen n) (Y : ExOk prog w mg mb defs hG A call gen n) : ExsOk prog w mg mb defs hG A call gen (n + 1) := by
  intro sts m f m' env σ B s₀ s Q E h S hQ
  cases sts with
  | nil =>
    obtain ⟨rfl, rfl⟩ := Prod.mk.inj (Option.some.inj h)
    exact wpAny_execs_nil (hQ .next _ _ trivial S)
  | cons st r =>
    refine bindK h fun q hx h => wpAny_execs_cons (Y _ _ _ _ _ _ _ _ _ _ _ hx S fun fl s₁ σ₁ hfl S₁ => ?_)
    obtain ⟨f₁, m₁⟩ := q
    cases f₁ with
    | next =>
      cases fl <;> first | exact hfl.elim | skip
      exact X _ _ _ _ _ _ _ _ _ _ _ h S₁ hQ
    | brk =>
      cases fl <;> first | exact hfl.elim | skip
      obtain ⟨rfl, rfl⟩ := Prod.mk.inj (Option.some.inj h)
      exact hQ .brk _ _ trivial S₁
    | ret v =>
      cases fl <;> first | exact hfl.elim | skip
      obtain ⟨rfl, rfl⟩ := Prod.mk.inj (Option.some.inj h)
      exact hQ (.ret _) _ _ hfl S₁

theorem erase_last {α : Type} : ∀ (a : α) (r : List α), (a :: r).eraseIdx r.length = (a :: r).dropLast
  | a, [] => rfl
  | a, b :: r => by
    show a :: (b :: r).eraseIdx r.length = a :: (b :: r).dropLast
    rw [erase_last b r]
theorem delAt_eq {l r : List Atm} {k : Int} (h : delAt l k = some r) : ∃ j, seqIndex? k l.length = some j ∧ l.eraseIdx j = r ∧ Builtin.List.listFitsIndex k = true := by
  cases l with
  | nil => exact no_some h
  | cons a l =>
    refine condK h (fun _ hr => no_some hr) fun _ hr => condK hr (fun hk0 hr => ?_) fun _ hr => iteK hr fun hk1 hr => ?_
    · subst hk0
      exact ⟨0, idx_nat (k := 0) (Int.le_refl 0) (Nat.succ_pos _), Option.some.inj hr, rfl⟩
    · subst hk1
      exact ⟨l.length, by unfold seqIndex?; simp; omega, (erase_last a l).trans (Option.some.inj hr), rfl⟩
section forms
variable {f : Fl} {m' : ME} {Q : Flow → Shared → Prop} (V : AllOk prog w mg mb defs hG A call n) (S : SRel prog w mg mb defs hG s₀ B env m σ s) (hQ : Post2 prog w mg mb defs hG s₀ B env f m' Q)
theorem post_of {a : ME} (h : some (Fl.next, a) = some (f, m')) (hQ : Post2 prog w mg mb defs hG s₀ B env f m' Q) : Post2 prog w mg mb defs hG s₀ B env .next a Q :=
  (Prod.mk.inj (Option.some.inj h)).1 ▸ (Prod.mk.inj (Option.some.inj h)).2 ▸ hQ
include V S hQ
theorem name_case (V' : ∀ k, AllOk prog w mg mb defs hG A call k) {x : Str} {px p : Pos} {e : Expr} (h : exName (fun e => ev call n e m) x px e m = some (f, m')) : wpAny (model prog w) A (exec (.Assign [.Name x px] e p) env) Q E s := by
  refine elimK h (fun q hq h => ?_) fun hq h => condK h (fun hc h => iteK h fun hs h => ?_) fun hc h => iteK h fun hk h => bindK h fun v hv h => iteK h fun ho hz => ?_
  · obtain ⟨he, hline⟩ := methForm_eq hq
    rw [he]
    refine iteK h fun hc h => andK hc fun hc c5 => andK hc fun hc c4 => andK hc fun hc c3 => andK hc fun c1 c2 => bindK h fun l hl h => bindK h fun k hk h => iteK h fun hd h => andK hd fun d1 d2 => bindK h fun a ha h => ?_
    exact pop_case V.ev S c1 (is_local c2) (List.contains_iff_mem.mp c3) (is_local c4) (fun e => by rw [e, beq_self_eq_true] at c5; exact Bool.noConfusion c5) hline (oList_eq hl) (oInt_eq hk) (of_decide_eq_true d1) (of_decide_eq_true d2) ha (post_of h hQ)
  · refine bindK h fun l hl hz => ?_
    cases n with
    | zero => exact no_some (oList_eq hl)
    | succ n => exact comp_assign_case (V' n) S hs (oList_eq hl) (post_of hz hQ)
  · refine assign_case V.ev S (orK hk (fun h => .inl (beq_iff_eq.mp h)) fun h => .inr (beq_iff_eq.mp h)) (Bool.eq_false_iff.mpr hc) hv (orK ho (fun h => .inl ?_) .inr) (post_of hz hQ)
    obtain ⟨a, ha⟩ := Option.isSome_iff_exists.mp h
    exact ⟨a, asAtm_eq ha⟩
theorem tup_case (Rm : Room A d) {ts es : List Expr} {k1 k2 : Nat} {p1 p2 p : Pos} (h : exTup (fun e => ev call n e m) m ts es = some (f, m')) : wpAny (model prog w) A (exec (.Assign [.Tuple ts k1 p1] (.Tuple es k2 p2) p) env) Q E s := by
  refine bindK h fun t ht h => bindK h fun e he h => bindK h fun x hx h => bindK h fun y hy h => iteK h fun hc h => andK hc fun hc c5 => andK hc fun hc c4 => andK hc fun hc c3 => andK hc fun c1 c2 => bindK h fun a ha h => bindK h fun b hb h => ?_
  obtain ⟨q, hq⟩ := Option.isSome_iff_exists.mp c5
  rw [two_eq ht, two_eq he, asName_eq hx, asName_eq hy, asCall_eq hq]
  rw [asCall_eq hq] at hb
  exact tupassign_case V.ev Rm.h S (beq_iff_eq.mp c1) (is_local c2) (is_local c3) (fun e => by rw [e, beq_self_eq_true] at c4; exact Bool.noConfusion c4) ha hb (post_of h hQ)
theorem item_assign {d k e : Expr} {ps p : Pos} (h : exItem (fun e => ev call n e m) k e m d = some (f, m')) : wpAny (model prog w) A (exec (.Assign [.Subscript d k ps] e p) env) Q E s := by
  refine bindK h fun q hq h => iteK h fun hc h => andK hc fun hc c3 => andK hc fun c1 c2 => bindK h fun l hl h => bindK h fun x hx h => bindK h fun i hi h => iteK h fun hlen h => ?_
  rw [asName_eq hq]
  exact dictset_case V.ev S c1 (is_local c2) (List.contains_iff_mem.mp c3) (oDict_eq hl) (oStr_eq hx) (oInt_eq hi) hlen (post_of h hQ)
theorem aug_step {op : Operator} {t e : Expr} {p : Pos} (h : exAug (fun e => ev call n e m) op e m t = some (f, m')) : wpAny (model prog w) A (exec (.AugAssign t op e p) env) Q E s := by
  refine bindK h fun q hq h => iteK h fun hk h => bindK h fun a ha h => bindK h fun b hb h => bindK h fun c hc h => ?_
  rw [asName_eq hq]
  exact aug_case V.ev S (is_local hk) (oInt_eq ha) (oInt_eq hb) hc (post_of h hQ)
theorem app_step {e : Expr} {p : Pos} (h : exApp (fun e => ev call n e m) m e = some (f, m')) : wpAny (model prog w) A (exec (.Expr e p) env) Q E s := by
  refine bindK h fun q hq h => iteK h fun hc h => andK hc fun hc c3 => andK hc fun c1 c2 => bindK h fun l hl h => bindK h fun a ha h => iteK h fun hlen h => ?_
  obtain ⟨he, hline⟩ := methForm_eq hq
  rw [he]
  exact append_case V.ev S c1 (is_local c2) (List.contains_iff_mem.mp c3) hline (oList_eq hl) ha hlen (post_of h hQ)
theorem del_step {t : Expr} {p : Pos} (h : exDel (fun e => ev call n e m) m t = some (f, m')) : wpAny (model prog w) A (exec (.Delete [t] p) env) Q E s := by
  refine bindK h fun q hq h => bindK h fun y hy h => iteK h fun hc h => andK hc fun hc c3 => andK hc fun c1 c2 => bindK h fun l hl h => bindK h fun k hk h => iteK h fun hlen h => bindK h fun r hr h => ?_
  rw [asSub_eq hq, asName_eq hy]
  obtain ⟨j, hj, hr, hf⟩ := delAt_eq hr
  rw [← hr] at h
  exact del_case (j := j) V.ev S c1 (is_local c2) (List.contains_iff_mem.mp c3) (oList_eq hl) (oInt_eq hk) hf hj hlen (post_of h hQ)
theorem for_step (X : ExsOk prog w mg mb defs hG A call gen n) (H : HG prog w mg mb defs hG A gen) (Rm : Room A d) {tgt iter : Expr} {body : List Stmt} {p : Pos} (h : exFor (fun e => ev call n e m) gen (turnF call gen n tgt body) iter m = some (f, m')) : wpAny (model prog w) A (exec (.For tgt iter body [] p) env) Q E s := by
  refine elimK h (fun q hq h => iteK h fun hc h => andK hc fun hc c3 => andK hc fun c1 c2 => bindK h fun r hr h => bindK hr fun v hv hg => ?_) fun _ h => iteK h fun hc h => bindK h fun r hr h => bindK hr fun v hv hr => bindK hr fun it hi hr => iteK hr fun _ hr => ?_
  · rw [genCall_eq hq]
    exact forgen_case X V.ev H Rm S c1 (beq_iff_eq.mp c2) hv hg (orK c3 .inl .inr) h hQ
  · rw [← Option.some.inj hr] at h
    exact for_case X V.ev Rm S hv hi (orK hc .inl .inr) h hQ
end forms
theorem ex_step (X : ExsOk prog w mg mb defs hG A call gen n) (V : AllOk prog w mg mb defs hG A call n) (V' : ∀ k, AllOk prog w mg mb defs hG A call k) (H : HG prog w mg mb defs hG A gen) (Rm : Room A d) : ExOk prog w mg mb defs hG A call gen (n + 1) := by
  intro st m f m' env σ B s₀ s Q E h S hQ
  cases st with
  | Assign ts e p =>
    refine bindK h fun t ht h => ?_
    rw [one_eq ht]
    refine elimK h (fun q hq h => ?_) fun _ h => elimK h (fun q hq h => bindK h fun es hes h => ?_) fun _ h => bindK h fun q hq h => ?_
    · rw [asName_eq hq]; exact name_case V S hQ V' h
    · rw [asTup_eq hq, asTup_eq hes]; exact tup_case V S hQ Rm h
    · rw [asSub_eq hq]; exact item_assign V S hQ h
  | AugAssign t op e p => exact aug_step V S hQ h
  | If t a b p =>
    refine bindK h fun c ht h => wpAny_If (V.tr _ _ _ _ _ _ _ ht S.sg S.e fun s₁ x₁ => ?_)
    cases c <;> exact X _ _ _ _ _ _ _ _ _ _ _ h (S.ext x₁) hQ
  | For tgt iter body els p =>
    cases els with
    | cons => exact no_some h
    | nil => exact for_step V S hQ X H Rm h
  | Return e p =>
    refine bindK h fun e he h => bindK h fun v hv h => iteK h fun ho h => ?_
    obtain ⟨h1, h2⟩ := Prod.mk.inj (Option.some.inj h)
    rw [← h1, ← h2] at hQ
    rw [he]
    exact return_case V.ev S hv ho hQ
  | Expr e p => exact app_step V S hQ h
  | Delete ts p =>
    refine bindK h fun t ht h => ?_
    rw [one_eq ht]; exact del_step V S hQ h
  | Assert t msg p =>
    refine bindK h fun c ht h => iteK h fun hc h => ?_
    rw [hc] at ht
    exact wpAny_Assert_holds (V.tr _ _ _ _ _ _ _ ht S.sg S.e fun s₁ x₁ => ⟨rfl, post_of h hQ .next _ _ trivial (S.ext x₁)⟩)
  | Break p =>
    obtain ⟨rfl, rfl⟩ := Prod.mk.inj (Option.some.inj h)
    exact fun _ _ _ => hQ .brk _ _ trivial S
  | _ => exact no_some h

structure StOk (prog : Program) (w : World) (mg mb : Str → Option Value) (defs : List DefRec) (hG : Heap) (A : Around) (call : CallT) (gen : GenT) (n : Nat) : Prop where
  exs : ExsOk prog w mg mb defs hG A call gen n
  ex : ExOk prog w mg mb defs hG A call gen n
theorem st_ok (H : HC prog w mg mb defs hG A call) (HG : HG prog w mg mb defs hG A gen) (Rm : Room A (d + 1)) : ∀ n, StOk prog w mg mb defs hG A call gen n
  | 0 => ⟨fun _ _ _ _ _ _ _ _ _ _ _ h => by exact no_some h, fun _ _ _ _ _ _ _ _ _ _ _ h => by exact no_some h⟩
  | n + 1 => let X := st_ok H HG Rm n; ⟨exs_step X.exs X.ex, ex_step X.exs (all_ok H Rm n) (all_ok H Rm) HG Rm⟩
end Mine
end
section
open PySem PySem.W PyProof.Rows PySem.Calls Builtin.Str PySem.Spec
namespace Mine
theorem filterMap_same {α β : Type} {f g : α → Option β} : ∀ {l : List α}, (∀ n ∈ l, f n = g n) → l.filterMap f = l.filterMap g
  | [], _ => rfl
  | a :: r, h => by
    rw [List.filterMap_cons, List.filterMap_cons, h a (List.mem_cons_self ..), filterMap_same fun n hn => h n (List.mem_cons_of_mem _ hn)]
theorem zip_lookup : ∀ {names : List Str} {xs : List Value} {n : Str}, names.length = xs.length → n ∈ names → ((names.zip xs).lookup n).isSome = true
  | [], _, n, _, h => by simp at h
  | a :: r, [], n, hl, h => by simp at hl
  | a :: r, x :: xs, n, hl, h => by
    rw [List.zip_cons_cons, List.lookup_cons]
    cases e : n == a with
    | true => rfl
    | false =>
      rcases List.mem_cons.mp h with rfl | h
      · simp at e
      · exact zip_lookup (by simpa using hl) h
theorem filterMap_zip : ∀ {names : List Str} {xs : List Value}, names.length = xs.length → names.Nodup → names.filterMap (fun n => ((names.zip xs).lookup n).map (n, ·)) = names.zip xs
  | [], [], _, _ => rfl
  | [], _ :: _, h, _ => by simp at h
  | _ :: _, [], h, _ => by simp at h
  | a :: r, x :: xs, hl, hn => by
    obtain ⟨h1, h2⟩ := List.nodup_cons.mp hn
    rw [List.zip_cons_cons, List.filterMap_cons, List.lookup_cons]
    simp only [beq_self_eq_true, Option.map_some]
    have : r.filterMap (fun n => (List.lookup n ((a, x) :: r.zip xs)).map (n, ·)) = r.filterMap (fun n => ((r.zip xs).lookup n).map (n, ·)) := by
      refine filterMap_same fun n hm => ?_
      rw [List.lookup_cons]
      have : (n == a) = false := by rw [beq_eq_false_iff_ne]; intro e; exact h1 (e ▸ hm)
      rw [this]
    rw [this, filterMap_zip (by simpa using hl) h2]
theorem bind_ok {name : Str} {as : List Arg} {body : List Stmt} {scope : Scope} {pm cd doc : Value} {xs : List Value} (h : as.length = xs.length) (hnd : (as.map (·.arg)).Nodup) :
    bindArgs (docDef name ⟨[], as, none, [], [], none, []⟩ body scope pm cd doc) ⟨xs, []⟩ = pure ((as.map (·.arg)).zip xs) := by
  have hl : (as.map (·.arg)).length = xs.length := by simpa using h
  have hm : (((as.map (·.arg)).take as.length).filter fun n => (((as.map (·.arg)).zip xs).lookup n).isNone) = [] := by
    rw [List.filter_eq_nil_iff]
    intro n hn
    have := zip_lookup hl (List.mem_of_mem_take hn)
    cases e : ((as.map (·.arg)).zip xs).lookup n with
    | none => rw [e] at this; cases this
    | some v => simp
  have hs : seqItems? .none = pure none := rfl
  unfold bindArgs docDef
  simp only [List.map_nil, List.nil_append, List.forIn_nil, pure_bind, hs, List.length_nil]
  have hgt : decide (xs.length > as.length) = false := by simp; omega
  simp only [Option.getD_none, List.drop_nil, Nat.sub_zero, List.length_nil, Option.isNone_none, Bool.and_true, List.length_map, hgt, Bool.false_eq_true, if_false, hm, List.isEmpty_nil, Bool.not_true, List.zip_nil_right, List.forIn_nil, pure_bind, List.append_nil]
  rw [filterMap_zip hl hnd]

variable {prog : Program} {w : World}
variable {mg mb : Str → Option Value} {defs : List DefRec} {hG : Heap} {A : Around} {E : Value → Shared → Prop} {s₀ s s' : Shared} {d n : Nat} {B : Base} {env : Env} {m : ME} {σ : Str → Option Value} {call : CallT} {gen : GenT}

theorem binds_zip : ∀ {as : List Arg} {vs : List V} {bs : List (Str × V)}, binds as vs = some bs → as.length = vs.length ∧ bs = (as.map (·.arg)).zip vs
  | [], [], bs, h => ⟨rfl, (Option.some.inj h).symm⟩
  | [], _ :: _, bs, h => no_some h
  | _ :: _, [], bs, h => no_some h
  | a :: r, v :: vs, bs, h => mapK h fun b hb e => ⟨congrArg Nat.succ (binds_zip hb).1, e ▸ congrArg ((a.arg, v) :: ·) (binds_zip hb).2⟩

theorem bindL_off {k : Str → Option NameKind} : ∀ {bs : List (Str × Value)} {m : Str → Option Value} {x : Str}, x ∉ bs.map (·.1) → bindL k bs m x = m x
  | [], m, x, _ => rfl
  | (n, v) :: r, m, x, h => by
    simp only [List.map_cons, List.mem_cons, not_or] at h
    unfold bindL
    rw [bindL_off h.2]
    split
    · simp [h.1]
    · rfl
theorem bindC_off {k : Str → Option NameKind} : ∀ {bs : List (Str × Value)} {m : Str → Option Value} {x : Str}, x ∉ bs.map (·.1) → bindC k bs m x = m x
  | [], m, x, _ => rfl
  | (n, v) :: r, m, x, h => by
    simp only [List.map_cons, List.mem_cons, not_or] at h
    unfold bindC
    rw [bindC_off h.2]
    split
    · rfl
    · simp [h.1]
theorem bindL_at {k : Str → Option NameKind} : ∀ {names : List Str} {xs : List Value} {m : Str → Option Value} {x : Str}, names.Nodup → k x = some .local → x ∈ names → names.length = xs.length → bindL k (names.zip xs) m x = (names.zip xs).lookup x
  | [], _, m, x, _, _, h, _ => by simp at h
  | _ :: _, [], m, x, _, _, _, h => by simp at h
  | a :: r, v :: xs, m, x, hn, hk, hx, hl => by
    obtain ⟨h1, h2⟩ := List.nodup_cons.mp hn
    rw [List.zip_cons_cons, List.lookup_cons]
    unfold bindL
    cases e : x == a with
    | true =>
      have hxa := beq_iff_eq.mp e
      subst hxa
      rw [bindL_off, if_pos hk]
      · simp
      · intro h
        obtain ⟨p, hp, rfl⟩ := List.mem_map.mp h
        exact h1 (List.of_mem_zip hp).1
    | false =>
      rcases List.mem_cons.mp hx with rfl | hx
      · simp at e
      · exact bindL_at h2 hk hx (by simpa using hl)
theorem bindC_at {k : Str → Option NameKind} : ∀ {names : List Str} {xs : List Value} {m : Str → Option Value} {x : Str}, names.Nodup → k x = some .cell → x ∈ names → names.length = xs.length → bindC k (names.zip xs) m x = (names.zip xs).lookup x
  | [], _, m, x, _, _, h, _ => by simp at h
  | _ :: _, [], m, x, _, _, _, h => by simp at h
  | a :: r, v :: xs, m, x, hn, hk, hx, hl => by
    obtain ⟨h1, h2⟩ := List.nodup_cons.mp hn
    rw [List.zip_cons_cons, List.lookup_cons]
    unfold bindC
    cases e : x == a with
    | true =>
      have hxa := beq_iff_eq.mp e
      subst hxa
      rw [bindC_off, if_neg (by rw [hk]; decide)]
      · simp
      · intro h
        obtain ⟨p, hp, rfl⟩ := List.mem_map.mp h
        exact h1 (List.of_mem_zip hp).1
    | false =>
      rcases List.mem_cons.mp hx with rfl | hx
      · simp at e
      · exact bindC_at h2 hk hx (by simpa using hl)

theorem cellsFrom_some : ∀ {names : List (Str × NameKind)} {k : Nat} {acc : List (Str × Addr)} {x : Str}, (x, NameKind.cell) ∈ names ∨ (acc.lookup x).isSome = true → ((cellsFrom k names acc).lookup x).isSome = true
  | [], k, acc, x, h => by rcases h with h | h; · simp at h
                           · exact h
  | (y, q) :: r, k, acc, x, h => by
    unfold cellsFrom
    by_cases hq : (q == NameKind.cell) = true
    · rw [if_pos hq]
      refine cellsFrom_some ?_
      by_cases hxy : x = y
      · subst hxy; right; simp
      · have hb : (x == y) = false := beq_eq_false_iff_ne.mpr hxy
        rcases h with h | h
        · left
          rcases List.mem_cons.mp h with e | e
          · cases e; exact absurd rfl hxy
          · exact e
        · right; rw [List.lookup_cons, hb]; exact h
    · rw [if_neg hq]
      refine cellsFrom_some ?_
      rcases h with h | h
      · left
        rcases List.mem_cons.mp h with e | e
        · cases e; simp at hq
        · exact e
      · exact .inr h

theorem zip_look {h : Heap} {xs : List Value} {vs : List V} (H : HasVs prog w h xs vs) : ∀ {names : List Str} {x : Str} {v : V}, (names.zip vs).lookup x = some v → ∃ mv, (names.zip xs).lookup x = some mv ∧ HasV prog w h mv v := by
  induction H with
  | nil => intro names x v e; rw [List.zip_nil_right] at e; cases e
  | @cons y u xs vs h1 h2 ih =>
    intro names x v e
    cases names with
    | nil => rw [List.zip_nil_left] at e; cases e
    | cons a r =>
      rw [List.zip_cons_cons, List.lookup_cons] at e ⊢
      cases q : x == a with
      | true => rw [q] at e; cases e; exact ⟨y, rfl, h1⟩
      | false => rw [q] at e; exact ih e
theorem look_mem {names : List Str} {xs : List Value} {x : Str} {v : Value} (h : (names.zip xs).lookup x = some v) : v ∈ xs := (List.of_mem_zip (mem_of_lookup h)).2
theorem hasVs_mem {h : Heap} {xs : List Value} {vs : List V} (H : HasVs prog w h xs vs) {x : Value} (hx : x ∈ xs) : ∃ v, HasV prog w h x v := by
  induction H with
  | nil => cases hx
  | @cons y u xs vs h1 h2 ih =>
    rcases List.mem_cons.mp hx with e | e
    · exact ⟨_, e ▸ h1⟩
    · exact ih e
end Mine
end
section
open PySem PySem.W PyProof.Rows PySem.Calls Builtin.Str PySem.Spec
namespace Mine
variable {prog : Program} {w : World}
variable {mg mb : Str → Option Value} {defs : List DefRec} {hG : Heap} {A : Around} {E : Value → Shared → Prop} {s₀ s s' : Shared} {d n : Nat} {B : Base} {env : Env} {m : ME} {σ : Str → Option Value} {call : CallT} {gen : GenT}

noncomputable abbrev Fl.out (f : Fl) : V := flV f

theorem env_cells1 {scope : Scope} {globals : Addr} {nm : Str} {v : Value} {r : List (Str × Value)} {qual : Str} {func : Option Addr} {code : Value} {builtins : Addr} {E : Value → Shared → Prop} {Q : Env → Shared → Prop}
    (hk : scope.kind = .function) (hloc : scope.names.lookup nm = some .local)
    (hkind : ∀ x ∈ (nm, v) :: r, scope.names.lookup x.1 = some .local ∨ (scope.names.lookup x.1 = some .cell ∧ ((cellsFrom (s.heap.objs.size + 1) scope.names []).lookup x.1).isSome = true))
    (hQ : ∀ env, env = newEnv scope s.heap.objs.size globals (cellsFrom (s.heap.objs.size + 1) scope.names []) qual func code none builtins →
      ∀ s', InCallC s env.locals (bindL env.kindOf ((nm, v) :: r) fun _ => none) env.cells (bindC env.kindOf ((nm, v) :: r) fun _ => none) s' → 0 < s'.toks → Q env s') :
    wpAny (model prog w) A (newFunctionEnv scope globals [] ((nm, v) :: r) qual func code none builtins) Q E s := by
  simp only [newFunctionEnv, Option.isSome_none, Bool.false_eq_true, if_false]
  refine wpAny_bind (wpAny_alloc ?_)
  refine wpAny_bind (wpAny_layCells _ (fun name kind cells => by cases hkc : kind == NameKind.cell <;> simp) _ _ _ _ ?_)
  have ok := cellsFrom_ok scope.names (s.heap.push { cls := .type "frame", data := .dict #[] }) (s.heap.objs.size + 1) [] ⟨fun _ _ hm => (nomatch hm), List.Pairwise.nil⟩ (by rw [Heap.size_push]; exact Nat.le_refl _)
  rw [Heap.size_push] at ok
  rw [show ({ s with heap := s.heap.push { cls := .type "frame", data := .dict #[] } } : Shared).heap.objs.size = s.heap.objs.size + 1 from Heap.size_push ..]
  obtain ⟨env, henv⟩ : ∃ env, newEnv scope s.heap.objs.size globals (cellsFrom (s.heap.objs.size + 1) scope.names []) qual func code none builtins = env := ⟨_, rfl⟩
  have hkn : ∀ y, env.kindOf y = scope.names.lookup y := fun y => by rw [← henv]; rfl
  have hsk : env.scope.kind = .function := by rw [← henv]; exact hk
  have X0 : InCallC s env.locals (fun _ => none) env.cells (fun _ => none) { s with heap := pushCells (s.heap.push { cls := .type "frame", data := .dict #[] }) scope.names } := by
    rw [← henv]
    exact ⟨⟨⟨_, _, rfl⟩, (Heap.Ns.new s.heap (.type "frame")).keeps (pushCells_keeps _ _), fun b o e => pushCells_keeps _ _ b o (Heap.get?_push_of_some _ e), Nat.le_refl _⟩,
      fun n c hc => (ok.empty n c (mem_of_lookup hc)).1, ok.apart, fun n c hm => (ok.empty n c hm).2⟩
  have go : wpAny (model prog w) A (forIn ((nm, v) :: r) PUnit.unit fun x _ => do storeName env x.1 x.2; pure (ForInStep.yield PUnit.unit)) (fun _ s' => Q env s') E { s with heap := pushCells (s.heap.push { cls := .type "frame", data := .dict #[] }) scope.names } := by
    rw [List.forIn_cons]
    refine wpAny_bind (wpAny_bind (wpAny_storeName_local ((hkn nm).trans hloc) X0.toInCall.ns (fun h' hn' hs' => wpAny_pure ?_) (by simp [hsk])))
    have X1 : InCallC s env.locals (fun y => if y = nm then some v else none) env.cells (fun _ => none) { s with heap := h', toks := s.toks + 1 } := by
      refine ⟨⟨⟨h', _, rfl⟩, hn', fun b o e => ?_, X0.toInCall.fresh⟩, fun k c hc => ?_, X0.apart, X0.above⟩
      · exact hs'.extBut b o (Nat.ne_of_lt (Nat.lt_of_lt_of_le (Heap.lt_size e) X0.toInCall.fresh)) (X0.toInCall.keep b o e)
      · exact (X0.cell k c hc).sameBut hs' (Nat.ne_of_gt (X0.above k c (mem_of_lookup hc)))
    refine wpAny_with_toks (n := s.toks + 1) (Nat.le_refl _) (wpAny_bindParams (s₀ := s) _ (fun _ _ _ => rfl) hsk r _ _ _ _ X1 (fun y hy => ?_) fun s' X htk => ?_)
    · rw [hkn, ← henv]; exact hkind y (List.mem_cons_of_mem _ hy)
    · refine hQ env henv.symm s' ?_ (Nat.lt_of_lt_of_le (Nat.succ_pos _) htk)
      unfold bindL bindC
      rw [if_pos ((hkn nm).trans hloc), if_pos ((hkn nm).trans hloc)]
      exact X
  refine wpAny_bind (m := forIn ((nm, v) :: r) PUnit.unit _) ?_
  subst henv
  exact wpAny_mono go (fun _ s' h => wpAny_pure h) fun _ _ e => e

theorem call_cellsT {R : Result → Shared → Prop} {name : Str} {params : Arguments} {body : List Stmt} {scope : Scope}
    {pm cd doc : Value} {a : Addr} {o : Obj} {args : List Value} {binds : List (Str × Value)}
    (hroom : A.depth < recursionLimit) (ho : s.heap.get? a = some o) (hdata : o.data = .func (Calls.docDef name params body scope pm cd doc)) (hlim : s.heap.NoLimit) (hcd : s.heap.CodeRec cd name)
    (hbind : bindArgs (Calls.docDef name params body scope pm cd doc) ⟨args, []⟩ = pure binds)
    (hkind : ∀ x ∈ binds, scope.names.lookup x.1 = some .local ∨ (scope.names.lookup x.1 = some .cell ∧ ((cellsFrom (s.heap.objs.size + 1) scope.names []).lookup x.1).isSome = true))
    (hpos : 0 < s.toks ∨ ∃ nm v r, binds = (nm, v) :: r ∧ scope.names.lookup nm = some .local)
    (h : ∀ h₁ tk, s.toks ≤ tk → 0 < tk → Fr s.heap s.heap.objs.size h₁ (bindL (envOfC name scope s.heap.objs.size a cd).kindOf binds fun _ => none) →
      Cl s.heap.objs.size (cellsFrom (s.heap.objs.size + 1) scope.names []) h₁ (bindC (envOfC name scope s.heap.objs.size a cd).kindOf binds fun _ => none) →
      wpAny (model prog w) (A.deeper (envOfC name scope s.heap.objs.size a cd)) (execs body (envOfC name scope s.heap.objs.size a cd))
        (fun f s' => R (.ok (.ret (match f with | .ret v => v | _ => .none))) s')
        (fun e s' => wpAny (model prog w) (A.deeper (envOfC name scope s.heap.objs.size a cd)) (leaving (envOfC name scope s.heap.objs.size a cd) e)
          (fun _ s'' => R (.error e) s'') (fun e' s'' => R (.error e') s'') s') { s with heap := h₁, toks := tk })
    (hco : scope.isCoroutine = false) (hgen : scope.isGenerator = false) (hk : scope.kind = .function) :
    codeAny (model prog w) A (.call (.ref a) ⟨args, []⟩) R s := by
  refine codeAny_call_function (fd := Calls.docDef name params body scope pm cd doc) hroom ho hdata hco hgen rfl hcd ?_
  rw [hbind]
  have fin : ∀ env, env = newEnv scope s.heap.objs.size mainGlobals (cellsFrom (s.heap.objs.size + 1) scope.names []) (name ++ ".<locals>.") (some a) cd none builtinsNs →
      ∀ s', InCallC s env.locals (bindL env.kindOf binds fun _ => none) env.cells (bindC env.kindOf binds fun _ => none) s' → 0 < s'.toks → s.toks ≤ s'.toks → s'.heap.NoLimit ∧ codeAny (model prog w) A (.func body env) R s' := by
    intro env he s' X hp htk
    subst he
    refine ⟨hlim.keeps X.toInCall.keep, codeAny_func ?_⟩
    obtain ⟨h₁, tk, rfl, _⟩ := X.done
    exact h h₁ tk htk hp ⟨X.toInCall.ns, X.toInCall.keep, X.toInCall.fresh⟩ ⟨X.cell, X.apart, X.above⟩
  refine wpAny_pure (wpAny_with_toks (Nat.le_refl s.toks) ?_)
  rcases hpos with hp | ⟨nm, v, r, rfl, hl⟩
  · exact wpAny_newFunctionEnv_cells hk hkind fun env he s' X htk => fin env he s' X (Nat.lt_of_lt_of_le hp htk) htk
  · exact env_cells1 hk hl hkind fun env he s' X hp htk => fin env he s' X hp htk

/-- the way into a def of plain parameters -/
theorem def_enter (Rm : Room A (d + 1)) {r : DefRec} {f : Str} {vs : List V} {bs : List (Str × V)} {tok : List Str} {lit : Bool}
    (hp : plainDef f r = true) (hb : binds r.params.args vs = some bs)
    {a : Addr} {o : Obj} {pm code doc : Value} {xs : List Value} {Q : Value → Shared → Prop} (G : Sg0 mg mb defs hG s) (hpos : 0 < s.toks ∨ ∃ p ps, r.params.args.map (·.arg) = p :: ps ∧ r.scope.names.lookup p = some .local) (ho : s.heap.get? a = some o) (hdat : o.data = .func (docDef r.name r.params r.body r.scope pm code doc)) (hrec : s.heap.CodeRec code r.name)
    (hxs : HasVs prog w s.heap xs vs) (htok : ∀ x ∈ tok, r.scope.names.lookup x = some .local → ∃ z t, ((r.params.args.map (·.arg)).zip xs).lookup x = some (.str z t) ∧ t ≠ 0 ∧ t < s.toks)
    (hbody : ∀ env σ B s', env.scope = r.scope → env.frame = some env.locals → (∀ b, B.prot b → ∃ o, s.heap.get? b = some o) → SRel prog w mg mb defs hG s B env { kinds := r.scope.names, val := bs, tok := tok, lit := lit } σ s' →
      wpAny (model prog w) (A.deeper env) (execs r.body env) (fun f s'' => Q (match f with | .ret v => v | _ => .none) s'') (fun e s'' => wpAny (model prog w) (A.deeper env) (leaving env e) (fun _ s₃ => E e s₃) (fun e' s₃ => E e' s₃) s'') s') :
    wpAny (model prog w) A (PySem.call (.ref a) xs) Q E s := by
  obtain ⟨hlen, rfl⟩ := binds_zip hb
  have hxl := hxs.length
  simp only [plainDef, Bool.and_eq_true, Bool.not_eq_true', List.isEmpty_iff, Option.isNone_iff_eq_none, beq_iff_eq, List.all_eq_true, Bool.or_eq_true, decide_eq_true_eq, beq_eq_false_iff_ne] at hp
  obtain ⟨⟨⟨⟨⟨⟨⟨⟨⟨⟨⟨⟨p1, p2⟩, p3⟩, p4⟩, p5⟩, p6⟩, p7⟩, p8⟩, p9⟩, p10⟩, p11⟩, p12⟩, p13⟩ := hp
  have hpar : r.params = ⟨[], r.params.args, none, [], [], none, []⟩ := by
    cases hpp : r.params
    rw [hpp] at p1 p2 p3 p4 p5 p6
    simp only at p1 p2 p3 p4 p5 p6
    subst p1; subst p2; subst p3; subst p4; subst p5; subst p6
    rfl
  have hal : r.params.args.length = xs.length := by omega
  have hnl : (r.params.args.map (·.arg)).length = xs.length := by simpa using hal
  have hbind : bindArgs (docDef r.name r.params r.body r.scope pm code doc) ⟨xs, []⟩ = pure ((r.params.args.map (·.arg)).zip xs) := by
    rw [hpar]; exact bind_ok hal p11
  have hdep : A.depth < recursionLimit := by have := Rm.dep; omega
  have hcellS : ∀ x, r.scope.names.lookup x = some .cell → ((cellsFrom (s.heap.objs.size + 1) r.scope.names []).lookup x).isSome = true := fun x hx => cellsFrom_some (.inl (mem_of_lookup hx))
  have hparam : ∀ x ∈ r.params.args.map (·.arg), r.scope.names.lookup x = some .local ∨ r.scope.names.lookup x = some .cell := by
    intro x hx
    obtain ⟨q, hq, rfl⟩ := List.mem_map.mp hx
    exact p12 q hq
  refine wpAny_call (call_cellsT hdep ho hdat G.glb.nl hrec hbind (fun x hx => ?_) ?_ (fun h₁ tk htk htp F X => ?_) p7 p8 p9)
  · have hx1 : x.1 ∈ r.params.args.map (·.arg) := (List.of_mem_zip (a := x.1) (b := x.2) hx).1
    rcases hparam x.1 hx1 with h | h
    · exact .inl h
    · exact .inr ⟨h, hcellS _ h⟩
  · refine hpos.imp id fun ⟨p, ps, hp, hl⟩ => ?_
    cases xs with
    | nil => rw [hp] at hnl; cases hnl
    | cons x xs => exact ⟨p, x, ps.zip xs, by rw [hp]; rfl, hl⟩
  · generalize henv : envOfC r.name r.scope s.heap.objs.size a code = env at *
    have e1 : env.scope = r.scope := by rw [← henv]; rfl
    have e2 : env.locals = s.heap.objs.size := by rw [← henv]; rfl
    have e3 : env.cells = cellsFrom (s.heap.objs.size + 1) r.scope.names [] := by rw [← henv]; rfl
    have e4 : ∀ x, env.kindOf x = r.scope.names.lookup x := fun x => congrArg (fun s : Scope => List.lookup x s.names) e1
    have Rm' : Room (A.deeper env) d := Rm.deeper env
    let σ : Str → Option Value := fun x => if r.scope.names.lookup x = some .local then bindL env.kindOf ((r.params.args.map (·.arg)).zip xs) (fun _ => none) x
      else if r.scope.names.lookup x = some .cell then bindC env.kindOf ((r.params.args.map (·.arg)).zip xs) (fun _ => none) x else none
    have hσ : ∀ x, σ x = if x ∈ r.params.args.map (·.arg) then ((r.params.args.map (·.arg)).zip xs).lookup x else none := by
      intro x
      show (if _ then _ else _) = _
      by_cases hx : x ∈ r.params.args.map (·.arg)
      · rw [if_pos hx]
        rcases hparam x hx with h | h
        · rw [if_pos h, bindL_at p11 ((e4 x).trans h) hx hnl]
        · rw [if_neg (by rw [h]; decide), if_pos h, bindC_at p11 ((e4 x).trans h) hx hnl]
      · rw [if_neg hx]
        have hoff : x ∉ ((r.params.args.map (·.arg)).zip xs).map (·.1) := by
          intro h
          obtain ⟨q, hq, rfl⟩ := List.mem_map.mp h
          exact hx (List.of_mem_zip (a := q.1) (b := q.2) hq).1
        rw [bindL_off hoff, bindC_off hoff]
        split
        · rfl
        · split <;> rfl
    have hσref : ∀ x b, σ x = some (.ref b) → ∃ o, s.heap.get? b = some o := by
      intro x b e
      rw [hσ] at e
      refine iteK e fun _ e => ?_
      obtain ⟨v, hv⟩ := hasVs_mem hxs (look_mem e)
      exact hv.there
    have hxx : Ext s { s with heap := h₁, toks := tk } := .of F.keep htk
    have S : SRel prog w mg mb defs hG s { prot := fun b => ∃ o, s.heap.get? b = some o, hid := fun b => b = s.heap.objs.size ∨ ∃ x, (cellsFrom (s.heap.objs.size + 1) r.scope.names []).lookup x = some b, ref := s.heap, gn := s.gens.size, gref := s.gens } env
        { kinds := r.scope.names, val := (r.params.args.map (·.arg)).zip vs, tok := tok, lit := lit } σ { s with heap := h₁, toks := tk } := {
      g0 := G
      tp := htp
      x0 := hxx
      pb := fun b o e => ⟨o, e⟩
      kept := ⟨fun b o _ e => hxx.heap b o e, Nat.le_refl _, fun _ _ => rfl⟩
      names := by rw [e1]
      kind := by rw [e1]; exact p9
      globals := by rw [← henv]; rfl
      builtins := by rw [← henv]; rfl
      ns := ⟨_, e2 ▸ F.ns, fun x hx => (if_pos hx).symm⟩
      nofree := fun x hx => p10 _ (mem_of_lookup hx) rfl
      cells := fun x hx => by
        obtain ⟨c, hc⟩ := Option.isSome_iff_exists.mp (hcellS x hx)
        have hab := X.above x c (mem_of_lookup hc)
        refine ⟨c, e3 ▸ hc, ?_, .inr ⟨x, hc⟩, fun ⟨o, ho⟩ => absurd (Heap.lt_size ho) (Nat.not_lt.mpr (Nat.le_of_lt hab)), by rw [e2]; exact Nat.ne_of_gt hab⟩
        have := X.cell x c hc
        have hs : σ x = bindC env.kindOf ((r.params.args.map (·.arg)).zip xs) (fun _ => none) x := by
          show (if _ then _ else _) = _
          rw [if_neg (by rw [hx]; decide), if_pos hx]
        rw [hs]; exact this
      apart := fun x y c hxy hx hy hcx hcy => by
        rw [e3] at hcx hcy
        exact hxy (name_of_addr X.apart (mem_of_lookup hcx) (mem_of_lookup hcy))
      hidEx := fun b hb => by
        rcases hb with rfl | ⟨x, hx⟩
        · obtain ⟨o, es, ep, h1, _⟩ := F.ns; exact ⟨o, h1⟩
        · obtain ⟨o, ho, _⟩ := X.cell x b hx; exact ⟨o, ho⟩
      protEx := fun b ⟨o, ho⟩ => ⟨o, hxx.heap b o ho⟩
      loc := ⟨.inl e2, fun h => by rw [e2] at h; exact gone (get_size _) h⟩
      vals := fun x v hk hv => by
        change ((r.params.args.map (·.arg)).zip vs).lookup x = some v at hv
        obtain ⟨mv, h1, h2⟩ := zip_look hxs hv
        refine ⟨mv, ?_, h2.ext hxx⟩
        rw [hσ, if_pos (List.of_mem_zip (mem_of_lookup h1)).1]; exact h1
      refs := fun x b e => by
        obtain ⟨o, ho⟩ := hσref x b e
        refine ⟨fun hb => ?_, o, hxx.heap b o ho⟩
        have hlt := Heap.lt_size ho
        rcases hb with hb | ⟨y, hy⟩
        · rw [hb] at hlt; exact Nat.lt_irrefl _ hlt
        · exact absurd (X.above y b (mem_of_lookup hy)) (Nat.not_lt.mpr (Nat.le_of_lt hlt))
      own := fun x b hx e => by cases hx
      tok := fun x hx hk => by
        obtain ⟨z, t, h1, h2, h3⟩ := htok x hx hk
        refine ⟨z, t, ?_, h2, Nat.lt_of_lt_of_le h3 hxx.toks⟩
        rw [hσ, if_pos (List.of_mem_zip (mem_of_lookup h1)).1]; exact h1 }
    exact hbody env σ _ _ e1 (by rw [← henv]; rfl) (fun b h => h) S

/-- one def of plain parameters -/
theorem def_ok (H : ∀ A', Room A' d → HC prog w mg mb defs hG A' call) (Hg : ∀ A', Room A' d → HG prog w mg mb defs hG A' gen) (Rm : Room A (d + 1)) (hd : 1 ≤ d) {r : DefRec} {f : Str} {vs : List V} {bs : List (Str × V)} {fl : Fl} {m' : ME} {tok : List Str} {lit : Bool}
    (hp : plainDef f r = true) (hb : binds r.params.args vs = some bs) (hx : exs call gen n r.body { kinds := r.scope.names, val := bs, tok := tok, lit := lit } = some (fl, m'))
    {a : Addr} {o : Obj} {pm code doc : Value} {xs : List Value} {Q : Value → Shared → Prop} (G : Sg0 mg mb defs hG s) (hpos : 0 < s.toks ∨ ∃ p ps, r.params.args.map (·.arg) = p :: ps ∧ r.scope.names.lookup p = some .local) (ho : s.heap.get? a = some o) (hdat : o.data = .func (docDef r.name r.params r.body r.scope pm code doc)) (hrec : s.heap.CodeRec code r.name)
    (hxs : HasVs prog w s.heap xs vs) (htok : ∀ x ∈ tok, r.scope.names.lookup x = some .local → ∃ z t, ((r.params.args.map (·.arg)).zip xs).lookup x = some (.str z t) ∧ t ≠ 0 ∧ t < s.toks)
    (hQ : ∀ mv s', Ext s s' → HasV prog w s'.heap mv fl.out → Newly s mv → Q mv s') : wpAny (model prog w) A (PySem.call (.ref a) xs) Q E s := by
  refine def_enter (lit := lit) Rm hp hb G hpos ho hdat hrec hxs htok fun env σ B s' e1 ef hB S => ?_
  have Rm' : Room (A.deeper env) d := Rm.deeper env
  obtain ⟨d', rfl⟩ : ∃ d', d = d' + 1 := ⟨d - 1, by omega⟩
  refine (st_ok (H _ Rm') (Hg _ Rm') Rm' n).exs _ _ _ _ _ _ _ _ _ _ _ hx S fun fl' s' σ' hfl S' => ?_
  cases fl with
  | next =>
    cases fl' <;> first | exact hfl.elim | skip
    exact hQ _ _ S'.x0 rfl (fun _ e => Value.noConfusion e)
  | brk =>
    cases fl' <;> first | exact hfl.elim | skip
    exact hQ _ _ S'.x0 rfl (fun _ e => Value.noConfusion e)
  | ret v =>
    cases fl' <;> first | exact hfl.elim | skip
    exact hQ _ _ S'.x0 hfl.1 hfl.2
end Mine
end
section
open PySem PySem.W PyProof.Rows PySem.Calls Builtin.Str PySem.Spec
namespace Mine
variable {prog : Program} {w : World}
variable {mg mb : Str → Option Value} {defs : List DefRec} {hG : Heap} {A : Around} {E : Value → Shared → Prop} {s₀ s s' : Shared} {d n : Nat} {B : Base} {env : Env} {m : ME} {σ : Str → Option Value} {call : CallT} {gen : GenT}

theorem call_ok {c : Nat} (hc : 1 ≤ c) (hgen : ∀ A, Room A c → HG prog w mg mb defs hG A genF) :
    ∀ k A, Room A (k + c) → HC prog w mg mb defs hG A (callF defs k)
  | 0, A, Rm => ⟨fun f vs v h => by exact no_some h, fun f vs v h => by exact no_some h⟩
  | k + 1, A, Rm => by
    have ih := call_ok hc hgen k
    refine ⟨fun f vs v h => ?_, fun f vs v h a hmg s xs Q E G hxs htok hQ => ?_⟩
    · exact condK h (fun _ h => no_some h) fun _ h => bindK h fun r hr _ => ⟨r, List.mem_of_find?_eq_some hr, by simpa using List.find?_some hr⟩
    · refine condK h (fun _ h => no_some h) fun _ h => bindK h fun r hr h => iteK h fun hp h => bindK h fun bs hb h => bindK h fun q hx h => ?_
      have hname : r.name = f := by simpa using List.find?_some hr
      obtain ⟨a', o, pm, code, doc, hmg', ho, hdat, hrec⟩ := G.glb.fn r (List.mem_of_find?_eq_some hr)
      rw [hname, hmg] at hmg'
      obtain rfl := Value.ref.inj (Option.some.inj hmg')
      refine def_ok (d := k + c) (fun A' R' => ih A' R') (fun A' R' => hgen A' (R'.le (Nat.le_add_left _ _))) (Rm.le (Nat.le_of_eq (Nat.add_right_comm _ _ _))) (Nat.le_trans hc (Nat.le_add_left _ _)) hp hb hx G.zero (.inl G.tpos) ho hdat hrec hxs (fun x hx hloc => ?_) fun mv s' x' hmv hn => hQ mv s' x' (Option.some.inj h ▸ hmv) hn
      by_cases hf : (f == ("_law_hidden_ones" : Str)) = true
      · rw [if_pos hf] at hx
        obtain ⟨x0, x1, x2, t1, t2, rfl, h1, h2, h3, h4⟩ := htok (beq_iff_eq.mp hf)
        have hp' : (!(f == ("_law_hidden_ones" : Str)) || (three? (r.params.args.map (·.arg))).any hidArgs) = true := andK hp fun _ h => h
        rw [hf] at hp'
        have hp' : (three? (r.params.args.map (·.arg))).any hidArgs = true := hp'
        cases hq : three? (r.params.args.map (·.arg)) with
        | none => rw [hq] at hp'; exact no_item hp' rfl
        | some q =>
          rw [hq] at hp'
          obtain ⟨p, q1, q2⟩ := q
          refine andK hp' fun h5 e2 => andK h5 fun h5 e1 => andK h5 fun h5 h6 => ?_
          obtain rfl := beq_iff_eq.mp h5
          obtain rfl := beq_iff_eq.mp h6
          rw [three_eq hq]
          refine two_mem hx (fun e => ⟨x1, t1, ?_, h1, h2⟩) fun e => ⟨x2, t2, ?_, h3, h4⟩
          · subst e
            have e1 : (("first" : Str) == p) = false := by rw [Bool.not_eq_true', beq_eq_false_iff_ne] at e1; rw [beq_eq_false_iff_ne]; exact Ne.symm e1
            show List.lookup ("first" : Str) [(p, x0), (("first" : Str), .str x1 t1), (("second" : Str), .str x2 t2)] = _
            rw [List.lookup_cons, e1]; rfl
          · subst e
            have e2 : (("second" : Str) == p) = false := by rw [Bool.not_eq_true', beq_eq_false_iff_ne] at e2; rw [beq_eq_false_iff_ne]; exact Ne.symm e2
            have e3 : (("second" : Str) == ("first" : Str)) = false := by decide
            show List.lookup ("second" : Str) [(p, x0), (("first" : Str), .str x1 t1), (("second" : Str), .str x2 t2)] = _
            rw [List.lookup_cons, e2, List.lookup_cons, e3]; rfl
      · rw [if_neg hf] at hx
        exact (List.not_mem_nil hx).elim
end Mine
end
section
open PySem PySem.W PyProof.Rows PySem.Calls Builtin.Str PySem.Spec
open Sem (wp)
namespace Mine

section seg
variable {M : Model} {A : Around} {R : GenEnd} {Y : Protocol} {n : Nat} {s₀ : Shared} {c : Code} {fs : List Frame} {s : Shared} {env : Env}
  {K : Flow → Sem Fin} {H : Value → Sem Fin} {gd : Bool → Bool} {lv : List Value → List Value}

theorem seg_If {test : Expr} {body orelse : List Stmt} {pos : Pos}
    (h : wpAny M (A.over c fs) (PySem.isTrue test env (eval test env)) (fun b s' => Seg M A R Y n s₀ c ((execs (if b then body else orelse) env).wrap K H gd lv) fs s') (fun x s' => Seg M A R Y n s₀ c (H x) fs s') s) :
    Seg M A R Y n s₀ c ((exec (.If test body orelse pos) env).wrap K H gd lv) fs s := by
  rw [exec_If]
  show Seg M A R Y n s₀ c (.at pos fun _ => ((PySem.isTrue test env (eval test env) >>= fun b => if b = true then execs body env else execs orelse env)).wrap K H gd lv) fs s
  refine seg_at ?_
  rw [Sem.bind_eq_wrap', Sem.wrap_wrap]
  refine seg_wrap (wpAny_mono h (fun b s' hb => ?_) fun _ _ x => x)
  cases b <;> exact hb

theorem seg_For {target iter : Expr} {body orelse : List Stmt} {pos : Pos} (hs : ∀ x, foldedSetIterable iter env x = pure x)
    (h : wpAny M (A.over c fs) (eval iter env) (fun x s₁ => wpAny M (A.over c fs) (pyIter x) (fun it s₂ => ∀ p, Seg M A R Y n s₀ (.forLoop target it body orelse env) (M.den (.forLoop target it body orelse env))
      (.ret (fun r => ((match r with | .ok f => (.pure f : Sem Flow) | .error e => .raise e).onRaise fun (x : Value) => do
        if (← field x 1) == Value.none then unsupported "frame.own-activation:exception-without-traceback"
        setFlight x env.frame).wrap K H gd lv) none (gd false) (lv []) c p [] :: fs) s₂) (fun x s' => Seg M A R Y n s₀ c (H x) fs s') s₁) (fun x s' => Seg M A R Y n s₀ c (H x) fs s') s) :
    Seg M A R Y n s₀ c ((exec (.For target iter body orelse pos) env).wrap K H gd lv) fs s := by
  have e : exec (.For target iter body orelse pos) env = (standAt pos >>= fun _ => eval iter env >>= fun x => standAt iter.pos >>= fun _ => (holding [x] (pyIter x)) >>= fun it => runOwn (.forLoop target it body orelse env) env) := by
    rw [exec_For]
    simp only [hs, pure_bind]
  rw [e]
  show Seg M A R Y n s₀ c (.at pos fun _ => (eval iter env >>= fun x => standAt iter.pos >>= fun _ => (holding [x] (pyIter x)) >>= fun it => runOwn (.forLoop target it body orelse env) env).wrap K H gd lv) fs s
  refine seg_at ?_
  rw [Sem.bind_eq_wrap', Sem.wrap_wrap]
  refine seg_wrap (wpAny_mono h (fun x s₁ h₁ => ?_) fun _ _ x => x)
  show Seg M A R Y n s₀ c (.at iter.pos fun _ => ((holding [x] (pyIter x)) >>= fun it => runOwn (.forLoop target it body orelse env) env).wrap K H gd lv) fs s₁
  refine seg_at ?_
  rw [Sem.bind_eq_wrap', Sem.wrap_wrap]
  refine seg_wrap (wpAny_holding (wpAny_mono h₁ (fun it s₂ h₂ => ?_) fun _ _ x => x))
  exact seg_call h₂
end seg

section loop
variable {prog : Program} {w : World} {A : Around} {R : GenEnd} {Y : Protocol} {n : Nat} {s₀ : Shared} {fs : List Frame} {s : Shared} {env : Env}

/-- what follows a raise in a loop -/
noncomputable def loopH (env : Env) (x : Value) : Sem Fin := (do noteFrame x env; theTreesLotGoes x : Sem Unit).wrap (fun _ => .raise x) .raise id id

theorem seg_forLoop {target : Expr} {it : Value} {body orelse : List Stmt}
    (h : wpAny (model prog w) (A.over (.forLoop target it body orelse env) fs) (pyNext it) (fun r s₁ => match r with
      | none => Seg (model prog w) A R Y n s₀ (.forLoop target it body orelse env) (.pure (.again (.block orelse env))) fs s₁
      | some v => wpAny (model prog w) (A.over (.forLoop target it body orelse env) fs) (letOwnedTupleGo target it v) (fun _ s₂ => wpAny (model prog w) (A.over (.forLoop target it body orelse env) fs) (assign target env v) (fun _ s₃ =>
          Seg (model prog w) A R Y n s₀ (.forLoop target it body orelse env) ((execs body env).wrap (fun f => match f with
            | .next | .cont => .pure (.again (.forLoop target it body orelse env))
            | .brk => .pure (.done .next)
            | .ret v => .pure (.done (.ret v))) (loopH env) id id) fs s₃)
          (fun x s' => Seg (model prog w) A R Y n s₀ (.forLoop target it body orelse env) (loopH env x) fs s') s₂) (fun x s' => Seg (model prog w) A R Y n s₀ (.forLoop target it body orelse env) (loopH env x) fs s') s₁)
      (fun x s' => Seg (model prog w) A R Y n s₀ (.forLoop target it body orelse env) (loopH env x) fs s') s) :
    Seg (model prog w) A R Y n s₀ (.forLoop target it body orelse env) ((model prog w).den (.forLoop target it body orelse env)) fs s := by
  show Seg _ A R Y n s₀ _ ((forTurn target it body orelse env).onRaise (fun x => do noteFrame x env; theTreesLotGoes x)) fs s
  unfold forTurn
  rw [Sem.onRaise_eq_wrap]
  have hH : (fun e => (do noteFrame e env; theTreesLotGoes e : Sem Unit).bind fun _ => (.raise e : Sem Fin)) = loopH env := by
    funext e
    unfold loopH
    rw [Sem.bind_eq_wrap]
  rw [hH]
  show Seg _ A R Y n s₀ _ (.at target.pos fun _ => (((pyNext it).onRaise fun _ => standAt { target.pos with line := 0 }) >>= _).wrap .pure (loopH env) id id) fs s
  refine seg_at ?_
  rw [Sem.bind_eq_wrap', Sem.wrap_wrap]
  refine seg_wrap (wpAny_onRaise (wpAny_mono h (fun r s₁ h₁ => ?_) fun _ _ x => wpAny_standAt x))
  cases r with
  | none => exact h₁
  | some v =>
    dsimp only at h₁ ⊢
    rw [Sem.bind_eq_wrap', Sem.wrap_wrap]
    refine seg_wrap (wpAny_mono h₁ (fun _ s₂ h₂ => ?_) fun _ _ x => x)
    rw [Sem.bind_eq_wrap', Sem.wrap_wrap]
    refine seg_wrap (wpAny_mono h₂ (fun _ s₃ h₃ => ?_) fun _ _ x => x)
    rw [Sem.bind_eq_wrap', Sem.wrap_wrap]
    have key : ∀ (K1 : Flow → Sem Fin) (H1 : Value → Sem Fin), (∀ f, K1 f = (fun f => match f with
            | .next | .cont => .pure (.again (.forLoop target it body orelse env))
            | .brk => .pure (.done .next)
            | .ret v => .pure (.done (.ret v)) : Flow → Sem Fin) f) → (∀ e, H1 e = loopH env e) →
          Seg (model prog w) A R Y n s₀ (.forLoop target it body orelse env) ((execs body env).wrap K1 H1 id id) fs s₃ := by
      intro K1 H1 hK hH
      rw [funext hK, funext hH]
      exact h₃
    exact key _ _ (fun f => by cases f <;> rfl) (fun e => rfl)

theorem seg_block_nil {c : Code} (h : Seg (model prog w) A R Y n s₀ (.block [] env) (.pure (.done .next)) fs s) : Seg (model prog w) A R Y n s₀ c (.pure (.again (.block [] env))) fs s :=
  seg_again (c' := .block [] env) rfl h
end loop
end Mine
end
section
open PySem PySem.W PyProof.Rows PySem.Calls Builtin.Str PySem.Spec
open Sem (wp)
namespace Mine
variable {prog : Program} {w : World} {mg mb : Str → Option Value} {defs : List DefRec} {hG : Heap} {A : Around} {E : Value → Shared → Prop} {s s₀ s' : Shared}

noncomputable abbrev Chg (wr : List Addr) (s s' : Shared) : Prop := ExtX (fun b => b ∈ wr) s s'
noncomputable def Fra (wr ro : List Addr) (s s' : Shared) : Prop := ∀ b, b ∈ wr ∨ b ∈ ro → ∀ o, s.heap.get? b = some o → s'.heap.get? b = some o
theorem Fra.trans {wr ro : List Addr} {s s' s'' : Shared} (a : Fra wr ro s s') (b : Fra wr ro s' s'') : Fra wr ro s s'' := fun x hx o e => b x hx o (a x hx o e)

noncomputable def GY (prog : Program) (w : World) (mg mb : Str → Option Value) (defs : List DefRec) (hG : Heap) (items : List V) (ended : Bool) (wr ro : List Addr) : Protocol := fun k s₀ v s kap =>
  HasV prog w s.heap v (items.getD (items.length - 1 - k) (.at .none)) ∧ Chg wr s₀ s ∧ Sg mg mb defs hG s ∧ (∀ b, b ∈ wr ∨ b ∈ ro → ∃ o, s.heap.get? b = some o) ∧
    ∀ s'', (0 < k ∨ ended = true) → Sg mg mb defs hG s'' → Fra wr ro s s'' → kap (.send .none) s''
noncomputable def GR (wr : List Addr) : GenEnd := fun n s₀ r s₁ => r = .ok (.ret .none) ∧ (n = 0 ∧ Chg wr s₀ s₁)

theorem pyNext_fn {a : Addr} {g n : Nat} {gs : GenState} {P : Nat → Shared → Shared → Prop} {Y : Protocol} {Q : Option Value → Shared → Prop} (hh : A.handled = none)
    (hl : s.heap.NoLimit) (hroom : A.depth < recursionLimit) (hg : s.heap.IsGen a g) (hgs : s.gens[g]? = some gs)
    (hgo : gs.Goes (model prog w) A.in1 (fun n s₀ r s₁ => r = .ok (.ret .none) ∧ P n s₀ s₁) Y n (.send .none) (s.setGen g .running))
    (hY : ∀ v s₁ gs', gs'.bare = true → Y (n - 1) (s.setGen g .running) v s₁ (fun r' s'' => match n with
        | 0 => False
        | m + 1 => gs'.Goes (model prog w) A.in1 (fun n s₀ r s₁ => r = .ok (.ret .none) ∧ P n s₀ s₁) Y m r' s'') → Q (some v) (s₁.setGen g gs'))
    (hP : ∀ s₁, P n (s.setGen g .running) s₁ → ∀ h', (∀ b o, s₁.heap.get? b = some o → h'.get? b = some o) → Q none { s₁.setGen g .finished with heap := h' }) :
    wpAny (model prog w) A (pyNext (.ref a)) Q E s := by
  unfold pyNext
  refine wpAny_bind (wpAny_attempt (wpAny_callSpecial?_slot (name := Str.ofString "__next__") hg.typeIs slot_gen_next
    (wpAny_call_entry slot_gen_next hg.typeIs entry_gen_next ?_ (args_gen_next _))))
  show wpAny _ A.in1 (Builtin.Generator.genWake (.ref a) (.send .none)) _ _ s
  unfold Builtin.Generator.genWake
  refine wpAny_bind (wpAny_holding (wpAny_genNumber hg (wpAny_bind (wpAny_genState hgs ?_))))
  cases gs with
  | running => exact hgo.elim
  | finished => exact hgo.elim
  | _ =>
    refine wpAny_bind (wpAny_roomToWake hl hroom ?_)
    show wpAny _ A.in1 (.resume g (.send .none) [] _) _ _ s
    refine wpAny_resumeQ hgs hgo (fun x s₁ hx => ?_) (fun v s₁ gs' hb hv => ?_)
    · obtain ⟨rfl, hp⟩ := hx
      show wpAny _ A.in1 (newExc (.type "StopIteration") [] >>= _) _ _ _
      refine wpAny_bind ?_
      simp only [newExc, newTuple]
      refine wpAny_bind (wpAny_newObj_type ?_ (by size_fits))
      refine wpAny_bind (m := firstArgMember _ _) (wpAny_of_eq (a := Value.none) (by first | rfl | (simp only [firstArgMember]; rfl)) ?_)
      refine wpAny_newObj_type ?_ (by size_fits)
      simp only [raiseNew]
      refine wpAny_bind (wpAny_bind (wpAny_handled ?_))
      first | rw [show A.in1.handled = none from hh] | rw [hh]
      refine wpAny_throw ?_
      refine wpAny_bind (wpAny_isInstance (T := "StopIteration") (b := true) ⟨_, Heap.get?_push_size _ rfl, rfl⟩ isSubtype_stop ?_)
      exact wpAny_pure (hP s₁ hp _ fun b o hb => Heap.get?_push_of_some _ (Heap.get?_push_of_some _ hb))
    · exact wpAny_pure ⟨v, rfl, wpAny_pure (hY v s₁ gs' hb hv)⟩

/-- the state of a generator between two steps -/
noncomputable def GSt (prog : Program) (w : World) (mg mb : Str → Option Value) (defs : List DefRec) (hG : Heap) (A : Around) (items : List V) (ended : Bool) (a g L : Nat) (c : Code) (ro : List Addr) (Init : Shared → Prop) : List Addr → Nat → Shared → Prop := fun wr i s =>
  s.heap.IsGen a g ∧ (∀ b, b ∈ wr ∨ b ∈ a :: ro → ∃ o, s.heap.get? b = some o) ∧ a ∉ wr ∧ ∃ gs, s.gens[g]? = some gs ∧
    ((i = 0 ∧ wr = [L] ∧ gs = .fresh c ∧ Init s) ∨
     (0 < i ∧ ((i < items.length ∨ ended = true) → ∀ s'', Sg mg mb defs hG s'' → Fra wr ro s s'' → gs.Goes (model prog w) A.in1 (GR wr) (GY prog w mg mb defs hG items ended wr ro) (items.length - i) (.send .none) s'')))

theorem setGen_gens (s : Shared) (g : Nat) (x : GenState) {i : Nat} (h : i ≠ g) : (s.setGen g x).gens[i]? = s.gens[i]? := by
  show (s.gens.setIfInBounds g x)[i]? = _
  rw [Array.getElem?_setIfInBounds_ne (Ne.symm h)]
theorem setGen_size (s : Shared) (g : Nat) (x : GenState) : (s.setGen g x).gens.size = s.gens.size := by
  show (s.gens.setIfInBounds g x).size = _
  simp
theorem setGen_at (s : Shared) {g : Nat} {x y : GenState} (h : s.gens[g]? = some y) : (s.setGen g x).gens[g]? = some x := by
  show (s.gens.setIfInBounds g x)[g]? = _
  rw [Array.getElem?_setIfInBounds_self_of_lt]
  exact (Array.getElem?_eq_some_iff.mp h).1
theorem setGen_bare {s : Shared} {g : Nat} {x : GenState} (h : AllBare s.gens) (hx : x.bare = true) : AllBare (s.setGen g x).gens := by
  intro y hy
  obtain ⟨i, hi, rfl⟩ := Array.mem_iff_getElem.mp hy
  have hi' : i < s.gens.size := by rw [← setGen_size s g x]; exact hi
  by_cases e : i = g
  · subst e
    have : (s.setGen i x).gens[i]? = some x := setGen_at s (Array.getElem?_eq_getElem hi')
    rw [Array.getElem?_eq_getElem hi] at this
    rw [Option.some.inj this]; exact hx
  · have := setGen_gens s g x e
    rw [Array.getElem?_eq_getElem hi, Array.getElem?_eq_getElem hi'] at this
    rw [Option.some.inj this]; exact h _ (Array.getElem_mem hi')
theorem Sg.run {s : Shared} {g : Nat} (G : Sg mg mb defs hG s) : Sg mg mb defs hG (s.setGen g .running) := ⟨G.gG, G.base, G.tpos, setGen_bare G.bare rfl⟩

theorem gen_src {items : List V} {ended : Bool} {a g L : Nat} {c : Code} {ro : List Addr} {Init : Shared → Prop} (Rm : Room A 1) (haL : a ≠ L)
    (hinit : ∀ s s', Init s → Fra [L] ro s s' → Init s')
    (hstart : 0 < items.length ∨ ended = true → ∀ s, Sg mg mb defs hG s → Init s → ∃ its, (∀ b ∈ its, s.heap.get? b = none) ∧ Seg (model prog w) A.in1 (GR (L :: its)) (GY prog w mg mb defs hG items ended (L :: its) ro) items.length s c ((model prog w).den c) [] s) :
    GSrc prog w mg mb defs hG A a items ended (a :: ro) (fun j => j = g) (GSt prog w mg mb defs hG A items ended a g L c ro Init) where
  frame := fun wr i s s' h hk hg hsz => by
    obtain ⟨h1, h2, h3, gs, h4, h5⟩ := h
    have hf : Fra wr ro s s' := fun b hb o e => hk b (hb.imp id (List.mem_cons_of_mem _)) o e
    refine ⟨?_, fun b hb => by obtain ⟨o, ho⟩ := h2 b hb; exact ⟨o, hk b hb o ho⟩, h3, gs, (hg g rfl).trans h4, ?_⟩
    · obtain ⟨o, nm, qn, ho, r⟩ := h1; exact ⟨o, nm, qn, hk a (.inr (List.mem_cons_self ..)) o ho, r⟩
    · rcases h5 with ⟨rfl, rfl, rfl, hi⟩ | ⟨hi, h5⟩
      · exact .inl ⟨rfl, rfl, rfl, hinit s s' hi hf⟩
      · exact .inr ⟨hi, fun hlt s'' G'' f'' => h5 hlt s'' G'' (hf.trans f'')⟩
  exw := fun wr i s h b hb => h.2.1 b hb
  exg := fun wr i s h j hj => by
    obtain ⟨h1, h2, h3, gs, h4, h5⟩ := h
    rw [hj]; exact (Array.getElem?_eq_some_iff.mp h4).1
  go := fun _ wr i s elts k p mv Q E h hq => by
    obtain ⟨⟨o, nm, qn, ho, hc, hd, hsl⟩, _⟩ := h
    unfold letOwnedTupleGo
    cases mv <;> first | exact wpAny_pure hq | skip
    refine wpAny_bind (wpAny_load ho ?_)
    rw [hc, hd]
    exact wpAny_pure hq
  next := fun wr i s Q E h G hlt hQ => by
    obtain ⟨hgen, hex, hawr, gs, hgs, hst⟩ := h
    have hroom : A.depth < recursionLimit := by have := Rm.dep; omega
    -- the common end of a step
    have fin : ∀ (wr' : List Addr), (∀ b ∈ wr', b ∈ wr ∨ s.heap.get? b = none) → (∀ b ∈ wr, b ∈ wr') → gs.Goes (model prog w) A.in1 (GR wr') (GY prog w mg mb defs hG items ended wr' ro) (items.length - i) (.send .none) (s.setGen g .running) →
        wpAny (model prog w) A (pyNext (.ref a)) Q E s := by
      intro wr' hnew hsub hgo
      obtain ⟨oa, nm, qn, hoa, hr⟩ := id hgen
      have hawr' : a ∉ wr' := fun h => by
        rcases hnew a h with h | h
        · exact hawr h
        · rw [hoa] at h; cases h
      refine wpAny_with_toks (Nat.le_refl s.toks) (pyNext_fn (P := fun n s₀ s₁ => n = 0 ∧ Chg wr' s₀ s₁) Rm.h G.glb.nl hroom hgen hgs hgo (fun v s₁ gs' hb hy htk => ?_) (fun s₁ hp h' hk htk => ?_))
      · obtain ⟨hv, chg, _, hex', hkap⟩ := hy
        obtain ⟨m, hm⟩ : ∃ m, items.length - i = m + 1 := ⟨items.length - i - 1, by omega⟩
        rw [hm] at hkap hv
        have hv' : HasV prog w s₁.heap v items[i] := by
          have : items.length - 1 - (m + 1 - 1) = i := by omega
          rw [this] at hv
          rw [List.getD_eq_getElem?_getD, List.getElem?_eq_getElem hlt] at hv
          exact hv
        refine hQ v (s₁.setGen g gs') wr' ⟨fun b o hb e => ?_, ?_, fun j hj hjg => ?_, fun hbare => ?_, chg.os, htk⟩ hv' ⟨?_, fun b hb => ?_, hawr', gs', ?_, .inr ⟨Nat.succ_pos i, fun hor s'' G'' f'' => ?_⟩⟩ hnew hsub
        · refine chg.heap b o (fun h => ?_) e
          rcases hnew b h with h | h
          · exact hb h
          · rw [e] at h; cases h
        · rw [setGen_size]; exact Nat.le_trans (Nat.le_of_eq (setGen_size s g .running).symm) chg.gsz
        · rw [setGen_gens _ _ _ hjg, chg.gens j (by rw [setGen_size]; exact hj), setGen_gens _ _ _ hjg]
        · exact setGen_bare (chg.bare (setGen_bare hbare rfl)) hb
        · exact ⟨oa, nm, qn, chg.heap a oa hawr' hoa, hr⟩
        · rcases hb with hb | hb
          · exact hex' b (.inl hb)
          · rcases List.mem_cons.mp hb with rfl | hb
            · exact ⟨oa, chg.heap _ oa hawr' hoa⟩
            · exact hex' b (.inr hb)
        · exact setGen_at s₁ (y := .running) (by rw [chg.gens g (by rw [setGen_size]; exact (Array.getElem?_eq_some_iff.mp hgs).1)]; exact setGen_at s hgs)
        · have : items.length - (i + 1) = m := by omega
          rw [this]
          exact hkap s'' (hor.imp (fun h => by omega) id) G'' f''
      · exact absurd hp.1 (by omega)
    rcases hst with ⟨rfl, rfl, rfl, hi⟩ | ⟨hi, hst⟩
    · obtain ⟨its, hnew, hseg⟩ := hstart (.inl (by omega)) (s.setGen g .running) G.run (hinit _ _ hi fun b _ o e => e)
      refine fin (L :: its) (fun b hb => ?_) (fun b hb => ?_) ⟨rfl, hseg⟩
      · rcases List.mem_cons.mp hb with rfl | hb
        · exact .inl (List.mem_cons_self ..)
        · exact .inr (hnew b hb)
      · simp only [List.mem_cons, List.not_mem_nil, or_false] at hb
        subst hb; exact List.mem_cons_self ..
    · exact fin wr (fun b hb => .inl hb) (fun b hb => hb) (hst (.inl hlt) _ G.run fun b _ o e => e)
  done := fun he wr s Q E h G hQ => by
    obtain ⟨hgen, hex, hawr, gs, hgs, hst⟩ := h
    have hroom : A.depth < recursionLimit := by have := Rm.dep; omega
    have fin : ∀ (wr' : List Addr), (∀ b ∈ wr', b ∈ wr ∨ s.heap.get? b = none) → gs.Goes (model prog w) A.in1 (GR wr') (GY prog w mg mb defs hG items ended wr' ro) 0 (.send .none) (s.setGen g .running) →
        wpAny (model prog w) A (pyNext (.ref a)) Q E s := by
      intro wr' hnew hgo
      refine wpAny_with_toks (Nat.le_refl s.toks) (pyNext_fn (P := fun n s₀ s₁ => n = 0 ∧ Chg wr' s₀ s₁) Rm.h G.glb.nl hroom hgen hgs hgo (fun v s₁ gs' hb hy htk => ?_) (fun s₁ hp h' hk htk => ?_))
      · obtain ⟨_, _, sg, _, hkap⟩ := hy
        exact (hkap s₁ (.inr he) sg fun b _ o e => e).elim
      · obtain ⟨_, chg⟩ := hp
        refine hQ _ ⟨fun b o hb e => hk b o (chg.heap b o (fun h => ?_) e), ?_, fun j hj hjg => ?_, fun hbare => ?_, chg.os, htk⟩
        · rcases hnew b h with h | h
          · exact hb h
          · rw [e] at h; cases h
        · show s.gens.size ≤ (s₁.setGen g .finished).gens.size
          rw [setGen_size]; exact Nat.le_trans (Nat.le_of_eq (setGen_size s g .running).symm) chg.gsz
        · show (s₁.setGen g .finished).gens[j]? = _
          rw [setGen_gens _ _ _ hjg, chg.gens j (by rw [setGen_size]; exact hj), setGen_gens _ _ _ hjg]
        · exact setGen_bare (chg.bare (setGen_bare hbare rfl)) rfl
    rcases hst with ⟨hi, rfl, rfl, hini⟩ | ⟨hi, hst⟩
    · obtain ⟨its, hnew, hseg⟩ := hstart (.inr he) (s.setGen g .running) G.run (hinit _ _ hini fun b _ o e => e)
      rw [hi] at hseg
      refine fin (L :: its) (fun b hb => ?_) ⟨rfl, hseg⟩
      rcases List.mem_cons.mp hb with rfl | hb
      · exact .inl (List.mem_cons_self ..)
      · exact .inr (hnew b hb)
    · have := hst (.inr he) (s.setGen g .running) G.run fun b _ o e => e
      rw [Nat.sub_self] at this
      exact fin wr (fun b hb => .inl hb) this
end Mine
end
section
open PySem PySem.W PyProof.Rows PySem.Calls Builtin.Str PySem.Spec
open Sem (wp)
namespace Mine
variable {prog : Program} {w : World} {mg mb : Str → Option Value} {defs : List DefRec} {hG : Heap} {A : Around} {E : Value → Shared → Prop} {s s₀ s' : Shared} {env : Env} {m : ME} {ro : List Addr}

theorem Sg.chg {X : Addr → Prop} (G : Sg mg mb defs hG s) (x : ExtX X s s') (hw : ∀ b, X b → hG.get? b = none) : Sg mg mb defs hG s' :=
  ⟨G.gG, fun b o e => x.heap b o (fun h => by rw [hw b h] at e; cases e) (G.base b o e), Nat.lt_of_lt_of_le G.tpos x.toks, x.bare G.bare⟩

theorem ns_same {h : Heap} {a : Addr} {m m' : Str → Option Value} (x : h.Ns a m) (y : h.Ns a m') : m = m' := by
  obtain ⟨o, es, ep, ho, hd, hk, hm⟩ := x
  obtain ⟨o', es', ep', ho', hd', hk', hm'⟩ := y
  rw [ho] at ho'
  cases ho'
  rw [hd] at hd'
  cases hd'
  funext z
  rw [← hm z, ← hm' z]

/-- the frame of a generator -/
structure GF (prog : Program) (w : World) (env : Env) (m : ME) (ro : List Addr) (s : Shared) : Prop where
  e : ERel prog w env m s
  loc : ∀ x, m.kinds.lookup x ≠ some .cell ∧ m.kinds.lookup x ≠ some .free
  vals : ∀ ml, s.heap.Ns env.locals ml → ∀ x v b, m.kinds.lookup x = some .local → m.val.lookup x = some v → ml x = some (.ref b) → b ∈ ro
  tok : m.tok = []
  apart : env.locals ∉ ro
  roEx : ∀ b ∈ ro, ∃ o, s.heap.get? b = some o

theorem GF.fra (F : GF prog w env m ro s) {wr : List Addr} (hL : env.locals ∈ wr) (hf : Fra wr ro s s') : GF prog w env m ro s' := by
  obtain ⟨ml, h1, h2⟩ := F.e.ns
  have h1' : s'.heap.Ns env.locals ml := h1.at' fun o e => hf _ (.inl hL) o e
  refine ⟨⟨F.e.names, F.e.kind, F.e.globals, F.e.builtins, ⟨ml, h1', fun x v hk hv => ?_⟩, fun x v hk hv => ?_, fun x hk => absurd hk (F.loc x).1⟩, F.loc, fun ml' h' x v b hk hv e => ?_, F.tok, F.apart, fun b hb => by obtain ⟨o, ho⟩ := F.roEx b hb; exact ⟨o, hf b (.inr hb) o ho⟩⟩
  · obtain ⟨mv, e, hm, _⟩ := h2 x v hk hv
    refine ⟨mv, e, hm.mono fun a ea o ho => hf a (.inr (F.vals ml h1 x v a hk hv (ea ▸ e))) o ho, fun h => by rw [F.tok] at h; cases h⟩
  · rcases hk with hk | hk
    · exact absurd hk (F.loc x).1
    · exact absurd hk (F.loc x).2
  · rw [ns_same h' h1'] at e
    exact F.vals ml h1 x v b hk hv e
theorem GF.ext (F : GF prog w env m ro s) (x : Ext s s') : GF prog w env m ro s' := F.fra (wr := [env.locals]) (by simp) fun b _ o e => x.heap b o e

theorem GF.store (F : GF prog w env m ro s) {x : Str} {a : Atm} {mv : Value} (hk : m.kinds.lookup x = some .local) (hv : AtmIs mv a) {Q : Unit → Shared → Prop}
    (hQ : ∀ s', GF prog w env (m.set x (.at a) false) ro s' → ExtX (fun b => b = env.locals) s s' → s'.heap.objs.size = s.heap.objs.size → Q () s') : wpAny (model prog w) A (storeName env x mv) Q E s := by
  obtain ⟨ml, h1, h2⟩ := F.e.ns
  refine wpAny_storeName_local ((F.e.kindOf x).trans hk) h1 (fun h' hn' hs => hQ _ ?_ (.of (fun b o hb e => hs.extBut b o hb e) (Nat.le_succ _)) hs.1) (by simp [F.e.kind])
  have hno : ∀ b, mv ≠ .ref b := fun b => HasV.noRef (prog := prog) (w := w) (h := h') (a := a) hv b
  refine ⟨⟨F.e.names, F.e.kind, F.e.globals, F.e.builtins, ⟨_, hn', fun y v hky hvy => ?_⟩, fun y v hky hvy => ?_, fun y hky => absurd hky (F.loc y).1⟩, F.loc, fun ml' h'' y v b hky hvy e => ?_, ?_, F.apart, fun b hb => by obtain ⟨o, ho⟩ := F.roEx b hb; exact ⟨o, hs.extBut b o (fun h => F.apart (h ▸ hb)) ho⟩⟩
  · change (put x (.at a) m.val).lookup y = some v at hvy
    rw [put_lookup] at hvy
    by_cases hyx : y = x
    · rw [if_pos hyx] at hvy ⊢
      cases hvy
      exact ⟨mv, rfl, hv, fun h => by have := (mem_unique h).1; rw [F.tok] at this; cases this⟩
    · rw [if_neg hyx] at hvy ⊢
      obtain ⟨mu, e, hm, _⟩ := h2 y v hky hvy
      refine ⟨mu, e, hasV_but hm (fun b o hb e => hs.extBut b o hb e) fun q => ?_, fun h => by have := (mem_unique h).1; rw [F.tok] at this; cases this⟩
      exact F.apart (F.vals ml h1 y v _ hky hvy (q ▸ e))
  · rcases hky with hky | hky
    · exact absurd hky (F.loc y).1
    · exact absurd hky (F.loc y).2
  · rw [ns_same h'' hn'] at e
    dsimp only at e
    change (put x (.at a) m.val).lookup y = some v at hvy
    rw [put_lookup] at hvy
    by_cases hyx : y = x
    · rw [if_pos hyx] at e
      exact absurd (Option.some.inj e) (hno b)
    · rw [if_neg hyx] at e hvy
      exact F.vals ml h1 y v b hky hvy e
  · show unique x m.tok = []
    rw [F.tok]; rfl

/-- a generator function of one plain parameter -/
noncomputable def plainGen (r : DefRec) (p : Str) : Bool :=
  r.params.posonlyargs.isEmpty && r.params.vararg.isNone && r.params.kwonlyargs.isEmpty && r.params.kw_defaults.isEmpty && r.params.kwarg.isNone && r.params.defaults.isEmpty
    && !r.scope.isCoroutine && r.scope.isGenerator && r.scope.kind == .function && r.scope.names.all (fun y => !(y.2 == .free) && !(y.2 == .cell)) && (r.params.args.map (·.arg) == [p]) && r.scope.names.lookup p == some .local

noncomputable def genEnv1 (r : DefRec) (L : Addr) (a : Addr) (code : Value) : Env := newEnv r.scope L mainGlobals [] (r.name ++ ".<locals>.") (some a) code none builtinsNs

set_option maxHeartbeats 2000000 in
theorem gen_make {r : DefRec} {p : Str} (hp : plainGen r p = true) (Rm : Room A 1) {a : Addr} {o : Obj} {pm code doc : Value} {x : Value} {v : V} {Q : Value → Shared → Prop} (G : Sg mg mb defs hG s) (ho : s.heap.get? a = some o)
    (hdat : o.data = .func (docDef r.name r.params r.body r.scope pm code doc)) (hrec : s.heap.CodeRec code r.name) (hx : HasV prog w s.heap x v)
    (hQ : ∀ g idx env ro s', Ext s s' → env.scope = r.scope → env.frame = some env.locals → env.locals = s.heap.objs.size → s.heap.get? g = none → g ≠ env.locals → s'.heap.IsGen g idx → idx = s.gens.size → s'.gens[idx]? = some (.fresh (.func r.body env)) →
      GF prog w env { kinds := r.scope.names, val := [(p, v)] } ro s' → (∀ b ∈ ro, x = .ref b) → (∀ b, x = .ref b → b ∈ ro) → (∃ o, s'.heap.get? g = some o) → Q (.ref g) s') :
    wpAny (model prog w) A (PySem.call (.ref a) [x]) (fun g s₁ => wpAny (model prog w) A (pyIter g) Q E s₁) E s := by
  simp only [plainGen, Bool.and_eq_true, Bool.not_eq_true', List.isEmpty_iff, Option.isNone_iff_eq_none, beq_iff_eq, List.all_eq_true, beq_eq_false_iff_ne] at hp
  obtain ⟨⟨⟨⟨⟨⟨⟨⟨⟨⟨⟨p1, p2⟩, p3⟩, p4⟩, p5⟩, p6⟩, p7⟩, p8⟩, p9⟩, p10⟩, p11⟩, p12⟩ := hp
  have hpar : r.params = ⟨[], r.params.args, none, [], [], none, []⟩ := by
    cases hpp : r.params
    rw [hpp] at p1 p2 p3 p4 p5 p6
    simp only at p1 p2 p3 p4 p5 p6
    subst p1; subst p2; subst p3; subst p4; subst p5; subst p6
    rfl
  have hal : r.params.args.length = [x].length := by
    have := congrArg List.length p11
    simpa using this
  have hbind : bindArgs (docDef r.name r.params r.body r.scope pm code doc) ⟨[x], []⟩ = pure [(p, x)] := by
    rw [hpar, bind_ok hal (by rw [p11]; simp), p11]; rfl
  refine wpAny_call (codeAny_call_generator (fd := docDef r.name r.params r.body r.scope pm code doc) (by have := Rm.dep; omega) ho hdat p7 p8 rfl hrec ?_)
  rw [hbind]
  refine wpAny_pure (wpAny_with_toks (Nat.le_refl s.toks) (wpAny_newFunctionEnv (fun y hy => (p10 y hy).2) (fun y hy => by
    simp only [List.mem_cons, List.not_mem_nil, or_false] at hy; subst hy; exact p12) (fun h₁ hn hs htk => ?_) p9))
  have hk₁ : ∀ b o, s.heap.get? b = some o → h₁.get? b = some o := fun b o e => hs.extBut b o (Nat.ne_of_lt (Heap.lt_size e)) (Heap.get?_push_of_some _ e)
  refine ⟨G.glb.nl.keeps hk₁, ?_⟩
  have hLsz : s.heap.objs.size < h₁.objs.size := by obtain ⟨o, es, ep, h, _⟩ := hn; exact Heap.lt_size h
  dsimp only
  refine wpAny_pyIter_gen (g := s.gens.size) ⟨_, _, _, Heap.get?_push_size _ rfl, rfl, rfl, rfl⟩ ?_
  have hL : s.heap.get? s.heap.objs.size = none := get_size _
  have hGL : hG.get? s.heap.objs.size = none := by
    cases e : hG.get? s.heap.objs.size with
    | none => rfl
    | some o => rw [G.base _ _ e] at hL; cases hL
  -- the list that it reads
  let ro : List Addr := match x with | .ref b => [b] | _ => []
  have hro : ∀ b, x = .ref b → b ∈ ro := fun b e => by subst e; exact List.mem_cons_self ..
  have hro' : ∀ b ∈ ro, x = .ref b := by
    intro b hb
    cases x <;> simp [ro] at hb ⊢
    exact hb.symm
  have hroEx : ∀ b ∈ ro, ∃ o, s.heap.get? b = some o := fun b hb => (hro' b hb ▸ hx).there
  obtain ⟨env, henv⟩ : ∃ env, newEnv r.scope s.heap.objs.size mainGlobals [] (r.name ++ ".<locals>.") (some a) code none builtinsNs = env := ⟨_, rfl⟩
  have e1 : env.scope = r.scope := by rw [← henv]; rfl
  have e2 : env.locals = s.heap.objs.size := by rw [← henv]; rfl
  have e3 : env.cells = [] := by rw [← henv]; rfl
  have hloc : ∀ y, r.scope.names.lookup y ≠ some .cell ∧ r.scope.names.lookup y ≠ some .free := fun y => ⟨fun h => (p10 _ (mem_of_lookup h)).2 rfl, fun h => (p10 _ (mem_of_lookup h)).1 rfl⟩
  have hLro : s.heap.objs.size ∉ ro := fun h => by obtain ⟨o, ho⟩ := hroEx _ h; exact Nat.lt_irrefl _ (Heap.lt_size ho)
  obtain ⟨ob, hob⟩ : ∃ ob, ({ cls := .type "generator", data := .fields #[.int s.gens.size 0, .str r.name (s.toks + [(p, x)].length), .str r.name (s.toks + [(p, x)].length + 1)] } : Obj) = ob := ⟨_, rfl⟩
  have hfree : ob.isFreed = false := by rw [← hob]; rfl
  have xs : Ext s { s with heap := h₁.push ob, gens := s.gens.push (.fresh (.func r.body env)), toks := s.toks + [(p, x)].length + 1 + 1 } := by
    refine ⟨fun b o e => Heap.get?_push_of_some _ (hk₁ b o e), ?_, fun i hi => ?_, fun hb => ?_, rfl, ?_⟩
    · show s.gens.size ≤ (s.gens.push _).size; simp
    · show (s.gens.push _)[i]? = _
      rw [Array.getElem?_push_lt hi, Array.getElem?_eq_getElem hi]
    · intro y hy
      rcases Array.mem_push.mp hy with h | h
      · exact hb y h
      · subst h; rfl
    · show s.toks ≤ s.toks + [(p, x)].length + 1 + 1; omega
  have hns : (h₁.push ob).Ns s.heap.objs.size fun y => [(p, x)].reverse.lookup y := hn.keeps fun b o e => Heap.get?_push_of_some _ e
  have gf : GF prog w env { kinds := r.scope.names, val := [(p, v)] } ro { s with heap := h₁.push ob, gens := s.gens.push (.fresh (.func r.body env)), toks := s.toks + [(p, x)].length + 1 + 1 } := by
    refine ⟨⟨by rw [e1], by rw [e1]; exact p9, by rw [← henv]; rfl, by rw [← henv]; rfl, ⟨_, e2 ▸ hns, fun y u hk hv => ?_⟩, fun y u hk hv => ?_, fun y hk => absurd hk (hloc y).1⟩, hloc, fun ml hml y u b hk hv e => ?_, rfl, by rw [e2]; exact hLro, fun b hb => by obtain ⟨o, ho⟩ := hroEx b hb; exact ⟨o, xs.heap b o ho⟩⟩
    · change List.lookup y [(p, v)] = some u at hv
      rw [List.lookup_cons] at hv
      cases hyp : y == p with
      | true =>
        rw [hyp] at hv
        cases hv
        have := beq_iff_eq.mp hyp
        subst this
        exact ⟨x, by simp, hx.ext xs, fun h => by cases h⟩
      | false => rw [hyp] at hv; cases hv
    · rcases hk with hk | hk
      · exact absurd hk (hloc y).1
      · exact absurd hk (hloc y).2
    · rw [e2] at hml
      rw [ns_same hml hns] at e
      change List.lookup y [(p, x)] = some (.ref b) at e
      rw [List.lookup_cons] at e
      cases hyp : y == p with
      | true => rw [hyp] at e; cases e; exact hro _ rfl
      | false => rw [hyp] at e; cases e
  have fin : Q (.ref h₁.objs.size) { s with heap := h₁.push ob, gens := s.gens.push (.fresh (.func r.body env)), toks := s.toks + [(p, x)].length + 1 + 1 } := ?_
  · subst hob; subst henv; exact fin
  refine hQ h₁.objs.size s.gens.size env ro _ xs e1 (by rw [← henv]; rfl) e2 ?_ (by rw [e2]; exact Nat.ne_of_gt hLsz) ⟨ob, .str r.name (s.toks + [(p, x)].length), .str r.name (s.toks + [(p, x)].length + 1), Heap.get?_push_size _ hfree, by rw [← hob], by rw [← hob], by rw [← hob]⟩ rfl ?_ gf hro' hro ⟨ob, Heap.get?_push_size _ hfree⟩
  · cases e : s.heap.get? h₁.objs.size with
    | none => rfl
    | some o => exact absurd (Heap.lt_size (hk₁ _ _ e)) (Nat.lt_irrefl _)
  · show (s.gens.push _)[s.gens.size]? = _
    simp

theorem gen_call {r : DefRec} {p : Str} (hp : plainGen r p = true) (Rm : Room A 1) {a : Addr} {o : Obj} {pm code doc : Value} {x : Value} {v : V} {items : List V} {ended : Bool} {Q : Value → Shared → Prop} (G : Sg mg mb defs hG s) (ho : s.heap.get? a = some o)
    (hdat : o.data = .func (docDef r.name r.params r.body r.scope pm code doc)) (hrec : s.heap.CodeRec code r.name) (hx : HasV prog w s.heap x v)
    (hstart : 0 < items.length ∨ ended = true → ∀ env ro s', env.scope = r.scope → (∀ b, x = .ref b → b ∈ ro) → hG.get? env.locals = none → Sg mg mb defs hG s' → GF prog w env { kinds := r.scope.names, val := [(p, v)] } ro s' →
      ∃ its, (∀ b ∈ its, s'.heap.get? b = none) ∧ Seg (model prog w) A.in1 (GR (env.locals :: its)) (GY prog w mg mb defs hG items ended (env.locals :: its) ro) items.length s' (.func r.body env) ((model prog w).den (.func r.body env)) [] s')
    (hQ : ∀ g s' wr ro gp St, Ext s s' → GSrc prog w mg mb defs hG A g items ended ro gp St → St wr 0 s' → (∀ b ∈ wr, s.heap.get? b = none) → (∀ b ∈ ro, x = .ref b ∨ s.heap.get? b = none) → (∀ j, gp j → s.gens.size ≤ j) → Q (.ref g) s') :
    wpAny (model prog w) A (PySem.call (.ref a) [x]) (fun g s₁ => wpAny (model prog w) A (pyIter g) Q E s₁) E s := by
  refine gen_make hp Rm G ho hdat hrec hx fun g idx env ro s' xs e1 ef e2 hgn hgL hgen hidx hgs gf hro' hro hgex => ?_
  have hLn : s.heap.get? env.locals = none := by rw [e2]; exact get_size _
  have hGL : hG.get? env.locals = none := by
    cases e : hG.get? env.locals with
    | none => rfl
    | some o => rw [G.base _ _ e] at hLn; cases hLn
  refine hQ g _ [env.locals] (g :: ro) (fun j => j = idx) (GSt prog w mg mb defs hG A items ended g idx env.locals (.func r.body env) ro (fun s => GF prog w env { kinds := r.scope.names, val := [(p, v)] } ro s)) xs
    (gen_src Rm hgL (fun s s' h hf => h.fra (wr := [env.locals]) (by simp) hf) fun hor s' G' gf' => ?_) ⟨hgen, fun b hb => ?_, ?_, .fresh (.func r.body env), hgs, .inl ⟨rfl, rfl, rfl, gf⟩⟩ (fun b hb => ?_) (fun b hb => ?_) (fun j hj => by rw [hj, hidx]; exact Nat.le_refl _)
  · obtain ⟨its, h1, h2⟩ := hstart hor env ro s' e1 hro hGL G' gf'
    exact ⟨its, h1, h2⟩
  · rcases hb with hb | hb
    · simp only [List.mem_cons, List.not_mem_nil, or_false] at hb
      rw [hb]
      obtain ⟨ml, ⟨o, es, ep, h, _⟩, _⟩ := gf.e.ns; exact ⟨o, h⟩
    · rcases List.mem_cons.mp hb with rfl | hb
      · exact hgex
      · exact gf.roEx b hb
  · simp only [List.mem_cons, List.not_mem_nil, or_false]
    exact hgL
  · simp only [List.mem_cons, List.not_mem_nil, or_false] at hb
    rw [hb]; exact hLn
  · rcases List.mem_cons.mp hb with rfl | hb
    · exact .inr hgn
    · exact .inl (hro' b hb)
end Mine
end
section
open PySem PySem.W PyProof.Rows PySem.Calls Builtin.Str PySem.Spec
open Sem (wp)
namespace Mine
variable {prog : Program} {w : World} {mg mb : Str → Option Value} {defs : List DefRec} {hG : Heap} {A : Around} {E : Value → Shared → Prop} {s s₀ s' : Shared} {env : Env} {m : ME} {ro its : List Addr} {It : Shared → Prop}

noncomputable abbrev noCall : CallT := fun _ _ => none
theorem noHC : HC prog w mg mb defs hG A noCall := ⟨fun _ _ _ h => by simp [noCall] at h, fun _ _ _ h => by simp [noCall] at h⟩

structure GI (prog : Program) (w : World) (mg mb : Str → Option Value) (defs : List DefRec) (hG : Heap) (env : Env) (m : ME) (its ro : List Addr) (It : Shared → Prop) (s₀ s : Shared) : Prop where
  gf : GF prog w env m ro s
  sg : Sg mg mb defs hG s
  chg : ExtX (fun b => b ∈ env.locals :: its) s₀ s
  it : It s
  ex : ∀ b, b ∈ env.locals :: its ∨ b ∈ ro → ∃ o, s.heap.get? b = some o
  fra : ∀ s s', It s → Fra its ro s s' → It s'
  newG : ∀ b, b ∈ env.locals :: its → hG.get? b = none
  apart : env.locals ∉ its
  apart2 : ∀ b ∈ its, b ∉ ro

theorem GI.ext (I : GI prog w mg mb defs hG env m its ro It s₀ s) (x : Ext s s') : GI prog w mg mb defs hG env m its ro It s₀ s' :=
  ⟨I.gf.ext x, I.sg.ext x, I.chg.trans (.ext x), I.fra s s' I.it fun b _ o e => x.heap b o e, fun b hb => by obtain ⟨o, ho⟩ := I.ex b hb; exact ⟨o, x.heap b o ho⟩, I.fra, I.newG, I.apart, I.apart2⟩

theorem GI.store (I : GI prog w mg mb defs hG env m its ro It s₀ s) {x : Str} {a : Atm} {mv : Value} (hk : m.kinds.lookup x = some .local) (hv : AtmIs mv a) {Q : Unit → Shared → Prop}
    (hQ : ∀ s', GI prog w mg mb defs hG env (m.set x (.at a) false) its ro It s₀ s' → s'.heap.objs.size = s.heap.objs.size → Q () s') : wpAny (model prog w) A (storeName env x mv) Q E s := by
  refine I.gf.store hk hv fun s' gf x hsz => hQ s' ?_ hsz
  have x' : ExtX (fun b => b ∈ env.locals :: its) s s' := x.mono fun b hb => by rw [hb]; exact List.mem_cons_self ..
  refine ⟨gf, I.sg.chg x fun b hb => I.newG b (by rw [hb]; exact List.mem_cons_self ..), I.chg.trans x', I.fra s s' I.it fun b hb o e => x.heap b o (fun h => ?_) e, fun b hb => ?_, I.fra, I.newG, I.apart, I.apart2⟩
  · rcases hb with hb | hb
    · exact I.apart (h ▸ hb)
    · exact I.gf.apart (h ▸ hb)
  · by_cases h : b = env.locals
    · obtain ⟨ml, ⟨o, es, ep, ho, _⟩, _⟩ := gf.e.ns
      exact ⟨o, h ▸ ho⟩
    · obtain ⟨o, ho⟩ := I.ex b hb
      exact ⟨o, x.heap b o h ho⟩

theorem GI.step (I : GI prog w mg mb defs hG env m its ro It s₀ s) {It' : Shared → Prop} (x : ExtX (fun b => b ∈ its) s s') (it : It' s') (fra : ∀ s s', It' s → Fra its ro s s' → It' s') (hex : ∀ b ∈ its, ∃ o, s'.heap.get? b = some o) :
    GI prog w mg mb defs hG env m its ro It' s₀ s' := by
  have x' : ExtX (fun b => b ∈ env.locals :: its) s s' := x.mono fun b hb => List.mem_cons_of_mem _ hb
  refine ⟨I.gf.fra (wr := [env.locals]) (by simp) fun b hb o e => x.heap b o (fun h => ?_) e, I.sg.chg x fun b hb => I.newG b (List.mem_cons_of_mem _ hb), I.chg.trans x', it, fun b hb => ?_, fra, I.newG, I.apart, I.apart2⟩
  · rcases hb with hb | hb
    · simp only [List.mem_cons, List.not_mem_nil, or_false] at hb
      exact I.apart (hb ▸ h)
    · exact I.apart2 b h hb
  · by_cases h : b ∈ its
    · exact hex b h
    · obtain ⟨o, ho⟩ := I.ex b hb
      exact ⟨o, x.heap b o h ho⟩

section seg
variable {R : GenEnd} {n : Nat} {c : Code} {fs : List Frame} {K : Flow → Sem Fin} {H : Value → Sem Fin} {gd : Bool → Bool} {lv : List Value → List Value} {k : Nat} {Y : Protocol}

theorem g_assign (I : GI prog w mg mb defs hG env m its ro It s₀ s) (Rm : Room (A.over c fs) 1) {x : Str} {px p : Pos} {e : Expr} {a : Atm} {rest : List Stmt} (h : ev noCall k e m = some (.at a)) (hc : isComp e = false) (hk : m.kinds.lookup x = some .local)
    (next : ∀ s', GI prog w mg mb defs hG env (m.set x (.at a) false) its ro It s₀ s' → Seg (model prog w) A R Y n s₀ c ((execs rest env).wrap K H gd lv) fs s') :
    Seg (model prog w) A R Y n s₀ c ((execs (.Assign [.Name x px] e p :: rest) env).wrap K H gd lv) fs s := by
  refine seg_execs_cons (seg_wrap (wpAny_Assign_Name ((all_ok (d := 0) noHC Rm k).ev _ _ _ _ _ _ _ h I.sg I.gf.e fun mv s₁ x₁ hv _ _ => ?_) (noSwap h hc _ _ _)))
  exact (I.ext x₁).store hk hv fun s₂ I₂ _ => next s₂ I₂

theorem g_if (I : GI prog w mg mb defs hG env m its ro It s₀ s) (Rm : Room (A.over c fs) 1) {t : Expr} {body orelse rest : List Stmt} {p : Pos} {b : Bool} (h : tr noCall k t m = some b)
    (next : ∀ s', GI prog w mg mb defs hG env m its ro It s₀ s' → Seg (model prog w) A R Y n s₀ c ((execs (if b then body else orelse) env).wrap (fun f => match f with | .next => (execs rest env).wrap K H gd lv | f => K f) H gd lv) fs s') :
    Seg (model prog w) A R Y n s₀ c ((execs (.If t body orelse p :: rest) env).wrap K H gd lv) fs s :=
  seg_execs_cons (seg_If ((all_ok (d := 0) noHC Rm k).tr _ _ _ _ _ _ _ h I.sg I.gf.e fun s' x => next s' (I.ext x)))

theorem g_yield {items : List V} {ended : Bool} (I : GI prog w mg mb defs hG env m its ro It s₀ s) (Rm : Room (A.over c fs) 1) {e : Expr} {yp p : Pos} {v : V} {rest : List Stmt} (h : ev noCall k e m = some v) (hv : items.getD (items.length - 1 - n) (.at .none) = v)
    (hfs : splitAtGen fs = none) (hgd : gd false = false) (hfg : fs.any Frame.guarded = false) (hco : env.scope.isCoroutine = false)
    (next : ∀ s', GI prog w mg mb defs hG env m its ro It s' s' → (0 < n ∨ ended = true) → Seg (model prog w) A R (GY prog w mg mb defs hG items ended (env.locals :: its) ro) n s' c ((execs rest env).wrap K H gd lv) fs s') :
    Seg (model prog w) A R (GY prog w mg mb defs hG items ended (env.locals :: its) ro) (n + 1) s₀ c ((execs (.Expr (.Yield (some e) yp) p :: rest) env).wrap K H gd lv) fs s := by
  refine seg_execs_cons (seg_Expr_Yield hfs hgd hfg ((all_ok (d := 0) noHC Rm k).ev _ _ _ _ _ _ _ h I.sg I.gf.e fun mv s₁ x₁ hm _ _ => ?_) hco (by simp [interactive, I.gf.e.kind]))
  intro kap hkap
  have I₁ := I.ext x₁
  refine ⟨by rw [hv]; exact hm, I₁.chg, I₁.sg, I₁.ex, fun s'' hor G'' f'' => hkap _ _ ?_⟩
  exact next s'' ⟨I₁.gf.fra (List.mem_cons_self ..) f'', G'', .refl _, I₁.fra _ _ I₁.it fun b hb o e => f'' b (hb.imp (List.mem_cons_of_mem _) id) o e, fun b hb => by obtain ⟨o, ho⟩ := I₁.ex b hb; exact ⟨o, f'' b hb o ho⟩, I₁.fra, I₁.newG, I₁.apart, I₁.apart2⟩ hor
end seg

theorem room_func {d : Nat} (Rm : Room A (d + 1)) {body : List Stmt} : Room (A.over (.func body env) []) d := by
  refine ⟨Rm.h, ?_, ?_⟩
  · have := Rm.dep; show A.depth + 0 + 1 + d < _; omega
  · have := Rm.un; show A.units + 0 + 3 + 32 * d + 64 < _; omega
theorem room_for {d : Nat} (Rm : Room A (d + 1)) {body body' : List Stmt} {t : Expr} {it : Value} {orelse : List Stmt} {k : Result → Sem Fin} {g : Bool} {l kp : List Value} {p : Pos} :
    Room (A.over (.forLoop t it body orelse env) [.ret k none g l (.func body' env) p kp]) d := by
  refine ⟨Rm.h, ?_, ?_⟩
  · have := Rm.dep; show A.depth + (1 + 0) + 0 + d < _; omega
  · have := Rm.un; show A.units + (3 + 0) + 0 + 32 * d + 64 < _; omega
theorem room_while {d : Nat} (Rm : Room A (d + 1)) {body body' body'' : List Stmt} {t t' : Expr} {it : Value} {orelse orelse' : List Stmt} {k k' : Result → Sem Fin} {g g' : Bool} {l kp l' kp' : List Value} {p p' : Pos} :
    Room (A.over (.whileLoop t' body'' orelse' env) [.ret k none g l (.forLoop t it body orelse env) p kp, .ret k' none g' l' (.func body' env) p' kp']) d := by
  refine ⟨Rm.h, ?_, ?_⟩
  · have := Rm.dep; show A.depth + (0 + (1 + 0)) + 0 + d < _; omega
  · have := Rm.un; show A.units + (0 + (3 + 0)) + 0 + 32 * d + 64 < _; omega
end Mine
end
section
open PySem PySem.W PyProof.Rows PySem.Calls Builtin.Str PySem.Spec
open Sem (wp)
namespace Mine
variable {prog : Program} {w : World} {mg mb : Str → Option Value} {defs : List DefRec} {hG : Heap} {A : Around} {E : Value → Shared → Prop} {s s₀ s' : Shared} {env : Env} {m : ME} {ro : List Addr}

structure EK (m : ME) : Prop where
  addr : m.kinds.lookup ("addr" : Str) = some .local
  pos : m.kinds.lookup ("pos" : Str) = some .local
  escape : m.kinds.lookup ("escape" : Str) = some .local
  ch : m.kinds.lookup ("ch" : Str) = some .local
  en : m.kinds.lookup ("enumerate" : Str) = some .globalImplicit
structure EV (m : ME) (x : Str) (pos : Int) (esc : Bool) : Prop where
  k : EK m
  addr : m.val.lookup ("addr" : Str) = some (.str x)
  pos : m.val.lookup ("pos" : Str) = some (.int pos)
  escape : m.val.lookup ("escape" : Str) = some (.bool esc)

theorem set_val (m : ME) (x y : Str) (v : V) (b : Bool) : (m.set x v b).val.lookup y = if y = x then some v else m.val.lookup y := put_lookup x v m.val y
theorem EV.esc {x : Str} {pos : Int} {b : Bool} (e : EV m x pos b) (c : Bool) : EV (m.set ("escape" : Str) (.bool c) false) x pos c :=
  ⟨⟨e.k.addr, e.k.pos, e.k.escape, e.k.ch, e.k.en⟩, by rw [set_val, if_neg (by decide)]; exact e.addr, by rw [set_val, if_neg (by decide)]; exact e.pos, by rw [set_val, if_pos rfl]⟩
theorem EV.posS {x : Str} {pos : Int} {b : Bool} (e : EV m x pos b) (c : Int) : EV (m.set ("pos" : Str) (.int c) false) x c b :=
  ⟨⟨e.k.addr, e.k.pos, e.k.escape, e.k.ch, e.k.en⟩, by rw [set_val, if_neg (by decide)]; exact e.addr, by rw [set_val, if_pos rfl], by rw [set_val, if_neg (by decide)]; exact e.escape⟩
theorem EV.chS {x : Str} {pos : Int} {b : Bool} (e : EV m x pos b) (c : V) : EV (m.set ("ch" : Str) c false) x pos b :=
  ⟨⟨e.k.addr, e.k.pos, e.k.escape, e.k.ch, e.k.en⟩, by rw [set_val, if_neg (by decide)]; exact e.addr, by rw [set_val, if_neg (by decide)]; exact e.pos, by rw [set_val, if_neg (by decide)]; exact e.escape⟩

theorem okn_pos : okName ("pos" : Str) = true := by decide
theorem okn_esc : okName ("escape" : Str) = true := by decide
theorem okn_ch : okName ("ch" : Str) = true := by decide
theorem okn_addr : okName ("addr" : Str) = true := by decide

theorem ev_local {k : Nat} {x : Str} {p : Pos} {v : V} (hn : okName x = true) (hk : m.kinds.lookup x = some .local) (hv : m.val.lookup x = some v) : ev noCall (k + 1) (.Name x p) m = some v := by
  show evName x m = some v
  unfold evName
  rw [if_pos hn, hk, hv]; rfl
theorem ev_const {k : Nat} {c : Const} {kk : Nat} {p : Pos} {v : V} (hp : plainC c = true) (hv : constV c = some v) : ev noCall (k + 1) (.Constant c kk p) m = some v := by
  show (if (m.lit || plainC c) = true then constV c else none) = _
  rw [hp, Bool.or_true, if_pos rfl, hv]
theorem tr_bool {k : Nat} {x : Str} {p : Pos} {b : Bool} (h : ev noCall k (.Name x p) m = some (.bool b)) : tr noCall (k + 1) (.Name x p) m = some b := by
  show (ev noCall k (.Name x p) m).bind truth = _
  rw [h]; rfl
theorem tr_cmp2 {k : Nat} {a b : Expr} {op : CmpOp} {p : Pos} {x y : V} {c : Bool} (h1 : ev noCall k a m = some x) (h2 : ev noCall k b m = some y) (h : cmpAll op x y = some c) : tr noCall (k + 2) (.Compare a [op] [b] p) m = some c := by
  show ((ev noCall k a m).bind fun u => (ev noCall k b m).bind fun z => cmpAll op u z) = _
  rw [h1, h2]; exact h
theorem ev_tup2 {k c : Nat} {a b : Expr} {p : Pos} {x y : Atm} (h1 : ev noCall k a m = some (.at x)) (h2 : ev noCall k b m = some (.at y)) : ev noCall (k + 1) (.Tuple [a, b] c p) m = some (.tup [x, y]) := by
  show evSeq .tup (((ev noCall k a m).bind atom).bind fun u => (((ev noCall k b m).bind atom).bind fun z => some [z]).map (u :: ·)) = _
  rw [h1, h2]; rfl


theorem ascii_end {it : Addr} {x : Str} {t : Tok} {i : Nat} {Q : Value → Shared → Prop} (hh : A.handled = none) (hit : s.heap.IsStrIter it "str_ascii_iterator" x t i) (hx : x.cps[i]? = none)
    (hE : ∀ h' e, Heap.ExtBut it s.heap h' → (∃ o, h'.get? it = some o) → (∃ o, h'.get? e = some o ∧ o.cls = .type "StopIteration") → E (.ref e) { s with heap := h' }) :
    wpAny (model prog w) A (Builtin.SmallTypes.nextOf (.ref it)) Q E s := by
  obtain ⟨o, ho, hc, hd⟩ := id hit
  refine wpAny_bind (wpAny_callSpecial?_slot (name := Str.ofString "__next__") hit.typeIs F.slot_str_ascii_iterator_next
    (wpAny_call_entry F.slot_str_ascii_iterator_next hit.typeIs F.entry_str_ascii_iterator_next ?_ (F.args_str_ascii_iterator_next_1 _)))
  show wpAny _ _ (field (.ref it) 0 >>= _) _ _ s
  refine wpAny_bind (wpAny_field ho hd (x := .str x t) rfl ?_)
  show wpAny _ _ (field (.ref it) 1 >>= _) _ _ s
  refine wpAny_bind (wpAny_field ho hd (x := .int i 0) rfl ?_)
  simp only [Int.toNat_natCast, hx]
  refine wpAny_bind (wpAny_rule (wpAny_bind (wpAny_setField ho hd (by simp) (wpAny_bind (wpAny_letGo ?_)))))
  have alive : ∃ o', (s.heap.update it (Obj.mapFields (fun xs => xs.setIfInBounds 0 Value.none))).get? it = some o' := ⟨_, Heap.get?_update_self _ ho (Obj.isFreed_of_fields (Obj.data_mapFields hd _))⟩
  show wpAny _ _ (newExc (.type "StopIteration") [] >>= _) _ _ _
  refine wpAny_bind ?_
  simp only [newExc, newTuple]
  refine wpAny_bind (wpAny_newObj_type ?_ (by size_fits))
  refine wpAny_bind (m := firstArgMember _ _) (wpAny_of_eq (a := Value.none) (by first | rfl | (simp only [firstArgMember]; rfl)) (wpAny_newObj_type ?_ (by size_fits)))
  simp only [raiseNew]
  refine wpAny_bind (wpAny_handled ?_)
  first | rw [show A.in1.handled = none from hh] | rw [hh]
  refine wpAny_bind (wpAny_pure (wpAny_throw (hE _ _ (((Heap.SameBut.update ..).extBut.push _).push _) ?_ ⟨_, Heap.get?_push_size _ rfl, rfl⟩)))
  obtain ⟨o', ho'⟩ := alive
  exact ⟨o', Heap.get?_push_of_some _ (Heap.get?_push_of_some _ ho')⟩

theorem wide_end {it : Addr} {x : Str} {t : Tok} {i : Nat} {Q : Value → Shared → Prop} (hh : A.handled = none) (hit : s.heap.IsStrIter it "str_iterator" x t i) (hx : x.cps[i]? = none)
    (hE : ∀ h' e, Heap.ExtBut it s.heap h' → (∃ o, h'.get? it = some o) → (∃ o, h'.get? e = some o ∧ o.cls = .type "StopIteration") → E (.ref e) { s with heap := h' }) :
    wpAny (model prog w) A (Builtin.SmallTypes.nextOf (.ref it)) Q E s := by
  obtain ⟨o, ho, hc, hd⟩ := id hit
  refine wpAny_bind (wpAny_callSpecial?_slot (name := Str.ofString "__next__") hit.typeIs F.slot_str_iterator_next
    (wpAny_call_entry F.slot_str_iterator_next hit.typeIs F.entry_str_iterator_next ?_ (F.args_str_iterator_next_1 _)))
  show wpAny _ _ (field (.ref it) 0 >>= _) _ _ s
  refine wpAny_bind (wpAny_field ho hd (x := .str x t) rfl ?_)
  show wpAny _ _ (field (.ref it) 1 >>= _) _ _ s
  refine wpAny_bind (wpAny_field ho hd (x := .int i 0) rfl ?_)
  simp only [Int.toNat_natCast, hx]
  refine wpAny_bind (wpAny_rule (wpAny_bind (wpAny_setField ho hd (by simp) (wpAny_bind (wpAny_letGo ?_)))))
  have alive : ∃ o', (s.heap.update it (Obj.mapFields (fun xs => xs.setIfInBounds 0 Value.none))).get? it = some o' := ⟨_, Heap.get?_update_self _ ho (Obj.isFreed_of_fields (Obj.data_mapFields hd _))⟩
  show wpAny _ _ (newExc (.type "StopIteration") [] >>= _) _ _ _
  refine wpAny_bind ?_
  simp only [newExc, newTuple]
  refine wpAny_bind (wpAny_newObj_type ?_ (by size_fits))
  refine wpAny_bind (m := firstArgMember _ _) (wpAny_of_eq (a := Value.none) (by first | rfl | (simp only [firstArgMember]; rfl)) (wpAny_newObj_type ?_ (by size_fits)))
  simp only [raiseNew]
  refine wpAny_bind (wpAny_handled ?_)
  first | rw [show A.in1.handled = none from hh] | rw [hh]
  refine wpAny_bind (wpAny_pure (wpAny_throw (hE _ _ (((Heap.SameBut.update ..).extBut.push _).push _) ?_ ⟨_, Heap.get?_push_size _ rfl, rfl⟩)))
  obtain ⟨o', ho'⟩ := alive
  exact ⟨o', Heap.get?_push_of_some _ (Heap.get?_push_of_some _ ho')⟩

/-- the end of a walk over a text, with its iterator still there -/
noncomputable def EndOk (prog : Program) (w : World) (it : Addr) (n : Nat) (St : Nat → Heap → Prop) : Prop :=
  ∀ (A : Around) (s : Shared) (Q : Value → Shared → Prop) (E : Value → Shared → Prop), A.handled = none → St n s.heap →
    (∀ h' e, Heap.ExtBut it s.heap h' → (∃ o, h'.get? it = some o) → (∃ o, h'.get? e = some o ∧ o.cls = .type "StopIteration") → E (.ref e) { s with heap := h' }) → wpAny (model prog w) A (Builtin.SmallTypes.nextOf (.ref it)) Q E s

theorem enum_end {e it : Addr} {n : Nat} {St : Nat → Heap → Prop} {i : Int} {old : Value} {Q : Option Value → Shared → Prop} (hh : A.handled = none) (D : EndOk prog w it n St) (he : IsEnum s.heap e it i old) (hst : St n s.heap)
    (hQ : ∀ h', Heap.ExtBut it s.heap h' → (∃ o, h'.get? it = some o) → Q none { s with heap := h' }) : wpAny (model prog w) A (pyNext (.ref e)) Q E s := by
  have hT : s.TypeIs (.ref e) "enumerate" := ⟨_, he, rfl⟩
  refine wpAny_bind (wpAny_attempt (wpAny_callSpecial?_slot (name := Str.ofString "__next__") hT F.slot_enumerate_next
    (wpAny_call_entry F.slot_enumerate_next hT F.entry_enumerate_next ?_ (F.args_enumerate_next_1 _))))
  show wpAny _ _ (field (.ref e) 2 >>= _) _ _ _
  refine wpAny_bind (wpAny_field he rfl (x := .ref it) rfl (wpAny_bind (D _ _ _ _ hh hst fun h' x he' hal hx' => ?_)))
  obtain ⟨o, ho, hc⟩ := hx'
  exact wpAny_bind (wpAny_isInstance (T := "StopIteration") (b := true) ⟨o, ho, hc⟩ isSubtype_stop (wpAny_pure (hQ _ he' hal)))

section
variable {R : GenEnd} {n : Nat} {c : Code} {fs : List Frame} {K1 : Flow → Sem Fin} {H1 : Value → Sem Fin} {items : List V} {its : List Addr} {It : Shared → Prop} {x : Str}

theorem drop_head {α : Type} {l : List α} {n : Nat} {a : α} {r : List α} (h : l.drop (l.length - n) = a :: r) (hn : n ≤ l.length) : ∃ n', n = n' + 1 ∧ (∀ d, l.getD (l.length - 1 - n') d = a) ∧ l.drop (l.length - n') = r := by
  cases n with
  | zero => rw [Nat.sub_zero, List.drop_length] at h; cases h
  | succ n =>
    have hlt : l.length - (n + 1) < l.length := by omega
    rw [List.drop_eq_getElem_cons hlt] at h
    obtain ⟨h1, h2⟩ := List.cons.inj h
    have e1 : l.length - 1 - n = l.length - (n + 1) := by omega
    have e2 : l.length - n = l.length - (n + 1) + 1 := by omega
    refine ⟨n, rfl, fun d => ?_, by rw [e2]; exact h2⟩
    rw [e1, List.getD_eq_getElem?_getD, List.getElem?_eq_getElem hlt]
    exact h1

theorem esc_body {p1 p2 p3 p4 p5 p6 p7 p8 p9 q1 q2 q3 q4 q5 q6 q7 q8 q9 r1 r2 r3 r4 r5 r6 : Pos} {k1 k2 k3 k4 c1 c2 : Nat} {ch : Nat} {rest : List Nat} {j : Int} {b : Bool} {pos : Int}
    (I : GI prog w mg mb defs hG env m its ro It s₀ s) (Rm : Room (A.over c fs) 1) (e : EV m x j b) (hch : m.val.lookup ("ch" : Str) = some (.str ⟨#[ch]⟩)) (hd : items.drop (items.length - n) = escs (ch :: rest) j b pos) (hn : n ≤ items.length)
    (hfs : splitAtGen fs = none) (hfg : fs.any Frame.guarded = false) (hco : env.scope.isCoroutine = false)
    (next : ∀ n' s₀' s' m' b', EV m' x j b' → GI prog w mg mb defs hG env m' its ro It s₀' s' → items.drop (items.length - n') = escs rest (j + 1) b' j → n' ≤ items.length →
      Seg (model prog w) A R (GY prog w mg mb defs hG items true (env.locals :: its) ro) n' s₀' c (K1 .next) fs s') :
    Seg (model prog w) A R (GY prog w mg mb defs hG items true (env.locals :: its) ro) n s₀ c ((execs [.If (.Name "escape" p1)
      [.Expr (.Yield (some (.Tuple [.Name "pos" p2, .BinOp (.Constant (.str "\\") k1 p3) .Add (.Name "ch" p4) p5] c1 p6)) p7) p8, .Assign [.Name "escape" p9] (.Constant (.bool false) k2 q1) q2]
      [.If (.Compare (.Name "ch" q3) [.Eq] [.Constant (.str "\\") k3 q4] q5) [.Assign [.Name "escape" q6] (.Constant (.bool true) k4 q7) q8]
        [.Expr (.Yield (some (.Tuple [.Name "pos" q9, .Name "ch" r1] c2 r2)) r3) r4] r5] r6] env).wrap K1 H1 id id) fs s := by
  have hbs : plainC (.str ("\\" : Str)) = true := by decide
  refine g_if (k := 3) (b := b) I Rm (tr_bool (ev_local okn_esc e.k.escape e.escape)) fun s₁ I₁ => ?_
  cases b with
  | true =>
    simp only [if_true]
    have hd' : items.drop (items.length - n) = .tup [.int j, .str (⟨#[92]⟩ ++ ⟨#[ch]⟩)] :: escs rest (j + 1) false j := by rw [hd, escs]; simp
    obtain ⟨n', rfl, hv, hd2⟩ := drop_head hd' hn
    have hev : ev noCall 5 (.Tuple [.Name "pos" p2, .BinOp (.Constant (.str "\\") k1 p3) .Add (.Name "ch" p4) p5] c1 p6) m = some (.tup [.int j, .str (⟨#[92]⟩ ++ ⟨#[ch]⟩)]) := by
      have h1 : ev noCall 4 (.Name "pos" p2) m = some (.int j) := ev_local okn_pos e.k.pos e.pos
      refine ev_tup2 h1 (show evBin .Add (ev noCall 3 (.Constant (.str "\\") k1 p3) m) (ev noCall 3 (.Name "ch" p4) m) = _ from ?_)
      rw [ev_const hbs rfl, ev_local okn_ch e.k.ch hch]
      rfl
    refine g_yield (k := 5) I₁ Rm hev (hv _) hfs rfl hfg hco fun s₂ I₂ _ => ?_
    refine g_assign (k := 2) (a := .bool false) I₂ Rm (ev_const rfl rfl) rfl e.k.escape fun s₃ I₃ => ?_
    exact next n' s₂ s₃ _ false (e.esc false) I₃ hd2 (by omega)
  | false =>
    simp only [Bool.false_eq_true, if_false]
    have htr : tr noCall 4 (.Compare (.Name "ch" q3) [.Eq] [.Constant (.str "\\") k3 q4] q5) m = some ((⟨#[ch]⟩ : Str) == ("\\" : Str)) := by
      exact tr_cmp2 (ev_local okn_ch e.k.ch hch) (ev_const hbs rfl) rfl
    have hbeq : ((⟨#[ch]⟩ : Str) == ("\\" : Str)) = (ch == 92) := by
      show ((⟨#[ch]⟩ : Str) == (⟨#[92]⟩ : Str)) = _
      rw [Bool.eq_iff_iff, beq_iff_eq, beq_iff_eq]
      constructor
      · intro h
        have h := congrArg Str.cps h
        simpa using h
      · rintro rfl; rfl
    rw [hbeq] at htr
    refine g_if (k := 4) I₁ Rm htr fun s₂ I₂ => ?_
    cases hc : ch == 92 with
    | true =>
      simp only [if_true]
      refine g_assign (k := 2) (a := .bool true) I₂ Rm (ev_const rfl rfl) rfl e.k.escape fun s₃ I₃ => ?_
      exact next n s₀ s₃ _ true (e.esc true) I₃ (by rw [hd, escs]; simp [hc]) hn
    | false =>
      simp only [Bool.false_eq_true, if_false]
      have hd' : items.drop (items.length - n) = .tup [.int j, .str ⟨#[ch]⟩] :: escs rest (j + 1) false j := by rw [hd, escs]; simp [hc]
      obtain ⟨n', rfl, hv, hd2⟩ := drop_head hd' hn
      have hev : ev noCall 5 (.Tuple [.Name "pos" q9, .Name "ch" r1] c2 r2) m = some (.tup [.int j, .str ⟨#[ch]⟩]) := ev_tup2 (ev_local okn_pos e.k.pos e.pos) (ev_local okn_ch e.k.ch hch)
      refine g_yield (k := 5) I₂ Rm hev (hv _) hfs rfl hfg hco fun s₃ I₃ _ => ?_
      exact next n' s₃ s₃ _ false e I₃ hd2 (by omega)

noncomputable abbrev SP (x : Str) : Nat → Value → Prop := fun i v => ∃ c u, x.cps[i]? = some c ∧ v = .str ⟨#[c]⟩ u

theorem esc_loop {p1 p2 p3 p4 p5 p6 p7 p8 p9 q1 q2 q3 q4 q5 q6 q7 q8 q9 r1 r2 r3 r4 r5 r6 t1 t2 t3 : Pos} {k1 k2 k3 k4 c1 c2 c3 : Nat} {fb : List Stmt} {kF : Result → Sem Fin} {pF : Pos} {e it : Addr} {St : Nat → Heap → Prop}
    (Rm : Room A 2) (D : ∀ A' : Around, A'.handled = none → Draws prog w A' it [it] x.cps.size (SP x) St) (hne : e ≠ it) (DE : EndOk prog w it x.cps.size St)
    (hco : env.scope.isCoroutine = false)
    (hEnd : ∀ n s₀ s m pos b, EV m x pos b → GI prog w mg mb defs hG env m [e, it] ro (fun _ => True) s₀ s → items.drop (items.length - n) = escs [] 0 b pos → n ≤ items.length →
      Seg (model prog w) A R (GY prog w mg mb defs hG items true (env.locals :: [e, it]) ro) n s₀ (.func fb env) (kF (.ok .next)) [] s) :
    ∀ (rest : List Nat) (j : Nat) (pos : Int) (b : Bool) (m : ME) (s₀ s : Shared) (n : Nat), x.cps.toList.drop j = rest → j ≤ x.cps.size → EV m x pos b →
      GI prog w mg mb defs hG env m [e, it] ro (fun s => (∃ old, IsEnum s.heap e it j old) ∧ St j s.heap) s₀ s → items.drop (items.length - n) = escs rest j b pos → n ≤ items.length →
      Seg (model prog w) A R (GY prog w mg mb defs hG items true (env.locals :: [e, it]) ro) n s₀ (.forLoop (.Tuple [.Name "pos" t1, .Name "ch" t2] c3 t3) (.ref e) [.If (.Name "escape" p1)
      [.Expr (.Yield (some (.Tuple [.Name "pos" p2, .BinOp (.Constant (.str "\\") k1 p3) .Add (.Name "ch" p4) p5] c1 p6)) p7) p8, .Assign [.Name "escape" p9] (.Constant (.bool false) k2 q1) q2]
      [.If (.Compare (.Name "ch" q3) [.Eq] [.Constant (.str "\\") k3 q4] q5) [.Assign [.Name "escape" q6] (.Constant (.bool true) k4 q7) q8]
        [.Expr (.Yield (some (.Tuple [.Name "pos" q9, .Name "ch" r1] c2 r2)) r3) r4] r5] r6] [] env)
        ((model prog w).den (.forLoop (.Tuple [.Name "pos" t1, .Name "ch" t2] c3 t3) (.ref e) [.If (.Name "escape" p1)
      [.Expr (.Yield (some (.Tuple [.Name "pos" p2, .BinOp (.Constant (.str "\\") k1 p3) .Add (.Name "ch" p4) p5] c1 p6)) p7) p8, .Assign [.Name "escape" p9] (.Constant (.bool false) k2 q1) q2]
      [.If (.Compare (.Name "ch" q3) [.Eq] [.Constant (.str "\\") k3 q4] q5) [.Assign [.Name "escape" q6] (.Constant (.bool true) k4 q7) q8]
        [.Expr (.Yield (some (.Tuple [.Name "pos" q9, .Name "ch" r1] c2 r2)) r3) r4] r5] r6] [] env)) [.ret kF none false [] (.func fb env) pF []] s := by
  intro rest
  induction rest with
  | nil =>
    intro j pos b m s₀ s n hdr hj ev I hd hn
    have hjn : j = x.cps.size := by
      have := congrArg List.length hdr
      rw [List.length_drop, Array.length_toList, List.length_nil] at this
      omega
    obtain ⟨⟨old, he⟩, hst⟩ := I.it
    rw [hjn] at hst
    refine seg_forLoop (wpAny_with_toks (Nat.le_refl s.toks) (enum_end Rm.h DE he hst fun h' hk hal htk => ?_))
    refine seg_block_nil (seg_leaf (.ok .next) ?_)
    refine hEnd n s₀ _ m pos b ev (I.step (It' := fun _ => True) (s' := { s with heap := h' }) ⟨fun c o hc e => hk c o (fun h => hc (by simp [h])) e, Nat.le_refl _, fun _ _ => rfl, id, rfl, Nat.le_refl _⟩ trivial (fun _ _ _ _ => trivial) ?_) (by rw [hd]; simp [escs]) hn
    intro b hb
    simp only [List.mem_cons, List.not_mem_nil, or_false] at hb
    rcases hb with rfl | rfl
    · exact ⟨_, hk _ _ hne he⟩
    · exact hal
  | cons ch rest ih =>
    intro j pos b m s₀ s n hdr hj ev I hd hn
    have hlt : j < x.cps.size := by
      have := congrArg List.length hdr
      rw [List.length_drop, Array.length_toList, List.length_cons] at this
      omega
    have hch : x.cps[j]? = some ch := by
      have : x.cps.toList[j]? = some ch := by
        rw [← List.head?_drop, hdr]; rfl
      rwa [Array.getElem?_toList] at this
    have hdr' : x.cps.toList.drop (j + 1) = rest := by rw [← List.drop_drop, hdr]; rfl
    obtain ⟨⟨old, he⟩, hst⟩ := I.it
    have hee : e ∈ env.locals :: [e, it] := by simp
    refine seg_forLoop (wpAny_with_toks (Nat.le_refl s.toks) (wpAny_pyNext_enum_itemD (D _ Rm.h) he hst hlt hne (by simpa using hne) fun v h' tk hP heo hst' htup hsz hk htk => ?_))
    obtain ⟨ch', u, hc', rfl⟩ := hP
    rw [hch] at hc'
    obtain rfl := Option.some.inj hc'
    dsimp only
    refine wpAny_letOwnedTupleGo_enum heo fun h₂ he₂ hs₂ => ?_
    replace hs₂ : Heap.SameBut e h' h₂ := hs₂
    have hene : s.heap.objs.size ≠ e := fun h => by have := Heap.lt_size he; rw [h] at this; exact Nat.lt_irrefl _ this
    have ht₂ : h₂.IsTuple s.heap.objs.size #[.int j tk, .str ⟨#[ch]⟩ u] := ⟨_, hs₂.extBut _ _ hene htup, rfl, _, rfl⟩
    refine wpAny_assign_Tuple Rm.h ht₂ rfl rfl fun h₃ hx₃ => ?_
    replace hx₃ : Heap.ExtBut h₂.objs.size h₂ h₃ := hx₃
    have old₃ : ∀ b o, h₂.get? b = some o → h₃.get? b = some o := fun b o hb => hx₃ b o (Nat.ne_of_lt (Heap.lt_size hb)) hb
    have hst₃ : St (j + 1) h₃ := (D _ Rm.h).frame _ _ _ hst' fun b hb o ho => old₃ _ _ (hs₂.extBut b o (by simp only [List.mem_cons, List.not_mem_nil, or_false] at hb; rw [hb]; exact Ne.symm hne) ho)
    have he₃ : IsEnum h₃ e it ((j + 1 : Nat) : Int) (.str ⟨#[ch]⟩ u) := by
      have : ((j + 1 : Nat) : Int) = (j : Int) + 1 := by push_cast; rfl
      rw [this]; exact old₃ _ _ he₂
    have I₃ : GI prog w mg mb defs hG env m [e, it] ro (fun s => (∃ old, IsEnum s.heap e it ((j + 1 : Nat) : Int) old) ∧ St (j + 1) s.heap) s₀ { s with heap := h₃, toks := tk + 1 } := by
      refine I.step (.of (fun b o hb ho => old₃ _ _ (hs₂.extBut b o (fun h => hb (by simp [h])) (hk b o (fun h => hb (by simp [h])) (fun h => hb (by simp [h])) ho))) htk) ⟨⟨_, he₃⟩, hst₃⟩ (fun s s' h hf => ?_) (fun b hb => ?_)
      · obtain ⟨⟨old, h1⟩, h2⟩ := h
        exact ⟨⟨old, hf e (by simp) _ h1⟩, (D A Rm.h).frame _ _ _ h2 fun b hb o ho => hf b (.inl (by simp only [List.mem_cons, List.not_mem_nil, or_false] at hb; simp [hb])) o ho⟩
      · simp only [List.mem_cons, List.not_mem_nil, or_false] at hb
        rcases hb with rfl | rfl
        · exact ⟨_, he₃⟩
        · exact (D A Rm.h).live _ _ hst₃
    show wpAny (model prog w) _ (do holding [.str ⟨#[ch]⟩ u] (assign (.Name "pos" t1) env (.int j tk)); do holding [] (assign (.Name "ch" t2) env (.str ⟨#[ch]⟩ u)); pure ()) _ _ _
    refine wpAny_bind (wpAny_holding (wpAny_assign_Name (I₃.store (a := .int j) ev.k.pos ⟨_, rfl⟩ fun s₄ I₄ _ => ?_)))
    refine wpAny_bind (wpAny_holding (wpAny_assign_Name (I₄.store (a := .str ⟨#[ch]⟩) ev.k.ch ⟨_, rfl⟩ fun s₅ I₅ _ => wpAny_pure ?_)))
    refine esc_body (rest := rest) (j := j) (b := b) (pos := pos) I₅ (room_for (d := 1) Rm) ((ev.posS j).chS _) (by rw [set_val, if_pos rfl]) hd hn rfl rfl hco fun n' s₀' s' m' b' ev' I' hd' hn' => ?_
    have e1 : ((j + 1 : Nat) : Int) = (j : Int) + 1 := by push_cast; rfl
    exact seg_again rfl (ih (j + 1) j b' m' s₀' s' n' hdr' hlt ev' I' (by rw [e1]; exact hd') hn')
end
end Mine
end
section
open PySem PySem.W PyProof.Rows PySem.Calls Builtin.Str PySem.Spec
open Sem (wp)
namespace Mine
variable {prog : Program} {w : World} {mg mb : Str → Option Value} {defs : List DefRec} {hG : Heap} {A : Around} {E : Value → Shared → Prop} {s s₀ s' : Shared} {env : Env} {m : ME} {ro : List Addr}

theorem esc_start {x : Str} {o1 o2 o3 o4 o5 o6 p1 p2 p3 p4 p5 p6 p7 p8 p9 q1 q2 q3 q4 q5 q6 q7 q8 q9 r1 r2 r3 r4 r5 r6 t1 t2 t3 u1 u2 u3 u4 v1 v2 v3 v4 v5 v6 v7 : Pos} {k1 k2 k3 k4 k5 k6 k7 c1 c2 c3 c4 : Nat} {body : List Stmt}
    (hb : body = [.Assign [.Name "pos" o1] (.Constant (.int 0) k5 o2) o3, .Assign [.Name "escape" o4] (.Constant (.bool false) k6 o5) o6,
      .For (.Tuple [.Name "pos" t1, .Name "ch" t2] c3 t3) (.Call (.Name "enumerate" u1) [.Name "addr" u2] [] u3) [.If (.Name "escape" p1)
      [.Expr (.Yield (some (.Tuple [.Name "pos" p2, .BinOp (.Constant (.str "\\") k1 p3) .Add (.Name "ch" p4) p5] c1 p6)) p7) p8, .Assign [.Name "escape" p9] (.Constant (.bool false) k2 q1) q2]
      [.If (.Compare (.Name "ch" q3) [.Eq] [.Constant (.str "\\") k3 q4] q5) [.Assign [.Name "escape" q6] (.Constant (.bool true) k4 q7) q8]
        [.Expr (.Yield (some (.Tuple [.Name "pos" q9, .Name "ch" r1] c2 r2)) r3) r4] r5] r6] [] u4,
      .If (.Name "escape" v1) [.Expr (.Yield (some (.Tuple [.Name "pos" v2, .Constant (.str "\\") k7 v3] c4 v4)) v5) v6] [] v7])
    (Rm : Room A 2) (hk : EK m) (hva : m.val.lookup ("addr" : Str) = some (.str x)) (hco : env.scope.isCoroutine = false) (hGL : hG.get? env.locals = none) (G : Sg mg mb defs hG s) (gf : GF prog w env m ro s) :
    ∃ its, (∀ b ∈ its, s.heap.get? b = none) ∧ Seg (model prog w) A (GR (env.locals :: its)) (GY prog w mg mb defs hG (escs x.cps.toList 0 false 0) true (env.locals :: its) ro) (escs x.cps.toList 0 false 0).length s (.func body env) ((model prog w).den (.func body env)) [] s := by
  have hnone : ∀ n, s.heap.objs.size ≤ n → s.heap.get? n = none := fun n hn => by
    cases e : s.heap.get? n with
    | none => rfl
    | some o => exact absurd (Heap.lt_size e) (Nat.not_lt.mpr hn)
  have hnew : ∀ b ∈ [s.heap.objs.size + 1, s.heap.objs.size], s.heap.get? b = none := by
    intro b hb
    simp only [List.mem_cons, List.not_mem_nil, or_false] at hb
    rcases hb with rfl | rfl
    · exact hnone _ (Nat.le_succ _)
    · exact hnone _ (Nat.le_refl _)
  have hLex : ∃ o, s.heap.get? env.locals = some o := by obtain ⟨ml, ⟨o, es, ep, ho, _⟩, _⟩ := gf.e.ns; exact ⟨o, ho⟩
  refine ⟨[s.heap.objs.size + 1, s.heap.objs.size], hnew, ?_⟩
  subst hb
  have I₀ : GI prog w mg mb defs hG env m [] ro (fun _ => True) s s := by
    refine ⟨gf, G, .refl s, trivial, fun b hb => ?_, fun _ _ _ _ => trivial, fun b hb => ?_, by simp, by simp⟩
    · rcases hb with hb | hb
      · simp only [List.mem_cons, List.not_mem_nil, or_false] at hb; rw [hb]; exact hLex
      · exact gf.roEx b hb
    · simp only [List.mem_cons, List.not_mem_nil, or_false] at hb; rw [hb]; exact hGL
  refine seg_func (seg_execs_cons (seg_wrap (wpAny_Assign_Name (wpAny_Constant_int ?_) rfl)))
  have I₀' := I₀.ext (s' := { s with toks := s.toks + 1 }) (.tok (by simp))
  refine I₀'.store (a := .int 0) hk.pos ⟨_, rfl⟩ fun s₁ I₁ hsz₁ => ?_
  refine seg_execs_cons (seg_wrap (wpAny_Assign_Name (Constant_bool ?_) rfl))
  refine I₁.store (a := .bool false) hk.escape rfl fun s₂ I₂ hsz₂ => ?_
  have hsz : s₂.heap.objs.size = s.heap.objs.size := hsz₂.trans hsz₁
  have ev₂ : EV ((m.set ("pos" : Str) (.int 0) false).set ("escape" : Str) (.bool false) false) x 0 false :=
    ⟨⟨hk.addr, hk.pos, hk.escape, hk.ch, hk.en⟩, by rw [set_val, if_neg (by decide), set_val, if_neg (by decide)]; exact hva, by rw [set_val, if_neg (by decide), set_val, if_pos rfl], by rw [set_val, if_pos rfl]⟩
  refine seg_execs_cons (seg_For (fun _ => rfl) ?_)
  refine Call_Name rfl (bname_ok I₂.sg I₂.gf.e (by decide) ev₂.k.en (by simp [builtins]) rfl (PyProof.Rows.callWith_type rfl (evalArgs_plain (spliced_cons ?_))))
  refine name_ok (call := noCall) (n := 0) I₂.sg I₂.gf.e (ev_local okn_addr ev₂.k.addr ev₂.addr) fun av hav _ => spliced_nil ?_
  obtain ⟨t, rfl⟩ := hav
  refine call_enumerate_str fun h' he hit hz hkp => wpAny_pyIter_enum he ?_
  rw [hsz] at he hit
  rw [hsz]
  have hne : s.heap.objs.size + 1 ≠ s.heap.objs.size := Nat.succ_ne_self _
  have hLlt : env.locals < s.heap.objs.size := by obtain ⟨o, ho⟩ := hLex; exact Heap.lt_size ho
  have loop : ∀ St : Nat → Heap → Prop, (∀ A' : Around, A'.handled = none → Draws prog w A' s.heap.objs.size [s.heap.objs.size] x.cps.size (SP x) St) → EndOk prog w s.heap.objs.size x.cps.size St → St 0 h' →
      GI prog w mg mb defs hG env ((m.set ("pos" : Str) (.int 0) false).set ("escape" : Str) (.bool false) false) [s.heap.objs.size + 1, s.heap.objs.size] ro (fun s' => (∃ old, IsEnum s'.heap (s.heap.objs.size + 1) s.heap.objs.size ((0 : Nat) : Int) old) ∧ St 0 s'.heap) s { s₂ with heap := h' } := by
    intro St D DE hst
    have x3 : Ext s₂ { s₂ with heap := h' } := ⟨hkp, Nat.le_refl _, fun _ _ => rfl, id, rfl, Nat.le_refl _⟩
    refine ⟨I₂.gf.ext x3, I₂.sg.ext x3, (I₂.chg.trans (.ext x3)).mono fun b hb => ?_, ⟨⟨_, he⟩, hst⟩, fun b hb => ?_, fun s s' h hf => ?_, fun b hb => ?_, ?_, ?_⟩
    · simp only [List.mem_cons, List.not_mem_nil, or_false] at hb; rw [hb]; exact List.mem_cons_self ..
    · rcases hb with hb | hb
      · simp only [List.mem_cons, List.not_mem_nil, or_false] at hb
        rcases hb with rfl | rfl | rfl
        · obtain ⟨o, ho⟩ := I₂.ex env.locals (.inl (List.mem_cons_self ..)); exact ⟨o, hkp _ _ ho⟩
        · exact ⟨_, he⟩
        · exact (D A Rm.h).live _ _ hst
      · obtain ⟨o, ho⟩ := I₂.ex b (.inr hb); exact ⟨o, hkp _ _ ho⟩
    · obtain ⟨⟨old, h1⟩, h2⟩ := h
      refine ⟨⟨old, hf _ (.inl (by simp)) _ h1⟩, (D A Rm.h).frame _ _ _ h2 fun b hb o ho => hf b (.inl ?_) o ho⟩
      simp only [List.mem_cons, List.not_mem_nil, or_false] at hb; simp [hb]
    · rcases List.mem_cons.mp hb with rfl | hb
      · exact hGL
      · cases e : hG.get? b with
        | none => rfl
        | some o => have := G.base b o e; rw [hnew b hb] at this; cases this
    · simp only [List.mem_cons, List.not_mem_nil, or_false]
      intro h
      rcases h with h | h
      · rw [h] at hLlt; exact Nat.lt_irrefl _ (Nat.lt_of_succ_lt hLlt)
      · rw [h] at hLlt; exact Nat.lt_irrefl _ hLlt
    · intro b hb hr
      obtain ⟨o, ho⟩ := gf.roEx b hr
      rw [hnew b hb] at ho; cases ho
  obtain ⟨St, D, DE, hst⟩ : ∃ St : Nat → Heap → Prop, (∀ A' : Around, A'.handled = none → Draws prog w A' s.heap.objs.size [s.heap.objs.size] x.cps.size (SP x) St) ∧ EndOk prog w s.heap.objs.size x.cps.size St ∧ St 0 h' := by
    cases ha : x.cps.all (· < 128)
    · have hit' : h'.IsStrIter s.heap.objs.size "str_iterator" x t 0 := by simpa [strIterType, ha] using hit
      exact ⟨_, (fun A' hA => Draws.strWide hA _ x t), (fun A s Q E hh hst hE => wide_end hh hst (by simp) hE), hit'⟩
    · have hit' : h'.IsStrIter s.heap.objs.size "str_ascii_iterator" x t 0 := by simpa [strIterType, ha] using hit
      exact ⟨_, (fun A' hA => Draws.strAscii hA _ x t), (fun A s Q E hh hst hE => ascii_end hh hst (by simp) hE), hit'⟩
  intro p
  refine esc_loop (x := x) (pF := p) Rm D hne DE hco (fun n s₀ s m pos b ev I hd hn => ?_) x.cps.toList 0 0 false _ s { s₂ with heap := h' } _ rfl (Nat.zero_le _) ev₂ (loop St D DE hst) (by simp) (Nat.le_refl _)
  refine g_if (k := 3) (b := b) I (room_func Rm) (tr_bool (ev_local okn_esc ev.k.escape ev.escape)) fun s₁ I₁ => ?_
  cases b with
  | true =>
    have hd' : (escs x.cps.toList 0 false 0).drop ((escs x.cps.toList 0 false 0).length - n) = [.tup [.int pos, .str ⟨#[92]⟩]] := by rw [hd, escs]; simp
    obtain ⟨n', rfl, hv, hd2⟩ := drop_head hd' hn
    have hev : Mine.ev noCall 5 (.Tuple [.Name "pos" v2, .Constant (.str "\\") k7 v3] c4 v4) m = some (.tup [.int pos, .str ⟨#[92]⟩]) := ev_tup2 (ev_local okn_pos ev.k.pos ev.pos) (ev_const (by decide) rfl)
    have hn0 : n' = 0 := by
      have := congrArg List.length hd2
      rw [List.length_drop] at this
      simp at this
      omega
    subst hn0
    refine g_yield (k := 5) I₁ (room_func Rm) hev (hv _) rfl rfl rfl hco fun s₃ I₃ _ => ?_
    exact seg_end (.ok (.ret .none)) ⟨rfl, rfl, I₃.chg⟩
  | false =>
    have hn0 : n = 0 := by
      rw [escs] at hd
      have := congrArg List.length hd
      rw [List.length_drop] at this
      simp at this
      omega
    subst hn0
    exact seg_end (.ok (.ret .none)) ⟨rfl, rfl, I₁.chg⟩
end Mine
end
section
open PySem PySem.W PyProof.Rows PySem.Calls Builtin.Str PySem.Spec
open Sem (wp)
namespace Mine
variable {prog : Program} {w : World} {mg mb : Str → Option Value} {defs : List DefRec} {hG : Heap} {A : Around} {E : Value → Shared → Prop} {s s₀ s' : Shared} {env : Env} {m : ME} {ro : List Addr}

structure RK (m : ME) : Prop where
  g : m.kinds.lookup ("grouping" : Str) = some .local
  l : m.kinds.lookup ("last_interval" : Str) = some .local
  i : m.kinds.lookup ("interval" : Str) = some .local
  c : m.kinds.lookup ("CHAR_MAX" : Str) = some .globalImplicit
  v : m.kinds.lookup ("ValueError" : Str) = some .globalImplicit
noncomputable def lastA : Option Int → Atm
  | none => .none
  | some i => .int i
structure RV (m : ME) (last : Option Int) : Prop where
  k : RK m
  l : m.val.lookup ("last_interval" : Str) = some (.at (lastA last))
theorem RV.iS {last : Option Int} (e : RV m last) (i : Int) : RV (m.set ("interval" : Str) (.int i) false) last :=
  ⟨⟨e.k.g, e.k.l, e.k.i, e.k.c, e.k.v⟩, by rw [set_val, if_neg (by decide)]; exact e.l⟩
theorem RV.lS {last : Option Int} (e : RV m last) (i : Int) : RV (m.set ("last_interval" : Str) (.int i) false) (some i) :=
  ⟨⟨e.k.g, e.k.l, e.k.i, e.k.c, e.k.v⟩, by rw [set_val, if_pos rfl]; rfl⟩
theorem okn_l : okName ("last_interval" : Str) = true := by decide
theorem okn_i : okName ("interval" : Str) = true := by decide
theorem okn_g : okName ("grouping" : Str) = true := by decide
theorem okn_c : okName ("CHAR_MAX" : Str) = true := by decide

section
variable {R : GenEnd} {items : List V} {ended : Bool} {its : List Addr} {It : Shared → Prop}

/-- the loop without end -/
theorem grp_while {last : Int} {y1 y2 y3 y4 : Pos} {kk : Nat} {tgt : Expr} {it : Value} {body orelse fb : List Stmt} {kL kF : Result → Sem Fin} {pL pF : Pos} (Rm : Room A 2) (hco : env.scope.isCoroutine = false) :
    ∀ (n : Nat) (m : ME) (s₀ s : Shared), (0 < n ∨ ended = true) → ended = false → RV m (some last) → GI prog w mg mb defs hG env m its ro It s₀ s → items.drop (items.length - n) = List.replicate n (.int last) → n ≤ items.length →
      Seg (model prog w) A R (GY prog w mg mb defs hG items ended (env.locals :: its) ro) n s₀ (.whileLoop (.Constant (.bool true) kk y1) [.Expr (.Yield (some (.Name "last_interval" y2)) y3) y4] [] env)
        ((model prog w).den (.whileLoop (.Constant (.bool true) kk y1) [.Expr (.Yield (some (.Name "last_interval" y2)) y3) y4] [] env)) [.ret kL none false [] (.forLoop tgt it body orelse env) pL [], .ret kF none false [] (.func fb env) pF []] s
  | 0, m, s₀, s, hor, hne, ev, I, hd, hn => by rcases hor with h | h
                                               · exact absurd h (Nat.lt_irrefl _)
                                               · rw [hne] at h; cases h
  | n + 1, m, s₀, s, hor, hne, ev, I, hd, hn => by
    refine seg_whileLoop (isTrue_plain (Constant_bool (wpAny_truthy_bool ?_)))
    rw [if_pos rfl]
    have hd' : items.drop (items.length - (n + 1)) = .int last :: List.replicate n (.int last) := by rw [hd]; rfl
    obtain ⟨n', hn', hv, hd2⟩ := drop_head hd' hn
    obtain rfl : n = n' := by omega
    have hev : Mine.ev noCall 3 (.Name "last_interval" y2) m = some (.int last) := ev_local okn_l ev.k.l ev.l
    refine g_yield (k := 3) I (room_while (d := 1) Rm) hev (hv _) rfl rfl rfl hco fun s₂ I₂ hor₂ => ?_
    exact seg_again rfl (grp_while Rm hco n m s₂ s₂ hor₂ hne ev I₂ hd2 (by omega))

theorem grp_cmax (I : GI prog w mg mb defs hG env m its ro It s₀ s) {last : Option Int} {i : Int} (e : RV m last) (hi : m.val.lookup ("interval" : Str) = some (.int i)) {y1 y2 y3 : Pos} {whole : Sem Value} {Q : Bool → Shared → Prop} (hQ : Q (i == 127) s) :
    wpAny (model prog w) A (PySem.isTrue (.Compare (.Name "interval" y1) [.Eq] [.Name "CHAR_MAX" y2] y3) env whole) Q E s := by
  refine wpAny_isTrue_Compare1 (name_ok (call := noCall) (n := 0) I.sg I.gf.e (ev_local okn_i e.k.i hi) fun v hv _ => ?_) rfl
  obtain ⟨t, ht⟩ := I.sg.gG.cm
  refine Name_function_global I.gf.e.kind ((I.gf.e.kindOf _).trans e.k.c) (loadGlobal_global (mg := mg) (by rw [I.gf.e.globals]; exact I.sg.glb.g) ht ?_) (by decide)
  obtain ⟨u, rfl⟩ := hv
  exact eq_int (wpAny_truthy_bool hQ)

theorem grp_loop {a : Addr} {vs : Array Value} {nz : List Int} {y1 y2 y3 y4 y5 y6 y7 y8 y9 z1 z2 z3 z4 z5 z6 z7 z8 z9 x1 x2 x3 x4 x5 x6 x7 : Pos} {k1 k2 k3 : Nat} {rs : List Stmt} {fb : List Stmt} {kF : Result → Sem Fin} {pF : Pos} {I : Addr}
    (Rm : Room A 2) (haI : a ≠ I) (har : a ∈ ro) (hints : IntsAre vs.toList nz) (hco : env.scope.isCoroutine = false)
    (hEnd : ∀ f s₀ s, (f = .next ∨ f = .ret .none) → ExtX (fun b => b ∈ env.locals :: [I]) s₀ s → Seg (model prog w) A R (GY prog w mg mb defs hG items ended (env.locals :: [I]) ro) 0 s₀ (.func fb env) (kF (.ok f)) [] s) :
    ∀ (rest : List Int) (j : Nat) (last : Option Int) (m : ME) (s₀ s : Shared) (n : Nat), nz.drop j = rest → j ≤ nz.length → RV m last → (0 < n ∨ ended = true) →
      GI prog w mg mb defs hG env m [I] ro (fun s => s.heap.IsListIter I a j ∧ s.heap.IsList a vs) s₀ s → items.drop (items.length - n) = (grps rest last).1 → ended = (grps rest last).2 → n ≤ items.length →
      Seg (model prog w) A R (GY prog w mg mb defs hG items ended (env.locals :: [I]) ro) n s₀ (.forLoop (.Name "interval" y1) (.ref I)
        [.If (.Compare (.Name "interval" y2) [.Eq] [.Name "CHAR_MAX" y3] y4) [.Return none y5] [] y6,
         .If (.Compare (.Name "interval" y7) [.Eq] [.Constant (.int 0) k1 y8] y9) [.If (.Compare (.Name "last_interval" z1) [.Is] [.Constant .none k2 z2] z3) rs [] z4,
            .While (.Constant (.bool true) k3 z5) [.Expr (.Yield (some (.Name "last_interval" z6)) z7) z8] [] z9] [] x1,
         .Expr (.Yield (some (.Name "interval" x2)) x3) x4, .Assign [.Name "last_interval" x5] (.Name "interval" x6) x7] [] env)
        ((model prog w).den (.forLoop (.Name "interval" y1) (.ref I)
        [.If (.Compare (.Name "interval" y2) [.Eq] [.Name "CHAR_MAX" y3] y4) [.Return none y5] [] y6,
         .If (.Compare (.Name "interval" y7) [.Eq] [.Constant (.int 0) k1 y8] y9) [.If (.Compare (.Name "last_interval" z1) [.Is] [.Constant .none k2 z2] z3) rs [] z4,
            .While (.Constant (.bool true) k3 z5) [.Expr (.Yield (some (.Name "last_interval" z6)) z7) z8] [] z9] [] x1,
         .Expr (.Yield (some (.Name "interval" x2)) x3) x4, .Assign [.Name "last_interval" x5] (.Name "interval" x6) x7] [] env)) [.ret kF none false [] (.func fb env) pF []] s := by
  have hvl : vs.size = nz.length := by have := hints.length; rwa [Array.length_toList] at this
  have W : ∀ A' : Around, A'.handled = none → Walks prog w A' I [I, a] [I] vs.size (fun i v => vs[i]? = some v) (fun i h => h.IsListIter I a i ∧ h.IsList a vs) := fun A' h => Walks.list h I a haI vs
  have zero : ∀ {n : Nat} {l : List V}, l.drop (l.length - n) = [] → n ≤ l.length → n = 0 := by
    intro n l h hn
    have := congrArg List.length h
    rw [List.length_drop] at this
    simp at this
    omega
  intro rest
  induction rest with
  | nil =>
    intro j last m s₀ s n hdr hj ev hor G hd he hn
    have hn0 : n = 0 := zero (by rw [hd]; rfl) hn
    subst hn0
    have hjn : j = vs.size := by
      have := congrArg List.length hdr
      rw [List.length_drop, List.length_nil] at this
      omega
    have hst := G.it
    rw [hjn] at hst
    refine seg_forLoop (wpAny_with_toks (Nat.le_refl s.toks) ((W _ (by exact Rm.h)).done s _ _ hst fun h' tk hk htk => ?_))
    refine seg_block_nil (seg_leaf (.ok .next) (hEnd .next s₀ _ (.inl rfl) (G.chg.trans (.of (fun b o hb e => hk b o (fun h => hb (List.mem_cons_of_mem _ h)) e) htk))))
  | cons i rest ih =>
    intro j last m s₀ s n hdr hj ev hor G hd he hn
    have hlt : j < vs.size := by
      have := congrArg List.length hdr
      rw [List.length_drop, List.length_cons] at this
      omega
    have hij : nz[j]? = some i := by rw [← List.head?_drop, hdr]; rfl
    have hdr' : nz.drop (j + 1) = rest := by rw [← List.drop_drop, hdr]; rfl
    refine seg_forLoop (wpAny_with_toks (Nat.le_refl s.toks) ((W _ (by exact Rm.h)).item j s _ _ hlt G.it fun v h' tk hP hst' hk htk => ?_))
    have hvi : ∃ t, v = .int i t := by
      have h1 : vs.toList[j]? = some v := by rw [Array.getElem?_toList]; exact hP
      obtain ⟨v', h2, t, h3⟩ := (are_ints hints).get j (.int i) (by rw [List.getElem?_map, hij]; rfl)
      rw [h1] at h2
      exact ⟨t, (Option.some.inj h2).trans h3⟩
    obtain ⟨t, rfl⟩ := hvi
    dsimp only
    refine wpAny_pure (wpAny_assign_Name ?_)
    have G₁ : GI prog w mg mb defs hG env m [I] ro (fun s => s.heap.IsListIter I a (j + 1) ∧ s.heap.IsList a vs) s₀ { s with heap := h', toks := tk } := by
      refine G.step (.of (fun b o hb e => hk b o hb e) htk) hst' (fun s s' h hf => ?_) (fun b hb => ?_)
      · exact ⟨h.1.at fun o e => hf I (.inl (List.mem_cons_self ..)) o e, h.2.at fun o e => hf a (.inr har) o e⟩
      · simp only [List.mem_cons, List.not_mem_nil, or_false] at hb
        subst hb
        obtain ⟨o, ho, _⟩ := hst'.1; exact ⟨o, ho⟩
    refine G₁.store (a := .int i) ev.k.i ⟨_, rfl⟩ fun s₂ G₂ _ => ?_
    have ev₂ := ev.iS i
    have hi₂ : (m.set ("interval" : Str) (.int i) false).val.lookup ("interval" : Str) = some (.int i) := by rw [set_val, if_pos rfl]
    refine seg_execs_cons (seg_If (grp_cmax G₂ ev₂ hi₂ ?_))
    by_cases h127 : i = 127
    · subst h127
      have hg : grps (127 :: rest) last = ([], true) := by simp [grps]
      rw [hg] at hd
      have hn0 : n = 0 := zero hd hn
      subst hn0
      rw [if_pos (by decide)]
      refine seg_execs_cons (seg_wrap (wpAny_Return_none ?_))
      exact seg_leaf (.ok (.ret .none)) (hEnd _ s₀ _ (.inr rfl) G₂.chg)
    · have h127' : (i == 127) = false := by rw [beq_eq_false_iff_ne]; exact h127
      rw [h127', if_neg (by decide)]
      refine seg_execs_nil ?_
      have htr : tr noCall 4 (.Compare (.Name "interval" y7) [.Eq] [.Constant (.int 0) k1 y8] y9) (m.set ("interval" : Str) (.int i) false) = some (i == 0) := tr_cmp2 (ev_local okn_i ev₂.k.i hi₂) (ev_const rfl rfl) rfl
      refine g_if (k := 4) G₂ (room_for (d := 1) Rm) htr fun s₃ G₃ => ?_
      by_cases h0 : i = 0
      · subst h0
        rw [if_pos (by decide)]
        cases last with
        | none =>
          have hg : grps (0 :: rest) none = ([], false) := by simp [grps]
          rw [hg] at hd he
          have hn0 : n = 0 := zero hd hn
          rcases hor with h | h
          · omega
          · rw [he] at h; cases h
        | some l =>
          have hg : grps (0 :: rest) (some l) = (List.replicate 16 (.int l), false) := by simp [grps]
          rw [hg] at hd he
          have htr2 : tr noCall 4 (.Compare (.Name "last_interval" z1) [.Is] [.Constant .none k2 z2] z3) (m.set ("interval" : Str) (.int 0) false) = some false := tr_cmp2 (ev_local okn_l ev₂.k.l ev₂.l) (ev_const rfl rfl) rfl
          refine g_if (k := 4) G₃ (room_for (d := 1) Rm) htr2 fun s₄ G₄ => ?_
          rw [if_neg (by decide)]
          refine seg_execs_nil (seg_execs_cons (seg_While fun p => ?_))
          have hlen : n = 16 := by
            have := congrArg List.length hd
            rw [List.length_drop] at this
            simp at this
            omega
          subst hlen
          exact grp_while Rm hco 16 _ s₀ s₄ (.inl (by decide)) he ev₂ G₄ hd hn
      · have h0' : (i == 0) = false := by rw [beq_eq_false_iff_ne]; exact h0
        rw [h0', if_neg (by decide)]
        refine seg_execs_nil ?_
        have hg : grps (i :: rest) last = (.int i :: (grps rest (some i)).1, (grps rest (some i)).2) := by simp [grps, h127, h0]
        rw [hg] at hd he
        obtain ⟨n', rfl, hv, hd2⟩ := drop_head hd hn
        refine g_yield (k := 3) G₃ (room_for (d := 1) Rm) (ev_local okn_i ev₂.k.i hi₂) (hv _) rfl rfl rfl hco fun s₄ G₄ hor₄ => ?_
        refine g_assign (k := 3) (a := .int i) G₄ (room_for (d := 1) Rm) (ev_local okn_i ev₂.k.i hi₂) rfl ev₂.k.l fun s₅ G₅ => ?_
        exact seg_again rfl (ih (j + 1) (some i) _ s₄ s₅ n' hdr' (by omega) (ev₂.lS i) hor₄ G₅ hd2 he (by omega))
end
end Mine
end
section
open PySem PySem.W PyProof.Rows PySem.Calls Builtin.Str PySem.Spec
open Sem (wp)
namespace Mine
variable {prog : Program} {w : World} {mg mb : Str → Option Value} {defs : List DefRec} {hG : Heap} {A : Around} {E : Value → Shared → Prop} {s s₀ s' : Shared} {env : Env} {m : ME} {ro : List Addr}

theorem intsOf_map : ∀ {l : List Atm} {nz : List Int}, intsOf l = some nz → l = nz.map .int
  | [], nz, h => Option.some.inj h ▸ rfl
  | a :: r, nz, h => by
    cases a with
    | int i => exact mapK h fun ns h1 e => by rw [← e, intsOf_map h1]; rfl
    | _ => exact no_some h

theorem grp_start {l : List Atm} {nz : List Int} {o1 o2 o3 o4 o5 y1 y2 y3 y4 y5 y6 y7 y8 y9 z1 z2 z3 z4 z5 z6 z7 z8 z9 x1 x2 x3 x4 x5 x6 x7 : Pos} {k1 k2 k3 k4 : Nat} {rs : List Stmt} {body : List Stmt}
    (hb : body = [.Assign [.Name "last_interval" o1] (.Constant .none k4 o2) o3, .For (.Name "interval" y1) (.Name "grouping" o4)
        [.If (.Compare (.Name "interval" y2) [.Eq] [.Name "CHAR_MAX" y3] y4) [.Return none y5] [] y6,
         .If (.Compare (.Name "interval" y7) [.Eq] [.Constant (.int 0) k1 y8] y9) [.If (.Compare (.Name "last_interval" z1) [.Is] [.Constant .none k2 z2] z3) rs [] z4,
            .While (.Constant (.bool true) k3 z5) [.Expr (.Yield (some (.Name "last_interval" z6)) z7) z8] [] z9] [] x1,
         .Expr (.Yield (some (.Name "interval" x2)) x3) x4, .Assign [.Name "last_interval" x5] (.Name "interval" x6) x7] [] o5])
    (Rm : Room A 2) (hk : RK m) (hl : intsOf l = some nz) (hvg : m.val.lookup ("grouping" : Str) = some (.list l)) (hco : env.scope.isCoroutine = false) (hGL : hG.get? env.locals = none) (G : Sg mg mb defs hG s) (gf : GF prog w env m ro s)
    (hor : 0 < (grps nz none).1.length ∨ (grps nz none).2 = true) :
    ∃ its, (∀ b ∈ its, s.heap.get? b = none) ∧ Seg (model prog w) A (GR (env.locals :: its)) (GY prog w mg mb defs hG (grps nz none).1 (grps nz none).2 (env.locals :: its) ro) (grps nz none).1.length s (.func body env) ((model prog w).den (.func body env)) [] s := by
  have hnew : ∀ b ∈ [s.heap.objs.size], s.heap.get? b = none := by
    intro b hb
    simp only [List.mem_cons, List.not_mem_nil, or_false] at hb
    rw [hb]; exact get_size _
  have hLex : ∃ o, s.heap.get? env.locals = some o := by obtain ⟨ml, ⟨o, es, ep, ho, _⟩, _⟩ := gf.e.ns; exact ⟨o, ho⟩
  refine ⟨[s.heap.objs.size], hnew, ?_⟩
  subst hb
  have I₀ : GI prog w mg mb defs hG env m [] ro (fun _ => True) s s := by
    refine ⟨gf, G, .refl s, trivial, fun b hb => ?_, fun _ _ _ _ => trivial, fun b hb => ?_, by simp, by simp⟩
    · rcases hb with hb | hb
      · simp only [List.mem_cons, List.not_mem_nil, or_false] at hb; rw [hb]; exact hLex
      · exact gf.roEx b hb
    · simp only [List.mem_cons, List.not_mem_nil, or_false] at hb; rw [hb]; exact hGL
  refine seg_func (seg_execs_cons (seg_wrap (wpAny_Assign_Name (Constant_none ?_) rfl)))
  refine I₀.store (a := .none) hk.l rfl fun s₂ I₂ hsz => ?_
  have ev₂ : RV (m.set ("last_interval" : Str) (.at .none) false) none := ⟨⟨hk.g, hk.l, hk.i, hk.c, hk.v⟩, by rw [set_val, if_pos rfl]; rfl⟩
  have hvg₂ : (m.set ("last_interval" : Str) (.at .none) false).val.lookup ("grouping" : Str) = some (.list l) := by rw [set_val, if_neg (by decide)]; exact hvg
  refine seg_execs_cons (seg_For (fun _ => rfl) ?_)
  obtain ⟨ml, hn, hvals⟩ := I₂.gf.e.ns
  obtain ⟨mv, hml, hmv, _⟩ := hvals _ _ hk.g hvg₂
  obtain ⟨a, vs, q, rfl, hil, hare⟩ := id hmv
  have har : a ∈ ro := I₂.gf.vals ml hn _ _ a hk.g hvg₂ hml
  refine wpAny_Name (wpAny_loadName_local I₂.gf.e.kind ((I₂.gf.e.kindOf _).trans hk.g) hn hml ?_) (by decide)
  refine wpAny_pyIter_list hil.isList ?_
  rw [hsz]
  have hLlt : env.locals < s.heap.objs.size := by obtain ⟨o, ho⟩ := hLex; exact Heap.lt_size ho
  have halt : a < s.heap.objs.size := hsz ▸ Heap.lt_size hil
  have x3 : Ext s₂ { s₂ with heap := s₂.heap.push { cls := .type "list_iterator", data := .fields #[.ref a, .int 0 0] } } := .push _ (Nat.le_refl _)
  have hat : (s₂.heap.push { cls := .type "list_iterator", data := .fields #[.ref a, .int 0 0] }).get? s.heap.objs.size = some { cls := .type "list_iterator", data := .fields #[.ref a, .int 0 0] } := by
    rw [← hsz]; exact Heap.get?_push_size _ rfl
  have GI₃ : GI prog w mg mb defs hG env (m.set ("last_interval" : Str) (.at .none) false) [s.heap.objs.size] ro (fun s' => s'.heap.IsListIter s.heap.objs.size a 0 ∧ s'.heap.IsList a vs) s { s₂ with heap := s₂.heap.push { cls := .type "list_iterator", data := .fields #[.ref a, .int 0 0] } } := by
    refine ⟨I₂.gf.ext x3, I₂.sg.ext x3, (I₂.chg.trans (.ext x3)).mono fun b hb => ?_, ⟨⟨_, hat, rfl, rfl⟩, hil.isList.push _⟩, fun b hb => ?_, fun s s' h hf => ?_, fun b hb => ?_, ?_, ?_⟩
    · simp only [List.mem_cons, List.not_mem_nil, or_false] at hb; rw [hb]; exact List.mem_cons_self ..
    · rcases hb with hb | hb
      · simp only [List.mem_cons, List.not_mem_nil, or_false] at hb
        rcases hb with rfl | rfl
        · obtain ⟨o, ho⟩ := I₂.ex env.locals (.inl (List.mem_cons_self ..)); exact ⟨o, x3.heap _ _ ho⟩
        · exact ⟨_, hat⟩
      · obtain ⟨o, ho⟩ := I₂.ex b (.inr hb); exact ⟨o, x3.heap _ _ ho⟩
    · exact ⟨h.1.at fun o e => hf _ (.inl (by simp)) o e, h.2.at fun o e => hf a (.inr har) o e⟩
    · rcases List.mem_cons.mp hb with rfl | hb
      · exact hGL
      · cases e : hG.get? b with
        | none => rfl
        | some o => have := G.base b o e; rw [hnew b hb] at this; cases this
    · simp only [List.mem_cons, List.not_mem_nil, or_false]
      exact Nat.ne_of_lt hLlt
    · intro b hb hr
      obtain ⟨o, ho⟩ := gf.roEx b hr
      rw [hnew b hb] at ho; cases ho
  intro p
  refine grp_loop (pF := p) Rm (Nat.ne_of_lt halt) har (hare.ints hl) hco (fun f s₀ s hf chg => ?_) nz 0 none _ s _ _ rfl (Nat.zero_le _) ev₂ hor GI₃ (by simp) rfl (Nat.le_refl _)
  rcases hf with rfl | rfl
  · exact seg_end (.ok (.ret .none)) ⟨rfl, rfl, chg⟩
  · exact seg_end (.ok (.ret .none)) ⟨rfl, rfl, chg⟩
end Mine
end
section
open PySem PySem.W PyProof.Rows PySem.Calls Builtin.Str PySem.Spec
open Sem (wp)
set_option backward.match.sparseCases false
set_option maxRecDepth 100000
namespace Mine
variable {prog : Program} {w : World} {mg mb : Str → Option Value} {hG : Heap} {A : Around} {E : Value → Shared → Prop} {s s₀ s' : Shared} {env : Env} {m : ME} {ro : List Addr}

/-- the functions of the script -/
noncomputable def theDefs : List DefRec := recsOf PySem.Challenge.pw_wb0026_01
theorem defs_len : theDefs.length = 15 := by decide +kernel
noncomputable def rEsc : DefRec := theDefs[0]'(by rw [defs_len]; decide)
noncomputable def rGrp : DefRec := theDefs[4]'(by rw [defs_len]; decide)
noncomputable def rRef : DefRec := theDefs[9]'(by rw [defs_len]; decide)
/-- the body of a loop -/
noncomputable def loopOf : Stmt → List Stmt
  | .For _ _ b _ _ => b
  | _ => []
theorem rEsc_mem : rEsc ∈ theDefs := List.getElem_mem _
theorem rGrp_mem : rGrp ∈ theDefs := List.getElem_mem _
theorem rRef_mem : rRef ∈ theDefs := List.getElem_mem _
theorem rEsc_name : rEsc.name = ("_iter_escaped_chars" : Str) := by rfl
theorem rGrp_name : rGrp.name = ("_grouping_intervals" : Str) := by rfl
theorem rRef_name : rRef.name = ("_law_refused" : Str) := by rfl
theorem rEsc_plain : plainGen rEsc "addr" = true := by decide +kernel
theorem rGrp_plain : plainGen rGrp "grouping" = true := by decide +kernel

theorem esc_kinds (vs : List (Str × V)) : EK { kinds := rEsc.scope.names, val := vs } := ⟨by rfl, by rfl, by rfl, by rfl, by rfl⟩
theorem grp_kinds (vs : List (Str × V)) : RK { kinds := rGrp.scope.names, val := vs } := ⟨by rfl, by rfl, by rfl, by rfl, by rfl⟩

theorem genF_ok (Rm : Room A 3) : HG prog w mg mb theDefs hG A genF where
  name := fun f v r h => elimK h (fun z _ h => iteK h fun hc _ => andK hc fun hf _ => ⟨rEsc, rEsc_mem, beq_iff_eq.mp hf ▸ rEsc_name⟩) fun _ h => bindK h fun l _ h => iteK h fun hf _ => ⟨rGrp, rGrp_mem, beq_iff_eq.mp hf ▸ rGrp_name⟩
  ok := fun f v items ended h a hmg s x Q E G hx hQ => by
    refine elimK h (fun z hz h => iteK h fun hc he => andK hc fun hf hlen => ?_) fun _ h => bindK h fun l hl h => iteK h fun hf h => bindK h fun nz hn h => iteK h fun _ he => ?_
    · obtain rfl := asStr_eq hz
      obtain ⟨rfl, rfl⟩ := Prod.mk.inj (Option.some.inj he)
      obtain ⟨a', o, pm, code, doc, h1, h2, h3, h4⟩ := G.glb.fn rEsc rEsc_mem
      rw [rEsc_name, ← beq_iff_eq.mp hf, hmg] at h1
      obtain rfl := Value.ref.inj (Option.some.inj h1)
      refine gen_call rEsc_plain (Rm.le (by decide)) G h2 h3 h4 hx (fun _ env ro s' he hro hGL G' gf => ?_) hQ
      exact esc_start rfl Rm.in1 (esc_kinds _) (by rfl) (by rw [he]; rfl) hGL G' gf
    · obtain rfl := asList_eq hl
      have e := Option.some.inj he
      obtain rfl : (grps nz none).1 = items := congrArg Prod.fst e
      obtain rfl : (grps nz none).2 = ended := congrArg Prod.snd e
      obtain ⟨a', o, pm, code, doc, h1, h2, h3, h4⟩ := G.glb.fn rGrp rGrp_mem
      rw [rGrp_name, ← beq_iff_eq.mp hf, hmg] at h1
      obtain rfl := Value.ref.inj (Option.some.inj h1)
      refine gen_call rGrp_plain (Rm.le (by decide)) G h2 h3 h4 hx (fun hor env ro s' he hro hGL G' gf => ?_) hQ
      exact grp_start rfl Rm.in1 (grp_kinds _) hn (by rfl) (by rw [he]; rfl) hGL G' gf hor
end Mine
end
section
open PySem PySem.W PyProof.Rows PySem.Calls Builtin.Str PySem.Spec
open Sem (wp)
namespace Mine
variable {M : Model} {A : Around} {E : Value → Shared → Prop} {s s' : Shared} {env : Env} {base : Heap} {l : List Env} {e : Addr} {cls fl : Value} {L₀ : Addr} {oL : Obj}

/-- an exception on its way; `fl` says which frame it was noted in last -/
structure Fly (base : Heap) (L₀ : Addr) (oL : Obj) (l : List Env) (e : Addr) (cls fl : Value) (h : Heap) : Prop where
  stays : base.StaysIn h
  new : base.get? e = none
  frames : h.FunFrames base l
  tr : ∃ oe vs T oT ts, h.get? e = some oe ∧ oe.cls = cls ∧ oe.data = .fields vs ∧ vs[1]? = some (.ref T) ∧ base.get? T = none ∧ T ≠ e ∧ h.get? T = some oT ∧ oT.data = .fields ts ∧ ts[3]? = some fl
  low : ∃ sl, h.get? L₀ = some { oL with slots := sl }
/-- an exception just made -/
structure Born (base : Heap) (L₀ : Addr) (oL : Obj) (l : List Env) (e : Addr) (cls : Value) (h : Heap) : Prop where
  stays : base.StaysIn h
  new : base.get? e = none
  frames : h.FunFrames base l
  tr : ∃ oe vs, h.get? e = some oe ∧ oe.cls = cls ∧ oe.data = .fields vs ∧ vs[1]? = some .none
  low : ∃ sl, h.get? L₀ = some { oL with slots := sl }

theorem Fly.below {env : Env} (F : Fly base L₀ oL (env :: l) e cls fl s.heap) : Fly base L₀ oL l e cls fl s.heap := ⟨F.stays, F.new, F.frames.2.2, F.tr, F.low⟩

/-- set a record's field: base, frames and law's frame stay -/
theorem setFlight_ok (hoL : ∀ vs, oL.data ≠ .fields vs) (F : Fly base L₀ oL l e cls fl s.heap) {f : Option Addr} {Q : Unit → Shared → Prop}
    (hQ : ∀ h', Fly base L₀ oL l e cls (f.elim .none fun f => rawInt f) h' → Q () { s with heap := h' }) : wpAny M A (setFlight (.ref e) f) Q E s := by
  obtain ⟨oe, vs, T, oT, ts, he, hcls, hd, h1, hnT, hTe, hT, hdT, h3⟩ := F.tr
  have hsz : 3 < ts.size := (Array.getElem?_eq_some_iff.mp h3).1
  unfold setFlight
  refine wpAny_bind (wpAny_field he hd h1 ?_)
  rw [if_pos (show (Value.ref T != Value.none) = true from by simp)]
  refine wpAny_setField hT hdT hsz (hQ _ ?_)
  have other : ∀ b, b ≠ T → (s.heap.update T (Obj.mapFields (·.setIfInBounds 3 (f.elim .none fun f => rawInt f)))).get? b = s.heap.get? b := fun b hb => Heap.get?_update_other _ _ (Ne.symm hb)
  have noRec : ∀ b o, s.heap.get? b = some o → (∀ vs, o.data ≠ .fields vs) → b ≠ T := fun b o hb hnf q => by
    rw [q, hT] at hb; injection hb with hb; subst hb; exact hnf ts hdT
  have hdT' := Obj.data_mapFields hdT (·.setIfInBounds 3 (f.elim .none fun f => rawInt f))
  refine ⟨fun b o hbo => (other b fun q => by rw [q, hnT] at hbo; cases hbo).trans (F.stays b o hbo), F.new, F.frames.of_keeps fun b o hb hnf => ⟨o, (other b (noRec b o hb hnf)).trans hb, rfl⟩,
    ⟨oe, vs, T, _, _, (other e (Ne.symm hTe)).trans he, hcls, hd, h1, hnT, hTe, Heap.get?_update_self _ hT (Obj.isFreed_of_fields hdT'), hdT', by simp [hsz]⟩, ?_⟩
  obtain ⟨sl, hl⟩ := F.low
  exact ⟨sl, (other L₀ (noRec L₀ _ hl hoL)).trans hl⟩

theorem note_same {L : Addr} (F : Fly base L₀ oL l e cls (rawInt L) s.heap) (hf : env.frame = some L) {Q : Unit → Shared → Prop} (hQ : Q () s) : wpAny M A (noteFrame (.ref e) env) Q E s := by
  obtain ⟨oe, vs, T, oT, ts, he, hcls, hd, h1, hnT, hTe, hT, hdT, h3⟩ := F.tr
  exact wpAny_noteFrame_inFlight hf he hd h1 hT hdT h3 hQ

/-- a new entry of the traceback -/
theorem newEntry_ok {L : Addr} {oe : Obj} {vs : Array Value} {head : Value} {hadNext : Bool} (hoL : ∀ vs, oL.data ≠ .fields vs) (hfr : A.frames = some (env :: l)) (hf : env.frame = some L) (hst : base.StaysIn s.heap) (hen : base.get? e = none) (hfrs : s.heap.FunFrames base (env :: l))
    (he : s.heap.get? e = some oe) (hcls : oe.cls = cls) (hd : oe.data = .fields vs) (hsz : 1 < vs.size) (hlow : ∃ sl, s.heap.get? L₀ = some { oL with slots := sl }) {Q : Unit → Shared → Prop}
    (hQ : ∀ h', Fly base L₀ oL (env :: l) e cls (rawInt L) h' → Q () { s with heap := h' }) :
    wpAny M A (do let a ← frameOf env; let pl ← entryPlaceOf L hadNext; let b ← EntryCells.newEntry head a .none (rawInt L) .none pl; setField (.ref e) 1 b) Q E s := by
  have hene : e ∉ (env :: l).filterMap (·.frame) := fun hm => by
    obtain ⟨_, o, ho, hnf⟩ := hfrs.mem hm
    rw [he] at ho; injection ho with ho; subst ho; exact hnf vs hd
  refine wpAny_bind (wpAny_frameOf_fun hfr hfrs hf fun h₁ hs₁ => ?_)
  refine wpAny_bind (wpAny_entryPlaceOf fun pl hpl => ?_)
  unfold EntryCells.newEntry newFields
  refine wpAny_bind (wpAny_newObj_type ?_ (hpl.sizeOk5 _ _ _ _ _))
  have he₁ : h₁.get? e = some oe := (hs₁.2.1 e hene).trans he
  have he₂ := Heap.get?_push_of_some (h := h₁) { cls := .type "traceback", dict := none, data := .fields ([head, .ref L, .none, rawInt L, .none] ++ (if pl.isEmpty then List.replicate 6 Value.none else pl)).toArray } he₁
  refine wpAny_setField he₂ hd hsz (hQ _ ?_)
  have hTe : h₁.objs.size ≠ e := Nat.ne_of_gt (Heap.lt_size he₁)
  have hd₃ := Obj.data_mapFields hd (·.setIfInBounds 1 (Value.ref h₁.objs.size))
  have st₁ : base.StaysIn h₁ := fun b o hbo => (hs₁.2.1 b fun hm => by rw [(hfrs.mem hm).1] at hbo; cases hbo).trans (hst b o hbo)
  have keep : ∀ b o, b ≠ e → h₁.get? b = some o → ((h₁.push { cls := .type "traceback", dict := none, data := .fields ([head, .ref L, .none, rawInt L, .none] ++ (if pl.isEmpty then List.replicate 6 Value.none else pl)).toArray }).update e (Obj.mapFields (·.setIfInBounds 1 (Value.ref h₁.objs.size)))).get? b = some o := fun b o hbe hb => by
    rw [Heap.get?_update_other _ _ (Ne.symm hbe)]
    exact Heap.get?_push_of_some _ hb
  have noRec : ∀ b o, s.heap.get? b = some o → (∀ vs, o.data ≠ .fields vs) → b ≠ e := fun b o hb hnf q => by
    rw [q, he] at hb; injection hb with hb; subst hb; exact hnf vs hd
  refine ⟨fun b o hbo => keep b o (fun q => by rw [q, hen] at hbo; cases hbo) (st₁ b o hbo), hen, hfrs.of_keeps fun b o hb hnf => ?_, ?_, ?_⟩
  · obtain ⟨sl, hs⟩ := hs₁.2.2 b o hb
    exact ⟨_, keep b _ (noRec b o hb hnf) hs, rfl⟩
  · refine ⟨_, _, h₁.objs.size, { cls := .type "traceback", dict := none, data := .fields ([head, .ref L, .none, rawInt L, .none] ++ (if pl.isEmpty then List.replicate 6 Value.none else pl)).toArray }, _, Heap.get?_update_self _ he₂ (Obj.isFreed_of_fields hd₃), (Obj.cls_mapFields ..).trans hcls, hd₃, by simp [hsz], st₁.fresh, hTe, ?_, rfl, ?_⟩
    · rw [Heap.get?_update_other _ _ (Ne.symm hTe)]
      exact Heap.get?_push_size h₁ rfl
    · simp
  · obtain ⟨sl, hl⟩ := hlow
    obtain ⟨sl', hl'⟩ := hs₁.2.2 L₀ _ hl
    exact ⟨sl', keep L₀ _ (noRec L₀ _ hl hoL) hl'⟩

theorem note_first {L : Addr} (hoL : ∀ vs, oL.data ≠ .fields vs) (hfr : A.frames = some (env :: l)) (hf : env.frame = some L) (F : Born base L₀ oL (env :: l) e cls s.heap) {Q : Unit → Shared → Prop}
    (hQ : ∀ h', Fly base L₀ oL (env :: l) e cls (rawInt L) h' → Q () { s with heap := h' }) : wpAny M A (noteFrame (.ref e) env) Q E s := by
  obtain ⟨oe, vs, he, hcls, hd, h1⟩ := F.tr
  unfold noteFrame
  simp only [hf]
  refine wpAny_bind (wpAny_field he hd h1 ?_)
  rw [if_neg (by decide)]
  exact newEntry_ok hoL hfr hf F.stays F.new F.frames he hcls hd (Array.getElem?_eq_some_iff.mp h1).1 F.low hQ

theorem note_next {L : Addr} (hoL : ∀ vs, oL.data ≠ .fields vs) (hfr : A.frames = some (env :: l)) (hf : env.frame = some L) (F : Fly base L₀ oL (env :: l) e cls .none s.heap) {Q : Unit → Shared → Prop}
    (hQ : ∀ h', Fly base L₀ oL (env :: l) e cls (rawInt L) h' → Q () { s with heap := h' }) : wpAny M A (noteFrame (.ref e) env) Q E s := by
  obtain ⟨oe, vs, T, oT, ts, he, hcls, hd, h1, hnT, hTe, hT, hdT, h3⟩ := F.tr
  unfold noteFrame
  simp only [hf]
  refine wpAny_bind (wpAny_field he hd h1 ?_)
  rw [if_pos (show (Value.ref T != Value.none) = true from by simp)]
  refine wpAny_bind (wpAny_field hT hdT h3 ?_)
  rw [if_neg (show ¬ ((Value.none == rawInt L) = true) from by simp [rawInt])]
  refine wpAny_bind (wpAny_setField hT hdT (Array.getElem?_eq_some_iff.mp h3).1 ?_)
  have other : ∀ b, b ≠ T → (s.heap.update T (Obj.mapFields (·.setIfInBounds 3 Value.none))).get? b = s.heap.get? b := fun b hb => Heap.get?_update_other _ _ (Ne.symm hb)
  have noRec : ∀ b o, s.heap.get? b = some o → (∀ vs, o.data ≠ .fields vs) → b ≠ T := fun b o hb hnf q => by
    rw [q, hT] at hb; injection hb with hb; subst hb; exact hnf ts hdT
  obtain ⟨sl, hl⟩ := F.low
  exact newEntry_ok hoL hfr hf (fun b o hbo => (other b fun q => by rw [q, hnT] at hbo; cases hbo).trans (F.stays b o hbo)) F.new (F.frames.of_keeps fun b o hb hnf => ⟨o, (other b (noRec b o hb hnf)).trans hb, rfl⟩)
    ((other e (Ne.symm hTe)).trans he) hcls hd (Array.getElem?_eq_some_iff.mp h1).1 ⟨sl, (other L₀ (noRec L₀ _ hl hoL)).trans hl⟩ hQ

/-- out of a loop of the same frame -/
theorem cameBack_ok {L : Addr} (hoL : ∀ vs, oL.data ≠ .fields vs) (hf : env.frame = some L) (F : Fly base L₀ oL l e cls fl s.heap) (hQ : ∀ h', Fly base L₀ oL l e cls (rawInt L) h' → E (.ref e) { s with heap := h' }) :
    cameBackBy M A env E (.ref e) s := by
  obtain ⟨oe, vs, T, oT, ts, he, hcls, hd, h1, hnT, hTe, hT, hdT, h3⟩ := id F.tr
  refine wpAny_bind (wpAny_field he hd h1 ?_)
  rw [if_neg (by simp)]
  rw [hf]
  exact setFlight_ok hoL F fun h' F' => hQ h' F'

theorem leaving_same {L : Addr} (hoL : ∀ vs, oL.data ≠ .fields vs) (hf : env.frame = some L) (F : Fly base L₀ oL l e cls (rawInt L) s.heap) {Q : Unit → Shared → Prop} (hQ : ∀ h', Fly base L₀ oL l e cls .none h' → Q () { s with heap := h' }) :
    wpAny M A (leaving env (.ref e)) Q E s := by
  unfold leaving
  exact wpAny_bind (note_same F hf (setFlight_ok hoL F fun h' F' => hQ h' F'))
end Mine
end
section
open PySem PySem.W PyProof.Rows PySem.Calls Builtin.Str PySem.Spec
open Sem (wp)
namespace Mine
variable {prog : Program} {w : World} {mg mb : Str → Option Value} {defs : List DefRec} {hG : Heap} {A : Around} {E : Value → Shared → Prop} {s s₀ s' : Shared} {env : Env} {m : ME} {ro : List Addr}

theorem frames_for {l : List Env} (h : A.frames = some l) {env : Env} {body body' : List Stmt} {t : Expr} {it : Value} {orelse : List Stmt} {k : Result → Sem Fin} {g : Bool} {ll kp : List Value} {p : Pos} (he : env.scope.isGenerator = true ∨ True) :
    (A.over (.forLoop t it body orelse env) [.ret k none g ll (.func body' env) p kp]).frames = some (env :: l) := by
  show pushEnvs (Code.envs (.forLoop t it body orelse env)) (pushEnvs (envsOf [(.func body' env, p)]) A.frames) = _
  rw [h]
  rfl
theorem frames_func {l : List Env} (h : A.frames = some l) {env : Env} {body' : List Stmt} : (A.over (.func body' env) []).frames = some (env :: l) := by
  show pushEnvs (Code.envs (.func body' env)) (pushEnvs (envsOf []) A.frames) = _
  rw [h]
  rfl

theorem funFrames_at {h h' base : Heap} : ∀ {l : List Env}, (∀ b ∈ l.filterMap (·.frame), ∀ o, h.get? b = some o → h'.get? b = some o) → h.FunFrames base l → h'.FunFrames base l
  | [], _, _ => trivial
  | env :: rest, k, ⟨hk, ⟨L, o, hf, hn, ho, hd⟩, hr⟩ => by
    rw [List.filterMap_cons, hf] at k
    exact ⟨hk, ⟨L, o, hf, hn, k L (List.mem_cons_self ..) o ho, hd⟩, funFrames_at (fun b hb => k b (List.mem_cons_of_mem _ hb)) hr⟩

/-- all but the heap -/
structure Rst (s s' : Shared) : Prop where
  gsz : s.gens.size ≤ s'.gens.size
  gens : ∀ i, i < s.gens.size → s'.gens[i]? = s.gens[i]?
  bare : AllBare s.gens → AllBare s'.gens
  os : s'.os = s.os
  toks : s.toks ≤ s'.toks
theorem Rst.of {X : Addr → Prop} (x : ExtX X s s') : Rst s s' := ⟨x.gsz, x.gens, x.bare, x.os, x.toks⟩

theorem grp_raise {R : GenEnd} {Y : Protocol} {n : Nat} {base : Heap} {L₀ : Addr} {oL : Obj} {l : List Env} {as : List Atm} {rest : List Int} {o1 o2 o3 o4 o5 y1 y2 y3 y4 y5 y6 y7 y8 y9 z1 z2 z3 z4 z5 z6 z7 z8 z9 x1 x2 x3 x4 x5 x6 x7 u1 u2 u3 u4 : Pos} {k1 k2 k3 k4 k5 : Nat} {str : Str} {body : List Stmt}
    (hb : body = [.Assign [.Name "last_interval" o1] (.Constant .none k4 o2) o3, .For (.Name "interval" y1) (.Name "grouping" o4)
        [.If (.Compare (.Name "interval" y2) [.Eq] [.Name "CHAR_MAX" y3] y4) [.Return none y5] [] y6,
         .If (.Compare (.Name "interval" y7) [.Eq] [.Constant (.int 0) k1 y8] y9) [.If (.Compare (.Name "last_interval" z1) [.Is] [.Constant .none k2 z2] z3) [.Raise (some (.Call (.Name "ValueError" u1) [.Constant (.str str) k5 u2] [] u3)) none u4] [] z4,
            .While (.Constant (.bool true) k3 z5) [.Expr (.Yield (some (.Name "last_interval" z6)) z7) z8] [] z9] [] x1,
         .Expr (.Yield (some (.Name "interval" x2)) x3) x4, .Assign [.Name "last_interval" x5] (.Name "interval" x6) x7] [] o5])
    (Rm : Room A 2) (hfr : A.frames = some l) (hef : env.frame = some env.locals) (hoL : ∀ vs, oL.data ≠ .fields vs) (hk : RK m) (hl : intsOf as = some (0 :: rest)) (hvg : m.val.lookup ("grouping" : Str) = some (.list as)) (hGL : hG.get? env.locals = none)
    (G : Sg mg mb defs hG s) (gf : GF prog w env m ro s) (hst : base.StaysIn s.heap) (hbL : base.get? env.locals = none) (hff : s.heap.FunFrames base l) (hlF : env.locals ∉ l.filterMap (·.frame)) (hlow : ∃ sl, s.heap.get? L₀ = some { oL with slots := sl }) (hL₀ : L₀ ≠ env.locals)
    (hR : ∀ e s₁, Fly base L₀ oL l e (.type "ValueError") .none s₁.heap → Rst s s₁ → R n s (.error (.ref e)) s₁) :
    Seg (model prog w) A R Y n s (.func body env) ((model prog w).den (.func body env)) [] s := by
  have hLex : ∃ o, s.heap.get? env.locals = some o := by obtain ⟨ml, ⟨o, es, ep, ho, _⟩, _⟩ := gf.e.ns; exact ⟨o, ho⟩
  subst hb
  have I₀ : GI prog w mg mb defs hG env m [] ro (fun _ => True) s s := by
    refine ⟨gf, G, .refl s, trivial, fun b hb => ?_, fun _ _ _ _ => trivial, fun b hb => ?_, by simp, by simp⟩
    · rcases hb with hb | hb
      · simp only [List.mem_cons, List.not_mem_nil, or_false] at hb; rw [hb]; exact hLex
      · exact gf.roEx b hb
    · simp only [List.mem_cons, List.not_mem_nil, or_false] at hb; rw [hb]; exact hGL
  refine seg_func (seg_execs_cons (seg_wrap (wpAny_Assign_Name (Constant_none ?_) rfl)))
  refine I₀.store (a := .none) hk.l rfl fun s₂ I₂ hsz => ?_
  have ev₂ : RV (m.set ("last_interval" : Str) (.at .none) false) none := ⟨⟨hk.g, hk.l, hk.i, hk.c, hk.v⟩, by rw [set_val, if_pos rfl]; rfl⟩
  have hvg₂ : (m.set ("last_interval" : Str) (.at .none) false).val.lookup ("grouping" : Str) = some (.list as) := by rw [set_val, if_neg (by decide)]; exact hvg
  refine seg_execs_cons (seg_For (fun _ => rfl) ?_)
  obtain ⟨ml, hn, hvals⟩ := I₂.gf.e.ns
  obtain ⟨mv, hml, hmv, _⟩ := hvals _ _ hk.g hvg₂
  obtain ⟨a, vs, q, rfl, hil, hare⟩ := id hmv
  refine wpAny_Name (wpAny_loadName_local I₂.gf.e.kind ((I₂.gf.e.kindOf _).trans hk.g) hn hml ?_) (by decide)
  refine wpAny_pyIter_list hil.isList ?_
  intro p
  have halt : a < s₂.heap.objs.size := Heap.lt_size hil
  have W : ∀ A' : Around, A'.handled = none → Walks prog w A' s₂.heap.objs.size [s₂.heap.objs.size, a] [s₂.heap.objs.size] vs.size (fun i v => vs[i]? = some v) (fun i h => h.IsListIter s₂.heap.objs.size a i ∧ h.IsList a vs) := fun A' h => Walks.list h _ a (Nat.ne_of_lt halt) vs
  have hints : IntsAre vs.toList (0 :: rest) := hare.ints hl
  have hvl : vs.size = rest.length + 1 := by have := hints.length; rwa [Array.length_toList] at this
  have hv0 : ∃ t, vs[0]? = some (.int 0 t) := by
    obtain ⟨v', h2, t, h3⟩ := (are_ints hints).get 0 (.int 0) rfl
    rw [Array.getElem?_toList] at h2
    exact ⟨t, by rw [h2, h3]⟩
  obtain ⟨t, hv0⟩ := hv0
  have x3 : Ext s₂ { s₂ with heap := s₂.heap.push { cls := .type "list_iterator", data := .fields #[.ref a, .int 0 0] } } := .push _ (Nat.le_refl _)
  have hIn : ∀ {h : Heap}, (∀ b o, h.get? b = some o → b ≠ env.locals → s₂.heap.get? b = some o) → ∀ o, h.get? s₂.heap.objs.size = some o → s₂.heap.objs.size = env.locals := fun hk o ho => by
    by_cases q : s₂.heap.objs.size = env.locals
    · exact q
    · exact absurd (Heap.lt_size (hk _ o ho q)) (Nat.lt_irrefl _)
  have hL₂ : env.locals < s₂.heap.objs.size := by obtain ⟨ml, ⟨o, es, ep, ho, _⟩, _⟩ := I₂.gf.e.ns; exact Heap.lt_size ho
  have hsI : s.heap.get? s₂.heap.objs.size = none := by
    cases e : s.heap.get? s₂.heap.objs.size with
    | none => rfl
    | some o => exact absurd (Heap.lt_size (I₂.chg.heap _ o (by simp only [List.mem_cons, List.not_mem_nil, or_false]; exact Nat.ne_of_gt hL₂) e)) (Nat.lt_irrefl _)
  have GI₃ : GI prog w mg mb defs hG env (m.set ("last_interval" : Str) (.at .none) false) [s₂.heap.objs.size] ro (fun s' => s'.heap.IsListIter s₂.heap.objs.size a 0 ∧ s'.heap.IsList a vs) s { s₂ with heap := s₂.heap.push { cls := .type "list_iterator", data := .fields #[.ref a, .int 0 0] } } := by
    have har : a ∈ ro := I₂.gf.vals ml hn _ _ a hk.g hvg₂ hml
    refine ⟨I₂.gf.ext x3, I₂.sg.ext x3, (I₂.chg.trans (.ext x3)).mono fun b hb => ?_, ⟨⟨_, Heap.get?_push_size _ rfl, rfl, rfl⟩, hil.isList.push _⟩, fun b hb => ?_, fun s s' h hf => ?_, fun b hb => ?_, ?_, ?_⟩
    · simp only [List.mem_cons, List.not_mem_nil, or_false] at hb; rw [hb]; exact List.mem_cons_self ..
    · rcases hb with hb | hb
      · simp only [List.mem_cons, List.not_mem_nil, or_false] at hb
        rcases hb with rfl | rfl
        · obtain ⟨o, ho⟩ := I₂.ex env.locals (.inl (List.mem_cons_self ..)); exact ⟨o, x3.heap _ _ ho⟩
        · exact ⟨_, Heap.get?_push_size _ rfl⟩
      · obtain ⟨o, ho⟩ := I₂.ex b (.inr hb); exact ⟨o, x3.heap _ _ ho⟩
    · exact ⟨h.1.at fun o e => hf _ (.inl (by simp)) o e, h.2.at fun o e => hf a (.inr har) o e⟩
    · rcases List.mem_cons.mp hb with rfl | hb
      · exact hGL
      · simp only [List.mem_cons, List.not_mem_nil, or_false] at hb
        cases e : hG.get? b with
        | none => rfl
        | some o => have := G.base b o e; rw [hb, hsI] at this; cases this
    · simp only [List.mem_cons, List.not_mem_nil, or_false]
      exact Nat.ne_of_lt hL₂
    · intro b hb hr
      simp only [List.mem_cons, List.not_mem_nil, or_false] at hb
      obtain ⟨o, ho⟩ := I₂.gf.roEx b hr
      rw [hb] at ho; exact Nat.lt_irrefl _ (Heap.lt_size ho)
  refine seg_forLoop (wpAny_with_toks (Nat.le_refl s₂.toks) ((W _ (by exact Rm.h)).item 0 _ _ _ (by omega) GI₃.it fun v h' tk hP hst' hkp htk => ?_))
  have hv : v = .int 0 t := by
    have hP' : vs[0]? = some v := hP
    rw [hv0] at hP'; exact (Option.some.inj hP').symm
  subst hv
  have har : a ∈ ro := I₂.gf.vals ml hn _ _ a hk.g hvg₂ hml
  dsimp only
  refine wpAny_pure (wpAny_assign_Name ?_)
  have G₁ : GI prog w mg mb defs hG env (m.set ("last_interval" : Str) (.at .none) false) [s₂.heap.objs.size] ro (fun s' => s'.heap.IsListIter s₂.heap.objs.size a 1 ∧ s'.heap.IsList a vs) s { s₂ with heap := h', toks := tk } := by
    refine GI₃.step (s' := { s₂ with heap := h', toks := tk }) ⟨fun b o hb e => hkp b o hb e, Nat.le_refl _, fun _ _ => rfl, id, rfl, htk⟩ hst' (fun s s' h hf => ?_) (fun b hb => ?_)
    · exact ⟨h.1.at fun o e => hf _ (.inl (List.mem_cons_self ..)) o e, h.2.at fun o e => hf a (.inr har) o e⟩
    · simp only [List.mem_cons, List.not_mem_nil, or_false] at hb
      subst hb
      obtain ⟨o, ho, _⟩ := hst'.1; exact ⟨o, ho⟩
  refine G₁.store (a := .int 0) ev₂.k.i ⟨_, rfl⟩ fun s₄ G₄ _ => ?_
  have ev₄ := ev₂.iS 0
  have hi₄ : ((m.set ("last_interval" : Str) (.at .none) false).set ("interval" : Str) (.int 0) false).val.lookup ("interval" : Str) = some (.int 0) := by rw [set_val, if_pos rfl]
  refine seg_execs_cons (seg_If (grp_cmax G₄ ev₄ hi₄ ?_))
  rw [if_neg (by decide)]
  refine seg_execs_nil ?_
  have htr : tr noCall 4 (.Compare (.Name "interval" y7) [.Eq] [.Constant (.int 0) k1 y8] y9) ((m.set ("last_interval" : Str) (.at .none) false).set ("interval" : Str) (.int 0) false) = some true := by
    exact tr_cmp2 (ev_local okn_i ev₄.k.i hi₄) (ev_const rfl rfl) rfl
  refine g_if (k := 4) G₄ (room_for (d := 1) Rm) htr fun s₅ G₅ => ?_
  rw [if_pos rfl]
  have htr2 : tr noCall 4 (.Compare (.Name "last_interval" z1) [.Is] [.Constant .none k2 z2] z3) ((m.set ("last_interval" : Str) (.at .none) false).set ("interval" : Str) (.int 0) false) = some true := by
    exact tr_cmp2 (ev_local okn_l ev₄.k.l ev₄.l) (ev_const rfl rfl) rfl
  refine g_if (k := 4) G₅ (room_for (d := 1) Rm) htr2 fun s₆ G₆ => ?_
  rw [if_pos rfl]
  refine seg_execs_cons (seg_wrap (Raise_madeB F.excCall_ValueError F.excRaise_ValueError Rm.h (bname_ok G₆.sg G₆.gf.e (by decide) ev₄.k.v (by simp [builtins]) rfl ⟨rfl, ?_⟩)))
  refine args_cons (Constant_str (args_nil ⟨by simp [sizeLine_eq], fun h₇ e made => ?_⟩))
  have hloF : ∀ b ∈ l.filterMap (·.frame), ∀ o, s.heap.get? b = some o → h₇.get? b = some o := fun b hb o ho => by
    refine made.keeps _ _ (G₆.chg.heap b o (fun h => ?_) ho)
    rcases List.mem_cons.mp h with rfl | h
    · exact hlF hb
    · simp only [List.mem_cons, List.not_mem_nil, or_false] at h
      rw [h, hsI] at ho; cases ho
  have hbI : ∀ b o, base.get? b = some o → b ∉ env.locals :: [s₂.heap.objs.size] := fun b o e h => by
    rcases List.mem_cons.mp h with rfl | h
    · rw [hbL] at e; cases e
    · simp only [List.mem_cons, List.not_mem_nil, or_false] at h
      have := hst b o e
      rw [h, hsI] at this; cases this
  have st₇ : base.StaysIn h₇ := fun b o e => made.keeps _ _ (G₆.chg.heap b o (hbI b o e) (hst b o e))
  obtain ⟨ml₆, hn₆, _⟩ := G₆.gf.e.ns
  have born : Born base L₀ oL (env :: l) e (.type "ValueError") h₇ := by
    obtain ⟨tt, he, _⟩ := made.there
    refine ⟨st₇, ?_, Heap.FunFrames.cons (by rw [G₆.gf.e.kind]; decide) hef (hn₆.keeps made.keeps) hbL (funFrames_at hloF hff), ⟨_, _, he, rfl, rfl, rfl⟩, ?_⟩
    · cases q : base.get? e with
      | none => rfl
      | some o => have := G₆.chg.heap e o (hbI e o q) (hst e o q); rw [made.new] at this; cases this
    · obtain ⟨sl, hl₀⟩ := hlow
      refine ⟨sl, made.keeps _ _ (G₆.chg.heap L₀ _ (fun h => ?_) hl₀)⟩
      rcases List.mem_cons.mp h with h | h
      · exact hL₀ h
      · simp only [List.mem_cons, List.not_mem_nil, or_false] at h
        rw [h, hsI] at hl₀; cases hl₀
  -- out of the loop
  have rst : ∀ h, Rst s { s₆ with heap := h, toks := s₆.toks + 1 } := fun h => ⟨G₆.chg.gsz, G₆.chg.gens, G₆.chg.bare, G₆.chg.os, Nat.le_succ_of_le G₆.chg.toks⟩
  show Seg _ A R Y n s _ (loopH env (.ref e)) _ _
  refine seg_wrap (wpAny_bind (note_first hoL (frames_for hfr (.inr trivial)) hef born fun h₈ F₈ => wpAny_theTreesLotGoes ?_))
  refine seg_leaf (.error (.ref e)) ?_
  have fin : ∀ (bd : List Stmt) h, Fly base L₀ oL (env :: l) e (.type "ValueError") (rawInt env.locals) h → Seg (model prog w) A R Y n s (.func bd env) ((leaving env (.ref e)).wrap (fun _ => .raise (.ref e)) .raise id id) [] { s₆ with heap := h, toks := s₆.toks + 1 } := fun bd h F =>
    seg_wrap (leaving_same (s := { s₆ with heap := h, toks := s₆.toks + 1 }) hoL hef F fun h' F' => seg_end (.error (.ref e)) (hR e _ F'.below (rst h')))
  have key : ∀ (t : Sem Unit) (K : Flow → Sem Fin) (H : Value → Sem Fin) (gd : Bool → Bool) (lv : List Value → List Value) (c : Code) (s' : Shared), wpAny (model prog w) (A.over c []) t (fun _ s'' => Seg (model prog w) A R Y n s c (H (.ref e)) [] s'') (fun x s'' => Seg (model prog w) A R Y n s c (H x) [] s'') s' →
      Seg (model prog w) A R Y n s c ((t.bind fun _ => (.raise (.ref e) : Sem Flow)).wrap K H gd lv) [] s' := by
    intro t K H gd lv c s' h
    rw [Sem.bind_eq_wrap, Sem.wrap_wrap]
    exact seg_wrap h
  refine key _ _ _ _ _ _ _ ?_
  exact cameBack_ok (E := fun x s' => Seg (model prog w) A R Y n s (.func _ env) ((leaving env x).wrap (fun _ => .raise x) .raise id id) [] s') (s := { s₆ with heap := h₈, toks := s₆.toks + 1 }) hoL hef F₈ fun h₉ F₉ => fin _ h₉ F₉
end Mine
end
section
open PySem PySem.W PyProof.Rows PySem.Calls Builtin.Str PySem.Spec
open Sem (wp)
namespace Mine
variable {prog : Program} {w : World} {mg mb : Str → Option Value} {defs : List DefRec} {hG : Heap} {A : Around} {E : Value → Shared → Prop} {s s₀ s' : Shared} {env : Env} {m : ME} {ro : List Addr}

/-- a heap without some objects -/
noncomputable def without (h : Heap) : List Addr → Heap
  | [] => h
  | a :: r => (without h r).update a fun o => { o with data := .freed }
theorem without_none (h : Heap) : ∀ {l : List Addr} {b : Addr}, b ∈ l → (without h l).get? b = none
  | [], b, hb => by cases hb
  | a :: r, b, hb => by
    by_cases e : a = b
    · subst e
      unfold without
      generalize without h r = h'
      obtain ⟨objs, lf⟩ := h'
      show (match (objs.modify a fun o => { o with data := .freed })[a]? with | some ⟨_, _, .freed, _⟩ => none | o => o) = none
      rw [Array.getElem?_modify, if_pos rfl]
      cases objs[a]? <;> rfl
    · rcases List.mem_cons.mp hb with e' | hb
      · exact absurd e'.symm e
      · unfold without
        rw [Heap.get?_update_other _ _ e]
        exact without_none h hb
theorem without_some (h : Heap) : ∀ {l : List Addr} {b : Addr}, b ∉ l → (without h l).get? b = h.get? b
  | [], b, hb => rfl
  | a :: r, b, hb => by
    simp only [List.mem_cons, not_or] at hb
    unfold without
    rw [Heap.get?_update_other _ _ (Ne.symm hb.1)]
    exact without_some h hb.2

theorem pyNext_raise {a : Addr} {g : Nat} {c : Code} {P : Addr → Shared → Prop} {Y : Protocol} {Q : Option Value → Shared → Prop} (hh : A.handled = none)
    (hl : s.heap.NoLimit) (hroom : A.depth < recursionLimit) (hg : s.heap.IsGen a g) (hgs : s.gens[g]? = some (.fresh c))
    (hgo : Seg (model prog w) A.in1 (fun n s₀ r s₁ => ∃ e, r = .error (.ref e) ∧ P e s₁) Y 0 (s.setGen g .running) c ((model prog w).den c) [] (s.setGen g .running))
    (hY : ∀ k s₀ v s₁ kap, ¬ Y k s₀ v s₁ kap)
    (hP : ∀ e s₁, P e s₁ → s₁.heap.IsGen a g ∧ s₁.TypeIs (.ref e) "ValueError" ∧ E (.ref e) (s₁.setGen g .finished)) :
    wpAny (model prog w) A (pyNext (.ref a)) Q E s := by
  unfold pyNext
  refine wpAny_bind (wpAny_attempt (wpAny_callSpecial?_slot (name := Str.ofString "__next__") hg.typeIs slot_gen_next
    (wpAny_call_entry slot_gen_next hg.typeIs entry_gen_next ?_ (args_gen_next _))))
  show wpAny _ A.in1 (Builtin.Generator.genWake (.ref a) (.send .none)) _ _ s
  unfold Builtin.Generator.genWake
  refine wpAny_bind (wpAny_holding (wpAny_genNumber hg (wpAny_bind (wpAny_genState hgs ?_))))
  refine wpAny_bind (wpAny_roomToWake hl hroom ?_)
  show wpAny _ A.in1 (.resume g (.send .none) [] _) _ _ s
  refine wpAny_resumeQ (n := 0) (gs := .fresh c) hgs ⟨rfl, hgo⟩ (fun x s₁ hx => ?_) (fun v s₁ gs' hb hv => absurd hv (hY _ _ _ _ _))
  obtain ⟨e, rfl, hp⟩ := hx
  obtain ⟨⟨o, nm, qn, ho, hc, hd, hsl⟩, ⟨oe, hoe, hce⟩, hE⟩ := hP e s₁ hp
  have hsub : isSubtype (.type "ValueError") (.type "StopIteration") = pure false := isSubtype_of_subB (by decide +kernel)
  have hT : (s₁.setGen g .finished).TypeIs (.ref e) "ValueError" := ⟨oe, hoe, hce⟩
  show wpAny _ A.in1 (Builtin.Generator.genLeft (.ref a) (.ref e)) _ _ (s₁.setGen g .finished)
  unfold Builtin.Generator.genLeft Builtin.Generator.madeByALambda Builtin.Generator.genEscaped
  refine wpAny_bind (wpAny_bind (wpAny_load ho ?_))
  rw [hc, hd]
  refine wpAny_pure (wpAny_bind (wpAny_isInstance hT hsub ?_))
  refine wpAny_bind (wpAny_isInstance hT hsub ?_)
  refine wpAny_throw ?_
  exact wpAny_bind (wpAny_isInstance hT hsub (wpAny_throw hE))
end Mine
end
section
open PySem PySem.W PyProof.Rows PySem.Calls Builtin.Str PySem.Spec
open Sem (wp)
set_option maxRecDepth 100000
namespace Mine
variable {prog : Program} {w : World} {mg mb : Str → Option Value} {hG : Heap} {A : Around} {E : Value → Shared → Prop} {s s₀ s' : Shared} {env : Env} {m : ME} {ro : List Addr}

theorem Fly.mono {base base' : Heap} {L₀ : Addr} {oL : Obj} {l : List Env} {e : Addr} {cls fl : Value} {h : Heap} (F : Fly base L₀ oL l e cls fl h) (hk : ∀ b o, base'.get? b = some o → base.get? b = some o) : Fly base' L₀ oL l e cls fl h := by
  have no : ∀ b, base.get? b = none → base'.get? b = none := fun b hb => by
    cases q : base'.get? b with
    | none => rfl
    | some o => rw [hk b o q] at hb; cases hb
  have ff : ∀ {l : List Env}, h.FunFrames base l → h.FunFrames base' l := by
    intro l
    induction l with
    | nil => exact id
    | cons a r ih => rintro ⟨h1, ⟨L, o, h2, h3, h4, h5⟩, h6⟩; exact ⟨h1, ⟨L, o, h2, no L h3, h4, h5⟩, ih h6⟩
  obtain ⟨oe, vs, T, oT, ts, a1, a2, a3, a4, a5, a6⟩ := F.tr
  exact ⟨fun b o q => F.stays b o (hk b o q), no e F.new, ff F.frames, ⟨oe, vs, T, oT, ts, a1, a2, a3, a4, no T a5, a6⟩, F.low⟩

/-- the frames on the stack, each with its object -/
noncomputable def OnStack (h : Heap) : List Env → Prop
  | [] => True
  | env :: rest => env.scope.kind ≠ .module ∧ (∃ L o, env.frame = some L ∧ h.get? L = some o ∧ ∀ vs, o.data ≠ .fields vs) ∧ OnStack h rest
theorem OnStack.fun {h base : Heap} : ∀ {l : List Env}, OnStack h l → (∀ b ∈ l.filterMap (·.frame), base.get? b = none) → h.FunFrames base l
  | [], _, _ => trivial
  | env :: rest, ⟨h1, ⟨L, o, h2, h3, h4⟩, h5⟩, hn => by
    rw [List.filterMap_cons, h2] at hn
    exact ⟨h1, ⟨L, o, h2, hn L (List.mem_cons_self ..), h3, h4⟩, OnStack.fun h5 fun b hb => hn b (List.mem_cons_of_mem _ hb)⟩
theorem OnStack.mem {h : Heap} : ∀ {l : List Env}, OnStack h l → ∀ b ∈ l.filterMap (·.frame), ∃ o, h.get? b = some o
  | [], _, b, hb => by simp at hb
  | env :: rest, ⟨h1, ⟨L, o, h2, h3, h4⟩, h5⟩, b, hb => by
    rw [List.filterMap_cons, h2] at hb
    rcases List.mem_cons.mp hb with rfl | hb
    · exact ⟨o, h3⟩
    · exact OnStack.mem h5 b hb
theorem OnStack.keeps {h h' : Heap} (hk : ∀ b o, h.get? b = some o → h'.get? b = some o) : ∀ {l : List Env}, OnStack h l → OnStack h' l
  | [], _ => trivial
  | env :: rest, ⟨h1, ⟨L, o, h2, h3, h4⟩, h5⟩ => ⟨h1, ⟨L, o, h2, hk _ _ h3, h4⟩, OnStack.keeps hk h5⟩

noncomputable def rSizes : DefRec := theDefs[8]'(by rw [defs_len]; decide)
theorem rSizes_mem : rSizes ∈ theDefs := List.getElem_mem _
theorem rSizes_name : rSizes.name = ("_law_sizes" : Str) := by rfl

theorem frames_in1 : A.in1.frames = A.frames := by rfl

/-- the loop of `_law_sizes` on a ruler that begins with 0: its first step raises -/
theorem sizes_loop {base' : Heap} {L₀ : Addr} {oL : Obj} {l : List Env} {tgt : Expr} {body : List Stmt} {R : Result → Shared → Prop} {as : List Atm} {rest : List Int} {a : Addr} {o : Obj} {pm code doc : Value} {x : Value} {p : Pos}
    (Rm : Room A 3) (hfr : A.frames = some (env :: l)) (hef : env.frame = some env.locals) (hoL : ∀ vs, oL.data ≠ .fields vs) (hk : env.scope.kind = .function) (hl : intsOf as = some (0 :: rest)) (G : Sg mg mb theDefs hG s) (hon : OnStack s.heap (env :: l)) (hL₀ : L₀ ∈ (env :: l).filterMap (·.frame)) (hlow : ∃ sl, s.heap.get? L₀ = some { oL with slots := sl })
    (hbase : ∀ b o, base'.get? b = some o → s.heap.get? b = some o ∧ b ∉ (env :: l).filterMap (·.frame))
    (ho : s.heap.get? a = some o) (hdat : o.data = .func (docDef rGrp.name rGrp.params rGrp.body rGrp.scope pm code doc)) (hrec : s.heap.CodeRec code rGrp.name) (hx : HasV prog w s.heap x (.list as))
    (hR : ∀ e s', Fly base' L₀ oL (env :: l) e (.type "ValueError") (rawInt env.locals) s'.heap → Rst s s' → R (.error (.ref e)) s') (Q : Value → Shared → Prop)
    (hQ : ∀ g s', codeAny (model prog w) A (.forLoop tgt (.ref g) body [] env) R s' → Q (.ref g) s') :
    wpAny (model prog w) A (PySem.call (.ref a) [x]) (fun g s₁ => wpAny (model prog w) A (pyIter g) Q E s₁) E s := by
  refine gen_make rGrp_plain (Rm.le (by decide)) G ho hdat hrec hx fun g idx genv ro s₂ xs e1 ef e2 hgn hgL hgen hidx hgs gf hro' hro hgex => hQ g s₂ ?_
  have hgs₂ : idx < s₂.gens.size := (Array.getElem?_eq_some_iff.mp hgs).1
  have hLn : s.heap.get? genv.locals = none := by rw [e2]; exact get_size _
  have hGL : hG.get? genv.locals = none := by
    cases q : hG.get? genv.locals with
    | none => rfl
    | some o => rw [G.base _ _ q] at hLn; cases hLn
  have hLl : genv.locals ∉ (env :: l).filterMap (·.frame) := fun h => by obtain ⟨o, ho⟩ := hon.mem _ h; rw [hLn] at ho; cases ho
  have G₂ := G.ext xs
  refine codeAny_forLoop_any (fun _ s' => s' = s₂) ?_ 0 rfl
  rintro n s' rfl
  -- the base of the raise: all but the frames
  have hB : ∀ b o, base'.get? b = some o → (without s'.heap (genv.locals :: (env :: l).filterMap (·.frame))).get? b = some o := fun b o hb => by
    obtain ⟨h1, h2⟩ := hbase b o hb
    rw [without_some]
    · exact xs.heap b o h1
    · intro h
      rcases List.mem_cons.mp h with rfl | h
      · rw [hLn] at h1; cases h1
      · exact h2 h
  have hdep : A.depth < recursionLimit := by have := Rm.dep; omega
  refine pyNext_raise (P := fun e s₁ => Fly (without s'.heap (genv.locals :: (env :: l).filterMap (·.frame))) L₀ oL (env :: l) e (.type "ValueError") .none s₁.heap ∧ Rst (s'.setGen idx .running) s₁) (Y := fun _ _ _ _ _ => False) Rm.h G₂.glb.nl hdep hgen hgs ?_ (fun _ _ _ _ _ h => h) (fun e s₁ hp => ?_)
  · refine grp_raise (A := A.in1) (base := without s'.heap (genv.locals :: (env :: l).filterMap (·.frame))) (L₀ := L₀) (oL := oL) (l := env :: l) rfl Rm.in1 (frames_in1.trans hfr) ef hoL (grp_kinds _) hl (by rfl) hGL G₂.run (gf.fra (List.mem_cons_self ..) (wr := [genv.locals]) fun b _ o e => e) ?_ ?_ ?_ hLl ?_ ?_ (fun e s₁ F r => ⟨e, rfl, F, r⟩)
    · intro b o hb
      by_cases q : b ∈ genv.locals :: (env :: l).filterMap (·.frame)
      · rw [without_none _ q] at hb; cases hb
      · rw [without_some _ q] at hb; exact hb
    · exact without_none _ (List.mem_cons_self ..)
    · exact (hon.keeps xs.heap).fun fun b hb => without_none _ (List.mem_cons_of_mem _ hb)
    · obtain ⟨sl, h⟩ := hlow; exact ⟨sl, xs.heap _ _ h⟩
    · intro h; exact hLl (h ▸ hL₀)
  · obtain ⟨F, r⟩ := hp
    obtain ⟨og, nm, qn, hog, hcg⟩ := id hgen
    have hgF : g ∉ genv.locals :: (env :: l).filterMap (·.frame) := fun h => by
      rcases List.mem_cons.mp h with h | h
      · exact hgL h
      · obtain ⟨o, ho⟩ := hon.mem _ h; rw [hgn] at ho; cases ho
    refine ⟨⟨og, nm, qn, F.stays g og (by rw [without_some _ hgF]; exact hog), hcg⟩, ?_, ?_⟩
    · obtain ⟨oe, vs, T, oT, ts, a1, a2, _⟩ := F.tr
      exact ⟨oe, a1, a2⟩
    · refine note_next (A := A) (s := s₁.setGen idx .finished) (env := env) (l := l) hoL hfr hef F fun h' F' => ?_
      refine hR e _ (F'.mono hB) ⟨?_, fun i hi => ?_, fun hb => ?_, ?_, Nat.le_trans xs.toks r.toks⟩
      · show s.gens.size ≤ (s₁.setGen idx .finished).gens.size
        rw [setGen_size]; exact Nat.le_trans xs.gsz (Nat.le_trans (Nat.le_of_eq (setGen_size s' idx .running).symm) r.gsz)
      · show (s₁.setGen idx .finished).gens[i]? = _
        have hne : i ≠ idx := by rw [hidx]; exact Nat.ne_of_lt hi
        rw [setGen_gens _ _ _ hne, r.gens i (by rw [setGen_size]; exact Nat.lt_of_lt_of_le hi xs.gsz), setGen_gens _ _ _ hne, xs.gens i hi]
      · exact setGen_bare (r.bare (setGen_bare (xs.bare hb) rfl)) rfl
      · exact r.os.trans xs.os
end Mine
end
section
open PySem PySem.W PyProof.Rows PySem.Calls Builtin.Str PySem.Spec
open Sem (wp)
set_option maxRecDepth 100000
namespace Mine
variable {prog : Program} {w : World} {mg mb : Str → Option Value} {hG : Heap} {A : Around} {E : Value → Shared → Prop} {s s₀ s' : Shared} {env : Env} {m : ME} {ro : List Addr}

theorem Rst.ext (x : Ext s s') : Rst s s' := ⟨x.gsz, x.gens, x.bare, x.os, x.toks⟩
theorem Rst.trans {s s' s'' : Shared} (a : Rst s s') (b : Rst s' s'') : Rst s s'' := ⟨Nat.le_trans a.gsz b.gsz, fun i h => (b.gens i (Nat.lt_of_lt_of_le h a.gsz)).trans (a.gens i h), fun h => b.bare (a.bare h), b.os.trans a.os, Nat.le_trans a.toks b.toks⟩
theorem Rst.heap (a : Rst s s') (h : Heap) : Rst s { s' with heap := h } := ⟨a.gsz, a.gens, a.bare, a.os, a.toks⟩

/-- `_law_sizes` on a ruler that begins with 0 raises -/
theorem sizes_raise {L₀ : Addr} {oL : Obj} {l : List Env} {as : List Atm} {rest : List Int} {a : Addr} {x : Value}
    (Rm : Room A 4) (hfr : A.frames = some l) (hoL : ∀ vs, oL.data ≠ .fields vs) (hl : intsOf as = some (0 :: rest)) (G : Sg mg mb theDefs hG s) (hon : OnStack s.heap l) (hL₀ : L₀ ∈ l.filterMap (·.frame)) (hlow : s.heap.get? L₀ = some oL)
    (ha : mg ("_law_sizes" : Str) = some (.ref a)) (hx : HasV prog w s.heap x (.list as))
    (hE : ∀ e s', Fly (without s.heap (l.filterMap (·.frame))) L₀ oL l e (.type "ValueError") .none s'.heap → Rst s s' → E (.ref e) s') (Q : Value → Shared → Prop) :
    wpAny (model prog w) A (PySem.call (.ref a) [x]) Q E s := by
  obtain ⟨a', o, pm, code, doc, h1, h2, h3, h4⟩ := G.glb.fn rSizes rSizes_mem
  rw [rSizes_name, ha] at h1
  cases h1
  refine def_enter (d := 3) (r := rSizes) (f := "_law_sizes") (vs := [.list as]) (bs := [("ruler", .list as)]) (tok := []) (lit := false) Rm (by decide +kernel) (by rfl) G.zero (.inl G.tpos) h2 h3 h4 (.cons hx .nil) (fun x hx => by cases hx) fun env σ B s₁ e1 ef hB S => ?_
  have Rm' : Room (A.deeper env) 3 := Rm.deeper env
  have V := all_ok (prog := prog) (w := w) (mg := mg) (mb := mb) (defs := theDefs) (hG := hG) (d := 2) noHC Rm'
  have hLs : s.heap.get? env.locals = none := S.not_prot_s0 S.loc.2
  show wpAny _ _ (execs (.Assign [.Name "told" _] (.List [] _) _ :: .For (.Name "size" _) (.Call (.Name "_grouping_intervals" _) [.Name "ruler" _] [] _) _ [] _ :: _) env) _ _ _
  refine wpAny_execs_cons (assign_case (n := 2) (v := .list []) (own := true) (V 2).ev S (.inl (by rfl)) rfl (by rfl) (.inr rfl) fun fl s₂ σ₂ hfl S₂ => ?_)
  cases fl <;> first | exact hfl.elim | skip
  obtain ⟨aG, oG, pmG, cG, dG, g1, g2, g3, g4⟩ := S₂.sg.glb.fn rGrp rGrp_mem
  rw [rGrp_name] at g1
  have hbase : ∀ b o, (without s.heap (l.filterMap (·.frame))).get? b = some o → s₂.heap.get? b = some o ∧ b ∉ (env :: l).filterMap (·.frame) := fun b o hb => by
    by_cases q : b ∈ l.filterMap (·.frame)
    · rw [without_none _ q] at hb; cases hb
    · rw [without_some _ q] at hb
      refine ⟨S₂.x0.heap _ _ hb, fun h => ?_⟩
      rw [List.filterMap_cons, ef] at h
      rcases List.mem_cons.mp h with rfl | h
      · rw [hLs] at hb; cases hb
      · exact q h
  have hon₂ : OnStack s₂.heap (env :: l) := by
    obtain ⟨ml, ⟨o, es, ep, ho, hd, _⟩, _⟩ := S₂.ns
    exact ⟨by rw [S₂.kind]; decide, ⟨_, o, ef, ho, fun vs q => by rw [hd] at q; cases q⟩, hon.keeps S₂.x0.heap⟩
  have hL₀' : L₀ ∈ (env :: l).filterMap (·.frame) := by rw [List.filterMap_cons, ef]; exact List.mem_cons_of_mem _ hL₀
  refine wpAny_execs_cons (wpAny_For (Call_Name rfl (gname_ok S₂.sg S₂.e (by decide) (by rfl) g1 ?_)))
  refine callWith_function (o := oG) (evalArgs_plain (spliced_cons (local_ok S₂ (by decide) (by rfl) (by rfl) fun mv hσ hv => spliced_nil ⟨⟨g2, g3⟩, ?_⟩)))
  refine sizes_loop (base' := without s.heap (l.filterMap (·.frame))) (L₀ := L₀) (oL := oL) (l := l) (env := env) (p := default) Rm' (Around.frames_deeper hfr) ef hoL S₂.kind hl S₂.sg hon₂ hL₀' ⟨oL.slots, S₂.x0.heap _ _ hlow⟩ hbase g2 g3 g4 hv ?_ _ (fun g s' h => h)
  intro e s' F r
  refine cameBack_ok hoL ef F fun h' F' => ?_
  refine leaving_same (s := { s' with heap := h' }) hoL ef F' fun h'' F'' => ?_
  exact hE e _ F''.below (((Rst.ext S₂.x0).trans r).heap h'')
end Mine
end
section
open PySem PySem.W PyProof.Rows PySem.Calls Builtin.Str PySem.Spec
open Sem (wp)
set_option maxRecDepth 100000
namespace Mine
variable {prog : Program} {w : World} {mg mb : Str → Option Value} {hG : Heap} {A : Around} {E : Value → Shared → Prop} {s s₀ s' : Shared} {env : Env} {m : ME} {ro : List Addr}

/-- `_law_refused` answers True -/
theorem refused_ok {L₀ : Addr} {oL : Obj} {l : List Env} {as : List Atm} {nz : List Int} {a : Addr} {x : Value}
    (Rm : Room A 6) (hfr : A.frames = some l) (hoL : ∀ vs, oL.data ≠ .fields vs) (hl : intsOf as = some nz) (hlen : as.length ≤ 60) (G : Sg mg mb theDefs hG s) (hon : OnStack s.heap l) (hL₀ : L₀ ∈ l.filterMap (·.frame)) (hlow : s.heap.get? L₀ = some oL)
    (hlG : ∀ b ∈ l.filterMap (·.frame), hG.get? b = none) (ha : mg ("_law_refused" : Str) = some (.ref a)) (hx : HasV prog w s.heap x (.list as)) {Q : Value → Shared → Prop}
    (hQ : ∀ s', (∀ b o, b ∉ l.filterMap (·.frame) → s.heap.get? b = some o → s'.heap.get? b = some o) → (∃ sl, s'.heap.get? L₀ = some { oL with slots := sl }) → Rst s s' → Q (.bool true) s') :
    wpAny (model prog w) A (PySem.call (.ref a) [x]) Q E s := by
  obtain ⟨a', o, pm, code, doc, h1, h2, h3, h4⟩ := G.glb.fn rRef rRef_mem
  rw [rRef_name, ha] at h1
  cases h1
  refine def_enter (d := 5) (r := rRef) (f := "_law_refused") (vs := [.list as]) (bs := [("ruler", .list as)]) (tok := []) (lit := false) Rm (by decide +kernel) (by rfl) G.zero (.inl G.tpos) h2 h3 h4 (.cons hx .nil) (fun x hx => by cases hx) fun env σ B s₁ e1 ef hB S => ?_
  have Rm' : Room (A.deeper env) 5 := Rm.deeper env
  have V := all_ok (prog := prog) (w := w) (mg := mg) (mb := mb) (defs := theDefs) (hG := hG) (d := 4) noHC Rm'
  have hLs : s.heap.get? env.locals = none := S.not_prot_s0 S.loc.2
  obtain ⟨aS, oS, pmS, cS, dS, g1, g2, g3, g4⟩ := S.sg.glb.fn rSizes rSizes_mem
  rw [rSizes_name] at g1
  have hev : ∀ p1 p2 p3 p4, ev noCall 4 (.BinOp (.List [.Constant (.int 0) 0 p1] p2) .Add (.Name "ruler" p3) p4) { kinds := rRef.scope.names, val := [("ruler", .list as)], tok := [], lit := false } = some (.list (.int 0 :: as)) := fun p1 p2 p3 p4 => by
    have h1 : ev noCall 3 (.List [.Constant (.int 0) 0 p1] p2) { kinds := rRef.scope.names, val := [("ruler", .list as)], tok := [], lit := false } = some (.list [.int 0]) := by rfl
    have h2 : ev noCall 3 (.Name "ruler" p3) { kinds := rRef.scope.names, val := [("ruler", .list as)], tok := [], lit := false } = some (.list as) := by rfl
    show evBin .Add (ev noCall 3 (.List [.Constant (.int 0) 0 p1] p2) _) (ev noCall 3 (.Name "ruler" p3) _) = _
    rw [h1, h2]
    show (if _ then _ else _) = _
    rw [if_pos (add_ok (by decide) (by omega))]
    rfl
  show wpAny _ _ (execs (.Try [.Expr (.Call (.Name "_law_sizes" _) [.BinOp (.List [.Constant (.int 0) 0 _] _) .Add (.Name "ruler" _) _] [] _) _] [.ExceptHandler (some (.Name "ValueError" _)) none [.Return (some (.Constant (.bool true) 0 _)) _] _] [] [] _ :: _) env) _ _ _
  have hfr' := Around.frames_deeper (env := env) hfr
  have hon₁ : OnStack s₁.heap (env :: l) := by
    obtain ⟨ml, ⟨o, es, ep, ho, hd, _⟩, _⟩ := S.ns
    exact ⟨by rw [S.kind]; decide, ⟨_, o, ef, ho, fun vs q => by rw [hd] at q; cases q⟩, hon.keeps S.x0.heap⟩
  have hL₀' : L₀ ∈ (env :: l).filterMap (·.frame) := by rw [List.filterMap_cons, ef]; exact List.mem_cons_of_mem _ hL₀
  have hGn : hG.get? env.locals = none := by
    cases q : hG.get? env.locals with
    | none => rfl
    | some o => rw [G.base _ _ q] at hLs; cases hLs
  refine wpAny_execs_cons (wpAny_Try_except (wpAny_execs_cons (wpAny_Expr (Call_Name rfl (gname_ok S.sg S.e (by decide) (by rfl) g1 ?_)) (by simp [interactive, S.kind]) rfl)))
  refine callWith_function (o := oS) (evalArgs_plain (spliced_cons ((V 4).ev _ _ _ _ _ _ _ (hev _ _ _ _) S.sg S.e fun mv s₃ x₃ hmv _ _ => spliced_nil ⟨⟨x₃.heap _ _ g2, g3⟩, ?_⟩)))
  have S₃ := S.ext x₃
  refine sizes_raise (L₀ := L₀) (oL := oL) (l := env :: l) (rest := nz) (as := .int 0 :: as) (Rm'.le (by decide)) hfr' hoL (by simp [intsOf, hl]) S₃.sg (hon₁.keeps x₃.heap) hL₀' (S₃.x0.heap _ _ hlow) g1 hmv (fun e s₄ F r => ?_) _
  refine note_next hoL hfr' ef F fun h₅ F₅ => ?_
  refine setFlight_ok (s := { s₄ with heap := h₅ }) (f := none) hoL F₅ fun h₆ F₆ => ?_
  have F₆' : Fly (without s₃.heap ((env :: l).filterMap (·.frame))) L₀ oL (env :: l) e (.type "ValueError") .none h₆ := F₆
  have hG₆ : ∀ b o, hG.get? b = some o → h₆.get? b = some o := fun b o hb => by
    refine F₆'.stays b o ?_
    rw [without_some]
    · exact S₃.sg.base _ _ hb
    · intro hm
      rw [List.filterMap_cons, ef] at hm
      rcases List.mem_cons.mp hm with rfl | hm
      · rw [hGn] at hb; cases hb
      · rw [hlG _ hm] at hb; cases hb
  refine wpAny_handleBy_builtin (X := "ValueError") (T := "ValueError") (b := true) (isSubtype_of_subB (by decide +kernel)) (isSubtype_of_subB (by decide +kernel)) (isSubtype_of_subB (by decide +kernel)) ?_
  have gl := G.gG.keeps hG₆
  have e₁ := S.globals
  have e₂ := S.builtins
  refine Name_function_global S.kind (by unfold Env.kindOf; rw [S.names]; rfl) (loadGlobal_builtin (mg := mg) (mb := mb) (v := .type "ValueError") (by rw [e₁]; exact gl.g) (gl.bmiss _ (by simp [builtins])) (by rw [e₂]; exact gl.b) ((gl.bi _ (by decide)).trans (by rfl)) ⟨rfl, ?_, ?_⟩) (by decide)
  · obtain ⟨oe, vs, T, oT, ts, he, hcls, hrest⟩ := F₆'.tr
    exact ⟨_, he, hcls⟩
  rw [if_pos rfl]
  refine setFlight_ok (s := { s₄ with heap := h₆ }) (f := none) hoL F₆ fun h₇ F₇ => ?_
  have F₇' : Fly (without s₃.heap ((env :: l).filterMap (·.frame))) L₀ oL (env :: l) e (.type "ValueError") .none h₇ := F₇
  refine wpAny_execs_cons (wpAny_Return_some (Constant_bool ?_))
  refine hQ _ (fun b o hb ho => F₇'.stays b o ?_) F₇'.low (((Rst.ext S₃.x0).trans r).heap h₇)
  rw [without_some]
  · exact S₃.x0.heap _ _ ho
  · intro hm
    rw [List.filterMap_cons, ef] at hm
    rcases List.mem_cons.mp hm with rfl | hm
    · rw [hLs] at ho; cases ho
    · exact hb hm
end Mine
end
section
open PySem PySem.W PyProof.Rows PySem.Calls Builtin.Str PySem.Spec
open Sem (wp)
set_option backward.match.sparseCases false
set_option maxRecDepth 100000
namespace Mine
variable {prog : Program} {w : World} {mg mb : Str → Option Value} {hG : Heap} {A : Around} {E : Value → Shared → Prop} {s s₀ s' : Shared} {B : Base} {env : Env} {m m' : ME} {σ : Str → Option Value} {call : CallT} {gen : GenT}

theorem exs_pre (X : ∀ n, StOk prog w mg mb theDefs hG A call gen n) {rest : List Stmt} {m' : ME} {env : Env} {B : Base} {s₀ : Shared} {Q : Flow → Shared → Prop} {E : Value → Shared → Prop}
    (hQ : ∀ s' σ', SRel prog w mg mb theDefs hG s₀ B env m' σ' s' → wpAny (model prog w) A (execs rest env) Q E s') : ∀ (pre : List Stmt) {n : Nat} {m : ME} {σ : Str → Option Value} {s : Shared},
    exs call gen n pre m = some (.next, m') → SRel prog w mg mb theDefs hG s₀ B env m σ s → wpAny (model prog w) A (execs (pre ++ rest) env) Q E s
  | [], n, m, σ, s, h, S => by
    cases n with
    | zero => exact no_some h
    | succ n =>
      obtain rfl := (Prod.mk.inj (Option.some.inj h)).2
      exact hQ _ _ S
  | st :: r, n, m, σ, s, h, S => by
    cases n with
    | zero => exact no_some h
    | succ n =>
      refine bindK h fun q hx h => wpAny_execs_cons ((X n).ex _ _ _ _ _ _ _ _ _ _ _ hx S fun fl s₁ σ₁ hfl S₁ => ?_)
      obtain ⟨f₁, m₁⟩ := q
      cases f₁ with
      | next =>
        cases fl <;> first | exact hfl.elim | skip
        exact exs_pre X hQ r h S₁
      | brk => exact Fl.noConfusion (Prod.mk.inj (Option.some.inj h)).1
      | ret v => exact Fl.noConfusion (Prod.mk.inj (Option.some.inj h)).1

theorem SRel.slots (S : SRel prog w mg mb theDefs hG s₀ B env m σ s) {oL : Obj} (ho : s.heap.get? env.locals = some oL) (hk : ∀ b o, b ≠ env.locals → s.heap.get? b = some o → s'.heap.get? b = some o)
    (hl : ∃ sl, s'.heap.get? env.locals = some { oL with slots := sl }) (r : Rst s s') :
    SRel prog w mg mb theDefs hG s₀ { B with ref := s'.heap, gn := s'.gens.size, gref := s'.gens } env m σ s' := by
  have hLs : s₀.heap.get? env.locals = none := S.not_prot_s0 S.loc.2
  have here : ∀ b, (∃ o, s.heap.get? b = some o) → ∃ o, s'.heap.get? b = some o := fun b ⟨o, hb⟩ => by
    by_cases q : b = env.locals
    · subst q; obtain ⟨sl, h⟩ := hl; exact ⟨_, h⟩
    · exact ⟨o, hk b o q hb⟩
  exact {
    g0 := S.g0
    tp := Nat.lt_of_lt_of_le S.tp r.toks
    x0 := ⟨fun b o e => hk b o (fun q => by subst q; rw [hLs] at e; cases e) (S.x0.heap b o e), Nat.le_trans S.x0.gsz r.gsz, fun i h => (r.gens i (Nat.lt_of_lt_of_le h S.x0.gsz)).trans (S.x0.gens i h), fun h => r.bare (S.x0.bare h), r.os.trans S.x0.os, Nat.le_trans S.x0.toks r.toks⟩
    pb := S.pb
    kept := ⟨fun b o _ e => e, Nat.le_refl _, fun _ _ => rfl⟩
    names := S.names
    kind := S.kind
    globals := S.globals
    builtins := S.builtins
    ns := by
      obtain ⟨ml, ⟨o, es, ep, h1, h2, h3⟩, hml⟩ := S.ns
      rw [ho] at h1; cases h1
      obtain ⟨sl, h⟩ := hl
      exact ⟨ml, ⟨_, es, ep, h, h2, h3⟩, hml⟩
    nofree := S.nofree
    cells := fun y hy => by obtain ⟨c, a1, a2, a3, a4, a5⟩ := S.cells y hy; exact ⟨c, a1, (by obtain ⟨o, ho, hd⟩ := a2; exact ⟨o, hk c o a5 ho, hd⟩), a3, a4, a5⟩
    apart := S.apart
    hidEx := fun b hb => here b (S.hidEx b hb)
    protEx := fun b hb => here b (S.protEx b hb)
    loc := S.loc
    vals := fun y u hy hu => by obtain ⟨mu, e, h⟩ := S.vals y u hy hu; exact ⟨mu, e, h.mono fun a ea o ho => hk a o (fun q => (S.refs y a (ea ▸ e)).1 (q ▸ S.loc.1)) ho⟩
    refs := fun y b e => by obtain ⟨h1, h2⟩ := S.refs y b e; exact ⟨h1, here b h2⟩
    own := S.own
    tok := fun y hy hky => by obtain ⟨z, t, e, h, h'⟩ := S.tok y hy hky; exact ⟨z, t, e, h, Nat.lt_of_lt_of_le h' r.toks⟩ }

noncomputable def rLaw : DefRec := theDefs[14]'(by rw [defs_len]; decide)
theorem rLaw_mem : rLaw ∈ theDefs := List.getElem_mem _
theorem rLaw_name : rLaw.name = ("law" : Str) := by rfl
noncomputable def lawPre : List Stmt := rLaw.body.take 13
noncomputable def lawPost : List Stmt := rLaw.body.drop 14
/-- the two sides of the comparison of the sizes -/
noncomputable def ifTest : Stmt → Expr
  | .If t _ _ _ => t
  | _ => .Constant .none 0 default
noncomputable def boolParts : Expr → List Expr
  | .BoolOp _ es _ => es
  | _ => []
noncomputable def cmpSides : Expr → List Expr
  | .Compare l _ rs _ => l :: rs
  | _ => []
noncomputable def sizesTest : List Expr := cmpSides ((boolParts (ifTest (rLaw.body.getD 13 (.Break default)))).getD 0 (.Constant .none 0 default))
noncomputable def sizesL : Expr := sizesTest.getD 0 (.Constant .none 0 default)
noncomputable def sizesR : Expr := sizesTest.getD 1 (.Constant .none 0 default)
noncomputable abbrev lawM (as : List Atm) : ME := { kinds := rLaw.scope.names, val := [("script", .list as)], tok := [], lit := true }
noncomputable abbrev lawCall : CallT := callF theDefs 12

theorem law_walk {as rl : List Atm} {nz : List Int} {m₁ m₂ : ME} {n : Nat} {a : Addr} {x : Value}
    (h1 : exs lawCall genF 40 lawPre (lawM as) = some (.next, m₁)) (h2 : cmp lawCall n sizesL .NotEq sizesR m₁ = some false) (h3 : m₁.kinds = rLaw.scope.names) (h4 : m₁.val.lookup ("ruler" : Str) = some (.list rl))
    (h5 : intsOf rl = some nz) (h6 : rl.length ≤ 60) (h7 : exs lawCall genF 40 lawPost m₁ = some (.ret (.bool true), m₂))
    (Rm : Room A 17) (hfr : A.frames = some []) (G : Sg0 mg mb theDefs hG s) (ha : mg ("law" : Str) = some (.ref a)) (hx : HasV prog w s.heap x (.list as)) {Q : Value → Shared → Prop}
    (hQ : ∀ s', Ext s s' → Q (.bool true) s') : wpAny (model prog w) A (PySem.call (.ref a) [x]) Q E s := by
  obtain ⟨a', o, pm, code, doc, g1, g2, g3, g4⟩ := G.glb.fn rLaw rLaw_mem
  rw [rLaw_name, ha] at g1
  cases g1
  refine def_enter (d := 16) (r := rLaw) (f := "law") (vs := [.list as]) (bs := [("script", .list as)]) (tok := []) (lit := true) Rm (by decide +kernel) (by rfl) G (.inr ⟨"script", [], by rfl, by rfl⟩) g2 g3 g4 (.cons hx .nil) (fun x hx => by cases hx) fun env σ B s₁ e1 ef hB S => ?_
  have Rm' : Room (A.deeper env) 16 := Rm.deeper env
  have hGn : hG.get? env.locals = none := by
    cases q : hG.get? env.locals with
    | none => rfl
    | some o => have := G.base _ _ q; rw [S.not_prot_s0 S.loc.2] at this; cases this
  have HCl : HC prog w mg mb theDefs hG (A.deeper env) lawCall := call_ok (c := 3) (by decide) (fun A R => genF_ok R) 12 _ (Rm'.le (by decide))
  have X := st_ok (d := 14) HCl (genF_ok (Rm'.le (by decide))) (Rm'.le (by decide))
  have V := all_ok (d := 14) HCl (Rm'.le (by decide))
  have hbody : rLaw.body = lawPre ++ (rLaw.body[13]'(by decide +kernel) :: lawPost) := by
    rw [lawPre, lawPost, ← List.drop_eq_getElem_cons, List.take_append_drop]
  rw [hbody]
  refine exs_pre X (m' := m₁) (B := B) (s₀ := s) (fun s₂ σ₂ S₂ => ?_) lawPre h1 S
  show wpAny _ _ (execs (.If (.BoolOp .Or [.Compare sizesL [.NotEq] [sizesR] _, .UnaryOp .Not (.Call (.Name "_law_refused" _) [.Name "ruler" _] [] _) _] _) [.Return (some (.Constant (.bool false) 0 _)) _] [] _ :: lawPost) env) _ _ _
  refine wpAny_execs_cons (wpAny_If (wpAny_isTrue_BoolOp (wpAny_allTrue_Or_cons (wpAny_isTrue_Compare1 ((V n).cmp _ _ _ _ _ _ _ _ _ h2 S₂.sg S₂.e fun s₃ x₃ => wpAny_truthy_bool ?_) (cmp_right h2)))))
  rw [if_neg (by decide)]
  have S₃ := S₂.ext x₃
  obtain ⟨aR, oR, pmR, cR, dR, q1, q2, q3, q4⟩ := S₃.sg.glb.fn rRef rRef_mem
  rw [rRef_name] at q1
  have hkf : m₁.kinds.lookup ("_law_refused" : Str) = some .globalImplicit := by rw [h3]; rfl
  have hkr : m₁.kinds.lookup ("ruler" : Str) = some .local := by rw [h3]; rfl
  refine wpAny_allTrue_Or_cons (isTrue_not (isTrue_plain (Call_Name rfl (gname_ok S₃.sg S₃.e (by decide) hkf q1 ?_))))
  refine callWith_function (o := oR) (evalArgs_plain (spliced_cons (local_ok S₃ (by decide) hkr h4 fun mv hσ hv => spliced_nil ⟨⟨q2, q3⟩, ?_⟩)))
  obtain ⟨ml, ⟨oL, es, ep, hoL, hdL, _⟩, _⟩ := id S₃.ns
  refine refused_ok (L₀ := env.locals) (oL := oL) (l := [env]) (nz := nz) (Rm'.le (by decide)) (Around.frames_deeper hfr) (fun vs q => by rw [hdL] at q; cases q) h5 h6 S₃.sg ⟨by rw [S₃.kind]; decide, ⟨_, oL, ef, hoL, fun vs q => by rw [hdL] at q; cases q⟩, trivial⟩ (by simp [ef]) hoL
    (fun b hb => by simp [ef] at hb; subst hb; exact hGn) q1 hv (fun s₄ k₁ k₂ r => ?_)
  refine wpAny_truthy_bool ?_
  rw [Bool.not_true, if_neg (by decide)]
  refine wpAny_allTrue_Or_nil ?_
  rw [if_neg (by decide)]
  have S₄ := S₃.slots hoL (fun b o hb ho => k₁ b o (by simp [ef]; exact hb) ho) k₂ r
  refine wpAny_execs_nil ?_
  refine (X 40).exs _ _ _ _ _ _ _ _ _ _ _ h7 S₄ fun fl s₅ σ₅ hfl S₅ => ?_
  cases fl <;> first | exact hfl.elim | skip
  obtain ⟨hv, hn⟩ := hfl
  cases hv
  exact hQ _ S₅.x0
end Mine
end
section
open PySem PySem.W PyProof.Rows PySem.Calls Builtin.Str
namespace Mine

/-- a change of the letters a to e among themselves -/
structure Swap (φ : Nat → Nat) : Prop where
  inj : ∀ a b, φ a = φ b → a = b
  low : ∀ c, 97 ≤ c → c ≤ 101 → 97 ≤ φ c ∧ φ c ≤ 101
  out : ∀ c, ¬ (97 ≤ c ∧ c ≤ 101) → φ c = c

noncomputable def mapS (φ : Nat → Nat) (s : Str) : Str := ⟨s.cps.map φ⟩
noncomputable def mapA (φ : Nat → Nat) : Atm → Atm
  | .str s => .str (mapS φ s)
  | a => a
noncomputable def mapD (φ : Nat → Nat) (l : List (Str × Int)) : List (Str × Int) := l.map fun kv => (mapS φ kv.1, kv.2)
noncomputable def mapV (φ : Nat → Nat) : V → V
  | .at a => .at (mapA φ a)
  | .list l => .list (l.map (mapA φ))
  | .tup l => .tup (l.map (mapA φ))
  | .dict l => .dict (mapD φ l)
noncomputable def mapM (φ : Nat → Nat) (m : ME) : ME := { m with val := m.val.map fun kv => (kv.1, mapV φ kv.2) }

variable {φ : Nat → Nat}

@[simp] theorem mapS_cps (s : Str) : (mapS φ s).cps = s.cps.map φ := rfl
@[simp] theorem mapS_length (s : Str) : (mapS φ s).length = s.length := by simp [mapS, Str.length]
theorem mapS_append (a b : Str) : mapS φ (a ++ b) = mapS φ a ++ mapS φ b := by
  show (⟨(a.cps ++ b.cps).map φ⟩ : Str) = ⟨a.cps.map φ ++ b.cps.map φ⟩
  rw [Array.map_append]
theorem arr_map_inj (h : Swap φ) {a b : Array Nat} (e : a.map φ = b.map φ) : a = b := by
  have := congrArg Array.toList e
  simp only [Array.toList_map] at this
  exact Array.toList_inj.mp ((List.map_inj_right fun x y => h.inj x y).mp this)
theorem mapS_inj (h : Swap φ) {a b : Str} (e : mapS φ a = mapS φ b) : a = b := by
  have h1 : a.cps.map φ = b.cps.map φ := congrArg Str.cps e
  have h2 := arr_map_inj h h1
  cases a; cases b; simp_all
theorem mapS_eq (h : Swap φ) (a b : Str) : mapS φ a = mapS φ b ↔ a = b := ⟨mapS_inj h, fun e => e ▸ rfl⟩
theorem mapS_beq (h : Swap φ) (a b : Str) : (mapS φ a == mapS φ b) = (a == b) := by
  rw [Bool.eq_iff_iff, beq_iff_eq, beq_iff_eq, mapS_eq h]
theorem arr_beq (h : Swap φ) (a b : Array Nat) : (a.map φ == b.map φ) = (a == b) := by
  rw [Bool.eq_iff_iff, beq_iff_eq, beq_iff_eq]
  exact ⟨arr_map_inj h, fun e => e ▸ rfl⟩
theorem mapS_plain (h : Swap φ) {s : Str} (hp : plainStr s = true) : mapS φ s = s := by
  obtain ⟨a⟩ := s
  unfold plainStr at hp
  simp only [List.all_eq_true, Array.mem_toList_iff, Bool.not_eq_true', Bool.and_eq_false_iff, decide_eq_false_iff_not] at hp
  show (⟨a.map φ⟩ : Str) = ⟨a⟩
  congr 1
  refine Array.toList_inj.mp ?_
  rw [Array.toList_map]
  refine (List.map_congr_left fun c hc => ?_).trans (List.map_id _)
  exact h.out c fun hh => by rcases hp c (Array.mem_toList_iff.mp hc) with q | q <;> omega

theorem mapS_sub (x : Str) (i j : Nat) : mapS φ (strSub x i j) = strSub (mapS φ x) i j := by
  show (⟨(x.cps.extract i j).map φ⟩ : Str) = ⟨(x.cps.map φ).extract i j⟩
  rw [Array.map_extract]
theorem subAt_map (h : Swap φ) (x y : Str) (i : Nat) : subAt (mapS φ x) (mapS φ y) i = subAt x y i := by
  unfold subAt
  rw [mapS_length]
  show ((x.cps.map φ).extract i (i + y.length) == y.cps.map φ) = _
  rw [← Array.map_extract, arr_beq h]
theorem occ_map (h : Swap φ) (x y : Str) (lo hi k : Nat) : occurrences (mapS φ x) (mapS φ y) lo hi k = occurrences x y lo hi k := by
  unfold occurrences
  simp only [subAt_map h, mapS_length]
theorem parts_map (x : Str) (cuts : List Nat) (k : Nat) : partsBetween (mapS φ x) cuts k = (partsBetween x cuts k).map (mapS φ) := by
  unfold partsBetween
  simp only [List.map_map, mapS_length]
  refine List.map_congr_left fun p _ => ?_
  exact (mapS_sub x p.1 p.2).symm
theorem join_map (sep : Str) : ∀ l : List Str, mapS φ (Str.join sep l) = Str.join (mapS φ sep) (l.map (mapS φ))
  | [] => by simp [Str.join, mapS, Str.empty]
  | [x] => rfl
  | x :: y :: r => by
    show mapS φ (x ++ sep ++ Str.join sep (y :: r)) = mapS φ x ++ mapS φ sep ++ Str.join (mapS φ sep) ((y :: r).map (mapS φ))
    rw [mapS_append, mapS_append, join_map sep (y :: r)]
theorem glued_map (sep : Str) (l : List Str) : mapS φ (glued sep l) = glued (mapS φ sep) (l.map (mapS φ)) := by
  rw [StrLaws.glued_eq_join, StrLaws.glued_eq_join, join_map]
theorem lt_map (h : Swap φ) (c k : Nat) (hk : 102 ≤ k) : decide (φ c < k) = decide (c < k) := by
  by_cases q : 97 ≤ c ∧ c ≤ 101
  · have := h.low c q.1 q.2
    rw [Bool.eq_iff_iff]; simp; omega
  · rw [h.out c q]
theorem all_map (h : Swap φ) (s : Str) (k : Nat) (hk : 102 ≤ k) : ((mapS φ s).cps.all fun c => decide (c < k)) = s.cps.all fun c => decide (c < k) := by
  rw [mapS_cps, Array.all_map]
  congr 1
  funext c
  exact lt_map h c k hk
theorem strKind_map (h : Swap φ) (s : Str) : Builtin.Str.strKind (mapS φ s) = Builtin.Str.strKind s := by
  unfold Builtin.Str.strKind
  rw [all_map h s 256 (by decide), all_map h s 65536 (by decide)]
theorem split_map (h : Swap φ) (x y : Str) : Txt.split (mapS φ x) (mapS φ y) = (Txt.split x y).map (mapS φ) := by
  unfold Txt.split
  rw [mapS_length, mapS_length, strKind_map h, strKind_map h, occ_map h, parts_map]
  split
  · rfl
  · split <;> rfl
theorem contains_map (h : Swap φ) (x y : Str) : Txt.contains (mapS φ x) (mapS φ y) = Txt.contains x y := by
  unfold Txt.contains; rw [mapS_length, occ_map h]
theorem starts_map (h : Swap φ) (x y : Str) : Txt.startswith (mapS φ x) (mapS φ y) = Txt.startswith x y := by
  unfold Txt.startswith; rw [mapS_length, mapS_length, subAt_map h]
theorem ends_map (h : Swap φ) (x y : Str) : Txt.endswith (mapS φ x) (mapS φ y) = Txt.endswith x y := by
  unfold Txt.endswith; rw [mapS_length, mapS_length, subAt_map h]
theorem replace_map (h : Swap φ) (x y z : Str) : Txt.replace (mapS φ x) (mapS φ y) (mapS φ z) = mapS φ (Txt.replace x y z) := by
  unfold Txt.replace
  rw [occ_map h, mapS_length, mapS_length, mapS_length, parts_map, ← glued_map]
  split <;> rfl
theorem fmap_get (x : Str) (l : List Nat) : (l.filterMap ((mapS φ x).cps[·]?)) = (l.filterMap (x.cps[·]?)).map φ := by
  rw [List.map_filterMap]
  congr 1
  funext i
  rw [mapS_cps, Array.getElem?_map]
theorem tslice_map (x : Str) (l u : Option Int) : Txt.slice (mapS φ x) l u = mapS φ (Txt.slice x l u) := by
  show (if _ then _ else _) = mapS φ (if _ then _ else _)
  rw [mapS_length, fmap_get]
  split
  · rfl
  · simp [mapS]
theorem findIn_map (h : Swap φ) (x y : Str) (a b : Int) : findIn (mapS φ x) (mapS φ y) a b = findIn x y a b := by
  unfold findIn; rw [mapS_length, occ_map h]
theorem chars_map (x : Str) : (mapS φ x).cps.toList.map (fun c => (⟨#[c]⟩ : Str)) = (x.cps.toList.map fun c => (⟨#[c]⟩ : Str)).map (mapS φ) := by
  rw [mapS_cps, Array.toList_map, List.map_map, List.map_map]
  refine List.map_congr_left fun c _ => ?_
  simp [mapS]
theorem tjoin_map (sep : Str) (l : List Str) : Txt.join (mapS φ sep) (l.map (mapS φ)) = mapS φ (Txt.join sep l) := (glued_map sep l).symm
end Mine
end
section
open PySem PySem.W PyProof.Rows PySem.Calls Builtin.Str
namespace Mine
variable {φ : Nat → Nat}
section gen
variable {α α' β β' : Type} {g : α → α'} {f : β → β'}
theorem bM {x : Option α} {k : α → Option β} {k' : α' → Option β'} (h : ∀ a, k' (g a) = (k a).map f) : (x.map g).bind k' = (x.bind k).map f := by
  cases x with
  | none => rfl
  | some a => exact h a
theorem bMe {x : Option α} {k : α → Option β} {k' : α' → Option β'} (h : ∀ a, x = some a → k' (g a) = (k a).map f) : (x.map g).bind k' = (x.bind k).map f := by
  cases x with
  | none => rfl
  | some a => exact h a rfl
theorem bS {x : Option α} {k : α → Option β} {k' : α → Option β'} (h : ∀ a, k' a = (k a).map f) : x.bind k' = (x.bind k).map f := by
  cases x with
  | none => rfl
  | some a => exact h a
theorem bE {x : Option α} {k : α → Option β} {k' : α' → Option β} (h : ∀ a, k' (g a) = k a) : (x.map g).bind k' = x.bind k := by
  cases x with
  | none => rfl
  | some a => exact h a
theorem sE {x : Option α} {k k' : α → Option β} (h : ∀ a, k' a = k a) : x.bind k' = x.bind k := by
  cases x with
  | none => rfl
  | some a => exact h a
theorem eM {x : Option α} {y : Option β} {y' : Option β'} {k : α → Option β} {k' : α' → Option β'} (h0 : x = none → y' = y.map f) (h : ∀ a, k' (g a) = (k a).map f) : (x.map g).elim y' k' = (x.elim y k).map f := by
  cases x with
  | none => exact h0 rfl
  | some a => exact h a
theorem eS {x : Option α} {y : Option β} {y' : Option β'} {k : α → Option β} {k' : α → Option β'} (h0 : x = none → y' = y.map f) (h : ∀ a, x = some a → k' a = (k a).map f) : x.elim y' k' = (x.elim y k).map f := by
  cases x with
  | none => exact h0 rfl
  | some a => exact h a rfl
theorem iM {c : Prop} [Decidable c] {x : Option β} {x' : Option β'} (h : c → x' = x.map f) : (if c then x' else none) = (if c then x else none).map f := by
  by_cases hc : c
  · rw [if_pos hc, if_pos hc, h hc]
  · rw [if_neg hc, if_neg hc]; rfl
theorem iM' {b b' : Bool} {x : Option β} {x' : Option β'} (e : b' = b) (h : b = true → x' = x.map f) : (if b' = true then x' else none) = (if b = true then x else none).map f := e ▸ iM (e ▸ h)
theorem cM {c : Prop} [Decidable c] {x y : Option β} {x' y' : Option β'} (h : c → x' = x.map f) (h' : ¬ c → y' = y.map f) : (if c then x' else y') = (if c then x else y).map f := by
  by_cases hc : c
  · rw [if_pos hc, if_pos hc, h hc]
  · rw [if_neg hc, if_neg hc, h' hc]
theorem tM {γ γ' : Type} {e : γ → γ'} {x y : Option γ} {k : γ → γ → Option β} {k' : γ' → γ' → Option β'} {r : Option β} {r' : Option β'} (hk : ∀ a b, k' (e a) (e b) = (k a b).map f) (hr : r' = r.map f) : two (x.map e) (y.map e) k' r' = (two x y k r).map f := by
  cases x with
  | none => exact hr
  | some a => cases y with
    | none => exact hr
    | some b => exact hk a b
theorem tS {γ : Type} {x y : Option γ} {k : γ → γ → Option β} {k' : γ → γ → Option β'} {r : Option β} {r' : Option β'} (hk : ∀ a b, k' a b = (k a b).map f) (hr : r' = r.map f) : two x y k' r' = (two x y k r).map f := by
  cases x with
  | none => exact hr
  | some a => cases y with
    | none => exact hr
    | some b => exact hk a b
theorem tE {γ γ' : Type} {e : γ → γ'} {x y : Option γ} {k : γ → γ → Option β} {k' : γ' → γ' → Option β} {r r' : Option β} (hk : ∀ a b, k' (e a) (e b) = k a b) (hr : r' = r) : two (x.map e) (y.map e) k' r' = two x y k r := by
  cases x with
  | none => exact hr
  | some a => cases y with
    | none => exact hr
    | some b => exact hk a b
theorem one_map {l : List α} : one? (l.map g) = (one? l).map g := by
  cases l with
  | nil => rfl
  | cons a r => cases r <;> rfl
theorem two_map {l : List α} : two? (l.map g) = (two? l).map fun q => (g q.1, g q.2) := by
  cases l with
  | nil => rfl
  | cons a r => cases r with
    | nil => rfl
    | cons b r => cases r <;> rfl
theorem three_map {l : List α} : three? (l.map g) = (three? l).map fun q => (g q.1, g q.2.1, g q.2.2) := by
  cases l with
  | nil => rfl
  | cons a r => cases r with
    | nil => rfl
    | cons b r => cases r with
      | nil => rfl
      | cons c r => cases r <;> rfl
theorem mm {γ : Type} {e : α → γ} {u : γ → β} {v : α → β} {x : Option α} (h : ∀ a, v a = u (e a)) : x.map v = (x.map e).map u := by
  cases x with
  | none => rfl
  | some a => exact congrArg some (h a)
end gen
theorem mapV_bool (b : Bool) : mapV φ (.bool b) = .bool b := rfl
theorem mapV_int (i : Int) : mapV φ (.int i) = .int i := rfl
theorem mapV_str (s : Str) : mapV φ (.str s) = .str (mapS φ s) := rfl
theorem ints_map : ∀ l : List Atm, intsOf (l.map (mapA φ)) = intsOf l
  | [] => rfl
  | a :: r => by cases a <;> first | rfl | exact congrArg (Option.map _) (ints_map r)
theorem strs_map : ∀ l : List Atm, strsOf (l.map (mapA φ)) = (strsOf l).map (List.map (mapS φ))
  | [] => rfl
  | a :: r => by
    cases a <;> first | rfl | skip
    show (strsOf (r.map (mapA φ))).map _ = ((strsOf r).map _).map _
    rw [strs_map r]
    cases strsOf r <;> rfl
theorem asInt_map (v : V) : asInt (mapV φ v) = asInt v := by
  cases v with
  | «at» a => cases a <;> rfl
  | _ => rfl
theorem asStr_map (v : V) : asStr (mapV φ v) = (asStr v).map (mapS φ) := by
  cases v with
  | «at» a => cases a <;> rfl
  | _ => rfl
theorem asList_map (v : V) : asList (mapV φ v) = (asList v).map (List.map (mapA φ)) := by cases v <;> rfl
theorem asTupV_map (v : V) : asTupV (mapV φ v) = (asTupV v).map (List.map (mapA φ)) := by cases v <;> rfl
theorem asDict_map (v : V) : asDict (mapV φ v) = (asDict v).map (mapD φ) := by cases v <;> rfl
theorem asAtm_map (v : V) : asAtm (mapV φ v) = (asAtm v).map (mapA φ) := by cases v <;> rfl
theorem asBool_map (v : Atm) : asBool (mapA φ v) = asBool v := by cases v <;> rfl
theorem oInt_map (o : Option V) : oInt (o.map (mapV φ)) = oInt o := bE asInt_map
theorem oStr_map (o : Option V) : oStr (o.map (mapV φ)) = (oStr o).map (mapS φ) := bM asStr_map
theorem oList_map (o : Option V) : oList (o.map (mapV φ)) = (oList o).map (List.map (mapA φ)) := bM asList_map
theorem oDict_map (o : Option V) : oDict (o.map (mapV φ)) = (oDict o).map (mapD φ) := bM asDict_map
theorem oAtm_map (o : Option V) : (o.map (mapV φ)).bind atom = (o.bind atom).map (mapA φ) := bM asAtm_map
theorem isAtV_map (v : V) : isAtV (mapV φ v) = isAtV v := by cases v <;> rfl
theorem intOp_map (op : Operator) (a b : Int) : intOp op a b = (intOp op a b).map (mapV φ) := by
  cases op <;> first | rfl | exact iM fun _ => rfl
theorem binop_map (op : Operator) (a b : V) : binop op (mapV φ a) (mapV φ b) = (binop op a b).map (mapV φ) := by
  unfold binop
  rw [asInt_map, asInt_map, asStr_map, asStr_map, asList_map, asList_map]
  refine tS (intOp_map op) (tM (fun a b => ?_) (tM (fun a b => ?_) rfl))
  · unfold strAdd
    rw [mapS_length, mapS_length]
    exact iM fun _ => congrArg some (congrArg V.str (mapS_append a b).symm)
  · unfold listAdd
    rw [List.length_map, List.length_map]
    exact iM fun _ => congrArg some (congrArg V.list List.map_append.symm)
theorem cmpop_eq (h : Swap φ) (op : CmpOp) (a b : V) : cmpop op (mapV φ a) (mapV φ b) = cmpop op a b := by
  unfold cmpop
  rw [asInt_map, asInt_map, asStr_map, asStr_map, asAtm_map, asAtm_map]
  refine congrArg (two _ _ _) (tE (fun a b => ?_) (tE (fun a b => ?_) rfl))
  · unfold cmpStr
    rw [mapS_beq h, mapS_length, mapS_length, contains_map h]
  · have hn : ∀ x, isNoneA (mapA φ x) = isNoneA x := fun x => by cases x <;> rfl
    unfold cmpIs
    rw [hn, hn, asBool_map, asBool_map]
theorem cmps_map (h : Swap φ) (op : CmpOp) (a b : V) : cmpAll op (mapV φ a) (mapV φ b) = cmpAll op a b := by
  unfold cmpAll
  rw [cmpop_eq h]
  refine congrArg (fun y => (cmpop op a b).elim y some) ?_
  unfold cmpList
  rw [asList_map, asList_map]
  refine bE fun x => bE fun y => ?_
  unfold cmpLists
  rw [ints_map, ints_map, List.isEmpty_map, List.isEmpty_map]
theorem truth_map (v : V) : truth (mapV φ v) = truth v := by
  unfold truth
  rw [asAtm_map, asStr_map, show ((asAtm v).map (mapA φ)).bind asBool = (asAtm v).bind asBool from bE asBool_map]
  refine congrArg (fun y => ((asAtm v).bind asBool).elim y some) (bE fun s => ?_)
  rw [mapS_length]
theorem idx_map {α β : Type} (f : α → β) (l : List α) (i : Int) : idx (l.map f) i = (idx l i).map f := by
  unfold idx
  rw [List.length_map]
  exact cM (fun _ => List.getElem?_map) fun _ => iM fun _ => List.getElem?_map
theorem dget_map (h : Swap φ) (k : Str) : ∀ l : List (Str × Int), dget (mapD φ l) (mapS φ k) = dget l k
  | [] => rfl
  | (x, v) :: r => by
    show (if mapS φ x = mapS φ k then some v else dget (mapD φ r) (mapS φ k)) = (if x = k then some v else dget r k)
    rw [dget_map h k r]
    by_cases q : x = k
    · rw [if_pos q, if_pos (by rw [q])]
    · rw [if_neg q, if_neg (fun e => q (mapS_inj h e))]
theorem dput_map (h : Swap φ) (k : Str) (i : Int) : ∀ l : List (Str × Int), dput (mapS φ k) i (mapD φ l) = mapD φ (dput k i l)
  | [] => rfl
  | (x, v) :: r => by
    have ih := dput_map h k i r
    show (if mapS φ x = mapS φ k then _ else _) = mapD φ (if x = k then _ else _)
    by_cases q : x = k
    · rw [if_pos q, if_pos (by rw [q])]; rfl
    · rw [if_neg q, if_neg (fun e => q (mapS_inj h e))]
      show _ :: dput (mapS φ k) i (mapD φ r) = _
      rw [ih]; rfl
theorem sign_map (c : Nat) : mapS φ ⟨#[c]⟩ = ⟨#[φ c]⟩ := congrArg Str.mk List.map_toArray
theorem item_map (h : Swap φ) (a b : V) : item (mapV φ a) (mapV φ b) = (item a b).map (mapV φ) := by
  unfold item
  rw [asInt_map, asStr_map, asStr_map, asList_map, asDict_map]
  refine eM (fun _ => eM (fun _ => bM fun d => bM fun k => ?_) fun l => bS fun i => ?_) fun s => bS fun i => ?_
  · rw [dget_map h]; exact mm fun _ => rfl
  · rw [List.length_map, idx_map]
    exact iM fun _ => by rw [Option.map_map]; exact mm fun _ => rfl
  · rw [mapS_length, mapS_cps, Array.toList_map, idx_map]
    refine iM fun _ => ?_
    cases idx s.cps.toList i with
    | none => rfl
    | some c => exact congrArg (fun z => some (V.str z)) (sign_map c).symm
theorem slice_map (v : V) (a b : Option Int) : slice (mapV φ v) a b = (slice v a b).map (mapV φ) := by
  unfold slice
  rw [asStr_map, asList_map]
  refine iM fun _ => eM (fun _ => bM fun l => ?_) fun s => ?_
  · rw [List.length_map]
    refine iM fun _ => congrArg some (congrArg V.list ?_)
    unfold listSlice
    rw [List.length_map, List.map_take, List.map_drop]
  · rw [mapS_length]
    exact iM fun _ => congrArg some (congrArg V.str (tslice_map s a b))
theorem lenOf_map (v : V) : lenOf (mapV φ v) = lenOf v := by
  cases v with
  | «at» a =>
    show (asStr (mapV φ (.at a))).bind _ = (asStr (.at a)).bind _
    rw [asStr_map]
    exact bE fun s => congrArg capN (mapS_length s)
  | list l => exact congrArg capN (List.length_map _)
  | tup l => rfl
  | dict l => exact congrArg capN (List.length_map _)
theorem iterOf_map (v : V) : iterOf (mapV φ v) = (iterOf v).map (List.map (mapV φ)) := by
  cases v with
  | «at» a =>
    show (asStr (mapV φ (.at a))).map _ = ((asStr (.at a)).map _).map _
    rw [asStr_map]
    cases asStr (.at a) with
    | none => rfl
    | some s =>
      refine congrArg some ?_
      show (mapS φ s).cps.toList.map chrV = (s.cps.toList.map chrV).map (mapV φ)
      rw [mapS_cps, Array.toList_map, List.map_map, List.map_map]
      exact List.map_congr_left fun c _ => congrArg V.str (sign_map c).symm
  | list l => exact congrArg some (by rw [List.map_map, List.map_map]; rfl)
  | tup l => exact congrArg some (by rw [List.map_map, List.map_map]; rfl)
  | dict l => exact congrArg some (by unfold mapD; rw [List.map_map, List.map_map]; rfl)
theorem range_map (a b : Int) : rangeOf a b = (rangeOf a b).map (mapV φ) := by
  unfold rangeOf; rw [List.map_map]; rfl
theorem rangeItems_map (vs : List V) : rangeItems (vs.map (mapV φ)) = (rangeItems vs).map (List.map (mapV φ)) := by
  unfold rangeItems
  rw [one_map, two_map]
  refine eM (fun _ => bM fun q => ?_) fun v => ?_
  · rw [asInt_map, asInt_map]
    exact bS fun a => bS fun b => iM fun _ => congrArg some (range_map a b)
  · rw [asInt_map]
    exact bS fun b => iM fun _ => congrArg some (range_map 0 b)
theorem meth_map (h : Swap φ) (f : Str) (o : V) (vs : List V) : meth f (mapV φ o) (vs.map (mapV φ)) = (meth f o vs).map (mapV φ) := by
  unfold meth
  rw [asStr_map, one_map, three_map]
  refine bM fun x => eM (fun _ => bM fun q => ?_) fun v => ?_
  · rw [asStr_map, asInt_map, asInt_map]
    refine bM fun y => bS fun a => bS fun b => ?_
    unfold methF
    rw [mapS_length, findIn_map h]
    exact iM fun _ => rfl
  · rw [asStr_map, asList_map]
    refine eM (fun _ => bM fun l => ?_) fun y => ?_
    · unfold methL
      rw [strs_map]
      refine iM fun _ => bM fun ys => ?_
      rw [mapS_length, List.length_map, List.all_map, show ((fun y : Str => decide (y.length ≤ 64)) ∘ mapS φ) = fun y => decide (y.length ≤ 64) from funext fun y => congrArg (fun n => decide (n ≤ 64)) (mapS_length y)]
      exact iM fun _ => congrArg some (congrArg V.str (tjoin_map x ys))
    · unfold methS
      rw [mapS_length, mapS_length, split_map h, starts_map h, ends_map h]
      refine cM (fun _ => cM (fun _ => rfl) fun _ => congrArg some (congrArg V.list ?_)) fun _ => cM (fun _ => rfl) fun _ => cM (fun _ => rfl) fun _ => iM fun _ => iM fun _ => congrArg some (congrArg V.str ?_)
      · rw [List.map_map, List.map_map]; rfl
      · rw [chars_map, tjoin_map]
theorem builtin1_map {f : Str} (hf : (f == ("sorted" : Str)) = false) (v : V) : builtin1 f (mapV φ v) = (builtin1 f v).map (mapV φ) := by
  unfold builtin1
  rw [lenOf_map, asList_map, hf]
  refine cM (fun _ => mm fun _ => rfl) fun _ => cM (fun _ => bM fun l => ?_) fun _ => cM (fun _ => bM fun l => ?_) fun _ => rfl
  · rw [List.length_map]; exact iM fun _ => rfl
  · rw [ints_map]
    exact bS fun ns => iM fun _ => rfl
end Mine
end
section
open PySem PySem.W PyProof.Rows PySem.Calls Builtin.Str
namespace Mine
variable {φ : Nat → Nat}

noncomputable def CMap (φ : Nat → Nat) (call : CallT) : Prop := ∀ f vs, pureF f = true → call f (vs.map (mapV φ)) = (call f vs).map (mapV φ)

theorem look_map (x : Str) : ∀ l : List (Str × V), (l.map fun kv => (kv.1, mapV φ kv.2)).lookup x = (l.lookup x).map (mapV φ)
  | [] => rfl
  | (y, u) :: r => by
    rw [List.map_cons, List.lookup_cons, List.lookup_cons]
    cases x == y
    · exact look_map x r
    · rfl
theorem mapM_look (m : ME) (x : Str) : (mapM φ m).val.lookup x = (m.val.lookup x).map (mapV φ) := look_map x m.val
theorem cons_map {α β : Type} {g : α → β} {a : α} {b : β} (h : b = g a) {x : Option (List α)} : (x.map (List.map g)).map (b :: ·) = (x.map (a :: ·)).map (List.map g) := by
  subst h
  cases x <;> rfl
theorem seqM_map {α β γ : Type} {f : α → Option β} {f' : α → Option γ} {g : β → γ} (h : ∀ x, f' x = (f x).map g) : ∀ l : List α, seqM f' l = (seqM f l).map (List.map g)
  | [] => rfl
  | x :: r => by
    show (f' x).bind _ = ((f x).bind _).map _
    rw [h x, seqM_map h r]
    exact bM fun y => cons_map rfl

structure EvMap (φ : Nat → Nat) (call : CallT) (n : Nat) : Prop where
  ev : ∀ e m, m.lit = false → ev call n e (mapM φ m) = (ev call n e m).map (mapV φ)
  its : ∀ e m, m.lit = false → its call n e (mapM φ m) = (its call n e m).map (List.map (mapV φ))
  cmp : ∀ l op r m, m.lit = false → cmp call n l op r (mapM φ m) = cmp call n l op r m
  tr : ∀ e m, m.lit = false → tr call n e (mapM φ m) = tr call n e m
  trs : ∀ op es m, m.lit = false → trs call n op es (mapM φ m) = trs call n op es m

variable {call : CallT} {n : Nat}
theorem tr_stepQ (X : EvMap φ call n) (e : Expr) (m : ME) (hl : m.lit = false) : tr call (n + 1) e (mapM φ m) = tr call (n + 1) e m := by
  have plain : ∀ e, (ev call n e (mapM φ m)).bind truth = (ev call n e m).bind truth := fun e => by rw [X.ev _ _ hl]; exact bE truth_map
  cases e with
  | UnaryOp op x p => exact congrArg (fun o : Option Bool => if isNotO op = true then o.map (!·) else none) (X.tr _ _ hl)
  | BoolOp op es p => exact X.trs _ _ _ hl
  | Compare l ops rs p => exact sE fun op => sE fun r => X.cmp _ _ _ _ hl
  | Name x p => exact plain _
  | Call f as ks p => exact plain _
  | _ => rfl
theorem trs_stepQ (X : EvMap φ call n) (op : BoolOp) (es : List Expr) (m : ME) (hl : m.lit = false) : trs call (n + 1) op es (mapM φ m) = trs call (n + 1) op es m := by
  cases es with
  | nil => rfl
  | cons x r =>
    show (tr call n x (mapM φ m)).bind _ = (tr call n x m).bind _
    rw [X.tr _ _ hl]
    exact sE fun b => by rw [X.trs _ _ _ hl]
theorem cmp_stepQ (h : Swap φ) (X : EvMap φ call n) (l : Expr) (op : CmpOp) (r : Expr) (m : ME) (hl : m.lit = false) : cmp call (n + 1) l op r (mapM φ m) = cmp call (n + 1) l op r m := by
  show (ev call n l (mapM φ m)).bind _ = (ev call n l m).bind _
  rw [X.ev _ _ hl, X.ev _ _ hl]
  exact bE fun a => bE fun b => cmps_map h op a b
theorem its_stepQ (X : EvMap φ call n) (e : Expr) (m : ME) (hl : m.lit = false) : its call (n + 1) e (mapM φ m) = (its call (n + 1) e m).map (List.map (mapV φ)) := by
  refine eS (fun _ => ?_) fun q _ => iM fun _ => ?_
  · rw [X.ev _ _ hl]; exact bM iterOf_map
  · rw [seqM_map fun e => X.ev e m hl]; exact bM rangeItems_map
theorem allM_map {α : Type} {f g : α → Option Bool} (h : ∀ x, g x = f x) (l : List α) : allM g l = allM f l := congrArg (fun f => allM f l) (funext h)
theorem compM_map {f g : V → Option (Option Atm)} (h : ∀ x, g (mapV φ x) = (f x).map (Option.map (mapA φ))) : ∀ l : List V, compM g (l.map (mapV φ)) = (compM f l).map (List.map (mapA φ))
  | [] => rfl
  | x :: r => by
    show (g (mapV φ x)).bind _ = ((f x).bind _).map _
    rw [h x, compM_map h r]
    refine bM fun o => ?_
    cases o with
    | none => rfl
    | some a => exact cons_map rfl
theorem compME_map (scope : Scope) (m : ME) (x : Str) (a : Atm) : compME scope (mapM φ m) x (mapA φ a) = mapM φ (compME scope m x a) := by
  unfold compME mapM
  dsimp only
  rw [List.map_cons, List.filter_map]
  rfl
theorem isStr_map (m : ME) (e : Expr) : isStrItem (mapM φ m) e = isStrItem m e := by
  unfold isStrItem
  rw [show ((itemShape e).bind fun x => oStr ((mapM φ m).val.lookup x)) = ((itemShape e).bind fun x => oStr (m.val.lookup x)).map (mapS φ) from bS fun x => by rw [mapM_look, oStr_map]]
  exact Option.isSome_map ..
end Mine
end
section
open PySem PySem.W PyProof.Rows PySem.Calls Builtin.Str
namespace Mine
variable {φ : Nat → Nat} {call : CallT} {n : Nat}

theorem const_map (h : Swap φ) {c : Const} (hp : plainC c = true) : constV c = (constV c).map (mapV φ) := by
  cases c with
  | str s => exact congrArg (fun z => some (V.str z)) (mapS_plain h hp).symm
  | _ => rfl

theorem mapB (z : Option Bool) : z.map V.bool = (z.map V.bool).map (mapV φ) := by cases z <;> rfl
theorem mapL (z : Option (List Atm)) : (z.map (List.map (mapA φ))).map V.list = (z.map V.list).map (mapV φ) := by cases z <;> rfl
noncomputable def MpI (φ : Nat → Nat) (I J : Expr → Option V) : Prop := ∀ e, J e = (I e).map (mapV φ)
section
variable {a b c d e f : Option V} {I J : Expr → Option V} {m : ME}
theorem evName_map (h : Swap φ) (x : Str) (m : ME) : evName x (mapM φ m) = (evName x m).map (mapV φ) := by
  refine iM fun _ => bS fun k => ?_
  have hg : (constGlobals.lookup x).map V.str = ((constGlobals.lookup x).map V.str).map (mapV φ) := by
    show (match x == ("ELLIPSIS_MARKER" : Str) with | true => some ("..." : Str) | false => none).map V.str = ((match x == ("ELLIPSIS_MARKER" : Str) with | true => some ("..." : Str) | false => none).map V.str).map (mapV φ)
    cases x == ("ELLIPSIS_MARKER" : Str) with
    | false => rfl
    | true => exact congrArg (fun z => some (V.str z)) (mapS_plain h (by decide +kernel)).symm
  cases k with
  | «local» => exact mapM_look m x
  | cell => exact mapM_look m x
  | free => exact mapM_look m x
  | globalImplicit => exact hg
  | _ => rfl
theorem evBin_map (op : Operator) : evBin op (a.map (mapV φ)) (b.map (mapV φ)) = (evBin op a b).map (mapV φ) := bM fun x => bM fun y => binop_map op x y
theorem evUn_map (op : UnaryOp) : evUn op (a.map (mapV φ)) = (evUn op a).map (mapV φ) := iM fun _ => by rw [oInt_map]; exact bS fun _ => rfl
theorem evDict_map (hI : MpI φ I J) (ks : List (Option Expr)) (vs : List Expr) : evDict J ks vs = (evDict I ks vs).map (mapV φ) :=
  cM (fun _ => iM fun _ => rfl) fun _ => bS fun k0 => bS fun k => bS fun v => by
    rw [hI, hI, oStr_map, oInt_map]
    exact bM fun x => bS fun i => rfl
theorem evPart_map (hI : MpI φ I J) (o : Option Expr) : evPart J o = evPart I o := by
  cases o with
  | none => rfl
  | some x => exact congrArg (Option.map some) ((congrArg oInt (hI x)).trans (oInt_map _))
theorem evItem_map (h : Swap φ) : evItem (a.map (mapV φ)) (b.map (mapV φ)) = (evItem a b).map (mapV φ) := bM fun x => bM fun y => item_map h x y
theorem evSub_map (h : Swap φ) (hI : MpI φ I J) (w i : Expr) : evSub J w i = (evSub I w i).map (mapV φ) := by
  refine eS (fun _ => eS (fun _ => ?_) fun q _ => ?_) fun q _ => iM fun _ => ?_
  · rw [hI, hI]; exact evItem_map h
  · rw [hI, seqM_map (f := listOnly I) (f' := listOnly J) (g := mapV φ) fun x => bS fun _ => hI x]
    refine bM fun l => ?_
    rw [oInt_map, List.length_map]
    exact bS fun k => iM fun _ => List.getElem?_map
  · rw [hI, evPart_map hI, evPart_map hI]
    exact bM fun o => bS fun a => bS fun b => slice_map o a b
theorem evFn_map (hc : CMap φ call) {f : Str} (args : List Expr) (hp : pureF f = true) (hI : MpI φ I J) : evFn call f args (mapM φ m) (seqM J args) = (evFn call f args m (seqM I args)).map (mapV φ) := by
  have hsorted : (f == ("sorted" : Str)) = false := andK hp fun _ h => Bool.not_eq_true' _ ▸ h
  rw [seqM_map hI]
  refine bM fun vs => cM (fun _ => ?_) fun _ => cM (fun hf => bS fun q => ?_) fun _ => hc f vs hp
  · rw [one_map]; exact bM fun v => builtin1_map hsorted v
  · rw [isStr_map, isStr_map]
    exact iM fun _ => hc _ vs (beq_iff_eq.mp hf ▸ hp)
theorem evElt_map {T T' : List Expr → Option Bool} {ifs : List Expr} (hT : T' ifs = T ifs) : evElt T' (a.map (mapV φ)) ifs = (evElt T a ifs).map (Option.map (mapA φ)) := by
  unfold evElt
  rw [hT, oAtm_map]
  refine bS fun b => ?_
  cases b with
  | false => rfl
  | true => exact bM fun _ => rfl
theorem evGet_map : evGet (a.map (mapV φ)) (b.map (mapV φ)) (c.map (mapV φ)) (d.map (mapV φ)) (e.map (mapV φ)) (f.map (mapV φ)) = (evGet a b c d e f).map (mapV φ) := by
  unfold evGet
  rw [oInt_map, oInt_map, oInt_map, oInt_map, oInt_map, oInt_map]
  exact bS fun _ => bS fun _ => bS fun _ => bS fun _ => bS fun _ => bS fun _ => rfl
theorem evRep_map (h : Swap φ) : evRep (a.map (mapV φ)) (b.map (mapV φ)) (c.map (mapV φ)) (d.map (mapV φ)) = (evRep a b c d).map (mapV φ) := by
  unfold evRep
  rw [oStr_map, oStr_map, oStr_map, oStr_map]
  refine bM fun x => bM fun y => bM fun z => bM fun u => ?_
  rw [mapS_length, mapS_length, mapS_length, mapS_length]
  refine iM fun _ => congrArg some (congrArg V.str ?_)
  rw [← mapS_append, replace_map h]
theorem evAttr_map (h : Swap φ) (hI : MpI φ I J) (o : Expr) (f : Str) (args : List Expr) : evAttr J o f args (mapM φ m) = (evAttr I o f args m).map (mapV φ) := by
  refine cM (fun _ => bS fun q => bS fun qd => bS fun k => bS fun v => bS fun k1 => bS fun k2 => ?_) fun _ => cM (fun _ => iM fun _ => bS fun q => bS fun x => bS fun b => iM fun _ => ?_) fun _ => iM fun _ => ?_
  · rw [hI, hI, hI, hI, hI, hI]; exact evGet_map
  · rw [hI, hI, hI, hI]; exact evRep_map h
  · rw [hI, seqM_map hI]
    exact bM fun o => bM fun vs => meth_map h f o vs
end

theorem ev_stepQ (h : Swap φ) (hc : CMap φ call) (X : EvMap φ call n) (e : Expr) (m : ME) (hl : m.lit = false) : ev call (n + 1) e (mapM φ m) = (ev call (n + 1) e m).map (mapV φ) := by
  have hI : MpI φ (fun e => ev call n e m) (fun e => ev call n e (mapM φ m)) := fun e => X.ev e m hl
  have hA : ∀ (k : List Atm → V) (k2 : ∀ l, k (l.map (mapA φ)) = mapV φ (k l)) (es : List Expr), evSeq k (seqM (fun e => (ev call n e (mapM φ m)).bind atom) es) = (evSeq k (seqM (fun e => (ev call n e m).bind atom) es)).map (mapV φ) := fun k k2 es => by
    rw [seqM_map (f := fun e => (ev call n e m).bind atom) (g := mapA φ) fun e => by rw [X.ev e m hl, oAtm_map]]
    refine bM fun l => ?_
    rw [List.length_map]
    exact iM fun _ => congrArg some (k2 l)
  cases e with
  | Constant c k p => exact iM fun hp => const_map h (by have hp : (m.lit || plainC c) = true := hp; rw [hl] at hp; exact hp)
  | Name x p => exact evName_map h x m
  | BinOp l op r p => exact (congr (congrArg (evBin op) (hI l)) (hI r)).trans (evBin_map op)
  | UnaryOp op x p => exact (congrArg (evUn op) (hI x)).trans (evUn_map op)
  | Compare l ops rs p =>
    refine bS fun op => bS fun r => ?_
    show (cmp call n l op r (mapM φ m)).map V.bool = _
    rw [X.cmp _ _ _ _ hl]; exact mapB _
  | IfExp t a b p =>
    show (tr call n t (mapM φ m)).bind _ = ((tr call n t m).bind _).map _
    rw [X.tr _ _ hl]
    refine bS fun c => ?_
    cases c
    · exact hI b
    · exact hI a
  | List es p => exact hA .list (fun _ => rfl) es
  | Tuple es k p => exact hA .tup (fun _ => rfl) es
  | Dict ks vs p => exact evDict_map hI ks vs
  | Subscript w i p => exact evSub_map h hI w i
  | Call f args kws p =>
    refine iM fun _ => eS (fun _ => bS fun q => iM fun _ => evAttr_map h hI _ _ _) fun q _ => iM fun hf => andK hf fun _ hf => ?_
    rw [show (mapM φ m).lit = m.lit from rfl, hl] at hf
    exact evFn_map hc args hf hI
  | ListComp elt gens scope p =>
    refine bS fun q => iM fun _ => ?_
    rw [X.its _ _ hl]
    refine bM fun items => ?_
    rw [List.length_map]
    refine iM fun _ => ?_
    rw [compM_map (φ := φ) (f := fun v => (atom v).bind fun a => evElt (allM (fun c => tr call n c (compME scope m q.x a))) (ev call n elt (compME scope m q.x a)) q.ifs) fun v => ?_]
    · exact mapL _
    · rw [show atom (mapV φ v) = (atom v).map (mapA φ) from asAtm_map v]
      refine bM fun a => ?_
      rw [compME_map, X.ev _ _ (show (compME scope m q.x a).lit = false from hl)]
      exact evElt_map (allM_map (fun c => X.tr c _ (show (compME scope m q.x a).lit = false from hl)) q.ifs)
  | _ => rfl

theorem evMap (h : Swap φ) (hc : CMap φ call) : ∀ n, EvMap φ call n
  | 0 => ⟨fun _ _ _ => rfl, fun _ _ _ => rfl, fun _ _ _ _ _ => rfl, fun _ _ _ => rfl, fun _ _ _ _ => rfl⟩
  | n + 1 => ⟨ev_stepQ h hc (evMap h hc n), its_stepQ (evMap h hc n), cmp_stepQ h (evMap h hc n), tr_stepQ (evMap h hc n), trs_stepQ (evMap h hc n)⟩
end Mine
end
section
open PySem PySem.W PyProof.Rows PySem.Calls Builtin.Str
namespace Mine
variable {φ : Nat → Nat} {call : CallT} {gen : GenT} {n : Nat}

noncomputable def mapF (φ : Nat → Nat) : Fl → Fl
  | .ret v => .ret (mapV φ v)
  | f => f
noncomputable def mapQ (φ : Nat → Nat) (q : Fl × ME) : Fl × ME := (mapF φ q.1, mapM φ q.2)
noncomputable def mapG (φ : Nat → Nat) (q : List V × Bool) : List V × Bool := (q.1.map (mapV φ), q.2)
noncomputable def GMap (φ : Nat → Nat) (gen : GenT) : Prop := ∀ f v, gen f [mapV φ v] = (gen f [v]).map (mapG φ)

/-- the answers bear no letters -/
noncomputable def Lt (r : Option (Fl × ME)) : Prop := ∀ q, r = some q → q.2.lit = false
theorem ltN : Lt none := fun _ h => no_some h
theorem ltS {f : Fl} {m : ME} (h : m.lit = false) : Lt (some (f, m)) := fun _ e => Option.some.inj e ▸ h
theorem ltB {α : Type} {x : Option α} {k : α → Option (Fl × ME)} (h : ∀ a, x = some a → Lt (k a)) : Lt (x.bind k) := fun q e => bindK e fun a ha e => h a ha q e
theorem ltI {c : Prop} [Decidable c] {x : Option (Fl × ME)} (h : Lt x) : Lt (if c then x else none) := fun q e => iteK e fun _ e => h q e
theorem ltC {c : Prop} [Decidable c] {x y : Option (Fl × ME)} (h : Lt x) (h' : Lt y) : Lt (if c then x else y) := fun q e => condK e (fun _ e => h q e) fun _ e => h' q e
theorem ltE {α : Type} {x : Option α} {y : Option (Fl × ME)} {k : α → Option (Fl × ME)} (h : Lt y) (h' : ∀ a, Lt (k a)) : Lt (x.elim y k) := fun q e => elimK e (fun a _ e => h' a q e) fun _ e => h q e

theorem put_map (x : Str) (v : V) : ∀ l : List (Str × V), (put x v l).map (fun kv => (kv.1, mapV φ kv.2)) = put x (mapV φ v) (l.map fun kv => (kv.1, mapV φ kv.2))
  | [] => rfl
  | (y, u) :: r => by
    show List.map _ (if (y == x) = true then (x, v) :: r else (y, u) :: put x v r) = if (y == x) = true then _ else _
    cases y == x with
    | true => rfl
    | false => exact congrArg _ (put_map x v r)
theorem set_map (m : ME) (x : Str) (v : V) (o : Bool) : mapM φ (m.set x v o) = (mapM φ m).set x (mapV φ v) o := by
  unfold mapM ME.set
  dsimp only
  rw [put_map]
theorem disown_map (m : ME) (e : Expr) : disown (mapM φ m) e = mapM φ (disown m e) := by
  unfold disown
  cases asName e <;> rfl
theorem disown_lit {m : ME} (h : m.lit = false) (e : Expr) : (disown m e).lit = false := by
  unfold disown
  cases asName e <;> exact h
theorem bindTgt_map (t : Expr) (v : V) (m : ME) : bindTgt t (mapV φ v) (mapM φ m) = (bindTgt t v m).map (mapM φ) := by
  refine eS (fun _ => bS fun q => bS fun q => bS fun x => bS fun y => ?_) fun x _ => ?_
  · rw [asTupV_map, show ((asTupV v).map (List.map (mapA φ))).bind two? = ((asTupV v).bind two?).map fun q => (mapA φ q.1, mapA φ q.2) from bM fun l => two_map]
    refine bM fun ab => iM fun _ => congrArg some ?_
    rw [set_map, set_map]; rfl
  · rw [asAtm_map]
    exact bM fun a => iM fun _ => congrArg some (set_map m x.x (.at a) false).symm
theorem bindTgt_lit {t : Expr} {v : V} {m m' : ME} (h : bindTgt t v m = some m') (hl : m.lit = false) : m'.lit = false :=
  elimK h (fun _ _ h => bindK h fun _ _ h => iteK h fun _ h => Option.some.inj h ▸ hl) fun _ h => bindK h fun _ _ h => bindK h fun _ _ h => bindK h fun _ _ h => bindK h fun _ _ h => bindK h fun _ _ h => iteK h fun _ h => Option.some.inj h ▸ hl
noncomputable def BMap (φ : Nat → Nat) (b : V → ME → Option (Fl × ME)) : Prop := ∀ x m, m.lit = false → b (mapV φ x) (mapM φ m) = (b x m).map (mapQ φ) ∧ Lt (b x m)
theorem forM_map {b : V → ME → Option (Fl × ME)} (hb : BMap φ b) (e : Bool) : ∀ (l : List V) (m : ME), m.lit = false → forM b (l.map (mapV φ)) e (mapM φ m) = (forM b l e m).map (mapQ φ) ∧ Lt (forM b l e m)
  | [], m, hl => ⟨iM fun _ => rfl, ltI (ltS hl)⟩
  | x :: r, m, hl => by
    have h := hb x m hl
    refine ⟨?_, ltB fun q hq => ?_⟩
    · show (b (mapV φ x) (mapM φ m)).bind _ = ((b x m).bind _).map _
      rw [h.1]
      refine bMe fun q hq => ?_
      obtain ⟨f, m'⟩ := q
      cases f with
      | next => exact (forM_map hb e r m' (h.2 _ hq)).1
      | _ => rfl
    · obtain ⟨f, m'⟩ := q
      cases f with
      | next => exact (forM_map hb e r m' (h.2 _ hq)).2
      | _ => exact ltS (h.2 _ hq)

structure StMap (φ : Nat → Nat) (call : CallT) (gen : GenT) (n : Nat) : Prop where
  exs : ∀ l m, m.lit = false → exs call gen n l (mapM φ m) = (exs call gen n l m).map (mapQ φ) ∧ Lt (exs call gen n l m)
  ex : ∀ e m, m.lit = false → ex call gen n e (mapM φ m) = (ex call gen n e m).map (mapQ φ) ∧ Lt (ex call gen n e m)

theorem exs_stepM (X : StMap φ call gen n) (l : List Stmt) (m : ME) (hl : m.lit = false) : exs call gen (n + 1) l (mapM φ m) = (exs call gen (n + 1) l m).map (mapQ φ) ∧ Lt (exs call gen (n + 1) l m) := by
  cases l with
  | nil => exact ⟨rfl, ltS hl⟩
  | cons st r =>
    have h := X.ex st m hl
    refine ⟨?_, ltB fun q hq => ?_⟩
    · show (ex call gen n st (mapM φ m)).bind _ = ((ex call gen n st m).bind _).map _
      rw [h.1]
      refine bMe fun q hq => ?_
      obtain ⟨f, m'⟩ := q
      cases f with
      | next => exact (X.exs r m' (h.2 _ hq)).1
      | _ => rfl
    · obtain ⟨f, m'⟩ := q
      cases f with
      | next => exact (X.exs r m' (h.2 _ hq)).2
      | _ => exact ltS (h.2 _ hq)
theorem own_map (m : ME) (e : Expr) : ownName (mapM φ m) e = ownName m e := rfl
theorem erase_map {α β : Type} (g : α → β) : ∀ (l : List α) (i : Nat), (l.map g).eraseIdx i = (l.eraseIdx i).map g
  | [], _ => rfl
  | _ :: _, 0 => rfl
  | a :: r, i + 1 => congrArg (g a :: ·) (erase_map g r i)
section
variable {o : Option V} {m : ME} {x y : Str} {e : Expr} {I J : Expr → Option V}
theorem nxt {m' : ME} {z : ME} (h : z = mapM φ m') : some (Fl.next, z) = (some (Fl.next, m')).map (mapQ φ) := h ▸ rfl
theorem exVal_map : exVal x (mapM φ m) e (o.map (mapV φ)) = (exVal x m e o).map (mapQ φ) := bM fun v => by
  rw [isAtV_map]
  exact iM fun _ => nxt (set_map ..).symm
theorem exRet_map : exRet (mapM φ m) e (o.map (mapV φ)) = (exRet m e o).map (mapQ φ) := bM fun v => by
  rw [isAtV_map]
  exact iM fun _ => rfl
theorem exPop_map : exPop x y (mapM φ m) (o.map (mapV φ)) = (exPop x y m o).map (mapQ φ) := iM fun _ => by
  rw [mapM_look, oList_map, oInt_map]
  refine bM fun l => bS fun k => ?_
  rw [List.length_map]
  refine iM fun _ => ?_
  rw [List.getElem?_map, erase_map]
  exact bM fun a => nxt (by rw [set_map, set_map]; rfl)
theorem exName_map (hI : MpI φ I J) (px : Pos) : exName J x px e (mapM φ m) = (exName I x px e m).map (mapQ φ) := by
  refine eS (fun _ => ?_) fun q _ => ?_
  · rw [hI]
    refine cM (fun _ => iM' (by cases e <;> rfl) fun _ => ?_) fun _ => iM fun _ => exVal_map
    unfold exLst
    rw [oList_map]
    exact bM fun l => nxt (set_map m x (.list l) true).symm
  · rw [hI]; exact exPop_map
theorem exAssign_map (h : Swap φ) (hI : MpI φ I J) (t : Expr) : exAssign J e (mapM φ m) t = (exAssign I e m t).map (mapQ φ) := by
  refine eS (fun _ => eS (fun _ => bS fun q => bS fun d => iM fun _ => ?_) fun q _ => bS fun es => bS fun t => bS fun e => bS fun x => bS fun y => iM fun _ => ?_) fun q _ => exName_map hI _
  · rw [mapM_look, oDict_map, hI, hI, oStr_map, oInt_map]
    refine bM fun l => bM fun x => bS fun i => ?_
    rw [show (mapD φ l).length = l.length from List.length_map _]
    exact iM fun _ => nxt (by rw [set_map, dput_map h]; rfl)
  · rw [hI, hI, oAtm_map, oAtm_map]
    exact bM fun a => bM fun b => nxt (by rw [set_map, set_map]; rfl)
theorem exAug_map (hI : MpI φ I J) (op : Operator) (t : Expr) : exAug J op e (mapM φ m) t = (exAug I op e m t).map (mapQ φ) := bS fun x => iM fun _ => by
  rw [mapM_look, oInt_map, hI, oInt_map]
  exact bS fun a => bS fun b => bS fun c => nxt (set_map m x.x (.int c) false).symm
theorem exApp_map (hI : MpI φ I J) : exApp J (mapM φ m) e = (exApp I m e).map (mapQ φ) := bS fun q => iM fun _ => by
  rw [mapM_look, oList_map, hI, oAtm_map]
  refine bM fun l => bM fun a => ?_
  rw [List.length_map]
  exact iM fun _ => nxt (by rw [set_map]; exact congrArg (fun z => (mapM φ m).set q.y (.list z) true) (show l.map (mapA φ) ++ [mapA φ a] = (l ++ [a]).map (mapA φ) by rw [List.map_append]; rfl))
theorem delAt_map (l : List Atm) (k : Int) : delAt (l.map (mapA φ)) k = (delAt l k).map (List.map (mapA φ)) := by
  unfold delAt
  rw [List.isEmpty_map]
  exact cM (fun _ => rfl) fun _ => cM (fun _ => congrArg some List.map_tail.symm) fun _ => iM fun _ => congrArg some List.map_dropLast.symm
theorem exDel_map (hI : MpI φ I J) : exDel J (mapM φ m) e = (exDel I m e).map (mapQ φ) := bS fun q => bS fun y => iM fun _ => by
  rw [mapM_look, oList_map, hI, oInt_map]
  refine bM fun l => bS fun k => ?_
  rw [List.length_map, delAt_map]
  exact iM fun _ => bM fun r => nxt (set_map m y.x (.list r) true).symm
theorem exFor_map (hI : MpI φ I J) (hg : GMap φ gen) {T : V → ME → Option (Fl × ME)} (hT : BMap φ T) (hl : m.lit = false) : exFor J gen T e (mapM φ m) = (exFor I gen T e m).map (mapQ φ) := by
  refine eS (fun _ => iM fun _ => ?_) fun q _ => iM fun _ => ?_
  · rw [hI, disown_map, show plainItems ((I e).map (mapV φ)) = (plainItems (I e)).map (mapG φ) from bM fun v => by
      rw [iterOf_map]
      exact bM fun l => by rw [List.length_map]; exact iM fun _ => rfl]
    exact bM fun q => (forM_map hT q.2 q.1 _ (disown_lit hl e)).1
  · rw [hI, disown_map, show genItems gen q.f ((I q.arg).map (mapV φ)) = (genItems gen q.f (I q.arg)).map (mapG φ) from bM fun v => hg q.f v]
    exact bM fun z => (forM_map hT z.2 z.1 _ (disown_lit hl q.arg)).1
theorem exFor_lit {T : V → ME → Option (Fl × ME)} (hT : BMap φ T) (hl : m.lit = false) : Lt (exFor I gen T e m) :=
  ltE (ltI (ltB fun q _ => (forM_map hT q.2 q.1 _ (disown_lit hl e)).2)) fun q => ltI (ltB fun z _ => (forM_map hT z.2 z.1 _ (disown_lit hl q.arg)).2)
end
theorem ex_stepM (h : Swap φ) (V : ∀ k, EvMap φ call k) (hg : GMap φ gen) (X : StMap φ call gen n) (e : Stmt) (m : ME) (hl : m.lit = false) :
    ex call gen (n + 1) e (mapM φ m) = (ex call gen (n + 1) e m).map (mapQ φ) ∧ Lt (ex call gen (n + 1) e m) := by
  have hI : MpI φ (fun e => ev call n e m) (fun e => ev call n e (mapM φ m)) := fun e => (V n).ev e m hl
  have hs : ∀ {x v o f}, Lt (some (f, m.set x v o)) := ltS hl
  cases e with
  | Assign ts e p =>
    exact ⟨bS fun t => exAssign_map h hI t, ltB fun t _ => ltE (ltE (ltB fun _ _ => ltB fun _ _ => ltI (ltB fun _ _ => ltB fun _ _ => ltB fun _ _ => ltI hs)) fun _ => ltB fun _ _ => ltB fun _ _ => ltB fun _ _ => ltB fun _ _ => ltB fun _ _ => ltI (ltB fun _ _ => ltB fun _ _ => ltS hl))
      fun _ => ltE (ltC (ltI (ltB fun _ _ => hs)) (ltI (ltB fun _ _ => ltI hs))) fun _ => ltI (ltB fun _ _ => ltB fun _ _ => ltI (ltB fun _ _ => ltS hl))⟩
  | AugAssign t op e p => exact ⟨exAug_map hI op t, ltB fun _ _ => ltI (ltB fun _ _ => ltB fun _ _ => ltB fun _ _ => hs)⟩
  | If t a b p =>
    refine ⟨?_, ltB fun c _ => ltC (X.exs a m hl).2 (X.exs b m hl).2⟩
    show (tr call n t (mapM φ m)).bind _ = ((tr call n t m).bind _).map _
    rw [(V n).tr _ _ hl]
    exact bS fun c => cM (fun _ => (X.exs a m hl).1) fun _ => (X.exs b m hl).1
  | For tgt iter body els p =>
    have hT : BMap φ fun v m => (bindTgt tgt v m).bind fun m' => exs call gen n body m' := fun x m hl => by
      refine ⟨?_, ltB fun m' hm => (X.exs body m' (bindTgt_lit hm hl)).2⟩
      show (bindTgt tgt (mapV φ x) (mapM φ m)).bind _ = _
      rw [bindTgt_map]
      exact bMe fun m' hm => (X.exs body m' (bindTgt_lit hm hl)).1
    exact ⟨iM fun _ => exFor_map hI hg hT hl, ltI (exFor_lit hT hl)⟩
  | Return e p => exact ⟨bS fun e => (congrArg _ (hI e)).trans exRet_map, ltB fun _ _ => ltB fun _ _ => ltI (ltS hl)⟩
  | Expr e p => exact ⟨exApp_map hI, ltB fun _ _ => ltI (ltB fun _ _ => ltB fun _ _ => ltI hs)⟩
  | Delete ts p => exact ⟨bS fun t => exDel_map hI, ltB fun _ _ => ltB fun _ _ => ltB fun _ _ => ltI (ltB fun _ _ => ltB fun _ _ => ltI (ltB fun _ _ => hs))⟩
  | Assert t msg p =>
    refine ⟨?_, ltB fun c _ => ltI (ltS hl)⟩
    show (tr call n t (mapM φ m)).bind _ = ((tr call n t m).bind _).map _
    rw [(V n).tr _ _ hl]
    exact bS fun c => iM fun _ => rfl
  | Break p => exact ⟨rfl, ltS hl⟩
  | _ => exact ⟨rfl, ltN⟩

theorem stMap (h : Swap φ) (hc : CMap φ call) (hg : GMap φ gen) : ∀ n, StMap φ call gen n
  | 0 => ⟨fun _ _ _ => ⟨rfl, ltN⟩, fun _ _ _ => ⟨rfl, ltN⟩⟩
  | n + 1 => ⟨exs_stepM (stMap h hc hg n), ex_stepM h (evMap h hc) hg (stMap h hc hg n)⟩

theorem escs_map (h : Swap φ) : ∀ (s : List Nat) (pos : Int) (esc : Bool) (last : Int), escs (s.map φ) pos esc last = (escs s pos esc last).map (mapV φ)
  | [], pos, esc, last => by
    cases esc with
    | false => rfl
    | true =>
      show [V.tup [.int last, .str ⟨#[92]⟩]] = [V.tup [.int last, .str (mapS φ ⟨#[92]⟩)]]
      rw [sign_map, h.out 92 (by omega)]
  | c :: r, pos, esc, last => by
    have h92 : φ 92 = 92 := h.out 92 (by omega)
    have hc : (φ c == 92) = (c == 92) := by
      rw [Bool.eq_iff_iff, beq_iff_eq, beq_iff_eq]
      exact ⟨fun e => h.inj _ _ (e.trans h92.symm), fun e => by rw [e, h92]⟩
    have ih := escs_map h r
    cases esc with
    | true =>
      show V.tup [.int pos, .str (⟨#[92]⟩ ++ ⟨#[φ c]⟩)] :: escs (r.map φ) (pos + 1) false pos = V.tup [.int pos, .str (mapS φ (⟨#[92]⟩ ++ ⟨#[c]⟩))] :: (escs r (pos + 1) false pos).map (mapV φ)
      rw [ih, mapS_append, sign_map, sign_map, h92]
    | false =>
      show (if (φ c == 92) = true then escs (r.map φ) (pos + 1) true pos else V.tup [.int pos, .str ⟨#[φ c]⟩] :: escs (r.map φ) (pos + 1) false pos) = List.map (mapV φ) (if (c == 92) = true then escs r (pos + 1) true pos else V.tup [.int pos, .str ⟨#[c]⟩] :: escs r (pos + 1) false pos)
      rw [hc, ih, ih, ← sign_map]
      cases c == 92 <;> rfl
theorem grps_int : ∀ (l : List Int) (last : Option Int), (grps l last).1.map (mapV φ) = (grps l last).1
  | [], last => rfl
  | i :: r, last => by
    show (if (i == 127) = true then _ else if (i == 0) = true then _ else _ : List V × Bool).1.map _ = (if (i == 127) = true then _ else if (i == 0) = true then _ else _ : List V × Bool).1
    cases i == 127 with
    | true => rfl
    | false =>
      cases i == 0 with
      | true => cases last <;> rfl
      | false => exact congrArg (V.int i :: ·) (grps_int r (some i))
theorem gMap (h : Swap φ) : GMap φ genF := fun f v => by
  show (Option.elim (asStr (mapV φ v)) (Option.bind (asList (mapV φ v)) _) _ : Option (List V × Bool)) = Option.map (mapG φ) (Option.elim (asStr v) (Option.bind (asList v) _) _)
  rw [asStr_map, asList_map]
  refine eM (fun _ => bM fun l => iM fun _ => ?_) fun s => ?_
  · rw [ints_map]
    exact bS fun l => iM fun _ => congrArg some (Prod.ext (grps_int l none).symm rfl)
  · rw [mapS_length]
    exact iM fun _ => congrArg (fun z => some (z, true)) ((congrArg (fun l => escs l 0 false 0) (by rw [mapS_cps, Array.toList_map])).trans (escs_map h _ _ _ _))
theorem binds_map : ∀ (as : List Arg) (vs : List V), binds as (vs.map (mapV φ)) = (binds as vs).map (List.map fun kv => (kv.1, mapV φ kv.2))
  | [], [] => rfl
  | [], _ :: _ => rfl
  | _ :: _, [] => rfl
  | a :: r, v :: vs => by
    show (binds r (vs.map (mapV φ))).map _ = ((binds r vs).map _).map _
    rw [binds_map r vs]
    exact cons_map (g := fun kv => (kv.1, mapV φ kv.2)) (a := (a.arg, v)) rfl
/-- the functions of the script are blind to the letters -/
theorem cMap_eq (h : Swap φ) (defs : List DefRec) : ∀ k, CMap φ (callF defs k)
  | 0 => fun f vs _ => rfl
  | k + 1 => fun f vs hp => by
    refine cM (fun _ => rfl) fun _ => bS fun r => iM fun _ => ?_
    rw [binds_map]
    refine bM fun bs => ?_
    have hlit : (frameME f r bs).lit = false := andK hp fun hp _ => andK hp fun h1 h2 => by
      show (f == ("law" : Str) || f == ("_law_text" : Str)) = false
      rw [Bool.not_eq_true'] at h1 h2
      rw [h1, h2]; rfl
    show (exs (callF defs k) genF 40 r.body (mapM φ (frameME f r bs))).bind _ = _
    rw [((stMap h (cMap_eq h defs k) (gMap h) 40).exs r.body (frameME f r bs) hlit).1]
    refine bM fun q => congrArg some ?_
    obtain ⟨f, m⟩ := q
    cases f <;> rfl
theorem cMap (h : Swap φ) (defs : List DefRec) (k : Nat) (f : Str) (vs : List V) (v : V) (e : callF defs k f vs = some v) (hp : pureF f = true) : callF defs k f (vs.map (mapV φ)) = some (mapV φ v) := by
  rw [cMap_eq h defs k f vs hp, e]; rfl
end Mine
end
section
open PySem PySem.W PyProof.Rows PySem.Calls Builtin.Str
set_option backward.match.sparseCases false
namespace Mine
variable {call : CallT} {gen : GenT} {n : Nat} {m m' m'' : ME} {a b c v : V} {p q : Pos}

/-! single steps of the interpreter -/
theorem d_name {x : Str} {k : NameKind} (hk : m.kinds.lookup x = some k) (hn : okName x = true) (hv : m.val.lookup x = some v) (h : k = .local ∨ k = .cell ∨ k = .free) : ev call (n + 1) (.Name x p) m = some v := by
  show evName x m = some v
  unfold evName
  rw [if_pos hn, hk, hv]
  rcases h with rfl | rfl | rfl <;> rfl
theorem d_const {k : Const} {j : Nat} (hp : (m.lit || plainC k) = true) (hv : constV k = some v) : ev call (n + 1) (.Constant k j p) m = some v := by
  exact (if_pos hp).trans hv
theorem d_bin {l r : Expr} {op : Operator} (hl : ev call n l m = some a) (hr : ev call n r m = some b) (h : binop op a b = some c) : ev call (n + 1) (.BinOp l op r p) m = some c := by
  show evBin op (ev call n l m) (ev call n r m) = _
  rw [hl, hr]; exact h
theorem d_compare {l r : Expr} {op : CmpOp} {d : Bool} (h : cmp call n l op r m = some d) : ev call (n + 1) (.Compare l [op] [r] p) m = some (.bool d) := by
  show (cmp call n l op r m).map V.bool = _
  rw [h]; rfl
theorem d_cmp {l r : Expr} {op : CmpOp} {d : Bool} (hl : ev call n l m = some a) (hr : ev call n r m = some b) (h : cmpop op a b = some d) : cmp call (n + 1) l op r m = some d := by
  show ((ev call n l m).bind fun a => (ev call n r m).bind fun b => cmpAll op a b) = _
  rw [hl, hr]
  show (cmpop op a b).elim (cmpList op a b) some = _
  rw [h]; rfl
theorem d_cmpL {l r : Expr} {op : CmpOp} {d : Bool} (hl : ev call n l m = some a) (hr : ev call n r m = some b) (h0 : cmpop op a b = none) (h : cmpList op a b = some d) : cmp call (n + 1) l op r m = some d := by
  show ((ev call n l m).bind fun a => (ev call n r m).bind fun b => cmpAll op a b) = _
  rw [hl, hr]
  show (cmpop op a b).elim (cmpList op a b) some = _
  rw [h0]; exact h
theorem s_nil {α β : Type} {f : α → Option β} : seqM f [] = some [] := rfl
theorem s_cons {α β : Type} {f : α → Option β} {x : α} {r : List α} {y : β} {ys : List β} (h : f x = some y) (h' : seqM f r = some ys) : seqM f (x :: r) = some (y :: ys) := by
  show ((f x).bind fun y => (seqM f r).map (y :: ·)) = _
  rw [h, h']; rfl
theorem d_call {f : Str} {pf : Pos} {args : List Expr} {vs : List V} (hk : m.kinds.lookup f = some .globalImplicit) (hn : okName f = true) (hp : (m.lit || pureF f) = true) (hs : seqM (fun e => ev call n e m) args = some vs) (hb : builtins.contains f = false) (hh : (f == ("_law_hidden_ones" : Str)) = false)
    (h : call f vs = some v) : ev call (n + 1) (.Call (.Name f pf) args [] p) m = some v := by
  show (if (okName f && m.kinds.lookup f == some .globalImplicit && (m.lit || pureF f)) = true then evFn call f args m (seqM (fun e => ev call n e m) args) else none) = _
  rw [if_pos (by rw [hn, hk, hp, beq_self_eq_true]; rfl), hs]
  show (if builtins.contains f = true then _ else _) = _
  rw [if_neg (by rw [hb]; exact Bool.false_ne_true), if_neg (by rw [hh]; exact Bool.false_ne_true)]
  exact h
theorem d_builtin {f : Str} {pf : Pos} {args : List Expr} (hk : m.kinds.lookup f = some .globalImplicit) (hn : okName f = true) (hp : (m.lit || pureF f) = true) (hs : seqM (fun e => ev call n e m) args = some [a]) (hb : builtins.contains f = true)
    (h : builtin1 f a = some v) : ev call (n + 1) (.Call (.Name f pf) args [] p) m = some v := by
  show (if (okName f && m.kinds.lookup f == some .globalImplicit && (m.lit || pureF f)) = true then evFn call f args m (seqM (fun e => ev call n e m) args) else none) = _
  rw [if_pos (by rw [hn, hk, hp, beq_self_eq_true]; rfl), hs]
  exact (if_pos hb).trans h
theorem d_list {es : List Expr} {l : List Atm} (h : seqM (fun e => (ev call n e m).bind atom) es = some l) (hl : l.length ≤ 64) : ev call (n + 1) (.List es p) m = some (.list l) := by
  show evSeq .list (seqM (fun e => (ev call n e m).bind atom) es) = _
  rw [h]; exact if_pos hl
theorem a_of {e : Expr} {x : Atm} (h : ev call n e m = some (.at x)) : (ev call n e m).bind atom = some x := by rw [h]; rfl
theorem d_ret {e : Expr} (h : ev call n e m = some v) (hf : (∃ x, v = .at x) ∨ fresh e = true ∨ ownName m e = true) : ex call gen (n + 1) (.Return (some e) p) m = some (.ret v, m) := by
  show exRet m e (ev call n e m) = _
  rw [h]
  refine if_pos ?_
  rcases hf with ⟨x, rfl⟩ | hf | hf
  · rfl
  · rw [hf, Bool.true_or, Bool.or_true]
  · rw [hf, Bool.or_true, Bool.or_true]
noncomputable abbrev isAt : V → Bool := isAtV
theorem d_assign {x : Str} {px : Pos} {e : Expr} {k : NameKind} (hk : m.kinds.lookup x = some k) (hkk : k = .local ∨ k = .cell) (h : ev call n e m = some v) (hp : popForm e = none) (hc : isComp e = false) (hf : isAt v = true ∨ fresh e = true) :
    ex call gen (n + 1) (.Assign [.Name x px] e p) m = some (.next, m.set x v (!isAt v)) := by
  show exName (fun e => ev call n e m) x px e m = _
  unfold exName
  rw [hp, hc, hk]
  show (if false = true then (if swapOk m x px e = true then exLst x m (ev call n e m) else none) else (if (some k == some .local || some k == some .cell) = true then exVal x m e (ev call n e m) else none)) = _
  rw [if_neg Bool.false_ne_true, if_pos (by rcases hkk with rfl | rfl <;> decide), h]
  refine if_pos ?_
  rcases hf with hf | hf
  · rw [show isAtV v = true from hf]; rfl
  · rw [hf, Bool.or_true]
theorem d_comp_assign {x : Str} {px : Pos} {e : Expr} {l : List Atm} (h : ev call n e m = some (.list l)) (hp : popForm e = none) (hc : isComp e = true) (hs : swapOk m x px e = true) :
    ex call gen (n + 1) (.Assign [.Name x px] e p) m = some (.next, m.set x (.list l) true) := by
  show exName (fun e => ev call n e m) x px e m = _
  unfold exName
  rw [hp, hc]
  show (if true = true then (if swapOk m x px e = true then exLst x m (ev call n e m) else none) else (if (m.kinds.lookup x == some .local || m.kinds.lookup x == some .cell) = true then exVal x m e (ev call n e m) else none)) = _
  rw [if_pos rfl, if_pos hs, h]
  rfl
theorem d_if {t : Expr} {x y : List Stmt} {d : Bool} {r : Option (Fl × ME)} (ht : tr call n t m = some d) (h : exs call gen n (if d then x else y) m = r) : ex call gen (n + 1) (.If t x y p) m = r := by
  show ((tr call n t m).bind fun c => if c then exs call gen n x m else exs call gen n y m) = _
  rw [ht]
  cases d <;> exact h
theorem d_next {st : Stmt} {r : List Stmt} {z : Option (Fl × ME)} (h : ex call gen n st m = some (.next, m')) (h' : exs call gen n r m' = z) : exs call gen (n + 1) (st :: r) m = z := by
  show ((ex call gen n st m).bind fun q => goOn (fun m' => exs call gen n r m') q.2 q.1) = _
  rw [h]; exact h'
theorem d_step {st : Stmt} {r : List Stmt} {z : Option (Fl × ME) → Prop} (h : ex call gen n st m = some (.next, m')) (h' : z (exs call gen n r m')) : z (exs call gen (n + 1) (st :: r) m) := by
  have : exs call gen (n + 1) (st :: r) m = exs call gen n r m' := d_next h rfl
  rw [this]; exact h'
theorem d_stop {st : Stmt} {r : List Stmt} (h : ex call gen n st m = some (.ret v, m')) : exs call gen (n + 1) (st :: r) m = some (.ret v, m') := by
  show ((ex call gen n st m).bind fun q => goOn (fun m' => exs call gen n r m') q.2 q.1) = _
  rw [h]; rfl
theorem d_nil : exs call gen (n + 1) [] m = some (.next, m) := rfl
theorem d_not {t : Expr} {d : Bool} (h : tr call n t m = some d) : tr call (n + 1) (.UnaryOp .Not t p) m = some (!d) := by
  show (tr call n t m).map (!·) = _
  rw [h]; rfl
theorem d_trcall {f : Expr} {as : List Expr} {ks : List Keyword} {d : Bool} (h : ev call n (.Call f as ks p) m = some v) (ht : truth v = some d) : tr call (n + 1) (.Call f as ks p) m = some d := by
  show (ev call n (.Call f as ks p) m).bind truth = _
  rw [h]; exact ht
theorem d_trcmp {l r : Expr} {op : CmpOp} {d : Bool} (h : cmp call n l op r m = some d) : tr call (n + 1) (.Compare l [op] [r] p) m = some d := by
  exact h
theorem f_next {body : V → ME → Option (Fl × ME)} {x : V} {r : List V} {e : Bool} {z : Option (Fl × ME)} (h : body x m = some (.next, m')) (h' : forM body r e m' = z) : forM body (x :: r) e m = z := by
  show ((body x m).bind fun q => turnK (fun m' => forM body r e m') q.2 q.1) = _
  rw [h]; exact h'
theorem f_ret {body : V → ME → Option (Fl × ME)} {x : V} {r : List V} {e : Bool} (h : body x m = some (.ret v, m')) : forM body (x :: r) e m = some (.ret v, m') := by
  show ((body x m).bind fun q => turnK (fun m' => forM body r e m') q.2 q.1) = _
  rw [h]; rfl
theorem f_brk {body : V → ME → Option (Fl × ME)} {x : V} {r : List V} {e : Bool} (h : body x m = some (.brk, m')) : forM body (x :: r) e m = some (.next, m') := by
  show ((body x m).bind fun q => turnK (fun m' => forM body r e m') q.2 q.1) = _
  rw [h]; rfl
theorem part_some {a : Expr} {i : Int} (h : ev call n a m = some (.int i)) : evPart (fun e => ev call n e m) (some a) = some (some i) := by
  show (oInt (ev call n a m)).map some = _
  rw [h]; rfl
theorem d_append {y : Str} {py ap pc : Pos} {e : Expr} {l : List Atm} {x : Atm} (hp : (ap.endLine == pc.line) = true) (hn : okName y = true) (hk : m.kinds.lookup y = some .local) (ho : m.own.contains y = true) (hv : m.val.lookup y = some (.list l))
    (he : ev call n e m = some (.at x)) (hl : l.length ≤ 4096) : ex call gen (n + 1) (.Expr (.Call (.Attribute (.Name y py) ("append" : Str) ap) [e] [] pc) p) m = some (.next, m.set y (.list (l ++ [x])) true) := by
  have hf : appendForm (.Call (.Attribute (.Name y py) ("append" : Str) ap) [e] [] pc) = some ⟨y, py, ap, e, pc⟩ := by
    show (if _ then _ else _) = _
    rw [hp]; rfl
  show exApp (fun e => ev call n e m) m _ = _
  unfold exApp
  rw [hf]
  show (if (okName y && (m.kinds.lookup y == some .local) && m.own.contains y) = true then (oList (m.val.lookup y)).bind fun l => ((ev call n e m).bind atom).bind fun a => if l.length ≤ sizeCap then some (Fl.next, m.set y (.list (l ++ [a])) true) else none else none) = _
  rw [hn, hk, ho, hv, he]
  exact if_pos hl
theorem d_item {v i : Expr} {x y z : V} (hv : ev call n v m = some x) (hi : ev call n i m = some y) (h1 : ∀ a b p, i = .Slice a b none p → False) (h2 : ∀ es p, v = .List es p → False) (h : item x y = some z) : ev call (n + 1) (.Subscript v i p) m = some z := by
  have e2 : evSub2 (fun e => ev call n e m) i v = some z := by
    have : evItem (ev call n v m) (ev call n i m) = some z := by rw [hv, hi]; exact h
    unfold evSub2
    cases q : asLst v with
    | none => exact this
    | some q' => exact (h2 _ _ (asLst_eq q)).elim
  show evSub (fun e => ev call n e m) v i = _
  unfold evSub
  cases q : asSli i with
  | none => exact e2
  | some q' =>
    obtain rfl := asSli_eq q
    cases n <;> exact no_some hi
theorem d_forName {tgt : Expr} {x : Str} {px : Pos} {body : List Stmt} {items : List V} {z : Option (Fl × ME)} (hit : ev call n (.Name x px) m = some v) (hi : iterOf v = some items) (hl : items.length ≤ 4096)
    (h : forM (fun v m => (bindTgt tgt v m).bind fun m' => exs call gen n body m') items true { m with own := unique x m.own } = z) : ex call gen (n + 1) (.For tgt (.Name x px) body [] p) m = z := by
  show exFor2 (fun v m => (bindTgt tgt v m).bind fun m' => exs call gen n body m') { m with own := unique x m.own } (plainItems (ev call n (.Name x px) m)) = z
  have : plainItems (ev call n (.Name x px) m) = some (items, true) := by
    rw [hit]
    show (iterOf v).bind _ = _
    rw [hi]; exact if_pos hl
  rw [this]
  exact h
theorem call_run {defs : List DefRec} {k : Nat} {f : Str} {vs : List V} {r : DefRec} {bs : List (Str × V)} (hr : (f == ("_law_refused" : Str)) = false) (hf : defs.find? (fun r => r.name == f) = some r) (hp : plainDef f r = true) (hb : binds r.params.args vs = some bs)
    (hx : exs (callF defs k) genF 40 r.body { kinds := r.scope.names, val := bs, tok := if f == ("_law_hidden_ones" : Str) then ["first", "second"] else [], lit := f == ("law" : Str) || f == ("_law_text" : Str) } = some (.ret v, m')) : callF defs (k + 1) f vs = some v := by
  show (if (f == ("_law_refused" : Str)) = true then none else (defs.find? (fun r => r.name == f)).bind _) = _
  rw [if_neg (by rw [hr]; exact Bool.false_ne_true), hf]
  show (if plainDef f r = true then _ else none) = _
  rw [if_pos hp, hb]
  show (exs (callF defs k) genF 40 r.body (frameME f r bs)).bind _ = _
  rw [show exs (callF defs k) genF 40 r.body (frameME f r bs) = _ from hx]; rfl
theorem call_runE {defs : List DefRec} {k : Nat} {f : Str} {vs : List V} {r : DefRec} {bs : List (Str × V)} (hr : (f == ("_law_refused" : Str)) = false) (hf : defs.find? (fun r => r.name == f) = some r) (hp : plainDef f r = true) (hb : binds r.params.args vs = some bs)
    (hx : ∃ m', exs (callF defs k) genF 40 r.body { kinds := r.scope.names, val := bs, tok := if f == ("_law_hidden_ones" : Str) then ["first", "second"] else [], lit := f == ("law" : Str) || f == ("_law_text" : Str) } = some (.ret v, m')) : callF defs (k + 1) f vs = some v :=
  by obtain ⟨_, h⟩ := hx; exact call_run hr hf hp hb h
theorem bt_name {x : Str} {tp : Pos} {a : Atm} (hk : m.kinds.lookup x = some .local) : bindTgt (.Name x tp) (.at a) m = some (m.set x (.at a) false) := by
  show (if (m.kinds.lookup x == some .local || m.kinds.lookup x == some .cell) = true then some (m.set x (.at a) false) else none) = _
  rw [hk]; rfl
theorem bt_pair {x y : Str} {t1 t2 t3 : Pos} {j : Nat} {a b : Atm} (hx : m.kinds.lookup x = some .local) (hy : m.kinds.lookup y = some .local) : bindTgt (.Tuple [.Name x t1, .Name y t2] j t3) (.tup [a, b]) m = some ((m.set x (.at a) false).set y (.at b) false) := by
  show (if (m.kinds.lookup x == some .local && m.kinds.lookup y == some .local) = true then some ((m.set x (.at a) false).set y (.at b) false) else none) = _
  rw [hx, hy]; rfl
/-- what a step leaves to show -/
noncomputable abbrev Ends (v : V) (r : Option (Fl × ME)) : Prop := ∃ m', r = some (.ret v, m')
noncomputable abbrev Goes (P : ME → Prop) (r : Option (Fl × ME)) : Prop := ∃ m', r = some (.next, m') ∧ P m'
theorem f_step {body : V → ME → Option (Fl × ME)} {x : V} {r : List V} {e : Bool} {z : Option (Fl × ME) → Prop} (h : body x m = some (.next, m')) (h' : z (forM body r e m')) : z (forM body (x :: r) e m) := by
  have : forM body (x :: r) e m = forM body r e m' := f_next h rfl
  rw [this]; exact h'
end Mine
end
section
open PySem PySem.W PyProof.Rows PySem.Calls Builtin.Str
set_option backward.match.sparseCases false
set_option maxRecDepth 100000
namespace Mine
variable {call : CallT} {gen : GenT} {n : Nat} {m m' m'' : ME} {a b c v : V} {p q : Pos}

/-- a text of these signs -/
noncomputable def sw (w : List Nat) : Str := ⟨w.toArray⟩
noncomputable abbrev swA (w : List Nat) : Atm := .str (sw w)
@[simp] theorem sw_length (w : List Nat) : (sw w).length = w.length := by simp [sw, Str.length]
theorem sw_append (x y : List Nat) : sw x ++ sw y = sw (x ++ y) := by
  show (⟨x.toArray ++ y.toArray⟩ : Str) = _
  simp [sw]

/-- one turn of the loop of `_law_text` -/
noncomputable def stepT (l : List (List Nat)) (x : Int) : List (List Nat) :=
  (((l.eraseIdx (x.fmod l.length).toNat).eraseIdx ((x.fdiv 5).fmod ((l.length : Int) - 1)).toNat)) ++
    [[40] ++ l.getD (x.fmod l.length).toNat [] ++ (l.eraseIdx (x.fmod l.length).toNat).getD ((x.fdiv 5).fmod ((l.length : Int) - 1)).toNat [] ++ [41]]

noncomputable def rText : DefRec := theDefs[5]'(by rw [defs_len]; decide)
theorem rText_name : rText.name = ("_law_text" : Str) := by rfl

noncomputable def textLoop : List Stmt := loopOf (rText.body.getD 1 (.Break default))
/-- the state in that loop -/
structure TM (m : ME) (l : List (List Nat)) : Prop where
  k : m.kinds = rText.scope.names
  lit : m.lit = true
  t : m.val.lookup ("things" : Str) = some (.list (l.map swA))
  own : m.own.contains ("things" : Str) = true

theorem get_map (l : List (List Nat)) (i : Nat) (h : i < l.length) : (l.map swA)[i]? = some (swA (l.getD i [])) := by
  rw [List.getElem?_map, List.getElem?_eq_getElem h, List.getD_eq_getElem?_getD, List.getElem?_eq_getElem h]; rfl
theorem ev_binadd {x y : List Nat} (hx : x.length ≤ 4096) (hy : y.length ≤ 4096) : binop .Add (.at (swA x)) (.at (swA y)) = some (.at (swA (x ++ y))) := by
  show (if _ then some (V.str (sw x ++ sw y)) else none) = _
  rw [if_pos (add_ok (by rw [sw_length]; exact hx) (by rw [sw_length]; exact hy)), sw_append]
theorem bin_mod {x y : Int} (h : 0 < y) : binop .Mod (.int x) (.int y) = some (.int (x.fmod y)) := if_pos h
theorem bin_div {x y : Int} (h1 : 0 < y) (h2 : 0 ≤ x) (h3 : x < 1000000) (h4 : y < 1000000) : binop .FloorDiv (.int x) (.int y) = some (.int (x.fdiv y)) := by
  show (if _ then _ else _) = _
  rw [if_pos (by simp [h1, h2, h3, h4])]
theorem len_list {l : List Atm} (h : l.length ≤ 4096) : builtin1 ("len" : Str) (.list l) = some (.int (l.length : Int)) := by
  show (capN l.length).map (fun (n : Nat) => V.int (n : Int)) = _
  rw [show capN l.length = some l.length from if_pos h]; rfl

theorem unique_has {x y : Str} {l : List Str} (h : (y == x) = false) (hl : l.contains y = true) : (unique x l).contains y = true := by
  unfold unique
  simp only [List.contains_iff_mem, List.mem_filter] at hl ⊢
  exact ⟨hl, by rw [h]; rfl⟩
theorem set_own {x y : Str} {b : Bool} (h : (y == x) = false) (hl : m.own.contains y = true) : (m.set x v b).own.contains y = true := by
  cases b
  · exact unique_has h hl
  · show (x :: unique x m.own).contains y = true
    rw [List.contains_cons, unique_has h hl, Bool.or_true]
theorem set_own_self {x : Str} : (m.set x v true).own.contains x = true := by
  show (x :: unique x m.own).contains x = true
  rw [List.contains_cons]; simp
theorem set_oth {x y : Str} {b : Bool} {u : V} (h : (y == x) = false) (hv : m.val.lookup y = some u) : (m.set x v b).val.lookup y = some u := by
  rw [set_val, if_neg (beq_eq_false_iff_ne.mp h)]; exact hv
theorem set_self {x : Str} {b : Bool} : (m.set x v b).val.lookup x = some v := by rw [set_val, if_pos rfl]

/-- one, other = what is popped -/
theorem d_pop {x y : Str} {px py ap pc : Pos} {i : Expr} {l : List Atm} {k : Int} {e : Atm} (hn : okName y = true) (hk : m.kinds.lookup y = some .local) (ho : m.own.contains y = true) (hx : m.kinds.lookup x = some .local) (hxy : (x == y) = false) (hp : (ap.endLine == pc.line) = true)
    (hv : m.val.lookup y = some (.list l)) (hi : ev call n i m = some (.int k)) (h0 : 0 ≤ k) (hl : l.length ≤ 4096) (he : l[k.toNat]? = some e) :
    ex call gen (n + 1) (.Assign [.Name x px] (.Call (.Attribute (.Name y py) ("pop" : Str) ap) [i] [] pc) p) m = some (.next, (m.set y (.list (l.eraseIdx k.toNat)) true).set x (.at e) false) := by
  have hf : popForm (.Call (.Attribute (.Name y py) ("pop" : Str) ap) [i] [] pc) = some ⟨y, py, ap, i, pc⟩ := by
    show (if _ then _ else _) = _
    rw [hp]; rfl
  show exName (fun e => ev call n e m) x px _ m = _
  unfold exName
  rw [hf]
  show exPop x y m (ev call n i m) = _
  unfold exPop isLoc
  rw [if_pos (by rw [hn, hk, ho, hx, hxy]; rfl), hv, hi]
  show (if (decide (0 ≤ k) && decide (l.length ≤ sizeCap)) = true then (l[k.toNat]?).bind _ else none) = _
  rw [if_pos (by rw [decide_eq_true h0, decide_eq_true (show l.length ≤ sizeCap from hl)]; rfl), he]; rfl

theorem turn_text {l : List (List Nat)} {x : Int} (T : TM m l) (h2 : 2 ≤ l.length) (h5 : l.length ≤ 5) (hB : ∀ w ∈ l, w.length ≤ 1000) (hx0 : 0 ≤ x) (hx1 : x < 1000000) {tp : Pos} :
    ∃ m', ((bindTgt (.Name ("x" : Str) tp) (.int x) m).bind fun m' => exs call gen (n + 20) textLoop m') = some (.next, m') ∧ TM m' (stepT l x) := by
  have kx : m.kinds.lookup ("x" : Str) = some .local := by rw [T.k]; rfl
  have kt : m.kinds.lookup ("things" : Str) = some .local := by rw [T.k]; rfl
  have k1 : m.kinds.lookup ("one" : Str) = some .local := by rw [T.k]; rfl
  have k2 : m.kinds.lookup ("other" : Str) = some .local := by rw [T.k]; rfl
  have kl : m.kinds.lookup ("len" : Str) = some .globalImplicit := by rw [T.k]; rfl
  have hbt : bindTgt (.Name ("x" : Str) tp) (.int x) m = some (m.set ("x" : Str) (.int x) false) := bt_name kx
  rw [hbt, Option.bind_some]
  have hL : (0 : Int) < l.length := by omega
  have hi0 := Int.fmod_nonneg_of_pos x hL
  have hi1 := Int.fmod_lt_of_pos x hL
  have hL1 : (0 : Int) < (l.length : Int) - 1 := by omega
  have hj0 := Int.fmod_nonneg_of_pos (x.fdiv 5) hL1
  have hj1 := Int.fmod_lt_of_pos (x.fdiv 5) hL1
  have hlen1 : (l.eraseIdx (x.fmod l.length).toNat).length = l.length - 1 := by rw [List.length_eraseIdx, if_pos (by omega)]
  have g1 := get_map l (x.fmod l.length).toNat (by omega)
  have g2 := get_map (l.eraseIdx (x.fmod l.length).toNat) ((x.fdiv 5).fmod ((l.length : Int) - 1)).toNat (by omega)
  have e1 : ∀ (l : List (List Nat)) (i : Nat), (l.map swA).eraseIdx i = (l.eraseIdx i).map swA := fun l i => by
    induction l generalizing i with
    | nil => rfl
    | cons a r ih => cases i with
      | zero => rfl
      | succ i => exact congrArg (swA a :: ·) (ih i)
  show ∃ m', exs call gen (n + 20) [.Assign [.Name "one" _] (.Call (.Attribute (.Name "things" _) "pop" _) [.BinOp (.Name "x" _) .Mod (.Call (.Name "len" _) [.Name "things" _] [] _) _] [] _) _,
    .Assign [.Name "other" _] (.Call (.Attribute (.Name "things" _) "pop" _) [.BinOp (.BinOp (.Name "x" _) .FloorDiv (.Constant (.int 5) 0 _) _) .Mod (.Call (.Name "len" _) [.Name "things" _] [] _) _] [] _) _,
    .Expr (.Call (.Attribute (.Name "things" _) "append" _) [.BinOp (.BinOp (.BinOp (.Constant (.str "(") 0 _) .Add (.Name "one" _) _) .Add (.Name "other" _) _) .Add (.Constant (.str ")") 0 _) _] [] _) _] _ = _ ∧ _
  have hll : (l.map swA).length ≤ 4096 := by rw [List.length_map]; omega
  have t1 : (m.set ("x" : Str) (.int x) false).val.lookup ("things" : Str) = some (.list (l.map swA)) := set_oth (by decide) T.t
  have o1 : (m.set ("x" : Str) (.int x) false).own.contains ("things" : Str) = true := set_own (by decide) T.own
  refine d_step (z := fun r => ∃ m', r = some (.next, m') ∧ TM m' (stepT l x)) (d_pop (l := l.map swA) (k := x.fmod l.length) (e := swA (l.getD (x.fmod l.length).toNat [])) (by decide) kt o1 k1 (by decide) rfl t1 ?_ hi0 hll g1) ?_
  · refine d_bin (d_name kx (by decide) set_self (.inl rfl)) (d_builtin kl (by decide) (by rw [show (m.set ("x" : Str) (.int x) false).lit = true from T.lit]; rfl) (s_cons (d_name kt (by decide) t1 (.inl rfl)) s_nil) (by decide) (len_list hll)) ?_
    rw [List.length_map]
    exact bin_mod hL
  rw [e1]
  generalize hl1 : l.eraseIdx (x.fmod l.length).toNat = l1 at *
  generalize hw1 : l.getD (x.fmod l.length).toNat [] = w1 at *
  have hb1 : w1.length ≤ 1000 := by
    rw [← hw1, List.getD_eq_getElem?_getD, List.getElem?_eq_getElem (by omega)]
    exact hB _ (List.getElem_mem _)
  have hB1 : ∀ w ∈ l1, w.length ≤ 1000 := fun w hw => hB w (by rw [← hl1] at hw; exact List.mem_of_mem_eraseIdx hw)
  generalize hm2 : ((m.set ("x" : Str) (.int x) false).set ("things" : Str) (.list (l1.map swA)) true).set ("one" : Str) (.at (swA w1)) false = m2
  have x2 : m2.val.lookup ("x" : Str) = some (.int x) := by rw [← hm2]; exact set_oth (by decide) (set_oth (by decide) set_self)
  have t2 : m2.val.lookup ("things" : Str) = some (.list (l1.map swA)) := by rw [← hm2]; exact set_oth (by decide) set_self
  have v2 : m2.val.lookup ("one" : Str) = some (.at (swA w1)) := by rw [← hm2]; exact set_self
  have o2 : m2.own.contains ("things" : Str) = true := by rw [← hm2]; exact set_own (by decide) set_own_self
  have K2 : m2.kinds = m.kinds := by rw [← hm2]; rfl
  have L2 : m2.lit = true := by rw [← hm2]; exact T.lit
  have hll1 : (l1.map swA).length ≤ 4096 := by rw [List.length_map]; omega
  refine d_step (z := fun r => ∃ m', r = some (.next, m') ∧ TM m' (stepT l x)) (d_pop (l := l1.map swA) (k := (x.fdiv 5).fmod ((l.length : Int) - 1)) (e := swA (l1.getD ((x.fdiv 5).fmod ((l.length : Int) - 1)).toNat [])) (by decide) (K2 ▸ kt) o2 (K2 ▸ k2) (by decide) rfl t2 ?_ hj0 hll1 g2) ?_
  · refine d_bin (d_bin (d_name (K2 ▸ kx) (by decide) x2 (.inl rfl)) (d_const (by rw [L2]; rfl) rfl) (bin_div (by decide) hx0 hx1 (by decide))) (d_builtin (K2 ▸ kl) (by decide) (by rw [L2]; rfl) (s_cons (d_name (K2 ▸ kt) (by decide) t2 (.inl rfl)) s_nil) (by decide) (len_list hll1)) ?_
    rw [List.length_map, hlen1, show ((l.length - 1 : Nat) : Int) = (l.length : Int) - 1 by omega]
    exact bin_mod hL1
  rw [e1]
  have hst : stepT l x = (l1.eraseIdx ((x.fdiv 5).fmod ((l.length : Int) - 1)).toNat) ++ [[40] ++ w1 ++ l1.getD ((x.fdiv 5).fmod ((l.length : Int) - 1)).toNat [] ++ [41]] := by
    unfold stepT; rw [hl1, hw1]
  rw [hst]
  have hb2 : (l1.getD ((x.fdiv 5).fmod ((l.length : Int) - 1)).toNat []).length ≤ 1000 := by
    rw [List.getD_eq_getElem?_getD, List.getElem?_eq_getElem (by omega)]
    exact hB1 _ (List.getElem_mem _)
  have hlen2 : (l1.eraseIdx ((x.fdiv 5).fmod ((l.length : Int) - 1)).toNat).length ≤ 5 := by rw [List.length_eraseIdx]; split <;> omega
  generalize l1.eraseIdx ((x.fdiv 5).fmod ((l.length : Int) - 1)).toNat = l2 at *
  generalize l1.getD ((x.fdiv 5).fmod ((l.length : Int) - 1)).toNat [] = w2 at *
  generalize hm3 : (m2.set ("things" : Str) (.list (l2.map swA)) true).set ("other" : Str) (.at (swA w2)) false = m3
  have t3 : m3.val.lookup ("things" : Str) = some (.list (l2.map swA)) := by rw [← hm3]; exact set_oth (by decide) set_self
  have v3 : m3.val.lookup ("one" : Str) = some (.at (swA w1)) := by rw [← hm3]; exact set_oth (by decide) (set_oth (by decide) v2)
  have u3 : m3.val.lookup ("other" : Str) = some (.at (swA w2)) := by rw [← hm3]; exact set_self
  have o3 : m3.own.contains ("things" : Str) = true := by rw [← hm3]; exact set_own (by decide) set_own_self
  have K3 : m3.kinds = m.kinds := by rw [← hm3]; exact K2
  have L3 : m3.lit = true := by rw [← hm3]; exact L2
  have hll2 : (l2.map swA).length ≤ 4096 := by rw [List.length_map]; omega
  refine d_step (z := fun r => ∃ m', r = some (.next, m') ∧ TM m' _) (d_append (l := l2.map swA) (x := swA ([40] ++ w1 ++ w2 ++ [41])) rfl (by decide) (K3 ▸ kt) o3 t3 ?_ hll2) ?_
  · have hs1 : constV (.str "(") = some (.at (swA [40])) := by decide +kernel
    have hs2 : constV (.str ")") = some (.at (swA [41])) := by decide +kernel
    refine d_bin (d_bin (d_bin (d_const (by rw [L3]; rfl) hs1) (d_name (K3 ▸ k1) (by decide) v3 (.inl rfl)) (ev_binadd (by simp) (by omega))) (d_name (K3 ▸ k2) (by decide) u3 (.inl rfl)) (ev_binadd ?_ (by omega))) (d_const (by rw [L3]; rfl) hs2) (ev_binadd ?_ (by simp))
    · simp; omega
    · simp; omega
  refine ⟨_, d_nil, K3.trans T.k, L3, ?_, set_own_self⟩
  rw [set_self, List.map_append]
  rfl
end Mine
end
section
open PySem PySem.W PyProof.Rows PySem.Calls Builtin.Str
set_option backward.match.sparseCases false
set_option maxRecDepth 100000
namespace Mine
variable {call : CallT} {gen : GenT} {n : Nat} {m m' m'' : ME} {a b c v : V} {p q : Pos}

theorem stepT_length {l : List (List Nat)} {x : Int} (h : 2 ≤ l.length) : (stepT l x).length = l.length - 1 := by
  have hL : (0 : Int) < l.length := by omega
  have hi0 := Int.fmod_nonneg_of_pos x hL
  have hi1 := Int.fmod_lt_of_pos x hL
  have hL1 : (0 : Int) < (l.length : Int) - 1 := by omega
  have hj0 := Int.fmod_nonneg_of_pos (x.fdiv 5) hL1
  have hj1 := Int.fmod_lt_of_pos (x.fdiv 5) hL1
  have hlen1 : (l.eraseIdx (x.fmod l.length).toNat).length = l.length - 1 := by rw [List.length_eraseIdx, if_pos (by omega)]
  unfold stepT
  rw [List.length_append, List.length_eraseIdx, hlen1, if_pos (by omega)]
  simp; omega
theorem getD_bound {l : List (List Nat)} {B i : Nat} (h : ∀ w ∈ l, w.length ≤ B) : (l.getD i []).length ≤ B := by
  rw [List.getD_eq_getElem?_getD]
  cases e : l[i]? with
  | none => simp
  | some w => exact h w (List.mem_of_getElem? e)
theorem stepT_bound {l : List (List Nat)} {x : Int} {B : Nat} (h : ∀ w ∈ l, w.length ≤ B) : ∀ w ∈ stepT l x, w.length ≤ 2 * B + 2 := by
  intro w hw
  unfold stepT at hw
  rcases List.mem_append.mp hw with hw | hw
  · have := h w (List.mem_of_mem_eraseIdx (List.mem_of_mem_eraseIdx hw)); omega
  · simp only [List.mem_cons, List.not_mem_nil, or_false] at hw
    subst hw
    have h1 := getD_bound (i := (x.fmod l.length).toNat) h
    have h2 := getD_bound (l := l.eraseIdx (x.fmod l.length).toNat) (i := ((x.fdiv 5).fmod ((l.length : Int) - 1)).toNat) (fun w hw => h w (List.mem_of_mem_eraseIdx hw))
    simp only [List.length_append, List.length_cons, List.length_nil]
    omega

noncomputable def abcL : List (List Nat) := [[97], [98], [99], [100], [101]]
noncomputable def textOf (a b c d : Int) : List Nat := (stepT (stepT (stepT (stepT abcL a) b) c) d).headD []

theorem text_run {k : Nat} {x0 x1 x2 x3 : Int} (h0 : 0 ≤ x0 ∧ x0 < 1000000) (h1 : 0 ≤ x1 ∧ x1 < 1000000) (h2 : 0 ≤ x2 ∧ x2 < 1000000) (h3 : 0 ≤ x3 ∧ x3 < 1000000) :
    callF theDefs (k + 1) ("_law_text" : Str) [.list [.int x0, .int x1, .int x2, .int x3]] = some (.str (sw (textOf x0 x1 x2 x3))) := by
  have T0 : TM ({ kinds := rText.scope.names, val := [("numbers", .list [.int x0, .int x1, .int x2, .int x3]), ("things", .list (abcL.map swA))], own := unique ("numbers" : Str) ["things"], tok := [], lit := true } : ME) abcL := ⟨rfl, rfl, by rfl, by rfl⟩
  have L1 : (stepT abcL x0).length = 4 := stepT_length (by decide)
  have L2 : (stepT (stepT abcL x0) x1).length = 3 := by rw [stepT_length (by omega), L1]
  have L3 : (stepT (stepT (stepT abcL x0) x1) x2).length = 2 := by rw [stepT_length (by omega), L2]
  have L4 : (stepT (stepT (stepT (stepT abcL x0) x1) x2) x3).length = 1 := by rw [stepT_length (by omega), L3]
  have B0 : ∀ w ∈ abcL, w.length ≤ 1 := by decide
  have B1 := stepT_bound (x := x0) B0
  have B2 := stepT_bound (x := x1) B1
  have B3 := stepT_bound (x := x2) B2
  have sat : ∀ {x : Int}, 0 ≤ x ∧ x < 1000000 → ∀ {l : List (List Nat)} {m : ME} {B : Nat}, TM m l → 2 ≤ l.length → l.length ≤ 5 → (∀ w ∈ l, w.length ≤ B) → B ≤ 1000 → ∀ {tp : Pos}, ∃ m', ((bindTgt (.Name ("x" : Str) tp) (.int x) m).bind fun m' => exs (callF theDefs k) genF 37 textLoop m') = some (.next, m') ∧ TM m' (stepT l x) :=
    fun hx _ _ _ T h2 h5 hB hB' _ => turn_text (n := 17) T h2 h5 (fun w hw => Nat.le_trans (hB w hw) hB') hx.1 hx.2
  obtain ⟨m1, e1, T1⟩ := sat h0 T0 (by decide) (by decide) B0 (by decide) (tp := ⟨91, 8, 91, 9⟩)
  obtain ⟨m2, e2, T2⟩ := sat h1 T1 (by omega) (by omega) B1 (by decide) (tp := ⟨91, 8, 91, 9⟩)
  obtain ⟨m3, e3, T3⟩ := sat h2 T2 (by omega) (by omega) B2 (by decide) (tp := ⟨91, 8, 91, 9⟩)
  obtain ⟨m4, e4, T4⟩ := sat h3 T3 (by omega) (by omega) B3 (by decide) (tp := ⟨91, 8, 91, 9⟩)
  refine call_runE (r := rText) (by decide) (by rfl) (by decide +kernel) (by rfl) ?_
  show Ends _ (exs (callF theDefs k) genF 40 [.Assign [.Name "things" _] (.List _ _) _, .For (.Name "x" _) (.Name "numbers" _) textLoop [] _, .Return (some (.Subscript (.Name "things" _) (.Constant (.int 0) 0 _) _)) _] { kinds := rText.scope.names, val := [("numbers", .list [.int x0, .int x1, .int x2, .int x3])], tok := [], lit := true })
  refine d_step (m' := { kinds := rText.scope.names, val := [("numbers", .list [.int x0, .int x1, .int x2, .int x3]), ("things", .list (abcL.map swA))], own := ["things"], tok := [], lit := true }) (by rfl) ?_
  refine d_step (m' := m4) (d_forName (v := .list [.int x0, .int x1, .int x2, .int x3]) (items := [.int x0, .int x1, .int x2, .int x3]) (by rfl) rfl (by simp) ?_) ?_
  · exact f_next e1 (f_next e2 (f_next e3 (f_next e4 rfl)))
  · refine ⟨m4, d_stop (d_ret (d_item (x := .list ((stepT (stepT (stepT (stepT abcL x0) x1) x2) x3).map swA)) (y := .int 0) (d_name (by rw [T4.k]; rfl) (by decide) T4.t (.inl rfl)) (d_const (by rw [T4.lit]; rfl) rfl) (by intro _ _ _ h; cases h) (by intro _ _ h; cases h) ?_) (.inl ⟨_, rfl⟩))⟩
    unfold textOf
    generalize stepT (stepT (stepT (stepT abcL x0) x1) x2) x3 = z at *
    match z, L4 with
    | [w], _ => rfl
end Mine
end
section
open PySem PySem.W PyProof.Rows PySem.Calls Builtin.Str
set_option backward.match.sparseCases false
set_option maxRecDepth 100000
namespace Mine

/-! words of the letters a to e -/
noncomputable def abc : List Nat := [97, 98, 99, 100, 101]
noncomputable def injW : Nat → List (List Nat)
  | 0 => [[]]
  | k + 1 => abc.flatMap fun c => ((injW k).filter fun w => !w.contains c).map fun w => c :: w
noncomputable def perms : List (List Nat) := injW 5
theorem mem_injW : ∀ {w : List Nat}, (∀ c ∈ w, c ∈ abc) → w.Nodup → w ∈ injW w.length
  | [], _, _ => List.mem_singleton.mpr rfl
  | c :: w, ha, hn => by
    rw [List.nodup_cons] at hn
    have ih := mem_injW (fun c hc => ha c (List.mem_cons_of_mem _ hc)) hn.2
    show c :: w ∈ injW (w.length + 1)
    unfold injW
    rw [List.mem_flatMap]
    refine ⟨c, ha c (List.mem_cons_self ..), List.mem_map.mpr ⟨w, List.mem_filter.mpr ⟨ih, ?_⟩, rfl⟩⟩
    simpa using hn.1
theorem of_injW : ∀ {k : Nat} {w : List Nat}, w ∈ injW k → w.length = k ∧ (∀ c ∈ w, c ∈ abc) ∧ w.Nodup
  | 0, w, h => by
    have := List.mem_singleton.mp h
    subst this
    exact ⟨rfl, (fun c h => (List.not_mem_nil h).elim), List.nodup_nil⟩
  | k + 1, w, h => by
    unfold injW at h
    rw [List.mem_flatMap] at h
    obtain ⟨c, hc, h⟩ := h
    obtain ⟨w', hw', rfl⟩ := List.mem_map.mp h
    obtain ⟨h1, h2⟩ := List.mem_filter.mp hw'
    obtain ⟨i1, i2, i3⟩ := of_injW h1
    refine ⟨by rw [List.length_cons, i1], fun x hx => ?_, List.nodup_cons.mpr ⟨by simpa using h2, i3⟩⟩
    rcases List.mem_cons.mp hx with rfl | hx
    · exact hc
    · exact i2 x hx
theorem mem_abc {c : Nat} : c ∈ abc ↔ 97 ≤ c ∧ c ≤ 101 := by
  simp only [abc, List.mem_cons, List.not_mem_nil, or_false]; omega

/-- the change of letters that lays `w` on abcde -/
noncomputable def lm (w : List Nat) (c : Nat) : Nat := if 97 ≤ c ∧ c ≤ 101 then w.getD (c - 97) 0 else c
theorem lm_in {w : List Nat} (hw : w ∈ perms) {c : Nat} (hc : 97 ≤ c ∧ c ≤ 101) : ∃ h : c - 97 < w.length, lm w c = w[c - 97] := by
  have hl := (of_injW hw).1
  have h : c - 97 < w.length := by omega
  refine ⟨h, ?_⟩
  unfold lm
  rw [if_pos hc, List.getD_eq_getElem?_getD, List.getElem?_eq_getElem h]; rfl
theorem lm_mem {w : List Nat} (hw : w ∈ perms) {c : Nat} (hc : c ∈ abc) : lm w c ∈ abc := by
  obtain ⟨h, e⟩ := lm_in hw (mem_abc.mp hc)
  rw [e]; exact (of_injW hw).2.1 _ (List.getElem_mem _)
theorem lm_inj {w : List Nat} (hw : w ∈ perms) {a b : Nat} (ha : a ∈ abc) (hb : b ∈ abc) (e : lm w a = lm w b) : a = b := by
  obtain ⟨h1, e1⟩ := lm_in hw (mem_abc.mp ha)
  obtain ⟨h2, e2⟩ := lm_in hw (mem_abc.mp hb)
  rw [e1, e2] at e
  have hn := List.pairwise_iff_getElem.mp (of_injW hw).2.2
  have ha' := mem_abc.mp ha
  have hb' := mem_abc.mp hb
  rcases Nat.lt_trichotomy (a - 97) (b - 97) with h | h | h
  · exact absurd e (hn _ _ h1 h2 h)
  · omega
  · exact absurd e.symm (hn _ _ h2 h1 h)
theorem lm_swap {w : List Nat} (hw : w ∈ perms) : Swap (lm w) where
  inj := fun a b e => by
    by_cases ha : a ∈ abc
    · by_cases hb : b ∈ abc
      · exact lm_inj hw ha hb e
      · have h1 := lm_mem hw ha
        rw [e] at h1
        have : lm w b = b := by unfold lm; rw [if_neg fun h => hb (mem_abc.mpr h)]
        rw [this] at h1; exact absurd h1 hb
    · have h1 : lm w a = a := by unfold lm; rw [if_neg fun h => ha (mem_abc.mpr h)]
      by_cases hb : b ∈ abc
      · have h2 := lm_mem hw hb
        rw [← e, h1] at h2; exact absurd h2 ha
      · have h2 : lm w b = b := by unfold lm; rw [if_neg fun h => hb (mem_abc.mpr h)]
        rw [h1, h2] at e; exact e
  low := fun c h1 h2 => mem_abc.mp (lm_mem hw (mem_abc.mpr ⟨h1, h2⟩))
  out := fun c h => by unfold lm; rw [if_neg h]
theorem map_lm_mem {w x : List Nat} (hw : w ∈ perms) (hx : ∀ c ∈ x, c ∈ abc) (hn : x.Nodup) : x.map (lm w) ∈ injW x.length := by
  have h := mem_injW (w := x.map (lm w)) (fun c hc => by obtain ⟨a, ha, rfl⟩ := List.mem_map.mp hc; exact lm_mem hw (hx a ha)) ?_
  · rwa [List.length_map] at h
  · unfold List.Nodup at hn ⊢
    rw [List.pairwise_map]
    exact List.Pairwise.imp_of_mem (fun {a b} ha hb hab e => hab (lm_inj hw (hx a ha) (hx b hb) e)) hn
theorem perm_map {w x : List Nat} (hw : w ∈ perms) (hx : x ∈ perms) : x.map (lm w) ∈ perms := by
  have h := of_injW hx
  have := map_lm_mem hw h.2.1 h.2.2
  rwa [h.1] at this
theorem abc_map {w : List Nat} (hw : w ∈ perms) : abc.map (lm w) = w := by
  have h := (of_injW hw).1
  match w, h with
  | [a, b, c, d, e], _ => rfl
/-- the change back -/
noncomputable def inv (w : List Nat) : List Nat := abc.map fun c => 97 + w.findIdx (· == c)
theorem inv_facts : ∀ w ∈ perms, inv w ∈ perms ∧ ∀ c ∈ abc, lm w (lm (inv w) c) = c ∧ lm (inv w) (lm w c) = c := by decide +kernel
theorem inv_all {w : List Nat} (hw : w ∈ perms) (c : Nat) : lm w (lm (inv w) c) = c ∧ lm (inv w) (lm w c) = c := by
  by_cases hc : c ∈ abc
  · exact (inv_facts w hw).2 c hc
  · have h : ∀ w, lm w c = c := fun w => by unfold lm; rw [if_neg fun h => hc (mem_abc.mpr h)]
    rw [h, h, h]; exact ⟨rfl, rfl⟩
theorem mapS_sw (φ : Nat → Nat) (w : List Nat) : mapS φ (sw w) = sw (w.map φ) := by
  simp [mapS, sw]
theorem inv_map {w : List Nat} (hw : w ∈ perms) (x : List Nat) : (x.map (lm (inv w))).map (lm w) = x := by
  rw [List.map_map]
  refine (List.map_congr_left fun c _ => (inv_all hw c).1).trans (List.map_id _)

/-! trees of brackets -/
inductive Tr where
  | leaf (c : Nat) | node (l r : Tr)
noncomputable def textT : Tr → List Nat
  | .leaf c => [c]
  | .node l r => 40 :: (textT l ++ textT r) ++ [41]
noncomputable def rowsT : Tr → List (List Nat × Int)
  | .leaf c => [([c], 1)]
  | .node l r => (rowsT l).flatMap fun x => (rowsT r).flatMap fun y => [(x.1 ++ y.1, x.2 * y.2), (y.1 ++ x.1, -x.2 * y.2)]
noncomputable def treesK : Nat → Nat → Nat → List Tr
  | 0, _, _ => []
  | k + 1, i, n => if n = 1 then [.leaf (97 + i)] else (List.range n).flatMap fun j => if j = 0 then [] else (treesK k i j).flatMap fun l => (treesK k (i + j) (n - j)).map fun r => .node l r
noncomputable def trees : List Tr := treesK 5 0 5
end Mine
end
section
open PySem PySem.W PyProof.Rows PySem.Calls Builtin.Str
set_option backward.match.sparseCases false
set_option maxRecDepth 100000
namespace Mine

noncomputable def Tr.leaves : Tr → List Nat
  | .leaf c => [c]
  | .node l r => l.leaves ++ r.leaves
noncomputable def Tr.size : Tr → Nat
  | .leaf _ => 1
  | .node l r => l.size + r.size
noncomputable def Tr.map (f : Nat → Nat) : Tr → Tr
  | .leaf c => .leaf (f c)
  | .node l r => .node (l.map f) (r.map f)
noncomputable def Tr.canon : Tr → Nat → Tr
  | .leaf _, i => .leaf (97 + i)
  | .node l r, i => .node (l.canon i) (r.canon (i + l.size))
theorem Tr.size_leaves : ∀ t : Tr, t.leaves.length = t.size
  | .leaf _ => rfl
  | .node l r => by simp [Tr.leaves, Tr.size, Tr.size_leaves l, Tr.size_leaves r]
theorem Tr.size_pos : ∀ t : Tr, 1 ≤ t.size
  | .leaf _ => Nat.le_refl _
  | .node l r => Nat.le_trans (Tr.size_pos l) (Nat.le_add_right _ _)
theorem Tr.canon_mem : ∀ (t : Tr) (i k : Nat), t.size ≤ k → t.canon i ∈ treesK k i t.size
  | .leaf c, i, 0, h => by simp [Tr.size] at h
  | .node l r, i, 0, h => by have := l.size_pos; simp [Tr.size] at h; omega
  | .leaf c, i, k + 1, h => by
    unfold treesK
    rw [if_pos (show (Tr.leaf c).size = 1 from rfl)]
    exact List.mem_singleton.mpr rfl
  | .node l r, i, k + 1, h => by
    have hl := l.size_pos
    have hr := r.size_pos
    have hs : (Tr.node l r).size = l.size + r.size := rfl
    rw [hs] at h ⊢
    unfold treesK
    rw [if_neg (by omega), List.mem_flatMap]
    refine ⟨l.size, List.mem_range.mpr (by omega), ?_⟩
    rw [if_neg (by omega), List.mem_flatMap]
    refine ⟨l.canon i, Tr.canon_mem l i k (by omega), List.mem_map.mpr ⟨r.canon (i + l.size), ?_, rfl⟩⟩
    rw [show l.size + r.size - l.size = r.size by omega]
    exact Tr.canon_mem r _ k (by omega)
theorem Tr.canon_map {w : List Nat} (hw : w ∈ perms) : ∀ (t : Tr) (i : Nat), (w.drop i).take t.size = t.leaves → (t.canon i).map (lm w) = t
  | .leaf c, i, h => by
    have hl := (of_injW hw).1
    have h' : (w.drop i).take 1 = [c] := h
    have hi : i < 5 := by
      rcases Nat.lt_or_ge i 5 with q | q
      · exact q
      · rw [List.drop_of_length_le (by omega)] at h'; cases h'
    have hc : w[i]? = some c := by
      have := congrArg (·[0]?) h'
      simpa using this
    show Tr.leaf (lm w (97 + i)) = _
    unfold lm
    rw [if_pos (by omega), show 97 + i - 97 = i by omega, List.getD_eq_getElem?_getD, hc]; rfl
  | .node l r, i, h => by
    have h' : (w.drop i).take (l.size + r.size) = l.leaves ++ r.leaves := h
    have h1 : (w.drop i).take l.size = l.leaves := by
      have := congrArg (List.take l.size) h'
      rwa [List.take_take, Nat.min_eq_left (by omega), List.take_left' l.size_leaves] at this
    have h2 : (w.drop (i + l.size)).take r.size = r.leaves := by
      have := congrArg (List.drop l.size) h'
      rw [List.drop_left' l.size_leaves, List.drop_take, List.drop_drop, show l.size + r.size - l.size = r.size by omega] at this
      exact this
    show Tr.node _ _ = _
    rw [Tr.canon_map hw l i h1, Tr.canon_map hw r _ h2]
theorem textT_map {f : Nat → Nat} (h1 : f 40 = 40) (h2 : f 41 = 41) : ∀ t : Tr, textT (t.map f) = (textT t).map f
  | .leaf _ => rfl
  | .node l r => by simp [Tr.map, textT, textT_map h1 h2 l, textT_map h1 h2 r, h1, h2]

/-- a turn of the loop, on trees -/
noncomputable def stepR (l : List Tr) (x : Int) : List Tr :=
  (((l.eraseIdx (x.fmod l.length).toNat).eraseIdx ((x.fdiv 5).fmod ((l.length : Int) - 1)).toNat)) ++
    [.node (l.getD (x.fmod l.length).toNat (.leaf 0)) ((l.eraseIdx (x.fmod l.length).toNat).getD ((x.fdiv 5).fmod ((l.length : Int) - 1)).toNat (.leaf 0))]
theorem erase_mapT (l : List Tr) (i : Nat) : (l.map textT).eraseIdx i = (l.eraseIdx i).map textT := by
  induction l generalizing i with
  | nil => rfl
  | cons a r ih => cases i with
    | zero => rfl
    | succ i => exact congrArg (textT a :: ·) (ih i)
theorem getD_mapT {l : List Tr} {i : Nat} (h : i < l.length) : (l.map textT).getD i [] = textT (l.getD i (.leaf 0)) := by
  simp [List.getD_eq_getElem?_getD, List.getElem?_eq_getElem h]
theorem erase_perm {α : Type} : ∀ (l : List α) (i : Nat) (h : i < l.length), (l[i] :: l.eraseIdx i).Perm l
  | a :: r, 0, h => List.Perm.refl _
  | a :: r, i + 1, h => (List.Perm.swap _ _ _).trans (List.Perm.cons a (erase_perm r i (Nat.lt_of_succ_lt_succ h)))
structure TrsOk2 (l : List Tr) (x : Int) : Prop where
  text : stepT (l.map textT) x = (stepR l x).map textT
  perm : ((stepR l x).flatMap Tr.leaves).Perm (l.flatMap Tr.leaves)
  len : (stepR l x).length = l.length - 1
theorem stepR_ok {l : List Tr} (x : Int) (h : 2 ≤ l.length) : TrsOk2 l x := by
  have hL : (0 : Int) < l.length := by omega
  have hi0 := Int.fmod_nonneg_of_pos x hL
  have hi1 := Int.fmod_lt_of_pos x hL
  have hL1 : (0 : Int) < (l.length : Int) - 1 := by omega
  have hj0 := Int.fmod_nonneg_of_pos (x.fdiv 5) hL1
  have hj1 := Int.fmod_lt_of_pos (x.fdiv 5) hL1
  have hlen1 : (l.eraseIdx (x.fmod l.length).toNat).length = l.length - 1 := by rw [List.length_eraseIdx, if_pos (by omega)]
  have hi : (x.fmod l.length).toNat < l.length := by omega
  have hj : ((x.fdiv 5).fmod ((l.length : Int) - 1)).toNat < (l.eraseIdx (x.fmod l.length).toNat).length := by omega
  refine ⟨?_, ?_, ?_⟩
  · unfold stepT stepR
    rw [List.length_map, erase_mapT, erase_mapT, getD_mapT hi, getD_mapT hj, List.map_append]
    simp [textT]
  · unfold stepR
    generalize (x.fmod l.length).toNat = i at *
    generalize ((x.fdiv 5).fmod ((l.length : Int) - 1)).toNat = j at *
    have p1 := erase_perm l i hi
    have p2 := erase_perm (l.eraseIdx i) j hj
    have e1 : l.getD i (.leaf 0) = l[i] := by rw [List.getD_eq_getElem?_getD, List.getElem?_eq_getElem hi]; rfl
    have e2 : (l.eraseIdx i).getD j (.leaf 0) = (l.eraseIdx i)[j] := by rw [List.getD_eq_getElem?_getD, List.getElem?_eq_getElem hj]; rfl
    rw [e1, e2, List.flatMap_append]
    have q1 := List.Perm.flatMap_right Tr.leaves p1
    have q2 := List.Perm.flatMap_right Tr.leaves p2
    rw [List.flatMap_cons] at q1 q2
    refine List.Perm.trans ?_ q1
    refine List.perm_append_comm.trans ?_
    show (List.flatMap Tr.leaves [.node l[i] (l.eraseIdx i)[j]] ++ _).Perm _
    rw [List.flatMap_cons, List.flatMap_nil, List.append_nil]
    show ((l[i].leaves ++ (l.eraseIdx i)[j].leaves) ++ _).Perm _
    rw [List.append_assoc]
    exact q2.append_left _
  · unfold stepR
    rw [List.length_append, List.length_eraseIdx, hlen1, if_pos (by omega)]
    simp; omega

/-- every text is one of the 14 under a change of letters -/
theorem text_class (x0 x1 x2 x3 : Int) : ∃ t ∈ trees, ∃ w ∈ perms, textOf x0 x1 x2 x3 = (textT t).map (lm w) := by
  have s0 : abcL = [Tr.leaf 97, .leaf 98, .leaf 99, .leaf 100, .leaf 101].map textT := rfl
  have r1 := stepR_ok (l := [Tr.leaf 97, .leaf 98, .leaf 99, .leaf 100, .leaf 101]) x0 (by decide)
  have l1 : (stepR [Tr.leaf 97, .leaf 98, .leaf 99, .leaf 100, .leaf 101] x0).length = 4 := r1.len
  have r2 := stepR_ok (l := stepR [Tr.leaf 97, .leaf 98, .leaf 99, .leaf 100, .leaf 101] x0) x1 (by omega)
  have l2 := r2.len
  rw [l1] at l2
  have r3 := stepR_ok (l := stepR (stepR [Tr.leaf 97, .leaf 98, .leaf 99, .leaf 100, .leaf 101] x0) x1) x2 (by omega)
  have l3 := r3.len
  rw [l2] at l3
  have r4 := stepR_ok (l := stepR (stepR (stepR [Tr.leaf 97, .leaf 98, .leaf 99, .leaf 100, .leaf 101] x0) x1) x2) x3 (by omega)
  have l4 := r4.len
  rw [l3] at l4
  have perm := ((r4.perm.trans r3.perm).trans r2.perm).trans r1.perm
  have text : textOf x0 x1 x2 x3 = ((stepR (stepR (stepR (stepR [Tr.leaf 97, .leaf 98, .leaf 99, .leaf 100, .leaf 101] x0) x1) x2) x3).map textT).headD [] := by
    unfold textOf
    rw [s0, r1.text, r2.text, r3.text, r4.text]
  rw [text]
  clear text r1 r2 r3 r4 s0 l1 l2 l3
  generalize stepR (stepR (stepR (stepR [Tr.leaf 97, .leaf 98, .leaf 99, .leaf 100, .leaf 101] x0) x1) x2) x3 = z at *
  match z, l4 with
  | [t], _ =>
    have perm' : t.leaves.Perm abc := by simpa [Tr.leaves, abc] using perm
    have hlen : t.leaves.length = 5 := perm'.length_eq
    have hw : t.leaves ∈ perms := by
      have := mem_injW (w := t.leaves) (fun c hc => perm'.mem_iff.mp hc) (perm'.nodup_iff.mpr (by decide))
      rwa [hlen] at this
    have hsz : t.size = 5 := t.size_leaves ▸ hlen
    refine ⟨t.canon 0, ?_, t.leaves, hw, ?_⟩
    · have := t.canon_mem 0 5 (by omega)
      rwa [hsz] at this
    · have := Tr.canon_map hw t 0 (by rw [List.drop_zero, t.size_leaves.symm, List.take_length])
      show textT t = _
      rw [← textT_map (by unfold lm; rw [if_neg (by decide)]) (by unfold lm; rw [if_neg (by decide)]), this]
end Mine
end
section
open PySem PySem.W PyProof.Rows PySem.Calls Builtin.Str
set_option backward.match.sparseCases false
set_option maxRecDepth 100000
namespace Mine

/-! a quicker copy of the interpreter: names and texts are compared as lists -/
noncomputable def eqL : List Nat → List Nat → Bool
  | [], [] => true
  | a :: r, b :: s => match Nat.beq a b with
    | true => eqL r s
    | false => false
  | _, _ => false
theorem eqL_eq : ∀ a b : List Nat, eqL a b = (a == b)
  | [], [] => rfl
  | [], _ :: _ => rfl
  | _ :: _, [] => rfl
  | a :: r, b :: s => by
    show (match Nat.beq a b with | true => eqL r s | false => false) = _
    rw [List.cons_beq_cons, ← eqL_eq r s]
    have : (a == b) = Nat.beq a b := by rw [Bool.eq_iff_iff, beq_iff_eq, Nat.beq_eq]
    rw [this]
    cases Nat.beq a b <;> rfl
noncomputable def eqS (a b : Str) : Bool := eqL a.cps.toList b.cps.toList
theorem eqS_eq (a b : Str) : eqS a b = (a == b) := by
  unfold eqS
  rw [eqL_eq, Bool.eq_iff_iff, beq_iff_eq, beq_iff_eq, Array.toList_inj]
  exact ⟨fun h => by cases a; cases b; simp_all, fun h => h ▸ rfl⟩
noncomputable def lookS {α : Type} (x : Str) : List (Str × α) → Option α
  | [] => none
  | (y, v) :: r => match eqS x y with
    | true => some v
    | false => lookS x r
theorem lookS_eq {α : Type} (x : Str) : ∀ l : List (Str × α), lookS x l = l.lookup x
  | [] => rfl
  | (y, v) :: r => by
    show (match eqS x y with | true => some v | false => lookS x r) = _
    rw [List.lookup_cons, eqS_eq, lookS_eq x r]
    cases x == y <;> rfl
noncomputable def hasS (x : Str) : List Str → Bool
  | [] => false
  | y :: r => match eqS x y with
    | true => true
    | false => hasS x r
theorem hasS_eq (x : Str) : ∀ l : List Str, hasS x l = l.contains x
  | [] => rfl
  | y :: r => by
    show (match eqS x y with | true => true | false => hasS x r) = _
    rw [List.contains_cons, eqS_eq, hasS_eq x r]
    cases x == y <;> rfl
noncomputable def dgetQ : List (Str × Int) → Str → Option Int
  | [], _ => none
  | (k, v) :: r, x => match eqS k x with
    | true => some v
    | false => dgetQ r x
theorem dgetQ_eq (x : Str) : ∀ l, dgetQ l x = dget l x
  | [] => rfl
  | (k, v) :: r => by
    show (match eqS k x with | true => some v | false => dgetQ r x) = if k = x then some v else dget r x
    rw [dgetQ_eq x r, eqS_eq]
    by_cases h : k = x
    · subst h; simp
    · rw [if_neg h, beq_eq_false_iff_ne.mpr h]
/-- where a text lies in another, by lists -/
noncomputable def occGo (y : List Nat) (k hi limit : Nat) : Nat → List Nat → Nat → Nat → Nat → List Nat
  | 0, _, _, _, _ => []
  | n + 1, l, i, free, cnt => match Nat.blt cnt limit && (Nat.ble free i && (Nat.ble (i + k) hi && eqL (l.take k) y)) with
    | true => i :: occGo y k hi limit n l.tail (i + 1) (i + k) (cnt + 1)
    | false => occGo y k hi limit n l.tail (i + 1) free cnt
noncomputable def occQ (x y : Str) (lo hi limit : Nat) : List Nat := occGo y.cps.toList y.length hi limit (hi + 1 - lo) (x.cps.toList.drop lo) lo lo 0
theorem subAt_list (x y : Str) (i : Nat) : subAt x y i = eqL ((x.cps.toList.drop i).take y.length) y.cps.toList := by
  unfold subAt
  rw [eqL_eq, Bool.eq_iff_iff, beq_iff_eq, beq_iff_eq, ← Array.toList_inj, Array.toList_extract, List.extract_eq_take_drop, show i + y.length - i = y.length by omega]
theorem occGo_eq (x y : Str) (hi limit : Nat) : ∀ (n i free : Nat) (found : Array Nat),
    (forIn (List.range' i n) (found, free) (StrLaws.occBody x y hi limit)).run.fst.toList = found.toList ++ occGo y.cps.toList y.length hi limit n (x.cps.toList.drop i) i free found.size
  | 0, i, free, found => by simp [occGo]
  | n + 1, i, free, found => by
    have hcond : (Nat.blt found.size limit && (Nat.ble free i && (Nat.ble (i + y.length) hi && eqL ((x.cps.toList.drop i).take y.length) y.cps.toList))) = true ↔ (((found.size < limit ∧ free ≤ i) ∧ i + y.length ≤ hi) ∧ subAt x y i = true) := by
      rw [← subAt_list]
      simp only [Bool.and_eq_true, Nat.blt_eq, Nat.ble_eq]
      constructor
      · rintro ⟨a, b, c, d⟩; exact ⟨⟨⟨a, b⟩, c⟩, d⟩
      · rintro ⟨⟨⟨a, b⟩, c⟩, d⟩; exact ⟨a, b, c, d⟩
    have htl : (x.cps.toList.drop i).tail = x.cps.toList.drop (i + 1) := by rw [List.tail_drop]
    rw [List.range'_succ, List.forIn_cons]
    by_cases hc : ((found.size < limit ∧ free ≤ i) ∧ i + y.length ≤ hi) ∧ subAt x y i = true
    · have e : StrLaws.occBody x y hi limit i (found, free) = pure (ForInStep.yield (found.push i, i + y.length)) := if_pos hc
      rw [e]
      refine (occGo_eq x y hi limit n (i + 1) (i + y.length) (found.push i)).trans ?_
      conv => rhs; unfold occGo
      rw [hcond.mpr hc, htl]
      simp
    · have e : StrLaws.occBody x y hi limit i (found, free) = pure (ForInStep.yield (found, free)) := if_neg hc
      rw [e]
      refine (occGo_eq x y hi limit n (i + 1) free found).trans ?_
      have hf : (Nat.blt found.size limit && (Nat.ble free i && (Nat.ble (i + y.length) hi && eqL ((x.cps.toList.drop i).take y.length) y.cps.toList))) = false := Bool.eq_false_iff.mpr fun h => hc (hcond.mp h)
      conv => rhs; unfold occGo
      rw [hf, htl]
theorem occQ_eq (x y : Str) (lo hi limit : Nat) : occQ x y lo hi limit = occurrences x y lo hi limit := by
  rw [StrLaws.occ_eq, occGo_eq]; rfl
noncomputable def strSubQ (s : Str) (i j : Nat) : Str := ⟨((s.cps.toList.drop i).take (j - i)).toArray⟩
theorem strSubQ_eq (s : Str) (i j : Nat) : strSubQ s i j = strSub s i j := by
  unfold strSubQ strSub
  congr 1
  rw [← Array.toList_inj, Array.toList_extract, List.extract_eq_take_drop]
noncomputable def partsQ (s : Str) (cuts : List Nat) (width : Nat) : List Str := ((0 :: cuts.map (· + width)).zip (cuts ++ [s.length])).map fun p => strSubQ s p.1 p.2
theorem partsQ_eq (s : Str) (cuts : List Nat) (width : Nat) : partsQ s cuts width = partsBetween s cuts width := by
  unfold partsQ partsBetween
  simp only [strSubQ_eq]
noncomputable def splitQ (x y : Str) : List Str :=
  if (decide (x.length < y.length) || decide (Builtin.Str.strKind x < Builtin.Str.strKind y)) = true then [x] else
  match occQ x y 0 x.length (x.length + 1) with
  | [] => [x]
  | l => partsQ x l y.length
theorem splitQ_eq (x y : Str) : splitQ x y = Txt.split x y := by
  unfold splitQ Txt.split
  rw [occQ_eq]
  split
  · rfl
  · cases occurrences x y 0 x.length (x.length + 1) with
    | nil => rfl
    | cons a r => exact partsQ_eq _ _ _
noncomputable def containsQ (x y : Str) : Bool := !(occQ x y 0 x.length 1).isEmpty
theorem containsQ_eq (x y : Str) : containsQ x y = Txt.contains x y := by unfold containsQ Txt.contains; rw [occQ_eq]
noncomputable def findInQ (x y : Str) (a b : Int) : Int :=
  if 0 ≤ a ∧ a ≤ b ∧ b ≤ x.length then (match occQ x y a.toNat b.toNat 1 with | i :: _ => (i : Int) | [] => -1) else -1
theorem findInQ_eq (x y : Str) (a b : Int) : findInQ x y a b = findIn x y a b := by unfold findInQ findIn; rw [occQ_eq]; try rfl
noncomputable def replaceQ (x y z : Str) : Str :=
  match occQ x y 0 x.length (x.length + 1) with
  | [] => x
  | l => if (y.length == 0 && z.length == 0) = true then x else glued z (partsQ x l y.length)
theorem replaceQ_eq (x y z : Str) : replaceQ x y z = Txt.replace x y z := by
  unfold replaceQ Txt.replace
  rw [occQ_eq]
  cases occurrences x y 0 x.length (x.length + 1) with
  | nil => rfl
  | cons a r => simp [partsQ_eq]
end Mine
end
section
open PySem PySem.W PyProof.Rows PySem.Calls Builtin.Str
set_option backward.match.sparseCases false
set_option maxRecDepth 100000
namespace Mine
noncomputable def isBoolV (v : Option V) (b : Bool) : Bool := decide (v = some (.bool b))
theorem isBoolV_eq {v : Option V} {b : Bool} (h : isBoolV v b = true) : v = some (.bool b) := of_decide_eq_true h
noncomputable abbrev lawC : CallT := callF theDefs 11
theorem of_callQ {k : Nat} {f : Str} {vs : List V} {v : Option V} (h : callF theDefs k f vs = v) : callF theDefs k f vs = v := h

noncomputable def rowsV (t : Tr) : List (Str × Int) := (rowsT t).map fun x => (sw x.1, x.2)
/-- three dots about each letter -/
noncomputable def wantOf (w : List Nat) : Str := ("..." ++ Txt.join "..." (w.map fun c => ⟨#[c]⟩)) ++ "..."
noncomputable def inOrd (w x : List Nat) : Bool := x.filter (fun c => w.contains c) == w
/-- a row cut from its end on -/
noncomputable def cutP : List Nat → List Nat → List (List Nat)
  | row, [] => if row.isEmpty then [] else [row]
  | row, s :: r => if row.isEmpty then [] else row.drop (row.length - s) :: cutP (row.take (row.length - s)) r
noncomputable def rulerOf (near far : Nat) (again : Nat) : List Int := [(near : Int), (far : Int)] ++ (match again with | 0 => [0, 9] | 1 => [127, 2] | _ => [])
noncomputable def toldOf (near far : Nat) (again : Nat) : List Int := [(near : Int), (far : Int)] ++ (if again = 0 then [(far : Int), (far : Int)] else [])
noncomputable def piecesOf (near far : Nat) (again : Nat) : List (List Nat) := cutP abc ([near, far] ++ (if again = 0 then [far, far, far, far] else []))
noncomputable def isListV (v : Option V) (l : List Atm) : Bool := decide (v = some (.list l))
theorem isListV_eq {v : Option V} {l : List Atm} (h : isListV v l = true) : v = some (.list l) := of_decide_eq_true h
noncomputable def comps : List (List (List Nat)) := ((List.range 5).flatMap fun n => (List.range 3).flatMap fun f => (List.range 3).map fun a => piecesOf (n + 1) (f + 1) a).eraseDups
end Mine
end
section
open PySem PySem.W PyProof.Rows PySem.Calls Builtin.Str
set_option backward.match.sparseCases false
set_option maxRecDepth 100000
namespace Mine
variable {call : CallT} {gen : GenT} {n : Nat} {m m' m'' : ME} {a b c v : V} {p q : Pos}

theorem d_meth {o : Expr} {args : List Expr} {f : Str} {ap : Pos} {ov : V} {vs : List V} (ho : ev call n o m = some ov) (hs : seqM (fun e => ev call n e m) args = some vs) (h1 : notSuper o = true) (h2 : (ap.endLine == p.line) = true) (hl : args.length < 20) (h : meth f ov vs = some v)
    (hg : (f == ("get" : Str)) = false) (hr : (f == ("replace" : Str)) = false) : ev call (n + 1) (.Call (.Attribute o f ap) args [] p) m = some v := by
  show (if ap.endLine == p.line then evAttr (fun e => ev call n e m) o f args m else none) = _
  rw [if_pos h2]
  unfold evAttr
  rw [hg, hr, if_neg (by decide), if_neg (by decide), if_pos (by rw [h1, decide_eq_true hl]; rfl)]
  show evMeth f (ev call n o m) (seqM (fun e => ev call n e m) args) = _
  rw [ho, hs]
  exact h
theorem d_meth1 {o x : Expr} {f : Str} {ap : Pos} {ov av : V} (ho : ev call n o m = some ov) (hx : ev call n x m = some av) (h1 : notSuper o = true) (h2 : (ap.endLine == p.line) = true) (h : meth f ov [av] = some v)
    (hg : (f == ("get" : Str)) = false := by decide) (hr : (f == ("replace" : Str)) = false := by decide) : ev call (n + 1) (.Call (.Attribute o f ap) [x] [] p) m = some v :=
  d_meth ho (s_cons hx s_nil) h1 h2 (by show 1 < 20; decide) h hg hr
theorem bin_str {x y : Str} (hx : x.length ≤ 4096) (hy : y.length ≤ 4096) : binop .Add (.str x) (.str y) = some (.str (x ++ y)) := by
  show (if _ then some (V.str (x ++ y)) else none) = _
  rw [if_pos (add_ok hx hy)]
theorem join_len (sep : Str) (l : List Str) (B : Nat) (h : ∀ x ∈ l, x.length ≤ B) : (Txt.join sep l).length ≤ l.length * B + l.length * sep.length := by
  have h1 := StrLaws.join_length_le sep l
  rw [← StrLaws.glued_eq_join] at h1
  refine Nat.le_trans h1 (Nat.add_le_add_right ?_ _)
  clear h1
  induction l with
  | nil => simp
  | cons a r ih =>
    have := h a (List.mem_cons_self ..)
    have := ih fun x hx => h x (List.mem_cons_of_mem _ hx)
    simp only [List.map_cons, List.sum_cons, List.length_cons, Nat.succ_mul]
    omega
theorem meth_join {x : Str} {w : List Nat} (hx : x.length ≤ 8) (hw : w.length ≤ 64) : meth ("join" : Str) (.str x) [.str (sw w)] = some (.str (Txt.join x (w.map fun c => ⟨#[c]⟩))) := by
  show (if _ then _ else _) = _
  rw [if_pos (by simp [hx, hw])]
  simp [sw]

noncomputable def rAll : DefRec := theDefs[11]'(by rw [defs_len]; decide)
noncomputable def allLoop : List Stmt := loopOf (rAll.body.getD 0 (.Break default))
structure AF (m : ME) (u : List Nat) : Prop where
  k : m.kinds = rAll.scope.names
  lit : m.lit = false
  r : m.val.lookup ("row" : Str) = some (.str (sw u))

theorem all_kinds : rAll.scope.names.lookup ("piece" : Str) = some .local ∧ rAll.scope.names.lookup ("row" : Str) = some .local ∧ rAll.scope.names.lookup ("pieces" : Str) = some .local ∧ rAll.scope.names.lookup ("_ellipsis_match" : Str) = some .globalImplicit := by decide +kernel

theorem all_turn {u w : List Nat} {d : Bool} (F : AF m u) (hw : w.length ≤ 64) (h : call ("_ellipsis_match" : Str) [.str (wantOf w), .str (sw u)] = some (.bool d)) {tp : Pos} :
    (d = true → Goes (AF · u) ((bindTgt (.Name ("piece" : Str) tp) (.str (sw w)) m).bind fun m' => exs call gen (n + 20) allLoop m')) ∧
    (d = false → Ends (.bool false) ((bindTgt (.Name ("piece" : Str) tp) (.str (sw w)) m).bind fun m' => exs call gen (n + 20) allLoop m')) := by
  obtain ⟨k1, k2, k3, k4⟩ := all_kinds
  rw [← F.k] at k1 k2 k3 k4
  have hbt : bindTgt (.Name ("piece" : Str) tp) (.str (sw w)) m = some (m.set ("piece" : Str) (.str (sw w)) false) := bt_name k1
  rw [hbt, Option.bind_some]
  have F' : AF (m.set ("piece" : Str) (.str (sw w)) false) u := ⟨F.k, F.lit, set_oth (by decide) F.r⟩
  have hp : (m.set ("piece" : Str) (.str (sw w)) false).val.lookup ("piece" : Str) = some (.str (sw w)) := set_self
  generalize m.set ("piece" : Str) (.str (sw w)) false = m1 at *
  have K : m1.kinds = m.kinds := F'.k.trans F.k.symm
  rw [← K] at k1 k2 k3 k4
  have hdots : constV (.str "...") = some (.str ("..." : Str)) := rfl
  have hc : ∀ {n : Nat} {j : Nat} {q : Pos}, ev call (n + 1) (.Constant (.str "...") j q) m1 = some (.str ("..." : Str)) := d_const (by rw [F'.lit]; decide +kernel) hdots
  have l3 : (("..." : Str)).length = 3 := by decide +kernel
  have hj := join_len ("..." : Str) (w.map fun c => (⟨#[c]⟩ : Str)) 1 (fun x hx => by obtain ⟨c, _, rfl⟩ := List.mem_map.mp hx; exact Nat.le_refl _)
  rw [List.length_map, l3] at hj
  have step : ∀ (z : Option (Fl × ME) → Prop), z (if d = true then some (.next, m1) else some (.ret (.bool false), m1)) → z (exs call gen (n + 20) allLoop m1) := by
    intro z hz
    show z (exs call gen (n + 20) [.If (.Compare (.Call (.Name "_ellipsis_match" _) [.BinOp (.BinOp (.Constant (.str "...") 0 _) .Add (.Call (.Attribute (.Constant (.str "...") 0 _) "join" _) [.Name "piece" _] [] _) _) .Add (.Constant (.str "...") 0 _) _, .Name "row" _] [] _) [.IsNot] [.Constant (.bool true) 0 _] _) [.Return (some (.Constant (.bool false) 0 _)) _] [] _] m1)
    have hcmp : ∀ {q1 q2 q3 q4 q5 q6 q7 q8 q9 q10 q11 q12 : Pos}, (q6.endLine == q8.line) = true → cmp call (n + 17) (.Call (.Name "_ellipsis_match" q1) [.BinOp (.BinOp (.Constant (.str "...") 0 q2) .Add (.Call (.Attribute (.Constant (.str "...") 0 q3) "join" q6) [.Name "piece" q7] [] q8) q9) .Add (.Constant (.str "...") 0 q4) q10, .Name "row" q5] [] q11) .IsNot (.Constant (.bool true) 0 q12) m1 = some (!d) := by
      intro q1 q2 q3 q4 q5 q6 q7 q8 q9 q10 q11 q12 hq
      refine d_cmp (a := .bool d) (b := .bool true) (d_call k4 (by decide) (by rw [F'.lit]; decide +kernel) (s_cons (d_bin (d_bin hc (d_meth1 hc (d_name k1 (by decide) hp (.inl rfl)) rfl hq (meth_join (by rw [l3]; decide) hw)) (bin_str (by rw [l3]; decide) (by omega))) hc (bin_str (by rw [Str.length_append, l3]; omega) (by rw [l3]; decide))) (s_cons (d_name k2 (by decide) F'.r (.inl rfl)) s_nil)) (by decide) (by decide) h) (d_const (by rw [F'.lit]; rfl) rfl) ?_
      cases d <;> rfl
    have ht : ∀ {q1 q2 q3 q4 q5 q6 q7 q8 q9 q10 q11 q12 q13 : Pos}, (q6.endLine == q8.line) = true → tr call (n + 18) (.Compare (.Call (.Name "_ellipsis_match" q1) [.BinOp (.BinOp (.Constant (.str "...") 0 q2) .Add (.Call (.Attribute (.Constant (.str "...") 0 q3) "join" q6) [.Name "piece" q7] [] q8) q9) .Add (.Constant (.str "...") 0 q4) q10, .Name "row" q5] [] q11) [.IsNot] [.Constant (.bool true) 0 q12] q13) m1 = some (!d) := fun hq => d_trcmp (hcmp hq)
    cases d
    · rw [if_neg (by decide)] at hz
      have : ∀ {z : Option (Fl × ME)} {st : List Stmt}, exs call gen (n + 20) st m1 = z → z = some (.ret (.bool false), m1) → exs call gen (n + 20) st m1 = some (.ret (.bool false), m1) := fun h1 h2 => h1.trans h2
      refine Eq.subst (motive := z) (Eq.symm (d_stop (d_if (ht rfl) (d_stop (d_ret (v := .bool false) (d_const (by rw [F'.lit]; rfl) rfl) (.inl ⟨_, rfl⟩)))))) hz
    · rw [if_pos rfl] at hz
      refine Eq.subst (motive := z) (Eq.symm (d_next (d_if (ht rfl) d_nil) d_nil)) hz
  cases d
  · exact ⟨fun h => (by cases h), fun _ => step _ ⟨m1, rfl⟩⟩
  · exact ⟨fun _ => step _ ⟨m1, rfl, F'⟩, fun h => (by cases h)⟩
theorem all_loop {u : List Nat} {g : List Nat → Bool} {tp : Pos} : ∀ (P : List (List Nat)) (m : ME), AF m u → (∀ w ∈ P, w.length ≤ 64 ∧ call ("_ellipsis_match" : Str) [.str (wantOf w), .str (sw u)] = some (.bool (g w))) →
    (P.all g = true → Goes (AF · u) (forM (fun v m => (bindTgt (.Name ("piece" : Str) tp) v m).bind fun m' => exs call gen (n + 20) allLoop m') (P.map fun w => V.str (sw w)) true m)) ∧
    (P.all g = false → Ends (.bool false) (forM (fun v m => (bindTgt (.Name ("piece" : Str) tp) v m).bind fun m' => exs call gen (n + 20) allLoop m') (P.map fun w => V.str (sw w)) true m))
  | [], m, F, h => ⟨fun _ => ⟨m, rfl, F⟩, fun h => by cases h⟩
  | w :: r, m, F, h => by
    obtain ⟨h1, h2⟩ := h w (List.mem_cons_self ..)
    obtain ⟨t1, t2⟩ := all_turn (n := n) (gen := gen) (tp := tp) F h1 h2
    simp only [List.map_cons, List.all_cons]
    cases hg : g w with
    | false =>
      refine ⟨fun h => (by cases h), fun _ => ?_⟩
      obtain ⟨m', e⟩ := t2 hg
      exact ⟨m', f_ret e⟩
    | true =>
      obtain ⟨m', e, F'⟩ := t1 hg
      have ih := all_loop (tp := tp) r m' F' fun x hx => h x (List.mem_cons_of_mem _ hx)
      rw [Bool.true_and]
      exact ⟨fun h => f_step e (ih.1 h), fun h => f_step e (ih.2 h)⟩
theorem rAll_name : rAll.name = ("_law_all_found" : Str) := by rfl
theorem all_run {k : Nat} {P : List (List Nat)} {u : List Nat} {g : List Nat → Bool} (hl : P.length ≤ 4096) (h : ∀ w ∈ P, w.length ≤ 64 ∧ callF theDefs k ("_ellipsis_match" : Str) [.str (wantOf w), .str (sw u)] = some (.bool (g w))) :
    callF theDefs (k + 1) ("_law_all_found" : Str) [.list (P.map swA), .str (sw u)] = some (.bool (P.all g)) := by
  refine call_runE (r := rAll) (by decide) (by rfl) (by decide +kernel) (by rfl) ?_
  obtain ⟨k1, k2, k3, k4⟩ := all_kinds
  have F : AF ({ kinds := rAll.scope.names, val := [("pieces", .list (P.map swA)), ("row", .str (sw u))], own := unique ("pieces" : Str) [], tok := [], lit := false } : ME) u := ⟨rfl, rfl, by rfl⟩
  show Ends _ (exs (callF theDefs k) genF 40 [.For (.Name "piece" _) (.Name "pieces" _) allLoop [] _, .Return (some (.Constant (.bool true) 0 _)) _] { kinds := rAll.scope.names, val := [("pieces", .list (P.map swA)), ("row", .str (sw u))], tok := [], lit := false })
  have L := all_loop (n := 18) (gen := genF) (call := callF theDefs k) (g := g) (tp := ⟨142, 8, 142, 13⟩) P _ F h
  have hit : iterOf (.list (P.map swA)) = some (P.map fun w => V.str (sw w)) := by
    show some ((P.map swA).map V.at) = _
    rw [List.map_map]; rfl
  cases hg : P.all g with
  | true =>
    obtain ⟨m', e, F'⟩ := L.1 hg
    exact d_step (m' := m') (d_forName (v := .list (P.map swA)) (d_name k3 (by decide) (by rfl) (.inl rfl)) hit (by rw [List.length_map]; exact hl) e) ⟨m', d_stop (d_ret (v := .bool true) (d_const (by rw [F'.lit]; rfl) rfl) (.inl ⟨_, rfl⟩))⟩
  | false =>
    obtain ⟨m', e⟩ := L.2 hg
    exact ⟨m', d_stop (d_forName (v := .list (P.map swA)) (d_name k3 (by decide) (by rfl) (.inl rfl)) hit (by rw [List.length_map]; exact hl) e)⟩
end Mine
end
section
open PySem PySem.W PyProof.Rows PySem.Calls Builtin.Str
set_option backward.match.sparseCases false
set_option maxRecDepth 100000
namespace Mine
variable {call : CallT} {gen : GenT} {n : Nat} {m m' m'' : ME} {a b c v : V} {p q : Pos}

/-- what `_iter_escaped_chars` hands out -/
noncomputable def escsN : List Nat → Int → Bool → Int → List (Int × List Nat)
  | [], _, e, last => if e then [(last, [92])] else []
  | c :: r, pos, e, last =>
    if e then (pos, [92, c]) :: escsN r (pos + 1) false pos
    else if c == 92 then escsN r (pos + 1) true pos
    else (pos, [c]) :: escsN r (pos + 1) false pos
noncomputable def itemV (x : Int × List Nat) : V := .tup [.int x.1, .str (sw x.2)]
theorem escs_items : ∀ (s : List Nat) (pos : Int) (e : Bool) (last : Int), escs s pos e last = (escsN s pos e last).map itemV
  | [], pos, e, last => by cases e <;> rfl
  | c :: r, pos, e, last => by
    simp only [escs, escsN]
    split
    · rw [List.map_cons, escs_items r]; rfl
    · split
      · exact escs_items r _ _ _
      · rw [List.map_cons, escs_items r]; rfl
theorem d_forGen {tgt arg : Expr} {f : Str} {pf pc : Pos} {body : List Stmt} {items : List V} {ended : Bool} {z : Option (Fl × ME)} (hk : m.kinds.lookup f = some .globalImplicit) (hn : okName f = true) (ha : (fresh arg || isName arg) = true) (hv : ev call n arg m = some v) (hg : gen f [v] = some (items, ended))
    (h : forM (fun v m => (bindTgt tgt v m).bind fun m' => exs call gen n body m') items ended (disown m arg) = z) : ex call gen (n + 1) (.For tgt (.Call (.Name f pf) [arg] [] pc) body [] p) m = z := by
  show (if okName f && m.kinds.lookup f == some .globalImplicit && (fresh arg || isName arg) then exFor2 (fun v m => (bindTgt tgt v m).bind fun m' => exs call gen n body m') (disown m arg) (genItems gen f (ev call n arg m)) else none) = z
  rw [if_pos (by rw [hn, hk, ha]; rfl), hv]
  show exFor2 _ _ (gen f [v]) = z
  rw [hg]
  exact h
theorem gen_items {s : List Nat} (hs : s.length ≤ 256) : genF ("_iter_escaped_chars" : Str) [.str (sw s)] = some ((escsN s 0 false 0).map itemV, true) := by
  have h0 : (("_iter_escaped_chars" : Str) == ("_iter_escaped_chars" : Str)) = true := by simp
  show (if _ then some (escs (sw s).cps.toList 0 false 0, true) else none) = _
  rw [if_pos (by rw [h0, sw_length]; simpa using hs), escs_items]
  rfl

/-! `_check_parenthesis` -/
noncomputable def runI : List (Int × List Nat) → Int → Option Int
  | [], k => some k
  | (_, z) :: r, k => if z = [40] then runI r (k + 1) else if z = [41] then (if k - 1 < 0 then none else runI r (k - 1)) else runI r k
noncomputable def chkF (s : List Nat) : Bool := match runI (escsN s 0 false 0) 0 with
  | some k => k == 0
  | none => false
noncomputable def rChk : DefRec := theDefs[2]'(by rw [defs_len]; decide)
theorem ck_all : lookS ("addr" : Str) rChk.scope.names = some .local ∧ lookS ("opens" : Str) rChk.scope.names = some .local ∧ lookS ("pos" : Str) rChk.scope.names = some .local ∧ lookS ("ch" : Str) rChk.scope.names = some .local ∧
    lookS ("_strip_quoted_realnames" : Str) rChk.scope.names = some .globalImplicit ∧ lookS ("_iter_escaped_chars" : Str) rChk.scope.names = some .globalImplicit := by decide +kernel
structure ChkKinds (K : List (Str × NameKind)) : Prop where
  kaddr : K.lookup ("addr" : Str) = some .local
  kopens : K.lookup ("opens" : Str) = some .local
  kpos : K.lookup ("pos" : Str) = some .local
  kch : K.lookup ("ch" : Str) = some .local
  kstrip : K.lookup ("_strip_quoted_realnames" : Str) = some .globalImplicit
  kiter : K.lookup ("_iter_escaped_chars" : Str) = some .globalImplicit
theorem ck : ChkKinds rChk.scope.names := by
  have h := ck_all
  simp only [lookS_eq] at h
  obtain ⟨h1, h2, h3, h4, h5, h6⟩ := h
  exact ⟨h1, h2, h3, h4, h5, h6⟩
noncomputable def chkLoop : List Stmt := loopOf (rChk.body.getD 2 (.Break default))
structure CM (m : ME) (i : Int) : Prop where
  k : m.kinds = rChk.scope.names
  lit : m.lit = false
  o : m.val.lookup ("opens" : Str) = some (.int i)
theorem d_augS {x : Str} {px : Pos} {e : Expr} {i j : Int} (hk : m.kinds.lookup x = some .local) (hx : m.val.lookup x = some (.int i)) (he : ev call n e m = some (.int j)) : ex call gen (n + 1) (.AugAssign (.Name x px) .Sub e p) m = some (.next, m.set x (.int (i - j)) false) := by
  show (if (m.kinds.lookup x == some .local) = true then (oInt (m.val.lookup x)).bind fun a => (oInt (ev call n e m)).bind fun b => (augOp .Sub a b).bind fun c => some (Fl.next, m.set x (.int c) false) else none) = _
  rw [hk, hx, he]
  rfl
theorem d_augA {x : Str} {px : Pos} {e : Expr} {i j : Int} (hk : m.kinds.lookup x = some .local) (hx : m.val.lookup x = some (.int i)) (he : ev call n e m = some (.int j)) : ex call gen (n + 1) (.AugAssign (.Name x px) .Add e p) m = some (.next, m.set x (.int (i + j)) false) := by
  show (if (m.kinds.lookup x == some .local) = true then (oInt (m.val.lookup x)).bind fun a => (oInt (ev call n e m)).bind fun b => (augOp .Add a b).bind fun c => some (Fl.next, m.set x (.int c) false) else none) = _
  rw [hk, hx, he]
  rfl
theorem sw_eq (v u : List Nat) : (sw v == sw u) = decide (v = u) := by
  rw [Bool.eq_iff_iff, beq_iff_eq, decide_eq_true_eq]
  constructor
  · intro h
    have := congrArg (fun s => s.cps.toList) h
    simpa [sw] using this
  · intro h; rw [h]
theorem lit_open : ("(" : Str) = sw [40] := by decide +kernel
theorem lit_close : (")" : Str) = sw [41] := by decide +kernel

theorem chk_turn {k : Int} {x : Int × List Nat} (C : CM m k) {t1 t2 t3 : Pos} {j : Nat} :
    ∀ (Z : Option (Fl × ME) → Prop), (if x.2 = [40] then ∀ m', CM m' (k + 1) → Z (some (.next, m')) else if x.2 = [41] then (if k - 1 < 0 then ∀ m', Z (some (.ret (.bool false), m')) else ∀ m', CM m' (k - 1) → Z (some (.next, m'))) else ∀ m', CM m' k → Z (some (.next, m'))) →
      Z ((bindTgt (.Tuple [.Name ("pos" : Str) t1, .Name ("ch" : Str) t2] j t3) (itemV x) m).bind fun m' => exs call gen (n + 20) chkLoop m') := by
  intro Z hZ
  have K : ChkKinds m.kinds := by rw [C.k]; exact ck
  have hbt : bindTgt (.Tuple [.Name ("pos" : Str) t1, .Name ("ch" : Str) t2] j t3) (itemV x) m = some ((m.set ("pos" : Str) (.int x.1) false).set ("ch" : Str) (.str (sw x.2)) false) := bt_pair K.kpos K.kch
  rw [hbt, Option.bind_some]
  have C1 : CM ((m.set ("pos" : Str) (.int x.1) false).set ("ch" : Str) (.str (sw x.2)) false) k := ⟨C.k, C.lit, set_oth (by decide) (set_oth (by decide) C.o)⟩
  have hch : ((m.set ("pos" : Str) (.int x.1) false).set ("ch" : Str) (.str (sw x.2)) false).val.lookup ("ch" : Str) = some (.str (sw x.2)) := set_self
  generalize (m.set ("pos" : Str) (.int x.1) false).set ("ch" : Str) (.str (sw x.2)) false = m1 at *
  have K : ChkKinds m1.kinds := by rw [C1.k]; exact ck
  show Z (exs call gen (n + 20) [.If (.Compare (.Name "ch" _) [.Eq] [.Constant (.str "(") 0 _] _) [.AugAssign (.Name "opens" _) .Add (.Constant (.int 1) 0 _) _] [.If (.Compare (.Name "ch" _) [.Eq] [.Constant (.str ")") 0 _] _) [.AugAssign (.Name "opens" _) .Sub (.Constant (.int 1) 0 _) _, .If (.Compare (.Name "opens" _) [.Lt] [.Constant (.int 0) 0 _] _) [.Return (some (.Constant (.bool false) 0 _)) _] [] _] [] _] _] m1)
  have hc : ∀ {m : ME} {n : Nat} {i : Int} {j : Nat} {q : Pos}, m.lit = false → ev call (n + 1) (.Constant (.int i) j q) m = some (.int i) := fun {m n i j q} h => d_const (by rw [h]; rfl) rfl
  have t1 : ∀ {n : Nat} {q1 q2 q3 : Pos}, tr call (n + 3) (.Compare (.Name "ch" q1) [.Eq] [.Constant (.str "(") 0 q2] q3) m1 = some (decide (x.2 = [40])) := fun {n q1 q2 q3} => d_trcmp (d_cmp (a := .str (sw x.2)) (b := .str ("(" : Str)) (d_name K.kch (by decide) hch (.inl rfl)) (d_const (by rw [C1.lit]; decide +kernel) rfl) (by show some (sw x.2 == ("(" : Str)) = _; rw [lit_open, sw_eq]))
  have t2 : ∀ {n : Nat} {q1 q2 q3 : Pos}, tr call (n + 3) (.Compare (.Name "ch" q1) [.Eq] [.Constant (.str ")") 0 q2] q3) m1 = some (decide (x.2 = [41])) := fun {n q1 q2 q3} => d_trcmp (d_cmp (a := .str (sw x.2)) (b := .str (")" : Str)) (d_name K.kch (by decide) hch (.inl rfl)) (d_const (by rw [C1.lit]; decide +kernel) rfl) (by show some (sw x.2 == (")" : Str)) = _; rw [lit_close, sw_eq]))
  by_cases h40 : x.2 = [40]
  · rw [if_pos h40] at hZ
    rw [decide_eq_true h40] at t1
    exact Eq.subst (motive := Z) (Eq.symm (d_next (d_if t1 (d_next (d_augA K.kopens C1.o (hc C1.lit)) d_nil)) d_nil)) (hZ _ ⟨C1.k, C1.lit, set_self⟩)
  · rw [if_neg h40] at hZ
    rw [decide_eq_false h40] at t1
    by_cases h41 : x.2 = [41]
    · rw [if_pos h41] at hZ
      rw [decide_eq_true h41] at t2
      have o2 : (m1.set ("opens" : Str) (.int (k - 1)) false).val.lookup ("opens" : Str) = some (.int (k - 1)) := set_self
      have l2 : (m1.set ("opens" : Str) (.int (k - 1)) false).lit = false := C1.lit
      have k2 : (m1.set ("opens" : Str) (.int (k - 1)) false).kinds.lookup ("opens" : Str) = some .local := K.kopens
      have t3 : ∀ {n : Nat} {q1 q2 q3 : Pos}, tr call (n + 3) (.Compare (.Name "opens" q1) [.Lt] [.Constant (.int 0) 0 q2] q3) (m1.set ("opens" : Str) (.int (k - 1)) false) = some (decide (k - 1 < 0)) := fun {n q1 q2 q3} => d_trcmp (d_cmp (a := .int (k - 1)) (b := .int 0) (d_name k2 (by decide) o2 (.inl rfl)) (hc l2) rfl)
      by_cases hneg : k - 1 < 0
      · rw [if_pos hneg] at hZ
        rw [decide_eq_true hneg] at t3
        exact Eq.subst (motive := Z) (Eq.symm (d_stop (d_if t1 (d_stop (d_if t2 (d_next (d_augS K.kopens C1.o (hc C1.lit)) (d_stop (d_if t3 (d_stop (d_ret (v := .bool false) (d_const (k := .bool false) (by rw [l2]; rfl) rfl) (.inl ⟨_, rfl⟩)))))))))))
          (hZ (m1.set ("opens" : Str) (.int (k - 1)) false))
      · rw [if_neg hneg] at hZ
        rw [decide_eq_false hneg] at t3
        exact Eq.subst (motive := Z) (Eq.symm (d_next (d_if t1 (d_next (d_if t2 (d_next (d_augS K.kopens C1.o (hc C1.lit)) (d_next (d_if t3 d_nil) d_nil))) d_nil)) d_nil))
          (hZ (m1.set ("opens" : Str) (.int (k - 1)) false) ⟨C1.k, C1.lit, set_self⟩)
    · rw [if_neg h41] at hZ
      rw [decide_eq_false h41] at t2
      exact Eq.subst (motive := Z) (Eq.symm (d_next (d_if t1 (d_next (d_if t2 d_nil) d_nil)) d_nil)) (hZ _ C1)
theorem chk_loop {t1 t2 t3 : Pos} {j : Nat} : ∀ (L : List (Int × List Nat)) (m : ME) (k : Int), CM m k →
    (∀ k', runI L k = some k' → Goes (CM · k') (forM (fun v m => (bindTgt (.Tuple [.Name ("pos" : Str) t1, .Name ("ch" : Str) t2] j t3) v m).bind fun m' => exs call gen (n + 20) chkLoop m') (L.map itemV) true m)) ∧
    (runI L k = none → Ends (.bool false) (forM (fun v m => (bindTgt (.Tuple [.Name ("pos" : Str) t1, .Name ("ch" : Str) t2] j t3) v m).bind fun m' => exs call gen (n + 20) chkLoop m') (L.map itemV) true m))
  | [], m, k, C => ⟨fun k' h => by cases h; exact ⟨m, rfl, C⟩, fun h => by cases h⟩
  | x :: r, m, k, C => by
    have T := chk_turn (n := n) (gen := gen) (call := call) (x := x) C (t1 := t1) (t2 := t2) (t3 := t3) (j := j) (fun z =>
      (∀ k', runI (x :: r) k = some k' → Goes (CM · k') (z.bind fun q => turnK (fun m' => forM (fun v m => (bindTgt (.Tuple [.Name ("pos" : Str) t1, .Name ("ch" : Str) t2] j t3) v m).bind fun m' => exs call gen (n + 20) chkLoop m') (r.map itemV) true m') q.2 q.1)) ∧
      (runI (x :: r) k = none → Ends (.bool false) (z.bind fun q => turnK (fun m' => forM (fun v m => (bindTgt (.Tuple [.Name ("pos" : Str) t1, .Name ("ch" : Str) t2] j t3) v m).bind fun m' => exs call gen (n + 20) chkLoop m') (r.map itemV) true m') q.2 q.1)))
    refine T ?_
    have e : runI (x :: r) k = if x.2 = [40] then runI r (k + 1) else if x.2 = [41] then (if k - 1 < 0 then none else runI r (k - 1)) else runI r k := rfl
    rw [e]
    by_cases h40 : x.2 = [40]
    · rw [if_pos h40, if_pos h40]
      exact fun m' C' => chk_loop r m' _ C'
    · rw [if_neg h40, if_neg h40]
      by_cases h41 : x.2 = [41]
      · rw [if_pos h41, if_pos h41]
        by_cases hneg : k - 1 < 0
        · rw [if_pos hneg, if_pos hneg]
          exact fun m' => ⟨(fun k' h => by cases h), fun _ => ⟨m', rfl⟩⟩
        · rw [if_neg hneg, if_neg hneg]
          exact fun m' C' => chk_loop r m' _ C'
      · rw [if_neg h41, if_neg h41]
        exact fun m' C' => chk_loop r m' _ C'
theorem check_run {k : Nat} {x : Str} {s : List Nat} (hs : callF theDefs k ("_strip_quoted_realnames" : Str) [.str x] = some (.str (sw s))) (hl : s.length ≤ 256) : callF theDefs (k + 1) ("_check_parenthesis" : Str) [.str x] = some (.bool (chkF s)) := by
  refine call_runE (r := rChk) (by decide) (by rfl) (by decide +kernel) (by rfl) ?_
  have K := ck
  show Ends _ (exs (callF theDefs k) genF 40 [.Assign [.Name "addr" _] (.Call (.Name "_strip_quoted_realnames" _) [.Name "addr" _] [] _) _, .Assign [.Name "opens" _] (.Constant (.int 0) 0 _) _, .For (.Tuple [.Name "pos" _, .Name "ch" _] _ _) (.Call (.Name "_iter_escaped_chars" _) [.Name "addr" _] [] _) chkLoop [] _, .Return (some (.Compare (.Name "opens" _) [.Eq] [.Constant (.int 0) 0 _] _)) _] { kinds := rChk.scope.names, val := [("addr", .str x)], tok := [], lit := false })
  have ha : ({ kinds := rChk.scope.names, val := [("addr", .str x)], tok := [], lit := false } : ME).val.lookup ("addr" : Str) = some (.str x) := by rfl
  have hk0 : ({ kinds := rChk.scope.names, val := [("addr", .str x)], tok := [], lit := false } : ME).kinds = rChk.scope.names := rfl
  have hl0 : ({ kinds := rChk.scope.names, val := [("addr", .str x)], tok := [], lit := false } : ME).lit = false := rfl
  generalize ({ kinds := rChk.scope.names, val := [("addr", .str x)], tok := [], lit := false } : ME) = m at *
  rw [← hk0] at K
  refine d_step (m' := m.set ("addr" : Str) (.str (sw s)) false) (z := Ends _) (d_assign (v := .str (sw s)) K.kaddr (.inl rfl) (d_call K.kstrip (by decide) (by rw [hl0]; decide +kernel) (s_cons (d_name K.kaddr (by decide) ha (.inl rfl)) s_nil) (by decide) (by decide) hs) rfl rfl (.inl rfl)) ?_
  refine d_step (m' := (m.set ("addr" : Str) (.str (sw s)) false).set ("opens" : Str) (.int 0) false) (z := Ends _) (d_assign (v := .int 0) K.kopens (.inl rfl) (d_const (by show (m.lit || _) = true; rw [hl0]; rfl) rfl) rfl rfl (.inl rfl)) ?_
  have ha2 : ((m.set ("addr" : Str) (.str (sw s)) false).set ("opens" : Str) (.int 0) false).val.lookup ("addr" : Str) = some (.str (sw s)) := set_oth (by decide) set_self
  have C : CM ((m.set ("addr" : Str) (.str (sw s)) false).set ("opens" : Str) (.int 0) false) 0 := ⟨hk0, hl0, set_self⟩
  generalize (m.set ("addr" : Str) (.str (sw s)) false).set ("opens" : Str) (.int 0) false = m1 at *
  have K1 : ChkKinds m1.kinds := by rw [C.k]; exact ck
  have C' : CM ({ m1 with own := unique ("addr" : Str) m1.own } : ME) 0 := ⟨C.k, C.lit, C.o⟩
  have L := chk_loop (n := 16) (gen := genF) (call := callF theDefs k) (t1 := ⟨36, 8, 36, 11⟩) (t2 := ⟨36, 13, 36, 15⟩) (t3 := ⟨36, 8, 36, 15⟩) (j := 0) (escsN s 0 false 0) _ 0 C'
  unfold chkF
  cases hr : runI (escsN s 0 false 0) 0 with
  | some k' =>
    obtain ⟨m2, e, C2⟩ := L.1 k' hr
    refine d_step (m' := m2) (d_forGen (v := .str (sw s)) K1.kiter (by decide) rfl (d_name K1.kaddr (by decide) ha2 (.inl rfl)) (gen_items hl) e) ⟨m2, d_stop (d_ret (v := .bool (k' == 0)) (d_compare (d_cmp (a := .int k') (b := .int 0) (d_name ?_ (by decide) C2.o (.inl rfl)) (d_const (by rw [C2.lit]; rfl) rfl) rfl)) (.inl ⟨_, rfl⟩))⟩
    rw [C2.k]; exact ck.kopens
  | none =>
    obtain ⟨m2, e⟩ := L.2 hr
    exact ⟨m2, d_stop (d_forGen (v := .str (sw s)) K1.kiter (by decide) rfl (d_name K1.kaddr (by decide) ha2 (.inl rfl)) (gen_items hl) e)⟩
end Mine
end
section
open PySem PySem.W PyProof.Rows PySem.Calls Builtin.Str
set_option backward.match.sparseCases false
set_option maxRecDepth 100000
namespace Mine
variable {call : CallT} {gen : GenT} {n : Nat} {m m' m'' : ME} {a b c v : V} {p q : Pos}

/-! `_strip_quoted_realnames` -/
noncomputable def rStrip : DefRec := theDefs[1]'(by rw [defs_len]; decide)
theorem sk_all : lookS ("addr" : Str) rStrip.scope.names = some .local ∧ lookS ("start" : Str) rStrip.scope.names = some .local ∧ lookS ("open_pos" : Str) rStrip.scope.names = some .local ∧ lookS ("result" : Str) rStrip.scope.names = some .local ∧ lookS ("pos" : Str) rStrip.scope.names = some .local ∧ lookS ("ch" : Str) rStrip.scope.names = some .local ∧
    lookS ("len" : Str) rStrip.scope.names = some .globalImplicit ∧ lookS ("_iter_escaped_chars" : Str) rStrip.scope.names = some .globalImplicit := by decide +kernel
structure StripKinds (K : List (Str × NameKind)) : Prop where
  kaddr : K.lookup ("addr" : Str) = some .local
  kstart : K.lookup ("start" : Str) = some .local
  kopen : K.lookup ("open_pos" : Str) = some .local
  kres : K.lookup ("result" : Str) = some .local
  kpos : K.lookup ("pos" : Str) = some .local
  kch : K.lookup ("ch" : Str) = some .local
  klen : K.lookup ("len" : Str) = some .globalImplicit
  kiter : K.lookup ("_iter_escaped_chars" : Str) = some .globalImplicit
theorem sk' : StripKinds rStrip.scope.names := by
  have h := sk_all
  simp only [lookS_eq] at h
  obtain ⟨h1, h2, h3, h4, h5, h6, h7, h8⟩ := h
  exact ⟨h1, h2, h3, h4, h5, h6, h7, h8⟩
theorem lit_quote : ("\"" : Str) = sw [34] := by decide +kernel

/-- without a quote: the text itself -/
theorem strip_plain {k : Nat} {s : List Nat} (hl : s.length ≤ 256) (hq : 34 ∉ s) : callF theDefs (k + 1) ("_strip_quoted_realnames" : Str) [.str (sw s)] = some (.str (sw s)) := by
  refine call_runE (r := rStrip) (by decide) (by rfl) (by decide +kernel) (by rfl) ?_
  have K := sk'
  show Ends _ (exs (callF theDefs k) genF 40 (.If (.Compare (.Constant (.str "\"") 0 _) [.NotIn] [.Name "addr" _] _) [.Return (some (.Name "addr" _)) _] [] _ :: _) { kinds := rStrip.scope.names, val := [("addr", .str (sw s))], tok := [], lit := false })
  have ha : ({ kinds := rStrip.scope.names, val := [("addr", .str (sw s))], tok := [], lit := false } : ME).val.lookup ("addr" : Str) = some (.str (sw s)) := by rfl
  refine ⟨_, d_stop (d_if (d := true) (d_trcmp (d_cmp (a := .str ("\"" : Str)) (b := .str (sw s)) (d_const (by show (false || plainC _) = true; decide +kernel) rfl) (d_name K.kaddr (by decide) ha (.inl rfl)) ?_)) (d_stop (d_ret (v := .str (sw s)) (d_name K.kaddr (by decide) ha (.inl rfl)) (.inl ⟨_, rfl⟩))))⟩
  show (if _ then some (!Txt.contains (sw s) ("\"" : Str)) else none) = _
  rw [if_pos, lit_quote]
  · have h := StrLaws.found_one (sw s) 34
    show some (!(!(occurrences (sw s) (sw [34]) 0 (sw s).length 1).isEmpty)) = _
    rw [show (sw [34]) = ⟨#[34]⟩ from rfl, h]
    rw [decide_eq_false (by simpa [sw] using hq)]; rfl
  · simp only [Bool.and_eq_true, decide_eq_true_eq, sw_length]
    exact ⟨by decide +kernel, by show _ ≤ 4096; omega⟩

/-- one turn: where the open quote stands, and what was kept -/
noncomputable def stripI (x : Str) : List (Int × List Nat) → Int → Option Int → List Str → Option (Int × List Str)
  | [], st, _, res => some (st, res)
  | (i, z) :: r, st, o, res =>
    if z = [34] then
      (match o with
      | none => stripI x r st (some i) res
      | some j => if st = j then stripI x r (i + 1) none res else if small (some st) && small (some j) && decide (res.length < 60) then stripI x r (i + 1) none (res ++ [Txt.slice x (some st) (some j)]) else none)
    else stripI x r st o res
noncomputable def openA : Option Int → Atm
  | none => .none
  | some i => .int i
noncomputable def stripLoop : List Stmt := loopOf (rStrip.body.getD 4 (.Break default))
structure SM (x : Str) (m : ME) (st : Int) (o : Option Int) (res : List Str) : Prop where
  k : m.kinds = rStrip.scope.names
  lit : m.lit = false
  a : m.val.lookup ("addr" : Str) = some (.str x)
  st : m.val.lookup ("start" : Str) = some (.int st)
  o : m.val.lookup ("open_pos" : Str) = some (.at (openA o))
  r : m.val.lookup ("result" : Str) = some (.list (res.map .str))
  own : m.own.contains ("result" : Str) = true
theorem slice_str {x : Str} {i j : Option Int} (hx : x.length ≤ 4096) (hi : small i = true) (hj : small j = true) : slice (.str x) i j = some (.str (Txt.slice x i j)) := by
  show (if (small i && small j) = true then (if x.length ≤ sizeCap then some (V.str (Txt.slice x i j)) else none) else none) = _
  rw [hi, hj, if_pos (show (true && true) = true from rfl)]
  exact if_pos hx
theorem d_slice2 {e f g : Expr} {o : V} {i j : Int} {ps : Pos} (hv : ev call n e m = some o) (hi : ev call n f m = some (.int i)) (hj : ev call n g m = some (.int j)) (h : slice o (some i) (some j) = some c) :
    ev call (n + 1) (.Subscript e (.Slice (some f) (some g) none ps) p) m = some c := by
  show evSlice (ev call n e m) (evPart (fun e => ev call n e m) (some f)) (evPart (fun e => ev call n e m) (some g)) = _
  rw [hv, part_some hi, part_some hj]
  exact h
theorem strip_turn {X : Str} (hX : X.length ≤ 256) {st : Int} {o : Option Int} {res : List Str} {x : Int × List Nat} (S : SM X m st o res) {t1 t2 t3 : Pos} {l : Nat} :
    ∀ (Z : Option (Fl × ME) → Prop), (if x.2 = [34] then (match o with
      | none => ∀ m', SM X m' st (some x.1) res → Z (some (.next, m'))
      | some j => if st = j then ∀ m', SM X m' (x.1 + 1) none res → Z (some (.next, m')) else (small (some st) && small (some j) && decide (res.length < 60)) = true ∧ ∀ m', SM X m' (x.1 + 1) none (res ++ [Txt.slice X (some st) (some j)]) → Z (some (.next, m')))
      else ∀ m', SM X m' st o res → Z (some (.next, m'))) →
      Z ((bindTgt (.Tuple [.Name ("pos" : Str) t1, .Name ("ch" : Str) t2] l t3) (itemV x) m).bind fun m' => exs call gen (n + 20) stripLoop m') := by
  intro Z hZ
  have K : StripKinds m.kinds := by rw [S.k]; exact sk'
  have hbt : bindTgt (.Tuple [.Name ("pos" : Str) t1, .Name ("ch" : Str) t2] l t3) (itemV x) m = some ((m.set ("pos" : Str) (.int x.1) false).set ("ch" : Str) (.str (sw x.2)) false) := bt_pair K.kpos K.kch
  rw [hbt, Option.bind_some]
  have S1 : SM X ((m.set ("pos" : Str) (.int x.1) false).set ("ch" : Str) (.str (sw x.2)) false) st o res := ⟨S.k, S.lit, set_oth (by decide) (set_oth (by decide) S.a), set_oth (by decide) (set_oth (by decide) S.st), set_oth (by decide) (set_oth (by decide) S.o), set_oth (by decide) (set_oth (by decide) S.r), set_own (by decide) (set_own (by decide) S.own)⟩
  have hch : ((m.set ("pos" : Str) (.int x.1) false).set ("ch" : Str) (.str (sw x.2)) false).val.lookup ("ch" : Str) = some (.str (sw x.2)) := set_self
  have hpos : ((m.set ("pos" : Str) (.int x.1) false).set ("ch" : Str) (.str (sw x.2)) false).val.lookup ("pos" : Str) = some (.int x.1) := set_oth (by decide) set_self
  generalize (m.set ("pos" : Str) (.int x.1) false).set ("ch" : Str) (.str (sw x.2)) false = m1 at *
  have K : StripKinds m1.kinds := by rw [S1.k]; exact sk'
  show Z (exs call gen (n + 20) [.If (.Compare (.Name "ch" _) [.Eq] [.Constant (.str "\"") 0 _] _) [.If (.Compare (.Name "open_pos" _) [.Is] [.Constant .none 0 _] _) [.Assign [.Name "open_pos" _] (.Name "pos" _) _]
    [.If (.Compare (.Name "start" _) [.NotEq] [.Name "open_pos" _] _) [.Expr (.Call (.Attribute (.Name "result" _) "append" _) [.Subscript (.Name "addr" _) (.Slice (some (.Name "start" _)) (some (.Name "open_pos" _)) none _) _] [] _) _] [] _, .Assign [.Name "start" _] (.BinOp (.Name "pos" _) .Add (.Constant (.int 1) 0 _) _) _, .Assign [.Name "open_pos" _] (.Constant .none 0 _) _] _] [] _] m1)
  have t1 : ∀ {n : Nat} {q1 q2 q3 : Pos}, tr call (n + 3) (.Compare (.Name "ch" q1) [.Eq] [.Constant (.str "\"") 0 q2] q3) m1 = some (decide (x.2 = [34])) := fun {n q1 q2 q3} => d_trcmp (d_cmp (a := .str (sw x.2)) (b := .str ("\"" : Str)) (d_name K.kch (by decide) hch (.inl rfl)) (d_const (by rw [S1.lit]; decide +kernel) rfl) (by show some (sw x.2 == ("\"" : Str)) = _; rw [lit_quote, sw_eq]))
  by_cases h34 : x.2 = [34]
  · rw [if_pos h34] at hZ
    rw [decide_eq_true h34] at t1
    cases o with
    | none =>
      have t2 : ∀ {n : Nat} {q1 q2 q3 : Pos}, tr call (n + 3) (.Compare (.Name "open_pos" q1) [.Is] [.Constant .none 0 q2] q3) m1 = some true := fun {n q1 q2 q3} => d_trcmp (d_cmp (a := .at .none) (b := .at .none) (d_name K.kopen (by decide) S1.o (.inl rfl)) (d_const (k := .none) (by rw [S1.lit]; rfl) rfl) rfl)
      exact Eq.subst (motive := Z) (Eq.symm (d_next (d_if t1 (d_next (d_if t2 (d_next (d_assign (v := .int x.1) K.kopen (.inl rfl) (d_name K.kpos (by decide) hpos (.inl rfl)) rfl rfl (.inl rfl)) d_nil)) d_nil)) d_nil))
        (hZ _ ⟨S1.k, S1.lit, set_oth (by decide) S1.a, set_oth (by decide) S1.st, set_self, set_oth (by decide) S1.r, set_own (by decide) S1.own⟩)
    | some j =>
      have t2 : ∀ {n : Nat} {q1 q2 q3 : Pos}, tr call (n + 3) (.Compare (.Name "open_pos" q1) [.Is] [.Constant .none 0 q2] q3) m1 = some false := fun {n q1 q2 q3} => d_trcmp (d_cmp (a := .int j) (b := .at .none) (d_name K.kopen (by decide) S1.o (.inl rfl)) (d_const (k := .none) (by rw [S1.lit]; rfl) rfl) rfl)
      have t3 : ∀ {n : Nat} {q1 q2 q3 : Pos}, tr call (n + 3) (.Compare (.Name "start" q1) [.NotEq] [.Name "open_pos" q2] q3) m1 = some (!decide (st = j)) := fun {n q1 q2 q3} => d_trcmp (d_cmp (a := .int st) (b := .int j) (d_name K.kstart (by decide) S1.st (.inl rfl)) (d_name K.kopen (by decide) S1.o (.inl rfl)) (by show some (!(st == j)) = _; congr 2))
      have fin : ∀ {m2 : ME} {R : List Str}, SM X m2 st (some j) R → SM X ((m2.set ("start" : Str) (.int (x.1 + 1)) false).set ("open_pos" : Str) (.at .none) false) (x.1 + 1) none R := fun S2 =>
        ⟨S2.k, S2.lit, set_oth (by decide) (set_oth (by decide) S2.a), set_oth (by decide) set_self, set_self, set_oth (by decide) (set_oth (by decide) S2.r), set_own (by decide) (set_own (by decide) S2.own)⟩
      have kinds : ∀ {m2 : ME} {R : List Str}, SM X m2 st (some j) R → StripKinds m2.kinds := fun S2 => by rw [S2.k]; exact sk'
      by_cases hj : st = j
      · dsimp only at hZ
        rw [if_pos hj] at hZ
        rw [decide_eq_true hj] at t3
        exact Eq.subst (motive := Z) (Eq.symm (d_next (d_if t1 (d_next (d_if t2 (d_next (d_if t3 d_nil) (d_next (d_assign (v := .int (x.1 + 1)) K.kstart (.inl rfl) (d_bin (a := .int x.1) (b := .int 1) (d_name K.kpos (by decide) hpos (.inl rfl)) (d_const (by rw [S1.lit]; rfl) rfl) rfl) rfl rfl (.inl rfl))
          (d_next (d_assign (v := .at .none) K.kopen (.inl rfl) (d_const (k := .none) (by show (m1.lit || _) = true; rw [S1.lit]; rfl) rfl) rfl rfl (.inl rfl)) d_nil)))) d_nil)) d_nil)) (hZ _ (fin S1))
      · dsimp only at hZ
        rw [if_neg hj] at hZ
        rw [decide_eq_false hj] at t3
        obtain ⟨hsm, hZ⟩ := hZ
        simp only [Bool.and_eq_true, decide_eq_true_eq] at hsm
        have S2 : SM X (m1.set ("result" : Str) (.list (res.map .str ++ [.str (Txt.slice X (some st) (some j))])) true) st (some j) (res ++ [Txt.slice X (some st) (some j)]) :=
          ⟨S1.k, S1.lit, set_oth (by decide) S1.a, set_oth (by decide) S1.st, set_oth (by decide) S1.o, by rw [set_self, List.map_append]; rfl, set_own_self⟩
        have hpos2 : (m1.set ("result" : Str) (.list (res.map .str ++ [.str (Txt.slice X (some st) (some j))])) true).val.lookup ("pos" : Str) = some (.int x.1) := set_oth (by decide) hpos
        have ap : ∀ {n : Nat} {q1 q2 q3 q4 q5 q6 q7 q8 q9 : Pos}, (q2.endLine == q8.line) = true → ex call gen (n + 4) (.Expr (.Call (.Attribute (.Name "result" q1) "append" q2) [.Subscript (.Name "addr" q3) (.Slice (some (.Name "start" q4)) (some (.Name "open_pos" q5)) none q6) q7] [] q8) q9) m1 = some (.next, m1.set ("result" : Str) (.list (res.map .str ++ [.str (Txt.slice X (some st) (some j))])) true) :=
          fun hq => d_append (l := res.map .str) (x := .str (Txt.slice X (some st) (some j))) hq (by decide) K.kres S1.own S1.r (d_slice2 (o := .str X) (i := st) (j := j) (d_name K.kaddr (by decide) S1.a (.inl rfl)) (d_name K.kstart (by decide) S1.st (.inl rfl)) (d_name K.kopen (by decide) S1.o (.inl rfl)) (slice_str (by omega) hsm.1.1 hsm.1.2)) (by rw [List.length_map]; omega)
        have K2 := kinds S2
        have l2 := S2.lit
        exact Eq.subst (motive := Z) (Eq.symm (d_next (d_if t1 (d_next (d_if t2 (d_next (d_if t3 (d_next (ap rfl) d_nil)) (d_next (d_assign (v := .int (x.1 + 1)) K2.kstart (.inl rfl) (d_bin (a := .int x.1) (b := .int 1) (d_name K2.kpos (by decide) hpos2 (.inl rfl)) (d_const (by rw [l2]; rfl) rfl) rfl) rfl rfl (.inl rfl))
          (d_next (d_assign (v := .at .none) K2.kopen (.inl rfl) (d_const (k := .none) (by show (m1.lit || _) = true; rw [S1.lit]; rfl) rfl) rfl rfl (.inl rfl)) d_nil)))) d_nil)) d_nil)) (hZ _ (fin S2))
  · rw [if_neg h34] at hZ
    rw [decide_eq_false h34] at t1
    exact Eq.subst (motive := Z) (Eq.symm (d_next (d_if t1 d_nil) d_nil)) (hZ _ S1)
end Mine
end
section
open PySem PySem.W PyProof.Rows PySem.Calls Builtin.Str
set_option backward.match.sparseCases false
set_option maxRecDepth 100000
namespace Mine
variable {call : CallT} {gen : GenT} {n : Nat} {m m' m'' : ME} {a b c v : V} {p q : Pos}

theorem strip_loop {X : Str} (hX : X.length ≤ 256) {t1 t2 t3 : Pos} {l : Nat} : ∀ (L : List (Int × List Nat)) (m : ME) (st : Int) (o : Option Int) (res : List Str), SM X m st o res → ∀ st' res', stripI X L st o res = some (st', res') →
    Goes (fun m' => ∃ o', SM X m' st' o' res') (forM (fun v m => (bindTgt (.Tuple [.Name ("pos" : Str) t1, .Name ("ch" : Str) t2] l t3) v m).bind fun m' => exs call gen (n + 20) stripLoop m') (L.map itemV) true m)
  | [], m, st, o, res, S, st', res', h => by cases h; exact ⟨m, rfl, o, S⟩
  | x :: r, m, st, o, res, S, st', res', h => by
    have T := strip_turn (n := n) (gen := gen) (call := call) (x := x) hX S (t1 := t1) (t2 := t2) (t3 := t3) (l := l) (fun z =>
      Goes (fun m' => ∃ o', SM X m' st' o' res') (z.bind fun q => turnK (fun m' => forM (fun v m => (bindTgt (.Tuple [.Name ("pos" : Str) t1, .Name ("ch" : Str) t2] l t3) v m).bind fun m' => exs call gen (n + 20) stripLoop m') (r.map itemV) true m') q.2 q.1))
    refine T ?_
    obtain ⟨i, z⟩ := x
    unfold stripI at h
    by_cases h34 : z = [34]
    · rw [if_pos h34] at h
      rw [if_pos h34]
      cases o with
      | none => exact fun m' S' => strip_loop hX r m' _ _ _ S' st' res' h
      | some j =>
        dsimp only at h ⊢
        by_cases hj : st = j
        · rw [if_pos hj] at h ⊢
          exact fun m' S' => strip_loop hX r m' _ _ _ S' st' res' h
        · rw [if_neg hj] at h ⊢
          split at h
          · rename_i hc
            exact ⟨hc, fun m' S' => strip_loop hX r m' _ _ _ S' st' res' h⟩
          · cases h
    · rw [if_neg h34] at h ⊢
      exact fun m' S' => strip_loop hX r m' _ _ _ S' st' res' h
noncomputable def endR (s : List Nat) (st : Int) (res : List Str) : List Str := if st < s.length then res ++ [Txt.slice (sw s) (some st) none] else res
/-- what is left without the quoted parts -/
noncomputable def stripF (s : List Nat) : Option Str := match stripI (sw s) (escsN s 0 false 0) 0 none [] with
  | some (st, res) =>
    if small (some st) && decide (res.length < 60) && (endR s st res).all (fun y => decide (y.length ≤ 64)) then some (Txt.join ("" : Str) (endR s st res)) else none
  | none => none
theorem strs_of : ∀ l : List Str, strsOf (l.map Atm.str) = some l
  | [] => rfl
  | x :: r => congrArg (Option.map (x :: ·)) (strs_of r)
theorem meth_joinS {l : List Str} (h1 : l.length ≤ 64) (h2 : l.all (fun y => decide (y.length ≤ 64)) = true) : meth ("join" : Str) (.str ("" : Str)) [.list (l.map .str)] = some (.str (Txt.join ("" : Str) l)) := by
  show methL ("join" : Str) ("" : Str) (l.map .str) = _
  unfold methL
  rw [if_pos (by decide), strs_of]
  exact if_pos (by rw [h2, decide_eq_true h1]; decide +kernel)
theorem d_sliceF {e f : Expr} {o : V} {i : Int} {ps : Pos} (hv : ev call n e m = some o) (hi : ev call n f m = some (.int i)) (h : slice o (some i) none = some c) :
    ev call (n + 1) (.Subscript e (.Slice (some f) none none ps) p) m = some c := by
  show evSlice (ev call n e m) (evPart (fun e => ev call n e m) (some f)) (some none) = _
  rw [hv, part_some hi]
  exact h
theorem len_str {x : Str} (h : x.length ≤ 4096) : builtin1 ("len" : Str) (.str x) = some (.int (x.length : Int)) := by
  show (capN x.length).map (fun (n : Nat) => V.int (n : Int)) = _
  rw [show capN x.length = some x.length from if_pos h]; rfl
theorem strip_run {k : Nat} {s : List Nat} {r : Str} (hl : s.length ≤ 256) (hq : 34 ∈ s) (h : stripF s = some r) : callF theDefs (k + 1) ("_strip_quoted_realnames" : Str) [.str (sw s)] = some (.str r) := by
  unfold stripF at h
  split at h
  case h_2 => cases h
  rename_i st res hst
  split at h
  case isFalse => cases h
  rename_i hc
  cases h
  simp only [Bool.and_eq_true, decide_eq_true_eq] at hc
  obtain ⟨⟨hc1, hc2⟩, hc3⟩ := hc
  refine call_runE (r := rStrip) (by decide) (by rfl) (by decide +kernel) (by rfl) ?_
  have K := sk'
  show Ends _ (exs (callF theDefs k) genF 40 [.If (.Compare (.Constant (.str "\"") 0 _) [.NotIn] [.Name "addr" _] _) _ [] _, .Assign [.Name "start" _] (.Constant (.int 0) 0 _) _, .Assign [.Name "open_pos" _] (.Constant .none 0 _) _, .Assign [.Name "result" _] (.List [] _) _,
    .For (.Tuple [.Name "pos" _, .Name "ch" _] _ _) (.Call (.Name "_iter_escaped_chars" _) [.Name "addr" _] [] _) stripLoop [] _, .If (.Compare (.Name "start" _) [.Lt] [.Call (.Name "len" _) [.Name "addr" _] [] _] _) [.Expr (.Call (.Attribute (.Name "result" _) "append" _) [.Subscript (.Name "addr" _) (.Slice (some (.Name "start" _)) none none _) _] [] _) _] [] _,
    .Return (some (.Call (.Attribute (.Constant (.str "") 0 _) "join" _) [.Name "result" _] [] _)) _] { kinds := rStrip.scope.names, val := [("addr", .str (sw s))], tok := [], lit := false })
  have ha : ({ kinds := rStrip.scope.names, val := [("addr", .str (sw s))], tok := [], lit := false } : ME).val.lookup ("addr" : Str) = some (.str (sw s)) := by rfl
  have hk0 : ({ kinds := rStrip.scope.names, val := [("addr", .str (sw s))], tok := [], lit := false } : ME).kinds = rStrip.scope.names := rfl
  have hl0 : ({ kinds := rStrip.scope.names, val := [("addr", .str (sw s))], tok := [], lit := false } : ME).lit = false := rfl
  generalize ({ kinds := rStrip.scope.names, val := [("addr", .str (sw s))], tok := [], lit := false } : ME) = m at *
  rw [← hk0] at K
  refine d_step (m' := m) (z := Ends _) (d_if (d := false) (d_trcmp (d_cmp (a := .str ("\"" : Str)) (b := .str (sw s)) (d_const (by rw [hl0]; decide +kernel) rfl) (d_name K.kaddr (by decide) ha (.inl rfl)) ?_)) d_nil) ?_
  · show (if _ then some (!Txt.contains (sw s) ("\"" : Str)) else none) = _
    rw [if_pos, lit_quote]
    · show some (!(!(occurrences (sw s) (sw [34]) 0 (sw s).length 1).isEmpty)) = _
      rw [show (sw [34]) = ⟨#[34]⟩ from rfl, StrLaws.found_one (sw s) 34, decide_eq_true (by simpa [sw] using hq)]; rfl
    · simp only [Bool.and_eq_true, decide_eq_true_eq, sw_length]
      exact ⟨by decide +kernel, by show _ ≤ 4096; omega⟩
  refine d_step (m' := m.set ("start" : Str) (.int 0) false) (z := Ends _) (d_assign (v := .int 0) K.kstart (.inl rfl) (d_const (by rw [hl0]; rfl) rfl) rfl rfl (.inl rfl)) ?_
  refine d_step (m' := (m.set ("start" : Str) (.int 0) false).set ("open_pos" : Str) (.at .none) false) (z := Ends _) (d_assign (v := .at .none) K.kopen (.inl rfl) (d_const (k := .none) (by show (m.lit || _) = true; rw [hl0]; rfl) rfl) rfl rfl (.inl rfl)) ?_
  refine d_step (m' := ((m.set ("start" : Str) (.int 0) false).set ("open_pos" : Str) (.at .none) false).set ("result" : Str) (.list []) true) (z := Ends _) (d_assign (v := .list []) K.kres (.inl rfl) (d_list s_nil (by simp)) rfl rfl (.inr rfl)) ?_
  have S : SM (sw s) (((m.set ("start" : Str) (.int 0) false).set ("open_pos" : Str) (.at .none) false).set ("result" : Str) (.list []) true) 0 none [] :=
    ⟨hk0, hl0, set_oth (by decide) (set_oth (by decide) (set_oth (by decide) ha)), set_oth (by decide) (set_oth (by decide) set_self), set_oth (by decide) set_self, set_self, set_own_self⟩
  generalize ((m.set ("start" : Str) (.int 0) false).set ("open_pos" : Str) (.at .none) false).set ("result" : Str) (.list []) true = m1 at *
  have K1 : StripKinds m1.kinds := by rw [S.k]; exact sk'
  have S' : SM (sw s) ({ m1 with own := unique ("addr" : Str) m1.own } : ME) 0 none [] := ⟨S.k, S.lit, S.a, S.st, S.o, S.r, unique_has (by decide) S.own⟩
  obtain ⟨m2, e, o', S2⟩ := strip_loop (n := 14) (gen := genF) (call := callF theDefs k) (t1 := ⟨21, 8, 21, 11⟩) (t2 := ⟨21, 13, 21, 15⟩) (t3 := ⟨21, 8, 21, 15⟩) (l := 0) (by rw [sw_length]; exact hl) (escsN s 0 false 0) _ 0 none [] S' st res hst
  refine d_step (m' := m2) (z := Ends _) (d_forGen (v := .str (sw s)) K1.kiter (by decide) rfl (d_name K1.kaddr (by decide) S.a (.inl rfl)) (gen_items hl) e) ?_
  have K2 : StripKinds m2.kinds := by rw [S2.k]; exact sk'
  have ht : ∀ {n : Nat} {q1 q2 q3 q4 q5 : Pos}, tr (callF theDefs k) (n + 5) (.Compare (.Name "start" q1) [.Lt] [.Call (.Name "len" q2) [.Name "addr" q3] [] q4] q5) m2 = some (decide (st < s.length)) := fun {n q1 q2 q3 q4 q5} =>
    d_trcmp (d_cmp (a := .int st) (b := .int (s.length : Int)) (d_name K2.kstart (by decide) S2.st (.inl rfl)) (d_builtin (a := .str (sw s)) K2.klen (by decide) (by rw [S2.lit]; decide +kernel) (s_cons (d_name K2.kaddr (by decide) S2.a (.inl rfl)) s_nil) (by decide) (by rw [len_str (by rw [sw_length]; omega), sw_length])) rfl)
  by_cases hlt : st < s.length
  · have hE : endR s st res = res ++ [Txt.slice (sw s) (some st) none] := if_pos hlt
    rw [hE] at hc3 ⊢
    rw [decide_eq_true hlt] at ht
    have hr3 : (m2.set ("result" : Str) (.list (res.map .str ++ [.str (Txt.slice (sw s) (some st) none)])) true).val.lookup ("result" : Str) = some (.list ((res ++ [Txt.slice (sw s) (some st) none]).map .str)) := by rw [set_self, List.map_append]; rfl
    refine d_step (m' := m2.set ("result" : Str) (.list (res.map .str ++ [.str (Txt.slice (sw s) (some st) none)])) true) (z := Ends _) (d_if ht (d_next (d_append (l := res.map .str) (x := .str (Txt.slice (sw s) (some st) none)) rfl (by decide) K2.kres S2.own S2.r (d_sliceF (o := .str (sw s)) (i := st) (d_name K2.kaddr (by decide) S2.a (.inl rfl)) (d_name K2.kstart (by decide) S2.st (.inl rfl)) (slice_str (by rw [sw_length]; omega) hc1 rfl)) (by rw [List.length_map]; omega)) d_nil)) ?_
    exact ⟨_, d_stop (d_ret (d_meth1 (ov := .str ("" : Str)) (av := .list ((res ++ [Txt.slice (sw s) (some st) none]).map .str)) (d_const (by show (m2.lit || _) = true; rw [S2.lit]; decide +kernel) rfl) (d_name K2.kres (by decide) hr3 (.inl rfl)) rfl rfl (meth_joinS (by rw [List.length_append]; simp; omega) hc3)) (.inl ⟨_, rfl⟩))⟩
  · have hE : endR s st res = res := if_neg hlt
    rw [hE] at hc3 ⊢
    rw [decide_eq_false hlt] at ht
    refine d_step (m' := m2) (z := Ends _) (d_if ht d_nil) ?_
    exact ⟨_, d_stop (d_ret (d_meth1 (ov := .str ("" : Str)) (av := .list (res.map .str)) (d_const (by rw [S2.lit]; decide +kernel) rfl) (d_name K2.kres (by decide) S2.r (.inl rfl)) rfl rfl (meth_joinS (by omega) hc3)) (.inl ⟨_, rfl⟩))⟩
end Mine
end
section
open PySem PySem.W PyProof.Rows PySem.Calls Builtin.Str
set_option backward.match.sparseCases false
set_option maxRecDepth 100000
namespace Mine
variable {call : CallT} {gen : GenT} {n : Nat} {m m' m'' : ME} {a b c v : V} {p q : Pos}

theorem sw_toList (x : Str) : sw x.cps.toList = x := by cases x; simp [sw]
theorem d_replace {o l r : Expr} {x : Str} {pa pb ap : Pos} {s y z u : Str} (ht : m.tok.contains x = true) (hk : m.kinds.lookup x = some .local) (hn : notSuper o = true) (hp : (ap.endLine == p.line) = true) (hne : ∀ k1 k2 v1 v2 p, o = .Dict [some k1, some k2] [v1, v2] p → False)
    (e1 : ev call n o m = some (.str s)) (e2 : ev call n (.Name x pa) m = some (.str y)) (e3 : ev call n l m = some (.str z)) (e4 : ev call n r m = some (.str u)) (h1 : y.length = 1) (h2 : s.length ≤ 256) (h3 : z.length + u.length ≤ 8) (h4 : 1 ≤ z.length) (h5 : 1 ≤ u.length) :
    ev call (n + 1) (.Call (.Attribute o ("replace" : Str) ap) [.Name x pa, .BinOp l .Add r pb] [] p) m = some (.str (Txt.replace s y (z ++ u))) := by
  have h0 : (("replace" : Str) == ("replace" : Str)) = true := by simp
  have hg : (("replace" : Str) == ("get" : Str)) = false := by decide
  show (if ap.endLine == p.line then evAttr (fun e => ev call n e m) o ("replace" : Str) [.Name x pa, .BinOp l .Add r pb] m else none) = _
  rw [if_pos hp]
  unfold evAttr
  rw [hg, h0, if_neg (by decide), if_pos rfl, if_pos hn]
  show (if (true && m.tok.contains x && m.kinds.lookup x == some .local) = true then evRep (ev call n o m) (ev call n (.Name x pa) m) (ev call n l m) (ev call n r m) else none) = _
  rw [if_pos (by rw [ht, hk]; rfl), e1, e2, e3, e4]
  exact if_pos (by simp [h1, h2, h3, h4, h5])
noncomputable def rHid : DefRec := theDefs[7]'(by rw [defs_len]; decide)
theorem hk_all : lookS ("text" : Str) rHid.scope.names = some .local ∧ lookS ("first" : Str) rHid.scope.names = some .local ∧ lookS ("second" : Str) rHid.scope.names = some .local ∧ lookS ("hidden" : Str) rHid.scope.names = some .local ∧ lookS ("_check_parenthesis" : Str) rHid.scope.names = some .globalImplicit := by decide +kernel
structure HidKinds (K : List (Str × NameKind)) : Prop where
  ktext : K.lookup ("text" : Str) = some .local
  kfirst : K.lookup ("first" : Str) = some .local
  ksecond : K.lookup ("second" : Str) = some .local
  khidden : K.lookup ("hidden" : Str) = some .local
  kchk : K.lookup ("_check_parenthesis" : Str) = some .globalImplicit
theorem hidKinds : HidKinds rHid.scope.names := by
  have h := hk_all
  simp only [lookS_eq] at h
  obtain ⟨h1, h2, h3, h4, h5⟩ := h
  exact ⟨h1, h2, h3, h4, h5⟩

noncomputable def hidA (T : List Nat) (x : Nat) : Str := replaceQ (sw T) (sw [x]) (sw [34, 41, 34] ++ sw [x])
noncomputable def hidH (T : List Nat) (x y : Nat) : Str := replaceQ (hidA T x) (sw [y]) (sw [92, 41] ++ sw [y])
noncomputable def hidB (T : List Nat) (x : Nat) : Str := replaceQ (sw T) (sw [x]) (sw [x] ++ sw [41])
noncomputable def hidC (T : List Nat) : Str := Txt.slice (sw T) (some 1) none ++ sw [40]
noncomputable def plainOk (s : Str) (d : Bool) : Bool := decide (s.length ≤ 256) && (!s.cps.toList.contains 34 && chkF s.cps.toList == d)
noncomputable def hidOk (T : List Nat) (x y : Nat) : Bool :=
  decide (T.length ≤ 256) && (decide ((hidA T x).length ≤ 256) && (decide ((hidH T x y).length ≤ 256) && ((hidH T x y).cps.toList.contains 34 && ((match stripF (hidH T x y).cps.toList with | some r => decide (r.length ≤ 256) && chkF r.cps.toList | none => false) && (plainOk (hidB T x) false && plainOk (hidC T) false)))))
theorem check_plain {k : Nat} {s : Str} {d : Bool} (h : plainOk s d = true) : callF theDefs (k + 2) ("_check_parenthesis" : Str) [.str s] = some (.bool d) := by
  simp only [plainOk, Bool.and_eq_true, decide_eq_true_eq, Bool.not_eq_true', beq_iff_eq] at h
  obtain ⟨h1, h2, h3⟩ := h
  have hl : s.cps.toList.length ≤ 256 := by rw [Array.length_toList]; exact h1
  have hq : 34 ∉ s.cps.toList := fun hm => by rw [List.contains_iff_mem.mpr hm] at h2; cases h2
  have hs := strip_plain (k := k) hl hq
  rw [sw_toList] at hs
  have hs' : callF theDefs (k + 1) ("_strip_quoted_realnames" : Str) [.str s] = some (.str (sw s.cps.toList)) := by rw [sw_toList]; exact hs
  have := check_run (k := k + 1) hs' hl
  rw [h3] at this
  exact this
theorem hidden_run {k : Nat} {T : List Nat} {x y : Nat} (h : hidOk T x y = true) : callF theDefs (k + 3) ("_law_hidden_ones" : Str) [.str (sw T), .str (sw [x]), .str (sw [y])] = some (.bool true) := by
  simp only [hidOk, Bool.and_eq_true, decide_eq_true_eq] at h
  obtain ⟨h1, h2, h3, h4, h5, h6, h7⟩ := h
  have c1 : callF theDefs (k + 2) ("_check_parenthesis" : Str) [.str (hidH T x y)] = some (.bool true) := by
    cases hs : stripF (hidH T x y).cps.toList with
    | none => rw [hs] at h5; cases h5
    | some r =>
      rw [hs] at h5
      simp only [Bool.and_eq_true, decide_eq_true_eq] at h5
      have hr := strip_run (k := k) (s := (hidH T x y).cps.toList) (by rw [Array.length_toList]; exact h3) (List.contains_iff_mem.mp h4) hs
      rw [sw_toList] at hr
      have hr' : callF theDefs (k + 1) ("_strip_quoted_realnames" : Str) [.str (hidH T x y)] = some (.str (sw r.cps.toList)) := by rw [sw_toList]; exact hr
      have := check_run (k := k + 1) hr' (by rw [Array.length_toList]; exact h5.1)
      rw [h5.2] at this
      exact this
  have c2 := check_plain (k := k) h6
  have c3 := check_plain (k := k) h7
  refine call_runE (r := rHid) (by decide) (by rfl) (by decide +kernel) (by rfl) ?_
  have K := hidKinds
  show Ends _ (exs (callF theDefs (k + 2)) genF 40 [.Assign [.Name "hidden" _] (.Call (.Attribute (.Call (.Attribute (.Name "text" _) "replace" _) [.Name "first" _, .BinOp (.Constant (.str "\")\"") 0 _) .Add (.Name "first" _) _] [] _) "replace" _) [.Name "second" _, .BinOp (.Constant (.str "\\)") 0 _) .Add (.Name "second" _) _] [] _) _,
    .If (.Compare (.Call (.Name "_check_parenthesis" _) [.Name "hidden" _] [] _) [.IsNot] [.Constant (.bool true) 0 _] _) _ [] _, .If (.Compare (.Call (.Name "_check_parenthesis" _) [.Call (.Attribute (.Name "text" _) "replace" _) [.Name "first" _, .BinOp (.Name "first" _) .Add (.Constant (.str ")") 0 _) _] [] _] [] _) [.IsNot] [.Constant (.bool false) 0 _] _) _ [] _,
    .Return (some (.Compare (.Call (.Name "_check_parenthesis" _) [.BinOp (.Subscript (.Name "text" _) (.Slice (some (.Constant (.int 1) 0 _)) none none _) _) .Add (.Constant (.str "(") 0 _) _] [] _) [.Is] [.Constant (.bool false) 0 _] _)) _] { kinds := rHid.scope.names, val := [("text", .str (sw T)), ("first", .str (sw [x])), ("second", .str (sw [y]))], tok := ["first", "second"], lit := false })
  have g1 : ({ kinds := rHid.scope.names, val := [("text", .str (sw T)), ("first", .str (sw [x])), ("second", .str (sw [y]))], tok := ["first", "second"], lit := false } : ME).val.lookup ("text" : Str) = some (.str (sw T)) := by rfl
  have g2 : ({ kinds := rHid.scope.names, val := [("text", .str (sw T)), ("first", .str (sw [x])), ("second", .str (sw [y]))], tok := ["first", "second"], lit := false } : ME).val.lookup ("first" : Str) = some (.str (sw [x])) := by rfl
  have g3 : ({ kinds := rHid.scope.names, val := [("text", .str (sw T)), ("first", .str (sw [x])), ("second", .str (sw [y]))], tok := ["first", "second"], lit := false } : ME).val.lookup ("second" : Str) = some (.str (sw [y])) := by rfl
  have g4 : ({ kinds := rHid.scope.names, val := [("text", .str (sw T)), ("first", .str (sw [x])), ("second", .str (sw [y]))], tok := ["first", "second"], lit := false } : ME).kinds = rHid.scope.names := rfl
  have g5 : ({ kinds := rHid.scope.names, val := [("text", .str (sw T)), ("first", .str (sw [x])), ("second", .str (sw [y]))], tok := ["first", "second"], lit := false } : ME).lit = false := rfl
  have g6 : ({ kinds := rHid.scope.names, val := [("text", .str (sw T)), ("first", .str (sw [x])), ("second", .str (sw [y]))], tok := ["first", "second"], lit := false } : ME).tok = (["first", "second"] : List Str) := rfl
  generalize ({ kinds := rHid.scope.names, val := [("text", .str (sw T)), ("first", .str (sw [x])), ("second", .str (sw [y]))], tok := ["first", "second"], lit := false } : ME) = m at *
  rw [← g4] at K
  have l1 : ("\")\"" : Str) = sw [34, 41, 34] := by decide +kernel
  have l2 : ("\\)" : Str) = sw [92, 41] := by decide +kernel
  have cs : ∀ {m : ME} {n : Nat} {s : Str} {j : Nat} {q : Pos}, m.lit = false → plainStr s = true → ev (callF theDefs (k + 2)) (n + 1) (.Constant (.str s) j q) m = some (.str s) := fun {m n s j q} h hp => d_const (by rw [h]; exact hp) rfl
  have cb : ∀ {m : ME} {n : Nat} {b : Bool} {j : Nat} {q : Pos}, m.lit = false → ev (callF theDefs (k + 2)) (n + 1) (.Constant (.bool b) j q) m = some (.bool b) := fun {m n b j q} h => d_const (by rw [h]; rfl) rfl
  have tf : m.tok.contains ("first" : Str) = true := by rw [g6]; decide
  have ts : m.tok.contains ("second" : Str) = true := by rw [g6]; decide
  have eF : ∀ {n : Nat} {q : Pos}, ev (callF theDefs (k + 2)) (n + 1) (.Name "first" q) m = some (.str (sw [x])) := fun {n q} => d_name K.kfirst (by decide) g2 (.inl rfl)
  have eS : ∀ {n : Nat} {q : Pos}, ev (callF theDefs (k + 2)) (n + 1) (.Name "second" q) m = some (.str (sw [y])) := fun {n q} => d_name K.ksecond (by decide) g3 (.inl rfl)
  have eT : ∀ {n : Nat} {q : Pos}, ev (callF theDefs (k + 2)) (n + 1) (.Name "text" q) m = some (.str (sw T)) := fun {n q} => d_name K.ktext (by decide) g1 (.inl rfl)
  have s1 : ∀ {z : Nat}, (sw [z]).length = 1 := fun {z} => rfl
  have e1 : Txt.replace (sw T) (sw [x]) (("\")\"" : Str) ++ sw [x]) = hidA T x := by rw [l1]; exact (replaceQ_eq _ _ _).symm
  have e2 : Txt.replace (hidA T x) (sw [y]) (("\\)" : Str) ++ sw [y]) = hidH T x y := by rw [l2]; exact (replaceQ_eq _ _ _).symm
  have e3 : Txt.replace (sw T) (sw [x]) (sw [x] ++ (")" : Str)) = hidB T x := by rw [lit_close]; exact (replaceQ_eq _ _ _).symm
  have len1 : ("\")\"" : Str).length = 3 := by rw [l1]; rfl
  have len2 : ("\\)" : Str).length = 2 := by rw [l2]; rfl
  have len3 : (")" : Str).length = 1 := by rw [lit_close]; rfl
  refine d_step (m' := m.set ("hidden" : Str) (.str (hidH T x y)) false) (z := Ends _) (d_assign (v := .str (hidH T x y)) K.khidden (.inl rfl) ?_ rfl rfl (.inl rfl)) ?_
  · rw [← e2]
    refine d_replace ts K.ksecond rfl rfl (by intro _ _ _ _ _ h; cases h) ?_ eS (cs g5 (by decide +kernel)) eS s1 h2 (by rw [len2, s1]; decide) (by rw [len2]; decide) (by rw [s1]; decide)
    rw [← e1]
    exact d_replace tf K.kfirst rfl rfl (by intro _ _ _ _ _ h; cases h) eT eF (cs g5 (by decide +kernel)) eF s1 (by rw [sw_length]; exact h1) (by rw [len1, s1]; decide) (by rw [len1]; decide) (by rw [s1]; decide)
  have f1 : (m.set ("hidden" : Str) (.str (hidH T x y)) false).val.lookup ("hidden" : Str) = some (.str (hidH T x y)) := set_self
  have f2 : (m.set ("hidden" : Str) (.str (hidH T x y)) false).val.lookup ("text" : Str) = some (.str (sw T)) := set_oth (by decide) g1
  have f3 : (m.set ("hidden" : Str) (.str (hidH T x y)) false).val.lookup ("first" : Str) = some (.str (sw [x])) := set_oth (by decide) g2
  have f5 : (m.set ("hidden" : Str) (.str (hidH T x y)) false).lit = false := g5
  have f6 : (m.set ("hidden" : Str) (.str (hidH T x y)) false).tok.contains ("first" : Str) = true := unique_has (by decide) tf
  have K1 : HidKinds (m.set ("hidden" : Str) (.str (hidH T x y)) false).kinds := K
  clear eF eS eT tf ts
  generalize m.set ("hidden" : Str) (.str (hidH T x y)) false = m1 at *
  have eF : ∀ {n : Nat} {q : Pos}, ev (callF theDefs (k + 2)) (n + 1) (.Name "first" q) m1 = some (.str (sw [x])) := fun {n q} => d_name K1.kfirst (by decide) f3 (.inl rfl)
  have eT : ∀ {n : Nat} {q : Pos}, ev (callF theDefs (k + 2)) (n + 1) (.Name "text" q) m1 = some (.str (sw T)) := fun {n q} => d_name K1.ktext (by decide) f2 (.inl rfl)
  refine d_step (m' := m1) (z := Ends _) (d_if (d := false) (d_trcmp (d_cmp (a := .bool true) (b := .bool true) (d_call K1.kchk (by decide) (by rw [f5]; decide +kernel) (s_cons (d_name K1.khidden (by decide) f1 (.inl rfl)) s_nil) (by decide) (by decide) c1) (cb f5) rfl)) d_nil) ?_
  have hB : ∀ {n : Nat} {q1 q2 q3 q4 q5 q6 q7 : Pos}, (q2.endLine == q7.line) = true → ev (callF theDefs (k + 2)) (n + 5) (.Call (.Attribute (.Name "text" q1) "replace" q2) [.Name "first" q3, .BinOp (.Name "first" q4) .Add (.Constant (.str ")") 0 q5) q6] [] q7) m1 = some (.str (hidB T x)) := by
    intro n q1 q2 q3 q4 q5 q6 q7 hq
    rw [← e3]
    exact d_replace f6 K1.kfirst rfl hq (by intro _ _ _ _ _ h; cases h) eT eF eF (cs f5 (by decide +kernel)) s1 (by rw [sw_length]; exact h1) (by rw [len3, s1]; decide) (by rw [s1]; decide) (by rw [len3]; decide)
  have hC : ∀ {n : Nat} {q1 q2 q3 q4 q5 q6 : Pos}, ev (callF theDefs (k + 2)) (n + 5) (.BinOp (.Subscript (.Name "text" q1) (.Slice (some (.Constant (.int 1) 0 q2)) none none q3) q4) .Add (.Constant (.str "(") 0 q5) q6) m1 = some (.str (hidC T)) := by
    intro n q1 q2 q3 q4 q5 q6
    have lo : hidC T = Txt.slice (sw T) (some 1) none ++ ("(" : Str) := by unfold hidC; rw [lit_open]
    rw [lo]
    refine d_bin (a := .str (Txt.slice (sw T) (some 1) none)) (b := .str ("(" : Str)) (d_sliceF (o := .str (sw T)) (i := 1) eT (d_const (by rw [f5]; rfl) rfl) (slice_str (by rw [sw_length]; omega) rfl rfl)) (cs f5 (by decide +kernel)) (bin_str ?_ (by rw [lit_open]; decide))
    have := Txt.slice_le (sw T) (some 1) none
    rw [sw_length] at this
    omega
  generalize hidB T x = sB at *
  generalize hidC T = sC at *
  have hpf : ∀ {f : Str}, pureF f = true → (m1.lit || pureF f) = true := fun h => by rw [h, Bool.or_true]
  have p0 : pureF ("_check_parenthesis" : Str) = true := by decide +kernel
  refine d_step (m' := m1) (z := Ends _) (d_if (d := false) (d_trcmp (d_cmp (a := .bool false) (b := .bool false) (d_call K1.kchk (by decide) (hpf p0) (s_cons (hB rfl) s_nil) (by decide) (by decide) c2) (cb f5) rfl)) d_nil) ?_
  exact ⟨m1, d_stop (d_ret (v := .bool true) (d_compare (d_cmp (a := .bool false) (b := .bool false) (d_call K1.kchk (by decide) (hpf p0) (s_cons hC s_nil) (by decide) (by decide) c3) (cb f5) rfl)) (.inl ⟨_, rfl⟩))⟩
end Mine
end
section
open PySem PySem.W PyProof.Rows PySem.Calls Builtin.Str
set_option backward.match.sparseCases false
set_option maxRecDepth 100000
namespace Mine
/-! the tables, tree by tree -/
theorem trees_len : trees.length = 14 := by decide +kernel
theorem all14 {P : Nat → Prop} (h0 : P 0) (h1 : P 1) (h2 : P 2) (h3 : P 3) (h4 : P 4) (h5 : P 5) (h6 : P 6) (h7 : P 7) (h8 : P 8) (h9 : P 9) (h10 : P 10) (h11 : P 11) (h12 : P 12) (h13 : P 13) : ∀ i, i < 14 → P i
  | 0, _ => h0
  | 1, _ => h1
  | 2, _ => h2
  | 3, _ => h3
  | 4, _ => h4
  | 5, _ => h5
  | 6, _ => h6
  | 7, _ => h7
  | 8, _ => h8
  | 9, _ => h9
  | 10, _ => h10
  | 11, _ => h11
  | 12, _ => h12
  | 13, _ => h13
  | n + 14, h => absurd h (Nat.not_lt.mpr (Nat.le_add_left _ _))
theorem by_tree {P : Tr → Prop} (h : ∀ i, i < 14 → P (trees.getD i (.leaf 0))) : ∀ t ∈ trees, P t := fun t ht => by
  obtain ⟨i, hi, rfl⟩ := List.getElem_of_mem ht
  have e : trees.getD i (.leaf 0) = trees[i] := by rw [List.getD_eq_getElem?_getD, List.getElem?_eq_getElem hi]; rfl
  exact e ▸ h i (trees_len ▸ hi)
noncomputable abbrev RowsAt (t : Tr) : Prop := callF theDefs 12 ("_law_rows" : Str) [.str (sw (textT t))] = some (.dict (rowsV t))
theorem rows_0 : RowsAt (trees.getD 0 (.leaf 0)) := by decide +kernel
theorem rows_1 : RowsAt (trees.getD 1 (.leaf 0)) := by decide +kernel
theorem rows_2 : RowsAt (trees.getD 2 (.leaf 0)) := by decide +kernel
theorem rows_3 : RowsAt (trees.getD 3 (.leaf 0)) := by decide +kernel
theorem rows_4 : RowsAt (trees.getD 4 (.leaf 0)) := by decide +kernel
theorem rows_5 : RowsAt (trees.getD 5 (.leaf 0)) := by decide +kernel
theorem rows_6 : RowsAt (trees.getD 6 (.leaf 0)) := by decide +kernel
theorem rows_7 : RowsAt (trees.getD 7 (.leaf 0)) := by decide +kernel
theorem rows_8 : RowsAt (trees.getD 8 (.leaf 0)) := by decide +kernel
theorem rows_9 : RowsAt (trees.getD 9 (.leaf 0)) := by decide +kernel
theorem rows_10 : RowsAt (trees.getD 10 (.leaf 0)) := by decide +kernel
theorem rows_11 : RowsAt (trees.getD 11 (.leaf 0)) := by decide +kernel
theorem rows_12 : RowsAt (trees.getD 12 (.leaf 0)) := by decide +kernel
theorem rows_13 : RowsAt (trees.getD 13 (.leaf 0)) := by decide +kernel
theorem rows_tab : ∀ t ∈ trees, callF theDefs 12 ("_law_rows" : Str) [.str (sw (textT t))] = some (.dict (rowsV t)) := by_tree (P := RowsAt) (all14 rows_0 rows_1 rows_2 rows_3 rows_4 rows_5 rows_6 rows_7 rows_8 rows_9 rows_10 rows_11 rows_12 rows_13)
end Mine
end
section
open PySem PySem.W PyProof.Rows PySem.Calls Builtin.Str
set_option backward.match.sparseCases false
set_option maxRecDepth 100000
namespace Mine
noncomputable def hiddenOk (T : List Nat) : Bool := abc.all fun x => abc.all fun y => Nat.beq x y || hidOk T x y
noncomputable abbrev HidAt (t : Tr) : Prop := hiddenOk (textT t) = true
theorem hid_0 : HidAt (trees.getD 0 (.leaf 0)) := by decide +kernel
theorem hid_1 : HidAt (trees.getD 1 (.leaf 0)) := by decide +kernel
theorem hid_2 : HidAt (trees.getD 2 (.leaf 0)) := by decide +kernel
theorem hid_3 : HidAt (trees.getD 3 (.leaf 0)) := by decide +kernel
theorem hid_4 : HidAt (trees.getD 4 (.leaf 0)) := by decide +kernel
theorem hid_5 : HidAt (trees.getD 5 (.leaf 0)) := by decide +kernel
theorem hid_6 : HidAt (trees.getD 6 (.leaf 0)) := by decide +kernel
theorem hid_7 : HidAt (trees.getD 7 (.leaf 0)) := by decide +kernel
theorem hid_8 : HidAt (trees.getD 8 (.leaf 0)) := by decide +kernel
theorem hid_9 : HidAt (trees.getD 9 (.leaf 0)) := by decide +kernel
theorem hid_10 : HidAt (trees.getD 10 (.leaf 0)) := by decide +kernel
theorem hid_11 : HidAt (trees.getD 11 (.leaf 0)) := by decide +kernel
theorem hid_12 : HidAt (trees.getD 12 (.leaf 0)) := by decide +kernel
theorem hid_13 : HidAt (trees.getD 13 (.leaf 0)) := by decide +kernel
theorem hidden_all : ∀ T ∈ trees.map textT, hiddenOk T = true := fun T hT => by
  obtain ⟨t, ht, rfl⟩ := List.mem_map.mp hT
  exact by_tree (P := HidAt) (all14 hid_0 hid_1 hid_2 hid_3 hid_4 hid_5 hid_6 hid_7 hid_8 hid_9 hid_10 hid_11 hid_12 hid_13) t ht
end Mine
end
section
open PySem PySem.W PyProof.Rows PySem.Calls Builtin.Str
set_option backward.match.sparseCases false
set_option maxRecDepth 100000
namespace Mine
variable {call : CallT} {gen : GenT} {n : Nat} {m m' m'' : ME} {a b c v : V} {p q : Pos}

noncomputable def rMatch : DefRec := theDefs[3]'(by rw [defs_len]; decide)
structure MatchKinds (K : List (Str × NameKind)) : Prop where
  kwant : K.lookup ("want" : Str) = some .local
  kgot : K.lookup ("got" : Str) = some .local
  kws : K.lookup ("ws" : Str) = some .local
  kstart : K.lookup ("startpos" : Str) = some .local
  kend : K.lookup ("endpos" : Str) = some .local
  kw : K.lookup ("w" : Str) = some .local
  kmark : K.lookup ("ELLIPSIS_MARKER" : Str) = some .globalImplicit
  klen : K.lookup ("len" : Str) = some .globalImplicit
theorem mk_all : lookS ("want" : Str) rMatch.scope.names = some .local ∧ lookS ("got" : Str) rMatch.scope.names = some .local ∧ lookS ("ws" : Str) rMatch.scope.names = some .local ∧ lookS ("startpos" : Str) rMatch.scope.names = some .local ∧
    lookS ("endpos" : Str) rMatch.scope.names = some .local ∧ lookS ("w" : Str) rMatch.scope.names = some .local ∧ lookS ("ELLIPSIS_MARKER" : Str) rMatch.scope.names = some .globalImplicit ∧ lookS ("len" : Str) rMatch.scope.names = some .globalImplicit := by decide +kernel
theorem mk : MatchKinds rMatch.scope.names := by
  have h := mk_all
  simp only [lookS_eq] at h
  obtain ⟨h1, h2, h3, h4, h5, h6, h7, h8⟩ := h
  exact ⟨h1, h2, h3, h4, h5, h6, h7, h8⟩

theorem d_meth3 {o x y z : Expr} {f : Str} {ap : Pos} {ov a b c : V} (ho : ev call n o m = some ov) (hx : ev call n x m = some a) (hy : ev call n y m = some b) (hz : ev call n z m = some c) (h1 : notSuper o = true) (h2 : (ap.endLine == p.line) = true) (h : meth f ov [a, b, c] = some v)
    (hg : (f == ("get" : Str)) = false := by decide) (hr : (f == ("replace" : Str)) = false := by decide) : ev call (n + 1) (.Call (.Attribute o f ap) [x, y, z] [] p) m = some v :=
  d_meth ho (s_cons hx (s_cons hy (s_cons hz s_nil))) h1 h2 (by show 3 < 20; decide) h hg hr
theorem d_trname {x : Str} {d : Bool} (h : ev call n (.Name x p) m = some v) (ht : truth v = some d) : tr call (n + 1) (.Name x p) m = some d := by
  show (ev call n (.Name x p) m).bind truth = _
  rw [h]; exact ht
theorem d_aug {x : Str} {px : Pos} {e : Expr} {i j : Int} (hk : m.kinds.lookup x = some .local) (hx : m.val.lookup x = some (.int i)) (he : ev call n e m = some (.int j)) : ex call gen (n + 1) (.AugAssign (.Name x px) .Add e p) m = some (.next, m.set x (.int (i + j)) false) := by
  show (if (m.kinds.lookup x == some .local) = true then (oInt (m.val.lookup x)).bind fun a => (oInt (ev call n e m)).bind fun b => (augOp .Add a b).bind fun c => some (Fl.next, m.set x (.int c) false) else none) = _
  rw [hk, hx, he]
  rfl
theorem d_mark {x : Str} (hk : m.kinds.lookup ("ELLIPSIS_MARKER" : Str) = some .globalImplicit) : ev call (n + 1) (.Name ("ELLIPSIS_MARKER" : Str) p) m = some (.str ("..." : Str)) := by
  show evName _ m = _
  unfold evName
  rw [hk]
  rfl

/-- the words between the dots, found one behind the other -/
noncomputable def scan : List (List Nat) → Nat → Bool
  | [], _ => true
  | [] :: r, s => scan r s
  | (c :: _) :: r, s => if s ≤ c - 97 then scan r (c - 97 + 1) else false
theorem find_tab : ∀ a < 6, findInQ (sw abc) (sw []) ((a : Nat) : Int) 5 = ((a : Nat) : Int) ∧ ∀ c ∈ abc, findInQ (sw abc) (sw [c]) ((a : Nat) : Int) 5 = if a ≤ c - 97 then (((c - 97 : Nat) : Nat) : Int) else -1 := by decide +kernel

structure EM (m : ME) (s : Nat) : Prop where
  k : m.kinds = rMatch.scope.names
  lit : m.lit = false
  got : m.val.lookup ("got" : Str) = some (.str (sw abc))
  st : m.val.lookup ("startpos" : Str) = some (.int (s : Int))
  en : m.val.lookup ("endpos" : Str) = some (.int 5)
  le : s ≤ 5
noncomputable def matchLoop : List Stmt := loopOf (rMatch.body.getD 9 (.Break default))

theorem match_turn {w : List Nat} {s : Nat} (E : EM m s) {tp : Pos} (hw : w = [] ∨ ∃ c ∈ abc, w = [c]) :
    (∃ s', scan [w] s = true ∧ (∀ r, scan (w :: r) s = scan r s') ∧ Goes (EM · s') ((bindTgt (.Name ("w" : Str) tp) (.str (sw w)) m).bind fun m' => exs call gen (n + 20) matchLoop m')) ∨
    ((∀ r, scan (w :: r) s = false) ∧ Ends (.bool false) ((bindTgt (.Name ("w" : Str) tp) (.str (sw w)) m).bind fun m' => exs call gen (n + 20) matchLoop m')) := by
  have K : MatchKinds m.kinds := by rw [E.k]; exact mk
  have hbt : bindTgt (.Name ("w" : Str) tp) (.str (sw w)) m = some (m.set ("w" : Str) (.str (sw w)) false) := bt_name K.kw
  rw [hbt, Option.bind_some]
  have E1 : EM (m.set ("w" : Str) (.str (sw w)) false) s := ⟨E.k, E.lit, set_oth (by decide) E.got, set_oth (by decide) E.st, set_oth (by decide) E.en, E.le⟩
  have hw1 : (m.set ("w" : Str) (.str (sw w)) false).val.lookup ("w" : Str) = some (.str (sw w)) := set_self
  generalize m.set ("w" : Str) (.str (sw w)) false = m1 at *
  have K : MatchKinds m1.kinds := by rw [E1.k]; exact mk
  -- what find says
  have hle := E.le
  have main : ∀ (f : Int), findInQ (sw abc) (sw w) (s : Int) 5 = f → ∀ (Z : Option (Fl × ME) → Prop),
      ((f < 0 → Z (some (.ret (.bool false), m1.set ("startpos" : Str) (.int f) false))) ∧ (0 ≤ f → Z (some (.next, (m1.set ("startpos" : Str) (.int f) false).set ("startpos" : Str) (.int (f + w.length)) false)))) → Z (exs call gen (n + 20) matchLoop m1) := by
    intro f hf Z hZ
    show Z (exs call gen (n + 20) [.Assign [.Name "startpos" _] (.Call (.Attribute (.Name "got" _) "find" _) [.Name "w" _, .Name "startpos" _, .Name "endpos" _] [] _) _, .If (.Compare (.Name "startpos" _) [.Lt] [.Constant (.int 0) 0 _] _) [.Return (some (.Constant (.bool false) 0 _)) _] [] _, .AugAssign (.Name "startpos" _) .Add (.Call (.Name "len" _) [.Name "w" _] [] _) _] m1)
    refine d_step (m' := m1.set ("startpos" : Str) (.int f) false) (z := Z) (d_assign (v := .int f) K.kstart (.inl rfl) (d_meth3 (ov := .str (sw abc)) (a := .str (sw w)) (b := .int (s : Int)) (c := .int 5) (d_name K.kgot (by decide) E1.got (.inl rfl)) (d_name K.kw (by decide) hw1 (.inl rfl)) (d_name K.kstart (by decide) E1.st (.inl rfl)) (d_name K.kend (by decide) E1.en (.inl rfl)) rfl rfl ?_) rfl rfl (.inl rfl)) ?_
    · show (if _ then some (V.int (findIn (sw abc) (sw w) s 5)) else none) = _
      rw [if_pos, ← findInQ_eq, hf]
      simp only [Bool.and_eq_true, decide_eq_true_eq, sw_length]
      refine ⟨⟨⟨⟨by decide, by omega⟩, by omega⟩, by decide⟩, by decide⟩
    have hst : (m1.set ("startpos" : Str) (.int f) false).val.lookup ("startpos" : Str) = some (.int f) := set_self
    have hw2 : (m1.set ("startpos" : Str) (.int f) false).val.lookup ("w" : Str) = some (.str (sw w)) := set_oth (by decide) hw1
    have hl2 : (m1.set ("startpos" : Str) (.int f) false).lit = false := E1.lit
    have K2 : MatchKinds (m1.set ("startpos" : Str) (.int f) false).kinds := K
    generalize m1.set ("startpos" : Str) (.int f) false = m2 at *
    have ht : ∀ {q1 q2 q3 : Pos}, tr call (n + 17) (.Compare (.Name "startpos" q1) [.Lt] [.Constant (.int 0) 0 q2] q3) m2 = some (decide (f < 0)) := fun {q1 q2 q3} => d_trcmp (d_cmp (a := .int f) (b := .int 0) (d_name K2.kstart (by decide) hst (.inl rfl)) (d_const (by rw [hl2]; rfl) rfl) rfl)
    by_cases hneg : f < 0
    · rw [decide_eq_true hneg] at ht
      exact Eq.subst (motive := Z) (Eq.symm (d_stop (d_if ht (d_stop (d_ret (v := .bool false) (d_const (by rw [hl2]; rfl) rfl) (.inl ⟨_, rfl⟩)))))) (hZ.1 hneg)
    · rw [decide_eq_false hneg] at ht
      have hlw : (sw w).length ≤ 4096 := by rw [sw_length]; rcases hw with rfl | ⟨c, _, rfl⟩ <;> simp
      have hlen : builtin1 ("len" : Str) (.str (sw w)) = some (.int (w.length : Int)) := by
        show (capN (sw w).length).map (fun (n : Nat) => V.int (n : Int)) = _
        rw [show capN (sw w).length = some (sw w).length from if_pos hlw, sw_length]; rfl
      exact Eq.subst (motive := Z) (Eq.symm (d_next (d_if ht d_nil) (d_next (d_aug K2.kstart hst (d_builtin (a := .str (sw w)) K2.klen (by decide) (by rw [hl2]; decide +kernel) (s_cons (d_name K2.kw (by decide) hw2 (.inl rfl)) s_nil) (by decide) hlen)) d_nil))) (hZ.2 (by omega))
  have keep : ∀ {f : Int} {s' : Nat}, f + w.length = (s' : Int) → s' ≤ 5 → EM ((m1.set ("startpos" : Str) (.int f) false).set ("startpos" : Str) (.int (f + w.length)) false) s' := fun h1 h2 =>
    ⟨E1.k, E1.lit, set_oth (by decide) (set_oth (by decide) E1.got), by rw [set_self, h1], set_oth (by decide) (set_oth (by decide) E1.en), h2⟩
  obtain ⟨f1, f2⟩ := find_tab s (by omega)
  rcases hw with rfl | ⟨c, hc, rfl⟩
  · refine .inl ⟨s, rfl, fun _ => rfl, main s f1 _ ⟨fun h => absurd h (by omega), fun _ => ⟨_, rfl, keep (by simp) hle⟩⟩⟩
  · have hc' := mem_abc.mp hc
    by_cases hs : s ≤ c - 97
    · refine .inl ⟨c - 97 + 1, by show (if _ then _ else _) = _; rw [if_pos hs]; rfl, fun r => by show (if _ then _ else _) = _; rw [if_pos hs], main (((c - 97 : Nat) : Nat) : Int) (by rw [f2 c hc, if_pos hs]) _ ⟨fun h => absurd h (by omega), fun _ => ⟨_, rfl, keep (by simp) (by omega)⟩⟩⟩
    · refine .inr ⟨fun r => by show (if _ then _ else _) = _; rw [if_neg hs], main (-1) (by rw [f2 c hc, if_neg hs]) _ ⟨fun _ => ⟨_, rfl⟩, fun h => absurd h (by decide)⟩⟩
theorem match_loop {tp : Pos} : ∀ (W : List (List Nat)) (m : ME) (s : Nat), EM m s → (∀ w ∈ W, w = [] ∨ ∃ c ∈ abc, w = [c]) →
    (scan W s = true → Goes (fun m' => ∃ s', EM m' s') (forM (fun v m => (bindTgt (.Name ("w" : Str) tp) v m).bind fun m' => exs call gen (n + 20) matchLoop m') (W.map fun w => V.str (sw w)) true m)) ∧
    (scan W s = false → Ends (.bool false) (forM (fun v m => (bindTgt (.Name ("w" : Str) tp) v m).bind fun m' => exs call gen (n + 20) matchLoop m') (W.map fun w => V.str (sw w)) true m))
  | [], m, s, E, _ => ⟨fun _ => ⟨m, rfl, s, E⟩, fun h => by cases h⟩
  | w :: r, m, s, E, h => by
    rcases match_turn (n := n) (gen := gen) (call := call) (tp := tp) E (h w (List.mem_cons_self ..)) with ⟨s', _, h2, m', e, E'⟩ | ⟨h1, m', e⟩
    · rw [h2]
      have ih := match_loop (tp := tp) r m' s' E' fun x hx => h x (List.mem_cons_of_mem _ hx)
      rw [List.map_cons]
      exact ⟨fun h => f_step e (ih.1 h), fun h => f_step e (ih.2 h)⟩
    · rw [h1]
      exact ⟨fun h => (by cases h), fun _ => ⟨m', by rw [List.map_cons]; exact f_ret e⟩⟩
/-- the parts that the dots leave -/
noncomputable def partsOf (p : List Nat) : List (List Nat) := [] :: (p.map fun c => [c]) ++ [[]]
end Mine
end
section
open PySem PySem.W PyProof.Rows PySem.Calls Builtin.Str
set_option backward.match.sparseCases false
set_option maxRecDepth 100000
namespace Mine

theorem rowsT_map (f : Nat → Nat) : ∀ t : Tr, rowsT (t.map f) = (rowsT t).map fun x => (x.1.map f, x.2)
  | .leaf c => rfl
  | .node l r => by
    simp only [Tr.map, rowsT, rowsT_map f l, rowsT_map f r, List.flatMap_map, List.map_flatMap, List.map_cons, List.map_nil, List.map_append]
theorem rowsT_perm : ∀ t : Tr, ∀ x ∈ rowsT t, x.1.Perm t.leaves
  | .leaf c, x, hx => by
    simp only [rowsT, List.mem_cons, List.not_mem_nil, or_false] at hx
    subst hx; exact List.Perm.refl _
  | .node l r, x, hx => by
    simp only [rowsT, List.mem_flatMap, List.mem_cons, List.not_mem_nil, or_false] at hx
    obtain ⟨a, ha, b, hb, rfl | rfl⟩ := hx
    · exact (rowsT_perm l a ha).append (rowsT_perm r b hb)
    · exact List.perm_append_comm.trans ((rowsT_perm l a ha).append (rowsT_perm r b hb))

/-- a sum over rows -/
noncomputable def sumR (l : List (List Nat × Int)) (F : List Nat → Int) : Int := (l.map fun x => x.2 * F x.1).sum
theorem sumR_nil (F : List Nat → Int) : sumR [] F = 0 := rfl
theorem sumR_cons (x : List Nat × Int) (l : List (List Nat × Int)) (F : List Nat → Int) : sumR (x :: l) F = x.2 * F x.1 + sumR l F := rfl
theorem sumR_append (l k : List (List Nat × Int)) (F : List Nat → Int) : sumR (l ++ k) F = sumR l F + sumR k F := by
  induction l with
  | nil => simp [sumR_nil]
  | cons x l ih => rw [List.cons_append, sumR_cons, sumR_cons, ih]; omega
theorem sumR_congr {l : List (List Nat × Int)} {F G : List Nat → Int} (h : ∀ x ∈ l, F x.1 = G x.1) : sumR l F = sumR l G := by
  induction l with
  | nil => rfl
  | cons x l ih => rw [sumR_cons, sumR_cons, h x (List.mem_cons_self ..), ih fun y hy => h y (List.mem_cons_of_mem _ hy)]
theorem sumR_zero (l : List (List Nat × Int)) : sumR l (fun _ => 0) = 0 := by
  induction l with
  | nil => rfl
  | cons x l ih => rw [sumR_cons, ih]; simp
theorem sumR_sub (l : List (List Nat × Int)) (F G : List Nat → Int) : sumR l (fun w => F w - G w) = sumR l F - sumR l G := by
  induction l with
  | nil => rfl
  | cons x l ih => rw [sumR_cons, sumR_cons, sumR_cons, ih, Int.mul_sub]; omega
theorem sumR_add (l : List (List Nat × Int)) (F G : List Nat → Int) : sumR l (fun w => F w + G w) = sumR l F + sumR l G := by
  induction l with
  | nil => rfl
  | cons x l ih => rw [sumR_cons, sumR_cons, sumR_cons, ih, Int.mul_add]; omega
theorem sumR_mul (l : List (List Nat × Int)) (c : Int) (F : List Nat → Int) : sumR l (fun w => c * F w) = c * sumR l F := by
  induction l with
  | nil => simp [sumR_nil]
  | cons x l ih => rw [sumR_cons, sumR_cons, ih, Int.mul_add]; congr 1; rw [← Int.mul_assoc, ← Int.mul_assoc, Int.mul_comm x.2 c]
theorem sumR_swap (l k : List (List Nat × Int)) (G : List Nat → List Nat → Int) : sumR l (fun a => sumR k (fun b => G a b)) = sumR k (fun b => sumR l (fun a => G a b)) := by
  induction l with
  | nil => simp only [sumR_nil]; exact (sumR_zero k).symm
  | cons x l ih =>
    rw [sumR_cons, ih, ← sumR_mul, ← sumR_add]
    rfl
theorem sumR_node (l r : Tr) (F : List Nat → Int) : sumR (rowsT (.node l r)) F = sumR (rowsT l) (fun a => sumR (rowsT r) (fun b => F (a ++ b) - F (b ++ a))) := by
  show sumR ((rowsT l).flatMap fun x => (rowsT r).flatMap fun y => [(x.1 ++ y.1, x.2 * y.2), (y.1 ++ x.1, -x.2 * y.2)]) F = _
  induction rowsT l with
  | nil => rfl
  | cons x k ih =>
    rw [List.flatMap_cons, sumR_append, ih, sumR_cons]
    congr 1
    clear ih
    induction rowsT r with
    | nil => simp [sumR_nil]
    | cons y k ih =>
      rw [List.flatMap_cons, sumR_append, ih, sumR_cons y k, Int.mul_add]
      congr 1
      rw [sumR_cons, sumR_cons, sumR_nil]
      simp only [Int.mul_sub, Int.neg_mul, Int.mul_assoc]
      omega

noncomputable def Both (A : Nat → Bool) (t : Tr) : Prop := (∃ c ∈ t.leaves, A c = true) ∧ (∃ c ∈ t.leaves, A c = false)
theorem filter_none {A : Nat → Bool} {l : List Nat} (h : ∀ c ∈ l, A c = false) : l.filter A = [] := by
  rw [List.filter_eq_nil_iff]
  intro a ha
  rw [h a ha]; decide
/-- Ree's theorem -/
theorem ree (A : Nat → Bool) : ∀ (t : Tr) (Φ Ψ : List Nat → Int), Both A t → sumR (rowsT t) (fun w => Φ (w.filter A) * Ψ (w.filter fun c => !A c)) = 0
  | .leaf c, Φ, Ψ, ⟨⟨a, ha, h1⟩, b, hb, h2⟩ => by
    simp only [Tr.leaves, List.mem_cons, List.not_mem_nil, or_false] at ha hb
    subst ha hb; rw [h1] at h2; cases h2
  | .node l r, Φ, Ψ, hB => by
    rw [sumR_node]
    simp only [List.filter_append]
    by_cases hr : Both A r
    · refine (sumR_congr fun a _ => ?_).trans (sumR_zero _)
      rw [sumR_sub, ree A r (fun x => Φ (a.1.filter A ++ x)) (fun x => Ψ (a.1.filter (fun c => !A c) ++ x)) hr,
        ree A r (fun x => Φ (x ++ a.1.filter A)) (fun x => Ψ (x ++ a.1.filter (fun c => !A c))) hr]
      rfl
    · by_cases hl : Both A l
      · rw [sumR_swap]
        refine (sumR_congr fun b _ => ?_).trans (sumR_zero _)
        rw [sumR_sub, ree A l (fun x => Φ (x ++ b.1.filter A)) (fun x => Ψ (x ++ b.1.filter (fun c => !A c))) hl,
          ree A l (fun x => Φ (b.1.filter A ++ x)) (fun x => Ψ (b.1.filter (fun c => !A c) ++ x)) hl]
        rfl
      · have one : ∀ t, ¬ Both A t → (∀ c ∈ t.leaves, A c = true) ∨ (∀ c ∈ t.leaves, A c = false) := by
          intro t ht
          by_cases q : ∃ c ∈ t.leaves, A c = true
          · refine .inl fun c hc => ?_
            cases e : A c with
            | true => rfl
            | false => exact absurd ⟨q, c, hc, e⟩ ht
          · refine .inr fun c hc => ?_
            cases e : A c with
            | false => rfl
            | true => exact absurd ⟨c, hc, e⟩ q
        have fin : ∀ (a b : List Nat), ((∀ c ∈ a, A c = true) ∧ ∀ c ∈ b, A c = false) ∨ ((∀ c ∈ a, A c = false) ∧ ∀ c ∈ b, A c = true) →
            Φ (a.filter A ++ b.filter A) * Ψ (a.filter (fun c => !A c) ++ b.filter (fun c => !A c)) - Φ (b.filter A ++ a.filter A) * Ψ (b.filter (fun c => !A c) ++ a.filter (fun c => !A c)) = 0 := by
          intro a b h
          rcases h with ⟨h1, h2⟩ | ⟨h1, h2⟩
          · rw [filter_none h2, filter_none (A := fun c => !A c) (l := a) fun c hc => by rw [h1 c hc]; rfl]
            simp
          · rw [filter_none h1, filter_none (A := fun c => !A c) (l := b) fun c hc => by rw [h2 c hc]; rfl]
            simp
        refine (sumR_congr fun a ha => ?_).trans (sumR_zero _)
        refine (sumR_congr fun b hb => ?_).trans (sumR_zero _)
        have pa := rowsT_perm l a ha
        have pb := rowsT_perm r b hb
        refine fin a.1 b.1 ?_
        obtain ⟨⟨c1, hc1, e1⟩, c2, hc2, e2⟩ := hB
        simp only [Tr.leaves, List.mem_append] at hc1 hc2
        rcases one l hl with ql | ql <;> rcases one r hr with qr | qr
        · exfalso
          rcases hc2 with hc2 | hc2
          · rw [ql c2 hc2] at e2; cases e2
          · rw [qr c2 hc2] at e2; cases e2
        · exact .inl ⟨fun c hc => ql c (pa.mem_iff.mp hc), fun c hc => qr c (pb.mem_iff.mp hc)⟩
        · exact .inr ⟨fun c hc => ql c (pa.mem_iff.mp hc), fun c hc => qr c (pb.mem_iff.mp hc)⟩
        · exfalso
          rcases hc1 with hc1 | hc1
          · rw [ql c1 hc1] at e1; cases e1
          · rw [qr c1 hc1] at e1; cases e1
end Mine
end
section
open PySem PySem.W PyProof.Rows PySem.Calls Builtin.Str
set_option backward.match.sparseCases false
set_option maxRecDepth 100000
namespace Mine

theorem perm_all {w : List Nat} (hw : w ∈ perms) {c : Nat} (hc : c ∈ abc) : c ∈ w := by
  have h1 : lm (inv w) c ∈ abc := lm_mem (inv_facts w hw).1 hc
  have h2 := List.mem_map_of_mem (f := lm w) h1
  rw [(inv_all hw c).1, abc_map hw] at h2
  exact h2

/-- what the cuts are -/
noncomputable def compOk (P : List (List Nat)) : Bool :=
  !P.isEmpty && P.all (fun p => !p.isEmpty && p.all (fun c => abc.contains c) && decide p.Nodup) && decide (P.length ≤ 5) &&
  (match P with
  | [] => false
  | [p] => p == abc
  | p1 :: r => r.all fun p => p.all fun c => !p1.contains c)
theorem comps_ok : ∀ P ∈ comps, compOk P = true := by decide +kernel

/-- the row's pieces -/
noncomputable abbrev cutOf (v : List Nat) (P : List (List Nat)) : List (List Nat) := P.map fun p => p.map (lm v)

theorem sum_filter (l : List (List Nat × Int)) (g : List Nat → Bool) : ((l.filter fun x => g x.1).map (·.2)).sum = sumR l (fun w => if g w then 1 else 0) := by
  induction l with
  | nil => rfl
  | cons x l ih =>
    rw [sumR_cons, List.filter_cons]
    cases h : g x.1 with
    | true => simp [ih]
    | false => simp [ih]

theorem found_zero {t : Tr} (hl : t.leaves ∈ perms) {v : List Nat} (hv : v ∈ perms) {P : List (List Nat)} (hP : P ∈ comps) (h2 : 2 ≤ P.length) :
    (((rowsT t).filter fun x => (cutOf v P).all fun p => inOrd p x.1).map (·.2)).sum = 0 := by
  have ok := comps_ok P hP
  match P, h2 with
  | p1 :: p2 :: r, _ =>
    simp only [compOk, Bool.and_eq_true, List.all_eq_true, Bool.not_eq_true', List.contains_iff_mem, decide_eq_true_eq] at ok
    obtain ⟨⟨⟨_, h1⟩, _⟩, h3⟩ := ok
    refine (sum_filter (rowsT t) fun w => (cutOf v (p1 :: p2 :: r)).all fun p => inOrd p w).trans ?_
    -- the first piece's letters
    have hA : ∀ c, (p1.map (lm v)).contains c = true ↔ ∃ a ∈ p1, lm v a = c := fun c => by
      rw [List.contains_iff_mem, List.mem_map]
    have m1 : ∀ c ∈ p1, c ∈ abc := fun c hc => (h1 p1 (List.mem_cons_self ..)).1.2 c hc
    have hF : ∀ x ∈ rowsT t, (if ((cutOf v (p1 :: p2 :: r)).all fun p => inOrd p x.1) = true then (1 : Int) else 0) =
        (if (x.1.filter (fun c => (p1.map (lm v)).contains c) == p1.map (lm v)) = true then 1 else 0) *
        (if ((cutOf v (p2 :: r)).all fun p => (x.1.filter (fun c => !(p1.map (lm v)).contains c)).filter (fun c => p.contains c) == p) = true then 1 else 0) := by
      intro x _
      have e : ((cutOf v (p2 :: r)).all fun p => (x.1.filter (fun c => !(p1.map (lm v)).contains c)).filter (fun c => p.contains c) == p) = (cutOf v (p2 :: r)).all fun p => inOrd p x.1 := by
        rw [Bool.eq_iff_iff]
        simp only [List.all_eq_true]
        have one : ∀ p ∈ cutOf v (p2 :: r), (x.1.filter (fun c => !(p1.map (lm v)).contains c)).filter (fun c => p.contains c) = x.1.filter fun c => p.contains c := by
          intro p hp
          rw [List.filter_filter]
          refine List.filter_congr fun c _ => ?_
          cases hc : p.contains c with
          | false => rfl
          | true =>
            rw [Bool.true_and, Bool.not_eq_true']
            obtain ⟨q, hq, rfl⟩ := List.mem_map.mp hp
            rw [List.contains_iff_mem, List.mem_map] at hc
            obtain ⟨b, hb, rfl⟩ := hc
            rw [Bool.eq_false_iff]
            intro hn
            obtain ⟨a, ha, e⟩ := (hA _).mp hn
            have hb' : b ∈ abc := (h1 q (List.mem_cons_of_mem _ hq)).1.2 b hb
            have hab := lm_inj hv (m1 a ha) hb' e
            have h4 := h3 q hq b hb
            rw [hab] at ha
            rw [List.contains_iff_mem.mpr ha] at h4
            cases h4
        constructor
        · intro h p hp; have := h p hp; rw [one p hp] at this; exact this
        · intro h p hp; rw [one p hp]; exact h p hp
      rw [e]
      show (if (inOrd (p1.map (lm v)) x.1 && (cutOf v (p2 :: r)).all fun p => inOrd p x.1) = true then (1 : Int) else 0) = (if inOrd (p1.map (lm v)) x.1 = true then 1 else 0) * _
      cases inOrd (p1.map (lm v)) x.1 <;> cases (cutOf v (p2 :: r)).all fun p => inOrd p x.1 <;> simp
    refine (sumR_congr (G := fun w => (if (w.filter (fun c => (p1.map (lm v)).contains c) == p1.map (lm v)) = true then (1 : Int) else 0) *
        (if ((cutOf v (p2 :: r)).all fun p => (w.filter (fun c => !(p1.map (lm v)).contains c)).filter (fun c => p.contains c) == p) = true then 1 else 0)) hF).trans ?_
    refine ree (fun c => (p1.map (lm v)).contains c) t (fun w => if (w == p1.map (lm v)) = true then 1 else 0) (fun w => if ((cutOf v (p2 :: r)).all fun p => w.filter (fun c => p.contains c) == p) = true then 1 else 0) ⟨?_, ?_⟩
    · obtain ⟨a, ha⟩ : ∃ a, a ∈ p1 := by
        have := (h1 p1 (List.mem_cons_self ..)).1.1
        cases p1 with
        | nil => cases this
        | cons a _ => exact ⟨a, List.mem_cons_self ..⟩
      exact ⟨lm v a, perm_all hl (lm_mem hv (m1 a ha)), (hA _).mpr ⟨a, ha, rfl⟩⟩
    · obtain ⟨b, hb⟩ : ∃ b, b ∈ p2 := by
        have := (h1 p2 (by simp)).1.1
        cases p2 with
        | nil => cases this
        | cons a _ => exact ⟨a, List.mem_cons_self ..⟩
      have hb' : b ∈ abc := (h1 p2 (by simp)).1.2 b hb
      refine ⟨lm v b, perm_all hl (lm_mem hv hb'), ?_⟩
      rw [Bool.eq_false_iff]
      intro hn
      obtain ⟨a, ha, e⟩ := (hA _).mp hn
      have hab := lm_inj hv (m1 a ha) hb' e
      have h4 := h3 p2 (List.mem_cons_self ..) b hb
      rw [hab] at ha
      rw [List.contains_iff_mem.mpr ha] at h4
      cases h4
/-- one piece alone -/
theorem found_one {v u : List Nat} (hv : v ∈ perms) (hu : u ∈ perms) {P : List (List Nat)} (hP : P ∈ comps) (h1 : P.length = 1) : ((cutOf v P).all fun p => inOrd p u) = (u == v) := by
  have ok := comps_ok P hP
  match P, h1 with
  | [p], _ =>
    simp only [compOk, Bool.and_eq_true] at ok
    have hp := beq_iff_eq.mp ok.2
    subst hp
    show (inOrd (abc.map (lm v)) u && true) = _
    rw [abc_map hv, Bool.and_true]
    unfold inOrd
    have : u.filter (fun c => v.contains c) = u := List.filter_eq_self.mpr fun c hc => by rw [List.contains_iff_mem]; exact perm_all hv ((of_injW hu).2.1 c hc)
    rw [this]
/-- the row itself is found -/
theorem found_row {v : List Nat} (hv : v ∈ perms) {P : List (List Nat)} (hP : P ∈ comps) : ((cutOf v P).all fun p => inOrd p v) = true := by
  have key : ∀ P ∈ comps, (P.all fun p => abc.filter (fun c => p.contains c) == p) = true := by decide +kernel
  have h := key P hP
  simp only [List.all_eq_true] at h ⊢
  intro p hp
  obtain ⟨q, hq, rfl⟩ := List.mem_map.mp hp
  have hq' := beq_iff_eq.mp (h q hq)
  unfold inOrd
  rw [beq_iff_eq]
  have e0 : v.filter (fun c => (q.map (lm v)).contains c) = (abc.map (lm v)).filter (fun c => (q.map (lm v)).contains c) := by rw [abc_map hv]
  rw [e0, List.filter_map]
  have : abc.filter ((fun c => (q.map (lm v)).contains c) ∘ lm v) = abc.filter fun c => q.contains c := by
    refine List.filter_congr fun c hc => ?_
    show (q.map (lm v)).contains (lm v c) = _
    rw [Bool.eq_iff_iff, List.contains_iff_mem, List.contains_iff_mem, List.mem_map]
    constructor
    · rintro ⟨a, ha, e⟩
      have ha' : a ∈ abc := by rw [← hq'] at ha; exact (List.mem_filter.mp ha).1
      rw [← lm_inj hv ha' hc e]; exact ha
    · intro h; exact ⟨c, h, rfl⟩
  rw [this, hq']
end Mine
end
section
open PySem PySem.W PyProof.Rows PySem.Calls Builtin.Str
set_option backward.match.sparseCases false
set_option maxRecDepth 100000
namespace Mine
variable {call : CallT} {gen : GenT} {n : Nat} {m m' m'' : ME} {a b c v : V} {p q : Pos}

theorem len_of_sub : ∀ (p l : List Nat), p.Nodup → (∀ c ∈ p, c ∈ l) → p.length ≤ l.length := by
  intro p
  induction p with
  | nil => intro l _ _; exact Nat.zero_le _
  | cons a r ih =>
    intro l hn hs
    rw [List.nodup_cons] at hn
    have ha := hs a (List.mem_cons_self ..)
    have := ih (l.erase a) hn.2 fun c hc => (List.mem_erase_of_ne (fun e => hn.1 (by rw [← e]; exact hc))).mpr (hs c (List.mem_cons_of_mem _ hc))
    rw [List.length_erase_of_mem ha] at this
    have := List.length_pos_of_mem ha
    rw [List.length_cons]; omega
theorem nodup_len {p : List Nat} (hp : ∀ c ∈ p, c ∈ abc) (hn : p.Nodup) : p.length ≤ 5 := len_of_sub p abc hn hp
theorem dots_map {φ : Nat → Nat} (h : Swap φ) : mapS φ ("..." : Str) = ("..." : Str) := mapS_plain h (by decide +kernel)
theorem wantOf_map {φ : Nat → Nat} (h : Swap φ) (p : List Nat) : mapS φ (wantOf p) = wantOf (p.map φ) := by
  unfold wantOf
  rw [mapS_append, mapS_append, dots_map h, ← tjoin_map, dots_map h, List.map_map, List.map_map]
  congr 2
  refine congrArg _ (List.map_congr_left fun c _ => ?_)
  simp [mapS]
/-- a word is the front of a change of letters -/
theorem word_perm {p : List Nat} (hp : ∀ c ∈ p, c ∈ abc) (hn : p.Nodup) : ∃ r ∈ perms, (abc.take p.length).map (lm r) = p := by
  have hrn : (p ++ abc.filter fun c => !p.contains c).Nodup := by
    rw [List.nodup_append]
    refine ⟨hn, List.Pairwise.filter _ (by decide), fun x hx y hy e => ?_⟩
    subst e
    have := (List.mem_filter.mp hy).2
    rw [List.contains_iff_mem.mpr hx] at this
    cases this
  have hra : ∀ c ∈ p ++ abc.filter (fun c => !p.contains c), c ∈ abc := fun c hc => by
    rcases List.mem_append.mp hc with h | h
    · exact hp c h
    · exact (List.mem_filter.mp h).1
  have hlen : (p ++ abc.filter fun c => !p.contains c).length = 5 := by
    have h1 := nodup_len hra hrn
    have h2 : abc.length ≤ (p ++ abc.filter fun c => !p.contains c).length := len_of_sub _ _ (by decide) fun c hc => by
      by_cases h : c ∈ p
      · exact List.mem_append_left _ h
      · exact List.mem_append_right _ (List.mem_filter.mpr ⟨hc, by rw [Bool.not_eq_true', Bool.eq_false_iff]; exact fun e => h (List.contains_iff_mem.mp e)⟩)
    have : abc.length = 5 := rfl
    omega
  have hr : (p ++ abc.filter fun c => !p.contains c) ∈ perms := by
    have := mem_injW hra hrn
    rwa [hlen] at this
  refine ⟨_, hr, ?_⟩
  rw [List.map_take, abc_map hr, List.take_left' rfl]
theorem split_tab : ∀ k < 6, 1 ≤ k → containsQ (wantOf (abc.take k)) ("..." : Str) = true ∧ splitQ (wantOf (abc.take k)) ("..." : Str) = (partsOf (abc.take k)).map sw := by decide +kernel
theorem parts_mapL (φ : Nat → Nat) (q : List Nat) : ((partsOf q).map sw).map (mapS φ) = (partsOf (q.map φ)).map sw := by
  unfold partsOf
  simp only [List.map_cons, List.map_append, List.map_nil, List.map_map, List.cons_append, mapS_sw]
  congr 2
  refine List.map_congr_left fun c _ => ?_
  show mapS φ (sw [c]) = sw [φ c]
  rw [mapS_sw]; rfl
theorem split_fact {p : List Nat} (hp : ∀ c ∈ p, c ∈ abc) (hn : p.Nodup) (h1 : p ≠ []) : Txt.contains (wantOf p) ("..." : Str) = true ∧ Txt.split (wantOf p) ("..." : Str) = (partsOf p).map sw := by
  obtain ⟨r, hr, e⟩ := word_perm hp hn
  have hl := nodup_len hp hn
  have h0 : 1 ≤ p.length := Nat.one_le_iff_ne_zero.mpr fun h => h1 (List.length_eq_zero_iff.mp h)
  obtain ⟨t1, t2⟩ := split_tab p.length (by omega) h0
  have hs := lm_swap hr
  constructor
  · have := contains_map hs (wantOf (abc.take p.length)) ("..." : Str)
    rw [dots_map hs, wantOf_map hs, e, ← containsQ_eq (wantOf (abc.take p.length)), t1] at this
    exact this
  · have := split_map hs (wantOf (abc.take p.length)) ("..." : Str)
    rw [dots_map hs, wantOf_map hs, e, ← splitQ_eq (wantOf (abc.take p.length)), t2, parts_mapL, e] at this
    exact this
noncomputable def scanOk (p : List Nat) : Bool := scan (partsOf p) 0 == inOrd p abc
theorem scan_tab : ∀ k < 6, (injW k).all scanOk = true := by decide +kernel
theorem scan_fact {p : List Nat} (hp : ∀ c ∈ p, c ∈ abc) (hn : p.Nodup) : scan (partsOf p) 0 = inOrd p abc :=
  beq_iff_eq.mp (List.all_eq_true.mp (scan_tab p.length (by have := nodup_len hp hn; omega)) p (mem_injW hp hn))
end Mine
end
section
open PySem PySem.W PyProof.Rows PySem.Calls Builtin.Str
set_option backward.match.sparseCases false
set_option maxRecDepth 100000
namespace Mine
variable {call : CallT} {gen : GenT} {n : Nat} {m m' m'' : ME} {a b c v : V} {p q : Pos}

theorem d_assert {t : Expr} {msg : Option Expr} (h : tr call n t m = some true) : ex call gen (n + 1) (.Assert t msg p) m = some (.next, m) := by
  show (tr call n t m).bind _ = _
  rw [h]; rfl
theorem d_tup {x y : Str} {px py pt pv pc : Pos} {k1 k2 : Nat} {e f : Expr} {as : List Expr} {ks : List Keyword} {u w : Atm} (hl : (py.line == px.line) = true) (hx : m.kinds.lookup x = some .local) (hy : m.kinds.lookup y = some .local) (hxy : (x == y) = false)
    (hu : ev call n e m = some (.at u)) (hw : ev call n (.Call f as ks pc) m = some (.at w)) : ex call gen (n + 1) (.Assign [.Tuple [.Name x px, .Name y py] k1 pt] (.Tuple [e, .Call f as ks pc] k2 pv) p) m = some (.next, (m.set y (.at w) false).set x (.at u) false) := by
  show exTup (fun e => ev call n e m) m [.Name x px, .Name y py] [e, .Call f as ks pc] = _
  show (if ((py.line == px.line) && m.kinds.lookup x == some .local && m.kinds.lookup y == some .local && !(x == y) && (asCall (.Call f as ks pc)).isSome) = true then ((ev call n e m).bind atom).bind fun a => ((ev call n (.Call f as ks pc) m).bind atom).bind fun b => some (Fl.next, (m.set y (.at b) false).set x (.at a) false) else none) = _
  have hks : (asCall (.Call f as ks pc)).isSome = true := by
    cases ks with
    | nil => rfl
    | cons => cases n <;> exact no_some hw
  rw [if_pos (by rw [hl, hx, hy, hxy, hks]; rfl), hu, hw]
  rfl
theorem d_usub {e : Expr} {i : Int} (h : ev call n e m = some (.int i)) : ev call (n + 1) (.UnaryOp .USub e p) m = some (.int (-i)) := by
  show evUn .USub (ev call n e m) = _
  rw [h]; rfl
theorem want_len (w : List Nat) : (wantOf w).length ≤ 4 * w.length + 6 := by
  have l3 : (("..." : Str)).length = 3 := by decide +kernel
  have hj := join_len ("..." : Str) (w.map fun c => (⟨#[c]⟩ : Str)) 1 (fun x hx => by obtain ⟨c, _, rfl⟩ := List.mem_map.mp hx; exact Nat.le_refl _)
  rw [List.length_map, l3] at hj
  unfold wantOf
  rw [Str.length_append, Str.length_append, l3]
  omega
theorem parts_last (w : List Nat) : ((partsOf w).map swA)[((partsOf w).map swA).length - 1]? = some (swA []) := by
  unfold partsOf
  rw [List.map_append, List.length_append, List.getElem?_append_right (by simp)]
  simp
theorem match_run {k : Nat} {w : List Nat} (hw : ∀ c ∈ w, c ∈ abc) (hn : w.Nodup) (h1 : w ≠ []) : callF theDefs (k + 1) ("_ellipsis_match" : Str) [.str (wantOf w), .str (sw abc)] = some (.bool (inOrd w abc)) := by
  obtain ⟨f1, f2⟩ := split_fact hw hn h1
  have f3 := scan_fact hw hn
  have hl5 := nodup_len hw hn
  have hwl := want_len w
  refine call_runE (r := rMatch) (by decide) (by rfl) (by decide +kernel) (by rfl) ?_
  have K := mk
  show Ends _ (exs (callF theDefs k) genF 40 [.If (.Compare (.Name "ELLIPSIS_MARKER" _) [.NotIn] [.Name "want" _] _) _ [] _, .Assign [.Name "ws" _] (.Call (.Attribute (.Name "want" _) "split" _) [.Name "ELLIPSIS_MARKER" _] [] _) _, .Assert (.Compare (.Call (.Name "len" _) [.Name "ws" _] [] _) [.GtE] [.Constant (.int 2) 0 _] _) _ _,
    .Assign [.Tuple [.Name "startpos" _, .Name "endpos" _] _ _] (.Tuple [.Constant (.int 0) 0 _, .Call (.Name "len" _) [.Name "got" _] [] _] _ _) _, .Assign [.Name "w" _] (.Subscript (.Name "ws" _) (.Constant (.int 0) 0 _) _) _, .If (.Name "w" _) _ [] _, .Assign [.Name "w" _] (.Subscript (.Name "ws" _) (.UnaryOp .USub (.Constant (.int 1) 0 _) _) _) _, .If (.Name "w" _) _ [] _,
    .If (.Compare (.Name "startpos" _) [.Gt] [.Name "endpos" _] _) _ [] _, .For (.Name "w" _) (.Name "ws" _) matchLoop [] _, .Return (some (.Constant (.bool true) 0 _)) _] { kinds := rMatch.scope.names, val := [("want", .str (wantOf w)), ("got", .str (sw abc))], tok := [], lit := false })
  have hwant : ({ kinds := rMatch.scope.names, val := [("want", .str (wantOf w)), ("got", .str (sw abc))], tok := [], lit := false } : ME).val.lookup ("want" : Str) = some (.str (wantOf w)) := by rfl
  have hgot : ({ kinds := rMatch.scope.names, val := [("want", .str (wantOf w)), ("got", .str (sw abc))], tok := [], lit := false } : ME).val.lookup ("got" : Str) = some (.str (sw abc)) := by rfl
  have hk0 : ({ kinds := rMatch.scope.names, val := [("want", .str (wantOf w)), ("got", .str (sw abc))], tok := [], lit := false } : ME).kinds = rMatch.scope.names := rfl
  have hl0 : ({ kinds := rMatch.scope.names, val := [("want", .str (wantOf w)), ("got", .str (sw abc))], tok := [], lit := false } : ME).lit = false := rfl
  generalize ({ kinds := rMatch.scope.names, val := [("want", .str (wantOf w)), ("got", .str (sw abc))], tok := [], lit := false } : ME) = m at *
  rw [← hk0] at K
  -- dots are in it
  refine d_step (m' := m) (z := Ends _) (d_if (d := false) (d_trcmp (d_cmp (a := .str ("..." : Str)) (b := .str (wantOf w)) (d_mark (x := "w") K.kmark) (d_name K.kwant (by decide) hwant (.inl rfl)) ?_)) d_nil) ?_
  · show (if _ then some (!Txt.contains (wantOf w) ("..." : Str)) else none) = _
    rw [if_pos, f1]
    · rfl
    · simp only [Bool.and_eq_true, decide_eq_true_eq]
      exact ⟨by decide +kernel, by show _ ≤ 4096; omega⟩
  refine d_step (m' := m.set ("ws" : Str) (.list ((partsOf w).map swA)) true) (z := Ends _) (d_assign (v := .list ((partsOf w).map swA)) K.kws (.inl rfl) (d_meth1 (ov := .str (wantOf w)) (av := .str ("..." : Str)) (d_name K.kwant (by decide) hwant (.inl rfl)) (d_mark (x := "w") K.kmark) rfl rfl ?_) rfl rfl (.inr rfl)) ?_
  · have h0 : (("split" : Str) == ("split" : Str)) = true := by simp
    show methS ("split" : Str) (wantOf w) ("..." : Str) = _
    unfold methS
    rw [if_pos h0, if_neg, f2, List.map_map]
    · rfl
    · have l3 : (("..." : Str)).length = 3 := by decide +kernel
      rw [l3]
      simp only [Bool.or_eq_true, Bool.not_eq_true', decide_eq_false_iff_not, not_or, Classical.not_not]
      exact ⟨by decide, by show _ ≤ 4096; omega⟩
  have hws : (m.set ("ws" : Str) (.list ((partsOf w).map swA)) true).val.lookup ("ws" : Str) = some (.list ((partsOf w).map swA)) := set_self
  have hgot1 : (m.set ("ws" : Str) (.list ((partsOf w).map swA)) true).val.lookup ("got" : Str) = some (.str (sw abc)) := set_oth (by decide) hgot
  have K1 : MatchKinds (m.set ("ws" : Str) (.list ((partsOf w).map swA)) true).kinds := K
  have hk1 : (m.set ("ws" : Str) (.list ((partsOf w).map swA)) true).kinds = rMatch.scope.names := hk0
  have hl1 : (m.set ("ws" : Str) (.list ((partsOf w).map swA)) true).lit = false := hl0
  generalize m.set ("ws" : Str) (.list ((partsOf w).map swA)) true = m1 at *
  have hplen : ((partsOf w).map swA).length = w.length + 2 := by unfold partsOf; simp
  have hc : ∀ {n : Nat} {i : Int} {j : Nat} {q : Pos}, ev (callF theDefs k) (n + 1) (.Constant (.int i) j q) m1 = some (.int i) := fun {n i j q} => d_const (by rw [hl1]; rfl) rfl
  refine d_step (m' := m1) (z := Ends _) (d_assert (d_trcmp (d_cmp (a := .int ((w.length + 2 : Nat) : Int)) (b := .int 2) (d_builtin (a := .list ((partsOf w).map swA)) K1.klen (by decide) (by rw [hl1]; decide +kernel) (s_cons (d_name K1.kws (by decide) hws (.inl rfl)) s_nil) (by decide) (by rw [len_list (by omega), hplen])) hc ?_))) ?_
  · show some (decide (_ ≥ _)) = _
    rw [decide_eq_true (by omega)]
  refine d_step (m' := (m1.set ("endpos" : Str) (.int 5) false).set ("startpos" : Str) (.int 0) false) (z := Ends _) (d_tup rfl K1.kstart K1.kend (by decide) hc (d_builtin (a := .str (sw abc)) K1.klen (by decide) (by rw [hl1]; decide +kernel) (s_cons (d_name K1.kgot (by decide) hgot1 (.inl rfl)) s_nil) (by decide) (by rfl))) ?_
  have hst : ((m1.set ("endpos" : Str) (.int 5) false).set ("startpos" : Str) (.int 0) false).val.lookup ("startpos" : Str) = some (.int 0) := set_self
  have hen : ((m1.set ("endpos" : Str) (.int 5) false).set ("startpos" : Str) (.int 0) false).val.lookup ("endpos" : Str) = some (.int 5) := set_oth (by decide) set_self
  have hws2 : ((m1.set ("endpos" : Str) (.int 5) false).set ("startpos" : Str) (.int 0) false).val.lookup ("ws" : Str) = some (.list ((partsOf w).map swA)) := set_oth (by decide) (set_oth (by decide) hws)
  have hgot2 : ((m1.set ("endpos" : Str) (.int 5) false).set ("startpos" : Str) (.int 0) false).val.lookup ("got" : Str) = some (.str (sw abc)) := set_oth (by decide) (set_oth (by decide) hgot1)
  have hk2 : ((m1.set ("endpos" : Str) (.int 5) false).set ("startpos" : Str) (.int 0) false).kinds = rMatch.scope.names := hk1
  have hl2 : ((m1.set ("endpos" : Str) (.int 5) false).set ("startpos" : Str) (.int 0) false).lit = false := hl1
  generalize (m1.set ("endpos" : Str) (.int 5) false).set ("startpos" : Str) (.int 0) false = m2 at *
  have K2 : MatchKinds m2.kinds := by rw [hk2]; exact mk
  clear K1 hws hgot1 hk1 hl1 hc
  have hc : ∀ {m : ME} {n : Nat} {i : Int} {j : Nat} {q : Pos}, m.lit = false → ev (callF theDefs k) (n + 1) (.Constant (.int i) j q) m = some (.int i) := fun {m n i j q} h => d_const (by rw [h]; rfl) rfl
  have htruth : truth (.str (sw [])) = some false := by rfl
  refine d_step (m' := m2.set ("w" : Str) (.str (sw [])) false) (z := Ends _) (d_assign (v := .str (sw [])) K2.kw (.inl rfl) (d_item (x := .list ((partsOf w).map swA)) (y := .int 0) (d_name K2.kws (by decide) hws2 (.inl rfl)) (hc hl2) (by intro _ _ _ h; cases h) (by intro _ _ h; cases h) ?_) rfl rfl (.inl rfl)) ?_
  · show (if _ then _ else _) = _
    rw [if_pos (by show _ ≤ 4096; omega)]
    rfl
  have hst3 : (m2.set ("w" : Str) (.str (sw [])) false).val.lookup ("startpos" : Str) = some (.int 0) := set_oth (by decide) hst
  have hen3 : (m2.set ("w" : Str) (.str (sw [])) false).val.lookup ("endpos" : Str) = some (.int 5) := set_oth (by decide) hen
  have hws3 : (m2.set ("w" : Str) (.str (sw [])) false).val.lookup ("ws" : Str) = some (.list ((partsOf w).map swA)) := set_oth (by decide) hws2
  have hgot3 : (m2.set ("w" : Str) (.str (sw [])) false).val.lookup ("got" : Str) = some (.str (sw abc)) := set_oth (by decide) hgot2
  have hw3 : (m2.set ("w" : Str) (.str (sw [])) false).val.lookup ("w" : Str) = some (.str (sw [])) := set_self
  have hk3 : (m2.set ("w" : Str) (.str (sw [])) false).kinds = rMatch.scope.names := hk2
  have hl3 : (m2.set ("w" : Str) (.str (sw [])) false).lit = false := hl2
  generalize m2.set ("w" : Str) (.str (sw [])) false = m3 at *
  have K3 : MatchKinds m3.kinds := by rw [hk3]; exact mk
  refine d_step (m' := m3) (z := Ends _) (d_if (d := false) (d_trname (d_name K3.kw (by decide) hw3 (.inl rfl)) htruth) d_nil) ?_
  refine d_step (m' := m3.set ("w" : Str) (.str (sw [])) false) (z := Ends _) (d_assign (v := .str (sw [])) K3.kw (.inl rfl) (d_item (x := .list ((partsOf w).map swA)) (y := .int (-1)) (d_name K3.kws (by decide) hws3 (.inl rfl)) (d_usub (hc hl3)) (by intro _ _ _ h; cases h) (by intro _ _ h; cases h) ?_) rfl rfl (.inl rfl)) ?_
  · show (if _ then (idx _ _).map V.at else _) = _
    rw [if_pos (by show _ ≤ 4096; omega)]
    unfold idx
    rw [if_neg (by decide), if_pos (by omega)]
    have : (-1 + (((partsOf w).map swA).length : Int)).toNat = ((partsOf w).map swA).length - 1 := by omega
    rw [this, parts_last]; rfl
  have hst4 : (m3.set ("w" : Str) (.str (sw [])) false).val.lookup ("startpos" : Str) = some (.int 0) := set_oth (by decide) hst3
  have hen4 : (m3.set ("w" : Str) (.str (sw [])) false).val.lookup ("endpos" : Str) = some (.int 5) := set_oth (by decide) hen3
  have hws4 : (m3.set ("w" : Str) (.str (sw [])) false).val.lookup ("ws" : Str) = some (.list ((partsOf w).map swA)) := set_oth (by decide) hws3
  have hgot4 : (m3.set ("w" : Str) (.str (sw [])) false).val.lookup ("got" : Str) = some (.str (sw abc)) := set_oth (by decide) hgot3
  have hw4 : (m3.set ("w" : Str) (.str (sw [])) false).val.lookup ("w" : Str) = some (.str (sw [])) := set_self
  have hk4 : (m3.set ("w" : Str) (.str (sw [])) false).kinds = rMatch.scope.names := hk3
  have hl4 : (m3.set ("w" : Str) (.str (sw [])) false).lit = false := hl3
  generalize m3.set ("w" : Str) (.str (sw [])) false = m4 at *
  have K4 : MatchKinds m4.kinds := by rw [hk4]; exact mk
  refine d_step (m' := m4) (z := Ends _) (d_if (d := false) (d_trname (d_name K4.kw (by decide) hw4 (.inl rfl)) htruth) d_nil) ?_
  refine d_step (m' := m4) (z := Ends _) (d_if (d := false) (d_trcmp (d_cmp (a := .int 0) (b := .int 5) (d_name K4.kstart (by decide) hst4 (.inl rfl)) (d_name K4.kend (by decide) hen4 (.inl rfl)) rfl)) d_nil) ?_
  have E : EM ({ m4 with own := unique ("ws" : Str) m4.own } : ME) 0 := ⟨hk4, hl4, hgot4, hst4, hen4, by decide⟩
  have hparts : ∀ x ∈ partsOf w, x = [] ∨ ∃ c ∈ abc, x = [c] := by
    intro x hx
    unfold partsOf at hx
    simp only [List.cons_append, List.mem_cons, List.mem_append, List.mem_map, List.not_mem_nil, or_false] at hx
    rcases hx with h | ⟨c, hc, rfl⟩ | h
    · exact .inl h
    · exact .inr ⟨c, hw c hc, rfl⟩
    · exact .inl h
  have hit : iterOf (.list ((partsOf w).map swA)) = some ((partsOf w).map fun w => V.str (sw w)) := by
    show some (((partsOf w).map swA).map V.at) = _
    rw [List.map_map]; rfl
  have hpl : ((partsOf w).map fun w => V.str (sw w)).length ≤ 4096 := by rw [List.length_map, ← List.length_map (f := swA)]; omega
  have L := match_loop (n := 9) (gen := genF) (call := callF theDefs k) (tp := ⟨68, 8, 68, 9⟩) (partsOf w) _ 0 E hparts
  rw [f3] at L
  cases hi : inOrd w abc with
  | true =>
    obtain ⟨m5, e, s', E'⟩ := L.1 hi
    exact d_step (m' := m5) (d_forName (v := .list ((partsOf w).map swA)) (d_name K4.kws (by decide) hws4 (.inl rfl)) hit hpl e) ⟨m5, d_stop (d_ret (v := .bool true) (d_const (by rw [E'.lit]; rfl) rfl) (.inl ⟨_, rfl⟩))⟩
  | false =>
    obtain ⟨m5, e⟩ := L.2 hi
    exact ⟨m5, d_stop (d_forName (v := .list ((partsOf w).map swA)) (d_name K4.kws (by decide) hws4 (.inl rfl)) hit hpl e)⟩
end Mine
end
section
open PySem PySem.W PyProof.Rows PySem.Calls Builtin.Str
set_option backward.match.sparseCases false
set_option maxRecDepth 100000
namespace Mine
theorem sizes_tab : ((List.range 5).all fun n => (List.range 3).all fun f => (List.range 3).all fun a => isListV (callF theDefs 12 ("_law_sizes" : Str) [.list ((rulerOf (n + 1) (f + 1) a).map .int)]) ((toldOf (n + 1) (f + 1) a).map .int)) = true := by decide +kernel
theorem pieces_tab : ((List.range 5).all fun n => (List.range 3).all fun f => (List.range 3).all fun a => isListV (callF theDefs 12 ("_law_pieces" : Str) [.str (sw abc), .list ((rulerOf (n + 1) (f + 1) a).map .int)]) ((piecesOf (n + 1) (f + 1) a).map swA)) = true := by decide +kernel
noncomputable abbrev endOk (P : List (List Nat)) : Bool := isBoolV (callF theDefs 12 ("_law_ends_found" : Str) [.list (P.map swA), .str (sw abc)]) true
theorem ends_0 : (comps.take 3).all endOk = true := by decide +kernel
theorem ends_1 : ((comps.drop 3).take 3).all endOk = true := by decide +kernel
theorem ends_2 : ((comps.drop 6).take 3).all endOk = true := by decide +kernel
theorem ends_3 : (comps.drop 9).all endOk = true := by decide +kernel
theorem ends_tab : (comps.all fun P => isBoolV (callF theDefs 12 ("_law_ends_found" : Str) [.list (P.map swA), .str (sw abc)]) true) = true := by
  show comps.all endOk = true
  have e : comps = comps.take 3 ++ ((comps.drop 3).take 3 ++ ((comps.drop 6).take 3 ++ comps.drop 9)) := by decide +kernel
  rw [e, List.all_append, List.all_append, List.all_append, ends_0, ends_1, ends_2, ends_3]; rfl
theorem meet_tab : isBoolV (callF theDefs 12 ("_law_ends_meet" : Str) [.str (sw abc)]) true = true := by decide +kernel
end Mine
end
section
open PySem PySem.W PyProof.Rows PySem.Calls Builtin.Str
set_option backward.match.sparseCases false
set_option maxRecDepth 100000
namespace Mine

theorem inOrd_map {u : List Nat} (hu : u ∈ perms) {p x : List Nat} (hp : ∀ c ∈ p, c ∈ abc) (hx : ∀ c ∈ x, c ∈ abc) : inOrd (p.map (lm u)) (x.map (lm u)) = inOrd p x := by
  unfold inOrd
  rw [List.filter_map]
  have : x.filter ((fun c => (p.map (lm u)).contains c) ∘ lm u) = x.filter fun c => p.contains c := by
    refine List.filter_congr fun c hc => ?_
    show (p.map (lm u)).contains (lm u c) = _
    rw [Bool.eq_iff_iff, List.contains_iff_mem, List.contains_iff_mem, List.mem_map]
    constructor
    · rintro ⟨a, ha, e⟩
      rw [← lm_inj hu (hp a ha) (hx c hc) e]; exact ha
    · intro h; exact ⟨c, h, rfl⟩
  rw [this, Bool.eq_iff_iff, beq_iff_eq, beq_iff_eq]
  constructor
  · intro h
    have h' := congrArg (List.map (lm (inv u))) h
    have back : ∀ y : List Nat, (y.map (lm u)).map (lm (inv u)) = y := fun y => by
      rw [List.map_map]
      exact (List.map_congr_left fun c _ => (inv_all hu c).2).trans (List.map_id _)
    rwa [back, back] at h'
  · intro h; rw [h]
theorem match_fact {u p : List Nat} (hu : u ∈ perms) (hp : ∀ c ∈ p, c ∈ abc) (hn : p.Nodup) (h1 : p ≠ []) : callF theDefs 11 ("_ellipsis_match" : Str) [.str (wantOf p), .str (sw u)] = some (.bool (inOrd p u)) := by
  have hi := (inv_facts u hu).1
  have hq : p.map (lm (inv u)) ∈ injW p.length := map_lm_mem hi hp hn
  have hq' := of_injW hq
  have h := match_run (k := 10) hq'.2.1 hq'.2.2 (fun e => h1 (List.map_eq_nil_iff.mp e))
  have := cMap (lm_swap hu) theDefs 11 _ _ _ h (by decide)
  simp only [List.map_cons, List.map_nil, mapV_str, mapV_bool] at this
  rw [wantOf_map (lm_swap hu), inv_map hu, mapS_sw, abc_map hu] at this
  rw [this]
  have e := inOrd_map hu (p := p.map (lm (inv u))) (x := abc) hq'.2.1 (fun c hc => hc)
  rw [inv_map hu, abc_map hu] at e
  rw [e]

theorem comps_mem {n f a : Nat} (hn : n < 5) (hf : f < 3) (ha : a < 3) : piecesOf (n + 1) (f + 1) a ∈ comps := by
  have : ∀ n < 5, ∀ f < 3, ∀ a < 3, comps.contains (piecesOf (n + 1) (f + 1) a) = true := by decide +kernel
  exact List.contains_iff_mem.mp (this n hn f hf a ha)
theorem comp_piece {P : List (List Nat)} (hP : P ∈ comps) {p : List Nat} (hp : p ∈ P) : p ≠ [] ∧ (∀ c ∈ p, c ∈ abc) ∧ p.Nodup := by
  have ok := comps_ok P hP
  simp only [compOk, Bool.and_eq_true, List.all_eq_true, Bool.not_eq_true', List.contains_iff_mem, decide_eq_true_eq] at ok
  obtain ⟨⟨h1, h2⟩, h3⟩ := ok.1.1.2 p hp
  exact ⟨(fun e => by rw [e] at h1; cases h1), h2, h3⟩
theorem comp_len {P : List (List Nat)} (hP : P ∈ comps) : 1 ≤ P.length ∧ P.length ≤ 5 := by
  have ok := comps_ok P hP
  simp only [compOk, Bool.and_eq_true, decide_eq_true_eq, Bool.not_eq_true'] at ok
  refine ⟨?_, ok.1.2⟩
  cases P with
  | nil => cases ok.1.1.1
  | cons a r => exact Nat.succ_le_succ (Nat.zero_le _)
theorem all_fact {u v : List Nat} (hu : u ∈ perms) (hv : v ∈ perms) {P : List (List Nat)} (hP : P ∈ comps) :
    callF theDefs 12 ("_law_all_found" : Str) [.list ((cutOf v P).map swA), .str (sw u)] = some (.bool ((cutOf v P).all fun p => inOrd p u)) := by
  refine all_run (g := fun p => inOrd p u) (by rw [List.length_map]; have := comp_len hP; omega) fun w hw => ?_
  obtain ⟨p, hp, rfl⟩ := List.mem_map.mp hw
  obtain ⟨h1, h2, h3⟩ := comp_piece hP hp
  have hm := of_injW (map_lm_mem hv h2 h3)
  refine ⟨?_, match_fact hu hm.2.1 hm.2.2 fun e => h1 (List.map_eq_nil_iff.mp e)⟩
  have := nodup_len h2 h3
  rw [List.length_map]
  omega
theorem map_swA (φ : Nat → Nat) (P : List (List Nat)) : (P.map swA).map (mapA φ) = (P.map fun p => p.map φ).map swA := by
  rw [List.map_map, List.map_map]
  refine List.map_congr_left fun p _ => ?_
  show Atm.str (mapS φ (sw p)) = Atm.str (sw (p.map φ))
  rw [mapS_sw]
theorem map_ints (φ : Nat → Nat) (l : List Int) : (l.map Atm.int).map (mapA φ) = l.map Atm.int := by
  rw [List.map_map]; rfl
theorem pieces_fact {v : List Nat} (hv : v ∈ perms) {n f a : Nat} (hn : n < 5) (hf : f < 3) (ha : a < 3) :
    callF theDefs 12 ("_law_pieces" : Str) [.str (sw v), .list ((rulerOf (n + 1) (f + 1) a).map .int)] = some (.list ((cutOf v (piecesOf (n + 1) (f + 1) a)).map swA)) := by
  have h := pieces_tab
  simp only [List.all_eq_true, List.mem_range] at h
  have h' := of_callQ (isListV_eq (h n hn f hf a ha))
  have := cMap (lm_swap hv) theDefs 12 _ _ _ h' (by decide)
  simp only [List.map_cons, List.map_nil, mapV, mapA] at this
  rw [mapS_sw, abc_map hv, map_ints, map_swA] at this
  exact this
theorem ends_fact {v : List Nat} (hv : v ∈ perms) {P : List (List Nat)} (hP : P ∈ comps) : callF theDefs 12 ("_law_ends_found" : Str) [.list ((cutOf v P).map swA), .str (sw v)] = some (.bool true) := by
  have h := List.all_eq_true.mp ends_tab P hP
  have := cMap (lm_swap hv) theDefs 12 _ _ _ (of_callQ (isBoolV_eq h)) (by decide)
  simp only [List.map_cons, List.map_nil, mapV, mapA] at this
  rw [mapS_sw, abc_map hv, map_swA] at this
  exact this
theorem meet_fact {v : List Nat} (hv : v ∈ perms) : callF theDefs 12 ("_law_ends_meet" : Str) [.str (sw v)] = some (.bool true) := by
  have := cMap (lm_swap hv) theDefs 12 _ _ _ (of_callQ (isBoolV_eq meet_tab)) (by decide)
  simp only [List.map_cons, List.map_nil, mapV, mapA] at this
  rw [mapS_sw, abc_map hv] at this
  exact this
theorem sizes_fact {n f a : Nat} (hn : n < 5) (hf : f < 3) (ha : a < 3) : callF theDefs 12 ("_law_sizes" : Str) [.list ((rulerOf (n + 1) (f + 1) a).map .int)] = some (.list ((toldOf (n + 1) (f + 1) a).map .int)) := by
  have h := sizes_tab
  simp only [List.all_eq_true, List.mem_range] at h
  exact of_callQ (isListV_eq (h n hn f hf a ha))
end Mine
end
section
open PySem PySem.W PyProof.Rows PySem.Calls Builtin.Str
set_option backward.match.sparseCases false
set_option maxRecDepth 100000
namespace Mine

theorem contains_dots : Txt.contains (sw abc) ("..." : Str) = false := (containsQ_eq _ _).symm.trans (by decide +kernel)
theorem no_dots {v : List Nat} (hv : v ∈ perms) : Txt.contains (sw v) ("..." : Str) = false := by
  have h := contains_map (lm_swap hv) (sw abc) ("..." : Str)
  rw [dots_map (lm_swap hv), mapS_sw, abc_map hv] at h
  rw [h]; exact contains_dots
theorem match_kinds : rMatch.scope.names.lookup ("want" : Str) = some .local ∧ rMatch.scope.names.lookup ("got" : Str) = some .local ∧ rMatch.scope.names.lookup ("ELLIPSIS_MARKER" : Str) = some .globalImplicit := by decide +kernel
theorem sw_beq (v u : List Nat) : (sw v == sw u) = (v == u) := by
  rw [Bool.eq_iff_iff, beq_iff_eq, beq_iff_eq]
  constructor
  · intro h
    have := congrArg (fun s => s.cps.toList) h
    simpa [sw] using this
  · intro h; rw [h]
/-- without dots: just equality -/
theorem match_plain {k : Nat} {v u : List Nat} (hv : v ∈ perms) (hu : u ∈ perms) : callF theDefs (k + 1) ("_ellipsis_match" : Str) [.str (sw v), .str (sw u)] = some (.bool (v == u)) := by
  obtain ⟨k1, k2, k3⟩ := match_kinds
  refine call_runE (r := rMatch) (by decide) (by rfl) (by decide +kernel) (by rfl) ?_
  show Ends _ (exs (callF theDefs k) genF 40 (.If (.Compare (.Name "ELLIPSIS_MARKER" _) [.NotIn] [.Name "want" _] _) [.Return (some (.Compare (.Name "want" _) [.Eq] [.Name "got" _] _)) _] [] _ :: _) { kinds := rMatch.scope.names, val := [("want", .str (sw v)), ("got", .str (sw u))], tok := [], lit := false })
  have hlv := (of_injW hv).1
  refine ⟨_, d_stop (d_if (d := true) (d_trcmp (d_cmp (a := .str ("..." : Str)) (b := .str (sw v)) ?_ (d_name k1 (by decide) (by rfl) (.inl rfl)) ?_)) (d_stop (d_ret (v := .bool (v == u)) (d_compare (d_cmp (a := .str (sw v)) (b := .str (sw u)) (d_name k1 (by decide) (by rfl) (.inl rfl)) (d_name k2 (by decide) (by rfl) (.inl rfl)) ?_)) (.inl ⟨_, rfl⟩))))⟩
  · exact d_mark (x := "w") k3
  · show (if _ then some (!Txt.contains (sw v) ("..." : Str)) else none) = _
    rw [if_pos, no_dots hv]
    · rfl
    · rw [sw_length, hlv]; decide +kernel
  · show some (sw v == sw u) = _
    rw [sw_beq]

/-- a tree whose letters were changed -/
structure Good (t : Tr) : Prop where
  rows : callF theDefs 12 ("_law_rows" : Str) [.str (sw (textT t))] = some (.dict (rowsV t))
  hidden : ∀ x ∈ abc, ∀ y ∈ abc, x ≠ y → callF theDefs 12 ("_law_hidden_ones" : Str) [.str (sw (textT t)), .str (sw [x]), .str (sw [y])] = some (.bool true)
  lv : t.leaves ∈ perms
  len : (rowsT t).length = 16
  mem : ∀ x ∈ rowsT t, x.1 ∈ perms
  get : ∀ x ∈ rowsT t, dget (rowsV t) (sw x.1) = some x.2
theorem tree_tab : ∀ t ∈ trees, t.leaves = abc ∧ (rowsT t).length = 16 ∧ (∀ x ∈ rowsT t, dgetQ (rowsV t) (sw x.1) = some x.2) ∧ (textT t).length ≤ 64 := by decide +kernel
theorem leaves_map (f : Nat → Nat) : ∀ t : Tr, (t.map f).leaves = t.leaves.map f
  | .leaf c => rfl
  | .node l r => by simp [Tr.map, Tr.leaves, leaves_map f l, leaves_map f r]
theorem rowsV_map (f : Nat → Nat) (t : Tr) : rowsV (t.map f) = mapD f (rowsV t) := by
  unfold rowsV mapD
  rw [rowsT_map, List.map_map, List.map_map]
  refine List.map_congr_left fun x _ => ?_
  show (sw (x.1.map f), x.2) = (mapS f (sw x.1), x.2)
  rw [mapS_sw]
theorem good_of {t : Tr} (ht : t ∈ trees) {w : List Nat} (hw : w ∈ perms) : Good (t.map (lm w)) := by
  obtain ⟨h1, h2, h3, _⟩ := tree_tab t ht
  have htx : textT (t.map (lm w)) = (textT t).map (lm w) := textT_map (by unfold lm; rw [if_neg (by decide)]) (by unfold lm; rw [if_neg (by decide)]) t
  have hlv : (t.map (lm w)).leaves ∈ perms := by rw [leaves_map, h1, abc_map hw]; exact hw
  refine ⟨?_, ?_, hlv, ?_, ?_, ?_⟩
  · have := cMap (lm_swap hw) theDefs 12 _ _ _ (of_callQ (rows_tab t ht)) (by decide)
    simp only [List.map_cons, List.map_nil, mapV, mapA] at this
    rw [mapS_sw, ← rowsV_map, ← htx] at this
    exact this
  · intro x hx y hy hxy
    have hi := (inv_facts w hw).1
    have hx' := lm_mem hi hx
    have hy' := lm_mem hi hy
    have hne : lm (inv w) x ≠ lm (inv w) y := fun e => hxy (lm_inj hi hx hy e)
    have hh := hidden_all (textT t) (List.mem_map_of_mem ht)
    unfold hiddenOk at hh
    have h := List.all_eq_true.mp (List.all_eq_true.mp hh _ hx') _ hy'
    have hb : Nat.beq (lm (inv w) x) (lm (inv w) y) = false := Bool.eq_false_iff.mpr fun e => hne (Nat.beq_eq ▸ e)
    rw [hb, Bool.false_or] at h
    have := cMap (lm_swap hw) theDefs 12 _ _ _ (hidden_run (k := 9) h) (by decide)
    simp only [List.map_cons, List.map_nil, mapV, mapA] at this
    rw [mapS_sw, mapS_sw, mapS_sw, ← htx] at this
    simp only [List.map_cons, List.map_nil, (inv_all hw x).1, (inv_all hw y).1] at this
    exact this
  · rw [rowsT_map, List.length_map, h2]
  · intro x hx
    have p := rowsT_perm _ x hx
    have hm := of_injW hlv
    have := mem_injW (w := x.1) (fun c hc => hm.2.1 c (p.mem_iff.mp hc)) (p.nodup_iff.mpr hm.2.2)
    rwa [p.length_eq, hm.1] at this
  · intro x hx
    rw [rowsT_map] at hx
    obtain ⟨y, hy, rfl⟩ := List.mem_map.mp hx
    rw [rowsV_map, ← mapS_sw, dget_map (lm_swap hw), ← dgetQ_eq]
    exact h3 y hy
theorem text_good (x0 x1 x2 x3 : Int) : ∃ t, textOf x0 x1 x2 x3 = textT t ∧ Good t := by
  obtain ⟨t, ht, w, hw, e⟩ := text_class x0 x1 x2 x3
  exact ⟨t.map (lm w), by rw [e, textT_map (by unfold lm; rw [if_neg (by decide)]) (by unfold lm; rw [if_neg (by decide)])], good_of ht hw⟩
end Mine
end
section
open PySem PySem.W PyProof.Rows PySem.Calls Builtin.Str
set_option backward.match.sparseCases false
set_option maxRecDepth 100000
namespace Mine
variable {call : CallT} {gen : GenT} {n : Nat} {m m' m'' : ME} {a b c v : V} {p q : Pos}

/-- what the names hold -/
noncomputable def Has (m : ME) : List Str → List V → Prop
  | [], [] => True
  | x :: nm, v :: vs => m.val.lookup x = some v ∧ Has m nm vs
  | _, _ => False
theorem Has.get : ∀ {nm : List Str} {vs : List V} (i : Nat) {x : Str} {v : V}, Has m nm vs → nm[i]? = some x → vs[i]? = some v → m.val.lookup x = some v
  | [], [], i, x, v, _, h, _ => by cases i <;> cases h
  | [], _ :: _, i, x, v, h, _, _ => h.elim
  | _ :: _, [], i, x, v, h, _, _ => h.elim
  | y :: nm, u :: vs, 0, x, v, h, h1, h2 => by
    simp only [List.getElem?_cons_zero, Option.some.injEq] at h1 h2
    subst h1 h2; exact h.1
  | y :: nm, u :: vs, i + 1, x, v, h, h1, h2 => Has.get i h.2 h1 h2
theorem Has.other : ∀ {nm : List Str} {vs : List V} {x : Str} {u : V} {o : Bool}, Has m nm vs → hasS x nm = false → Has (m.set x u o) nm vs
  | [], [], _, _, _, _, _ => trivial
  | [], _ :: _, _, _, _, h, _ => h.elim
  | _ :: _, [], _, _, _, h, _ => h.elim
  | y :: nm, w :: vs, x, u, o, h, hx => by
    rw [hasS_eq, List.contains_cons, Bool.or_eq_false_iff] at hx
    refine ⟨set_oth ?_ h.1, Has.other h.2 (by rw [hasS_eq]; exact hx.2)⟩
    rw [beq_eq_false_iff_ne] at hx ⊢
    exact fun e => hx.1 e.symm
structure LS (m : ME) (nm : List Str) (vs : List V) : Prop where
  k : m.kinds = rLaw.scope.names
  lit : m.lit = true
  has : Has m nm vs
theorem LS.set {nm : List Str} {vs : List V} (S : LS m nm vs) (x : Str) (u : V) (o : Bool) (h : hasS x nm = false) : LS (m.set x u o) (x :: nm) (u :: vs) :=
  ⟨S.k, S.lit, set_self, S.has.other h⟩
theorem LS.get {nm : List Str} {vs : List V} (S : LS m nm vs) (i : Nat) {x : Str} (h1 : nm[i]? = some x) (h2 : vs[i]? = some v) : m.val.lookup x = some v := S.has.get i h1 h2

noncomputable abbrev lawK : List (Str × NameKind) := rLaw.scope.names
/-- the kinds of the law's names -/
structure LawKinds (K : List (Str × NameKind)) : Prop where
  kscript : K.lookup ("script" : Str) = some .local
  knumbers : K.lookup ("numbers" : Str) = some .local
  ktext : K.lookup ("text" : Str) = some .local
  knear : K.lookup ("near" : Str) = some .local
  kfar : K.lookup ("far" : Str) = some .local
  kagain : K.lookup ("again" : Str) = some .local
  kruler : K.lookup ("ruler" : Str) = some .local
  kbesides : K.lookup ("besides" : Str) = some .local
  kfound : K.lookup ("found" : Str) = some .local
  kown : K.lookup ("own" : Str) = some .local
  krows : K.lookup ("rows" : Str) = some .cell
  ksaid : K.lookup ("said" : Str) = some .cell
  khere : K.lookup ("here" : Str) = some .cell
  kthere : K.lookup ("there" : Str) = some .cell
  krow : K.lookup ("row" : Str) = some .cell
  kpieces : K.lookup ("pieces" : Str) = some .cell
  klist : K.lookup ("list" : Str) = some .globalImplicit
  klen : K.lookup ("len" : Str) = some .globalImplicit
  k_law_text : K.lookup ("_law_text" : Str) = some .globalImplicit
  k_law_rows : K.lookup ("_law_rows" : Str) = some .globalImplicit
  ksorted : K.lookup ("sorted" : Str) = some .globalImplicit
  krange : K.lookup ("range" : Str) = some .globalImplicit
  k_law_hidden_ones : K.lookup ("_law_hidden_ones" : Str) = some .globalImplicit
  k_law_sizes : K.lookup ("_law_sizes" : Str) = some .globalImplicit
  k_law_refused : K.lookup ("_law_refused" : Str) = some .globalImplicit
  k_law_pieces : K.lookup ("_law_pieces" : Str) = some .globalImplicit
  k_law_ends_found : K.lookup ("_law_ends_found" : Str) = some .globalImplicit
  k_law_ends_meet : K.lookup ("_law_ends_meet" : Str) = some .globalImplicit
  k_law_all_found : K.lookup ("_law_all_found" : Str) = some .globalImplicit
  ksum : K.lookup ("sum" : Str) = some .globalImplicit
theorem lk_all : lookS ("script" : Str) lawK = some .local ∧ lookS ("numbers" : Str) lawK = some .local ∧ lookS ("text" : Str) lawK = some .local ∧ lookS ("near" : Str) lawK = some .local ∧ lookS ("far" : Str) lawK = some .local ∧ lookS ("again" : Str) lawK = some .local ∧ lookS ("ruler" : Str) lawK = some .local ∧ lookS ("besides" : Str) lawK = some .local ∧ lookS ("found" : Str) lawK = some .local ∧ lookS ("own" : Str) lawK = some .local ∧ lookS ("rows" : Str) lawK = some .cell ∧ lookS ("said" : Str) lawK = some .cell ∧ lookS ("here" : Str) lawK = some .cell ∧ lookS ("there" : Str) lawK = some .cell ∧ lookS ("row" : Str) lawK = some .cell ∧ lookS ("pieces" : Str) lawK = some .cell ∧ lookS ("list" : Str) lawK = some .globalImplicit ∧ lookS ("len" : Str) lawK = some .globalImplicit ∧ lookS ("_law_text" : Str) lawK = some .globalImplicit ∧ lookS ("_law_rows" : Str) lawK = some .globalImplicit ∧ lookS ("sorted" : Str) lawK = some .globalImplicit ∧ lookS ("range" : Str) lawK = some .globalImplicit ∧ lookS ("_law_hidden_ones" : Str) lawK = some .globalImplicit ∧ lookS ("_law_sizes" : Str) lawK = some .globalImplicit ∧ lookS ("_law_refused" : Str) lawK = some .globalImplicit ∧ lookS ("_law_pieces" : Str) lawK = some .globalImplicit ∧ lookS ("_law_ends_found" : Str) lawK = some .globalImplicit ∧ lookS ("_law_ends_meet" : Str) lawK = some .globalImplicit ∧ lookS ("_law_all_found" : Str) lawK = some .globalImplicit ∧ lookS ("sum" : Str) lawK = some .globalImplicit := by decide +kernel
theorem lk : LawKinds lawK := by
  have h := lk_all
  simp only [lookS_eq] at h
  obtain ⟨h0, h1, h2, h3, h4, h5, h6, h7, h8, h9, h10, h11, h12, h13, h14, h15, h16, h17, h18, h19, h20, h21, h22, h23, h24, h25, h26, h27, h28, h29⟩ := h
  exact ⟨h0, h1, h2, h3, h4, h5, h6, h7, h8, h9, h10, h11, h12, h13, h14, h15, h16, h17, h18, h19, h20, h21, h22, h23, h24, h25, h26, h27, h28, h29⟩
theorem LS.K {nm : List Str} {vs : List V} (S : LS m nm vs) : LawKinds m.kinds := by rw [S.k]; exact lk
end Mine
end
section
open PySem PySem.W PyProof.Rows PySem.Calls Builtin.Str
set_option backward.match.sparseCases false
set_option maxRecDepth 100000
namespace Mine
variable {call : CallT} {gen : GenT} {n : Nat} {m m' m'' : ME} {a b c v : V} {p q : Pos}

noncomputable def lawSt (i : Nat) : Stmt := rLaw.body.getD i (.Break default)

theorem d_slice_to {e : Expr} {o : V} {i : Int} {j : Nat} {pc ps : Pos} (hv : ev call (n + 1) e m = some o) (hl : m.lit = true) (h : slice o none (some i) = some c) :
    ev call (n + 2) (.Subscript e (.Slice none (some (.Constant (.int i) j pc)) none ps) p) m = some c := by
  show evSlice (ev call (n + 1) e m) (some none) (evPart (fun e => ev call (n + 1) e m) (some (.Constant (.int i) j pc))) = _
  rw [hv, part_some (d_const (v := .int i) (by rw [hl]; rfl) rfl)]
  exact h
theorem d_slice_from {e f : Expr} {o : V} {i : Int} {ps : Pos} (hv : ev call n e m = some o) (hi : ev call n f m = some (.int i)) (h : slice o (some i) none = some c) :
    ev call (n + 1) (.Subscript e (.Slice (some f) none none ps) p) m = some c := by
  show evSlice (ev call n e m) (evPart (fun e => ev call n e m) (some f)) (some none) = _
  rw [hv, part_some hi]
  exact h
noncomputable def compF (call : CallT) (n : Nat) (elt : Expr) (scope : Scope) (m : ME) (x : Str) (ifs : List Expr) (v : V) : Option (Option Atm) :=
  (atom v).bind fun a => evElt (allM (fun c => tr call n c (compME scope m x a))) (ev call n elt (compME scope m x a)) ifs
theorem d_comp {elt iter : Expr} {x : Str} {px : Pos} {ifs : List Expr} {scope : Scope} {items : List V} {l : List Atm} (hok : okComp scope m x = true) (hits : its call n iter m = some items) (hlen : items.length ≤ 4096)
    (hc : compM (compF call n elt scope m x ifs) items = some l) : ev call (n + 1) (.ListComp elt [⟨.Name x px, iter, ifs, 0⟩] scope p) m = some (.list l) := by
  show (if okComp scope m x then evItems (fun a => evElt (allM (fun c => tr call n c (compME scope m x a))) (ev call n elt (compME scope m x a)) ifs) (its call n iter m) else none) = _
  rw [if_pos hok, hits]
  show (if items.length ≤ 4096 then (compM (compF call n elt scope m x ifs) items).map V.list else none) = _
  rw [if_pos hlen, hc]; rfl
theorem compM_list {α : Type} {f : V → Option (Option Atm)} {g : α → V} {k : α → Option Atm} : ∀ {l : List α}, (∀ x ∈ l, f (g x) = some (k x)) → compM f (l.map g) = some (l.filterMap k)
  | [], _ => rfl
  | x :: r, h => by
    have hx := h x (List.mem_cons_self ..)
    have ih := compM_list (l := r) fun y hy => h y (List.mem_cons_of_mem _ hy)
    show (f (g x)).bind _ = _
    rw [hx, List.filterMap_cons]
    cases k x with
    | none => exact ih
    | some y =>
      show (compM f (r.map g)).map _ = _
      rw [ih]; rfl
theorem compF_all {elt : Expr} {scope : Scope} {x : Str} {y z : Atm} (h : ev call n elt (compME scope m x y) = some (.at z)) : compF call n elt scope m x [] (.at y) = some (some z) := by
  show ((ev call n elt (compME scope m x y)).bind atom).bind (fun a => some (some a)) = _
  rw [h]; rfl
theorem comp_self {scope : Scope} {x : Str} {y : Atm} : (compME scope m x y).val.lookup x = some (.at y) := by
  unfold compME
  simp only [List.lookup_cons, beq_self_eq_true]
theorem filter_look (K : List (Str × NameKind)) (y : Str) (hk : (K.lookup y == some .local) = false) : ∀ l : List (Str × V), (l.filter fun kv => !(K.lookup kv.1 == some .local)).lookup y = l.lookup y
  | [] => rfl
  | (z, u) :: r => by
    rw [List.filter_cons]
    by_cases e : y = z
    · subst e
      rw [hk]
      simp
    · have hb : (y == z) = false := beq_eq_false_iff_ne.mpr e
      split
      · rw [List.lookup_cons, List.lookup_cons, hb, filter_look K y hk r]
      · rw [List.lookup_cons, hb, filter_look K y hk r]
theorem comp_other {scope : Scope} {x y : Str} {z : Atm} (hx : (y == x) = false) (hk : ((relab scope m.kinds).lookup y == some .local) = false) (h : m.val.lookup y = some v) : (compME scope m x z).val.lookup y = some v := by
  unfold compME
  dsimp only
  rw [List.lookup_cons, hx]
  dsimp only
  rw [filter_look _ _ hk]
  exact h
theorem d_its {e : Expr} {l : List V} (hne : ∀ f pf args p, e = .Call (.Name f pf) args [] p → False) (h : ev call n e m = some v) (hi : iterOf v = some l) : its call (n + 1) e m = some l := by
  show (callName e).elim ((ev call n e m).bind iterOf) _ = _
  cases q : callName e with
  | none =>
    show (ev call n e m).bind iterOf = _
    rw [h]; exact hi
  | some q' => exact (hne _ _ _ _ (callName_eq q)).elim
theorem slice_list {l : List Atm} {x y : Option Int} (hl : l.length ≤ 4096) (hx : small x = true) (hy : small y = true) : slice (.list l) x y = some (.list (listSlice l x y)) := by
  show (if (small x && small y) = true then (if l.length ≤ sizeCap then some (V.list (listSlice l x y)) else none) else none) = _
  rw [hx, hy, if_pos (show (true && true) = true from rfl)]
  exact if_pos hl

theorem blt_list {l : List Atm} (h : l.length ≤ 4096) : builtin1 ("list" : Str) (.list l) = some (.list l) := by
  have h1 : (("list" : Str) == ("len" : Str)) = false := by decide
  have h2 : (("list" : Str) == ("list" : Str)) = true := by decide
  unfold builtin1
  rw [h1, h2]
  exact if_pos h
/-- the numbers of the script -/
noncomputable def numsOf (ns : List Int) : List Int := (ns.take 7 ++ ([7, 11, 3, 1, 5, 6, 4] : List Int).drop (ns.take 7).length).map fun x => x.fmod 1000000
theorem nums_len (ns : List Int) : (numsOf ns).length = 7 := by
  unfold numsOf
  rw [List.length_map, List.length_append, List.length_drop, List.length_take]
  simp only [List.length_cons, List.length_nil]
  omega
theorem nums_ok (ns : List Int) : ∀ x ∈ numsOf ns, 0 ≤ x ∧ x < 1000000 := by
  intro x hx
  obtain ⟨y, _, rfl⟩ := List.mem_map.mp hx
  exact ⟨Int.fmod_nonneg_of_pos _ (by decide), Int.fmod_lt_of_pos _ (by decide)⟩
theorem slice7 (ns : List Int) : listSlice (ns.map Atm.int) none (some 7) = (ns.take 7).map Atm.int := by
  unfold listSlice
  show ((ns.map Atm.int).drop 0).take (clipAt (ns.map Atm.int).length 7 - 0) = _
  rw [List.drop_zero, Nat.sub_zero, List.length_map]
  have : clipAt ns.length 7 = min 7 ns.length := by unfold clipAt; simp; omega
  rw [this, List.map_take]
  rcases Nat.le_total 7 ns.length with h | h
  · rw [Nat.min_eq_left h]
  · rw [Nat.min_eq_right h, List.take_of_length_le (by simp), List.take_of_length_le (by simpa using h)]
theorem slice_from (k : Nat) (hk : k ≤ 7) (l : List Int) (hl : l.length = 7) : listSlice (l.map Atm.int) (some (k : Int)) none = (l.drop k).map Atm.int := by
  unfold listSlice
  show ((l.map Atm.int).drop (clipAt (l.map Atm.int).length k)).take ((l.map Atm.int).length - clipAt (l.map Atm.int).length k) = _
  have : clipAt (l.map Atm.int).length k = k := by rw [List.length_map, hl]; unfold clipAt; simp; omega
  rw [this, List.take_of_length_le (by simp), List.map_drop]

theorem st0 {ns : List Int} (hl : ns.length ≤ 63) : Goes (fun m' => LS m' ["numbers", "script"] [.list ((numsOf ns).map .int), .list (ns.map .int)]) (ex call gen (n + 20) (lawSt 0) (lawM (ns.map .int))) := by
  have S : LS (lawM (ns.map .int)) ["script"] [.list (ns.map .int)] := ⟨rfl, rfl, by show _ ∧ True; exact ⟨by simp [lawM], trivial⟩⟩
  generalize lawM (ns.map .int) = m at *
  show Goes _ (ex call gen (n + 20) (.Assign [.Name "numbers" _] (.ListComp (.BinOp (.Name "x" _) .Mod (.BinOp (.Constant (.int 10) 0 _) .Pow (.Constant (.int 6) 0 _) _) _) [⟨.Name "x" _, .BinOp (.Call (.Name "list" _) [.Subscript (.Name "script" _) (.Slice none (some (.Constant (.int 7) 0 _)) none _) _] [] _) .Add (.Subscript (.List [.Constant (.int 7) 0 _, .Constant (.int 11) 0 _, .Constant (.int 3) 0 _, .Constant (.int 1) 0 _, .Constant (.int 5) 0 _, .Constant (.int 6) 0 _, .Constant (.int 4) 0 _] _) (.Slice (some (.Call (.Name "len" _) [.Subscript (.Name "script" _) (.Slice none (some (.Constant (.int 7) 0 _)) none _) _] [] _)) none none _) _) _, [], 0⟩] _ _) _) m)
  have hscr : m.val.lookup ("script" : Str) = some (.list (ns.map .int)) := S.get 0 rfl rfl
  have K := S.K
  have hc : ∀ {n : Nat} {i : Int} {j : Nat} {q : Pos}, ev call (n + 1) (.Constant (.int i) j q) m = some (.int i) := fun {n i j q} => d_const (by rw [S.lit]; rfl) rfl
  have h7 : ∀ {n : Nat} {j : Nat} {p1 p2 p3 p4 : Pos}, ev call (n + 2) (.Subscript (.Name "script" p1) (.Slice none (some (.Constant (.int 7) j p2)) none p3) p4) m = some (.list ((ns.take 7).map .int)) := fun {n j p1 p2 p3 p4} =>
    d_slice_to (d_name K.kscript (by decide) hscr (.inl rfl)) S.lit (by rw [slice_list (by rw [List.length_map]; omega) rfl rfl, slice7])
  have hlen7 : ((ns.take 7).map Atm.int).length = (ns.take 7).length := List.length_map ..
  have hle : (ns.take 7).length ≤ 7 := by rw [List.length_take]; omega
  refine ⟨_, d_comp_assign (l := (numsOf ns).map .int) (d_comp (items := ((ns.take 7 ++ ([7, 11, 3, 1, 5, 6, 4] : List Int).drop (ns.take 7).length)).map fun i => V.int i) ?_ ?_ ?_ ?_) rfl rfl ?_, S.set _ _ _ (by decide +kernel)⟩
  · unfold okComp; rw [S.k]; decide +kernel
  · refine d_its (v := .list ((ns.take 7 ++ ([7, 11, 3, 1, 5, 6, 4] : List Int).drop (ns.take 7).length).map .int)) (by intro f pf args p h; cases h) (d_bin (a := .list ((ns.take 7).map .int)) (b := .list ((([7, 11, 3, 1, 5, 6, 4] : List Int).drop (ns.take 7).length).map .int)) (d_builtin (a := .list ((ns.take 7).map .int)) K.klist (by decide) (by rw [S.lit]; rfl) (s_cons h7 s_nil) (by decide) ?_) (d_slice_from (o := .list (([7, 11, 3, 1, 5, 6, 4] : List Int).map .int)) (i := ((ns.take 7).length : Int)) (d_list (s_cons (a_of hc) (s_cons (a_of hc) (s_cons (a_of hc) (s_cons (a_of hc) (s_cons (a_of hc) (s_cons (a_of hc) (s_cons (a_of hc) s_nil))))))) (by decide)) (d_builtin (a := .list ((ns.take 7).map .int)) K.klen (by decide) (by rw [S.lit]; rfl) (s_cons h7 s_nil) (by decide) ?_) ?_) ?_) ?_
    · exact blt_list (by rw [hlen7]; omega)
    · rw [len_list (by rw [hlen7]; omega), hlen7]
    · rw [slice_list (by decide) (by unfold small; simp; omega) rfl, slice_from _ hle _ rfl]
    · show (if _ then _ else _) = _
      rw [if_pos (by simp [sizeCap, isAdd]; omega), ← List.map_append]
    · show some (List.map V.at _) = _
      rw [List.map_map]; rfl
  · rw [List.length_map, List.length_append, List.length_drop]; simp; omega
  · have : (numsOf ns).map Atm.int = ((ns.take 7 ++ ([7, 11, 3, 1, 5, 6, 4] : List Int).drop (ns.take 7).length)).filterMap fun i => some (Atm.int (i.fmod 1000000)) := by
      unfold numsOf; rw [List.map_map, List.filterMap_eq_map']; rfl
    rw [this]
    refine compM_list fun i _ => compF_all ?_
    refine d_bin (a := .int i) (b := .int 1000000) (d_name (k := .local) ?_ (by decide) comp_self (.inl rfl)) (d_bin (a := .int 10) (b := .int 6) (d_const (by show (m.lit || _) = true; rw [S.lit]; rfl) rfl) (d_const (by show (m.lit || _) = true; rw [S.lit]; rfl) rfl) rfl) (bin_mod (by decide))
    show (relab _ m.kinds).lookup _ = _
    rw [S.k]; decide +kernel
  · unfold swapOk; rw [S.k]; decide +kernel
end Mine
end
section
open PySem PySem.W PyProof.Rows PySem.Calls Builtin.Str
set_option backward.match.sparseCases false
set_option maxRecDepth 100000
namespace Mine
variable {call : CallT} {gen : GenT} {n : Nat} {m m' m'' : ME} {a b c v : V} {p q : Pos}

theorem len_dict {l : List (Str × Int)} (h : l.length ≤ 4096) : builtin1 ("len" : Str) (.dict l) = some (.int (l.length : Int)) := by
  show (capN l.length).map (fun (n : Nat) => V.int (n : Int)) = _
  rw [show capN l.length = some l.length from if_pos h]; rfl
theorem insStr_mem (x y : Str) : ∀ l : List Str, y ∈ insStr x l ↔ y = x ∨ y ∈ l
  | [] => by simp [insStr]
  | z :: r => by
    unfold insStr
    split
    · simp
    · rw [List.mem_cons, insStr_mem x y r, List.mem_cons]
      constructor
      · rintro (h | h | h)
        · exact .inr (.inl h)
        · exact .inl h
        · exact .inr (.inr h)
      · rintro (h | h | h)
        · exact .inr (.inl h)
        · exact .inl h
        · exact .inr (.inr h)
theorem insStr_len (x : Str) : ∀ l : List Str, (insStr x l).length = l.length + 1
  | [] => rfl
  | z :: r => by
    unfold insStr
    split
    · rfl
    · rw [List.length_cons, insStr_len x r, List.length_cons]
theorem sort_len : ∀ l : List Str, (sortStr l).length = l.length
  | [] => rfl
  | x :: r => by
    show (insStr x (sortStr r)).length = _
    rw [insStr_len, sort_len r]; rfl
theorem sort_mem (y : Str) : ∀ l : List Str, y ∈ sortStr l ↔ y ∈ l
  | [] => Iff.rfl
  | x :: r => by
    show y ∈ insStr x (sortStr r) ↔ _
    rw [insStr_mem, sort_mem y r, List.mem_cons]
theorem blt_sorted {d : List (Str × Int)} (h : d.length < 64) : builtin1 ("sorted" : Str) (.dict d) = some (.list ((sortStr (d.map (·.1))).map .str)) := by
  have h1 : (("sorted" : Str) == ("len" : Str)) = false := by decide
  have h2 : (("sorted" : Str) == ("list" : Str)) = false := by decide
  have h3 : (("sorted" : Str) == ("sum" : Str)) = false := by decide
  simp only [builtin1, h1, h2, h3, beq_self_eq_true, Bool.false_eq_true, if_false, if_true]
  exact if_pos h

noncomputable abbrev nums7 (n0 n1 n2 n3 n4 n5 n6 : Int) : V := .list [.int n0, .int n1, .int n2, .int n3, .int n4, .int n5, .int n6]
variable {n0 n1 n2 n3 n4 n5 n6 : Int} {nm : List Str} {vs : List V}

theorem st1 {as : V} (S : LS m ["numbers", "script"] [nums7 n0 n1 n2 n3 n4 n5 n6, as]) (h0 : 0 ≤ n0 ∧ n0 < 1000000) (h1 : 0 ≤ n1 ∧ n1 < 1000000) (h2 : 0 ≤ n2 ∧ n2 < 1000000) (h3 : 0 ≤ n3 ∧ n3 < 1000000) :
    Goes (fun m' => LS m' ["text", "numbers", "script"] [.str (sw (textOf n0 n1 n2 n3)), nums7 n0 n1 n2 n3 n4 n5 n6, as]) (ex lawCall gen (n + 20) (lawSt 1) m) := by
  show Goes _ (ex lawCall gen (n + 20) (.Assign [.Name "text" _] (.Call (.Name "_law_text" _) [.Subscript (.Name "numbers" _) (.Slice none (some (.Constant (.int 4) 0 _)) none _) _] [] _) _) m)
  have K := S.K
  exact ⟨_, d_assign (v := .str (sw (textOf n0 n1 n2 n3))) K.ktext (.inl rfl) (d_call K.k_law_text (by decide) (by rw [S.lit]; rfl) (s_cons (d_slice_to (c := .list [.int n0, .int n1, .int n2, .int n3]) (d_name K.knumbers (by decide) (S.get 0 rfl rfl) (.inl rfl)) S.lit rfl) s_nil) (by decide) (by decide) (text_run h0 h1 h2 h3)) rfl rfl (.inl rfl), S.set _ _ _ (by decide +kernel)⟩
theorem st2 {t : Tr} (G : Good t) {u1 u2 : V} (S : LS m ["text", "numbers", "script"] [.str (sw (textT t)), u1, u2]) :
    Goes (fun m' => LS m' ["rows", "text", "numbers", "script"] [.dict (rowsV t), .str (sw (textT t)), u1, u2]) (ex lawCall gen (n + 20) (lawSt 2) m) := by
  show Goes _ (ex lawCall gen (n + 20) (.Assign [.Name "rows" _] (.Call (.Name "_law_rows" _) [.Name "text" _] [] _) _) m)
  have K := S.K
  exact ⟨_, d_assign (v := .dict (rowsV t)) K.krows (.inr rfl) (d_call K.k_law_rows (by decide) (by rw [S.lit]; rfl) (s_cons (d_name K.ktext (by decide) (S.get 0 rfl rfl) (.inl rfl)) s_nil) (by decide) (by decide) G.rows) rfl rfl (.inr rfl), S.set _ _ _ (by decide +kernel)⟩
theorem rowsV_len {t : Tr} (G : Good t) : (rowsV t).length = 16 := by unfold rowsV; rw [List.length_map, G.len]
theorem st3 {t : Tr} (G : Good t) (S : LS m ("rows" :: nm) (.dict (rowsV t) :: vs)) : Goes (fun m' => LS m' ("rows" :: nm) (.dict (rowsV t) :: vs)) (ex lawCall gen (n + 20) (lawSt 3) m) := by
  show Goes _ (ex lawCall gen (n + 20) (.If (.Compare (.Call (.Name "len" _) [.Name "rows" _] [] _) [.NotEq] [.Constant (.int 16) 0 _] _) _ [] _) m)
  have K := S.K
  refine ⟨m, d_if (d := false) (d_trcmp (d_cmp (a := .int 16) (b := .int 16) (d_builtin (a := .dict (rowsV t)) K.klen (by decide) (by rw [S.lit]; rfl) (s_cons (d_name K.krows (by decide) (S.get 0 rfl rfl) (.inr (.inl rfl))) s_nil) (by decide) ?_) (d_const (by rw [S.lit]; rfl) rfl) rfl)) d_nil, S⟩
  rw [len_dict (by rw [rowsV_len G]; decide), rowsV_len G]; rfl
theorem idx_in {α : Type} {l : List α} {i : Int} (h0 : 0 ≤ i) (h1 : i < l.length) : ∃ h : i.toNat < l.length, idx l i = some l[i.toNat] := by
  have h : i.toNat < l.length := by omega
  exact ⟨h, by unfold idx; rw [if_pos h0, List.getElem?_eq_getElem h]⟩
theorem st4 {t : Tr} (G : Good t) {u1 u2 : V} (S : LS m ["rows", "text", "numbers", "script"] [.dict (rowsV t), u1, nums7 n0 n1 n2 n3 n4 n5 n6, u2]) :
    ∃ x ∈ rowsT t, Goes (fun m' => LS m' ["said", "rows", "text", "numbers", "script"] [.str (sw x.1), .dict (rowsV t), u1, nums7 n0 n1 n2 n3 n4 n5 n6, u2]) (ex lawCall gen (n + 20) (lawSt 4) m) := by
  have hk0 := Int.fmod_nonneg_of_pos n4 (show (0 : Int) < 16 by decide)
  have hk1 := Int.fmod_lt_of_pos n4 (show (0 : Int) < 16 by decide)
  have hL : (sortStr ((rowsV t).map (·.1))).length = 16 := by rw [sort_len, List.length_map, rowsV_len G]
  obtain ⟨hi, he⟩ := idx_in (l := sortStr ((rowsV t).map (·.1))) hk0 (by rw [hL]; exact hk1)
  have hm := (sort_mem _ _).mp (List.getElem_mem hi)
  obtain ⟨y, hy, hye⟩ := List.mem_map.mp hm
  obtain ⟨x, hx, rfl⟩ := List.mem_map.mp hy
  refine ⟨x, hx, ?_⟩
  show Goes _ (ex lawCall gen (n + 20) (.Assign [.Name "said" _] (.Subscript (.Call (.Name "sorted" _) [.Name "rows" _] [] _) (.BinOp (.Subscript (.Name "numbers" _) (.Constant (.int 4) 0 _) _) .Mod (.Constant (.int 16) 0 _) _) _) _) m)
  have K := S.K
  have hc : ∀ {n : Nat} {i : Int} {j : Nat} {q : Pos}, ev lawCall (n + 1) (.Constant (.int i) j q) m = some (.int i) := fun {n i j q} => d_const (by rw [S.lit]; rfl) rfl
  refine ⟨_, d_assign (v := .str (sw x.1)) K.ksaid (.inr rfl) (d_item (x := .list ((sortStr ((rowsV t).map (·.1))).map .str)) (y := .int (n4.fmod 16)) (d_builtin (a := .dict (rowsV t)) K.ksorted (by decide) (by rw [S.lit]; rfl) (s_cons (d_name K.krows (by decide) (S.get 0 rfl rfl) (.inr (.inl rfl))) s_nil) (by decide) (blt_sorted (by rw [rowsV_len G]; decide)))
    (d_bin (a := .int n4) (b := .int 16) (d_item (x := nums7 n0 n1 n2 n3 n4 n5 n6) (y := .int 4) (d_name K.knumbers (by decide) (S.get 2 rfl rfl) (.inl rfl)) hc (by intro _ _ _ h; cases h) (by intro _ _ h; cases h) rfl) hc (bin_mod (by decide))) (by intro _ _ _ h; cases h) (by intro _ _ h; cases h) ?_) rfl rfl (.inl rfl), S.set _ _ _ (by decide +kernel)⟩
  show (if _ then (idx _ _).map V.at else none) = _
  rw [if_pos (by rw [List.length_map, hL]; decide), idx_map, he]
  show some (V.at (Atm.str _)) = _
  rw [← hye]
/-- here and there -/
theorem st56 {d : Int} {nme : Str} (hd : 0 < d) (hd' : d < 1000000) (h4 : 0 ≤ n4 ∧ n4 < 1000000) {tl : List Str} {tv : List V} {j : Nat} (S : LS m tl tv) (hj1 : tl[j]? = some ("numbers" : Str)) (hj2 : tv[j]? = some (nums7 n0 n1 n2 n3 n4 n5 n6)) (hnew : hasS nme tl = false)
    (hk : m.kinds.lookup nme = some .cell) {p1 p2 p3 p4 p5 p6 p7 p8 p9 : Pos} :
    Goes (fun m' => LS m' (nme :: tl) (.int ((n4.fdiv d).fmod 5) :: tv)) (ex lawCall gen (n + 20) (.Assign [.Name nme p1] (.BinOp (.BinOp (.Subscript (.Name "numbers" p2) (.Constant (.int 4) 0 p3) p4) .FloorDiv (.Constant (.int d) 0 p5) p6) .Mod (.Constant (.int 5) 0 p7) p8) p9) m) := by
  have K := S.K
  have hc : ∀ {n : Nat} {i : Int} {j : Nat} {q : Pos}, ev lawCall (n + 1) (.Constant (.int i) j q) m = some (.int i) := fun {n i j q} => d_const (by rw [S.lit]; rfl) rfl
  exact ⟨_, d_assign (v := .int ((n4.fdiv d).fmod 5)) hk (.inr rfl) (d_bin (d_bin (a := .int n4) (b := .int d) (d_item (x := nums7 n0 n1 n2 n3 n4 n5 n6) (y := .int 4) (d_name K.knumbers (by decide) (S.get j hj1 hj2) (.inl rfl)) hc (by intro _ _ _ h; cases h) (by intro _ _ h; cases h) rfl) hc (bin_div hd h4.1 h4.2 hd')) hc (bin_mod (by decide))) rfl rfl (.inl rfl), S.set _ _ _ hnew⟩
end Mine
end
section
open PySem PySem.W PyProof.Rows PySem.Calls Builtin.Str
set_option backward.match.sparseCases false
set_option maxRecDepth 100000
namespace Mine
variable {call : CallT} {gen : GenT} {n : Nat} {m m' m'' : ME} {a b c v : V} {p q : Pos}
variable {n0 n1 n2 n3 n4 n5 n6 : Int} {nm : List Str} {vs : List V}

theorem d_get {k1 k2 v1 v2 x y : Expr} {i1 j1 i2 j2 a b : Int} {pd ap : Pos} (hp : (ap.endLine == p.line) = true) (e1 : ev call n k1 m = some (.int i1)) (e2 : ev call n v1 m = some (.int j1)) (e3 : ev call n k2 m = some (.int i2)) (e4 : ev call n v2 m = some (.int j2)) (e5 : ev call n x m = some (.int a)) (e6 : ev call n y m = some (.int b)) :
    ev call (n + 1) (.Call (.Attribute (.Dict [some k1, some k2] [v1, v2] pd) ("get" : Str) ap) [x, y] [] p) m = some (.int (if a = i2 then j2 else if a = i1 then j1 else b)) := by
  show (if ap.endLine == p.line then evAttr (fun e => ev call n e m) (.Dict [some k1, some k2] [v1, v2] pd) ("get" : Str) [x, y] m else none) = _
  rw [if_pos hp]
  unfold evAttr
  rw [if_pos (by simp)]
  show evGet (ev call n k1 m) (ev call n v1 m) (ev call n k2 m) (ev call n v2 m) (ev call n x m) (ev call n y m) = _
  rw [e1, e2, e3, e4, e5, e6]
  rfl
theorem d_range {e : Expr} {pf : Pos} {i : Int} (hk : m.kinds.lookup ("range" : Str) = some .globalImplicit) (h : ev call n e m = some (.int i)) (h0 : 0 ≤ i) (h1 : i ≤ 4096) : its call (n + 1) (.Call (.Name ("range" : Str) pf) [e] [] p) m = some (rangeOf 0 i) := by
  have hs : seqM (fun e => ev call n e m) [e] = some [.int i] := s_cons h s_nil
  show (if (("range" : Str) == ("range" : Str) && m.kinds.lookup ("range" : Str) == some .globalImplicit) = true then (seqM (fun e => ev call n e m) [e]).bind rangeItems else none) = _
  rw [hk, hs, if_pos (by decide)]
  exact if_pos (by simp [h0, h1])
theorem strs_sw (w : List Nat) : strsOf (w.map fun c => Atm.str ⟨#[c]⟩) = some (w.map fun c => (⟨#[c]⟩ : Str)) := by
  induction w with
  | nil => rfl
  | cons c r ih => simp only [List.map_cons, strsOf, ih, Option.map]
theorem join_sw : ∀ w : List Nat, Txt.join ("" : Str) (w.map fun c => (⟨#[c]⟩ : Str)) = sw w := by
  intro w
  show glued _ _ = _
  rw [StrLaws.glued_eq_join]
  have e : ("" : Str) = sw [] := rfl
  rw [e]
  induction w with
  | nil => rfl
  | cons c r ih =>
    cases r with
    | nil => rfl
    | cons d r =>
      show (⟨#[c]⟩ : Str) ++ sw [] ++ Str.join (sw []) ((d :: r).map fun c => (⟨#[c]⟩ : Str)) = _
      rw [ih]
      show (sw [c] ++ sw []) ++ sw (d :: r) = _
      rw [sw_append, sw_append]; rfl
theorem meth_joinL {w : List Nat} (hw : w.length ≤ 64) : meth ("join" : Str) (.str ("" : Str)) [.list (w.map fun c => Atm.str ⟨#[c]⟩)] = some (.str (sw w)) := by
  have h1 : (("join" : Str) == ("join" : Str)) = true := by simp
  show methL ("join" : Str) ("" : Str) (w.map fun c => Atm.str ⟨#[c]⟩) = _
  unfold methL
  rw [if_pos h1, strs_sw]
  show (if _ then _ else _) = _
  rw [if_pos, join_sw]
  simp only [Bool.and_eq_true, decide_eq_true_eq, List.all_eq_true, List.length_map]
  refine ⟨⟨by decide +kernel, hw⟩, fun x hx => ?_⟩
  obtain ⟨c, _, rfl⟩ := List.mem_map.mp hx
  show 1 ≤ 64
  decide

/-- two places changed -/
noncomputable def swapI (h g k : Int) : Int := if k = g then h else if k = h then g else k
noncomputable def swapW (h g : Int) (s : List Nat) : List Nat := ([0, 1, 2, 3, 4] : List Int).map fun k => s.getD (swapI h g k).toNat 0
theorem swap_tab : ∀ h < 5, ∀ g < 5, perms.contains (swapW ((h : Nat) : Int) ((g : Nat) : Int) abc) = true := by decide +kernel
theorem swapI_in {h g k : Int} (hh : 0 ≤ h ∧ h < 5) (hg : 0 ≤ g ∧ g < 5) (hk : 0 ≤ k ∧ k < 5) : 0 ≤ swapI h g k ∧ swapI h g k < 5 := by
  unfold swapI
  split
  · exact hh
  · split
    · exact hg
    · exact hk
theorem swapW_perm {h g : Int} (hh : 0 ≤ h ∧ h < 5) (hg : 0 ≤ g ∧ g < 5) {s : List Nat} (hs : s ∈ perms) : swapW h g s ∈ perms := by
  have e : swapW h g s = (swapW h g abc).map (lm s) := by
    unfold swapW
    rw [List.map_map]
    refine List.map_congr_left fun k hk => ?_
    have hk' : 0 ≤ k ∧ k < 5 := by
      simp only [List.mem_cons, List.not_mem_nil, or_false] at hk; omega
    have hi := swapI_in hh hg hk'
    have : (swapI h g k).toNat < abc.length := by show _ < 5; omega
    show s.getD _ 0 = lm s (abc.getD _ 0)
    conv => lhs; rw [← abc_map hs]
    generalize (swapI h g k).toNat = i at *
    rw [List.getD_eq_getElem?_getD, List.getD_eq_getElem?_getD, List.getElem?_map, List.getElem?_eq_getElem this]
    rfl
  rw [e]
  refine perm_map hs ?_
  have := swap_tab h.toNat (by omega) g.toNat (by omega)
  rw [Int.toNat_of_nonneg hh.1, Int.toNat_of_nonneg hg.1] at this
  exact List.contains_iff_mem.mp this

theorem item_str {s : List Nat} {i : Int} (hl : s.length ≤ 4096) (h0 : 0 ≤ i) (h1 : i < s.length) : item (.str (sw s)) (.int i) = some (.str ⟨#[s.getD i.toNat 0]⟩) := by
  show (if (sw s).length ≤ sizeCap then _ else _) = _
  rw [if_pos (by rw [sw_length]; exact hl)]
  show (idx s i).map _ = _
  obtain ⟨h, e⟩ := idx_in h0 h1
  rw [e, List.getD_eq_getElem?_getD, List.getElem?_eq_getElem h]
  rfl

theorem st7 {s : List Nat} (hs : s ∈ perms) {h g : Int} (hh : 0 ≤ h ∧ h < 5) (hg : 0 ≤ g ∧ g < 5) (S : LS m ("there" :: "here" :: "said" :: nm) (.int g :: .int h :: .str (sw s) :: vs)) (hnew : hasS "row" ("there" :: "here" :: "said" :: nm) = false) :
    Goes (fun m' => LS m' ("row" :: "there" :: "here" :: "said" :: nm) (.str (sw (swapW h g s)) :: .int g :: .int h :: .str (sw s) :: vs)) (ex lawCall gen (n + 20) (lawSt 7) m) := by
  show Goes _ (ex lawCall gen (n + 20) (.Assign [.Name "row" _] (.Call (.Attribute (.Constant (.str "") 0 _) "join" _) [.ListComp (.Subscript (.Name "said" _) (.Call (.Attribute (.Dict [some (.Name "here" _), some (.Name "there" _)] [.Name "there" _, .Name "here" _] _) "get" _) [.Name "k" _, .Name "k" _] [] _) _) [⟨.Name "k" _, .Call (.Name "range" _) [.Constant (.int 5) 0 _] [] _, [], 0⟩] _ _] [] _) _) m)
  have K := S.K
  have hsl := (of_injW hs).1
  have hsaid : m.val.lookup ("said" : Str) = some (.str (sw s)) := S.get 2 rfl rfl
  have hhere : m.val.lookup ("here" : Str) = some (.int h) := S.get 1 rfl rfl
  have hthere : m.val.lookup ("there" : Str) = some (.int g) := S.get 0 rfl rfl
  refine ⟨_, d_assign (v := .str (sw (swapW h g s))) K.krow (.inr rfl) (d_meth1 (ov := .str ("" : Str)) (av := .list ((swapW h g s).map fun c => Atm.str ⟨#[c]⟩)) (d_const (by rw [S.lit]; rfl) rfl) (d_comp (items := ([0, 1, 2, 3, 4] : List Int).map fun k => V.int k) ?_ (d_range K.krange (i := 5) (d_const (by rw [S.lit]; rfl) rfl) (by decide) (by decide)) (by simp) ?_) rfl rfl (meth_joinL (by unfold swapW; simp))) rfl rfl (.inl rfl), S.set _ _ _ hnew⟩
  · unfold okComp; rw [S.k]; decide +kernel
  · have e : (swapW h g s).map (fun c => Atm.str ⟨#[c]⟩) = ([0, 1, 2, 3, 4] : List Int).filterMap fun k => some (Atm.str ⟨#[s.getD (swapI h g k).toNat 0]⟩) := by
      unfold swapW; rw [List.map_map, List.filterMap_eq_map']; rfl
    rw [e]
    refine compM_list fun k hk => compF_all ?_
    have hk' : 0 ≤ k ∧ k < 5 := by
      simp only [List.mem_cons, List.not_mem_nil, or_false] at hk; omega
    have hi := swapI_in hh hg hk'
    have kk : ∀ {x : Str} {z : NameKind} {sc : Scope} {y : Atm}, (relab sc lawK).lookup x = some z → (compME sc m ("k" : Str) y).kinds.lookup x = some z := fun hx => by
      show (relab _ m.kinds).lookup _ = _
      rw [S.k]; exact hx
    have oth : ∀ {x : Str} {u : V} {sc : Scope} {y : Atm}, (x == ("k" : Str)) = false → ((relab sc lawK).lookup x == some .local) = false → m.val.lookup x = some u → (compME sc m ("k" : Str) y).val.lookup x = some u := fun h1 h2 h3 =>
      comp_other h1 (by rw [S.k]; exact h2) h3
    refine d_item (x := .str (sw s)) (y := .int (swapI h g k)) (d_name (k := .cell) (kk (by decide +kernel)) (by decide) (oth (by decide) (by decide +kernel) hsaid) (.inr (.inl rfl))) (d_get (i1 := h) (j1 := g) (i2 := g) (j2 := h) (a := k) (b := k) rfl
      (d_name (k := .cell) (kk (by decide +kernel)) (by decide) (oth (by decide) (by decide +kernel) hhere) (.inr (.inl rfl))) (d_name (k := .cell) (kk (by decide +kernel)) (by decide) (oth (by decide) (by decide +kernel) hthere) (.inr (.inl rfl)))
      (d_name (k := .cell) (kk (by decide +kernel)) (by decide) (oth (by decide) (by decide +kernel) hthere) (.inr (.inl rfl))) (d_name (k := .cell) (kk (by decide +kernel)) (by decide) (oth (by decide) (by decide +kernel) hhere) (.inr (.inl rfl)))
      (d_name (k := .local) (kk (by decide +kernel)) (by decide) comp_self (.inl rfl)) (d_name (k := .local) (kk (by decide +kernel)) (by decide) comp_self (.inl rfl))) (by intro _ _ _ h; cases h) (by intro _ _ h; cases h) ?_
    exact item_str (by omega) hi.1 (by rw [hsl]; exact hi.2)
end Mine
end
section
open PySem PySem.W PyProof.Rows PySem.Calls Builtin.Str
set_option backward.match.sparseCases false
set_option maxRecDepth 100000
namespace Mine
variable {call : CallT} {gen : GenT} {n : Nat} {m m' m'' : ME} {a b c v : V} {p q : Pos}
variable {n0 n1 n2 n3 n4 n5 n6 : Int} {nm : List Str} {vs : List V}

theorem d_callH {x y z : Expr} {pf : Pos} {u1 u2 u3 : V} (hk : m.kinds.lookup ("_law_hidden_ones" : Str) = some .globalImplicit) (hl : m.lit = true) (e1 : ev call n x m = some u1) (e2 : ev call n y m = some u2) (e3 : ev call n z m = some u3) (i2 : isStrItem m y = true) (i3 : isStrItem m z = true)
    (h : call ("_law_hidden_ones" : Str) [u1, u2, u3] = some v) : ev call (n + 1) (.Call (.Name ("_law_hidden_ones" : Str) pf) [x, y, z] [] p) m = some v := by
  have hs : seqM (fun e => ev call n e m) [x, y, z] = some [u1, u2, u3] := s_cons e1 (s_cons e2 (s_cons e3 s_nil))
  have h1 : okName ("_law_hidden_ones" : Str) = true := by decide
  have h2 : builtins.contains ("_law_hidden_ones" : Str) = false := by decide
  show (if (okName ("_law_hidden_ones" : Str) && m.kinds.lookup ("_law_hidden_ones" : Str) == some .globalImplicit && (m.lit || pureF ("_law_hidden_ones" : Str))) = true then evFn call ("_law_hidden_ones" : Str) [x, y, z] m (seqM (fun e => ev call n e m) [x, y, z]) else none) = _
  rw [if_pos (by rw [h1, hk, hl]; decide), hs]
  show (if builtins.contains ("_law_hidden_ones" : Str) = true then (one? [u1, u2, u3]).bind (fun v => builtin1 ("_law_hidden_ones" : Str) v) else if (("_law_hidden_ones" : Str) == ("_law_hidden_ones" : Str)) = true then evHid call m [u1, u2, u3] [x, y, z] else call ("_law_hidden_ones" : Str) [u1, u2, u3]) = _
  rw [if_neg (fun e => no_item e h2), if_pos (by decide)]
  show (if (isStrItem m y && isStrItem m z) = true then call ("_law_hidden_ones" : Str) [u1, u2, u3] else none) = _
  rw [if_pos (by rw [i2, i3]; rfl)]
  exact h
theorem isStr_of {x : Str} {px pi ps : Pos} {i : Int} {j : Nat} {s : Str} (h : m.val.lookup x = some (.str s)) : isStrItem m (.Subscript (.Name x px) (.Constant (.int i) j pi) ps) = true := by
  show (oStr (m.val.lookup x)).isSome = true
  rw [h]; rfl
theorem st8 {t : Tr} (G : Good t) {v : List Nat} (hv : v ∈ perms) {j : Nat} (S : LS m ("row" :: nm) (.str (sw v) :: vs)) (h1 : (("row" : Str) :: nm)[j]? = some ("text" : Str)) (h2 : (V.str (sw v) :: vs)[j]? = some (.str (sw (textT t)))) :
    Goes (fun m' => LS m' ("row" :: nm) (.str (sw v) :: vs)) (ex lawCall gen (n + 20) (lawSt 8) m) := by
  show Goes _ (ex lawCall gen (n + 20) (.If (.UnaryOp .Not (.Call (.Name "_law_hidden_ones" _) [.Name "text" _, .Subscript (.Name "row" _) (.Constant (.int 0) 0 _) _, .Subscript (.Name "row" _) (.Constant (.int 1) 0 _) _] [] _) _) _ [] _) m)
  have K := S.K
  have hr : m.val.lookup ("row" : Str) = some (.str (sw v)) := S.get 0 rfl rfl
  have hv' := of_injW hv
  match v, hv' with
  | [x0, x1, x2, x3, x4], ⟨_, ha, hn⟩ =>
    have hne : x0 ≠ x1 := by
      rw [List.nodup_cons] at hn
      intro e; exact hn.1 (by rw [e]; simp)
    have hc : ∀ {n : Nat} {i : Int} {j : Nat} {q : Pos}, ev lawCall (n + 1) (.Constant (.int i) j q) m = some (.int i) := fun {n i j q} => d_const (by rw [S.lit]; rfl) rfl
    refine ⟨m, d_if (d := false) (d_not (d := true) (d_trcall (v := .bool true) (d_callH (u1 := .str (sw (textT t))) (u2 := .str (sw [x0])) (u3 := .str (sw [x1])) K.k_law_hidden_ones S.lit (d_name K.ktext (by decide) (S.get j h1 h2) (.inl rfl))
      (d_item (x := .str (sw [x0, x1, x2, x3, x4])) (y := .int 0) (d_name K.krow (by decide) hr (.inr (.inl rfl))) hc (by intro _ _ _ h; cases h) (by intro _ _ h; cases h) rfl)
      (d_item (x := .str (sw [x0, x1, x2, x3, x4])) (y := .int 1) (d_name K.krow (by decide) hr (.inr (.inl rfl))) hc (by intro _ _ _ h; cases h) (by intro _ _ h; cases h) rfl) (isStr_of hr) (isStr_of hr) (G.hidden x0 (ha x0 (by simp)) x1 (ha x1 (by simp)) hne)) rfl)) d_nil, S⟩

theorem nat_of {x d : Int} (hd : 0 < d) : ∃ k : Nat, (k : Int) < d ∧ x.fmod d = (k : Int) := by
  have h0 := Int.fmod_nonneg_of_pos x hd
  have h1 := Int.fmod_lt_of_pos x hd
  exact ⟨(x.fmod d).toNat, by omega, by omega⟩
section
variable {i : Nat} (S : LS m nm vs) (hi1 : nm[i]? = some ("numbers" : Str)) (hi2 : vs[i]? = some (nums7 n0 n1 n2 n3 n4 n5 n6))
include S hi1 hi2
theorem num5 {n : Nat} {p1 p2 p3 : Pos} : ev lawCall (n + 2) (.Subscript (.Name "numbers" p1) (.Constant (.int 5) 0 p2) p3) m = some (.int n5) :=
  d_item (x := nums7 n0 n1 n2 n3 n4 n5 n6) (y := .int 5) (d_name S.K.knumbers (by decide) (S.get i hi1 hi2) (.inl rfl)) (d_const (by rw [S.lit]; rfl) rfl) (by intro _ _ _ h; cases h) (by intro _ _ h; cases h) rfl
theorem num6 {n : Nat} {p1 p2 p3 : Pos} : ev lawCall (n + 2) (.Subscript (.Name "numbers" p1) (.Constant (.int 6) 0 p2) p3) m = some (.int n6) :=
  d_item (x := nums7 n0 n1 n2 n3 n4 n5 n6) (y := .int 6) (d_name S.K.knumbers (by decide) (S.get i hi1 hi2) (.inl rfl)) (d_const (by rw [S.lit]; rfl) rfl) (by intro _ _ _ h; cases h) (by intro _ _ h; cases h) rfl
theorem st9 {k : Nat} (hk : n5.fmod 5 = (k : Int)) (hnew : hasS "near" nm = false) : Goes (fun m' => LS m' ("near" :: nm) (.int ((k + 1 : Nat) : Int) :: vs)) (ex lawCall gen (n + 20) (lawSt 9) m) := by
  show Goes _ (ex lawCall gen (n + 20) (.Assign [.Name "near" _] (.BinOp (.Constant (.int 1) 0 _) .Add (.BinOp (.Subscript (.Name "numbers" _) (.Constant (.int 5) 0 _) _) .Mod (.Constant (.int 5) 0 _) _) _) _) m)
  refine ⟨_, d_assign (v := .int ((k + 1 : Nat) : Int)) S.K.knear (.inl rfl) (d_bin (a := .int 1) (b := .int (n5.fmod 5)) (d_const (by rw [S.lit]; rfl) rfl) (d_bin (num5 S hi1 hi2) (d_const (by rw [S.lit]; rfl) rfl) (bin_mod (by decide))) ?_) rfl rfl (.inl rfl), S.set _ _ _ hnew⟩
  show some (V.int (1 + n5.fmod 5)) = _
  rw [hk]; congr 2; omega
theorem st10 (h5 : 0 ≤ n5 ∧ n5 < 1000000) {k : Nat} (hk : (n5.fdiv 5).fmod 3 = (k : Int)) (hnew : hasS "far" nm = false) : Goes (fun m' => LS m' ("far" :: nm) (.int ((k + 1 : Nat) : Int) :: vs)) (ex lawCall gen (n + 20) (lawSt 10) m) := by
  show Goes _ (ex lawCall gen (n + 20) (.Assign [.Name "far" _] (.BinOp (.Constant (.int 1) 0 _) .Add (.BinOp (.BinOp (.Subscript (.Name "numbers" _) (.Constant (.int 5) 0 _) _) .FloorDiv (.Constant (.int 5) 0 _) _) .Mod (.Constant (.int 3) 0 _) _) _) _) m)
  refine ⟨_, d_assign (v := .int ((k + 1 : Nat) : Int)) S.K.kfar (.inl rfl) (d_bin (a := .int 1) (b := .int ((n5.fdiv 5).fmod 3)) (d_const (by rw [S.lit]; rfl) rfl) (d_bin (d_bin (num5 S hi1 hi2) (d_const (by rw [S.lit]; rfl) rfl) (bin_div (by decide) h5.1 h5.2 (by decide))) (d_const (by rw [S.lit]; rfl) rfl) (bin_mod (by decide))) ?_) rfl rfl (.inl rfl), S.set _ _ _ hnew⟩
  show some (V.int (1 + (n5.fdiv 5).fmod 3)) = _
  rw [hk]; congr 2; omega
theorem st11 (h5 : 0 ≤ n5 ∧ n5 < 1000000) {k : Nat} (hk : (n5.fdiv 15).fmod 3 = (k : Int)) (hnew : hasS "again" nm = false) : Goes (fun m' => LS m' ("again" :: nm) (.int (k : Int) :: vs)) (ex lawCall gen (n + 20) (lawSt 11) m) := by
  show Goes _ (ex lawCall gen (n + 20) (.Assign [.Name "again" _] (.BinOp (.BinOp (.Subscript (.Name "numbers" _) (.Constant (.int 5) 0 _) _) .FloorDiv (.Constant (.int 15) 0 _) _) .Mod (.Constant (.int 3) 0 _) _) _) m)
  refine ⟨_, d_assign (v := .int (k : Int)) S.K.kagain (.inl rfl) (d_bin (a := .int (n5.fdiv 15)) (b := .int 3) (d_bin (num5 S hi1 hi2) (d_const (by rw [S.lit]; rfl) rfl) (bin_div (by decide) h5.1 h5.2 (by decide))) (d_const (by rw [S.lit]; rfl) rfl) ?_) rfl rfl (.inl rfl), S.set _ _ _ hnew⟩
  rw [bin_mod (by decide), hk]
end
theorem d_subL {es : List Expr} {i : Expr} {pl : Pos} {l : List V} {k : Int} (h1 : ∀ a b p, i = .Slice a b none p → False) (hs : seqM (listOnly fun e => ev call n e m) es = some l) (hi : ev call n i m = some (.int k)) (hl : l.length ≤ 64) (h0 : 0 ≤ k) (h : l[k.toNat]? = some v) :
    ev call (n + 1) (.Subscript (.List es pl) i p) m = some v := by
  have e2 : evSub2 (fun e => ev call n e m) i (.List es pl) = some v := by
    show evLists (seqM (listOnly fun e => ev call n e m) es) (ev call n i m) = _
    rw [hs, hi]
    exact (if_pos (by simp [hl, h0])).trans h
  show evSub (fun e => ev call n e m) (.List es pl) i = _
  unfold evSub
  cases q : asSli i with
  | none => exact e2
  | some q' =>
    obtain rfl := asSli_eq q
    cases n <;> exact no_some hi
theorem bin_listadd {x y : List Atm} (hx : x.length ≤ 4096) (hy : y.length ≤ 4096) : binop .Add (.list x) (.list y) = some (.list (x ++ y)) := by
  show (if _ then some (V.list (x ++ y)) else none) = _
  rw [if_pos (add_ok hx hy)]
theorem st12 {k f a : Nat} (ha : a < 3) (S : LS m ("again" :: "far" :: "near" :: nm) (.int (a : Int) :: .int ((f + 1 : Nat) : Int) :: .int ((k + 1 : Nat) : Int) :: vs)) (hnew : hasS "ruler" ("again" :: "far" :: "near" :: nm) = false) :
    Goes (fun m' => LS m' ("ruler" :: "again" :: "far" :: "near" :: nm) (.list ((rulerOf (k + 1) (f + 1) a).map .int) :: .int (a : Int) :: .int ((f + 1 : Nat) : Int) :: .int ((k + 1 : Nat) : Int) :: vs)) (ex lawCall gen (n + 20) (lawSt 12) m) := by
  show Goes _ (ex lawCall gen (n + 20) (.Assign [.Name "ruler" _] (.BinOp (.List [.Name "near" _, .Name "far" _] _) .Add (.Subscript (.List [.List [.Constant (.int 0) 0 _, .Constant (.int 9) 0 _] _, .List [.Constant (.int 127) 0 _, .Constant (.int 2) 0 _] _, .List [] _] _) (.Name "again" _) _) _) _) m)
  have K := S.K
  have hc : ∀ {n : Nat} {i : Int} {j : Nat} {q : Pos}, ev lawCall (n + 1) (.Constant (.int i) j q) m = some (.int i) := fun {n i j q} => d_const (by rw [S.lit]; rfl) rfl
  have hl : ∀ {n : Nat} {p1 p2 p3 p4 p5 p6 p7 : Pos}, seqM (listOnly fun e => ev lawCall (n + 2) e m) [Expr.List [.Constant (.int 0) 0 p1, .Constant (.int 9) 0 p2] p3, Expr.List [.Constant (.int 127) 0 p4, .Constant (.int 2) 0 p5] p6, Expr.List [] p7] = some [V.list [.int 0, .int 9], V.list [.int 127, .int 2], V.list []] := by
    intro n p1 p2 p3 p4 p5 p6 p7
    refine s_cons ?_ (s_cons ?_ (s_cons ?_ s_nil))
    · show ev lawCall (n + 2) (Expr.List _ p3) m = _
      exact d_list (s_cons (a_of hc) (s_cons (a_of hc) s_nil)) (by decide)
    · show ev lawCall (n + 2) (Expr.List _ p6) m = _
      exact d_list (s_cons (a_of hc) (s_cons (a_of hc) s_nil)) (by decide)
    · show ev lawCall (n + 2) (Expr.List [] p7) m = some (V.list [])
      exact d_list (l := []) s_nil (by decide)
  refine ⟨_, d_assign (v := .list ((rulerOf (k + 1) (f + 1) a).map .int)) K.kruler (.inl rfl) (d_bin (a := .list [.int ((k + 1 : Nat) : Int), .int ((f + 1 : Nat) : Int)]) (b := .list ((match a with | 0 => ([0, 9] : List Int) | 1 => [127, 2] | _ => []).map .int)) (d_list (s_cons (a_of (d_name K.knear (by decide) (S.get 2 rfl rfl) (.inl rfl))) (s_cons (a_of (d_name K.kfar (by decide) (S.get 1 rfl rfl) (.inl rfl))) s_nil)) (by simp))
    (d_subL (l := [V.list [.int 0, .int 9], V.list [.int 127, .int 2], V.list []]) (k := (a : Int)) (by intro _ _ _ h; cases h) hl (d_name K.kagain (by decide) (S.get 0 rfl rfl) (.inl rfl)) (by decide) (by omega) ?_) ?_) rfl rfl (.inr rfl), S.set _ _ _ hnew⟩
  · have : a = 0 ∨ a = 1 ∨ a = 2 := by omega
    rcases this with rfl | rfl | rfl <;> rfl
  · have : a = 0 ∨ a = 1 ∨ a = 2 := by omega
    rcases this with rfl | rfl | rfl <;> rfl
end Mine
end
section
open PySem PySem.W PyProof.Rows PySem.Calls Builtin.Str
set_option backward.match.sparseCases false
set_option maxRecDepth 100000
namespace Mine
variable {call : CallT} {gen : GenT} {n : Nat} {m m' m'' : ME} {a b c v : V} {p q : Pos}
variable {n0 n1 n2 n3 n4 n5 n6 : Int} {nm : List Str} {vs : List V}

theorem intsOf_ints : ∀ ns : List Int, intsOf (ns.map Atm.int) = some ns
  | [] => rfl
  | i :: r => congrArg (Option.map (i :: ·)) (intsOf_ints r)
theorem d_ifexp {t x y : Expr} {d : Bool} (ht : tr call n t m = some d) (h : ev call n (if d then x else y) m = some v) : ev call (n + 1) (.IfExp t x y p) m = some v := by
  show (tr call n t m).bind _ = _
  rw [ht]
  cases d <;> exact h
theorem sizes_cmp {k f a : Nat} (hk : k < 5) (hf : f < 3) (ha : a < 3) (S : LS m ("ruler" :: "again" :: "far" :: "near" :: nm) (.list ((rulerOf (k + 1) (f + 1) a).map .int) :: .int (a : Int) :: .int ((f + 1 : Nat) : Int) :: .int ((k + 1 : Nat) : Int) :: vs)) :
    cmp lawCall (n + 20) sizesL .NotEq sizesR m = some false := by
  show cmp lawCall (n + 20) (.Call (.Name "_law_sizes" _) [.Name "ruler" _] [] _) .NotEq (.BinOp (.List [.Name "near" _, .Name "far" _] _) .Add (.IfExp (.Compare (.Name "again" _) [.Eq] [.Constant (.int 0) 0 _] _) (.List [.Name "far" _, .Name "far" _] _) (.List [] _) _) _) m = _
  have K := S.K
  have hc : ∀ {n : Nat} {i : Int} {j : Nat} {q : Pos}, ev lawCall (n + 1) (.Constant (.int i) j q) m = some (.int i) := fun {n i j q} => d_const (by rw [S.lit]; rfl) rfl
  have hfar : ∀ {n : Nat} {q : Pos}, ev lawCall (n + 1) (.Name "far" q) m = some (.int ((f + 1 : Nat) : Int)) := fun {n q} => d_name K.kfar (by decide) (S.get 2 rfl rfl) (.inl rfl)
  have hnear : ∀ {n : Nat} {q : Pos}, ev lawCall (n + 1) (.Name "near" q) m = some (.int ((k + 1 : Nat) : Int)) := fun {n q} => d_name K.knear (by decide) (S.get 3 rfl rfl) (.inl rfl)
  refine d_cmpL (a := .list ((toldOf (k + 1) (f + 1) a).map .int)) (b := .list ((toldOf (k + 1) (f + 1) a).map .int)) (d_call K.k_law_sizes (by decide) (by rw [S.lit]; rfl) (s_cons (d_name K.kruler (by decide) (S.get 0 rfl rfl) (.inl rfl)) s_nil) (by decide) (by decide) (sizes_fact hk hf ha))
    (d_bin (a := .list [.int ((k + 1 : Nat) : Int), .int ((f + 1 : Nat) : Int)]) (b := .list ((if a = 0 then [((f + 1 : Nat) : Int), ((f + 1 : Nat) : Int)] else []).map .int)) (d_list (s_cons (a_of hnear) (s_cons (a_of hfar) s_nil)) (by simp)) (d_ifexp (d := decide (a = 0)) (d_trcmp (d_cmp (a := .int (a : Int)) (b := .int 0) (d_name K.kagain (by decide) (S.get 1 rfl rfl) (.inl rfl)) hc ?_)) ?_) ?_) rfl ?_
  · show some ((a : Int) == 0) = _
    congr 1
    rw [Bool.eq_iff_iff, beq_iff_eq, decide_eq_true_eq]; omega
  · by_cases h : a = 0
    · subst h
      exact d_list (s_cons (a_of hfar) (s_cons (a_of hfar) s_nil)) (by simp)
    · rw [decide_eq_false h, if_neg h]
      exact d_list (l := []) s_nil (by simp)
  · rw [bin_listadd (by simp) (by split <;> simp)]
    unfold toldOf
    rw [List.map_append]; rfl
  · have hi := intsOf_ints (toldOf (k + 1) (f + 1) a)
    show (do let x ← intsOf _; let y ← intsOf _; if (decide (x.length ≤ 8) && decide (y.length ≤ 8)) = true then some (!(x == y)) else none) = _
    rw [hi]
    show (if _ then some (!((toldOf (k + 1) (f + 1) a) == (toldOf (k + 1) (f + 1) a))) else none) = _
    rw [if_pos, beq_self_eq_true]
    · rfl
    · unfold toldOf; split <;> simp
end Mine
end
section
open PySem PySem.W PyProof.Rows PySem.Calls Builtin.Str
set_option backward.match.sparseCases false
set_option maxRecDepth 100000
namespace Mine
variable {call : CallT} {gen : GenT} {n : Nat} {m m' m'' : ME} {a b c v : V} {p q : Pos}
variable {n0 n1 n2 n3 n4 n5 n6 : Int} {nm : List Str} {vs : List V}

theorem sp0 {w : List Nat} (hw : w ∈ perms) {k f a : Nat} (hk : k < 5) (hf : f < 3) (ha : a < 3) {i j : Nat} (S : LS m nm vs) (hi1 : nm[i]? = some ("row" : Str)) (hi2 : vs[i]? = some (.str (sw w))) (hj1 : nm[j]? = some ("ruler" : Str)) (hj2 : vs[j]? = some (.list ((rulerOf (k + 1) (f + 1) a).map .int))) (hnew : hasS "pieces" nm = false) :
    Goes (fun m' => LS m' ("pieces" :: nm) (.list ((cutOf w (piecesOf (k + 1) (f + 1) a)).map swA) :: vs)) (ex lawCall gen (n + 20) (lawSt 14) m) := by
  show Goes _ (ex lawCall gen (n + 20) (.Assign [.Name "pieces" _] (.Call (.Name "_law_pieces" _) [.Name "row" _, .Name "ruler" _] [] _) _) m)
  have K := S.K
  exact ⟨_, d_assign (v := .list ((cutOf w (piecesOf (k + 1) (f + 1) a)).map swA)) K.kpieces (.inr rfl) (d_call K.k_law_pieces (by decide) (by rw [S.lit]; rfl) (s_cons (d_name K.krow (by decide) (S.get i hi1 hi2) (.inr (.inl rfl))) (s_cons (d_name K.kruler (by decide) (S.get j hj1 hj2) (.inl rfl)) s_nil)) (by decide) (by decide) (pieces_fact hw hk hf ha)) rfl rfl (.inr rfl), S.set _ _ _ hnew⟩
theorem t_or_false {x : Expr} {r : List Expr} (h : tr call n x m = some false) (h' : trs call n .Or r m = some false) : trs call (n + 1) .Or (x :: r) m = some false := by
  show (tr call n x m).bind _ = _
  rw [h]; exact h'
theorem t_nil {op : BoolOp} : trs call (n + 1) op [] m = some (op == .And) := by cases op <;> rfl
theorem t_and_false {x : Expr} {r : List Expr} (h : tr call n x m = some false) : trs call (n + 1) .And (x :: r) m = some false := by
  show (tr call n x m).bind _ = _
  rw [h]; rfl
theorem t_and_true {x : Expr} {r : List Expr} {d : Bool} (h : tr call n x m = some true) (h' : trs call n .And r m = some d) : trs call (n + 1) .And (x :: r) m = some d := by
  show (tr call n x m).bind _ = _
  rw [h]; exact h'
theorem d_boolop {op : BoolOp} {es : List Expr} {d : Bool} (h : trs call n op es m = some d) : tr call (n + 1) (.BoolOp op es p) m = some d := by
  exact h
theorem sp1 {w : List Nat} (hw : w ∈ perms) {P : List (List Nat)} (hP : P ∈ comps) {i : Nat} (S : LS m ("pieces" :: nm) (.list ((cutOf w P).map swA) :: vs)) (hi1 : (("pieces" : Str) :: nm)[i]? = some ("row" : Str)) (hi2 : (V.list ((cutOf w P).map swA) :: vs)[i]? = some (.str (sw w))) :
    Goes (fun m' => LS m' ("pieces" :: nm) (.list ((cutOf w P).map swA) :: vs)) (ex lawCall gen (n + 20) (lawSt 15) m) := by
  show Goes _ (ex lawCall gen (n + 20) (.If (.BoolOp .Or [.UnaryOp .Not (.Call (.Name "_law_ends_found" _) [.Name "pieces" _, .Name "row" _] [] _) _, .UnaryOp .Not (.Call (.Name "_law_ends_meet" _) [.Name "row" _] [] _) _] _) _ [] _) m)
  have K := S.K
  have hp : ∀ {n : Nat} {q : Pos}, ev lawCall (n + 1) (.Name "pieces" q) m = some (.list ((cutOf w P).map swA)) := fun {n q} => d_name K.kpieces (by decide) (S.get 0 rfl rfl) (.inr (.inl rfl))
  have hr : ∀ {n : Nat} {q : Pos}, ev lawCall (n + 1) (.Name "row" q) m = some (.str (sw w)) := fun {n q} => d_name K.krow (by decide) (S.get i hi1 hi2) (.inr (.inl rfl))
  exact ⟨m, d_if (d := false) (d_boolop (t_or_false (d_not (d := true) (d_trcall (v := .bool true) (d_call K.k_law_ends_found (by decide) (by rw [S.lit]; rfl) (s_cons hp (s_cons hr s_nil)) (by decide) (by decide) (ends_fact hw hP)) rfl))
    (t_or_false (d_not (d := true) (d_trcall (v := .bool true) (d_call K.k_law_ends_meet (by decide) (by rw [S.lit]; rfl) (s_cons hr s_nil) (by decide) (by decide) (meet_fact hw)) rfl)) t_nil))) d_nil, S⟩
theorem sp2 {i : Nat} (S : LS m nm vs) (hi1 : nm[i]? = some ("numbers" : Str)) (hi2 : vs[i]? = some (nums7 n0 n1 n2 n3 n4 n5 n6)) (hnew : hasS "besides" nm = false) : Goes (fun m' => LS m' ("besides" :: nm) (.int (1 + n6) :: vs)) (ex lawCall gen (n + 20) (lawSt 16) m) := by
  show Goes _ (ex lawCall gen (n + 20) (.Assign [.Name "besides" _] (.BinOp (.Constant (.int 1) 0 _) .Add (.Subscript (.Name "numbers" _) (.Constant (.int 6) 0 _) _) _) _) m)
  exact ⟨_, d_assign (v := .int (1 + n6)) S.K.kbesides (.inl rfl) (d_bin (a := .int 1) (b := .int n6) (d_const (by rw [S.lit]; rfl) rfl) (num6 S hi1 hi2) rfl) rfl rfl (.inl rfl), S.set _ _ _ hnew⟩
theorem compF_if {elt t : Expr} {scope : Scope} {x : Str} {y z : Atm} {d : Bool} (ht : tr call n t (compME scope m x y) = some d) (h : d = true → ev call n elt (compME scope m x y) = some (.at z)) : compF call n elt scope m x [t] (.at y) = some (if d = true then some z else none) := by
  show evElt (allM fun c => tr call n c (compME scope m x y)) (ev call n elt (compME scope m x y)) [t] = _
  have e : allM (fun c => tr call n c (compME scope m x y)) [t] = some d := by
    show (tr call n t (compME scope m x y)).bind _ = _
    rw [ht]; cases d <;> rfl
  unfold evElt
  rw [e]
  cases d with
  | true =>
    show ((ev call n elt (compME scope m x y)).bind atom).bind _ = _
    rw [h rfl]; rfl
  | false => rfl
theorem rows_items {t : Tr} : iterOf (.dict (rowsV t)) = some ((rowsT t).map fun x => V.str (sw x.1)) := by
  show some ((rowsV t).map fun kv => V.str kv.1) = _
  unfold rowsV
  rw [List.map_map]; rfl
theorem item_rows {t : Tr} (G : Good t) {x : List Nat × Int} (hx : x ∈ rowsT t) : item (.dict (rowsV t)) (.str (sw x.1)) = some (.int x.2) := by
  show (dget (rowsV t) (sw x.1)).map V.int = _
  rw [G.get x hx]; rfl
noncomputable abbrev foundL (t : Tr) (g : List Nat → Bool) : List Atm := (rowsT t).filterMap fun x => if g x.1 = true then some (.int x.2) else none
theorem sp3 {t : Tr} (G : Good t) {w : List Nat} (hw : w ∈ perms) {P : List (List Nat)} (hP : P ∈ comps) {i j : Nat} (S : LS m nm vs) (hi1 : nm[i]? = some ("rows" : Str)) (hi2 : vs[i]? = some (.dict (rowsV t))) (hj1 : nm[j]? = some ("pieces" : Str)) (hj2 : vs[j]? = some (.list ((cutOf w P).map swA))) (hnew : hasS "found" nm = false) :
    ∃ m', ex lawCall gen (n + 20) (lawSt 17) m = some (.next, m') ∧ LS m' ("found" :: nm) (.list (foundL t fun u => (cutOf w P).all fun p => inOrd p u) :: vs) ∧ m'.own.contains ("found" : Str) = true := by
  show ∃ m', ex lawCall gen (n + 20) (.Assign [.Name "found" _] (.ListComp (.Subscript (.Name "rows" _) (.Name "one" _) _) [⟨.Name "one" _, .Name "rows" _, [.Call (.Name "_law_all_found" _) [.Name "pieces" _, .Name "one" _] [] _], 0⟩] _ _) _) m = _ ∧ _
  have K := S.K
  have kk : ∀ {x : Str} {z : NameKind} {sc : Scope} {y : Atm}, (relab sc lawK).lookup x = some z → (compME sc m ("one" : Str) y).kinds.lookup x = some z := fun hx => by
    show (relab _ m.kinds).lookup _ = _
    rw [S.k]; exact hx
  have oth : ∀ {x : Str} {u : V} {sc : Scope} {y : Atm}, (x == ("one" : Str)) = false → ((relab sc lawK).lookup x == some .local) = false → m.val.lookup x = some u → (compME sc m ("one" : Str) y).val.lookup x = some u := fun h1 h2 h3 =>
    comp_other h1 (by rw [S.k]; exact h2) h3
  have hl : ∀ {sc : Scope} {y : Atm} {c : Const}, ((compME sc m ("one" : Str) y).lit || plainC c) = true := by intro sc y c; show (m.lit || _) = true; rw [S.lit]; rfl
  have hl' : ∀ {sc : Scope} {y : Atm} {f : Str}, ((compME sc m ("one" : Str) y).lit || pureF f) = true := by intro sc y c; show (m.lit || _) = true; rw [S.lit]; rfl
  refine ⟨_, d_comp_assign (l := foundL t fun u => (cutOf w P).all fun p => inOrd p u) (d_comp (items := (rowsT t).map fun x => V.str (sw x.1)) ?_ (d_its (v := .dict (rowsV t)) (by intro f pf args p h; cases h) (d_name K.krows (by decide) (S.get i hi1 hi2) (.inr (.inl rfl))) rows_items) (by rw [List.length_map, G.len]; decide) ?_) rfl rfl ?_, S.set _ _ _ hnew, set_own_self⟩
  · unfold okComp; rw [S.k]; decide +kernel
  · refine compM_list fun x hx => compF_if (d := (cutOf w P).all fun p => inOrd p x.1) ?_ fun _ => ?_
    · exact d_trcall (v := .bool ((cutOf w P).all fun p => inOrd p x.1)) (d_call (kk (by decide +kernel)) (by decide) hl' (s_cons (d_name (k := .cell) (kk (by decide +kernel)) (by decide) (oth (by decide) (by decide +kernel) (S.get j hj1 hj2)) (.inr (.inl rfl))) (s_cons (d_name (k := .local) (kk (by decide +kernel)) (by decide) comp_self (.inl rfl)) s_nil)) (by decide) (by decide) (all_fact (G.mem x hx) hw hP)) rfl
    · exact d_item (x := .dict (rowsV t)) (y := .str (sw x.1)) (d_name (k := .cell) (kk (by decide +kernel)) (by decide) (oth (by decide) (by decide +kernel) (S.get i hi1 hi2)) (.inr (.inl rfl))) (d_name (k := .local) (kk (by decide +kernel)) (by decide) comp_self (.inl rfl)) (by intro _ _ _ h; cases h) (by intro _ _ h; cases h) (item_rows G hx)
  · unfold swapOk; rw [S.k]; decide +kernel
theorem foundL_len (t : Tr) (g : List Nat → Bool) : (foundL t g).length ≤ (rowsT t).length := List.length_filterMap_le _ _
theorem sp4 {t : Tr} (G : Good t) {w : List Nat} (hw : w ∈ perms) {P : List (List Nat)} (hP : P ∈ comps) {g : List Nat → Bool} {bs : Int} {i j l : Nat} (S : LS m ("found" :: nm) (.list (foundL t g) :: vs)) (ho : m.own.contains ("found" : Str) = true)
    (hi1 : nm[i]? = some ("row" : Str)) (hi2 : vs[i]? = some (.str (sw w))) (hj1 : nm[j]? = some ("pieces" : Str)) (hj2 : vs[j]? = some (.list ((cutOf w P).map swA))) (hl1 : nm[l]? = some ("besides" : Str)) (hl2 : vs[l]? = some (.int bs)) (hnew : hasS "found" nm = false) :
    Goes (fun m' => LS m' ("found" :: nm) (.list (foundL t g ++ [.int bs]) :: vs)) (ex lawCall gen (n + 20) (lawSt 18) m) := by
  show Goes _ (ex lawCall gen (n + 20) (.If (.Call (.Name "_law_all_found" _) [.Name "pieces" _, .Name "row" _] [] _) [.Expr (.Call (.Attribute (.Name "found" _) "append" _) [.Name "besides" _] [] _) _] [] _) m)
  have K := S.K
  refine ⟨_, d_if (d := true) (d_trcall (v := .bool true) (d_call K.k_law_all_found (by decide) (by rw [S.lit]; rfl) (s_cons (d_name K.kpieces (by decide) (S.get (j + 1) hj1 hj2) (.inr (.inl rfl))) (s_cons (d_name K.krow (by decide) (S.get (i + 1) hi1 hi2) (.inr (.inl rfl))) s_nil)) (by decide) (by decide) ?_) rfl)
    (d_next (d_append (l := foundL t g) (x := .int bs) rfl (by decide) K.kfound ho (S.get 0 rfl rfl) (d_name K.kbesides (by decide) (S.get (l + 1) hl1 hl2) (.inl rfl)) ?_) d_nil), ?_⟩
  · have h := all_fact hw hw hP
    rw [found_row hw hP] at h
    exact h
  · have := foundL_len t g; rw [G.len] at this; omega
  · exact ⟨S.k, S.lit, set_self, S.has.2.other hnew⟩
end Mine
end
section
open PySem PySem.W PyProof.Rows PySem.Calls Builtin.Str
set_option backward.match.sparseCases false
set_option maxRecDepth 100000
namespace Mine
variable {call : CallT} {gen : GenT} {n : Nat} {m m' m'' : ME} {a b c v : V} {p q : Pos}
variable {n0 n1 n2 n3 n4 n5 n6 : Int} {nm : List Str} {vs : List V}

/-- one piece, and that the row itself -/
noncomputable def ownG (w : List Nat) (P : List (List Nat)) (u : List Nat) : Bool := decide (P.length = 1) && (w == u)
theorem sp5 {t : Tr} (G : Good t) {w : List Nat} (hw : w ∈ perms) {P : List (List Nat)} (hP : P ∈ comps) {i j l : Nat} (S : LS m nm vs) (hi1 : nm[i]? = some ("rows" : Str)) (hi2 : vs[i]? = some (.dict (rowsV t))) (hj1 : nm[j]? = some ("pieces" : Str)) (hj2 : vs[j]? = some (.list ((cutOf w P).map swA))) (hl1 : nm[l]? = some ("row" : Str)) (hl2 : vs[l]? = some (.str (sw w))) (hnew : hasS "own" nm = false) :
    Goes (fun m' => LS m' ("own" :: nm) (.list (foundL t (ownG w P)) :: vs)) (ex lawCall gen (n + 20) (lawSt 19) m) := by
  show Goes _ (ex lawCall gen (n + 20) (.Assign [.Name "own" _] (.ListComp (.Subscript (.Name "rows" _) (.Name "one" _) _) [⟨.Name "one" _, .Name "rows" _, [.BoolOp .And [.Compare (.Call (.Name "len" _) [.Name "pieces" _] [] _) [.Eq] [.Constant (.int 1) 0 _] _, .Compare (.Call (.Name "_ellipsis_match" _) [.Name "row" _, .Name "one" _] [] _) [.Is] [.Constant (.bool true) 0 _] _] _], 0⟩] _ _) _) m)
  have K := S.K
  have kk : ∀ {x : Str} {z : NameKind} {sc : Scope} {y : Atm}, (relab sc lawK).lookup x = some z → (compME sc m ("one" : Str) y).kinds.lookup x = some z := fun hx => by
    show (relab _ m.kinds).lookup _ = _
    rw [S.k]; exact hx
  have oth : ∀ {x : Str} {u : V} {sc : Scope} {y : Atm}, (x == ("one" : Str)) = false → ((relab sc lawK).lookup x == some .local) = false → m.val.lookup x = some u → (compME sc m ("one" : Str) y).val.lookup x = some u := fun h1 h2 h3 =>
    comp_other h1 (by rw [S.k]; exact h2) h3
  have hl : ∀ {sc : Scope} {y : Atm} {c : Const}, ((compME sc m ("one" : Str) y).lit || plainC c) = true := by intro sc y c; show (m.lit || _) = true; rw [S.lit]; rfl
  have hl' : ∀ {sc : Scope} {y : Atm} {f : Str}, ((compME sc m ("one" : Str) y).lit || pureF f) = true := by intro sc y c; show (m.lit || _) = true; rw [S.lit]; rfl
  have hPl := comp_len hP
  refine ⟨_, d_comp_assign (l := foundL t (ownG w P)) (d_comp (items := (rowsT t).map fun x => V.str (sw x.1)) ?_ (d_its (v := .dict (rowsV t)) (by intro f pf args p h; cases h) (d_name K.krows (by decide) (S.get i hi1 hi2) (.inr (.inl rfl))) rows_items) (by rw [List.length_map, G.len]; decide) ?_) rfl rfl ?_, S.set _ _ _ hnew⟩
  · unfold okComp; rw [S.k]; decide +kernel
  · refine compM_list fun x hx => compF_if (d := ownG w P x.1) ?_ fun _ => ?_
    · have hlen : ∀ {n : Nat} {sc : Scope} {q1 q2 q3 q4 : Pos} {y : Atm}, (relab sc lawK).lookup ("len" : Str) = some .globalImplicit → (relab sc lawK).lookup ("pieces" : Str) = some .cell → cmp lawCall (n + 5) (.Call (.Name "len" q1) [.Name "pieces" q2] [] q3) .Eq (.Constant (.int 1) 0 q4) (compME sc m ("one" : Str) y) = some (decide (P.length = 1)) := by
        intro n sc q1 q2 q3 q4 y hh1 hh2
        refine d_cmp (a := .int (P.length : Int)) (b := .int 1) (d_builtin (a := .list ((cutOf w P).map swA)) (kk hh1) (by decide) hl' (s_cons (d_name (k := .cell) (kk hh2) (by decide) (oth (by decide) (by rw [hh2]; rfl) (S.get j hj1 hj2)) (.inr (.inl rfl))) s_nil) (by decide) ?_) (d_const hl rfl) ?_
        · have e : ((cutOf w P).map swA).length = P.length := by rw [List.length_map, List.length_map]
          rw [len_list (by rw [e]; omega), e]
        · show some ((P.length : Int) == 1) = _
          congr 1
          rw [Bool.eq_iff_iff, beq_iff_eq, decide_eq_true_eq]; omega
      have hlen' := fun {n : Nat} {sc : Scope} {q1 q2 q3 q4 q5 : Pos} {y : Atm} h1 h2 => d_trcmp (p := q5) (hlen (n := n) (sc := sc) (q1 := q1) (q2 := q2) (q3 := q3) (q4 := q4) (y := y) h1 h2)
      by_cases h1 : P.length = 1
      · have e : ownG w P x.1 = (w == x.1) := by unfold ownG; rw [decide_eq_true h1, Bool.true_and]
        rw [e]
        simp only [decide_eq_true h1] at hlen'
        refine d_boolop (t_and_true (hlen' (by decide +kernel) (by decide +kernel)) ?_)
        have hm : ∀ {n : Nat} {sc : Scope} {q1 q2 q3 q4 q5 q6 : Pos}, (relab sc lawK).lookup ("_ellipsis_match" : Str) = some .globalImplicit → (relab sc lawK).lookup ("row" : Str) = some .cell → (relab sc lawK).lookup ("one" : Str) = some .local → tr lawCall (n + 6) (.Compare (.Call (.Name "_ellipsis_match" q1) [.Name "row" q2, .Name "one" q3] [] q4) [.Is] [.Constant (.bool true) 0 q5] q6) (compME sc m ("one" : Str) (.str (sw x.1))) = some (w == x.1) := by
          intro n sc q1 q2 q3 q4 q5 q6 hh1 hh2 hh3
          refine d_trcmp (d_cmp (a := .bool (w == x.1)) (b := .bool true) (d_call (kk hh1) (by decide) hl' (s_cons (d_name (k := .cell) (kk hh2) (by decide) (oth (by decide) (by rw [hh2]; rfl) (S.get l hl1 hl2)) (.inr (.inl rfl))) (s_cons (d_name (k := .local) (kk hh3) (by decide) comp_self (.inl rfl)) s_nil)) (by decide) (by decide) (match_plain hw (G.mem x hx))) (d_const hl rfl) ?_)
          cases (w == x.1) <;> rfl
        cases hwx : (w == x.1) with
        | true => exact t_and_true (by rw [hm (by decide +kernel) (by decide +kernel) (by decide +kernel), hwx]) t_nil
        | false => exact t_and_false (by rw [hm (by decide +kernel) (by decide +kernel) (by decide +kernel), hwx])
      · have e : ownG w P x.1 = false := by unfold ownG; rw [decide_eq_false h1, Bool.false_and]
        rw [e]
        simp only [decide_eq_false h1] at hlen'
        exact d_boolop (t_and_false (hlen' (by decide +kernel) (by decide +kernel)))
    · exact d_item (x := .dict (rowsV t)) (y := .str (sw x.1)) (d_name (k := .cell) (kk (by decide +kernel)) (by decide) (oth (by decide) (by decide +kernel) (S.get i hi1 hi2)) (.inr (.inl rfl))) (d_name (k := .local) (kk (by decide +kernel)) (by decide) comp_self (.inl rfl)) (by intro _ _ _ h; cases h) (by intro _ _ h; cases h) (item_rows G hx)
  · unfold swapOk; rw [S.k]; decide +kernel
end Mine
end
section
open PySem PySem.W PyProof.Rows PySem.Spec PySem.Calls
set_option maxRecDepth 100000
set_option maxHeartbeats 8000000
namespace Mine

/-- a value on the module's top level, told by a test -/
noncomputable def isStrD (x : Option PyData) (s : Str) : Bool := match x with | some (.str y) => y == s | _ => false
noncomputable def isIntD (x : Option PyData) (i : Int) : Bool := match x with | some (.int y) => y == i | _ => false
theorem isStrD_eq {x : Option PyData} {s : Str} (h : isStrD x s = true) : x = some (.str s) := by
  cases x with
  | none => exact no_item h rfl
  | some d => cases d <;> first | exact congrArg (fun y => some (PyData.str y)) (beq_iff_eq.mp h) | exact no_item h rfl
theorem isIntD_eq {x : Option PyData} {i : Int} (h : isIntD x i = true) : x = some (.int i) := by
  cases x with
  | none => exact no_item h rfl
  | some d => cases d <;> first | exact congrArg (fun y => some (PyData.int y)) (beq_iff_eq.mp h) | exact no_item h rfl
theorem glb_of_top {q : Program} {loose : List Str} {mean : ExcName → Option Value} {mg mb : Str → Option Value} {h : Heap} (T : Top q loose mean mg mb h) (hr : recsOf q = theDefs) (h1 : isStrD (valOf q ("ELLIPSIS_MARKER" : Str)) ("..." : Str) = true) (h2 : isIntD (valOf q ("CHAR_MAX" : Str)) 127 = true)
    (hf : ∀ x ∈ builtins, x ∉ startupNames ∧ x ∉ loose ∧ x ∉ (recsOf q).map (·.name) ∧ x ∉ (litsOf q).map (·.1) ∧ x ∉ (clssOf q loose).map (·.name)) : Glb mg mb theDefs h where
  g := T.g
  b := T.b
  nl := T.nolimit
  fn := fun d hd' => T.fn d (hr ▸ hd')
  cst := fun x y e => by
    have hx : x = ("ELLIPSIS_MARKER" : Str) ∧ y = ("..." : Str) := by
      simp only [constGlobals, List.lookup_cons] at e
      split at e
      · rename_i q; exact ⟨beq_iff_eq.mp q, (Option.some.inj e).symm⟩
      · cases e
    obtain ⟨rfl, rfl⟩ := hx
    obtain ⟨v, a1, a2⟩ := T.const ("ELLIPSIS_MARKER" : Str) (.str ("..." : Str)) (isStrD_eq h1)
    have a3 := a2 h
    cases a3
    exact ⟨_, a1⟩
  cm := by
    obtain ⟨v, a1, a2⟩ := T.const ("CHAR_MAX" : Str) (.int 127) (isIntD_eq h2)
    have a3 := a2 h
    cases a3
    exact ⟨_, a1⟩
  bmiss := fun x hx => by obtain ⟨a, b, c, d, e⟩ := hf x hx; exact T.free x a b c d e
  bi := T.builtins

/-- what is left: the plain law -/
noncomputable def LawPlain : Prop := ∀ (as : List Atm) (ns : List Int), intsOf as = some ns → as.length ≤ 63 →
  ∃ m₁ m₂ rl nz n, exs lawCall genF 40 lawPre (lawM as) = some (.next, m₁) ∧ cmp lawCall n sizesL .NotEq sizesR m₁ = some false ∧ m₁.kinds = rLaw.scope.names ∧ m₁.val.lookup ("ruler" : Str) = some (.list rl) ∧
    intsOf rl = some nz ∧ rl.length ≤ 60 ∧ exs lawCall genF 40 lawPost m₁ = some (.ret (.bool true), m₂)

theorem are_of_ints : ∀ {vs : List Value} {ns : List Int}, IntsAre vs ns → Are vs (ns.map Atm.int)
  | _, _, .nil => .nil
  | _, _, .cons n t h => .cons ⟨_, rfl⟩ (are_of_ints h)

theorem ints_of_map : ∀ ns : List Int, intsOf (ns.map Atm.int) = some ns
  | [] => rfl
  | i :: r => by simp [intsOf, ints_of_map r]

end Mine
end
section
open PySem PySem.W PyProof.Rows PySem.Calls Builtin.Str
set_option backward.match.sparseCases false
set_option maxRecDepth 100000
namespace Mine
variable {call : CallT} {gen : GenT} {n : Nat} {m m' m'' : ME} {a b c v : V} {p q : Pos}
variable {n0 n1 n2 n3 n4 n5 n6 : Int} {nm : List Str} {vs : List V}

theorem blt_sum {l : List Int} (h : ∀ i ∈ l, i.natAbs ≤ 2000000) (hl : l.length ≤ 64) : builtin1 ("sum" : Str) (.list (l.map .int)) = some (.int l.sum) := by
  have h1 : (("sum" : Str) == ("len" : Str)) = false := by decide
  have h2 : (("sum" : Str) == ("list" : Str)) = false := by decide
  unfold builtin1
  rw [h1, h2]
  show (intsOf (l.map Atm.int)).bind _ = _
  rw [intsOf_ints]
  refine if_pos ?_
  simp only [Bool.and_eq_true, List.all_eq_true, decide_eq_true_eq]
  exact ⟨h, hl⟩
theorem rowsT_sign : ∀ t : Tr, ∀ x ∈ rowsT t, x.2.natAbs = 1
  | .leaf c, x, hx => by
    simp only [rowsT, List.mem_cons, List.not_mem_nil, or_false] at hx
    subst hx; rfl
  | .node l r, x, hx => by
    simp only [rowsT, List.mem_flatMap, List.mem_cons, List.not_mem_nil, or_false] at hx
    obtain ⟨a, ha, b, hb, rfl | rfl⟩ := hx
    · show (a.2 * b.2).natAbs = 1
      rw [Int.natAbs_mul, rowsT_sign l a ha, rowsT_sign r b hb]
    · show (-a.2 * b.2).natAbs = 1
      rw [Int.natAbs_mul, Int.natAbs_neg, rowsT_sign l a ha, rowsT_sign r b hb]
noncomputable abbrev foundI (t : Tr) (g : List Nat → Bool) : List Int := ((rowsT t).filter fun x => g x.1).map (·.2)
theorem foundL_eq (t : Tr) (g : List Nat → Bool) : foundL t g = (foundI t g).map Atm.int := by
  unfold foundL foundI
  generalize rowsT t = l
  induction l with
  | nil => rfl
  | cons x r ih =>
    rw [List.filterMap_cons, List.filter_cons]
    cases h : g x.1 with
    | true => simp only [if_true, List.map_cons]; rw [ih]
    | false => simp only [Bool.false_eq_true, if_false]; rw [ih]
theorem foundI_bound (t : Tr) (g : List Nat → Bool) : ∀ i ∈ foundI t g, i.natAbs ≤ 2000000 := by
  intro i hi
  obtain ⟨x, hx, rfl⟩ := List.mem_map.mp hi
  rw [rowsT_sign t x (List.mem_filter.mp hx).1]; decide
theorem foundI_len {t : Tr} (G : Good t) (g : List Nat → Bool) : (foundI t g).length ≤ 16 := by
  unfold foundI
  rw [List.length_map, ← G.len]
  exact List.length_filter_le _ _
theorem sums_eq {t : Tr} (G : Good t) {w : List Nat} (hw : w ∈ perms) {P : List (List Nat)} (hP : P ∈ comps) : (foundI t fun u => (cutOf w P).all fun p => inOrd p u).sum = (foundI t (ownG w P)).sum := by
  by_cases h1 : P.length = 1
  · have : foundI t (fun u => (cutOf w P).all fun p => inOrd p u) = foundI t (ownG w P) := by
      unfold foundI
      congr 1
      refine List.filter_congr fun x hx => ?_
      show ((cutOf w P).all fun p => inOrd p x.1) = _
      rw [found_one hw (G.mem x hx) hP h1]
      unfold ownG
      rw [decide_eq_true h1, Bool.true_and, Bool.eq_iff_iff, beq_iff_eq, beq_iff_eq]
      exact eq_comm
    rw [this]
  · have h2 : 2 ≤ P.length := by have := comp_len hP; omega
    rw [found_zero G.lv hw hP h2]
    have : foundI t (ownG w P) = [] := by
      unfold foundI
      rw [List.map_eq_nil_iff, List.filter_eq_nil_iff]
      intro x _
      unfold ownG
      rw [decide_eq_false h1]
      simp
    rw [this]; rfl
theorem sp6 {t : Tr} (G : Good t) {w : List Nat} (hw : w ∈ perms) {P : List (List Nat)} (hP : P ∈ comps) {bs : Int} (hb : bs.natAbs ≤ 2000000) {l : Nat}
    (S : LS m ("own" :: "found" :: nm) (.list (foundL t (ownG w P)) :: .list (foundL t (fun u => (cutOf w P).all fun p => inOrd p u) ++ [.int bs]) :: vs)) (hl1 : nm[l]? = some ("besides" : Str)) (hl2 : vs[l]? = some (.int bs)) :
    ex lawCall gen (n + 20) (lawSt 20) m = some (.ret (.bool true), m) := by
  show ex lawCall gen (n + 20) (.Return (some (.Compare (.Call (.Name "sum" _) [.Name "found" _] [] _) [.Eq] [.BinOp (.Name "besides" _) .Add (.Call (.Name "sum" _) [.Name "own" _] [] _) _] _)) _) m = _
  have K := S.K
  have h1 := foundI_len G (fun u => (cutOf w P).all fun p => inOrd p u)
  have h2 := foundI_len G (ownG w P)
  refine d_ret (v := .bool true) (d_compare (d_cmp (a := .int ((foundI t fun u => (cutOf w P).all fun p => inOrd p u) ++ [bs]).sum) (b := .int (bs + (foundI t (ownG w P)).sum)) (d_builtin (a := .list (((foundI t fun u => (cutOf w P).all fun p => inOrd p u) ++ [bs]).map .int)) K.ksum (by decide) (by rw [S.lit]; rfl) (s_cons (d_name K.kfound (by decide) ?_ (.inl rfl)) s_nil) (by decide) (blt_sum ?_ ?_))
    (d_bin (a := .int bs) (b := .int (foundI t (ownG w P)).sum) (d_name K.kbesides (by decide) (S.get (l + 2) hl1 hl2) (.inl rfl)) (d_builtin (a := .list ((foundI t (ownG w P)).map .int)) K.ksum (by decide) (by rw [S.lit]; rfl) (s_cons (d_name K.kown (by decide) ?_ (.inl rfl)) s_nil) (by decide) (blt_sum (foundI_bound t _) ?_)) rfl) ?_)) (.inl ⟨_, rfl⟩)
  · have := S.get 1 (x := "found") rfl rfl
    rw [this, foundL_eq, List.map_append]; rfl
  · intro i hi
    rcases List.mem_append.mp hi with hi | hi
    · exact foundI_bound t _ i hi
    · simp only [List.mem_cons, List.not_mem_nil, or_false] at hi
      rw [hi]; exact hb
  · rw [List.length_append, List.length_cons, List.length_nil]; omega
  · have := S.get 0 (x := "own") rfl rfl
    rw [this, foundL_eq]
  · omega
  · show some (_ == _) = _
    rw [List.sum_append, sums_eq G hw hP]
    congr 1
    rw [beq_iff_eq]
    simp only [List.sum_cons, List.sum_nil]
    omega

theorem seven {l : List Int} (h : l.length = 7) : ∃ n0 n1 n2 n3 n4 n5 n6, l = [n0, n1, n2, n3, n4, n5, n6] := by
  match l, h with
  | [n0, n1, n2, n3, n4, n5, n6], _ => exact ⟨n0, n1, n2, n3, n4, n5, n6, rfl⟩
theorem pre_eq : lawPre = [lawSt 0, lawSt 1, lawSt 2, lawSt 3, lawSt 4, lawSt 5, lawSt 6, lawSt 7, lawSt 8, lawSt 9, lawSt 10, lawSt 11, lawSt 12] := by rfl
theorem post_eq : lawPost = [lawSt 14, lawSt 15, lawSt 16, lawSt 17, lawSt 18, lawSt 19, lawSt 20] := by rfl

theorem law_plain : LawPlain := by
  intro as ns hns hlen
  have has := intsOf_map hns
  subst has
  rw [List.length_map] at hlen
  obtain ⟨n0, n1, n2, n3, n4, n5, n6, hN⟩ := seven (nums_len ns)
  have hb := nums_ok ns
  rw [hN] at hb
  have b0 := hb n0 (by simp)
  have b1 := hb n1 (by simp)
  have b2 := hb n2 (by simp)
  have b3 := hb n3 (by simp)
  have b4 := hb n4 (by simp)
  have b5 := hb n5 (by simp)
  have b6 := hb n6 (by simp)
  obtain ⟨t, ht, G⟩ := text_good n0 n1 n2 n3
  obtain ⟨m0, e0, S0⟩ := st0 (call := lawCall) (gen := genF) (n := 19) (ns := ns) hlen
  rw [hN] at S0
  obtain ⟨m1, e1, S1⟩ := st1 (gen := genF) (n := 18) S0 b0 b1 b2 b3
  rw [ht] at S1
  obtain ⟨m2, e2, S2⟩ := st2 (gen := genF) (n := 17) G S1
  obtain ⟨m3, e3, S3⟩ := st3 (gen := genF) (n := 16) G S2
  obtain ⟨x, hx, m4, e4, S4⟩ := st4 (gen := genF) (n := 15) G S3
  have hs := G.mem x hx
  have hh0 := Int.fmod_nonneg_of_pos (n4.fdiv 16) (show (0 : Int) < 5 by decide)
  have hh1 := Int.fmod_lt_of_pos (n4.fdiv 16) (show (0 : Int) < 5 by decide)
  have hg0 := Int.fmod_nonneg_of_pos (n4.fdiv 80) (show (0 : Int) < 5 by decide)
  have hg1 := Int.fmod_lt_of_pos (n4.fdiv 80) (show (0 : Int) < 5 by decide)
  obtain ⟨m5, e5, S5⟩ : Goes (fun m' => LS m' ["here", "said", "rows", "text", "numbers", "script"] _) (ex lawCall genF (14 + 20) (lawSt 5) m4) := st56 (nme := "here") (d := 16) (by decide) (by decide) b4 S4 (j := 3) rfl rfl (by decide +kernel) S4.K.khere
  obtain ⟨m6, e6, S6⟩ : Goes (fun m' => LS m' ["there", "here", "said", "rows", "text", "numbers", "script"] _) (ex lawCall genF (13 + 20) (lawSt 6) m5) := st56 (nme := "there") (d := 80) (by decide) (by decide) b4 S5 (j := 4) rfl rfl (by decide +kernel) S5.K.kthere
  obtain ⟨m7, e7, S7⟩ := st7 (gen := genF) (n := 12) hs ⟨hh0, hh1⟩ ⟨hg0, hg1⟩ S6 (by decide +kernel)
  have hw := swapW_perm ⟨hh0, hh1⟩ ⟨hg0, hg1⟩ hs
  generalize swapW ((n4.fdiv 16).fmod 5) ((n4.fdiv 80).fmod 5) x.1 = w at *
  obtain ⟨m8, e8, S8⟩ := st8 (gen := genF) (n := 11) G hw (j := 5) S7 rfl rfl
  obtain ⟨k, hk, ek⟩ := nat_of (x := n5) (show (0 : Int) < 5 by decide)
  obtain ⟨f, hf, ef⟩ := nat_of (x := n5.fdiv 5) (show (0 : Int) < 3 by decide)
  obtain ⟨a, ha, ea⟩ := nat_of (x := n5.fdiv 15) (show (0 : Int) < 3 by decide)
  have hk' : k < 5 := by omega
  have hf' : f < 3 := by omega
  have ha' : a < 3 := by omega
  obtain ⟨m9, e9, S9⟩ := st9 (gen := genF) (n := 10) S8 (i := 6) rfl rfl ek (by decide +kernel)
  obtain ⟨m10, e10, S10⟩ := st10 (gen := genF) (n := 9) S9 (i := 7) rfl rfl b5 ef (by decide +kernel)
  obtain ⟨m11, e11, S11⟩ := st11 (gen := genF) (n := 8) S10 (i := 8) rfl rfl b5 ea (by decide +kernel)
  obtain ⟨m12, e12, S12⟩ := st12 (gen := genF) (n := 7) ha' S11 (by decide +kernel)
  obtain ⟨m14, e14, S14⟩ := sp0 (gen := genF) (n := 19) hw hk' hf' ha' S12 (i := 4) (j := 0) rfl rfl rfl rfl (by decide +kernel)
  have hP := comps_mem hk' hf' ha'
  generalize piecesOf (k + 1) (f + 1) a = P at *
  obtain ⟨m15, e15, S15⟩ := sp1 (gen := genF) (n := 18) hw hP (i := 5) S14 rfl rfl
  obtain ⟨m16, e16, S16⟩ := sp2 (gen := genF) (n := 17) S15 (i := 11) rfl rfl (by decide +kernel)
  obtain ⟨m17, e17, S17, o17⟩ := sp3 (gen := genF) (n := 16) G hw hP (i := 10) (j := 1) S16 rfl rfl rfl rfl (by decide +kernel)
  obtain ⟨m18, e18, S18⟩ := sp4 (gen := genF) (n := 15) G hw hP (i := 6) (j := 1) (l := 0) S17 o17 rfl rfl rfl rfl rfl rfl (by decide +kernel)
  obtain ⟨m19, e19, S19⟩ := sp5 (gen := genF) (n := 14) G hw hP (i := 11) (j := 2) (l := 7) S18 rfl rfl rfl rfl rfl rfl (by decide +kernel)
  have e20 := sp6 (gen := genF) (n := 13) G hw hP (bs := 1 + n6) (by omega) (l := 0) S19 rfl rfl
  refine ⟨m12, m19, _, _, 0 + 20, ?_, sizes_cmp hk' hf' ha' S12, S12.k, S12.get 0 rfl rfl, intsOf_ints _, ?_, ?_⟩
  · rw [pre_eq]
    exact d_next e0 (d_next e1 (d_next e2 (d_next e3 (d_next e4 (d_next e5 (d_next e6 (d_next e7 (d_next e8 (d_next e9 (d_next e10 (d_next e11 (d_next e12 d_nil))))))))))))
  · rw [List.length_map]
    unfold rulerOf
    rw [List.length_append]
    split <;> simp
  · rw [post_eq]
    exact d_next e14 (d_next e15 (d_next e16 (d_next e17 (d_next e18 (d_next e19 (d_stop e20))))))

end Mine
end
section
open PySem PySem.W PyProof.Rows PySem.Spec PySem.Calls
set_option maxRecDepth 100000
set_option maxHeartbeats 8000000
namespace Mine
theorem z0 : Str.ofString "__name__" = ⟨⟨[nat_lit 95, nat_lit 95, nat_lit 110, nat_lit 97, nat_lit 109, nat_lit 101, nat_lit 95, nat_lit 95]⟩⟩ := rfl
theorem z1 : Str.ofString "cpy313.email.utils" = ⟨⟨[nat_lit 99, nat_lit 112, nat_lit 121, nat_lit 51, nat_lit 49, nat_lit 51, nat_lit 46, nat_lit 101, nat_lit 109, nat_lit 97, nat_lit 105, nat_lit 108, nat_lit 46, nat_lit 117, nat_lit 116, nat_lit 105, nat_lit 108, nat_lit 115]⟩⟩ := rfl
theorem z2 : Str.ofString "_iter_escaped_chars" = ⟨⟨[nat_lit 95, nat_lit 105, nat_lit 116, nat_lit 101, nat_lit 114, nat_lit 95, nat_lit 101, nat_lit 115, nat_lit 99, nat_lit 97, nat_lit 112, nat_lit 101, nat_lit 100, nat_lit 95, nat_lit 99, nat_lit 104, nat_lit 97, nat_lit 114, nat_lit 115]⟩⟩ := rfl
theorem z3 : Str.ofString "addr" = ⟨⟨[nat_lit 97, nat_lit 100, nat_lit 100, nat_lit 114]⟩⟩ := rfl
theorem z4 : Str.ofString "pos" = ⟨⟨[nat_lit 112, nat_lit 111, nat_lit 115]⟩⟩ := rfl
theorem z5 : Str.ofString "escape" = ⟨⟨[nat_lit 101, nat_lit 115, nat_lit 99, nat_lit 97, nat_lit 112, nat_lit 101]⟩⟩ := rfl
theorem z6 : Str.ofString "ch" = ⟨⟨[nat_lit 99, nat_lit 104]⟩⟩ := rfl
theorem z7 : Str.ofString "enumerate" = ⟨⟨[nat_lit 101, nat_lit 110, nat_lit 117, nat_lit 109, nat_lit 101, nat_lit 114, nat_lit 97, nat_lit 116, nat_lit 101]⟩⟩ := rfl
theorem z8 : Str.ofString "\\" = ⟨⟨[nat_lit 92]⟩⟩ := rfl
theorem z9 : Str.ofString "_strip_quoted_realnames" = ⟨⟨[nat_lit 95, nat_lit 115, nat_lit 116, nat_lit 114, nat_lit 105, nat_lit 112, nat_lit 95, nat_lit 113, nat_lit 117, nat_lit 111, nat_lit 116, nat_lit 101, nat_lit 100, nat_lit 95, nat_lit 114, nat_lit 101, nat_lit 97, nat_lit 108, nat_lit 110, nat_lit 97, nat_lit 109, nat_lit 101, nat_lit 115]⟩⟩ := rfl
theorem z10 : Str.ofString "\"" = ⟨⟨[nat_lit 34]⟩⟩ := rfl
theorem z11 : Str.ofString "start" = ⟨⟨[nat_lit 115, nat_lit 116, nat_lit 97, nat_lit 114, nat_lit 116]⟩⟩ := rfl
theorem z12 : Str.ofString "open_pos" = ⟨⟨[nat_lit 111, nat_lit 112, nat_lit 101, nat_lit 110, nat_lit 95, nat_lit 112, nat_lit 111, nat_lit 115]⟩⟩ := rfl
theorem z13 : Str.ofString "result" = ⟨⟨[nat_lit 114, nat_lit 101, nat_lit 115, nat_lit 117, nat_lit 108, nat_lit 116]⟩⟩ := rfl
theorem z14 : Str.ofString "append" = ⟨⟨[nat_lit 97, nat_lit 112, nat_lit 112, nat_lit 101, nat_lit 110, nat_lit 100]⟩⟩ := rfl
theorem z15 : Str.ofString "len" = ⟨⟨[nat_lit 108, nat_lit 101, nat_lit 110]⟩⟩ := rfl
theorem z16 : Str.ofString "" = ⟨⟨[]⟩⟩ := rfl
theorem z17 : Str.ofString "join" = ⟨⟨[nat_lit 106, nat_lit 111, nat_lit 105, nat_lit 110]⟩⟩ := rfl
theorem z18 : Str.ofString "_check_parenthesis" = ⟨⟨[nat_lit 95, nat_lit 99, nat_lit 104, nat_lit 101, nat_lit 99, nat_lit 107, nat_lit 95, nat_lit 112, nat_lit 97, nat_lit 114, nat_lit 101, nat_lit 110, nat_lit 116, nat_lit 104, nat_lit 101, nat_lit 115, nat_lit 105, nat_lit 115]⟩⟩ := rfl
theorem z19 : Str.ofString "opens" = ⟨⟨[nat_lit 111, nat_lit 112, nat_lit 101, nat_lit 110, nat_lit 115]⟩⟩ := rfl
theorem z20 : Str.ofString "(" = ⟨⟨[nat_lit 40]⟩⟩ := rfl
theorem z21 : Str.ofString ")" = ⟨⟨[nat_lit 41]⟩⟩ := rfl
theorem z22 : Str.ofString "cpy313.doctest" = ⟨⟨[nat_lit 99, nat_lit 112, nat_lit 121, nat_lit 51, nat_lit 49, nat_lit 51, nat_lit 46, nat_lit 100, nat_lit 111, nat_lit 99, nat_lit 116, nat_lit 101, nat_lit 115, nat_lit 116]⟩⟩ := rfl
theorem z23 : Str.ofString "ELLIPSIS_MARKER" = ⟨⟨[nat_lit 69, nat_lit 76, nat_lit 76, nat_lit 73, nat_lit 80, nat_lit 83, nat_lit 73, nat_lit 83, nat_lit 95, nat_lit 77, nat_lit 65, nat_lit 82, nat_lit 75, nat_lit 69, nat_lit 82]⟩⟩ := rfl
theorem z24 : Str.ofString "..." = ⟨⟨[nat_lit 46, nat_lit 46, nat_lit 46]⟩⟩ := rfl
theorem z25 : Str.ofString "_ellipsis_match" = ⟨⟨[nat_lit 95, nat_lit 101, nat_lit 108, nat_lit 108, nat_lit 105, nat_lit 112, nat_lit 115, nat_lit 105, nat_lit 115, nat_lit 95, nat_lit 109, nat_lit 97, nat_lit 116, nat_lit 99, nat_lit 104]⟩⟩ := rfl
theorem z26 : Str.ofString "want" = ⟨⟨[nat_lit 119, nat_lit 97, nat_lit 110, nat_lit 116]⟩⟩ := rfl
theorem z27 : Str.ofString "got" = ⟨⟨[nat_lit 103, nat_lit 111, nat_lit 116]⟩⟩ := rfl
theorem z28 : Str.ofString "ws" = ⟨⟨[nat_lit 119, nat_lit 115]⟩⟩ := rfl
theorem z29 : Str.ofString "split" = ⟨⟨[nat_lit 115, nat_lit 112, nat_lit 108, nat_lit 105, nat_lit 116]⟩⟩ := rfl
theorem z30 : Str.ofString "startpos" = ⟨⟨[nat_lit 115, nat_lit 116, nat_lit 97, nat_lit 114, nat_lit 116, nat_lit 112, nat_lit 111, nat_lit 115]⟩⟩ := rfl
theorem z31 : Str.ofString "endpos" = ⟨⟨[nat_lit 101, nat_lit 110, nat_lit 100, nat_lit 112, nat_lit 111, nat_lit 115]⟩⟩ := rfl
theorem z32 : Str.ofString "w" = ⟨⟨[nat_lit 119]⟩⟩ := rfl
theorem z33 : Str.ofString "startswith" = ⟨⟨[nat_lit 115, nat_lit 116, nat_lit 97, nat_lit 114, nat_lit 116, nat_lit 115, nat_lit 119, nat_lit 105, nat_lit 116, nat_lit 104]⟩⟩ := rfl
theorem z34 : Str.ofString "endswith" = ⟨⟨[nat_lit 101, nat_lit 110, nat_lit 100, nat_lit 115, nat_lit 119, nat_lit 105, nat_lit 116, nat_lit 104]⟩⟩ := rfl
theorem z35 : Str.ofString "find" = ⟨⟨[nat_lit 102, nat_lit 105, nat_lit 110, nat_lit 100]⟩⟩ := rfl
theorem z36 : Str.ofString "cpy313.locale" = ⟨⟨[nat_lit 99, nat_lit 112, nat_lit 121, nat_lit 51, nat_lit 49, nat_lit 51, nat_lit 46, nat_lit 108, nat_lit 111, nat_lit 99, nat_lit 97, nat_lit 108, nat_lit 101]⟩⟩ := rfl
theorem z37 : Str.ofString "CHAR_MAX" = ⟨⟨[nat_lit 67, nat_lit 72, nat_lit 65, nat_lit 82, nat_lit 95, nat_lit 77, nat_lit 65, nat_lit 88]⟩⟩ := rfl
theorem z38 : Str.ofString "_grouping_intervals" = ⟨⟨[nat_lit 95, nat_lit 103, nat_lit 114, nat_lit 111, nat_lit 117, nat_lit 112, nat_lit 105, nat_lit 110, nat_lit 103, nat_lit 95, nat_lit 105, nat_lit 110, nat_lit 116, nat_lit 101, nat_lit 114, nat_lit 118, nat_lit 97, nat_lit 108, nat_lit 115]⟩⟩ := rfl
theorem z39 : Str.ofString "grouping" = ⟨⟨[nat_lit 103, nat_lit 114, nat_lit 111, nat_lit 117, nat_lit 112, nat_lit 105, nat_lit 110, nat_lit 103]⟩⟩ := rfl
theorem z40 : Str.ofString "last_interval" = ⟨⟨[nat_lit 108, nat_lit 97, nat_lit 115, nat_lit 116, nat_lit 95, nat_lit 105, nat_lit 110, nat_lit 116, nat_lit 101, nat_lit 114, nat_lit 118, nat_lit 97, nat_lit 108]⟩⟩ := rfl
theorem z41 : Str.ofString "interval" = ⟨⟨[nat_lit 105, nat_lit 110, nat_lit 116, nat_lit 101, nat_lit 114, nat_lit 118, nat_lit 97, nat_lit 108]⟩⟩ := rfl
theorem z42 : Str.ofString "ValueError" = ⟨⟨[nat_lit 86, nat_lit 97, nat_lit 108, nat_lit 117, nat_lit 101, nat_lit 69, nat_lit 114, nat_lit 114, nat_lit 111, nat_lit 114]⟩⟩ := rfl
theorem z43 : Str.ofString "invalid grouping" = ⟨⟨[nat_lit 105, nat_lit 110, nat_lit 118, nat_lit 97, nat_lit 108, nat_lit 105, nat_lit 100, nat_lit 32, nat_lit 103, nat_lit 114, nat_lit 111, nat_lit 117, nat_lit 112, nat_lit 105, nat_lit 110, nat_lit 103]⟩⟩ := rfl
theorem z44 : Str.ofString "law_wb0026_01" = ⟨⟨[nat_lit 108, nat_lit 97, nat_lit 119, nat_lit 95, nat_lit 119, nat_lit 98, nat_lit 48, nat_lit 48, nat_lit 50, nat_lit 54, nat_lit 95, nat_lit 48, nat_lit 49]⟩⟩ := rfl
theorem z45 : Str.ofString "_law_text" = ⟨⟨[nat_lit 95, nat_lit 108, nat_lit 97, nat_lit 119, nat_lit 95, nat_lit 116, nat_lit 101, nat_lit 120, nat_lit 116]⟩⟩ := rfl
theorem z46 : Str.ofString "numbers" = ⟨⟨[nat_lit 110, nat_lit 117, nat_lit 109, nat_lit 98, nat_lit 101, nat_lit 114, nat_lit 115]⟩⟩ := rfl
theorem z47 : Str.ofString "things" = ⟨⟨[nat_lit 116, nat_lit 104, nat_lit 105, nat_lit 110, nat_lit 103, nat_lit 115]⟩⟩ := rfl
theorem z48 : Str.ofString "a" = ⟨⟨[nat_lit 97]⟩⟩ := rfl
theorem z49 : Str.ofString "b" = ⟨⟨[nat_lit 98]⟩⟩ := rfl
theorem z50 : Str.ofString "c" = ⟨⟨[nat_lit 99]⟩⟩ := rfl
theorem z51 : Str.ofString "d" = ⟨⟨[nat_lit 100]⟩⟩ := rfl
theorem z52 : Str.ofString "e" = ⟨⟨[nat_lit 101]⟩⟩ := rfl
theorem z53 : Str.ofString "x" = ⟨⟨[nat_lit 120]⟩⟩ := rfl
theorem z54 : Str.ofString "one" = ⟨⟨[nat_lit 111, nat_lit 110, nat_lit 101]⟩⟩ := rfl
theorem z55 : Str.ofString "pop" = ⟨⟨[nat_lit 112, nat_lit 111, nat_lit 112]⟩⟩ := rfl
theorem z56 : Str.ofString "other" = ⟨⟨[nat_lit 111, nat_lit 116, nat_lit 104, nat_lit 101, nat_lit 114]⟩⟩ := rfl
theorem z57 : Str.ofString "_law_rows" = ⟨⟨[nat_lit 95, nat_lit 108, nat_lit 97, nat_lit 119, nat_lit 95, nat_lit 114, nat_lit 111, nat_lit 119, nat_lit 115]⟩⟩ := rfl
theorem z58 : Str.ofString "text" = ⟨⟨[nat_lit 116, nat_lit 101, nat_lit 120, nat_lit 116]⟩⟩ := rfl
theorem z59 : Str.ofString "inner" = ⟨⟨[nat_lit 105, nat_lit 110, nat_lit 110, nat_lit 101, nat_lit 114]⟩⟩ := rfl
theorem z60 : Str.ofString "fronts" = ⟨⟨[nat_lit 102, nat_lit 114, nat_lit 111, nat_lit 110, nat_lit 116, nat_lit 115]⟩⟩ := rfl
theorem z61 : Str.ofString "k" = ⟨⟨[nat_lit 107]⟩⟩ := rfl
theorem z62 : Str.ofString "range" = ⟨⟨[nat_lit 114, nat_lit 97, nat_lit 110, nat_lit 103, nat_lit 101]⟩⟩ := rfl
theorem z63 : Str.ofString ".0" = ⟨⟨[nat_lit 46, nat_lit 48]⟩⟩ := rfl
theorem z64 : Str.ofString "left" = ⟨⟨[nat_lit 108, nat_lit 101, nat_lit 102, nat_lit 116]⟩⟩ := rfl
theorem z65 : Str.ofString "right" = ⟨⟨[nat_lit 114, nat_lit 105, nat_lit 103, nat_lit 104, nat_lit 116]⟩⟩ := rfl
theorem z66 : Str.ofString "rows" = ⟨⟨[nat_lit 114, nat_lit 111, nat_lit 119, nat_lit 115]⟩⟩ := rfl
theorem z67 : Str.ofString "fast" = ⟨⟨[nat_lit 102, nat_lit 97, nat_lit 115, nat_lit 116]⟩⟩ := rfl
theorem z68 : Str.ofString "_law_hidden_ones" = ⟨⟨[nat_lit 95, nat_lit 108, nat_lit 97, nat_lit 119, nat_lit 95, nat_lit 104, nat_lit 105, nat_lit 100, nat_lit 100, nat_lit 101, nat_lit 110, nat_lit 95, nat_lit 111, nat_lit 110, nat_lit 101, nat_lit 115]⟩⟩ := rfl
theorem z69 : Str.ofString "first" = ⟨⟨[nat_lit 102, nat_lit 105, nat_lit 114, nat_lit 115, nat_lit 116]⟩⟩ := rfl
theorem z70 : Str.ofString "second" = ⟨⟨[nat_lit 115, nat_lit 101, nat_lit 99, nat_lit 111, nat_lit 110, nat_lit 100]⟩⟩ := rfl
theorem z71 : Str.ofString "hidden" = ⟨⟨[nat_lit 104, nat_lit 105, nat_lit 100, nat_lit 100, nat_lit 101, nat_lit 110]⟩⟩ := rfl
theorem z72 : Str.ofString "replace" = ⟨⟨[nat_lit 114, nat_lit 101, nat_lit 112, nat_lit 108, nat_lit 97, nat_lit 99, nat_lit 101]⟩⟩ := rfl
theorem z73 : Str.ofString "\")\"" = ⟨⟨[nat_lit 34, nat_lit 41, nat_lit 34]⟩⟩ := rfl
theorem z74 : Str.ofString "\\)" = ⟨⟨[nat_lit 92, nat_lit 41]⟩⟩ := rfl
theorem z75 : Str.ofString "_law_sizes" = ⟨⟨[nat_lit 95, nat_lit 108, nat_lit 97, nat_lit 119, nat_lit 95, nat_lit 115, nat_lit 105, nat_lit 122, nat_lit 101, nat_lit 115]⟩⟩ := rfl
theorem z76 : Str.ofString "ruler" = ⟨⟨[nat_lit 114, nat_lit 117, nat_lit 108, nat_lit 101, nat_lit 114]⟩⟩ := rfl
theorem z77 : Str.ofString "told" = ⟨⟨[nat_lit 116, nat_lit 111, nat_lit 108, nat_lit 100]⟩⟩ := rfl
theorem z78 : Str.ofString "size" = ⟨⟨[nat_lit 115, nat_lit 105, nat_lit 122, nat_lit 101]⟩⟩ := rfl
theorem z79 : Str.ofString "_law_refused" = ⟨⟨[nat_lit 95, nat_lit 108, nat_lit 97, nat_lit 119, nat_lit 95, nat_lit 114, nat_lit 101, nat_lit 102, nat_lit 117, nat_lit 115, nat_lit 101, nat_lit 100]⟩⟩ := rfl
theorem z80 : Str.ofString "_law_pieces" = ⟨⟨[nat_lit 95, nat_lit 108, nat_lit 97, nat_lit 119, nat_lit 95, nat_lit 112, nat_lit 105, nat_lit 101, nat_lit 99, nat_lit 101, nat_lit 115]⟩⟩ := rfl
theorem z81 : Str.ofString "row" = ⟨⟨[nat_lit 114, nat_lit 111, nat_lit 119]⟩⟩ := rfl
theorem z82 : Str.ofString "pieces" = ⟨⟨[nat_lit 112, nat_lit 105, nat_lit 101, nat_lit 99, nat_lit 101, nat_lit 115]⟩⟩ := rfl
theorem z83 : Str.ofString "_law_all_found" = ⟨⟨[nat_lit 95, nat_lit 108, nat_lit 97, nat_lit 119, nat_lit 95, nat_lit 97, nat_lit 108, nat_lit 108, nat_lit 95, nat_lit 102, nat_lit 111, nat_lit 117, nat_lit 110, nat_lit 100]⟩⟩ := rfl
theorem z84 : Str.ofString "piece" = ⟨⟨[nat_lit 112, nat_lit 105, nat_lit 101, nat_lit 99, nat_lit 101]⟩⟩ := rfl
theorem z85 : Str.ofString "_law_ends_found" = ⟨⟨[nat_lit 95, nat_lit 108, nat_lit 97, nat_lit 119, nat_lit 95, nat_lit 101, nat_lit 110, nat_lit 100, nat_lit 115, nat_lit 95, nat_lit 102, nat_lit 111, nat_lit 117, nat_lit 110, nat_lit 100]⟩⟩ := rfl
theorem z86 : Str.ofString "front" = ⟨⟨[nat_lit 102, nat_lit 114, nat_lit 111, nat_lit 110, nat_lit 116]⟩⟩ := rfl
theorem z87 : Str.ofString "last" = ⟨⟨[nat_lit 108, nat_lit 97, nat_lit 115, nat_lit 116]⟩⟩ := rfl
theorem z88 : Str.ofString "alone" = ⟨⟨[nat_lit 97, nat_lit 108, nat_lit 111, nat_lit 110, nat_lit 101]⟩⟩ := rfl
theorem z89 : Str.ofString "_law_ends_meet" = ⟨⟨[nat_lit 95, nat_lit 108, nat_lit 97, nat_lit 119, nat_lit 95, nat_lit 101, nat_lit 110, nat_lit 100, nat_lit 115, nat_lit 95, nat_lit 109, nat_lit 101, nat_lit 101, nat_lit 116]⟩⟩ := rfl
theorem z90 : Str.ofString "cut" = ⟨⟨[nat_lit 99, nat_lit 117, nat_lit 116]⟩⟩ := rfl
theorem z91 : Str.ofString "parts" = ⟨⟨[nat_lit 112, nat_lit 97, nat_lit 114, nat_lit 116, nat_lit 115]⟩⟩ := rfl
theorem z92 : Str.ofString "z" = ⟨⟨[nat_lit 122]⟩⟩ := rfl
theorem z93 : Str.ofString "part" = ⟨⟨[nat_lit 112, nat_lit 97, nat_lit 114, nat_lit 116]⟩⟩ := rfl
theorem z94 : Str.ofString "law" = ⟨⟨[nat_lit 108, nat_lit 97, nat_lit 119]⟩⟩ := rfl
theorem z95 : Str.ofString "script" = ⟨⟨[nat_lit 115, nat_lit 99, nat_lit 114, nat_lit 105, nat_lit 112, nat_lit 116]⟩⟩ := rfl
theorem z96 : Str.ofString "list" = ⟨⟨[nat_lit 108, nat_lit 105, nat_lit 115, nat_lit 116]⟩⟩ := rfl
theorem z97 : Str.ofString "said" = ⟨⟨[nat_lit 115, nat_lit 97, nat_lit 105, nat_lit 100]⟩⟩ := rfl
theorem z98 : Str.ofString "sorted" = ⟨⟨[nat_lit 115, nat_lit 111, nat_lit 114, nat_lit 116, nat_lit 101, nat_lit 100]⟩⟩ := rfl
theorem z99 : Str.ofString "here" = ⟨⟨[nat_lit 104, nat_lit 101, nat_lit 114, nat_lit 101]⟩⟩ := rfl
theorem z100 : Str.ofString "there" = ⟨⟨[nat_lit 116, nat_lit 104, nat_lit 101, nat_lit 114, nat_lit 101]⟩⟩ := rfl
theorem z101 : Str.ofString "get" = ⟨⟨[nat_lit 103, nat_lit 101, nat_lit 116]⟩⟩ := rfl
theorem z102 : Str.ofString "near" = ⟨⟨[nat_lit 110, nat_lit 101, nat_lit 97, nat_lit 114]⟩⟩ := rfl
theorem z103 : Str.ofString "far" = ⟨⟨[nat_lit 102, nat_lit 97, nat_lit 114]⟩⟩ := rfl
theorem z104 : Str.ofString "again" = ⟨⟨[nat_lit 97, nat_lit 103, nat_lit 97, nat_lit 105, nat_lit 110]⟩⟩ := rfl
theorem z105 : Str.ofString "besides" = ⟨⟨[nat_lit 98, nat_lit 101, nat_lit 115, nat_lit 105, nat_lit 100, nat_lit 101, nat_lit 115]⟩⟩ := rfl
theorem z106 : Str.ofString "found" = ⟨⟨[nat_lit 102, nat_lit 111, nat_lit 117, nat_lit 110, nat_lit 100]⟩⟩ := rfl
theorem z107 : Str.ofString "own" = ⟨⟨[nat_lit 111, nat_lit 119, nat_lit 110]⟩⟩ := rfl
theorem z108 : Str.ofString "sum" = ⟨⟨[nat_lit 115, nat_lit 117, nat_lit 109]⟩⟩ := rfl
theorem z109 : Str.ofString "/claim/cut.py" = ⟨⟨[nat_lit 47, nat_lit 99, nat_lit 108, nat_lit 97, nat_lit 105, nat_lit 109, nat_lit 47, nat_lit 99, nat_lit 117, nat_lit 116, nat_lit 46, nat_lit 112, nat_lit 121]⟩⟩ := rfl
end Mine
end
open PySem PySem.W PyProof.Rows PySem.Spec PySem.Calls Mine
set_option maxRecDepth 100000
set_option maxHeartbeats 8000000
theorem PySem.Challenge.cw_wb0026_01_holds : PySem.Challenge.rw_wb0026_01.Holds := by
  dsimp only [PySem.Challenge.rw_wb0026_01, PySem.Challenge.pw_wb0026_01, z0, z1, z2, z3, z4, z5, z6, z7, z8, z9, z10, z11, z12, z13, z14, z15, z16, z17, z18, z19, z20, z21, z22, z23, z24, z25, z26, z27, z28, z29, z30, z31, z32, z33, z34, z35, z36, z37, z38, z39, z40, z41, z42, z43, z44, z45, z46, z47, z48, z49, z50, z51, z52, z53, z54, z55, z56, z57, z58, z59, z60, z61, z62, z63, z64, z65, z66, z67, z68, z69, z70, z71, z72, z73, z74, z75, z76, z77, z78, z79, z80, z81, z82, z83, z84, z85, z86, z87, z88, z89, z90, z91, z92, z93, z94, z95, z96, z97, z98, z99, z100, z101, z102, z103, z104, z105, z106, z107, z108, z109]
  w_on; o_law; o_head Hook.none; (case hw => w_witness2)
  intro w s₀ s₁ mg mb G Y fa o pm cd doc dV kV ho hd hcd hD hmg hg args vals as hpre hlay hrd hwl hlo
  have X := (Ground.X G).1
  have V := (Ground.X G).2
  refine Ground.open G ?_
  intro T B D TE TW
  wrow_args hpre hlay hrd hwl hlo
  rename_i ns hs hlay0 hL1 hr1 hl2 a4 a3 la vs a1 hL ra w1 r0 hI hr hc1 hc2
  have w1' : Well w.params s₁.heap (.ref la) (.list (ofPys (ns.map PyData.int))) := w1
  have hget : IsL s₁.heap la vs.toArray 0 := by
    cases w1' with
    | list hget _ =>
      obtain ⟨o', h1, h2, n, h3⟩ := hL
      rw [hget] at h1
      cases h1
      rw [← (Data.seq.inj h3).1]
      exact hget
  have Gl := glb_of_top T (by rfl) (by decide +kernel) (by decide +kernel) (by decide +kernel)
  obtain ⟨m₁, m₂, rl, nz, n, p1, p2, p3, p4, p5, p6, p7⟩ := law_plain (ns.map Atm.int) ns (ints_of_map ns) (by rw [List.length_map]; omega)
  refine law_walk (hG := s₁.heap) p1 p2 p3 p4 p5 p6 p7 ⟨rfl, by decide +kernel, by decide +kernel⟩ rfl ⟨Gl, fun b o e => e, .of_eq hg⟩ hmg ⟨la, vs.toArray, 0, rfl, hget, are_of_ints hI⟩ fun s' x => ?_
  exact ⟨.inl ⟨_, _, [], rfl, fun _ => rfl, ReadsW.bool true, by first | rfl | wrow_post, fun _ => ⟨List.nodup_nil, fun _ hm => (nomatch hm)⟩⟩, .of_keep x.heap, x.os, x.bare (.of_eq hg)⟩
