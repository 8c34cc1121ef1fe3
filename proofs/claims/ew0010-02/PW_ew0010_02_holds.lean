import PyProof.Rows.All
import Wide.All
import OpenK.AllK
import Wide.FinOn
import Lean
import PySem.Challenge.RW_ew0010_02
set_option Elab.async false
set_option maxRecDepth 100000

section
open PySem
namespace Mine

/-! ## the small syntax: it bears all that the model's syntax tree bears -/
inductive E where
  | cst (c : Const) (k : Nat) (p : Pos)
  | name (x : Str) (p : Pos)
  | bop (op : BoolOp) (es : E) (p : Pos)
  | bin (l : E) (op : Operator) (r : E) (p : Pos)
  | un (op : UnaryOp) (e : E) (p : Pos)
  | ife (t a b : E) (p : Pos)
  | lst (es : E) (p : Pos)
  | tpl (es : E) (k : Nat) (p : Pos)
  | dict0 (p : Pos)
  | comp (elt tgt iter ifs : E) (sc : Scope) (p : Pos)
  | cmp (l : E) (op : CmpOp) (r : E) (p : Pos)
  | callm (o : E) (x : Str) (ap : Pos) (args kws : E) (p : Pos)
  | call (f args kws : E) (p : Pos)
  | attr (e : E) (x : Str) (p : Pos)
  | sub (e i : E) (p : Pos)
  | slice (e lo hi : E) (sp p : Pos)
  | nil
  | cons (e r : E)
  | kw (x : Str) (e : E) (kp : Pos) (r : E)
  | no
  | raw (e : Expr)

inductive S where
  | nil
  | cons (s r : S)
  | expr (e : E) (p : Pos)
  | ret (e : E) (p : Pos)
  | asg (t v : E) (p : Pos)
  | aug (x : Str) (np : Pos) (op : Operator) (v : E) (p : Pos)
  | ife (t : E) (a b : S) (p : Pos)
  | whl (t : E) (a : S) (p : Pos)
  | for_ (t it : E) (a : S) (p : Pos)
  | try_ (a : S) (hs : List ExceptHandler) (o f : S) (p : Pos)
  | brk (p : Pos)
  | cont (p : Pos)
  | pass (p : Pos)
  | def_ (x : Str) (ps : Arguments) (a : S) (sc : Scope) (b : Str) (p : Pos)
  | raw (s : Stmt)

structure U where
  e : Expr
  l : List Expr
  k : List Keyword
  o : Option Expr

def p0 : Pos := ⟨0, 0, 0, 0⟩
def U.ex (e : Expr) : U := ⟨e, [], [], some e⟩
def noE : Expr := .Constant .none 0 p0
def upU : E → U
  | .cst c k p => .ex (.Constant c k p)
  | .name x p => .ex (.Name x p)
  | .bop op es p => .ex (.BoolOp op (upU es).l p)
  | .bin l op r p => .ex (.BinOp (upU l).e op (upU r).e p)
  | .un op e p => .ex (.UnaryOp op (upU e).e p)
  | .ife t a b p => .ex (.IfExp (upU t).e (upU a).e (upU b).e p)
  | .lst es p => .ex (.List (upU es).l p)
  | .tpl es k p => .ex (.Tuple (upU es).l k p)
  | .dict0 p => .ex (.Dict [] [] p)
  | .comp elt tgt iter ifs sc p => .ex (.ListComp (upU elt).e [⟨(upU tgt).e, (upU iter).e, (upU ifs).l, 0⟩] sc p)
  | .cmp l op r p => .ex (.Compare (upU l).e [op] [(upU r).e] p)
  | .callm o x ap args kws p => .ex (.Call (.Attribute (upU o).e x ap) (upU args).l (upU kws).k p)
  | .call f args kws p => .ex (.Call (upU f).e (upU args).l (upU kws).k p)
  | .attr e x p => .ex (.Attribute (upU e).e x p)
  | .sub e i p => .ex (.Subscript (upU e).e (upU i).e p)
  | .slice e lo hi sp p => .ex (.Subscript (upU e).e (.Slice (upU lo).o (upU hi).o none sp) p)
  | .nil => ⟨noE, [], [], none⟩
  | .cons e r => ⟨noE, (upU e).e :: (upU r).l, [], none⟩
  | .kw x e kp r => ⟨noE, [], ⟨some x, (upU e).e, kp⟩ :: (upU r).k, none⟩
  | .no => ⟨noE, [], [], none⟩
  | .raw e => .ex e

structure US where
  s : Stmt
  l : List Stmt
def US.st (s : Stmt) : US := ⟨s, []⟩
def noS : Stmt := .Pass p0
def upS : S → US
  | .nil => ⟨noS, []⟩
  | .cons s r => ⟨noS, (upS s).s :: (upS r).l⟩
  | .expr e p => .st (.Expr (upU e).e p)
  | .ret e p => .st (.Return (upU e).o p)
  | .asg t v p => .st (.Assign [(upU t).e] (upU v).e p)
  | .aug x np op v p => .st (.AugAssign (.Name x np) op (upU v).e p)
  | .ife t a b p => .st (.If (upU t).e (upS a).l (upS b).l p)
  | .whl t a p => .st (.While (upU t).e (upS a).l [] p)
  | .for_ t it a p => .st (.For (upU t).e (upU it).e (upS a).l [] p)
  | .try_ a hs o f p => .st (.Try (upS a).l hs (upS o).l (upS f).l p)
  | .brk p => .st (.Break p)
  | .cont p => .st (.Continue p)
  | .pass p => .st (.Pass p)
  | .def_ x ps a sc b p => .st (.FunctionDef x ps (upS a).l [] none [] sc none b p)
  | .raw s => .st s

/-! ## down: the small syntax of a tree of the model's -/
mutual
def dnE : Nat → Expr → E
  | 0, e => .raw e
  | n + 1, e => match e with
    | .Constant c k p => .cst c k p
    | .Name x p => .name x p
    | .BoolOp op es p => .bop op (dnL n es) p
    | .BinOp l op r p => .bin (dnE n l) op (dnE n r) p
    | .UnaryOp op e p => .un op (dnE n e) p
    | .IfExp t a b p => .ife (dnE n t) (dnE n a) (dnE n b) p
    | .List es p => .lst (dnL n es) p
    | .Tuple es k p => .tpl (dnL n es) k p
    | .Dict [] [] p => .dict0 p
    | .ListComp elt [⟨tgt, iter, ifs, .ofNat 0⟩] sc p => .comp (dnE n elt) (dnE n tgt) (dnE n iter) (dnL n ifs) sc p
    | .Compare l [op] [r] p => .cmp (dnE n l) op (dnE n r) p
    | .Call (.Attribute o x ap) args kws p => .callm (dnE n o) x ap (dnL n args) (dnK n kws) p
    | .Call f args kws p => .call (dnE n f) (dnL n args) (dnK n kws) p
    | .Attribute e x p => .attr (dnE n e) x p
    | .Subscript e (.Slice lo hi none sp) p => .slice (dnE n e) (dnO n lo) (dnO n hi) sp p
    | .Subscript e i p => .sub (dnE n e) (dnE n i) p
    | e => .raw e
def dnL : Nat → List Expr → E
  | 0, _ => .nil
  | _ + 1, [] => .nil
  | n + 1, e :: r => .cons (dnE n e) (dnL n r)
def dnO : Nat → Option Expr → E
  | 0, _ => .no
  | _ + 1, none => .no
  | n + 1, some e => dnE n e
def dnK : Nat → List Keyword → E
  | 0, _ => .nil
  | _ + 1, [] => .nil
  | n + 1, ⟨some x, e, kp⟩ :: r => .kw x (dnE n e) kp (dnK n r)
  | _ + 1, ⟨none, e, _⟩ :: _ => .raw e
end

mutual
def dnS : Nat → Stmt → S
  | 0, s => .raw s
  | n + 1, s => match s with
    | .Expr e p => .expr (dnE 60 e) p
    | .Return e p => .ret (dnO 60 e) p
    | .Assign [t] v p => .asg (dnE 60 t) (dnE 60 v) p
    | .AugAssign (.Name x np) op v p => .aug x np op (dnE 60 v) p
    | .If t a b p => .ife (dnE 60 t) (dnSs n a) (dnSs n b) p
    | .While t a [] p => .whl (dnE 60 t) (dnSs n a) p
    | .For t it a [] p => .for_ (dnE 60 t) (dnE 60 it) (dnSs n a) p
    | .Try a hs o f p => .try_ (dnSs n a) hs (dnSs n o) (dnSs n f) p
    | .Break p => .brk p
    | .Continue p => .cont p
    | .Pass p => .pass p
    | .FunctionDef x ps a [] none [] sc none b p => .def_ x ps (dnSs n a) sc b p
    | s => .raw s
def dnSs : Nat → List Stmt → S
  | 0, _ => .nil
  | _ + 1, [] => .nil
  | n + 1, s :: r => .cons (dnS n s) (dnSs n r)
end

/-! ## values, objects, tasks -/
inductive V where
  | none
  | bool (b : Bool)
  | int (i : Int)
  | str (l : List Nat)
  | tup (vs : List V)
  | obj (i : Nat)
  | st (v : Value)
  | glo (x : Str)
  | rng (n : Int)
  | clo (ps : Arguments) (body : S) (sc : Scope) (cells : List (Str × Nat))
  | bm (id : String) (i : Nat)
  | mat (l : List Nat) (sp : List (Option (Nat × Nat)))

inductive O where
  | list (xs : List V)
  | dict (es : List (List Nat × V)) (ver : Nat)
  | inst (c : Str) (fs : List (Str × V))
  | cell (v : Option V)

abbrev Hp := List O
abbrev Loc := List (Str × V)

structure Fc where
  names : List (Str × NameKind)
  cells : List (Str × Nat)
  depth : Nat
  tab : Bool

inductive It where
  | lst (i k : Nat)
  | vals (vs : List V)
  | dict (i k v : Nat)

inductive Task where
  | call (f : V) (args : List V) (kws : List (Str × V)) (d : Nat) (H : Hp)
  | whl (t : E) (a : S) (F : Fc) (loc : Loc) (H : Hp)
  | for_ (t : E) (it : It) (a : S) (F : Fc) (loc : Loc) (H : Hp)
  | comp (elt tgt ifs : E) (it : It) (acc : Nat) (F : Fc) (loc : Loc) (H : Hp)

inductive Fl where
  | next | brk | cont
  | ret (v : V)

structure Out where
  f : Fl
  loc : Loc
  H : Hp

inductive Prog (α : Type) where
  | ret (a : α)
  | fail
  | call (t : Task) (k : Out → Prog α)

namespace Prog
def bind {α β : Type} : Prog α → (α → Prog β) → Prog β
  | .ret a, f => f a
  | .fail, _ => .fail
  | .call t k, f => .call t fun o => (k o).bind f
def opt {α : Type} : Option α → Prog α
  | some a => .ret a
  | none => .fail
end Prog

structure FnI where
  qual : Str
  params : Arguments
  dflt : List V
  body : S
  sc : Scope
  tab : Bool

/-- what stands at the top -/
structure Tp where
  glob : Str → Option V
  fn : Str → Option FnI
  lst : Str → Option (List V)
  meth : Str → Str → Option Str
  defs : Nat → Nat → Option Str

end Mine

end
section
open PySem
namespace Mine

/-! ## the pure words -/
def big : Nat := 1048576

def clampI (n : Nat) (i : Int) : Nat := if i < 0 then (i + n).toNat else min i.toNat n
def loI (n : Nat) : Option Int → Nat
  | none => 0
  | some i => clampI n i
def hiI (n : Nat) : Option Int → Nat
  | none => n
  | some i => clampI n i
def sliceL {α : Type} (l : List α) (lo hi : Option Int) : List α := (l.drop (loI l.length lo)).take (hiI l.length hi - loI l.length lo)
def indexL {α : Type} (l : List α) (i : Int) : Option α := if 0 ≤ i then l[i.toNat]? else if 0 ≤ i + l.length then l[(i + l.length).toNat]? else none
def wordI (i : Int) : Bool := decide (-(2 ^ 63) ≤ i) && decide (i < 2 ^ 63)

def subIn (x l : List Nat) : Bool := (List.range (l.length + 1)).any fun k => (l.drop k).take x.length == x
def lexLt : List Nat → List Nat → Bool
  | [], [] => false
  | [], _ :: _ => true
  | _ :: _, [] => false
  | a :: l, b :: m => if a < b then true else if b < a then false else lexLt l m
def isWs (c : Nat) : Bool := (9 ≤ c && c ≤ 13) || (28 ≤ c && c ≤ 32)
def ascii (l : List Nat) : Bool := l.all fun c => decide (c < 128)
def lstripL (l : List Nat) : List Nat := l.dropWhile isWs
def rstripL (l : List Nat) : List Nat := (l.reverse.dropWhile isWs).reverse
def stripL (l : List Nat) : List Nat := rstripL (lstripL l)
def isDig (c : Nat) : Bool := 48 ≤ c && c ≤ 57
def digitsN (l : List Nat) : Nat := l.foldl (fun n c => n * 10 + (c - 48)) 0
def intOf (l : List Nat) : Option Int := match l with
  | 45 :: r => if r ≠ [] ∧ r.all isDig = true ∧ r.length ≤ 600 then some (-(digitsN r : Int)) else none
  | r => if r ≠ [] ∧ r.all isDig = true ∧ r.length ≤ 600 then some (digitsN r : Int) else none
def textOf (i : Int) : List Nat := (toString i).toList.map Char.toNat
def joinL (sep : List Nat) : List (List Nat) → List Nat
  | [] => []
  | [x] => x
  | x :: y :: r => x ++ sep ++ joinL sep (y :: r)

def isBl (c : Nat) : Bool := c == 9 || c == 32
def cnt (p : Nat → Bool) (l : List Nat) : Nat := (l.takeWhile p).length
/-- how often a sign stands from p on -/
def cntA (P : Nat → Bool) (T : Array Nat) : Nat → Nat → Nat
  | 0, _ => 0
  | n + 1, p => if P (T.getD p 0) then cntA P T n (p + 1) + 1 else 0
/-- what a whole number is, from a place on -/
def natT (T : Array Nat) (p : Nat) : Option Nat :=
  if p < T.size ∧ T.getD p 0 = 48 then some 1
  else if p < T.size ∧ (49 ≤ T.getD p 0 && T.getD p 0 ≤ 57) = true then some (1 + cntA isDig T (T.size - (p + 1)) (p + 1)) else none
def sgnT (T : Array Nat) (p : Nat) : Nat := cntA (fun x => x == 45) T (min 1 (T.size - p)) p
/-- a whole number with its sign -/
def intT (T : Array Nat) (p : Nat) : Option Nat := (natT T (p + sgnT T p)).map (sgnT T p + ·)
def fracT (T : Array Nat) (p : Nat) : Option Nat :=
  if p < T.size ∧ T.getD p 0 = 46 then (if cntA isDig T (T.size - (p + 1)) (p + 1) = 0 then none else some (1 + cntA isDig T (T.size - (p + 1)) (p + 1))) else none
def expS (T : Array Nat) (p : Nat) : Nat := cntA (fun c => c == 45 || c == 43) T (min 1 (T.size - p)) p
def expT (T : Array Nat) (p : Nat) : Option Nat :=
  if p < T.size ∧ (T.getD p 0 == 101 || T.getD p 0 == 69) = true then
    (if cntA isDig T (T.size - (p + 1 + expS T (p + 1))) (p + 1 + expS T (p + 1)) = 0 then none else some (1 + expS T (p + 1) + cntA isDig T (T.size - (p + 1 + expS T (p + 1))) (p + 1 + expS T (p + 1)))) else none
def blT (T : Array Nat) (p : Nat) : Nat := cntA isBl T (T.size - p) p
def numFin (T : Array Nat) (pos s i : Nat) (fr ex : Option Nat) : List (Option (Nat × Nat)) :=
  [some (pos, i + fr.getD 0 + ex.getD 0 + blT T (i + fr.getD 0 + ex.getD 0)), some (s, i), fr.map fun n => (i, i + n), ex.map fun n => (i + fr.getD 0, i + fr.getD 0 + n)]
/-- the number's pattern -/
def numT (T : Array Nat) (pos : Nat) : Option (List (Option (Nat × Nat))) := match intT T (pos + blT T pos) with
  | none => none
  | some n => some (numFin T pos (pos + blT T pos) (pos + blT T pos + n) (fracT T (pos + blT T pos + n)) (expT T (pos + blT T pos + n + (fracT T (pos + blT T pos + n)).getD 0)))
def isTerm (c : Nat) : Bool := c == 39 || c == 34 || c == 92 || decide (c < 32)
def chunkRe (l : List Nat) (pos : Nat) : Option (List (Option (Nat × Nat))) :=
  let n := cnt (fun c => !isTerm c) (l.drop pos)
  if pos + n < l.length then some [some (pos, pos + n + 1), some (pos, pos + n), some (pos + n, pos + n + 1)] else none

def putD (es : List (List Nat × V)) (k : List Nat) (v : V) : List (List Nat × V) := match es with
  | [] => [(k, v)]
  | (k', v') :: r => if k' = k then (k, v) :: r else (k', v') :: putD r k v
def getD (es : List (List Nat × V)) (k : List Nat) : Option V := match es with
  | [] => none
  | (k', v') :: r => if k' = k then some v' else getD r k
def putS (es : List (Str × V)) (k : Str) (v : V) : List (Str × V) := match es with
  | [] => [(k, v)]
  | (k', v') :: r => if k' == k then (k', v) :: r else (k', v') :: putS r k v

/-! ## reading the heap -/
def listAt (H : Hp) (i : Nat) : Option (List V) := match H[i]? with | some (.list xs) => some xs | _ => none
def dictAt (H : Hp) (i : Nat) : Option (List (List Nat × V) × Nat) := match H[i]? with | some (.dict es v) => some (es, v) | _ => none
def cellAtM (H : Hp) (i : Nat) : Option V := match H[i]? with | some (.cell v) => v | _ => none

def truthM (v : V) (H : Hp) : Option Bool := match v with
  | .none => some false
  | .bool b => some b
  | .int i => some (i != 0)
  | .str l => some (l != [])
  | .tup vs => some (!vs.isEmpty)
  | .obj i => match H[i]? with
    | some (.list xs) => some (!xs.isEmpty)
    | some (.dict es _) => some (!es.isEmpty)
    | _ => none
  | .glo x => if x == "_law_fraction" then some true else none
  | .clo .. => some true
  | _ => none

def strsOf : List V → Option (List (List Nat))
  | [] => some []
  | .str l :: r => (strsOf r).map (l :: ·)
  | _ :: _ => none
def boolsOf : List V → Option (List Bool)
  | [] => some []
  | .bool l :: r => (boolsOf r).map (l :: ·)
  | _ :: _ => none
def pairsOf : List V → Option (List (List Nat × V))
  | [] => some []
  | .tup [.str l, v] :: r => (pairsOf r).map ((l, v) :: ·)
  | _ :: _ => none

def eqL (f : V → V → Option Bool) : List V → List V → Option Bool
  | [], [] => some true
  | a :: r, b :: q => match f a b, eqL f r q with
    | some x, some y => some (x && y)
    | _, _ => none
  | _, _ => none
def eqV : Nat → Hp → V → V → Option Bool
  | 0, _, _, _ => none
  | n + 1, H, a, b => match a, b with
    | .none, .none => some true
    | .bool x, .bool y => some (x == y)
    | .int x, .int y => some (decide (x = y))
    | .str x, .str y => some (x == y)
    | .none, .str _ => some false
    | .str _, .none => some false
    | .none, .int _ => some false
    | .int _, .none => some false
    | .int _, .str _ => some false
    | .str _, .int _ => some false
    | .tup xs, .tup ys => eqL (eqV n H) xs ys
    | .obj i, .obj j => match H[i]?, H[j]? with
      | some (.list xs), some (.list ys) => eqL (eqV n H) xs ys
      | _, _ => none
    | _, _ => none

def isInst (v : V) (T : String) (H : Hp) : Option Bool := match v with
  | .none => some false
  | .bool _ => some (T == "bool")
  | .int _ => some false
  | .str _ => some (T == "str")
  | .obj i => match H[i]? with
    | some (.list _) => some (T == "list")
    | some (.dict ..) => some (T == "dict")
    | _ => none
  | _ => none

def cmpM (op : CmpOp) (a b : V) (H : Hp) : Option Bool := match op, a, b with
  | .Eq, a, b => eqV 40 H a b
  | .NotEq, .int x, .int y => some (decide (x ≠ y))
  | .NotEq, .str x, .str y => some (x != y)
  | .Lt, .int x, .int y => some (decide (x < y))
  | .LtE, .int x, .int y => some (decide (x ≤ y))
  | .Gt, .int x, .int y => some (decide (y < x))
  | .GtE, .int x, .int y => some (decide (y ≤ x))
  | .GtE, .str x, .str y => some (!decide (x < y))
  | .LtE, .str x, .str y => some (!decide (y < x))
  | .In, .str x, .str l => some (subIn x l)
  | .In, .str x, .tup vs => (strsOf vs).map (·.any (x == ·))
  | .Is, a, .none => match a with
    | .none => some true
    | _ => some false
  | .IsNot, a, .none => match a with
    | .none => some false
    | _ => some true
  | _, _, _ => none

def binM (op : Operator) (a b : V) (H : Hp) : Option (V × Hp) := match op, a, b with
  | .Add, .int x, .int y => some (.int (x + y), H)
  | .Sub, .int x, .int y => some (.int (x - y), H)
  | .Mult, .int x, .int y => if y.natAbs < 4294967296 then some (.int (x * y), H) else none
  | .Mod, .int x, .int y => if y = 0 then none else some (.int (x.fmod y), H)
  | .FloorDiv, .int x, .int y => if 0 < y ∧ y < 1000 then some (.int (x.fdiv y), H) else none
  | .Add, .str x, .str y => if x.length + y.length ≤ big then some (.str (x ++ y), H) else none
  | .Add, .obj i, .obj j => match listAt H i, listAt H j with
    | some xs, some ys => if xs.length + ys.length ≤ big then some (.obj H.length, H ++ [.list (xs ++ ys)]) else none
    | _, _ => none
  | _, _, _ => none
/-- op= upon a name -/
def augM (op : Operator) (a b : V) (H : Hp) : Option (V × Hp) := match op, a, b with
  | .Add, .obj i, .obj j => match listAt H i, listAt H j with
    | some xs, some ys => if i = j then none else if xs.length + ys.length ≤ big then some (.obj i, H.set i (.list (xs ++ ys))) else none
    | _, _ => none
  | .Add, .int x, .int y => some (.int (x + y), H)
  | .Sub, .int x, .int y => some (.int (x - y), H)
  | .Add, .str x, .str y => if x.length + y.length ≤ big then some (.str (x ++ y), H) else none
  | _, _, _ => none

def subM (T : Tp) (o i : V) (H : Hp) : Option V := match o, i with
  | .str l, .int k => if wordI k then (indexL l k).map fun c => .str [c] else none
  | .tup vs, .int k => if wordI k then indexL vs k else none
  | .obj a, .int k => if wordI k then (listAt H a).bind fun xs => indexL xs k else none
  | .glo x, .int k => if wordI k then (T.lst x).bind fun xs => indexL xs k else none
  | .obj a, .str k => (dictAt H a).bind fun es => getD es.1 k
  | _, _ => none
def intOpt : V → Option (Option Int)
  | .none => some none
  | .int i => if wordI i then some (some i) else none
  | _ => none
def sliceM (T : Tp) (o lo hi : V) (H : Hp) : Option (V × Hp) := match o, intOpt lo, intOpt hi with
  | .str l, some a, some b => some (.str (sliceL l a b), H)
  | .obj i, some a, some b => (listAt H i).map fun xs => (.obj H.length, H ++ [.list (sliceL xs a b)])
  | .glo x, some a, some b => (T.lst x).bind fun xs => if xs.length ≤ big then some (.obj H.length, H ++ [.list (sliceL xs a b)]) else none
  | _, _, _ => none

def iterM (x : V) (H : Hp) : Option It := match x with
  | .obj i => match H[i]? with
    | some (.list _) => some (.lst i 0)
    | some (.dict _ v) => some (.dict i 0 v)
    | _ => none
  | .str l => some (.vals (l.map fun c => .str [c]))
  | .rng n => if 0 ≤ n ∧ n ≤ (big : Int) then some (.vals ((List.range n.toNat).map fun (k : Nat) => V.int k)) else none
  | _ => none
def nextM (it : It) (H : Hp) : Option (Option (V × It)) := match it with
  | .lst i k => (listAt H i).map fun xs => (xs[k]?).map fun v => (v, .lst i (k + 1))
  | .vals [] => some none
  | .vals (v :: r) => some (some (v, .vals r))
  | .dict i k v => (dictAt H i).bind fun es => if es.2 = v then some ((es.1[k]?).map fun e => (.str e.1, .dict i (k + 1) v)) else none
def itemsM (x : V) (H : Hp) : Option (List V) := match x with
  | .tup vs => some vs
  | .obj i => listAt H i
  | _ => none

def cdict : Str := "__classdict__"
def loadM (T : Tp) (F : Fc) (loc : Loc) (H : Hp) (x : Str) : Option V := match F.names.lookup x with
  | some .local => loc.lookup x
  | some .cell => (F.cells.lookup x).bind fun i => cellAtM H i
  | some .free => if x == cdict then none else (F.cells.lookup x).bind fun i => cellAtM H i
  | some .globalImplicit => T.glob x
  | _ => none
def isCell (H : Hp) (i : Nat) : Bool := match H[i]? with | some (.cell _) => true | _ => false
def storeM (F : Fc) (loc : Loc) (H : Hp) (x : Str) (v : V) : Option (Loc × Hp) := match F.names.lookup x with
  | some .local => some (putS loc x v, H)
  | some .cell => (F.cells.lookup x).bind fun i => if isCell H i then some (loc, H.set i (.cell (some v))) else none
  | _ => none

/-- the attributes that the decoder writes -/
def fieldNames : List Str := ["encoding", "object_hook", "object_pairs_hook", "parse_float", "parse_int", "strict", "parse_object", "parse_array", "parse_string", "parse_mlstring", "parse_tfnns", "memo", "scan_once", "scan_object_once"]
def handM : V → Bool
  | .st (.builtin _) => false
  | _ => true
def fieldM (fs : List (Str × V)) (x : Str) : Option V := if fieldNames.contains x then (fs.lookup x).bind fun u => if handM u then some u else none else none
def strMeths : List Str := ["strip", "rstrip", "join", "index"]
def getMethM (T : Tp) (v : V) (x : Str) (H : Hp) : Option (V × List V) := match v with
  | .str _ => if x == "strip" then some (.st (.builtin "str.strip"), [v]) else if x == "rstrip" then some (.st (.builtin "str.rstrip"), [v])
      else if x == "join" then some (.st (.builtin "str.join"), [v]) else if x == "index" then some (.st (.builtin "str.index"), [v]) else none
  | .glo y => if y == "NUMBER_RE" && x == "match" then some (.st (.builtin "re.Pattern.match"), [v]) else none
  | .mat .. => if x == "end" then some (.st (.builtin "re.Match.end"), [v]) else if x == "groups" then some (.st (.builtin "re.Match.groups"), [v]) else none
  | .obj i => match H[i]? with
    | some (.list _) => if x == "append" then some (.st (.builtin "list.append"), [v]) else if x == "pop" then some (.st (.builtin "list.pop"), [v]) else none
    | some (.dict ..) => if x == "clear" then some (.st (.builtin "dict.clear"), [v]) else none
    | some (.inst c fs) => match T.meth c x with
      | some q => if (fs.lookup x).isSome then none else some (.glo q, [v])
      | none => (fieldM fs x).map fun u => (u, [])
    | _ => none
  | _ => none
def getAttrM (T : Tp) (v : V) (x : Str) (H : Hp) : Option V := match v with
  | .obj i => match H[i]? with
    | some (.inst c fs) => match T.meth c x with
      | some _ => none
      | none => fieldM fs x
    | _ => none
  | _ => none
def setAttrM (o : V) (x : Str) (v : V) (H : Hp) : Option Hp := match o with
  | .obj i => match H[i]? with
    | some (.inst c fs) => if fieldNames.contains x && decide (fs.length < 1000) then some (H.set i (.inst c (putS fs x v))) else none
    | _ => none
  | _ => none
def setItemM (o i v : V) (H : Hp) : Option Hp := match o, i with
  | .obj a, .str k => (dictAt H a).bind fun es => if es.1.length < big then some (H.set a (.dict (putD es.1 k v) (es.2 + 1))) else none
  | _, _ => none

def spanTxt (l : List Nat) : Option (Nat × Nat) → V
  | some (a, b) => .str ((l.drop a).take (b - a))
  | none => .none
def biM (id : String) (args : List V) (H : Hp) : Option (V × Hp) := match id, args with
  | "len", [.str l] => some (.int l.length, H)
  | "len", [.tup l] => some (.int l.length, H)
  | "len", [.obj i] => match H[i]? with
    | some (.list xs) => some (.int xs.length, H)
    | some (.dict xs _) => some (.int xs.length, H)
    | _ => none
  | "isinstance", [v, .st (.type t)] => if t == "bool" || t == "str" || t == "dict" || t == "list" then (isInst v t H).map fun b => (.bool b, H) else none
  | "all", [.obj i] => (listAt H i).bind fun xs => (boolsOf xs).map fun bs => (.bool (bs.all fun b => b), H)
  | "ord", [.str [c]] => some (.int c, H)
  | "list.append", [.obj i, v] => (listAt H i).bind fun xs => if xs.length < big then some (.none, H.set i (.list (xs ++ [v]))) else none
  | "list.pop", [.obj i, .int 0] => match listAt H i with
    | some (v :: xs) => some (v, H.set i (.list xs))
    | _ => none
  | "str.strip", [.str l] => if ascii l then some (.str (stripL l), H) else none
  | "str.rstrip", [.str l] => if ascii l then some (.str (rstripL l), H) else none
  | "str.join", [.str sep, .obj i] => (listAt H i).bind fun xs => (strsOf xs).bind fun ls =>
      if (joinL sep ls).length ≤ big then some (.str (joinL sep ls), H) else none
  | "str.index", [.str l, .str [c]] => if l.contains c then some (.int (l.idxOf c), H) else none
  | "dict.clear", [.obj i] => (dictAt H i).map fun es => (.none, H.set i (.dict [] (es.2 + 1)))
  | "re.Pattern.match", [.glo y, .str l, .int p] => if 0 ≤ p ∧ p ≤ l.length ∧ ascii (l.drop p.toNat) then
      (if y == "NUMBER_RE" then some (match numT l.toArray p.toNat with | some sp => (.mat l sp, H) | none => (.none, H)) else none) else none
  | "re.Match.end", [.mat _ (some (_, e) :: _)] => some (.int e, H)
  | "re.Match.groups", [.mat l (_ :: sp)] => some (.tup (sp.map (spanTxt l)), H)
  | _, _ => none
def tyM (t : String) (args : List V) (H : Hp) : Option (V × Hp) := match t, args with
  | "range", [.int n] => some (.rng n, H)
  | "int", [.str l] => (intOf l).map fun i => (.int i, H)
  | _, _ => none

/-! ## calls -/
def callM (T : Tp) (f : V) (args : List V) (kws : List (Str × V)) (d : Nat) (H : Hp) : Prog (V × Hp) := match f with
  | .st (.builtin id) => if kws.isEmpty then .opt (biM id args H) else .fail
  | .st (.type t) => if kws.isEmpty then .opt (tyM t args H) else .fail
  | .glo x => match T.fn x with
    | some _ => .call (.call f args kws d H) fun o => match o.f with | .ret v => .ret (v, o.H) | _ => .fail
    | none => match T.meth x "__init__" with
      | some q => if d < 150 then .call (.call (.glo q) (.obj H.length :: args) kws (d + 1) (H ++ [.inst x []])) fun o => match o.f with | .ret .none => .ret (.obj H.length, o.H) | _ => .fail
      else .fail
      | none => .fail
  | .clo .. => .call (.call f args kws d H) fun o => match o.f with | .ret v => .ret (v, o.H) | _ => .fail
  | _ => .fail

def addKw {α : Type} (names : List Str) : List (Str × α) → List (Str × α) → Option (List (Str × α))
  | slots, [] => some slots
  | slots, (k, v) :: r => if names.contains k && (slots.lookup k).isNone then addKw names (slots ++ [(k, v)]) r else none
def addDf {α : Type} : List (Str × α) → List (Str × α) → List (Str × α)
  | slots, [] => slots
  | slots, (k, v) :: r => addDf (if (slots.lookup k).isNone then slots ++ [(k, v)] else slots) r
def bindP {α : Type} (names : List Str) (dflt args : List α) (kws : List (Str × α)) : Option (List (Str × α)) :=
  if names.length < args.length then none else
  match addKw names (names.zip args) kws with
  | none => none
  | some slots =>
    if ((names.take (names.length - (dflt.drop (dflt.length - names.length)).length)).filter fun n => (slots.lookup n).isNone).isEmpty then
      some (names.filterMap fun n => ((addDf slots ((names.drop (names.length - (dflt.drop (dflt.length - names.length)).length)).zip (dflt.drop (dflt.length - names.length)))).lookup n).map (n, ·))
    else none
def bindM (ps : Arguments) (dflt : List V) (args : List V) (kws : List (Str × V)) : Option (List (Str × V)) :=
  if !ps.posonlyargs.isEmpty || !ps.kwonlyargs.isEmpty || ps.vararg.isSome || ps.kwarg.isSome then none else bindP (ps.args.map (·.arg)) dflt args kws
def nodupS : List Str → Bool
  | [] => true
  | x :: r => !r.contains x && nodupS r
/-- the cells of a new frame, in the scope's order, from the heap's length on -/
def newCells : List (Str × NameKind) → Nat → List (Str × Nat)
  | [], _ => []
  | (x, .cell) :: r, n => newCells r (n + 1) ++ [(x, n)]
  | _ :: r, n => newCells r n
def cellObjs (b : List (Str × V)) : List (Str × NameKind) → List O
  | [] => []
  | (x, .cell) :: r => .cell (b.lookup x) :: cellObjs b r
  | _ :: r => cellObjs b r
structure Ent where
  F : Fc
  loc : Loc
  H : Hp
def enterM (sc : Scope) (cells : List (Str × Nat)) (b : List (Str × V)) (d : Nat) (tab : Bool) (H : Hp) : Option Ent :=
  if d < 150 && nodupS (b.map (·.1)) && nodupS (sc.names.map (·.1)) && (cells.isEmpty || sc.names.all fun y => y.2 != .cell) && sc.kind == .function && !sc.isCoroutine && !sc.isGenerator && b.all (fun y => sc.names.lookup y.1 == some .local || sc.names.lookup y.1 == some .cell) then
    some ⟨⟨sc.names, newCells sc.names H.length ++ cells, d + 1, tab⟩, b.filter (fun y => sc.names.lookup y.1 == some .local), H ++ cellObjs b sc.names⟩
  else none
def freeCells (F : Fc) : List (Str × NameKind) → List (Str × Nat) → Option (List (Str × Nat))
  | [], acc => some acc
  | (x, .free) :: r, acc => match F.cells.lookup x with
    | some i => freeCells F r ((x, i) :: acc)
    | none => none
  | _ :: r, acc => freeCells F r acc

/-! ## the meaning of an expression -/
structure D where
  v : Hp → Prog (V × Hp)
  l : Hp → Prog (List V × Hp)
  k : Hp → Prog (List (Str × V) × Hp)
  o : Hp → Prog (V × Hp)
  t : Hp → Prog (Bool × Hp)
  tl : BoolOp → Hp → Prog (Bool × Hp)
  bl : BoolOp → Hp → Prog (V × Hp)
  a : V → Hp → Prog (Loc × Hp)
  al : List V → Hp → Prog (Loc × Hp)

def D.none : D := ⟨fun _ => .fail, fun _ => .fail, fun _ => .fail, fun _ => .fail, fun _ => .fail, fun _ _ => .fail, fun _ _ => .fail, fun _ _ => .fail, fun _ _ => .fail⟩
/-- a plain expression: its truth is its value's -/
def D.ex (v : Hp → Prog (V × Hp)) : D := { D.none with v, o := v, t := fun H => (v H).bind fun r => (Prog.opt (truthM r.1 r.2)).bind fun b => .ret (b, r.2) }
def constM : Const → Option V
  | .none => some .none
  | .bool b => some (.bool b)
  | .int i => some (.int i)
  | .str s => if s.cps.size ≤ big then some (.str s.cps.toList) else none
  | _ => none
def negM (op : UnaryOp) (v : V) : Option V := match op, v with
  | .USub, .int i => some (.int (-i))
  | _, _ => none
def dbg : Str := "__debug__"


def superS : Str := "super"
def isSuper : E → Bool
  | .call (.name x _) _ _ _ => x == superS
  | .call (.raw _) _ _ _ => true
  | .raw _ => true
  | _ => false
def isAttr : E → Bool
  | .attr .. => true
  | .raw _ => true
  | _ => false
def lenE : E → Nat
  | .cons _ r => lenE r + 1
  | .kw _ _ _ r => lenE r + 1
  | _ => 0
def den (T : Tp) (F : Fc) : E → Loc → D
  | .cst c _ _, _ => .ex fun H => (Prog.opt (constM c)).bind fun v => .ret (v, H)
  | .name x _, loc => { D.ex (fun H => if x == dbg then .fail else (Prog.opt (loadM T F loc H x)).bind fun v => .ret (v, H)) with
      a := fun v H => .opt (storeM F loc H x v) }
  | .bop op es _, loc => { D.ex ((den T F es loc).bl op) with t := (den T F es loc).tl op }
  | .bin l op r _, loc => .ex fun H => ((den T F l loc).v H).bind fun a => ((den T F r loc).v a.2).bind fun b => .opt (binM op a.1 b.1 b.2)
  | .un op e _, loc => match op with
    | .Not => { D.none with t := fun H => ((den T F e loc).t H).bind fun r => .ret (!r.1, r.2) }
    | _ => .ex fun H => ((den T F e loc).v H).bind fun a => (Prog.opt (negM op a.1)).bind fun v => .ret (v, a.2)
  | .ife t a b _, loc => { D.ex (fun H => ((den T F t loc).t H).bind fun r => if r.1 then (den T F a loc).v r.2 else (den T F b loc).v r.2) with
      t := fun H => ((den T F t loc).t H).bind fun r => if r.1 then (den T F a loc).t r.2 else (den T F b loc).t r.2 }
  | .lst es _, loc => .ex fun H => ((den T F es loc).l H).bind fun r => if r.1.length ≤ big then .ret (.obj r.2.length, r.2 ++ [.list r.1]) else .fail
  | .tpl es _ _, loc => { D.ex (fun H => ((den T F es loc).l H).bind fun r => if r.1.length ≤ big then .ret (.tup r.1, r.2) else .fail) with
      a := fun v H => (Prog.opt (itemsM v H)).bind fun vs => (den T F es loc).al vs H }
  | .dict0 _, _ => .ex fun H => .ret (.obj H.length, H ++ [.dict [] 0])
  | .comp elt tgt iter ifs sc _, loc => .ex fun H => ((den T F iter loc).v H).bind fun x => (Prog.opt (iterM x.1 x.2)).bind fun it =>
      (Prog.opt (if sc.names.all (fun y => y.2 != .cell && (y.2 != .local || sc.names.lookup y.1 == some .local)) && sc.kind == .function then freeCells F sc.names [] else none)).bind fun cs =>
        .call (.comp elt tgt ifs it x.2.length ⟨sc.names, cs, F.depth, false⟩ [] (x.2 ++ [.list []])) fun o => .ret (.obj x.2.length, o.H)
  | .cmp l op r _, loc => { D.ex (fun H => ((den T F l loc).v H).bind fun a => ((den T F r loc).v a.2).bind fun b => (Prog.opt (cmpM op a.1 b.1 b.2)).bind fun c => .ret (.bool c, b.2)) with
      t := fun H => ((den T F l loc).v H).bind fun a => ((den T F r loc).v a.2).bind fun b => (Prog.opt (cmpM op a.1 b.1 b.2)).bind fun c => .ret (c, b.2) }
  | .callm o x ap args kws p, loc => .ex fun H => if isSuper o || ap.endLine != p.line || decide (20 ≤ lenE args + lenE kws) then .fail else ((den T F o loc).v H).bind fun ov => (Prog.opt (getMethM T ov.1 x ov.2)).bind fun f =>
      ((den T F args loc).l ov.2).bind fun vs => ((den T F kws loc).k vs.2).bind fun ks => callM T f.1 (f.2 ++ vs.1) ks.1 F.depth ks.2
  | .call f args kws _, loc => .ex fun H => if isAttr f then .fail else ((den T F f loc).v H).bind fun fv =>
      ((den T F args loc).l fv.2).bind fun vs => ((den T F kws loc).k vs.2).bind fun ks => callM T fv.1 vs.1 ks.1 F.depth ks.2
  | .attr e x _, loc => { D.ex (fun H => if isSuper e then .fail else ((den T F e loc).v H).bind fun a => (Prog.opt (getAttrM T a.1 x a.2)).bind fun v => .ret (v, a.2)) with
      a := fun v H => ((den T F e loc).v H).bind fun o => (Prog.opt (setAttrM o.1 x v o.2)).bind fun H' => .ret (loc, H') }
  | .sub e i _, loc => { D.ex (fun H => ((den T F e loc).v H).bind fun a => ((den T F i loc).v a.2).bind fun b => (Prog.opt (subM T a.1 b.1 b.2)).bind fun v => .ret (v, b.2)) with
      a := fun v H => ((den T F e loc).v H).bind fun o => ((den T F i loc).v o.2).bind fun k => (Prog.opt (setItemM o.1 k.1 v k.2)).bind fun H' => .ret (loc, H') }
  | .slice e lo hi _ _, loc => .ex fun H => ((den T F e loc).v H).bind fun a => ((den T F lo loc).o a.2).bind fun b => ((den T F hi loc).o b.2).bind fun c => .opt (sliceM T a.1 b.1 c.1 c.2)
  | .nil, loc => { D.none with
      l := fun H => .ret ([], H)
      k := fun H => .ret ([], H)
      tl := fun op H => .ret (op == .And, H)
      al := fun vs H => match vs with
        | [] => .ret (loc, H)
        | _ => .fail }
  | .cons e r, loc => { D.none with
      l := fun H => ((den T F e loc).v H).bind fun a => ((den T F r loc).l a.2).bind fun b => .ret (a.1 :: b.1, b.2)
      tl := fun op H => ((den T F e loc).t H).bind fun b => match op, b.1 with
        | .And, false => .ret (false, b.2)
        | .Or, true => .ret (true, b.2)
        | _, _ => (den T F r loc).tl op b.2
      bl := fun op H => ((den T F e loc).v H).bind fun a => match r with
        | .nil => .ret a
        | _ => (Prog.opt (truthM a.1 a.2)).bind fun t => match op, t with
          | .And, false => .ret a
          | .Or, true => .ret a
          | _, _ => (den T F r loc).bl op a.2
      al := fun vs H => match vs with
        | x :: vs => ((den T F e loc).a x H).bind fun y => (den T F r y.1).al vs y.2
        | [] => .fail }
  | .kw x e _ r, loc => { D.none with
      k := fun H => ((den T F e loc).v H).bind fun a => ((den T F r loc).k a.2).bind fun b => .ret ((x, a.1) :: b.1, b.2) }
  | .no, _ => { D.none with o := fun H => .ret (.none, H) }
  | .raw _, _ => .none

/-! ## the meaning of a statement -/
structure Go where
  loc : Loc
  H : Hp
def isTpl : E → Bool
  | .tpl .. => true
  | _ => false
def isCompE : E → Bool
  | .comp .. => true
  | _ => false
structure DS where
  s : Loc → Hp → Prog Out
  l : Loc → Hp → Prog Out
def DS.st (f : Loc → Hp → Prog Out) : DS := ⟨f, fun _ _ => .fail⟩
def plainPs (ps : Arguments) : Bool := ps.posonlyargs.isEmpty && ps.kwonlyargs.isEmpty && ps.vararg.isNone && ps.kwarg.isNone && ps.args.all fun a => a.annotation.isNone
def denS (T : Tp) (F : Fc) : S → DS
  | .nil => ⟨fun _ _ => .fail, fun loc H => .ret ⟨.next, loc, H⟩⟩
  | .cons s r => ⟨fun _ _ => .fail, fun loc H => ((denS T F s).s loc H).bind fun o => match o.f with
    | .next => (denS T F r).l o.loc o.H
    | _ => .ret o⟩
  | .expr e _ => .st fun loc H => if isCompE e then .fail else ((den T F e loc).v H).bind fun a => .ret ⟨.next, loc, a.2⟩
  | .ret e _ => .st fun loc H => ((den T F e loc).o H).bind fun a => .ret ⟨.ret a.1, loc, a.2⟩
  | .asg t v _ => .st fun loc H => if isTpl t && isTpl v then .fail else ((den T F v loc).v H).bind fun a => ((den T F t loc).a a.1 a.2).bind fun b => .ret ⟨.next, b.1, b.2⟩
  | .aug x _ op v _ => .st fun loc H => (Prog.opt (loadM T F loc H x)).bind fun a => ((den T F v loc).v H).bind fun b => (Prog.opt (augM op a b.1 b.2)).bind fun c =>
      (Prog.opt (storeM F loc c.2 x c.1)).bind fun d => .ret ⟨.next, d.1, d.2⟩
  | .ife t a b _ => .st fun loc H => ((den T F t loc).t H).bind fun r => if r.1 then (denS T F a).l loc r.2 else (denS T F b).l loc r.2
  | .whl t a _ => .st fun loc H => .call (.whl t a F loc H) .ret
  | .for_ t it a _ => .st fun loc H => ((den T F it loc).v H).bind fun x => (Prog.opt (iterM x.1 x.2)).bind fun i => .call (.for_ t i a F loc x.2) .ret
  | .try_ a _ o f _ => .st fun loc H => ((denS T F a).l loc H).bind fun r => (match r.f with
      | .next => (denS T F o).l r.loc r.H
      | _ => .ret r).bind fun r => match f with
        | .nil => .ret r
        | .cons .. => ((denS T F f).l r.loc r.H).bind fun q => match q.f with
          | .next => .ret ⟨r.f, q.loc, q.H⟩
          | _ => .fail
        | _ => .fail
  | .brk _ => .st fun loc H => .ret ⟨.brk, loc, H⟩
  | .cont _ => .st fun loc H => .ret ⟨.cont, loc, H⟩
  | .pass _ => .st fun loc H => .ret ⟨.next, loc, H⟩
  | .def_ x ps a sc b p => .st fun loc H => if !F.tab || !ps.defaults.isEmpty || !ps.kw_defaults.isEmpty || x != b || !plainPs ps || T.defs p.line p.col != some x then .fail else
      (Prog.opt (freeCells F sc.names [])).bind fun cs => (Prog.opt (storeM F loc H b (.clo ps a sc cs))).bind fun d => .ret ⟨.next, d.1, d.2⟩
  | .raw _ => .st fun _ _ => .fail

def oneIf : E → Bool
  | .nil => true
  | .cons _ .nil => true
  | _ => false
/-- the body of a call -/
def runBody (T : Tp) (a : S) (e : Ent) : Prog Out := ((denS T e.F a).l e.loc e.H).bind fun o => match o.f with
  | .ret v => .ret ⟨.ret v, [], o.H⟩
  | .next => .ret ⟨.ret .none, [], o.H⟩
  | _ => .fail
def denT (T : Tp) : Task → Prog Out
  | .call (.glo x) args kws d H => match T.fn x with
    | some i => (Prog.opt (bindM i.params i.dflt args kws)).bind fun b => (Prog.opt (enterM i.sc [] b d i.tab H)).bind fun e => runBody T i.body e
    | none => .fail
  | .call (.clo ps a sc cells) args kws d H => (Prog.opt (bindM ps [] args kws)).bind fun b => (Prog.opt (enterM sc cells b d false H)).bind fun e => runBody T a e
  | .call .. => .fail
  | .whl t a F loc H => ((den T F t loc).t H).bind fun r => if r.1 then
      ((denS T F a).l loc r.2).bind fun o => match o.f with
        | .next => .call (.whl t a F o.loc o.H) .ret
        | .cont => .call (.whl t a F o.loc o.H) .ret
        | .brk => .ret ⟨.next, o.loc, o.H⟩
        | .ret v => .ret ⟨.ret v, o.loc, o.H⟩
    else .ret ⟨.next, loc, r.2⟩
  | .for_ t it a F loc H => (Prog.opt (nextM it H)).bind fun r => match r with
    | none => .ret ⟨.next, loc, H⟩
    | some (v, it') => ((den T F t loc).a v H).bind fun y => ((denS T F a).l y.1 y.2).bind fun o => match o.f with
        | .next => .call (.for_ t it' a F o.loc o.H) .ret
        | .cont => .call (.for_ t it' a F o.loc o.H) .ret
        | .brk => .ret ⟨.next, o.loc, o.H⟩
        | .ret v => .ret ⟨.ret v, o.loc, o.H⟩
  | .comp elt tgt ifs it acc F loc H => if !oneIf ifs then .fail else (Prog.opt (nextM it H)).bind fun r => match r with
    | none => .ret ⟨.next, loc, H⟩
    | some (v, it') => ((den T F tgt loc).a v H).bind fun y => ((den T F ifs y.1).tl .And y.2).bind fun b =>
        if b.1 then ((den T F elt y.1).v b.2).bind fun x => (Prog.opt (biM "list.append" [.obj acc, x.1] x.2)).bind fun c => .call (.comp elt tgt ifs it' acc F y.1 c.2) .ret
        else .call (.comp elt tgt ifs it' acc F y.1 b.2) .ret

/-! ## running -/
def interp {α : Type} (r : Task → Option Out) : Prog α → Option α
  | .ret a => some a
  | .fail => none
  | .call t k => match r t with
    | some o => interp r (k o)
    | none => none
def runN (T : Tp) : Nat → Task → Option Out
  | 0, _ => none
  | n + 1, t => interp (runN T n) (denT T t)
end Mine

end
section
open PySem PySem.Sre
set_option autoImplicit false
namespace Mine

def mx : Nat := 4294967295
def blkC : List Nat := [24, 11, 0, mx, 13, 6, 16, 9, 16, 32, 0, 1]
def digC : List Nat := [13, 4, 8, 10, 0]
/-- the number's pattern as code -/
def numC : Array Nat := ([14, 4, 0, 1, mx] ++ blkC ++ [17, 0] ++ [24, 6, 0, 1, 16, 45, 1] ++ [7, 5, 16, 48, 15, 21, 19, 13, 5, 22, 49, 57, 0, 24, 9, 0, mx] ++ digC ++ [1, 15, 2, 0, 17, 1]
  ++ [23, 19, 0, 1, 17, 2, 16, 46, 24, 9, 1, mx] ++ digC ++ [1, 17, 3, 18]
  ++ [23, 36, 0, 1, 17, 4, 13, 6, 16, 101, 16, 69, 0, 24, 11, 0, 1, 13, 6, 16, 45, 16, 43, 0, 1, 24, 9, 1, mx] ++ digC ++ [1, 17, 5, 18] ++ blkC ++ [1]).toArray

theorem runFor_done {m : M} (h : m.outcome.isSome = true) : ∀ n, m.runFor n = m
  | 0 => rfl
  | n + 1 => by unfold M.runFor; rw [if_pos h]
theorem runFor_add (a b : Nat) (m : M) : m.runFor (a + b) = (m.runFor a).runFor b := by
  induction a generalizing m with
  | zero => rw [Nat.zero_add]; rfl
  | succ a ih =>
    rw [show a + 1 + b = (a + b) + 1 by omega]
    by_cases h : m.outcome.isSome = true
    · rw [runFor_done h, runFor_done h, runFor_done h]
    · show (if m.outcome.isSome = true then m else m.step.runFor (a + b)) = (if m.outcome.isSome = true then m else m.step.runFor a).runFor b
      rw [if_neg h, if_neg h, ih]

/-- at most k steps lead from m to m' -/
def Run (k : Nat) (m m' : M) : Prop := ∃ n, n ≤ k ∧ m.runFor n = m'
theorem Run.refl (m : M) : Run 0 m m := ⟨0, Nat.le_refl _, rfl⟩
theorem Run.trans {a b : Nat} {m m' m'' : M} (x : Run a m m') (y : Run b m' m'') : Run (a + b) m m'' := by
  obtain ⟨i, hi, e⟩ := x
  obtain ⟨j, hj, f⟩ := y
  exact ⟨i + j, by omega, by rw [runFor_add, e, f]⟩
theorem Run.le {a b : Nat} {m m' : M} (x : Run a m m') (h : a ≤ b) : Run b m m' := let ⟨i, hi, e⟩ := x; ⟨i, Nat.le_trans hi h, e⟩
theorem Run.one {m m' : M} (ho : m.outcome = none) (e : m.step = m') : Run 1 m m' := ⟨1, Nat.le_refl _, by
  show (if m.outcome.isSome = true then m else m.step) = m'
  rw [ho, if_neg (by simp)]; exact e⟩

def em (C T : Array Nat) (st pc p : Nat) (ans : Option Bool) (fr : List Sre.Frame) (w : Nat) (ms : Array (Option Nat)) (lm li : Int) (lo : Array Loop) (inn : Option Nat) (hd : Nat) (sn : Seen) : M :=
  { code := C, text := T, lim := T.size, start := st, pc, pos := p, handed := hd, marks := ms, lastmark := lm, lastindex := li, loops := lo, inner := inn, frames := fr, weight := w, answer := ans, seen := sn }

theorem step_exec {m : M} (ho : m.outcome = none) (ha : m.answer = none) (hpc : m.pc < m.code.size) : m.step = m.exec := by
  unfold M.step
  rw [ho, ha]
  simp only [Option.isSome_none, Bool.false_eq_true, if_false]
  rw [if_pos hpc]
theorem attempt_ok {m : M} {f : Sre.Frame} {t q : Nat} {o : Bool} (h : m.weight + 1 + f.kept.marks.size ≤ 16777216) :
    m.attempt f t q o = { m with frames := f :: m.frames, weight := m.weight + 1 + f.kept.marks.size, pc := t, pos := q, handed := q, outermost := o } := by
  unfold M.attempt
  rw [if_neg (by omega)]

theorem word_seen (m : M) (k : Nat) (sn : Seen) : ({ m with seen := sn } : M).word k = m.word k := rfl
/-- one sign is asked for -/
theorem step_one_yes {m : M} {sn' : Seen} (ho : m.outcome = none) (ha : m.answer = none) (hpc : m.pc < m.code.size) (hop : ops[m.word 0]? = some .LITERAL ∨ ops[m.word 0]? = some .IN) (hp : m.pos < m.lim)
    (hac : accepts m.code m.pc (m.text.getD m.pos 0) (m.seen.add (m.word 0)) = .ok (true, sn')) :
    m.step = { m with seen := sn', pc := m.pc + itemWidth m.code m.pc, pos := m.pos + 1 } := by
  rw [step_exec ho ha hpc]
  unfold M.exec
  rcases hop with hop | hop <;> (rw [hop]; dsimp only; rw [if_neg (by show ¬ m.pos ≥ m.lim; omega)]; rw [show accepts _ _ _ _ = _ from hac])
theorem step_one_no {m : M} {sn' : Seen} (ho : m.outcome = none) (ha : m.answer = none) (hpc : m.pc < m.code.size) (hop : ops[m.word 0]? = some .LITERAL ∨ ops[m.word 0]? = some .IN) (hp : m.pos < m.lim)
    (hac : accepts m.code m.pc (m.text.getD m.pos 0) (m.seen.add (m.word 0)) = .ok (false, sn')) :
    m.step = { m with seen := sn', answer := some false } := by
  rw [step_exec ho ha hpc]
  unfold M.exec
  rcases hop with hop | hop <;> (rw [hop]; dsimp only; rw [if_neg (by show ¬ m.pos ≥ m.lim; omega)]; rw [show accepts _ _ _ _ = _ from hac]; rfl)
theorem step_one_end {m : M} (ho : m.outcome = none) (ha : m.answer = none) (hpc : m.pc < m.code.size) (hop : ops[m.word 0]? = some .LITERAL ∨ ops[m.word 0]? = some .IN) (hp : m.lim ≤ m.pos) :
    m.step = { m with seen := m.seen.add (m.word 0), answer := some false } := by
  rw [step_exec ho ha hpc]
  unfold M.exec
  rcases hop with hop | hop <;> (rw [hop]; dsimp only; rw [if_pos (by show m.pos ≥ m.lim; omega)]; rfl)
/-- one sign, as often as it goes -/
theorem step_rep_yes {m : M} {n : Nat} {sn' : Seen} (ho : m.outcome = none) (ha : m.answer = none) (hpc : m.pc < m.code.size) (hop : ops[m.word 0]? = some .REPEAT_ONE) (hle : (m.word 2 : Int) ≤ (m.lim : Int) - m.pos)
    (hrun : Sre.run m.code m.text (m.pc + 4) (min (m.word 3) ((m.lim : Int) - m.pos).toNat) m.pos 0 ((m.seen.add (m.word 0)).add (m.word 4)) = .ok (n, sn')) (hn : m.word 2 ≤ n) :
    m.step = ({ m with seen := sn', pos := m.pos + n } : M).afterRun .giveBack n (m.keep m.inner.isSome) := by
  rw [step_exec ho ha hpc]
  unfold M.exec
  rw [hop]
  dsimp only
  rw [if_neg (by show ¬ ((m.word 2 : Int) > (m.lim : Int) - m.pos); omega)]
  simp only [Bool.false_eq_true, if_false, word_seen]
  rw [hrun]
  dsimp only
  rw [if_neg (by show ¬ n < m.word 2; omega)]
  rfl
theorem step_rep_few {m : M} {n : Nat} {sn' : Seen} (ho : m.outcome = none) (ha : m.answer = none) (hpc : m.pc < m.code.size) (hop : ops[m.word 0]? = some .REPEAT_ONE) (hle : (m.word 2 : Int) ≤ (m.lim : Int) - m.pos)
    (hrun : Sre.run m.code m.text (m.pc + 4) (min (m.word 3) ((m.lim : Int) - m.pos).toNat) m.pos 0 ((m.seen.add (m.word 0)).add (m.word 4)) = .ok (n, sn')) (hn : n < m.word 2) :
    m.step = { m with seen := sn', answer := some false } := by
  rw [step_exec ho ha hpc]
  unfold M.exec
  rw [hop]
  dsimp only
  rw [if_neg (by show ¬ ((m.word 2 : Int) > (m.lim : Int) - m.pos); omega)]
  simp only [Bool.false_eq_true, if_false, word_seen]
  rw [hrun]
  dsimp only
  rw [if_pos hn]
  rfl
theorem step_rep_end {m : M} (ho : m.outcome = none) (ha : m.answer = none) (hpc : m.pc < m.code.size) (hop : ops[m.word 0]? = some .REPEAT_ONE) (hle : ¬ (m.word 2 : Int) ≤ (m.lim : Int) - m.pos) :
    m.step = { m with seen := m.seen.add (m.word 0), answer := some false } := by
  rw [step_exec ho ha hpc]
  unfold M.exec
  rw [hop]
  dsimp only
  rw [if_pos (by show ((m.word 2 : Int) > (m.lim : Int) - m.pos); omega)]
  rfl

theorem run_cnt {C T : Array Nat} {i b : Nat} {P : Nat → Bool} (hP : ∀ q, b ≤ q → ∀ sn, ∃ sn', accepts C i (T.getD q 0) sn = .ok (P (T.getD q 0), sn')) : ∀ (n p f : Nat) (sn : Seen), b ≤ p → ∃ sn', Sre.run C T i n p f sn = .ok (f + cntA P T n p, sn') := by
  intro n
  induction n with
  | zero => intro p f sn _; exact ⟨sn, rfl⟩
  | succ n ih =>
    intro p f sn hb
    obtain ⟨sn1, h1⟩ := hP p hb sn
    unfold Sre.run cntA
    rw [h1]
    cases hq : P (T.getD p 0) with
    | true =>
      obtain ⟨sn2, h2⟩ := ih (p + 1) (f + 1) sn1 (by omega)
      refine ⟨sn2, ?_⟩
      show (if true = true then Sre.run C T i n (p + 1) (f + 1) sn1 else Except.ok (f, sn1)) = _
      rw [if_pos rfl, h2, if_pos rfl]
      congr 2; omega
    | false =>
      refine ⟨sn1, ?_⟩
      show (if false = true then Sre.run C T i n (p + 1) (f + 1) sn1 else Except.ok (f, sn1)) = _
      rw [if_neg (by simp), if_neg (by simp)]; rfl
theorem cntA_le (P : Nat → Bool) (T : Array Nat) : ∀ (n p : Nat), cntA P T n p ≤ n
  | 0, _ => Nat.le_refl _
  | n + 1, p => by
    unfold cntA
    split
    · have := cntA_le P T n (p + 1); omega
    · omega

/-- what the items take -/
theorem acc_blk (p : Nat) (T : Array Nat) (i : Nat) (hi : i = 9 ∨ i = 117) (sn : Seen) : ∃ sn', accepts numC i (T.getD p 0) sn = .ok (isBl (T.getD p 0), sn') := by
  generalize T.getD p 0 = c
  by_cases h1 : c = 9
  · subst h1; rcases hi with rfl | rfl <;> exact ⟨_, rfl⟩
  · by_cases h2 : c = 32
    · subst h2; rcases hi with rfl | rfl <;> exact ⟨_, rfl⟩
    · have e : isBl c = false := by unfold isBl; simp [h1, h2]
      have b1 : (c == 9) = false := by simpa using h1
      have b2 : (c == 32) = false := by simpa using h2
      rw [e]
      rcases hi with rfl | rfl
      · refine ⟨((sn.add 16).add 16).add 0, ?_⟩
        show (if c == 9 then _ else if c == 32 then _ else _) = _
        rw [b1, b2]; rfl
      · refine ⟨((sn.add 16).add 16).add 0, ?_⟩
        show (if c == 9 then _ else if c == 32 then _ else _) = _
        rw [b1, b2]; rfl
theorem isDec_ascii : ∀ c, c < 128 → Unicode.isDecimal c = isDig c := by decide +kernel
theorem acc_dig (c : Nat) (hc : c < 128) (i : Nat) (hi : i = 43 ∨ i = 66 ∨ i = 104) (sn : Seen) : ∃ sn', accepts numC i c sn = .ok (isDig c, sn') := by
  have hcat : category 10 c = .ok (isDig c) := by
    show Except.map (fun x => x != false) (.ok (Unicode.isDecimal c)) = _
    rw [isDec_ascii c hc]
    cases isDig c <;> rfl
  have fin : ∀ (sn1 : Seen) (rest : Except String (Bool × Seen)) (sn2 : Seen), rest = .ok (false, sn2) → ∃ sn', (category 10 c >>= fun y => if y = true then pure (true, sn1) else rest) = .ok (isDig c, sn') := by
    intro sn1 rest sn2 e
    rw [hcat, e]
    cases isDig c
    · exact ⟨sn2, rfl⟩
    · exact ⟨sn1, rfl⟩
  rcases hi with rfl | rfl | rfl <;> exact fin _ _ _ rfl
theorem acc_one (c : Nat) (sn : Seen) : ∃ sn', accepts numC 33 c sn = .ok (49 ≤ c && c ≤ 57, sn') := by
  show ∃ sn', (if (49 ≤ c && c ≤ 57) = true then (Except.ok (true, (sn.add 22)) : Except String (Bool × Seen)) else .ok (!true, (sn.add 22).add 0)) = _
  cases h : (49 ≤ c && c ≤ 57)
  · exact ⟨_, rfl⟩
  · exact ⟨_, rfl⟩
theorem acc_two (i a b : Nat) (hi : (i = 81 ∧ a = 101 ∧ b = 69) ∨ (i = 92 ∧ a = 45 ∧ b = 43)) (c : Nat) (sn : Seen) : ∃ sn', accepts numC i c sn = .ok (c == a || c == b, sn') := by
  have key : ∃ sn', (if (c == a) = true then (Except.ok (true, (sn.add 16)) : Except String (Bool × Seen)) else if (c == b) = true then .ok (true, (sn.add 16).add 16) else .ok (!true, ((sn.add 16).add 16).add 0)) = .ok (c == a || c == b, sn') := by
    cases h1 : c == a
    · cases h2 : c == b
      · exact ⟨_, rfl⟩
      · exact ⟨_, rfl⟩
    · exact ⟨_, rfl⟩
  rcases hi with ⟨rfl, rfl, rfl⟩ | ⟨rfl, rfl, rfl⟩ <;> exact key

section
variable {T : Array Nat} {st p : Nat} {fr : List Sre.Frame} {w : Nat} {ms : Array (Option Nat)} {lm li : Int} {lo : Array Loop} {inn : Option Nat} {hd : Nat} {sn : Seen}
theorem s17 : (em numC T st 17 p none fr w ms (-1) li lo inn hd sn).step = em numC T st 19 p none fr w (ms.setIfInBounds 0 (some p)) 0 li lo inn hd (sn.add 17) := by kernel_rfl
theorem s52 : (em numC T st 52 p none fr w ms 0 li lo inn hd sn).step = em numC T st 54 p none fr w (ms.setIfInBounds 1 (some p)) 1 1 lo inn hd (sn.add 17) := by kernel_rfl
theorem s30 : (em numC T st 30 p none fr w ms lm li lo inn hd sn).step = em numC T st 52 p none fr w ms lm li lo inn hd (sn.add 15) := by kernel_rfl
theorem s49 : (em numC T st 49 p none fr w ms lm li lo inn hd sn).step = em numC T st 52 p none fr w ms lm li lo inn hd (sn.add 15) := by kernel_rfl
end
end Mine

end
section
open PySem PySem.Sre
set_option autoImplicit false
namespace Mine
section
variable {T : Array Nat} {st p : Nat} {fr : List Sre.Frame} {w : Nat} {ms : Array (Option Nat)} {lm li : Int} {lo : Array Loop} {inn : Option Nat} {hd : Nat} {sn : Seen}

/-- a frame of giving back -/
def gb (pc pos : Nat) (n : Int) (k : Sre.Kept) : Sre.Frame := { wait := .giveBack, pc, pos, outermost := true, count := n, kept := k }

theorem numC_size : numC.size = 126 := by decide +kernel

/-- a run that may be empty -/
theorem t_rep {pc t i mxm : Nat} {P : Nat → Bool} (hpc : pc < 126) (hop : ops[numC.getD pc 0]? = some .REPEAT_ONE) (h2 : numC.getD (pc + 2) 0 = 0) (h3 : numC.getD (pc + 3) 0 = mxm) (h1 : pc + 1 + numC.getD (pc + 1) 0 = t) (hi : pc + 4 = i)
    (hP : ∀ q, p ≤ q → ∀ sn, ∃ sn', accepts numC i (T.getD q 0) sn = .ok (P (T.getD q 0), sn')) (hp : p ≤ T.size) (hw : w ≤ 1000) (hinn : inn = none ∨ ms.size ≤ 1000) :
    ∃ sn' n k, n = cntA P T (min mxm (T.size - p)) p ∧ k = (em numC T st pc p none fr w ms lm li lo inn hd sn).keep inn.isSome ∧
      Run 1 (em numC T st pc p none fr w ms lm li lo inn hd sn) (em numC T st t (p + n) none (gb pc (p + n) n k :: fr) (w + 1 + k.marks.size) ms lm li lo inn (p + n) sn') := by
  have hroom : ((T.size : Int) - p).toNat = T.size - p := by omega
  obtain ⟨sn', hrun⟩ := run_cnt (C := numC) (T := T) (i := i) hP (min mxm (T.size - p)) p 0 ((sn.add (numC.getD (pc + 0) 0)).add (numC.getD (pc + 4) 0)) (Nat.le_refl _)
  refine ⟨sn', _, _, rfl, rfl, Run.one rfl ?_⟩
  have e := step_rep_yes (m := em numC T st pc p none fr w ms lm li lo inn hd sn) (n := cntA P T (min mxm (T.size - p)) p) (sn' := sn') rfl rfl (by show pc < numC.size; rw [numC_size]; exact hpc) hop
    (by show ((numC.getD (pc + 2) 0 : Nat) : Int) ≤ (T.size : Int) - p; rw [h2]; omega) (by
      show Sre.run numC T (pc + 4) (min (numC.getD (pc + 3) 0) ((T.size : Int) - p).toNat) p 0 _ = _
      rw [h3, hroom, hi]; exact hrun.trans (by rw [Nat.zero_add])) (by show numC.getD (pc + 2) 0 ≤ _; rw [h2]; exact Nat.zero_le _)
  rw [e]
  unfold M.afterRun
  have hk : ((em numC T st pc p none fr w ms lm li lo inn hd sn).keep inn.isSome).marks.size ≤ 1000 := by
    rcases hinn with rfl | hm
    · exact Nat.zero_le _
    · unfold M.keep
      show (if inn.isSome = true then ms.extract 0 (lm + 1).toNat else #[]).size ≤ 1000
      split
      · rw [Array.size_extract]; omega
      · exact Nat.zero_le _
  rw [attempt_ok (by show w + 1 + ((em numC T st pc p none fr w ms lm li lo inn hd sn).keep inn.isSome).marks.size ≤ 16777216; omega)]
  show em numC T st (pc + 1 + numC.getD (pc + 1) 0) _ none _ _ ms lm li lo inn _ sn' = _
  rw [h1]
  rfl

/-- a run of one at least -/
theorem t_some {pc t i : Nat} {P : Nat → Bool} (hpc : pc < 126) (hop : ops[numC.getD pc 0]? = some .REPEAT_ONE) (h2 : numC.getD (pc + 2) 0 = 1) (h3 : numC.getD (pc + 3) 0 = mx) (h1 : pc + 1 + numC.getD (pc + 1) 0 = t) (hi : pc + 4 = i)
    (hP : ∀ q, p ≤ q → ∀ sn, ∃ sn', accepts numC i (T.getD q 0) sn = .ok (P (T.getD q 0), sn')) (hsz : T.size ≤ mx) (hp : p ≤ T.size) (hw : w ≤ 1000) (hinn : inn = none ∨ ms.size ≤ 1000) :
    (cntA P T (T.size - p) p = 0 → ∃ sn', Run 1 (em numC T st pc p none fr w ms lm li lo inn hd sn) (em numC T st pc p (some false) fr w ms lm li lo inn hd sn')) ∧
    (cntA P T (T.size - p) p ≠ 0 → ∃ sn' k, k = (em numC T st pc p none fr w ms lm li lo inn hd sn).keep inn.isSome ∧
      Run 1 (em numC T st pc p none fr w ms lm li lo inn hd sn) (em numC T st t (p + cntA P T (T.size - p) p) none (gb pc (p + cntA P T (T.size - p) p) (cntA P T (T.size - p) p) k :: fr) (w + 1 + k.marks.size) ms lm li lo inn (p + cntA P T (T.size - p) p) sn')) := by
  subst hi
  have hroom : ((T.size : Int) - p).toNat = T.size - p := by omega
  have hmin : min mx (T.size - p) = T.size - p := by omega
  obtain ⟨sn', hrun⟩ := run_cnt (C := numC) (T := T) (i := pc + 4) hP (T.size - p) p 0 ((sn.add (numC.getD (pc + 0) 0)).add (numC.getD (pc + 4) 0)) (Nat.le_refl _)
  have hrun' : Sre.run numC T (pc + 4) (min (numC.getD (pc + 3) 0) ((T.size : Int) - p).toNat) p 0 ((sn.add (numC.getD (pc + 0) 0)).add (numC.getD (pc + 4) 0)) = .ok (cntA P T (T.size - p) p, sn') := by
    rw [h3, hroom, hmin, hrun, Nat.zero_add]
  have hpc' : pc < numC.size := by rw [numC_size]; exact hpc
  constructor
  · intro h0
    by_cases hroom1 : p < T.size
    · refine ⟨sn', Run.one rfl ?_⟩
      have e := step_rep_few (m := em numC T st pc p none fr w ms lm li lo inn hd sn) (n := cntA P T (T.size - p) p) (sn' := sn') rfl rfl hpc' hop
        (by show ((numC.getD (pc + 2) 0 : Nat) : Int) ≤ (T.size : Int) - p; rw [h2]; omega) hrun' (by show _ < numC.getD (pc + 2) 0; rw [h2, h0]; exact Nat.one_pos)
      rw [e]; rfl
    · exact ⟨sn.add (numC.getD (pc + 0) 0), Run.one rfl (step_rep_end (m := em numC T st pc p none fr w ms lm li lo inn hd sn) rfl rfl hpc' hop (by show ¬ ((numC.getD (pc + 2) 0 : Nat) : Int) ≤ (T.size : Int) - p; rw [h2]; omega))⟩
  · intro h0
    refine ⟨sn', _, rfl, Run.one rfl ?_⟩
    have hle := cntA_le P T (T.size - p) p
    have e := step_rep_yes (m := em numC T st pc p none fr w ms lm li lo inn hd sn) (n := cntA P T (T.size - p) p) (sn' := sn') rfl rfl hpc' hop
      (by show ((numC.getD (pc + 2) 0 : Nat) : Int) ≤ (T.size : Int) - p; rw [h2]; omega) hrun' (by show numC.getD (pc + 2) 0 ≤ _; rw [h2]; omega)
    rw [e]
    unfold M.afterRun
    have hk : ((em numC T st pc p none fr w ms lm li lo inn hd sn).keep inn.isSome).marks.size ≤ 1000 := by
      rcases hinn with rfl | hm
      · exact Nat.zero_le _
      · unfold M.keep
        show (if inn.isSome = true then ms.extract 0 (lm + 1).toNat else #[]).size ≤ 1000
        split
        · rw [Array.size_extract]; omega
        · exact Nat.zero_le _
    rw [attempt_ok (by show w + 1 + ((em numC T st pc p none fr w ms lm li lo inn hd sn).keep inn.isSome).marks.size ≤ 16777216; omega)]
    show em numC T st (pc + 1 + numC.getD (pc + 1) 0) _ none _ _ ms lm li lo inn _ sn' = _
    rw [h1]
    rfl

/-- one sign -/
theorem t_one {pc t : Nat} {P : Nat → Bool} (hpc : pc < 126) (hop : ops[numC.getD pc 0]? = some .LITERAL ∨ ops[numC.getD pc 0]? = some .IN) (ht : pc + itemWidth numC pc = t)
    (hP : ∀ sn, ∃ sn', accepts numC pc (T.getD p 0) sn = .ok (P (T.getD p 0), sn')) :
    ((p < T.size ∧ P (T.getD p 0) = true) → ∃ sn', Run 1 (em numC T st pc p none fr w ms lm li lo inn hd sn) (em numC T st t (p + 1) none fr w ms lm li lo inn hd sn')) ∧
    (¬ (p < T.size ∧ P (T.getD p 0) = true) → ∃ sn', Run 1 (em numC T st pc p none fr w ms lm li lo inn hd sn) (em numC T st pc p (some false) fr w ms lm li lo inn hd sn')) := by
  have hpc' : pc < numC.size := by rw [numC_size]; exact hpc
  obtain ⟨sn', ha⟩ := hP (sn.add (numC.getD (pc + 0) 0))
  constructor
  · rintro ⟨h1, h2⟩
    rw [h2] at ha
    refine ⟨sn', Run.one rfl ?_⟩
    subst ht
    exact step_one_yes (m := em numC T st pc p none fr w ms lm li lo inn hd sn) (sn' := sn') rfl rfl hpc' hop h1 ha
  · intro h
    by_cases h1 : p < T.size
    · have h2 : P (T.getD p 0) = false := by simpa [h1] using h
      rw [h2] at ha
      exact ⟨sn', Run.one rfl (step_one_no (m := em numC T st pc p none fr w ms lm li lo inn hd sn) (sn' := sn') rfl rfl hpc' hop h1 ha)⟩
    · exact ⟨sn.add (numC.getD (pc + 0) 0), Run.one rfl (step_one_end (m := em numC T st pc p none fr w ms lm li lo inn hd sn) rfl rfl hpc' hop (by show T.size ≤ p; omega))⟩
theorem t_lit {pc t c : Nat} (hpc : pc < 126) (hop : ops[numC.getD pc 0]? = some .LITERAL) (hc : numC.getD (pc + 1) 0 = c) (ht : pc + 2 = t) :
    ((p < T.size ∧ T.getD p 0 = c) → ∃ sn', Run 1 (em numC T st pc p none fr w ms lm li lo inn hd sn) (em numC T st t (p + 1) none fr w ms lm li lo inn hd sn')) ∧
    (¬ (p < T.size ∧ T.getD p 0 = c) → ∃ sn', Run 1 (em numC T st pc p none fr w ms lm li lo inn hd sn) (em numC T st pc p (some false) fr w ms lm li lo inn hd sn')) := by
  have hw' : itemWidth numC pc = 2 := by unfold itemWidth; rw [hop]
  have := t_one (T := T) (st := st) (p := p) (fr := fr) (w := w) (ms := ms) (lm := lm) (li := li) (lo := lo) (inn := inn) (hd := hd) (sn := sn) (pc := pc) (t := t) (P := fun x => x == c) hpc (.inl hop) (by rw [hw']; exact ht)
    (fun sn => ⟨sn, by unfold accepts; rw [hop]; dsimp only; rw [hc]⟩)
  simpa using this

/-- frames that hand a success on -/
def Pass (f : Sre.Frame) : Prop := f.wait = .giveBack ∨ f.wait = .nextBranch ∨ f.wait = .closeLoop ∨ f.wait = .maxMore ∨ f.wait = .maxTail
theorem unwind : ∀ (fr : List Sre.Frame) (m : M), (∀ f ∈ fr, Pass f) → m.outcome = none → m.answer = some true → m.frames = fr →
    ∃ m', Run (fr.length + 1) m m' ∧ m'.outcome = some .matched ∧ m'.handed = m.handed ∧ m'.marks = m.marks ∧ m'.lastmark = m.lastmark ∧ m'.start = m.start := by
  intro fr
  induction fr with
  | nil =>
    intro m _ ho ha hf
    refine ⟨{ m with outcome := some .matched }, Run.one ho ?_, rfl, rfl, rfl, rfl, rfl⟩
    unfold M.step
    rw [ho, ha, hf]
    rfl
  | cons f fr ih =>
    intro m hP ho ha hf
    have hp := hP f (List.mem_cons_self ..)
    have key : ∃ m1, m.step = m1 ∧ m1.outcome = none ∧ m1.answer = some true ∧ m1.frames = fr ∧ m1.handed = m.handed ∧ m1.marks = m.marks ∧ m1.lastmark = m.lastmark ∧ m1.start = m.start := by
      refine ⟨_, rfl, ?_⟩
      unfold M.step
      rw [ho, ha, hf]
      simp only [Option.isSome_none, Bool.false_eq_true, if_false]
      unfold M.resume
      rcases hp with h | h | h | h | h <;> rw [h] <;> exact ⟨rfl, rfl, rfl, rfl, rfl, rfl, rfl⟩
    obtain ⟨m1, e1, h1, h2, h3, h4, h5, h6, h7⟩ := key
    obtain ⟨m', r, k1, k2, k3, k4, k5⟩ := ih m1 (fun g hg => hP g (List.mem_cons_of_mem _ hg)) h1 h2 h3
    exact ⟨m', (Run.one ho e1).trans r |>.le (by simp; omega), k1, k2.trans h4, k3.trans h5, k4.trans h6, k5.trans h7⟩

def back (k : Sre.Kept) (ms : Array (Option Nat)) : Array (Option Nat) := if k.whole then k.marks ++ ms.extract k.marks.size ms.size else ms

/-- a failure comes back to a run: there is nothing to give back -/
theorem r_gb_stop {pc pc0 pos0 : Nat} {n : Int} {k : Sre.Kept} (h : n - 1 < (numC.getD (pc0 + 2) 0 : Nat)) :
    Run 1 (em numC T st pc p (some false) (gb pc0 pos0 n k :: fr) (w + 1 + k.marks.size) ms lm li lo inn hd sn) (em numC T st pc0 pos0 (some false) fr w (back k ms) k.lastmark k.lastindex lo inn hd sn) := by
  refine Run.one rfl ?_
  have hw : w + 1 + k.marks.size - (1 + k.marks.size) = w := by omega
  show (if false = true then _ else if n - 1 < ((numC.getD (pc0 + 2) 0 : Nat) : Int) then M.say (M.putBack (em numC T st pc0 pos0 none fr (w + 1 + k.marks.size - (1 + k.marks.size)) ms lm li lo inn hd sn) k) false else _) = _
  rw [if_neg (by simp), if_pos h, hw]
  rfl
/-- a failure comes back to a run: one is given back -/
theorem r_gb_more {pc pc0 pos0 t : Nat} {n : Int} {k : Sre.Kept} (h : ¬ n - 1 < (numC.getD (pc0 + 2) 0 : Nat)) (h1 : pc0 + 1 + numC.getD (pc0 + 1) 0 = t) (hw : w ≤ 1000) (hk : k.marks.size ≤ 1000) :
    Run 1 (em numC T st pc p (some false) (gb pc0 pos0 n k :: fr) (w + 1 + k.marks.size) ms lm li lo inn hd sn)
      (em numC T st t (pos0 - 1) none (gb pc0 (pos0 - 1) (n - 1) k :: fr) (w + 1 + k.marks.size) (back k ms) k.lastmark k.lastindex lo inn (pos0 - 1) sn) := by
  refine Run.one rfl ?_
  have hw' : w + 1 + k.marks.size - (1 + k.marks.size) = w := by omega
  show (if false = true then _ else if n - 1 < ((numC.getD (pc0 + 2) 0 : Nat) : Int) then _ else
    ({ (M.putBack (em numC T st pc0 pos0 none fr (w + 1 + k.marks.size - (1 + k.marks.size)) ms lm li lo inn hd sn) k) with pos := pos0 - 1 } : M).afterRun .giveBack (n - 1) k) = _
  rw [if_neg (by simp), if_neg h, hw']
  unfold M.afterRun
  rw [attempt_ok (by show w + 1 + k.marks.size ≤ 16777216; omega)]
  subst h1
  rfl

/-- the two ways of a whole number, from 26 on -/
def nbF (pc pos : Nat) (lm li : Int) : Sre.Frame := { wait := .nextBranch, pc, pos, outermost := true, kept := { lastmark := lm, lastindex := li } }
theorem s26 (hw : w ≤ 1000) : Run 1 (em numC T st 26 p none fr w ms lm li lo none hd sn) (em numC T st 28 p none (nbF 27 p lm li :: fr) (w + 1) ms lm li lo none p (sn.add 7)) := by
  refine Run.one rfl ?_
  show (em numC T st 26 p none fr w ms lm li lo none hd (sn.add 7)).attempt (nbF 27 p lm li) 28 p true = _
  rw [attempt_ok (by show w + 1 + 0 ≤ 16777216; omega)]
  rfl
theorem r_nb1 (hw : w ≤ 1000) {pc q : Nat} : Run 1 (em numC T st pc q (some false) (nbF 27 p lm li :: fr) (w + 1) ms lm li lo none hd sn) (em numC T st 33 p none (nbF 32 p lm li :: fr) (w + 1) ms lm li lo none p sn) := by
  refine Run.one rfl ?_
  show (em numC T st 27 p none fr (w + 1 - 1) ms lm li lo none hd sn).attempt (nbF 32 p lm li) 33 p true = _
  rw [attempt_ok (by show w + 1 - 1 + 1 + 0 ≤ 16777216; omega)]
  rfl
theorem r_nb2 {pc q : Nat} : Run 1 (em numC T st pc q (some false) (nbF 32 p lm li :: fr) (w + 1) ms lm li lo none hd sn) (em numC T st 32 p (some false) fr w ms lm li lo none hd sn) := Run.one rfl rfl


theorem s26_no (hw : w ≤ 1000) (h : natT T p = none) : ∃ sn' pc' p' hd', Run 5 (em numC T st 26 p none fr w ms lm li lo none hd sn) (em numC T st pc' p' (some false) fr w ms lm li lo none hd' sn') := by
  unfold natT at h
  split at h
  · cases h
  rename_i h1
  split at h
  · cases h
  rename_i h2
  obtain ⟨sn1, r1⟩ := (t_lit (T := T) (st := st) (p := p) (fr := nbF 27 p lm li :: fr) (w := w + 1) (ms := ms) (lm := lm) (li := li) (lo := lo) (inn := none) (hd := p) (sn := sn.add 7) (pc := 28) (t := 30) (c := 48) (by omega) rfl rfl rfl).2 h1
  obtain ⟨sn2, r2⟩ := (t_one (T := T) (st := st) (p := p) (fr := nbF 32 p lm li :: fr) (w := w + 1) (ms := ms) (lm := lm) (li := li) (lo := lo) (inn := none) (hd := p) (sn := sn1) (pc := 33) (t := 39) (P := fun x => 49 ≤ x && x ≤ 57) (by omega) (.inr rfl) rfl (fun sn => acc_one _ sn)).2 h2
  exact ⟨sn2, _, _, _, ((s26 hw).trans (r1.trans ((r_nb1 hw).trans (r2.trans r_nb2)))).le (by omega)⟩

theorem s26_yes {n : Nat} (hasc : ∀ q, p ≤ q → T.getD q 0 < 128) (hsz : T.size ≤ mx) (hw : w ≤ 900) (h : natT T p = some n) :
    ∃ sn' hd' fr' w', (∀ f ∈ fr', Pass f) ∧ fr'.length ≤ 2 ∧ w' ≤ w + 2 ∧ Run 8 (em numC T st 26 p none fr w ms 0 li lo none hd sn) (em numC T st 54 (p + n) none (fr' ++ fr) w' (ms.setIfInBounds 1 (some (p + n))) 1 1 lo none hd' sn') := by
  have hw' : w ≤ 1000 := by omega
  unfold natT at h
  split at h
  · rename_i h1
    cases h
    obtain ⟨sn1, r1⟩ := (t_lit (T := T) (st := st) (p := p) (fr := nbF 27 p 0 li :: fr) (w := w + 1) (ms := ms) (lm := 0) (li := li) (lo := lo) (inn := none) (hd := p) (sn := sn.add 7) (pc := 28) (t := 30) (c := 48) (by omega) rfl rfl rfl).1 h1
    refine ⟨_, _, [nbF 27 p 0 li], w + 1, ?_, by simp, by omega, ((s26 hw').trans (r1.trans ((Run.one rfl s30).trans (Run.one rfl s52)))).le (by omega)⟩
    intro f hf
    rw [List.mem_singleton.mp hf]; exact .inr (.inl rfl)
  rename_i h1
  split at h
  · rename_i h2
    cases h
    obtain ⟨sn1, r1⟩ := (t_lit (T := T) (st := st) (p := p) (fr := nbF 27 p 0 li :: fr) (w := w + 1) (ms := ms) (lm := 0) (li := li) (lo := lo) (inn := none) (hd := p) (sn := sn.add 7) (pc := 28) (t := 30) (c := 48) (by omega) rfl rfl rfl).2 h1
    obtain ⟨sn2, r2⟩ := (t_one (T := T) (st := st) (p := p) (fr := nbF 32 p 0 li :: fr) (w := w + 1) (ms := ms) (lm := 0) (li := li) (lo := lo) (inn := none) (hd := p) (sn := sn1) (pc := 33) (t := 39) (P := fun x => 49 ≤ x && x ≤ 57) (by omega) (.inr rfl) rfl (fun sn => acc_one _ sn)).1 h2
    obtain ⟨sn3, n3, k3, e3, ek, r3⟩ := t_rep (T := T) (st := st) (p := p + 1) (fr := nbF 32 p 0 li :: fr) (w := w + 1) (ms := ms) (lm := 0) (li := li) (lo := lo) (inn := none) (hd := p) (sn := sn2) (pc := 39) (t := 49) (i := 43) (mxm := mx) (P := isDig) (by omega) rfl rfl rfl rfl rfl
      (fun q hq sn => acc_dig _ (hasc q (by omega)) 43 (.inl rfl) sn) (by omega) (by omega) (.inl rfl)
    have hk : k3.marks.size = 0 := by rw [ek]; rfl
    have hmin : min mx (T.size - (p + 1)) = T.size - (p + 1) := by omega
    rw [hmin] at e3
    have e : p + (1 + cntA isDig T (T.size - (p + 1)) (p + 1)) = p + 1 + n3 := by rw [e3]; omega
    rw [e]
    refine ⟨_, _, [gb 39 (p + 1 + n3) n3 k3, nbF 32 p 0 li], w + 1 + 1 + k3.marks.size, ?_, by simp, by omega, ((s26 hw').trans (r1.trans ((r_nb1 hw').trans (r2.trans (r3.trans ((Run.one rfl s49).trans (Run.one rfl s52))))))).le (by omega)⟩
    · intro f hf
      rcases List.mem_cons.mp hf with rfl | hf
      · exact .inl rfl
      · rw [List.mem_singleton.mp hf]; exact .inr (.inl rfl)
  · cases h
end
end Mine

end
section
open PySem PySem.Sre
set_option autoImplicit false
namespace Mine
section
variable {T : Array Nat} {st p : Nat} {fr : List Sre.Frame} {w : Nat} {ms : Array (Option Nat)} {lm li : Int} {lo : Array Loop} {inn : Option Nat} {hd : Nat} {sn : Seen}

theorem sgnT_cases (T : Array Nat) (p : Nat) : (sgnT T p = 0 ∧ ¬ (p < T.size ∧ T.getD p 0 = 45)) ∨ (sgnT T p = 1 ∧ p < T.size ∧ T.getD p 0 = 45) := by
  unfold sgnT
  by_cases h : p < T.size
  · rw [show min 1 (T.size - p) = 0 + 1 by omega]
    unfold cntA
    by_cases h2 : T.getD p 0 = 45
    · rw [h2]; right; exact ⟨rfl, h, rfl⟩
    · left
      have : (T.getD p 0 == 45) = false := by simpa using h2
      rw [this]; exact ⟨rfl, fun q => h2 q.2⟩
  · rw [show min 1 (T.size - p) = 0 by omega]
    left; exact ⟨rfl, fun q => h q.1⟩
theorem acc_minus (c : Nat) (sn : Seen) : ∃ sn', accepts numC 23 c sn = .ok (c == 45, sn') := ⟨sn, rfl⟩

theorem t19 (hp : p ≤ T.size) (hw : w ≤ 1000) : ∃ sn' k, k = ({ lastmark := lm, lastindex := li } : Sre.Kept) ∧
    Run 1 (em numC T st 19 p none fr w ms lm li lo none hd sn) (em numC T st 26 (p + sgnT T p) none (gb 19 (p + sgnT T p) (sgnT T p) k :: fr) (w + 1) ms lm li lo none (p + sgnT T p) sn') := by
  obtain ⟨sn', n, k, e, ek, r⟩ := t_rep (T := T) (st := st) (p := p) (fr := fr) (w := w) (ms := ms) (lm := lm) (li := li) (lo := lo) (inn := none) (hd := hd) (sn := sn) (pc := 19) (t := 26) (i := 23) (mxm := 1) (P := fun x => x == 45) (by omega) rfl rfl rfl rfl rfl
    (fun q _ sn => acc_minus _ sn) hp hw (.inl rfl)
  have hk : k = ({ lastmark := lm, lastindex := li } : Sre.Kept) := ek
  subst hk
  have e : n = sgnT T p := e
  subst e
  exact ⟨sn', _, rfl, r⟩


theorem s17_yes {n : Nat} (hasc : ∀ q, p ≤ q → T.getD q 0 < 128) (hsz : T.size ≤ mx) (hp : p ≤ T.size) (hw : w ≤ 800) (h : intT T p = some n) :
    ∃ sn' hd' fr' w', (∀ f ∈ fr', Pass f) ∧ fr'.length ≤ 3 ∧ w' ≤ w + 3 ∧ Run 10 (em numC T st 17 p none fr w ms (-1) li lo none hd sn) (em numC T st 54 (p + n) none (fr' ++ fr) w' ((ms.setIfInBounds 0 (some p)).setIfInBounds 1 (some (p + n))) 1 1 lo none hd' sn') := by
  obtain ⟨m, hm, rfl⟩ := Option.map_eq_some_iff.mp h
  obtain ⟨sn1, k, hk, r1⟩ := t19 (T := T) (st := st) (p := p) (fr := fr) (w := w) (ms := ms.setIfInBounds 0 (some p)) (lm := 0) (li := li) (lo := lo) (hd := hd) (sn := sn.add 17) hp (by omega)
  obtain ⟨sn2, hd2, fr2, w2, f1, f2, f3, r2⟩ := s26_yes (T := T) (st := st) (p := p + sgnT T p) (fr := gb 19 (p + sgnT T p) (sgnT T p) k :: fr) (w := w + 1) (ms := ms.setIfInBounds 0 (some p)) (li := li) (lo := lo) (hd := p + sgnT T p) (sn := sn1)
    (fun q hq => hasc q (by omega)) hsz (by omega) hm
  refine ⟨sn2, hd2, fr2 ++ [gb 19 (p + sgnT T p) (sgnT T p) k], w2, ?_, by simp; omega, by omega, ?_⟩
  · intro f hf
    rcases List.mem_append.mp hf with hf | hf
    · exact f1 f hf
    · rw [List.mem_singleton.mp hf]; exact .inl rfl
  · rw [show p + (sgnT T p + m) = p + sgnT T p + m by omega, List.append_assoc]
    exact ((Run.one rfl s17).trans (r1.trans r2)).le (by omega)

theorem s17_no (hp : p ≤ T.size) (hw : w ≤ 900) (h : intT T p = none) :
    ∃ sn' pc' p' hd' ms' lm' li', Run 20 (em numC T st 17 p none fr w ms (-1) li lo none hd sn) (em numC T st pc' p' (some false) fr w ms' lm' li' lo none hd' sn') := by
  have hm : natT T (p + sgnT T p) = none := by simpa [intT] using h
  obtain ⟨sn1, k, hk, r1⟩ := t19 (T := T) (st := st) (p := p) (fr := fr) (w := w) (ms := ms.setIfInBounds 0 (some p)) (lm := 0) (li := li) (lo := lo) (hd := hd) (sn := sn.add 17) hp (by omega)
  obtain ⟨sn2, pc2, p2, hd2, r2⟩ := s26_no (T := T) (st := st) (p := p + sgnT T p) (fr := gb 19 (p + sgnT T p) (sgnT T p) k :: fr) (w := w + 1) (ms := ms.setIfInBounds 0 (some p)) (lm := 0) (li := li) (lo := lo) (hd := p + sgnT T p) (sn := sn1) (by omega) hm
  have hks : k.marks.size = 0 := by rw [hk]; rfl
  have hkl : k.lastmark = 0 ∧ k.lastindex = li := by rw [hk]; exact ⟨rfl, rfl⟩
  rcases sgnT_cases T p with ⟨h0, _⟩ | ⟨h1, h2, h3⟩
  · rw [h0] at r1 r2
    have r3 := r_gb_stop (T := T) (st := st) (fr := fr) (w := w) (ms := ms.setIfInBounds 0 (some p)) (lm := 0) (li := li) (lo := lo) (inn := none) (hd := hd2) (sn := sn2) (pc := pc2) (p := p2) (pc0 := 19) (pos0 := p + 0) (n := ((0 : Nat) : Int)) (k := k) (by show (((0 : Nat) : Int) - 1 < ((0 : Nat) : Int)); omega)
    rw [hks] at r3
    exact ⟨_, _, _, _, _, _, _, ((Run.one rfl s17).trans (r1.trans (r2.trans r3))).le (by omega)⟩
  · rw [h1] at r1 r2
    have r3 := r_gb_more (T := T) (st := st) (fr := fr) (w := w) (ms := ms.setIfInBounds 0 (some p)) (lm := 0) (li := li) (lo := lo) (inn := none) (hd := hd2) (sn := sn2) (pc := pc2) (p := p2) (pc0 := 19) (pos0 := p + 1) (t := 26) (n := ((1 : Nat) : Int)) (k := k)
      (by show ¬ (((1 : Nat) : Int) - 1 < ((0 : Nat) : Int)); omega) rfl (by omega) (by omega)
    rw [hks, show p + 1 - 1 = p by omega] at r3
    have hn : natT T p = none := by
      unfold natT
      rw [h3, if_neg (by simp), if_neg (by simp)]
    obtain ⟨sn4, pc4, p4, hd4, r4⟩ := s26_no (T := T) (st := st) (p := p) (fr := gb 19 p (((1 : Nat) : Int) - 1) k :: fr) (w := w + 1) (ms := back k (ms.setIfInBounds 0 (some p))) (lm := k.lastmark) (li := k.lastindex) (lo := lo) (hd := p) (sn := sn2) (by omega) hn
    have r5 := r_gb_stop (T := T) (st := st) (fr := fr) (w := w) (ms := back k (ms.setIfInBounds 0 (some p))) (lm := k.lastmark) (li := k.lastindex) (lo := lo) (inn := none) (hd := hd4) (sn := sn4) (pc := pc4) (p := p4) (pc0 := 19) (pos0 := p) (n := ((1 : Nat) : Int) - 1) (k := k)
      (by show (((1 : Nat) : Int) - 1 - 1 < ((0 : Nat) : Int)); omega)
    rw [hks] at r5
    exact ⟨_, _, _, _, _, _, _, ((Run.one rfl s17).trans (r1.trans (r2.trans (r3.trans (r4.trans r5))))).le (by omega)⟩

theorem t_blk {pc : Nat} (hpc : pc = 5 ∨ pc = 113) (hsz : T.size ≤ mx) (hp : p ≤ T.size) (hw : w ≤ 1000) : ∃ sn' k, k = ({ lastmark := lm, lastindex := li } : Sre.Kept) ∧
    Run 1 (em numC T st pc p none fr w ms lm li lo none hd sn) (em numC T st (pc + 12) (p + cntA isBl T (T.size - p) p) none (gb pc (p + cntA isBl T (T.size - p) p) (cntA isBl T (T.size - p) p) k :: fr) (w + 1) ms lm li lo none (p + cntA isBl T (T.size - p) p) sn') := by
  have hmin : min mx (T.size - p) = T.size - p := by omega
  rcases hpc with rfl | rfl
  · obtain ⟨sn', n, k, e, ek, r⟩ := t_rep (T := T) (st := st) (p := p) (fr := fr) (w := w) (ms := ms) (lm := lm) (li := li) (lo := lo) (inn := none) (hd := hd) (sn := sn) (pc := 5) (t := 17) (i := 9) (mxm := mx) (P := isBl) (by omega) rfl rfl rfl rfl rfl
      (fun q _ sn => acc_blk q T 9 (.inl rfl) sn) hp hw (.inl rfl)
    rw [hmin] at e
    subst e
    have hk : k = ({ lastmark := lm, lastindex := li } : Sre.Kept) := ek
    subst hk
    exact ⟨sn', _, rfl, r⟩
  · obtain ⟨sn', n, k, e, ek, r⟩ := t_rep (T := T) (st := st) (p := p) (fr := fr) (w := w) (ms := ms) (lm := lm) (li := li) (lo := lo) (inn := none) (hd := hd) (sn := sn) (pc := 113) (t := 125) (i := 117) (mxm := mx) (P := isBl) (by omega) rfl rfl rfl rfl rfl
      (fun q _ sn => acc_blk q T 117 (.inr rfl) sn) hp hw (.inl rfl)
    rw [hmin] at e
    subst e
    have hk : k = ({ lastmark := lm, lastindex := li } : Sre.Kept) := ek
    subst hk
    exact ⟨sn', _, rfl, r⟩

/-- no blank stood for a number: all is given back, in vain -/
theorem blanks_back : ∀ (a pos0 : Nat) {pc q : Nat} {ms : Array (Option Nat)} {lm li : Int} {hd : Nat} {sn : Seen} {k : Sre.Kept}, k.lastmark = -1 → k.marks = #[] → k.whole = false → pos0 ≤ T.size → a ≤ pos0 → (∀ j, pos0 - a ≤ j → j < pos0 → intT T j = none) →
    ∃ m', Run (22 * a + 2) (em numC T st pc q (some false) [gb 5 pos0 a k] 1 ms lm li lo none hd sn) m' ∧ m'.outcome = some .failed
  | 0, pos0, pc, q, ms, lm, li, hd, sn, k, h1, h2, h3, _, _, _ => by
    have r := r_gb_stop (T := T) (st := st) (fr := []) (w := 0) (ms := ms) (lm := lm) (li := li) (lo := lo) (inn := none) (hd := hd) (sn := sn) (pc := pc) (p := q) (pc0 := 5) (pos0 := pos0) (n := ((0 : Nat) : Int)) (k := k) (by show (((0 : Nat) : Int) - 1 < ((0 : Nat) : Int)); omega)
    rw [h2] at r
    exact ⟨_, (r.trans (Run.one rfl rfl)).le (by omega), rfl⟩
  | a + 1, pos0, pc, q, ms, lm, li, hd, sn, k, h1, h2, h3, hp, ha, hj => by
    have hks : k.marks.size = 0 := by rw [h2]; rfl
    have r := r_gb_more (T := T) (st := st) (fr := []) (w := 0) (ms := ms) (lm := lm) (li := li) (lo := lo) (inn := none) (hd := hd) (sn := sn) (pc := pc) (p := q) (pc0 := 5) (pos0 := pos0) (t := 17) (n := ((a + 1 : Nat) : Int)) (k := k)
      (by show ¬ (((a + 1 : Nat) : Int) - 1 < ((0 : Nat) : Int)); omega) rfl (by omega) (by omega)
    rw [hks, h1, show ((a + 1 : Nat) : Int) - 1 = (a : Int) by omega] at r
    obtain ⟨sn2, pc2, p2, hd2, ms2, lm2, li2, r2⟩ := s17_no (T := T) (st := st) (p := pos0 - 1) (fr := [gb 5 (pos0 - 1) a k]) (w := 1) (ms := back k ms) (li := k.lastindex) (lo := lo) (hd := pos0 - 1) (sn := sn) (by omega) (by omega) (hj _ (by omega) (by omega))
    obtain ⟨m', r3, ho⟩ := blanks_back a (pos0 - 1) (pc := pc2) (q := p2) (ms := ms2) (lm := lm2) (li := li2) (hd := hd2) (sn := sn2) (k := k) h1 h2 h3 (by omega) (by omega) fun j h4 h5 => hj j (by omega) (by omega)
    exact ⟨m', (r.trans (r2.trans r3)).le (by omega), ho⟩
end
end Mine

end
section
open PySem PySem.Sre
set_option autoImplicit false
namespace Mine
section
variable {T : Array Nat} {st p : Nat} {fr : List Sre.Frame} {w : Nat} {li : Int} {hd : Nat} {sn : Seen} {a0 a1 a2 a3 a4 a5 : Option Nat}

def clF (pc pos i : Nat) : Sre.Frame := { wait := .closeLoop, pc, pos, outermost := true, loop := i }
def mmF (pc pos i : Nat) (k : Sre.Kept) : Sre.Frame := { wait := .maxMore, pc, pos, outermost := true, loop := i, count := 0, kept := k }
def mtF (pc pos i : Nat) (n : Int) (lm li : Int) : Sre.Frame := { wait := .maxTail, pc, pos, outermost := true, loop := i, count := n, kept := { lastmark := lm, lastindex := li } }

theorem s54 (hw : w ≤ 1000) {ms : Array (Option Nat)} {lm : Int} : Run 1 (em numC T st 54 p none fr w ms lm li #[] none hd sn) (em numC T st 74 p none (clF 54 p 0 :: fr) (w + 1) ms lm li #[{ pc := 54, outer := none }] (some 0) p (sn.add 23)) := by
  refine Run.one rfl ?_
  have e : (em numC T st 54 p none fr w ms lm li #[] none hd sn).step = (em numC T st 54 p none fr w ms lm li #[{ pc := 54, outer := none }] (some 0) hd (sn.add 23)).attempt (clF 54 p 0) 74 p true := by kernel_rfl
  rw [e, attempt_ok (by show w + 1 + 0 ≤ 16777216; omega)]
  rfl
theorem s75 (hw : w ≤ 1000) {ms : Array (Option Nat)} {lm : Int} {L : Loop} : Run 1 (em numC T st 75 p none fr w ms lm li #[L] none hd sn) (em numC T st 112 p none (clF 75 p 1 :: fr) (w + 1) ms lm li #[L, { pc := 75, outer := none }] (some 1) p (sn.add 23)) := by
  refine Run.one rfl ?_
  have e : (em numC T st 75 p none fr w ms lm li #[L] none hd sn).step = (em numC T st 75 p none fr w ms lm li #[L, { pc := 75, outer := none }] (some 1) hd (sn.add 23)).attempt (clF 75 p 1) 112 p true := by kernel_rfl
  rw [e, attempt_ok (by show w + 1 + 0 ≤ 16777216; omega)]
  rfl
def k2 (a0 a1 : Option Nat) (li : Int) : Sre.Kept := { lastmark := 1, lastindex := li, whole := true, marks := #[a0, a1] }
def k4 (a0 a1 a2 a3 : Option Nat) (li : Int) : Sre.Kept := { lastmark := 3, lastindex := li, whole := true, marks := #[a0, a1, a2, a3] }
theorem s74a (hw : w ≤ 1000) : Run 1 (em numC T st 74 p none fr w #[a0, a1, a2, a3, a4, a5] 1 li #[{ pc := 54, outer := none }] (some 0) hd sn)
    (em numC T st 58 p none (mmF 75 p 0 (k2 a0 a1 li) :: fr) (w + 1 + 2) #[a0, a1, a2, a3, a4, a5] 1 li #[{ pc := 54, count := 0, began := some p, outer := none }] (some 0) p (sn.add 18)) := by
  refine Run.one rfl ?_
  have e : (em numC T st 74 p none fr w #[a0, a1, a2, a3, a4, a5] 1 li #[{ pc := 54, outer := none }] (some 0) hd sn).step =
      (em numC T st 75 p none fr w #[a0, a1, a2, a3, a4, a5] 1 li #[{ pc := 54, count := 0, began := some p, outer := none }] (some 0) hd (sn.add 18)).attempt (mmF 75 p 0 (k2 a0 a1 li)) 58 p true := by kernel_rfl
  rw [e, attempt_ok (by show w + 1 + 2 ≤ 16777216; omega)]
  rfl
theorem s58 {lo : Array Loop} {inn : Option Nat} : (em numC T st 58 p none fr w #[a0, a1, a2, a3, a4, a5] 1 li lo inn hd sn).step = em numC T st 60 p none fr w #[a0, a1, some p, a3, a4, a5] 2 li lo inn hd (sn.add 17) := by kernel_rfl
theorem s72 {lo : Array Loop} {inn : Option Nat} : (em numC T st 72 p none fr w #[a0, a1, a2, a3, a4, a5] 2 li lo inn hd sn).step = em numC T st 74 p none fr w #[a0, a1, a2, some p, a4, a5] 3 2 lo inn hd (sn.add 17) := by kernel_rfl
theorem s74b {q : Nat} {ms : Array (Option Nat)} {lm : Int} (hw : w ≤ 1000) : Run 1 (em numC T st 74 p none fr w ms lm li #[{ pc := 54, count := 0, began := some q, outer := none }] (some 0) hd sn)
    (em numC T st 75 p none (mtF 75 p 0 1 lm li :: fr) (w + 1) ms lm li #[{ pc := 54, count := 0, began := some q, outer := none }] none p (sn.add 18)) := by
  refine Run.one rfl ?_
  have e : (em numC T st 74 p none fr w ms lm li #[{ pc := 54, count := 0, began := some q, outer := none }] (some 0) hd sn).step =
      (em numC T st 75 p none fr w ms lm li #[{ pc := 54, count := 0, began := some q, outer := none }] none hd (sn.add 18)).attempt (mtF 75 p 0 1 lm li) 75 p true := by kernel_rfl
  rw [e, attempt_ok (by show w + 1 + 0 ≤ 16777216; omega)]
  rfl
theorem r_mm1 {pc q : Nat} {b0 b1 b2 b3 b4 b5 : Option Nat} {lm li2 : Int} (hw : w ≤ 1000) : Run 1 (em numC T st pc q (some false) (mmF 75 p 0 (k2 a0 a1 li) :: fr) (w + 1 + 2) #[b0, b1, b2, b3, b4, b5] lm li2 #[{ pc := 54, count := 0, began := some p, outer := none }] (some 0) hd sn)
    (em numC T st 75 p none (mtF 75 p 0 0 1 li :: fr) (w + 1) #[a0, a1, b2, b3, b4, b5] 1 li #[{ pc := 54, outer := none }] none p sn) := by
  refine Run.one rfl ?_
  have e : (em numC T st pc q (some false) (mmF 75 p 0 (k2 a0 a1 li) :: fr) (w + 1 + 2) #[b0, b1, b2, b3, b4, b5] lm li2 #[{ pc := 54, count := 0, began := some p, outer := none }] (some 0) hd sn).step =
      (em numC T st 75 p none fr (w + 1 + 2 - 3) #[a0, a1, b2, b3, b4, b5] 1 li #[{ pc := 54, outer := none }] none hd sn).attempt (mtF 75 p 0 0 1 li) 75 p true := by kernel_rfl
  rw [e, attempt_ok (by show w + 1 + 2 - 3 + 1 + 0 ≤ 16777216; omega)]
  have hw' : w + 1 + 2 - 3 = w := by omega
  rw [← hw']
  rfl
end
end Mine

end
section
open PySem PySem.Sre
set_option autoImplicit false
namespace Mine
section
variable {T : Array Nat} {st p : Nat} {fr : List Sre.Frame} {w : Nat} {li : Int} {hd : Nat} {sn : Seen} {a0 a1 a2 a3 a4 a5 : Option Nat} {L : Loop}


theorem pass_gb {pc pos : Nat} {n : Int} {k : Sre.Kept} : Pass (gb pc pos n k) := .inl rfl
theorem pass_cl {pc pos i : Nat} : Pass (clF pc pos i) := .inr (.inr (.inl rfl))
theorem pass_mm {pc pos i : Nat} {k : Sre.Kept} : Pass (mmF pc pos i k) := .inr (.inr (.inr (.inl rfl)))
theorem pass_mt {pc pos i : Nat} {n lm li : Int} : Pass (mtF pc pos i n lm li) := .inr (.inr (.inr (.inr rfl)))
theorem pass_cons {f : Sre.Frame} {fr : List Sre.Frame} (h : Pass f) (hs : ∀ g ∈ fr, Pass g) : ∀ g ∈ f :: fr, Pass g := fun g hg => by
  rcases List.mem_cons.mp hg with rfl | hg
  · exact h
  · exact hs g hg
theorem pass_nil : ∀ g ∈ ([] : List Sre.Frame), Pass g := fun g hg => nomatch hg

/-- the fraction: it stands, or it does not -/
theorem frac_run (hasc : ∀ q, p ≤ q → T.getD q 0 < 128) (hsz : T.size ≤ mx) (hw : w ≤ 700) :
    ∃ sn' hd' fr' w' L li', (∀ f ∈ fr', Pass f) ∧ fr'.length ≤ 4 ∧ w' ≤ w + 20 ∧
      (match fracT T p with
        | some n => Run 10 (em numC T st 54 p none fr w #[a0, a1, a2, a3, a4, a5] 1 li #[] none hd sn) (em numC T st 75 (p + n) none (fr' ++ fr) w' #[a0, a1, some p, some (p + n), a4, a5] 3 li' #[L] none hd' sn')
        | none => ∃ b2 b3, Run 10 (em numC T st 54 p none fr w #[a0, a1, a2, a3, a4, a5] 1 li #[] none hd sn) (em numC T st 75 p none (fr' ++ fr) w' #[a0, a1, b2, b3, a4, a5] 1 li' #[L] none hd' sn')) := by
  have r1 := s54 (T := T) (st := st) (p := p) (fr := fr) (w := w) (ms := #[a0, a1, a2, a3, a4, a5]) (lm := 1) (li := li) (hd := hd) (sn := sn) (by omega)
  have r2 := s74a (T := T) (st := st) (p := p) (fr := clF 54 p 0 :: fr) (w := w + 1) (li := li) (hd := p) (sn := sn.add 23) (a0 := a0) (a1 := a1) (a2 := a2) (a3 := a3) (a4 := a4) (a5 := a5) (by omega)
  have r3 : Run 1 _ _ := Run.one rfl (s58 (T := T) (st := st) (p := p) (fr := mmF 75 p 0 (k2 a0 a1 li) :: clF 54 p 0 :: fr) (w := w + 1 + 1 + 2) (li := li) (hd := p) (sn := (sn.add 23).add 18) (a0 := a0) (a1 := a1) (a2 := a2) (a3 := a3) (a4 := a4) (a5 := a5)
    (lo := #[{ pc := 54, count := 0, began := some p, outer := none }]) (inn := some 0))
  have r123 := r1.trans (r2.trans r3)
  obtain ⟨hy, hn⟩ := t_lit (T := T) (st := st) (p := p) (fr := mmF 75 p 0 (k2 a0 a1 li) :: clF 54 p 0 :: fr) (w := w + 1 + 1 + 2) (ms := #[a0, a1, some p, a3, a4, a5]) (lm := 2) (li := li) (lo := #[{ pc := 54, count := 0, began := some p, outer := none }]) (inn := some 0) (hd := p)
    (sn := ((sn.add 23).add 18).add 17) (pc := 60) (t := 62) (c := 46) (by omega) rfl rfl rfl
  unfold fracT
  by_cases h1 : p < T.size ∧ T.getD p 0 = 46
  · rw [if_pos h1]
    obtain ⟨sn4, r4⟩ := hy h1
    obtain ⟨hz, hnz⟩ := t_some (T := T) (st := st) (p := p + 1) (fr := mmF 75 p 0 (k2 a0 a1 li) :: clF 54 p 0 :: fr) (w := w + 1 + 1 + 2) (ms := #[a0, a1, some p, a3, a4, a5]) (lm := 2) (li := li) (lo := #[{ pc := 54, count := 0, began := some p, outer := none }]) (inn := some 0) (hd := p)
      (sn := sn4) (pc := 62) (t := 72) (i := 66) (P := isDig) (by omega) rfl rfl rfl rfl rfl (fun q hq sn => acc_dig _ (hasc q (by omega)) 66 (.inr (.inl rfl)) sn) hsz (by omega) (by omega) (.inr (by show 6 ≤ 1000; omega))
    by_cases h2 : cntA isDig T (T.size - (p + 1)) (p + 1) = 0
    · rw [if_pos h2]
      obtain ⟨sn5, r5⟩ := hz h2
      have r6 := r_mm1 (T := T) (st := st) (p := p) (fr := clF 54 p 0 :: fr) (w := w + 1) (li := li) (hd := p) (sn := sn5) (a0 := a0) (a1 := a1) (pc := 62) (q := p + 1) (b0 := a0) (b1 := a1) (b2 := some p) (b3 := a3) (b4 := a4) (b5 := a5) (lm := 2) (li2 := li) (by omega)
      exact ⟨_, _, [mtF 75 p 0 0 1 li, clF 54 p 0], _, _, _, pass_cons pass_mt (pass_cons pass_cl pass_nil), by simp, by omega, _, _, (r123.trans (r4.trans (r5.trans r6))).le (by omega)⟩
    · rw [if_neg h2]
      obtain ⟨sn5, k, hk, r5⟩ := hnz h2
      have hks : k.marks.size = 3 := by rw [hk]; rfl
      generalize hc : cntA isDig T (T.size - (p + 1)) (p + 1) = c at *
      have r6 : Run 1 _ _ := Run.one rfl (s72 (T := T) (st := st) (p := p + 1 + c) (fr := gb 62 (p + 1 + c) c k :: mmF 75 p 0 (k2 a0 a1 li) :: clF 54 p 0 :: fr) (w := w + 1 + 1 + 2 + 1 + k.marks.size) (li := li) (hd := p + 1 + c) (sn := sn5) (a0 := a0) (a1 := a1) (a2 := some p) (a3 := a3) (a4 := a4) (a5 := a5)
        (lo := #[{ pc := 54, count := 0, began := some p, outer := none }]) (inn := some 0))
      have r7 := s74b (T := T) (st := st) (p := p + 1 + c) (fr := gb 62 (p + 1 + c) c k :: mmF 75 p 0 (k2 a0 a1 li) :: clF 54 p 0 :: fr) (w := w + 1 + 1 + 2 + 1 + k.marks.size) (li := 2) (hd := p + 1 + c) (sn := sn5.add 17) (q := p) (ms := #[a0, a1, some p, some (p + 1 + c), a4, a5]) (lm := 3) (by omega)
      dsimp only
      rw [show p + (1 + c) = p + 1 + c by omega]
      exact ⟨_, _, [mtF 75 (p + 1 + c) 0 1 3 2, gb 62 (p + 1 + c) c k, mmF 75 p 0 (k2 a0 a1 li), clF 54 p 0], _, _, _, pass_cons pass_mt (pass_cons pass_gb (pass_cons pass_mm (pass_cons pass_cl pass_nil))), by simp, by omega, (r123.trans (r4.trans (r5.trans (r6.trans r7)))).le (by omega)⟩
  · rw [if_neg h1]
    obtain ⟨sn4, r4⟩ := hn h1
    have r6 := r_mm1 (T := T) (st := st) (p := p) (fr := clF 54 p 0 :: fr) (w := w + 1) (li := li) (hd := p) (sn := sn4) (a0 := a0) (a1 := a1) (pc := 60) (q := p) (b0 := a0) (b1 := a1) (b2 := some p) (b3 := a3) (b4 := a4) (b5 := a5) (lm := 2) (li2 := li) (by omega)
    exact ⟨_, _, [mtF 75 p 0 0 1 li, clF 54 p 0], _, _, _, pass_cons pass_mt (pass_cons pass_cl pass_nil), by simp, by omega, _, _, (r123.trans (r4.trans r6)).le (by omega)⟩
end
end Mine

end
section
open PySem PySem.Sre
set_option autoImplicit false
namespace Mine
section
variable {T : Array Nat} {st p : Nat} {fr : List Sre.Frame} {w : Nat} {li : Int} {hd : Nat} {sn : Seen} {a0 a1 a2 a3 a4 a5 : Option Nat} {L : Loop}

theorem expS_cases (T : Array Nat) (p : Nat) : expS T p = 0 ∨ (expS T p = 1 ∧ p < T.size ∧ (T.getD p 0 == 45 || T.getD p 0 == 43) = true) := by
  unfold expS
  by_cases h : p < T.size
  · rw [show min 1 (T.size - p) = 0 + 1 by omega]
    unfold cntA
    cases h2 : (T.getD p 0 == 45 || T.getD p 0 == 43)
    · left; rfl
    · right; exact ⟨rfl, h, rfl⟩
  · rw [show min 1 (T.size - p) = 0 by omega]
    left; rfl
theorem s110 {lo : Array Loop} {inn : Option Nat} : (em numC T st 110 p none fr w #[a0, a1, a2, a3, a4, a5] 4 li lo inn hd sn).step = em numC T st 112 p none fr w #[a0, a1, a2, a3, a4, some p] 5 3 lo inn hd (sn.add 17) := by kernel_rfl
theorem s112b {q : Nat} {ms : Array (Option Nat)} {lm : Int} (hw : w ≤ 1000) : Run 1 (em numC T st 112 p none fr w ms lm li #[L, { pc := 75, count := 0, began := some q, outer := none }] (some 1) hd sn)
    (em numC T st 113 p none (mtF 113 p 1 1 lm li :: fr) (w + 1) ms lm li #[L, { pc := 75, count := 0, began := some q, outer := none }] none p (sn.add 18)) := by
  refine Run.one rfl ?_
  have e : (em numC T st 112 p none fr w ms lm li #[L, { pc := 75, count := 0, began := some q, outer := none }] (some 1) hd sn).step =
      (em numC T st 113 p none fr w ms lm li #[L, { pc := 75, count := 0, began := some q, outer := none }] none hd (sn.add 18)).attempt (mtF 113 p 1 1 lm li) 113 p true := by kernel_rfl
  rw [e, attempt_ok (by show w + 1 + 0 ≤ 16777216; omega)]
  rfl

theorem s112aA (hw : w ≤ 1000) : Run 1 (em numC T st 112 p none fr w #[a0, a1, a2, a3, a4, a5] 1 li #[L, { pc := 75, outer := none }] (some 1) hd sn)
    (em numC T st 79 p none (mmF 113 p 1 (k2 a0 a1 li) :: fr) (w + 1 + 2) #[a0, a1, a2, a3, a4, a5] 1 li #[L, { pc := 75, count := 0, began := some p, outer := none }] (some 1) p (sn.add 18)) := by
  refine Run.one rfl ?_
  have e : (em numC T st 112 p none fr w #[a0, a1, a2, a3, a4, a5] 1 li #[L, { pc := 75, outer := none }] (some 1) hd sn).step =
      (em numC T st 113 p none fr w #[a0, a1, a2, a3, a4, a5] 1 li #[L, { pc := 75, count := 0, began := some p, outer := none }] (some 1) hd (sn.add 18)).attempt (mmF 113 p 1 (k2 a0 a1 li)) 79 p true := by kernel_rfl
  rw [e, attempt_ok (by show w + 1 + 2 ≤ 16777216; omega)]
  rfl
theorem s79A {lo : Array Loop} {inn : Option Nat} : (em numC T st 79 p none fr w #[a0, a1, a2, a3, a4, a5] 1 li lo inn hd sn).step = em numC T st 81 p none fr w #[a0, a1, none, none, some p, a5] 4 li lo inn hd (sn.add 17) := by kernel_rfl
theorem r_mm2A {pc q : Nat} {b0 b1 b2 b3 b4 b5 : Option Nat} {lm li2 : Int} (hw : w ≤ 1000) : Run 1 (em numC T st pc q (some false) (mmF 113 p 1 (k2 a0 a1 li) :: fr) (w + 1 + 2) #[b0, b1, b2, b3, b4, b5] lm li2 #[L, { pc := 75, count := 0, began := some p, outer := none }] (some 1) hd sn)
    (em numC T st 113 p none (mtF 113 p 1 0 1 li :: fr) (w + 1) #[a0, a1, b2, b3, b4, b5] 1 li #[L, { pc := 75, outer := none }] none p sn) := by
  refine Run.one rfl ?_
  have e : (em numC T st pc q (some false) (mmF 113 p 1 (k2 a0 a1 li) :: fr) (w + 1 + 2) #[b0, b1, b2, b3, b4, b5] lm li2 #[L, { pc := 75, count := 0, began := some p, outer := none }] (some 1) hd sn).step =
      (em numC T st 113 p none fr (w + 1 + 2 - 3) #[a0, a1, b2, b3, b4, b5] 1 li #[L, { pc := 75, outer := none }] none hd sn).attempt (mtF 113 p 1 0 1 li) 113 p true := by kernel_rfl
  rw [e, attempt_ok (by show w + 1 + 2 - 3 + 1 + 0 ≤ 16777216; omega)]
  have hw' : w + 1 + 2 - 3 = w := by omega
  rw [← hw']
  rfl

/-- the power: it stands, or it does not -/
theorem exp_runA (hasc : ∀ q, p ≤ q → T.getD q 0 < 128) (hsz : T.size ≤ mx) (hw : w ≤ 700) :
    ∃ sn' hd' fr' w' lo' li', (∀ f ∈ fr', Pass f) ∧ fr'.length ≤ 5 ∧ w' ≤ w + 30 ∧
      (match expT T p with
        | some n => Run 14 (em numC T st 75 p none fr w #[a0, a1, a2, a3, a4, a5] 1 li #[L] none hd sn) (em numC T st 113 (p + n) none (fr' ++ fr) w' #[a0, a1, none, none, some p, some (p + n)] 5 li' lo' none hd' sn')
        | none => ∃ b2 b3 b4 b5, (1 = (3 : Int) → b2 = a2 ∧ b3 = a3) ∧ Run 14 (em numC T st 75 p none fr w #[a0, a1, a2, a3, a4, a5] 1 li #[L] none hd sn) (em numC T st 113 p none (fr' ++ fr) w' #[a0, a1, b2, b3, b4, b5] 1 li' lo' none hd' sn')) := by
  have r1 := s75 (T := T) (st := st) (p := p) (fr := fr) (w := w) (ms := #[a0, a1, a2, a3, a4, a5]) (lm := 1) (li := li) (hd := hd) (sn := sn) (L := L) (by omega)
  have r2 := s112aA (T := T) (st := st) (p := p) (fr := clF 75 p 1 :: fr) (w := w + 1) (li := li) (hd := p) (sn := sn.add 23) (a0 := a0) (a1 := a1) (a2 := a2) (a3 := a3) (a4 := a4) (a5 := a5) (L := L) (by omega)
  have r3 : Run 1 _ _ := Run.one rfl (s79A (T := T) (st := st) (p := p) (fr := mmF 113 p 1 (k2 a0 a1 li) :: clF 75 p 1 :: fr) (w := w + 1 + 1 + 2) (li := li) (hd := p) (sn := (sn.add 23).add 18) (a0 := a0) (a1 := a1) (a2 := a2) (a3 := a3) (a4 := a4) (a5 := a5)
    (lo := #[L, { pc := 75, count := 0, began := some p, outer := none }]) (inn := some 1))
  have r123 := r1.trans (r2.trans r3)
  obtain ⟨hy, hn⟩ := t_one (T := T) (st := st) (p := p) (fr := mmF 113 p 1 (k2 a0 a1 li) :: clF 75 p 1 :: fr) (w := w + 1 + 1 + 2) (ms := #[a0, a1, none, none, some p, a5]) (lm := 4) (li := li) (lo := #[L, { pc := 75, count := 0, began := some p, outer := none }]) (inn := some 1) (hd := p)
    (sn := ((sn.add 23).add 18).add 17) (pc := 81) (t := 88) (P := fun c => c == 101 || c == 69) (by omega) (.inr rfl) rfl (fun sn => acc_two 81 101 69 (.inl ⟨rfl, rfl, rfl⟩) _ sn)
  unfold expT
  by_cases h1 : p < T.size ∧ (T.getD p 0 == 101 || T.getD p 0 == 69) = true
  · rw [if_pos h1]
    obtain ⟨sn4, r4⟩ := hy h1
    obtain ⟨sn5, n5, k5, e5, ek5, r5⟩ := t_rep (T := T) (st := st) (p := p + 1) (fr := mmF 113 p 1 (k2 a0 a1 li) :: clF 75 p 1 :: fr) (w := w + 1 + 1 + 2) (ms := #[a0, a1, none, none, some p, a5]) (lm := 4) (li := li) (lo := #[L, { pc := 75, count := 0, began := some p, outer := none }]) (inn := some 1) (hd := p)
      (sn := sn4) (pc := 88) (t := 100) (i := 92) (mxm := 1) (P := fun c => c == 45 || c == 43) (by omega) rfl rfl rfl rfl rfl (fun q _ sn => acc_two 92 45 43 (.inr ⟨rfl, rfl, rfl⟩) _ sn) (by omega) (by omega) (.inr (by show 6 ≤ 1000; omega))
    have e5 : n5 = expS T (p + 1) := e5
    have hk5 : k5 = ({ lastmark := 4, lastindex := li, whole := true, marks := #[a0, a1, none, none, some p] } : Sre.Kept) := ek5
    have hks5 : k5.marks.size = 5 := by rw [hk5]; rfl
    have hle : n5 ≤ 1 := by rw [e5]; rcases expS_cases T (p + 1) with h | ⟨h, _⟩ <;> omega
    have hpl : p + 1 + n5 ≤ T.size := by
      rw [e5]; rcases expS_cases T (p + 1) with h | ⟨h, h', _⟩ <;> omega
    obtain ⟨hz, hnz⟩ := t_some (T := T) (st := st) (p := p + 1 + n5) (fr := gb 88 (p + 1 + n5) n5 k5 :: mmF 113 p 1 (k2 a0 a1 li) :: clF 75 p 1 :: fr) (w := w + 1 + 1 + 2 + 1 + k5.marks.size) (ms := #[a0, a1, none, none, some p, a5]) (lm := 4) (li := li) (lo := #[L, { pc := 75, count := 0, began := some p, outer := none }]) (inn := some 1) (hd := p + 1 + n5)
      (sn := sn5) (pc := 100) (t := 110) (i := 104) (P := isDig) (by omega) rfl rfl rfl rfl rfl (fun q hq sn => acc_dig _ (hasc q (by omega)) 104 (.inr (.inr rfl)) sn) hsz hpl (by omega) (.inr (by show 6 ≤ 1000; omega))
    by_cases h2 : cntA isDig T (T.size - (p + 1 + expS T (p + 1))) (p + 1 + expS T (p + 1)) = 0
    · rw [if_pos h2]
      rw [← e5] at h2
      obtain ⟨sn6, r6⟩ := hz h2
      have r6a := r123.trans (r4.trans (r5.trans r6))
      -- the sign is given back, in vain
      have hback : back k5 #[a0, a1, none, none, some p, a5] = #[a0, a1, none, none, some p, a5] := by rw [hk5]; rfl
      have hkl : k5.lastmark = 4 ∧ k5.lastindex = li := by rw [hk5]; exact ⟨rfl, rfl⟩
      have stop : ∃ sn7 pc7 q7 hd7, Run 10 (em numC T st 75 p none fr w #[a0, a1, a2, a3, a4, a5] 1 li #[L] none hd sn)
          (em numC T st pc7 q7 (some false) (mmF 113 p 1 (k2 a0 a1 li) :: clF 75 p 1 :: fr) (w + 1 + 1 + 2) #[a0, a1, none, none, some p, a5] 4 li #[L, { pc := 75, count := 0, began := some p, outer := none }] (some 1) hd7 sn7) := by
        rcases (by omega : n5 = 0 ∨ n5 = 1) with h0 | h0
        · have r7 := r_gb_stop (T := T) (st := st) (fr := mmF 113 p 1 (k2 a0 a1 li) :: clF 75 p 1 :: fr) (w := w + 1 + 1 + 2) (ms := #[a0, a1, none, none, some p, a5]) (lm := 4) (li := li) (lo := #[L, { pc := 75, count := 0, began := some p, outer := none }]) (inn := some 1) (hd := p + 1 + n5) (sn := sn6) (pc := 100) (p := p + 1 + n5) (pc0 := 88) (pos0 := p + 1 + n5) (n := ((n5 : Nat) : Int)) (k := k5)
            (by rw [h0]; show (((0 : Nat) : Int) - 1 < ((0 : Nat) : Int)); omega)
          rw [hback, hkl.1, hkl.2] at r7
          exact ⟨_, _, _, _, (r6a.trans r7).le (by omega)⟩
        · have r7 := r_gb_more (T := T) (st := st) (fr := mmF 113 p 1 (k2 a0 a1 li) :: clF 75 p 1 :: fr) (w := w + 1 + 1 + 2) (ms := #[a0, a1, none, none, some p, a5]) (lm := 4) (li := li) (lo := #[L, { pc := 75, count := 0, began := some p, outer := none }]) (inn := some 1) (hd := p + 1 + n5) (sn := sn6) (pc := 100) (p := p + 1 + n5) (pc0 := 88) (pos0 := p + 1 + n5) (t := 100) (n := ((n5 : Nat) : Int)) (k := k5)
            (by rw [h0]; show ¬ (((1 : Nat) : Int) - 1 < ((0 : Nat) : Int)); omega) rfl (by omega) (by omega)
          rw [hback, hkl.1, hkl.2, show p + 1 + n5 - 1 = p + 1 by omega] at r7
          have hsg : cntA isDig T (T.size - (p + 1)) (p + 1) = 0 := by
            rcases expS_cases T (p + 1) with h | ⟨_, h3, h4⟩
            · omega
            · rw [show T.size - (p + 1) = (T.size - (p + 1) - 1) + 1 by omega]
              unfold cntA
              rw [if_neg]
              intro hdg
              unfold isDig at hdg
              simp only [Bool.or_eq_true, beq_iff_eq] at h4
              simp only [Bool.and_eq_true, decide_eq_true_eq] at hdg
              omega
          obtain ⟨sn8, r8⟩ := (t_some (T := T) (st := st) (p := p + 1) (fr := gb 88 (p + 1) (((n5 : Nat) : Int) - 1) k5 :: mmF 113 p 1 (k2 a0 a1 li) :: clF 75 p 1 :: fr) (w := w + 1 + 1 + 2 + 1 + k5.marks.size) (ms := #[a0, a1, none, none, some p, a5]) (lm := 4) (li := li) (lo := #[L, { pc := 75, count := 0, began := some p, outer := none }]) (inn := some 1) (hd := p + 1)
            (sn := sn6) (pc := 100) (t := 110) (i := 104) (P := isDig) (by omega) rfl rfl rfl rfl rfl (fun q hq sn => acc_dig _ (hasc q (by omega)) 104 (.inr (.inr rfl)) sn) hsz (by omega) (by omega) (.inr (by show 6 ≤ 1000; omega))).1 hsg
          have r9 := r_gb_stop (T := T) (st := st) (fr := mmF 113 p 1 (k2 a0 a1 li) :: clF 75 p 1 :: fr) (w := w + 1 + 1 + 2) (ms := #[a0, a1, none, none, some p, a5]) (lm := 4) (li := li) (lo := #[L, { pc := 75, count := 0, began := some p, outer := none }]) (inn := some 1) (hd := p + 1) (sn := sn8) (pc := 100) (p := p + 1) (pc0 := 88) (pos0 := p + 1) (n := ((n5 : Nat) : Int) - 1) (k := k5)
            (by rw [h0]; show (((1 : Nat) : Int) - 1 - 1 < ((0 : Nat) : Int)); omega)
          rw [hback, hkl.1, hkl.2] at r9
          exact ⟨_, _, _, _, (r6a.trans (r7.trans (r8.trans r9))).le (by omega)⟩
      obtain ⟨sn7, pc7, q7, hd7, r7⟩ := stop
      have r8 := r_mm2A (T := T) (st := st) (p := p) (fr := clF 75 p 1 :: fr) (w := w + 1) (li := li) (hd := hd7) (sn := sn7) (a0 := a0) (a1 := a1) (pc := pc7) (q := q7) (b0 := a0) (b1 := a1) (b2 := none) (b3 := none) (b4 := some p) (b5 := a5) (lm := 4) (li2 := li) (L := L) (by omega)
      exact ⟨_, _, [mtF 113 p 1 0 1 li, clF 75 p 1], _, _, _, pass_cons pass_mt (pass_cons pass_cl pass_nil), by simp, by omega, _, _, _, _, fun q => absurd q (by decide), (r7.trans r8).le (by omega)⟩
    · rw [if_neg h2]
      rw [← e5] at h2 ⊢
      obtain ⟨sn6, k6, hk6, r6⟩ := hnz h2
      have hks6 : k6.marks.size = 5 := by rw [hk6]; rfl
      generalize hc : cntA isDig T (T.size - (p + 1 + n5)) (p + 1 + n5) = c at *
      have r7 : Run 1 _ _ := Run.one rfl (s110 (T := T) (st := st) (p := p + 1 + n5 + c) (fr := gb 100 (p + 1 + n5 + c) c k6 :: gb 88 (p + 1 + n5) n5 k5 :: mmF 113 p 1 (k2 a0 a1 li) :: clF 75 p 1 :: fr) (w := w + 1 + 1 + 2 + 1 + k5.marks.size + 1 + k6.marks.size) (li := li) (hd := p + 1 + n5 + c) (sn := sn6) (a0 := a0) (a1 := a1) (a2 := none) (a3 := none) (a4 := some p) (a5 := a5)
        (lo := #[L, { pc := 75, count := 0, began := some p, outer := none }]) (inn := some 1))
      have r8 := s112b (T := T) (st := st) (p := p + 1 + n5 + c) (fr := gb 100 (p + 1 + n5 + c) c k6 :: gb 88 (p + 1 + n5) n5 k5 :: mmF 113 p 1 (k2 a0 a1 li) :: clF 75 p 1 :: fr) (w := w + 1 + 1 + 2 + 1 + k5.marks.size + 1 + k6.marks.size) (li := 3) (hd := p + 1 + n5 + c) (sn := sn6.add 17) (q := p) (ms := #[a0, a1, none, none, some p, some (p + 1 + n5 + c)]) (lm := 5) (L := L) (by omega)
      dsimp only
      rw [show p + (1 + n5 + c) = p + 1 + n5 + c by omega]
      exact ⟨_, _, [mtF 113 (p + 1 + n5 + c) 1 1 5 3, gb 100 (p + 1 + n5 + c) c k6, gb 88 (p + 1 + n5) n5 k5, mmF 113 p 1 (k2 a0 a1 li), clF 75 p 1], _, _, _, pass_cons pass_mt (pass_cons pass_gb (pass_cons pass_gb (pass_cons pass_mm (pass_cons pass_cl pass_nil)))), by simp, by omega, (r123.trans (r4.trans (r5.trans (r6.trans (r7.trans r8))))).le (by omega)⟩
  · rw [if_neg h1]
    obtain ⟨sn4, r4⟩ := hn h1
    have r8 := r_mm2A (T := T) (st := st) (p := p) (fr := clF 75 p 1 :: fr) (w := w + 1) (li := li) (hd := p) (sn := sn4) (a0 := a0) (a1 := a1) (pc := 81) (q := p) (b0 := a0) (b1 := a1) (b2 := none) (b3 := none) (b4 := some p) (b5 := a5) (lm := 4) (li2 := li) (L := L) (by omega)
    exact ⟨_, _, [mtF 113 p 1 0 1 li, clF 75 p 1], _, _, _, pass_cons pass_mt (pass_cons pass_cl pass_nil), by simp, by omega, _, _, _, _, fun q => absurd q (by decide), (r123.trans (r4.trans r8)).le (by omega)⟩

theorem s112aB (hw : w ≤ 1000) : Run 1 (em numC T st 112 p none fr w #[a0, a1, a2, a3, a4, a5] 3 li #[L, { pc := 75, outer := none }] (some 1) hd sn)
    (em numC T st 79 p none (mmF 113 p 1 (k4 a0 a1 a2 a3 li) :: fr) (w + 1 + 4) #[a0, a1, a2, a3, a4, a5] 3 li #[L, { pc := 75, count := 0, began := some p, outer := none }] (some 1) p (sn.add 18)) := by
  refine Run.one rfl ?_
  have e : (em numC T st 112 p none fr w #[a0, a1, a2, a3, a4, a5] 3 li #[L, { pc := 75, outer := none }] (some 1) hd sn).step =
      (em numC T st 113 p none fr w #[a0, a1, a2, a3, a4, a5] 3 li #[L, { pc := 75, count := 0, began := some p, outer := none }] (some 1) hd (sn.add 18)).attempt (mmF 113 p 1 (k4 a0 a1 a2 a3 li)) 79 p true := by kernel_rfl
  rw [e, attempt_ok (by show w + 1 + 4 ≤ 16777216; omega)]
  rfl
theorem s79B {lo : Array Loop} {inn : Option Nat} : (em numC T st 79 p none fr w #[a0, a1, a2, a3, a4, a5] 3 li lo inn hd sn).step = em numC T st 81 p none fr w #[a0, a1, a2, a3, some p, a5] 4 li lo inn hd (sn.add 17) := by kernel_rfl
theorem r_mm2B {pc q : Nat} {b0 b1 b2 b3 b4 b5 : Option Nat} {lm li2 : Int} (hw : w ≤ 1000) : Run 1 (em numC T st pc q (some false) (mmF 113 p 1 (k4 a0 a1 a2 a3 li) :: fr) (w + 1 + 4) #[b0, b1, b2, b3, b4, b5] lm li2 #[L, { pc := 75, count := 0, began := some p, outer := none }] (some 1) hd sn)
    (em numC T st 113 p none (mtF 113 p 1 0 3 li :: fr) (w + 1) #[a0, a1, a2, a3, b4, b5] 3 li #[L, { pc := 75, outer := none }] none p sn) := by
  refine Run.one rfl ?_
  have e : (em numC T st pc q (some false) (mmF 113 p 1 (k4 a0 a1 a2 a3 li) :: fr) (w + 1 + 4) #[b0, b1, b2, b3, b4, b5] lm li2 #[L, { pc := 75, count := 0, began := some p, outer := none }] (some 1) hd sn).step =
      (em numC T st 113 p none fr (w + 1 + 4 - 5) #[a0, a1, a2, a3, b4, b5] 3 li #[L, { pc := 75, outer := none }] none hd sn).attempt (mtF 113 p 1 0 3 li) 113 p true := by kernel_rfl
  rw [e, attempt_ok (by show w + 1 + 4 - 5 + 1 + 0 ≤ 16777216; omega)]
  have hw' : w + 1 + 4 - 5 = w := by omega
  rw [← hw']
  rfl

/-- the power: it stands, or it does not -/
theorem exp_runB (hasc : ∀ q, p ≤ q → T.getD q 0 < 128) (hsz : T.size ≤ mx) (hw : w ≤ 700) :
    ∃ sn' hd' fr' w' lo' li', (∀ f ∈ fr', Pass f) ∧ fr'.length ≤ 5 ∧ w' ≤ w + 30 ∧
      (match expT T p with
        | some n => Run 14 (em numC T st 75 p none fr w #[a0, a1, a2, a3, a4, a5] 3 li #[L] none hd sn) (em numC T st 113 (p + n) none (fr' ++ fr) w' #[a0, a1, a2, a3, some p, some (p + n)] 5 li' lo' none hd' sn')
        | none => ∃ b2 b3 b4 b5, (3 = (3 : Int) → b2 = a2 ∧ b3 = a3) ∧ Run 14 (em numC T st 75 p none fr w #[a0, a1, a2, a3, a4, a5] 3 li #[L] none hd sn) (em numC T st 113 p none (fr' ++ fr) w' #[a0, a1, b2, b3, b4, b5] 3 li' lo' none hd' sn')) := by
  have r1 := s75 (T := T) (st := st) (p := p) (fr := fr) (w := w) (ms := #[a0, a1, a2, a3, a4, a5]) (lm := 3) (li := li) (hd := hd) (sn := sn) (L := L) (by omega)
  have r2 := s112aB (T := T) (st := st) (p := p) (fr := clF 75 p 1 :: fr) (w := w + 1) (li := li) (hd := p) (sn := sn.add 23) (a0 := a0) (a1 := a1) (a2 := a2) (a3 := a3) (a4 := a4) (a5 := a5) (L := L) (by omega)
  have r3 : Run 1 _ _ := Run.one rfl (s79B (T := T) (st := st) (p := p) (fr := mmF 113 p 1 (k4 a0 a1 a2 a3 li) :: clF 75 p 1 :: fr) (w := w + 1 + 1 + 4) (li := li) (hd := p) (sn := (sn.add 23).add 18) (a0 := a0) (a1 := a1) (a2 := a2) (a3 := a3) (a4 := a4) (a5 := a5)
    (lo := #[L, { pc := 75, count := 0, began := some p, outer := none }]) (inn := some 1))
  have r123 := r1.trans (r2.trans r3)
  obtain ⟨hy, hn⟩ := t_one (T := T) (st := st) (p := p) (fr := mmF 113 p 1 (k4 a0 a1 a2 a3 li) :: clF 75 p 1 :: fr) (w := w + 1 + 1 + 4) (ms := #[a0, a1, a2, a3, some p, a5]) (lm := 4) (li := li) (lo := #[L, { pc := 75, count := 0, began := some p, outer := none }]) (inn := some 1) (hd := p)
    (sn := ((sn.add 23).add 18).add 17) (pc := 81) (t := 88) (P := fun c => c == 101 || c == 69) (by omega) (.inr rfl) rfl (fun sn => acc_two 81 101 69 (.inl ⟨rfl, rfl, rfl⟩) _ sn)
  unfold expT
  by_cases h1 : p < T.size ∧ (T.getD p 0 == 101 || T.getD p 0 == 69) = true
  · rw [if_pos h1]
    obtain ⟨sn4, r4⟩ := hy h1
    obtain ⟨sn5, n5, k5, e5, ek5, r5⟩ := t_rep (T := T) (st := st) (p := p + 1) (fr := mmF 113 p 1 (k4 a0 a1 a2 a3 li) :: clF 75 p 1 :: fr) (w := w + 1 + 1 + 4) (ms := #[a0, a1, a2, a3, some p, a5]) (lm := 4) (li := li) (lo := #[L, { pc := 75, count := 0, began := some p, outer := none }]) (inn := some 1) (hd := p)
      (sn := sn4) (pc := 88) (t := 100) (i := 92) (mxm := 1) (P := fun c => c == 45 || c == 43) (by omega) rfl rfl rfl rfl rfl (fun q _ sn => acc_two 92 45 43 (.inr ⟨rfl, rfl, rfl⟩) _ sn) (by omega) (by omega) (.inr (by show 6 ≤ 1000; omega))
    have e5 : n5 = expS T (p + 1) := e5
    have hk5 : k5 = ({ lastmark := 4, lastindex := li, whole := true, marks := #[a0, a1, a2, a3, some p] } : Sre.Kept) := ek5
    have hks5 : k5.marks.size = 5 := by rw [hk5]; rfl
    have hle : n5 ≤ 1 := by rw [e5]; rcases expS_cases T (p + 1) with h | ⟨h, _⟩ <;> omega
    have hpl : p + 1 + n5 ≤ T.size := by
      rw [e5]; rcases expS_cases T (p + 1) with h | ⟨h, h', _⟩ <;> omega
    obtain ⟨hz, hnz⟩ := t_some (T := T) (st := st) (p := p + 1 + n5) (fr := gb 88 (p + 1 + n5) n5 k5 :: mmF 113 p 1 (k4 a0 a1 a2 a3 li) :: clF 75 p 1 :: fr) (w := w + 1 + 1 + 4 + 1 + k5.marks.size) (ms := #[a0, a1, a2, a3, some p, a5]) (lm := 4) (li := li) (lo := #[L, { pc := 75, count := 0, began := some p, outer := none }]) (inn := some 1) (hd := p + 1 + n5)
      (sn := sn5) (pc := 100) (t := 110) (i := 104) (P := isDig) (by omega) rfl rfl rfl rfl rfl (fun q hq sn => acc_dig _ (hasc q (by omega)) 104 (.inr (.inr rfl)) sn) hsz hpl (by omega) (.inr (by show 6 ≤ 1000; omega))
    by_cases h2 : cntA isDig T (T.size - (p + 1 + expS T (p + 1))) (p + 1 + expS T (p + 1)) = 0
    · rw [if_pos h2]
      rw [← e5] at h2
      obtain ⟨sn6, r6⟩ := hz h2
      have r6a := r123.trans (r4.trans (r5.trans r6))
      -- the sign is given back, in vain
      have hback : back k5 #[a0, a1, a2, a3, some p, a5] = #[a0, a1, a2, a3, some p, a5] := by rw [hk5]; rfl
      have hkl : k5.lastmark = 4 ∧ k5.lastindex = li := by rw [hk5]; exact ⟨rfl, rfl⟩
      have stop : ∃ sn7 pc7 q7 hd7, Run 10 (em numC T st 75 p none fr w #[a0, a1, a2, a3, a4, a5] 3 li #[L] none hd sn)
          (em numC T st pc7 q7 (some false) (mmF 113 p 1 (k4 a0 a1 a2 a3 li) :: clF 75 p 1 :: fr) (w + 1 + 1 + 4) #[a0, a1, a2, a3, some p, a5] 4 li #[L, { pc := 75, count := 0, began := some p, outer := none }] (some 1) hd7 sn7) := by
        rcases (by omega : n5 = 0 ∨ n5 = 1) with h0 | h0
        · have r7 := r_gb_stop (T := T) (st := st) (fr := mmF 113 p 1 (k4 a0 a1 a2 a3 li) :: clF 75 p 1 :: fr) (w := w + 1 + 1 + 4) (ms := #[a0, a1, a2, a3, some p, a5]) (lm := 4) (li := li) (lo := #[L, { pc := 75, count := 0, began := some p, outer := none }]) (inn := some 1) (hd := p + 1 + n5) (sn := sn6) (pc := 100) (p := p + 1 + n5) (pc0 := 88) (pos0 := p + 1 + n5) (n := ((n5 : Nat) : Int)) (k := k5)
            (by rw [h0]; show (((0 : Nat) : Int) - 1 < ((0 : Nat) : Int)); omega)
          rw [hback, hkl.1, hkl.2] at r7
          exact ⟨_, _, _, _, (r6a.trans r7).le (by omega)⟩
        · have r7 := r_gb_more (T := T) (st := st) (fr := mmF 113 p 1 (k4 a0 a1 a2 a3 li) :: clF 75 p 1 :: fr) (w := w + 1 + 1 + 4) (ms := #[a0, a1, a2, a3, some p, a5]) (lm := 4) (li := li) (lo := #[L, { pc := 75, count := 0, began := some p, outer := none }]) (inn := some 1) (hd := p + 1 + n5) (sn := sn6) (pc := 100) (p := p + 1 + n5) (pc0 := 88) (pos0 := p + 1 + n5) (t := 100) (n := ((n5 : Nat) : Int)) (k := k5)
            (by rw [h0]; show ¬ (((1 : Nat) : Int) - 1 < ((0 : Nat) : Int)); omega) rfl (by omega) (by omega)
          rw [hback, hkl.1, hkl.2, show p + 1 + n5 - 1 = p + 1 by omega] at r7
          have hsg : cntA isDig T (T.size - (p + 1)) (p + 1) = 0 := by
            rcases expS_cases T (p + 1) with h | ⟨_, h3, h4⟩
            · omega
            · rw [show T.size - (p + 1) = (T.size - (p + 1) - 1) + 1 by omega]
              unfold cntA
              rw [if_neg]
              intro hdg
              unfold isDig at hdg
              simp only [Bool.or_eq_true, beq_iff_eq] at h4
              simp only [Bool.and_eq_true, decide_eq_true_eq] at hdg
              omega
          obtain ⟨sn8, r8⟩ := (t_some (T := T) (st := st) (p := p + 1) (fr := gb 88 (p + 1) (((n5 : Nat) : Int) - 1) k5 :: mmF 113 p 1 (k4 a0 a1 a2 a3 li) :: clF 75 p 1 :: fr) (w := w + 1 + 1 + 4 + 1 + k5.marks.size) (ms := #[a0, a1, a2, a3, some p, a5]) (lm := 4) (li := li) (lo := #[L, { pc := 75, count := 0, began := some p, outer := none }]) (inn := some 1) (hd := p + 1)
            (sn := sn6) (pc := 100) (t := 110) (i := 104) (P := isDig) (by omega) rfl rfl rfl rfl rfl (fun q hq sn => acc_dig _ (hasc q (by omega)) 104 (.inr (.inr rfl)) sn) hsz (by omega) (by omega) (.inr (by show 6 ≤ 1000; omega))).1 hsg
          have r9 := r_gb_stop (T := T) (st := st) (fr := mmF 113 p 1 (k4 a0 a1 a2 a3 li) :: clF 75 p 1 :: fr) (w := w + 1 + 1 + 4) (ms := #[a0, a1, a2, a3, some p, a5]) (lm := 4) (li := li) (lo := #[L, { pc := 75, count := 0, began := some p, outer := none }]) (inn := some 1) (hd := p + 1) (sn := sn8) (pc := 100) (p := p + 1) (pc0 := 88) (pos0 := p + 1) (n := ((n5 : Nat) : Int) - 1) (k := k5)
            (by rw [h0]; show (((1 : Nat) : Int) - 1 - 1 < ((0 : Nat) : Int)); omega)
          rw [hback, hkl.1, hkl.2] at r9
          exact ⟨_, _, _, _, (r6a.trans (r7.trans (r8.trans r9))).le (by omega)⟩
      obtain ⟨sn7, pc7, q7, hd7, r7⟩ := stop
      have r8 := r_mm2B (T := T) (st := st) (p := p) (fr := clF 75 p 1 :: fr) (w := w + 1) (li := li) (hd := hd7) (sn := sn7) (a0 := a0) (a1 := a1) (a2 := a2) (a3 := a3) (pc := pc7) (q := q7) (b0 := a0) (b1 := a1) (b2 := a2) (b3 := a3) (b4 := some p) (b5 := a5) (lm := 4) (li2 := li) (L := L) (by omega)
      exact ⟨_, _, [mtF 113 p 1 0 3 li, clF 75 p 1], _, _, _, pass_cons pass_mt (pass_cons pass_cl pass_nil), by simp, by omega, _, _, _, _, fun _ => ⟨rfl, rfl⟩, (r7.trans r8).le (by omega)⟩
    · rw [if_neg h2]
      rw [← e5] at h2 ⊢
      obtain ⟨sn6, k6, hk6, r6⟩ := hnz h2
      have hks6 : k6.marks.size = 5 := by rw [hk6]; rfl
      generalize hc : cntA isDig T (T.size - (p + 1 + n5)) (p + 1 + n5) = c at *
      have r7 : Run 1 _ _ := Run.one rfl (s110 (T := T) (st := st) (p := p + 1 + n5 + c) (fr := gb 100 (p + 1 + n5 + c) c k6 :: gb 88 (p + 1 + n5) n5 k5 :: mmF 113 p 1 (k4 a0 a1 a2 a3 li) :: clF 75 p 1 :: fr) (w := w + 1 + 1 + 4 + 1 + k5.marks.size + 1 + k6.marks.size) (li := li) (hd := p + 1 + n5 + c) (sn := sn6) (a0 := a0) (a1 := a1) (a2 := a2) (a3 := a3) (a4 := some p) (a5 := a5)
        (lo := #[L, { pc := 75, count := 0, began := some p, outer := none }]) (inn := some 1))
      have r8 := s112b (T := T) (st := st) (p := p + 1 + n5 + c) (fr := gb 100 (p + 1 + n5 + c) c k6 :: gb 88 (p + 1 + n5) n5 k5 :: mmF 113 p 1 (k4 a0 a1 a2 a3 li) :: clF 75 p 1 :: fr) (w := w + 1 + 1 + 4 + 1 + k5.marks.size + 1 + k6.marks.size) (li := 3) (hd := p + 1 + n5 + c) (sn := sn6.add 17) (q := p) (ms := #[a0, a1, a2, a3, some p, some (p + 1 + n5 + c)]) (lm := 5) (L := L) (by omega)
      dsimp only
      rw [show p + (1 + n5 + c) = p + 1 + n5 + c by omega]
      exact ⟨_, _, [mtF 113 (p + 1 + n5 + c) 1 1 5 3, gb 100 (p + 1 + n5 + c) c k6, gb 88 (p + 1 + n5) n5 k5, mmF 113 p 1 (k4 a0 a1 a2 a3 li), clF 75 p 1], _, _, _, pass_cons pass_mt (pass_cons pass_gb (pass_cons pass_gb (pass_cons pass_mm (pass_cons pass_cl pass_nil)))), by simp, by omega, (r123.trans (r4.trans (r5.trans (r6.trans (r7.trans r8))))).le (by omega)⟩
  · rw [if_neg h1]
    obtain ⟨sn4, r4⟩ := hn h1
    have r8 := r_mm2B (T := T) (st := st) (p := p) (fr := clF 75 p 1 :: fr) (w := w + 1) (li := li) (hd := p) (sn := sn4) (a0 := a0) (a1 := a1) (a2 := a2) (a3 := a3) (pc := 81) (q := p) (b0 := a0) (b1 := a1) (b2 := a2) (b3 := a3) (b4 := some p) (b5 := a5) (lm := 4) (li2 := li) (L := L) (by omega)
    exact ⟨_, _, [mtF 113 p 1 0 3 li, clF 75 p 1], _, _, _, pass_cons pass_mt (pass_cons pass_cl pass_nil), by simp, by omega, _, _, _, _, fun _ => ⟨rfl, rfl⟩, (r123.trans (r4.trans r8)).le (by omega)⟩
end
end Mine

end
section
open PySem PySem.Sre
set_option autoImplicit false
namespace Mine
/-- the span of a group, as the match reads it -/
def spanOf (m : M) (g : Nat) : Option (Nat × Nat) :=
  match (if ((2 * g + 1 : Nat) : Int) ≤ m.lastmark then (m.marks.getD (2 * g) none, m.marks.getD (2 * g + 1) none) else (none, none) : Option Nat × Option Nat) with
  | (some b, some e) => some (b, e)
  | _ => none


section
variable {T : Array Nat} {st p : Nat} {fr : List Sre.Frame} {w : Nat} {ms : Array (Option Nat)} {lm li : Int} {lo : Array Loop} {hd : Nat} {sn : Seen}

theorem cnt_le (P : Nat → Bool) (T : Array Nat) (p : Nat) (hp : p ≤ T.size) : p + cntA P T (T.size - p) p ≤ T.size := by have := cntA_le P T (T.size - p) p; omega
theorem cntA_at {P : Nat → Bool} {T : Array Nat} : ∀ (n p j : Nat), p ≤ j → j < p + cntA P T n p → P (T.getD j 0) = true
  | 0, p, j, h1, h2 => by unfold cntA at h2; omega
  | n + 1, p, j, h1, h2 => by
    unfold cntA at h2
    split at h2
    · rename_i h
      by_cases e : j = p
      · subst e; exact h
      · exact cntA_at n (p + 1) j (by omega) (by omega)
    · omega
theorem natT_le {T : Array Nat} {p n : Nat} (h : natT T p = some n) : p + n ≤ T.size := by
  unfold natT at h
  split at h
  · rename_i h1; cases h; omega
  · split at h
    · rename_i h2; cases h; have := cntA_le isDig T (T.size - (p + 1)) (p + 1); omega
    · cases h
theorem intT_le {T : Array Nat} {p n : Nat} (h : intT T p = some n) : p + n ≤ T.size := by
  obtain ⟨m, hm, rfl⟩ := Option.map_eq_some_iff.mp h
  have := natT_le hm; omega
theorem fracT_le {T : Array Nat} {p n : Nat} (h : fracT T p = some n) : p + n ≤ T.size := by
  unfold fracT at h
  split at h
  · rename_i h1
    split at h
    · cases h
    · cases h; have := cntA_le isDig T (T.size - (p + 1)) (p + 1); omega
  · cases h
theorem expT_le {T : Array Nat} {p n : Nat} (h : expT T p = some n) : p + n ≤ T.size := by
  unfold expT at h
  split at h
  · rename_i h1
    split at h
    · cases h
    · rename_i h2
      cases h
      have := cntA_le isDig T (T.size - (p + 1 + expS T (p + 1))) (p + 1 + expS T (p + 1)); omega
  · cases h

/-- from the last blanks on -/
theorem end_run (hsz : T.size ≤ mx) (hp : p ≤ T.size) (hw : w ≤ 1000) (hf : ∀ f ∈ fr, Pass f) (hl : fr.length ≤ 40) :
    ∃ m', Run 50 (em numC T st 113 p none fr w ms lm li lo none hd sn) m' ∧ m'.outcome = some .matched ∧ m'.handed = p + cntA isBl T (T.size - p) p ∧ m'.marks = ms ∧ m'.lastmark = lm ∧ m'.start = st := by
  obtain ⟨sn1, k, hk, r1⟩ := t_blk (T := T) (st := st) (p := p) (fr := fr) (w := w) (ms := ms) (lm := lm) (li := li) (lo := lo) (hd := hd) (sn := sn) (.inr rfl) hsz hp hw
  generalize hc : cntA isBl T (T.size - p) p = c at *
  have r2 : Run 1 (em numC T st 125 (p + c) none (gb 113 (p + c) c k :: fr) (w + 1) ms lm li lo none (p + c) sn1) (em numC T st 125 (p + c) (some true) (gb 113 (p + c) c k :: fr) (w + 1) ms lm li lo none (p + c) (sn1.add 1)) := Run.one rfl (by kernel_rfl)
  obtain ⟨m', r3, h1, h2, h3, h4, h5⟩ := unwind (gb 113 (p + c) c k :: fr) (em numC T st 125 (p + c) (some true) (gb 113 (p + c) c k :: fr) (w + 1) ms lm li lo none (p + c) (sn1.add 1)) (pass_cons pass_gb hf) rfl rfl rfl
  exact ⟨m', (r1.trans (r2.trans r3)).le (by simp; omega), h1, h2, h3, h4, h5⟩

theorem num_run {pos : Nat} (hpos : pos ≤ T.size) (hsz : T.size ≤ mx) (hasc : ∀ q, pos ≤ q → T.getD q 0 < 128) :
    ∃ m', Run (22 * T.size + 200) (Sre.forMatch numC T 3 pos T.size false false) m' ∧
      (match numT T pos with
        | some sp => m'.outcome = some .matched ∧ some (m'.start, m'.handed) :: (List.range 3).map (spanOf m') = sp
        | none => m'.outcome = some .failed) := by
  by_cases hlt : pos < T.size
  · have e0 : Sre.forMatch numC T 3 pos T.size false false = em numC T pos 5 pos none [] 0 #[none, none, none, none, none, none] (-1) (-1) #[] none pos (({} : Seen).add 14) := by
      unfold Sre.forMatch
      have hh : Sre.header numC = (1, 5) := rfl
      rw [hh]
      dsimp only
      have hc : ((1 : Nat) != 0 && decide (pos ≤ T.size) && decide (T.size - pos < 1)) = false := by
        have : decide (T.size - pos < 1) = false := decide_eq_false (by omega)
        rw [this, Bool.and_false]
      rw [hc]
      rfl
    rw [e0]
    obtain ⟨sn1, k, hk, r1⟩ := t_blk (T := T) (st := pos) (p := pos) (fr := []) (w := 0) (ms := #[none, none, none, none, none, none]) (lm := -1) (li := -1) (lo := #[]) (hd := pos) (sn := ({} : Seen).add 14) (.inl rfl) hsz hpos (by omega)
    have hal := cnt_le isBl T pos hpos
    have hnumT : numT T pos = match intT T (pos + blT T pos) with
      | none => none
      | some n => some (numFin T pos (pos + blT T pos) (pos + blT T pos + n) (fracT T (pos + blT T pos + n)) (expT T (pos + blT T pos + n + (fracT T (pos + blT T pos + n)).getD 0))) := rfl
    rw [hnumT]
    unfold blT
    generalize ha : cntA isBl T (T.size - pos) pos = a at *
    cases hi : intT T (pos + a) with
    | none =>
      obtain ⟨sn2, pc2, p2, hd2, ms2, lm2, li2, r2⟩ := s17_no (T := T) (st := pos) (p := pos + a) (fr := [gb 5 (pos + a) a k]) (w := 0 + 1) (ms := #[none, none, none, none, none, none]) (li := -1) (lo := #[]) (hd := pos + a) (sn := sn1) hal (by omega) hi
      obtain ⟨m', r3, ho⟩ := blanks_back (T := T) (st := pos) (lo := #[]) a (pos + a) (pc := pc2) (q := p2) (ms := ms2) (lm := lm2) (li := li2) (hd := hd2) (sn := sn2) (k := k) (by rw [hk]) (by rw [hk]) (by rw [hk]) hal (by omega) (fun j h1 h2 => by
        have hb := cntA_at (P := isBl) (T := T) (T.size - pos) pos j (by omega) (by rw [ha]; omega)
        have hne : T.getD j 0 = 9 ∨ T.getD j 0 = 32 := by simpa [isBl] using hb
        unfold intT
        have hs : sgnT T j = 0 := by
          rcases sgnT_cases T j with ⟨h, _⟩ | ⟨_, _, h⟩
          · exact h
          · omega
        rw [hs, Nat.add_zero]
        have : natT T j = none := by
          unfold natT
          rw [if_neg (by rintro ⟨_, h⟩; omega), if_neg (by
            rintro ⟨_, h⟩
            simp only [Bool.and_eq_true, decide_eq_true_eq] at h
            omega)]
        rw [this]; rfl)
      exact ⟨m', (r1.trans (r2.trans r3)).le (by omega), ho⟩
    | some n =>
      obtain ⟨sn2, hd2, fr2, w2, f1, f2, f3, r2⟩ := s17_yes (T := T) (st := pos) (p := pos + a) (fr := [gb 5 (pos + a) a k]) (w := 0 + 1) (ms := #[none, none, none, none, none, none]) (li := -1) (lo := #[]) (hd := pos + a) (sn := sn1) (fun q hq => hasc q (by omega)) hsz hal (by omega) hi
      have hil := intT_le hi
      dsimp only
      obtain ⟨sn3, hd3, fr3, w3, L, li3, g1, g2, g3, r3⟩ := frac_run (T := T) (st := pos) (p := pos + a + n) (fr := fr2 ++ [gb 5 (pos + a) a k]) (w := w2) (li := 1) (hd := hd2) (sn := sn2) (a0 := some (pos + a)) (a1 := some (pos + a + n)) (a2 := none) (a3 := none) (a4 := none) (a5 := none) (fun q hq => hasc q (by omega)) hsz (by omega)
      have hpass3 : ∀ f ∈ fr3 ++ (fr2 ++ [gb 5 (pos + a) a k]), Pass f := by
        intro f hf
        rcases List.mem_append.mp hf with h | h
        · exact g1 f h
        · rcases List.mem_append.mp h with h | h
          · exact f1 f h
          · rw [List.mem_singleton.mp h]; exact pass_gb
      have hlen3 : (fr3 ++ (fr2 ++ [gb 5 (pos + a) a k])).length ≤ 10 := by simp; omega
      generalize hfr : fr3 ++ (fr2 ++ [gb 5 (pos + a) a k]) = frs at *
      cases hfc : fracT T (pos + a + n) with
      | some nf =>
        rw [hfc] at r3
        dsimp only at r3
        have hfl := fracT_le hfc
        obtain ⟨sn4, hd4, fr4, w4, lo4, li4, k1, k2', k3, r4⟩ := exp_runB (T := T) (st := pos) (p := pos + a + n + nf) (fr := frs) (w := w3) (li := li3) (hd := hd3) (sn := sn3) (a0 := some (pos + a)) (a1 := some (pos + a + n)) (a2 := some (pos + a + n)) (a3 := some (pos + a + n + nf)) (a4 := none) (a5 := none) (L := L) (fun q hq => hasc q (by omega)) hsz (by omega)
        have hpass4 : ∀ f ∈ fr4 ++ frs, Pass f := fun f hf => (List.mem_append.mp hf).elim (k1 f) (hpass3 f)
        cases hex : expT T (pos + a + n + nf) with
        | some ne =>
          rw [hex] at r4
          dsimp only at r4
          have hel := expT_le hex
          obtain ⟨m', r5, h1, h2, h3, h4, h5⟩ := end_run (T := T) (st := pos) (p := pos + a + n + nf + ne) (fr := fr4 ++ frs) (w := w4) (ms := #[some (pos + a), some (pos + a + n), some (pos + a + n), some (pos + a + n + nf), some (pos + a + n + nf), some (pos + a + n + nf + ne)]) (lm := 5) (li := li4) (lo := lo4) (hd := hd4) (sn := sn4) hsz hel (by omega) hpass4 (by simp; omega)
          refine ⟨m', (r1.trans (r2.trans (r3.trans (r4.trans r5)))).le (by omega), ?_⟩
          rw [show (some nf).getD 0 = nf from rfl, hex]
          refine ⟨h1, ?_⟩
          have hs : ∀ g, spanOf m' g = spanOf (em numC T pos 0 0 none [] 0 #[some (pos + a), some (pos + a + n), some (pos + a + n), some (pos + a + n + nf), some (pos + a + n + nf), some (pos + a + n + nf + ne)] 5 0 #[] none 0 {}) g := fun g => by unfold spanOf; rw [h3, h4]; rfl
          rw [show (List.range 3).map (spanOf m') = [spanOf m' 0, spanOf m' 1, spanOf m' 2] from rfl, hs, hs, hs, h2, h5]
          rfl
        | none =>
          rw [hex] at r4
          obtain ⟨b2, b3, b4, b5, hb, r4⟩ := r4
          obtain ⟨rfl, rfl⟩ := hb rfl
          obtain ⟨m', r5, h1, h2, h3, h4, h5⟩ := end_run (T := T) (st := pos) (p := pos + a + n + nf) (fr := fr4 ++ frs) (w := w4) (ms := #[some (pos + a), some (pos + a + n), some (pos + a + n), some (pos + a + n + nf), b4, b5]) (lm := 3) (li := li4) (lo := lo4) (hd := hd4) (sn := sn4) hsz hfl (by omega) hpass4 (by simp; omega)
          refine ⟨m', (r1.trans (r2.trans (r3.trans (r4.trans r5)))).le (by omega), ?_⟩
          rw [show (some nf).getD 0 = nf from rfl, hex]
          refine ⟨h1, ?_⟩
          have hs : ∀ g, spanOf m' g = spanOf (em numC T pos 0 0 none [] 0 #[some (pos + a), some (pos + a + n), some (pos + a + n), some (pos + a + n + nf), b4, b5] 3 0 #[] none 0 {}) g := fun g => by unfold spanOf; rw [h3, h4]; rfl
          rw [show (List.range 3).map (spanOf m') = [spanOf m' 0, spanOf m' 1, spanOf m' 2] from rfl, hs, hs, hs, h2, h5]
          rfl
      | none =>
        rw [hfc] at r3
        obtain ⟨b2, b3, r3⟩ := r3
        obtain ⟨sn4, hd4, fr4, w4, lo4, li4, k1, k2', k3, r4⟩ := exp_runA (T := T) (st := pos) (p := pos + a + n) (fr := frs) (w := w3) (li := li3) (hd := hd3) (sn := sn3) (a0 := some (pos + a)) (a1 := some (pos + a + n)) (a2 := b2) (a3 := b3) (a4 := none) (a5 := none) (L := L) (fun q hq => hasc q (by omega)) hsz (by omega)
        have hpass4 : ∀ f ∈ fr4 ++ frs, Pass f := fun f hf => (List.mem_append.mp hf).elim (k1 f) (hpass3 f)
        rw [show pos + a + n + (none : Option Nat).getD 0 = pos + a + n from rfl]
        cases hex : expT T (pos + a + n) with
        | some ne =>
          rw [hex] at r4
          dsimp only at r4
          have hel := expT_le hex
          obtain ⟨m', r5, h1, h2, h3, h4, h5⟩ := end_run (T := T) (st := pos) (p := pos + a + n + ne) (fr := fr4 ++ frs) (w := w4) (ms := #[some (pos + a), some (pos + a + n), none, none, some (pos + a + n), some (pos + a + n + ne)]) (lm := 5) (li := li4) (lo := lo4) (hd := hd4) (sn := sn4) hsz hel (by omega) hpass4 (by simp; omega)
          refine ⟨m', (r1.trans (r2.trans (r3.trans (r4.trans r5)))).le (by omega), ?_⟩
          refine ⟨h1, ?_⟩
          have hs : ∀ g, spanOf m' g = spanOf (em numC T pos 0 0 none [] 0 #[some (pos + a), some (pos + a + n), none, none, some (pos + a + n), some (pos + a + n + ne)] 5 0 #[] none 0 {}) g := fun g => by unfold spanOf; rw [h3, h4]; rfl
          rw [show (List.range 3).map (spanOf m') = [spanOf m' 0, spanOf m' 1, spanOf m' 2] from rfl, hs, hs, hs, h2, h5]
          rfl
        | none =>
          rw [hex] at r4
          obtain ⟨c2, c3, c4, c5, hb, r4⟩ := r4
          obtain ⟨m', r5, h1, h2, h3, h4, h5⟩ := end_run (T := T) (st := pos) (p := pos + a + n) (fr := fr4 ++ frs) (w := w4) (ms := #[some (pos + a), some (pos + a + n), c2, c3, c4, c5]) (lm := 1) (li := li4) (lo := lo4) (hd := hd4) (sn := sn4) hsz hil (by omega) hpass4 (by simp; omega)
          refine ⟨m', (r1.trans (r2.trans (r3.trans (r4.trans r5)))).le (by omega), ?_⟩
          refine ⟨h1, ?_⟩
          have hs : ∀ g, spanOf m' g = spanOf (em numC T pos 0 0 none [] 0 #[some (pos + a), some (pos + a + n), c2, c3, c4, c5] 1 0 #[] none 0 {}) g := fun g => by unfold spanOf; rw [h3, h4]; rfl
          rw [show (List.range 3).map (spanOf m') = [spanOf m' 0, spanOf m' 1, spanOf m' 2] from rfl, hs, hs, hs, h2, h5]
          rfl
  · have hp : pos = T.size := by omega
    subst hp
    have e0 : ∃ m0 : M, Sre.forMatch numC T 3 T.size T.size false false = m0 ∧ m0.outcome = none ∧ m0.answer = some false ∧ m0.frames = [] := by
      refine ⟨_, rfl, ?_⟩
      unfold Sre.forMatch
      have hh : Sre.header numC = (1, 5) := rfl
      rw [hh]
      dsimp only
      have hc : ((1 : Nat) != 0 && decide (T.size ≤ T.size) && decide (T.size - T.size < 1)) = true := by simp
      rw [hc]
      exact ⟨rfl, rfl, rfl⟩
    obtain ⟨m0, e1, e2, e3, e4⟩ := e0
    rw [e1]
    refine ⟨{ m0 with outcome := some .failed }, (Run.one e2 ?_).le (by omega), ?_⟩
    · unfold M.step
      rw [e2, e3, e4]; rfl
    · have : numT T T.size = none := by
        have h0 : blT T T.size = 0 := by unfold blT; rw [Nat.sub_self]; rfl
        unfold numT intT
        have h1 : sgnT T T.size = 0 := by unfold sgnT; rw [Nat.sub_self, Nat.min_zero]; rfl
        rw [h0, Nat.add_zero, h1, Nat.add_zero]
        have h2 : natT T T.size = none := by
          unfold natT
          rw [if_neg (by rintro ⟨h, _⟩; omega), if_neg (by rintro ⟨h, _⟩; omega)]
        rw [h2]; rfl
      rw [this]
end
end Mine

end
section
open PySem PySem.W PySem.Calls PyProof.Rows
set_option autoImplicit false
namespace Mine

/-- objects that nothing in the runs changes -/
def frozen (o : Obj) : Bool := match o.data with
  | .seq .. => o.cls == .type "tuple"
  | .fields _ => o.cls == .type "range" || o.cls == .type "builtin_function_or_method" || o.cls == .type "re.Match" || o.cls == .type "code" || o.cls == .type "re.Pattern"
  | .func _ => true
  | _ => false

/-- the world that stands still -/
structure Gx where
  prog : Program
  w : World
  T : Tp
  base : Heap
  tabs : List (Addr × Addr)
  addr : Str → Option Addr
  gens : Array GenState
  os : OsState
  frag : Frag
  tqual : Addr → Str

abbrev Rho := List (Addr × Addr)
def own (ρ : Rho) (a : Addr) : Prop := ∃ p, p ∈ ρ ∧ (a = p.1 ∨ a = p.2)

inductive CellsR (ρ : Rho) : List (Str × Nat) → List (Str × Addr) → Prop
  | nil : CellsR ρ [] []
  | cons {x : Str} {i : Nat} {p : Addr × Addr} {r : List (Str × Nat)} {r' : List (Str × Addr)} : ρ[i]? = some p → CellsR ρ r r' → CellsR ρ ((x, i) :: r) ((x, p.1) :: r')

def spanI : Option (Nat × Nat) → List Value
  | some (a, b) => [rawInt a, rawInt b]
  | none => [rawInt (-1), rawInt (-1)]

/-- a value of ours and one of the model's -/
inductive VR (G : Gx) (ρ : Rho) (h : Heap) : V → Value → Prop
  | none : VR G ρ h .none .none
  | bool (b : Bool) : VR G ρ h (.bool b) (.bool b)
  | int (i : Int) (t : Tok) : VR G ρ h (.int i) (.int i t)
  | str (l : List Nat) (t : Tok) (hl : l.length ≤ big) : VR G ρ h (.str l) (.str ⟨l.toArray⟩ t)
  | tup {vs : List V} {a : Addr} {o : Obj} {items : List Value} {n : Nat} : h.get? a = some o → o.cls = .type "tuple" → o.data = .seq items.toArray n → vs.length = items.length →
      (∀ (i : Nat) (v : V) (v' : Value), vs[i]? = some v → items[i]? = some v' → VR G ρ h v v') → vs.length ≤ big → VR G ρ h (.tup vs) (.ref a)
  | obj {i : Nat} {p : Addr × Addr} : ρ[i]? = some p → VR G ρ h (.obj i) (.ref p.1)
  | bi (id : String) : VR G ρ h (.st (.builtin id)) (.builtin id)
  | ty (n : String) : VR G ρ h (.st (.type n)) (.type n)
  | glo {x : Str} {a : Addr} : G.addr x = some a → VR G ρ h (.glo x) (.ref a)
  | rng {n : Int} {a : Addr} {t u v : Tok} : IsRange h a 0 n 1 t u v → VR G ρ h (.rng n) (.ref a)
  | clo {ps : Arguments} {body : S} {sc : Scope} {cells : List (Str × Nat)} {a : Addr} {o : Obj} {name qual : Str} {cl : List (Str × Addr)} {doc pm cdv ct : Value} :
      h.get? a = some o → o.cls = .type "function" → o.data = .func (fnX name qual ps (upS body).l sc cl .none .none doc pm none cdv ct) → CellsR ρ cells cl → h.CodeRec cdv qual →
      (∀ c, cdv = .ref c → ∃ oc, h.get? c = some oc ∧ frozen oc = true) → VR G ρ h (.clo ps body sc cells) (.ref a)
  | bm {id : String} {i : Nat} {p : Addr × Addr} {a : Addr} {o : Obj} : ρ[i]? = some p → h.get? a = some o → o.cls = .type "builtin_function_or_method" → o.dict = none → o.data = .fields #[.builtin id, .ref p.1] →
      VR G ρ h (.bm id i) (.ref a)
  | mat {l : List Nat} {sp : List (Option (Nat × Nat))} {a b : Addr} {o ob : Obj} {t : Tok} {x2 x3 x4 pat : Value} {n : Nat} : h.get? a = some o → o.cls = .type "re.Match" → o.dict = none →
      o.data = .fields #[.str ⟨l.toArray⟩ t, pat, x2, x3, x4, .ref b] → h.get? b = some ob → ob.cls = .type "tuple" → ob.data = .seq (sp.flatMap spanI).toArray n →
      (∀ s ∈ sp, ∀ q, s = some q → q.1 ≤ q.2 ∧ q.2 ≤ l.length) → l.length ≤ big → sp.length ≤ 100 → VR G ρ h (.mat l sp) (.ref a)

def VRs (G : Gx) (ρ : Rho) (h : Heap) (vs : List V) (ws : List Value) : Prop := vs.length = ws.length ∧ ∀ (i : Nat) (v : V) (v' : Value), vs[i]? = some v → ws[i]? = some v' → VR G ρ h v v'

variable {G : Gx} {ρ : Rho} {h : Heap} {v : V} {w : Value} {vs xs : List V} {ws ys : List Value} {i : Nat}
theorem VRs.nil : VRs G ρ h [] [] := ⟨rfl, fun i v v' e => by simp at e⟩
theorem VRs.cons (a : VR G ρ h v w) (b : VRs G ρ h vs ws) : VRs G ρ h (v :: vs) (w :: ws) := by
  refine ⟨by simp [b.1], fun i x y e e' => ?_⟩
  cases i with
  | zero => simp at e e'; subst e e'; exact a
  | succ i => exact b.2 i x y (by simpa using e) (by simpa using e')
theorem VRs.cons_inv (a : VRs G ρ h (v :: vs) ws) : ∃ (w : Value) (ws' : List Value), ws = w :: ws' ∧ VR G ρ h v w ∧ VRs G ρ h vs ws' := by
  cases ws with
  | nil => have := a.1; simp at this
  | cons w ws' => exact ⟨w, ws', rfl, a.2 0 v w rfl rfl, by have := a.1; simpa using this, fun i x y e e' => a.2 (i + 1) x y (by simpa using e) (by simpa using e')⟩
theorem VRs.nil_inv (a : VRs G ρ h [] ws) : ws = [] := by
  cases ws with
  | nil => rfl
  | cons w ws' => have := a.1; simp at this
theorem VRs.append (a : VRs G ρ h vs ws) (b : VRs G ρ h xs ys) : VRs G ρ h (vs ++ xs) (ws ++ ys) := by
  induction vs generalizing ws with
  | nil => rw [a.nil_inv]; exact b
  | cons v vs ih =>
    obtain ⟨w, ws', rfl, h1, h2⟩ := a.cons_inv
    exact VRs.cons h1 (ih h2)
theorem VRs.get (a : VRs G ρ h vs ws) (e : vs[i]? = some v) : ∃ w : Value, ws[i]? = some w ∧ VR G ρ h v w := by
  have hi := (List.getElem?_eq_some_iff.mp e).1
  have hj : i < ws.length := a.1 ▸ hi
  exact ⟨ws[i], List.getElem?_eq_getElem hj, a.2 i _ _ e (List.getElem?_eq_getElem hj)⟩
theorem VRs.drop (a : VRs G ρ h vs ws) (n : Nat) : VRs G ρ h (vs.drop n) (ws.drop n) := by
  refine ⟨by simp [a.1], fun i x y e e' => ?_⟩
  rw [List.getElem?_drop] at e e'
  exact a.2 _ _ _ e e'
theorem VRs.take (a : VRs G ρ h vs ws) (n : Nat) : VRs G ρ h (vs.take n) (ws.take n) := by
  refine ⟨by simp [a.1], fun i x y e e' => ?_⟩
  rw [List.getElem?_take] at e e'
  split at e
  · rename_i hi; rw [if_pos hi] at e'; exact a.2 _ _ _ e e'
  · cases e

/-- from one state to a later one: X may have been changed besides what is owned -/
structure Ext (G : Gx) (X : Addr → Prop) (ρ : Rho) (H : Hp) (h : Heap) (ρ' : Rho) (H' : Hp) (h' : Heap) : Prop where
  pre : ∃ r, ρ' = ρ ++ r ∧ ∀ p ∈ r, (h.get? p.1 = none ∨ X p.1) ∧ (h.get? p.2 = none ∨ X p.2)
  keep : ∀ b o, h.get? b = some o → ¬ own ρ b → b ∉ G.tabs.map (·.2) → ¬ X b → h'.get? b = some o
  frz : ∀ b o, h.get? b = some o → frozen o = true → h'.get? b = some o
  dom : ∀ b o, h.get? b = some o → ¬ X b → ∃ o', h'.get? b = some o'
  ver : ∀ (i : Nat) (p : Addr × Addr) (es : List (List Nat × V)) (v : Nat), ρ[i]? = some p → H[i]? = some (.dict es v) →
    ∃ es' v', H'[i]? = some (.dict es' v') ∧ v ≤ v' ∧ (v' = v → es' = es ∧ h'.get? p.1 = h.get? p.1)

namespace Ext
variable {G : Gx} {X Y : Addr → Prop} {ρ ρ' ρ'' : Rho} {H H' H'' : Hp} {h h' h'' : Heap}
theorem refl : Ext G X ρ H h ρ H h := ⟨⟨[], by simp, fun _ hp => nomatch hp⟩, fun _ _ e _ _ _ => e, fun _ _ e _ => e, fun _ o e _ => ⟨o, e⟩, fun _ _ es v _ e => ⟨es, v, e, Nat.le_refl _, fun _ => ⟨rfl, rfl⟩⟩⟩
theorem weaken (x : Ext G X ρ H h ρ' H' h') (hXY : ∀ b, X b → Y b) : Ext G Y ρ H h ρ' H' h' := by
  refine ⟨?_, fun b o e n t y => x.keep b o e n t fun q => y (hXY b q), x.frz, fun b o e n => x.dom b o e fun q => n (hXY b q), x.ver⟩
  obtain ⟨r, e, hr⟩ := x.pre
  exact ⟨r, e, fun p hp => ⟨(hr p hp).1.imp id (hXY _), (hr p hp).2.imp id (hXY _)⟩⟩
theorem get (x : Ext G X ρ H h ρ' H' h') {i : Nat} {p : Addr × Addr} (e : ρ[i]? = some p) : ρ'[i]? = some p := by
  obtain ⟨r, rfl, _⟩ := x.pre
  rw [List.getElem?_append_left (List.getElem?_eq_some_iff.mp e).1]; exact e
theorem none_of (x : Ext G X ρ H h ρ' H' h') {b : Addr} (e : h'.get? b = none) : h.get? b = none ∨ X b := by
  cases q : h.get? b with
  | none => exact .inl rfl
  | some o =>
    by_cases hX : X b
    · exact .inr hX
    · obtain ⟨o', e'⟩ := x.dom b o q hX; rw [e'] at e; cases e
/-- what was not owned and there is not owned now -/
theorem notOwn (x : Ext G X ρ H h ρ' H' h') {b : Addr} {o : Obj} (e : h.get? b = some o) (n : ¬ own ρ b) (hX : ¬ X b) : ¬ own ρ' b := by
  obtain ⟨r, rfl, hr⟩ := x.pre
  rintro ⟨p, hp, hb⟩
  rcases List.mem_append.mp hp with q | q
  · exact n ⟨p, q, hb⟩
  · rcases hb with rfl | rfl
    · rcases (hr p q).1 with z | z
      · rw [z] at e; cases e
      · exact hX z
    · rcases (hr p q).2 with z | z
      · rw [z] at e; cases e
      · exact hX z
theorem trans (x : Ext G X ρ H h ρ' H' h') (y : Ext G Y ρ' H' h' ρ'' H'' h'') (hY : ∀ b o, h.get? b = some o → Y b → X b) : Ext G X ρ H h ρ'' H'' h'' := by
  refine ⟨?_, fun b o e n t nx => y.keep b o (x.keep b o e n t nx) (x.notOwn e n nx) t fun q => nx (hY b o e q), fun b o e f => y.frz b o (x.frz b o e f) f, fun b o e nx => ?_, fun i p es v hp e => ?_⟩
  · obtain ⟨r, rfl, hr⟩ := x.pre
    obtain ⟨q, rfl, hq⟩ := y.pre
    refine ⟨r ++ q, by simp, fun p hp => ?_⟩
    have key : ∀ b, (h'.get? b = none ∨ Y b) → (h.get? b = none ∨ X b) := fun b z => by
      rcases z with z | z
      · exact x.none_of z
      · cases hg : h.get? b with
        | none => exact .inl rfl
        | some o => exact .inr (hY b o hg z)
    rcases List.mem_append.mp hp with a | a
    · exact hr p a
    · exact ⟨key _ (hq p a).1, key _ (hq p a).2⟩
  · obtain ⟨o', e'⟩ := x.dom b o e nx
    exact y.dom b o' e' fun q => nx (hY b o e q)
  · obtain ⟨es₁, v₁, e₁, l₁, k₁⟩ := x.ver i p es v hp e
    obtain ⟨es₂, v₂, e₂, l₂, k₂⟩ := y.ver i p es₁ v₁ (x.get hp) e₁
    refine ⟨es₂, v₂, e₂, Nat.le_trans l₁ l₂, fun q => ?_⟩
    have q1 : v₁ = v := by omega
    have q2 : v₂ = v₁ := by omega
    exact ⟨(k₂ q2).1.trans (k₁ q1).1, (k₂ q2).2.trans (k₁ q1).2⟩
theorem trans' (x : Ext G X ρ H h ρ' H' h') (y : Ext G X ρ' H' h' ρ'' H'' h'') : Ext G X ρ H h ρ'' H'' h'' := x.trans y fun _ _ _ q => q
end Ext

theorem CellsR.mono {ρ ρ' : Rho} {c : List (Str × Nat)} {c' : List (Str × Addr)} (x : CellsR ρ c c') (hp : ∀ (i : Nat) (p : Addr × Addr), ρ[i]? = some p → ρ'[i]? = some p) : CellsR ρ' c c' := by
  induction x with
  | nil => exact .nil
  | cons e _ ih => exact .cons (hp _ _ e) ih
theorem CellsR.lookup {ρ : Rho} {c : List (Str × Nat)} {c' : List (Str × Addr)} (x : CellsR ρ c c') {n : Str} {i : Nat} (e : c.lookup n = some i) : ∃ p, ρ[i]? = some p ∧ c'.lookup n = some p.1 := by
  induction x with
  | nil => cases e
  | @cons y j p r r' hp _ ih =>
    rw [List.lookup_cons] at e ⊢
    cases hb : n == y with
    | true => rw [hb] at e; cases e; exact ⟨p, hp, rfl⟩
    | false => rw [hb] at e; exact ih e
theorem CellsR.append {ρ : Rho} {c d : List (Str × Nat)} {c' d' : List (Str × Addr)} (x : CellsR ρ c c') (y : CellsR ρ d d') : CellsR ρ (c ++ d) (c' ++ d') := by
  induction x with
  | nil => exact y
  | cons e _ ih => exact .cons e ih

section
variable {G : Gx} {X : Addr → Prop} {ρ ρ' : Rho} {H H' : Hp} {h h' : Heap}
theorem frozen_tuple {o : Obj} {xs : Array Value} {n : Nat} (hc : o.cls = .type "tuple") (hd : o.data = .seq xs n) : frozen o = true := by
  unfold frozen; rw [hd]; simp [hc]
theorem VR.mono {v : V} {a : Value} (x : VR G ρ h v a) (e : Ext G X ρ H h ρ' H' h') : VR G ρ' h' v a := by
  induction x with
  | none => exact .none
  | bool b => exact .bool b
  | int i t => exact .int i t
  | str l t hl => exact .str l t hl
  | tup ho hc hd hl _ hb ih => exact .tup (e.frz _ _ ho (frozen_tuple hc hd)) hc hd hl (fun i v v' a b => ih i v v' a b) hb
  | obj hp => exact .obj (e.get hp)
  | bi id => exact .bi id
  | ty n => exact .ty n
  | glo ha => exact .glo ha
  | rng ho => exact .rng (e.frz _ _ ho rfl)
  | clo ho hk hd hc hcd hf =>
    refine .clo (e.frz _ _ ho (by unfold frozen; rw [hd])) hk hd (hc.mono fun i p q => e.get q) ?_ fun c hcv => ?_
    · obtain ⟨c, o, vs, t, rfl, g, d, r⟩ := hcd
      obtain ⟨oc, g', f⟩ := hf c rfl
      rw [g] at g'; cases g'
      exact ⟨c, o, vs, t, rfl, e.frz _ _ g f, d, r⟩
    · obtain ⟨oc, g', f⟩ := hf c hcv
      exact ⟨oc, e.frz _ _ g' f, f⟩
  | bm hp ho hc hdi hd => exact .bm (e.get hp) (e.frz _ _ ho (by unfold frozen; rw [hd]; simp [hc])) hc hdi hd
  | mat ho hc hdi hd hb hbc hbd hs hl hn => exact .mat (e.frz _ _ ho (by unfold frozen; rw [hd]; simp [hc])) hc hdi hd (e.frz _ _ hb (frozen_tuple hbc hbd)) hbc hbd hs hl hn
theorem VRs.mono {vs : List V} {ws : List Value} (x : VRs G ρ h vs ws) (e : Ext G X ρ H h ρ' H' h') : VRs G ρ' h' vs ws := ⟨x.1, fun i v v' a b => (x.2 i v v' a b).mono e⟩
end

/-- a dict's entries -/
def DRs (G : Gx) (ρ : Rho) (h : Heap) (es : List (List Nat × V)) (kvs : List (Str × Value)) : Prop :=
  kvs.map (·.1) = es.map (fun e => (⟨e.1.toArray⟩ : Str)) ∧ VRs G ρ h (es.map (·.2)) (kvs.map (·.2))

/-- an object of ours and the model's at p -/
def OR (G : Gx) (ρ : Rho) (h : Heap) (p : Addr × Addr) : O → Prop
  | .list xs => p.2 = p.1 ∧ ∃ o items n, h.get? p.1 = some o ∧ o.cls = .type "list" ∧ (o.dict = none ∧ o.slots = #[]) ∧ o.data = .seq items n ∧ VRs G ρ h xs items.toList ∧ xs.length ≤ big
  | .dict es _ => p.2 = p.1 ∧ ∃ kvs, h.DictOf (PySem.strKind G.prog G.w) p.1 kvs ∧ DRs G ρ h es kvs ∧ es.length ≤ big ∧ ∀ e ∈ es, e.1.length ≤ big
  | .inst c fs => ∃ C m, G.addr c = some C ∧ (G.T.meth c "__init__").isSome = true ∧ h.get? p.1 = some (instObj C p.2) ∧ h.Ns p.2 m ∧ (∀ x v, fs.lookup x = some v → ∃ v', m x = some v' ∧ VR G ρ h v v') ∧ (∀ x, fs.lookup x = none → m x = none) ∧ p.1 ≠ p.2 ∧ ∀ o es ep, h.get? p.2 = some o → o.data = .dict es ep → es.size = fs.length
  | .cell v => p.2 = p.1 ∧ ∃ o v', h.get? p.1 = some o ∧ o.data = .cell v' ∧ (∀ x, v = some x → ∃ y, v' = some y ∧ VR G ρ h x y) ∧ (v = none → v' = none)

/-- a table of code objects that may grow -/
def TabR (G : Gx) (h : Heap) (q : Addr × Addr) : Prop := ∃ ps, h.get? q.2 = some (tabObj ps) ∧ TriplesOk ps.toList ∧
  ∀ (pos : Pos) c', codeAmong pos ps.toList = some c' → ∃ c oc x, c' = .ref c ∧ h.get? c = some oc ∧ frozen oc = true ∧ G.T.defs pos.line pos.col = some x ∧ h.CodeRec c' (G.tqual q.1 ++ x)

structure Rel (G : Gx) (ρ : Rho) (H : Hp) (s : Shared) : Prop where
  base : ∀ b o, G.base.get? b = some o → s.heap.get? b = some o
  tabs : ∀ q ∈ G.tabs, TabR G s.heap q
  len : ρ.length = H.length
  obj : ∀ (i : Nat) (p : Addr × Addr) (o : O), ρ[i]? = some p → H[i]? = some o → OR G ρ s.heap p o
  disj : ∀ (i j : Nat) (p q : Addr × Addr), ρ[i]? = some p → ρ[j]? = some q → i ≠ j → p.1 ≠ q.1 ∧ p.1 ≠ q.2 ∧ p.2 ≠ q.1 ∧ p.2 ≠ q.2
  nobase : ∀ b, own ρ b → G.base.get? b = none
  notab : ∀ b, own ρ b → b ∉ G.tabs.map (·.2)
  gens : s.gens = G.gens
  os : s.os = G.os
end Mine

end
section
open PySem PySem.W PySem.Calls PyProof.Rows
set_option autoImplicit false
namespace Mine

abbrev NoX : Addr → Prop := fun _ => False

structure AR (d : Nat) (A : Around) : Prop where
  depth : A.depth ≤ 401 + 2 * d
  units : A.units ≤ 10 + 20 * d
  handled : A.handled = none

def sameKind (a b : Option NameKind) : Prop := a = b ∨ (a = some .free ∧ b = some .cell)

structure Cx (G : Gx) (F : Fc) (A : Around) (env : Env) : Prop where
  ar : AR F.depth A
  d : F.depth ≤ 151
  kind : env.scope.kind = .function
  glob : env.globals = mainGlobals
  bi : env.builtins = builtinsNs
  names : ∀ x, sameKind (F.names.lookup x) (env.kindOf x)
  inter : interactive env = false
  code : F.tab = true → ∃ c P, env.code = .ref c ∧ (c, P) ∈ G.tabs ∧ env.qual = G.tqual c

structure Fd (G : Gx) (F : Fc) (env : Env) (loc : Loc) (ρ : Rho) (h : Heap) : Prop where
  ns : ∃ m, h.Ns env.locals m ∧ ∀ (x : Str) (v : V), loc.lookup x = some v → ∃ v', m x = some v' ∧ VR G ρ h v v'
  nown : ¬ own ρ env.locals
  nbase : G.base.get? env.locals = none
  ntab : env.locals ∉ G.tabs.map (·.2)
  cells : ∀ (x : Str) (i : Nat), F.cells.lookup x = some i → ∃ p, ρ[i]? = some p ∧ env.cells.lookup x = some p.1

theorem ns_frozen {h : Heap} {a : Addr} {m : Str → Option Value} (n : h.Ns a m) {o : Obj} (e : h.get? a = some o) : frozen o = false := by
  obtain ⟨o', es, ep, e', hd, _⟩ := n
  rw [e] at e'; cases e'
  unfold frozen; rw [hd]

section
variable {G : Gx} {F : Fc} {env : Env} {loc : Loc} {X : Addr → Prop} {ρ ρ' : Rho} {H H' : Hp} {h h' : Heap}
theorem Fd.mono (x : Fd G F env loc ρ h) (e : Ext G X ρ H h ρ' H' h') (hX : ¬ X env.locals) : Fd G F env loc ρ' h' := by
  obtain ⟨m, ⟨o, es, ep, ho, r⟩, hm⟩ := x.ns
  refine ⟨⟨m, ⟨o, es, ep, e.keep _ _ ho x.nown x.ntab hX, r⟩, fun y v hv => ?_⟩, e.notOwn ho x.nown hX, x.nbase, x.ntab, fun y i hi => ?_⟩
  · obtain ⟨v', h1, h2⟩ := hm y v hv
    exact ⟨v', h1, h2.mono e⟩
  · obtain ⟨p, h1, h2⟩ := x.cells y i hi
    exact ⟨p, e.get h1, h2⟩
end

/-- a def of the top -/
def FnOK (G : Gx) (x : Str) (i : FnI) : Prop := ∃ (a : Addr) (o : Obj) (nm qual : Str) (dV kV doc pm : Value) (an : Option Addr) (cdv ct : Value),
  G.addr x = some a ∧ G.base.get? a = some o ∧ o.data = .func (fnX nm qual i.params (upS i.body).l i.sc [] dV kV doc pm an cdv ct) ∧ G.base.CodeRec cdv qual ∧
  ((i.dflt = [] ∧ dV = .none) ∨ ∃ (T : Addr) (oT : Obj) (n : Nat) (items : Array Value), dV = .ref T ∧ G.base.get? T = some oT ∧ oT.data = .seq items n ∧ VRs G [] G.base i.dflt items.toList) ∧
  (i.tab = true → ∃ c P, cdv = .ref c ∧ (c, P) ∈ G.tabs ∧ qual ++ ".<locals>." = G.tqual c)

/-- a class of ours -/
def ClsOK (G : Gx) (c : Str) (C : Addr) : Prop :=
  plainGet G.frag C "" = true ∧ hasDictIn G.frag C = true ∧ plainOver G.frag C = true ∧ findIn G.frag (.ref C) "__setattr__" = some (some (.builtin "object.__setattr__")) ∧
  (∀ x ∈ fieldNames, findIn G.frag (.ref C) x = some none) ∧
  (∀ x q, G.T.meth c x = some q → ∃ f, G.addr q = some f ∧ findIn G.frag (.ref C) x = some (some (.ref f)) ∧ isFn G.frag (.ref f) = true) ∧ keepIn G.frag (.ref C) = true ∧ makesIn G.frag C = true
def patData (G : Gx) (data : Data) : Prop := ∃ (f0 f1 f3 f4 : Value) (L : Addr) (t2 t6 : Tok) (o : Obj) (items : Array Value) (n : Nat), data = .fields #[f0, f1, .int 3 t2, f3, f4, .ref L, .int 0 t6] ∧ G.base.get? L = some o ∧ o.data = .seq items n ∧
  (items.map Builtin.Re.reRawOf).map (·.toNat) = numC

/-- what is known of the top -/
structure GOK (G : Gx) : Prop where
  fn : ∀ x i, G.T.fn x = some i → FnOK G x i
  glob : ∃ mg mb, G.base.Ns mainGlobals mg ∧ G.base.Ns builtinsNs mb ∧ (∀ q ∈ G.tabs, G.base.BuiltinsAt mg q.2) ∧ ∀ x v, G.T.glob x = some v → ∃ v', (mg x = some v' ∨ (mg x = none ∧ mb x = some v')) ∧ VR G [] G.base v v'
  nolimit : G.base.NoLimit
  kin : G.frag.In G.base
  code : ∀ q ∈ G.tabs, CodeHd G.base q.1 q.2 ∧ G.base.get? q.2 = none
  tnd : (G.tabs.map (·.2)).Nodup
  cls : ∀ c C, G.addr c = some C → (G.T.meth c "__init__").isSome = true → ClsOK G c C
  pat : ∀ (a : Addr), G.addr "NUMBER_RE" = some a → ∃ o, G.base.get? a = some o ∧ o.cls = .type "re.Pattern" ∧ o.dict = none ∧ patData G o.data
  lst : ∀ x xs, G.T.lst x = some xs → ∀ a, G.addr x = some a → ∃ o items n, G.base.get? a = some o ∧ o.cls = .type "list" ∧ o.data = .seq items n ∧ VRs G [] G.base xs items.toList
  sysm : ∃ o, G.base.get? sysModules = some o
  tru : ∀ a, G.addr "_law_fraction" = some a → ∃ o, G.base.get? a = some o ∧ o.cls = .type "function"

section
variable {G : Gx} {F : Fc} {A : Around} {env : Env} {loc : Loc} {ρ : Rho} {H : Hp} {s : Shared} {Er : Value → Shared → Prop}

structure St (G : Gx) (F : Fc) (env : Env) (loc : Loc) (ρ : Rho) (H : Hp) (s : Shared) : Prop where
  rel : Rel G ρ H s
  fd : Fd G F env loc ρ s.heap

theorem ext_base (hb : ∀ b o, G.base.get? b = some o → s.heap.get? b = some o) {v : V} {a : Value} (x : VR G [] G.base v a) : VR G ρ s.heap v a := by
  induction x with
  | none => exact .none
  | bool b => exact .bool b
  | int i t => exact .int i t
  | str l t hl => exact .str l t hl
  | tup ho hc hd hl _ hb' ih => exact .tup (hb _ _ ho) hc hd hl (fun i v v' a b => ih i v v' a b) hb'
  | obj hp => simp at hp
  | bi id => exact .bi id
  | ty n => exact .ty n
  | glo ha => exact .glo ha
  | rng ho => exact .rng (hb _ _ ho)
  | clo ho hk hd hc hcd hf =>
    refine .clo (hb _ _ ho) hk hd (hc.mono fun i p q => by simp at q) (hcd.keeps hb) fun c hcv => ?_
    obtain ⟨oc, g', f⟩ := hf c hcv
    exact ⟨oc, hb _ _ g', f⟩
  | bm hp _ _ _ _ => simp at hp
  | mat ho hc hdi hd hbt hbc hbd hs hl hn => exact .mat (hb _ _ ho) hc hdi hd (hb _ _ hbt) hbc hbd hs hl hn

/-- the run of a task is matched -/
def Orc (G : Gx) (r : Task → Option Out) : Prop := True

/-- tokens alone have moved -/
theorem Rel.tok (x : Rel G ρ H s) (t : Nat) : Rel G ρ H { s with toks := t } := ⟨x.base, x.tabs, x.len, x.obj, x.disj, x.nobase, x.notab, x.gens, x.os⟩
theorem St.tok (x : St G F env loc ρ H s) (t : Nat) : St G F env loc ρ H { s with toks := t } := ⟨x.rel.tok t, x.fd⟩

theorem interp_bind {α β : Type} {r : Task → Option Out} (p : Prog α) (f : α → Prog β) : interp r (p.bind f) = (interp r p).bind fun a => interp r (f a) := by
  induction p with
  | ret a => rfl
  | fail => rfl
  | call t k ih =>
    simp only [Prog.bind, interp]
    cases h : r t with
    | none => rfl
    | some o => simp only [ih]
theorem interp_bind_some {α β : Type} {r : Task → Option Out} {p : Prog α} {f : α → Prog β} {b : β} (h : interp r (p.bind f) = some b) : ∃ a, interp r p = some a ∧ interp r (f a) = some b := by
  rw [interp_bind] at h
  cases hp : interp r p with
  | none => rw [hp] at h; cases h
  | some a => rw [hp] at h; exact ⟨a, rfl, h⟩
theorem interp_opt {α : Type} {r : Task → Option Out} {o : Option α} {a : α} (h : interp r (Prog.opt o) = some a) : o = some a := by
  cases o with
  | none => cases h
  | some b => exact h
theorem interp_ret {α : Type} {r : Task → Option Out} {a b : α} (h : interp r (Prog.ret a) = some b) : a = b := by simpa [interp] using h

variable {r : Task → Option Out}

/-! ### names -/
theorem sim_load {x : Str} {v : V} {Q : Value → Shared → Prop} (K : GOK G) (C : Cx G F A env) (S : St G F env loc ρ H s) (hv : loadM G.T F loc H x = some v)
    (h : ∀ a, VR G ρ s.heap v a → Q a s) : wpAny (model G.prog G.w) A (loadName env x) Q Er s := by
  have hn := C.names x
  have cellCase : ∀ i, F.cells.lookup x = some i → cellAtM H i = some v → ∃ c, env.cells.lookup x = some c ∧ ∃ y, s.heap.IsCell c (some y) ∧ VR G ρ s.heap v y := by
    intro i hi hc
    obtain ⟨p, hp, hl⟩ := S.fd.cells x i hi
    unfold cellAtM at hc
    split at hc
    · rename_i w hH
      obtain ⟨_, o, v', ho, hd, h1, _⟩ := S.rel.obj i p _ hp hH
      obtain ⟨y, rfl, hy⟩ := h1 v hc
      exact ⟨p.1, hl, y, ⟨o, ho, hd⟩, hy⟩
    · cases hc
  unfold loadM at hv
  split at hv
  · rename_i hk
    rw [hk] at hn
    have hk' : env.kindOf x = some .local := by rcases hn with e | ⟨e, _⟩ <;> simp_all
    obtain ⟨m, hm, hl⟩ := S.fd.ns
    obtain ⟨v', e, hV⟩ := hl x v hv
    exact wpAny_loadName_local C.kind hk' hm e (h _ hV)
  · rename_i hk
    rw [hk] at hn
    have hk' : env.kindOf x = some .cell := by rcases hn with e | ⟨e, _⟩ <;> simp_all
    obtain ⟨i, hi, hc⟩ := Option.bind_eq_some_iff.mp hv
    obtain ⟨c, hc, y, hy, hV⟩ := cellCase i hi hc
    exact wpAny_loadName_cell C.kind hk' hc hy (h _ hV)
  · rename_i hk
    rw [hk] at hn
    split at hv
    · cases hv
    rename_i hx
    obtain ⟨i, hi, hc⟩ := Option.bind_eq_some_iff.mp hv
    obtain ⟨c, hc, y, hy, hV⟩ := cellCase i hi hc
    rcases hn with e | ⟨_, e⟩
    · exact wpAny_loadName_free C.kind e.symm hc hy (h _ hV) (by simpa [cdict] using hx)
    · exact wpAny_loadName_cell C.kind e hc hy (h _ hV)
  · rename_i hk
    rw [hk] at hn
    have hk' : env.kindOf x = some .globalImplicit := by rcases hn with e | ⟨e, _⟩ <;> simp_all
    obtain ⟨mg, mb, h1, h2, _, h3⟩ := K.glob
    obtain ⟨v', e, hV⟩ := h3 x v hv
    rw [loadName_read C.kind hk']
    have hg : s.heap.Ns env.globals mg := by rw [C.glob]; exact h1.keeps S.rel.base
    have hb : s.heap.Ns env.builtins mb := by rw [C.bi]; exact h2.keeps S.rel.base
    rcases e with e | ⟨e, e'⟩
    · exact loadGlobal_global hg e (h _ (ext_base S.rel.base hV))
    · exact loadGlobal_builtin hg e hb e' (h _ (ext_base S.rel.base hV))
  · cases hv
end
end Mine

end
section
open PySem PySem.W PySem.Calls PyProof.Rows
set_option autoImplicit false
namespace Mine

def Keeps (h h' : Heap) : Prop := ∀ b o, h.get? b = some o → h'.get? b = some o
theorem Keeps.refl (h : Heap) : Keeps h h := fun _ _ e => e
theorem Keeps.trans {a b c : Heap} (x : Keeps a b) (y : Keeps b c) : Keeps a c := fun d o e => y d o (x d o e)
theorem Keeps.push (h : Heap) (o : Obj) : Keeps h (h.push o) := fun _ _ e => Heap.get?_push_of_some o e

section
variable {G : Gx} {F : Fc} {A : Around} {env : Env} {loc : Loc} {ρ ρ' : Rho} {H H' : Hp} {s : Shared} {h h' : Heap} {X : Addr → Prop}

theorem Ext.keeps (k : Keeps h h') (hobj : ∀ (i : Nat) (p : Addr × Addr) (es : List (List Nat × V)) (v : Nat), ρ[i]? = some p → H[i]? = some (.dict es v) → h'.get? p.1 = h.get? p.1) : Ext G X ρ H h ρ H h' := ⟨⟨[], by simp, fun _ hp => nomatch hp⟩, fun b o e _ _ _ => k b o e, fun b o e _ => k b o e, fun b o e _ => ⟨o, k b o e⟩, fun i p es v hp e => ⟨es, v, e, Nat.le_refl _, fun _ => ⟨rfl, hobj i p es v hp e⟩⟩⟩

theorem DRs.mono {es : List (List Nat × V)} {ds : List (Str × Value)} (x : DRs G ρ h es ds) (e : Ext G X ρ H h ρ' H' h') : DRs G ρ' h' es ds := ⟨x.1, x.2.mono e⟩

theorem OR.mono {p : Addr × Addr} {o : O} (x : OR G ρ h p o) (e : Ext G X ρ H h ρ' H' h') (k : ∀ b ob, (b = p.1 ∨ b = p.2) → h.get? b = some ob → h'.get? b = some ob) : OR G ρ' h' p o := by
  cases o with
  | list xs => obtain ⟨a, ob, items, n, h1, h2, h2', h3, h4, h5⟩ := x; exact ⟨a, ob, items, n, k _ _ (.inl rfl) h1, h2, h2', h3, h4.mono e, h5⟩
  | dict es v => obtain ⟨a, kvs, ⟨ob, ds, ep, h1, h2⟩, h4, h5⟩ := x; exact ⟨a, kvs, ⟨ob, ds, ep, k _ _ (.inl rfl) h1, h2⟩, h4.mono e, h5⟩
  | inst c fs =>
    obtain ⟨C, m, h1, h1', h2, ⟨o2, es, ep, h3, h3'⟩, h4, h5, h8, h9⟩ := x
    refine ⟨C, m, h1, h1', k _ _ (.inl rfl) h2, ⟨o2, es, ep, k _ _ (.inr rfl) h3, h3'⟩, fun y v hy => ?_, h5, h8, fun o es' ep' ho hd => ?_⟩
    rotate_left
    · rw [k _ _ (.inr rfl) h3] at ho; cases ho; exact h9 _ _ _ h3 hd
    obtain ⟨v', a, b⟩ := h4 y v hy
    exact ⟨v', a, b.mono e⟩
  | cell v =>
    obtain ⟨a, ob, v', h1, h2, h3, h4⟩ := x
    refine ⟨a, ob, v', k _ _ (.inl rfl) h1, h2, fun y hy => ?_, h4⟩
    obtain ⟨z, hz, hr⟩ := h3 y hy
    exact ⟨z, hz, hr.mono e⟩

theorem TabR.keeps {q : Addr × Addr} (x : TabR G h q) (k : h.get? q.2 = h'.get? q.2) (e : ∀ b o, h.get? b = some o → frozen o = true → h'.get? b = some o) : TabR G h' q := by
  obtain ⟨ps, h1, h2, h4⟩ := x
  refine ⟨ps, k ▸ h1, h2, fun pos c' hc => ?_⟩
  obtain ⟨c, oc, x, a, b, f, d, g⟩ := h4 pos c' hc
  refine ⟨c, oc, x, a, e _ _ b f, f, d, ?_⟩
  obtain ⟨c2, o2, vs, t, e1, e2, e3⟩ := g
  rw [a] at e1
  cases e1
  rw [b] at e2
  cases e2
  exact ⟨c, oc, vs, t, a, e _ _ b f, e3⟩

theorem Rel.dictAt (R : Rel G ρ H s) {i : Nat} {p : Addr × Addr} {es : List (List Nat × V)} {v : Nat} (hp : ρ[i]? = some p) (e : H[i]? = some (.dict es v)) : ∃ o, s.heap.get? p.1 = some o ∧ frozen o = false := by
  obtain ⟨_, kvs, ⟨o, ds, n, g, hx, hd, _⟩, _⟩ := R.obj i p _ hp e
  exact ⟨o, g, by unfold frozen; rw [hd]⟩
theorem Rel.extKeeps (R : Rel G ρ H s) (k : Keeps s.heap h') : Ext G X ρ H s.heap ρ H h' := Ext.keeps k fun i p es v hp e => by
  obtain ⟨o, g, _⟩ := R.dictAt hp e
  rw [g]; exact k _ _ g
theorem Rel.keeps (R : Rel G ρ H s) (k : Keeps s.heap h') (t : Nat) : Rel G ρ H { s with heap := h', toks := t } where
  base b o e := k b o (R.base b o e)
  tabs q hq := by
    have x := R.tabs q hq
    refine x.keeps ?_ fun b o e _ => k b o e
    obtain ⟨ps, h1, _⟩ := x
    rw [h1, k _ _ h1]
  len := R.len
  obj i p o a b := (R.obj i p o a b).mono (X := NoX) (R.extKeeps k) fun c ob _ e => k c ob e
  disj := R.disj
  nobase := R.nobase
  notab := R.notab
  gens := R.gens
  os := R.os

theorem own_of {i : Nat} {p : Addr × Addr} (e : ρ[i]? = some p) : own ρ p.1 ∧ own ρ p.2 := ⟨⟨p, List.mem_of_getElem? e, .inl rfl⟩, ⟨p, List.mem_of_getElem? e, .inr rfl⟩⟩

/-- one address that is not ours has turned (a frame, an iterator) -/
theorem Rel.but {L : Addr} {oL : Obj} (R : Rel G ρ H s) (hs : Heap.SameBut L s.heap h') (hL : s.heap.get? L = some oL) (hf : frozen oL = false) (hn : ¬ own ρ L) (hb : G.base.get? L = none) (ht : L ∉ G.tabs.map (·.2))
    (hd : ∃ o', h'.get? L = some o') (t : Nat) : Rel G ρ H { s with heap := h', toks := t } ∧ Ext G (fun b => b = L) ρ H s.heap ρ H h' := by
  have fz : ∀ b o, s.heap.get? b = some o → frozen o = true → h'.get? b = some o := fun b o e f => by
    by_cases q : b = L
    · subst q; rw [hL] at e; cases e; rw [hf] at f; cases f
    · exact (hs.2 b q).trans e
  have E : Ext G (fun b => b = L) ρ H s.heap ρ H h' := by
    refine ⟨⟨[], by simp, fun _ hp => nomatch hp⟩, fun b o e _ _ q => (hs.2 b q).trans e, fz, fun b o e _ => ?_, fun i p es v hp e => ⟨es, v, e, Nat.le_refl _, fun _ => ⟨rfl, hs.2 _ fun q => hn (q ▸ (own_of hp).1)⟩⟩⟩
    by_cases q : b = L
    · subst q; exact hd
    · exact ⟨o, (hs.2 b q).trans e⟩
  refine ⟨⟨fun b o e => ?_, fun q hq => (R.tabs q hq).keeps ?_ fz, R.len, fun i p o a b => (R.obj i p o a b).mono E fun c ob hc e => ?_, R.disj, R.nobase, R.notab, R.gens, R.os⟩, E⟩
  · have : b ≠ L := fun q => by subst q; rw [hb] at e; cases e
    exact (hs.2 b this).trans (R.base b o e)
  · exact (hs.2 _ fun (q' : q.2 = L) => ht (by rw [← q']; exact List.mem_map_of_mem hq)).symm
  · have ho := own_of a
    refine (hs.2 c fun q => hn ?_).trans e
    subst q
    rcases hc with rfl | rfl
    · exact ho.1
    · exact ho.2

/-- one address that is not ours has turned and may be gone -/
theorem Rel.gone {L : Addr} {oL : Obj} (R : Rel G ρ H s) (hs : Heap.ExtBut L s.heap h') (hL : s.heap.get? L = some oL) (hf : frozen oL = false) (hn : ¬ own ρ L) (hb : G.base.get? L = none) (ht : L ∉ G.tabs.map (·.2)) (t : Nat) :
    Rel G ρ H { s with heap := h', toks := t } ∧ Ext G (fun b => b = L) ρ H s.heap ρ H h' := by
  have ne : ∀ b o, s.heap.get? b = some o → frozen o = true → b ≠ L := fun b o e f q => by subst q; rw [hL] at e; cases e; rw [hf] at f; cases f
  have fz : ∀ b o, s.heap.get? b = some o → frozen o = true → h'.get? b = some o := fun b o e f => hs b o (ne b o e f) e
  have E : Ext G (fun b => b = L) ρ H s.heap ρ H h' := ⟨⟨[], by simp, fun _ hp => nomatch hp⟩, fun b o e _ _ q => hs b o q e, fz, fun b o e q => ⟨o, hs b o q e⟩, fun i p es v hp e => ⟨es, v, e, Nat.le_refl _, fun _ => ⟨rfl, by
    obtain ⟨o, g, _⟩ := R.dictAt hp e
    rw [g]; exact hs _ _ (fun q => hn (q ▸ (own_of hp).1)) g⟩⟩⟩
  refine ⟨⟨fun b o e => ?_, fun q hq => (R.tabs q hq).keeps ?_ fz, R.len, fun i p o a b => (R.obj i p o a b).mono E fun c ob hc e => ?_, R.disj, R.nobase, R.notab, R.gens, R.os⟩, E⟩
  · exact hs b o (fun q => by subst q; rw [hb] at e; cases e) (R.base b o e)
  · obtain ⟨ps, g, _⟩ := R.tabs q hq
    rw [g]; exact (hs _ _ (fun (q' : q.2 = L) => ht (by rw [← q']; exact List.mem_map_of_mem hq)) g).symm
  · have ho := own_of a
    refine hs c ob (fun q => hn ?_) e
    subst q
    rcases hc with rfl | rfl
    · exact ho.1
    · exact ho.2

theorem nodup_map_inj {α β : Type} {f : α → β} : ∀ {l : List α} {a b : α}, (l.map f).Nodup → a ∈ l → b ∈ l → f a = f b → a = b
  | [], _, _, _, h, _, _ => nomatch h
  | x :: l, a, b, hn, ha, hb, e => by
    rw [List.map_cons, List.nodup_cons] at hn
    rcases List.mem_cons.mp ha with ha | ha
    · rcases List.mem_cons.mp hb with hb | hb
      · rw [ha, hb]
      · exact absurd (show f x ∈ l.map f by rw [← ha, e]; exact List.mem_map_of_mem hb) hn.1
    · rcases List.mem_cons.mp hb with hb | hb
      · exact absurd (show f x ∈ l.map f by rw [← hb, ← e]; exact List.mem_map_of_mem ha) hn.1
      · exact nodup_map_inj hn.2 ha hb e
/-- a table of code objects has grown -/
theorem Rel.table {q : Addr × Addr} (R : Rel G ρ H s) (hq : q ∈ G.tabs) (hnd : (G.tabs.map (·.2)).Nodup) (hb : ∀ q ∈ G.tabs, G.base.get? q.2 = none) (hx : Heap.ExtBut q.2 s.heap h') (hT : TabR G h' q) (t : Nat) : Rel G ρ H { s with heap := h', toks := t } ∧ Ext G NoX ρ H s.heap ρ H h' := by
  obtain ⟨ps0, g0, _⟩ := R.tabs q hq
  have nf : ∀ b o, s.heap.get? b = some o → frozen o = true → b ≠ q.2 := fun b o e f z => by subst z; rw [g0] at e; cases e; cases f
  have fz : ∀ b o, s.heap.get? b = some o → frozen o = true → h'.get? b = some o := fun b o e f => hx b o (nf b o e f) e
  have no : ∀ b, own ρ b → b ≠ q.2 := fun b ho z => R.notab b ho (z ▸ List.mem_map_of_mem hq)
  obtain ⟨psn, gn, _⟩ := id hT
  have E : Ext G NoX ρ H s.heap ρ H h' := ⟨⟨[], by simp, fun _ hp => nomatch hp⟩, fun b o e _ ht _ => hx b o (fun z => ht (z ▸ List.mem_map_of_mem hq)) e, fz, fun b o e _ => by
      by_cases z : b = q.2
      · subst z; exact ⟨_, gn⟩
      · exact ⟨o, hx b o z e⟩, fun i p es v hp e => ⟨es, v, e, Nat.le_refl _, fun _ => ⟨rfl, by
      obtain ⟨o, g, _⟩ := R.dictAt hp e
      rw [g]; exact hx _ _ (no _ (own_of hp).1) g⟩⟩⟩
  refine ⟨⟨fun b o e => hx b o (fun z => by subst z; rw [hb q hq] at e; cases e) (R.base b o e), fun q' hq' => ?_, R.len, fun i p o a b => (R.obj i p o a b).mono E fun c ob hc e => hx c ob (no c ?_) e, R.disj, R.nobase, R.notab, R.gens, R.os⟩, E⟩
  · by_cases z : q' = q
    · subst z; exact hT
    · have hne : q'.2 ≠ q.2 := fun e => z (nodup_map_inj hnd hq' hq e)
      obtain ⟨ps', g', _⟩ := R.tabs q' hq'
      exact (R.tabs q' hq').keeps (by rw [g']; exact (hx _ _ hne g').symm) fz
  · have ho := own_of a
    rcases hc with rfl | rfl
    · exact ho.1
    · exact ho.2

/-- an object of ours has turned -/
theorem Rel.upd {i : Nat} {p : Addr × Addr} {o' : O} (R : Rel G ρ H s) (hp : ρ[i]? = some p) (hi : i < H.length) (hs : ∀ b, b ≠ p.1 → b ≠ p.2 → h'.get? b = s.heap.get? b)
    (hf1 : ∀ o, s.heap.get? p.1 = some o → frozen o = false) (hf2 : ∀ o, s.heap.get? p.2 = some o → frozen o = false)
    (hd1 : ∃ o, h'.get? p.1 = some o) (hd2 : ∃ o, h'.get? p.2 = some o) (t : Nat) (hv : ∀ es v, H[i]? = some (.dict es v) → ∃ es' v', o' = .dict es' v' ∧ v < v')
    (hO : Ext G NoX ρ H s.heap ρ (H.set i o') h' → OR G ρ h' p o') :
    Rel G ρ (H.set i o') { s with heap := h', toks := t } ∧ Ext G NoX ρ H s.heap ρ (H.set i o') h' := by
  obtain ⟨hw1, hw2⟩ := own_of hp
  have fz : ∀ b o, s.heap.get? b = some o → frozen o = true → h'.get? b = some o := fun b o e f => by
    by_cases q : b = p.1
    · subst q; rw [hf1 o e] at f; cases f
    · by_cases q' : b = p.2
      · subst q'; rw [hf2 o e] at f; cases f
      · exact (hs b q q').trans e
  have E : Ext G NoX ρ H s.heap ρ (H.set i o') h' := by
    refine ⟨⟨[], by simp, fun _ hp => nomatch hp⟩, fun b o e n _ _ => (hs b (fun q => n (q ▸ hw1)) (fun q => n (q ▸ hw2))).trans e, fz, fun b o e _ => ?_, fun j q es v hq e => ?_⟩
    rotate_left
    · by_cases q' : i = j
      · subst q'
        obtain ⟨es', v', rfl, l⟩ := hv es v e
        exact ⟨es', v', List.getElem?_set_self hi, Nat.le_of_lt l, fun z => by omega⟩
      · have hd := R.disj i j p q hp hq q'
        exact ⟨es, v, by rw [List.getElem?_set_ne q']; exact e, Nat.le_refl _, fun _ => ⟨rfl, hs _ (Ne.symm hd.1) (Ne.symm hd.2.2.1)⟩⟩
    by_cases q : b = p.1
    · subst q; exact hd1
    · by_cases q' : b = p.2
      · subst q'; exact hd2
      · exact ⟨o, (hs b q q').trans e⟩
  refine ⟨⟨fun b o e => ?_, fun q hq => (R.tabs q hq).keeps ?_ fz, by rw [List.length_set]; exact R.len, fun j q o a b => ?_, R.disj, R.nobase, R.notab, R.gens, R.os⟩, E⟩
  · exact (hs b (fun q => by subst q; rw [R.nobase _ hw1] at e; cases e) (fun q => by subst q; rw [R.nobase _ hw2] at e; cases e)).trans (R.base b o e)
  · exact (hs _ (fun (q' : q.2 = p.1) => R.notab _ hw1 (by rw [← q']; exact List.mem_map_of_mem hq)) (fun (q' : q.2 = p.2) => R.notab _ hw2 (by rw [← q']; exact List.mem_map_of_mem hq))).symm
  · by_cases q' : i = j
    · subst q'
      rw [hp] at a; cases a
      rw [List.getElem?_set_self hi] at b; cases b
      exact hO E
    · rw [List.getElem?_set_ne q'] at b
      have hd := R.disj i j p q hp a q'
      refine (R.obj j q o a b).mono E fun c ob hc e => (hs c ?_ ?_).trans e
      · rintro rfl; rcases hc with e | e
        · exact hd.1 e
        · exact hd.2.1 e
      · rintro rfl; rcases hc with e | e
        · exact hd.2.2.1 e
        · exact hd.2.2.2 e

/-- a new object of ours -/
theorem Rel.new {p : Addr × Addr} {o' : O} (R : Rel G ρ H s) (k : Keeps s.heap h') (h1 : s.heap.get? p.1 = none) (h2 : s.heap.get? p.2 = none) (t : Nat)
    (hO : Ext G NoX ρ H s.heap (ρ ++ [p]) (H ++ [o']) h' → OR G (ρ ++ [p]) h' p o') :
    Rel G (ρ ++ [p]) (H ++ [o']) { s with heap := h', toks := t } ∧ Ext G NoX ρ H s.heap (ρ ++ [p]) (H ++ [o']) h' := by
  have E : Ext G NoX ρ H s.heap (ρ ++ [p]) (H ++ [o']) h' := ⟨⟨[p], rfl, fun q hq => by rw [List.mem_singleton.mp hq]; exact ⟨.inl h1, .inl h2⟩⟩, fun b o e _ _ _ => k b o e, fun b o e _ => k b o e, fun b o e _ => ⟨o, k b o e⟩, fun i q es v hq e => ⟨es, v, by rw [List.getElem?_append_left (List.getElem?_eq_some_iff.mp e).1]; exact e, Nat.le_refl _, fun _ => ⟨rfl, by
      obtain ⟨o, g, _⟩ := R.dictAt hq e
      rw [g]; exact k _ _ g⟩⟩⟩
  have hbN : ∀ b, s.heap.get? b = none → G.base.get? b = none := fun b e => by
    cases q : G.base.get? b with
    | none => rfl
    | some o => rw [R.base b o q] at e; cases e
  have ownIff : ∀ b, own (ρ ++ [p]) b → own ρ b ∨ b = p.1 ∨ b = p.2 := by
    rintro b ⟨q, hq, e⟩
    rcases List.mem_append.mp hq with a | a
    · exact .inl ⟨q, a, e⟩
    · rw [List.mem_singleton.mp a] at e; exact .inr e
  have there : ∀ (j : Nat) (q : Addr × Addr), ρ[j]? = some q → (∃ o, s.heap.get? q.1 = some o) ∧ (∃ o, s.heap.get? q.2 = some o) := fun j q hq => by
    have hj : j < H.length := R.len ▸ (List.getElem?_eq_some_iff.mp hq).1
    have O := R.obj j q _ hq (List.getElem?_eq_getElem hj)
    cases hH : H[j] with
    | list xs => rw [hH] at O; obtain ⟨e, o, _, _, g, _⟩ := O; exact ⟨⟨o, g⟩, ⟨o, e ▸ g⟩⟩
    | dict xs v => rw [hH] at O; obtain ⟨e, _, ⟨o, _, _, g, _⟩, _⟩ := O; exact ⟨⟨o, g⟩, ⟨o, e ▸ g⟩⟩
    | cell xs => rw [hH] at O; obtain ⟨e, o, _, g, _⟩ := O; exact ⟨⟨o, g⟩, ⟨o, e ▸ g⟩⟩
    | inst c fs => rw [hH] at O; obtain ⟨C, m, _, _, g, ⟨o2, _, _, g2, _⟩, _⟩ := O; exact ⟨⟨_, g⟩, ⟨_, g2⟩⟩
  have apart : ∀ (j : Nat) (q : Addr × Addr), ρ[j]? = some q → q.1 ≠ p.1 ∧ q.1 ≠ p.2 ∧ q.2 ≠ p.1 ∧ q.2 ≠ p.2 := fun j q hq => by
    obtain ⟨⟨o, g⟩, o2, g2⟩ := there j q hq
    refine ⟨?_, ?_, ?_, ?_⟩ <;> intro e
    · rw [e, h1] at g; cases g
    · rw [e, h2] at g; cases g
    · rw [e, h1] at g2; cases g2
    · rw [e, h2] at g2; cases g2
  have hget : ∀ (j : Nat) (q : Addr × Addr), (ρ ++ [p])[j]? = some q → (j < ρ.length ∧ ρ[j]? = some q) ∨ (j = ρ.length ∧ q = p) := fun j q e => by
    rcases Nat.lt_trichotomy j ρ.length with g | g | g
    · exact .inl ⟨g, by rwa [List.getElem?_append_left g] at e⟩
    · subst g; rw [List.getElem?_append_right (Nat.le_refl _)] at e; simp at e; exact .inr ⟨rfl, e.symm⟩
    · rw [List.getElem?_append_right (Nat.le_of_lt g)] at e
      rw [List.getElem?_eq_none (by simp; omega)] at e; cases e
  refine ⟨⟨fun b o e => k b o (R.base b o e), fun q hq => (R.tabs q hq).keeps ?_ fun b o e _ => k b o e, by simp [R.len], fun i q o a b => ?_, fun i j a b ha hb hij => ?_, fun b hb => ?_, fun b hb hm => ?_, R.gens, R.os⟩, E⟩
  · obtain ⟨ps, g, _⟩ := R.tabs q hq
    rw [g]; exact (k _ _ g).symm
  · rcases hget i q a with ⟨g, a⟩ | ⟨rfl, rfl⟩
    · rw [List.getElem?_append_left (R.len ▸ g)] at b
      exact (R.obj i q o a b).mono E fun c ob _ e => k c ob e
    · rw [R.len, List.getElem?_append_right (Nat.le_refl _)] at b
      simp at b; subst b
      exact hO E
  · rcases hget i a ha with ⟨g, ha⟩ | ⟨rfl, rfl⟩ <;> rcases hget j b hb with ⟨g', hb⟩ | ⟨rfl, rfl⟩
    · exact R.disj i j a b ha hb hij
    · have x := apart i a (by assumption); exact ⟨x.1, x.2.1, x.2.2.1, x.2.2.2⟩
    · have x := apart j b (by assumption); exact ⟨Ne.symm x.1, Ne.symm x.2.2.1, Ne.symm x.2.1, Ne.symm x.2.2.2⟩
    · exact absurd rfl hij
  · rcases ownIff b hb with x | rfl | rfl
    · exact R.nobase b x
    · exact hbN _ h1
    · exact hbN _ h2
  · obtain ⟨q, hq, rfl⟩ := List.mem_map.mp hm
    obtain ⟨ps, g, _⟩ := R.tabs q hq
    rcases ownIff _ hb with x | x | x
    · exact R.notab _ x hm
    · rw [x, h1] at g; cases g
    · rw [x, h2] at g; cases g

theorem size_none (h : Heap) : h.get? h.objs.size = none := by
  cases q : h.get? h.objs.size with
  | none => rfl
  | some o => exact absurd (Heap.lt_size q) (Nat.lt_irrefl _)

theorem Rel.there (R : Rel G ρ H s) {b : Addr} (hb : own ρ b) : ∃ o, s.heap.get? b = some o := by
  obtain ⟨p, hp, e⟩ := hb
  obtain ⟨j, hj, hq⟩ := List.getElem_of_mem hp
  have hq' : ρ[j]? = some p := by rw [← hq]; exact List.getElem?_eq_getElem hj
  have hj' : j < H.length := R.len ▸ hj
  have O := R.obj j p _ hq' (List.getElem?_eq_getElem hj')
  cases hH : H[j] with
  | list xs => rw [hH] at O; obtain ⟨e', o, _, _, g, _⟩ := O; rcases e with rfl | rfl <;> exact ⟨o, by first | exact g | exact e' ▸ g⟩
  | dict xs v => rw [hH] at O; obtain ⟨e', _, ⟨o, _, _, g, _⟩, _⟩ := O; rcases e with rfl | rfl <;> exact ⟨o, by first | exact g | exact e' ▸ g⟩
  | cell xs => rw [hH] at O; obtain ⟨e', o, _, g, _⟩ := O; rcases e with rfl | rfl <;> exact ⟨o, by first | exact g | exact e' ▸ g⟩
  | inst c fs => rw [hH] at O; obtain ⟨C, m, _, _, g, ⟨o2, _, _, g2, _⟩, _⟩ := O; rcases e with rfl | rfl; exact ⟨_, g⟩; exact ⟨_, g2⟩
/-- an address that is not there is nobody's -/
theorem Rel.fresh (R : Rel G ρ H s) {b : Addr} (hb : s.heap.get? b = none) : ¬ own ρ b ∧ G.base.get? b = none ∧ b ∉ G.tabs.map (·.2) := by
  refine ⟨fun q => ?_, ?_, fun q => ?_⟩
  · obtain ⟨o, e⟩ := R.there q; rw [hb] at e; cases e
  · cases q : G.base.get? b with
    | none => rfl
    | some o => rw [R.base b o q] at hb; cases hb
  · obtain ⟨q', hq, rfl⟩ := List.mem_map.mp q
    obtain ⟨ps, g, _⟩ := R.tabs q' hq
    rw [hb] at g; cases g
/-- new objects of ours, several at once -/
theorem Rel.news {ps : List (Addr × Addr)} {os : List O} (R : Rel G ρ H s) (k : Keeps s.heap h') (hlen : ps.length = os.length) (hfr : ∀ p ∈ ps, s.heap.get? p.1 = none ∧ s.heap.get? p.2 = none)
    (hap : ∀ (i j : Nat) (p q : Addr × Addr), ps[i]? = some p → ps[j]? = some q → i ≠ j → p.1 ≠ q.1 ∧ p.1 ≠ q.2 ∧ p.2 ≠ q.1 ∧ p.2 ≠ q.2) (t : Nat)
    (hO : Ext G NoX ρ H s.heap (ρ ++ ps) (H ++ os) h' → ∀ (i : Nat) (p : Addr × Addr) (o : O), ps[i]? = some p → os[i]? = some o → OR G (ρ ++ ps) h' p o) :
    Rel G (ρ ++ ps) (H ++ os) { s with heap := h', toks := t } ∧ Ext G NoX ρ H s.heap (ρ ++ ps) (H ++ os) h' := by
  have E : Ext G NoX ρ H s.heap (ρ ++ ps) (H ++ os) h' := ⟨⟨ps, rfl, fun p hp => ⟨.inl (hfr p hp).1, .inl (hfr p hp).2⟩⟩, fun b o e _ _ _ => k b o e, fun b o e _ => k b o e, fun b o e _ => ⟨o, k b o e⟩, fun i q es v hq e => ⟨es, v, by rw [List.getElem?_append_left (List.getElem?_eq_some_iff.mp e).1]; exact e, Nat.le_refl _, fun _ => ⟨rfl, by
      obtain ⟨o, g, _⟩ := R.dictAt hq e
      rw [g]; exact k _ _ g⟩⟩⟩
  have hbN : ∀ b, s.heap.get? b = none → G.base.get? b = none := fun b e => by
    cases q : G.base.get? b with
    | none => rfl
    | some o => rw [R.base b o q] at e; cases e
  have ownIff : ∀ b, own (ρ ++ ps) b → own ρ b ∨ s.heap.get? b = none := by
    rintro b ⟨q, hq, e⟩
    rcases List.mem_append.mp hq with a | a
    · exact .inl ⟨q, a, e⟩
    · right; rcases e with rfl | rfl
      · exact (hfr q a).1
      · exact (hfr q a).2
  have there : ∀ b, own ρ b → ∃ o, s.heap.get? b = some o := fun b hb => R.there hb
  have apart : ∀ (j : Nat) (q p : Addr × Addr), ρ[j]? = some q → p ∈ ps → q.1 ≠ p.1 ∧ q.1 ≠ p.2 ∧ q.2 ≠ p.1 ∧ q.2 ≠ p.2 := fun j q p hq hp => by
    obtain ⟨o, g⟩ := there q.1 (own_of hq).1
    obtain ⟨o2, g2⟩ := there q.2 (own_of hq).2
    have hf := hfr p hp
    refine ⟨?_, ?_, ?_, ?_⟩ <;> intro e
    · rw [e, hf.1] at g; cases g
    · rw [e, hf.2] at g; cases g
    · rw [e, hf.1] at g2; cases g2
    · rw [e, hf.2] at g2; cases g2
  have hget : ∀ (j : Nat) (q : Addr × Addr), (ρ ++ ps)[j]? = some q → (j < ρ.length ∧ ρ[j]? = some q) ∨ (ρ.length ≤ j ∧ ps[j - ρ.length]? = some q) := fun j q e => by
    rcases Nat.lt_or_ge j ρ.length with g | g
    · exact .inl ⟨g, by rwa [List.getElem?_append_left g] at e⟩
    · rw [List.getElem?_append_right g] at e; exact .inr ⟨g, e⟩
  refine ⟨⟨fun b o e => k b o (R.base b o e), fun q hq => (R.tabs q hq).keeps ?_ fun b o e _ => k b o e, by simp [R.len, hlen], fun i q o a b => ?_, fun i j a b ha hb hij => ?_, fun b hb => ?_, fun b hb hm => ?_, R.gens, R.os⟩, E⟩
  · obtain ⟨ps, g, _⟩ := R.tabs q hq
    rw [g]; exact (k _ _ g).symm
  · rcases hget i q a with ⟨g, a⟩ | ⟨g, a⟩
    · rw [List.getElem?_append_left (R.len ▸ g)] at b
      exact (R.obj i q o a b).mono E fun c ob _ e => k c ob e
    · rw [List.getElem?_append_right (R.len ▸ g)] at b
      exact hO E _ _ _ a (by rw [R.len]; exact b)
  · rcases hget i a ha with ⟨g, ha⟩ | ⟨g, ha⟩ <;> rcases hget j b hb with ⟨g', hb⟩ | ⟨g', hb⟩
    · exact R.disj i j a b ha hb hij
    · exact apart i a b ha (List.mem_of_getElem? hb)
    · have x := apart j b a hb (List.mem_of_getElem? ha); exact ⟨Ne.symm x.1, Ne.symm x.2.2.1, Ne.symm x.2.1, Ne.symm x.2.2.2⟩
    · exact hap _ _ a b ha hb (by omega)
  · rcases ownIff b hb with x | x
    · exact R.nobase b x
    · exact hbN _ x
  · obtain ⟨q, hq, rfl⟩ := List.mem_map.mp hm
    obtain ⟨ps, g, _⟩ := R.tabs q hq
    rcases ownIff _ hb with x | x
    · exact R.notab _ x hm
    · rw [x] at g; cases g

/-- a list pushed -/
theorem Rel.pushList {xs : List V} {ws : List Value} (R : Rel G ρ H s) (hV : VRs G ρ s.heap xs ws) (hb : xs.length ≤ big) (t : Nat) :
    Rel G (ρ ++ [(s.heap.objs.size, s.heap.objs.size)]) (H ++ [.list xs]) { s with heap := s.heap.push { cls := .type "list", data := .seq ws.toArray }, toks := t } ∧
    Ext G NoX ρ H s.heap (ρ ++ [(s.heap.objs.size, s.heap.objs.size)]) (H ++ [.list xs]) (s.heap.push { cls := .type "list", data := .seq ws.toArray }) :=
  R.new (Keeps.push _ _) (size_none _) (size_none _) t fun E => ⟨rfl, _, _, _, Heap.get?_push_size _ rfl, rfl, ⟨rfl, rfl⟩, rfl, by simpa using hV.mono E, hb⟩
theorem new_at (ρ : Rho) (p : Addr × Addr) (H : Hp) (len : ρ.length = H.length) : (ρ ++ [p])[H.length]? = some p := by
  rw [← len, List.getElem?_append_right (Nat.le_refl _)]; simp
end
end Mine

end
section
open PySem PySem.W PySem.Calls PyProof.Rows
set_option autoImplicit false
namespace Mine

abbrev Mo (G : Gx) : Model := model G.prog G.w

/-- an iterator of ours and the model's -/
inductive ItR (G : Gx) (ρ : Rho) (H : Hp) (h : Heap) : It → Addr → Prop
  | lst {i k : Nat} {p : Addr × Addr} {a : Addr} : ρ[i]? = some p → h.IsListIter a p.1 k → ItR G ρ H h (.lst i k) a
  | rng {x n : Nat} {a : Addr} : h.get? a = some { cls := .type "range_iterator", dict := none, data := .fields #[rawInt x, rawInt n, rawInt 1], slots := #[] } →
      ItR G ρ H h (.vals ((List.range n).map fun (k : Nat) => V.int ((x + k : Nat) : Int))) a
  | strA {l : List Nat} {t : Tok} {i : Nat} {a : Addr} : h.IsStrIter a "str_ascii_iterator" ⟨l.toArray⟩ t i → ItR G ρ H h (.vals ((l.drop i).map fun c => V.str [c])) a
  | strW {l : List Nat} {t : Tok} {i : Nat} {a : Addr} : h.IsStrIter a "str_iterator" ⟨l.toArray⟩ t i → ItR G ρ H h (.vals ((l.drop i).map fun c => V.str [c])) a
  | dict {i k v : Nat} {p : Addr × Addr} {a : Addr} {n ep v₀ : Nat} {es₀ : List (List Nat × V)} : ρ[i]? = some p → H[i]? = some (.dict es₀ v₀) → v ≤ v₀ → h.IsKeyIter a p.1 k n ep →
      (v₀ = v → ∃ od ds, h.get? p.1 = some od ∧ od.data = .dict ds ep ∧ n = ds.size) → ItR G ρ H h (.dict i k v) a

theorem ItR.there {G : Gx} {ρ : Rho} {H : Hp} {h : Heap} {it : It} {a : Addr} (x : ItR G ρ H h it a) : ∃ o, h.get? a = some o := by
  cases x with
  | lst hp hi => obtain ⟨o, ho, r⟩ := hi; exact ⟨o, ho⟩
  | rng ho => exact ⟨_, ho⟩
  | strA hi => obtain ⟨o, ho, r⟩ := hi; exact ⟨o, ho⟩
  | strW hi => obtain ⟨o, ho, r⟩ := hi; exact ⟨o, ho⟩
  | dict hp hH hv hi hd => obtain ⟨o, ho, r⟩ := hi; exact ⟨o, ho⟩
theorem ItR.mono {G : Gx} {X : Addr → Prop} {ρ ρ' : Rho} {H H' : Hp} {h h' : Heap} {it : It} {a : Addr} (x : ItR G ρ H h it a) (e : Ext G X ρ H h ρ' H' h') (hn : ¬ own ρ a) (ht : a ∉ G.tabs.map (·.2)) (hX : ¬ X a) : ItR G ρ' H' h' it a := by
  cases x with
  | lst hp hi => obtain ⟨o, ho, r⟩ := hi; exact .lst (e.get hp) ⟨o, e.keep _ _ ho hn ht hX, r⟩
  | rng ho => exact .rng (e.keep _ _ ho hn ht hX)
  | strA hi => obtain ⟨o, ho, r⟩ := hi; exact .strA ⟨o, e.keep _ _ ho hn ht hX, r⟩
  | strW hi => obtain ⟨o, ho, r⟩ := hi; exact .strW ⟨o, e.keep _ _ ho hn ht hX, r⟩
  | dict hp hH hv hi hd =>
    obtain ⟨o, ho, r⟩ := hi
    obtain ⟨es', v', e1, l1, k1⟩ := e.ver _ _ _ _ hp hH
    refine .dict (e.get hp) e1 (Nat.le_trans hv l1) ⟨o, e.keep _ _ ho hn ht hX, r⟩ fun q => ?_
    obtain ⟨od, ds, g, d⟩ := hd (by omega)
    exact ⟨od, ds, by rw [(k1 (by omega)).2]; exact g, d⟩


theorem listAt_some {H : Hp} {i : Nat} {xs : List V} (e : listAt H i = some xs) : H[i]? = some (.list xs) := by
  unfold listAt at e
  split at e
  · rename_i ys h; cases e; exact h
  · cases e
theorem dictAt_some {H : Hp} {i : Nat} {es : List (List Nat × V) × Nat} (e : dictAt H i = some es) : H[i]? = some (.dict es.1 es.2) := by
  unfold dictAt at e
  split at e
  · rename_i ys v h; cases e; exact h
  · cases e
theorem str_app (x y : List Nat) : (⟨x.toArray⟩ : Str) ++ (⟨y.toArray⟩ : Str) = ⟨(x ++ y).toArray⟩ := by
  show Str.append _ _ = _
  simp [Str.append]
section
variable {G : Gx} {A : Around} {ρ : Rho} {H H' : Hp} {s : Shared}
theorem VRs.arr {h : Heap} {xs : List V} {items : Array Value} (hx : VRs G ρ h xs items.toList) : xs.length = items.size := by simpa using hx.1
/-- a list of ours in the model's heap -/
theorem Rel.list (R : Rel G ρ H s) {i : Nat} {p : Addr × Addr} {xs : List V} (hp : ρ[i]? = some p) (e : H[i]? = some (.list xs)) :
    ∃ (items : Array Value) (n : Nat) (dd : Option Addr) (sl : Array (Option Value)), s.heap.get? p.1 = some { cls := .type "list", dict := dd, data := .seq items n, slots := sl } ∧ VRs G ρ s.heap xs items.toList ∧ xs.length ≤ big ∧ p.2 = p.1 ∧ dd = none ∧ sl = #[] := by
  obtain ⟨h0, o1, items, n, g1, c1, ⟨q1, q2⟩, d1, v1, l1⟩ := R.obj _ _ _ hp e
  obtain ⟨cls, dd, data, sl⟩ := o1
  simp only at c1 d1 q1 q2
  subst c1 d1 q1 q2
  exact ⟨items, n, none, #[], g1, v1, l1, h0, rfl, rfl⟩
end
end Mine

end
section
open PySem PySem.W PySem.Calls PyProof.Rows
set_option autoImplicit false
namespace Mine
section
variable {G : Gx} {A : Around} {ρ : Rho} {H H' : Hp} {s : Shared} {d : Nat} {Er : Value → Shared → Prop} {a b c v : V} {a' b' v' : Value} {x : Str}

theorem big_lineP : big ≤ sizeLine := by decide
theorem str_len (l : List Nat) : (⟨l.toArray⟩ : Str).length = l.length := by show l.toArray.size = _; simp

theorem prim_bin {op : Operator} {Q : Value → Shared → Prop} (K : GOK G) (ar : AR d A) (hd : d ≤ 151) (R : Rel G ρ H s) (ha : VR G ρ s.heap a a') (hb : VR G ρ s.heap b b') (hv : binM op a b H = some (c, H'))
    (h : ∀ c' ρ' s', Ext G NoX ρ H s.heap ρ' H' s'.heap → Rel G ρ' H' s' → VR G ρ' s'.heap c c' → Q c' s') : wpAny (Mo G) A (binaryOp op a' b') Q Er s := by
  unfold binM at hv
  split at hv
  · cases hv; cases ha; cases hb
    exact add_int (h _ _ { s with toks := s.toks + 1 } Ext.refl (R.tok _) (.int _ _))
  · cases hv; cases ha; cases hb
    exact sub_int (h _ _ { s with toks := s.toks + 1 } Ext.refl (R.tok _) (.int _ _))
  · split at hv
    · rename_i hy
      cases hv; cases ha; cases hb
      refine PyProof.Rows.mul_int (h _ _ { s with toks := s.toks + 1 } Ext.refl (R.tok _) (.int _ _)) (IntMulOk.of_right (intBits_le_64 ?_ ?_)) <;> omega
    · cases hv
  · split at hv
    · cases hv
    · rename_i hy
      cases hv; cases ha; cases hb
      exact mod_int hy (h _ _ { s with toks := s.toks + 1 } Ext.refl (R.tok _) (.int _ _))
  · split at hv
    · rename_i hy
      cases hv; cases ha; cases hb
      exact PyProof.Rows.floordiv_int (by omega) (h _ _ { s with toks := s.toks + 1 } Ext.refl (R.tok _) (.int _ _)) (Or.inl (PyProof.noPylong_small (by omega)))
    · cases hv
  · split at hv
    · rename_i hy
      cases hv; cases ha; cases hb
      refine add_str (fun t' tk => ?_) ?_
      · rw [str_app]
        exact h _ _ { s with toks := tk } Ext.refl (R.tok _) (.str _ _ (by rw [List.length_append]; exact hy))
      · rw [str_len, str_len]
        exact Nat.le_trans hy big_lineP
    · cases hv
  · split at hv
    · rename_i i j xs ys h1 h2
      split at hv
      · rename_i hy
        cases hv; cases ha with
        | obj hp => cases hb with
          | obj hq =>
            obtain ⟨items, n, dd, sl, g1, v1, l1, _⟩ := R.list hp (listAt_some h1)
            obtain ⟨items2, n2, dd2, sl2, g2, v2, l2, _⟩ := R.list hq (listAt_some h2)
            have k1 := v1.arr; have k2 := v2.arr
            refine concat_meets ⟨_, g1, rfl⟩ ⟨_, g2, rfl⟩ noFill_list_add seq_list_add PySem.F.slot_list_add PySem.F.entry_list_add (PySem.F.args_list_add_2 _ _) (list_addW _ _ items items2 n n2 dd dd2 sl sl2 (by rw [← k1, ← k2]; exact Nat.le_trans hy big_lineP)) ⟨g1, g2, ?_⟩
            obtain ⟨R2, E2⟩ := R.pushList (v1.append v2) (by rw [List.length_append]; exact hy) s.toks
            have e : items ++ items2 = (items.toList ++ items2.toList).toArray := by simp
            rw [e]
            exact h _ _ { s with heap := _ } E2 R2 (.obj (p := (s.heap.objs.size, s.heap.objs.size)) (new_at _ _ _ R.len))
      · cases hv
    · cases hv
  · cases hv

theorem len_ne (l : List Nat) : (((l.length : Nat) : Int) != 0) = (l != []) := by
  cases l with
  | nil => rfl
  | cons a r =>
    rw [Bool.eq_iff_iff, bne_iff_ne, bne_iff_ne, List.length_cons]
    constructor
    · intro _ e; cases e
    · intro _ e; omega
theorem noBool_function : typeLookup (.type "function") "__bool__" = pure none := by rw [typeLookup_type, builtinLookup_eq_fast]; kernel_rfl
theorem noLen_function : typeLookup (.type "function") "__len__" = pure none := by rw [typeLookup_type, builtinLookup_eq_fast]; kernel_rfl
theorem truthy_function {f : Addr} {o : Obj} {Q : Bool → Shared → Prop} (ho : s.heap.get? f = some o) (hc : o.cls = .type "function") (h : Q true s) : wpAny (Mo G) A (truthy (.ref f)) Q Er s := by
  have hT : s.TypeIs (.ref f) "function" := ⟨o, ho, hc⟩
  unfold truthy
  first
    | refine wpAny_bind (wpAny_callSpecial?_none (name := Str.ofString "__bool__") hT noBool_function ?_)
    | refine wpAny_bind (wpAny_pure (wpAny_bind (wpAny_callSpecial?_none (name := Str.ofString "__bool__") hT noBool_function ?_)))
  first
    | refine wpAny_bind (wpAny_specialOf (name := Str.ofString "__len__") hT noLen_function ?_)
    | refine wpAny_bind (wpAny_pure (wpAny_bind (wpAny_specialOf (name := Str.ofString "__len__") hT noLen_function ?_)))
  exact wpAny_pure h

/-- a dict of ours in the model's heap -/
theorem Rel.dict (R : Rel G ρ H s) {i : Nat} {p : Addr × Addr} {es : List (List Nat × V)} {v : Nat} (hp : ρ[i]? = some p) (e : H[i]? = some (.dict es v)) :
    ∃ kvs, s.heap.DictOf (PySem.strKind G.prog G.w) p.1 kvs ∧ DRs G ρ s.heap es kvs ∧ es.length ≤ big ∧ p.2 = p.1 := by
  obtain ⟨h0, kvs, h1, h2, h3⟩ := R.obj _ _ _ hp e
  exact ⟨kvs, h1, h2, h3.1, h0⟩
theorem Rel.dictKeys (R : Rel G ρ H s) {i : Nat} {p : Addr × Addr} {es : List (List Nat × V)} {v : Nat} (hp : ρ[i]? = some p) (e : H[i]? = some (.dict es v)) : ∀ e ∈ es, e.1.length ≤ big := by
  obtain ⟨h0, kvs, h1, h2, h3⟩ := R.obj _ _ _ hp e
  exact h3.2
theorem DRs.len {h : Heap} {es : List (List Nat × V)} {kvs : List (Str × Value)} (x : DRs G ρ h es kvs) : es.length = kvs.length := by
  have := congrArg List.length x.1; simpa using this.symm
theorem not_sysm (K : GOK G) (R : Rel G ρ H s) {i : Nat} {p : Addr × Addr} (hp : ρ[i]? = some p) : (p.1 == sysModules) = false := by
  rw [beq_eq_false_iff_ne]
  intro e
  obtain ⟨o, ho⟩ := K.sysm
  have := R.nobase _ (own_of hp).1
  rw [e, ho] at this; cases this

theorem prim_truth {r : Bool} {Q : Bool → Shared → Prop} (K : GOK G) (ar : AR d A) (hd : d ≤ 151) (R : Rel G ρ H s) (ha : VR G ρ s.heap a a') (hv : truthM a H = some r)
    (h : ∀ s', Ext G NoX ρ H s.heap ρ H s'.heap → Rel G ρ H s' → Q r s') : wpAny (Mo G) A (truthy a') Q Er s := by
  unfold truthM at hv
  split at hv
  · cases hv; cases ha; exact truthy_none (h s Ext.refl R)
  · cases hv; cases ha; exact wpAny_truthy_bool (h s Ext.refl R)
  · cases hv; cases ha; exact PyProof.Rows.truthy_int (h s Ext.refl R)
  · rename_i l
    cases hv; cases ha with
    | str _ t hl =>
      refine SBL.truthy (by rw [str_len]; have : big = 1048576 := rfl; omega) ?_
      have e : (((⟨l.toArray⟩ : Str).length : Int) != 0) = (l != []) := by rw [str_len]; exact len_ne l
      rw [e]
      exact h { s with toks := _ } Ext.refl (R.tok _)
  · rename_i vs
    cases hv; cases ha with
    | tup ho hc hd' hl hi hb =>
      rename_i a o items n
      refine truthy_tuple (items := items.toArray) ⟨o, ho, hc, n, hd'⟩ (by have : big = 1048576 := rfl; simp; omega) ?_
      have e : (!items.toArray.isEmpty) = (!vs.isEmpty) := by rw [Bool.eq_iff_iff]; simp [← List.length_eq_zero_iff, hl]
      rw [e]
      exact h { s with toks := _ } Ext.refl (R.tok _)
  · split at hv
    · rename_i xs hH
      cases hv; cases ha with
      | obj hp =>
        obtain ⟨items, n, dd, sl, g1, v1, l1, _⟩ := R.list hp hH
        have k := v1.arr
        refine wpAny_truthy_list ⟨_, g1, rfl, n, rfl⟩ (by have : big = 1048576 := rfl; omega) ?_
        have e : (!items.isEmpty) = (!xs.isEmpty) := by rw [Bool.eq_iff_iff]; simp [← List.length_eq_zero_iff, ← Array.size_eq_zero_iff, k]
        rw [e]
        exact h { s with toks := _ } Ext.refl (R.tok _)
    · rename_i es ver hH
      cases hv; cases ha with
      | obj hp =>
        obtain ⟨kvs, g, dr, lb, _⟩ := R.dict hp hH
        have k := dr.len
        refine wpAny_truthy_dict (not_sysm K R hp) g (by have : big = 1048576 := rfl; omega) ?_
        have e : (!kvs.isEmpty) = (!es.isEmpty) := by rw [Bool.eq_iff_iff]; simp [← List.length_eq_zero_iff, k]
        rw [e]
        exact h { s with toks := _ } Ext.refl (R.tok _)
    · cases hv
  · split at hv
    · rename_i hx
      cases hv; cases ha with
      | glo hg =>
        obtain ⟨o, ho, hc⟩ := K.tru _ (by simpa using eq_of_beq hx ▸ hg)
        exact truthy_function (R.base _ _ ho) hc (h s Ext.refl R)
    · cases hv
  · cases hv; cases ha with
    | clo ho hk => exact truthy_function ho hk (h s Ext.refl R)
  · cases hv

theorem prim_neg {op : UnaryOp} {Q : Value → Shared → Prop} (ha : VR G ρ s.heap a a') (R : Rel G ρ H s) (hv : negM op a = some v)
    (h : ∀ v' s', Ext G NoX ρ H s.heap ρ H s'.heap → Rel G ρ H s' → VR G ρ s'.heap v v' → Q v' s') : wpAny (Mo G) A (unaryOp op a') Q Er s := by
  unfold negM at hv
  split at hv
  · cases hv; cases ha
    exact PyProof.Rows.neg_int (h _ { s with toks := _ } Ext.refl (R.tok _) (.int _ _))
  · cases hv
end
end Mine

end
section
open PySem PySem.W PySem.Calls PyProof.Rows
set_option autoImplicit false
namespace Mine
section
variable {G : Gx} {A : Around} {ρ : Rho} {H H' : Hp} {s : Shared} {d : Nat} {Er : Value → Shared → Prop} {a b c v : V} {a' b' v' : Value} {x : Str}

theorem eqL_spec {f : V → V → Option Bool} : ∀ {xs ys : List V} {r : Bool}, eqL f xs ys = some r → xs.length = ys.length ∧ ∃ e : Nat → Bool, (∀ (j : Nat) (x y : V), xs[j]? = some x → ys[j]? = some y → f x y = some (e j)) ∧ r = (List.range xs.length).all e := by
  intro xs
  induction xs with
  | nil =>
    intro ys r h
    cases ys with
    | nil => simp [eqL] at h; exact ⟨rfl, fun _ => true, fun j x y e => by simp at e, by simp [h]⟩
    | cons b q => simp [eqL] at h
  | cons a xs ih =>
    intro ys r h
    cases ys with
    | nil => simp [eqL] at h
    | cons b q =>
      simp only [eqL] at h
      split at h
      · rename_i x y h1 h2
        cases h
        obtain ⟨hl, e, he, hr⟩ := ih h2
        refine ⟨by simp [hl], fun j => if j = 0 then x else e (j - 1), fun j u v hu hv => ?_, ?_⟩
        · cases j with
          | zero => simp at hu hv; subst hu hv; simpa using h1
          | succ j => simpa using he j u v (by simpa using hu) (by simpa using hv)
        · subst hr
          rw [List.length_cons, List.range_succ_eq_map, List.all_cons, List.all_map]
          simp [Function.comp_def]
      · cases h

theorem eqL_same {f : V → V → Option Bool} : ∀ {xs ys : List V} {r : Bool}, (∀ (j : Nat) (x y : V) (q : Bool), xs[j]? = some x → ys[j]? = some y → f x y = some q → q = true) → eqL f xs ys = some r → r = true := by
  intro xs ys r hf h
  obtain ⟨hl, e, he, hr⟩ := eqL_spec h
  subst hr
  rw [List.all_eq_true]
  intro j hj
  have hj : j < xs.length := by simpa using hj
  have hj' : j < ys.length := hl ▸ hj
  exact hf j _ _ _ (List.getElem?_eq_getElem hj) (List.getElem?_eq_getElem hj') (he j _ _ (List.getElem?_eq_getElem hj) (List.getElem?_eq_getElem hj'))

theorem eqV_same (R : Rel G ρ H s) : ∀ (n : Nat) (x y : V) (w : Value) (r : Bool), VR G ρ s.heap x w → VR G ρ s.heap y w → eqV n H x y = some r → r = true := by
  intro n
  induction n with
  | zero => intro x y w r _ _ h; cases h
  | succ n ih =>
    intro x y w r hx hy h
    cases hx with
    | none => cases hy; simp [eqV] at h; exact h
    | bool b => cases hy; simp [eqV] at h; exact h
    | int i t => cases hy; simp [eqV] at h; exact h
    | str l t hl => cases hy; simp [eqV] at h; exact h
    | @tup vs a o items n1 ho hc hd hl hi hb =>
      cases hy with
      | @tup vs' _ o' items' n' ho' hc' hd' hl' hi' hb' =>
        rw [ho] at ho'; cases ho'
        rw [hd] at hd'; injection hd' with e1 e2
        simp only [eqV] at h
        have e3 : items = items' := by simpa using e1
        subst e3
        refine eqL_same (fun j u v q hu hv hq => ?_) h
        have hj : j < items.length := by rw [← hl]; exact (List.getElem?_eq_some_iff.mp hu).1
        exact ih u v items[j] q (hi j u _ hu (List.getElem?_eq_getElem hj)) (hi' j v _ hv (List.getElem?_eq_getElem hj)) hq
      | _ => simp [eqV] at h
    | @obj i p hp =>
      generalize hw : Value.ref p.1 = w at hy
      cases hy <;> try (simp [eqV] at h; done)
      rename_i i' p' hp'
      have hw : p.1 = p'.1 := by injection hw
      have hij : i = i' := Decidable.byContradiction fun hij => (R.disj _ _ _ _ hp hp' hij).1 hw
      subst hij
      simp only [eqV] at h
      split at h
      · rename_i xs ys h1 h2
        rw [h1] at h2; cases h2
        obtain ⟨items, n, dd, sl, g1, v1, l1, _⟩ := R.list hp h1
        refine eqL_same (fun j u v q hu hv hq => ?_) h
        obtain ⟨w1, e1, r1⟩ := v1.get hu
        obtain ⟨w2, e2, r2⟩ := v1.get hv
        rw [e1] at e2; cases e2
        exact ih u v w1 q r1 r2 hq
      · cases h
    | _ => cases hy <;> simp [eqV] at h

theorem EqAt.of_flat {v w : Value} {k : Bool} {A : Around} {s : Shared} (hne : (v == w) = false) (hf : ∀ x t, v ≠ .float x t) (h : SeqAt.RcAt A s v w k) : SeqAt.EqAt A s v w k := fun prog w' E Q hq => by
  unfold eqBool
  refine wpAny_holding ?_
  refine wpAny_ite_split (fun hab => absurd hab (by rw [hne]; simp)) (fun _ => ?_)
  cases v with
  | float x t => exact absurd rfl (hf x t)
  | _ => exact wpAny_bind (h prog w' E _ (wpAny_truthy_bool hq))

theorem eq_both (R : Rel G ρ H s) : ∀ (n : Nat) (A : Around) (x y : V) (x' y' : Value) (r : Bool), A.units + n ≤ 5000 → VR G ρ s.heap x x' → VR G ρ s.heap y y' → eqV n H x y = some r →
    SeqAt.RcAt A s x' y' r ∧ SeqAt.EqAt A s x' y' r := by
  intro n
  induction n with
  | zero => intro A x y x' y' r _ _ _ h; cases h
  | succ n ih =>
    intro A x y x' y' r hu hx hy h
    have hc : A.units < cLine := by have : cLine = 9900 := rfl; omega
    have hu1 : A.in1.units + n ≤ 5000 := by show A.units + 1 + n ≤ 5000; omega
    have flat : ∀ {k : Bool}, r = k → (x' == y') = false → (∀ q t, x' ≠ .float q t) → SeqAt.RcAt A s x' y' k → SeqAt.RcAt A s x' y' r ∧ SeqAt.EqAt A s x' y' r := by
      intro k e hne hf hrc; subst e; exact ⟨hrc, EqAt.of_flat hne hf hrc⟩
    cases hx with
    | none =>
      cases hy <;> try (simp [eqV] at h; done)
      · simp [eqV] at h; subst h; exact ⟨SeqAt.RcAt.none_none, SeqAt.EqAt.same _⟩
      · simp [eqV] at h; exact flat h rfl (by intros; simp) (SeqAt.RcAt.none_int _ _)
      · simp [eqV] at h; exact flat h rfl (by intros; simp) (SeqAt.RcAt.none_str _ _)
    | bool b =>
      cases hy <;> try (simp [eqV] at h; done)
      simp only [eqV, Option.some.injEq] at h; subst h; exact ⟨SeqAt.RcAt.bool_bool _ _, SeqAt.EqAt.bool_bool _ _⟩
    | int i t =>
      cases hy <;> try (simp [eqV] at h; done)
      · simp [eqV] at h; exact flat h rfl (by intros; simp) (SeqAt.RcAt.int_none _ _)
      · simp only [eqV, Option.some.injEq] at h; subst h; exact ⟨SeqAt.RcAt.int_int _ _ _ _, SeqAt.EqAt.int_int _ _ _ _⟩
      · simp [eqV] at h; exact flat h rfl (by intros; simp) (SeqAt.RcAt.int_str _ _ _ _)
    | str l t hl =>
      cases hy <;> try (simp [eqV] at h; done)
      · simp [eqV] at h; exact flat h rfl (by intros; simp) (SeqAt.RcAt.str_none _ _)
      · simp [eqV] at h; exact flat h rfl (by intros; simp) (SeqAt.RcAt.str_int _ _ _ _)
      · rename_i l' t' hl'
        have e : (l == l') = ((⟨l.toArray⟩ : Str) == ⟨l'.toArray⟩) := by rw [Bool.eq_iff_iff, beq_iff_eq, beq_iff_eq]; simp
        simp only [eqV, Option.some.injEq] at h; subst h; rw [e]; exact ⟨SeqAt.RcAt.str_str _ _ _ _, fun prog w E Q hq => eqBool_str hq⟩
    | @tup vs a o items n1 ho hcl hd hl hi hb =>
      have hx : VR G ρ s.heap (.tup vs) (.ref a) := .tup ho hcl hd hl hi hb
      cases hy with
      | @tup vs' a' o' items' n' ho' hc' hd' hl' hi' hb' =>
        have hy : VR G ρ s.heap (.tup vs') (.ref a') := .tup ho' hc' hd' hl' hi' hb'
        have h0 := h
        simp only [eqV] at h
        obtain ⟨hlen, e, he, hr⟩ := eqL_spec h
        have hrc : SeqAt.RcAt A s (.ref a) (.ref a') r := by
          have := SeqAt.RcAt.tuples (items := items.toArray) (items2 := items'.toArray) (e := e) (A := A) (s := s) ⟨o, ho, hcl, n1, hd⟩ ⟨o', ho', hc', n', hd'⟩ hc (fun j h1 h2 => by
            have h1 : j < items.length := by simpa using h1
            have h2 : j < items'.length := by simpa using h2
            have g1 := List.getElem?_eq_getElem (hl ▸ h1 : j < vs.length)
            have g2 := List.getElem?_eq_getElem (hl' ▸ h2 : j < vs'.length)
            exact (ih A.in1 _ _ _ _ _ hu1 (hi j _ _ g1 (by simp [h1])) (hi' j _ _ g2 (by simp [h2])) (he j _ _ g1 g2)).2)
          have q : ((List.range (min items.toArray.size items'.toArray.size)).all e && items.toArray.size == items'.toArray.size) = r := by
            rw [hr]; simp [← hl, ← hl', hlen]
          rw [q] at this; exact this
        refine ⟨hrc, ?_⟩
        by_cases haa : a = a'
        · subst haa
          have := eqV_same R _ _ _ _ _ hx hy h0
          subst this
          exact SeqAt.EqAt.same _
        · exact SeqAt.EqAt.of_refs haa hrc
      | _ => simp [eqV] at h
    | @obj i p hp =>
      generalize hw : y' = w at hy
      cases hy <;> try (simp [eqV] at h; done)
      rename_i i' p' hp'
      subst hw
      have hx : VR G ρ s.heap (.obj i) (.ref p.1) := .obj hp
      have hy : VR G ρ s.heap (.obj i') (.ref p'.1) := .obj hp'
      have h0 := h
      simp only [eqV] at h
      split at h
      · rename_i xs ys h1 h2
        obtain ⟨items, n1, dd, sl, g1, v1, l1, _⟩ := R.list hp h1
        obtain ⟨items2, n2, dd2, sl2, g2, v2, l2, _⟩ := R.list hp' h2
        obtain ⟨hlen, e, he, hr⟩ := eqL_spec h
        have k1 := v1.arr; have k2 := v2.arr
        have hrc : SeqAt.RcAt A s (.ref p.1) (.ref p'.1) r := by
          have := SeqAt.RcAt.lists (items := items) (items2 := items2) (e := e) (A := A) (s := s) ⟨_, g1, rfl, n1, rfl⟩ ⟨_, g2, rfl, n2, rfl⟩ (by omega) hc (fun j h1 h2 => by
            have q1 := List.getElem?_eq_getElem (k1 ▸ h1 : j < xs.length)
            have q2 := List.getElem?_eq_getElem (k2 ▸ h2 : j < ys.length)
            obtain ⟨w1, e1, r1⟩ := v1.get q1
            obtain ⟨w2, e2, r2⟩ := v2.get q2
            have e1' : items[j] = w1 := by simpa [h1] using e1
            have e2' : items2[j] = w2 := by simpa [h2] using e2
            rw [e1', e2']
            exact (ih A.in1 _ _ _ _ _ hu1 r1 r2 (he j _ _ q1 q2)).2)
          rw [← k1, ← hr] at this; exact this
        refine ⟨hrc, ?_⟩
        by_cases haa : p.1 = p'.1
        · have := eqV_same R _ _ _ _ _ hx (haa ▸ hy) h0
          subst this
          rw [haa]
          exact SeqAt.EqAt.same _
        · exact SeqAt.EqAt.of_refs haa hrc
      · cases h
    | _ => cases hy <;> simp [eqV] at h

theorem AR.units_le (ar : AR d A) (hd : d ≤ 151) : A.units + 100 ≤ 5000 := by have := ar.units; omega

theorem subIn_iff (x l : List Nat) : (subIn x l = true) ↔ ∃ i, i + (⟨x.toArray⟩ : Str).length ≤ (⟨l.toArray⟩ : Str).length ∧ Builtin.Str.subAt ⟨l.toArray⟩ ⟨x.toArray⟩ i = true := by
  unfold subIn Builtin.Str.subAt
  rw [List.any_eq_true]
  simp only [str_len, beq_iff_eq, List.mem_range]
  have e : ∀ i, (l.toArray.extract i (i + x.length) = x.toArray) ↔ (l.drop i).take x.length = x := by
    intro i
    rw [List.extract_toArray]
    simp [List.extract_eq_take_drop]
  constructor
  · rintro ⟨k, hk, hx⟩
    refine ⟨k, ?_, (e k).mpr hx⟩
    have := congrArg List.length hx
    rw [List.length_take, List.length_drop] at this
    omega
  · rintro ⟨i, hi, hx⟩
    exact ⟨i, by omega, (e i).mp hx⟩
theorem strsOf_spec : ∀ {vs : List V} {ls : List (List Nat)}, strsOf vs = some ls → vs = ls.map V.str := by
  intro vs
  induction vs with
  | nil => intro ls h; simp [strsOf] at h; subst h; rfl
  | cons v vs ih =>
    intro ls h
    cases v <;> simp [strsOf] at h
    obtain ⟨a, ha, rfl⟩ := h
    rw [ih ha]; rfl

def eqSt (x : Str) : Value → Bool
  | .str y _ => y == x
  | _ => false
theorem any_strs {x : List Nat} : ∀ {ls : List (List Nat)} {items : List Value}, ls.length = items.length → (∀ (j : Nat) (h1 : j < ls.length) (h2 : j < items.length), ∃ u, items[j] = .str ⟨ls[j].toArray⟩ u) → (items.toArray.any (eqSt ⟨x.toArray⟩)) = ls.any (x == ·) := by
  intro ls
  induction ls with
  | nil => intro items hl _; cases items with | nil => simp | cons => simp at hl
  | cons l ls ih =>
    intro items hl hit
    cases items with
    | nil => simp at hl
    | cons v items =>
      have := ih (items := items) (by simpa using hl) (fun j h1 h2 => hit (j + 1) (by simpa using h1) (by simpa using h2))
      rw [List.any_toArray] at this ⊢
      rw [List.any_cons, List.any_cons, this]
      obtain ⟨u, hu⟩ := hit 0 (by simp) (by simp)
      have e1 : v = .str ⟨l.toArray⟩ u := hu
      have e2 : eqSt ⟨x.toArray⟩ v = (x == l) := by
        rw [e1]
        show ((⟨l.toArray⟩ : Str) == ⟨x.toArray⟩) = _
        rw [Bool.eq_iff_iff, beq_iff_eq, beq_iff_eq]
        constructor
        · intro h; injection h with h; exact (List.toArray_inj h).symm
        · intro h; rw [h]
      rw [e2]

theorem prim_cmp {op : CmpOp} {r : Bool} {Q : Value → Shared → Prop} (K : GOK G) (ar : AR d A) (hd : d ≤ 151) (R : Rel G ρ H s) (ha : VR G ρ s.heap a a') (hb : VR G ρ s.heap b b') (hv : cmpM op a b H = some r)
    (h : ∀ ρ' s', Ext G NoX ρ H s.heap ρ' H s'.heap → Rel G ρ' H s' → Q (.bool r) s') : wpAny (Mo G) A (compareOp op a' b') Q Er s := by
  have h' : Q (.bool r) s := h ρ s Ext.refl R
  have hu := ar.units_le hd
  unfold cmpM at hv
  split at hv
  · exact (eq_both R 40 A _ _ _ _ _ (by omega) ha hb hv).1 _ _ _ _ h'
  · rename_i x y
    cases hv; cases ha; cases hb
    refine PyProof.Rows.ne_int ?_
    have e : (x != y) = decide (x ≠ y) := by rw [Bool.eq_iff_iff]; simp
    rw [e]; exact h'
  · rename_i l l'
    cases hv; cases ha; cases hb
    refine PyProof.Rows.ne_str ?_
    have e : ((⟨l.toArray⟩ : Str) != ⟨l'.toArray⟩) = (l != l') := by rw [Bool.eq_iff_iff, bne_iff_ne, bne_iff_ne]; simp
    rw [e]; exact h'
  · cases hv; cases ha; cases hb; exact PyProof.Rows.lt_int h'
  · cases hv; cases ha; cases hb; exact PyProof.Rows.le_int h'
  · cases hv; cases ha; cases hb; exact PyProof.Rows.gt_int h'
  · cases hv; cases ha; cases hb; exact PyProof.Rows.ge_int h'
  · cases hv; cases ha; cases hb; exact P.ge_str (by simpa using h')
  · cases hv; cases ha; cases hb; exact P.le_str (by simpa using h')
  · rename_i l l'
    cases hv; cases ha; cases hb
    refine PyProof.Rows.in_str ?_
    have e : (!(Builtin.Str.occurrences (⟨l'.toArray⟩ : Str) ⟨l.toArray⟩ 0 (⟨l'.toArray⟩ : Str).length 1).isEmpty) = subIn l l' := by
      rw [Bool.eq_iff_iff, subIn_iff]; exact StrLaws.found_iff _ _
    rw [e]; exact h'
  · rename_i x vs
    cases ha with
    | str _ t hl =>
      cases hb with
      | @tup _ a o items n ho hcl hdd hlen hi hbb =>
        obtain ⟨ls, h1, h2⟩ := Option.map_eq_some_iff.mp hv
        have hvs := strsOf_spec h1
        subst h2 hvs
        have hl' : ls.length = items.length := by simpa using hlen
        have hit : ∀ (j : Nat) (h1 : j < ls.length) (h2 : j < items.length), ∃ u, items[j] = .str ⟨ls[j].toArray⟩ u := fun j h1 h2 => by
          have := hi j (.str ls[j]) items[j] (by rw [List.getElem?_map, List.getElem?_eq_getElem h1]; rfl) (List.getElem?_eq_getElem h2)
          generalize hw : items[j] = w at this
          cases this
          exact ⟨_, rfl⟩
        refine SeqAt.in_tupleAt (items := items.toArray) (eqSt ⟨x.toArray⟩) ⟨o, ho, hcl, n, hdd⟩ (fun y hy => ?_) ?_
        · obtain ⟨j, hj, e⟩ := List.getElem_of_mem (by simpa using hy : y ∈ items)
          obtain ⟨u, hu'⟩ := hit j (hl' ▸ hj) hj
          rw [← e, hu']
          exact fun prog w E Q hq => eqBool_str hq
        · rw [any_strs hl' hit]; exact h'
  · cases hb
    split at hv
    · cases ha; cases hv; exact is_none_none h'
    · rename_i hne
      cases hv
      refine is_none_ne (fun e => ?_) h'
      subst e; cases ha; exact hne rfl
  · cases hb
    split at hv
    · cases ha; cases hv; exact isnot_none_none h'
    · rename_i hne
      cases hv
      refine isnot_none_ne (fun e => ?_) h'
      subst e; cases ha; exact hne rfl
  · cases hv
end
end Mine

end
section
open PySem PySem.W PySem.Calls PyProof.Rows
set_option autoImplicit false
namespace Mine
section
variable {G : Gx} {A : Around} {ρ : Rho} {H H' : Hp} {s : Shared} {d : Nat} {Er : Value → Shared → Prop} {a b c v : V} {a' b' v' : Value} {x : Str}

theorem slots_mapSeq (f : Array Value → Array Value) (o : Obj) : (Obj.mapSeq f o).slots = o.slots := by
  unfold Obj.mapSeq
  split <;> rfl
theorem dict_mapSeq (f : Array Value → Array Value) (o : Obj) : (Obj.mapSeq f o).dict = o.dict := by
  unfold Obj.mapSeq
  split <;> rfl

/-- a list of ours has turned -/
theorem Rel.setList (R : Rel G ρ H s) {i : Nat} {p : Addr × Addr} {xs ys : List V} {items : Array Value} {h' : Heap} (hp : ρ[i]? = some p) (hH : H[i]? = some (.list xs)) (hl : h'.IsList p.1 items) (hdi : ∀ o, h'.get? p.1 = some o → o.dict = none ∧ o.slots = #[]) (hs : Heap.SameBut p.1 s.heap h')
    (hV : VRs G ρ s.heap ys items.toList) (hb : ys.length ≤ big) (t : Nat) : Rel G ρ (H.set i (.list ys)) { s with heap := h', toks := t } ∧ Ext G NoX ρ H s.heap ρ (H.set i (.list ys)) h' := by
  obtain ⟨i1, n1, dd, sl, g1, v1, l1, hpp, _⟩ := R.list hp hH
  obtain ⟨o, ho, hc, n, hd⟩ := hl
  have hf : ∀ o, s.heap.get? p.1 = some o → frozen o = false := fun o e => by rw [g1] at e; cases e; rfl
  refine R.upd hp (List.getElem?_eq_some_iff.mp hH).1 (fun b h1 _ => hs.2 b h1) hf (by rw [hpp]; exact hf) ⟨o, ho⟩ ⟨o, by rw [hpp]; exact ho⟩ t (fun es v e => by rw [hH] at e; cases e) fun E => ?_
  exact ⟨hpp, o, items, n, ho, hc, hdi o ho, hd, hV.mono E, hb⟩

theorem list_iaddW (l b : Addr) (items items2 : Array Value) (n n2 : Nat) (dd dd2 : Option Addr) (sl sl2 : Array (Option Value)) (hs0 : ¬(!items.isEmpty && Builtin.List.listTooLong (items.size + items2.size)) = true) (hs1 : items.size ≤ sizeLine) (hs2 : items.size + items2.size ≤ sizeLine + 1) :
    Meets (Builtin.«list.__iadd__» ⟨[.ref l, .ref b], []⟩) (fun _ R s => s.heap.get? l = some { cls := .type "list", dict := dd, data := .seq items n, slots := sl } ∧ s.heap.get? b = some { cls := .type "list", dict := dd2, data := .seq items2 n2, slots := sl2 } ∧ R (.ok (.ret (Value.ref l))) { s with heap := s.heap.update l (Obj.mapSeq fun x => x ++ items2), toks := s.toks }) :=
  .of_wp fun prog w A R s h => by
    obtain ⟨hp, g, d, tk, os⟩ := s; obtain ⟨hl, hb, h⟩ := h; have f1 := AutoSeq1.idx_int; have f2 := AutoSeq1.sub_tuple_tuple; have f3 := AutoSeq1.sub_list_list; have f4 := AutoSeq1.sub_tuple_list; have f5 := AutoSeq1.sub_list_tuple;
    have hz' : (items ++ items2).size ≤ sizeLine + 1 := by rw [Array.size_append]; exact hs2
    wp_walk using (wpAny_updateSeq hl rfl (hz := hs1) (_hz' := hz')), AutoSeq1.wpAny_loadPart' hl, AutoSeq1.wpAny_loadPart' hb; exact ⟨_, rfl, h⟩

theorem seq_list_iadd : seqSlot? (.type "list") (dunderI "add") = pure (some (.builtin "list.__iadd__")) := PyProof.Rows.seqSlot_of PySem.F.slot_list_iadd.lookup (by decide +kernel)

theorem inplace_list {l r : Value} {Q : Value → Shared → Prop} (ha : s.TypeIs l "list") (hb : s.TypeIs r "list") (hc : wpAny (Mo G) A (call (.builtin "list.__iadd__") [l, r]) Q Er s) :
    wpAny (Mo G) A (inplaceOp .Add l r) Q Er s := by
  unfold inplaceOp
  refine wpAny_holding ?_
  have hfi : fillsInplaceSlot (.type "list") "add" (Operator.Add == .Add) = pure false := by
    unfold fillsInplaceSlot
    show (typeLookup (.type "list") (dunderI "add") >>= fun fi => pure (fi.isSome && !isSeqSlot fi)) = pure false
    rw [PySem.F.slot_list_iadd.lookup]
    have : isSeqSlot (some (.builtin "list.__iadd__")) = true := by decide +kernel
    show (pure (true && !isSeqSlot (some (.builtin "list.__iadd__"))) : Sem Bool) = pure false
    rw [this]; rfl
  refine wpAny_bind (wpAny_typeOf ha (wpAny_bind (wpAny_of_eq hfi ?_)))
  show wpAny _ A (if false = true then _ else _) Q Er s
  rw [if_neg Bool.false_ne_true]
  refine wpAny_bind (wpAny_binaryOp1_none (nm := "add") ha hb noFill_list_add ?_)
  refine wpAny_bind (wpAny_of_eq seq_list_iadd ?_)
  exact wpAny_bind (wpAny_rule hc)

theorem prim_aug {op : Operator} {Q : Value → Shared → Prop} (K : GOK G) (ar : AR d A) (hd : d ≤ 151) (R : Rel G ρ H s) (ha : VR G ρ s.heap a a') (hb : VR G ρ s.heap b b') (hv : augM op a b H = some (c, H'))
    (h : ∀ c' ρ' s', Ext G NoX ρ H s.heap ρ' H' s'.heap → Rel G ρ' H' s' → VR G ρ' s'.heap c c' → Q c' s') : wpAny (Mo G) A (inplaceOp op a' b') Q Er s := by
  unfold augM at hv
  split at hv
  · split at hv
    · rename_i i j xs ys h1 h2
      split at hv
      · cases hv
      rename_i hij
      split at hv
      · rename_i hy
        cases hv; cases ha with
        | obj hp => cases hb with
          | obj hq =>
            rename_i p q
            obtain ⟨items, n, dd, sl, g1, v1, l1, _, hdd⟩ := R.list hp (listAt_some h1)
            obtain ⟨items2, n2, dd2, sl2, g2, v2, l2, _⟩ := R.list hq (listAt_some h2)
            have k1 := v1.arr; have k2 := v2.arr
            have hbl := big_lineP
            have h0 : ¬(!items.isEmpty && Builtin.List.listTooLong (items.size + items2.size)) = true := by
              rw [← k1, ← k2]
              have : Builtin.List.listTooLong (xs.length + ys.length) = false := by
                unfold Builtin.List.listTooLong
                simp only [decide_eq_false_iff_not, ge_iff_le, Nat.not_le, gt_iff_lt]
                have : big = 1048576 := rfl
                omega
              rw [this]; simp
            refine inplace_list ⟨_, g1, rfl⟩ ⟨_, g2, rfl⟩ (call_meets PySem.F.slot_list_iadd ⟨_, g1, rfl⟩ PySem.F.entry_list_iadd (PySem.F.args_list_iadd_2 _ _) (list_iaddW _ _ items items2 n n2 dd dd2 sl sl2 h0 (by omega) (by omega)) ⟨g1, g2, ?_⟩)
            have hd' : ∃ n', (Obj.mapSeq (fun x => x ++ items2) ({ cls := .type "list", dict := dd, data := .seq items n, slots := sl } : Obj)).data = .seq (items ++ items2) n' := Obj.data_mapSeq rfl _
            obtain ⟨n', hd'⟩ := hd'
            have hl : (s.heap.update p.1 (Obj.mapSeq fun x => x ++ items2)).IsList p.1 (items ++ items2) := ⟨_, Heap.get?_update_self _ g1 (Obj.isFreed_of_seq hd'), Obj.cls_mapSeq .., n', hd'⟩
            obtain ⟨R2, E2⟩ := R.setList hp (listAt_some h1) hl (fun o e => by rw [Heap.get?_update_self _ g1 (Obj.isFreed_of_seq hd')] at e; cases e; rw [dict_mapSeq, slots_mapSeq]; exact hdd) (Heap.SameBut.update ..) (ys := xs ++ ys) (by rw [Array.toList_append]; exact v1.append v2) (by rw [List.length_append]; exact hy) s.toks
            exact h _ _ { s with heap := _ } E2 R2 (.obj hp)
      · cases hv
    · cases hv
  · cases hv; cases ha; cases hb
    exact PyProof.Rows.iadd_int (h _ _ { s with toks := s.toks + 1 } Ext.refl (R.tok _) (.int _ _))
  · cases hv; cases ha; cases hb
    exact PyProof.Rows.isub_int (h _ _ { s with toks := s.toks + 1 } Ext.refl (R.tok _) (.int _ _))
  · split at hv
    · rename_i hy
      cases hv; cases ha; cases hb
      refine PyProof.Rows.iadd_str (fun t' tk => ?_) ?_
      · rw [str_app]
        exact h _ _ { s with toks := tk } Ext.refl (R.tok _) (.str _ _ (by rw [List.length_append]; exact hy))
      · rw [str_len, str_len]
        exact Nat.le_trans hy big_lineP
    · cases hv
  · cases hv

theorem subscripted_plain {slice : Expr} (hsl : ∀ a b c p, slice ≠ .Slice a b c p) (o i : Value) : subscripted slice false o i = operate [o, i] (getItem o i) := by
  unfold subscripted
  split
  · exact absurd rfl (hsl _ _ _ _)
  · rename_i e; cases e
  · rfl
theorem indexL_spec {α : Type} {l : List α} {k : Int} {v : α} (h : indexL l k = some v) : ∃ j, seqIndex? k l.length = some j ∧ l[j]? = some v ∧ (0 ≤ k → j = k.toNat) ∧ (k < 0 → j = (k + l.length).toNat ∧ -(l.length : Int) ≤ k) := by
  unfold indexL at h
  split at h
  · rename_i h0
    have hj := (List.getElem?_eq_some_iff.mp h).1
    refine ⟨k.toNat, ?_, h, fun _ => rfl, fun q => by omega⟩
    unfold seqIndex?
    simp only [show ¬ k < 0 by omega, if_false]
    rw [if_pos (by simp; omega)]
  · rename_i h0
    split at h
    · rename_i h1
      have hj := (List.getElem?_eq_some_iff.mp h).1
      refine ⟨(k + l.length).toNat, ?_, h, fun q => by omega, fun _ => ⟨rfl, by omega⟩⟩
      unfold seqIndex?
      simp only [show k < 0 by omega, if_true]
      rw [if_pos (by simp; omega)]
    · cases h
theorem wordI_spec {k : Int} (h : wordI k = true) : -(2 ^ 63) ≤ k ∧ k < 2 ^ 63 := by
  unfold wordI at h
  rw [Bool.and_eq_true, decide_eq_true_eq, decide_eq_true_eq] at h
  exact h

theorem item_list_any {value slice : Expr} {l : Addr} {items : Array Value} {k : Int} {u : Tok} {j : Nat} {w : Value} {Q : Value → Shared → Prop} (hsl : ∀ a b c p, slice ≠ .Slice a b c p) (hl : s.heap.IsList l items)
    (hw : -(2 ^ 63) ≤ k ∧ k < 2 ^ 63) (h1 : 0 ≤ k → j = k.toNat) (h2 : k < 0 → j = (k + items.size).toNat ∧ -(items.size : Int) ≤ k) (hx : items[j]? = some w) (h : Q w s) :
    wpAny (Mo G) A (subscriptTail value slice (.ref l) (.int k u)) Q Er s := by
  refine tail_any hl.typeIs slot_list_getitem.lookup ?_ (subscripted_plain hsl _ _)
  by_cases h0 : 0 ≤ k
  · exact wpAny_getItem_list hl h0 hw.2 (by rw [← h1 h0]; exact hx) h
  · obtain ⟨e, hn⟩ := h2 (by omega)
    exact wpAny_getItem_list_neg hl (by omega) hn hw.1 (by rw [← e]; exact hx) h

theorem find_DRs : ∀ {h : Heap} {es : List (List Nat × V)} {kvs : List (Str × Value)} {k : List Nat} {v : V}, DRs G ρ h es kvs → getD es k = some v → ∃ w, valueAt kvs (⟨k.toArray⟩ : Str) = some w ∧ VR G ρ h v w := by
  intro h es
  induction es with
  | nil => intro kvs k v _ e; cases e
  | cons e es ih =>
    intro kvs k v D hv
    obtain ⟨k', v'⟩ := e
    cases kvs with
    | nil => have := D.1; simp at this
    | cons kv kvs =>
      obtain ⟨x, w⟩ := kv
      have e1 : x = ⟨k'.toArray⟩ := by have := D.1; simp at this; exact this.1
      obtain ⟨w0, ws0, e0, V0, Vs0⟩ := VRs.cons_inv (v := v') (vs := es.map (·.2)) (ws := w :: kvs.map (·.2)) D.2
      cases e0
      unfold getD at hv
      unfold valueAt
      rw [List.find?_cons]
      split at hv
      · rename_i hk
        cases hv
        have : decide (x = (⟨k.toArray⟩ : Str)) = true := by rw [e1, hk]; simp
        rw [this]
        exact ⟨w, rfl, V0⟩
      · rename_i hk
        have : decide (x = (⟨k.toArray⟩ : Str)) = false := by
          rw [e1, decide_eq_false_iff_not]; intro q; injection q with q; exact hk (List.toArray_inj q)
        rw [this]
        exact ih ⟨by have := D.1; simp at this; exact this.2, Vs0⟩ hv

theorem prim_sub {value slice : Expr} {Q : Value → Shared → Prop} (K : GOK G) (ar : AR d A) (hd : d ≤ 151) (R : Rel G ρ H s) (ha : VR G ρ s.heap a a') (hb : VR G ρ s.heap b b') (hv : subM G.T a b H = some v)
    (hsl : ∀ a b c p, slice ≠ .Slice a b c p) (h : ∀ v' s', Ext G NoX ρ H s.heap ρ H s'.heap → Rel G ρ H s' → VR G ρ s'.heap v v' → Q v' s') : wpAny (Mo G) A (subscriptTail value slice a' b') Q Er s := by
  unfold subM at hv
  split at hv
  · rename_i l k
    split at hv
    · rename_i hw
      cases ha; cases hb
      rename_i t hl u
      obtain ⟨c, hc, rfl⟩ := Option.map_eq_some_iff.mp hv
      obtain ⟨j, h1, h2, _⟩ := indexL_spec hc
      have hw' := wordI_spec hw
      refine tail_any (typeIs_str _ _ _) PySem.F.slot_str_getitem.lookup ?_ (subscripted_plain hsl _ _)
      refine SB.getItem (x := ⟨l.toArray⟩) (by unfold fitsSsize; simp; omega) ?_ ?_
      · unfold Txt.charAt; rw [str_len, h1]; simp [h2]
      · have : Txt.item ⟨l.toArray⟩ k = ⟨[c].toArray⟩ := by unfold Txt.item Txt.charAt; rw [str_len, h1]; simp [h2]
        rw [this]
        exact h _ { s with toks := s.toks + 1 } Ext.refl (R.tok _) (.str _ _ (by show 1 ≤ 1048576; omega))
    · cases hv
  · rename_i vs k
    split at hv
    · rename_i hw
      cases hb
      cases ha with
      | @tup _ a o items n ho hc hdd hlen hi hbb =>
        obtain ⟨j, h1, h2, _⟩ := indexL_spec hv
        have hw' := wordI_spec hw
        have hj := (List.getElem?_eq_some_iff.mp h2).1
        have hj' : j < items.length := hlen ▸ hj
        exact item_tupleT (l := items) ⟨o, ho, hc, n, hdd⟩ hw'.1 hw'.2 (by rw [← hlen]; exact h1) (List.getElem?_eq_getElem hj') (h _ s Ext.refl R (hi j _ _ h2 (List.getElem?_eq_getElem hj'))) (subscripted_plain hsl _ _)
    · cases hv
  · rename_i i k
    split at hv
    · rename_i hw
      cases hb
      obtain ⟨xs, h1, h2⟩ := Option.bind_eq_some_iff.mp hv
      cases ha with
      | obj hp =>
        obtain ⟨items, n, dd, sl, g1, v1, l1, _⟩ := R.list hp (listAt_some h1)
        obtain ⟨j, h3, h4, h5, h6⟩ := indexL_spec h2
        obtain ⟨w1, e1, r1⟩ := v1.get h4
        have k1 := v1.arr
        exact item_list_any hsl ⟨_, g1, rfl, n, rfl⟩ (wordI_spec hw) h5 (by rw [← k1]; exact h6) (by simpa using e1) (h _ s Ext.refl R r1)
    · cases hv
  · rename_i y k
    split at hv
    · rename_i hw
      cases hb
      obtain ⟨xs, h1, h2⟩ := Option.bind_eq_some_iff.mp hv
      cases ha with
      | glo hg =>
        obtain ⟨o, items, n, g1, c1, d1, v1⟩ := K.lst _ _ h1 _ hg
        obtain ⟨j, h3, h4, h5, h6⟩ := indexL_spec h2
        obtain ⟨w1, e1, r1⟩ := v1.get h4
        have k1 := v1.arr
        exact item_list_any hsl ⟨_, R.base _ _ g1, c1, n, d1⟩ (wordI_spec hw) h5 (by rw [← k1]; exact h6) (by simpa using e1) (h _ s Ext.refl R (ext_base R.base r1))
    · cases hv
  · rename_i i k
    obtain ⟨es, h1, h2⟩ := Option.bind_eq_some_iff.mp hv
    cases hb with
    | str _ t hl =>
      cases ha with
      | obj hp =>
        obtain ⟨kvs, g, dr, lb, _⟩ := R.dict hp (dictAt_some h1)
        obtain ⟨w, hw, V⟩ := find_DRs dr h2
        refine tail_any g.typeIs slot_dict_getitem.lookup ?_ (subscripted_plain hsl _ _)
        exact wpAny_getItem_of (knd := PySem.strKind G.prog G.w) (strKind_is _ _ _ _) g.mapOf hw (h _ { s with toks := s.toks + 1 } Ext.refl (R.tok _) V)
  · cases hv
end
end Mine

end
section
open PySem PySem.W PySem.Calls PyProof.Rows
set_option autoImplicit false
namespace Mine
section
variable {G : Gx} {A : Around} {ρ : Rho} {H H' : Hp} {s : Shared} {d : Nat} {Er : Value → Shared → Prop} {a b c v : V} {a' b' v' : Value} {x : Str}

theorem intOpt_spec {lo : Option Int} {h : Heap} (hv : intOpt b = some lo) (hb : VR G ρ h b b') : ∃ p : Option (Int × Tok), p.map (·.1) = lo ∧ b' = partValue p ∧ IsPart b' lo := by
  unfold intOpt at hv
  split at hv
  · cases hv; cases hb; exact ⟨none, rfl, rfl, .none⟩
  · split at hv
    · cases hv; cases hb; exact ⟨some (_, _), rfl, rfl, .int _ _⟩
    · cases hv
  · cases hv

theorem clip_lo (n : Nat) (lo : Option Int) : (match lo with | none => (0 : Int) | some i => max 0 (min (if i < 0 then i + n else i) (n : Int))) = (loI n lo : Int) := by
  cases lo with
  | none => rfl
  | some i =>
    unfold loI clampI
    simp only
    split <;> omega
theorem clip_hi (n : Nat) (hi : Option Int) : (match hi with | none => (n : Int) | some i => max 0 (min (if i < 0 then i + n else i) (n : Int))) = (hiI n hi : Int) := by
  cases hi with
  | none => rfl
  | some i =>
    unfold hiI clampI
    simp only
    split <;> omega
theorem strSlice_range (n : Nat) (lo hi : Option Int) : Builtin.Str.strSliceIndices lo hi 1 n = (List.range (hiI n hi - loI n lo)).map (loI n lo + ·) := by
  unfold Builtin.Str.strSliceIndices
  simp only [show (1 : Int) > 0 by decide, if_true]
  rw [← sliceRange_one, ← clip_lo, ← clip_hi]
  cases lo <;> cases hi <;> rfl
theorem slice_txt (l : List Nat) (lo hi : Option Int) : Txt.slice ⟨l.toArray⟩ lo hi = ⟨(sliceL l lo hi).toArray⟩ := by
  have key : ((Builtin.Str.strSliceIndices lo hi 1 (⟨l.toArray⟩ : Str).length).filterMap ((⟨l.toArray⟩ : Str).cps[·]?)) = sliceL l lo hi := by
    rw [str_len, strSlice_range]
    show List.filterMap (l.toArray[·]?) _ = _
    rw [pick_run]
    rfl
  unfold Txt.slice
  split
  · rename_i hc
    rw [Bool.and_eq_true] at hc
    have hlen : (Builtin.Str.strSliceIndices lo hi 1 (⟨l.toArray⟩ : Str).length).length = l.length := by have := hc.2; rw [str_len] at this ⊢; simpa using this
    rw [str_len, strSlice_range] at hlen
    simp only [List.length_map, List.length_range] at hlen
    have h1 : hiI l.length hi ≤ l.length := by
      cases hi with
      | none => exact Nat.le_refl _
      | some i => unfold hiI clampI; simp only; split <;> omega
    unfold sliceL
    by_cases h0 : l.length = 0
    · have : l = [] := List.length_eq_zero_iff.mp h0
      subst this; simp
    · have e1 : loI l.length lo = 0 := by omega
      have e2 : hiI l.length hi = l.length := by omega
      rw [e1, e2]; simp
  · rw [key]
theorem slice_pick (items : Array Value) (lo hi : Option Int) : slicePick items lo hi none = (sliceL items.toList lo hi).toArray := by
  unfold slicePick
  have e : sliceBounds lo hi none items.size = ((loI items.size lo : Int), (hiI items.size hi : Int), 1) := by
    simp only [sliceBounds, Option.getD_none, show (1 : Int) > 0 by decide, if_true]
    rw [← clip_lo, ← clip_hi]
    rfl
  rw [e]
  simp only [sliceRange_one, pick_run]
  rfl
theorem sliceL_length {α β : Type} {l : List α} {m : List β} (h : l.length = m.length) (lo hi : Option Int) : (sliceL l lo hi).length = (sliceL m lo hi).length := by unfold sliceL; simp [h]
theorem sliceL_le {α : Type} (l : List α) (lo hi : Option Int) : (sliceL l lo hi).length ≤ l.length := by unfold sliceL; rw [List.length_take, List.length_drop]; omega
theorem VRs.slice {h : Heap} {vs : List V} {ws : List Value} (x : VRs G ρ h vs ws) (lo hi : Option Int) : VRs G ρ h (sliceL vs lo hi) (sliceL ws lo hi) := by
  unfold sliceL
  rw [← x.1]
  exact (x.drop _).take _

theorem prim_slice {value : Expr} {l u : Option Expr} {p : Pos} {c' : Value} {Q : Value → Shared → Prop} (K : GOK G) (ar : AR d A) (hd : d ≤ 151) (R : Rel G ρ H s) (ha : VR G ρ s.heap a a') (hb : VR G ρ s.heap b b') (hc : VR G ρ s.heap c c')
    (hv : sliceM G.T a b c H = some (v, H')) (h : ∀ v' ρ' s', Ext G NoX ρ H s.heap ρ' H' s'.heap → Rel G ρ' H' s' → VR G ρ' s'.heap v v' → Q v' s') :
    wpAny (Mo G) A (newFields "slice" [b', c', .none]) (fun i' s₁ => wpAny (Mo G) A (subscriptTail value (.Slice l u none p) a' i') Q Er s₁) Er s := by
  refine wpAny_newObj_type ?_
  unfold sliceM at hv
  split at hv
  · rename_i w lo hi h1 h2
    cases hv
    cases ha with
    | str _ t hl =>
      obtain ⟨pl, e1, e2, _⟩ := intOpt_spec h1 hb
      obtain ⟨pu, e3, e4, _⟩ := intOpt_spec h2 hc
      subst e2 e4
      refine tail_any (typeIs_str _ _ _) PySem.F.slot_str_getitem.lookup ?_ rfl
      refine wpAny_getItem_str_slice (l := pl) (u := pu) (st := none) ⟨_, Heap.get?_push_size _ rfl, rfl, rfl⟩ rfl ?_
      have k : Keeps s.heap (s.heap.push { cls := .type "slice", data := .fields #[partValue pl, partValue pu, .none] }) := Keeps.push _ _
      have e : ∀ t', Value.str (Txt.slice ⟨w.toArray⟩ (pl.map (·.1)) (pu.map (·.1))) t' = .str ⟨(sliceL w lo hi).toArray⟩ t' := fun t' => by rw [e1, e3, slice_txt]
      refine post_val_or_str ⟨Nat.le_trans (Txt.slice_le ⟨w.toArray⟩ _ _) ?_, fun t' tk => ?_⟩
      · rw [str_len]; exact Nat.le_trans hl big_lineP
      · have := h (.str ⟨(sliceL w lo hi).toArray⟩ t') ρ { s with heap := s.heap.push { cls := .type "slice", data := .fields #[partValue pl, partValue pu, .none] }, toks := tk } (R.extKeeps k) (R.keeps k _) (.str _ _ (Nat.le_trans (sliceL_le _ _ _) hl))
        rw [← e t'] at this
        exact this
  · rename_i i lo hi h1 h2
    obtain ⟨xs, h3, h4⟩ := Option.map_eq_some_iff.mp hv
    cases h4
    cases ha with
    | obj hp =>
      obtain ⟨items, n, dd, sl, g1, v1, l1, _⟩ := R.list hp (listAt_some h3)
      have k1 := v1.arr
      obtain ⟨pl, e1, e2, q1⟩ := intOpt_spec h1 hb
      obtain ⟨pu, e3, e4, q2⟩ := intOpt_spec h2 hc
      have k : Keeps s.heap (s.heap.push { cls := .type "slice", data := .fields #[b', c', .none] }) := Keeps.push _ _
      have hli : Heap.IsList s.heap _ items := ⟨_, g1, rfl, n, rfl⟩
      refine tail_any (Heap.IsList.typeIs (s := { s with heap := s.heap.push { cls := .type "slice", data := .fields #[b', c', .none] } }) (hli.push _)) list_getitem_lookup ?_ rfl
      refine wpAny_getItem_list_slice (hli.push _) (Heap.IsSliceOf.new ..) q1 q2 .none (by simp) ?_ (by rw [← k1]; exact Nat.le_trans l1 big_lineP)
      have R1 := R.keeps k s.toks
      obtain ⟨R2, E2⟩ := R1.pushList ((v1.mono (R.extKeeps (X := NoX) k)).slice lo hi) (Nat.le_trans (sliceL_le _ _ _) l1) s.toks
      rw [slice_pick]
      exact h _ _ { s with heap := _ } ((R.extKeeps k).trans' E2) R2 (.obj (p := (_, _)) (new_at _ _ _ R.len))
  · rename_i y lo hi h1 h2
    obtain ⟨xs, h3, h4⟩ := Option.bind_eq_some_iff.mp hv
    split at h4
    · rename_i hbig
      cases h4
      cases ha with
      | glo hg =>
        obtain ⟨o, items, n, g0, c1, d1, v0⟩ := K.lst _ _ h3 _ hg
        have g1 := R.base _ _ g0
        have v1 : VRs G ρ s.heap xs items.toList := ⟨v0.1, fun i v w e e' => ext_base R.base (v0.2 i v w e e')⟩
        have k1 := v1.arr
        obtain ⟨pl, e1, e2, q1⟩ := intOpt_spec h1 hb
        obtain ⟨pu, e3, e4, q2⟩ := intOpt_spec h2 hc
        have k : Keeps s.heap (s.heap.push { cls := .type "slice", data := .fields #[b', c', .none] }) := Keeps.push _ _
        have hli : Heap.IsList s.heap _ items := ⟨_, g1, c1, n, d1⟩
        refine tail_any (Heap.IsList.typeIs (s := { s with heap := s.heap.push { cls := .type "slice", data := .fields #[b', c', .none] } }) (hli.push _)) list_getitem_lookup ?_ rfl
        refine wpAny_getItem_list_slice (hli.push _) (Heap.IsSliceOf.new ..) q1 q2 .none (by simp) ?_ (by rw [← k1]; exact Nat.le_trans hbig big_lineP)
        have R1 := R.keeps k s.toks
        obtain ⟨R2, E2⟩ := R1.pushList ((v1.mono (R.extKeeps (X := NoX) k)).slice lo hi) (Nat.le_trans (sliceL_le _ _ _) hbig) s.toks
        rw [slice_pick]
        exact h _ _ { s with heap := _ } ((R.extKeeps k).trans' E2) R2 (.obj (p := (_, _)) (new_at _ _ _ R.len))
    · cases h4
  · cases hv

theorem DRs.cons {h : Heap} {es : List (List Nat × V)} {kvs : List (Str × Value)} {k : List Nat} {v : V} {w : Value} (V : VR G ρ h v w) (D : DRs G ρ h es kvs) : DRs G ρ h ((k, v) :: es) (((⟨k.toArray⟩ : Str), w) :: kvs) :=
  ⟨by simp [D.1], VRs.cons V D.2⟩
theorem DRs.cons_inv {h : Heap} {es : List (List Nat × V)} {kvs : List (Str × Value)} {k : List Nat} {v : V} (D : DRs G ρ h ((k, v) :: es) kvs) : ∃ (w : Value) (r : List (Str × Value)), kvs = ((⟨k.toArray⟩ : Str), w) :: r ∧ VR G ρ h v w ∧ DRs G ρ h es r := by
  cases kvs with
  | nil => have := D.1; simp at this
  | cons kv kvs =>
    obtain ⟨x, w⟩ := kv
    have e1 := D.1
    simp only [List.map_cons, List.cons.injEq] at e1
    obtain ⟨w0, ws0, e0, V0, Vs0⟩ := VRs.cons_inv (v := v) (vs := es.map (·.2)) (ws := w :: kvs.map (·.2)) D.2
    cases e0
    exact ⟨w, kvs, by rw [e1.1], V0, e1.2, Vs0⟩
theorem DRs.nil {h : Heap} : DRs G ρ h [] [] := ⟨rfl, VRs.nil⟩
theorem DRs.nil_inv {h : Heap} {kvs : List (Str × Value)} (D : DRs G ρ h [] kvs) : kvs = [] := by
  have := D.len; cases kvs with
  | nil => rfl
  | cons => simp at this
theorem str_ne {k k' : List Nat} (h : ¬ k' = k) : ¬ ((⟨k'.toArray⟩ : Str) = ⟨k.toArray⟩) := fun q => by injection q with q; exact h (List.toArray_inj q)
theorem stored_spec : ∀ {h : Heap} {es : List (List Nat × V)} {kvs : List (Str × Value)} {k : List Nat} {v : V} {w : Value}, DRs G ρ h es kvs → VR G ρ h v w → (kvs.map (·.1)).Nodup → DRs G ρ h (putD es k v) (stored kvs (⟨k.toArray⟩ : Str) w) := by
  intro h es
  induction es with
  | nil =>
    intro kvs k v w D V _
    have := D.nil_inv
    subst this
    exact DRs.cons V DRs.nil
  | cons e es ih =>
    intro kvs k v w D V hn
    obtain ⟨k', u⟩ := e
    obtain ⟨w', r, rfl, V', D'⟩ := D.cons_inv
    rw [List.map_cons, List.nodup_cons] at hn
    unfold putD
    split
    · rename_i hk
      subst hk
      have : stored (((⟨k'.toArray⟩ : Str), w') :: r) (⟨k'.toArray⟩ : Str) w = ((⟨k'.toArray⟩ : Str), w) :: r := by
        unfold stored
        rw [if_pos (by simp), List.map_cons, if_pos rfl, map_store_of_not_mem _ _ _ hn.1]
      rw [this]
      exact DRs.cons V D'
    · rename_i hk
      have : stored (((⟨k'.toArray⟩ : Str), w') :: r) (⟨k.toArray⟩ : Str) w = ((⟨k'.toArray⟩ : Str), w') :: stored r (⟨k.toArray⟩ : Str) w := by
        unfold stored
        have e1 : decide ((⟨k'.toArray⟩ : Str) = ⟨k.toArray⟩) = false := decide_eq_false (str_ne hk)
        rw [List.any_cons, e1, Bool.false_or]
        split
        · rw [List.map_cons, if_neg (str_ne hk)]
        · rfl
      rw [this]
      exact DRs.cons V' (ih D' V hn.2)
theorem putD_length : ∀ (es : List (List Nat × V)) (k : List Nat) (v : V), (putD es k v).length ≤ es.length + 1
  | [], _, _ => by simp [putD]
  | (k', u) :: es, k, v => by
    unfold putD
    split
    · simp
    · have := putD_length es k v; simp only [List.length_cons]; omega

theorem putD_keys : ∀ {es : List (List Nat × V)} {k : List Nat} {v : V}, (∀ e ∈ es, e.1.length ≤ big) → k.length ≤ big → ∀ e ∈ putD es k v, e.1.length ≤ big
  | [], k, v, _, hk => by simp only [putD, List.mem_singleton, forall_eq]; exact hk
  | (k', u) :: es, k, v, h, hk => by
    unfold putD
    split
    · intro e he
      rcases List.mem_cons.mp he with rfl | he
      · exact hk
      · exact h e (List.mem_cons_of_mem _ he)
    · intro e he
      rcases List.mem_cons.mp he with rfl | he
      · exact h _ (List.mem_cons_self ..)
      · exact putD_keys (fun e he => h e (List.mem_cons_of_mem _ he)) hk e he

/-- a dict of ours has turned -/
theorem Rel.setDict (R : Rel G ρ H s) {i : Nat} {p : Addr × Addr} {es es' : List (List Nat × V)} {ver ver' : Nat} {kvs : List (Str × Value)} {h' : Heap} (hp : ρ[i]? = some p) (hH : H[i]? = some (.dict es ver)) (g : h'.DictOf (PySem.strKind G.prog G.w) p.1 kvs)
    (hs : Heap.SameBut p.1 s.heap h') (D : DRs G ρ s.heap es' kvs) (hb : es'.length ≤ big ∧ ∀ e ∈ es', e.1.length ≤ big) (hver : ver < ver') (t : Nat) : Rel G ρ (H.set i (.dict es' ver')) { s with heap := h', toks := t } ∧ Ext G NoX ρ H s.heap ρ (H.set i (.dict es' ver')) h' := by
  obtain ⟨kvs0, g0, d0, l0, hpp⟩ := R.dict hp hH
  obtain ⟨o, hg, hfz⟩ := R.dictAt hp hH
  have hf : ∀ o, s.heap.get? p.1 = some o → frozen o = false := fun o' e => by rw [hg] at e; cases e; exact hfz
  have ho : ∃ o, h'.get? p.1 = some o := by obtain ⟨o, _, _, ho, _⟩ := g; exact ⟨o, ho⟩
  refine R.upd hp (List.getElem?_eq_some_iff.mp hH).1 (fun b h1 _ => hs.2 b h1) hf (by rw [hpp]; exact hf) ho (by rw [hpp]; exact ho) t (fun es0 v0 e => by rw [hH] at e; cases e; exact ⟨_, _, rfl, hver⟩) fun E => ?_
  exact ⟨hpp, kvs, g, D.mono E, hb⟩

theorem prim_setitem {Q : Unit → Shared → Prop} (K : GOK G) (ar : AR d A) (hd : d ≤ 151) (R : Rel G ρ H s) (ha : VR G ρ s.heap a a') (hb : VR G ρ s.heap b b') (hc : VR G ρ s.heap v v') (hv : setItemM a b v H = some H')
    (h : ∀ s', Ext G NoX ρ H s.heap ρ H' s'.heap → Rel G ρ H' s' → Q () s') : wpAny (Mo G) A (setItem a' b' v') Q Er s := by
  unfold setItemM at hv
  split at hv
  · rename_i i k
    obtain ⟨es, h1, h2⟩ := Option.bind_eq_some_iff.mp hv
    split at h2
    · rename_i hsz
      cases h2
      cases hb with
      | str _ t hl =>
        cases ha with
        | obj hp =>
          obtain ⟨kvs, g, dr, lb, hpp⟩ := R.dict hp (dictAt_some h1)
          have hn : (kvs.map (·.1)).Nodup := by obtain ⟨_, _, _, _, _, _, _, _, hn⟩ := g; exact hn
          refine wpAny_setItem_pairs (knd := PySem.strKind G.prog G.w) (strKind_is _ _ _ _) g (fun h' hm hs => ?_) (by rw [← dr.len]; exact Nat.le_trans lb big_lineP)
          obtain ⟨R2, E2⟩ := R.setDict hp (dictAt_some h1) hm hs (stored_spec dr hc hn) ⟨Nat.le_trans (putD_length _ _ _) hsz, putD_keys (R.dictKeys hp (dictAt_some h1)) hl⟩ (Nat.lt_succ_self _) (s.toks + 1)
          exact h { s with heap := h', toks := s.toks + 1 } E2 R2
    · cases h2
  · cases hv
end
end Mine

end
section
open PySem PySem.W PySem.Calls PyProof.Rows
set_option autoImplicit false
namespace Mine
section
variable {G : Gx} {A : Around} {ρ : Rho} {H H' : Hp} {s : Shared} {d : Nat} {Er : Value → Shared → Prop} {a b c v : V} {a' b' v' : Value} {x : Str}

theorem prim_iter {it : It} {Q : Value → Shared → Prop} (K : GOK G) (ar : AR d A) (hd : d ≤ 151) (R : Rel G ρ H s) (ha : VR G ρ s.heap a a') (hv : iterM a H = some it)
    (h : ∀ b s', Ext G NoX ρ H s.heap ρ H s'.heap → Rel G ρ H s' → ItR G ρ H s'.heap it b → s.heap.get? b = none → Q (.ref b) s') : wpAny (Mo G) A (pyIter a') Q Er s := by
  have put : ∀ (o : Obj), ItR G ρ H (s.heap.push o) it s.heap.objs.size → Q (.ref s.heap.objs.size) { s with heap := s.heap.push o } := fun o I =>
    h _ { s with heap := s.heap.push o } (R.extKeeps (Keeps.push _ _)) (R.keeps (Keeps.push _ _) s.toks) I (size_none _)
  unfold iterM at hv
  split at hv
  · rename_i i
    cases ha with
    | obj hp =>
      split at hv
      · rename_i xs hH
        cases hv
        obtain ⟨items, n, dd, sl, g1, v1, l1, _⟩ := R.list hp hH
        exact wpAny_pyIter_list ⟨_, g1, rfl, n, rfl⟩ (put _ (.lst hp ⟨_, Heap.get?_push_size _ rfl, rfl, rfl⟩))
      · rename_i es ver hH
        cases hv
        obtain ⟨kvs, g, dr, lb, _⟩ := R.dict hp hH
        obtain ⟨ep, hat⟩ := g.dictAt
        refine wpAny_pyIter_dict (not_sysm K R hp) hat (put _ ?_)
        obtain ⟨o, es', ho, hx, hdd, hk, hpr, hn⟩ := id hat
        refine .dict hp hH (Nat.le_refl _) ⟨_, Heap.get?_push_size _ rfl, rfl, rfl⟩ fun _ => ⟨o, es', Heap.get?_push_of_some _ ho, hdd, ?_⟩
        rw [← hpr.length]; simp
      · cases hv
  · rename_i l
    cases hv
    cases ha with
    | str _ t hl =>
      by_cases hc : (⟨l.toArray⟩ : Str).cps.all (· < 128) = true
      · exact wpAny_pyIter_ascii hc (put _ (by
          have := ItR.strA (G := G) (ρ := ρ) (H := H) (l := l) (t := t) (i := 0) (a := s.heap.objs.size) (h := s.heap.push { cls := .type "str_ascii_iterator", data := .fields #[.str ⟨l.toArray⟩ t, .int 0 0] }) ⟨_, Heap.get?_push_size _ rfl, rfl, rfl⟩
          simpa using this))
      · exact wpAny_pyIter_wide (by simpa using hc) (put _ (by
          have := ItR.strW (G := G) (ρ := ρ) (H := H) (l := l) (t := t) (i := 0) (a := s.heap.objs.size) (h := s.heap.push { cls := .type "str_iterator", data := .fields #[.str ⟨l.toArray⟩ t, .int 0 0] }) ⟨_, Heap.get?_push_size _ rfl, rfl, rfl⟩
          simpa using this))
  · rename_i n
    split at hv
    · rename_i hn
      cases hv
      cases ha with
      | rng hr =>
        have hbig : big = 1048576 := rfl
        have hsz : Builtin.Range.rangeSize 0 n 1 = ((n.toNat : Nat) : Int) := by
          unfold Builtin.Range.rangeSize
          rw [if_pos (by decide)]
          split
          · rw [Int.ediv_one]; omega
          · omega
        refine wpAny_pyIter_range hr ?_ ?_
        · unfold Builtin.Range.small
          rw [hsz]
          have f : ∀ i : Int, 0 ≤ i → i ≤ 1048576 → Builtin.Range.rangeFitsLong i = true := fun i h1 h2 => by
            unfold Builtin.Range.rangeFitsLong
            rw [Bool.and_eq_true, decide_eq_true_eq, decide_eq_true_eq]; omega
          rw [f 0 (by omega) (by omega), f n hn.1 (by omega), f 1 (by omega) (by omega), f _ (by omega) (by omega), if_pos (by decide), f (n + (1 - 1)) (by omega) (by omega)]
          simp
        · rw [hsz]
          have := ItR.rng (G := G) (ρ := ρ) (H := H) (x := 0) (n := n.toNat) (a := s.heap.objs.size) (h := s.heap.push { cls := .type "range_iterator", data := .fields #[rawInt 0, rawInt ((n.toNat : Nat) : Int), rawInt 1] }) (Heap.get?_push_size _ rfl)
          simp only [Nat.zero_add] at this
          exact put _ this
    · cases hv
  · cases hv

theorem prim_iterAgain {it : It} {b : Addr} {Q : Value → Shared → Prop} (hi : ItR G ρ H s.heap it b) (h : Q (.ref b) s) : wpAny (Mo G) A (pyIter (.ref b)) Q Er s := by
  cases hi with
  | lst _ hi => exact wpAny_pyIter_listiter hi h
  | rng hi => exact wpAny_pyIter_rangeiter hi h
  | strA hi => exact wpAny_pyIter_striter_ascii hi h
  | strW hi => exact wpAny_pyIter_striter_wide hi h
  | dict _ _ _ hi _ => exact wpAny_pyIter_keyiter hi h

theorem prim_letgo {Q : Flow → Shared → Prop} {e : Expr} {p : Pos} (h : Q .next s) : wpAny (Mo G) A (dropValue e p a') Q Er s := wpAny_dropValue h

theorem prim_next {it : It} {res : Option (V × It)} {b : Addr} {Q : Option Value → Shared → Prop} (K : GOK G) (ar : AR d A) (hd : d ≤ 151) (R : Rel G ρ H s) (hi : ItR G ρ H s.heap it b) (hn : ¬ own ρ b) (hb : G.base.get? b = none) (ht : b ∉ G.tabs.map (·.2))
    (hv : nextM it H = some res)
    (h0 : res = none → ∀ s', Ext G (fun c => c = b) ρ H s.heap ρ H s'.heap → Rel G ρ H s' → Q none s')
    (h1 : ∀ v it', res = some (v, it') → ∀ w s', Ext G (fun c => c = b) ρ H s.heap ρ H s'.heap → Rel G ρ H s' → VR G ρ s'.heap v w → ItR G ρ H s'.heap it' b → Q (some w) s') :
    wpAny (Mo G) A (pyNext (.ref b)) Q Er s := by
  have hA := ar.handled
  -- what the iterator's own turning leaves
  have turn : ∀ {oL : Obj} (h' : Heap) (t : Nat), s.heap.get? b = some oL → frozen oL = false → Heap.SameBut b s.heap h' → (∃ o, h'.get? b = some o) → Rel G ρ H { s with heap := h', toks := t } ∧ Ext G (fun c => c = b) ρ H s.heap ρ H h' := fun h' t e f hs ho => R.but hs e f hn hb ht ho t
  have gone : ∀ {oL : Obj} (h' : Heap), s.heap.get? b = some oL → frozen oL = false → Heap.ExtBut b s.heap h' → Rel G ρ H { s with heap := h' } ∧ Ext G (fun c => c = b) ρ H s.heap ρ H h' := fun h' e f hs => R.gone hs e f hn hb ht s.toks
  cases hi with
  | @lst i k p _ hp hi =>
    obtain ⟨o, ho, hc, hdd⟩ := id hi
    have hf : frozen o = false := by unfold frozen; rw [hdd]; simp [hc]
    obtain ⟨xs, h2, h3⟩ := Option.map_eq_some_iff.mp hv
    obtain ⟨items, n, dd, sl, g1, v1, l1, _⟩ := R.list hp (listAt_some h2)
    have k1 := v1.arr
    cases hx : xs[k]? with
    | none =>
      rw [hx] at h3
      have hx' : items[k]? = none := by rw [Array.getElem?_eq_none_iff, ← k1]; exact List.getElem?_eq_none_iff.mp hx
      refine wpAny_pyNext_list_end hA hi ⟨_, g1, rfl, n, rfl⟩ hx' fun h' hs => ?_
      obtain ⟨R2, E2⟩ := gone h' ho hf hs
      exact h0 h3.symm { s with heap := h' } E2 R2
    | some u =>
      rw [hx] at h3
      obtain ⟨w, e, V⟩ := v1.get hx
      refine wpAny_pyNext_list_item hi ⟨_, g1, rfl, n, rfl⟩ (by simpa using e) fun h' hi' hs => ?_
      obtain ⟨o', ho', _⟩ := id hi'
      obtain ⟨R2, E2⟩ := turn h' s.toks ho hf hs ⟨o', ho'⟩
      exact h1 u (.lst i (k + 1)) h3.symm w { s with heap := h' } E2 R2 (V.mono E2) (.lst hp hi')
  | @rng x n _ hi =>
    cases n with
    | zero =>
      have h3 : res = none := by simpa [nextM] using hv.symm
      refine wpAny_pyNext_range_end (x := x) (left := ((0 : Nat) : Int)) (step := 1) hA hi (by omega) fun h' hs => ?_
      obtain ⟨R2, E2⟩ := gone h' hi rfl hs
      exact h0 h3 { s with heap := h' } E2 R2
    | succ n =>
      have e0 : (List.range (n + 1)).map (fun (k : Nat) => V.int ((x + k : Nat) : Int)) = V.int (x : Int) :: (List.range n).map (fun (k : Nat) => V.int ((x + 1 + k : Nat) : Int)) := by
        rw [List.range_succ_eq_map, List.map_cons, List.map_map]
        congr 1
        apply List.map_congr_left
        intro k _
        show V.int ((x + (k + 1) : Nat) : Int) = _
        rw [show x + (k + 1) = x + 1 + k by omega]
      rw [e0] at hv
      have h3 : res = some (V.int x, .vals ((List.range n).map (fun (k : Nat) => V.int ((x + 1 + k : Nat) : Int)))) := by simpa [nextM] using hv.symm
      refine wpAny_pyNext_range_item (x := x) (left := ((n + 1 : Nat) : Int)) (step := 1) hi (by omega) fun h' hi' hs => ?_
      obtain ⟨R2, E2⟩ := turn h' (s.toks + 1) hi rfl hs ⟨_, hi'⟩
      have hi2 : IsRangeIter h' b ((x + 1 : Nat) : Int) (n : Int) 1 := by
        have q1 : ((x : Int) + 1) = ((x + 1 : Nat) : Int) := by omega
        have q2 : (((n + 1 : Nat) : Int) - 1) = (n : Int) := by omega
        rw [q1, q2] at hi'; exact hi'
      exact h1 _ _ h3 _ { s with heap := h', toks := s.toks + 1 } E2 R2 (.int _ _) (.rng hi2)
  | @strA l t i _ hi =>
    obtain ⟨o, ho, hc, hdd⟩ := id hi
    have hf : frozen o = false := by unfold frozen; rw [hdd]; simp [hc]
    cases hx : l[i]? with
    | none =>
      have e0 : l.drop i = [] := List.drop_eq_nil_iff.mpr (List.getElem?_eq_none_iff.mp hx)
      rw [e0] at hv
      have h3 : res = none := by simpa [nextM] using hv.symm
      refine wpAny_pyNext_ascii_end hA hi (by show l.toArray[i]? = none; simpa using hx) fun h' hs => ?_
      obtain ⟨R2, E2⟩ := gone h' ho hf hs
      exact h0 h3 { s with heap := h' } E2 R2
    | some c =>
      have hi0 := (List.getElem?_eq_some_iff.mp hx)
      have e0 : l.drop i = c :: l.drop (i + 1) := by rw [List.drop_eq_getElem_cons hi0.1, hi0.2]
      rw [e0, List.map_cons] at hv
      have h3 : res = some (V.str [c], .vals ((l.drop (i + 1)).map fun c => V.str [c])) := by simpa [nextM] using hv.symm
      refine wpAny_pyNext_ascii_item hi (by show l.toArray[i]? = some c; simpa using hx) fun h' hi' hs => ?_
      obtain ⟨o', ho', _⟩ := id hi'
      obtain ⟨R2, E2⟩ := turn h' (s.toks + 1) ho hf hs ⟨o', ho'⟩
      exact h1 _ _ h3 _ { s with heap := h', toks := s.toks + 1 } E2 R2 (.str [c] _ (by show 1 ≤ 1048576; omega)) (.strA hi')
  | @strW l t i _ hi =>
    obtain ⟨o, ho, hc, hdd⟩ := id hi
    have hf : frozen o = false := by unfold frozen; rw [hdd]; simp [hc]
    cases hx : l[i]? with
    | none =>
      have e0 : l.drop i = [] := List.drop_eq_nil_iff.mpr (List.getElem?_eq_none_iff.mp hx)
      rw [e0] at hv
      have h3 : res = none := by simpa [nextM] using hv.symm
      refine wpAny_pyNext_wide_end hA hi (by show l.toArray[i]? = none; simpa using hx) fun h' hs => ?_
      obtain ⟨R2, E2⟩ := gone h' ho hf hs
      exact h0 h3 { s with heap := h' } E2 R2
    | some c =>
      have hi0 := (List.getElem?_eq_some_iff.mp hx)
      have e0 : l.drop i = c :: l.drop (i + 1) := by rw [List.drop_eq_getElem_cons hi0.1, hi0.2]
      rw [e0, List.map_cons] at hv
      have h3 : res = some (V.str [c], .vals ((l.drop (i + 1)).map fun c => V.str [c])) := by simpa [nextM] using hv.symm
      refine wpAny_pyNext_wide_item hi (by show l.toArray[i]? = some c; simpa using hx) fun h' hi' hs => ?_
      obtain ⟨o', ho', _⟩ := id hi'
      obtain ⟨R2, E2⟩ := turn h' (s.toks + 1) ho hf hs ⟨o', ho'⟩
      exact h1 _ _ h3 _ { s with heap := h', toks := s.toks + 1 } E2 R2 (.str [c] _ (by show 1 ≤ 1048576; omega)) (.strW hi')
  | @dict i k v p _ n ep v₀ es₀ hp hH hle hi hdv =>
    obtain ⟨o, ho, hc, hdd⟩ := id hi
    have hf : frozen o = false := by unfold frozen; rw [hdd]; simp [hc]
    obtain ⟨es, h2, h3⟩ := Option.bind_eq_some_iff.mp hv
    split at h3
    · rename_i hev
      have h2' := dictAt_some h2
      rw [hH] at h2'
      cases h2'
      obtain ⟨od, ds, g, hds, hn'⟩ := hdv hev
      obtain ⟨kvs, ⟨od', ds', ep', g', hx', hd', hk', hp', hnd'⟩, dr, lb, _⟩ := R.dict hp hH
      rw [g] at g'; cases g'
      rw [hds] at hd'; cases hd'
      have hat : s.heap.DictAt (PySem.strKind G.prog G.w) p.1 kvs ep := ⟨od, ds, g, hx', hds, hk', hp', hnd'⟩
      have hlen : n = kvs.length := by rw [hn', ← hp'.length]; simp
      subst hlen
      cases hx : es.1[k]? with
      | none =>
        rw [hx] at h3
        have hxk : kvs[k]? = none := by rw [List.getElem?_eq_none_iff, ← dr.len]; exact List.getElem?_eq_none_iff.mp hx
        refine wpAny_pyNext_dict_end hA hi hat hxk fun h' hs => ?_
        obtain ⟨R2, E2⟩ := gone h' ho hf hs
        exact h0 (by cases h3; rfl) { s with heap := h' } E2 R2
      | some e =>
        rw [hx] at h3
        have hkk : ∃ w, kvs[k]? = some ((⟨e.1.toArray⟩ : Str), w) := by
          have q : (kvs.map (·.1))[k]? = (es.1.map fun e => (⟨e.1.toArray⟩ : Str))[k]? := by rw [dr.1]
          rw [List.getElem?_map, List.getElem?_map, hx] at q
          cases hkv : kvs[k]? with
          | none => rw [hkv] at q; cases q
          | some kv => rw [hkv] at q; simp at q; exact ⟨kv.2, by rw [← q]⟩
        obtain ⟨w, hkw⟩ := hkk
        refine wpAny_pyNext_dict_item hi hat hkw fun key h' hkey hi' hs => ?_
        obtain ⟨t, rfl⟩ := Value.isStrOf_shape hkey
        obtain ⟨o', ho', _⟩ := id hi'
        obtain ⟨R2, E2⟩ := turn h' s.toks ho hf hs ⟨o', ho'⟩
        have hne : p.1 ≠ b := fun q => hn (q ▸ (own_of hp).1)
        refine h1 (.str e.1) (.dict i (k + 1) v) (by cases h3; rfl) _ { s with heap := h' } E2 R2 (.str _ _ ?_) (.dict hp hH hle hi' fun _ => ⟨od, ds, by rw [hs.2 _ hne]; exact g, hds, ?_⟩)
        · exact R.dictKeys hp hH e (List.mem_of_getElem? hx)
        · rw [← hp'.length]; simp
    · cases h3
end
end Mine

end
section
open PySem PySem.W PySem.Calls PyProof.Rows
set_option autoImplicit false
namespace Mine
section
variable {G : Gx} {A : Around} {ρ : Rho} {H H' : Hp} {s : Shared} {d : Nat} {Er : Value → Shared → Prop} {a b c v : V} {a' b' v' : Value} {x : Str}

theorem draw_list {it t : Addr} {items : Array Value} (hne : t ≠ it) : ∀ (n i : Nat) (s : Shared) (Q : List Value → Shared → Prop), s.heap.IsListIter it t i → s.heap.IsList t items → i + n ≤ items.size →
    (∀ h', h'.IsListIter it t (i + n) → Heap.SameBut it s.heap h' → Q ((items.toList.drop i).take n) { s with heap := h' }) → wpAny (Mo G) A (draw (.ref it) n) Q Er s
  | 0, i, s, Q, hit, _, _, hQ => by
    show wpAny _ _ (pure []) Q Er s
    exact wpAny_pure (by simpa using hQ s.heap hit (Heap.SameBut.refl ..))
  | n + 1, i, s, Q, hit, ht, hle, hQ => by
    have hlt : i < items.size := by omega
    show wpAny _ _ (pyNext (.ref it) >>= _) Q Er s
    refine wpAny_bind (wpAny_pyNext_list_item hit ht (x := items[i]) (by simp [hlt]) fun h₁ hit₁ hs₁ => ?_)
    refine wpAny_bind (wpAny_holding (draw_list hne n (i + 1) _ _ hit₁ (ht.extBut hs₁.extBut hne) (by omega) fun h₂ hit₂ hs₂ => wpAny_pure ?_))
    have hd : items.toList.drop i = items[i] :: items.toList.drop (i + 1) := by simp [List.drop_eq_getElem_cons, hlt]
    have := hQ h₂ (by rw [show i + (n + 1) = i + 1 + n by omega]; exact hit₂) (hs₁.trans hs₂)
    rw [hd, List.take_succ_cons] at this
    exact this

theorem unpackItems_list {t : Addr} {items : Array Value} {Q : List Value → Shared → Prop} (hh : A.handled = none) (ht : s.heap.IsList t items)
    (hQ : ∀ h', Heap.ExtBut s.heap.objs.size s.heap h' → Q items.toList { s with heap := h' }) : wpAny (Mo G) A (unpackItems (.ref t) items.size none) Q Er s := by
  have hlt : t ≠ s.heap.objs.size := by obtain ⟨o, ho, _⟩ := ht; exact Nat.ne_of_lt (Heap.lt_size ho)
  unfold unpackItems notIterableAtAll
  refine wpAny_bind (wpAny_bind (wpAny_specialOf ht.typeIs slot_list_iter.lookup (wpAny_pure ?_)))
  simp only [Bool.false_eq_true, if_false]
  refine wpAny_bind (wpAny_holding (wpAny_pyIter_list ht ?_))
  refine wpAny_bind (wpAny_holding (draw_list hlt items.size 0 _ _ ⟨_, Heap.get?_push_size _ rfl, rfl, rfl⟩ (ht.push _) (by omega) fun h₁ hit₁ hs₁ => ?_))
  have hall : List.take items.size (List.drop 0 items.toList) = items.toList := by
    rw [List.drop_zero]; exact List.take_of_length_le (by simp)
  rw [hall]
  rw [if_neg (by simp)]
  have ht₁ : h₁.IsList t items := (ht.push _).extBut hs₁.extBut hlt
  refine wpAny_bind (wpAny_holding (wpAny_pyNext_list_end hh hit₁ ht₁ (by simp) fun h₂ he₂ => ?_))
  simp only [Option.isSome_none, Bool.false_eq_true, if_false]
  exact wpAny_pure (hQ h₂ fun b o hb e => he₂ b o hb (hs₁.extBut b o hb (Heap.get?_push_of_some _ e)))

theorem keeps_of_ext {h h' : Heap} (x : Heap.ExtBut h.objs.size h h') : Keeps h h' := fun b o e => x b o (Nat.ne_of_lt (Heap.lt_size e)) e

theorem prim_items {vs : List V} {n : Nat} {Q : List Value → Shared → Prop} (K : GOK G) (ar : AR d A) (hd : d ≤ 151) (R : Rel G ρ H s) (ha : VR G ρ s.heap a a') (hv : itemsM a H = some vs) (hn : vs.length = n)
    (h : ∀ ws s', Ext G NoX ρ H s.heap ρ H s'.heap → Rel G ρ H s' → VRs G ρ s'.heap vs ws → Q ws s') : wpAny (Mo G) A (unpackItems a' n none) Q Er s := by
  subst hn
  unfold itemsM at hv
  split at hv
  · cases hv
    cases ha with
    | @tup _ a o items n ho hc hdd hlen hi hbb =>
      have e : vs.length = items.toArray.size := by simpa using hlen
      rw [e]
      refine wpAny_unpackItems_tuple ar.handled ⟨o, ho, hc, n, hdd⟩ fun h' hx => ?_
      have k := keeps_of_ext hx
      exact h _ { s with heap := h' } (R.extKeeps k) (R.keeps k s.toks) (VRs.mono ⟨by simpa using hlen, by simpa using hi⟩ (R.extKeeps (X := NoX) k))
  · cases ha with
    | obj hp =>
      obtain ⟨items, n, dd, sl, g1, v1, l1, _⟩ := R.list hp (listAt_some hv)
      rw [v1.arr]
      refine unpackItems_list ar.handled ⟨_, g1, rfl, n, rfl⟩ fun h' hx => ?_
      have k := keeps_of_ext hx
      exact h _ { s with heap := h' } (R.extKeeps k) (R.keeps k s.toks) (v1.mono (R.extKeeps (X := NoX) k))
  · cases hv
end
end Mine

end
section
open PySem PySem.W PySem.Calls PyProof.Rows Builtin Builtin.ObjectAttr
set_option autoImplicit false
namespace Mine
section
variable {G : Gx} {A : Around} {ρ : Rho} {H H' : Hp} {s : Shared} {d : Nat} {Er : Value → Shared → Prop} {a b c v : V} {a' b' v' : Value} {x : Str}

theorem isStr_refKey {es : Array DictEntry} (h : StrKeys es) : es.toList.any (·.refKey) = false := by
  rw [List.any_eq_false]
  intro e he
  obtain ⟨n, t, hk⟩ := h e (by simpa using he)
  simp [DictEntry.refKey, hk]
theorem lookIn_ns {h : Heap} {a : Addr} {m : Str → Option Value} (n : h.Ns a m) : ∃ o, h.get? a = some o ∧ ∀ x, lookIn x o = some (m x) := by
  obtain ⟨o, es, ep, ho, hd, hk, hm⟩ := n
  refine ⟨o, ho, fun x => ?_⟩
  unfold lookIn
  rw [hd]
  dsimp only
  have := hm x
  unfold nsFind findBy at this
  rw [← Array.find?_toList] at this
  cases hf : es.toList.find? (·.key.isStr x) with
  | none => rw [hf] at this; rw [isStr_refKey hk]; simp [← this]
  | some e => rw [hf] at this; simp [← this]

/-- an object of a class of ours -/
theorem Rel.inst (R : Rel G ρ H s) (K : GOK G) {i : Nat} {p : Addr × Addr} {c : Str} {fs : List (Str × V)} (hp : ρ[i]? = some p) (e : H[i]? = some (.inst c fs)) :
    ∃ C od m, ClsOK G c C ∧ s.heap.get? p.1 = some (instObj C p.2) ∧ InstAt s.heap p.1 (instObj C p.2) C (some od) ∧ s.heap.Ns p.2 m ∧ (∀ x, lookIn x od = some (m x)) ∧
      (∀ x v, fs.lookup x = some v → ∃ v', m x = some v' ∧ VR G ρ s.heap v v') ∧ (∀ x, fs.lookup x = none → m x = none) ∧ p.1 ≠ p.2 ∧ G.addr c = some C ∧ (G.T.meth c "__init__").isSome = true ∧ ∀ o es ep, s.heap.get? p.2 = some o → o.data = .dict es ep → es.size = fs.length := by
  obtain ⟨C, m, h1, h1', h2, h3, h4, h5, h6, h9⟩ := R.obj _ _ _ hp e
  obtain ⟨od, ho, hl⟩ := lookIn_ns h3
  exact ⟨C, od, m, K.cls _ _ h1 h1', h2, ⟨h2, rfl, rfl, ho⟩, h3, hl, h4, h5, h6, h1, h1', h9⟩

theorem fieldM_spec {fs : List (Str × V)} {u : V} (h : fieldM fs x = some u) : x ∈ fieldNames ∧ fs.lookup x = some u ∧ handM u = true := by
  unfold fieldM at h
  split at h
  · rename_i hx
    obtain ⟨y, h1, h2⟩ := Option.bind_eq_some_iff.mp h
    split at h2
    · rename_i h3; cases h2; exact ⟨by simpa using hx, h1, h3⟩
    · cases h2
  · cases h
theorem handedIn_of {u : V} {w : Value} {h : Heap} (hu : handM u = true) (r : VR G ρ h u w) : handedIn w = true := by
  cases r <;> first | rfl | (simp [handM] at hu)

theorem get_field {i : Nat} {p : Addr × Addr} {c : Str} {fs : List (Str × V)} {u : V} {expr : Bool} {Q : Value → Shared → Prop} (K : GOK G) (R : Rel G ρ H s) (hp : ρ[i]? = some p) (e : H[i]? = some (.inst c fs)) (hu : fieldM fs x = some u)
    (h : ∀ v' s', Ext G NoX ρ H s.heap ρ H s'.heap → Rel G ρ H s' → VR G ρ s'.heap u v' → Q v' s') : wpAny (Mo G) A (getAttr (.ref p.1) x expr) Q Er s := by
  obtain ⟨C, od, m, ok, h2, I, hns, hl, h4, h5, _⟩ := R.inst K hp e
  obtain ⟨hg, hh, hpo, hsa, hf, hm, _⟩ := ok
  obtain ⟨hx, hlk, hhu⟩ := fieldM_spec hu
  obtain ⟨v', e1, V⟩ := h4 x u hlk
  exact get_value (K.kin.keeps R.base) I (plainGet_of hg).1 (findObj_own hh (hf x hx) rfl (by rw [hl, e1])) (handedIn_of hhu V) (h v' { s with toks := s.toks + 1 } Ext.refl (R.tok _) V)

theorem prim_attr {Q : Value → Shared → Prop} (K : GOK G) (ar : AR d A) (hd : d ≤ 151) (R : Rel G ρ H s) (ha : VR G ρ s.heap a a') (hv : getAttrM G.T a x H = some v)
    (h : ∀ v' s', Ext G NoX ρ H s.heap ρ H s'.heap → Rel G ρ H s' → VR G ρ s'.heap v v' → Q v' s') : wpAny (Mo G) A (getAttr a' x true) Q Er s := by
  unfold getAttrM at hv
  split at hv
  · cases ha with
    | obj hp =>
      split at hv
      · rename_i c fs hH
        split at hv
        · cases hv
        · exact get_field K R hp hH hv h
      · cases hv
  · cases hv

theorem putS_lookupP (fs : List (Str × V)) (k y : Str) (v : V) : (putS fs k v).lookup y = if y = k then some v else fs.lookup y := by
  induction fs with
  | nil =>
    unfold putS
    rw [List.lookup_cons, List.lookup_nil]
    by_cases q : y = k
    · subst q; simp
    · rw [if_neg q]
      have : (y == k) = false := by simpa using q
      rw [this]
  | cons e fs ih =>
    obtain ⟨k', u⟩ := e
    unfold putS
    split
    · rename_i hk
      have hk : k' = k := eq_of_beq hk
      subst hk
      rw [List.lookup_cons, List.lookup_cons]
      by_cases q : y = k'
      · subst q; simp
      · have : (y == k') = false := by simpa using q
        rw [this, if_neg q]
    · rename_i hk
      have hk : k' ≠ k := by simpa using hk
      rw [List.lookup_cons, List.lookup_cons, ih]
      by_cases q : y = k'
      · subst q
        have q2 : (y == y) = true := by simp
        simp only [q2]
        rw [if_neg hk]
      · have : (y == k') = false := by simpa using q
        rw [this]
theorem putS_lengthP (fs : List (Str × V)) (k : Str) (v : V) : (putS fs k v).length = fs.length + (if (fs.lookup k).isSome then 0 else 1) := by
  induction fs with
  | nil => rfl
  | cons e fs ih =>
    obtain ⟨k', u⟩ := e
    unfold putS
    rw [List.lookup_cons]
    by_cases q : k' = k
    · subst q; simp
    · have q1 : (k' == k) = false := by simpa using q
      have q2 : (k == k') = false := by simpa using fun e : k = k' => q e.symm
      rw [q1, q2]
      simp only [Bool.false_eq_true, if_false, List.length_cons]
      rw [ih]; omega

theorem ns_put {h : Heap} {a : Addr} {m : Str → Option Value} {o : Obj} {es : Array DictEntry} {ep : Nat} {name : Str} {hash : Int} {t : Tok} {v : Value} (ho : h.get? a = some o) (hd : o.data = .dict es ep) (hk : StrKeys es) (hm : ∀ x, nsFind es x = m x) :
    ∃ o' es' ep', (h.update a (Obj.putName name hash (.str name t) v)).get? a = some o' ∧ o'.data = .dict es' ep' ∧ StrKeys es' ∧ (∀ x, nsFind es' x = if x = name then some v else m x) ∧ es'.size = es.size + (if (m name).isSome then 0 else 1) := by
  obtain ⟨c, d, dt, sl⟩ := o
  subst hd
  cases hi : es.findIdx? (·.key.isStr name) with
  | some i =>
    have hs : (m name).isSome = true := by
      rw [← hm]; unfold nsFind
      rw [findBy_of_findIdx?, hi]
      obtain ⟨hlt, _⟩ := Array.findIdx?_eq_some_iff_getElem.mp hi
      simp [hlt]
    refine ⟨_, _, ep, Heap.get?_update_self _ ho (by simp only [Obj.putName_eq, Obj.putNameByArray, hi]; rfl), by simp only [Obj.putName_eq, Obj.putNameByArray, hi]; rfl, hk.modify _ _, fun x => ?_, by simp [hs]⟩
    rw [← hm]; exact findBy_modify (fun n v => v.isStr n) Value.isStr_inj es name x v i hi
  | none =>
    have hs : (m name).isSome = false := by
      rw [← hm]; unfold nsFind
      rw [findBy_of_findIdx?, hi]; rfl
    refine ⟨_, _, ep + 1, Heap.get?_update_self _ ho (by simp only [Obj.putName_eq, Obj.putNameByArray, hi]; rfl), by simp only [Obj.putName_eq, Obj.putNameByArray, hi]; rfl, hk.push _ _ _ _, fun x => ?_, by simp [hs]⟩
    rw [← hm]
    refine findBy_push (fun n v => v.isStr n) es name x _ _ v (fun y => ?_) hi
    show (name == y) = decide (y = name)
    by_cases h : y = name
    · subst h; simp
    · have : ¬ name = y := fun e => h e.symm
      simp [h, this]

theorem prim_setattr {Q : Unit → Shared → Prop} (K : GOK G) (ar : AR d A) (hd : d ≤ 151) (R : Rel G ρ H s) (ha : VR G ρ s.heap a a') (hb : VR G ρ s.heap v v') (hv : setAttrM a x v H = some H')
    (h : ∀ s', Ext G NoX ρ H s.heap ρ H' s'.heap → Rel G ρ H' s' → Q () s') : wpAny (Mo G) A (setAttr a' x v') Q Er s := by
  unfold setAttrM at hv
  split at hv
  · cases ha with
    | @obj i p hp =>
      split at hv
      · rename_i c fs hH
        split at hv
        · rename_i hx
          rw [Bool.and_eq_true, decide_eq_true_eq] at hx
          obtain ⟨hx, hlen⟩ := hx
          cases hv
          obtain ⟨C, od, m, ok, h2, I, hns, hl, h4, h5, h6, h7, h8, hsize⟩ := R.inst K hp hH
          obtain ⟨hg, hh, hpo, hsa, hf, hm, _⟩ := ok
          have hX := K.kin.keeps R.base
          have hx' : x ∈ fieldNames := by simpa using hx
          obtain ⟨cd, hc, hd'⟩ := any_some hh
          refine set_plain hX I hsa ?_
          refine osa_open (s := { s with toks := s.toks + 1 }) (r := none) hX I hpo (by unfold takerIn; rw [hf x hx']; rfl) fun b => ?_
          unfold storeInOwnDict
          refine wpAny_bind (wpAny_pure (wpAny_bind (wpAny_bind (wpAny_loadPart h2 (wpAny_bind (looks_clsIn hX hc _ _ _ _ (fun _ _ e => e) ?_))))))
          rw [hd']
          refine wpAny_pure (a := some p.2) (wpAny_bind (wpAny_pure (wpAny_bind ?_)))
          obtain ⟨o1, es1, ep1, g1, q1, q2, q3⟩ := id hns
          obtain ⟨o2, es2, ep2, g2, p1, p2, p3, p4⟩ := ns_put (name := x) (hash := PyData.keyHash G.w.params x) (t := s.toks + 1) (v := v') g1 q1 q2 q3
          unfold nsSet
          refine wpAny_bind (wpAny_bind (wpAny_askSetting (wpAny_pure (wpAny_bind (wpAny_mkText (wpAny_bind (wpAny_loadPart g1 ?_)))))))
          rw [q1]
          dsimp only
          have c0 : (!es1.any (·.key.isStr x) && es1.any (·.refKey)) = false := by
            rw [← Array.any_toList (p := fun e : DictEntry => e.refKey), isStr_refKey q2, Bool.and_false]
          rw [aRefKeyMayBeTheName_at, c0]
          refine wpAny_updatePart g1 ?_
          have hsz : es2.size = (putS fs x v).length := by
            rw [p4, putS_lengthP, hsize _ _ _ g1 q1]
            congr 1
            cases hq : fs.lookup x with
            | none => rw [h5 x hq]; rfl
            | some u => obtain ⟨w, e, _⟩ := h4 x u hq; rw [e]; rfl
          refine wpAny_bind (wpAny_lookBehind g2 (by rw [p1]; exact pastItsLine_dict (by rw [hsz, putS_lengthP, sizeLine_eq]; split <;> omega)) ?_)
          have hs' : Heap.SameBut p.2 s.heap (s.heap.update p.2 (Obj.putName x (PyData.keyHash G.w.params x) (.str x (s.toks + 1)) v')) := Heap.SameBut.update ..
          have keep1 := (hs'.2 _ h6).trans h2
          obtain ⟨R2, E2⟩ := R.upd (o' := .inst c (putS fs x v)) hp (List.getElem?_eq_some_iff.mp hH).1 (fun b _ h2' => hs'.2 b h2') (fun o e => by rw [h2] at e; cases e; rfl) (fun o e => by rw [g1] at e; cases e; unfold frozen; rw [q1])
            ⟨_, keep1⟩ ⟨_, g2⟩ (s.toks + 1 + 1) (fun es v e => by rw [hH] at e; cases e) fun E => by
              refine ⟨C, _, h7, h8, keep1, ⟨o2, es2, ep2, g2, p1, p2, p3⟩, fun y u hy => ?_, fun y hy => ?_, h6, fun o es ep ho hd => ?_⟩
              · rw [putS_lookupP] at hy
                by_cases q : y = x
                · rw [if_pos q] at hy ⊢; cases hy; exact ⟨v', rfl, hb.mono E⟩
                · rw [if_neg q] at hy ⊢
                  obtain ⟨w, e1, V⟩ := h4 y u hy
                  exact ⟨w, e1, V.mono E⟩
              · rw [putS_lookupP] at hy
                by_cases q : y = x
                · rw [if_pos q] at hy; cases hy
                · rw [if_neg q] at hy ⊢
                  exact h5 y hy
              · rw [g2] at ho; cases ho; rw [p1] at hd; cases hd; exact hsz
          exact wpAny_pure (h { s with heap := _, toks := s.toks + 1 + 1 } E2 R2)
        · cases hv
      · cases hv
  · cases hv
end
end Mine

end
section
open PySem PySem.W PySem.Calls PyProof.Rows Builtin Builtin.ObjectAttr
set_option autoImplicit false
namespace Mine
theorem plainAttrs_Pattern : PlainAttrs "re.Pattern" :=
  ⟨⟨"object.__getattribute__", by rw [typeLookup_type, builtinLookup_eq_fast]; kernel_rfl, by decide +kernel⟩, by rw [typeLookup_type, builtinLookup_eq_fast]; kernel_rfl⟩
theorem plainAttrs_Match : PlainAttrs "re.Match" :=
  ⟨⟨"object.__getattribute__", by rw [typeLookup_type, builtinLookup_eq_fast]; kernel_rfl, by decide +kernel⟩, by rw [typeLookup_type, builtinLookup_eq_fast]; kernel_rfl⟩
theorem slot_Pattern_match : Slot "re.Pattern" "match" "re.Pattern.match" :=
  .of (owner := "re.Pattern") (n := "match") (by rw [typeLookup_type, builtinLookup_eq_fast]; kernel_rfl) (by decide +kernel) (by decide +kernel) (by decide +kernel)
    (by first | exact .inl (by decide +kernel) | exact .inr (by decide +kernel)) (by rw [isSubtype_type]; kernel_rfl)
theorem slot_Match_end : Slot "re.Match" "end" "re.Match.end" :=
  .of (owner := "re.Match") (n := "end") (by rw [typeLookup_type, builtinLookup_eq_fast]; kernel_rfl) (by decide +kernel) (by decide +kernel) (by decide +kernel)
    (by first | exact .inl (by decide +kernel) | exact .inr (by decide +kernel)) (by rw [isSubtype_type]; kernel_rfl)
theorem slot_Match_groups : Slot "re.Match" "groups" "re.Match.groups" :=
  .of (owner := "re.Match") (n := "groups") (by rw [typeLookup_type, builtinLookup_eq_fast]; kernel_rfl) (by decide +kernel) (by decide +kernel) (by decide +kernel)
    (by first | exact .inl (by decide +kernel) | exact .inr (by decide +kernel)) (by rw [isSubtype_type]; kernel_rfl)
theorem type_Pattern_match : typeOf (.builtin "re.Pattern.match") = pure (.type "method_descriptor") := by show builtinType _ = _; rw [builtinType_eq_fast]; kernel_rfl
theorem type_Match_end : typeOf (.builtin "re.Match.end") = pure (.type "method_descriptor") := by show builtinType _ = _; rw [builtinType_eq_fast]; kernel_rfl
theorem type_Match_groups : typeOf (.builtin "re.Match.groups") = pure (.type "method_descriptor") := by show builtinType _ = _; rw [builtinType_eq_fast]; kernel_rfl
section
variable {G : Gx} {A : Around} {ρ : Rho} {H H' : Hp} {s : Shared} {d : Nat} {Er : Value → Shared → Prop} {a b c v : V} {a' b' v' : Value} {x : Str}

theorem prim_getm {f : V} {fs : List V} {o : Expr} {env : Env} {Q : Value × List Value → Shared → Prop} (K : GOK G) (ar : AR d A) (hd : d ≤ 151) (R : Rel G ρ H s) (ha : VR G ρ s.heap a a') (hv : getMethM G.T a x H = some (f, fs))
    (hg : env.globals = mainGlobals) (h : ∀ f' fs' s', Ext G NoX ρ H s.heap ρ H s'.heap → Rel G ρ H s' → VR G ρ s'.heap f f' → VRs G ρ s'.heap fs fs' → Q (f', fs') s') : wpAny (Mo G) A (calleeOf true o env a' x) Q Er s := by
  unfold calleeOf
  rw [if_pos rfl]
  have done : ∀ (id : String), f = .st (.builtin id) → fs = [a] → Q (.builtin id, [a']) s := fun id e1 e2 => by
    subst e1 e2
    exact h _ _ s Ext.refl R (.bi id) (VRs.cons ha VRs.nil)
  unfold getMethM at hv
  split at hv
  · rename_i l
    have hnd : ∀ b, a' = .ref b → ∃ ob, s.heap.get? b = some ob ∧ ob.dict = none := fun b e => by subst e; cases ha
    have hT : s.TypeIs a' "str" := by cases ha; exact typeIs_str _ _ _
    split at hv
    · rename_i hx; rw [eq_of_beq hx]; cases hv; exact getMethod_builtin hT PySem.F.plainAttrs_str PySem.F.slot_str_strip PySem.F.type_str_strip hnd (done _ rfl rfl)
    · split at hv
      · rename_i hx; rw [eq_of_beq hx]; cases hv; exact getMethod_builtin hT PySem.F.plainAttrs_str PySem.F.slot_str_rstrip PySem.F.type_str_rstrip hnd (done _ rfl rfl)
      · split at hv
        · rename_i hx; rw [eq_of_beq hx]; cases hv; exact getMethod_builtin hT PySem.F.plainAttrs_str PySem.F.slot_str_join PySem.F.type_str_join hnd (done _ rfl rfl)
        · split at hv
          · rename_i hx; rw [eq_of_beq hx]; cases hv; exact getMethod_builtin hT PySem.F.plainAttrs_str PySem.F.slot_str_index PySem.F.type_str_index hnd (done _ rfl rfl)
          · cases hv
  · rename_i y
    split at hv
    · rename_i hx
      rw [Bool.and_eq_true] at hx
      cases hv
      cases ha with
      | @glo _ A0 hga =>
        obtain ⟨o, ho, hc, hdi, _⟩ := K.pat A0 (eq_of_beq hx.1 ▸ hga)
        rw [eq_of_beq hx.2]
        exact getMethod_builtin (T := "re.Pattern") ⟨o, R.base _ _ ho, hc⟩ plainAttrs_Pattern slot_Pattern_match type_Pattern_match (fun b e => by cases e; exact ⟨o, R.base _ _ ho, hdi⟩) (done _ rfl rfl)
    · cases hv
  · have hm : ∃ b ob, a' = .ref b ∧ s.heap.get? b = some ob ∧ ob.cls = .type "re.Match" ∧ ob.dict = none := by
      cases ha with
      | mat ho hc hdi => exact ⟨_, _, rfl, ho, hc, hdi⟩
    obtain ⟨b, ob, rfl, ho, hc, hdi⟩ := hm
    split at hv
    · rename_i hx; rw [eq_of_beq hx]; cases hv
      exact getMethod_builtin (T := "re.Match") ⟨ob, ho, hc⟩ plainAttrs_Match slot_Match_end type_Match_end (fun b e => by cases e; exact ⟨ob, ho, hdi⟩) (done _ rfl rfl)
    · split at hv
      · rename_i hx; rw [eq_of_beq hx]; cases hv
        exact getMethod_builtin (T := "re.Match") ⟨ob, ho, hc⟩ plainAttrs_Match slot_Match_groups type_Match_groups (fun b e => by cases e; exact ⟨ob, ho, hdi⟩) (done _ rfl rfl)
      · cases hv
  · rename_i i
    have hp' : ∃ p, ρ[i]? = some p ∧ a' = .ref p.1 := by cases ha with | obj hp => exact ⟨_, hp, rfl⟩
    obtain ⟨p, hp, rfl⟩ := hp'
    split at hv
    · rename_i xs hH
      obtain ⟨items, n, dd, sl, g1, v1, l1, _, hdd⟩ := R.list hp hH
      have hnd : ∀ b, Value.ref p.1 = .ref b → ∃ ob, s.heap.get? b = some ob ∧ ob.dict = none := fun b e => by cases e; exact ⟨_, g1, hdd.1⟩
      split at hv
      · rename_i hx; rw [eq_of_beq hx]; cases hv
        exact getMethod_builtin (T := "list") ⟨_, g1, rfl⟩ PySem.F.plainAttrs_list PySem.F.slot_list_append PySem.F.type_list_append hnd (done _ rfl rfl)
      · split at hv
        · rename_i hx; rw [eq_of_beq hx]; cases hv
          exact getMethod_builtin (T := "list") ⟨_, g1, rfl⟩ PySem.F.plainAttrs_list PySem.F.slot_list_pop PySem.F.type_list_pop hnd (done _ rfl rfl)
        · cases hv
    · rename_i es ver hH
      obtain ⟨kvs, g, dr, lb, _⟩ := R.dict hp hH
      have hnd : ∀ b, Value.ref p.1 = .ref b → ∃ ob, s.heap.get? b = some ob ∧ ob.dict = none := fun b e => by
        cases e
        obtain ⟨o, es', ep', ho, hx, _⟩ := g
        exact ⟨o, ho, hx.2.1⟩
      split at hv
      · rename_i hx; rw [eq_of_beq hx]; cases hv
        exact getMethod_builtin (T := "dict") g.typeIs PySem.F.plainAttrs_dict PySem.F.slot_dict_clear PySem.F.type_dict_clear hnd (done _ rfl rfl)
      · cases hv
    · rename_i c fl hH
      obtain ⟨C, od, m, ok, h2, I, hns, hl, h4, h5, h6, h7, h8, hsize⟩ := R.inst K hp hH
      obtain ⟨hg', hh, hpo, hsa, hf, hm, _⟩ := ok
      have hX := K.kin.keeps R.base
      split at hv
      · rename_i q hq
        split at hv
        · cases hv
        · rename_i hno
          cases hv
          obtain ⟨F, e1, e2, e3⟩ := hm x q hq
          have hnone : fl.lookup x = none := Option.not_isSome_iff_eq_none.mp hno
          refine method_fn hX I (plainGet_of hg').1 (plainGet_of hg').2 e2 (beq_iff_eq.mp e3) ?_ (h _ _ s Ext.refl R (.glo e1) (VRs.cons ha VRs.nil))
          show (lookIn x od).map _ = _
          rw [hl, h5 x hnone]; rfl
      · obtain ⟨u, hu, e⟩ := Option.map_eq_some_iff.mp hv
        cases e
        refine method_usual hX I (plainGet_of hg').1 (plainGet_of hg').2 (hf x (fieldM_spec hu).1) rfl ?_
        exact get_field K R hp hH hu fun v' s' E' R' V' => h _ _ s' E' R' V' VRs.nil
    · cases hv
  · cases hv
end
end Mine

end
section
open PySem PySem.W PySem.Calls PyProof.Rows Builtin Builtin.ObjectAttr
set_option autoImplicit false
namespace Mine
theorem isSpace_ascii : ∀ c, c < 128 → Unicode.isSpace c = isWs c := by decide +kernel

theorem takeWhile_congr {α : Type} {p q : α → Bool} : ∀ {l : List α}, (∀ a ∈ l, p a = q a) → l.takeWhile p = l.takeWhile q
  | [], _ => rfl
  | a :: l, h => by
    rw [List.takeWhile_cons, List.takeWhile_cons, h a (List.mem_cons_self ..), takeWhile_congr fun b hb => h b (List.mem_cons_of_mem _ hb)]
theorem dropWhile_drop {α : Type} (p : α → Bool) : ∀ (l : List α), l.dropWhile p = l.drop (l.takeWhile p).length
  | [] => rfl
  | a :: l => by
    rw [List.dropWhile_cons, List.takeWhile_cons]
    split
    · rw [List.length_cons, List.drop_succ_cons]; exact dropWhile_drop p l
    · rfl
theorem ascii_mem {l : List Nat} (h : ascii l = true) {c : Nat} (hc : c ∈ l) : c < 128 := by
  unfold ascii at h
  rw [List.all_eq_true] at h
  simpa using h c hc
theorem takeWhile_ws {l : List Nat} (h : ascii l = true) : l.takeWhile Unicode.isSpace = l.takeWhile isWs := takeWhile_congr fun a ha => isSpace_ascii a (ascii_mem h ha)
theorem ascii_sub {l m : List Nat} (h : ascii l = true) (hs : ∀ c ∈ m, c ∈ l) : ascii m = true := by
  unfold ascii
  rw [List.all_eq_true]
  intro c hc
  simpa using ascii_mem h (hs c hc)
theorem rstripL_take (m : List Nat) : rstripL m = m.take (m.length - (m.reverse.takeWhile isWs).length) := by
  unfold rstripL
  rw [dropWhile_drop, List.drop_reverse, List.reverse_reverse]
theorem strip_gen {l : List Nat} (h : ascii l = true) (left : Bool) :
    Txt.stripBy Unicode.isSpace left true ⟨l.toArray⟩ = ⟨(rstripL (if left then lstripL l else l)).toArray⟩ := by
  have hw : ∃ k, stripLo Unicode.isSpace left ⟨l.toArray⟩ = k ∧ (if left then lstripL l else l) = l.drop k ∧ k ≤ l.length := by
    cases left
    · exact ⟨0, rfl, rfl, Nat.zero_le _⟩
    · refine ⟨(l.takeWhile isWs).length, ?_, dropWhile_drop _ _, ?_⟩
      · unfold stripLo
        rw [if_pos rfl]
        show (l.takeWhile Unicode.isSpace).length = _
        rw [takeWhile_ws h]
      · exact (List.takeWhile_sublist _).length_le
  obtain ⟨k, e1, e2, hk⟩ := hw
  have hhi : stripHi Unicode.isSpace true ⟨l.toArray⟩ k = l.length - ((l.drop k).reverse.takeWhile isWs).length := by
    unfold stripHi
    rw [if_pos rfl, str_len]
    show l.length - ((l.drop k).reverse.takeWhile Unicode.isSpace).length = _
    rw [takeWhile_ws (ascii_sub h fun c hc => List.mem_of_mem_drop (List.mem_reverse.mp hc))]
  rw [e2, rstripL_take]
  have hlen := (List.takeWhile_sublist (l := (l.drop k).reverse) isWs).length_le
  rw [List.length_reverse, List.length_drop] at hlen
  unfold Txt.stripBy
  split
  · rename_i hs
    unfold stripSame at hs
    rw [e1, hhi, str_len, Bool.and_eq_true, beq_iff_eq, beq_iff_eq] at hs
    obtain ⟨h0, h1⟩ := hs
    subst h0
    rw [List.drop_zero] at *
    congr 2
    rw [List.take_of_length_le (by omega)]
  · unfold PySem.stripped Str.strSub
    rw [e1, hhi]
    show (⟨l.toArray.extract k _⟩ : Str) = _
    rw [List.extract_toArray, List.extract_eq_take_drop, List.length_drop]
    congr 2
    congr 1
    omega
theorem strip_eq {l : List Nat} (h : ascii l = true) : Txt.strip ⟨l.toArray⟩ = ⟨(stripL l).toArray⟩ := strip_gen h true
theorem rstrip_eq {l : List Nat} (h : ascii l = true) : Txt.rstrip ⟨l.toArray⟩ = ⟨(rstripL l).toArray⟩ := strip_gen h false

theorem glued_eq (sep : List Nat) : ∀ (ls : List (List Nat)), Str.glued ⟨sep.toArray⟩ (ls.map fun l => (⟨l.toArray⟩ : Str)) = ⟨(joinL sep ls).toArray⟩ := by
  have key : ∀ (ls : List (List Nat)) (acc : List Nat), (ls.map fun l => (⟨l.toArray⟩ : Str)).foldl (fun (acc : Array Nat) p => acc ++ sep.toArray ++ p.cps) acc.toArray = (joinL sep (acc :: ls)).toArray := by
    intro ls
    induction ls with
    | nil => intro acc; rfl
    | cons x ls ih =>
      intro acc
      rw [List.map_cons, List.foldl_cons]
      have e : acc.toArray ++ sep.toArray ++ x.toArray = (acc ++ sep ++ x).toArray := by simp
      show List.foldl _ (acc.toArray ++ sep.toArray ++ x.toArray) _ = _
      rw [e, ih]
      cases ls with
      | nil => simp [joinL]
      | cons y ls => simp [joinL]
  intro ls
  cases ls with
  | nil => rfl
  | cons x ls => exact congrArg Str.mk (key ls x)
theorem joinL_length (sep : List Nat) : ∀ (ls : List (List Nat)) (a : Nat), (ls.map fun l => (⟨l.toArray⟩ : Str)).foldl (fun (n : Nat) (p : Str) => n + p.length + (⟨sep.toArray⟩ : Str).length) a ≤ a + (joinL sep ls).length + sep.length := by
  intro ls
  induction ls with
  | nil => intro a; simp; omega
  | cons x ls ih =>
    intro a
    rw [List.map_cons, List.foldl_cons]
    cases ls with
    | nil => rw [List.map_nil, List.foldl_nil, str_len, str_len]; simp [joinL]
    | cons y ls =>
      refine Nat.le_trans (ih _) ?_
      rw [str_len, str_len]
      simp [joinL]; omega
theorem strs_items {G : Gx} {ρ : Rho} {h : Heap} : ∀ {ls : List (List Nat)} {items : List Value}, VRs G ρ h (ls.map V.str) items → ∃ l : List (Str × Tok), items = strValues l ∧ l.map (·.1) = ls.map fun l => (⟨l.toArray⟩ : Str) := by
  intro ls
  induction ls with
  | nil => intro items hv; rw [hv.nil_inv]; exact ⟨[], rfl, rfl⟩
  | cons x ls ih =>
    intro items hv
    obtain ⟨w, ws, rfl, h1, h2⟩ := VRs.cons_inv hv
    obtain ⟨l, rfl, e⟩ := ih h2
    cases h1
    exact ⟨(_, _) :: l, rfl, by rw [List.map_cons, List.map_cons, e]⟩
theorem boolsOf_spec : ∀ {vs : List V} {ls : List Bool}, boolsOf vs = some ls → vs = ls.map V.bool := by
  intro vs
  induction vs with
  | nil => intro ls h; simp [boolsOf] at h; subst h; rfl
  | cons v vs ih =>
    intro ls h
    cases v <;> simp [boolsOf] at h
    obtain ⟨a, ha, rfl⟩ := h
    rw [ih ha]; rfl
theorem range_all' (bs : List Bool) : ((List.range bs.length).all fun i => (bs[i]?).getD true) = bs.all fun b => b := by
  induction bs with
  | nil => rfl
  | cons b bs ih =>
    rw [List.length_cons, List.range_succ_eq_map, List.all_cons, List.all_map, List.all_cons, ← ih]
    rfl

theorem idxOf_le : ∀ {l : List Nat} {i c : Nat}, l[i]? = some c → l.idxOf c ≤ i
  | [], _, _, h => by simp at h
  | a :: l, i, c, h => by
    rw [List.idxOf_cons]
    cases i with
    | zero => simp at h; subst h; simp
    | succ i =>
      have := idxOf_le (l := l) (i := i) (c := c) (by simpa using h)
      cases a == c <;> simp <;> omega

section
variable {G : Gx} {A : Around} {ρ : Rho} {H H' : Hp} {s : Shared} {d : Nat} {Er : Value → Shared → Prop} {a b c v : V} {a' b' v' : Value} {x : Str}

theorem big_ssize {n : Nat} (h : n ≤ big) : (n : Int) < 2 ^ 63 := by have : big = 1048576 := rfl; omega
theorem call_len_list {l : Addr} {items : Array Value} {Q : Value → Shared → Prop} (hl : s.heap.IsList l items) (hfit : (items.size : Int) < 2 ^ 63) (h : Q (.int items.size (s.toks + 1)) { s with toks := s.toks + 1 + 1 }) : wpAny (Mo G) A (call (.builtin "len") [.ref l]) Q Er s :=
  Calls.call_function_entry kind_len plain_len entry_len (args_len1 _) (wpAny_len_body_list hl hfit h)
theorem call_len_tup {l : Addr} {items : Array Value} {Q : Value → Shared → Prop} (hl : IsTup s.heap l items) (hfit : (items.size : Int) < 2 ^ 63) (h : Q (.int items.size (s.toks + 1)) { s with toks := s.toks + 1 + 1 }) : wpAny (Mo G) A (call (.builtin "len") [.ref l]) Q Er s :=
  Calls.call_function_entry kind_len plain_len entry_len (args_len1 _) (len_body_tuple hl hfit h)

/-- the builtins that turn nothing but an iterator -/
theorem bi_all {bs : List Bool} {l : Addr} {items : Array Value} {Q : Value → Shared → Prop} (ar : AR d A) (R : Rel G ρ H s) (hl : s.heap.IsList l items) (hv : VRs G ρ s.heap (bs.map V.bool) items.toList)
    (h : ∀ s', Ext G NoX ρ H s.heap ρ H s'.heap → Rel G ρ H s' → Q (.bool (bs.all fun b => b)) s') : wpAny (Mo G) A (call (.builtin "all") [.ref l]) Q Er s := by
  have hlt : l < s.heap.objs.size := by obtain ⟨_, e, _⟩ := hl; exact Heap.lt_size e
  have hlen : bs.length = items.size := by have := hv.1; simpa using this
  refine call_all_walk (wpAny_pyIter_list hl ?_)
  refine ⟨s.heap.objs.size, [s.heap.objs.size, l], [s.heap.objs.size], items.size, _, _, fun i => (bs[i]?).getD true, rfl, Walks.list (A := A.in1) ar.handled _ l (Nat.ne_of_lt hlt) items,
    ⟨⟨_, Heap.get?_push_size _ rfl, rfl, rfl⟩, hl.push _⟩, fun i v s' Q' E' hP hQ => ?_, fun h' tk hk => ?_⟩
  · have hP' : items[i]? = some v := hP
    have hi : i < items.size := (Array.getElem?_eq_some_iff.mp hP').1
    have hi' : i < bs.length := by omega
    have := hv.2 i (.bool bs[i]) v (by simp [hi']) (by simpa using hP')
    cases this
    have e : bs[i]? = some bs[i] := List.getElem?_eq_getElem hi'
    simp only [e, Option.getD_some] at hQ
    exact wpAny_truthy_bool hQ
  · have k : Keeps s.heap h' := fun b x e => hk b x (fun hm => by rw [List.mem_singleton.mp hm] at e; exact Nat.lt_irrefl _ (Heap.lt_size e)) (Heap.get?_push_of_some _ e)
    rw [← hlen, range_all']
    exact h { s with heap := h', toks := tk } (R.extKeeps k) (R.keeps k tk)

theorem bi_strip {l : List Nat} {t : Tok} {Q : Value → Shared → Prop} (ha : ascii l = true) (hb : l.length ≤ big) (h : ∀ t' k, Q (.str ⟨(stripL l).toArray⟩ t') { s with toks := k }) : wpAny (Mo G) A (call (.builtin "str.strip") [.str ⟨l.toArray⟩ t]) Q Er s :=
  call_gives PySem.F.slot_str_strip (typeIs_str _ _ _) PySem.F.entry_str_strip (PySem.F.args_str_strip_1 _) (gives_str_strip _ t) (post_val_or_made (fun _ => fits_stripped _ _ _ (by rw [str_len]; exact Nat.le_trans hb big_lineP)) fun t' k => by
    have := h t' k
    rw [← strip_eq ha] at this
    exact this)
theorem bi_rstrip {l : List Nat} {t : Tok} {Q : Value → Shared → Prop} (ha : ascii l = true) (hb : l.length ≤ big) (h : ∀ t' k, Q (.str ⟨(rstripL l).toArray⟩ t') { s with toks := k }) : wpAny (Mo G) A (call (.builtin "str.rstrip") [.str ⟨l.toArray⟩ t]) Q Er s :=
  call_gives PySem.F.slot_str_rstrip (typeIs_str _ _ _) PySem.F.entry_str_rstrip (PySem.F.args_str_rstrip_1 _) (gives_str_rstrip _ t) (post_val_or_made (fun _ => fits_stripped _ _ _ (by rw [str_len]; exact Nat.le_trans hb big_lineP)) fun t' k => by
    have := h t' k
    rw [← rstrip_eq ha] at this
    exact this)
theorem bi_join {sep : List Nat} {t : Tok} {l : Addr} {ls : List (List Nat)} {items : Array Value} {Q : Value → Shared → Prop} (hl : s.heap.IsList l items) (hv : VRs G ρ s.heap (ls.map V.str) items.toList) (hs : sep.length ≤ big) (hb : (joinL sep ls).length ≤ big)
    (h : ∀ t' k, Q (.str ⟨(joinL sep ls).toArray⟩ t') { s with toks := k }) : wpAny (Mo G) A (call (.builtin "str.join") [.str ⟨sep.toArray⟩ t, .ref l]) Q Er s := by
  obtain ⟨ps, e1, e2⟩ := strs_items hv
  have hl' : s.heap.IsList l (strValues ps).toArray := by rw [← e1]; simpa using hl
  have hbl : big + big ≤ sizeLine := by decide
  have hlong : Str.tooLong ((ps.map (·.1)).toArray.foldl (· + ·.length + (⟨sep.toArray⟩ : Str).length) 0) = false := by
    unfold Str.tooLong
    rw [e2, List.foldl_toArray']
    · have := joinL_length sep ls 0
      rw [decide_eq_false_iff_not]
      omega
    · rfl
  refine call_meets PySem.F.slot_str_join (typeIs_str _ _ _) PySem.F.entry_str_join (PySem.F.args_str_join_2 _ _) (meets_str_join_list _ t l ps hlong) ⟨hl', ?_⟩
  have hg : (Str.glued ⟨sep.toArray⟩ (ps.map (·.1))) = ⟨(joinL sep ls).toArray⟩ := by rw [e2, glued_eq]
  have post : ∀ t' k, Q (.str (Str.glued ⟨sep.toArray⟩ (ps.map (·.1))) t') { s with toks := k } := fun t' k => by rw [hg]; exact h t' k
  have hsz : (Str.glued ⟨sep.toArray⟩ (ps.map (·.1))).length ≤ sizeLine := by rw [hg, str_len]; omega
  cases ps with
  | nil => exact ⟨hsz, post _ _⟩
  | cons p r => cases r with
    | nil => exact post p.2 s.toks
    | cons q r => exact ⟨hsz, post _ _⟩
theorem bi_index {l : List Nat} {c : Nat} {t u : Tok} {Q : Value → Shared → Prop} (hc : l.contains c = true) (h : ∀ t', Q (.int (l.idxOf c) t') { s with toks := s.toks + 1 }) : wpAny (Mo G) A (call (.builtin "str.index") [.str ⟨l.toArray⟩ t, .str ⟨[c].toArray⟩ u]) Q Er s := by
  have hmem : c ∈ l := by simpa using hc
  have hi := List.idxOf_lt_length_of_mem hmem
  have at_iff : ∀ i, StrLaws.At (⟨l.toArray⟩ : Str) ⟨[c].toArray⟩ (⟨l.toArray⟩ : Str).length i ↔ l[i]? = some c := by
    intro i
    unfold StrLaws.At Str.subAt
    rw [str_len, str_len, beq_iff_eq]
    show i + 1 ≤ l.length ∧ l.toArray.extract i (i + 1) = [c].toArray ↔ _
    rw [List.extract_toArray, List.extract_eq_take_drop]
    constructor
    · rintro ⟨h1, h2⟩
      have h2 := List.toArray_inj h2
      have e : (l.drop i)[0]? = some c := by
        have : ((l.drop i).take (i + 1 - i))[0]? = some c := by rw [h2]; rfl
        rw [List.getElem?_take] at this
        split at this
        · exact this
        · cases this
      simpa using e
    · intro h1
      have hlt := (List.getElem?_eq_some_iff.mp h1)
      refine ⟨hlt.1, ?_⟩
      rw [List.drop_eq_getElem_cons hlt.1, hlt.2, show i + 1 - i = 1 by omega]
      rfl
  rcases StrLaws.occ_head (⟨l.toArray⟩ : Str) ⟨[c].toArray⟩ 1 (Nat.le_refl _) with ⟨_, hn⟩ | ⟨i, r, e, h1, h2⟩
  · exact absurd ((at_iff (l.idxOf c)).mpr (by rw [List.getElem?_eq_getElem hi, List.getElem_idxOf hi])) (hn _)
  · have e1 : i = l.idxOf c := by
      have g1 := (at_iff i).mp h1
      have g2 : l[l.idxOf c]? = some c := by rw [List.getElem?_eq_getElem hi, List.getElem_idxOf hi]
      rcases Nat.lt_trichotomy i (l.idxOf c) with q | q | q
      · have := idxOf_le g1; omega
      · exact q
      · exact absurd ((at_iff _).mpr g2) (h2 _ q)
    subst e1
    exact call_gives PySem.F.slot_str_index (typeIs_str _ _ _) PySem.F.entry_str_index (PySem.F.args_str_index_2 _ _) (gives_str_index _ _ t u _ r e) (h _)
end
end Mine

end
section
open PySem PySem.W PySem.Calls PyProof.Rows Builtin Builtin.ObjectAttr Builtin.Re
set_option autoImplicit false
namespace Mine
theorem args_Match_end (a : Value) : argsOk "re.Match.end" ⟨[a], []⟩ := by unfold argsOk; kernel_rfl
theorem args_Match_groups (a : Value) : argsOk "re.Match.groups" ⟨[a], []⟩ := by unfold argsOk; kernel_rfl
theorem entry_Match_end : entryFor table "re.Match.end" = some Builtin.«re.Match.end» := entryFor_of_tree (by kernel_rfl)
theorem entry_Match_groups : entryFor table "re.Match.groups" = some Builtin.«re.Match.groups» := entryFor_of_tree (by kernel_rfl)
theorem entry_Pattern_match : entryFor table "re.Pattern.match" = some Builtin.«re.Pattern.match» := entryFor_of_tree (by kernel_rfl)
theorem args_Pattern_match (a b c : Value) : argsOk "re.Pattern.match" ⟨[a, b, c], []⟩ := by unfold argsOk; kernel_rfl

section
variable {G : Gx} {A : Around} {ρ : Rho} {H H' : Hp} {s : Shared} {d : Nat} {Er : Value → Shared → Prop} {a b c v : V} {a' b' v' : Value} {x : Str}

theorem spans_raw : ∀ (sp : List (Option (Nat × Nat))), (sp.flatMap spanI).map reRawOf = sp.flatMap fun q => match q with | some (a, b) => [(a : Int), (b : Int)] | none => [-1, -1]
  | [] => rfl
  | q :: sp => by
    rw [List.flatMap_cons, List.flatMap_cons, List.map_append, spans_raw sp]
    cases q with
    | none => rfl
    | some p => rfl

/-- the fields of a match -/
theorem found {l : List Nat} {sp : List (Option (Nat × Nat))} {α : Type} {f : ReFound → Sem α} {E : Value → Shared → Prop} {Q : α → Shared → Prop} (ha : VR G ρ s.heap (.mat l sp) a') (B : Around)
    (h : ∀ fs, fs.getD 0 .none = .str ⟨l.toArray⟩ 0 ∨ (∃ t, fs.getD 0 .none = .str ⟨l.toArray⟩ t) → wpAny (Mo G) B (f ⟨fs, ((sp.flatMap spanI).map reRawOf).toArray⟩) Q E s) : wpAny (Mo G) B (reFound a' >>= f) Q E s := by
  cases ha with
  | mat ho hc hdi hd hb hbc hbd hs hl hn =>
    unfold reFound
    refine wpAny_bind (wpAny_bind (wpAny_fieldsOf ho hd (wpAny_bind ?_)))
    unfold reRawItems
    refine wpAny_bind ?_
    show wpAny _ _ (seqItems? (.ref _)) _ _ _
    refine wpAny_seqItems hb hbd (wpAny_pure (wpAny_pure ?_))
    have e : (((some (sp.flatMap spanI).toArray).getD #[]).map reRawOf) = ((sp.flatMap spanI).map reRawOf).toArray := by simp
    rw [e]
    exact h _ (.inr ⟨_, rfl⟩)

theorem bi_end {l : List Nat} {sp : List (Option (Nat × Nat))} {b e : Nat} {Q : Value → Shared → Prop} (R : Rel G ρ H s) (ha : VR G ρ s.heap (.mat l (some (b, e) :: sp)) a')
    (h : ∀ k t, Q (.int e t) { s with toks := k }) : wpAny (Mo G) A (call (.builtin "re.Match.end") [a']) Q Er s := by
  have hT : s.TypeIs a' "re.Match" := by cases ha with | mat ho hc => exact ⟨_, ho, hc⟩
  refine wpAny_call_entry slot_Match_end hT entry_Match_end ?_ (args_Match_end _)
  unfold Builtin.«re.Match.end» reOneGroup selfAndSome
  refine wpAny_bind (wpAny_bind (wpAny_bind (wpAny_bind (wpAny_pure (wpAny_pure ?_)))))
  show wpAny _ _ (checkCount "end" 0 1 0 >>= fun _ => pure (a', ([] : List Value))) _ _ _
  refine wpAny_bind (wpAny_of_eq (a := ()) rfl (wpAny_pure ?_))
  show wpAny _ _ (reFound a' >>= fun x => (pure 0 : Sem Nat) >>= fun g => pure (x, g)) _ _ _
  refine found ha _ fun fs hf => ?_
  refine wpAny_bind (wpAny_pure (wpAny_pure ?_))
  show wpAny _ _ (retInt ((((some (b, e) :: sp).flatMap spanI).map reRawOf).toArray.getD (2 * 0 + 1) (-1))) _ _ _
  have e1 : (((some (b, e) :: sp).flatMap spanI).map reRawOf).toArray.getD (2 * 0 + 1) (-1) = (e : Int) := by
    rw [spans_raw]; simp
  rw [e1]
  exact wpAny_bind (wpAny_mkInt (wpAny_pure ⟨_, rfl, h _ _⟩))

theorem span_at : ∀ (sp : List (Option (Nat × Nat))) (g : Nat) (q : Option (Nat × Nat)), sp[g]? = some q →
    ((sp.flatMap spanI).map reRawOf).toArray.getD (2 * g) (-1) = (match q with | some (a, _) => (a : Int) | none => -1) ∧ ((sp.flatMap spanI).map reRawOf).toArray.getD (2 * g + 1) (-1) = (match q with | some (_, b) => (b : Int) | none => -1) := by
  intro sp
  rw [spans_raw]
  induction sp with
  | nil => intro g q h; simp at h
  | cons p sp ih =>
    intro g q h
    cases g with
    | zero =>
      simp at h; subst h
      cases p <;> simp
    | succ g =>
      obtain ⟨h1, h2⟩ := ih g q (by simpa using h)
      have e : ∀ (k : Nat), ((p :: sp).flatMap fun q => match q with | some (a, b) => [(a : Int), (b : Int)] | none => [-1, -1]).toArray.getD (k + 2) (-1) = (sp.flatMap fun q => match q with | some (a, b) => [(a : Int), (b : Int)] | none => [-1, -1]).toArray.getD k (-1) := by
        intro k
        cases p <;> simp [Array.getD_eq_getD_getElem?]
      rw [show 2 * (g + 1) = 2 * g + 2 by omega, show 2 * g + 2 + 1 = (2 * g + 1) + 2 by omega, e, e]
      exact ⟨h1, h2⟩

theorem spans_len : ∀ (sp : List (Option (Nat × Nat))), ((sp.flatMap spanI).map reRawOf).length = 2 * sp.length
  | [] => rfl
  | q :: sp => by
    rw [List.flatMap_cons, List.map_append, List.length_append, spans_len sp]
    cases q with
    | none => simp [spanI]; omega
    | some p => simp [spanI]; omega

/-- the texts of the groups, one behind another -/
theorem groups_run {l : List Nat} {sp : List (Option (Nat × Nat))} {m : Option (Nat × Nat)} {fs : Array Value} {t : Tok} (B : Around) (hf : fs.getD 0 .none = .str ⟨l.toArray⟩ t) (hl : l.length ≤ big) (hsp : ∀ q ∈ m :: sp, ∀ r, q = some r → r.1 ≤ r.2 ∧ r.2 ≤ l.length) :
    ∀ (gs : List Nat) (s : Shared) (Q : List Value → Shared → Prop) (E : Value → Shared → Prop), (∀ g ∈ gs, g < sp.length) →
      (∀ ws k, ws.length = gs.length → (∀ (j g : Nat) (w : Value), gs[j]? = some g → ws[j]? = some w → ∀ (G : Gx) (ρ : Rho) (h : Heap), VR G ρ h (spanTxt l ((sp[g]?).getD none)) w) → Q ws { s with toks := k }) →
      wpAny (Mo G) B (gs.mapM fun g => reGroupText ⟨fs, (((m :: sp).flatMap spanI).map reRawOf).toArray⟩ (g + 1) .none) Q E s := by
  intro gs
  induction gs with
  | nil =>
    intro s Q E _ h
    rw [List.mapM_nil]
    exact wpAny_pure (h [] s.toks rfl fun j g w e => by simp at e)
  | cons g gs ih =>
    intro s Q E hg h
    rw [List.mapM_cons]
    have hlt := hg g (List.mem_cons_self ..)
    obtain ⟨e1, e2⟩ := span_at (m :: sp) (g + 1) sp[g] (by simp [hlt])
    have one : ∀ (Q' : Value → Shared → Prop), (∀ w k, (∀ (G : Gx) (ρ : Rho) (h : Heap), VR G ρ h (spanTxt l sp[g]) w) → Q' w { s with toks := k }) →
        wpAny (Mo G) B (reGroupText ⟨fs, (((m :: sp).flatMap spanI).map reRawOf).toArray⟩ (g + 1) .none) Q' E s := by
      intro Q' hQ'
      unfold reGroupText
      simp only [e1, e2]
      cases hq : sp[g] with
      | none =>
        simp only
        rw [if_pos (by decide)]
        exact wpAny_pure (hQ' .none s.toks fun G ρ h => by rw [hq]; exact .none)
      | some r =>
        obtain ⟨x, y⟩ := r
        simp only
        have hxy := hsp sp[g] (List.mem_cons_of_mem _ (List.getElem_mem hlt)) (x, y) hq
        rw [if_neg (by simp), hf]
        refine wpAny_bind (wpAny_bind (wpAny_pure (wpAny_pure ?_)))
        show wpAny _ _ (mkStr ⟨l.toArray.extract x y⟩) _ _ _
        have e3 : l.toArray.extract x y = ((l.drop x).take (y - x)).toArray := by rw [List.extract_toArray, List.extract_eq_take_drop]
        rw [e3]
        have hlen : ((l.drop x).take (y - x)).length ≤ big := by rw [List.length_take, List.length_drop]; omega
        exact wpAny_mkStr (hQ' _ _ fun G ρ h => by rw [hq]; exact .str _ _ hlen) (by rw [str_len]; exact Nat.le_trans hlen big_lineP)
    refine wpAny_bind (one _ fun w k hw => wpAny_bind (ih { s with toks := k } _ E (fun g' hg' => hg g' (List.mem_cons_of_mem _ hg')) fun ws k' hlen hws => wpAny_pure ?_))
    refine h (w :: ws) k' (by simp [hlen]) fun j g' w' hj hw' => ?_
    cases j with
    | zero =>
      simp at hj hw'
      subst hj hw'
      intro G ρ h
      rw [List.getElem?_eq_getElem hlt]
      exact hw G ρ h
    | succ j => exact hws j g' w' (by simpa using hj) (by simpa using hw')

theorem bi_groups {l : List Nat} {sp : List (Option (Nat × Nat))} {m : Option (Nat × Nat)} {Q : Value → Shared → Prop} (R : Rel G ρ H s) (ha : VR G ρ s.heap (.mat l (m :: sp)) a')
    (h : ∀ v' s', Ext G NoX ρ H s.heap ρ H s'.heap → Rel G ρ H s' → VR G ρ s'.heap (.tup (sp.map (spanTxt l))) v' → Q v' s') : wpAny (Mo G) A (call (.builtin "re.Match.groups") [a']) Q Er s := by
  have hT : s.TypeIs a' "re.Match" := by cases ha with | mat ho hc => exact ⟨_, ho, hc⟩
  have hfacts : (∀ q ∈ m :: sp, ∀ r, q = some r → r.1 ≤ r.2 ∧ r.2 ≤ l.length) ∧ l.length ≤ big ∧ (m :: sp).length ≤ 100 := by cases ha with | mat _ _ _ _ _ _ _ h1 h2 h3 => exact ⟨h1, h2, h3⟩
  obtain ⟨f1, f2, f3⟩ := hfacts
  refine wpAny_call_entry slot_Match_groups hT entry_Match_groups ?_ (args_Match_groups _)
  unfold Builtin.«re.Match.groups» reWithDefault
  refine wpAny_bind (wpAny_bind ?_)
  show wpAny _ _ (reNamed "re.Match.groups" "groups" ["default"] 0 [] []) _ _ _
  refine wpAny_of_eq (a := [none]) rfl ?_
  show wpAny _ _ (reFound a' >>= fun x => pure (x, (Value.none : Value))) _ _ _
  refine found ha _ fun fs hf => wpAny_pure ?_
  have hf' : ∃ t, fs.getD 0 .none = .str ⟨l.toArray⟩ t := by rcases hf with e | e; exact ⟨_, e⟩; exact e
  obtain ⟨t, hf'⟩ := hf'
  have hsz : (((m :: sp).flatMap spanI).map reRawOf).toArray.size / 2 - 1 = sp.length := by rw [List.size_toArray, spans_len, List.length_cons]; omega
  show wpAny _ _ ((List.range ((((m :: sp).flatMap spanI).map reRawOf).toArray.size / 2 - 1)).mapM (fun g => reGroupText ⟨fs, (((m :: sp).flatMap spanI).map reRawOf).toArray⟩ (g + 1) .none) >>= fun ws => newTuple ws >>= fun v => ret v) _ _ _
  rw [hsz]
  refine wpAny_bind (groups_run A.in1 hf' f2 f1 _ s _ _ (fun g hg => by simpa using hg) fun ws k hlen hws => ?_)
  have hlen' : ws.length = sp.length := by simpa using hlen
  refine wpAny_bind (wpAny_newTuple ?_ (by have := big_lineP; have : big = 1048576 := rfl; have : (m :: sp).length = sp.length + 1 := rfl; omega))
  have kk : Keeps s.heap (s.heap.push { cls := .type "tuple", data := .seq ws.toArray }) := Keeps.push _ _
  refine wpAny_pure ⟨_, rfl, h _ { s with heap := _, toks := k } (R.extKeeps kk) (R.keeps kk k) ?_⟩
  refine .tup (Heap.get?_push_size _ rfl) rfl rfl (by simp [hlen']) (fun i v w hv hw => ?_) (by have : big = 1048576 := rfl; have : (m :: sp).length = sp.length + 1 := rfl; simp; omega)
  have hi : i < sp.length := by have := (List.getElem?_eq_some_iff.mp hv).1; simpa using this
  have := hws i i w (by rw [List.getElem?_range hi]) hw G ρ (s.heap.push { cls := .type "tuple", data := .seq ws.toArray })
  rw [List.getElem?_eq_getElem hi] at this
  rw [List.getElem?_map, List.getElem?_eq_getElem hi] at hv
  cases hv
  exact this
end
end Mine

end
section
open PySem PySem.W PySem.Calls PyProof.Rows Builtin Builtin.ObjectAttr Builtin.Re
set_option autoImplicit false
namespace Mine
section
variable {G : Gx} {A : Around} {ρ : Rho} {H H' : Hp} {s : Shared} {d : Nat} {Er : Value → Shared → Prop} {a b c v : V} {a' b' v' : Value} {x : Str}

theorem drive {M : Model} {Q : Sre.M → Shared → Prop} {m' : Sre.M} (ho : m'.outcome.isSome = true) (hQ : Q m' s) : ∀ (turns n : Nat) (m : Sre.M), m.runFor n = m' → n ≤ 4 * turns → 1 ≤ turns → wpAny M A (reDrive turns m) Q Er s
  | 0, _, _, _, _, h => by omega
  | turns + 1, n, m, e, hn, _ => by
    show wpAny M A (if (m.runFor 4).outcome.isSome = true then pure (m.runFor 4) else (do rule "sre.turn"; reDrive turns (m.runFor 4))) Q Er s
    by_cases h4 : n ≤ 4
    · have : m.runFor 4 = m' := by
        rw [show 4 = n + (4 - n) by omega, runFor_add, e, runFor_done ho]
      rw [this, if_pos ho]
      exact wpAny_pure hQ
    · have e4 : (m.runFor 4).runFor (n - 4) = m' := by rw [← runFor_add, show 4 + (n - 4) = n by omega, e]
      by_cases h : (m.runFor 4).outcome.isSome = true
      · rw [if_pos h]
        rw [runFor_done h] at e4
        rw [e4]
        exact wpAny_pure hQ
      · rw [if_neg h]
        exact wpAny_bind (wpAny_rule (drive ho hQ turns (n - 4) _ e4 (by omega) (by omega)))

theorem rules_pass {M : Model} {Q : PUnit → Shared → Prop} (f : Nat → Bool) (nm : Nat → String) : ∀ (l : List Nat), Q ⟨⟩ s → wpAny M A (forIn l PUnit.unit fun i _ => (if f i = true then (do rule (nm i); pure (ForInStep.yield PUnit.unit)) else pure (ForInStep.yield PUnit.unit) : Sem (ForInStep PUnit))) Q Er s
  | [], h => wpAny_pure h
  | i :: l, h => by
    rw [List.forIn_cons]
    refine wpAny_bind ?_
    split
    · exact wpAny_bind (wpAny_rule (wpAny_pure (rules_pass f nm l h)))
    · exact wpAny_pure (rules_pass f nm l h)

theorem run_to_end {M : Model} {Q : Option Sre.M → Shared → Prop} {m m' : Sre.M} {k : Nat} (r : Run k m m') (hk : k ≤ 2 ^ 60)
    (h : (m'.outcome = some .matched ∧ Q (some m') s) ∨ (m'.outcome = some .failed ∧ Q none s)) : wpAny M A (reRunToEnd m) Q Er s := by
  have ho : m'.outcome.isSome = true := by rcases h with ⟨e, _⟩ | ⟨e, _⟩ <;> rw [e] <;> rfl
  obtain ⟨n, hn, e⟩ := r
  unfold reRunToEnd
  refine wpAny_bind (drive (m' := m') ho ?_ (2 ^ 64) n m e (by omega) (by omega))
  refine wpAny_bind ?_
  refine wpAny_mono (rules_pass (Q := fun _ s' => s' = s) (fun i => m'.seen.has i) (fun i => Sre.names.getD i "") (List.range Sre.names.size) rfl) (fun _ s' hs => ?_) fun _ _ x => x
  subst hs
  rcases h with ⟨e, q⟩ | ⟨e, q⟩ <;> rw [e] <;> exact wpAny_pure q

def spanVals (m : Sre.M) (n : Nat) : List Value := (List.range n).flatMap fun g =>
    match if ((2 * g + 1 : Nat) : Int) ≤ m.lastmark then (m.marks.getD (2 * g) none, m.marks.getD (2 * g + 1) none) else (none, none) with
    | (some b, some e) => [rawInt b, rawInt e]
    | _ => [rawInt (-1), rawInt (-1)]
def anyBad (m : Sre.M) (n : Nat) : Bool := (List.range n).any fun g => match m.marks.getD (2 * g) none, m.marks.getD (2 * g + 1) none with
    | some b, some e => decide (((2 * g + 1 : Nat) : Int) ≤ m.lastmark) && decide (e < b)
    | _, _ => false
theorem spans_of (m : Sre.M) (n : Nat) : spanVals m n = ((List.range n).map (spanOf m)).flatMap spanI := by
  unfold spanVals
  rw [List.flatMap_map]
  congr 1
  funext g
  unfold spanOf
  generalize (if ((2 * g + 1 : Nat) : Int) ≤ m.lastmark then (m.marks.getD (2 * g) none, m.marks.getD (2 * g + 1) none) else (none, none) : Option Nat × Option Nat) = q
  obtain ⟨x, y⟩ := q
  cases x <;> cases y <;> rfl
theorem wrong_of (m : Sre.M) (n : Nat) (h : ∀ g < n, ∀ b e, spanOf m g = some (b, e) → b ≤ e) : anyBad m n = false := by
  unfold anyBad
  rw [List.any_eq_false]
  intro g hg
  have hg : g < n := by simpa using hg
  have hs := h g hg
  unfold spanOf at hs
  cases h1 : m.marks.getD (2 * g) none with
  | none => simp
  | some b =>
    cases h2 : m.marks.getD (2 * g + 1) none with
    | none => simp
    | some e =>
      rw [h1, h2] at hs
      by_cases h3 : ((2 * g + 1 : Nat) : Int) ≤ m.lastmark
      · rw [if_pos h3] at hs
        have := hs b e rfl
        have : ¬ e < b := by omega
        simp [this]
      · show ¬ (decide _ && decide _) = true
        rw [decide_eq_false h3]; simp

theorem numT_ok {T : Array Nat} {pos : Nat} {sp : List (Option (Nat × Nat))} (hpos : pos ≤ T.size) (h : numT T pos = some sp) : ∀ q ∈ sp, ∀ r, q = some r → r.1 ≤ r.2 ∧ r.2 ≤ T.size := by
  unfold numT at h
  split at h
  · cases h
  · rename_i n hn
    have hi := intT_le hn
    cases h
    generalize hI : pos + blT T pos + n = i at *
    have hf : i + (fracT T i).getD 0 ≤ T.size := by
      cases hq : fracT T i with
      | none => simpa using hi
      | some k => exact fracT_le hq
    have he : i + (fracT T i).getD 0 + (expT T (i + (fracT T i).getD 0)).getD 0 ≤ T.size := by
      cases hq : expT T (i + (fracT T i).getD 0) with
      | none => simpa using hf
      | some k => exact expT_le hq
    have hz := cnt_le isBl T _ he
    intro q hq r hr
    subst hr
    unfold numFin at hq
    simp only [List.mem_cons, List.not_mem_nil, or_false] at hq
    rcases hq with hq | hq | hq | hq
    · cases hq
      refine ⟨?_, hz⟩
      show pos ≤ _ + blT T _
      omega
    · cases hq
      exact ⟨by show pos + blT T pos ≤ i; omega, hi⟩
    · obtain ⟨k, hk, e⟩ := Option.map_eq_some_iff.mp hq.symm
      cases e
      exact ⟨Nat.le_add_right _ _, fracT_le hk⟩
    · obtain ⟨k, hk, e⟩ := Option.map_eq_some_iff.mp hq.symm
      cases e
      exact ⟨Nat.le_add_right _ _, expT_le hk⟩
theorem bi_match {l : List Nat} {p : Int} {A0 : Addr} {t u : Tok} {Q : Value → Shared → Prop} (K : GOK G) (R : Rel G ρ H s) (hg : G.addr "NUMBER_RE" = some A0) (hp : 0 ≤ p ∧ p ≤ l.length) (ha : ascii (l.drop p.toNat) = true) (hl : l.length ≤ big)
    (h0 : numT l.toArray p.toNat = none → ∀ s', Ext G NoX ρ H s.heap ρ H s'.heap → Rel G ρ H s' → Q .none s')
    (h1 : ∀ sp, numT l.toArray p.toNat = some sp → ∀ v' s', Ext G NoX ρ H s.heap ρ H s'.heap → Rel G ρ H s' → VR G ρ s'.heap (.mat l sp) v' → Q v' s') :
    wpAny (Mo G) A (call (.builtin "re.Pattern.match") [.ref A0, .str ⟨l.toArray⟩ t, .int p u]) Q Er s := by
  obtain ⟨o, ho, hc, hdi, f0, f1, f3, f4, L, t2, t6, oL, items, nL, hd, hL, hLd, hcode⟩ := K.pat A0 hg
  have ho' := R.base _ _ ho
  have hL' := R.base _ _ hL
  have hb : big = 1048576 := rfl
  refine wpAny_call_entry slot_Pattern_match ⟨o, ho', hc⟩ entry_Pattern_match ?_ (args_Pattern_match _ _ _)
  unfold Builtin.«re.Pattern.match» reTarget
  refine wpAny_bind ?_
  show wpAny _ _ (reNamed "re.Pattern.match" "match" ["string", "pos", "endpos"] 1 [.str ⟨l.toArray⟩ t, .int p u] [] >>= _) _ _ _
  refine wpAny_bind (wpAny_of_eq (a := [some (.str ⟨l.toArray⟩ t), some (.int p u), none]) rfl ?_)
  have hss : ∀ (Q : Int → Shared → Prop) (E : Value → Shared → Prop), Q p s → wpAny (Mo G) A.in1 (reSsize (.int p u)) Q E s := fun Q E h => by
    unfold reSsize
    refine wpAny_bind (wpAny_of_eq (a := p) rfl ?_)
    rw [if_neg (by simp; omega)]
    exact wpAny_pure h
  refine wpAny_bind (hss _ _ ?_)
  refine wpAny_bind (wpAny_pure ?_)
  refine wpAny_bind (wpAny_fieldsOf ho' hd ?_)
  refine wpAny_bind (m := reTextOf _) (wpAny_bind (wpAny_pure (wpAny_pure ?_)))
  show wpAny _ _ (reNoCollectionInside (.str ⟨l.toArray⟩ t) 0 >>= fun _ => reRawItems (.ref L) >>= fun code =>
    (pure { pattern := .ref A0, string := .str ⟨l.toArray⟩ t, code := code.map (·.toNat), text := l.toArray, kind := 0, groups := 3, pos := min p.toNat l.toArray.size, lim := min (2 ^ 63 - 1 : Int).toNat l.toArray.size } : Sem ReTarget)) _ _ _
  refine wpAny_bind (wpAny_of_eq (a := ()) rfl ?_)
  unfold reRawItems
  refine wpAny_bind (wpAny_bind ?_)
  refine wpAny_seqItems hL' hLd (wpAny_pure (wpAny_pure ?_))
  dsimp only
  have e1 : min p.toNat l.toArray.size = p.toNat := by rw [List.size_toArray]; omega
  have e2 : min (2 ^ 63 - 1 : Int).toNat l.toArray.size = l.toArray.size := by
    rw [List.size_toArray]
    have : ((2 : Int) ^ 63 - 1).toNat = 9223372036854775807 := by decide
    rw [this]; omega
  have e3 : (((some items).getD #[]).map reRawOf).map (·.toNat) = numC := hcode
  rw [e3, e1, e2]
  show wpAny _ _ (reAnswer _ (Sre.forMatch numC l.toArray 3 p.toNat l.toArray.size false false)) _ _ _
  obtain ⟨m', r, hm⟩ := num_run (T := l.toArray) (pos := p.toNat) (by rw [List.size_toArray]; omega) (by rw [List.size_toArray]; show l.length ≤ 4294967295; omega) (fun q hq => by
    by_cases hq2 : q < l.length
    · have : l.toArray.getD q 0 = l[q] := by simp [Array.getD, hq2]
      rw [this]
      refine ascii_mem ha ?_
      rw [List.mem_iff_getElem?]
      exact ⟨q - p.toNat, by rw [List.getElem?_drop, show p.toNat + (q - p.toNat) = q by omega, List.getElem?_eq_getElem hq2]⟩
    · have : l.toArray.getD q 0 = 0 := by simp [Array.getD, hq2]
      rw [this]; omega)
  unfold reAnswer
  refine wpAny_bind (run_to_end r (by rw [List.size_toArray]; omega) ?_)
  cases hn : numT l.toArray p.toNat with
  | none =>
    rw [hn] at hm
    exact .inr ⟨hm, wpAny_pure ⟨_, rfl, h0 hn s Ext.refl R⟩⟩
  | some sp =>
    rw [hn] at hm
    obtain ⟨ho', hsp⟩ := hm
    refine .inl ⟨ho', ?_⟩
    show wpAny _ _ (reNewMatch (.ref A0) (.str ⟨l.toArray⟩ t) 3 p.toNat l.toArray.size m' >>= fun v => ret v) _ _ _
    refine wpAny_bind ?_
    unfold reNewMatch
    have hsp' : (List.range 3).map (spanOf m') = sp.tail := by rw [← hsp]; rfl
    have b1 := numT_ok (by rw [List.size_toArray]; omega) hn
    have hnw : anyBad m' 3 = false := wrong_of m' 3 fun g hg x y e => by
      have hm : spanOf m' g ∈ sp := by
        refine List.mem_of_mem_tail ?_
        rw [← hsp']
        exact List.mem_map_of_mem (by simpa using hg)
      exact (b1 _ hm _ e).1
    change wpAny _ _ (if anyBad m' 3 = true then (reWrongSpan >>= fun _ => newTuple (rawInt m'.start :: rawInt m'.handed :: spanVals m' 3) >>= fun tv => newFields "re.Match" [.str ⟨l.toArray⟩ t, .ref A0, rawInt p.toNat, rawInt l.toArray.size, rawInt m'.lastindex, tv])
      else (newTuple (rawInt m'.start :: rawInt m'.handed :: spanVals m' 3) >>= fun tv => newFields "re.Match" [.str ⟨l.toArray⟩ t, .ref A0, rawInt p.toNat, rawInt l.toArray.size, rawInt m'.lastindex, tv])) _ _ _
    rw [hnw, if_neg (by simp), spans_of]
    refine wpAny_bind (wpAny_newTuple ?_ ?_)
    rotate_left
    · rw [hsp']
      have : sp.tail.length ≤ 3 := by rw [← hsp']; simp
      have h2 := spans_len sp.tail
      rw [List.length_map] at h2
      show (rawInt _ :: rawInt _ :: sp.tail.flatMap spanI).length ≤ sizeLine
      simp only [List.length_cons]
      rw [h2]
      have : (10 : Nat) ≤ sizeLine := by decide
      omega
    · refine wpAny_newObj_type ?_
      have k1 : Keeps s.heap (s.heap.push { cls := .type "tuple", data := .seq (rawInt m'.start :: rawInt m'.handed :: ((List.range 3).map (spanOf m')).flatMap spanI).toArray }) := Keeps.push _ _
      have k2 := k1.trans (Keeps.push _ { cls := .type "re.Match", data := .fields [Value.str ⟨l.toArray⟩ t, .ref A0, rawInt p.toNat, rawInt l.toArray.size, rawInt m'.lastindex, .ref s.heap.objs.size].toArray })
      refine wpAny_pure ⟨_, rfl, h1 sp hn _ { s with heap := _ } (R.extKeeps k2) (R.keeps k2 s.toks) ?_⟩
      have hflat : (rawInt m'.start :: rawInt m'.handed :: ((List.range 3).map (spanOf m')).flatMap spanI) = sp.flatMap spanI := by rw [← hsp]; rfl
      refine .mat (Heap.get?_push_size _ rfl) rfl rfl rfl (Heap.get?_push_of_some _ (Heap.get?_push_size _ rfl)) rfl (n := 0) ?_ ?_ hl ?_
      · rw [hflat]
      · intro q hq r hr
        exact ⟨(b1 q hq r hr).1, by have := (b1 q hq r hr).2; rw [List.size_toArray] at this; exact this⟩
      · rw [← hsp]; simp
end
end Mine

end
section
open PySem PySem.W PySem.Calls PyProof.Rows Builtin Builtin.ObjectAttr
set_option autoImplicit false
namespace Mine
section
variable {G : Gx} {A : Around} {ρ : Rho} {H H' : Hp} {s : Shared} {d : Nat} {Er : Value → Shared → Prop} {a b c v : V} {a' b' v' : Value} {x : Str}

/-- what can be called: its keeper is known -/
def callable : V → Bool
  | .st _ => true
  | .glo _ => true
  | .clo .. => true
  | _ => false
theorem keeper_fn {f : Addr} {o : Obj} {fd : FuncData} {Q : Keeper → Shared → Prop} (ho : s.heap.get? f = some o) (hd : o.data = .func fd) (h : ∀ k, Q k s) : wpAny (Mo G) A (keeperOf (.ref f)) Q Er s := by
  unfold keeperOf
  refine wpAny_bind (wpAny_load ho ?_)
  rw [hd]
  exact wpAny_pure (h _)
theorem prim_keeper {f : V} {f' : Value} {Q : Keeper → Shared → Prop} (K : GOK G) (R : Rel G ρ H s) (hf : VR G ρ s.heap f f') (hc : callable f = true) (hg : ∀ y, f = .glo y → (G.T.fn y).isSome = true ∨ (G.T.meth y "__init__").isSome = true)
    (h : ∀ k, Q k s) : wpAny (Mo G) A (keeperOf f') Q Er s := by
  cases hf <;> try (cases hc; done)
  · exact wpAny_pure (h _)
  · exact wpAny_pure (h _)
  · rename_i y a hy
    rcases hg y rfl with e | e
    · obtain ⟨i, hi⟩ := Option.isSome_iff_exists.mp e
      obtain ⟨a', o, nm, qual, dV, kV, doc, pm, an, cdv, ct, h1, h2, h3, _⟩ := K.fn y i hi
      rw [hy] at h1; cases h1
      exact keeper_fn (R.base _ _ h2) h3 h
    · obtain ⟨k, _, L⟩ := looks_keep (M := Mo G) (K.cls y a hy e).2.2.2.2.2.2.1 (K.kin.keeps R.base)
      exact L _ _ _ _ (fun _ _ e => e) (h k)
  · rename_i ho hk hd _ _ _
    exact keeper_fn ho hd h

theorem intOf_text {l : List Nat} {i : Int} (h : intOf l = some i) : PySem.intText? ⟨l.toArray⟩ = some i ∧ (⟨l.toArray⟩ : Str).length ≤ 640 := by
  have dg : ∀ r : List Nat, r.all isDig = true → PySem.NumText.AllDigits r := fun r hr c hc => by
    have := List.all_eq_true.mp hr c hc
    unfold isDig at this
    simpa using this
  unfold intOf at h
  split at h
  · rename_i r
    split at h
    · rename_i hc
      obtain ⟨h1, h2, h3⟩ := hc
      cases h
      have hl : (⟨(45 :: r).toArray⟩ : Str).length ≤ 640 := by
        show (45 :: r).toArray.size ≤ 640
        simp; omega
      exact ⟨PySem.intText_neg (by simp) (dg r h2) h1 (Nat.le_trans hl (by decide)), hl⟩
    · cases h
  · split at h
    · rename_i hc
      obtain ⟨h1, h2, h3⟩ := hc
      cases h
      have hl : (⟨l.toArray⟩ : Str).length ≤ 640 := by
        show l.toArray.size ≤ 640
        simp; omega
      exact ⟨PySem.intText_digits (by simpa using dg l h2) (by simpa using h1) (Nat.le_trans hl (by decide)), hl⟩
    · cases h
theorem prim_ty {t : String} {args : List V} {args' : List Value} {Q : Value → Shared → Prop} (K : GOK G) (ar : AR d A) (hd : d ≤ 151) (R : Rel G ρ H s) (ha : VRs G ρ s.heap args args') (hv : tyM t args H = some (v, H'))
    (h : ∀ v' ρ' s', Ext G NoX ρ H s.heap ρ' H' s'.heap → Rel G ρ' H' s' → VR G ρ' s'.heap v v' → Q v' s') : wpAny (Mo G) A (call (.type t) args') Q Er s := by
  unfold tyM at hv
  split at hv
  · rename_i n
    cases hv
    obtain ⟨w, ws, rfl, h1, h2⟩ := ha.cons_inv
    rw [h2.nil_inv]
    cases h1 with
    | int _ t =>
    have k := Keeps.push s.heap { cls := .type "range", data := .fields #[.int 0 s.toks, .int n t, .int 1 (s.toks + 1)] }
    exact call_range_1 (h _ _ { s with heap := _, toks := s.toks + 1 + 1 } (R.extKeeps k) (R.keeps k _) (.rng (IsRange.new ..)))
  · rename_i l
    obtain ⟨i, hi, e⟩ := Option.map_eq_some_iff.mp hv
    cases e
    obtain ⟨w, ws, rfl, h1, h2⟩ := ha.cons_inv
    rw [h2.nil_inv]
    cases h1 with
    | str _ t hl =>
    obtain ⟨e1, e2⟩ := intOf_text hi
    exact KIN.call_text e1 e2 (h _ _ _ Ext.refl (R.tok _) (.int _ _))
  · cases hv

theorem bi_isinst {t : String} {r : Bool} {Q : Value → Shared → Prop} (R : Rel G ρ H s) (ha : VR G ρ s.heap a a') (ht : t = "bool" ∨ t = "str" ∨ t = "dict" ∨ t = "list") (hv : isInst a t H = some r)
    (h : ∀ k, Q (.bool r) { s with toks := k }) : wpAny (Mo G) A (call (.builtin "isinstance") [a', .type t]) Q Er s := by
  unfold isInst at hv
  split at hv
  · cases hv; cases ha
    rcases ht with rfl | rfl | rfl | rfl
    · exact IsiPair.NoneType_bool (h _)
    · exact IsiPair.NoneType_str (h _)
    · exact IsiPair.NoneType_dict (h _)
    · exact IsiPair.NoneType_list (h _)
  · cases hv; cases ha
    rcases ht with rfl | rfl | rfl | rfl
    · exact IsiPair.bool_bool (h s.toks)
    · exact IsiPair.bool_str (h _)
    · exact IsiPair.bool_dict (h _)
    · exact IsiPair.bool_list (h _)
  · cases hv; cases ha
    rcases ht with rfl | rfl | rfl | rfl
    · exact IsiPair.int_bool (h _)
    · exact IsiPair.int_str (h _)
    · exact IsiPair.int_dict (h _)
    · exact IsiPair.int_list (h _)
  · cases hv; cases ha
    rcases ht with rfl | rfl | rfl | rfl
    · exact IsiPair.str_bool (h _)
    · exact IsiPair.str_str (h s.toks)
    · exact IsiPair.str_dict (h _)
    · exact IsiPair.str_list (h _)
  · split at hv
    · rename_i xs hH
      cases hv
      cases ha with
      | obj hp =>
        obtain ⟨items, n, dd, sl, g1, v1, l1, _⟩ := R.list hp hH
        rcases ht with rfl | rfl | rfl | rfl
        · exact IsiPair.list_bool g1 rfl (h _)
        · exact IsiPair.list_str g1 rfl (h _)
        · exact IsiPair.list_dict g1 rfl (h _)
        · exact IsiPair.list_list g1 rfl (h s.toks)
    · rename_i es ver hH
      cases hv
      cases ha with
      | obj hp =>
        obtain ⟨kvs, g, dr, lb, _⟩ := R.dict hp hH
        obtain ⟨o, ho, hc⟩ := g.typeIs
        rcases ht with rfl | rfl | rfl | rfl
        · exact IsiPair.dict_bool ho hc (h _)
        · exact IsiPair.dict_str ho hc (h _)
        · exact IsiPair.dict_dict ho hc (h s.toks)
        · exact IsiPair.dict_list ho hc (h _)
    · cases hv
  · cases hv

theorem bi_append {i : Nat} {p : Addr × Addr} {xs : List V} {Q : Value → Shared → Prop} (R : Rel G ρ H s) (hp : ρ[i]? = some p) (hH : H[i]? = some (.list xs)) (hb : VR G ρ s.heap b b') (hl : xs.length < big)
    (h : ∀ s', Ext G NoX ρ H s.heap ρ (H.set i (.list (xs ++ [b]))) s'.heap → Rel G ρ (H.set i (.list (xs ++ [b]))) s' → Q .none s') : wpAny (Mo G) A (call (.builtin "list.append") [.ref p.1, b']) Q Er s := by
  obtain ⟨items, n, dd, sl, g1, v1, l1, _, hdd⟩ := R.list hp hH
  obtain ⟨n', hd'⟩ := Obj.data_mapSeq (o := ({ cls := .type "list", dict := dd, data := .seq items n, slots := sl } : Obj)) rfl (·.push b')
  refine wpAny_call_entry slot_list_append ⟨_, g1, rfl⟩ entry_list_append ?_ (args_list_append _ _)
  show wpAny _ _ (updateSeq p.1 (·.push b') >>= fun _ => ret .none) _ _ s
  refine wpAny_bind ?_
  have k := v1.arr
  have hbl := big_lineP
  refine wpAny_updateSeq g1 rfl (wpAny_pure ⟨.none, rfl, ?_⟩) (by omega)
  have hli : (s.heap.update p.1 (Obj.mapSeq (·.push b'))).IsList p.1 (items.push b') := ⟨_, Heap.get?_update_self _ g1 (Obj.isFreed_of_seq hd'), (Obj.cls_mapSeq ..), n', hd'⟩
  obtain ⟨R2, E2⟩ := R.setList hp hH hli (fun o e => by rw [Heap.get?_update_self _ g1 (Obj.isFreed_of_seq hd')] at e; cases e; rw [dict_mapSeq, slots_mapSeq]; exact hdd) (Heap.SameBut.update ..) (ys := xs ++ [b]) (by rw [Array.toList_push]; exact v1.append (VRs.cons hb VRs.nil)) (by rw [List.length_append]; exact hl) s.toks
  exact h { s with heap := _ } E2 R2

theorem bi_pop0 {i : Nat} {p : Addr × Addr} {xs : List V} {t : Tok} {Q : Value → Shared → Prop} (R : Rel G ρ H s) (hp : ρ[i]? = some p) (hH : H[i]? = some (.list (a :: xs)))
    (h : ∀ v' s', Ext G NoX ρ H s.heap ρ (H.set i (.list xs)) s'.heap → Rel G ρ (H.set i (.list xs)) s' → VR G ρ s'.heap a v' → Q v' s') : wpAny (Mo G) A (call (.builtin "list.pop") [.ref p.1, .int 0 t]) Q Er s := by
  obtain ⟨items, n, dd, sl, g1, v1, l1, _, hd1, hd2⟩ := R.list hp hH
  subst hd1 hd2
  obtain ⟨w, ws, e, V, Vs⟩ := VRs.cons_inv v1
  have hit : items = (w :: ws).toArray := by rw [← e]
  have k := v1.arr
  have hbl := big_lineP
  have hpos : 0 < items.size := by rw [← k]; exact Nat.succ_pos _
  refine call_meets PySem.F.slot_list_pop ⟨_, g1, rfl⟩ PySem.F.entry_list_pop (PySem.F.args_list_pop_2 _ _) (MeetsSeq.list_pop_at p.1 items n 0 t 0 w (by decide) (by unfold seqIndex?; simp [hpos]) (by rw [hit]; rfl) (by omega)) ⟨g1, ?_⟩
  have hd' : ∃ n', (Obj.mapSeq (fun xs => xs.eraseIdxIfInBounds 0) ({ cls := .type "list", dict := none, data := .seq items n, slots := #[] } : Obj)).data = .seq (items.eraseIdxIfInBounds 0) n' := Obj.data_mapSeq rfl _
  obtain ⟨n', hd'⟩ := hd'
  have hli : (s.heap.update p.1 (Obj.mapSeq fun xs => xs.eraseIdxIfInBounds 0)).IsList p.1 (items.eraseIdxIfInBounds 0) := ⟨_, Heap.get?_update_self _ g1 (Obj.isFreed_of_seq hd'), (Obj.cls_mapSeq ..), n', hd'⟩
  obtain ⟨R2, E2⟩ := R.setList hp hH hli (fun o e => by rw [Heap.get?_update_self _ g1 (Obj.isFreed_of_seq hd')] at e; cases e; rw [dict_mapSeq, slots_mapSeq]; exact ⟨rfl, rfl⟩) (Heap.SameBut.update ..) (ys := xs) (by rw [hit]; simpa [Array.eraseIdxIfInBounds] using Vs) (by have : xs.length + 1 = (a :: xs).length := rfl; omega) s.toks
  exact h _ { s with heap := _ } E2 R2 (V.mono E2)

theorem prim_bi {id : String} {args : List V} {args' : List Value} {Q : Value → Shared → Prop} (K : GOK G) (ar : AR d A) (hd : d ≤ 151) (R : Rel G ρ H s) (ha : VRs G ρ s.heap args args') (hv : biM id args H = some (v, H'))
    (h : ∀ v' ρ' s', Ext G NoX ρ H s.heap ρ' H' s'.heap → Rel G ρ' H' s' → VR G ρ' s'.heap v v' → Q v' s') : wpAny (Mo G) A (call (.builtin id) args') Q Er s := by
  unfold biM at hv
  split at hv
  · rename_i l
    cases hv
    obtain ⟨w, ws, rfl, h1, h2⟩ := ha.cons_inv
    rw [h2.nil_inv]
    cases h1 with
    | str _ t hl =>
      refine SBL.len (by rw [str_len]; have := big_ssize hl; omega) ?_
      rw [str_len]
      exact h _ _ { s with toks := s.toks + 1 + 1 } Ext.refl (R.tok _) (.int _ _)
  · rename_i l
    cases hv
    obtain ⟨w, ws, rfl, h1, h2⟩ := ha.cons_inv
    rw [h2.nil_inv]
    cases h1 with
    | @tup _ a o items n ho hc hdd hlen hi hbb =>
      have e : (items.toArray.size) = l.length := by simp [hlen]
      refine call_len_tup (items := items.toArray) ⟨o, ho, hc, n, hdd⟩ (by rw [e]; exact big_ssize hbb) ?_
      rw [e]
      exact h _ _ { s with toks := s.toks + 1 + 1 } Ext.refl (R.tok _) (.int _ _)
  · rename_i i
    obtain ⟨w, ws, rfl, h1, h2⟩ := ha.cons_inv
    rw [h2.nil_inv]
    cases h1 with
    | obj hp =>
      split at hv
      · rename_i xs hH
        cases hv
        obtain ⟨items, n, dd, sl, g1, v1, l1, _⟩ := R.list hp hH
        refine call_len_list ⟨_, g1, rfl, n, rfl⟩ (by rw [← v1.arr]; exact big_ssize l1) ?_
        rw [← v1.arr]
        exact h _ _ { s with toks := s.toks + 1 + 1 } Ext.refl (R.tok _) (.int _ _)
      · rename_i es ver hH
        cases hv
        obtain ⟨kvs, g, dr, lb, _⟩ := R.dict hp hH
        refine call_len_dict (not_sysm K R hp) g (by rw [← dr.len]; exact big_ssize lb) ?_
        rw [← dr.len]
        exact h _ _ { s with toks := s.toks + 1 + 1 } Ext.refl (R.tok _) (.int _ _)
      · cases hv
  · rename_i u t
    split at hv
    · rename_i ht
      obtain ⟨w, ws, rfl, h1, h2⟩ := ha.cons_inv
      obtain ⟨w2, ws2, rfl, h3, h4⟩ := h2.cons_inv
      rw [h4.nil_inv]
      obtain ⟨r, hr, e⟩ := Option.map_eq_some_iff.mp hv
      cases e
      cases h3
      refine bi_isinst R h1 ?_ hr fun k => h _ _ { s with toks := k } Ext.refl (R.tok _) (.bool _)
      simp only [Bool.or_eq_true, beq_iff_eq] at ht
      rcases ht with ((ht | ht) | ht) | ht
      · exact .inl ht
      · exact .inr (.inl ht)
      · exact .inr (.inr (.inl ht))
      · exact .inr (.inr (.inr ht))
    · cases hv
  · rename_i i
    obtain ⟨xs, h3, h4⟩ := Option.bind_eq_some_iff.mp hv
    obtain ⟨bs, h5, h6⟩ := Option.map_eq_some_iff.mp h4
    cases h6
    obtain ⟨w, ws, rfl, h1, h2⟩ := ha.cons_inv
    rw [h2.nil_inv]
    cases h1 with
    | obj hp =>
      obtain ⟨items, n, dd, sl, g1, v1, l1, _⟩ := R.list hp (listAt_some h3)
      rw [boolsOf_spec h5] at v1
      exact bi_all ar R ⟨_, g1, rfl, n, rfl⟩ v1 fun s' E' R' => h _ _ s' E' R' (.bool _)
  · rename_i c
    cases hv
    obtain ⟨w, ws, rfl, h1, h2⟩ := ha.cons_inv
    rw [h2.nil_inv]
    cases h1
    exact P.ord_of_char (h _ _ { s with toks := s.toks + 1 } Ext.refl (R.tok _) (.int _ _))
  · rename_i i u
    obtain ⟨xs, h3, h4⟩ := Option.bind_eq_some_iff.mp hv
    split at h4
    · rename_i hlt
      cases h4
      obtain ⟨w, ws, rfl, h1, h2⟩ := ha.cons_inv
      obtain ⟨w2, ws2, rfl, h3', h4'⟩ := h2.cons_inv
      rw [h4'.nil_inv]
      cases h1 with
      | obj hp => exact bi_append R hp (listAt_some h3) h3' hlt fun s' E' R' => h _ _ s' E' R' .none
    · cases h4
  · rename_i i
    split at hv
    · rename_i u xs h3
      cases hv
      obtain ⟨w, ws, rfl, h1, h2⟩ := ha.cons_inv
      obtain ⟨w2, ws2, rfl, h3', h4'⟩ := h2.cons_inv
      rw [h4'.nil_inv]
      cases h3'
      cases h1 with
      | obj hp => exact bi_pop0 R hp (listAt_some h3) fun v' s' E' R' V' => h _ _ s' E' R' V'
    · cases hv
  · rename_i l
    split at hv
    · rename_i hasc
      cases hv
      obtain ⟨w, ws, rfl, h1, h2⟩ := ha.cons_inv
      rw [h2.nil_inv]
      cases h1 with
      | str _ t hl => exact bi_strip hasc hl fun t' k => h _ _ { s with toks := k } Ext.refl (R.tok _) (.str _ _ (by
          have := hl
          unfold stripL
          rw [rstripL_take]
          refine Nat.le_trans (Nat.le_trans (List.length_take_le _ _) ?_) hl
          rw [Nat.sub_le_iff_le_add] <;> skip
          unfold lstripL
          exact Nat.le_trans (List.dropWhile_sublist _).length_le (Nat.le_add_right _ _)))
    · cases hv
  · rename_i l
    split at hv
    · rename_i hasc
      cases hv
      obtain ⟨w, ws, rfl, h1, h2⟩ := ha.cons_inv
      rw [h2.nil_inv]
      cases h1 with
      | str _ t hl => exact bi_rstrip hasc hl fun t' k => h _ _ { s with toks := k } Ext.refl (R.tok _) (.str _ _ (by
          rw [rstripL_take]
          exact Nat.le_trans (List.length_take_le' _ _) hl))
    · cases hv
  · rename_i sep i
    obtain ⟨xs, h3, h4⟩ := Option.bind_eq_some_iff.mp hv
    obtain ⟨ls, h5, h6⟩ := Option.bind_eq_some_iff.mp h4
    split at h6
    · rename_i hb
      cases h6
      obtain ⟨w, ws, rfl, h1, h2⟩ := ha.cons_inv
      obtain ⟨w2, ws2, rfl, h3', h4'⟩ := h2.cons_inv
      rw [h4'.nil_inv]
      cases h3' with
      | obj hp =>
        cases h1 with
        | str _ t hl =>
          obtain ⟨items, n, dd, sl, g1, v1, l1, _⟩ := R.list hp (listAt_some h3)
          rw [strsOf_spec h5] at v1
          exact bi_join ⟨_, g1, rfl, n, rfl⟩ v1 hl hb fun t' k => h _ _ { s with toks := k } Ext.refl (R.tok _) (.str _ _ hb)
    · cases h6
  · rename_i l c
    split at hv
    · rename_i hc
      cases hv
      obtain ⟨w, ws, rfl, h1, h2⟩ := ha.cons_inv
      obtain ⟨w2, ws2, rfl, h3', h4'⟩ := h2.cons_inv
      rw [h4'.nil_inv]
      cases h1
      cases h3'
      exact bi_index hc fun t' => h _ _ { s with toks := s.toks + 1 } Ext.refl (R.tok _) (.int _ _)
    · cases hv
  · rename_i i
    obtain ⟨es, h3, h4⟩ := Option.map_eq_some_iff.mp hv
    cases h4
    obtain ⟨w, ws, rfl, h1, h2⟩ := ha.cons_inv
    rw [h2.nil_inv]
    cases h1 with
    | obj hp =>
      obtain ⟨kvs, g, dr, lb, hpp⟩ := R.dict hp (dictAt_some h3)
      refine call_meetsIn PySem.F.slot_dict_clear g.typeIs PySem.F.entry_dict_clear (PySem.F.args_dict_clear_1 _) (meets_dict_clear (PySem.strKind G.prog G.w) _) ⟨kvs, g, by rw [← dr.len]; exact Nat.le_trans lb big_lineP, fun h' hm hs => ?_⟩
      obtain ⟨R2, E2⟩ := R.setDict hp (dictAt_some h3) hm hs (DRs.nil) ⟨Nat.zero_le _, fun e he => nomatch he⟩ (Nat.lt_succ_self _) s.toks
      exact h _ _ { s with heap := h' } E2 R2 .none
  · rename_i y l p
    split at hv
    · rename_i hc
      obtain ⟨w, ws, rfl, h1, h2⟩ := ha.cons_inv
      obtain ⟨w2, ws2, rfl, h3', h4'⟩ := h2.cons_inv
      obtain ⟨w3, ws3, rfl, h5', h6'⟩ := h4'.cons_inv
      rw [h6'.nil_inv]
      cases h1 with
      | @glo _ A0 hg =>
        cases h3' with
        | str _ t hl =>
          cases h5' with
          | int _ u =>
            obtain ⟨hc1, hc2, hc3⟩ := hc
            split at hv
            · rename_i hy
              have hv' := Option.some.inj hv
              have hy' := eq_of_beq hy
              subst hy'
              refine bi_match K R hg ⟨hc1, hc2⟩ hc3 hl (fun e s' E' R' => ?_) (fun sp e v' s' E' R' V' => ?_)
              · rw [e] at hv'; cases hv'; exact h _ _ s' E' R' .none
              · rw [e] at hv'; cases hv'; exact h _ _ s' E' R' V'
            · cases hv
    · cases hv
  · cases hv
    obtain ⟨w, ws, rfl, h1, h2⟩ := ha.cons_inv
    rw [h2.nil_inv]
    exact bi_end R h1 fun k t => h _ _ { s with toks := k } Ext.refl (R.tok _) (.int _ _)
  · cases hv
    obtain ⟨w, ws, rfl, h1, h2⟩ := ha.cons_inv
    rw [h2.nil_inv]
    exact bi_groups R h1 fun v' s' E' R' V' => h _ _ s' E' R' V'
  · cases hv
end
end Mine

end
section
open PySem PySem.W PySem.Calls PyProof.Rows
set_option autoImplicit false
namespace Mine
end Mine

end
section
open PySem PySem.W PySem.Calls PyProof.Rows
set_option autoImplicit false
namespace Mine

section
variable {M : Model} {A : Around} {E : Value → Shared → Prop} {s : Shared}
theorem callWith_any {pos : Pos} {f : Value} {first : List Value} {args : List (Bool × Sem Value)} {keywords : List (Option Str × Sem Value)} {Q : Value → Shared → Prop}
    (hplain : args.any (·.1) = false) (hall : keywords.all (·.1.isSome) = true)
    (h : wpAny M A (spliced args) (fun vs s₁ => wpAny M A (evalAll (keywords.map (·.2))) (fun ks s₂ => wpAny M A (keeperOf f) (fun _ s₃ => wpAny M A (call f (first ++ vs) ((keywords.filterMap (·.1)).zip ks)) Q E s₃) E s₂) E s₁) E s) :
    wpAny M A (callWith pos f first args keywords) Q E s := by
  have hE : wpAny M A (evalArgs f true args keywords) (fun x s₂ => wpAny M A (keeperOf f) (fun _ s₃ => wpAny M A (call f (first ++ x.pos) x.kw) Q E s₃) E s₂) E s := by
    cases args with
    | nil =>
      have h' : wpAny M A (evalAll (keywords.map (·.2))) (fun ks s₂ => wpAny M A (keeperOf f) (fun _ s₃ => wpAny M A (call f (first ++ []) ((keywords.filterMap (·.1)).zip ks)) Q E s₃) E s₂) E s := fun Γ p hΓ => h Γ p hΓ Γ p hΓ
      exact evalArgs_kw_nil hall h'
    | cons a r =>
      obtain ⟨b, t⟩ := a
      cases b with
      | true => simp at hplain
      | false => exact evalArgs_kw hall h
  unfold callWith
  refine wpAny_bind (wpAny_holding (wpAny_mono hE (fun x s₁ h₁ => wpAny_bind (wpAny_standAt ?_)) fun _ _ x => x))
  have tail : ∀ {t : Sem Value} {s₁ : Shared}, wpAny M A t Q E s₁ → wpAny M A (t >>= fun r => holding [r] point >>= fun _ => pure r) Q E s₁ :=
    fun ht => wpAny_bind (wpAny_mono ht (fun r s₂ hr => wpAny_bind (wpAny_holding (wpAny_point (wpAny_pure hr)))) fun _ _ x => x)
  have hk : keywords.any (·.1.isNone) = false := by
    rw [List.any_eq_false]; intro x hx
    have := List.all_eq_true.mp hall x hx
    cases hx1 : x.1 <;> simp_all
  refine wpAny_bind (m := keeperOf f) (wpAny_mono h₁ (fun k s₃ h₃ => ?_) fun _ _ x => x)
  simp only [hplain, hk, Bool.or_false]
  cases k <;> dsimp only
  · refine wpAny_ite ?_
    split <;> first
      | exact tail h₃
      | exact tail (by unfold callMarked; exact Calls.wpAny_keep h₃)
  · refine wpAny_ite ?_
    split <;> first
      | exact tail h₃
      | exact tail (by unfold callMarked; exact Calls.wpAny_keep h₃)
  · exact tail h₃
  · exact tail (wpAny_operating h₃)
end

def notStar (e : Expr) : Prop := ∀ a p, e ≠ .Starred a p
theorem starEach_cons {x : Expr} {rest : List Expr} {env : Env} (h : notStar x) : starEach (x :: rest) env = (false, eval x env) :: starEach rest env := by
  cases x <;> first | rfl | exact absurd rfl (h _ _)
theorem backTo_cons {pos : Pos} {t : Sem Value} {r : List (Bool × Sem Value)} : backTo pos ((false, t) :: r) = (false, t) :: backTo pos r := rfl

/-- the loop's end and the call's, in the model -/
inductive FlR (G : Gx) (ρ : Rho) (h : Heap) : Fl → Flow → Prop
  | next : FlR G ρ h .next .next
  | brk : FlR G ρ h .brk .brk
  | cont : FlR G ρ h .cont .cont
  | ret {v : V} {a : Value} : VR G ρ h v a → FlR G ρ h (.ret v) (.ret a)
theorem FlR.mono {G : Gx} {X : Addr → Prop} {ρ ρ' : Rho} {H H' : Hp} {h h' : Heap} {f : Fl} {g : Flow} (x : FlR G ρ h f g) (e : Ext G X ρ H h ρ' H' h') : FlR G ρ' h' f g := by
  cases x with
  | next => exact .next
  | brk => exact .brk
  | cont => exact .cont
  | ret v => exact .ret (v.mono e)

def KVR (G : Gx) (ρ : Rho) (h : Heap) (ks : List (Str × V)) (ws : List (Str × Value)) : Prop := ks.map (·.1) = ws.map (·.1) ∧ VRs G ρ h (ks.map (·.2)) (ws.map (·.2))

/-- all tasks that r answers are matched -/
structure TaskOK (G : Gx) (r : Task → Option Out) : Prop where
  call : ∀ {f : V} {args : List V} {kws : List (Str × V)} {d : Nat} {H : Hp} {out : Out} {A : Around} {ρ : Rho} {s : Shared} {f' : Value} {args' : List Value} {kws' : List (Str × Value)} {R : Result → Shared → Prop},
    r (.call f args kws d H) = some out → AR d A → d ≤ 151 → Rel G ρ H s → VR G ρ s.heap f f' → VRs G ρ s.heap args args' → KVR G ρ s.heap kws kws' →
    (∀ v a ρ' s', out.f = .ret v → Ext G NoX ρ H s.heap ρ' out.H s'.heap → Rel G ρ' out.H s' → VR G ρ' s'.heap v a → R (.ok (.ret a)) s') → codeAny (Mo G) A (.call f' ⟨args', kws'⟩) R s
  whl : ∀ {t : E} {a : S} {F : Fc} {loc : Loc} {H : Hp} {out : Out} {A : Around} {env : Env} {ρ : Rho} {s : Shared} {R : Result → Shared → Prop},
    r (.whl t a F loc H) = some out → Cx G F A env → St G F env loc ρ H s →
    (∀ fl ρ' s', Ext G (fun b => b = env.locals) ρ H s.heap ρ' out.H s'.heap → St G F env out.loc ρ' out.H s' → FlR G ρ' s'.heap out.f fl → R (.ok fl) s') → codeAny (Mo G) A (.whileLoop (upU t).e (upS a).l [] env) R s
  for_ : ∀ {t : E} {it : It} {a : S} {F : Fc} {loc : Loc} {H : Hp} {out : Out} {A : Around} {env : Env} {ρ : Rho} {s : Shared} {b : Addr} {R : Result → Shared → Prop},
    r (.for_ t it a F loc H) = some out → Cx G F A env → St G F env loc ρ H s → ItR G ρ H s.heap it b → ¬ own ρ b → G.base.get? b = none → b ∉ G.tabs.map (·.2) → b ≠ env.locals →
    (∀ fl ρ' s', Ext G (fun c => c = env.locals ∨ c = b) ρ H s.heap ρ' out.H s'.heap → St G F env out.loc ρ' out.H s' → FlR G ρ' s'.heap out.f fl → R (.ok fl) s') → codeAny (Mo G) A (.forLoop (upU t).e (.ref b) (upS a).l [] env) R s
  comp : ∀ {elt tgt ifs : E} {it : It} {acc : Nat} {F : Fc} {loc : Loc} {H : Hp} {out : Out} {A : Around} {env : Env} {ρ : Rho} {s : Shared} {b : Addr} {p : Addr × Addr} {iter : Expr} {sc : Scope} {pos : Pos} {R : Result → Shared → Prop},
    r (.comp elt tgt ifs it acc F loc H) = some out → Cx G F A env → St G F env loc ρ H s → ItR G ρ H s.heap it b → ¬ own ρ b → G.base.get? b = none → b ∉ G.tabs.map (·.2) → b ≠ env.locals → ρ[acc]? = some p →
    (∀ ρ' s', Ext G (fun c => c = env.locals ∨ c = b) ρ H s.heap ρ' out.H s'.heap → St G F env out.loc ρ' out.H s' → R (.ok .next) s') →
    codeAny (Mo G) A (.compLoop (.ListComp (upU elt).e [⟨(upU tgt).e, iter, (upU ifs).l, 0⟩] sc pos) 0 (.ref b) (.ref p.1) env) R s

section
variable (G : Gx) (r : Task → Option Out)
def PV (e : E) : Prop := ∀ {F : Fc} {A : Around} {env : Env} {loc : Loc} {ρ : Rho} {H H' : Hp} {s : Shared} {v : V} {Q : Value → Shared → Prop} {Er : Value → Shared → Prop},
  Cx G F A env → St G F env loc ρ H s → interp r ((den G.T F e loc).v H) = some (v, H') →
  (∀ a ρ' s', Ext G NoX ρ H s.heap ρ' H' s'.heap → St G F env loc ρ' H' s' → VR G ρ' s'.heap v a → Q a s') → wpAny (Mo G) A (eval (upU e).e env) Q Er s
def PT (e : E) : Prop := ∀ {F : Fc} {A : Around} {env : Env} {loc : Loc} {ρ : Rho} {H H' : Hp} {s : Shared} {v : Bool} {Q : Bool → Shared → Prop} {Er : Value → Shared → Prop},
  Cx G F A env → St G F env loc ρ H s → interp r ((den G.T F e loc).t H) = some (v, H') →
  (∀ ρ' s', Ext G NoX ρ H s.heap ρ' H' s'.heap → St G F env loc ρ' H' s' → Q v s') → wpAny (Mo G) A (isTrue (upU e).e env (eval (upU e).e env)) Q Er s
def PO (e : E) : Prop := ∀ {F : Fc} {A : Around} {env : Env} {loc : Loc} {ρ : Rho} {H H' : Hp} {s : Shared} {v : V} {Q : Value → Shared → Prop} {Er : Value → Shared → Prop},
  Cx G F A env → St G F env loc ρ H s → interp r ((den G.T F e loc).o H) = some (v, H') →
  (∀ a ρ' s', Ext G NoX ρ H s.heap ρ' H' s'.heap → St G F env loc ρ' H' s' → VR G ρ' s'.heap v a → Q a s') → wpAny (Mo G) A (valueOrNone (evalOpt (upU e).o env)) Q Er s
def PL (e : E) : Prop := ∀ {F : Fc} {loc : Loc} {H H' : Hp} {vs : List V}, interp r ((den G.T F e loc).l H) = some (vs, H') →
  ((∀ env, (starEach (upU e).l env).any (·.1) = false) ∧ (upU e).l.length = lenE e) ∧
  ∀ {A : Around} {env : Env} {ρ : Rho} {s : Shared} {pos : Pos} {Q : List Value → Shared → Prop} {Er : Value → Shared → Prop}, Cx G F A env → St G F env loc ρ H s →
  (∀ ws ρ' s', Ext G NoX ρ H s.heap ρ' H' s'.heap → St G F env loc ρ' H' s' → VRs G ρ' s'.heap vs ws → Q ws s') → wpAny (Mo G) A (spliced (backTo pos (starEach (upU e).l env))) Q Er s
def PK (e : E) : Prop := ∀ {F : Fc} {loc : Loc} {H H' : Hp} {vs : List (Str × V)}, interp r ((den G.T F e loc).k H) = some (vs, H') →
  ((∀ pos env, (backToKw pos (keywordEach (upU e).k env)).map (·.1) = vs.map (fun x => some x.1)) ∧ (upU e).k.length = lenE e) ∧
  ∀ {A : Around} {env : Env} {ρ : Rho} {s : Shared} {pos : Pos} {Q : List Value → Shared → Prop} {Er : Value → Shared → Prop}, Cx G F A env → St G F env loc ρ H s →
  (∀ ws ρ' s', Ext G NoX ρ H s.heap ρ' H' s'.heap → St G F env loc ρ' H' s' → VRs G ρ' s'.heap (vs.map (·.2)) ws → Q ws s') → wpAny (Mo G) A (evalAll ((backToKw pos (keywordEach (upU e).k env)).map (·.2))) Q Er s
def PTL (e : E) : Prop := ∀ {F : Fc} {A : Around} {env : Env} {loc : Loc} {ρ : Rho} {H H' : Hp} {s : Shared} {op : BoolOp} {v : Bool} {Q : Bool → Shared → Prop} {Er : Value → Shared → Prop},
  Cx G F A env → St G F env loc ρ H s → interp r ((den G.T F e loc).tl op H) = some (v, H') →
  (∀ ρ' s', Ext G NoX ρ H s.heap ρ' H' s'.heap → St G F env loc ρ' H' s' → Q v s') → wpAny (Mo G) A (allTrue op (upU e).l env) Q Er s
def PBL (e : E) : Prop := ∀ {F : Fc} {A : Around} {env : Env} {loc : Loc} {ρ : Rho} {H H' : Hp} {s : Shared} {op : BoolOp} {v : V} {pos : Pos} {Q : Value → Shared → Prop} {Er : Value → Shared → Prop},
  Cx G F A env → St G F env loc ρ H s → interp r ((den G.T F e loc).bl op H) = some (v, H') →
  (∀ a ρ' s', Ext G NoX ρ H s.heap ρ' H' s'.heap → St G F env loc ρ' H' s' → VR G ρ' s'.heap v a → Q a s') → wpAny (Mo G) A (boolOp pos op (evalEach (upU e).l env)) Q Er s
def PA (e : E) : Prop := ∀ {F : Fc} {A : Around} {env : Env} {loc loc' : Loc} {ρ : Rho} {H H' : Hp} {s : Shared} {v : V} {a : Value} {Q : Unit → Shared → Prop} {Er : Value → Shared → Prop},
  Cx G F A env → St G F env loc ρ H s → VR G ρ s.heap v a → interp r ((den G.T F e loc).a v H) = some (loc', H') →
  (∀ ρ' s', Ext G (fun b => b = env.locals) ρ H s.heap ρ' H' s'.heap → St G F env loc' ρ' H' s' → Q () s') → wpAny (Mo G) A (assign (upU e).e env a) Q Er s
def PAL (e : E) : Prop := ∀ {F : Fc} {loc loc' : Loc} {H H' : Hp} {vs : List V}, interp r ((den G.T F e loc).al vs H) = some (loc', H') →
  ((upU e).l.length = vs.length ∧ ∀ x ∈ (upU e).l, notStar x) ∧
  ∀ {A : Around} {env : Env} {ρ : Rho} {s : Shared} {ws : List Value} {Q : Unit → Shared → Prop} {Er : Value → Shared → Prop},
  Cx G F A env → St G F env loc ρ H s → VRs G ρ s.heap vs ws →
  (∀ ρ' s', Ext G (fun b => b = env.locals) ρ H s.heap ρ' H' s'.heap → St G F env loc' ρ' H' s' → Q () s') → wpAny (Mo G) A (assignInOrder ((assignEach (upU e).l env).map (·.2)) ws) Q Er s
structure SimD (e : E) : Prop where
  v : PV G r e
  t : PT G r e
  o : PO G r e
  l : PL G r e
  k : PK G r e
  tl : PTL G r e
  bl : PBL G r e
  a : PA G r e
  al : PAL G r e
end

section
variable {G : Gx} {r : Task → Option Out} {F : Fc} {A : Around} {env : Env} {loc : Loc} {ρ ρ' : Rho} {H H' : Hp} {s s' : Shared} {Er : Value → Shared → Prop}
theorem St.ext (x : St G F env loc ρ H s) (e : Ext G NoX ρ H s.heap ρ' H' s'.heap) (R : Rel G ρ' H' s') : St G F env loc ρ' H' s' := ⟨R, x.fd.mono e (fun q => q)⟩

/-- what a plain expression wants -/
theorem simEx (K : GOK G) {e : E} {dv : Fc → Loc → Hp → Prog (V × Hp)} (hd : ∀ F loc, (den G.T F e loc).v = dv F loc)
    (ht : ∀ F loc H, (den G.T F e loc).t H = ((den G.T F e loc).v H).bind fun r => (Prog.opt (truthM r.1 r.2)).bind fun b => .ret (b, r.2))
    (ho : ∀ F loc, (den G.T F e loc).o = (den G.T F e loc).v) (hl : ∀ F loc H, (den G.T F e loc).l H = .fail) (hk : ∀ F loc H, (den G.T F e loc).k H = .fail)
    (htl : ∀ F loc op H, (den G.T F e loc).tl op H = .fail) (hbl : ∀ F loc op H, (den G.T F e loc).bl op H = .fail) (hal : ∀ F loc vs H, (den G.T F e loc).al vs H = .fail)
    (huo : (upU e).o = some (upU e).e)
    (hT : ∀ env, isTrue (upU e).e env (eval (upU e).e env) = (do let v ← eval (upU e).e env; standAt (upU e).e.pos; holding [v] (truthy v)))
    (V : PV G r e) (A' : PA G r e) : SimD G r e where
  v := V
  t := by
    intro F A env loc ρ H H' s v Q Er C S hi h
    rw [ht] at hi
    obtain ⟨⟨a, H1⟩, h1, h2⟩ := interp_bind_some hi
    obtain ⟨b, h3, h4⟩ := interp_bind_some h2
    have h4 := interp_ret h4; have h3 := interp_opt h3
    cases h4
    rw [hT]
    refine wpAny_bind (V C S h1 fun a' ρ' s' E1 S1 hV => wpAny_bind (wpAny_standAt (wpAny_holding ?_)))
    exact prim_truth K C.ar C.d S1.rel hV h3 fun s2 E2 R2 => h _ _ (E1.trans' E2) (S1.ext E2 R2)
  o := by
    intro F A env loc ρ H H' s v Q Er C S hi h
    rw [huo]
    exact V C S (by rw [← ho]; exact hi) h
  l := by intro F loc H H' vs hi; rw [hl] at hi; cases hi
  k := by intro F loc H H' vs hi; rw [hk] at hi; cases hi
  tl := by intro F A env loc ρ H H' s op v Q Er C S hi; rw [htl] at hi; cases hi
  bl := by intro F A env loc ρ H H' s op v p Q Er C S hi; rw [hbl] at hi; cases hi
  a := A'
  al := by intro F loc loc' H H' vs hi; rw [hal] at hi; cases hi

theorem noA {e : E} (h : ∀ F loc v H, (den G.T F e loc).a v H = .fail) : PA G r e := by
  intro F A env loc loc' ρ H H' s v a Q Er C S hV hi; rw [h] at hi; cases hi

theorem sim_cst (K : GOK G) (c : Const) (k : Nat) (p : Pos) : SimD G r (.cst c k p) := by
  refine simEx K (fun _ _ => rfl) (fun _ _ _ => rfl) (fun _ _ => rfl) (fun _ _ _ => rfl) (fun _ _ _ => rfl) (fun _ _ _ _ => rfl) (fun _ _ _ _ => rfl) (fun _ _ _ _ => rfl) rfl (fun _ => rfl) ?_ (noA fun _ _ _ _ => rfl)
  intro F A env loc ρ H H' s v Q Er C S hi h
  obtain ⟨a, h1, h2⟩ := interp_bind_some hi
  have h2 := interp_ret h2; have h1 := interp_opt h1
  cases h2
  show wpAny _ _ (constValue env c) _ _ _
  cases c with
  | none => cases h1; exact wpAny_pure (h _ _ _ Ext.refl S .none)
  | bool b => cases h1; exact wpAny_pure (h _ _ _ Ext.refl S (.bool b))
  | int i => cases h1; exact wpAny_mkInt (h _ _ { s with toks := s.toks + 1 } Ext.refl (S.tok _) (.int i _))
  | str x =>
    have h1 : (if x.cps.size ≤ big then some (V.str x.cps.toList) else none) = some _ := h1
    split at h1
    · rename_i hb
      cases h1
      exact wpAny_mkText (h _ _ { s with toks := s.toks + 1 } Ext.refl (S.tok _) (by have := VR.str (G := G) (ρ := ρ) (h := s.heap) x.cps.toList s.toks (by simpa using hb); simpa using this))
    · cases h1
  | float x => cases h1
  | complex a b => cases h1
  | bytes b => cases h1
  | ellipsis => cases h1
end
end Mine

end
section
open PySem PySem.W PySem.Calls PyProof.Rows
set_option autoImplicit false
namespace Mine
section
variable {G : Gx} {r : Task → Option Out} {F : Fc} {A : Around} {env : Env} {loc loc' : Loc} {ρ ρ' : Rho} {H H' : Hp} {s s' : Shared} {Er : Value → Shared → Prop}

theorem putS_lookup (es : Loc) (k : Str) (v : V) (y : Str) : (putS es k v).lookup y = if y = k then some v else es.lookup y := by
  induction es with
  | nil =>
    simp only [putS, List.lookup_cons, List.lookup_nil]
    by_cases h : y = k
    · simp [h]
    · have h' : (y == k) = false := by simpa using h
      simp [h, h']
  | cons p es ih =>
    obtain ⟨k', v'⟩ := p
    unfold putS
    by_cases hk : k' = k
    · subst hk
      simp only [beq_self_eq_true, if_true, List.lookup_cons]
      by_cases h : y = k'
      · simp [h]
      · have h' : (y == k') = false := by simpa using h
        simp [h, h']
    · have : (k' == k) = false := by simpa using hk
      simp only [this, Bool.false_eq_true, if_false, List.lookup_cons, ih]
      by_cases h : y = k'
      · subst h; simp [hk]
      · have h' : (y == k') = false := by simpa using h
        simp [h']

theorem Ext.toX {X : Addr → Prop} {h h' : Heap} (x : Ext G NoX ρ H h ρ' H' h') : Ext G X ρ H h ρ' H' h' := x.weaken fun _ q => q.elim

theorem sim_store {x : Str} {v : V} {a : Value} {Q : Unit → Shared → Prop} (C : Cx G F A env) (S : St G F env loc ρ H s) (hV : VR G ρ s.heap v a) (hv : storeM F loc H x v = some (loc', H'))
    (h : ∀ s', Ext G (fun b => b = env.locals) ρ H s.heap ρ H' s'.heap → St G F env loc' ρ H' s' → Q () s') : wpAny (Mo G) A (storeName env x a) Q Er s := by
  have hn := C.names x
  unfold storeM at hv
  split at hv
  · rename_i hk
    rw [hk] at hn
    have hk' : env.kindOf x = some .local := by rcases hn with e | ⟨e, _⟩ <;> simp_all
    cases hv
    obtain ⟨m, hm, hl⟩ := S.fd.ns
    refine wpAny_storeName_local hk' hm (fun h' hn' hs => ?_) (by rw [C.kind]; rfl)
    obtain ⟨oL, es, ep, hL, hLd, _⟩ := id hm
    obtain ⟨oL', es', ep', hL', hLd', hr'⟩ := id hn'
    obtain ⟨R', E'⟩ := S.rel.but (h' := h') hs hL (ns_frozen hm hL) S.fd.nown S.fd.nbase S.fd.ntab ⟨_, hL'⟩ (s.toks + 1)
    refine h { s with heap := h', toks := s.toks + 1 } E' ⟨R', ⟨_, hn', fun y w hy => ?_⟩, S.fd.nown, S.fd.nbase, S.fd.ntab, S.fd.cells⟩
    rw [putS_lookup] at hy
    by_cases e : y = x
    · rw [if_pos e] at hy ⊢; cases hy; exact ⟨_, rfl, hV.mono E'⟩
    · rw [if_neg e] at hy ⊢
      obtain ⟨v', h1, h2⟩ := hl y w hy
      exact ⟨v', h1, h2.mono E'⟩
  · rename_i hk
    rw [hk] at hn
    have hk' : env.kindOf x = some .cell := by rcases hn with e | ⟨e, _⟩ <;> simp_all
    obtain ⟨i, hi, hc⟩ := Option.bind_eq_some_iff.mp hv
    obtain ⟨p, hp, hl⟩ := S.fd.cells x i hi
    split at hc
    · rename_i hcell
      cases hc
      unfold isCell at hcell
      split at hcell
      · rename_i w hH
        obtain ⟨hp2, o, v', ho, hd, _⟩ := S.rel.obj i p _ hp hH
        have hlt := (List.getElem?_eq_some_iff.mp hH).1
        refine wpAny_storeName_cell C.kind hk' hl ⟨o, ho, hd⟩ fun h' hc' hs => ?_
        obtain ⟨o', ho', hd'⟩ := hc'
        have fz : ∀ o, s.heap.get? p.1 = some o → frozen o = false := fun o2 e => by rw [ho] at e; cases e; unfold frozen; rw [hd]
        obtain ⟨R', E'⟩ := S.rel.upd (h' := h') (o' := .cell (some v)) hp hlt (fun b hb _ => hs.2 b hb) fz (by rw [hp2]; exact fz) ⟨_, ho'⟩ ⟨_, by rw [hp2]; exact ho'⟩ s.toks (fun es v e => by rw [hH] at e; cases e)
          (fun E => ⟨hp2, o', some a, ho', hd', fun y e => by cases e; exact ⟨a, rfl, hV.mono E⟩, fun e => by cases e⟩)
        exact h { s with heap := h' } E'.toX ⟨R', S.fd.mono E' (fun q => q)⟩
      · cases hcell
    · cases hc
  · cases hv

theorem sim_name (K : GOK G) (x : Str) (p : Pos) : SimD G r (.name x p) := by
  refine simEx K (fun _ _ => rfl) (fun _ _ _ => rfl) (fun _ _ => rfl) (fun _ _ _ => rfl) (fun _ _ _ => rfl) (fun _ _ _ _ => rfl) (fun _ _ _ _ => rfl) (fun _ _ _ _ => rfl) rfl (fun _ => rfl) ?_ ?_
  · intro F A env loc ρ H H' s v Q Er C S hi h
    change interp r (if x == dbg then .fail else (Prog.opt (loadM G.T F loc H x)).bind fun v => .ret (v, H)) = _ at hi
    split at hi
    · cases hi
    · rename_i hx
      obtain ⟨a, h1, h2⟩ := interp_bind_some hi
      have h2 := interp_ret h2; have h1 := interp_opt h1
      cases h2
      exact wpAny_Name (sim_load K C S h1 fun a hV => h _ _ _ Ext.refl S hV) (by simpa [dbg] using hx)
  · intro F A env loc loc' ρ H H' s v a Q Er C S hV hi h
    have hi := interp_opt hi
    show wpAny _ _ (standAt p >>= fun _ => bindName env x a) _ _ _
    exact wpAny_bind (wpAny_standAt (wpAny_bindName (sim_store C S hV hi fun s' E' S' => h _ _ E' S')))

theorem sim_bin (K : GOK G) {l q : E} (op : Operator) (p : Pos) (hl : SimD G r l) (hq : SimD G r q) : SimD G r (.bin l op q p) := by
  refine simEx K (fun _ _ => rfl) (fun _ _ _ => rfl) (fun _ _ => rfl) (fun _ _ _ => rfl) (fun _ _ _ => rfl) (fun _ _ _ _ => rfl) (fun _ _ _ _ => rfl) (fun _ _ _ _ => rfl) rfl (fun _ => rfl) ?_ (noA fun _ _ _ _ => rfl)
  intro F A env loc ρ H H' s v Q Er C S hi h
  obtain ⟨⟨a, H1⟩, h1, hi⟩ := interp_bind_some hi
  obtain ⟨⟨b, H2⟩, h2, hi⟩ := interp_bind_some hi
  have hi := interp_opt hi
  refine wpAny_BinOp (hl.v C S h1 fun a' ρ1 s1 E1 S1 V1 => hq.v C S1 h2 fun b' ρ2 s2 E2 S2 V2 => ?_)
  exact prim_bin K C.ar C.d S2.rel (V1.mono E2) V2 hi fun c' ρ3 s3 E3 R3 V3 => h _ _ _ ((E1.trans' E2).trans' E3) (S2.ext E3 R3) V3

theorem sim_un (K : GOK G) {e : E} (op : UnaryOp) (p : Pos) (he : SimD G r e) : SimD G r (.un op e p) := by
  by_cases hop : op = .Not
  · subst hop
    refine { v := ?_, t := ?_, o := ?_, l := ?_, k := ?_, tl := ?_, bl := ?_, a := ?_, al := ?_ }
    · intro F A env loc ρ H H' s v Q Er C S hi; cases hi
    · intro F A env loc ρ H H' s v Q Er C S hi h
      obtain ⟨⟨b, H1⟩, h1, hi⟩ := interp_bind_some hi
      have hi := interp_ret hi
      cases hi
      exact isTrue_not (he.t C S h1 fun ρ1 s1 E1 S1 => h _ _ E1 S1)
    · intro F A env loc ρ H H' s v Q Er C S hi; cases hi
    · intro F loc H H' vs hi; cases hi
    · intro F loc H H' vs hi; cases hi
    · intro F A env loc ρ H H' s op v Q Er C S hi; cases hi
    · intro F A env loc ρ H H' s op v p Q Er C S hi; cases hi
    · intro F A env loc loc' ρ H H' s v a Q Er C S hV hi; cases hi
    · intro F loc loc' H H' vs hi; cases hi
  · have hden : ∀ F loc, den G.T F (.un op e p) loc = D.ex fun H => ((den G.T F e loc).v H).bind fun a => (Prog.opt (negM op a.1)).bind fun v => .ret (v, a.2) := fun F loc => by
      cases op <;> first | exact absurd rfl hop | rfl
    refine simEx K (fun F loc => by rw [hden] <;> rfl) (fun _ _ _ => by rw [hden] <;> rfl) (fun _ _ => by rw [hden] <;> rfl) (fun _ _ _ => by rw [hden] <;> rfl) (fun _ _ _ => by rw [hden] <;> rfl) (fun _ _ _ _ => by rw [hden] <;> rfl) (fun _ _ _ _ => by rw [hden] <;> rfl) (fun _ _ _ _ => by rw [hden] <;> rfl) rfl
      (fun _ => by cases op <;> first | rfl | exact absurd rfl hop) ?_ (noA fun _ _ _ _ => by rw [hden] <;> rfl)
    intro F A env loc ρ H H' s v Q Er C S hi h
    rw [hden] at hi
    obtain ⟨⟨a, H1⟩, h1, hi⟩ := interp_bind_some hi
    obtain ⟨b, h2, hi⟩ := interp_bind_some hi
    have hi := interp_ret hi; have h2 := interp_opt h2
    cases hi
    show wpAny _ _ (eval (upU e).e env >>= fun v => standAt p >>= fun _ => holding [v] (unaryOp op v)) _ _ _
    refine wpAny_bind (he.v C S h1 fun a' ρ1 s1 E1 S1 V1 => wpAny_bind (wpAny_standAt (wpAny_holding ?_)))
    exact prim_neg V1 S1.rel h2 fun v' s2 E2 R2 V2 => h _ _ _ (E1.trans' E2) (S1.ext E2 R2) V2

theorem sim_ife (K : GOK G) {t a b : E} (p : Pos) (ht : SimD G r t) (ha : SimD G r a) (hb : SimD G r b) : SimD G r (.ife t a b p) := by
  refine { v := ?_, t := ?_, o := ?_, l := ?_, k := ?_, tl := ?_, bl := ?_, a := ?_, al := ?_ }
  rotate_left 2
  · intro F A env loc ρ H H' s v Q Er C S hi h
    obtain ⟨⟨c, H1⟩, h1, hi⟩ := interp_bind_some hi
    show wpAny _ _ (isTrue (upU t).e env (eval (upU t).e env) >>= fun c => if c then eval (upU a).e env else eval (upU b).e env) _ _ _
    refine wpAny_bind (ht.t C S h1 fun ρ1 s1 E1 S1 => ?_)
    cases c with
    | true => exact ha.v C S1 hi fun a' ρ2 s2 E2 S2 V2 => h _ _ _ (E1.trans' E2) S2 V2
    | false => exact hb.v C S1 hi fun a' ρ2 s2 E2 S2 V2 => h _ _ _ (E1.trans' E2) S2 V2
  · intro F loc H H' vs hi; cases hi
  · intro F loc H H' vs hi; cases hi
  · intro F A env loc ρ H H' s op v Q Er C S hi; cases hi
  · intro F A env loc ρ H H' s op v p Q Er C S hi; cases hi
  · intro F A env loc loc' ρ H H' s v a Q Er C S hV hi; cases hi
  · intro F loc loc' H H' vs hi; cases hi
  · intro F A env loc ρ H H' s v Q Er C S hi h
    obtain ⟨⟨c, H1⟩, h1, hi⟩ := interp_bind_some hi
    show wpAny _ _ (isTrue (upU t).e env (eval (upU t).e env) >>= fun c => if c then eval (upU a).e env else eval (upU b).e env) _ _ _
    refine wpAny_bind (ht.t C S h1 fun ρ1 s1 E1 S1 => ?_)
    cases c with
    | true => exact ha.v C S1 hi fun a' ρ2 s2 E2 S2 V2 => h _ _ _ (E1.trans' E2) S2 V2
    | false => exact hb.v C S1 hi fun a' ρ2 s2 E2 S2 V2 => h _ _ _ (E1.trans' E2) S2 V2
  · intro F A env loc ρ H H' s v Q Er C S hi h
    obtain ⟨⟨c, H1⟩, h1, hi⟩ := interp_bind_some hi
    refine isTrue_IfExp (ht.t C S h1 fun ρ1 s1 E1 S1 => ?_)
    cases c with
    | true => exact ha.t C S1 hi fun ρ2 s2 E2 S2 => h _ _ (E1.trans' E2) S2
    | false => exact hb.t C S1 hi fun ρ2 s2 E2 S2 => h _ _ (E1.trans' E2) S2

theorem sim_bop {es : E} (op : BoolOp) (p : Pos) (he : SimD G r es) : SimD G r (.bop op es p) where
  v := by
    intro F A env loc ρ H H' s v Q Er C S hi h
    exact he.bl C S hi h
  t := by
    intro F A env loc ρ H H' s v Q Er C S hi h
    exact he.tl C S hi h
  o := by
    intro F A env loc ρ H H' s v Q Er C S hi h
    exact he.bl C S hi h
  l := by intro F loc H H' vs hi; cases hi
  k := by intro F loc H H' vs hi; cases hi
  tl := by intro F A env loc ρ H H' s op v Q Er C S hi; cases hi
  bl := by intro F A env loc ρ H H' s op v p Q Er C S hi; cases hi
  a := by intro F A env loc loc' ρ H H' s v a Q Er C S hV hi; cases hi
  al := by intro F loc loc' H H' vs hi; cases hi

theorem cmp_false {e : E} {op : CmpOp} {z : V × Hp} (h : interp r ((den G.T F e loc).v H) = some z) : behindInMarks op (upU e).e = false := by
  cases e with
  | raw x => cases h
  | un op e p => rfl
  | _ => rfl

theorem sim_cmp (K : GOK G) {l q : E} (op : CmpOp) (p : Pos) (hl : SimD G r l) (hq : SimD G r q) : SimD G r (.cmp l op q p) := by
  refine { v := ?_, t := ?_, o := ?_, l := ?_, k := ?_, tl := ?_, bl := ?_, a := ?_, al := ?_ }
  rotate_left 2
  · intro F A env loc ρ H H' s v Q Er C S hi h
    obtain ⟨⟨a, H1⟩, h1, hi⟩ := interp_bind_some hi
    obtain ⟨⟨b, H2⟩, h2, hi⟩ := interp_bind_some hi
    obtain ⟨c, h3, hi⟩ := interp_bind_some hi
    have hi := interp_ret hi; have h3 := interp_opt h3
    cases hi
    refine wpAny_Compare1 (hl.v C S h1 fun a' ρ1 s1 E1 S1 V1 => hq.v C S1 h2 fun b' ρ2 s2 E2 S2 V2 => ?_) (cmp_false h2)
    exact prim_cmp K C.ar C.d S2.rel (V1.mono E2) V2 h3 fun ρ3 s3 E3 R3 => h _ _ _ ((E1.trans' E2).trans' E3) (S2.ext E3 R3) (.bool _)
  · intro F loc H H' vs hi; cases hi
  · intro F loc H H' vs hi; cases hi
  · intro F A env loc ρ H H' s op v Q Er C S hi; cases hi
  · intro F A env loc ρ H H' s op v p Q Er C S hi; cases hi
  · intro F A env loc loc' ρ H H' s v a Q Er C S hV hi; cases hi
  · intro F loc loc' H H' vs hi; cases hi
  · intro F A env loc ρ H H' s v Q Er C S hi h
    obtain ⟨⟨a, H1⟩, h1, hi⟩ := interp_bind_some hi
    obtain ⟨⟨b, H2⟩, h2, hi⟩ := interp_bind_some hi
    obtain ⟨c, h3, hi⟩ := interp_bind_some hi
    have hi := interp_ret hi; have h3 := interp_opt h3
    cases hi
    refine wpAny_Compare1 (hl.v C S h1 fun a' ρ1 s1 E1 S1 V1 => hq.v C S1 h2 fun b' ρ2 s2 E2 S2 V2 => ?_) (cmp_false h2)
    exact prim_cmp K C.ar C.d S2.rel (V1.mono E2) V2 h3 fun ρ3 s3 E3 R3 => h _ _ _ ((E1.trans' E2).trans' E3) (S2.ext E3 R3) (.bool _)
  · intro F A env loc ρ H H' s v Q Er C S hi h
    obtain ⟨⟨a, H1⟩, h1, hi⟩ := interp_bind_some hi
    obtain ⟨⟨b, H2⟩, h2, hi⟩ := interp_bind_some hi
    obtain ⟨c, h3, hi⟩ := interp_bind_some hi
    have hi := interp_ret hi; have h3 := interp_opt h3
    cases hi
    refine wpAny_isTrue_Compare1 (hl.v C S h1 fun a' ρ1 s1 E1 S1 V1 => hq.v C S1 h2 fun b' ρ2 s2 E2 S2 V2 => ?_) (cmp_false h2)
    exact prim_cmp K C.ar C.d S2.rel (V1.mono E2) V2 h3 fun ρ3 s3 E3 R3 => wpAny_truthy_bool (h _ _ ((E1.trans' E2).trans' E3) (S2.ext E3 R3))
end
end Mine

end
section
open PySem PySem.W PySem.Calls PyProof.Rows
set_option autoImplicit false
namespace Mine
section
variable {G : Gx} {r : Task → Option Out} {F : Fc} {A : Around} {env : Env} {loc loc' : Loc} {ρ ρ' : Rho} {H H' : Hp} {s s' : Shared} {Er : Value → Shared → Prop}

theorem notStar_v {e : E} {z : V × Hp} (h : interp r ((den G.T F e loc).v H) = some z) : notStar (upU e).e := by
  cases e with
  | raw x => cases h
  | _ => intro a p q; cases q
theorem notStar_a {e : E} {v : V} {z : Loc × Hp} (h : interp r ((den G.T F e loc).a v H) = some z) : notStar (upU e).e := by
  cases e with
  | raw x => cases h
  | _ => intro a p q; cases q
theorem notSlice_v {e : E} {z : V × Hp} (h : interp r ((den G.T F e loc).v H) = some z) : ∀ a b c p, (upU e).e ≠ .Slice a b c p := by
  cases e with
  | raw x => cases h
  | _ => intro a b c p q; cases q

theorem assignEach_len (l : List Expr) : (assignEach l env).length = l.length := by
  induction l with
  | nil => rfl
  | cons x l ih => cases x <;> simp only [assignEach, List.length_cons, ih]
theorem assignEach_plain {l : List Expr} (h : ∀ x ∈ l, notStar x) : (assignEach l env).findIdx? (·.1) = none := by
  rw [List.findIdx?_eq_none_iff]
  induction l with
  | nil => intro x hx; cases hx
  | cons x l ih =>
    have hx := h x List.mem_cons_self
    have e : assignEach (x :: l) env = (false, assign x env) :: assignEach l env := by cases x <;> first | rfl | exact absurd rfl (hx _ _)
    rw [e]
    intro y hy
    rcases List.mem_cons.mp hy with rfl | hy
    · rfl
    · exact ih (fun z hz => h z (List.mem_cons_of_mem _ hz)) y hy
theorem wpAny_release {M : Model} {vs ks : List Value} {Q : Unit → Shared → Prop} (h : Q () s) : wpAny M A (release vs ks) Q Er s := fun Γ p hΓ => by rw [Sem.wp_release]; exact h
theorem attributeBase_call {y x : Str} {q p : Pos} {w : Sem Value} (L : List Expr) (K : List Keyword) (hy : (y != ("super" : Str)) = true) : attributeBase (.Call (.Name y q) L K p) x env w = w := by
  cases L with
  | nil =>
    cases K with
    | nil =>
      unfold attributeBase
      simp only [hy, Bool.true_or, if_true]
    | cons a b => rfl
  | cons a b => rfl
theorem attributeBase_plain {e : E} {x : Str} {w : Sem Value} (h : ¬ isSuper e = true) : attributeBase (upU e).e x env w = w := by
  cases e with
  | call f args kws p =>
    cases f with
    | name y q => exact attributeBase_call _ _ (by simpa [isSuper, superS] using h)
    | raw y => exact absurd rfl h
    | un op e p => rfl
    | _ => rfl
  | raw y => exact absurd rfl h
  | _ => rfl
theorem big_line {n : Nat} (h : n ≤ big) : n ≤ sizeLine := Nat.le_trans h (by decide)

theorem sim_lst (K : GOK G) {es : E} (p : Pos) (he : SimD G r es) : SimD G r (.lst es p) := by
  refine simEx K (fun _ _ => rfl) (fun _ _ _ => rfl) (fun _ _ => rfl) (fun _ _ _ => rfl) (fun _ _ _ => rfl) (fun _ _ _ _ => rfl) (fun _ _ _ _ => rfl) (fun _ _ _ _ => rfl) rfl (fun _ => rfl) ?_ (noA fun _ _ _ _ => rfl)
  intro F A env loc ρ H H' s v Q Er C S hi h
  obtain ⟨⟨vs, H1⟩, h1, hi⟩ := interp_bind_some hi
  dsimp only at hi
  split at hi
  · rename_i hb
    have hi := interp_ret hi
    cases hi
    refine List_ ((he.l h1).2 (pos := p) C S fun ws ρ1 s1 E1 S1 V1 => ?_)
    refine wpAny_newObj_type ?_ (by show ws.toArray.size ≤ sizeLine; rw [List.size_toArray, ← V1.1]; exact big_line hb)
    obtain ⟨R2, E2⟩ := S1.rel.pushList V1 hb s1.toks
    refine h _ _ _ (E1.trans' E2) (S1.ext (s' := { s1 with heap := _ }) E2 R2) ?_
    exact .obj (p := (s1.heap.objs.size, s1.heap.objs.size)) (new_at _ _ _ S1.rel.len)
  · cases hi

theorem sim_dict0 (K : GOK G) (p : Pos) : SimD G r (.dict0 p) := by
  refine simEx K (fun _ _ => rfl) (fun _ _ _ => rfl) (fun _ _ => rfl) (fun _ _ _ => rfl) (fun _ _ _ => rfl) (fun _ _ _ _ => rfl) (fun _ _ _ _ => rfl) (fun _ _ _ _ => rfl) rfl (fun _ => rfl) ?_ (noA fun _ _ _ _ => rfl)
  intro F A env loc ρ H H' s v Q Er C S hi h
  have hi := interp_ret hi
  cases hi
  refine wpAny_Dict_empty ?_
  obtain ⟨R2, E2⟩ := S.rel.new (p := (s.heap.objs.size, s.heap.objs.size)) (o' := .dict [] 0) (h' := s.heap.push { cls := .type "dict", data := .dict #[] }) (Keeps.push _ _) (size_none _) (size_none _) s.toks
    fun E => ⟨rfl, [], Heap.DictOf.new s.heap, ⟨rfl, VRs.nil⟩, Nat.zero_le _, fun e he => nomatch he⟩
  exact h _ _ { s with heap := _ } E2 (S.ext (s' := { s with heap := _ }) E2 R2) (.obj (p := (s.heap.objs.size, s.heap.objs.size)) (new_at _ _ _ S.rel.len))

theorem tup_vr {vs : List V} {ws : List Value} {h : Heap} (hbig : vs.length ≤ big) (V1 : VRs G ρ h vs ws) (H : Hp) (s : Shared) (R : Rel G ρ H s) (hh : s.heap = h) :
    VR G ρ (h.push { cls := .type "tuple", data := .seq ws.toArray }) (.tup vs) (.ref h.objs.size) := by
  subst hh
  have E : Ext G NoX ρ H s.heap ρ H (s.heap.push { cls := .type "tuple", data := .seq ws.toArray }) := R.extKeeps (Keeps.push _ _)
  have V2 := V1.mono E
  exact .tup (Heap.get?_push_size _ rfl) rfl rfl V2.1 V2.2 hbig

theorem sim_tpl (K : GOK G) {es : E} (k : Nat) (p : Pos) (he : SimD G r es) : SimD G r (.tpl es k p) := by
  refine simEx K (fun _ _ => rfl) (fun _ _ _ => rfl) (fun _ _ => rfl) (fun _ _ _ => rfl) (fun _ _ _ => rfl) (fun _ _ _ _ => rfl) (fun _ _ _ _ => rfl) (fun _ _ _ _ => rfl) rfl (fun _ => rfl) ?_ ?_
  · intro F A env loc ρ H H' s v Q Er C S hi h
    obtain ⟨⟨vs, H1⟩, h1, hi⟩ := interp_bind_some hi
    dsimp only at hi
    split at hi
    · rename_i hb
      have hi := interp_ret hi
      cases hi
      refine Tuple_ ((he.l h1).2 (pos := p) C S fun ws ρ1 s1 E1 S1 V1 => ?_)
      refine wpAny_newObj_type ?_ (by show ws.toArray.size ≤ sizeLine; rw [List.size_toArray, ← V1.1]; exact big_line hb)
      have E2 : Ext G NoX ρ1 H' s1.heap ρ1 H' (s1.heap.push { cls := .type "tuple", data := .seq ws.toArray }) := S1.rel.extKeeps (Keeps.push _ _)
      exact h _ _ { s1 with heap := _ } (E1.trans' E2) (S1.ext (s' := { s1 with heap := _ }) E2 (S1.rel.keeps (Keeps.push _ _) s1.toks)) (tup_vr hb V1 _ s1 S1.rel rfl)
    · cases hi
  · intro F A env loc loc' ρ H H' s v a Q Er C S hV hi h
    obtain ⟨vs, h1, hi⟩ := interp_bind_some hi
    have h1 := interp_opt h1
    show wpAny _ _ (standAt p >>= fun _ => unpack a (assignEach (upU es).l env)) _ _ _
    refine wpAny_bind (wpAny_standAt ?_)
    unfold unpack
    obtain ⟨⟨hl, hn⟩, hk⟩ := he.al hi
    rw [assignEach_len, assignEach_plain hn]
    refine wpAny_bind (wpAny_holding (prim_items K C.ar C.d S.rel hV h1 hl.symm fun ws s1 E1 R1 V1 => ?_))
    exact hk C (S.ext E1 R1) V1 fun ρ2 s2 E2 S2 => h _ _ (E1.toX.trans' E2) S2

theorem sim_attr (K : GOK G) {e : E} (x : Str) (p : Pos) (he : SimD G r e) : SimD G r (.attr e x p) := by
  refine simEx K (fun _ _ => rfl) (fun _ _ _ => rfl) (fun _ _ => rfl) (fun _ _ _ => rfl) (fun _ _ _ => rfl) (fun _ _ _ _ => rfl) (fun _ _ _ _ => rfl) (fun _ _ _ _ => rfl) rfl (fun _ => rfl) ?_ ?_
  · intro F A env loc ρ H H' s v Q Er C S hi h
    change interp r (if isSuper e then .fail else ((den G.T F e loc).v H).bind fun a => (Prog.opt (getAttrM G.T a.1 x a.2)).bind fun v => .ret (v, a.2)) = _ at hi
    split at hi
    · cases hi
    rename_i hsup
    obtain ⟨⟨a, H1⟩, h1, hi⟩ := interp_bind_some hi
    obtain ⟨b, h2, hi⟩ := interp_bind_some hi
    have hi := interp_ret hi; have h2 := interp_opt h2
    cases hi
    show wpAny _ _ (attributeBase (upU e).e x env (eval (upU e).e env) >>= fun o => standAt p.atName >>= fun _ => holding [o] (getAttr o x true) >>= fun q => letTemporaryGo (upU e).e o q >>= fun _ => pure q) _ _ _
    rw [attributeBase_plain hsup]
    refine wpAny_bind (he.v C S h1 fun a' ρ1 s1 E1 S1 V1 => wpAny_bind (wpAny_standAt (wpAny_bind (wpAny_holding ?_))))
    exact prim_attr K C.ar C.d S1.rel V1 h2 fun v' s2 E2 R2 V2 => wpAny_bind (wpAny_letTemporaryGo (wpAny_pure (h _ _ _ (E1.trans' E2) (S1.ext E2 R2) V2)))
  · intro F A env loc loc' ρ H H' s v a Q Er C S hV hi h
    obtain ⟨⟨o, H1⟩, h1, hi⟩ := interp_bind_some hi
    obtain ⟨H2, h2, hi⟩ := interp_bind_some hi
    have hi := interp_ret hi; have h2 := interp_opt h2
    cases hi
    show wpAny _ _ (holding [a] (eval (upU e).e env) >>= fun ov => standAt p.atName >>= fun _ => holding [a, ov] (setAttr ov x a) >>= fun _ => release [a, ov] []) _ _ _
    refine wpAny_bind (wpAny_holding (he.v C S h1 fun o' ρ1 s1 E1 S1 V1 => wpAny_bind (wpAny_standAt (wpAny_bind (wpAny_holding ?_)))))
    exact prim_setattr K C.ar C.d S1.rel V1 (hV.mono E1) h2 fun s2 E2 R2 => wpAny_release (h _ _ (E1.trans' E2).toX (S1.ext E2 R2))

theorem sim_sub (K : GOK G) {e i : E} (p : Pos) (he : SimD G r e) (hi' : SimD G r i) : SimD G r (.sub e i p) := by
  refine simEx K (fun _ _ => rfl) (fun _ _ _ => rfl) (fun _ _ => rfl) (fun _ _ _ => rfl) (fun _ _ _ => rfl) (fun _ _ _ _ => rfl) (fun _ _ _ _ => rfl) (fun _ _ _ _ => rfl) rfl (fun _ => rfl) ?_ ?_
  · intro F A env loc ρ H H' s v Q Er C S hi h
    obtain ⟨⟨a, H1⟩, h1, hi⟩ := interp_bind_some hi
    obtain ⟨⟨b, H2⟩, h2, hi⟩ := interp_bind_some hi
    obtain ⟨c, h3, hi⟩ := interp_bind_some hi
    have hi := interp_ret hi; have h3 := interp_opt h3
    cases hi
    refine Subscript_ (he.v C S h1 fun a' ρ1 s1 E1 S1 V1 => hi'.v C S1 h2 fun b' ρ2 s2 E2 S2 V2 => ?_)
    exact prim_sub K C.ar C.d S2.rel (V1.mono E2) V2 h3 (notSlice_v h2) fun v' s3 E3 R3 V3 => h _ _ _ ((E1.trans' E2).trans' E3) (S2.ext E3 R3) V3
  · intro F A env loc loc' ρ H H' s v a Q Er C S hV hi h
    obtain ⟨⟨o, H1⟩, h1, hi⟩ := interp_bind_some hi
    obtain ⟨⟨k, H2⟩, h2, hi⟩ := interp_bind_some hi
    obtain ⟨H3, h3, hi⟩ := interp_bind_some hi
    have hi := interp_ret hi; have h3 := interp_opt h3
    cases hi
    show wpAny _ _ (holding [a] (eval (upU e).e env) >>= fun ov => holding [a, ov] (eval (upU i).e env) >>= fun iv => standAt p >>= fun _ => holding [a, ov, iv] (setItem ov iv a) >>= fun _ => release (match (upU i).e with | .Slice _ _ none _ => [iv, a, ov] | _ => [a, ov, iv]) []) _ _ _
    refine wpAny_bind (wpAny_holding (he.v C S h1 fun o' ρ1 s1 E1 S1 V1 => wpAny_bind (wpAny_holding (hi'.v C S1 h2 fun k' ρ2 s2 E2 S2 V2 => wpAny_bind (wpAny_standAt (wpAny_bind (wpAny_holding ?_)))))))
    exact prim_setitem K C.ar C.d S2.rel (V1.mono E2) V2 ((hV.mono E1).mono E2) h3 fun s3 E3 R3 => wpAny_release (h _ _ ((E1.trans' E2).trans' E3).toX (S2.ext E3 R3))

theorem sim_slice (K : GOK G) {e lo hi' : E} (sp p : Pos) (he : SimD G r e) (hl : SimD G r lo) (hh : SimD G r hi') : SimD G r (.slice e lo hi' sp p) := by
  refine simEx K (fun _ _ => rfl) (fun _ _ _ => rfl) (fun _ _ => rfl) (fun _ _ _ => rfl) (fun _ _ _ => rfl) (fun _ _ _ _ => rfl) (fun _ _ _ _ => rfl) (fun _ _ _ _ => rfl) rfl (fun _ => rfl) ?_ (noA fun _ _ _ _ => rfl)
  intro F A env loc ρ H H' s v Q Er C S hi h
  obtain ⟨⟨a, H1⟩, h1, hi⟩ := interp_bind_some hi
  obtain ⟨⟨b, H2⟩, h2, hi⟩ := interp_bind_some hi
  obtain ⟨⟨c, H3⟩, h3, hi⟩ := interp_bind_some hi
  have hi := interp_opt hi
  refine Subscript_ (he.v C S h1 fun a' ρ1 s1 E1 S1 V1 => ?_)
  show wpAny _ _ (valueOrNone (evalOpt (upU lo).o env) >>= fun l => holding [l] (valueOrNone (evalOpt (upU hi').o env)) >>= fun u => holding [l, u] (valueOrNone (evalOpt none env)) >>= fun q => newFields "slice" [l, u, q]) _ _ _
  refine wpAny_bind (hl.o C S1 h2 fun b' ρ2 s2 E2 S2 V2 => wpAny_bind (wpAny_holding (hh.o C S2 h3 fun c' ρ3 s3 E3 S3 V3 => wpAny_bind (wpAny_holding ?_))))
  refine wpAny_pure ?_
  exact prim_slice K C.ar C.d S3.rel ((V1.mono E2).mono E3) (V2.mono E3) V3 hi fun v' ρ4 s4 E4 R4 V4 => h _ _ _ (((E1.trans' E2).trans' E3).trans' E4) (S3.ext E4 R4) V4
end
end Mine

end
section
open PySem PySem.W PySem.Calls PyProof.Rows
set_option autoImplicit false
namespace Mine
section
variable {G : Gx} {r : Task → Option Out} {F : Fc} {A : Around} {env : Env} {loc loc' : Loc} {ρ ρ' : Rho} {H H' : Hp} {s s' : Shared} {Er : Value → Shared → Prop}

theorem ar_make {d : Nat} (ar : AR d A) (C : Addr) (vals : List Value) (kw : List (Str × Value)) : AR (d + 1) (A.under (.builtin "type.__call__" ⟨.ref C :: vals, kw⟩)) := by
  have h1 : (A.under (.builtin "type.__call__" ⟨.ref C :: vals, kw⟩)).depth = A.depth + 1 := rfl
  have h2 : (A.under (.builtin "type.__call__" ⟨.ref C :: vals, kw⟩)).units = A.units + 1 := rfl
  have h3 : (A.under (.builtin "type.__call__" ⟨.ref C :: vals, kw⟩)).handled = A.handled := rfl
  exact ⟨by rw [h1]; have := ar.depth; omega, by rw [h2]; have := ar.units; omega, by rw [h3]; exact ar.handled⟩
/-- an own class is called -/
theorem prim_new {x q : Str} {a : Addr} {args : List V} {args' : List Value} {kws : List (Str × V)} {kws' : List (Str × Value)} {d : Nat} {out : Out} {Q : Value → Shared → Prop} (K : GOK G) (TK : TaskOK G r) (ar : AR d A) (hd : d < 150) (R : Rel G ρ H s)
    (hx : G.addr x = some a) (hq : G.T.meth x "__init__" = some q) (ha : VRs G ρ s.heap args args') (hk : KVR G ρ s.heap kws kws')
    (hr : r (.call (.glo q) (.obj H.length :: args) kws (d + 1) (H ++ [.inst x []])) = some out) (ho : out.f = .ret .none)
    (h : ∀ v' ρ' s', Ext G NoX ρ H s.heap ρ' out.H s'.heap → Rel G ρ' out.H s' → VR G ρ' s'.heap (.obj H.length) v' → Q v' s') : wpAny (Mo G) A (call (.ref a) args' kws') Q Er s := by
  have hini : (G.T.meth x "__init__").isSome = true := by rw [hq]; rfl
  have ok := K.cls x a hx hini
  obtain ⟨hg, hh, hpo, hsa, hf, hm, hkeep, hmk⟩ := ok
  obtain ⟨f, e1, e2, e3⟩ := hm _ _ hq
  have hX := K.kin.keeps R.base
  refine wpAny_call ?_
  obtain ⟨hp, g, dr, t, os⟩ := s
  have k1 : Keeps hp ((hp.push emptyDict).push (instObj a hp.objs.size)) := fun b o e => Heap.get?_push_of_some _ (Heap.get?_push_of_some _ e)
  have gx : ((hp.push emptyDict).push (instObj a hp.objs.size)).get? (hp.objs.size + 1) = some (instObj a hp.objs.size) := by heap_get
  have gd : ((hp.push emptyDict).push (instObj a hp.objs.size)).get? hp.objs.size = some emptyDict := by heap_get
  refine make_core (makes_of hX hmk) (looks_findIn hX e2) (fun self => bind_fn hX self (beq_iff_eq.mp e3)) (.inl rfl) ?_
  have hns : ((hp.push emptyDict).push (instObj a hp.objs.size)).Ns hp.objs.size (fun _ => none) := (Heap.Ns.new hp (.type "dict")).push _
  obtain ⟨R2, E2⟩ := R.new (p := (hp.objs.size + 1, hp.objs.size)) (o' := .inst x []) (h' := (hp.push emptyDict).push (instObj a hp.objs.size)) k1 (by
      cases q' : hp.get? (hp.objs.size + 1) with
      | none => rfl
      | some o => exact absurd (Heap.lt_size q') (by show ¬ (hp.objs.size + 1 < hp.objs.size); omega)) (size_none _) t fun E =>
    ⟨a, _, hx, hini, gx, hns, (fun y v e => nomatch e), (fun y _ => rfl), by show hp.objs.size + 1 ≠ hp.objs.size; omega, fun o es ep ho hd => by
      have ho : ((hp.push emptyDict).push (instObj a hp.objs.size)).get? hp.objs.size = some o := ho
      rw [gd] at ho; cases ho; cases hd; rfl⟩
  have V0 : VR G (ρ ++ [(hp.objs.size + 1, hp.objs.size)]) ((hp.push emptyDict).push (instObj a hp.objs.size)) (.obj H.length) (.ref (hp.objs.size + 1)) := .obj (p := (hp.objs.size + 1, hp.objs.size)) (new_at _ _ _ R.len)
  refine TK.call (s := ⟨(hp.push emptyDict).push (instObj a hp.objs.size), g, dr, t, os⟩) hr (ar_make ar a args' kws') (by omega) R2 (.glo e1) (VRs.cons V0 (ha.mono E2)) ⟨hk.1, hk.2.mono E2⟩ fun v w ρ' s' ev E' R' V' => ?_
  rw [ho] at ev
  cases ev
  cases V'
  exact ⟨rfl, h _ ρ' s' (E2.trans' E') R' (V0.mono E')⟩

theorem kvr_nil {h : Heap} {kws' : List (Str × Value)} {kws : List (Str × V)} (hk : KVR G ρ h kws kws') (he : kws.isEmpty = true) : kws' = [] := by
  cases kws with
  | nil => have := hk.1; cases kws' with
    | nil => rfl
    | cons a b => simp at this
  | cons a b => cases he

theorem sim_task_call (TK : TaskOK G r) {f : V} {f' : Value} {args : List V} {args' : List Value} {kws : List (Str × V)} {kws' : List (Str × Value)} {d : Nat} {v : V} {Q : Value → Shared → Prop} (ar : AR d A) (hd : d ≤ 151) (R : Rel G ρ H s)
    (hf : VR G ρ s.heap f f') (ha : VRs G ρ s.heap args args') (hk : KVR G ρ s.heap kws kws')
    (hi : interp r (Prog.call (.call f args kws d H) fun o => match o.f with | .ret v => Prog.ret (v, o.H) | _ => .fail) = some (v, H'))
    (h : ∀ v' ρ' s', Ext G NoX ρ H s.heap ρ' H' s'.heap → Rel G ρ' H' s' → VR G ρ' s'.heap v v' → Q v' s') : wpAny (Mo G) A (call f' args' kws') Q Er s := by
  simp only [interp] at hi
  cases ho : r (.call f args kws d H) with
  | none => rw [ho] at hi; cases hi
  | some o =>
    rw [ho] at hi
    dsimp only at hi
    cases hfl : o.f with
    | ret w =>
      rw [hfl] at hi
      have hi := interp_ret hi
      cases hi
      exact wpAny_call (TK.call ho ar hd R hf ha hk fun v a ρ' s' e E' R' V' => by rw [hfl] at e; cases e; exact h _ _ _ E' R' V')
    | _ => rw [hfl] at hi; cases hi

theorem sim_callM (K : GOK G) (TK : TaskOK G r) {f : V} {f' : Value} {args : List V} {args' : List Value} {kws : List (Str × V)} {kws' : List (Str × Value)} {d : Nat} {v : V} {Q : Value → Shared → Prop} (ar : AR d A) (hd : d ≤ 151) (R : Rel G ρ H s)
    (hf : VR G ρ s.heap f f') (ha : VRs G ρ s.heap args args') (hk : KVR G ρ s.heap kws kws') (hi : interp r (callM G.T f args kws d H) = some (v, H'))
    (h : ∀ v' ρ' s', Ext G NoX ρ H s.heap ρ' H' s'.heap → Rel G ρ' H' s' → VR G ρ' s'.heap v v' → Q v' s') : wpAny (Mo G) A (call f' args' kws') Q Er s := by
  unfold callM at hi
  split at hi
  · rename_i id
    split at hi
    · rename_i he
      cases hf
      rw [kvr_nil hk he]
      exact prim_bi K ar hd R ha (interp_opt hi) h
    · cases hi
  · rename_i t
    split at hi
    · rename_i he
      cases hf
      rw [kvr_nil hk he]
      exact prim_ty K ar hd R ha (interp_opt hi) h
    · cases hi
  · rename_i x
    split at hi
    · exact sim_task_call TK ar hd R hf ha hk hi h
    · split at hi
      · rename_i q hq
        split at hi
        case isFalse => cases hi
        rename_i hd150
        simp only [interp] at hi
        cases ho : r (.call (.glo q) (.obj H.length :: args) kws (d + 1) (H ++ [.inst x []])) with
        | none => rw [ho] at hi; cases hi
        | some o =>
          rw [ho] at hi
          dsimp only at hi
          cases hfl : o.f with
          | ret w =>
            rw [hfl] at hi
            cases w with
            | none =>
              have hi := interp_ret hi
              cases hi
              cases hf with
              | glo hx => exact prim_new K TK ar hd150 R hx hq ha hk ho hfl h
            | _ => cases hi
          | _ => rw [hfl] at hi; cases hi
      · cases hi
  · exact sim_task_call TK ar hd R hf ha hk hi h
  · cases hi

theorem callable_of {f : V} {args : List V} {kws : List (Str × V)} {d : Nat} {z : V × Hp} (hi : interp r (callM G.T f args kws d H) = some z) :
    callable f = true ∧ ∀ y, f = .glo y → (G.T.fn y).isSome = true ∨ (G.T.meth y "__init__").isSome = true := by
  unfold callM at hi
  split at hi
  · exact ⟨rfl, fun y e => nomatch e⟩
  · exact ⟨rfl, fun y e => nomatch e⟩
  · rename_i x
    refine ⟨rfl, fun y e => ?_⟩
    cases e
    split at hi
    · rename_i i hfn; left; rw [hfn]; rfl
    · split at hi
      · rename_i q hq; right; rw [hq]; rfl
      · cases hi
  · exact ⟨rfl, fun y e => nomatch e⟩
  · cases hi

theorem zip_kvr {h : Heap} {ks : List (Str × V)} {ws : List Value} (V : VRs G ρ h (ks.map (·.2)) ws) : KVR G ρ h ks ((ks.map (·.1)).zip ws) := by
  have hl : ws.length = ks.length := by have := V.1; simpa using this.symm
  refine ⟨?_, ?_⟩
  · rw [List.map_fst_zip (by simp [hl])]
  · rw [List.map_snd_zip (by simp [hl])]; exact V

theorem filterMap_names {α : Type} {l : List (Option Str × α)} {ks : List (Str × V)} (h : l.map (·.1) = ks.map fun x => some x.1) : l.filterMap (·.1) = ks.map (·.1) ∧ l.all (·.1.isSome) = true := by
  induction l generalizing ks with
  | nil => cases ks with
    | nil => exact ⟨rfl, rfl⟩
    | cons a b => simp at h
  | cons x l ih => cases ks with
    | nil => simp at h
    | cons a b =>
      simp only [List.map_cons, List.cons.injEq] at h
      obtain ⟨h1, h2⟩ := ih h.2
      simp [List.filterMap_cons, h.1, h1, h2]

theorem backTo_any {pos : Pos} (l : List (Bool × Sem Value)) : (backTo pos l).any (·.1) = l.any (·.1) := by
  induction l with
  | nil => rfl
  | cons x l ih =>
    show ((backTo pos (x :: l)).any (·.1)) = _
    have : backTo pos (x :: l) = (x.1, if x.1 then do let v ← x.2; standAt pos; pure v else x.2) :: backTo pos l := rfl
    rw [this, List.any_cons, List.any_cons, ih]

/-- the arguments, the keywords, the call -/
theorem sim_callWith (K : GOK G) (TK : TaskOK G r) {f : V} {f' : Value} {first : List V} {first' : List Value} {ea ek : E} {vs : List V} {ks : List (Str × V)} {H1 H2 : Hp} {v : V} {pos : Pos} {Q : Value → Shared → Prop}
    (ha : SimD G r ea) (hk : SimD G r ek) (C : Cx G F A env) (S : St G F env loc ρ H s) (Vf : VR G ρ s.heap f f') (V1 : VRs G ρ s.heap first first')
    (h1 : interp r ((den G.T F ea loc).l H) = some (vs, H1)) (h2 : interp r ((den G.T F ek loc).k H1) = some (ks, H2)) (h3 : interp r (callM G.T f (first ++ vs) ks F.depth H2) = some (v, H'))
    (h : ∀ v' ρ' s', Ext G NoX ρ H s.heap ρ' H' s'.heap → St G F env loc ρ' H' s' → VR G ρ' s'.heap v v' → Q v' s') :
    wpAny (Mo G) A (callWith pos f' first' (backTo pos (starEach (upU ea).l env)) (backToKw pos (keywordEach (upU ek).k env))) Q Er s := by
  obtain ⟨⟨a1, a2⟩, a3⟩ := ha.l h1
  obtain ⟨⟨b1, b2⟩, b3⟩ := hk.k h2
  have a1' : (backTo pos (starEach (upU ea).l env)).any (·.1) = false := by rw [backTo_any]; exact a1 env
  obtain ⟨n1, n2⟩ := filterMap_names (b1 pos env)
  refine callWith_any a1' n2 (a3 C S fun ws ρ1 s1 E1 S1 W1 => ?_)
  refine b3 C S1 fun kv ρ2 s2 E2 S2 W2 => ?_
  obtain ⟨c1, c2⟩ := callable_of h3
  refine prim_keeper K S2.rel ((Vf.mono E1).mono E2) c1 c2 fun _ => ?_
  rw [n1]
  exact sim_callM K TK C.ar C.d S2.rel ((Vf.mono E1).mono E2) (((V1.mono E1).append W1).mono E2) (zip_kvr W2) h3 fun v' ρ3 s3 E3 R3 V3 => h _ _ _ ((E1.trans' E2).trans' E3) (S2.ext E3 R3) V3

theorem eval_Call_plain {f : E} {L : List Expr} {ks : List Keyword} {p : Pos} (h : ¬ isAttr f = true) : eval (.Call (upU f).e L ks p) env = (eval (upU f).e env >>= fun g => callWith p g [] (backTo p (starEach L env)) (backToKw p (keywordEach ks env))) := by
  cases f with
  | attr e x q => exact absurd rfl h
  | raw e => exact absurd rfl h
  | _ => rfl

theorem sim_call (K : GOK G) (TK : TaskOK G r) {f ea ek : E} (p : Pos) (hf : SimD G r f) (ha : SimD G r ea) (hk : SimD G r ek) : SimD G r (.call f ea ek p) := by
  refine simEx K (fun _ _ => rfl) (fun _ _ _ => rfl) (fun _ _ => rfl) (fun _ _ _ => rfl) (fun _ _ _ => rfl) (fun _ _ _ _ => rfl) (fun _ _ _ _ => rfl) (fun _ _ _ _ => rfl) rfl (fun _ => rfl) ?_ (noA fun _ _ _ _ => rfl)
  intro F A env loc ρ H H' s v Q Er C S hi h
  change interp r (if isAttr f then .fail else ((den G.T F f loc).v H).bind fun fv => ((den G.T F ea loc).l fv.2).bind fun vs => ((den G.T F ek loc).k vs.2).bind fun ks => callM G.T fv.1 vs.1 ks.1 F.depth ks.2) = _ at hi
  split at hi
  · cases hi
  rename_i hat
  obtain ⟨⟨g, H1⟩, h1, hi⟩ := interp_bind_some hi
  obtain ⟨⟨vs, H2⟩, h2, hi⟩ := interp_bind_some hi
  obtain ⟨⟨ks, H3⟩, h3, hi⟩ := interp_bind_some hi
  show wpAny _ _ (eval (.Call (upU f).e (upU ea).l (upU ek).k p) env) _ _ _
  rw [eval_Call_plain hat]
  refine wpAny_bind (hf.v C S h1 fun g' ρ1 s1 E1 S1 V1 => ?_)
  exact sim_callWith K TK ha hk C S1 V1 VRs.nil h2 h3 (by simpa using hi) fun v' ρ2 s2 E2 S2 V2 => h _ _ _ (E1.trans' E2) S2 V2

theorem methodCallPos_few {o : Expr} {apos p : Pos} {few : Bool} (h : (!few || apos.endLine == p.line) = true) : methodCallPos few o env apos p = pure p := by
  unfold methodCallPos; rw [if_pos h]

theorem keywordEach_all (ks : List (Str × V)) {l : List (Option Str × Sem Value)} (h : l.map (·.1) = ks.map fun x => some x.1) : l.all (·.1.isSome) = true := (filterMap_names h).2

theorem sim_callm (K : GOK G) (TK : TaskOK G r) {o ea ek : E} (x : Str) (ap p : Pos) (hf : SimD G r o) (ha : SimD G r ea) (hk : SimD G r ek) : SimD G r (.callm o x ap ea ek p) := by
  refine simEx K (fun _ _ => rfl) (fun _ _ _ => rfl) (fun _ _ => rfl) (fun _ _ _ => rfl) (fun _ _ _ => rfl) (fun _ _ _ _ => rfl) (fun _ _ _ _ => rfl) (fun _ _ _ _ => rfl) rfl (fun _ => rfl) ?_ (noA fun _ _ _ _ => rfl)
  intro F A env loc ρ H H' s v Q Er C S hi h
  change interp r (if isSuper o || ap.endLine != p.line || decide (20 ≤ lenE ea + lenE ek) then .fail else ((den G.T F o loc).v H).bind fun ov => (Prog.opt (getMethM G.T ov.1 x ov.2)).bind fun f =>
      ((den G.T F ea loc).l ov.2).bind fun vs => ((den G.T F ek loc).k vs.2).bind fun ks => callM G.T f.1 (f.2 ++ vs.1) ks.1 F.depth ks.2) = _ at hi
  split at hi
  · cases hi
  rename_i hcond
  simp only [Bool.or_eq_true, decide_eq_true_eq, not_or] at hcond
  obtain ⟨⟨hsup, hpos⟩, hlen⟩ := hcond
  have hpos : (ap.endLine == p.line) = true := by simpa using hpos
  obtain ⟨⟨ov, H1⟩, h1, hi⟩ := interp_bind_some hi
  obtain ⟨⟨f, fs⟩, h2, hi⟩ := interp_bind_some hi
  have h2 := interp_opt h2
  obtain ⟨⟨vs, H2⟩, h3, hi⟩ := interp_bind_some hi
  obtain ⟨⟨ks, H3⟩, h4, hi⟩ := interp_bind_some hi
  obtain ⟨⟨a1, a2⟩, a3⟩ := ha.l h3
  obtain ⟨⟨b1, b2⟩, b3⟩ := hk.k h4
  show wpAny _ _ (attributeBase (upU o).e x env (eval (upU o).e env) >>= fun ov => standAt ap.atName >>= fun _ => methodCall (upU o).e x ap p env ov ((upU ea).l.length + (upU ek).k.length) (backTo p (starEach (upU ea).l env)) (backToKw p (keywordEach (upU ek).k env))) _ _ _
  rw [attributeBase_plain hsup]
  refine wpAny_bind (hf.v C S h1 fun o' ρ1 s1 E1 S1 V1 => wpAny_bind (wpAny_standAt ?_))
  unfold methodCall
  have hfew : methodCallForm ((upU ea).l.length + (upU ek).k.length) (backTo p (starEach (upU ea).l env)) (backToKw p (keywordEach (upU ek).k env)) = true := by
    unfold methodCallForm
    rw [a2, b2]
    have q1 : ((backTo p (starEach (upU ea).l env)).all fun x => !x.1) = true := by
      have := backTo_any (pos := p) (starEach (upU ea).l env)
      rw [a1 env] at this
      rw [List.all_eq_true]; intro y hy
      have := List.any_eq_false.mp this y hy
      simpa using this
    rw [q1, keywordEach_all ks (b1 p env)]
    have : lenE ea + lenE ek + (if (backToKw p (keywordEach (upU ek).k env)).isEmpty then 0 else 1) < 30 := by split <;> omega
    simp only [Bool.true_and, decide_eq_true_eq]
    exact this
  rw [hfew]
  refine wpAny_bind (wpAny_holding ?_)
  refine prim_getm K C.ar C.d S1.rel V1 h2 C.glob fun f' fs' s2 E2 R2 V2 W2 => ?_
  rw [methodCallPos_few (by rw [hpos]; rfl)]
  refine wpAny_bind (wpAny_pure ?_)
  exact sim_callWith K TK ha hk C (S1.ext E2 R2) V2 W2 h3 h4 hi fun v' ρ3 s3 E3 S3 V3 => h _ _ _ ((E1.trans' E2).trans' E3) S3 V3
end
end Mine

end
section
open PySem PySem.W PySem.Calls PyProof.Rows
set_option autoImplicit false
namespace Mine
section
variable {G : Gx} {r : Task → Option Out} {F : Fc} {A : Around} {env : Env} {loc loc' : Loc} {ρ ρ' : Rho} {H H' : Hp} {s s' : Shared} {Er : Value → Shared → Prop}

theorem sim_raw (e : Expr) : SimD G r (.raw e) where
  v := by intro F A env loc ρ H H' s v Q Er C S hi; cases hi
  t := by intro F A env loc ρ H H' s v Q Er C S hi; cases hi
  o := by intro F A env loc ρ H H' s v Q Er C S hi; cases hi
  l := by intro F loc H H' vs hi; cases hi
  k := by intro F loc H H' vs hi; cases hi
  tl := by intro F A env loc ρ H H' s op v Q Er C S hi; cases hi
  bl := by intro F A env loc ρ H H' s op v p Q Er C S hi; cases hi
  a := by intro F A env loc loc' ρ H H' s v a Q Er C S hV hi; cases hi
  al := by intro F loc loc' H H' vs hi; cases hi

theorem sim_no : SimD G r .no where
  v := by intro F A env loc ρ H H' s v Q Er C S hi; cases hi
  t := by intro F A env loc ρ H H' s v Q Er C S hi; cases hi
  o := by
    intro F A env loc ρ H H' s v Q Er C S hi h
    have hi := interp_ret hi
    cases hi
    exact wpAny_pure (h _ _ _ Ext.refl S .none)
  l := by intro F loc H H' vs hi; cases hi
  k := by intro F loc H H' vs hi; cases hi
  tl := by intro F A env loc ρ H H' s op v Q Er C S hi; cases hi
  bl := by intro F A env loc ρ H H' s op v p Q Er C S hi; cases hi
  a := by intro F A env loc loc' ρ H H' s v a Q Er C S hV hi; cases hi
  al := by intro F loc loc' H H' vs hi; cases hi

theorem sim_nil : SimD G r .nil where
  v := by intro F A env loc ρ H H' s v Q Er C S hi; cases hi
  t := by intro F A env loc ρ H H' s v Q Er C S hi; cases hi
  o := by intro F A env loc ρ H H' s v Q Er C S hi; cases hi
  l := by
    intro F loc H H' vs hi
    have hi := interp_ret hi
    cases hi
    exact ⟨⟨fun _ => rfl, rfl⟩, fun C S h => Calls.spliced_nil (h _ _ _ Ext.refl S VRs.nil)⟩
  k := by
    intro F loc H H' vs hi
    have hi := interp_ret hi
    cases hi
    exact ⟨⟨fun _ _ => rfl, rfl⟩, fun C S h => wpAny_evalAll_nil (h _ _ _ Ext.refl S VRs.nil)⟩
  tl := by
    intro F A env loc ρ H H' s op v Q Er C S hi h
    have hi := interp_ret hi
    cases hi
    exact wpAny_pure (h _ _ Ext.refl S)
  bl := by intro F A env loc ρ H H' s op v p Q Er C S hi; cases hi
  a := by intro F A env loc loc' ρ H H' s v a Q Er C S hV hi; cases hi
  al := by
    intro F loc loc' H H' vs hi
    cases vs with
    | nil =>
      have hi := interp_ret hi
      cases hi
      exact ⟨⟨rfl, fun x hx => nomatch hx⟩, fun C S hV h => wpAny_pure (h _ _ Ext.refl S)⟩
    | cons a b => cases hi

theorem sim_kw {e q : E} (x : Str) (kp : Pos) (he : SimD G r e) (hq : SimD G r q) : SimD G r (.kw x e kp q) where
  v := by intro F A env loc ρ H H' s v Q Er C S hi; cases hi
  t := by intro F A env loc ρ H H' s v Q Er C S hi; cases hi
  o := by intro F A env loc ρ H H' s v Q Er C S hi; cases hi
  l := by intro F loc H H' vs hi; cases hi
  k := by
    intro F loc H H' vs hi
    obtain ⟨⟨a, H1⟩, h1, hi⟩ := interp_bind_some hi
    obtain ⟨⟨b, H2⟩, h2, hi⟩ := interp_bind_some hi
    have hi := interp_ret hi
    cases hi
    obtain ⟨⟨b1, b2⟩, b3⟩ := hq.k h2
    refine ⟨⟨fun pos env => ?_, ?_⟩, fun {A env ρ s pos Q Er} C S h => ?_⟩
    · show some x :: (backToKw pos (keywordEach (upU q).k env)).map (·.1) = _
      rw [b1 pos env]; rfl
    · show (upU q).k.length + 1 = lenE q + 1
      rw [b2]
    · show wpAny _ _ (evalAll ((do let v ← eval (upU e).e env; standAt pos; pure v) :: (backToKw pos (keywordEach (upU q).k env)).map (·.2))) _ _ _
      refine wpAny_evalAll_cons (wpAny_bind (he.v C S h1 fun a' ρ1 s1 E1 S1 V1 => wpAny_bind (wpAny_standAt (wpAny_pure ?_))))
      exact b3 C S1 fun ws ρ2 s2 E2 S2 V2 => h _ _ _ (E1.trans' E2) S2 (VRs.cons (V1.mono E2) V2)
  tl := by intro F A env loc ρ H H' s op v Q Er C S hi; cases hi
  bl := by intro F A env loc ρ H H' s op v p Q Er C S hi; cases hi
  a := by intro F A env loc loc' ρ H H' s v a Q Er C S hV hi; cases hi
  al := by intro F loc loc' H H' vs hi; cases hi

theorem assignEach_cons {x : Expr} {l : List Expr} (hx : notStar x) : assignEach (x :: l) env = (false, assign x env) :: assignEach l env := by
  cases x <;> first | rfl | exact absurd rfl (hx _ _)

theorem bl_cons {q : E} {op : BoolOp} {z : V × Hp} (h : interp r ((den G.T F q loc).bl op H) = some z) : ∃ y l, (upU q).l = y :: l := by
  cases q with
  | cons e q => exact ⟨_, _, rfl⟩
  | un op e p => cases op <;> cases h
  | _ => cases h

theorem boolOp_cons {pos : Pos} {op : BoolOp} {x y : Sem Value} {l : List (Sem Value)} {Q : Value → Shared → Prop} {M : Model}
    (h : wpAny M A x (fun v s₁ => wpAny M A (truthy v) (fun t s₂ => match op, t with | .And, false => Q v s₂ | .Or, true => Q v s₂ | _, _ => wpAny M A (boolOp pos op (y :: l)) Q Er s₂) Er s₁) Er s) :
    wpAny M A (boolOp pos op (x :: y :: l)) Q Er s := by
  show wpAny M A (x >>= fun v => standAt pos >>= fun _ => holding [v] (truthy v) >>= fun t => match op, t with | .And, false => pure v | .Or, true => pure v | _, _ => boolOp pos op (y :: l)) Q Er s
  refine wpAny_bind (wpAny_mono h (fun v s₁ h₁ => wpAny_bind (wpAny_standAt (wpAny_bind (wpAny_holding (wpAny_mono h₁ (fun t s₂ h₂ => ?_) fun _ _ x => x))))) fun _ _ x => x)
  cases op <;> cases t <;> first | exact wpAny_pure h₂ | exact h₂

theorem allTrue_cons {op : BoolOp} {x : Expr} {l : List Expr} {Q : Bool → Shared → Prop} {M : Model}
    (h : wpAny M A (isTrue x env (eval x env)) (fun t s₂ => match op, t with | .And, false => Q false s₂ | .Or, true => Q true s₂ | _, _ => wpAny M A (allTrue op l env) Q Er s₂) Er s) :
    wpAny M A (allTrue op (x :: l) env) Q Er s := by
  show wpAny M A (isTrue x env (eval x env) >>= fun t => match op, t with | .And, false => pure false | .Or, true => pure true | _, _ => allTrue op l env) Q Er s
  refine wpAny_bind (wpAny_mono h (fun t s₂ h₂ => ?_) fun _ _ x => x)
  cases op <;> cases t <;> first | exact wpAny_pure h₂ | exact h₂

theorem sim_cons (K : GOK G) {e q : E} (he : SimD G r e) (hq : SimD G r q) : SimD G r (.cons e q) where
  v := by intro F A env loc ρ H H' s v Q Er C S hi; cases hi
  t := by intro F A env loc ρ H H' s v Q Er C S hi; cases hi
  o := by intro F A env loc ρ H H' s v Q Er C S hi; cases hi
  l := by
    intro F loc H H' vs hi
    obtain ⟨⟨a, H1⟩, h1, hi⟩ := interp_bind_some hi
    obtain ⟨⟨b, H2⟩, h2, hi⟩ := interp_bind_some hi
    have hi := interp_ret hi
    cases hi
    obtain ⟨⟨b1, b2⟩, b3⟩ := hq.l h2
    have hs := notStar_v h1
    refine ⟨⟨fun env => ?_, ?_⟩, fun {A env ρ s pos Q Er} C S h => ?_⟩
    · show (starEach ((upU e).e :: (upU q).l) env).any (·.1) = false
      rw [starEach_cons hs, List.any_cons, b1 env]; rfl
    · show (upU q).l.length + 1 = lenE q + 1
      rw [b2]
    · show wpAny _ _ (spliced (backTo pos (starEach ((upU e).e :: (upU q).l) env))) _ _ _
      rw [starEach_cons hs, backTo_cons]
      refine Calls.spliced_cons (he.v C S h1 fun a' ρ1 s1 E1 S1 V1 => ?_)
      exact b3 C S1 fun ws ρ2 s2 E2 S2 V2 => h _ _ _ (E1.trans' E2) S2 (VRs.cons (V1.mono E2) V2)
  k := by intro F loc H H' vs hi; cases hi
  tl := by
    intro F A env loc ρ H H' s op v Q Er C S hi h
    obtain ⟨⟨b, H1⟩, h1, hi⟩ := interp_bind_some hi
    refine allTrue_cons (he.t C S h1 fun ρ1 s1 E1 S1 => ?_)
    cases op <;> cases b <;> dsimp only at hi ⊢
    · have hi := interp_ret hi; cases hi; exact h _ _ E1 S1
    · exact hq.tl C S1 hi fun ρ2 s2 E2 S2 => h _ _ (E1.trans' E2) S2
    · exact hq.tl C S1 hi fun ρ2 s2 E2 S2 => h _ _ (E1.trans' E2) S2
    · have hi := interp_ret hi; cases hi; exact h _ _ E1 S1
  bl := by
    intro F A env loc ρ H H' s op v pos Q Er C S hi h
    obtain ⟨⟨a, H1⟩, h1, hi⟩ := interp_bind_some hi
    show wpAny _ _ (boolOp pos op (eval (upU e).e env :: evalEach (upU q).l env)) _ _ _
    by_cases hn : q = .nil
    · subst hn
      have hi := interp_ret hi
      cases hi
      exact he.v C S h1 h
    · have hi' : interp r ((Prog.opt (truthM a H1)).bind fun t => match op, t with
          | .And, false => .ret (a, H1)
          | .Or, true => .ret (a, H1)
          | _, _ => (den G.T F q loc).bl op H1) = some (v, H') := by
        cases q <;> first | exact hi | exact absurd rfl hn
      obtain ⟨t, h2, hi'⟩ := interp_bind_some hi'
      have h2 := interp_opt h2
      have short : wpAny (Mo G) A (eval (upU e).e env) (fun a' s₁ => wpAny (Mo G) A (truthy a') (fun t' s₂ => t' = t ∧ ∃ ρ₂, Ext G NoX ρ H s.heap ρ₂ H1 s₂.heap ∧ St G F env loc ρ₂ H1 s₂ ∧ VR G ρ₂ s₂.heap a a') Er s₁) Er s :=
        he.v C S h1 fun a' ρ1 s1 E1 S1 V1 => prim_truth K C.ar C.d S1.rel V1 h2 fun s2 E2 R2 => ⟨rfl, ρ1, E1.trans' E2, S1.ext E2 R2, V1.mono E2⟩
      cases hl : (upU q).l with
      | nil =>
        have hret : (a, H1) = (v, H') := by
          cases op <;> cases t <;> dsimp only at hi' <;> first
            | exact interp_ret hi'
            | (obtain ⟨y, l, e'⟩ := bl_cons hi'; rw [hl] at e'; cases e')
        cases hret
        exact he.v C S h1 h
      | cons y l =>
        show wpAny _ _ (boolOp pos op (eval (upU e).e env :: eval y env :: evalEach l env)) _ _ _
        refine boolOp_cons (wpAny_mono short (fun a' s₁ q₁ => wpAny_mono q₁ (fun t' s₂ q₂ => ?_) fun _ _ x => x) fun _ _ x => x)
        obtain ⟨rfl, ρ2, E2, S2, V2⟩ := q₂
        have rec_ : interp r ((den G.T F q loc).bl op H1) = some (v, H') → wpAny (Mo G) A (boolOp pos op (eval y env :: evalEach l env)) Q Er s₂ := fun hb => by
          have := hq.bl (pos := pos) (Q := Q) (Er := Er) C S2 hb fun a'' ρ3 s3 E3 S3 V3 => h _ _ _ (E2.trans' E3) S3 V3
          rwa [hl] at this
        cases op <;> cases t' <;> dsimp only at hi' ⊢
        · have hi' := interp_ret hi'; cases hi'; exact h _ _ _ E2 S2 V2
        · exact rec_ hi'
        · exact rec_ hi'
        · have hi' := interp_ret hi'; cases hi'; exact h _ _ _ E2 S2 V2
  a := by intro F A env loc loc' ρ H H' s v a Q Er C S hV hi; cases hi
  al := by
    intro F loc loc' H H' vs hi
    cases vs with
    | nil => cases hi
    | cons x vs =>
      obtain ⟨⟨loc1, H1⟩, h1, hi⟩ := interp_bind_some hi
      obtain ⟨⟨b1, b2⟩, b3⟩ := hq.al hi
      have hs := notStar_a h1
      refine ⟨⟨?_, fun y hy => ?_⟩, fun {A env ρ s ws Q Er} C S hV h => ?_⟩
      · show (upU q).l.length + 1 = vs.length + 1
        rw [b1]
      · rcases List.mem_cons.mp hy with rfl | hy
        · exact hs
        · exact b2 y hy
      · obtain ⟨w, ws', rfl, V1, V2⟩ := hV.cons_inv
        show wpAny _ _ (assignInOrder ((assignEach ((upU e).e :: (upU q).l) env).map (·.2)) (w :: ws')) _ _ _
        rw [assignEach_cons hs]
        show wpAny _ _ (holding ws' (assign (upU e).e env w) >>= fun _ => assignInOrder ((assignEach (upU q).l env).map (·.2)) ws') _ _ _
        refine wpAny_bind (wpAny_holding (he.a C S V1 h1 fun ρ1 s1 E1 S1 => ?_))
        exact b3 C S1 (V2.mono E1) fun ρ2 s2 E2 S2 => h _ _ (E1.trans' E2) S2
end
end Mine

end
section
open PySem PySem.W PySem.Calls PyProof.Rows
set_option autoImplicit false
namespace Mine
section
variable {G : Gx} {r : Task → Option Out} {F : Fc} {A : Around} {env : Env} {loc loc' : Loc} {ρ ρ' : Rho} {H H' : Hp} {s s' : Shared} {Er : Value → Shared → Prop}

theorem closure_for (cells : List (Str × Nat)) (hc : ∀ (x : Str) (i : Nat), cells.lookup x = some i → ∃ p, ρ[i]? = some p ∧ env.cells.lookup x = some p.1) :
    ∀ (names : List (Str × NameKind)) (acc : List (Str × Nat)) (acc' : List (Str × Addr)) (cs : List (Str × Nat)) (d : Nat), CellsR ρ acc acc' → freeCells ⟨[], cells, d, false⟩ names acc = some cs →
    ∃ cs', CellsR ρ cs cs' ∧ (forIn names acc' fun x (cs : List (Str × Addr)) => match x with
      | (name, kind) => if kind == .free then (do let a ← cellOf env name; pure (.yield ((name, a) :: cs))) else pure (.yield cs) : Sem _) = pure cs'
  | [], acc, acc', cs, d, h, e => by
    unfold freeCells at e; cases e
    exact ⟨acc', h, rfl⟩
  | (x, k) :: names, acc, acc', cs, d, h, e => by
    rw [List.forIn_cons]
    by_cases hk : k = .free
    · subst hk
      unfold freeCells at e
      dsimp only at e
      split at e
      · rename_i i hi
        obtain ⟨p, hp, hl⟩ := hc x i hi
        obtain ⟨cs', h1, h2⟩ := closure_for cells hc names ((x, i) :: acc) ((x, p.1) :: acc') cs d (.cons hp h) e
        refine ⟨cs', h1, ?_⟩
        rw [← h2]
        simp only [beq_self_eq_true, if_true, cellOf, hl]
        rfl
      · cases e
    · have hkb : (k == NameKind.free) = false := by simpa using hk
      have e' : freeCells ⟨[], cells, d, false⟩ names acc = some cs := by
        cases k <;> first | exact e | exact absurd rfl hk
      obtain ⟨cs', h1, h2⟩ := closure_for cells hc names acc acc' cs d h e'
      refine ⟨cs', h1, ?_⟩
      rw [← h2]
      simp only [hkb, Bool.false_eq_true, if_false]
      rfl

theorem freeCells_eq (F : Fc) : ∀ (names : List (Str × NameKind)) (acc : List (Str × Nat)), freeCells F names acc = freeCells ⟨[], F.cells, F.depth, false⟩ names acc
  | [], _ => rfl
  | (x, k) :: names, acc => by
    cases k <;> unfold freeCells <;> (try exact freeCells_eq F names acc)
    dsimp only
    cases h : F.cells.lookup x with
    | none => rfl
    | some i => exact freeCells_eq F names _

theorem sim_closure {sc : Scope} {cs : List (Str × Nat)} (x : Fd G F env loc ρ s.heap) (e : freeCells F sc.names [] = some cs) : ∃ cs', CellsR ρ cs cs' ∧ closureFor sc env = pure cs' := by
  rw [freeCells_eq] at e
  obtain ⟨cs', h1, h2⟩ := closure_for F.cells x.cells sc.names [] [] cs _ .nil e
  refine ⟨cs', h1, ?_⟩
  have q : closureFor sc env = ((forIn sc.names [] fun x (cs : List (Str × Addr)) => match x with
      | (name, kind) => if kind == .free then (do let a ← cellOf env name; pure (.yield ((name, a) :: cs))) else pure (.yield cs) : Sem _) >>= pure) := rfl
  rw [q, h2]
  rfl

def compKind (env : Env) (n : Str) (k : NameKind) : Bool := k == .free && env.scope.kind == .function && env.kindOf n == some .cell
def compScope (env : Env) (sc : Scope) : Scope := { sc with names := sc.names.map fun (n, k) => if compKind env n k then (n, .cell) else (n, k) }

/-- a comprehension, its closure given -/
theorem compr_core {M : Model} {e : Expr} {scope : Scope} {pos : Pos} {newAcc first : Sem Value} {g : Comprehension} {gs : List Comprehension} {use : Option (Value → Sem Unit)} {cl : List (Str × Addr)} {Q : Value → Shared → Prop}
    (hcl : clausesOf e = g :: gs) (hs : ∀ x, foldedSetIterable g.iter env x = pure x) (hclos : closureFor scope env = pure cl)
    (h : wpAny M A first (fun x s₁ => wpAny M A (pyIter x) (fun it s₂ => wpAny M A newAcc (fun acc s₃ =>
      wpAny M A (newFunctionEnv scope env.globals cl [] env.qual none .none (some env)) (fun cenv s₄ =>
        codeAny M A (.compStart e 0 it acc { cenv with scope := compScope env scope }) (fun r s' => match r with
          | .ok _ => ∀ cellsOf, (match use with
            | none => wpAny M A (comprehension.letGo { cenv with scope := compScope env scope } cellsOf (scope.names.filter fun (n, k) => (k == .local || k == .cell) && n != (".0" : Str)).reverse) (fun _ s'' => Q acc s'') Er s'
            | some u => wpAny M A (u acc) (fun _ s'' => wpAny M A (comprehension.letGo { cenv with scope := compScope env scope } cellsOf ((scope.names.filter fun (n, k) => (k == .local || k == .cell) && n != (".0" : Str)).reverse.drop 1 ++ (scope.names.filter fun (n, k) => (k == .local || k == .cell) && n != (".0" : Str)).reverse.take 1)) (fun _ s3 => Q .none s3) Er s'') Er s')
          | .error _ => False) s₄) Er s₃) Er s₂) Er s₁) Er s) :
    wpAny M A (comprehension e scope env pos newAcc false first use) Q Er s := by
  unfold comprehension
  rw [hclos, hcl]
  refine wpAny_bind (wpAny_mono h (fun x s₁ h₁ => wpAny_bind (wpAny_standAt (wpAny_bind (wpAny_of_eq (hs x) (wpAny_bind (wpAny_holding (wpAny_mono h₁ (fun it s₂ h₂ =>
    wpAny_standIf (wpAny_bind (wpAny_mono h₂ (fun acc s₃ h₃ => wpAny_bind (wpAny_pure (wpAny_bind (wpAny_mono h₃ (fun cenv s₄ h₄ => ?_) fun _ _ h' => h')))) fun _ _ h' => h')))
      fun _ _ h' => h'))))))) fun _ _ h' => h')
  dsimp only
  refine wpAny_holding (wpAny_bind (wpAny_attempt (wpAny_holding (wpAny_run (codeAny_mono h₄ fun r s' hr => ?_)))))
  cases r with
  | ok f =>
    cases use with
    | none => exact wpAny_bind (wpAny_holding (wpAny_mono (hr _) (fun _ _ q => wpAny_pure q) fun _ _ x => x))
    | some u => exact wpAny_bind (wpAny_rule (wpAny_bind (wpAny_holding (wpAny_mono (hr _) (fun _ _ q => wpAny_bind (wpAny_mono q (fun _ _ q' => wpAny_pure q') fun _ _ x => x)) fun _ _ x => x))))
  | error x => exact hr.elim
end
end Mine

end
section
open PySem PySem.W PySem.Calls PyProof.Rows
set_option autoImplicit false
namespace Mine
section
variable {G : Gx} {r : Task → Option Out} {F : Fc} {A : Around} {env : Env} {loc loc' : Loc} {ρ ρ' : Rho} {H H' : Hp} {s s' : Shared} {Er : Value → Shared → Prop}

theorem notSet_v {e : E} {z : V × Hp} (h : interp r ((den G.T F e loc).v H) = some z) (x : Value) : foldedSetIterable (upU e).e env x = pure x := by
  cases e with
  | raw y => cases h
  | un op e p => rfl
  | _ => rfl

theorem compScope_lookup (sc : Scope) (x : Str) : sameKind (sc.names.lookup x) ((compScope env sc).names.lookup x) := by
  unfold compScope
  dsimp only
  induction sc.names with
  | nil => exact .inl rfl
  | cons y l ih =>
    obtain ⟨n, k⟩ := y
    rw [List.map_cons]
    dsimp only
    cases hc : compKind env n k with
    | true =>
      rw [if_pos rfl, List.lookup_cons, List.lookup_cons]
      cases hx : x == n with
      | true =>
        right
        refine ⟨?_, rfl⟩
        unfold compKind at hc
        simp only [Bool.and_eq_true, beq_iff_eq] at hc
        rw [hc.1.1]
      | false => exact ih
    | false =>
      rw [if_neg Bool.false_ne_true, List.lookup_cons, List.lookup_cons]
      cases hx : x == n with
      | true => exact .inl rfl
      | false => exact ih

theorem compScope_names (sc : Scope) (hn : ∀ y ∈ sc.names, y.2 = .local → sc.names.lookup y.1 = some .local) : ∀ y ∈ sc.names, y.2 = .local → (compScope env sc).names.lookup y.1 = some .local := by
  intro y hy hl
  have := compScope_lookup (env := env) sc y.1
  rw [hn y hy hl] at this
  rcases this with e | ⟨e, _⟩
  · exact e.symm
  · cases e

/-- the comprehension, and what uses it -/
theorem sim_compG (K : GOK G) (TK : TaskOK G r) {elt tgt iter ifs : E} {sc : Scope} {p : Pos} {use : Option (Value → Sem Unit)} {v : V} {Hc : Hp} {Q : Value → Shared → Prop}
    (hi' : SimD G r iter) (C : Cx G F A env) (S : St G F env loc ρ H s) (hi : interp r ((den G.T F (.comp elt tgt iter ifs sc p) loc).v H) = some (v, Hc))
    (h0 : use = none → ∀ a ρ' s', Ext G NoX ρ H s.heap ρ' Hc s'.heap → St G F env loc ρ' Hc s' → VR G ρ' s'.heap v a → Q a s')
    (h1 : ∀ u, use = some u → ∃ loc' H', (∀ a ρ' s', Ext G NoX ρ H s.heap ρ' Hc s'.heap → St G F env loc ρ' Hc s' → VR G ρ' s'.heap v a →
        wpAny (Mo G) A (u a) (fun _ s₂ => ∃ ρ₂, Ext G (fun b => b = env.locals) ρ' Hc s'.heap ρ₂ H' s₂.heap ∧ St G F env loc' ρ₂ H' s₂) Er s') ∧
      ∀ ρ' s', Ext G (fun b => b = env.locals) ρ H s.heap ρ' H' s'.heap → St G F env loc' ρ' H' s' → Q .none s') :
    wpAny (Mo G) A (comprehension (upU (.comp elt tgt iter ifs sc p)).e sc env (firstIterPos [⟨(upU tgt).e, (upU iter).e, (upU ifs).l, 0⟩] p) (newList []) (firstAsync [⟨(upU tgt).e, (upU iter).e, (upU ifs).l, 0⟩]) (firstIter [⟨(upU tgt).e, (upU iter).e, (upU ifs).l, 0⟩] env) use) Q Er s := by
  obtain ⟨⟨x, H1⟩, e1, hi⟩ := interp_bind_some hi
  obtain ⟨it, e2, hi⟩ := interp_bind_some hi
  obtain ⟨cs, e3, hi⟩ := interp_bind_some hi
  have e2 := interp_opt e2; have e3 := interp_opt e3
  dsimp only at e2 hi
  split at e3
  rotate_left
  · cases e3
  rename_i hsc
  simp only [Bool.and_eq_true, List.all_eq_true, bne_iff_ne, beq_iff_eq, Bool.or_eq_true] at hsc
  simp only [interp] at hi
  cases ho : r (.comp elt tgt ifs it H1.length ⟨sc.names, cs, F.depth, false⟩ [] (H1 ++ [.list []])) with
  | none => rw [ho] at hi; cases hi
  | some o =>
  rw [ho] at hi
  dsimp only at hi
  cases hi
  obtain ⟨cl, hcl, hclos⟩ := sim_closure (s := s) S.fd e3
  refine compr_core (gs := []) (cl := cl) rfl (fun x => notSet_v e1 x) hclos ?_
  show wpAny _ _ (eval (upU iter).e env) _ _ _
  refine hi'.v C S e1 fun x' ρ1 s1 E1 S1 V1 => ?_
  refine prim_iter K C.ar C.d S1.rel V1 e2 fun b s2 E2 R2 I2 hb => ?_
  have S2 := S1.ext E2 R2
  obtain ⟨fb1, fb2, fb3⟩ := S1.rel.fresh hb
  refine wpAny_newObj_type ?_ (by show (#[] : Array Value).size ≤ sizeLine; exact Nat.zero_le _)
  obtain ⟨R3, E3⟩ := S2.rel.pushList (xs := []) (ws := []) VRs.nil (Nat.zero_le _) s2.toks
  have S3 := S2.ext (s' := { s2 with heap := s2.heap.push { cls := .type "list", data := .seq ([] : List Value).toArray }, toks := s2.toks }) E3 R3
  have hbL : b ≠ env.locals := fun q => by
    obtain ⟨m, ⟨o, _, _, g, _⟩, _⟩ := S1.fd.ns
    rw [← q, hb] at g; cases g
  have I3 := I2.mono E3 fb1 fb3 (fun q => q)
  refine wpAny_newFunctionEnv (fun y hy => (hsc.1 y hy).1) (fun y hy => nomatch hy) (fun h4 hns hsb => ?_) hsc.2
  have hkeep : Keeps (s2.heap.push { cls := .type "list", data := .seq ([] : List Value).toArray }) h4 := fun c oc g =>
    (hsb.2 c (Nat.ne_of_lt (Heap.lt_size g))).trans (Heap.get?_push_of_some _ g)
  generalize hh3 : s2.heap.push { cls := .type "list", data := .seq ([] : List Value).toArray } = h3 at *
  have R4 := R3.keeps (h' := h4) hkeep (s2.toks + 0)
  have E4 : Ext G NoX (ρ1 ++ [(s2.heap.objs.size, s2.heap.objs.size)]) (H1 ++ [.list []]) h3 (ρ1 ++ [(s2.heap.objs.size, s2.heap.objs.size)]) (H1 ++ [.list []]) h4 := R3.extKeeps hkeep
  have hL : h3.get? h3.objs.size = none := size_none _
  obtain ⟨f1, f2, f3⟩ := R3.fresh hL
  have hbT : ∃ ob, h3.get? b = some ob := I3.there
  have hbNe : b ≠ h3.objs.size := fun q => by
    obtain ⟨ob, g⟩ := hbT
    exact Nat.lt_irrefl _ (q ▸ Heap.lt_size g)
  obtain ⟨ob2, gb2⟩ := I2.there
  have nb3 := E3.notOwn gb2 fb1 (fun q => q)
  have I4 := I3.mono E4 nb3 fb3 (fun q => q)
  have C' : Cx G ⟨sc.names, cs, F.depth, false⟩ A { newEnv sc h3.objs.size env.globals cl env.qual none .none (some env) builtinsNs with scope := compScope env sc } :=
    ⟨C.ar, C.d, hsc.2, C.glob, C.bi, fun x => compScope_lookup sc x, by unfold interactive; show (sc.kind == .module && _) = false; rw [hsc.2]; rfl, fun q => nomatch q⟩
  have hcl3 := (hcl.mono (ρ' := ρ1 ++ [(s2.heap.objs.size, s2.heap.objs.size)]) fun i p q => E3.get (E2.get (E1.get q)))
  have S4 : St G ⟨sc.names, cs, F.depth, false⟩ { newEnv sc h3.objs.size env.globals cl env.qual none .none (some env) builtinsNs with scope := compScope env sc } [] (ρ1 ++ [(s2.heap.objs.size, s2.heap.objs.size)]) (H1 ++ [.list []]) { s2 with heap := h4, toks := s2.toks + 0 } :=
    ⟨R4, ⟨⟨_, hns, fun x v q => nomatch q⟩, f1, f2, f3, fun x i q => hcl3.lookup q⟩⟩
  have E03 := (E1.trans' E2).trans' E3
  have E04 := E03.trans' E4
  have hdomL : ∀ c oc, s.heap.get? c = some oc → c ≠ h3.objs.size := fun c oc g q => by
    obtain ⟨o', g'⟩ := E03.dom c oc g (fun q => q)
    exact Nat.lt_irrefl _ (q ▸ Heap.lt_size g')
  have hdomB : ∀ c oc, s.heap.get? c = some oc → c ≠ b := fun c oc g q => by
    obtain ⟨o', g'⟩ := E1.dom c oc g (fun q => q)
    rw [q, hb] at g'; cases g'
  have hLL : env.locals ≠ h3.objs.size := by
    obtain ⟨m, ⟨oo, _, _, g, _⟩, _⟩ := S.fd.ns
    exact hdomL _ _ g
  have hacc : (ρ1 ++ [(s2.heap.objs.size, s2.heap.objs.size)])[H1.length]? = some (s2.heap.objs.size, s2.heap.objs.size) := new_at _ _ _ S2.rel.len
  have loop := fun R hR => TK.comp (R := R) (iter := (upU iter).e) (sc := sc) (pos := p) ho C' S4 I4 nb3 fb2 fb3 hbNe hacc hR
  refine codeAny_compStart_list (loop _ ?fin) (prim_iterAgain I4 (loop _ ?fin))
  intro ρ5 s5 E5 S5 cellsOf
  have E05 : Ext G NoX ρ H s.heap ρ5 o.H s5.heap := E04.trans E5 fun c oc g q => by
    rcases q with q | q
    · exact hdomL c oc g q
    · exact hdomB c oc g q
  have T5 : St G F env loc ρ5 o.H s5 := ⟨S5.rel, S.fd.mono E05 (fun q => q)⟩
  have V5 : VR G ρ5 s5.heap (.obj H1.length) (.ref s2.heap.objs.size) := .obj (p := (s2.heap.objs.size, s2.heap.objs.size)) (E5.get hacc)
  obtain ⟨m5, hm5, _⟩ := S5.fd.ns
  have hvars : ∀ (l : List (Str × NameKind)), (∀ y ∈ l, y ∈ sc.names) → ∀ y ∈ l, y.2 = .local → Env.kindOf { newEnv sc h3.objs.size env.globals cl env.qual none .none (some env) builtinsNs with scope := compScope env sc } y.1 = some .local := fun l hl y hy hk =>
    compScope_names sc (fun z hz hzl => by
      rcases (hsc.1 z hz).2 with q | q
      · exact absurd hzl q
      · exact q) y (hl y hy) hk
  cases use with
  | none =>
    dsimp only
    refine wpAny_comp_letGo hsc.2 _ s5 m5 (hvars _ fun y hy => (List.mem_filter.mp (List.mem_reverse.mp hy)).1) hm5 fun h6 m6 hm6 hs6 => ?_
    obtain ⟨oL, es, ep, gL, _⟩ := id hm5
    obtain ⟨oL', _, _, gL', _⟩ := id hm6
    obtain ⟨R6, E6⟩ := S5.rel.but hs6 gL (ns_frozen hm5 gL) S5.fd.nown S5.fd.nbase S5.fd.ntab ⟨_, gL'⟩ s5.toks
    have E06 : Ext G NoX ρ H s.heap ρ5 o.H h6 := E05.trans E6 fun c oc g q => hdomL c oc g q
    exact h0 rfl _ ρ5 { s5 with heap := h6 } E06 ⟨R6, S.fd.mono E06 (fun q => q)⟩ (V5.mono E6)
  | some u =>
    dsimp only
    obtain ⟨loc', H6, hu, hfin⟩ := h1 u rfl
    refine wpAny_mono (hu _ ρ5 s5 E05 T5 V5) (fun _ s6 q => ?_) fun _ _ x => x
    obtain ⟨ρ6, E6, S6⟩ := q
    obtain ⟨oL, es, ep, gL, rL⟩ := id hm5
    have gL6 := E6.keep _ _ gL S5.fd.nown S5.fd.ntab (fun q => hLL q.symm)
    have hm5' : s6.heap.Ns h3.objs.size m5 := ⟨oL, es, ep, gL6, rL⟩
    refine wpAny_comp_letGo hsc.2 _ s6 m5 (hvars _ fun y hy => ?_) hm5' fun h7 m7 hm7 hs7 => ?_
    · rcases List.mem_append.mp hy with q | q
      · exact (List.mem_filter.mp (List.mem_reverse.mp (List.mem_of_mem_drop q))).1
      · exact (List.mem_filter.mp (List.mem_reverse.mp (List.mem_of_mem_take q))).1
    · obtain ⟨oL', _, _, gL', _⟩ := id hm7
      obtain ⟨R7, E7⟩ := S6.rel.but hs7 gL6 (ns_frozen hm5' gL6) (E6.notOwn gL S5.fd.nown (fun q => hLL q.symm)) S5.fd.nbase S5.fd.ntab ⟨_, gL'⟩ s6.toks
      have E07 : Ext G (fun b => b = env.locals) ρ H s.heap ρ6 H6 h7 := (E05.toX.trans' E6).trans E7 fun c oc g q => absurd q (hdomL c oc g)
      exact hfin ρ6 { s6 with heap := h7 } E07 ⟨R7, S6.fd.mono E7 (fun q => hLL q)⟩

theorem sim_comp (K : GOK G) (TK : TaskOK G r) {elt tgt iter ifs : E} (sc : Scope) (p : Pos) (hi' : SimD G r iter) : SimD G r (.comp elt tgt iter ifs sc p) := by
  refine simEx K (fun _ _ => rfl) (fun _ _ _ => rfl) (fun _ _ => rfl) (fun _ _ _ => rfl) (fun _ _ _ => rfl) (fun _ _ _ _ => rfl) (fun _ _ _ _ => rfl) (fun _ _ _ _ => rfl) rfl (fun _ => rfl) ?_ (noA fun _ _ _ _ => rfl)
  intro F A env loc ρ H H' s v Q Er C S hi h
  exact sim_compG K TK (use := none) hi' C S hi (fun _ a ρ' s' E' S' V' => h a ρ' s' E' S' V') (fun u q => nomatch q)

/-- every expression -/
theorem simD (K : GOK G) (TK : TaskOK G r) : ∀ e : E, SimD G r e := by
  intro e
  induction e with
  | cst c k p => exact sim_cst K c k p
  | name x p => exact sim_name K x p
  | bop op es p ih => exact sim_bop op p ih
  | bin l op q p h1 h2 => exact sim_bin K op p h1 h2
  | un op e p ih => exact sim_un K op p ih
  | ife t a b p h1 h2 h3 => exact sim_ife K p h1 h2 h3
  | lst es p ih => exact sim_lst K p ih
  | tpl es k p ih => exact sim_tpl K k p ih
  | dict0 p => exact sim_dict0 K p
  | comp elt tgt iter ifs sc p h1 h2 h3 h4 => exact sim_comp K TK sc p h3
  | cmp l op q p h1 h2 => exact sim_cmp K op p h1 h2
  | callm o x ap args kws p h1 h2 h3 => exact sim_callm K TK x ap p h1 h2 h3
  | call f args kws p h1 h2 h3 => exact sim_call K TK p h1 h2 h3
  | attr e x p ih => exact sim_attr K x p ih
  | sub e i p h1 h2 => exact sim_sub K p h1 h2
  | slice e lo hi sp p h1 h2 h3 => exact sim_slice K sp p h1 h2 h3
  | nil => exact sim_nil
  | cons e q h1 h2 => exact sim_cons K h1 h2
  | kw x e kp q h1 h2 => exact sim_kw x kp h1 h2
  | no => exact sim_no
  | raw e => exact sim_raw e
end
end Mine

end
section
open PySem PySem.W PySem.Calls PyProof.Rows
set_option autoImplicit false
namespace Mine
section
variable {G : Gx} {r : Task → Option Out} {F : Fc} {A : Around} {env : Env} {loc loc' : Loc} {ρ ρ' : Rho} {H H' : Hp} {s s' : Shared} {Er : Value → Shared → Prop}

abbrev XL (env : Env) : Addr → Prop := fun b => b = env.locals
variable (G r) in
def PS (a : S) : Prop := ∀ {F : Fc} {A : Around} {env : Env} {loc : Loc} {ρ : Rho} {H : Hp} {s : Shared} {out : Out} {Q : Flow → Shared → Prop} {Er : Value → Shared → Prop},
  Cx G F A env → St G F env loc ρ H s → interp r ((denS G.T F a).s loc H) = some out →
  (∀ fl ρ' s', Ext G (XL env) ρ H s.heap ρ' out.H s'.heap → St G F env out.loc ρ' out.H s' → FlR G ρ' s'.heap out.f fl → Q fl s') → wpAny (Mo G) A (exec (upS a).s env) Q Er s
variable (G r) in
def PSs (a : S) : Prop := ∀ {F : Fc} {A : Around} {env : Env} {loc : Loc} {ρ : Rho} {H : Hp} {s : Shared} {out : Out} {Q : Flow → Shared → Prop} {Er : Value → Shared → Prop},
  Cx G F A env → St G F env loc ρ H s → interp r ((denS G.T F a).l loc H) = some out →
  (∀ fl ρ' s', Ext G (XL env) ρ H s.heap ρ' out.H s'.heap → St G F env out.loc ρ' out.H s' → FlR G ρ' s'.heap out.f fl → Q fl s') → wpAny (Mo G) A (execs (upS a).l env) Q Er s

theorem swaps_plain {e : E} {z : V × Hp} (h : interp r ((den G.T F e loc).v H) = some z) (hc : ¬ isCompE e = true) (t : Option Expr) (n : Nat) : swapsWith (upU e).e t n env = pure false := by
  cases e with
  | raw x => cases h
  | comp elt tgt iter ifs sc p => exact absurd rfl hc
  | un op e p => rfl
  | _ => rfl

theorem ss_expr (K : GOK G) (TK : TaskOK G r) (e : E) (p : Pos) : PS G r (.expr e p) := by
  intro F A env loc ρ H s out Q Er C S hi h
  change interp r (if isCompE e then .fail else ((den G.T F e loc).v H).bind fun a => .ret (⟨.next, loc, a.2⟩ : Out)) = _ at hi
  split at hi
  · cases hi
  rename_i hc
  obtain ⟨⟨a, H1⟩, h1, hi⟩ := interp_bind_some hi
  have hi := interp_ret hi
  cases hi
  show wpAny _ _ (exec (.Expr (upU e).e p) env) _ _ _
  rw [exec_Expr env _ _ C.inter (swaps_plain h1 hc _ _)]
  exact wpAny_bind (wpAny_standAt (wpAny_bind ((simD K TK e).v C S h1 fun a' ρ1 s1 E1 S1 V1 => prim_letgo (h _ _ _ E1.toX S1 .next))))

theorem ss_ret (K : GOK G) (TK : TaskOK G r) (e : E) (p : Pos) : PS G r (.ret e p) := by
  intro F A env loc ρ H s out Q Er C S hi h
  obtain ⟨⟨a, H1⟩, h1, hi⟩ := interp_bind_some hi
  have hi := interp_ret hi
  cases hi
  have q := (simD K TK e).o (Q := fun a s' => Q (.ret a) s') (Er := Er) C S h1 fun a' ρ1 s1 E1 S1 V1 => h _ _ _ E1.toX S1 (.ret V1)
  show wpAny _ _ (standAt p >>= fun _ => match evalOpt (upU e).o env with | some x => x >>= fun v => pure (Flow.ret v) | none => pure (Flow.ret .none)) _ _ _
  refine wpAny_bind (wpAny_standAt ?_)
  cases ho : (upU e).o with
  | none =>
    have hn : e = .no := by
      cases e with
      | no => rfl
      | nil => cases h1
      | cons a b => cases h1
      | kw a b c d => cases h1
      | _ => cases ho
    subst hn
    have h1 := interp_ret h1
    cases h1
    exact wpAny_pure (h _ _ _ Ext.refl S (.ret .none))
  | some x =>
    rw [ho] at q
    exact wpAny_bind (wpAny_mono q (fun _ _ h => wpAny_pure h) fun _ _ x => x)

theorem swapped_none {t v : E} {z : V × Hp} {x : V} {y : Loc × Hp} {H' : Hp} (h : interp r ((den G.T F v loc).v H) = some z) (ha : interp r ((den G.T F t loc).a x H') = some y) (hc : ¬ (isTpl t && isTpl v) = true) :
    swappedStores [(upU t).e] (upU v).e env = pure none := by
  cases t with
  | raw e => cases ha
  | un op e p => cases op <;> cases ha
  | tpl es k p =>
    have hv : ¬ isTpl v = true := fun q => hc (by rw [q]; rfl)
    cases v with
    | raw e => cases h
    | tpl es k p => exact absurd rfl hv
    | un op e p => rfl
    | _ => rfl
  | name x p => rfl
  | attr e x p => rfl
  | sub e i p => rfl
  | _ => cases ha

theorem ss_asg (K : GOK G) (TK : TaskOK G r) (t v : E) (p : Pos) : PS G r (.asg t v p) := by
  intro F A env loc ρ H s out Q Er C S hi h
  change interp r (if isTpl t && isTpl v then .fail else ((den G.T F v loc).v H).bind fun a => ((den G.T F t loc).a a.1 a.2).bind fun b => .ret (⟨.next, b.1, b.2⟩ : Out)) = _ at hi
  split at hi
  · cases hi
  rename_i hc
  obtain ⟨⟨a, H1⟩, h1, hi⟩ := interp_bind_some hi
  obtain ⟨⟨loc', H2⟩, h2, hi⟩ := interp_bind_some hi
  have hi := interp_ret hi
  cases hi
  dsimp only at h2 h
  have hstar := notStar_a h2
  have hstores : (assignEach [(upU t).e] env).map (·.2) = [assign (upU t).e env] := by rw [assignEach_cons hstar]; rfl
  have plain : wpAny (Mo G) A (eval (upU v).e env >>= fun w => assignStores env w none [assign (upU t).e env]) Q Er s :=
    wpAny_bind ((simD K TK v).v C S h1 fun a' ρ1 s1 E1 S1 V1 => wpAny_bind ((simD K TK t).a C S1 V1 h2 fun ρ2 s2 E2 S2 => wpAny_pure (h _ _ _ (E1.toX.trans' E2) S2 .next)))
  have whole : ∀ b, swapsWith (upU v).e (some (upU t).e) p.line env = pure b → (b = true → isCompE v = true) → wpAny (Mo G) A (exec (.Assign [(upU t).e] (upU v).e p) env) Q Er s := by
    intro b hb hcomp
    show wpAny _ _ (standAt p >>= fun _ => swapsWith (upU v).e (some (upU t).e) p.line env >>= fun b => if b then (evalThenUse (upU v).e env (fun v => assignAll v ((assignEach [(upU t).e] env).map (·.2))) >>= fun _ => pure .next)
      else (eval (upU v).e env >>= fun w => swappedStores [(upU t).e] (upU v).e env >>= fun sw => assignStores env w sw ((assignEach [(upU t).e] env).map (·.2)))) _ _ _
    rw [hb, hstores, swapped_none h1 h2 hc]
    refine wpAny_bind (wpAny_standAt (wpAny_bind (wpAny_pure ?_)))
    cases b with
    | false => exact plain
    | true =>
      have hc' := hcomp rfl
      cases v with
      | comp elt tgt iter ifs sc q =>
        show wpAny _ _ ((comprehension (upU (.comp elt tgt iter ifs sc q)).e sc env (firstIterPos [⟨(upU tgt).e, (upU iter).e, (upU ifs).l, 0⟩] q) (newList []) (firstAsync [⟨(upU tgt).e, (upU iter).e, (upU ifs).l, 0⟩]) (firstIter [⟨(upU tgt).e, (upU iter).e, (upU ifs).l, 0⟩] env) (some fun v => assignAll v [assign (upU t).e env]) >>= fun _ => pure ()) >>= fun _ => pure Flow.next) _ _ _
        refine wpAny_bind (wpAny_bind ?_)
        refine sim_compG K TK (use := some fun v => assignAll v [assign (upU t).e env]) (simD K TK iter) C S h1 (fun q => nomatch q) fun u hu => ?_
        cases hu
        refine ⟨loc', H2, fun a' ρ1 s1 E1 S1 V1 => ?_, fun ρ2 s2 E2 S2 => wpAny_pure (wpAny_pure (h _ _ _ E2 S2 .next))⟩
        exact (simD K TK t).a C S1 V1 h2 fun ρ2 s2 E2 S2 => ⟨ρ2, E2, S2⟩
      | _ => cases hc'
  by_cases hcv : isCompE v = true
  · cases v with
    | comp elt tgt iter ifs sc q =>
      cases ht : (upU t).e with
      | Name x xp => exact whole _ (by rw [ht]; rfl) (fun _ => rfl)
      | _ => exact whole false (by rw [ht]; rfl) (fun e => nomatch e)
    | _ => cases hcv
  · exact whole false (swaps_plain h1 hcv _ _) (fun e => nomatch e)
end
end Mine

end
section
open PySem PySem.W PySem.Calls PyProof.Rows
set_option autoImplicit false
namespace Mine
section
variable {G : Gx} {r : Task → Option Out} {F : Fc} {A : Around} {env : Env} {loc loc' : Loc} {ρ ρ' : Rho} {H H' : Hp} {s s' : Shared} {Er : Value → Shared → Prop}

theorem codeAmong_pos {p q : Pos} : ∀ (l : List Value), p.line = q.line → p.col = q.col → codeAmong p l = codeAmong q l := by
  intro l h1 h2
  fun_induction codeAmong p l with
  | case1 line t col u c rest h => unfold codeAmong; rw [← h1, ← h2, if_pos h]
  | case2 line t col u c rest h ih => rw [ih]; conv => rhs; unfold codeAmong
                                      rw [← h1, ← h2, if_neg h]
  | case3 l h => unfold codeAmong; split
                 · exact absurd rfl (h _ _ _ _ _ _)
                 · rfl
theorem codeAmong_old {p q : Pos} {c cv : Value} : ∀ {l : List Value}, TriplesOk l → ¬ (p.line = q.line ∧ p.col = q.col) → codeAmong p (l ++ [rawInt q.line, rawInt q.col, c]) = some cv → codeAmong p l = some cv := by
  intro l ht hp h
  fun_induction TriplesOk l with
  | case1 =>
    simp only [List.nil_append, codeAmong, rawInt] at h
    split at h
    · rename_i hc
      simp only [Bool.and_eq_true, beq_iff_eq] at hc
      exact absurd ⟨by omega, by omega⟩ hp
    · cases h
  | case2 a b c' d e rest ih =>
    simp only [List.cons_append, codeAmong] at h ⊢
    split at h
    · rename_i hc; rw [if_pos hc]; exact h
    · rename_i hc; rw [if_neg hc]; exact ih ht h
  | case3 => exact ht.elim
theorem makeF {M : Model} {name qual : Str} {params : Arguments} {body : List Stmt} {scope : Scope} {c P : Addr} {ps : Array Value} {pos : Pos} {firstLine : Nat} {mg : Str → Option Value} {clos : List (Str × Addr)} {Q : Value → Shared → Prop}
    (hcl : closureFor scope env = pure clos) (hge0 : env.globals = mainGlobals) (hg : s.heap.Ns mainGlobals mg) (hcode : env.code = .ref c) (C : CodeHd s.heap c P) (hP : s.heap.get? P = some (tabObj ps)) (ht : TriplesOk ps.toList)
    (hnf : codeAmong pos ps.toList = none) (hgP : mainGlobals ≠ P) (hb : s.heap.BuiltinsAt mg P)
    (h : ∀ c' ctv doc h' tk, Heap.ExtBut P s.heap h' → h'.CodeRec (.ref c') qual → (∃ oc vs, h'.get? c' = some oc ∧ oc.cls = .type "code" ∧ oc.data = .fields vs) → h'.get? P = some (tabObj (ps ++ #[rawInt pos.line, rawInt pos.col, .ref c'])) →
      TriplesOk (ps ++ #[rawInt pos.line, rawInt pos.col, .ref c']).toList →
      Q (.ref h'.objs.size) { s with heap := h'.push (fnMade name qual params body scope clos doc ((mg "__name__").getD .none) c' ctv), toks := tk }) :
    wpAny M A (makeFunction name qual params (.stmts body) scope env [] [] [] pos firstLine) Q Er s := by
  obtain ⟨bm, ob, hbm, hne0, _, hneP, hbo, hcls, hdict, hdata⟩ := hb
  rw [makeFunction_eq]
  simp only [List.zip_nil_right, List.filterMap_nil, List.isEmpty_nil, if_true, pure_bind]
  unfold makeTail
  rw [hcl, hge0]
  refine wpAny_bind (wpAny_pure ?_)
  -- what follows when the tuple of the cells stands
  have rest : ∀ (clT : Value) (h1 : Heap), (∀ b o, s.heap.get? b = some o → h1.get? b = some o) →
      wpAny M A (functionCode env pos firstLine name qual params scope (.stmts body) >>= fun cv => builtinsFor mainGlobals env.builtins >>= fun bi => nsGet mainGlobals "__name__" >>= fun nm =>
        (match docOf body with | some s => mkText s | none => pure .none : Sem Value) >>= fun doc => newObj (.type "function") (.func { name, qualname := qual, params, body := .stmts body, scope, globals := mainGlobals, closure := clos, closureTuple := clT, code := cv, builtins := bi, defaults := .none, kwdefaults := .none, annotations := none, pyModule := nm.getD .none, doc })) Q Er { s with heap := h1 } := by
    intro clT h1 k
    refine wpAny_bind (wpAny_functionCodeX (s := { s with heap := h1 }) hcode ((C.keeps k).code (k _ _ hP) ht) ((C.keeps k).tab (k _ _ hP)) hnf fun c' h' tk hx hge hlt hok hrec htb hnew => ?_)
    have hxs : Heap.ExtBut P s.heap h' := fun b o hb' e => hx b o hb' (k _ _ e)
    have hg' := hg.extBut hxs hgP
    obtain ⟨P', _, hcode', ⟨⟨oc, vs, g1, g2, g3, g4⟩, _⟩⟩ := hnew
    obtain ⟨o9, vs9, file, tf, flags, tg, inF, text, tt, op, f1, f2, f3, f4, f5, f6, f7, f8, f9, f10, f11⟩ := hok
    have htr : TriplesOk (ps ++ #[rawInt pos.line, rawInt pos.col, .ref c']).toList := f10
    refine wpAny_bind (wpAny_builtinsFor hg' hbm hne0 (hxs _ _ hneP hbo) hcls hdict hdata ?_)
    refine wpAny_bind (wpAny_nsGet hg' ?_)
    cases hdoc : docOf body with
    | none => exact wpAny_bind (wpAny_pure (wpAny_newObj_type (h c' clT .none h' tk hxs hrec ⟨oc, vs, g1, g2, g3⟩ htb.2 htr) (by size_fits)))
    | some t => exact wpAny_bind (wpAny_mkText (wpAny_newObj_type (h c' clT _ h' _ hxs hrec ⟨oc, vs, g1, g2, g3⟩ htb.2 htr) (by size_fits)))
  cases clos with
  | nil =>
    simp only [List.isEmpty_nil, if_true]
    refine wpAny_bind (wpAny_pure ?_)
    exact rest .none s.heap fun _ _ e => e
  | cons q r =>
    simp only [List.isEmpty_cons, Bool.false_eq_true, if_false]
    refine wpAny_bind (wpAny_newTextTuple ?_)
    exact rest _ _ fun b o e => Heap.get?_push_of_some _ e

theorem annotationsOf_none : ∀ {as : List Arg} {e : Env}, as.all (fun a => a.annotation.isNone) = true → annotationsOf as e = []
  | [], _, _ => rfl
  | ⟨n, none, p⟩ :: as, e, h => by
    show annotationsOf as e = []
    exact annotationsOf_none (by simpa using h)
  | ⟨n, some t, p⟩ :: as, e, h => by simp at h
theorem annTrees_none {ps : Arguments} {e : Env} (h : plainPs ps = true) : annTrees ps none e = [] := by
  unfold plainPs at h
  obtain ⟨po, a, va, ko, kd, kwa, df⟩ := ps
  simp only [Bool.and_eq_true, List.isEmpty_iff, Option.isNone_iff_eq_none] at h
  obtain ⟨⟨⟨⟨h1, h2⟩, h3⟩, h4⟩, h5⟩ := h
  subst h1 h2 h3 h4
  show annotationsOf (a ++ [] ++ (none : Option Arg).toList ++ [] ++ (none : Option Arg).toList) e ++ [] = []
  have q : a ++ [] ++ (none : Option Arg).toList ++ [] ++ (none : Option Arg).toList = a := by simp
  rw [q, annotationsOf_none h5]
  rfl
theorem prim_def {x : Str} {ps : Arguments} {a : S} {sc : Scope} {p : Pos} {cs : List (Str × Nat)} {Q : Flow → Shared → Prop} (K : GOK G) (C : Cx G F A env) (S : St G F env loc ρ H s) (ht : F.tab = true) (h1 : ps.defaults = []) (h2 : ps.kw_defaults = [])
    (hpl : plainPs ps = true) (hdef : G.T.defs p.line p.col = some x)
    (hc : freeCells F sc.names [] = some cs) (hs : storeM F loc H x (.clo ps a sc cs) = some (loc', H'))
    (h : ∀ ρ' s', Ext G (XL env) ρ H s.heap ρ' H' s'.heap → St G F env loc' ρ' H' s' → Q .next s') : wpAny (Mo G) A (exec (.FunctionDef x ps (upS a).l [] none [] sc none x p) env) Q Er s := by
  obtain ⟨c, P, hcode, hq, hqual⟩ := C.code ht
  obtain ⟨clos, hclR, hclos⟩ := sim_closure S.fd hc
  obtain ⟨mg, mb, g1, g2, gB, _⟩ := K.glob
  obtain ⟨tps, gP, gT, gF⟩ := S.rel.tabs _ hq
  have hgs : s.heap.Ns mainGlobals mg := g1.keeps S.rel.base
  obtain ⟨hCd, hPn⟩ := K.code _ hq
  have hCd' := hCd.keeps S.rel.base
  have hgP : mainGlobals ≠ P := fun q => by
    obtain ⟨o, es, ep, e, hd, _⟩ := hgs
    rw [q, gP] at e; cases e; cases hd
  have hB : s.heap.BuiltinsAt mg P := by
    obtain ⟨bm, o, b1, b2, b3, b4, b5, b6⟩ := gB _ hq
    exact ⟨bm, o, b1, b2, b3, b4, S.rel.base _ _ b5, b6⟩
  have hqn : qualnameIn env x x = G.tqual c ++ x := by
    unfold qualnameIn
    rw [hqual]
    have : (env.kindOf x == some .globalExplicit) = false := by
      have hn := C.names x
      unfold storeM at hs
      split at hs
      · rename_i hk; rw [hk] at hn; rcases hn with e | ⟨e, _⟩
        · rw [← e]; rfl
        · cases e
      · rename_i hk; rw [hk] at hn; rcases hn with e | ⟨e, _⟩
        · rw [← e]; rfl
        · cases e
      · cases hs
    rw [this]; rfl
  refine nestDef_K h1 h2 (annTrees_none hpl) ?_
  rw [hqn]
  cases hf : codeAmong p tps.toList with
  | some cv =>
    obtain ⟨c', oc, x', e1, e2, e3, e4, e5⟩ := gF p cv hf
    rw [hdef] at e4
    cases e4
    refine makeFunction_hit hclos C.glob hgs hcode hCd' gP gT hf hB fun ctv doc h' tk hk hsz => ?_
    have k : Keeps s.heap (h'.push { cls := .type "function", data := .func (fnX x (G.tqual c ++ x) ps (upS a).l sc clos .none .none doc ((mg "__name__").getD .none) none cv ctv) }) := fun b o e => Heap.get?_push_of_some _ (hk b o e)
    have E1 := S.rel.extKeeps (X := NoX) k
    have R1 := S.rel.keeps k tk
    have V : VR G ρ (h'.push { cls := .type "function", data := .func (fnX x (G.tqual c ++ x) ps (upS a).l sc clos .none .none doc ((mg "__name__").getD .none) none cv ctv) }) (.clo ps a sc cs) (.ref h'.objs.size) := .clo (Heap.get?_push_size _ rfl) rfl rfl hclR (e5.keeps k) fun c2 hc2 => by
      rw [e1] at hc2; cases hc2; exact ⟨oc, k _ _ e2, e3⟩
    refine sim_store C (S.ext (s' := { s with heap := _, toks := tk }) E1 R1) V hs fun s2 E2 S2 => h _ _ (E1.toX.trans' E2) S2
  | none =>
    refine makeF hclos C.glob hgs hcode hCd' gP gT hf hgP hB fun c' ctv doc h' tk hx hrec hoc htb htr => ?_
    obtain ⟨oc, vs, o1, o2, o3⟩ := hoc
    have hfz : frozen oc = true := by unfold frozen; rw [o3]; simp [o2]
    have hTR : TabR G h' (c, P) := by
      refine ⟨_, htb, htr, fun pos cv hcv => ?_⟩
      by_cases hpos : pos.line = p.line ∧ pos.col = p.col
      · have : codeAmong pos (tps ++ #[rawInt p.line, rawInt p.col, .ref c']).toList = codeAmong p (tps ++ #[rawInt p.line, rawInt p.col, .ref c']).toList := codeAmong_pos _ hpos.1 hpos.2
        rw [this] at hcv
        have e := codeAmong_snoc (pos := p) (c := Value.ref c') tps.toList gT hf
        simp only [Array.toList_append] at hcv
        rw [e] at hcv
        cases hcv
        exact ⟨c', oc, x, rfl, o1, hfz, by rw [hpos.1, hpos.2]; exact hdef, hrec⟩
      · have : codeAmong pos tps.toList = some cv := by
          simp only [Array.toList_append] at hcv
          exact codeAmong_old gT hpos hcv
        obtain ⟨c2, oc2, x2, e1, e2, e3, e4, e5⟩ := gF pos cv this
        have hne : ∀ b o, s.heap.get? b = some o → frozen o = true → b ≠ P := fun b o e f z => by subst z; rw [gP] at e; cases e; cases f
        refine ⟨c2, oc2, x2, e1, hx _ _ (hne _ _ e2 e3) e2, e3, e4, ?_⟩
        obtain ⟨c3, o3', vs3, t3, q1, q2, q3⟩ := e5
        rw [e1] at q1; cases q1
        rw [e2] at q2; cases q2
        exact ⟨c2, oc2, vs3, t3, e1, hx _ _ (hne _ _ e2 e3) e2, q3⟩
    obtain ⟨R1, E1⟩ := S.rel.table hq K.tnd (fun q hq => (K.code q hq).2) hx hTR tk
    have k : Keeps h' (h'.push (fnMade x (G.tqual c ++ x) ps (upS a).l sc clos doc ((mg "__name__").getD .none) c' ctv)) := Keeps.push _ _
    have E2 := R1.extKeeps (X := NoX) k
    have R2 := R1.keeps k tk
    have V : VR G ρ (h'.push (fnMade x (G.tqual c ++ x) ps (upS a).l sc clos doc ((mg "__name__").getD .none) c' ctv)) (.clo ps a sc cs) (.ref h'.objs.size) := .clo (Heap.get?_push_size _ rfl) rfl rfl hclR (hrec.keeps k) fun c2 hc2 => by
      cases hc2; exact ⟨oc, k _ _ o1, hfz⟩
    refine sim_store C (S.ext (s' := { s with heap := _, toks := tk }) (E1.trans' E2) R2) V hs fun s2 E3 S2 => h _ _ ((E1.trans' E2).toX.trans' E3) S2

theorem ss_def (K : GOK G) (x : Str) (ps : Arguments) (a : S) (sc : Scope) (b : Str) (p : Pos) : PS G r (.def_ x ps a sc b p) := by
  intro F A env loc ρ H s out Q Er C S hi h
  change interp r (if !F.tab || !ps.defaults.isEmpty || !ps.kw_defaults.isEmpty || x != b || !plainPs ps || G.T.defs p.line p.col != some x then .fail else (Prog.opt (freeCells F sc.names [])).bind fun cs => (Prog.opt (storeM F loc H b (.clo ps a sc cs))).bind fun d => .ret (⟨.next, d.1, d.2⟩ : Out)) = _ at hi
  split at hi
  · cases hi
  rename_i hc
  simp only [Bool.or_eq_true, Bool.not_eq_true', Bool.not_eq_false, not_or, List.isEmpty_eq_false_iff, ne_eq, Decidable.not_not, Bool.not_eq_true, bne_iff_ne] at hc
  obtain ⟨cs, h1, hi⟩ := interp_bind_some hi
  obtain ⟨⟨loc', H2⟩, h2, hi⟩ := interp_bind_some hi
  have hi := interp_ret hi; have h1 := interp_opt h1; have h2 := interp_opt h2
  cases hi
  obtain ⟨⟨⟨⟨⟨c1, c2⟩, c3⟩, c4⟩, c5⟩, c6⟩ := hc
  subst c4
  exact prim_def K C S (by simpa using c1) (by simpa using c2) (by simpa using c3) (by simpa using c5) (by simpa using c6) h1 h2 fun ρ1 s1 E1 S1 => h _ _ _ E1 S1 .next

theorem ss_aug (K : GOK G) (TK : TaskOK G r) (x : Str) (np : Pos) (op : Operator) (v : E) (p : Pos) : PS G r (.aug x np op v p) := by
  intro F A env loc ρ H s out Q Er C S hi h
  obtain ⟨a, h1, hi⟩ := interp_bind_some hi
  obtain ⟨⟨b, H1⟩, h2, hi⟩ := interp_bind_some hi
  obtain ⟨⟨c, H2⟩, h3, hi⟩ := interp_bind_some hi
  obtain ⟨⟨loc', H3⟩, h4, hi⟩ := interp_bind_some hi
  have hi := interp_ret hi; have h1 := interp_opt h1; have h3 := interp_opt h3; have h4 := interp_opt h4
  cases hi
  refine wpAny_AugAssign_Name (sim_load K C S h1 fun a' V1 => (simD K TK v).v C S h2 fun b' ρ2 s2 E2 S2 V2 => ?_)
  refine prim_aug K C.ar C.d S2.rel (V1.mono E2) V2 h3 fun c' ρ3 s3 E3 R3 V3 => ?_
  exact sim_store C (S2.ext E3 R3) V3 h4 fun s4 E4 S4 => h _ _ _ ((E2.trans' E3).toX.trans' E4) S4 .next

theorem cxl {env : Env} {X : Addr → Prop} {h h' : Heap} (x : Ext G NoX ρ H h ρ' H' h') : Ext G X ρ H h ρ' H' h' := x.toX

theorem ss_whl (K : GOK G) (TK : TaskOK G r) (t : E) (a : S) (p : Pos) : PS G r (.whl t a p) := by
  intro F A env loc ρ H s out Q Er C S hi h
  change interp r (.call (.whl t a F loc H) .ret) = _ at hi
  simp only [interp] at hi
  cases ho : r (.whl t a F loc H) with
  | none => rw [ho] at hi; cases hi
  | some o =>
    rw [ho] at hi
    cases hi
    exact wpAny_While (TK.whl ho C S h)

theorem ss_for (K : GOK G) (TK : TaskOK G r) (t it : E) (a : S) (p : Pos) : PS G r (.for_ t it a p) := by
  intro F A env loc ρ H s out Q Er C S hi h
  obtain ⟨⟨x, H1⟩, h1, hi⟩ := interp_bind_some hi
  obtain ⟨i, h2, hi⟩ := interp_bind_some hi
  have h2 := interp_opt h2
  dsimp only at h2 hi
  simp only [interp] at hi
  cases ho : r (.for_ t i a F loc H1) with
  | none => rw [ho] at hi; cases hi
  | some o =>
    rw [ho] at hi
    cases hi
    show wpAny _ _ (standAt p >>= fun _ => eval (upU it).e env >>= fun x => foldedSetIterable (upU it).e env x >>= fun x => standAt (upU it).e.pos >>= fun _ => holding [x] (pyIter x) >>= fun i => runOwn (.forLoop (upU t).e i (upS a).l [] env) env) _ _ _
    refine wpAny_bind (wpAny_standAt (wpAny_bind ((simD K TK it).v C S h1 fun x' ρ1 s1 E1 S1 V1 => ?_)))
    rw [notSet_v h1]
    refine wpAny_bind (wpAny_pure (wpAny_bind (wpAny_standAt (wpAny_bind (wpAny_holding ?_)))))
    refine prim_iter K C.ar C.d S1.rel V1 h2 fun b s2 E2 R2 I2 hb => ?_
    obtain ⟨f1, f2, f3⟩ := S1.rel.fresh hb
    have S2 := S1.ext E2 R2
    have hbL : b ≠ env.locals := fun q => by
      obtain ⟨m, ⟨o, _, _, g, _⟩, _⟩ := S1.fd.ns
      rw [← q, hb] at g; cases g
    refine wpAny_runOwn ?_
    refine TK.for_ ho C S2 I2 f1 f2 f3 hbL fun fl ρ3 s3 E3 S3 F3 => h fl ρ3 s3 ?_ S3 F3
    refine (E1.trans' E2).toX.trans E3 fun c oc g q => ?_
    rcases q with q | q
    · exact q
    · exfalso
      obtain ⟨o', g'⟩ := E1.dom c oc g (fun q => q)
      rw [q, hb] at g'; cases g'

theorem ss_ife (K : GOK G) (TK : TaskOK G r) {a b : S} (t : E) (p : Pos) (ha : PSs G r a) (hb : PSs G r b) : PS G r (.ife t a b p) := by
  intro F A env loc ρ H s out Q Er C S hi h
  obtain ⟨⟨c, H1⟩, h1, hi⟩ := interp_bind_some hi
  refine wpAny_If ((simD K TK t).t C S h1 fun ρ1 s1 E1 S1 => ?_)
  cases c with
  | true => exact ha C S1 hi fun fl ρ2 s2 E2 S2 F2 => h _ _ _ (E1.toX.trans' E2) S2 F2
  | false => exact hb C S1 hi fun fl ρ2 s2 E2 S2 F2 => h _ _ _ (E1.toX.trans' E2) S2 F2

theorem ss_nil : PSs G r .nil := by
  intro F A env loc ρ H s out Q Er C S hi h
  have hi := interp_ret hi
  cases hi
  exact wpAny_execs_nil (h _ _ _ Ext.refl S .next)

theorem ss_cons {a q : S} (ha : PS G r a) (hq : PSs G r q) : PSs G r (.cons a q) := by
  intro F A env loc ρ H s out Q Er C S hi h
  obtain ⟨o, h1, hi⟩ := interp_bind_some hi
  refine wpAny_execs_cons (ha C S h1 fun fl ρ1 s1 E1 S1 F1 => ?_)
  cases hf : o.f with
  | next =>
    rw [hf] at F1 hi
    cases F1
    exact hq C S1 hi fun fl ρ2 s2 E2 S2 F2 => h _ _ _ (E1.trans' E2) S2 F2
  | brk => rw [hf] at F1 hi; have hi := interp_ret hi; cases hi; cases F1; exact h _ _ _ E1 S1 (by rw [hf]; exact .brk)
  | cont => rw [hf] at F1 hi; have hi := interp_ret hi; cases hi; cases F1; exact h _ _ _ E1 S1 (by rw [hf]; exact .cont)
  | ret v => rw [hf] at F1 hi; have hi := interp_ret hi; cases hi; cases F1 with | ret V => exact h _ _ _ E1 S1 (by rw [hf]; exact .ret V)

theorem ss_try (K : GOK G) {a o f : S} (hs : List ExceptHandler) (p : Pos) (ha : PSs G r a) (ho : PSs G r o) (hf : PSs G r f) : PS G r (.try_ a hs o f p) := by
  intro F A env loc ρ H s out Q Er C S hi h
  obtain ⟨q1, h1, hi⟩ := interp_bind_some hi
  obtain ⟨q, h2, hi⟩ := interp_bind_some hi
  show wpAny _ _ (standAt p >>= fun _ => tryStmt false (execs (upS a).l env) hs (execs (upS o).l env) (upS f).l env) _ _ _
  refine wpAny_bind (wpAny_standAt ?_)
  unfold tryStmt
  dsimp only
  have main : ∀ {Q' : Flow → Shared → Prop} {Er' : Value → Shared → Prop} {k : Value → Sem Flow}, (∀ fl ρ' s', Ext G (XL env) ρ H s.heap ρ' q.H s'.heap → St G F env q.loc ρ' q.H s' → FlR G ρ' s'.heap q.f fl → Q' fl s') →
      wpAny (Mo G) A ((execs (upS a).l env).attempt >>= fun x => match x with | .ok .next => execs (upS o).l env | .ok f => pure f | .error e => k e) Q' Er' s := by
    intro Q' Er' k h'
    refine wpAny_bind (wpAny_attempt (ha C S h1 fun fl ρ1 s1 E1 S1 F1 => ?_))
    cases hf1 : q1.f with
    | next =>
      rw [hf1] at F1 h2
      cases F1
      exact ho C S1 h2 fun fl ρ2 s2 E2 S2 F2 => h' _ _ _ (E1.trans' E2) S2 F2
    | brk => rw [hf1] at F1 h2; have h2 := interp_ret h2; cases h2; cases F1; exact wpAny_pure (h' _ _ _ E1 S1 (by rw [hf1]; exact .brk))
    | cont => rw [hf1] at F1 h2; have h2 := interp_ret h2; cases h2; cases F1; exact wpAny_pure (h' _ _ _ E1 S1 (by rw [hf1]; exact .cont))
    | ret v => rw [hf1] at F1 h2; have h2 := interp_ret h2; cases h2; cases F1 with | ret V => exact wpAny_pure (h' _ _ _ E1 S1 (by rw [hf1]; exact .ret V))
  cases f with
  | nil =>
    have hi := interp_ret hi
    cases hi
    refine wpAny_ite ?_
    rw [if_pos (show ((upS Mine.S.nil).l.isEmpty = true) from rfl)]
    exact main h
  | cons c d =>
    dsimp only at hi
    obtain ⟨q2, h3, hi⟩ := interp_bind_some hi
    refine wpAny_ite ?_
    rw [if_neg (show ¬ ((upS (Mine.S.cons c d)).l.isEmpty = true) from Bool.false_ne_true)]
    refine wpAny_bind (wpAny_attempt (main fun fl ρ1 s1 E1 S1 F1 => ?_))
    cases hf2 : q2.f with
    | next =>
      rw [hf2] at hi
      have hi := interp_ret hi
      cases hi
      dsimp only at h ⊢
      refine wpAny_bind (wpAny_holding (wpAny_runOwn ?_))
      refine codeAny_of_tree ?_
      show wpAny _ A ((execs (upS (.cons c d)).l env).onRaise (fun x => do noteFrame x env; theTreesLotGoes x) >>= fun f => pure (Fin.done f)) _ _ s1
      refine wpAny_bind (wpAny_onRaise (wpAny_mono (hf C S1 h3 (Er := fun _ _ => False) (Q := fun fl s' => fl = .next ∧ ∃ ρ2, Ext G (XL env) ρ1 q.H s1.heap ρ2 q2.H s'.heap ∧ St G F env q2.loc ρ2 q2.H s') fun fl ρ2 s2 E2 S2 F2 => ?_) (fun fl s2 h2' => ?_) fun _ _ x => x.elim))
      · rw [hf2] at F2; cases F2; exact ⟨rfl, ρ2, E2, S2⟩
      · obtain ⟨rfl, ρ2, E2, S2⟩ := h2'
        refine wpAny_pure ?_
        exact wpAny_pure (h _ _ _ (E1.trans' E2) S2 (F1.mono E2))
    | _ => rw [hf2] at hi; cases hi
  | _ => cases hi

theorem noSs {a : S} (h : ∀ F loc H, (denS G.T F a).l loc H = .fail) : PSs G r a := by
  intro F A env loc ρ H s out Q Er C S hi; rw [h] at hi; cases hi
theorem noS1 {a : S} (h : ∀ F loc H, (denS G.T F a).s loc H = .fail) : PS G r a := by
  intro F A env loc ρ H s out Q Er C S hi; rw [h] at hi; cases hi

/-- every statement -/
theorem simS (K : GOK G) (TK : TaskOK G r) : ∀ a : S, PS G r a ∧ PSs G r a := by
  intro a
  induction a with
  | nil => exact ⟨noS1 fun _ _ _ => rfl, ss_nil⟩
  | cons a q h1 h2 => exact ⟨noS1 fun _ _ _ => rfl, ss_cons h1.1 h2.2⟩
  | expr e p => exact ⟨ss_expr K TK e p, noSs fun _ _ _ => rfl⟩
  | ret e p => exact ⟨ss_ret K TK e p, noSs fun _ _ _ => rfl⟩
  | asg t v p => exact ⟨ss_asg K TK t v p, noSs fun _ _ _ => rfl⟩
  | aug x np op v p => exact ⟨ss_aug K TK x np op v p, noSs fun _ _ _ => rfl⟩
  | ife t a b p h1 h2 => exact ⟨ss_ife K TK t p h1.2 h2.2, noSs fun _ _ _ => rfl⟩
  | whl t a p h => exact ⟨ss_whl K TK t a p, noSs fun _ _ _ => rfl⟩
  | for_ t it a p h => exact ⟨ss_for K TK t it a p, noSs fun _ _ _ => rfl⟩
  | try_ a hs o f p h1 h2 h3 => exact ⟨ss_try K hs p h1.2 h2.2 h3.2, noSs fun _ _ _ => rfl⟩
  | brk p =>
    refine ⟨?_, noSs fun _ _ _ => rfl⟩
    intro F A env loc ρ H s out Q Er C S hi h
    have hi := interp_ret hi; cases hi
    exact wpAny_bind (m := standAt p) (f := fun _ => pure Flow.brk) (wpAny_standAt (wpAny_pure (h _ _ _ Ext.refl S .brk)))
  | cont p =>
    refine ⟨?_, noSs fun _ _ _ => rfl⟩
    intro F A env loc ρ H s out Q Er C S hi h
    have hi := interp_ret hi; cases hi
    exact wpAny_bind (m := standAt p) (f := fun _ => pure Flow.cont) (wpAny_standAt (wpAny_pure (h _ _ _ Ext.refl S .cont)))
  | pass p =>
    refine ⟨?_, noSs fun _ _ _ => rfl⟩
    intro F A env loc ρ H s out Q Er C S hi h
    have hi := interp_ret hi; cases hi
    exact wpAny_bind (m := standAt p) (f := fun _ => pure Flow.next) (wpAny_standAt (wpAny_pure (h _ _ _ Ext.refl S .next)))
  | def_ x ps a sc b p h => exact ⟨ss_def K x ps a sc b p, noSs fun _ _ _ => rfl⟩
  | raw s => exact ⟨noS1 fun _ _ _ => rfl, noSs fun _ _ _ => rfl⟩
end
end Mine

end
section
open PySem PySem.W PySem.Calls PyProof.Rows
set_option autoImplicit false
namespace Mine
section
variable {G : Gx} {ρ : Rho} {h : Heap}

theorem KVR.nil : KVR G ρ h [] [] := ⟨rfl, VRs.nil⟩
theorem KVR.cons {k : Str} {v : V} {w : Value} {ks : List (Str × V)} {ws : List (Str × Value)} (a : VR G ρ h v w) (b : KVR G ρ h ks ws) : KVR G ρ h ((k, v) :: ks) ((k, w) :: ws) :=
  ⟨by simp [b.1], VRs.cons a b.2⟩
theorem KVR.cons_inv {k : Str} {v : V} {ks : List (Str × V)} {ws : List (Str × Value)} (a : KVR G ρ h ((k, v) :: ks) ws) : ∃ w ws', ws = (k, w) :: ws' ∧ VR G ρ h v w ∧ KVR G ρ h ks ws' := by
  cases ws with
  | nil => have := a.1; simp at this
  | cons p ws' =>
    obtain ⟨k', w⟩ := p
    have h1 := a.1
    simp only [List.map_cons, List.cons.injEq] at h1
    obtain ⟨w', ws'', e, v1, v2⟩ := a.2.cons_inv
    simp only [List.map_cons, List.cons.injEq] at e
    obtain ⟨rfl, rfl⟩ := e
    exact ⟨w, ws', by rw [h1.1], v1, h1.2, v2⟩
theorem KVR.nil_inv {ws : List (Str × Value)} (a : KVR G ρ h [] ws) : ws = [] := by
  cases ws with
  | nil => rfl
  | cons p ws' => have := a.1; simp at this
theorem KVR.append {ks ks' : List (Str × V)} {ws ws' : List (Str × Value)} (a : KVR G ρ h ks ws) (b : KVR G ρ h ks' ws') : KVR G ρ h (ks ++ ks') (ws ++ ws') :=
  ⟨by simp [a.1, b.1], by simpa using a.2.append b.2⟩
theorem KVR.lookup {ks : List (Str × V)} {ws : List (Str × Value)} (a : KVR G ρ h ks ws) (n : Str) : (ks.lookup n = none ∧ ws.lookup n = none) ∨ ∃ v w, ks.lookup n = some v ∧ ws.lookup n = some w ∧ VR G ρ h v w := by
  induction ks generalizing ws with
  | nil => rw [a.nil_inv]; exact .inl ⟨rfl, rfl⟩
  | cons p ks ih =>
    obtain ⟨k, v⟩ := p
    obtain ⟨w, ws', rfl, v1, v2⟩ := a.cons_inv
    simp only [List.lookup_cons]
    cases n == k with
    | true => exact .inr ⟨v, w, rfl, rfl, v1⟩
    | false => exact ih v2
theorem KVR.isNone {ks : List (Str × V)} {ws : List (Str × Value)} (a : KVR G ρ h ks ws) (n : Str) : (ks.lookup n).isNone = (ws.lookup n).isNone := by
  rcases a.lookup n with ⟨e, e'⟩ | ⟨v, w, e, e', _⟩ <;> rw [e, e'] <;> rfl
theorem KVR.zip {names : List Str} {vs : List V} {ws : List Value} (a : VRs G ρ h vs ws) : KVR G ρ h (names.zip vs) (names.zip ws) := by
  induction names generalizing vs ws with
  | nil => exact KVR.nil
  | cons n names ih =>
    cases vs with
    | nil => rw [a.nil_inv]; exact KVR.nil
    | cons v vs =>
      obtain ⟨w, ws', rfl, v1, v2⟩ := a.cons_inv
      exact KVR.cons v1 (ih v2)
theorem addKw_rel {names : List Str} {ks sl r : List (Str × V)} {ws sl' : List (Str × Value)} (a : KVR G ρ h ks ws) (b : KVR G ρ h sl sl') (e : addKw names sl ks = some r) : ∃ r', addKw names sl' ws = some r' ∧ KVR G ρ h r r' := by
  induction ks generalizing ws sl sl' with
  | nil => rw [a.nil_inv]; cases e; exact ⟨sl', rfl, b⟩
  | cons p ks ih =>
    obtain ⟨k, v⟩ := p
    obtain ⟨w, ws', rfl, v1, v2⟩ := a.cons_inv
    unfold addKw at e ⊢
    rw [← b.isNone]
    split at e
    · rename_i hc
      rw [if_pos hc]
      exact ih v2 (b.append (KVR.cons v1 KVR.nil)) e
    · cases e
theorem addDf_rel {ks sl : List (Str × V)} {ws sl' : List (Str × Value)} (a : KVR G ρ h ks ws) (b : KVR G ρ h sl sl') : KVR G ρ h (addDf sl ks) (addDf sl' ws) := by
  induction ks generalizing ws sl sl' with
  | nil => rw [a.nil_inv]; exact b
  | cons p ks ih =>
    obtain ⟨k, v⟩ := p
    obtain ⟨w, ws', rfl, v1, v2⟩ := a.cons_inv
    unfold addDf
    rw [← b.isNone]
    cases (sl.lookup k).isNone with
    | true => exact ih v2 (b.append (KVR.cons v1 KVR.nil))
    | false => exact ih v2 b
theorem pick_rel {names : List Str} {sl : List (Str × V)} {sl' : List (Str × Value)} (b : KVR G ρ h sl sl') :
    KVR G ρ h (names.filterMap fun n => (sl.lookup n).map (n, ·)) (names.filterMap fun n => (sl'.lookup n).map (n, ·)) := by
  induction names with
  | nil => exact KVR.nil
  | cons n names ih =>
    simp only [List.filterMap_cons]
    rcases b.lookup n with ⟨e, e'⟩ | ⟨v, w, e, e', hV⟩
    · rw [e, e']; exact ih
    · rw [e, e']; exact KVR.cons hV ih
theorem bindP_rel {names : List Str} {df args : List V} {df' args' : List Value} {ks r : List (Str × V)} {ws : List (Str × Value)} (hd : VRs G ρ h df df') (ha : VRs G ρ h args args') (hk : KVR G ρ h ks ws)
    (e : bindP names df args ks = some r) : ∃ r', bindP names df' args' ws = some r' ∧ KVR G ρ h r r' := by
  unfold bindP at e ⊢
  rw [← ha.1, ← hd.1]
  split at e
  · cases e
  rename_i hlen
  rw [if_neg hlen]
  split at e
  · cases e
  · rename_i sl hsl
    obtain ⟨sl', h1, h2⟩ := addKw_rel hk (KVR.zip (names := names) ha) hsl
    rw [h1]
    have hdr := hd.drop (df.length - names.length)
    dsimp only
    rw [← hdr.1]
    have hfil : (List.filter (fun n => (sl'.lookup n).isNone) (names.take (names.length - (df.drop (df.length - names.length)).length))) = (List.filter (fun n => (sl.lookup n).isNone) (names.take (names.length - (df.drop (df.length - names.length)).length))) := by
      congr 1; funext n; exact (h2.isNone n).symm
    rw [hfil]
    split at e
    · rename_i hm
      rw [if_pos hm]
      cases e
      exact ⟨_, rfl, pick_rel (addDf_rel (KVR.zip hdr) h2)⟩
    · cases e
end

/-- the model's own binding -/
theorem bindArgs_P {M : Model} {A : Around} {Er : Value → Shared → Prop} {s : Shared} {fd : FuncData} {args : List Value} {kws r : List (Str × Value)} {df : List Value} {Q : List (Str × Value) → Shared → Prop}
    (h1 : fd.params.posonlyargs = []) (h2 : fd.params.kwonlyargs = []) (h3 : fd.params.vararg = none) (h4 : fd.params.kwarg = none)
    (hd : (df = [] ∧ fd.defaults = .none) ∨ ∃ T o n, fd.defaults = .ref T ∧ s.heap.get? T = some o ∧ o.data = .seq df.toArray n)
    (e : bindP (fd.params.args.map (·.arg)) df args kws = some r) (h : Q r s) : wpAny M A (bindArgs fd ⟨args, kws⟩) Q Er s := by
  unfold bindArgs
  simp only [h1, h2, h3, h4, List.map_nil, List.nil_append, List.append_nil]
  unfold bindP at e
  split at e
  · cases e
  rename_i hlen
  split at e
  · cases e
  rename_i sl hsl
  split at e
  rotate_left
  · cases e
  rename_i hmiss
  refine wpAny_bind (wpAny_forIn_list _ (fun rest (st : List (Str × Value) × List (Str × Value)) s' => s' = s ∧ addKw (fd.params.args.map (·.arg)) st.1 rest = some sl ∧ st.2 = []) _ ?turn ?fin kws _ ⟨rfl, hsl, rfl⟩)
  case turn =>
    rintro ⟨k, v⟩ rest ⟨a, b⟩ s' ⟨rfl, ha, hb⟩
    unfold addKw at ha
    split at ha
    · rename_i hc
      simp only [Bool.and_eq_true] at hc
      rw [if_pos (by rw [hc.1]; rfl), if_neg (by have := hc.2; simp only [Option.isNone_iff_eq_none] at this; rw [this]; simp)]
      exact wpAny_pure ⟨rfl, ha, hb⟩
    · cases ha
  case fin =>
    rintro ⟨a, b⟩ s' ⟨rfl, ha, hb⟩
    cases ha
    dsimp only at hb ⊢
    have hq : wpAny M A (seqItems? fd.defaults) (fun d s2 => s2 = s' ∧ (d.getD #[]).toList = df) Er s' := by
      rcases hd with ⟨rfl, hn⟩ | ⟨T, o, n, hT, ho, hdat⟩
      · rw [hn]
        exact wpAny_pure (a := (none : Option (Array Value))) ⟨rfl, rfl⟩
      · rw [hT]
        exact wpAny_seqItems ho hdat ⟨rfl, by simp⟩
    refine wpAny_bind (wpAny_mono hq (fun d s2 hd2 => ?_) fun _ _ x => x)
    obtain ⟨rfl, hdf⟩ := hd2
    rw [hdf]
    rw [if_neg (by simp at hlen ⊢; omega)]
    rw [if_neg (by rw [hmiss]; simp)]
    cases e
    refine wpAny_bind (wpAny_forIn_list _ (fun rest (st : List (Str × Value)) s3 => s3 = s2 ∧ addDf st rest = addDf a ((List.drop ((fd.params.args.map (·.arg)).length - (List.drop (df.length - (fd.params.args.map (·.arg)).length) df).length) (fd.params.args.map (·.arg))).zip (List.drop (df.length - (fd.params.args.map (·.arg)).length) df))) _ ?turn2 ?fin2 _ _ ⟨rfl, rfl⟩)
    case turn2 =>
      rintro ⟨k, v⟩ rest st s3 ⟨rfl, ha⟩
      dsimp only
      rw [show addDf st ((k, v) :: rest) = addDf (if (st.lookup k).isNone then st ++ [(k, v)] else st) rest from rfl] at ha
      refine wpAny_ite ?_
      split
      · rename_i hc; rw [if_pos hc] at ha; exact wpAny_pure ⟨rfl, ha⟩
      · rename_i hc; rw [if_neg hc] at ha; exact wpAny_pure ⟨rfl, ha⟩
    case fin2 =>
      rintro st s3 ⟨rfl, ha⟩
      have ha' : st = _ := ha
      rw [← ha'] at h
      rw [List.forIn_nil]
      refine wpAny_bind (wpAny_pure ?_)
      exact wpAny_pure h
end Mine

end
section
open PySem PySem.W PySem.Calls PyProof.Rows
set_option autoImplicit false
namespace Mine
section
variable {G : Gx} {r : Task → Option Out} {F : Fc} {A : Around} {env : Env} {loc loc' : Loc} {ρ ρ' : Rho} {H H' : Hp} {s s' : Shared} {Er : Value → Shared → Prop}

theorem nodupS_cons {x : Str} {l : List Str} (h : nodupS (x :: l) = true) : x ∉ l ∧ nodupS l = true := by
  have h' : (!l.contains x && nodupS l) = true := h
  rw [Bool.and_eq_true] at h'
  refine ⟨fun q => ?_, h'.2⟩
  have h1 := h'.1
  rw [List.contains_iff_mem.mpr q] at h1
  cases h1
theorem lookup_none_of {α : Type} {l : List (Str × α)} {x : Str} (h : x ∉ l.map (·.1)) : l.lookup x = none := by
  induction l with
  | nil => rfl
  | cons p l ih =>
    obtain ⟨k, v⟩ := p
    simp only [List.map_cons, List.mem_cons, not_or] at h
    rw [List.lookup_cons]
    have : (x == k) = false := by simpa using h.1
    rw [this]; exact ih h.2
theorem lookup_reverse {α : Type} {l : List (Str × α)} (h : nodupS (l.map (·.1)) = true) (x : Str) : l.reverse.lookup x = l.lookup x := by
  induction l with
  | nil => rfl
  | cons p l ih =>
    obtain ⟨k, v⟩ := p
    obtain ⟨h1, h2⟩ := nodupS_cons h
    rw [List.reverse_cons, List.lookup_append, ih h2, List.lookup_cons]
    by_cases e : x = k
    · subst e
      rw [lookup_none_of h1]
      simp [List.lookup_cons]
    · have : (x == k) = false := by simpa using e
      rw [List.lookup_cons, this]
      simp

theorem ext_keeps_tok {h' : Heap} {t : Nat} : True := trivial

/-- the body of a call, once the frame stands -/
theorem sim_body (K : GOK G) (TK : TaskOK G r) {body : S} {e : Ent} {out : Out} {f : Addr} {cdv : Value} {R : Result → Shared → Prop} {s₀ : Shared} {H₀ : Hp}
    (C : Cx G e.F (A.deeper env) env) (S : St G e.F env e.loc ρ' e.H s) (hi : interp r (runBody G.T body e) = some out)
    (E0 : Ext G NoX ρ H₀ s₀.heap ρ' e.H s.heap) (hL : ∀ c oc, s₀.heap.get? c = some oc → c ≠ env.locals)
    (h : ∀ v a ρ'' s'', out.f = .ret v → Ext G NoX ρ H₀ s₀.heap ρ'' out.H s''.heap → Rel G ρ'' out.H s'' → VR G ρ'' s''.heap v a → R (.ok (.ret a)) s'') :
    codeAny (Mo G) A (.func (upS body).l env) R s := by
  obtain ⟨o, h1, hi⟩ := interp_bind_some hi
  refine codeAny_func ?_
  refine (simS K TK body).2 C S h1 fun fl ρ2 s2 E2 S2 F2 => ?_
  have E02 : Ext G NoX ρ H₀ s₀.heap ρ2 o.H s2.heap := E0.trans E2 fun c oc g q => hL c oc g q
  cases hf : o.f with
  | ret v =>
    rw [hf] at hi F2
    have hi := interp_ret hi
    cases hi
    cases F2 with
    | ret V => exact h v _ ρ2 s2 rfl E02 S2.rel V
  | next =>
    rw [hf] at hi F2
    have hi := interp_ret hi
    cases hi
    cases F2
    exact h .none _ ρ2 s2 rfl E02 S2.rel .none
  | brk => rw [hf] at hi; cases hi
  | cont => rw [hf] at hi; cases hi

theorem AR.deeper {d : Nat} (x : AR d A) : AR (d + 1) (A.deeper env) := by
  refine ⟨?_, ?_, x.handled⟩
  · show A.depth + 1 ≤ _; have := x.depth; omega
  · show A.units + 3 ≤ _; have := x.units; omega

theorem noCells {sc : Scope} (h : ∀ y ∈ sc.names, y.2 ≠ .cell) (b : List (Str × V)) (n : Nat) : newCells sc.names n = [] ∧ cellObjs b sc.names = [] := by
  revert h n
  induction sc.names with
  | nil => intro h n; exact ⟨rfl, rfl⟩
  | cons y l ih =>
    intro h n
    obtain ⟨x, k⟩ := y
    have hk := h (x, k) List.mem_cons_self
    have := ih (fun z hz => h z (List.mem_cons_of_mem _ hz)) n
    cases k <;> first | exact this | exact absurd rfl hk

theorem lookup_kind_mem {l : List (Str × NameKind)} {x : Str} {k : NameKind} (h : l.lookup x = some k) : (x, k) ∈ l := mem_of_lookup h

def cellPs : List (Str × NameKind) → Nat → List (Addr × Addr)
  | [], _ => []
  | (x, .cell) :: r, n => (n, n) :: cellPs r (n + 1)
  | _ :: r, n => cellPs r n
theorem cellPs_get : ∀ (N : List (Str × NameKind)) (n i : Nat) (p : Addr × Addr), (cellPs N n)[i]? = some p → p = (n + i, n + i)
  | [], n, i, p, h => by simp [cellPs] at h
  | (x, k) :: r, n, i, p, h => by
    cases k with
    | cell =>
      unfold cellPs at h
      cases i with
      | zero => simp at h; exact h.symm
      | succ i =>
        have := cellPs_get r (n + 1) i p (by simpa using h)
        rw [this]; congr 1 <;> omega
    | _ => exact cellPs_get r n i p h
theorem cellsFrom_acc : ∀ (N : List (Str × NameKind)) (n : Nat) (acc : List (Str × Addr)), cellsFrom n N acc = cellsFrom n N [] ++ acc
  | [], _, _ => rfl
  | (x, k) :: r, n, acc => by
    unfold cellsFrom
    split
    · rw [cellsFrom_acc r (n + 1) ((x, n) :: acc), cellsFrom_acc r (n + 1) [(x, n)], List.append_assoc]; rfl
    · exact cellsFrom_acc r n acc
theorem cells_rel {ρ : Rho} : ∀ (N : List (Str × NameKind)) (k n : Nat), (∀ (j : Nat) (p : Addr × Addr), (cellPs N n)[j]? = some p → ρ[k + j]? = some p) → CellsR ρ (newCells N k) (cellsFrom n N [])
  | [], _, _, _ => .nil
  | (x, kd) :: r, k, n, h => by
    cases kd with
    | cell =>
      show CellsR ρ (newCells r (k + 1) ++ [(x, k)]) (cellsFrom (n + 1) r [(x, n)])
      rw [cellsFrom_acc]
      refine (cells_rel r (k + 1) (n + 1) fun j p hp => ?_).append ?_
      · have := h (j + 1) p (by show ((n, n) :: cellPs r (n + 1))[j + 1]? = some p; simpa using hp)
        rw [show k + 1 + j = k + (j + 1) by omega]; exact this
      · exact .cons (p := (n, n)) (h 0 (n, n) rfl) .nil
    | _ => exact cells_rel r k n h
theorem cellObjs_len (b : List (Str × V)) : ∀ (N : List (Str × NameKind)) (n : Nat), (cellPs N n).length = (cellObjs b N).length
  | [], _ => rfl
  | (x, kd) :: r, n => by
    cases kd with
    | cell => show (cellPs r (n + 1)).length + 1 = (cellObjs b r).length + 1; rw [cellObjs_len b r (n + 1)]
    | _ => exact cellObjs_len b r n
theorem cellObjs_get (b : List (Str × V)) : ∀ (N : List (Str × NameKind)) (n i : Nat) (p : Addr × Addr) (o : O), (cellPs N n)[i]? = some p → (cellObjs b N)[i]? = some o →
    ∃ x, (x, NameKind.cell) ∈ N ∧ o = .cell (b.lookup x) ∧ (x, p.1) ∈ cellsFrom n N []
  | [], _, _, _, _, h, _ => by simp [cellPs] at h
  | (x, kd) :: r, n, i, p, o, h, ho => by
    have up : ∀ y, (y, NameKind.cell) ∈ r → (y, NameKind.cell) ∈ (x, kd) :: r := fun y hy => List.mem_cons_of_mem _ hy
    cases kd with
    | cell =>
      unfold cellPs at h
      unfold cellObjs at ho
      have e : cellsFrom n ((x, .cell) :: r) [] = cellsFrom (n + 1) r [] ++ [(x, n)] := by
        show cellsFrom (n + 1) r [(x, n)] = _
        rw [cellsFrom_acc]
      rw [e]
      cases i with
      | zero =>
        simp at h ho
        refine ⟨x, List.mem_cons_self, ho.symm, ?_⟩
        rw [← h]; exact List.mem_append_right _ (by simp)
      | succ i =>
        obtain ⟨y, h1, h2, h3⟩ := cellObjs_get b r (n + 1) i p o (by simpa using h) (by simpa using ho)
        exact ⟨y, up y h1, h2, List.mem_append_left _ h3⟩
    | _ =>
      obtain ⟨y, h1, h2, h3⟩ := cellObjs_get b r n i p o h ho
      exact ⟨y, up y h1, h2, h3⟩
theorem cellsFrom_names : ∀ (N : List (Str × NameKind)) (n : Nat) (x : Str) (c : Addr), (x, c) ∈ cellsFrom n N [] → x ∈ N.map (·.1)
  | [], _, _, _, h => by cases h
  | (y, kd) :: r, n, x, c, h => by
    unfold cellsFrom at h
    split at h
    · rw [cellsFrom_acc] at h
      rcases List.mem_append.mp h with q | q
      · exact List.mem_cons_of_mem _ (cellsFrom_names r (n + 1) x c q)
      · simp at q; rw [q.1]; exact List.mem_cons_self
    · exact List.mem_cons_of_mem _ (cellsFrom_names r n x c h)
theorem cellsFrom_lookup : ∀ (N : List (Str × NameKind)) (n : Nat) (x : Str) (c : Addr), nodupS (N.map (·.1)) = true → (x, c) ∈ cellsFrom n N [] → (cellsFrom n N []).lookup x = some c
  | [], _, _, _, _, h => by cases h
  | (y, kd) :: r, n, x, c, hn, h => by
    obtain ⟨h1, h2⟩ := nodupS_cons hn
    unfold cellsFrom at h ⊢
    split at h
    · rename_i hk
      rw [if_pos hk]
      rw [cellsFrom_acc] at h ⊢
      rw [List.lookup_append]
      rcases List.mem_append.mp h with q | q
      · rw [cellsFrom_lookup r (n + 1) x c h2 q]; rfl
      · simp at q
        obtain ⟨rfl, rfl⟩ := q
        rw [lookup_none_of]
        · simp
        · intro hm
          obtain ⟨z, hz, e⟩ := List.mem_map.mp hm
          exact h1 (e ▸ cellsFrom_names r _ z.1 z.2 hz)
    · rename_i hk
      rw [if_neg hk]
      exact cellsFrom_lookup r n x c h2 h
theorem lookup_of_nodup {α : Type} : ∀ {N : List (Str × α)} {x : Str} {k : α}, nodupS (N.map (·.1)) = true → (x, k) ∈ N → N.lookup x = some k
  | (y, z) :: r, x, k, hn, h => by
    obtain ⟨h1, h2⟩ := nodupS_cons hn
    rw [List.lookup_cons]
    rcases List.mem_cons.mp h with e | q
    · cases e; simp
    · have : (x == y) = false := by
        have : x ≠ y := fun e => h1 (e ▸ List.mem_map_of_mem (f := (·.1)) q)
        simpa using this
      rw [this]; exact lookup_of_nodup h2 q
theorem bindC_lookup (kindOf : Str → Option NameKind) : ∀ (b : List (Str × Value)) (m : Str → Option Value) (n : Str), nodupS (b.map (·.1)) = true → kindOf n ≠ some .local → bindC kindOf b m n = (b.lookup n).or (m n)
  | [], m, n, _, _ => by simp [bindC]
  | (k, v) :: r, m, n, hn, hk => by
    obtain ⟨h1, h2⟩ := nodupS_cons hn
    unfold bindC
    rw [bindC_lookup kindOf r _ n h2 hk, List.lookup_cons]
    by_cases e : n = k
    · subst e
      rw [if_neg hk, lookup_none_of h1]
      simp
    · have : (n == k) = false := by simpa using e
      rw [this]
      split <;> simp [e]
theorem bindL_lookup (kindOf : Str → Option NameKind) : ∀ (b : List (Str × Value)) (m : Str → Option Value) (n : Str), nodupS (b.map (·.1)) = true → kindOf n = some .local → bindL kindOf b m n = (b.lookup n).or (m n)
  | [], m, n, _, _ => by simp [bindL]
  | (k, v) :: r, m, n, hn, hk => by
    obtain ⟨h1, h2⟩ := nodupS_cons hn
    unfold bindL
    rw [bindL_lookup kindOf r _ n h2 hk, List.lookup_cons]
    by_cases e : n = k
    · subst e
      rw [if_pos hk, lookup_none_of h1]
      simp
    · have : (n == k) = false := by simpa using e
      rw [this]
      split <;> simp [e]
theorem filter_lookup (p : Str → Bool) : ∀ (b : List (Str × V)) (x : Str) (v : V), (b.filter fun y => p y.1).lookup x = some v → p x = true ∧ b.lookup x = some v
  | [], _, _, h => by cases h
  | (k, w) :: r, x, v, h => by
    rw [List.filter_cons] at h
    rw [List.lookup_cons]
    by_cases e : x = k
    · subst e
      split at h
      · rename_i hp
        rw [List.lookup_cons] at h
        simp at h
        exact ⟨hp, by simp [h]⟩
      · rename_i hp
        exact absurd (filter_lookup p r x v h).1 hp
    · have : (x == k) = false := by simpa using e
      rw [this]
      split at h
      · rw [List.lookup_cons, this] at h
        exact filter_lookup p r x v h
      · exact filter_lookup p r x v h
theorem get_none_of_le {h : Heap} {a : Addr} (hle : h.objs.size ≤ a) : h.get? a = none := by
  cases q : h.get? a with
  | none => rfl
  | some o => exact absurd (Heap.lt_size q) (Nat.not_lt.mpr hle)

/-- a def of ours is entered -/
theorem sim_enter (K : GOK G) (TK : TaskOK G r) {a : Addr} {o : Obj} {nm qual : Str} {ps : Arguments} {body : S} {sc : Scope} {cl : List (Str × Addr)} {dV kV doc pm cdv ct : Value} {an : Option Addr} {cells : List (Str × Nat)} {dflt : List V}
    {args : List V} {args' : List Value} {kws b : List (Str × V)} {kws' : List (Str × Value)} {d : Nat} {tab : Bool} {e : Ent} {out : Out} {R : Result → Shared → Prop} (ar : AR d A) (RL : Rel G ρ H s)
    (ho : s.heap.get? a = some o) (hdat : o.data = .func (fnX nm qual ps (upS body).l sc cl dV kV doc pm an cdv ct)) (hcd : s.heap.CodeRec cdv qual) (hcl : CellsR ρ cells cl) (hcl0 : cells = [] → cl = [])
    (hdf : (dflt = [] ∧ dV = .none) ∨ ∃ (T : Addr) (oT : Obj) (n : Nat) (items : Array Value), dV = .ref T ∧ s.heap.get? T = some oT ∧ oT.data = .seq items n ∧ VRs G ρ s.heap dflt items.toList)
    (htab : tab = true → ∃ c P, cdv = .ref c ∧ (c, P) ∈ G.tabs ∧ qual ++ ".<locals>." = G.tqual c) (ha : VRs G ρ s.heap args args') (hk : KVR G ρ s.heap kws kws')
    (hb : bindM ps dflt args kws = some b) (he : enterM sc cells b d tab H = some e) (hi : interp r (runBody G.T body e) = some out)
    (h : ∀ v a ρ' s', out.f = .ret v → Ext G NoX ρ H s.heap ρ' out.H s'.heap → Rel G ρ' out.H s' → VR G ρ' s'.heap v a → R (.ok (.ret a)) s') :
    codeAny (Mo G) A (.call (.ref a) ⟨args', kws'⟩) R s := by
  unfold enterM at he
  split at he
  rotate_left
  · cases he
  rename_i hc
  cases he
  simp only [Bool.and_eq_true, decide_eq_true_eq, beq_iff_eq, Bool.not_eq_true', List.all_eq_true, Bool.or_eq_true, List.isEmpty_iff, bne_iff_ne] at hc
  obtain ⟨⟨⟨⟨⟨⟨⟨hd, hnd⟩, hnn⟩, hcells⟩, hkind⟩, hco⟩, hgen⟩, hbk⟩ := hc
  unfold bindM at hb
  split at hb
  · cases hb
  rename_i hps
  simp only [Bool.or_eq_true, Bool.not_eq_true', List.isEmpty_eq_false_iff, not_or, Bool.not_eq_true, Option.isSome_eq_false_iff, Option.isNone_iff_eq_none, ne_eq, Decidable.not_not] at hps
  obtain ⟨⟨⟨hp1, hp2⟩, hp3⟩, hp4⟩ := hps
  have hdf' : ∃ df' : List Value, VRs G ρ s.heap dflt df' ∧ ((df' = [] ∧ dV = .none) ∨ ∃ T oT n, dV = .ref T ∧ s.heap.get? T = some oT ∧ oT.data = .seq df'.toArray n) := by
    rcases hdf with ⟨rfl, rfl⟩ | ⟨T, oT, n, items, e1, e2, e3, e4⟩
    · exact ⟨[], VRs.nil, .inl ⟨rfl, rfl⟩⟩
    · exact ⟨items.toList, e4, .inr ⟨T, oT, n, e1, e2, by simpa using e3⟩⟩
  obtain ⟨df', hV, hdV⟩ := hdf'
  obtain ⟨b', hb', hbR⟩ := bindP_rel hV ha hk hb
  have hroom : A.depth < recursionLimit := by have := ar.depth; show A.depth < 1000; omega
  refine codeAny_call_function hroom ho hdat hco hgen rfl hcd ?_
  refine bindArgs_P hp1 hp2 hp3 hp4 hdV hb' ?_
  have hnolim : ∀ {h' : Heap}, Keeps s.heap h' → h'.NoLimit := fun k => K.nolimit.keeps fun b o e => k b o (RL.base b o e)
  have hnames : b'.map (·.1) = b.map (·.1) := hbR.1.symm
  by_cases hcell : ∀ y ∈ sc.names, y.2 ≠ .cell
  · -- no cells of its own
    obtain ⟨hn1, hn2⟩ := noCells hcell b H.length
    rw [hn1, hn2] at hi
    have hloc : ∀ x ∈ b.map (·.1), sc.names.lookup x = some .local := fun x hx => by
      obtain ⟨y, hy, rfl⟩ := List.mem_map.mp hx
      rcases hbk y hy with q | q
      · exact q
      · exact absurd rfl (hcell _ (lookup_kind_mem q))
    have hfil : b.filter (fun y => sc.names.lookup y.1 == some .local) = b := List.filter_eq_self.mpr fun y hy => by rw [hloc _ (List.mem_map_of_mem hy)]; rfl
    rw [hfil] at hi
    refine wpAny_newFunctionEnv hcell (fun x hx => hloc _ (by rw [← hnames]; exact List.mem_map_of_mem hx)) (fun h' hns hsb => ?_) hkind
    have hkp : Keeps s.heap h' := fun c oc g => (hsb.2 c (Nat.ne_of_lt (Heap.lt_size g))).trans (Heap.get?_push_of_some _ g)
    refine ⟨hnolim hkp, ?_⟩
    have R1 := RL.keeps hkp (s.toks + b'.length)
    have E1 : Ext G NoX ρ H s.heap ρ (H ++ []) h' := by rw [List.append_nil]; exact RL.extKeeps hkp
    obtain ⟨f1, f2, f3⟩ := RL.fresh (size_none s.heap)
    have hLp : ∀ c oc, s.heap.get? c = some oc → c ≠ s.heap.objs.size := fun c oc g => Nat.ne_of_lt (Heap.lt_size g)
    refine sim_body (e := ⟨⟨sc.names, [] ++ cells, d + 1, tab⟩, b, H ++ []⟩) (env := newEnv sc s.heap.objs.size mainGlobals cl (qual ++ ".<locals>.") (some a) cdv none builtinsNs) (s := { s with heap := h', toks := s.toks + b'.length }) (s₀ := s) (f := a) (cdv := cdv) K TK ?_ ?_ hi E1 hLp h
    · exact ⟨ar.deeper, by show d + 1 ≤ 151; omega, hkind, rfl, rfl, fun x => .inl rfl, by unfold interactive; show (sc.kind == .module && _) = false; rw [hkind]; rfl, htab⟩
    · refine ⟨by rw [List.append_nil]; exact R1, ⟨⟨_, hns, fun x v hx => ?_⟩, f1, f2, f3, fun x i hx => ?_⟩⟩
      · dsimp only
        rw [lookup_reverse (by rw [hnames]; exact hnd)]
        rcases hbR.lookup x with ⟨q, _⟩ | ⟨v', w, q, q', hVR⟩
        · rw [q] at hx; cases hx
        · rw [q] at hx; cases hx
          exact ⟨w, q', hVR.mono (RL.extKeeps (X := NoX) hkp)⟩
      · exact hcl.lookup hx
  · -- cells of its own: nothing free
    have hc0 : cells = [] := by
      rcases hcells with q | q
      · exact q
      · exact absurd (fun y hy => q y hy) hcell
    subst hc0
    have hcl' := hcl0 rfl
    subst hcl'
    refine wpAny_newFunctionEnv_cells hkind (fun x hx => ?_) (fun env' he' s' X => ?_)
    · have hx' : x.1 ∈ b.map (·.1) := by rw [← hnames]; exact List.mem_map_of_mem hx
      obtain ⟨y, hy, e⟩ := List.mem_map.mp hx'
      rcases hbk y hy with q | q
      · exact .inl (e ▸ q)
      · exact .inr ⟨e ▸ q, cellsFrom_some _ _ _ (.inl (e ▸ q))⟩
    · subst he'
      obtain ⟨h', tk, hs'⟩ := X.toInCall.same
      subst hs'
      have hkp : Keeps s.heap h' := X.toInCall.keep
      have hlen := cellObjs_len b sc.names (s.heap.objs.size + 1)
      have hge : ∀ p ∈ cellPs sc.names (s.heap.objs.size + 1), s.heap.objs.size < p.1 ∧ p.2 = p.1 := fun p hp => by
        obtain ⟨j, hj, e⟩ := List.getElem_of_mem hp
        have := cellPs_get _ _ j p (by rw [← e]; exact List.getElem?_eq_getElem hj)
        rw [this]; exact ⟨by show s.heap.objs.size < s.heap.objs.size + 1 + j; omega, rfl⟩
      obtain ⟨R1, E1⟩ := RL.news (h' := h') (ps := cellPs sc.names (s.heap.objs.size + 1)) (os := cellObjs b sc.names) hkp hlen (fun p hp => by
          have := hge p hp
          exact ⟨get_none_of_le (Nat.le_of_lt this.1), by rw [this.2]; exact get_none_of_le (Nat.le_of_lt this.1)⟩) (fun i j p q hp hq hij => by
          rw [cellPs_get _ _ i p hp, cellPs_get _ _ j q hq]
          refine ⟨?_, ?_, ?_, ?_⟩ <;> (show s.heap.objs.size + 1 + i ≠ s.heap.objs.size + 1 + j; omega)) tk (fun E i p o hp hoo => by
          obtain ⟨x, h1, rfl, h3⟩ := cellObjs_get b sc.names _ i p o hp hoo
          have hl := cellsFrom_lookup _ _ _ _ hnn h3
          obtain ⟨oc, g, gd⟩ := X.cell x p.1 hl
          have hkx : sc.names.lookup x = some .cell := lookup_of_nodup hnn h1
          have hbc := bindC_lookup (Env.kindOf (newEnv sc s.heap.objs.size mainGlobals (cellsFrom (s.heap.objs.size + 1) sc.names []) (qual ++ ".<locals>.") (some a) cdv none builtinsNs)) b' (fun _ => none) x (by rw [hnames]; exact hnd) (by show sc.names.lookup x ≠ _; rw [hkx]; decide)
          refine ⟨(hge p (List.mem_of_getElem? hp)).2, oc, _, g, gd, fun y hy => ?_, fun hy => ?_⟩
          · rcases hbR.lookup x with ⟨q, _⟩ | ⟨v', w, q, q', hVR⟩
            · rw [q] at hy; cases hy
            · rw [q] at hy; cases hy
              exact ⟨w, by rw [hbc, q']; rfl, hVR.mono E⟩
          · rcases hbR.lookup x with ⟨_, q⟩ | ⟨v', w, q, q', hVR⟩
            · rw [hbc, q]; rfl
            · rw [q] at hy; cases hy)
      refine ⟨hnolim hkp, ?_⟩
      obtain ⟨f1, f2, f3⟩ := RL.fresh (size_none s.heap)
      have hLp : ∀ c oc, s.heap.get? c = some oc → c ≠ s.heap.objs.size := fun c oc g => Nat.ne_of_lt (Heap.lt_size g)
      have hcR : CellsR (ρ ++ cellPs sc.names (s.heap.objs.size + 1)) (newCells sc.names H.length) (cellsFrom (s.heap.objs.size + 1) sc.names []) :=
        cells_rel _ _ _ fun j p hp => by rw [← RL.len, List.getElem?_append_right (by omega)]; rw [show ρ.length + j - ρ.length = j by omega]; exact hp
      refine sim_body (env := newEnv sc s.heap.objs.size mainGlobals (cellsFrom (s.heap.objs.size + 1) sc.names []) (qual ++ ".<locals>.") (some a) cdv none builtinsNs) (s := { s with heap := h', toks := tk }) (s₀ := s) (f := a) (cdv := cdv) K TK ?_ ?_ hi E1 hLp h
      · exact ⟨ar.deeper, by show d + 1 ≤ 151; omega, hkind, rfl, rfl, fun x => .inl rfl, by unfold interactive; show (sc.kind == .module && _) = false; rw [hkind]; rfl, htab⟩
      · refine ⟨R1, ⟨⟨_, X.toInCall.ns, fun x v hx => ?_⟩, ?_, f2, f3, fun x i hx => ?_⟩⟩
        · obtain ⟨p1, p2⟩ := filter_lookup (fun z => sc.names.lookup z == some .local) b x v hx
          have hkx : sc.names.lookup x = some .local := by simpa using p1
          rw [bindL_lookup _ b' _ x (by rw [hnames]; exact hnd) hkx]
          rcases hbR.lookup x with ⟨q, _⟩ | ⟨v', w, q, q', hVR⟩
          · rw [q] at p2; cases p2
          · rw [q] at p2; cases p2
            exact ⟨w, by rw [q']; rfl, hVR.mono E1⟩
        · rintro ⟨p, hp, e⟩
          rcases List.mem_append.mp hp with q | q
          · exact f1 ⟨p, q, e⟩
          · have := hge p q
            rcases e with e | e
            · exact absurd (show s.heap.objs.size = p.1 from e) (Nat.ne_of_lt this.1)
            · exact absurd ((show s.heap.objs.size = p.2 from e).trans this.2) (Nat.ne_of_lt this.1)
        · rw [List.append_nil] at hx
          exact hcR.lookup hx
end
end Mine

end
section
open PySem PySem.W PySem.Calls PyProof.Rows
set_option autoImplicit false
namespace Mine
section
variable {G : Gx} {r : Task → Option Out} {F : Fc} {A : Around} {env : Env} {loc loc' : Loc} {ρ ρ' : Rho} {H H' : Hp} {s s' : Shared} {Er : Value → Shared → Prop}

theorem task_call (K : GOK G) (TK : TaskOK G r) {f : V} {args : List V} {kws : List (Str × V)} {d : Nat} {out : Out} {f' : Value} {args' : List Value} {kws' : List (Str × Value)} {R : Result → Shared → Prop}
    (hr : interp r (denT G.T (.call f args kws d H)) = some out) (ar : AR d A) (hd : d ≤ 151) (RL : Rel G ρ H s) (hf : VR G ρ s.heap f f') (ha : VRs G ρ s.heap args args') (hk : KVR G ρ s.heap kws kws')
    (h : ∀ v a ρ' s', out.f = .ret v → Ext G NoX ρ H s.heap ρ' out.H s'.heap → Rel G ρ' out.H s' → VR G ρ' s'.heap v a → R (.ok (.ret a)) s') : codeAny (Mo G) A (.call f' ⟨args', kws'⟩) R s := by
  cases f with
  | glo x =>
    simp only [denT] at hr
    split at hr
    · rename_i i hfn
      obtain ⟨b, h1, hr⟩ := interp_bind_some hr
      obtain ⟨e, h2, hr⟩ := interp_bind_some hr
      have h1 := interp_opt h1; have h2 := interp_opt h2
      obtain ⟨a, o, nm, qual, dV, kV, doc, pm, an, cdv, ct, e1, e2, e3, e4, e5, e6⟩ := K.fn x i hfn
      cases hf with
      | glo ha' =>
        rw [e1] at ha'; cases ha'
        refine sim_enter K TK ar RL (RL.base _ _ e2) e3 (e4.keeps RL.base) (cells := []) .nil (fun _ => rfl) ?_ e6 ha hk h1 h2 hr h
        rcases e5 with q | ⟨T, oT, n, items, q1, q2, q3, q4⟩
        · exact .inl q
        · exact .inr ⟨T, oT, n, items, q1, RL.base _ _ q2, q3, ⟨q4.1, fun i v v' a b => ext_base RL.base (q4.2 i v v' a b)⟩⟩
    · cases hr
  | clo ps body sc cells =>
    simp only [denT] at hr
    obtain ⟨b, h1, hr⟩ := interp_bind_some hr
    obtain ⟨e, h2, hr⟩ := interp_bind_some hr
    have h1 := interp_opt h1; have h2 := interp_opt h2
    cases hf with
    | clo ho hfc hdt hc hcd hfz =>
      refine sim_enter K TK (dflt := []) (tab := false) ar RL ho hdt hcd hc (fun q => ?_) (.inl ⟨rfl, rfl⟩) (fun q => nomatch q) ha hk h1 h2 hr h
      subst q; cases hc; rfl
  | _ => cases hr

theorem under_while {c : Code} (h : A.under c = A) : A.under c = A := h

theorem task_whl (K : GOK G) (TK : TaskOK G r) {t : E} {a : S} {out : Out} {R : Result → Shared → Prop}
    (hr : interp r (denT G.T (.whl t a F loc H)) = some out) (C : Cx G F A env) (S : St G F env loc ρ H s)
    (h : ∀ fl ρ' s', Ext G (fun b => b = env.locals) ρ H s.heap ρ' out.H s'.heap → St G F env out.loc ρ' out.H s' → FlR G ρ' s'.heap out.f fl → R (.ok fl) s') : codeAny (Mo G) A (.whileLoop (upU t).e (upS a).l [] env) R s := by
  obtain ⟨⟨b, H1⟩, h1, hr⟩ := interp_bind_some hr
  refine codeAny_of_tree ?_
  show wpAny _ A ((whileTurn (upU t).e (upS a).l [] env).onRaise (fun x => do noteFrame x env; theTreesLotGoes x)) _ _ s
  refine wpAny_noted ?_
  unfold whileTurn
  refine wpAny_bind ((simD K TK t).t C S h1 fun ρ1 s1 E1 S1 => ?_)
  cases b with
  | false =>
    have hr := interp_ret hr
    cases hr
    rw [if_neg Bool.false_ne_true]
    exact wpAny_bind (wpAny_execs_nil (wpAny_pure (h _ _ _ E1.toX S1 .next)))
  | true =>
    rw [if_pos rfl]
    obtain ⟨o, h2, hr⟩ := interp_bind_some hr
    refine wpAny_bind ((simS K TK a).2 C S1 h2 fun fl ρ2 s2 E2 S2 F2 => ?_)
    have again_ : interp r (.call (.whl t a F o.loc o.H) .ret) = some out → codeAny (Mo G) A (.whileLoop (upU t).e (upS a).l [] env) R s2 := fun hi => by
      simp only [interp] at hi
      cases ho : r (.whl t a F o.loc o.H) with
      | none => rw [ho] at hi; cases hi
      | some o2 =>
        rw [ho] at hi; cases hi
        exact TK.whl ho C S2 fun fl ρ3 s3 E3 S3 F3 => h _ _ _ ((E1.toX.trans' E2).trans' E3) S3 F3
    cases hf : o.f with
    | next => rw [hf] at F2 hr; cases F2; exact wpAny_pure ⟨rfl, again_ hr⟩
    | cont => rw [hf] at F2 hr; cases F2; exact wpAny_pure ⟨rfl, again_ hr⟩
    | brk => rw [hf] at F2 hr; cases F2; have hr := interp_ret hr; cases hr; exact wpAny_pure (h _ _ _ (E1.toX.trans' E2) S2 .next)
    | ret v => rw [hf] at F2 hr; cases F2 with | ret V => have hr := interp_ret hr; cases hr; exact wpAny_pure (h _ _ _ (E1.toX.trans' E2) S2 (.ret V))

theorem it_cls {it : It} {b : Addr} (I : ItR G ρ H s.heap it b) {M : Model} {target : Expr} {v : Value} {Q : Unit → Shared → Prop} (h : Q () s) : wpAny M A (letOwnedTupleGo target (.ref b) v) Q Er s := by
  have key : ∃ o n vs, s.heap.get? b = some o ∧ o.cls = .type n ∧ o.data = .fields vs ∧ (["enumerate", "zip", "dict_itemiterator", "dict_reverseitemiterator", "odict_iterator", "itertools.zip_longest", "itertools.pairwise"] : List String).contains n = false := by
    cases I with
    | lst hp hi => obtain ⟨o, ho, hc, hd⟩ := hi; exact ⟨o, _, _, ho, hc, hd, by decide⟩
    | rng ho => exact ⟨_, _, _, ho, rfl, rfl, by decide⟩
    | strA hi => obtain ⟨o, ho, hc, hd⟩ := hi; exact ⟨o, _, _, ho, hc, hd, by decide⟩
    | strW hi => obtain ⟨o, ho, hc, hd⟩ := hi; exact ⟨o, _, _, ho, hc, hd, by decide⟩
    | dict hp hH hv hi hd => obtain ⟨o, ho, hc, hd⟩ := hi; exact ⟨o, _, _, ho, hc, hd, by decide⟩
  obtain ⟨o, n, vs, ho, hc, hd, hn⟩ := key
  have go : wpAny M A (do
      let (.ref r, .ref a) := (Value.ref b, v) | return
      let o ← load r
      match o.cls, o.data with
      | .type n, .fields vs =>
        if ["enumerate", "zip", "dict_itemiterator", "dict_reverseitemiterator", "odict_iterator", "itertools.zip_longest", "itertools.pairwise"].contains n && vs[0]? == some (rawInt a) then
          rule "for.unpacks-the-owned-tuple"
          updateField r 0 .none
      | _, _ => pure ()) Q Er s := by
    cases v with
    | ref a =>
      refine wpAny_bind (wpAny_load ho ?_)
      rw [hc, hd]
      dsimp only
      rw [hn]
      exact wpAny_pure h
    | _ => exact wpAny_pure h
  unfold letOwnedTupleGo
  cases target <;> first | exact wpAny_pure h | exact go

theorem task_for (K : GOK G) (TK : TaskOK G r) {t : E} {it : It} {a : S} {out : Out} {b : Addr} {R : Result → Shared → Prop}
    (hr : interp r (denT G.T (.for_ t it a F loc H)) = some out) (C : Cx G F A env) (S : St G F env loc ρ H s) (I : ItR G ρ H s.heap it b) (hn : ¬ own ρ b) (hb : G.base.get? b = none) (ht : b ∉ G.tabs.map (·.2)) (hL : b ≠ env.locals)
    (h : ∀ fl ρ' s', Ext G (fun c => c = env.locals ∨ c = b) ρ H s.heap ρ' out.H s'.heap → St G F env out.loc ρ' out.H s' → FlR G ρ' s'.heap out.f fl → R (.ok fl) s') : codeAny (Mo G) A (.forLoop (upU t).e (.ref b) (upS a).l [] env) R s := by
  obtain ⟨res, h1, hr⟩ := interp_bind_some hr
  have h1 := interp_opt h1
  refine codeAny_of_tree ?_
  show wpAny _ A ((forTurn (upU t).e (.ref b) (upS a).l [] env).onRaise (fun x => do noteFrame x env; theTreesLotGoes x)) _ _ s
  refine wpAny_noted ?_
  unfold forTurn
  refine wpAny_bind (wpAny_standAt (wpAny_bind (wpAny_onRaise ?_)))
  refine prim_next K C.ar C.d S.rel I hn hb ht h1 (fun hres s1 E1 R1 => ?_) (fun v it' hres w s1 E1 R1 V1 I1 => ?_)
  · subst hres
    have hr := interp_ret hr
    cases hr
    dsimp only
    have S1 : St G F env loc ρ H s1 := ⟨R1, S.fd.mono E1 (fun q => hL q.symm)⟩
    refine wpAny_pure ⟨rfl, codeAny_of_tree ?_⟩
    show wpAny _ A ((execs [] env).onRaise (fun x => do noteFrame x env; theTreesLotGoes x) >>= fun f => pure (Fin.done f)) _ _ s1
    exact wpAny_bind (wpAny_onRaise (wpAny_execs_nil (wpAny_pure (h _ _ _ (E1.weaken fun _ q => .inr q) S1 .next))))
  · subst hres
    dsimp only at hr ⊢
    obtain ⟨⟨loc1, H1⟩, h2, hr⟩ := interp_bind_some hr
    obtain ⟨o, h3, hr⟩ := interp_bind_some hr
    have S1 : St G F env loc ρ H s1 := ⟨R1, S.fd.mono E1 (fun q => hL q.symm)⟩
    refine wpAny_bind (it_cls I1 (wpAny_bind ?_))
    refine (simD K TK t).a C S1 V1 h2 fun ρ2 s2 E2 S2 => wpAny_bind ((simS K TK a).2 C S2 h3 fun fl ρ3 s3 E3 S3 F3 => ?_)
    have E13 : Ext G (XL env) ρ H s1.heap ρ3 o.H s3.heap := E2.trans' E3
    obtain ⟨ob, gb⟩ := I1.there
    have I3 := I1.mono E13 hn ht (fun q => hL q)
    have Eall : Ext G (fun c => c = env.locals ∨ c = b) ρ H s.heap ρ3 o.H s3.heap := (E1.weaken fun _ q => .inr q).trans E13 fun _ _ _ q => .inl q
    have again_ : interp r (.call (.for_ t it' a F o.loc o.H) .ret) = some out → codeAny (Mo G) A (.forLoop (upU t).e (.ref b) (upS a).l [] env) R s3 := fun hi => by
      simp only [interp] at hi
      cases ho : r (.for_ t it' a F o.loc o.H) with
      | none => rw [ho] at hi; cases hi
      | some o2 =>
        rw [ho] at hi; cases hi
        exact TK.for_ ho C S3 I3 (E13.notOwn gb hn (fun q => hL q)) hb ht hL fun fl ρ4 s4 E4 S4 F4 => h _ _ _ (Eall.trans' E4) S4 F4
    cases hf : o.f with
    | next => rw [hf] at F3 hr; cases F3; exact wpAny_pure ⟨rfl, again_ hr⟩
    | cont => rw [hf] at F3 hr; cases F3; exact wpAny_pure ⟨rfl, again_ hr⟩
    | brk => rw [hf] at F3 hr; cases F3; have hr := interp_ret hr; cases hr; exact wpAny_pure (h _ _ _ Eall S3 .next)
    | ret v => rw [hf] at F3 hr; cases F3 with | ret V => have hr := interp_ret hr; cases hr; exact wpAny_pure (h _ _ _ Eall S3 (.ret V))

theorem ifs_one (K : GOK G) (TK : TaskOK G r) {ifs : E} {b : Bool} {Q : Bool → Shared → Prop} (ho : oneIf ifs = true) (C : Cx G F A env) (S : St G F env loc ρ H s) (hi : interp r ((den G.T F ifs loc).tl .And H) = some (b, H'))
    (h : ∀ ρ' s', Ext G NoX ρ H s.heap ρ' H' s'.heap → St G F env loc ρ' H' s' → Q b s') :
    wpAny (Mo G) A (forIn (upU ifs).l true fun c (ok : Bool) => if ok = true then (do let b ← isTrue c env (eval c env); pure (.yield b)) else pure (.yield ok) : Sem Bool) Q Er s := by
  cases ifs with
  | nil =>
    have hi := interp_ret hi
    cases hi
    show wpAny _ _ (forIn [] true _) _ _ _
    rw [List.forIn_nil]; exact wpAny_pure (h _ _ Ext.refl S)
  | cons e q =>
    cases q with
    | nil =>
      obtain ⟨⟨t, H1⟩, h1, hi⟩ := interp_bind_some hi
      show wpAny _ _ (forIn [(upU e).e] true _) _ _ _
      rw [List.forIn_cons]
      show wpAny _ A ((isTrue (upU e).e env (eval (upU e).e env) >>= fun b => pure (ForInStep.yield b)) >>= _) Q Er s
      refine wpAny_bind (wpAny_bind ((simD K TK e).t C S h1 fun ρ1 s1 E1 S1 => wpAny_pure ?_))
      dsimp only
      rw [List.forIn_nil]
      refine wpAny_pure ?_
      cases t with
      | true => have hi := interp_ret hi; cases hi; exact h _ _ E1 S1
      | false => have hi := interp_ret hi; cases hi; exact h _ _ E1 S1
    | _ => cases ho
  | _ => cases ho

theorem compTurn_one (elt target iter : Expr) (ifs : List Expr) (scope : Scope) (pos : Pos) (it acc : Value) (env : Env) :
    compTurn (.ListComp elt [⟨target, iter, ifs, 0⟩] scope pos) 0 it acc env = (standAt iter.pos >>= fun _ => pyNext it >>= fun r => match r with
      | none => pure (.done .next)
      | some v => letOwnedTupleGo target it v >>= fun _ => assign target env v >>= fun _ =>
        (forIn ifs true fun c (ok : Bool) => if ok = true then (do let b ← isTrue c env (eval c env); pure (.yield b)) else pure (.yield ok) : Sem Bool) >>= fun ok =>
        if ok = true then ((eval elt env >>= fun x => call (.builtin "list.append") [acc, x] >>= fun _ => pure ()) >>= fun _ => again (.compLoop (.ListComp elt [⟨target, iter, ifs, 0⟩] scope pos) 0 it acc env))
        else again (.compLoop (.ListComp elt [⟨target, iter, ifs, 0⟩] scope pos) 0 it acc env)) := by rfl

theorem task_comp (K : GOK G) (TK : TaskOK G r) {elt tgt ifs : E} {it : It} {acc : Nat} {out : Out} {b : Addr} {p : Addr × Addr} {iter : Expr} {sc : Scope} {pos : Pos} {R : Result → Shared → Prop}
    (hr : interp r (denT G.T (.comp elt tgt ifs it acc F loc H)) = some out) (C : Cx G F A env) (S : St G F env loc ρ H s) (I : ItR G ρ H s.heap it b) (hn : ¬ own ρ b) (hb : G.base.get? b = none) (ht : b ∉ G.tabs.map (·.2)) (hL : b ≠ env.locals) (hp : ρ[acc]? = some p)
    (h : ∀ ρ' s', Ext G (fun c => c = env.locals ∨ c = b) ρ H s.heap ρ' out.H s'.heap → St G F env out.loc ρ' out.H s' → R (.ok .next) s') :
    codeAny (Mo G) A (.compLoop (.ListComp (upU elt).e [⟨(upU tgt).e, iter, (upU ifs).l, 0⟩] sc pos) 0 (.ref b) (.ref p.1) env) R s := by
  change interp r (if !oneIf ifs then .fail else _) = _ at hr
  split at hr
  · cases hr
  rename_i hone
  have hone : oneIf ifs = true := by simpa using hone
  obtain ⟨res, h1, hr⟩ := interp_bind_some hr
  have h1 := interp_opt h1
  refine codeAny_of_tree ?_
  show wpAny _ A ((compTurn (.ListComp (upU elt).e [⟨(upU tgt).e, iter, (upU ifs).l, 0⟩] sc pos) 0 (.ref b) (.ref p.1) env).onRaise (fun x => do noteFrame x env; theTreesLotGoes x)) _ _ s
  refine wpAny_noted ?_
  rw [compTurn_one]
  refine wpAny_bind (wpAny_standAt (wpAny_bind ?_))
  refine prim_next K C.ar C.d S.rel I hn hb ht h1 (fun hres s1 E1 R1 => ?_) (fun v it' hres w s1 E1 R1 V1 I1 => ?_)
  · subst hres
    have hr := interp_ret hr
    cases hr
    exact wpAny_pure (h _ _ (E1.weaken fun _ q => .inr q) ⟨R1, S.fd.mono E1 (fun q => hL q.symm)⟩)
  · subst hres
    dsimp only at hr ⊢
    obtain ⟨⟨loc1, H1⟩, h2, hr⟩ := interp_bind_some hr
    obtain ⟨⟨bb, H2⟩, h3, hr⟩ := interp_bind_some hr
    have S1 : St G F env loc ρ H s1 := ⟨R1, S.fd.mono E1 (fun q => hL q.symm)⟩
    obtain ⟨ob, gb⟩ := I1.there
    refine wpAny_bind (it_cls I1 (wpAny_bind ?_))
    refine (simD K TK tgt).a C S1 V1 h2 fun ρ2 s2 E2 S2 => wpAny_bind (ifs_one K TK hone C S2 h3 fun ρ3 s3 E3 S3 => ?_)
    have E13 : Ext G (XL env) ρ H s1.heap ρ3 H2 s3.heap := E2.trans' E3.toX
    have again_ : ∀ {H3 : Hp} {ρ4 : Rho} {s4 : Shared}, Ext G (XL env) ρ H s1.heap ρ4 H3 s4.heap → St G F env loc1 ρ4 H3 s4 → interp r (.call (.comp elt tgt ifs it' acc F loc1 H3) .ret) = some out →
        codeAny (Mo G) A (.compLoop (.ListComp (upU elt).e [⟨(upU tgt).e, iter, (upU ifs).l, 0⟩] sc pos) 0 (.ref b) (.ref p.1) env) R s4 := fun {H3 ρ4 s4} E14 S4 hi => by
      simp only [interp] at hi
      cases ho : r (.comp elt tgt ifs it' acc F loc1 H3) with
      | none => rw [ho] at hi; cases hi
      | some o2 =>
        rw [ho] at hi; cases hi
        have I4 := I1.mono E14 hn ht (fun q => hL q)
        have Eall : Ext G (fun c => c = env.locals ∨ c = b) ρ H s.heap ρ4 H3 s4.heap := (E1.weaken fun _ q => .inr q).trans E14 fun _ _ _ q => .inl q
        exact TK.comp ho C S4 I4 (E14.notOwn gb hn (fun q => hL q)) hb ht hL (E14.get hp) fun ρ5 s5 E5 S5 => h _ _ (Eall.trans' E5) S5
    cases bb with
    | false => rw [if_neg Bool.false_ne_true]; exact wpAny_pure ⟨rfl, again_ E13 S3 hr⟩
    | true =>
      rw [if_pos rfl]
      obtain ⟨⟨x, H3⟩, h4, hr⟩ := interp_bind_some hr
      obtain ⟨⟨c, H4⟩, h5, hr⟩ := interp_bind_some hr
      have h5 := interp_opt h5
      refine wpAny_bind (wpAny_bind ((simD K TK elt).v C S3 h4 fun x' ρ4 s4 E4 S4 V4 => wpAny_bind ?_))
      have Vacc : VR G ρ4 s4.heap (.obj acc) (.ref p.1) := .obj (E4.get (E13.get hp))
      refine prim_bi K C.ar C.d S4.rel (VRs.cons Vacc (VRs.cons V4 VRs.nil)) h5 fun c' ρ5 s5 E5 R5 V5 => wpAny_pure (wpAny_pure ⟨rfl, ?_⟩)
      exact again_ ((E13.trans' E4.toX).trans' E5.toX) (S4.ext E5 R5) hr

theorem tasks (K : GOK G) : ∀ n, TaskOK G (runN G.T n) := by
  intro n
  induction n with
  | zero =>
    have z : ∀ t out, runN G.T 0 t = some out → False := fun t out e => by cases e
    exact ⟨fun e _ _ _ _ _ _ _ => (z _ _ e).elim, fun e _ _ _ => (z _ _ e).elim, fun e _ _ _ _ _ _ _ _ => (z _ _ e).elim, fun e _ _ _ _ _ _ _ _ _ => (z _ _ e).elim⟩
  | succ n ih =>
    exact ⟨fun e ar hd R hf ha hk h => task_call K ih e ar hd R hf ha hk h, fun e C S h => task_whl K ih e C S h,
      fun e C S I h1 h2 h3 h4 h => task_for K ih e C S I h1 h2 h3 h4 h, fun e C S I h1 h2 h3 h4 h5 h => task_comp K ih e C S I h1 h2 h3 h4 h5 h⟩

/-- what the small language runs, the model runs -/
theorem sim_run (K : GOK G) {n : Nat} {f : V} {args : List V} {d : Nat} {out : Out} {f' : Value} {args' : List Value} {R : Result → Shared → Prop}
    (hr : runN G.T n (.call f args [] d H) = some out) (ar : AR d A) (hd : d ≤ 151) (RL : Rel G ρ H s) (hf : VR G ρ s.heap f f') (ha : VRs G ρ s.heap args args')
    (h : ∀ v a ρ' s', out.f = .ret v → Ext G NoX ρ H s.heap ρ' out.H s'.heap → Rel G ρ' out.H s' → VR G ρ' s'.heap v a → R (.ok (.ret a)) s') : codeAny (Mo G) A (.call f' ⟨args', []⟩) R s :=
  (tasks K n).call hr ar hd RL hf ha KVR.nil h
end
end Mine

end
section
open PySem
set_option autoImplicit false
namespace Mine.R

/-! ## what the small language runs, as a condition on what follows -/
theorem ofs_beq (a b : String) : (Str.ofString a == Str.ofString b) = (a == b) := by
  rw [Str.ofString_eq_toList, Str.ofString_eq_toList]
  by_cases h : a = b
  · subst h; simp
  · have h1 : (a == b) = false := by simpa using h
    rw [h1]
    refine beq_eq_false_iff_ne.mpr fun e => h ?_
    have e2 : (a.toList.map Char.toNat).toArray = (b.toList.map Char.toNat).toArray := congrArg Str.cps e
    have e3 : a.toList.map Char.toNat = b.toList.map Char.toNat := by simpa using congrArg Array.toList e2
    have inj : ∀ x y : List Char, x.map Char.toNat = y.map Char.toNat → x = y := by
      intro x
      induction x with
      | nil => intro y hy; cases y with | nil => rfl | cons c y => cases hy
      | cons c x ih =>
        intro y hy
        cases y with
        | nil => cases hy
        | cons d y =>
          simp only [List.map_cons, List.cons.injEq] at hy
          have hc : c = d := by
            apply Char.ext
            apply UInt32.toNat_inj.mp
            exact hy.1
          rw [hc, ih y hy.2]
    exact String.toList_inj.mp (inj _ _ e3)

section
variable {T : Tp} {α β : Type}
theorem interp_mono {r r' : Task → Option Out} (h : ∀ t o, r t = some o → r' t = some o) {p : Prog α} {a : α} (e : interp r p = some a) : interp r' p = some a := by
  induction p with
  | ret b => exact e
  | fail => cases e
  | call t k ih =>
    simp only [interp] at e ⊢
    cases ho : r t with
    | none => rw [ho] at e; cases e
    | some o => rw [ho] at e; rw [h _ _ ho]; exact ih o e
theorem runN_succ {n : Nat} : ∀ {t : Task} {o : Out}, runN T n t = some o → runN T (n + 1) t = some o := by
  induction n with
  | zero => intro t o e; cases e
  | succ n ih => intro t o e; exact interp_mono (fun t o => ih) e
theorem runN_le {n m : Nat} (h : n ≤ m) {t : Task} {o : Out} (e : runN T n t = some o) : runN T m t = some o := by
  induction h with
  | refl => exact e
  | step _ ih => exact runN_succ ih
theorem interp_le {n m : Nat} (h : n ≤ m) {p : Prog α} {a : α} (e : interp (runN T n) p = some a) : interp (runN T m) p = some a :=
  interp_mono (fun _ _ => runN_le h) e
theorem interp_bindE {r : Task → Option Out} {p : Prog α} {f : α → Prog β} : interp r (p.bind f) = (interp r p).bind fun a => interp r (f a) := by
  induction p with
  | ret a => rfl
  | fail => rfl
  | call t k ih =>
    simp only [Prog.bind, interp]
    cases r t with
    | none => rfl
    | some o => exact ih o

def W (T : Tp) (p : Prog α) (Q : α → Prop) : Prop := ∃ n a, interp (runN T n) p = some a ∧ Q a
def WT (T : Tp) (t : Task) (Q : Out → Prop) : Prop := ∃ n o, runN T n t = some o ∧ Q o
def optW (o : Option α) (Q : α → Prop) : Prop := ∃ a, o = some a ∧ Q a

theorem W_mono {p : Prog α} {Q R : α → Prop} (h : W T p Q) (hq : ∀ a, Q a → R a) : W T p R := by
  obtain ⟨n, a, e, q⟩ := h; exact ⟨n, a, e, hq a q⟩
theorem WT_mono {t : Task} {Q R : Out → Prop} (h : WT T t Q) (hq : ∀ a, Q a → R a) : WT T t R := by
  obtain ⟨n, a, e, q⟩ := h; exact ⟨n, a, e, hq a q⟩
theorem W_ret {a : α} {Q : α → Prop} : W T (.ret a) Q ↔ Q a :=
  ⟨fun ⟨_, _, e, q⟩ => by cases e; exact q, fun q => ⟨0, a, rfl, q⟩⟩
theorem W_opt {o : Option α} {Q : α → Prop} : W T (.opt o) Q ↔ optW o Q := by
  cases o with
  | none => exact ⟨fun ⟨_, _, e, _⟩ => (by cases e), fun ⟨_, e, _⟩ => (by cases e)⟩
  | some a => exact ⟨fun ⟨_, _, e, q⟩ => by cases e; exact ⟨a, rfl, q⟩, fun ⟨b, e, q⟩ => by cases e; exact ⟨0, a, rfl, q⟩⟩
theorem W_bind {p : Prog α} {f : α → Prog β} {Q : β → Prop} : W T (p.bind f) Q ↔ W T p fun a => W T (f a) Q := by
  constructor
  · rintro ⟨n, b, e, q⟩
    rw [interp_bindE] at e
    cases ha : interp (runN T n) p with
    | none => rw [ha] at e; cases e
    | some a => rw [ha] at e; exact ⟨n, a, ha, n, b, e, q⟩
  · rintro ⟨n, a, e, m, b, e', q⟩
    refine ⟨max n m, b, ?_, q⟩
    rw [interp_bindE, interp_le (Nat.le_max_left n m) e]
    exact interp_le (Nat.le_max_right n m) e'
theorem W_call {t : Task} {k : Out → Prog α} {Q : α → Prop} : W T (.call t k) Q ↔ WT T t fun o => W T (k o) Q := by
  constructor
  · rintro ⟨n, a, e, q⟩
    simp only [interp] at e
    cases ho : runN T n t with
    | none => rw [ho] at e; cases e
    | some o => rw [ho] at e; exact ⟨n, o, ho, n, a, e, q⟩
  · rintro ⟨n, o, e, m, a, e', q⟩
    refine ⟨max n m, a, ?_, q⟩
    simp only [interp]
    rw [runN_le (Nat.le_max_left n m) e]
    exact interp_le (Nat.le_max_right n m) e'
theorem WT_W {t : Task} {Q : Out → Prop} : WT T t Q ↔ W T (denT T t) Q := by
  constructor
  · rintro ⟨n, o, e, q⟩
    cases n with
    | zero => cases e
    | succ n => exact ⟨n, o, e, q⟩
  · rintro ⟨n, o, e, q⟩; exact ⟨n + 1, o, e, q⟩
theorem optW_some {a : α} {Q : α → Prop} : optW (some a) Q ↔ Q a := ⟨fun ⟨_, e, q⟩ => by cases e; exact q, fun q => ⟨a, rfl, q⟩⟩

/-! ## what is left to do behind a step: words that open only when their value has come -/
section
variable (T : Tp) (F : Fc) (loc : Loc)
def KB {α : Type} (H : Hp) (Q : α × Hp → Prop) : α → Prop := fun v => Q (v, H)
def KBin1 (op : Operator) (r : E) (Q : V × Hp → Prop) : V × Hp → Prop := fun a => W T ((den T F r loc).v a.2) fun b => optW (binM op a.1 b.1 b.2) Q
def KBin2 (op : Operator) (a : V) (Q : V × Hp → Prop) : V × Hp → Prop := fun b => optW (binM op a b.1 b.2) Q
def KUn (op : UnaryOp) (Q : V × Hp → Prop) : V × Hp → Prop := fun a => optW (negM op a.1) (KB a.2 Q)
def KNot (Q : Bool × Hp → Prop) : Bool × Hp → Prop := fun a => Q (!a.1, a.2)
def KTru (Q : Bool × Hp → Prop) : V × Hp → Prop := fun a => optW (truthM a.1 a.2) (KB a.2 Q)
def KIfV (a b : E) (Q : V × Hp → Prop) : Bool × Hp → Prop := fun r => if r.1 then W T ((den T F a loc).v r.2) Q else W T ((den T F b loc).v r.2) Q
def KIfT (a b : E) (Q : Bool × Hp → Prop) : Bool × Hp → Prop := fun r => if r.1 then W T ((den T F a loc).t r.2) Q else W T ((den T F b loc).t r.2) Q
def KLst (Q : V × Hp → Prop) : List V × Hp → Prop := fun r => r.1.length ≤ big ∧ Q (.obj r.2.length, r.2 ++ [.list r.1])
def KTpl (Q : V × Hp → Prop) : List V × Hp → Prop := fun r => r.1.length ≤ big ∧ Q (.tup r.1, r.2)
def KTplA (es : E) (H : Hp) (Q : Loc × Hp → Prop) : List V → Prop := fun vs => W T ((den T F es loc).al vs H) Q
def KCmp1 (op : CmpOp) (r : E) (Q : Bool × Hp → Prop) : V × Hp → Prop := fun a => W T ((den T F r loc).v a.2) fun b => optW (cmpM op a.1 b.1 b.2) (KB b.2 Q)
def KCmp2 (op : CmpOp) (a : V) (Q : Bool × Hp → Prop) : V × Hp → Prop := fun b => optW (cmpM op a b.1 b.2) (KB b.2 Q)
def KBool (Q : V × Hp → Prop) : Bool × Hp → Prop := fun b => Q (.bool b.1, b.2)
def KMeth1 (x : Str) (args kws : E) (Q : V × Hp → Prop) : V × Hp → Prop := fun ov => optW (getMethM T ov.1 x ov.2) fun f =>
  W T ((den T F args loc).l ov.2) fun vs => W T ((den T F kws loc).k vs.2) fun ks => W T (callM T f.1 (f.2 ++ vs.1) ks.1 F.depth ks.2) Q
def KMeth2 (args kws : E) (H : Hp) (Q : V × Hp → Prop) : V × List V → Prop := fun f =>
  W T ((den T F args loc).l H) fun vs => W T ((den T F kws loc).k vs.2) fun ks => W T (callM T f.1 (f.2 ++ vs.1) ks.1 F.depth ks.2) Q
def KCall1 (args kws : E) (Q : V × Hp → Prop) : V × Hp → Prop := fun fv =>
  W T ((den T F args loc).l fv.2) fun vs => W T ((den T F kws loc).k vs.2) fun ks => W T (callM T fv.1 vs.1 ks.1 F.depth ks.2) Q
def KArgs (f : V) (pre : List V) (kws : E) (Q : V × Hp → Prop) : List V × Hp → Prop := fun vs =>
  W T ((den T F kws loc).k vs.2) fun ks => W T (callM T f (pre ++ vs.1) ks.1 F.depth ks.2) Q
def KKws (f : V) (args : List V) (Q : V × Hp → Prop) : List (Str × V) × Hp → Prop := fun ks => W T (callM T f args ks.1 F.depth ks.2) Q
def KAttr (x : Str) (Q : V × Hp → Prop) : V × Hp → Prop := fun a => optW (getAttrM T a.1 x a.2) (KB a.2 Q)
def KAttrA (x : Str) (v : V) (Q : Loc × Hp → Prop) : V × Hp → Prop := fun o => optW (setAttrM o.1 x v o.2) fun H' => Q (loc, H')
def KLocA (Q : Loc × Hp → Prop) : Hp → Prop := fun H' => Q (loc, H')
def KSub1 (i : E) (Q : V × Hp → Prop) : V × Hp → Prop := fun a => W T ((den T F i loc).v a.2) fun b => optW (subM T a.1 b.1 b.2) (KB b.2 Q)
def KSub2 (a : V) (Q : V × Hp → Prop) : V × Hp → Prop := fun b => optW (subM T a b.1 b.2) (KB b.2 Q)
def KSubA1 (i : E) (v : V) (Q : Loc × Hp → Prop) : V × Hp → Prop := fun o => W T ((den T F i loc).v o.2) fun k => optW (setItemM o.1 k.1 v k.2) fun H' => Q (loc, H')
def KSubA2 (o v : V) (Q : Loc × Hp → Prop) : V × Hp → Prop := fun k => optW (setItemM o k.1 v k.2) (KLocA loc Q)
def KSl1 (lo hi : E) (Q : V × Hp → Prop) : V × Hp → Prop := fun a => W T ((den T F lo loc).o a.2) fun b => W T ((den T F hi loc).o b.2) fun c => optW (sliceM T a.1 b.1 c.1 c.2) Q
def KSl2 (a : V) (hi : E) (Q : V × Hp → Prop) : V × Hp → Prop := fun b => W T ((den T F hi loc).o b.2) fun c => optW (sliceM T a b.1 c.1 c.2) Q
def KSl3 (a b : V) (Q : V × Hp → Prop) : V × Hp → Prop := fun c => optW (sliceM T a b c.1 c.2) Q
def KL1 (r : E) (Q : List V × Hp → Prop) : V × Hp → Prop := fun a => W T ((den T F r loc).l a.2) fun b => Q (a.1 :: b.1, b.2)
def KL2 (v : V) (Q : List V × Hp → Prop) : List V × Hp → Prop := fun b => Q (v :: b.1, b.2)
def KK1 (x : Str) (r : E) (Q : List (Str × V) × Hp → Prop) : V × Hp → Prop := fun a => W T ((den T F r loc).k a.2) fun b => Q ((x, a.1) :: b.1, b.2)
def KK2 (x : Str) (v : V) (Q : List (Str × V) × Hp → Prop) : List (Str × V) × Hp → Prop := fun b => Q ((x, v) :: b.1, b.2)
def KTl (op : BoolOp) (r : E) (Q : Bool × Hp → Prop) : Bool × Hp → Prop := fun b => match op, b.1 with
  | .And, false => Q (false, b.2)
  | .Or, true => Q (true, b.2)
  | _, _ => W T ((den T F r loc).tl op b.2) Q
def KBl (op : BoolOp) (r : E) (Q : V × Hp → Prop) : V × Hp → Prop := fun a => optW (truthM a.1 a.2) fun t => match op, t with
  | .And, false => Q a
  | .Or, true => Q a
  | _, _ => W T ((den T F r loc).bl op a.2) Q
def KBl2 (op : BoolOp) (r : E) (a : V) (H : Hp) (Q : V × Hp → Prop) : Bool → Prop := fun t => match op, t with
  | .And, false => Q (a, H)
  | .Or, true => Q (a, H)
  | _, _ => W T ((den T F r loc).bl op H) Q
def KAl (r : E) (vs : List V) (Q : Loc × Hp → Prop) : Loc × Hp → Prop := fun y => W T ((den T F r y.1).al vs y.2) Q
def KComp1 (elt tgt ifs : E) (sc : Scope) (Q : V × Hp → Prop) : V × Hp → Prop := fun x => optW (iterM x.1 x.2) fun it =>
  optW (if sc.names.all (fun y => y.2 != .cell && (y.2 != .local || sc.names.lookup y.1 == some .local)) && sc.kind == .function then freeCells F sc.names [] else none) fun cs =>
    WT T (.comp elt tgt ifs it x.2.length ⟨sc.names, cs, F.depth, false⟩ [] (x.2 ++ [.list []])) fun o => Q (.obj x.2.length, o.H)
def KComp2 (elt tgt ifs : E) (sc : Scope) (H : Hp) (Q : V × Hp → Prop) : It → Prop := fun it =>
  optW (if sc.names.all (fun y => y.2 != .cell && (y.2 != .local || sc.names.lookup y.1 == some .local)) && sc.kind == .function then freeCells F sc.names [] else none) fun cs =>
    WT T (.comp elt tgt ifs it H.length ⟨sc.names, cs, F.depth, false⟩ [] (H ++ [.list []])) fun o => Q (.obj H.length, o.H)
def KComp3 (elt tgt ifs : E) (names : List (Str × NameKind)) (H : Hp) (it : It) (Q : V × Hp → Prop) : List (Str × Nat) → Prop := fun cs =>
    WT T (.comp elt tgt ifs it H.length ⟨names, cs, F.depth, false⟩ [] (H ++ [.list []])) fun o => Q (.obj H.length, o.H)
def KComp4 (n : Nat) (Q : V × Hp → Prop) : Out → Prop := fun o => Q (.obj n, o.H)
end

section
variable {F : Fc} {loc : Loc} {H : Hp} {Q : V × Hp → Prop} {QB : Bool × Hp → Prop} {QL : List V × Hp → Prop} {QK : List (Str × V) × Hp → Prop} {QA : Loc × Hp → Prop} {a : V} {vs : List V} {ks : List (Str × V)} {b : Bool}
theorem KB_ {Q : α × Hp → Prop} {v : α} : KB H Q v ↔ Q (v, H) := Iff.rfl
theorem KBin1_ {op : Operator} {r : E} : KBin1 T F loc op r Q (a, H) ↔ W T ((den T F r loc).v H) (KBin2 op a Q) := Iff.rfl
theorem KBin2_ {op : Operator} {b : V} : KBin2 op a Q (b, H) ↔ optW (binM op a b H) Q := Iff.rfl
theorem KUn_ {op : UnaryOp} : KUn op Q (a, H) ↔ optW (negM op a) (KB H Q) := Iff.rfl
theorem KNot_ : KNot QB (b, H) ↔ QB (!b, H) := Iff.rfl
theorem KTru_ : KTru QB (a, H) ↔ optW (truthM a H) (KB H QB) := Iff.rfl
theorem KIfV_t {x y : E} : KIfV T F loc x y Q (true, H) ↔ W T ((den T F x loc).v H) Q := Iff.rfl
theorem KIfV_f {x y : E} : KIfV T F loc x y Q (false, H) ↔ W T ((den T F y loc).v H) Q := by unfold KIfV; simp
theorem KIfT_t {x y : E} : KIfT T F loc x y QB (true, H) ↔ W T ((den T F x loc).t H) QB := Iff.rfl
theorem KIfT_f {x y : E} : KIfT T F loc x y QB (false, H) ↔ W T ((den T F y loc).t H) QB := by unfold KIfT; simp
theorem KLst_ : KLst Q (vs, H) ↔ vs.length ≤ big ∧ Q (.obj H.length, H ++ [.list vs]) := Iff.rfl
theorem KTpl_ : KTpl Q (vs, H) ↔ vs.length ≤ big ∧ Q (.tup vs, H) := Iff.rfl
theorem KTplA_ {es : E} : KTplA T F loc es H QA vs ↔ W T ((den T F es loc).al vs H) QA := Iff.rfl
theorem KCmp1_ {op : CmpOp} {r : E} : KCmp1 T F loc op r QB (a, H) ↔ W T ((den T F r loc).v H) (KCmp2 op a QB) := Iff.rfl
theorem KCmp2_ {op : CmpOp} {b : V} : KCmp2 op a QB (b, H) ↔ optW (cmpM op a b H) (KB H QB) := Iff.rfl
theorem KBool_ : KBool Q (b, H) ↔ Q (.bool b, H) := Iff.rfl
theorem KMeth1_ {x : Str} {args kws : E} : KMeth1 T F loc x args kws Q (a, H) ↔ optW (getMethM T a x H) (KMeth2 T F loc args kws H Q) := Iff.rfl
theorem KMeth2_ {args kws : E} : KMeth2 T F loc args kws H Q (a, vs) ↔ W T ((den T F args loc).l H) (KArgs T F loc a vs kws Q) := Iff.rfl
theorem KCall1_ {args kws : E} : KCall1 T F loc args kws Q (a, H) ↔ W T ((den T F args loc).l H) (KArgs T F loc a [] kws Q) := Iff.rfl
theorem KArgs_ {f : V} {pre : List V} {kws : E} : KArgs T F loc f pre kws Q (vs, H) ↔ W T ((den T F kws loc).k H) (KKws T F f (pre ++ vs) Q) := Iff.rfl
theorem KKws_ {f : V} : KKws T F f vs Q (ks, H) ↔ W T (callM T f vs ks F.depth H) Q := Iff.rfl
theorem KAttr_ {x : Str} : KAttr T x Q (a, H) ↔ optW (getAttrM T a x H) (KB H Q) := Iff.rfl
theorem KAttrA_ {x : Str} {v : V} : KAttrA loc x v QA (a, H) ↔ optW (setAttrM a x v H) (KLocA loc QA) := Iff.rfl
theorem KLocA_ : KLocA loc QA H ↔ QA (loc, H) := Iff.rfl
theorem KSub1_ {i : E} : KSub1 T F loc i Q (a, H) ↔ W T ((den T F i loc).v H) (KSub2 T a Q) := Iff.rfl
theorem KSub2_ {b : V} : KSub2 T a Q (b, H) ↔ optW (subM T a b H) (KB H Q) := Iff.rfl
theorem KSubA1_ {i : E} {v : V} : KSubA1 T F loc i v QA (a, H) ↔ W T ((den T F i loc).v H) (KSubA2 loc a v QA) := Iff.rfl
theorem KSubA2_ {v b : V} : KSubA2 loc a v QA (b, H) ↔ optW (setItemM a b v H) (KLocA loc QA) := Iff.rfl
theorem KSl1_ {lo hi : E} : KSl1 T F loc lo hi Q (a, H) ↔ W T ((den T F lo loc).o H) (KSl2 T F loc a hi Q) := Iff.rfl
theorem KSl2_ {hi : E} {b : V} : KSl2 T F loc a hi Q (b, H) ↔ W T ((den T F hi loc).o H) (KSl3 T a b Q) := Iff.rfl
theorem KSl3_ {b c : V} : KSl3 T a b Q (c, H) ↔ optW (sliceM T a b c H) Q := Iff.rfl
theorem KL1_ {r : E} : KL1 T F loc r QL (a, H) ↔ W T ((den T F r loc).l H) (KL2 a QL) := Iff.rfl
theorem KL2_ : KL2 a QL (vs, H) ↔ QL (a :: vs, H) := Iff.rfl
theorem KK1_ {x : Str} {r : E} : KK1 T F loc x r QK (a, H) ↔ W T ((den T F r loc).k H) (KK2 x a QK) := Iff.rfl
theorem KK2_ {x : Str} : KK2 x a QK (ks, H) ↔ QK ((x, a) :: ks, H) := Iff.rfl
theorem KTl_At {r : E} : KTl T F loc .And r QB (true, H) ↔ W T ((den T F r loc).tl .And H) QB := Iff.rfl
theorem KTl_Af {r : E} : KTl T F loc .And r QB (false, H) ↔ QB (false, H) := Iff.rfl
theorem KTl_Ot {r : E} : KTl T F loc .Or r QB (true, H) ↔ QB (true, H) := Iff.rfl
theorem KTl_Of {r : E} : KTl T F loc .Or r QB (false, H) ↔ W T ((den T F r loc).tl .Or H) QB := Iff.rfl
theorem KTl_nil {op : BoolOp} : KTl T F loc op .nil QB (b, H) ↔ QB (b, H) := by
  cases op <;> cases b <;> first | exact Iff.rfl | exact W_ret
theorem KBl_ {op : BoolOp} {e r : E} : KBl T F loc op (.cons e r) Q (a, H) ↔ optW (truthM a H) (KBl2 T F loc op (.cons e r) a H Q) := Iff.rfl
theorem KBl2_At {r : E} : KBl2 T F loc .And r a H Q true ↔ W T ((den T F r loc).bl .And H) Q := Iff.rfl
theorem KBl2_Af {r : E} : KBl2 T F loc .And r a H Q false ↔ Q (a, H) := Iff.rfl
theorem KBl2_Ot {r : E} : KBl2 T F loc .Or r a H Q true ↔ Q (a, H) := Iff.rfl
theorem KBl2_Of {r : E} : KBl2 T F loc .Or r a H Q false ↔ W T ((den T F r loc).bl .Or H) Q := Iff.rfl
theorem KAl_ {r : E} {loc' : Loc} : KAl T F r vs QA (loc', H) ↔ W T ((den T F r loc').al vs H) QA := Iff.rfl
theorem KComp1_ {elt tgt ifs : E} {sc : Scope} : KComp1 T F elt tgt ifs sc Q (a, H) ↔ optW (iterM a H) (KComp2 T F elt tgt ifs sc H Q) := Iff.rfl
theorem KComp2_ {elt tgt ifs : E} {sc : Scope} {it : It} : KComp2 T F elt tgt ifs sc H Q it ↔ optW (if sc.names.all (fun y => y.2 != .cell && (y.2 != .local || sc.names.lookup y.1 == some .local)) && sc.kind == .function then freeCells F sc.names [] else none) (KComp3 T F elt tgt ifs sc.names H it Q) := Iff.rfl
theorem KComp3_ {elt tgt ifs : E} {names : List (Str × NameKind)} {it : It} {cs : List (Str × Nat)} : KComp3 T F elt tgt ifs names H it Q cs ↔ WT T (.comp elt tgt ifs it H.length ⟨names, cs, F.depth, false⟩ [] (H ++ [.list []])) (KComp4 H.length Q) := Iff.rfl

/-! ### the steps -/
theorem v_cst {c : Const} {k : Nat} {p : Pos} : W T ((den T F (.cst c k p) loc).v H) Q ↔ optW (constM c) (KB H Q) := W_bind.trans (by rw [W_opt]; simp only [W_ret]; exact Iff.rfl)
theorem v_name {x : Str} {p : Pos} (h : (x == dbg) = false) : W T ((den T F (.name x p) loc).v H) Q ↔ optW (loadM T F loc H x) (KB H Q) := by
  show W T (if x == dbg then _ else _) Q ↔ _
  rw [h]; exact W_bind.trans (by rw [W_opt]; simp only [W_ret]; exact Iff.rfl)
theorem a_name {x : Str} {p : Pos} {v : V} : W T ((den T F (.name x p) loc).a v H) QA ↔ optW (storeM F loc H x v) QA := W_opt
theorem v_bop {op : BoolOp} {es : E} {p : Pos} : W T ((den T F (.bop op es p) loc).v H) Q ↔ W T ((den T F es loc).bl op H) Q := Iff.rfl
theorem t_bop {op : BoolOp} {es : E} {p : Pos} : W T ((den T F (.bop op es p) loc).t H) QB ↔ W T ((den T F es loc).tl op H) QB := Iff.rfl
theorem v_bin {l : E} {op : Operator} {r : E} {p : Pos} : W T ((den T F (.bin l op r p) loc).v H) Q ↔ W T ((den T F l loc).v H) (KBin1 T F loc op r Q) :=
  W_bind.trans (by simp only [W_bind, W_opt]; exact Iff.rfl)
theorem t_not {e : E} {p : Pos} : W T ((den T F (.un .Not e p) loc).t H) QB ↔ W T ((den T F e loc).t H) (KNot QB) :=
  W_bind.trans (by simp only [W_ret]; exact Iff.rfl)
theorem v_neg {e : E} {p : Pos} : W T ((den T F (.un .USub e p) loc).v H) Q ↔ W T ((den T F e loc).v H) (KUn .USub Q) :=
  W_bind.trans (by simp only [W_bind, W_opt, W_ret]; exact Iff.rfl)
theorem v_ife {t x y : E} {p : Pos} : W T ((den T F (.ife t x y p) loc).v H) Q ↔ W T ((den T F t loc).t H) (KIfV T F loc x y Q) := by
  refine W_bind.trans ?_
  have : (fun r : Bool × Hp => W T (if r.1 then (den T F x loc).v r.2 else (den T F y loc).v r.2) Q) = KIfV T F loc x y Q := by
    funext r; unfold KIfV; obtain ⟨b, H⟩ := r; cases b <;> rfl
  rw [this]
theorem t_ife {t x y : E} {p : Pos} : W T ((den T F (.ife t x y p) loc).t H) QB ↔ W T ((den T F t loc).t H) (KIfT T F loc x y QB) := by
  refine W_bind.trans ?_
  have : (fun r : Bool × Hp => W T (if r.1 then (den T F x loc).t r.2 else (den T F y loc).t r.2) QB) = KIfT T F loc x y QB := by
    funext r; unfold KIfT; obtain ⟨b, H⟩ := r; cases b <;> rfl
  rw [this]
theorem W_guard {c : Prop} [Decidable c] {p : Prog α} {Q : α → Prop} : W T (if c then p else .fail) Q ↔ c ∧ W T p Q := by
  by_cases h : c
  · rw [if_pos h]; exact ⟨fun q => ⟨h, q⟩, fun q => q.2⟩
  · rw [if_neg h]; exact ⟨fun ⟨_, _, e, _⟩ => (by cases e), fun q => absurd q.1 h⟩
theorem W_guardn {c : Prop} [Decidable c] {p : Prog α} {Q : α → Prop} : W T (if c then .fail else p) Q ↔ ¬ c ∧ W T p Q := by
  by_cases h : c
  · rw [if_pos h]; exact ⟨fun ⟨_, _, e, _⟩ => (by cases e), fun q => absurd h q.1⟩
  · rw [if_neg h]; exact ⟨fun q => ⟨h, q⟩, fun q => q.2⟩
theorem v_lst {es : E} {p : Pos} : W T ((den T F (.lst es p) loc).v H) Q ↔ W T ((den T F es loc).l H) (KLst Q) :=
  W_bind.trans (by simp only [W_guard, W_ret]; exact Iff.rfl)
theorem v_tpl {es : E} {k : Nat} {p : Pos} : W T ((den T F (.tpl es k p) loc).v H) Q ↔ W T ((den T F es loc).l H) (KTpl Q) :=
  W_bind.trans (by simp only [W_guard, W_ret]; exact Iff.rfl)
theorem a_tpl {es : E} {k : Nat} {p : Pos} {v : V} : W T ((den T F (.tpl es k p) loc).a v H) QA ↔ optW (itemsM v H) (KTplA T F loc es H QA) :=
  W_bind.trans W_opt
theorem v_dict0 {p : Pos} : W T ((den T F (.dict0 p) loc).v H) Q ↔ Q (.obj H.length, H ++ [.dict [] 0]) := W_ret
theorem v_comp {elt tgt iter ifs : E} {sc : Scope} {p : Pos} : W T ((den T F (.comp elt tgt iter ifs sc p) loc).v H) Q ↔ W T ((den T F iter loc).v H) (KComp1 T F elt tgt ifs sc Q) :=
  W_bind.trans (by simp only [W_bind, W_opt, W_call, W_ret]; exact Iff.rfl)
theorem v_cmp {l : E} {op : CmpOp} {r : E} {p : Pos} : W T ((den T F (.cmp l op r p) loc).v H) Q ↔ W T ((den T F l loc).v H) (KCmp1 T F loc op r (KBool Q)) :=
  W_bind.trans (by simp only [W_bind, W_opt, W_ret]; exact Iff.rfl)
theorem t_cmp {l : E} {op : CmpOp} {r : E} {p : Pos} : W T ((den T F (.cmp l op r p) loc).t H) QB ↔ W T ((den T F l loc).v H) (KCmp1 T F loc op r QB) :=
  W_bind.trans (by simp only [W_bind, W_opt, W_ret]; exact Iff.rfl)
def callmOk (o : E) (ap : Pos) (args kws : E) (p : Pos) : Bool := !(isSuper o || ap.endLine != p.line || decide (20 ≤ lenE args + lenE kws))
theorem v_callm {o : E} {x : Str} {ap : Pos} {args kws : E} {p : Pos} (h : callmOk o ap args kws p = true) : W T ((den T F (.callm o x ap args kws p) loc).v H) Q ↔ W T ((den T F o loc).v H) (KMeth1 T F loc x args kws Q) := by
  unfold callmOk at h
  have h' : (isSuper o || ap.endLine != p.line || decide (20 ≤ lenE args + lenE kws)) = false := by simpa using h
  show W T (if (isSuper o || ap.endLine != p.line || decide (20 ≤ lenE args + lenE kws)) = true then _ else _) Q ↔ _
  rw [h']
  exact W_bind.trans (by simp only [W_bind, W_opt]; exact Iff.rfl)
theorem v_call {f args kws : E} {p : Pos} (h : isAttr f = false) : W T ((den T F (.call f args kws p) loc).v H) Q ↔ W T ((den T F f loc).v H) (KCall1 T F loc args kws Q) := by
  show W T (if isAttr f = true then _ else _) Q ↔ _
  rw [h]
  exact W_bind.trans (by simp only [W_bind]; exact Iff.rfl)
theorem v_attr {e : E} {x : Str} {p : Pos} (h : isSuper e = false) : W T ((den T F (.attr e x p) loc).v H) Q ↔ W T ((den T F e loc).v H) (KAttr T x Q) := by
  show W T (if isSuper e = true then _ else _) Q ↔ _
  rw [h]
  exact W_bind.trans (by simp only [W_bind, W_opt, W_ret]; exact Iff.rfl)
theorem a_attr {e : E} {x : Str} {p : Pos} {v : V} : W T ((den T F (.attr e x p) loc).a v H) QA ↔ W T ((den T F e loc).v H) (KAttrA loc x v QA) :=
  W_bind.trans (by simp only [W_bind, W_opt, W_ret]; exact Iff.rfl)
theorem v_sub {e i : E} {p : Pos} : W T ((den T F (.sub e i p) loc).v H) Q ↔ W T ((den T F e loc).v H) (KSub1 T F loc i Q) :=
  W_bind.trans (by simp only [W_bind, W_opt, W_ret]; exact Iff.rfl)
theorem a_sub {e i : E} {p : Pos} {v : V} : W T ((den T F (.sub e i p) loc).a v H) QA ↔ W T ((den T F e loc).v H) (KSubA1 T F loc i v QA) :=
  W_bind.trans (by simp only [W_bind, W_opt, W_ret]; exact Iff.rfl)
theorem v_slice {e lo hi : E} {sp p : Pos} : W T ((den T F (.slice e lo hi sp p) loc).v H) Q ↔ W T ((den T F e loc).v H) (KSl1 T F loc lo hi Q) :=
  W_bind.trans (by simp only [W_bind, W_opt]; exact Iff.rfl)
theorem l_nil : W T ((den T F .nil loc).l H) QL ↔ QL ([], H) := W_ret
theorem k_nil : W T ((den T F .nil loc).k H) QK ↔ QK ([], H) := W_ret
theorem tl_nilA : W T ((den T F .nil loc).tl .And H) QB ↔ QB (true, H) := W_ret
theorem tl_nilO : W T ((den T F .nil loc).tl .Or H) QB ↔ QB (false, H) := W_ret
theorem al_nil : W T ((den T F .nil loc).al [] H) QA ↔ QA (loc, H) := W_ret
theorem l_cons {e r : E} : W T ((den T F (.cons e r) loc).l H) QL ↔ W T ((den T F e loc).v H) (KL1 T F loc r QL) :=
  W_bind.trans (by simp only [W_bind, W_ret]; exact Iff.rfl)
theorem tl_cons {op : BoolOp} {e r : E} : W T ((den T F (.cons e r) loc).tl op H) QB ↔ W T ((den T F e loc).t H) (KTl T F loc op r QB) := by
  refine W_bind.trans ?_
  have : (fun b : Bool × Hp => W T (match op, b.1 with | .And, false => .ret (false, b.2) | .Or, true => .ret (true, b.2) | _, _ => (den T F r loc).tl op b.2) QB) = KTl T F loc op r QB := by
    funext b; obtain ⟨b, H⟩ := b; cases op <;> cases b <;> first | exact propext W_ret | rfl
  rw [← this] <;> exact Iff.rfl
theorem bl_last {op : BoolOp} {e : E} : W T ((den T F (.cons e .nil) loc).bl op H) Q ↔ W T ((den T F e loc).v H) Q :=
  W_bind.trans (by simp only [W_ret])
theorem bl_cons {op : BoolOp} {e f r : E} : W T ((den T F (.cons e (.cons f r)) loc).bl op H) Q ↔ W T ((den T F e loc).v H) (KBl T F loc op (.cons f r) Q) := by
  refine W_bind.trans ?_
  have : (fun a : V × Hp => W T ((Prog.opt (truthM a.1 a.2)).bind fun t => match op, t with | .And, false => .ret a | .Or, true => .ret a | _, _ => (den T F (.cons f r) loc).bl op a.2) Q) = KBl T F loc op (.cons f r) Q := by
    funext a
    refine propext (W_bind.trans (W_opt.trans ?_))
    unfold KBl
    have : (fun t : Bool => W T (match op, t with | .And, false => .ret a | .Or, true => .ret a | _, _ => (den T F (.cons f r) loc).bl op a.2) Q) = fun t => match op, t with | .And, false => Q a | .Or, true => Q a | _, _ => W T ((den T F (.cons f r) loc).bl op a.2) Q := by
      funext t; cases op <;> cases t <;> first | exact propext W_ret | rfl
    rw [this]
  rw [← this] <;> exact Iff.rfl
theorem al_cons {e r : E} {v : V} : W T ((den T F (.cons e r) loc).al (v :: vs) H) QA ↔ W T ((den T F e loc).a v H) (KAl T F r vs QA) := W_bind
theorem k_kw {x : Str} {e r : E} {kp : Pos} : W T ((den T F (.kw x e kp r) loc).k H) QK ↔ W T ((den T F e loc).v H) (KK1 T F loc x r QK) :=
  W_bind.trans (by simp only [W_bind, W_ret]; exact Iff.rfl)
theorem o_no : W T ((den T F .no loc).o H) Q ↔ Q (.none, H) := W_ret
theorem o_cst {c : Const} {k : Nat} {p : Pos} : W T ((den T F (.cst c k p) loc).o H) Q ↔ W T ((den T F (.cst c k p) loc).v H) Q := Iff.rfl
theorem o_name {x : Str} {p : Pos} : W T ((den T F (.name x p) loc).o H) Q ↔ W T ((den T F (.name x p) loc).v H) Q := Iff.rfl
theorem o_bop {op : BoolOp} {es : E} {p : Pos} : W T ((den T F (.bop op es p) loc).o H) Q ↔ W T ((den T F (.bop op es p) loc).v H) Q := Iff.rfl
theorem o_bin {l : E} {op : Operator} {r : E} {p : Pos} : W T ((den T F (.bin l op r p) loc).o H) Q ↔ W T ((den T F (.bin l op r p) loc).v H) Q := Iff.rfl
theorem o_neg {e : E} {p : Pos} : W T ((den T F (.un .USub e p) loc).o H) Q ↔ W T ((den T F (.un .USub e p) loc).v H) Q := Iff.rfl
theorem o_ife {t x y : E} {p : Pos} : W T ((den T F (.ife t x y p) loc).o H) Q ↔ W T ((den T F (.ife t x y p) loc).v H) Q := Iff.rfl
theorem o_lst {es : E} {p : Pos} : W T ((den T F (.lst es p) loc).o H) Q ↔ W T ((den T F (.lst es p) loc).v H) Q := Iff.rfl
theorem o_tpl {es : E} {k : Nat} {p : Pos} : W T ((den T F (.tpl es k p) loc).o H) Q ↔ W T ((den T F (.tpl es k p) loc).v H) Q := Iff.rfl
theorem o_dict0 {p : Pos} : W T ((den T F (.dict0 p) loc).o H) Q ↔ W T ((den T F (.dict0 p) loc).v H) Q := Iff.rfl
theorem o_comp {elt tgt iter ifs : E} {sc : Scope} {p : Pos} : W T ((den T F (.comp elt tgt iter ifs sc p) loc).o H) Q ↔ W T ((den T F (.comp elt tgt iter ifs sc p) loc).v H) Q := Iff.rfl
theorem o_cmp {l : E} {op : CmpOp} {r : E} {p : Pos} : W T ((den T F (.cmp l op r p) loc).o H) Q ↔ W T ((den T F (.cmp l op r p) loc).v H) Q := Iff.rfl
theorem o_callm {o : E} {x : Str} {ap : Pos} {args kws : E} {p : Pos} : W T ((den T F (.callm o x ap args kws p) loc).o H) Q ↔ W T ((den T F (.callm o x ap args kws p) loc).v H) Q := Iff.rfl
theorem o_call {f args kws : E} {p : Pos} : W T ((den T F (.call f args kws p) loc).o H) Q ↔ W T ((den T F (.call f args kws p) loc).v H) Q := Iff.rfl
theorem o_attr {e : E} {x : Str} {p : Pos} : W T ((den T F (.attr e x p) loc).o H) Q ↔ W T ((den T F (.attr e x p) loc).v H) Q := Iff.rfl
theorem o_sub {e i : E} {p : Pos} : W T ((den T F (.sub e i p) loc).o H) Q ↔ W T ((den T F (.sub e i p) loc).v H) Q := Iff.rfl
theorem o_slice {e lo hi : E} {sp p : Pos} : W T ((den T F (.slice e lo hi sp p) loc).o H) Q ↔ W T ((den T F (.slice e lo hi sp p) loc).v H) Q := Iff.rfl
theorem t_of_v {v : Hp → Prog (V × Hp)} : W T ((D.ex v).t H) QB ↔ W T (v H) (KTru QB) := W_bind.trans (by simp only [W_bind, W_opt, W_ret]; exact Iff.rfl)
theorem t_cst {c : Const} {k : Nat} {p : Pos} : W T ((den T F (.cst c k p) loc).t H) QB ↔ W T ((den T F (.cst c k p) loc).v H) (KTru QB) := t_of_v
theorem t_name {x : Str} {p : Pos} : W T ((den T F (.name x p) loc).t H) QB ↔ W T ((den T F (.name x p) loc).v H) (KTru QB) := t_of_v (v := (den T F (.name x p) loc).v)
theorem t_bin {l : E} {op : Operator} {r : E} {p : Pos} : W T ((den T F (.bin l op r p) loc).t H) QB ↔ W T ((den T F (.bin l op r p) loc).v H) (KTru QB) := t_of_v
theorem t_callm {o : E} {x : Str} {ap : Pos} {args kws : E} {p : Pos} : W T ((den T F (.callm o x ap args kws p) loc).t H) QB ↔ W T ((den T F (.callm o x ap args kws p) loc).v H) (KTru QB) := t_of_v
theorem t_call {f args kws : E} {p : Pos} : W T ((den T F (.call f args kws p) loc).t H) QB ↔ W T ((den T F (.call f args kws p) loc).v H) (KTru QB) := t_of_v
theorem t_attr {e : E} {x : Str} {p : Pos} : W T ((den T F (.attr e x p) loc).t H) QB ↔ W T ((den T F (.attr e x p) loc).v H) (KTru QB) := t_of_v (v := (den T F (.attr e x p) loc).v)
theorem t_sub {e i : E} {p : Pos} : W T ((den T F (.sub e i p) loc).t H) QB ↔ W T ((den T F (.sub e i p) loc).v H) (KTru QB) := t_of_v (v := (den T F (.sub e i p) loc).v)
theorem t_slice {e lo hi : E} {sp p : Pos} : W T ((den T F (.slice e lo hi sp p) loc).t H) QB ↔ W T ((den T F (.slice e lo hi sp p) loc).v H) (KTru QB) := t_of_v
end
end
end Mine.R

end
section
open PySem
set_option autoImplicit false
namespace Mine.R

theorem lookup_putS {l : List (Str × V)} {k x : Str} {v : V} : (putS l k v).lookup x = if x == k then some v else l.lookup x := by
  induction l with
  | nil =>
    simp only [putS, List.lookup_cons, List.lookup_nil]
    cases x == k <;> rfl
  | cons p r ih =>
    obtain ⟨k', v'⟩ := p
    simp only [putS]
    by_cases h : k' = k
    · subst h
      simp only [beq_self_eq_true, if_true, List.lookup_cons]
      cases x == k' <;> rfl
    · have : (k' == k) = false := by simpa using h
      simp only [this, Bool.false_eq_true, if_false, List.lookup_cons, ih]
      by_cases h2 : x = k'
      · subst h2; simp [h]
      · have : (x == k') = false := by simpa using h2
        simp only [this]

section
variable (T : Tp) (F : Fc) (loc : Loc)
def KSeq (r : S) (Q : Out → Prop) : Out → Prop := fun o => match o.f with
  | .next => W T ((denS T F r).l o.loc o.H) Q
  | _ => Q o
def KExpr (Q : Out → Prop) : V × Hp → Prop := fun a => Q ⟨.next, loc, a.2⟩
def KRet (Q : Out → Prop) : V × Hp → Prop := fun a => Q ⟨.ret a.1, loc, a.2⟩
def KAsg1 (t : E) (Q : Out → Prop) : V × Hp → Prop := fun a => W T ((den T F t loc).a a.1 a.2) fun b => Q ⟨.next, b.1, b.2⟩
def KAsg2 (Q : Out → Prop) : Loc × Hp → Prop := fun b => Q ⟨.next, b.1, b.2⟩
def KAug1 (x : Str) (op : Operator) (v : E) (H : Hp) (Q : Out → Prop) : V → Prop := fun a => W T ((den T F v loc).v H) fun b => optW (augM op a b.1 b.2) fun c => optW (storeM F loc c.2 x c.1) fun d => Q ⟨.next, d.1, d.2⟩
def KAug2 (x : Str) (op : Operator) (a : V) (Q : Out → Prop) : V × Hp → Prop := fun b => optW (augM op a b.1 b.2) fun c => optW (storeM F loc c.2 x c.1) fun d => Q ⟨.next, d.1, d.2⟩
def KAug3 (x : Str) (Q : Out → Prop) : V × Hp → Prop := fun c => optW (storeM F loc c.2 x c.1) fun d => Q ⟨.next, d.1, d.2⟩
def KIf (a b : S) (Q : Out → Prop) : Bool × Hp → Prop := fun r => if r.1 then W T ((denS T F a).l loc r.2) Q else W T ((denS T F b).l loc r.2) Q
def KFor1 (t : E) (a : S) (Q : Out → Prop) : V × Hp → Prop := fun x => optW (iterM x.1 x.2) fun i => WT T (.for_ t i a F loc x.2) Q
def KFor2 (t : E) (a : S) (H : Hp) (Q : Out → Prop) : It → Prop := fun i => WT T (.for_ t i a F loc H) Q
def KTry2 (f : S) (Q : Out → Prop) : Out → Prop := fun r => W T (match f with
        | .nil => .ret r
        | .cons .. => ((denS T F f).l r.loc r.H).bind fun q => match q.f with
          | .next => .ret ⟨r.f, q.loc, q.H⟩
          | _ => .fail
        | _ => .fail) Q
def KTry1 (o f : S) (Q : Out → Prop) : Out → Prop := fun r => match r.f with
  | .next => W T ((denS T F o).l r.loc r.H) (KTry2 T F f Q)
  | _ => KTry2 T F f Q r
def KTry3 (fl : Fl) (Q : Out → Prop) : Out → Prop := fun q => match q.f with
  | .next => Q ⟨fl, q.loc, q.H⟩
  | _ => False
def KBody (Q : Out → Prop) : Out → Prop := fun o => match o.f with
  | .ret v => Q ⟨.ret v, [], o.H⟩
  | .next => Q ⟨.ret .none, [], o.H⟩
  | _ => False
def KCallR (Q : V × Hp → Prop) : Out → Prop := fun o => match o.f with
  | .ret v => Q (v, o.H)
  | _ => False
def KCallI (n : Nat) (Q : V × Hp → Prop) : Out → Prop := fun o => match o.f with
  | .ret .none => Q (.obj n, o.H)
  | _ => False
def KDef (ps : Arguments) (a : S) (sc : Scope) (b : Str) (H : Hp) (Q : Out → Prop) : List (Str × Nat) → Prop := fun cs =>
  optW (storeM F loc H b (.clo ps a sc cs)) (KAsg2 Q)
end

section
variable {T : Tp} {F : Fc} {loc : Loc} {H : Hp} {Q : Out → Prop} {QV : V × Hp → Prop} {a : V} {fl : Fl} {v : V} {r : S}
theorem KSeq_next : KSeq T F r Q ⟨.next, loc, H⟩ ↔ W T ((denS T F r).l loc H) Q := Iff.rfl
theorem KSeq_ret : KSeq T F r Q ⟨.ret v, loc, H⟩ ↔ Q ⟨.ret v, loc, H⟩ := Iff.rfl
theorem KSeq_brk : KSeq T F r Q ⟨.brk, loc, H⟩ ↔ Q ⟨.brk, loc, H⟩ := Iff.rfl
theorem KSeq_cont : KSeq T F r Q ⟨.cont, loc, H⟩ ↔ Q ⟨.cont, loc, H⟩ := Iff.rfl
theorem KExpr_ : KExpr loc Q (a, H) ↔ Q ⟨.next, loc, H⟩ := Iff.rfl
theorem KRet_ : KRet loc Q (a, H) ↔ Q ⟨.ret a, loc, H⟩ := Iff.rfl
theorem KAsg1_ {t : E} : KAsg1 T F loc t Q (a, H) ↔ W T ((den T F t loc).a a H) (KAsg2 Q) := Iff.rfl
theorem KAsg2_ : KAsg2 Q (loc, H) ↔ Q ⟨.next, loc, H⟩ := Iff.rfl
theorem KAug1_ {x : Str} {op : Operator} {v : E} : KAug1 T F loc x op v H Q a ↔ W T ((den T F v loc).v H) (KAug2 F loc x op a Q) := Iff.rfl
theorem KAug2_ {x : Str} {op : Operator} {b : V} : KAug2 F loc x op a Q (b, H) ↔ optW (augM op a b H) (KAug3 F loc x Q) := Iff.rfl
theorem KAug3_ {x : Str} : KAug3 F loc x Q (a, H) ↔ optW (storeM F loc H x a) (KAsg2 Q) := Iff.rfl
theorem KIf_t {x y : S} : KIf T F loc x y Q (true, H) ↔ W T ((denS T F x).l loc H) Q := Iff.rfl
theorem KIf_f {x y : S} : KIf T F loc x y Q (false, H) ↔ W T ((denS T F y).l loc H) Q := by unfold KIf; simp
theorem KFor1_ {t : E} {x : S} : KFor1 T F loc t x Q (a, H) ↔ optW (iterM a H) (KFor2 T F loc t x H Q) := Iff.rfl
theorem KFor2_ {t : E} {x : S} {it : It} : KFor2 T F loc t x H Q it ↔ WT T (.for_ t it x F loc H) Q := Iff.rfl
theorem KTry1_next {o f : S} : KTry1 T F o f Q ⟨.next, loc, H⟩ ↔ W T ((denS T F o).l loc H) (KTry2 T F f Q) := Iff.rfl
theorem KTry1_ret {o f : S} : KTry1 T F o f Q ⟨.ret v, loc, H⟩ ↔ KTry2 T F f Q ⟨.ret v, loc, H⟩ := Iff.rfl
theorem KTry1_brk {o f : S} : KTry1 T F o f Q ⟨.brk, loc, H⟩ ↔ KTry2 T F f Q ⟨.brk, loc, H⟩ := Iff.rfl
theorem KTry1_cont {o f : S} : KTry1 T F o f Q ⟨.cont, loc, H⟩ ↔ KTry2 T F f Q ⟨.cont, loc, H⟩ := Iff.rfl
theorem KTry2_nil {o : Out} : KTry2 T F .nil Q o ↔ Q o := W_ret
theorem KTry2_cons {s r : S} : KTry2 T F (.cons s r) Q ⟨fl, loc, H⟩ ↔ W T ((denS T F (.cons s r)).l loc H) (KTry3 fl Q) := by
  refine W_bind.trans ?_
  have : (fun q : Out => W T (match q.f with | .next => Prog.ret (⟨fl, q.loc, q.H⟩ : Out) | _ => .fail) Q) = KTry3 fl Q := by
    funext q; obtain ⟨f, l, H⟩ := q
    cases f <;> first | exact propext W_ret | exact propext ⟨fun ⟨_, _, e, _⟩ => (by cases e), fun e => e.elim⟩
  rw [← this]
theorem KTry3_ : KTry3 fl Q ⟨.next, loc, H⟩ ↔ Q ⟨fl, loc, H⟩ := Iff.rfl
theorem KBody_ret : KBody Q ⟨.ret v, loc, H⟩ ↔ Q ⟨.ret v, [], H⟩ := Iff.rfl
theorem KBody_next : KBody Q ⟨.next, loc, H⟩ ↔ Q ⟨.ret .none, [], H⟩ := Iff.rfl
theorem KCallR_ : KCallR QV ⟨.ret v, loc, H⟩ ↔ QV (v, H) := Iff.rfl
theorem KCallI_ {n : Nat} : KCallI n QV ⟨.ret .none, loc, H⟩ ↔ QV (.obj n, H) := Iff.rfl
theorem KComp4_ {n : Nat} : KComp4 n QV ⟨fl, loc, H⟩ ↔ QV (.obj n, H) := Iff.rfl
theorem KDef_ {ps : Arguments} {x : S} {sc : Scope} {b : Str} {cs : List (Str × Nat)} : KDef F loc ps x sc b H Q cs ↔ optW (storeM F loc H b (.clo ps x sc cs)) (KAsg2 Q) := Iff.rfl

theorem W_fail {α : Type} {Q : α → Prop} : W T (.fail) Q ↔ False := ⟨fun ⟨_, _, e, _⟩ => (by cases e), fun e => e.elim⟩
theorem s_nil : W T ((denS T F .nil).l loc H) Q ↔ Q ⟨.next, loc, H⟩ := W_ret
theorem s_cons {s r : S} : W T ((denS T F (.cons s r)).l loc H) Q ↔ W T ((denS T F s).s loc H) (KSeq T F r Q) := by
  refine W_bind.trans ?_
  have : (fun o : Out => W T (match o.f with | .next => (denS T F r).l o.loc o.H | _ => .ret o) Q) = KSeq T F r Q := by
    funext o; obtain ⟨f, l, H⟩ := o; cases f <;> first | exact propext W_ret | rfl
  rw [← this] <;> exact Iff.rfl
theorem s_expr {e : E} {p : Pos} (h : isCompE e = false) : W T ((denS T F (.expr e p)).s loc H) Q ↔ W T ((den T F e loc).v H) (KExpr loc Q) := by
  show W T (if isCompE e = true then _ else _) Q ↔ _
  rw [h]; exact W_bind.trans (by simp only [W_ret]; exact Iff.rfl)
theorem s_ret {e : E} {p : Pos} : W T ((denS T F (.ret e p)).s loc H) Q ↔ W T ((den T F e loc).o H) (KRet loc Q) :=
  W_bind.trans (by simp only [W_ret]; exact Iff.rfl)
theorem s_asg {t v : E} {p : Pos} (h : (isTpl t && isTpl v) = false) : W T ((denS T F (.asg t v p)).s loc H) Q ↔ W T ((den T F v loc).v H) (KAsg1 T F loc t Q) := by
  show W T (if (isTpl t && isTpl v) = true then _ else _) Q ↔ _
  rw [h]; exact W_bind.trans (by simp only [W_bind, W_ret]; exact Iff.rfl)
theorem s_aug {x : Str} {np p : Pos} {op : Operator} {v : E} : W T ((denS T F (.aug x np op v p)).s loc H) Q ↔ optW (loadM T F loc H x) (KAug1 T F loc x op v H Q) :=
  W_bind.trans (by simp only [W_bind, W_opt, W_ret]; exact Iff.rfl)
theorem s_ife {t : E} {x y : S} {p : Pos} : W T ((denS T F (.ife t x y p)).s loc H) Q ↔ W T ((den T F t loc).t H) (KIf T F loc x y Q) := by
  refine W_bind.trans ?_
  have : (fun r : Bool × Hp => W T (if r.1 then (denS T F x).l loc r.2 else (denS T F y).l loc r.2) Q) = KIf T F loc x y Q := by
    funext r; unfold KIf; obtain ⟨b, H⟩ := r; cases b <;> rfl
  rw [this]
theorem s_whl {t : E} {x : S} {p : Pos} : W T ((denS T F (.whl t x p)).s loc H) Q ↔ WT T (.whl t x F loc H) Q :=
  W_call.trans (by simp only [W_ret])
theorem s_for {t it : E} {x : S} {p : Pos} : W T ((denS T F (.for_ t it x p)).s loc H) Q ↔ W T ((den T F it loc).v H) (KFor1 T F loc t x Q) :=
  W_bind.trans (by simp only [W_bind, W_opt, W_call, W_ret]; exact Iff.rfl)
theorem s_try {x o f : S} {hs : List ExceptHandler} {p : Pos} : W T ((denS T F (.try_ x hs o f p)).s loc H) Q ↔ W T ((denS T F x).l loc H) (KTry1 T F o f Q) := by
  refine W_bind.trans ?_
  have : (fun r : Out => W T ((match r.f with | .next => (denS T F o).l r.loc r.H | _ => Prog.ret r).bind fun r => match f with
        | .nil => .ret r
        | .cons .. => ((denS T F f).l r.loc r.H).bind fun q => match q.f with
          | .next => .ret ⟨r.f, q.loc, q.H⟩
          | _ => .fail
        | _ => .fail) Q) = KTry1 T F o f Q := by
    funext r; obtain ⟨g, l, H⟩ := r
    cases g <;> first | exact propext W_bind | exact propext (W_bind.trans W_ret)
  rw [← this] <;> exact Iff.rfl
theorem s_brk {p : Pos} : W T ((denS T F (.brk p)).s loc H) Q ↔ Q ⟨.brk, loc, H⟩ := W_ret
theorem s_cont {p : Pos} : W T ((denS T F (.cont p)).s loc H) Q ↔ Q ⟨.cont, loc, H⟩ := W_ret
theorem s_pass {p : Pos} : W T ((denS T F (.pass p)).s loc H) Q ↔ Q ⟨.next, loc, H⟩ := W_ret
theorem s_def {x b : Str} {ps : Arguments} {y : S} {sc : Scope} {p : Pos} (h : (!F.tab || !ps.defaults.isEmpty || !ps.kw_defaults.isEmpty || x != b || !plainPs ps) = false) (hd : T.defs p.line p.col = some x) :
    W T ((denS T F (.def_ x ps y sc b p)).s loc H) Q ↔ optW (freeCells F sc.names []) (KDef F loc ps y sc b H Q) := by
  show W T (if (!F.tab || !ps.defaults.isEmpty || !ps.kw_defaults.isEmpty || x != b || !plainPs ps || T.defs p.line p.col != some x) = true then _ else _) Q ↔ _
  rw [h, hd]
  simp only [bne_self_eq_false, Bool.or_false, Bool.false_eq_true, if_false]
  exact W_bind.trans (by simp only [W_bind, W_opt, W_ret]; exact Iff.rfl)

/-! ## calls -/
theorem W_body {x : S} {e : Ent} : W T (runBody T x e) Q ↔ W T ((denS T e.F x).l e.loc e.H) (KBody Q) := by
  refine W_bind.trans ?_
  have : (fun o : Out => W T (match o.f with | .ret v => Prog.ret (⟨.ret v, [], o.H⟩ : Out) | .next => .ret ⟨.ret .none, [], o.H⟩ | _ => .fail) Q) = KBody Q := by
    funext o; obtain ⟨f, l, H⟩ := o
    cases f <;> first | exact propext W_ret | exact propext ⟨fun ⟨_, _, e, _⟩ => (by cases e), fun e => e.elim⟩
  rw [← this] <;> exact Iff.rfl
theorem WT_fn {x : Str} {i : FnI} {args : List V} {kws b : List (Str × V)} {d : Nat} {e : Ent} (h : T.fn x = some i) (hb : bindM i.params i.dflt args kws = some b) (he : enterM i.sc [] b d i.tab H = some e) :
    WT T (.call (.glo x) args kws d H) Q ↔ W T ((denS T e.F i.body).l e.loc e.H) (KBody Q) := by
  rw [WT_W]
  simp only [denT, h]
  rw [W_bind, W_opt, hb, optW_some, W_bind, W_opt, he, optW_some, W_body]
theorem WT_clo {ps : Arguments} {x : S} {sc : Scope} {cells : List (Str × Nat)} {args : List V} {kws b : List (Str × V)} {d : Nat} {e : Ent} (hb : bindM ps [] args kws = some b) (he : enterM sc cells b d false H = some e) :
    WT T (.call (.clo ps x sc cells) args kws d H) Q ↔ W T ((denS T e.F x).l e.loc e.H) (KBody Q) := by
  rw [WT_W]
  simp only [denT]
  rw [W_bind, W_opt, hb, optW_some, W_bind, W_opt, he, optW_some, W_body]
theorem W_callbi {id : String} {args : List V} {d : Nat} : W T (callM T (.st (.builtin id)) args [] d H) QV ↔ optW (biM id args H) QV := W_opt
theorem W_callty {id : String} {args : List V} {d : Nat} : W T (callM T (.st (.type id)) args [] d H) QV ↔ optW (tyM id args H) QV := W_opt
theorem callR_eq : (fun o : Out => W T (match o.f with | .ret v => Prog.ret (v, o.H) | _ => .fail) QV) = KCallR QV := by
  funext o; obtain ⟨f, l, H⟩ := o
  cases f <;> first | exact propext W_ret | exact propext W_fail
theorem W_callfn {x : Str} {args : List V} {kws : List (Str × V)} {d : Nat} (h : (T.fn x).isSome = true) :
    W T (callM T (.glo x) args kws d H) QV ↔ WT T (.call (.glo x) args kws d H) (KCallR QV) := by
  obtain ⟨i, hi⟩ := Option.isSome_iff_exists.mp h
  simp only [callM, hi]
  exact W_call.trans (iff_of_eq (congrArg (WT T _) callR_eq))
theorem W_callclo {ps : Arguments} {x : S} {sc : Scope} {cells : List (Str × Nat)} {args : List V} {kws : List (Str × V)} {d : Nat} :
    W T (callM T (.clo ps x sc cells) args kws d H) QV ↔ WT T (.call (.clo ps x sc cells) args kws d H) (KCallR QV) := by
  simp only [callM]
  exact W_call.trans (iff_of_eq (congrArg (WT T _) callR_eq))
theorem W_callcls {x q : Str} {args : List V} {kws : List (Str × V)} {d : Nat} (h : T.fn x = none) (hm : T.meth x "__init__" = some q) (hd : d < 150) :
    W T (callM T (.glo x) args kws d H) QV ↔ WT T (.call (.glo q) (.obj H.length :: args) kws (d + 1) (H ++ [.inst x []])) (KCallI H.length QV) := by
  simp only [callM, h, hm]
  rw [if_pos hd]
  have : (fun o : Out => W T (match o.f with | .ret .none => Prog.ret (V.obj H.length, o.H) | _ => .fail) QV) = KCallI H.length QV := by
    funext o; obtain ⟨f, l, H'⟩ := o
    cases f with
    | ret v => cases v <;> first | exact propext W_ret | exact propext W_fail
    | _ => exact propext W_fail
  exact W_call.trans (iff_of_eq (congrArg (WT T _) this))

/-! ## loops -/
theorem WT_whl_step {t : E} {x : S} : WT T (.whl t x F loc H) Q ↔ W T ((den T F t loc).t H) fun r => if r.1 then W T ((denS T F x).l loc r.2) fun o => match o.f with
      | .next => WT T (.whl t x F o.loc o.H) Q
      | .cont => WT T (.whl t x F o.loc o.H) Q
      | .brk => Q ⟨.next, o.loc, o.H⟩
      | .ret v => Q ⟨.ret v, o.loc, o.H⟩
    else Q ⟨.next, loc, r.2⟩ := by
  rw [WT_W]
  refine W_bind.trans ?_
  apply iff_of_eq; congr; funext r; obtain ⟨b, H'⟩ := r
  cases b with
  | false => exact propext W_ret
  | true =>
    refine propext (W_bind.trans ?_)
    rw [if_pos rfl]
    apply iff_of_eq; congr; funext o; obtain ⟨f, l, H2⟩ := o
    cases f <;> first | exact propext W_ret | exact propext (W_call.trans (by simp only [W_ret]))
def KWhl (t : E) (x : S) (T : Tp) (F : Fc) (Q : Out → Prop) : Out → Prop := fun o => match o.f with
      | .next => WT T (.whl t x F o.loc o.H) Q
      | .cont => WT T (.whl t x F o.loc o.H) Q
      | .brk => Q ⟨.next, o.loc, o.H⟩
      | .ret v => Q ⟨.ret v, o.loc, o.H⟩
/-- one turn's end, by an invariant and a measure -/
def KTurn {α : Type} (R : α → Prop) (I : α → Loc → Hp → Prop) (Q : Out → Prop) : Out → Prop := fun o => match o.f with
      | .next => ∃ y, R y ∧ I y o.loc o.H
      | .cont => ∃ y, R y ∧ I y o.loc o.H
      | .brk => Q ⟨.next, o.loc, o.H⟩
      | .ret v => Q ⟨.ret v, o.loc, o.H⟩
theorem KTurn_next {α : Type} {R : α → Prop} {I : α → Loc → Hp → Prop} : KTurn R I Q ⟨.next, loc, H⟩ ↔ ∃ y, R y ∧ I y loc H := Iff.rfl
theorem KTurn_cont {α : Type} {R : α → Prop} {I : α → Loc → Hp → Prop} : KTurn R I Q ⟨.cont, loc, H⟩ ↔ ∃ y, R y ∧ I y loc H := Iff.rfl
theorem KTurn_brk {α : Type} {R : α → Prop} {I : α → Loc → Hp → Prop} : KTurn R I Q ⟨.brk, loc, H⟩ ↔ Q ⟨.next, loc, H⟩ := Iff.rfl
theorem KTurn_ret {α : Type} {R : α → Prop} {I : α → Loc → Hp → Prop} : KTurn R I Q ⟨.ret v, loc, H⟩ ↔ Q ⟨.ret v, loc, H⟩ := Iff.rfl
def KWT {α : Type} (R : α → Prop) (I : α → Loc → Hp → Prop) (T : Tp) (F : Fc) (loc : Loc) (x : S) (Q : Out → Prop) : Bool × Hp → Prop := fun r =>
  if r.1 then W T ((denS T F x).l loc r.2) (KTurn R I Q) else Q ⟨.next, loc, r.2⟩
theorem KWT_t {α : Type} {R : α → Prop} {I : α → Loc → Hp → Prop} {x : S} : KWT R I T F loc x Q (true, H) ↔ W T ((denS T F x).l loc H) (KTurn R I Q) := Iff.rfl
theorem KWT_f {α : Type} {R : α → Prop} {I : α → Loc → Hp → Prop} {x : S} : KWT R I T F loc x Q (false, H) ↔ Q ⟨.next, loc, H⟩ := by unfold KWT; simp
theorem WT_whl {α : Type} (μ : α → Nat) (I : α → Loc → Hp → Prop) {t : E} {x : S} (y0 : α) (h0 : I y0 loc H)
    (step : ∀ y loc H, I y loc H → W T ((den T F t loc).t H) (KWT (fun z => μ z < μ y) I T F loc x Q)) : WT T (.whl t x F loc H) Q := by
  have key : ∀ n y loc H, μ y ≤ n → I y loc H → WT T (.whl t x F loc H) Q := by
    intro n
    induction n with
    | zero =>
      intro y loc H hn hI
      rw [WT_whl_step]
      refine W_mono (step y loc H hI) ?_
      rintro ⟨b, H'⟩ hq
      cases b with
      | false => rw [KWT_f] at hq; simpa using hq
      | true =>
        rw [KWT_t] at hq
        rw [if_pos rfl]
        refine W_mono hq ?_
        rintro ⟨f, l, H2⟩ hr
        cases f with
        | next => obtain ⟨z, hz, _⟩ := hr; omega
        | cont => obtain ⟨z, hz, _⟩ := hr; omega
        | brk => exact hr
        | ret v => exact hr
    | succ n ih =>
      intro y loc H hn hI
      rw [WT_whl_step]
      refine W_mono (step y loc H hI) ?_
      rintro ⟨b, H'⟩ hq
      cases b with
      | false => rw [KWT_f] at hq; simpa using hq
      | true =>
        rw [KWT_t] at hq
        rw [if_pos rfl]
        refine W_mono hq ?_
        rintro ⟨f, l, H2⟩ hr
        cases f with
        | next => obtain ⟨z, hz, hi⟩ := hr; exact ih z _ _ (by omega) hi
        | cont => obtain ⟨z, hz, hi⟩ := hr; exact ih z _ _ (by omega) hi
        | brk => exact hr
        | ret v => exact hr
  exact key (μ y0) y0 loc H (Nat.le_refl _) h0

def KFA (I : Loc → Hp → Prop) (T : Tp) (F : Fc) (x : S) (Q : Out → Prop) : Loc × Hp → Prop := fun y => W T ((denS T F x).l y.1 y.2) (KTurn (α := Unit) (fun _ => True) (fun _ => I) Q)
theorem KFA_ {I : Loc → Hp → Prop} {x : S} : KFA I T F x Q (loc, H) ↔ W T ((denS T F x).l loc H) (KTurn (α := Unit) (fun _ => True) (fun _ => I) Q) := Iff.rfl
/-- a for over a row of values that stands fast -/
theorem WT_for_vals (I : List V → Loc → Hp → Prop) {t : E} {x : S} {vs : List V} (h0 : I vs loc H)
    (step : ∀ v r loc H, I (v :: r) loc H → W T ((den T F t loc).a v H) (KFA (I r) T F x Q))
    (fin : ∀ loc H, I [] loc H → Q ⟨.next, loc, H⟩) : WT T (.for_ t (.vals vs) x F loc H) Q := by
  induction vs generalizing loc H with
  | nil =>
    rw [WT_W]
    refine W_bind.mpr (W_opt.mpr (optW_some.mpr (W_ret.mpr (fin _ _ h0))))
  | cons v r ih =>
    rw [WT_W]
    refine W_bind.mpr (W_opt.mpr (optW_some.mpr (W_bind.mpr (W_mono (step v r loc H h0) ?_))))
    rintro ⟨loc1, H1⟩ hq
    refine W_bind.mpr (W_mono hq ?_)
    rintro ⟨f, l, H2⟩ hr
    cases f with
    | next => obtain ⟨_, _, hi⟩ := hr; exact W_call.mpr (WT_mono (ih hi) fun a q => W_ret.mpr q)
    | cont => obtain ⟨_, _, hi⟩ := hr; exact W_call.mpr (WT_mono (ih hi) fun a q => W_ret.mpr q)
    | brk => exact W_ret.mpr hr
    | ret v => exact W_ret.mpr hr
/-- a for over a list that stands where it stood: at each turn the list's items are told -/
theorem WT_for_lst (I : Nat → Loc → Hp → Prop) {t : E} {x : S} {i : Nat} {xs : List V} (k : Nat) (hk : k ≤ xs.length) (h0 : I k loc H)
    (hl : ∀ k loc H, I k loc H → listAt H i = some xs)
    (step : ∀ k v loc H, I k loc H → xs[k]? = some v → W T ((den T F t loc).a v H) (KFA (I (k + 1)) T F x Q))
    (fin : ∀ loc H, I xs.length loc H → Q ⟨.next, loc, H⟩) : WT T (.for_ t (.lst i k) x F loc H) Q := by
  have key : ∀ n k loc H, xs.length - k = n → k ≤ xs.length → I k loc H → WT T (.for_ t (.lst i k) x F loc H) Q := by
    intro n
    induction n with
    | zero =>
      intro k loc H hn hk h0
      have : k = xs.length := by omega
      subst this
      rw [WT_W]
      refine W_bind.mpr (W_opt.mpr ?_)
      simp only [nextM, hl _ _ _ h0, Option.map_some, List.getElem?_eq_none (Nat.le_refl _), Option.map_none]
      exact optW_some.mpr (W_ret.mpr (fin _ _ h0))
    | succ n ih =>
      intro k loc H hn hk h0
      have hlt : k < xs.length := by omega
      rw [WT_W]
      refine W_bind.mpr (W_opt.mpr ?_)
      simp only [nextM, hl _ _ _ h0, Option.map_some, List.getElem?_eq_getElem hlt]
      refine optW_some.mpr (W_bind.mpr (W_mono (step k _ loc H h0 (List.getElem?_eq_getElem hlt)) ?_))
      rintro ⟨loc1, H1⟩ hq
      refine W_bind.mpr (W_mono hq ?_)
      rintro ⟨f, l, H2⟩ hr
      cases f with
      | next => obtain ⟨_, _, hi⟩ := hr; exact W_call.mpr (WT_mono (ih _ _ _ (by omega) hlt hi) fun a q => W_ret.mpr q)
      | cont => obtain ⟨_, _, hi⟩ := hr; exact W_call.mpr (WT_mono (ih _ _ _ (by omega) hlt hi) fun a q => W_ret.mpr q)
      | brk => exact W_ret.mpr hr
      | ret v => exact W_ret.mpr hr
  exact key _ k loc H rfl hk h0
end
end Mine.R

end
section
open PySem
set_option autoImplicit false
namespace Mine.R
def entOk (sc : Scope) (cells : List (Str × Nat)) (bn : List Str) : Bool :=
  nodupS bn && nodupS (sc.names.map (·.1)) && (cells.isEmpty || sc.names.all fun y => y.2 != .cell) && sc.kind == .function && !sc.isCoroutine && !sc.isGenerator && bn.all (fun y => sc.names.lookup y == some .local || sc.names.lookup y == some .cell)
theorem enter_of {sc : Scope} {cells : List (Str × Nat)} {b : List (Str × V)} {d : Nat} {tab : Bool} {H : Hp} (hd : d < 150) (h : entOk sc cells (b.map (·.1)) = true) :
    enterM sc cells b d tab H = some ⟨⟨sc.names, newCells sc.names H.length ++ cells, d + 1, tab⟩, b.filter (fun y => sc.names.lookup y.1 == some .local), H ++ cellObjs b sc.names⟩ := by
  unfold enterM entOk at *
  simp only [Bool.and_eq_true, List.all_map] at h
  obtain ⟨⟨⟨⟨⟨⟨h1, h2⟩, h3⟩, h4⟩, h5⟩, h6⟩, h7⟩ := h
  rw [if_pos]
  simp only [Bool.and_eq_true, decide_eq_true_eq]
  exact ⟨⟨⟨⟨⟨⟨⟨hd, h1⟩, h2⟩, h3⟩, h4⟩, h5⟩, h6⟩, h7⟩
theorem newCells_none {names : List (Str × NameKind)} {n : Nat} (h : names.all (fun y => y.2 != .cell) = true) : newCells names n = [] := by
  induction names with
  | nil => rfl
  | cons p r ih =>
    obtain ⟨x, k⟩ := p
    simp only [List.all_cons, Bool.and_eq_true] at h
    cases k <;> first | exact ih h.2 | exact absurd h.1 (by decide)
theorem cellObjs_none {names : List (Str × NameKind)} {b : List (Str × V)} (h : names.all (fun y => y.2 != .cell) = true) : cellObjs b names = [] := by
  induction names with
  | nil => rfl
  | cons p r ih =>
    obtain ⟨x, k⟩ := p
    simp only [List.all_cons, Bool.and_eq_true] at h
    cases k <;> first | exact ih h.2 | exact absurd h.1 (by decide)
def entPl (sc : Scope) (bn : List Str) : Bool := entOk sc [] bn && sc.names.all (fun y => y.2 != .cell) && bn.all (fun y => sc.names.lookup y == some .local)
theorem enter_plain {sc : Scope} {b : List (Str × V)} {d : Nat} {tab : Bool} {H : Hp} (hd : d < 150) (h : entPl sc (b.map (·.1)) = true) :
    enterM sc [] b d tab H = some ⟨⟨sc.names, [], d + 1, tab⟩, b, H⟩ := by
  unfold entPl at h
  simp only [Bool.and_eq_true] at h
  obtain ⟨⟨h1, h2⟩, h3⟩ := h
  rw [enter_of hd h1, newCells_none h2, cellObjs_none h2]
  have : b.filter (fun y => sc.names.lookup y.1 == some .local) = b := by
    rw [List.filter_eq_self]
    intro y hy
    exact List.all_eq_true.mp h3 y.1 (List.mem_map_of_mem hy)
  rw [this]
  simp
theorem enter_plainC {sc : Scope} {cells : List (Str × Nat)} {b : List (Str × V)} {d : Nat} {tab : Bool} {H : Hp} (hd : d < 150) (h : entPl sc (b.map (·.1)) = true) :
    enterM sc cells b d tab H = some ⟨⟨sc.names, cells, d + 1, tab⟩, b, H⟩ := by
  unfold entPl at h
  simp only [Bool.and_eq_true] at h
  obtain ⟨⟨h1, h2⟩, h3⟩ := h
  have h1' : entOk sc cells (b.map (·.1)) = true := by
    unfold entOk at h1 ⊢
    simp only [Bool.and_eq_true] at h1 ⊢
    obtain ⟨⟨⟨⟨⟨⟨a1, a2⟩, a3⟩, a4⟩, a5⟩, a6⟩, a7⟩ := h1
    refine ⟨⟨⟨⟨⟨⟨a1, a2⟩, ?_⟩, a4⟩, a5⟩, a6⟩, a7⟩
    rw [h2]; simp
  rw [enter_of hd h1', newCells_none h2, cellObjs_none h2]
  have : b.filter (fun y => sc.names.lookup y.1 == some .local) = b := by
    rw [List.filter_eq_self]
    intro y hy
    exact List.all_eq_true.mp h3 y.1 (List.mem_map_of_mem hy)
  rw [this]
  simp
/-- a call of a plain def of the top -/
theorem WT_fnP {T : Tp} {x : Str} {i : FnI} {args : List V} {kws b : List (Str × V)} {d : Nat} {H : Hp} {Q : Out → Prop} (h : T.fn x = some i) (hb : bindM i.params i.dflt args kws = some b) (hd : d < 150) (he : entPl i.sc (b.map (·.1)) = true) :
    WT T (.call (.glo x) args kws d H) Q ↔ W T ((denS T ⟨i.sc.names, [], d + 1, i.tab⟩ i.body).l b H) (KBody Q) :=
  WT_fn h hb (enter_plain hd he)
end Mine.R

end
section
open PySem
set_option autoImplicit false
namespace Mine.R
theorem ofs_bne (a b : String) : (Str.ofString a != Str.ofString b) = (a != b) := by
  show (!(Str.ofString a == Str.ofString b)) = !(a == b)
  rw [ofs_beq]
theorem constM_none : constM .none = some .none := rfl
theorem constM_bool {b : Bool} : constM (.bool b) = some (.bool b) := rfl
theorem constM_int {i : Int} : constM (.int i) = some (.int i) := rfl
def cs (s : String) : List Nat := s.toList.map Char.toNat
theorem constM_str {s : String} (h : s.toList.length ≤ 1000) : constM (.str (Str.ofString s)) = some (.str (cs s)) := by
  unfold constM
  rw [Str.ofString_eq_toList]
  dsimp only
  rw [if_pos]
  · rfl
  · simp only [List.size_toArray, List.length_map, big]; exact Nat.le_trans h (by decide)
section
variable {H : Hp} {T : Tp} {x y : Int} {k l : List Nat} {b c : Bool} {vs : List V} {n : Nat}
theorem binM_add : binM .Add (.int x) (.int y) H = some (.int (x + y), H) := rfl
theorem binM_sub : binM .Sub (.int x) (.int y) H = some (.int (x - y), H) := rfl
theorem binM_mul (h : y.natAbs < 4294967296) : binM .Mult (.int x) (.int y) H = some (.int (x * y), H) := if_pos h
theorem binM_mod (h : y ≠ 0) : binM .Mod (.int x) (.int y) H = some (.int (x.fmod y), H) := if_neg h
theorem binM_adds (h : k.length + l.length ≤ big) : binM .Add (.str k) (.str l) H = some (.str (k ++ l), H) := if_pos h
theorem cmp_eqs : cmpM .Eq (.str k) (.str l) H = some (k == l) := rfl
theorem cmp_eqi : cmpM .Eq (.int x) (.int y) H = some (decide (x = y)) := rfl
theorem cmp_eqb : cmpM .Eq (.bool b) (.bool c) H = some (b == c) := rfl
theorem cmp_eq0s : cmpM .Eq .none (.str l) H = some false := rfl
theorem cmp_eqs0 : cmpM .Eq (.str l) .none H = some false := rfl
theorem cmp_nes : cmpM .NotEq (.str k) (.str l) H = some (k != l) := rfl
theorem cmp_nei : cmpM .NotEq (.int x) (.int y) H = some (decide (x ≠ y)) := rfl
theorem cmp_lt : cmpM .Lt (.int x) (.int y) H = some (decide (x < y)) := rfl
theorem cmp_le : cmpM .LtE (.int x) (.int y) H = some (decide (x ≤ y)) := rfl
theorem cmp_gt : cmpM .Gt (.int x) (.int y) H = some (decide (y < x)) := rfl
theorem cmp_ge : cmpM .GtE (.int x) (.int y) H = some (decide (y ≤ x)) := rfl
theorem cmp_ges : cmpM .GtE (.str k) (.str l) H = some (!decide (k < l)) := rfl
theorem cmp_les : cmpM .LtE (.str k) (.str l) H = some (!decide (l < k)) := rfl
theorem cmp_ins : cmpM .In (.str k) (.str l) H = some (subIn k l) := rfl
theorem cmp_int : cmpM .In (.str k) (.tup vs) H = (strsOf vs).map (·.any (k == ·)) := rfl
theorem cmp_is {v : V} : cmpM .Is v .none H = some (match v with | .none => true | _ => false) := by cases v <;> rfl
theorem cmp_isn {v : V} : cmpM .IsNot v .none H = some (match v with | .none => false | _ => true) := by cases v <;> rfl
theorem aug_add : augM .Add (.int x) (.int y) H = some (.int (x + y), H) := rfl
theorem aug_sub : augM .Sub (.int x) (.int y) H = some (.int (x - y), H) := rfl
theorem aug_adds (h : k.length + l.length ≤ big) : augM .Add (.str k) (.str l) H = some (.str (k ++ l), H) := if_pos h
theorem truth_none : truthM .none H = some false := rfl
theorem truth_bool : truthM (.bool b) H = some b := rfl
theorem truth_int : truthM (.int x) H = some (x != 0) := rfl
theorem truth_str : truthM (.str l) H = some (l != []) := rfl
theorem sub_str (h : wordI x = true) : subM T (.str l) (.int x) H = (indexL l x).map fun c => .str [c] := if_pos h
theorem sub_tup (h : wordI x = true) : subM T (.tup vs) (.int x) H = indexL vs x := if_pos h
theorem sub_lst {a : Nat} (h : wordI x = true) : subM T (.obj a) (.int x) H = (listAt H a).bind fun xs => indexL xs x := if_pos h
theorem sub_glo {a : Str} (h : wordI x = true) : subM T (.glo a) (.int x) H = (T.lst a).bind fun xs => indexL xs x := if_pos h
theorem sub_dict {a : Nat} : subM T (.obj a) (.str l) H = (dictAt H a).bind fun es => getD es.1 l := rfl
def sliceS (l : List Nat) (a b : Option (Option Int)) (H : Hp) : Option (V × Hp) := match a, b with
  | some a, some b => some (.str (sliceL l a b), H)
  | _, _ => none
theorem slice_str {lo hi : V} : sliceM T (.str l) lo hi H = sliceS l (intOpt lo) (intOpt hi) H := by
  unfold sliceM sliceS; cases intOpt lo <;> cases intOpt hi <;> rfl
theorem sliceS_ {a b : Option Int} : sliceS l (some a) (some b) H = some (.str (sliceL l a b), H) := rfl
def sliceO (xs : Option (List V)) (a b : Option (Option Int)) (H : Hp) : Option (V × Hp) := match a, b, xs with
  | some a, some b, some xs => some (.obj H.length, H ++ [.list (sliceL xs a b)])
  | _, _, _ => none
theorem slice_obj {i : Nat} {lo hi : V} : sliceM T (.obj i) lo hi H = sliceO (listAt H i) (intOpt lo) (intOpt hi) H := by
  unfold sliceM sliceO
  cases h1 : intOpt lo <;> cases h2 : intOpt hi <;> cases h3 : listAt H i <;> simp [h3]
theorem sliceO_ {xs : List V} {a b : Option Int} : sliceO (some xs) (some a) (some b) H = some (.obj H.length, H ++ [.list (sliceL xs a b)]) := rfl
theorem word_0 : wordI 0 = true := by decide
theorem word_1 : wordI 1 = true := by decide
theorem word_2 : wordI 2 = true := by decide
theorem word_01 : wordI (0 + 1) = true := by decide
theorem word_02 : wordI (0 + 2) = true := by decide
theorem word_m1 : wordI (-1) = true := by decide
theorem word_14 : wordI 14 = true := by decide
theorem intOpt_none : intOpt .none = some none := rfl
theorem intOpt_int (h : wordI x = true) : intOpt (.int x) = some (some x) := if_pos h
theorem items_tup : itemsM (.tup vs) H = some vs := rfl
theorem items_obj {i : Nat} : itemsM (.obj i) H = listAt H i := rfl
end
/-! ## comprehensions over values that stand fast; what is made of each is no call's work on the heap -/
section
variable {T : Tp} {F : Fc} {loc : Loc} {H : Hp} {Q : Out → Prop}
def KCE (T : Tp) (F : Fc) (ifs elt : E) (P : Bool → V → Hp → Loc → Prop) : Loc × Hp → Prop := fun y => W T ((den T F ifs y.1).tl .And y.2) fun b => if b.1 then W T ((den T F elt y.1).v b.2) fun x => P true x.1 x.2 y.1 else P false .none b.2 y.1
def KCI (T : Tp) (F : Fc) (elt : E) (loc : Loc) (P : Bool → V → Hp → Loc → Prop) : Bool × Hp → Prop := fun b => if b.1 then W T ((den T F elt loc).v b.2) fun x => P true x.1 x.2 loc else P false .none b.2 loc
def KCA (loc : Loc) (P : Bool → V → Hp → Loc → Prop) : V × Hp → Prop := fun x => P true x.1 x.2 loc
theorem KCE_ {ifs elt : E} {P : Bool → V → Hp → Loc → Prop} : KCE T F ifs elt P (loc, H) ↔ W T ((den T F ifs loc).tl .And H) (KCI T F elt loc P) := Iff.rfl
theorem KCI_t {elt : E} {P : Bool → V → Hp → Loc → Prop} : KCI T F elt loc P (true, H) ↔ W T ((den T F elt loc).v H) (KCA loc P) := Iff.rfl
theorem KCI_f {elt : E} {P : Bool → V → Hp → Loc → Prop} : KCI T F elt loc P (false, H) ↔ P false .none H loc := by unfold KCI; simp
theorem KCA_ {P : Bool → V → Hp → Loc → Prop} {v : V} : KCA loc P (v, H) ↔ P true v H loc := Iff.rfl
/-- a comprehension over values: the heap may grow by what the elements' making leaves (I) -/
theorem WT_comp_vals (I : List V → List V → Loc → Hp → Prop) {elt tgt ifs : E} {vs : List V} {acc : Nat} (ho : oneIf ifs = true) (h0 : I vs [] loc H) (hl : ∀ r xs loc H, I r xs loc H → listAt H acc = some xs ∧ xs.length + r.length < big)
    (step : ∀ v r xs loc H, I (v :: r) xs loc H → W T ((den T F tgt loc).a v H) (KCE T F ifs elt fun b x H' loc' => if b = true then listAt H' acc = some xs ∧ I r (xs ++ [x]) loc' (H'.set acc (.list (xs ++ [x]))) else I r xs loc' H'))
    (fin : ∀ xs loc H, I [] xs loc H → Q ⟨.next, loc, H⟩) : WT T (.comp elt tgt ifs (.vals vs) acc F loc H) Q := by
  have key : ∀ vs xs loc H, I vs xs loc H → WT T (.comp elt tgt ifs (.vals vs) acc F loc H) Q := by
    intro vs
    induction vs with
    | nil =>
      intro xs loc H h0
      rw [WT_W]
      show W T (if !oneIf ifs then _ else _) Q
      rw [ho]
      exact W_bind.mpr (W_opt.mpr (optW_some.mpr (W_ret.mpr (fin _ _ _ h0))))
    | cons v r ih =>
      intro xs loc H h0
      rw [WT_W]
      show W T (if !oneIf ifs then _ else _) Q
      rw [ho]
      refine W_bind.mpr (W_opt.mpr (optW_some.mpr (W_bind.mpr (W_mono (step v r xs loc H h0) ?_))))
      rintro ⟨loc1, H1⟩ hq
      refine W_bind.mpr (W_mono hq ?_)
      rintro ⟨b, H2⟩ hr
      cases b with
      | false =>
        exact W_call.mpr (WT_mono (ih xs loc1 H2 (by simpa using hr)) fun a q => W_ret.mpr q)
      | true =>
        rw [if_pos rfl] at hr ⊢
        refine W_bind.mpr (W_mono hr ?_)
        rintro ⟨x, H3⟩ hx
        simp only [if_true] at hx
        have hb := (hl _ _ _ _ h0).2
        simp only [List.length_cons] at hb
        refine W_bind.mpr (W_opt.mpr ⟨(.none, H3.set acc (.list (xs ++ [x]))), ?_, ?_⟩)
        · show (listAt H3 acc).bind _ = _
          rw [hx.1, Option.bind_some, if_pos (by omega)]
        · exact W_call.mpr (WT_mono (ih _ loc1 _ hx.2) fun a q => W_ret.mpr q)
  exact key vs [] loc H h0
theorem WT_comp_lst (I : Nat → List V → Loc → Hp → Prop) {elt tgt ifs : E} {i : Nat} {xs : List V} {acc : Nat} (ho : oneIf ifs = true) (h0 : I 0 [] loc H) (hs : xs.length < big)
    (hl : ∀ k ys loc H, I k ys loc H → listAt H i = some xs ∧ listAt H acc = some ys ∧ ys.length ≤ k ∧ k ≤ xs.length)
    (step : ∀ k v ys loc H, I k ys loc H → xs[k]? = some v → W T ((den T F tgt loc).a v H) (KCE T F ifs elt fun b x H' loc' => if b = true then listAt H' acc = some ys ∧ I (k + 1) (ys ++ [x]) loc' (H'.set acc (.list (ys ++ [x]))) else I (k + 1) ys loc' H'))
    (fin : ∀ ys loc H, I xs.length ys loc H → Q ⟨.next, loc, H⟩) : WT T (.comp elt tgt ifs (.lst i 0) acc F loc H) Q := by
  have key : ∀ n k ys loc H, xs.length - k = n → I k ys loc H → WT T (.comp elt tgt ifs (.lst i k) acc F loc H) Q := by
    intro n
    induction n with
    | zero =>
      intro k ys loc H hn h0
      obtain ⟨g1, g2, g3, g4⟩ := hl _ _ _ _ h0
      have : k = xs.length := by omega
      subst this
      rw [WT_W]
      show W T (if !oneIf ifs then _ else _) Q
      rw [ho]
      refine W_bind.mpr (W_opt.mpr ?_)
      simp only [nextM, g1, Option.map_some, List.getElem?_eq_none (Nat.le_refl _), Option.map_none]
      exact optW_some.mpr (W_ret.mpr (fin _ _ _ h0))
    | succ n ih =>
      intro k ys loc H hn h0
      obtain ⟨g1, g2, g3, g4⟩ := hl _ _ _ _ h0
      have hlt : k < xs.length := by omega
      rw [WT_W]
      show W T (if !oneIf ifs then _ else _) Q
      rw [ho]
      refine W_bind.mpr (W_opt.mpr ?_)
      simp only [nextM, g1, Option.map_some, List.getElem?_eq_getElem hlt]
      refine optW_some.mpr (W_bind.mpr (W_mono (step k _ ys loc H h0 (List.getElem?_eq_getElem hlt)) ?_))
      rintro ⟨loc1, H1⟩ hq
      refine W_bind.mpr (W_mono hq ?_)
      rintro ⟨b, H2⟩ hr
      cases b with
      | false =>
        exact W_call.mpr (WT_mono (ih _ ys loc1 H2 (by omega) (by simpa using hr)) fun a q => W_ret.mpr q)
      | true =>
        rw [if_pos rfl] at hr ⊢
        refine W_bind.mpr (W_mono hr ?_)
        rintro ⟨x, H3⟩ hx
        simp only [if_true] at hx
        refine W_bind.mpr (W_opt.mpr ⟨(.none, H3.set acc (.list (ys ++ [x]))), ?_, ?_⟩)
        · show (listAt H3 acc).bind _ = _
          rw [hx.1, Option.bind_some, if_pos (by omega)]
        · exact W_call.mpr (WT_mono (ih _ _ loc1 _ (by omega) hx.2) fun a q => W_ret.mpr q)
  exact key _ 0 [] loc H rfl h0
end
/-! ## lists and heaps -/
theorem wordN {n : Nat} (h : n < 1000000000) : wordI (n : Int) = true := by
  unfold wordI
  simp only [Bool.and_eq_true, decide_eq_true_eq]
  omega
theorem wordZ {n : Int} (h1 : -1000000000 < n) (h2 : n < 1000000000) : wordI n = true := by
  unfold wordI
  simp only [Bool.and_eq_true, decide_eq_true_eq]
  omega
abbrev lk (loc : Loc) (x : String) : Option V := List.lookup (Str.ofString x) loc
abbrev hp (H : Hp) (i : Nat) : Option O := H[i]?
end Mine.R

end
section
open PySem
set_option autoImplicit false
namespace Mine.R
section
variable {T : Tp} {F : Fc} {loc : Loc} {H : Hp} {Q : Out → Prop}
/-- a while that may stand: the next turn ends it, or its end is told by the loop itself -/
theorem WT_whl1 {t : E} {x : S} (step : W T ((den T F t loc).t H) (KWT (fun _ => False) (fun (_ : Unit) _ _ => False) T F loc x Q)) : WT T (.whl t x F loc H) Q :=
  WT_whl (fun _ => 0) (fun (_ : Unit) l h => l = loc ∧ h = H) () ⟨rfl, rfl⟩ (by
    rintro y l h ⟨rfl, rfl⟩
    refine W_mono step ?_
    rintro ⟨b, H'⟩ hq
    cases b with
    | false => rw [KWT_f] at hq ⊢; exact hq
    | true =>
      rw [KWT_t] at hq ⊢
      refine W_mono hq ?_
      rintro ⟨f, l, H2⟩ hr
      cases f <;> first | (obtain ⟨_, hz, _⟩ := hr; exact hz.elim) | exact hr)
theorem KIf_split {a b : S} {c : Bool} (h1 : c = true → KIf T F loc a b Q (true, H)) (h2 : c = false → KIf T F loc a b Q (false, H)) : KIf T F loc a b Q (c, H) := by
  cases c with
  | true => exact h1 rfl
  | false => exact h2 rfl
theorem KWT_split {α : Type} {R : α → Prop} {I : α → Loc → Hp → Prop} {a : S} {c : Bool} (h1 : c = true → KWT R I T F loc a Q (true, H)) (h2 : c = false → KWT R I T F loc a Q (false, H)) : KWT R I T F loc a Q (c, H) := by
  cases c with
  | true => exact h1 rfl
  | false => exact h2 rfl
theorem KIfV_split {a b : E} {c : Bool} {Q : V × Hp → Prop} (h1 : c = true → KIfV T F loc a b Q (true, H)) (h2 : c = false → KIfV T F loc a b Q (false, H)) : KIfV T F loc a b Q (c, H) := by
  cases c with
  | true => exact h1 rfl
  | false => exact h2 rfl
theorem KTl_split {op : BoolOp} {r : E} {c : Bool} {Q : Bool × Hp → Prop} (h1 : c = true → KTl T F loc op r Q (true, H)) (h2 : c = false → KTl T F loc op r Q (false, H)) : KTl T F loc op r Q (c, H) := by
  cases c with
  | true => exact h1 rfl
  | false => exact h2 rfl
/-- the rest of a row of tests is read too: one path -/
theorem KTl_or {r : E} {b c : Bool} {Q : Bool × Hp → Prop} (h : ∀ P : Bool × Hp → Prop, P (c, H) → W T ((den T F r loc).tl .Or H) P) (hq : Q (b || c, H)) : KTl T F loc .Or r Q (b, H) := by
  cases b with
  | true => exact hq
  | false => exact h Q hq
theorem KTl_and {r : E} {b c : Bool} {Q : Bool × Hp → Prop} (h : ∀ P : Bool × Hp → Prop, P (c, H) → W T ((den T F r loc).tl .And H) P) (hq : Q (b && c, H)) : KTl T F loc .And r Q (b, H) := by
  cases b with
  | true => exact h Q hq
  | false => exact hq
end
section
variable {T : Tp} {F : Fc} {loc : Loc} {H : Hp} {Q : V × Hp → Prop} {QO : Out → Prop}
theorem v_calln {x : Str} {args kws : E} {q p : Pos} : W T ((den T F (.call (.name x q) args kws p) loc).v H) Q ↔ W T ((den T F (.name x q) loc).v H) (KCall1 T F loc args kws Q) := v_call rfl
theorem v_attrn {y x : Str} {q p : Pos} : W T ((den T F (.attr (.name y q) x p) loc).v H) Q ↔ W T ((den T F (.name y q) loc).v H) (KAttr T x Q) := v_attr rfl
theorem s_exprc {f args kws : E} {q p : Pos} : W T ((denS T F (.expr (.call f args kws q) p)).s loc H) QO ↔ W T ((den T F (.call f args kws q) loc).v H) (KExpr loc QO) := s_expr rfl
theorem s_exprm {o args kws : E} {x : Str} {ap q p : Pos} : W T ((denS T F (.expr (.callm o x ap args kws q) p)).s loc H) QO ↔ W T ((den T F (.callm o x ap args kws q) loc).v H) (KExpr loc QO) := s_expr rfl
theorem s_asgn {x : Str} {v : E} {q p : Pos} : W T ((denS T F (.asg (.name x q) v p)).s loc H) QO ↔ W T ((den T F v loc).v H) (KAsg1 T F loc (.name x q) QO) := s_asg rfl
theorem v_callmn {y x : Str} {a b c e : Nat} {q p : Pos} {args kws : E} (h : (p.line == c) = true) (h2 : decide (lenE args + lenE kws < 20) = true) : W T ((den T F (.callm (.name y q) x ⟨a, b, c, e⟩ args kws p) loc).v H) Q ↔ W T ((den T F (.name y q) loc).v H) (KMeth1 T F loc x args kws Q) := by
  refine v_callm ?_
  unfold callmOk
  have h1 : p.line = c := by simpa using h
  have h3 : lenE args + lenE kws < 20 := by simpa using h2
  simp only [isSuper, h1, bne_self_eq_false, Bool.or_false, Bool.false_or, Bool.not_eq_true', decide_eq_false_iff_not]
  omega
theorem v_callmc {k : Const} {n : Nat} {x : Str} {a b c e : Nat} {q p : Pos} {args kws : E} (h : (p.line == c) = true) (h2 : decide (lenE args + lenE kws < 20) = true) : W T ((den T F (.callm (.cst k n q) x ⟨a, b, c, e⟩ args kws p) loc).v H) Q ↔ W T ((den T F (.cst k n q) loc).v H) (KMeth1 T F loc x args kws Q) := by
  refine v_callm ?_
  unfold callmOk
  have h1 : p.line = c := by simpa using h
  have h3 : lenE args + lenE kws < 20 := by simpa using h2
  simp only [isSuper, h1, bne_self_eq_false, Bool.or_false, Bool.false_or, Bool.not_eq_true', decide_eq_false_iff_not]
  omega
end
/-- the sign at a place, as a text -/
def ch (l : List Nat) (n : Nat) : List Nat := (l.drop n).take 1
theorem slice_ch {l : List Nat} {n : Nat} : sliceL l (some (n : Int)) (some ((n : Int) + 1)) = ch l n := by
  unfold sliceL ch loI hiI clampI
  dsimp only
  rw [if_neg (by omega), if_neg (by omega)]
  by_cases h : n < l.length
  · rw [Nat.min_eq_left (by omega), Nat.min_eq_left (by omega)]
    congr 1
    · omega
  · have e : l.drop n = [] := List.drop_eq_nil_of_le (by omega)
    rw [e]
    have : l.drop (min (n : Int).toNat l.length) = [] := List.drop_eq_nil_of_le (by omega)
    rw [this]; simp
theorem slice_ch1 {l : List Nat} {n : Nat} : sliceL l (some ((n : Int) + 1)) (some ((n : Int) + 2)) = ch l (n + 1) := by
  have := @slice_ch l (n + 1)
  rw [← this]; congr 2
theorem slice_ch0 {l : List Nat} : sliceL l (some 0) (some (0 + 1)) = ch l 0 := @slice_ch l 0
theorem slice_ch01 {l : List Nat} : sliceL l (some (0 + 1)) (some (0 + 2)) = ch l 1 := @slice_ch1 l 0
theorem ch_lt {l : List Nat} {n : Nat} (h : n < l.length) : ch l n = [l[n]] := by
  unfold ch; rw [List.drop_eq_getElem_cons h]; rfl
theorem ch_of {l : List Nat} {n c : Nat} (h : l[n]? = some c) : ch l n = [c] := by
  obtain ⟨h1, h2⟩ := List.getElem?_eq_some_iff.mp h
  rw [ch_lt h1, h2]
theorem ch_ge {l : List Nat} {n : Nat} (h : l.length ≤ n) : ch l n = [] := by
  unfold ch; rw [List.drop_eq_nil_of_le h]; rfl
theorem subIn_one {c : Nat} {l : List Nat} : subIn [c] l = l.contains c := by
  unfold subIn
  rw [Bool.eq_iff_iff]
  simp only [List.any_eq_true, List.mem_range, List.length_singleton, beq_iff_eq, List.contains_eq_mem, decide_eq_true_eq]
  constructor
  · rintro ⟨k, hk, e⟩
    have : k < l.length := by
      refine Nat.lt_of_not_le fun hn => ?_
      rw [List.drop_eq_nil_of_le hn] at e; cases e
    rw [List.drop_eq_getElem_cons this] at e
    simp only [List.take_succ_cons, List.take_zero, List.cons.injEq, and_true] at e
    rw [← e]; exact List.getElem_mem this
  · intro h
    obtain ⟨k, hk, e⟩ := List.getElem_of_mem h
    exact ⟨k, by omega, by rw [List.drop_eq_getElem_cons hk, e]; rfl⟩
theorem subIn_nil {l : List Nat} : subIn [] l = true := by
  unfold subIn
  rw [List.any_eq_true]
  exact ⟨0, by simp, by simp⟩
end Mine.R

end
section
open PySem
namespace Mine.R
theorem cst_0 : constM (.str (Str.ofString "")) = some (.str []) := by rfl
theorem cst_1 : constM (.str (Str.ofString "#")) = some (.str [35]) := by rfl
theorem cst_2 : constM (.str (Str.ofString "/")) = some (.str [47]) := by rfl
theorem cst_3 : constM (.str (Str.ofString "*")) = some (.str [42]) := by rfl
theorem cst_4 : constM (.str (Str.ofString ",")) = some (.str [44]) := by rfl
theorem cst_5 : constM (.str (Str.ofString "}")) = some (.str [125]) := by rfl
theorem cst_6 : constM (.str (Str.ofString "]")) = some (.str [93]) := by rfl
theorem cst_7 : constM (.str (Str.ofString "{")) = some (.str [123]) := by rfl
theorem cst_8 : constM (.str (Str.ofString "[")) = some (.str [91]) := by rfl
theorem cst_9 : constM (.str (Str.ofString ":")) = some (.str [58]) := by rfl
theorem cst_10 : constM (.str (Str.ofString "\r")) = some (.str [13]) := by rfl
theorem cst_11 : constM (.str (Str.ofString "\n")) = some (.str [10]) := by rfl
theorem cst_12 : constM (.str (Str.ofString "n")) = some (.str [110]) := by rfl
theorem cst_13 : constM (.str (Str.ofString "t")) = some (.str [116]) := by rfl
theorem cst_14 : constM (.str (Str.ofString "f")) = some (.str [102]) := by rfl
theorem cst_15 : constM (.str (Str.ofString "null")) = some (.str [110, 117, 108, 108]) := by rfl
theorem cst_16 : constM (.str (Str.ofString "true")) = some (.str [116, 114, 117, 101]) := by rfl
theorem cst_17 : constM (.str (Str.ofString "false")) = some (.str [102, 97, 108, 115, 101]) := by rfl
theorem cst_18 : constM (.str (Str.ofString "-")) = some (.str [45]) := by rfl
theorem cst_19 : constM (.str (Str.ofString "0")) = some (.str [48]) := by rfl
theorem cst_20 : constM (.str (Str.ofString "9")) = some (.str [57]) := by rfl
theorem cst_21 : constM (.str (Str.ofString "e")) = some (.str [101]) := by rfl
theorem cst_22 : constM (.str (Str.ofString "E")) = some (.str [69]) := by rfl
theorem cst_23 : constM (.str (Str.ofString ".")) = some (.str [46]) := by rfl
theorem cst_24 : constM (.str (Str.ofString "+")) = some (.str [43]) := by rfl
theorem cst_25 : constM (.str (Str.ofString "0123456789")) = some (.str [48, 49, 50, 51, 52, 53, 54, 55, 56, 57]) := by rfl
theorem cst_26 : constM (.str (Str.ofString "eE")) = some (.str [101, 69]) := by rfl
theorem cst_27 : constM (.str (Str.ofString ",}]#")) = some (.str [44, 125, 93, 35]) := by rfl
theorem cst_28 : constM (.str (Str.ofString "//")) = some (.str [47, 47]) := by rfl
theorem cst_29 : constM (.str (Str.ofString "/*")) = some (.str [47, 42]) := by rfl
theorem cst_30 : constM (.str (Str.ofString "\r\n")) = some (.str [13, 10]) := by rfl
theorem cst_31 : constM (.str (Str.ofString "\n}")) = some (.str [10, 125]) := by rfl
theorem cst_32 : constM (.str (Str.ofString "fraction")) = some (.str [102, 114, 97, 99, 116, 105, 111, 110]) := by rfl
theorem cst_33 : constM (.str (Str.ofString " ")) = some (.str [32]) := by rfl
theorem cst_34 : constM (.str (Str.ofString "'")) = some (.str [39]) := by rfl
theorem cst_35 : constM (.str (Str.ofString "\"")) = some (.str [34]) := by rfl
theorem cst_36 : constM (.str (Str.ofString "\\")) = some (.str [92]) := by rfl
theorem cst_37 : constM (.str (Str.ofString "u")) = some (.str [117]) := by rfl
theorem cst_38 : constM (.str (Str.ofString "x")) = some (.str [120]) := by rfl
theorem cst_39 : constM (.str (Str.ofString "X")) = some (.str [88]) := by rfl
theorem cst_40 : constM (.str (Str.ofString "'''")) = some (.str [39, 39, 39]) := by rfl
theorem cst_41 : constM (.str (Str.ofString "\ufeff")) = some (.str [65279]) := by rfl
theorem cst_42 : constM (.str (Str.ofString "\u00ef\u00bb\u00bf")) = some (.str [239, 187, 191]) := by rfl
end Mine.R

end
section
open PySem
set_option autoImplicit false
namespace Mine.R
section
variable {n k : Nat} {p q sp ap : Pos} {c : Const} {x y : Str} {es args : List Expr} {e l r t a b o f i elt tgt iter : Expr} {op : BoolOp} {bo : Operator} {uo : UnaryOp} {co : CmpOp} {sc : Scope} {kws : List Keyword} {lo hi : Option Expr} {ifs : List Expr}
theorem dE_cst : dnE (n + 1) (.Constant c k p) = .cst c k p := rfl
theorem dE_name : dnE (n + 1) (.Name x p) = .name x p := rfl
theorem dE_bop : dnE (n + 1) (.BoolOp op es p) = .bop op (dnL n es) p := rfl
theorem dE_bin : dnE (n + 1) (.BinOp l bo r p) = .bin (dnE n l) bo (dnE n r) p := rfl
theorem dE_un : dnE (n + 1) (.UnaryOp uo e p) = .un uo (dnE n e) p := rfl
theorem dE_ife : dnE (n + 1) (.IfExp t a b p) = .ife (dnE n t) (dnE n a) (dnE n b) p := rfl
theorem dE_lst : dnE (n + 1) (.List es p) = .lst (dnL n es) p := rfl
theorem dE_tpl : dnE (n + 1) (.Tuple es k p) = .tpl (dnL n es) k p := rfl
theorem dE_dict : dnE (n + 1) (.Dict [] [] p) = .dict0 p := rfl
theorem dE_comp : dnE (n + 1) (.ListComp elt [⟨tgt, iter, ifs, 0⟩] sc p) = .comp (dnE n elt) (dnE n tgt) (dnE n iter) (dnL n ifs) sc p := rfl
theorem dE_cmp : dnE (n + 1) (.Compare l [co] [r] p) = .cmp (dnE n l) co (dnE n r) p := rfl
theorem dE_callm : dnE (n + 1) (.Call (.Attribute o x ap) args kws p) = .callm (dnE n o) x ap (dnL n args) (dnK n kws) p := rfl
theorem dE_calln : dnE (n + 1) (.Call (.Name x ap) args kws p) = .call (dnE n (.Name x ap)) (dnL n args) (dnK n kws) p := rfl
theorem dE_attr : dnE (n + 1) (.Attribute e x p) = .attr (dnE n e) x p := rfl
theorem dE_slice : dnE (n + 1) (.Subscript e (.Slice lo hi none sp) p) = .slice (dnE n e) (dnO n lo) (dnO n hi) sp p := rfl
theorem dE_subc : dnE (n + 1) (.Subscript e (.Constant c k q) p) = .sub (dnE n e) (dnE n (.Constant c k q)) p := rfl
theorem dE_subn : dnE (n + 1) (.Subscript e (.Name x q) p) = .sub (dnE n e) (dnE n (.Name x q)) p := rfl
theorem dE_subb : dnE (n + 1) (.Subscript e (.BinOp l bo r q) p) = .sub (dnE n e) (dnE n (.BinOp l bo r q)) p := rfl
theorem dE_subu : dnE (n + 1) (.Subscript e (.UnaryOp uo l q) p) = .sub (dnE n e) (dnE n (.UnaryOp uo l q)) p := rfl
theorem dE_subs : dnE (n + 1) (.Subscript e (.Subscript l r q) p) = .sub (dnE n e) (dnE n (.Subscript l r q)) p := rfl
theorem dE_subcl : dnE (n + 1) (.Subscript e (.Call l args kws q) p) = .sub (dnE n e) (dnE n (.Call l args kws q)) p := rfl
theorem dL_nil : dnL (n + 1) [] = .nil := rfl
theorem dL_cons {es : List Expr} : dnL (n + 1) (e :: es) = .cons (dnE n e) (dnL n es) := rfl
theorem dO_none : dnO (n + 1) none = .no := rfl
theorem dO_some : dnO (n + 1) (some e) = dnE n e := rfl
theorem dK_nil : dnK (n + 1) [] = .nil := rfl
theorem dK_cons : dnK (n + 1) (⟨some x, e, p⟩ :: kws) = .kw x (dnE n e) p (dnK n kws) := rfl
variable {ss u w v fin : List Stmt} {s : Stmt} {hs : List ExceptHandler} {ps : Arguments}
theorem dS_expr : dnS (n + 1) (.Expr e p) = .expr (dnE 60 e) p := rfl
theorem dS_ret {oe : Option Expr} : dnS (n + 1) (.Return oe p) = .ret (dnO 60 oe) p := rfl
theorem dS_asg : dnS (n + 1) (.Assign [t] e p) = .asg (dnE 60 t) (dnE 60 e) p := rfl
theorem dS_aug : dnS (n + 1) (.AugAssign (.Name x q) bo e p) = .aug x q bo (dnE 60 e) p := rfl
theorem dS_ife : dnS (n + 1) (.If t u w p) = .ife (dnE 60 t) (dnSs n u) (dnSs n w) p := rfl
theorem dS_whl : dnS (n + 1) (.While t u [] p) = .whl (dnE 60 t) (dnSs n u) p := rfl
theorem dS_for : dnS (n + 1) (.For t iter u [] p) = .for_ (dnE 60 t) (dnE 60 iter) (dnSs n u) p := rfl
theorem dS_try : dnS (n + 1) (.Try u hs w fin p) = .try_ (dnSs n u) hs (dnSs n w) (dnSs n fin) p := rfl
theorem dS_brk : dnS (n + 1) (.Break p) = .brk p := rfl
theorem dS_cont : dnS (n + 1) (.Continue p) = .cont p := rfl
theorem dS_pass : dnS (n + 1) (.Pass p) = .pass p := rfl
theorem dS_def : dnS (n + 1) (.FunctionDef x ps u [] none [] sc none y p) = .def_ x ps (dnSs n u) sc y p := rfl
theorem dSs_nil : dnSs (n + 1) [] = .nil := rfl
theorem dSs_cons : dnSs (n + 1) (s :: ss) = .cons (dnS n s) (dnSs n ss) := rfl
end
end Mine.R

end
section
open PySem
set_option autoImplicit false
namespace Mine.R
section
variable {T : Tp} {F : Fc} {loc : Loc} {H : Hp} {Q : Out → Prop}
theorem listAt_end {xs : List V} : listAt (H ++ [.list xs]) H.length = some xs := by
  unfold listAt; rw [List.getElem?_append_right (Nat.le_refl _)]; simp
theorem set_end {o o' : O} : (H ++ [o]).set H.length o' = H ++ [o'] := by
  rw [List.set_append_right _ _ (Nat.le_refl _)]; simp
theorem listAt_lt {i : Nat} {o : O} {H0 : Hp} (h : i < H0.length) : listAt (H0 ++ [o]) i = listAt H0 i := by
  unfold listAt; rw [List.getElem?_append_left h]
theorem listAt_len {i : Nat} {xs : List V} (h : listAt H i = some xs) : i < H.length := by
  unfold listAt at h
  split at h
  · rename_i e; exact (List.getElem?_eq_some_iff.mp e).1
  · cases h
theorem fmA {α : Type} {g : α → V} {f : α → Option V} {l : List α} {F' : V → Option V} (h : ∀ a ∈ l, F' (g a) = f a) : (l.map g).filterMap F' = l.filterMap f := by
  induction l with
  | nil => rfl
  | cons a r ih =>
    rw [List.map_cons, List.filterMap_cons, List.filterMap_cons, h a (by simp), ih fun b hb => h b (by simp [hb])]
/-- over the pictures of a row: some are kept -/
theorem comp_fm {α : Type} (l : List α) (g : α → V) (f : α → Option V) {elt tgt ifs : E} {vs : List V} (hv : vs = l.map g) (ho : oneIf ifs = true) (hb : l.length < big)
    (step : ∀ a ∈ l, ∀ xs loc, W T ((den T F tgt loc).a (g a) (H ++ [.list xs])) (KCE T F ifs elt fun b x H' _ => H' = H ++ [.list xs] ∧ f a = if b = true then some x else none))
    (fin : ∀ loc, Q ⟨.next, loc, H ++ [.list (l.filterMap f)]⟩) : WT T (.comp elt tgt ifs (.vals vs) H.length F loc (H ++ [.list []])) Q := by
  subst hv
  refine WT_comp_vals (fun r xs _ H' => H' = H ++ [.list xs] ∧ ∃ pre q, l = pre ++ q ∧ r = q.map g ∧ xs = pre.filterMap f) ho ⟨rfl, [], l, rfl, rfl, rfl⟩ ?_ ?_ ?_
  · rintro r xs loc H' ⟨rfl, pre, q, e, rfl, rfl⟩
    refine ⟨listAt_end, ?_⟩
    have h1 := List.length_filterMap_le f pre
    have h2 : l.length = pre.length + q.length := by rw [e, List.length_append]
    rw [List.length_map]; omega
  · rintro v r xs loc H' ⟨rfl, pre, q, e, e1, rfl⟩
    cases q with
    | nil => cases e1
    | cons a q =>
    rw [List.map_cons] at e1
    obtain ⟨rfl, rfl⟩ := List.cons.inj e1
    have hv : a ∈ l := by rw [e]; simp
    refine W_mono (step a hv _ loc) ?_
    rintro ⟨l1, H1⟩ h1
    rw [KCE_] at h1 ⊢
    refine W_mono h1 ?_
    rintro ⟨b, H2⟩ h2
    cases b with
    | false =>
      rw [KCI_f] at h2 ⊢
      obtain ⟨rfl, h3⟩ := h2
      rw [if_neg Bool.false_ne_true] at h3 ⊢
      exact ⟨rfl, pre ++ [a], q, by rw [e]; simp, rfl, by rw [List.filterMap_append]; simp [h3]⟩
    | true =>
      rw [KCI_t] at h2 ⊢
      refine W_mono h2 ?_
      rintro ⟨x, H3⟩ h3
      rw [KCA_] at h3 ⊢
      obtain ⟨rfl, h4⟩ := h3
      rw [if_pos rfl] at h4 ⊢
      refine ⟨listAt_end, ?_, pre ++ [a], q, by rw [e]; simp, rfl, by rw [List.filterMap_append]; simp [h4]⟩
      rw [set_end]
  · rintro xs loc H' ⟨rfl, pre, q, e, e1, rfl⟩
    cases q with
    | nil =>
      have : l = pre := by rw [e, List.append_nil]
      rw [← this]; exact fin loc
    | cons a q => cases e1
theorem comp_map {α : Type} (l : List α) (g f : α → V) {elt tgt ifs : E} {vs : List V} (hv : vs = l.map g) (ho : oneIf ifs = true) (hb : l.length < big)
    (step : ∀ a ∈ l, ∀ xs loc, W T ((den T F tgt loc).a (g a) (H ++ [.list xs])) (KCE T F ifs elt fun b x H' _ => H' = H ++ [.list xs] ∧ b = true ∧ x = f a))
    (fin : ∀ loc, Q ⟨.next, loc, H ++ [.list (l.map f)]⟩) : WT T (.comp elt tgt ifs (.vals vs) H.length F loc (H ++ [.list []])) Q := by
  refine comp_fm l g (fun a => some (f a)) hv ho hb (fun a ha xs loc => W_mono (step a ha xs loc) ?_) (fun loc => ?_)
  · rintro ⟨l1, H1⟩ h1
    rw [KCE_] at h1 ⊢
    refine W_mono h1 ?_
    rintro ⟨b, H2⟩ h2
    cases b with
    | false => rw [KCI_f] at h2 ⊢; exact absurd h2.2.1 Bool.false_ne_true
    | true =>
      rw [KCI_t] at h2 ⊢
      refine W_mono h2 ?_
      rintro ⟨x, H3⟩ h3
      rw [KCA_] at h3 ⊢
      exact ⟨h3.1, by rw [if_pos rfl, h3.2.2]⟩
  · have : l.filterMap (fun a => some (f a)) = l.map f := by rw [List.filterMap_eq_map']
    rw [this]; exact fin loc
theorem comp_mapL {α : Type} (l : List α) (g f : α → V) {elt tgt ifs : E} {i : Nat} (ho : oneIf ifs = true) (hi : listAt H i = some (l.map g)) (hb : l.length < big)
    (step : ∀ a ∈ l, ∀ xs loc, W T ((den T F tgt loc).a (g a) (H ++ [.list xs])) (KCE T F ifs elt fun b x H' _ => H' = H ++ [.list xs] ∧ b = true ∧ x = f a))
    (fin : ∀ loc, Q ⟨.next, loc, H ++ [.list (l.map f)]⟩) : WT T (.comp elt tgt ifs (.lst i 0) H.length F loc (H ++ [.list []])) Q := by
  refine WT_comp_lst (xs := l.map g) (fun k ys _ H' => H' = H ++ [.list ys] ∧ ys = (l.take k).map f ∧ k ≤ l.length) ho ⟨rfl, rfl, Nat.zero_le _⟩ (by rw [List.length_map]; exact hb) ?_ ?_ ?_
  · rintro k ys loc H' ⟨rfl, rfl, hk⟩
    refine ⟨by rw [listAt_lt (listAt_len hi)]; exact hi, listAt_end, by rw [List.length_map, List.length_take]; omega, by rw [List.length_map]; exact hk⟩
  · rintro k v ys loc H' ⟨rfl, rfl, hk⟩ e
    rw [List.getElem?_map] at e
    obtain ⟨a, ha, rfl⟩ := Option.map_eq_some_iff.mp e
    obtain ⟨hlt, hv⟩ := List.getElem?_eq_some_iff.mp ha
    have hm : a ∈ l := hv ▸ List.getElem_mem hlt
    have ht : l.take (k + 1) = l.take k ++ [a] := by rw [List.take_add_one, ha]; rfl
    refine W_mono (step a hm _ loc) ?_
    rintro ⟨l1, H1⟩ h1
    rw [KCE_] at h1 ⊢
    refine W_mono h1 ?_
    rintro ⟨b, H2⟩ h2
    cases b with
    | false => rw [KCI_f] at h2; exact absurd h2.2.1 Bool.false_ne_true
    | true =>
      rw [KCI_t] at h2 ⊢
      refine W_mono h2 ?_
      rintro ⟨x, H3⟩ h3
      rw [KCA_] at h3 ⊢
      obtain ⟨rfl, _, rfl⟩ := h3
      rw [if_pos rfl]
      refine ⟨listAt_end, ?_, by rw [ht, List.map_append]; rfl, hlt⟩
      rw [set_end]
  · rintro ys loc H' ⟨rfl, rfl, hk⟩
    rw [List.length_map, List.take_length]; exact fin loc
end
end Mine.R

end
section
open PySem
set_option autoImplicit false
namespace Mine.R
theorem nk_lc : (NameKind.local != NameKind.cell) = true := by decide
theorem nk_fc : (NameKind.free != NameKind.cell) = true := by decide
theorem nk_gc : (NameKind.globalImplicit != NameKind.cell) = true := by decide
theorem nk_ll : (NameKind.local != NameKind.local) = false := by decide
theorem nk_fl : (NameKind.free != NameKind.local) = true := by decide
theorem nk_gl : (NameKind.globalImplicit != NameKind.local) = true := by decide
theorem nk_sl : (some NameKind.local == some NameKind.local) = true := by decide
theorem sk_f : (ScopeKind.function == ScopeKind.function) = true := by decide
section
variable {T : Tp} {F : Fc} {loc : Loc} {H : Hp} {Q : Out → Prop} {x : Str} {r : List (Str × NameKind)} {acc : List (Str × Nat)}
theorem free_nil : freeCells F [] acc = some acc := rfl
theorem free_free : freeCells F ((x, .free) :: r) acc = (F.cells.lookup x).bind fun i => freeCells F r ((x, i) :: acc) := by
  simp only [freeCells]; cases F.cells.lookup x <;> rfl
theorem free_local : freeCells F ((x, .local) :: r) acc = freeCells F r acc := rfl
theorem free_glob : freeCells F ((x, .globalImplicit) :: r) acc = freeCells F r acc := rfl
theorem free_cell : freeCells F ((x, .cell) :: r) acc = freeCells F r acc := rfl
theorem iter_str {l : List Nat} : iterM (.str l) H = some (.vals (l.map fun c => .str [c])) := rfl
theorem iter_rng {n : Int} (h1 : 0 ≤ n) (h2 : n ≤ (big : Int)) : iterM (.rng n) H = some (.vals ((List.range n.toNat).map fun (k : Nat) => V.int k)) := if_pos ⟨h1, h2⟩
theorem iter_obj {i : Nat} {xs : List V} (h : listAt H i = some xs) : iterM (.obj i) H = some (.lst i 0) := by
  unfold listAt at h
  split at h
  · rename_i e; simp only [iterM, e]
  · cases h
def iterO (o : Option O) (i : Nat) : Option It := match o with
  | some (.list _) => some (.lst i 0)
  | some (.dict _ v) => some (.dict i 0 v)
  | _ => none
theorem iter_o {i : Nat} : iterM (.obj i) H = iterO (H[i]?) i := by
  simp only [iterM]
  cases H[i]? with
  | none => rfl
  | some o => cases o <;> rfl
theorem iterO_l {i : Nat} {xs : List V} : iterO (some (.list xs)) i = some (.lst i 0) := rfl
theorem iterO_d {i v : Nat} {xs : List (List Nat × V)} : iterO (some (.dict xs v)) i = some (.dict i 0 v) := rfl
theorem listAt_of {i : Nat} : listAt H i = (H[i]?).bind fun o => match o with | .list xs => some xs | _ => none := by
  unfold listAt; cases H[i]? with
  | none => rfl
  | some o => cases o <;> rfl
end
/-! ## places of a heap that grows -/
theorem get_app {H : Hp} {X : List O} {n : Nat} (h : n < H.length) : (H ++ X)[n]? = H[n]? := List.getElem?_append_left h
theorem get_end {H : Hp} {o : O} {X : List O} : (H ++ o :: X)[H.length]? = some o := by
  rw [List.getElem?_append_right (Nat.le_refl _)]; simp
theorem get_end1 {H : Hp} {o p : O} {X : List O} : (H ++ o :: p :: X)[H.length + 1]? = some p := by
  rw [List.getElem?_append_right (by omega)]; simp
theorem len_app {H : Hp} {X : List O} : (H ++ X).length = H.length + X.length := List.length_append
end Mine.R

end
section
open PySem
set_option autoImplicit false
namespace Mine.R
section
variable {T : Tp} {H : Hp} {l m : List Nat} {vs : List V} {v : V} {i c : Nat} {t : String} {x : Str} {x' : Int}
theorem bi_len_s : biM "len" [.str l] H = some (.int l.length, H) := rfl
theorem bi_len_t : biM "len" [.tup vs] H = some (.int vs.length, H) := rfl
theorem bi_len_o : biM "len" [.obj i] H = match H[i]? with
    | some (.list xs) => some (.int xs.length, H)
    | some (.dict xs _) => some (.int xs.length, H)
    | _ => none := rfl
theorem bi_isi_bool : biM "isinstance" [v, .st (.type "bool")] H = (isInst v "bool" H).map fun b => (.bool b, H) := by simp [biM]
theorem bi_isi_str : biM "isinstance" [v, .st (.type "str")] H = (isInst v "str" H).map fun b => (.bool b, H) := by simp [biM]
theorem bi_isi_list : biM "isinstance" [v, .st (.type "list")] H = (isInst v "list" H).map fun b => (.bool b, H) := by simp [biM]
theorem bi_isi_dict : biM "isinstance" [v, .st (.type "dict")] H = (isInst v "dict" H).map fun b => (.bool b, H) := by simp [biM]
theorem bi_all_ : biM "all" [.obj i] H = (listAt H i).bind fun xs => (boolsOf xs).map fun bs => (.bool (bs.all fun b => b), H) := rfl
theorem bi_ord_ : biM "ord" [.str [c]] H = some (.int c, H) := rfl
theorem bi_app_ : biM "list.append" [.obj i, v] H = (listAt H i).bind fun xs => if xs.length < big then some (.none, H.set i (.list (xs ++ [v]))) else none := rfl
theorem bi_pop_ : biM "list.pop" [.obj i, .int 0] H = match listAt H i with
    | some (v :: xs) => some (v, H.set i (.list xs))
    | _ => none := rfl
theorem bi_strip_ (h : ascii l = true) : biM "str.strip" [.str l] H = some (.str (stripL l), H) := if_pos h
theorem bi_rstrip_ (h : ascii l = true) : biM "str.rstrip" [.str l] H = some (.str (rstripL l), H) := if_pos h
theorem bi_join_ : biM "str.join" [.str m, .obj i] H = (listAt H i).bind fun xs => (strsOf xs).bind fun ls =>
      if (joinL m ls).length ≤ big then some (.str (joinL m ls), H) else none := rfl
theorem bi_index_ : biM "str.index" [.str l, .str [c]] H = if l.contains c then some (.int (l.idxOf c), H) else none := rfl
theorem bi_end_ {s e : Nat} {r : List (Option (Nat × Nat))} : biM "re.Match.end" [.mat l (some (s, e) :: r)] H = some (.int e, H) := rfl
theorem bi_groups_ {o : Option (Nat × Nat)} {r : List (Option (Nat × Nat))} : biM "re.Match.groups" [.mat l (o :: r)] H = some (.tup (r.map (spanTxt l)), H) := rfl
theorem ty_range : tyM "range" [.int x'] H = some (.rng x', H) := rfl
theorem ty_int : tyM "int" [.str l] H = (intOf l).map fun i => (.int i, H) := rfl
theorem meth_strip : getMethM T (.str l) "strip" H = some (.st (.builtin "str.strip"), [.str l]) := by
  simp only [getMethM, ofs_beq]; rfl
theorem meth_rstrip : getMethM T (.str l) "rstrip" H = some (.st (.builtin "str.rstrip"), [.str l]) := by
  simp only [getMethM, ofs_beq]; rfl
theorem meth_join : getMethM T (.str l) "join" H = some (.st (.builtin "str.join"), [.str l]) := by
  simp only [getMethM, ofs_beq]; rfl
theorem meth_index : getMethM T (.str l) "index" H = some (.st (.builtin "str.index"), [.str l]) := by
  simp only [getMethM, ofs_beq]; rfl
theorem meth_match : getMethM T (.glo "NUMBER_RE") "match" H = some (.st (.builtin "re.Pattern.match"), [.glo "NUMBER_RE"]) := by
  simp only [getMethM, ofs_beq]; rfl
theorem meth_end {sp : List (Option (Nat × Nat))} : getMethM T (.mat l sp) "end" H = some (.st (.builtin "re.Match.end"), [.mat l sp]) := by
  simp only [getMethM, ofs_beq]; rfl
theorem meth_groups {sp : List (Option (Nat × Nat))} : getMethM T (.mat l sp) "groups" H = some (.st (.builtin "re.Match.groups"), [.mat l sp]) := by
  simp only [getMethM, ofs_beq]; rfl
theorem meth_append {xs : List V} (h : H[i]? = some (.list xs)) : getMethM T (.obj i) "append" H = some (.st (.builtin "list.append"), [.obj i]) := by
  simp only [getMethM, h, ofs_beq]; rfl
theorem meth_pop {xs : List V} (h : H[i]? = some (.list xs)) : getMethM T (.obj i) "pop" H = some (.st (.builtin "list.pop"), [.obj i]) := by
  simp only [getMethM, h, ofs_beq]; rfl
theorem boolsOf_map {α : Type} (g : α → Bool) : ∀ l : List α, boolsOf (l.map fun a => .bool (g a)) = some (l.map g)
  | [] => rfl
  | a :: r => by simp only [List.map_cons, boolsOf, boolsOf_map g r]; rfl
theorem strsOf_map {α : Type} (g : α → List Nat) : ∀ l : List α, strsOf (l.map fun a => .str (g a)) = some (l.map g)
  | [] => rfl
  | a :: r => by simp only [List.map_cons, strsOf, strsOf_map g r]; rfl
end
end Mine.R
namespace Mine.R
theorem fm_map {α β γ : Type} {f : β → Option γ} {g : α → β} {h : α → γ} {l : List α} (e : ∀ a ∈ l, f (g a) = some (h a)) : (l.map g).filterMap f = l.map h := by
  induction l with
  | nil => rfl
  | cons a r ih =>
    rw [List.map_cons, List.filterMap_cons, e a (by simp), List.map_cons, ih fun b hb => e b (by simp [hb])]
theorem len_map {α β : Type} {g : α → β} {l : List α} : (l.map g).length = l.length := List.length_map ..
end Mine.R

end
section
open PySem
set_option autoImplicit false
namespace Mine.R
section
variable {T : Tp} {F : Fc} {loc : Loc} {H : Hp} {Q : Out → Prop} {v : V}
theorem KIfV_str {a e : E} {c : Bool} {x y : List Nat} {Q : V × Hp → Prop} (h1 : c = true → ∀ P : V × Hp → Prop, P (.str x, H) → W T ((den T F a loc).v H) P) (h2 : c = false → ∀ P : V × Hp → Prop, P (.str y, H) → W T ((den T F e loc).v H) P)
    (hq : Q (.str (if c then x else y), H)) : KIfV T F loc a e Q (c, H) := by
  cases c with
  | true => rw [KIfV_t]; exact h1 rfl Q (by simpa using hq)
  | false => rw [KIfV_f]; exact h2 rfl Q (by simpa using hq)
theorem KIfV_int {a e : E} {c : Bool} {x y : Int} {Q : V × Hp → Prop} (h1 : c = true → ∀ P : V × Hp → Prop, P (.int x, H) → W T ((den T F a loc).v H) P) (h2 : c = false → ∀ P : V × Hp → Prop, P (.int y, H) → W T ((den T F e loc).v H) P)
    (hq : Q (.int (if c then x else y), H)) : KIfV T F loc a e Q (c, H) := by
  cases c with
  | true => rw [KIfV_t]; exact h1 rfl Q (by simpa using hq)
  | false => rw [KIfV_f]; exact h2 rfl Q (by simpa using hq)
def KForE (T : Tp) (F : Fc) (t : E) (it : It) (x : S) (Q : Out → Prop) : Out → Prop := fun o => match o.f with
  | .next => WT T (.for_ t it x F o.loc o.H) Q
  | .cont => WT T (.for_ t it x F o.loc o.H) Q
  | .brk => Q ⟨.next, o.loc, o.H⟩
  | .ret v => Q ⟨.ret v, o.loc, o.H⟩
def KForA (T : Tp) (F : Fc) (t : E) (it : It) (x : S) (Q : Out → Prop) : Loc × Hp → Prop := fun y => W T ((denS T F x).l y.1 y.2) (KForE T F t it x Q)
theorem KForA_ {t : E} {it : It} {x : S} : KForA T F t it x Q (loc, H) ↔ W T ((denS T F x).l loc H) (KForE T F t it x Q) := Iff.rfl
theorem KForE_next {t : E} {it : It} {x : S} : KForE T F t it x Q ⟨.next, loc, H⟩ ↔ WT T (.for_ t it x F loc H) Q := Iff.rfl
theorem KForE_cont {t : E} {it : It} {x : S} : KForE T F t it x Q ⟨.cont, loc, H⟩ ↔ WT T (.for_ t it x F loc H) Q := Iff.rfl
theorem KForE_brk {t : E} {it : It} {x : S} : KForE T F t it x Q ⟨.brk, loc, H⟩ ↔ Q ⟨.next, loc, H⟩ := Iff.rfl
theorem KForE_ret {t : E} {it : It} {x : S} : KForE T F t it x Q ⟨.ret v, loc, H⟩ ↔ Q ⟨.ret v, loc, H⟩ := Iff.rfl
theorem for_end {t : E} {it : It} {x : S} (h : nextM it H = some none) : WT T (.for_ t it x F loc H) Q ↔ Q ⟨.next, loc, H⟩ := by
  rw [WT_W]
  refine W_bind.trans (W_opt.trans ?_)
  rw [h, optW_some]; exact W_ret
theorem for_turn {t : E} {it it' : It} {x : S} (h : nextM it H = some (some (v, it'))) : WT T (.for_ t it x F loc H) Q ↔ W T ((den T F t loc).a v H) (KForA T F t it' x Q) := by
  rw [WT_W]
  refine W_bind.trans (W_opt.trans ?_)
  rw [h, optW_some]
  refine W_bind.trans ?_
  have : (fun y : Loc × Hp => W T (((denS T F x).l y.1 y.2).bind fun o => match o.f with
        | .next => .call (.for_ t it' x F o.loc o.H) .ret
        | .cont => .call (.for_ t it' x F o.loc o.H) .ret
        | .brk => .ret ⟨.next, o.loc, o.H⟩
        | .ret v => .ret ⟨.ret v, o.loc, o.H⟩) Q) = KForA T F t it' x Q := by
    funext y
    refine propext (W_bind.trans ?_)
    unfold KForA
    apply iff_of_eq; congr; funext o; obtain ⟨f, l, H2⟩ := o
    cases f <;> first | exact propext W_ret | exact propext (W_call.trans (by simp only [W_ret]; exact Iff.rfl))
  rw [← this] <;> exact Iff.rfl
/-- a call of a def of the top with one cell -/
theorem WT_fnC {x : Str} {i : FnI} {args : List V} {kws b : List (Str × V)} {d : Nat} {c : Str} (h : T.fn x = some i) (hb : bindM i.params i.dflt args kws = some b) (hd : d < 150) (he : entOk i.sc [] (b.map (·.1)) = true)
    (hc : i.sc.names.filter (fun y => y.2 == .cell) = [(c, .cell)]) (hn : b.all (fun y => i.sc.names.lookup y.1 == some .local) = true) (hx : b.lookup c = none) :
    WT T (.call (.glo x) args kws d H) Q ↔ W T ((denS T ⟨i.sc.names, [(c, H.length)], d + 1, i.tab⟩ i.body).l b (H ++ [.cell none])) (KBody Q) := by
  have key : ∀ (names : List (Str × NameKind)) (n : Nat), names.filter (fun y => y.2 == .cell) = [] → newCells names n = [] ∧ cellObjs b names = [] := by
    intro names
    induction names with
    | nil => intro n _; exact ⟨rfl, rfl⟩
    | cons p r ih =>
      intro n hh
      obtain ⟨y, k⟩ := p
      cases k <;> first | (rw [List.filter_cons_of_neg Bool.false_ne_true] at hh; exact ih n hh) | (rw [List.filter_cons_of_pos rfl] at hh; cases hh)
  have key1 : ∀ (names : List (Str × NameKind)) (n : Nat), names.filter (fun y => y.2 == .cell) = [(c, .cell)] → newCells names n = [(c, n)] ∧ cellObjs b names = [.cell none] := by
    intro names
    induction names with
    | nil => intro n hh; cases hh
    | cons p r ih =>
      intro n hh
      obtain ⟨y, k⟩ := p
      cases k
      case cell =>
        rw [List.filter_cons_of_pos rfl] at hh
        obtain ⟨e1, e2⟩ := List.cons.inj hh
        cases e1
        have := key r (n + 1) e2
        exact ⟨by simp only [newCells, this.1]; rfl, by simp only [cellObjs, this.2, hx]⟩
      all_goals (rw [List.filter_cons_of_neg Bool.false_ne_true] at hh; exact ih n hh)
  have kk := key1 i.sc.names H.length hc
  have hb2 : b.filter (fun y => i.sc.names.lookup y.1 == some .local) = b := by
    rw [List.filter_eq_self]; exact fun y hy => List.all_eq_true.mp hn y hy
  have he2 := enter_of (tab := i.tab) (H := H) hd he
  rw [kk.1, kk.2, hb2] at he2
  exact WT_fn h hb (by simpa using he2)
end
theorem cellAt_of {H : Hp} {i : Nat} {v : Option V} (h : H[i]? = some (.cell v)) : cellAtM H i = v := by
  unfold cellAtM; rw [h]
theorem sl_from {l : List Nat} {n : Nat} : sliceL l (some (n : Int)) none = l.drop n := by
  unfold sliceL loI hiI clampI
  dsimp only
  rw [if_neg (by omega)]
  by_cases h : n ≤ l.length
  · rw [Nat.min_eq_left (by omega)]
    have : (n : Int).toNat = n := by omega
    rw [this, List.take_of_length_le (by rw [List.length_drop]; omega)]
  · have : l.drop (min (n : Int).toNat l.length) = [] := List.drop_eq_nil_of_le (by omega)
    rw [this, List.drop_eq_nil_of_le (by omega)]; simp
theorem sl_from1 {l : List Nat} {n : Nat} : sliceL l (some ((n : Int) + 1)) none = l.drop (n + 1) := @sl_from l (n + 1)
theorem sl_1 {l : List Nat} : sliceL l (some 1) none = l.drop 1 := @sl_from l 1
theorem sl_to {l : List Nat} {n : Nat} : sliceL l none (some (n : Int)) = l.take n := by
  unfold sliceL loI hiI clampI
  dsimp only
  rw [if_neg (by omega), List.drop_zero, Nat.sub_zero]
  by_cases h : n ≤ l.length
  · rw [Nat.min_eq_left (by omega)]; congr 1
  · rw [Nat.min_eq_right (by omega), List.take_of_length_le (by omega), List.take_of_length_le (by omega)]
theorem sl_to1 {l : List Nat} : sliceL l none (some 1) = l.take 1 := @sl_to l 1
theorem sl_two {l : List Nat} {n : Nat} : sliceL l (some (n : Int)) (some ((n : Int) + 2)) = (l.drop n).take 2 := by
  unfold sliceL loI hiI clampI
  dsimp only
  rw [if_neg (by omega), if_neg (by omega)]
  by_cases h : n + 2 ≤ l.length
  · rw [Nat.min_eq_left (by omega), Nat.min_eq_left (by omega)]
    have h1 : (n : Int).toNat = n := by omega
    have h2 : ((n : Int) + 2).toNat - (n : Int).toNat = 2 := by omega
    rw [h2, h1]
  · rw [Nat.min_eq_right (by omega)]
    by_cases h' : n ≤ l.length
    · rw [Nat.min_eq_left (by omega)]
      have h1 : (n : Int).toNat = n := by omega
      rw [h1, List.take_of_length_le (by rw [List.length_drop]; omega), List.take_of_length_le (by rw [List.length_drop]; omega)]
    · rw [List.drop_eq_nil_of_le (by omega), List.drop_eq_nil_of_le (by omega)]; simp
theorem index_n {α : Type} {l : List α} {n : Nat} : indexL l (n : Int) = l[n]? := by
  unfold indexL; rw [if_pos (by omega)]; congr 1
theorem index_0 {α : Type} {l : List α} : indexL l 0 = l[0]? := @index_n α l 0
theorem index_1 {α : Type} {l : List α} : indexL l 1 = l[1]? := @index_n α l 1
theorem word_nn {n m : Nat} (h : n < m) (hm : m < 1000000000) : wordI (n : Int) = true := wordN (by omega)
end Mine.R
namespace Mine.R
theorem lb0 : 0 ≤ big := by decide
theorem lb1 : 1 ≤ big := by decide
theorem lb2 : 2 ≤ big := by decide
theorem lb3 : 3 ≤ big := by decide
theorem lb4 : 4 ≤ big := by decide
theorem lb5 : 5 ≤ big := by decide
theorem lb6 : 6 ≤ big := by decide
theorem lb7 : 7 ≤ big := by decide
theorem lb8 : 8 ≤ big := by decide
end Mine.R
namespace Mine.R
theorem lenE_nil : lenE .nil = 0 := by unfold lenE; exact id rfl
theorem lenE_cons {e r : E} : lenE (.cons e r) = lenE r + 1 := by exact id rfl
theorem lenE_kw {x : Str} {e r : E} {p : Pos} : lenE (.kw x e p r) = lenE r + 1 := by exact id rfl
end Mine.R
namespace Mine.R
theorem bm10 {x : Int} {H : Hp} : binM .Mult (.int x) (.int 10) H = some (.int (x * 10), H) := binM_mul (by decide)
theorem negM_ {x : Int} : negM .USub (.int x) = some (.int (-x)) := rfl
theorem dig_index {c : Nat} (h : isDig c = true) : ([48, 49, 50, 51, 52, 53, 54, 55, 56, 57] : List Nat).contains c = true ∧ ([48, 49, 50, 51, 52, 53, 54, 55, 56, 57] : List Nat).idxOf c = c - 48 := by
  unfold isDig at h
  simp only [Bool.and_eq_true, decide_eq_true_eq] at h
  obtain ⟨h1, h2⟩ := h
  have : c = 48 ∨ c = 49 ∨ c = 50 ∨ c = 51 ∨ c = 52 ∨ c = 53 ∨ c = 54 ∨ c = 55 ∨ c = 56 ∨ c = 57 := by omega
  rcases this with rfl | rfl | rfl | rfl | rfl | rfl | rfl | rfl | rfl | rfl <;> decide
theorem digitsN_snoc {l : List Nat} {c : Nat} : digitsN (l ++ [c]) = digitsN l * 10 + (c - 48) := by
  unfold digitsN; rw [List.foldl_append]; rfl
end Mine.R

end
section
open PySem
set_option autoImplicit false
namespace Mine.R
section
variable {H : Hp} {i j : Nat} {xs ys : List V}
def addO (a b : Option (List V)) (H : Hp) : Option (V × Hp) := match a, b with
  | some xs, some ys => if xs.length + ys.length ≤ big then some (.obj H.length, H ++ [.list (xs ++ ys)]) else none
  | _, _ => none
theorem binM_addo : binM .Add (.obj i) (.obj j) H = addO (listAt H i) (listAt H j) H := by
  unfold binM addO
  cases h1 : listAt H i <;> cases h2 : listAt H j <;> simp [h1, h2]
theorem addO_ (h : xs.length + ys.length ≤ big) : addO (some xs) (some ys) H = some (.obj H.length, H ++ [.list (xs ++ ys)]) := if_pos h
theorem listAt_app {X : Hp} (h : i < H.length) : listAt (H ++ X) i = listAt H i := by
  unfold listAt; rw [get_app h]
theorem listAt_end1 {xs : List V} {X : Hp} : listAt (H ++ .list xs :: X) H.length = some xs := by
  unfold listAt; rw [get_end]
theorem listAt_keep {X : Hp} (h : listAt H i = some xs) : listAt (H ++ X) i = some xs := by
  rw [listAt_app (listAt_len h)]; exact h
theorem ascii_take {l : List Nat} {n : Nat} (h : ascii l = true) : ascii (l.take n) = true :=
  List.all_eq_true.mpr fun x hx => List.all_eq_true.mp h x (List.mem_of_mem_take hx)
theorem ascii_drop {l : List Nat} {n : Nat} (h : ascii l = true) : ascii (l.drop n) = true :=
  List.all_eq_true.mpr fun x hx => List.all_eq_true.mp h x (List.mem_of_mem_drop hx)
theorem strip_len {l : List Nat} : (stripL l).length ≤ l.length := by
  unfold stripL rstripL lstripL
  rw [List.length_reverse]
  refine Nat.le_trans (List.dropWhile_suffix _).sublist.length_le ?_
  rw [List.length_reverse]
  exact (List.dropWhile_suffix _).sublist.length_le
end
end Mine.R
namespace Mine.R
section
variable {T : Tp} {F : Fc} {loc : Loc} {H : Hp} {Q : V × Hp → Prop}
theorem v_callmsl {o lo hi : E} {sp q : Pos} {x : Str} {a b c e : Nat} {p : Pos} {args kws : E} (h : (p.line == c) = true) (h2 : decide (lenE args + lenE kws < 20) = true) : W T ((den T F (.callm (.slice o lo hi sp q) x ⟨a, b, c, e⟩ args kws p) loc).v H) Q ↔ W T ((den T F (.slice o lo hi sp q) loc).v H) (KMeth1 T F loc x args kws Q) := by
  refine v_callm ?_
  unfold callmOk
  have h1 : p.line = c := by simpa using h
  have h3 : lenE args + lenE kws < 20 := by simpa using h2
  simp only [isSuper, h1, bne_self_eq_false, Bool.or_false, Bool.false_or, Bool.not_eq_true', decide_eq_false_iff_not]
  omega
end
end Mine.R
namespace Mine.R
section
variable {T : Tp} {H X : Hp} {i k : Nat} {o o' : O} {v : V} {x c : Str} {fs : List (Str × V)}
theorem cellAt_app0 : cellAtM (H ++ X) H.length = cellAtM X 0 := by
  unfold cellAtM; rw [List.getElem?_append_right (Nat.le_refl _), Nat.sub_self]
theorem cellAt_appk : cellAtM (H ++ X) (H.length + k) = cellAtM X k := by
  unfold cellAtM; rw [List.getElem?_append_right (by omega), Nat.add_sub_cancel_left]
theorem cellAt_succ : cellAtM (o :: X) (k + 1) = cellAtM X k := by
  unfold cellAtM; rw [List.getElem?_cons_succ]
theorem cellAt_zero {v : Option V} : cellAtM (.cell v :: X) 0 = v := by
  exact id rfl
theorem isCell_app0 : isCell (H ++ X) H.length = isCell X 0 := by
  unfold isCell; rw [List.getElem?_append_right (Nat.le_refl _), Nat.sub_self]
theorem isCell_appk : isCell (H ++ X) (H.length + k) = isCell X k := by
  unfold isCell; rw [List.getElem?_append_right (by omega), Nat.add_sub_cancel_left]
theorem isCell_succ : isCell (o :: X) (k + 1) = isCell X k := by
  unfold isCell; rw [List.getElem?_cons_succ]
theorem isCell_zero {v : Option V} : isCell (.cell v :: X) 0 = true := by
  exact id rfl
theorem set_app0 : (H ++ X).set H.length o = H ++ X.set 0 o := by
  rw [List.set_append_right _ _ (Nat.le_refl _), Nat.sub_self]
theorem set_appk : (H ++ X).set (H.length + k) o = H ++ X.set k o := by
  rw [List.set_append_right _ _ (by omega), Nat.add_sub_cancel_left]
theorem set_succ : (o :: X).set (k + 1) o' = o :: X.set k o' := by exact id rfl
theorem set_zero : (o :: X).set 0 o' = o' :: X := by exact id rfl
theorem get_app0 : (H ++ X)[H.length]? = X[0]? := by
  rw [List.getElem?_append_right (Nat.le_refl _), Nat.sub_self]
theorem get_appk : (H ++ X)[H.length + k]? = X[k]? := by
  rw [List.getElem?_append_right (by omega), Nat.add_sub_cancel_left]
def setA (oo : Option O) (i : Nat) (x : Str) (v : V) (H : Hp) : Option Hp := match oo with
  | some (.inst c fs) => if fieldNames.contains x && decide (fs.length < 1000) then some (H.set i (.inst c (putS fs x v))) else none
  | _ => none
theorem setAttr_ : setAttrM (.obj i) x v H = setA (H[i]?) i x v H := by
  first
  | (simp only [setAttrM, setA]; done)
  | (simp only [setAttrM, setA]
     cases H[i]? with
     | none => rfl
     | some o => cases o <;> rfl)
theorem setA_ (h : (fieldNames.contains x && decide (fs.length < 1000)) = true) : setA (some (.inst c fs)) i x v H = some (H.set i (.inst c (putS fs x v))) := if_pos h
def getA (T : Tp) (oo : Option O) (x : Str) : Option V := match oo with
  | some (.inst c fs) => match T.meth c x with
    | some _ => none
    | none => fieldM fs x
  | _ => none
theorem getAttr_ : getAttrM T (.obj i) x H = getA T (H[i]?) x := by
  first
  | (simp only [getAttrM, getA]; done)
  | (simp only [getAttrM, getA]
     cases H[i]? with
     | none => rfl
     | some o => cases o <;> rfl)
theorem getA_ (h : (T.meth c x).isNone = true) : getA T (some (.inst c fs)) x = fieldM fs x := by
  unfold getA
  cases hm : T.meth c x with
  | none => simp only [hm]
  | some q => rw [hm] at h; cases h
theorem fieldM_ (h : fieldNames.contains x = true) (hh : (fs.lookup x).all handM = true) : fieldM fs x = fs.lookup x := by
  unfold fieldM
  rw [if_pos h]
  cases hl : fs.lookup x with
  | none => rfl
  | some u => rw [hl] at hh; simp only [Option.all_some] at hh; rw [Option.bind_some, if_pos hh]
theorem putS_nil : putS [] x v = [(x, v)] := by exact id rfl
theorem putS_cons {y : Str} {u : V} {r : List (Str × V)} : putS ((y, u) :: r) x v = if (y == x) = true then (y, v) :: r else (y, u) :: putS r x v := by exact id rfl
theorem fields_in {s : String} (h : (["encoding", "object_hook", "object_pairs_hook", "parse_float", "parse_int", "strict", "parse_object", "parse_array", "parse_string", "parse_mlstring", "parse_tfnns", "memo", "scan_once", "scan_object_once"] : List String).contains s = true) : fieldNames.contains (Str.ofString s) = true := by
  have : fieldNames = (["encoding", "object_hook", "object_pairs_hook", "parse_float", "parse_int", "strict", "parse_object", "parse_array", "parse_string", "parse_mlstring", "parse_tfnns", "memo", "scan_once", "scan_object_once"] : List String).map Str.ofString := rfl
  rw [this]
  rw [List.contains_eq_mem, decide_eq_true_eq] at h ⊢
  exact List.mem_map_of_mem h
theorem truth_frac : truthM (.glo "_law_fraction") H = some true := by simp [truthM]
theorem truth_clo {ps : Arguments} {b : S} {sc : Scope} {cl : List (Str × Nat)} : truthM (.clo ps b sc cl) H = some true := by exact id rfl
end
end Mine.R
namespace Mine.R
theorem fi_0 : fieldNames.contains (Str.ofString "encoding") = true := fields_in (by decide)
theorem fi_1 : fieldNames.contains (Str.ofString "object_hook") = true := fields_in (by decide)
theorem fi_2 : fieldNames.contains (Str.ofString "object_pairs_hook") = true := fields_in (by decide)
theorem fi_3 : fieldNames.contains (Str.ofString "parse_float") = true := fields_in (by decide)
theorem fi_4 : fieldNames.contains (Str.ofString "parse_int") = true := fields_in (by decide)
theorem fi_5 : fieldNames.contains (Str.ofString "strict") = true := fields_in (by decide)
theorem fi_6 : fieldNames.contains (Str.ofString "parse_object") = true := fields_in (by decide)
theorem fi_7 : fieldNames.contains (Str.ofString "parse_array") = true := fields_in (by decide)
theorem fi_8 : fieldNames.contains (Str.ofString "parse_string") = true := fields_in (by decide)
theorem fi_9 : fieldNames.contains (Str.ofString "parse_mlstring") = true := fields_in (by decide)
theorem fi_10 : fieldNames.contains (Str.ofString "parse_tfnns") = true := fields_in (by decide)
theorem fi_11 : fieldNames.contains (Str.ofString "memo") = true := fields_in (by decide)
theorem fi_12 : fieldNames.contains (Str.ofString "scan_once") = true := fields_in (by decide)
theorem fi_13 : fieldNames.contains (Str.ofString "scan_object_once") = true := fields_in (by decide)
theorem hm_glo {x : Str} : handM (.glo x) = true := by exact id rfl
theorem hm_str {l : List Nat} : handM (.str l) = true := by exact id rfl
theorem hm_bool {b : Bool} : handM (.bool b) = true := by exact id rfl
theorem hm_none  : handM V.none = true := by exact id rfl
theorem hm_obj {i : Nat} : handM (.obj i) = true := by exact id rfl
theorem hm_clo {ps : Arguments} {b : S} {sc : Scope} {cl : List (Str × Nat)} : handM (.clo ps b sc cl) = true := by exact id rfl
end Mine.R
namespace Mine.R
theorem get_mid {H X : Hp} {o : O} : (H ++ [o] ++ X)[H.length]? = some o := by
  rw [List.append_assoc, List.getElem?_append_right (Nat.le_refl _), Nat.sub_self]; rfl
theorem set_mid {H X : Hp} {o o' : O} : (H ++ [o] ++ X).set H.length o' = H ++ [o'] ++ X := by
  rw [List.append_assoc, List.set_append_right _ _ (Nat.le_refl _), Nat.sub_self, List.append_assoc]; rfl
theorem get_mid2 {H X Y : Hp} {o : O} : (H ++ [o] ++ X ++ Y)[H.length]? = some o := by
  rw [List.append_assoc]; exact get_mid
theorem set_mid2 {H X Y : Hp} {o o' : O} : (H ++ [o] ++ X ++ Y).set H.length o' = H ++ [o'] ++ X ++ Y := by
  rw [List.append_assoc (H ++ [o]), set_mid, List.append_assoc (H ++ [o'])]
end Mine.R
namespace Mine.R
theorem sl_0n {l : List Nat} {n : Nat} : sliceL l (some 0) (some (n : Int)) = l.take n := by
  rw [← @sl_to l n]; unfold sliceL loI hiI clampI; simp
end Mine.R
namespace Mine.R
section
variable {T : Tp} {H : Hp} {i n : Nat} {x c q : Str} {fs : List (Str × V)} {xs : List V} {es : List (List Nat × V)}
def getMM (T : Tp) (oo : Option O) (i : Nat) (x : Str) : Option (V × List V) := match oo with
  | some (.list _) => if x == "append" then some (.st (.builtin "list.append"), [.obj i]) else if x == "pop" then some (.st (.builtin "list.pop"), [.obj i]) else none
  | some (.dict ..) => if x == "clear" then some (.st (.builtin "dict.clear"), [.obj i]) else none
  | some (.inst c fs) => match T.meth c x with
      | some q => if (fs.lookup x).isSome then none else some (.glo q, [.obj i])
      | none => (fieldM fs x).map fun u => (u, [])
  | _ => none
theorem getMeth_obj : getMethM T (.obj i) x H = getMM T (H[i]?) i x := by
  first
  | (simp only [getMethM, getMM]; done)
  | (simp only [getMethM, getMM]
     cases H[i]? with
     | none => rfl
     | some o => cases o <;> rfl)
theorem getMM_append : getMM T (some (.list xs)) i "append" = some (.st (.builtin "list.append"), [.obj i]) := by
  simp only [getMM, ofs_beq]; rfl
theorem getMM_pop : getMM T (some (.list xs)) i "pop" = some (.st (.builtin "list.pop"), [.obj i]) := by
  simp only [getMM, ofs_beq]; rfl
theorem getMM_clear : getMM T (some (.dict es n)) i "clear" = some (.st (.builtin "dict.clear"), [.obj i]) := by
  simp only [getMM, ofs_beq]; rfl
theorem getMM_fld (h : (T.meth c x).isNone = true) : getMM T (some (.inst c fs)) i x = (fieldM fs x).map fun u => (u, []) := by
  unfold getMM
  cases hm : T.meth c x with
  | none => simp only [hm]
  | some q => rw [hm] at h; cases h
end
end Mine.R

end
section
open PySem
set_option autoImplicit false
namespace Mine.R
section
variable {α β : Type} {T : Tp} {F : Fc} {loc : Loc} {H : Hp} {i n : Nat} {xs : List V} {x : Str}
theorem slG_to {l : List α} {n : Nat} : sliceL l none (some (n : Int)) = l.take n := by
  unfold sliceL loI hiI clampI
  dsimp only
  rw [if_neg (by omega), List.drop_zero, Nat.sub_zero]
  by_cases h : n ≤ l.length
  · rw [Nat.min_eq_left (by omega)]; congr 1
  · rw [Nat.min_eq_right (by omega), List.take_of_length_le (by omega), List.take_of_length_le (by omega)]
theorem sliceL_map {l : List α} {f : α → β} {a b : Option Int} : sliceL (l.map f) a b = (sliceL l a b).map f := by
  unfold sliceL
  rw [List.length_map, List.map_take, List.map_drop]
theorem sliceL_len {l : List α} {a b : Option Int} : (sliceL l a b).length ≤ l.length := by
  unfold sliceL; rw [List.length_take, List.length_drop]; omega
def truthO (o : Option O) : Option Bool := match o with
  | some (.list xs) => some (!xs.isEmpty)
  | some (.dict es _) => some (!es.isEmpty)
  | _ => none
theorem truth_obj : truthM (.obj i) H = truthO (H[i]?) := by
  first
  | (simp only [truthM, truthO]; done)
  | (simp only [truthM, truthO]
     cases H[i]? with
     | none => rfl
     | some o => cases o <;> rfl)
theorem truthO_l : truthO (some (.list xs)) = some (!xs.isEmpty) := by exact id rfl
def sliceG (xs : Option (List V)) (a b : Option (Option Int)) (H : Hp) : Option (V × Hp) := match a, b, xs with
  | some a, some b, some xs => if xs.length ≤ big then some (.obj H.length, H ++ [.list (sliceL xs a b)]) else none
  | _, _, _ => none
theorem slice_glo {lo hi : V} : sliceM T (.glo x) lo hi H = sliceG (T.lst x) (intOpt lo) (intOpt hi) H := by
  unfold sliceM sliceG
  cases h1 : intOpt lo <;> cases h2 : intOpt hi <;> cases h3 : T.lst x <;> simp [h3]
theorem sliceG_ {a b : Option Int} (h : xs.length ≤ big) : sliceG (some xs) (some a) (some b) H = some (.obj H.length, H ++ [.list (sliceL xs a b)]) := if_pos h
theorem KBl2_mono {op : BoolOp} {r : E} {a : V} {t : Bool} {P Q : V × Hp → Prop} (h : KBl2 T F loc op r a H P t) (hq : ∀ y, P y → Q y) : KBl2 T F loc op r a H Q t := by
  cases op <;> cases t <;> first | exact hq _ h | exact W_mono h hq
theorem listAt_get (h : H[i]? = some (.list xs)) : listAt H i = some xs := by unfold listAt; rw [h]
theorem get_listAt (h : listAt H i = some xs) : H[i]? = some (.list xs) := by
  unfold listAt at h
  split at h
  · rename_i e; rw [e]; cases h; rfl
  · cases h
theorem joinL_nil : ∀ ls : List (List Nat), joinL [] ls = ls.flatten
  | [] => rfl
  | [x] => by simp [joinL]
  | x :: y :: r => by simp only [joinL, joinL_nil (y :: r), List.append_nil, List.flatten_cons]
theorem fmod_nat {x : Int} {m : Nat} (hm : 0 < m) : ∃ k : Nat, x.fmod (m : Int) = (k : Int) ∧ k < m := by
  have h1 : 0 ≤ x.fmod (m : Int) := Int.fmod_nonneg_of_pos _ (by omega)
  have h2 : x.fmod (m : Int) < m := Int.fmod_lt_of_pos _ (by omega)
  exact ⟨(x.fmod m).toNat, by omega, by omega⟩
theorem index_last {l : List α} {a : α} : indexL (l ++ [a]) (-1) = some a := by
  unfold indexL
  rw [if_neg (by omega), if_pos (by simp only [List.length_append, List.length_singleton]; omega)]
  have : (-1 + ((l ++ [a]).length : Int)).toNat = l.length := by simp only [List.length_append, List.length_singleton]; omega
  rw [this, List.getElem?_append_right (Nat.le_refl _), Nat.sub_self]; rfl
end
end Mine.R

end
section
open PySem
set_option autoImplicit false
namespace Mine.R
def stAt (n : Nat) : Stmt := (PySem.Challenge.pw_ew0010_02.main.body[n]?).getD (.Pass p0)
def kidAt (n k : Nat) : Stmt := match stAt n with
  | .ClassDef _ _ _ body _ _ _ _ _ _ _ => (body[k]?).getD (.Pass p0)
  | _ => .Pass p0
def fnI (q : Str) (s : Stmt) (df : List V) (tab : Bool) : FnI := match s with
  | .FunctionDef _ ps a _ _ _ sc _ _ _ => ⟨q, ps, df, dnSs 100 a, sc, tab⟩
  | _ => ⟨q, ⟨[], [], none, [], [], none, []⟩, [], .nil, ⟨.function, [], false, false, []⟩, false⟩
def fnTab : List (Str × FnI) := [
  ("getNext", fnI "getNext" (stAt 12) [] false),
  ("scantfnns", fnI "scantfnns" (stAt 17) [] false),
  ("make_scanner", fnI "make_scanner" (stAt 19) [] true),
  ("whole", fnI "whole" (stAt 22) [] false),
  ("HjsonDecoder.__init__", fnI "HjsonDecoder.__init__" (kidAt 23 0) [.none, .none, .none, .none, .bool true, .none] false),
  ("_law_fraction", fnI "_law_fraction" (stAt 26) [] false),
  ("_law_digits", fnI "_law_digits" (stAt 27) [] false),
  ("_law_number", fnI "_law_number" (stAt 28) [] false),
  ("_law_wanted", fnI "_law_wanted" (stAt 29) [] false),
  ("law", fnI "law" (stAt 30) [] false)]
def strV (s : String) : V := .str (s.toList.map Char.toNat)
def globTab : List (Str × V) := [
  ("WHITESPACE", .str [32, 9, 10, 13]), ("PUNCTUATOR", .str [123, 125, 91, 93, 44, 58]), ("DEFAULT_ENCODING", .str [117, 116, 102, 45, 56]),
  ("NUMBER_RE", .glo "NUMBER_RE"), ("getNext", .glo "getNext"), ("scantfnns", .glo "scantfnns"), ("make_scanner", .glo "make_scanner"), ("whole", .glo "whole"),
  ("HjsonDecoder", .glo "HjsonDecoder"), ("_law_pieces", .glo "_law_pieces"), ("JSONObject", .glo "JSONObject"), ("JSONArray", .glo "JSONArray"), ("scanstring", .glo "scanstring"), ("mlscanstring", .glo "mlscanstring"), ("_law_fraction", .glo "_law_fraction"), ("_law_digits", .glo "_law_digits"),
  ("_law_number", .glo "_law_number"), ("_law_wanted", .glo "_law_wanted"), ("law", .glo "law"),
  ("len", .st (.builtin "len")), ("isinstance", .st (.builtin "isinstance")), ("all", .st (.builtin "all")), ("range", .st (.type "range")), ("bool", .st (.type "bool")), ("int", .st (.type "int"))]
def pieces : List String := ["true", "false", "null", "0", "12", "-7", "01", "-", "1.5", "2e3", "x", "tru", ",", "]", "}", "#", "//", "/*", "/", " ", "\t", "1 2", "-0.25E-1", "1.", ".5", "e5"]
def TL (ns : List Int) : Tp where
  glob x := globTab.lookup x
  fn x := fnTab.lookup x
  lst x := if x == "_law_pieces" then some (pieces.map strV) else if x == "script" then some (ns.map V.int) else none
  meth c x := if c == "HjsonDecoder" && x == "__init__" then some "HjsonDecoder.__init__" else none
  defs l c := if l == 239 && c == 4 then some "_scan_once" else if l == 255 && c == 4 then some "scan_once" else if l == 263 && c == 4 then some "scan_object_once" else none
section
variable {ns : List Int} {x c : Str} {i j : Nat}
theorem TL_glob : (TL ns).glob x = globTab.lookup x := rfl
theorem TL_fn : (TL ns).fn x = fnTab.lookup x := rfl
theorem TL_meth : (TL ns).meth c x = if c == "HjsonDecoder" && x == "__init__" then some (Str.ofString "HjsonDecoder.__init__") else none := rfl
theorem TL_lst : (TL ns).lst x = if x == "_law_pieces" then some (pieces.map strV) else if x == "script" then some (ns.map V.int) else none := rfl
theorem TL_defs : (TL ns).defs i j = if i == 239 && j == 4 then some (Str.ofString "_scan_once") else if i == 255 && j == 4 then some (Str.ofString "scan_once") else if i == 263 && j == 4 then some (Str.ofString "scan_object_once") else none := rfl
end
end Mine.R

end
section
open PySem
set_option autoImplicit false
set_option maxHeartbeats 4000000
namespace Mine.R
local macro_rules | `(tactic| walk_at "W") => `(tactic| simp only [↓KB_, ↓KBin1_, ↓KBin2_, ↓KUn_, ↓KNot_, ↓KTru_, ↓KIfV_t, ↓KIfV_f, ↓KIfT_t, ↓KIfT_f, ↓KLst_, ↓KTpl_, ↓KTplA_, ↓KCmp1_, ↓KCmp2_, ↓KBool_, ↓KMeth1_, ↓KMeth2_, ↓KCall1_, ↓KArgs_, ↓KKws_, ↓KAttr_, ↓KAttrA_, ↓KLocA_, ↓KSub1_, ↓KSub2_, ↓KSubA1_, ↓KSubA2_, ↓KSl1_, ↓KSl2_, ↓KSl3_, ↓KL1_, ↓KL2_, ↓KK1_, ↓KK2_,
  ↓KTl_At, ↓KTl_Af, ↓KTl_Ot, ↓KTl_Of, ↓KTl_nil, ↓KBl_, ↓KBl2_At, ↓KBl2_Af, ↓KBl2_Ot, ↓KBl2_Of, ↓KAl_, ↓KComp1_, ↓KComp2_, ↓KComp3_, ↓v_cst, ↓v_name, ↓a_name, ↓v_bop, ↓t_bop, ↓v_bin, ↓t_not, ↓v_neg, ↓v_ife, ↓t_ife, ↓v_lst, ↓v_tpl, ↓a_tpl, ↓v_dict0, ↓v_comp, ↓v_cmp, ↓t_cmp, ↓v_callmn, ↓v_callmc, ↓v_callmsl, ↓v_calln, ↓v_attrn, ↓a_attr, ↓v_sub, ↓a_sub, ↓v_slice, ↓l_nil, ↓k_nil, ↓tl_nilA, ↓tl_nilO, ↓al_nil, ↓l_cons, ↓tl_cons, ↓bl_last, ↓bl_cons, ↓al_cons, ↓k_kw, ↓o_no, ↓o_cst, ↓o_name, ↓o_bop, ↓o_bin, ↓o_neg, ↓o_ife, ↓o_lst, ↓o_tpl, ↓o_dict0, ↓o_comp, ↓o_cmp, ↓o_callm, ↓o_call, ↓o_attr, ↓o_sub, ↓o_slice, ↓t_cst, ↓t_name, ↓t_bin, ↓t_callm, ↓t_call, ↓t_attr, ↓t_sub, ↓t_slice,
  ↓KSeq_next, ↓KSeq_ret, ↓KSeq_brk, ↓KSeq_cont, ↓KExpr_, ↓KRet_, ↓KAsg1_, ↓KAsg2_, ↓KAug1_, ↓KAug2_, ↓KAug3_, ↓KIf_t, ↓KIf_f, ↓KFor1_, ↓KFor2_, ↓KTry1_next, ↓KTry1_ret, ↓KTry1_brk, ↓KTry1_cont, ↓KTry2_nil, ↓KTry2_cons, ↓KTry3_, ↓KBody_ret, ↓KBody_next, ↓KCallR_, ↓KCallI_, ↓KComp4_, ↓KDef_, ↓s_nil, ↓s_cons, ↓s_exprc, ↓s_exprm, ↓s_ret, ↓s_asgn, ↓s_asg, ↓s_aug, ↓s_ife, ↓s_whl, ↓s_for, ↓s_try, ↓s_brk, ↓s_cont, ↓s_pass, ↓s_def, ↓W_callbi, ↓W_callty, ↓W_callfn, ↓W_callclo, ↓W_callcls, ↓KTurn_next, ↓KTurn_cont, ↓KTurn_brk, ↓KTurn_ret, ↓KWT_t, ↓KWT_f, ↓KFA_, ↓KForA_, ↓KForE_next, ↓KForE_cont, ↓KForE_brk, ↓KForE_ret, ↓KCE_, ↓KCI_t, ↓KCI_f, ↓KCA_,
  ↓optW_some, ofs_beq, String.reduceBEq, String.reduceBNe, ofs_bne, ↓reduceIte, Bool.false_eq_true, lookup_putS, List.lookup_cons, List.lookup_nil, isCompE, isTpl, isAttr, isSuper, callmOk, lenE_nil, lenE_cons, lenE_kw, Nat.reduceLT, decide_true, decide_false, dbg, cdict, constM_none, constM_bool, constM_int, cst_0, cst_1, cst_2, cst_3, cst_4, cst_5, cst_6, cst_7, cst_8, cst_9, cst_10, cst_11, cst_12, cst_13, cst_14, cst_15, cst_16, cst_17, cst_18, cst_19, cst_20, cst_21, cst_22, cst_23, cst_24, cst_25, cst_26, cst_27, cst_28, cst_29, cst_30, cst_31, cst_32, cst_33, cst_34, cst_35, cst_36, cst_37, cst_38, cst_39, cst_40, cst_41, cst_42, loadM, storeM, TL_glob, TL_fn, TL_meth, TL_lst, TL_defs, globTab, fnTab, Option.isSome, binM_add, binM_sub, binM_mod, binM_mul, binM_adds, cmp_eqs, cmp_eqi, cmp_eqb, cmp_nes, cmp_nei, cmp_lt, cmp_le, cmp_gt, cmp_ge, cmp_ges, cmp_les, cmp_ins, cmp_int, cmp_is, cmp_isn, cmp_eq0s, cmp_eqs0, strsOf, aug_add, aug_sub, aug_adds, Option.map_some, Option.map_none, Option.bind_some, List.nil_append, List.append_nil, List.cons_append, List.any_cons, List.any_nil, List.length_cons, List.length_nil, Bool.not_true, Bool.not_false, Bool.true_and, Bool.and_true, Bool.false_and, Bool.and_false, Bool.or_false, Bool.false_or, Bool.true_or, Bool.or_true, truth_none, truth_bool, truth_int, truth_str, sub_str, sub_tup, sub_lst, sub_glo, sub_dict, slice_str, sliceS_, slice_obj, sliceO_, word_0, word_1, word_2, word_01, word_02, word_m1, word_14, ne_eq, Int.reduceEq, not_false_eq_true, intOpt_none, intOpt_int, items_tup, truth_obj, truthO_l, slice_glo, sliceG_, sliceL_map, getMeth_obj, getMM_append, getMM_pop, getMM_clear, getMM_fld, sl_0n, get_mid, set_mid, get_mid2, set_mid2, plainPs, List.isEmpty_nil, cellAt_app0, cellAt_appk, cellAt_succ, cellAt_zero, isCell_app0, isCell_appk, isCell_succ, isCell_zero, set_app0, set_appk, set_succ, set_zero, get_app0, get_appk, List.getElem?_cons_zero, List.getElem?_cons_succ, setAttr_, setA_, getAttr_, getA_, fieldM_, putS_nil, putS_cons, fi_0, fi_1, fi_2, fi_3, fi_4, fi_5, fi_6, fi_7, fi_8, fi_9, fi_10, fi_11, fi_12, fi_13, hm_glo, hm_str, hm_bool, hm_none, hm_obj, hm_clo, truth_frac, truth_clo, Option.isNone_some, Option.isNone_none, Option.all_some, binM_addo, addO_, listAt_end1, bm10, negM_, lb0, lb1, lb2, lb3, lb4, lb5, lb6, lb7, lb8, Nat.reduceAdd, Nat.zero_add, bi_len_s, bi_len_t, bi_len_o, bi_isi_bool, bi_isi_str, bi_isi_list, bi_isi_dict, bi_all_, bi_ord_, bi_app_, bi_pop_, bi_strip_, bi_rstrip_, bi_join_, bi_index_, bi_end_, bi_groups_, ty_range, ty_int, meth_strip, meth_rstrip, meth_join, meth_index, meth_match, meth_end, meth_groups, listAt_end, get_end, String.reduceBEq, nk_lc, nk_fc, nk_gc, nk_ll, nk_fl, nk_gl, nk_sl, sk_f, free_nil, free_free, free_local, free_glob, free_cell, iter_str, iter_rng, iter_o, iterO_l, iterO_d, List.all_cons, List.all_nil, items_obj, slice_ch, slice_ch1, slice_ch0, slice_ch01, sl_from, sl_from1, sl_1, sl_to, sl_to1, sl_two, index_n, index_0, index_1, cellAt_of, Int.reduceBNe, Int.reduceBEq, Nat.reduceBEq, Nat.reduceBNe, true_and, and_true, and_self, *])
local macro_rules | `(tactic| walk_at "B") => `(tactic| simp only [stAt, PySem.Challenge.pw_ew0010_02, ↓List.getElem?_cons_succ, ↓List.getElem?_cons_zero, Option.getD_some, fnI, kidAt, ↓dE_cst, ↓dE_name, ↓dE_bop, ↓dE_bin, ↓dE_un, ↓dE_ife, ↓dE_lst, ↓dE_tpl, ↓dE_dict, ↓dE_comp, ↓dE_cmp, ↓dE_callm, ↓dE_calln, ↓dE_attr, ↓dE_slice, ↓dE_subc, ↓dE_subn, ↓dE_subb, ↓dE_subu, ↓dE_subs, ↓dE_subcl, ↓dL_nil, ↓dL_cons, ↓dO_none, ↓dO_some, ↓dK_nil, ↓dK_cons, ↓dS_expr, ↓dS_ret, ↓dS_asg, ↓dS_aug, ↓dS_ife, ↓dS_whl, ↓dS_for, ↓dS_try, ↓dS_brk, ↓dS_cont, ↓dS_pass, ↓dS_def, ↓dSs_nil, ↓dSs_cons])
local macro_rules | `(tactic| walk_at "A") => `(tactic| simp only [↓KB_, ↓KBin1_, ↓KBin2_, ↓KUn_, ↓KNot_, ↓KTru_, ↓KIfV_t, ↓KIfV_f, ↓KIfT_t, ↓KIfT_f, ↓KLst_, ↓KTpl_, ↓KTplA_, ↓KCmp1_, ↓KCmp2_, ↓KBool_, ↓KMeth1_, ↓KMeth2_, ↓KCall1_, ↓KArgs_, ↓KKws_, ↓KAttr_, ↓KAttrA_, ↓KLocA_, ↓KSub1_, ↓KSub2_, ↓KSubA1_, ↓KSubA2_, ↓KSl1_, ↓KSl2_, ↓KSl3_, ↓KL1_, ↓KL2_, ↓KK1_, ↓KK2_,
  ↓KTl_At, ↓KTl_Af, ↓KTl_Ot, ↓KTl_Of, ↓KTl_nil, ↓KBl_, ↓KBl2_At, ↓KBl2_Af, ↓KBl2_Ot, ↓KBl2_Of, ↓KAl_, ↓KComp1_, ↓KComp2_, ↓KComp3_, ↓v_cst, ↓v_name, ↓a_name, ↓v_bop, ↓t_bop, ↓v_bin, ↓t_not, ↓v_neg, ↓v_ife, ↓t_ife, ↓v_lst, ↓v_tpl, ↓a_tpl, ↓v_dict0, ↓v_comp, ↓v_cmp, ↓t_cmp, ↓v_callmn, ↓v_callmc, ↓v_callmsl, ↓v_calln, ↓v_attrn, ↓a_attr, ↓v_sub, ↓a_sub, ↓v_slice, ↓l_nil, ↓k_nil, ↓tl_nilA, ↓tl_nilO, ↓al_nil, ↓l_cons, ↓tl_cons, ↓bl_last, ↓bl_cons, ↓al_cons, ↓k_kw, ↓o_no, ↓o_cst, ↓o_name, ↓o_bop, ↓o_bin, ↓o_neg, ↓o_ife, ↓o_lst, ↓o_tpl, ↓o_dict0, ↓o_comp, ↓o_cmp, ↓o_callm, ↓o_call, ↓o_attr, ↓o_sub, ↓o_slice, ↓t_cst, ↓t_name, ↓t_bin, ↓t_callm, ↓t_call, ↓t_attr, ↓t_sub, ↓t_slice,
  ↓KSeq_next, ↓KSeq_ret, ↓KSeq_brk, ↓KSeq_cont, ↓KExpr_, ↓KRet_, ↓KAsg1_, ↓KAsg2_, ↓KAug1_, ↓KAug2_, ↓KAug3_, ↓KIf_t, ↓KIf_f, ↓KFor1_, ↓KFor2_, ↓KTry1_next, ↓KTry1_ret, ↓KTry1_brk, ↓KTry1_cont, ↓KTry2_nil, ↓KTry2_cons, ↓KTry3_, ↓KBody_ret, ↓KBody_next, ↓KCallR_, ↓KCallI_, ↓KComp4_, ↓KDef_, ↓s_nil, ↓s_cons, ↓s_exprc, ↓s_exprm, ↓s_ret, ↓s_asgn, ↓s_asg, ↓s_aug, ↓s_ife, ↓s_whl, ↓s_for, ↓s_try, ↓s_brk, ↓s_cont, ↓s_pass, ↓s_def, ↓W_callbi, ↓W_callty, ↓W_callfn, ↓W_callclo, ↓W_callcls, ↓KTurn_next, ↓KTurn_cont, ↓KTurn_brk, ↓KTurn_ret, ↓KWT_t, ↓KWT_f, ↓KFA_, ↓KForA_, ↓KForE_next, ↓KForE_cont, ↓KForE_brk, ↓KForE_ret, ↓KCE_, ↓KCI_t, ↓KCI_f, ↓KCA_,
  ↓optW_some, ofs_beq, String.reduceBEq, String.reduceBNe, ofs_bne, ↓reduceIte, Bool.false_eq_true, lookup_putS, List.lookup_cons, List.lookup_nil, isCompE, isTpl, isAttr, isSuper, callmOk, lenE_nil, lenE_cons, lenE_kw, Nat.reduceLT, decide_true, decide_false, dbg, cdict, constM_none, constM_bool, constM_int, cst_0, cst_1, cst_2, cst_3, cst_4, cst_5, cst_6, cst_7, cst_8, cst_9, cst_10, cst_11, cst_12, cst_13, cst_14, cst_15, cst_16, cst_17, cst_18, cst_19, cst_20, cst_21, cst_22, cst_23, cst_24, cst_25, cst_26, cst_27, cst_28, cst_29, cst_30, cst_31, cst_32, cst_33, cst_34, cst_35, cst_36, cst_37, cst_38, cst_39, cst_40, cst_41, cst_42, loadM, storeM, TL_glob, TL_fn, TL_meth, TL_lst, globTab, fnTab, Option.isSome, binM_add, binM_sub, binM_mod, binM_mul, binM_adds, cmp_eqs, cmp_eqi, cmp_eqb, cmp_nes, cmp_nei, cmp_lt, cmp_le, cmp_gt, cmp_ge, cmp_ges, cmp_les, cmp_ins, cmp_int, cmp_is, cmp_isn, cmp_eq0s, cmp_eqs0, strsOf, aug_add, aug_sub, aug_adds, Option.map_some, Option.map_none, Option.bind_some, List.nil_append, List.append_nil, List.cons_append, List.any_cons, List.any_nil, List.length_cons, List.length_nil, Bool.not_true, Bool.not_false, Bool.true_and, Bool.and_true, Bool.false_and, Bool.and_false, Bool.or_false, Bool.false_or, Bool.true_or, Bool.or_true, truth_none, truth_bool, truth_int, truth_str, sub_str, sub_tup, sub_lst, sub_glo, sub_dict, slice_str, sliceS_, slice_obj, sliceO_, word_0, word_1, word_2, word_01, word_02, word_m1, word_14, ne_eq, Int.reduceEq, not_false_eq_true, intOpt_none, intOpt_int, items_tup, binM_addo, addO_, listAt_end1, bm10, negM_, lb0, lb1, lb2, lb3, lb4, lb5, lb6, lb7, lb8, Nat.reduceAdd, Nat.zero_add, bi_len_s, bi_len_t, bi_len_o, bi_isi_bool, bi_isi_str, bi_isi_list, bi_isi_dict, bi_all_, bi_ord_, bi_app_, bi_pop_, bi_strip_, bi_rstrip_, bi_join_, bi_index_, bi_end_, bi_groups_, ty_range, ty_int, meth_strip, meth_rstrip, meth_join, meth_index, meth_match, meth_end, meth_groups, listAt_end, get_end, isInst, String.reduceBEq, nk_lc, nk_fc, nk_gc, nk_ll, nk_fl, nk_gl, nk_sl, sk_f, free_nil, free_free, free_local, free_glob, free_cell, iter_str, iter_rng, iter_o, iterO_l, iterO_d, List.all_cons, List.all_nil, items_obj, slice_ch, slice_ch1, slice_ch0, slice_ch01, sl_from, sl_from1, sl_1, sl_to, sl_to1, sl_two, index_n, index_0, index_1, cellAt_of, Int.reduceBNe, Int.reduceBEq, Nat.reduceBEq, Nat.reduceBNe, true_and, and_true, and_self, *])
section
variable {ns : List Int} {d : Nat} {H : Hp} {Q : Out → Prop}

theorem getNext_now {l : List Nat} {c : Nat} (hl : l[0]? = some c) (hc : subIn [c] [32, 9, 10, 13] = false) (h1 : c ≠ 35) (h2 : c ≠ 47) (hd : d < 150) (hq : Q ⟨.ret (.tup [.str [c], .int 0]), [], H⟩) :
    WT (TL ns) (.call (.glo "getNext") [.str l, .int 0] [] d H) Q := by
  rw [WT_fnP (i := fnI "getNext" (stAt 12) [] false) rfl (b := [("s", .str l), ("end", .int 0)]) rfl hd rfl]
  have e0 : ch l 0 = [c] := ch_of hl
  have e1 : ([c] == [35]) = false := by simpa using h1
  have e2 : ([c] == [47]) = false := by simpa using h2
  walk_at "B"
  walk_at "A"
  refine WT_whl (fun y => 1) (fun (y : Unit) loc' H' => lk loc' "s" = some (.str l) ∧ lk loc' "end" = some (.int 0) ∧ H' = H) () ⟨?_, ?_, rfl⟩ ?_
  · walk_at "A"
  · walk_at "A"
  rintro y loc H ⟨g1, g2, rfl⟩
  walk_at "A"
  refine WT_whl1 ?_
  walk_at "A"
  all_goals decide

theorem whole_ {l : List Nat} {i : Int} (hi : intOf l = some i) (hd : d < 150) (hq : Q ⟨.ret (.int i), [], H⟩) :
    WT (TL ns) (.call (.glo "whole") [.str l] [] d H) Q := by
  rw [WT_fnP (i := fnI "whole" (stAt 22) [] false) rfl (b := [("text", .str l)]) rfl hd rfl]
  walk_at "B"
  walk_at "A"

theorem fraction_ {l : List Nat} (hd : d < 150) (hq : Q ⟨.ret (.obj H.length), [], H ++ [.list [.str [102, 114, 97, 99, 116, 105, 111, 110], .str l]]⟩) :
    WT (TL ns) (.call (.glo "_law_fraction") [.str l] [] d H) Q := by
  rw [WT_fnP (i := fnI "_law_fraction" (stAt 26) [] false) rfl (b := [("text", .str l)]) rfl hd rfl]
  walk_at "B"
  walk_at "A"
  all_goals decide

theorem digits_ {l : List Nat} (hl0 : l.length < big) (hd : d < 150) (hq : ∀ X, Q ⟨.ret (.bool (l != [] && l.all isDig)), [], H ++ X⟩) :
    WT (TL ns) (.call (.glo "_law_digits") [.str l] [] d H) Q := by
  rw [WT_fnP (i := fnI "_law_digits" (stAt 27) [] false) rfl (b := [("text", .str l)]) rfl hd rfl]
  walk_at "B"
  walk_at "A"
  by_cases hl : l = []
  · subst hl
    have e1 : (([] : List Nat) != []) = false := rfl
    rw [e1]
    walk_at "A"
    simpa using hq []
  have e1 : (l != []) = true := by simpa using hl
  walk_at "A"
  refine comp_map l _ (fun c => .bool (isDig c)) rfl rfl hl0 ?_ ?_
  · rintro c hc xs loc
    have e2 : subIn [c] [48, 49, 50, 51, 52, 53, 54, 55, 56, 57] = isDig c := by
      rw [subIn_one, Bool.eq_iff_iff]
      unfold isDig
      simp only [List.contains_eq_mem, List.mem_cons, List.not_mem_nil, or_false, decide_eq_true_eq, Bool.and_eq_true]
      omega
    walk_at "A"
  · intro loc
    walk_at "A"
    rw [boolsOf_map]
    walk_at "A"
    have e4 : ((l.map isDig).all fun b => b) = l.all isDig := by rw [List.all_map]; rfl
    rw [e4]
    rw [e1, Bool.true_and] at hq
    exact hq _
end

end Mine.R

end
section
open PySem
set_option autoImplicit false
set_option maxHeartbeats 4000000
namespace Mine.R
local macro_rules | `(tactic| walk_at "W") => `(tactic| simp only [↓KB_, ↓KBin1_, ↓KBin2_, ↓KUn_, ↓KNot_, ↓KTru_, ↓KIfV_t, ↓KIfV_f, ↓KIfT_t, ↓KIfT_f, ↓KLst_, ↓KTpl_, ↓KTplA_, ↓KCmp1_, ↓KCmp2_, ↓KBool_, ↓KMeth1_, ↓KMeth2_, ↓KCall1_, ↓KArgs_, ↓KKws_, ↓KAttr_, ↓KAttrA_, ↓KLocA_, ↓KSub1_, ↓KSub2_, ↓KSubA1_, ↓KSubA2_, ↓KSl1_, ↓KSl2_, ↓KSl3_, ↓KL1_, ↓KL2_, ↓KK1_, ↓KK2_,
  ↓KTl_At, ↓KTl_Af, ↓KTl_Ot, ↓KTl_Of, ↓KTl_nil, ↓KBl_, ↓KBl2_At, ↓KBl2_Af, ↓KBl2_Ot, ↓KBl2_Of, ↓KAl_, ↓KComp1_, ↓KComp2_, ↓KComp3_, ↓v_cst, ↓v_name, ↓a_name, ↓v_bop, ↓t_bop, ↓v_bin, ↓t_not, ↓v_neg, ↓v_ife, ↓t_ife, ↓v_lst, ↓v_tpl, ↓a_tpl, ↓v_dict0, ↓v_comp, ↓v_cmp, ↓t_cmp, ↓v_callmn, ↓v_callmc, ↓v_callmsl, ↓v_calln, ↓v_attrn, ↓a_attr, ↓v_sub, ↓a_sub, ↓v_slice, ↓l_nil, ↓k_nil, ↓tl_nilA, ↓tl_nilO, ↓al_nil, ↓l_cons, ↓tl_cons, ↓bl_last, ↓bl_cons, ↓al_cons, ↓k_kw, ↓o_no, ↓o_cst, ↓o_name, ↓o_bop, ↓o_bin, ↓o_neg, ↓o_ife, ↓o_lst, ↓o_tpl, ↓o_dict0, ↓o_comp, ↓o_cmp, ↓o_callm, ↓o_call, ↓o_attr, ↓o_sub, ↓o_slice, ↓t_cst, ↓t_name, ↓t_bin, ↓t_callm, ↓t_call, ↓t_attr, ↓t_sub, ↓t_slice,
  ↓KSeq_next, ↓KSeq_ret, ↓KSeq_brk, ↓KSeq_cont, ↓KExpr_, ↓KRet_, ↓KAsg1_, ↓KAsg2_, ↓KAug1_, ↓KAug2_, ↓KAug3_, ↓KIf_t, ↓KIf_f, ↓KFor1_, ↓KFor2_, ↓KTry1_next, ↓KTry1_ret, ↓KTry1_brk, ↓KTry1_cont, ↓KTry2_nil, ↓KTry2_cons, ↓KTry3_, ↓KBody_ret, ↓KBody_next, ↓KCallR_, ↓KCallI_, ↓KComp4_, ↓KDef_, ↓s_nil, ↓s_cons, ↓s_exprc, ↓s_exprm, ↓s_ret, ↓s_asgn, ↓s_asg, ↓s_aug, ↓s_ife, ↓s_whl, ↓s_for, ↓s_try, ↓s_brk, ↓s_cont, ↓s_pass, ↓s_def, ↓W_callbi, ↓W_callty, ↓W_callfn, ↓W_callclo, ↓W_callcls, ↓KTurn_next, ↓KTurn_cont, ↓KTurn_brk, ↓KTurn_ret, ↓KWT_t, ↓KWT_f, ↓KFA_, ↓KForA_, ↓KForE_next, ↓KForE_cont, ↓KForE_brk, ↓KForE_ret, ↓KCE_, ↓KCI_t, ↓KCI_f, ↓KCA_,
  ↓optW_some, ofs_beq, String.reduceBEq, String.reduceBNe, ofs_bne, ↓reduceIte, Bool.false_eq_true, lookup_putS, List.lookup_cons, List.lookup_nil, isCompE, isTpl, isAttr, isSuper, callmOk, lenE_nil, lenE_cons, lenE_kw, Nat.reduceLT, decide_true, decide_false, dbg, cdict, constM_none, constM_bool, constM_int, cst_0, cst_1, cst_2, cst_3, cst_4, cst_5, cst_6, cst_7, cst_8, cst_9, cst_10, cst_11, cst_12, cst_13, cst_14, cst_15, cst_16, cst_17, cst_18, cst_19, cst_20, cst_21, cst_22, cst_23, cst_24, cst_25, cst_26, cst_27, cst_28, cst_29, cst_30, cst_31, cst_32, cst_33, cst_34, cst_35, cst_36, cst_37, cst_38, cst_39, cst_40, cst_41, cst_42, loadM, storeM, TL_glob, TL_fn, TL_meth, TL_lst, TL_defs, globTab, fnTab, Option.isSome, binM_add, binM_sub, binM_mod, binM_mul, binM_adds, cmp_eqs, cmp_eqi, cmp_eqb, cmp_nes, cmp_nei, cmp_lt, cmp_le, cmp_gt, cmp_ge, cmp_ges, cmp_les, cmp_ins, cmp_int, cmp_is, cmp_isn, cmp_eq0s, cmp_eqs0, strsOf, aug_add, aug_sub, aug_adds, Option.map_some, Option.map_none, Option.bind_some, List.nil_append, List.append_nil, List.cons_append, List.any_cons, List.any_nil, List.length_cons, List.length_nil, Bool.not_true, Bool.not_false, Bool.true_and, Bool.and_true, Bool.false_and, Bool.and_false, Bool.or_false, Bool.false_or, Bool.true_or, Bool.or_true, truth_none, truth_bool, truth_int, truth_str, sub_str, sub_tup, sub_lst, sub_glo, sub_dict, slice_str, sliceS_, slice_obj, sliceO_, word_0, word_1, word_2, word_01, word_02, word_m1, word_14, ne_eq, Int.reduceEq, not_false_eq_true, intOpt_none, intOpt_int, items_tup, truth_obj, truthO_l, slice_glo, sliceG_, sliceL_map, getMeth_obj, getMM_append, getMM_pop, getMM_clear, getMM_fld, sl_0n, get_mid, set_mid, get_mid2, set_mid2, plainPs, List.isEmpty_nil, cellAt_app0, cellAt_appk, cellAt_succ, cellAt_zero, isCell_app0, isCell_appk, isCell_succ, isCell_zero, set_app0, set_appk, set_succ, set_zero, get_app0, get_appk, List.getElem?_cons_zero, List.getElem?_cons_succ, setAttr_, setA_, getAttr_, getA_, fieldM_, putS_nil, putS_cons, fi_0, fi_1, fi_2, fi_3, fi_4, fi_5, fi_6, fi_7, fi_8, fi_9, fi_10, fi_11, fi_12, fi_13, hm_glo, hm_str, hm_bool, hm_none, hm_obj, hm_clo, truth_frac, truth_clo, Option.isNone_some, Option.isNone_none, Option.all_some, binM_addo, addO_, listAt_end1, bm10, negM_, lb0, lb1, lb2, lb3, lb4, lb5, lb6, lb7, lb8, Nat.reduceAdd, Nat.zero_add, bi_len_s, bi_len_t, bi_len_o, bi_isi_bool, bi_isi_str, bi_isi_list, bi_isi_dict, bi_all_, bi_ord_, bi_app_, bi_pop_, bi_strip_, bi_rstrip_, bi_join_, bi_index_, bi_end_, bi_groups_, ty_range, ty_int, meth_strip, meth_rstrip, meth_join, meth_index, meth_match, meth_end, meth_groups, listAt_end, get_end, String.reduceBEq, nk_lc, nk_fc, nk_gc, nk_ll, nk_fl, nk_gl, nk_sl, sk_f, free_nil, free_free, free_local, free_glob, free_cell, iter_str, iter_rng, iter_o, iterO_l, iterO_d, List.all_cons, List.all_nil, items_obj, slice_ch, slice_ch1, slice_ch0, slice_ch01, sl_from, sl_from1, sl_1, sl_to, sl_to1, sl_two, index_n, index_0, index_1, cellAt_of, Int.reduceBNe, Int.reduceBEq, Nat.reduceBEq, Nat.reduceBNe, true_and, and_true, and_self, *])
local macro_rules | `(tactic| walk_at "B") => `(tactic| simp only [stAt, PySem.Challenge.pw_ew0010_02, ↓List.getElem?_cons_succ, ↓List.getElem?_cons_zero, Option.getD_some, fnI, kidAt, ↓dE_cst, ↓dE_name, ↓dE_bop, ↓dE_bin, ↓dE_un, ↓dE_ife, ↓dE_lst, ↓dE_tpl, ↓dE_dict, ↓dE_comp, ↓dE_cmp, ↓dE_callm, ↓dE_calln, ↓dE_attr, ↓dE_slice, ↓dE_subc, ↓dE_subn, ↓dE_subb, ↓dE_subu, ↓dE_subs, ↓dE_subcl, ↓dL_nil, ↓dL_cons, ↓dO_none, ↓dO_some, ↓dK_nil, ↓dK_cons, ↓dS_expr, ↓dS_ret, ↓dS_asg, ↓dS_aug, ↓dS_ife, ↓dS_whl, ↓dS_for, ↓dS_try, ↓dS_brk, ↓dS_cont, ↓dS_pass, ↓dS_def, ↓dSs_nil, ↓dSs_cons])
local macro_rules | `(tactic| walk_at "A") => `(tactic| simp only [↓KB_, ↓KBin1_, ↓KBin2_, ↓KUn_, ↓KNot_, ↓KTru_, ↓KIfV_t, ↓KIfV_f, ↓KIfT_t, ↓KIfT_f, ↓KLst_, ↓KTpl_, ↓KTplA_, ↓KCmp1_, ↓KCmp2_, ↓KBool_, ↓KMeth1_, ↓KMeth2_, ↓KCall1_, ↓KArgs_, ↓KKws_, ↓KAttr_, ↓KAttrA_, ↓KLocA_, ↓KSub1_, ↓KSub2_, ↓KSubA1_, ↓KSubA2_, ↓KSl1_, ↓KSl2_, ↓KSl3_, ↓KL1_, ↓KL2_, ↓KK1_, ↓KK2_,
  ↓KTl_At, ↓KTl_Af, ↓KTl_Ot, ↓KTl_Of, ↓KTl_nil, ↓KBl_, ↓KBl2_At, ↓KBl2_Af, ↓KBl2_Ot, ↓KBl2_Of, ↓KAl_, ↓KComp1_, ↓KComp2_, ↓KComp3_, ↓v_cst, ↓v_name, ↓a_name, ↓v_bop, ↓t_bop, ↓v_bin, ↓t_not, ↓v_neg, ↓v_ife, ↓t_ife, ↓v_lst, ↓v_tpl, ↓a_tpl, ↓v_dict0, ↓v_comp, ↓v_cmp, ↓t_cmp, ↓v_callmn, ↓v_callmc, ↓v_callmsl, ↓v_calln, ↓v_attrn, ↓a_attr, ↓v_sub, ↓a_sub, ↓v_slice, ↓l_nil, ↓k_nil, ↓tl_nilA, ↓tl_nilO, ↓al_nil, ↓l_cons, ↓tl_cons, ↓bl_last, ↓bl_cons, ↓al_cons, ↓k_kw, ↓o_no, ↓o_cst, ↓o_name, ↓o_bop, ↓o_bin, ↓o_neg, ↓o_ife, ↓o_lst, ↓o_tpl, ↓o_dict0, ↓o_comp, ↓o_cmp, ↓o_callm, ↓o_call, ↓o_attr, ↓o_sub, ↓o_slice, ↓t_cst, ↓t_name, ↓t_bin, ↓t_callm, ↓t_call, ↓t_attr, ↓t_sub, ↓t_slice,
  ↓KSeq_next, ↓KSeq_ret, ↓KSeq_brk, ↓KSeq_cont, ↓KExpr_, ↓KRet_, ↓KAsg1_, ↓KAsg2_, ↓KAug1_, ↓KAug2_, ↓KAug3_, ↓KIf_t, ↓KIf_f, ↓KFor1_, ↓KFor2_, ↓KTry1_next, ↓KTry1_ret, ↓KTry1_brk, ↓KTry1_cont, ↓KTry2_nil, ↓KTry2_cons, ↓KTry3_, ↓KBody_ret, ↓KBody_next, ↓KCallR_, ↓KCallI_, ↓KComp4_, ↓KDef_, ↓s_nil, ↓s_cons, ↓s_exprc, ↓s_exprm, ↓s_ret, ↓s_asgn, ↓s_asg, ↓s_aug, ↓s_ife, ↓s_whl, ↓s_for, ↓s_try, ↓s_brk, ↓s_cont, ↓s_pass, ↓s_def, ↓W_callbi, ↓W_callty, ↓W_callfn, ↓W_callclo, ↓W_callcls, ↓KTurn_next, ↓KTurn_cont, ↓KTurn_brk, ↓KTurn_ret, ↓KWT_t, ↓KWT_f, ↓KFA_, ↓KForA_, ↓KForE_next, ↓KForE_cont, ↓KForE_brk, ↓KForE_ret, ↓KCE_, ↓KCI_t, ↓KCI_f, ↓KCA_,
  ↓optW_some, ofs_beq, String.reduceBEq, String.reduceBNe, ofs_bne, ↓reduceIte, Bool.false_eq_true, lookup_putS, List.lookup_cons, List.lookup_nil, isCompE, isTpl, isAttr, isSuper, callmOk, lenE_nil, lenE_cons, lenE_kw, Nat.reduceLT, decide_true, decide_false, dbg, cdict, constM_none, constM_bool, constM_int, cst_0, cst_1, cst_2, cst_3, cst_4, cst_5, cst_6, cst_7, cst_8, cst_9, cst_10, cst_11, cst_12, cst_13, cst_14, cst_15, cst_16, cst_17, cst_18, cst_19, cst_20, cst_21, cst_22, cst_23, cst_24, cst_25, cst_26, cst_27, cst_28, cst_29, cst_30, cst_31, cst_32, cst_33, cst_34, cst_35, cst_36, cst_37, cst_38, cst_39, cst_40, cst_41, cst_42, loadM, storeM, TL_glob, TL_fn, TL_meth, TL_lst, globTab, fnTab, Option.isSome, binM_add, binM_sub, binM_mod, binM_mul, binM_adds, cmp_eqs, cmp_eqi, cmp_eqb, cmp_nes, cmp_nei, cmp_lt, cmp_le, cmp_gt, cmp_ge, cmp_ges, cmp_les, cmp_ins, cmp_int, cmp_is, cmp_isn, cmp_eq0s, cmp_eqs0, strsOf, aug_add, aug_sub, aug_adds, Option.map_some, Option.map_none, Option.bind_some, List.nil_append, List.append_nil, List.cons_append, List.any_cons, List.any_nil, List.length_cons, List.length_nil, Bool.not_true, Bool.not_false, Bool.true_and, Bool.and_true, Bool.false_and, Bool.and_false, Bool.or_false, Bool.false_or, Bool.true_or, Bool.or_true, truth_none, truth_bool, truth_int, truth_str, sub_str, sub_tup, sub_lst, sub_glo, sub_dict, slice_str, sliceS_, slice_obj, sliceO_, word_0, word_1, word_2, word_01, word_02, word_m1, word_14, ne_eq, Int.reduceEq, not_false_eq_true, intOpt_none, intOpt_int, items_tup, binM_addo, addO_, listAt_end1, bm10, negM_, lb0, lb1, lb2, lb3, lb4, lb5, lb6, lb7, lb8, Nat.reduceAdd, Nat.zero_add, bi_len_s, bi_len_t, bi_len_o, bi_isi_bool, bi_isi_str, bi_isi_list, bi_isi_dict, bi_all_, bi_ord_, bi_app_, bi_pop_, bi_strip_, bi_rstrip_, bi_join_, bi_index_, bi_end_, bi_groups_, ty_range, ty_int, meth_strip, meth_rstrip, meth_join, meth_index, meth_match, meth_end, meth_groups, listAt_end, get_end, isInst, String.reduceBEq, nk_lc, nk_fc, nk_gc, nk_ll, nk_fl, nk_gl, nk_sl, sk_f, free_nil, free_free, free_local, free_glob, free_cell, iter_str, iter_rng, iter_o, iterO_l, iterO_d, List.all_cons, List.all_nil, items_obj, slice_ch, slice_ch1, slice_ch0, slice_ch01, sl_from, sl_from1, sl_1, sl_to, sl_to1, sl_two, index_n, index_0, index_1, cellAt_of, Int.reduceBNe, Int.reduceBEq, Nat.reduceBEq, Nat.reduceBNe, true_and, and_true, and_self, *])
def isE (c : Nat) : Bool := c == 101 || c == 69
def digs (l : List Nat) : Bool := l != [] && l.all isDig
def lnBody (w : List Nat) : List Nat := if w.take 1 == [45] then w.drop 1 else w
def lnInt (w b part pw : List Nat) : Option (Option Int) :=
  if (!digs b || (decide (1 < b.length) && b.take 1 == [48])) = true then none
  else if (part != [] || pw != []) = true then some none
  else some (some (if w.take 1 == [45] then -(digitsN b : Int) else (digitsN b : Int)))
def lnPart (w b pw : List Nat) : Option (Option Int) :=
  if b.contains 46 = true then (if digs (b.drop (b.idxOf 46 + 1)) = true then lnInt w (b.take (b.idxOf 46)) (b.drop (b.idxOf 46 + 1)) pw else none)
  else lnInt w b [] pw
def unSign (l : List Nat) : List Nat := if (l.take 1 == [43] || l.take 1 == [45]) = true then l.drop 1 else l
def eAt (b : List Nat) : List Nat := (List.range b.length).filter fun p => isE (b.getD p 0)
def lawNum (w : List Nat) : Option (Option Int) := match eAt (lnBody w) with
  | [] => lnPart w (lnBody w) []
  | [p] => if digs (unSign ((lnBody w).drop (p + 1))) = true then lnPart w ((lnBody w).take p) (unSign ((lnBody w).drop (p + 1))) else none
  | _ => none
def fracV (w : List Nat) : List V := [.str [102, 114, 97, 99, 116, 105, 111, 110], .str w]
def numVs (w : List Nat) : Option Int → List V
  | none => fracV w
  | some i => [.int i]
theorem fm_filter {α β : Type} {q : α → Bool} {g : α → β} {l : List α} : l.filterMap (fun a => if q a = true then some (g a) else none) = (l.filter q).map g := by
  induction l with
  | nil => rfl
  | cons a r ih =>
    rw [List.filterMap_cons, List.filter_cons]
    cases q a <;> simp [ih]
theorem isE_in {c : Nat} : subIn [c] [101, 69] = isE c := by
  rw [subIn_one, Bool.eq_iff_iff]; unfold isE; simp
theorem listAt_mid {H X : Hp} {a b : O} {xs : List V} : listAt (H ++ [a] ++ [.list xs] ++ X) (H ++ [b]).length = some xs := by
  unfold listAt; rw [List.append_assoc, List.append_assoc, List.getElem?_append_right (by simp)]; simp
theorem isCell_of {H : Hp} {i : Nat} {v : V} (h : cellAtM H i = some v) : isCell H i = true := by
  unfold cellAtM at h
  unfold isCell
  cases e : H[i]? with
  | none => rw [e] at h; cases h
  | some o => cases o <;> first | rfl | (rw [e] at h; cases h)
theorem WK {T : Tp} {F : Fc} {loc : Loc} {H : Hp} {a b r : S} {c : Bool} {Q : Out → Prop} (P : Out → Prop) (h : KIf T F loc a b P (c, H)) (hq : ∀ o, P o → KSeq T F r Q o) : KIf T F loc a b (KSeq T F r Q) (c, H) := by
  cases c with
  | true => exact W_mono h hq
  | false => rw [KIf_f] at h ⊢; exact W_mono h hq
section
variable {ns : List Int} {d : Nat} {H : Hp} {Q : Out → Prop}
theorem number_ {w : List Nat} (hl : w.length < 1000) (hd : d < 140)
   (hq : ∀ v X, (lawNum w = none → v = .none) → (∀ r, lawNum w = some r → ∃ k, v = .obj k ∧ listAt (H ++ X) k = some (numVs w r)) → Q ⟨.ret v, [], H ++ X⟩) :
    WT (TL ns) (.call (.glo "_law_number") [.str w] [] d H) Q := by
  have hd' : d < 150 := by omega
  rw [WT_fnC (c := "body") (i := fnI "_law_number" (stAt 28) [] false) rfl (b := [("word", .str w)]) rfl hd' rfl rfl rfl rfl]
  walk_at "B"
  walk_at "A"
  refine KIfV_str (x := w.drop 1) (y := w) (fun _ P hP => ?_) (fun _ P hP => ?_) ?_
  · walk_at "A"
  · walk_at "A"
  generalize hb : (if (List.take 1 w == [45]) = true then w.drop 1 else w) = b
  have hbl : b.length < 1000 := by rw [← hb]; split <;> (try rw [List.length_drop]) <;> omega
  have hbe : lnBody w = b := hb
  have hi1 : ∀ (o : Option V), isCell (H ++ [O.cell o]) H.length = true := fun o => by unfold isCell; rw [List.getElem?_append_right (Nat.le_refl _)]; simp
  walk_at "A"
  rw [set_end]
  have hc : ∀ o : Option V, cellAtM (H ++ [O.cell o]) H.length = o := fun o => cellAt_of (by rw [List.getElem?_append_right (Nat.le_refl _)]; simp)
  have hc2 : ∀ (o : Option V) (x : O), cellAtM (H ++ [O.cell o] ++ [x]) H.length = o := fun o x => cellAt_of (by rw [get_app (by simp), List.getElem?_append_right (Nat.le_refl _)]; simp)
  have hi2 : ∀ (o : Option V) (x : O), isCell (H ++ [O.cell o] ++ [x]) H.length = true := fun o x => by unfold isCell; rw [get_app (by simp), List.getElem?_append_right (Nat.le_refl _)]; simp
  have hs2 : ∀ (o o' x : O), (H ++ [o] ++ [x]).set H.length o' = H ++ [o'] ++ [x] := fun o o' x => by rw [List.append_assoc, List.set_append_right _ _ (Nat.le_refl _)]; simp
  have i1 : (0 : Int) ≤ (b.length : Int) := by omega
  have i2 : (b.length : Int) ≤ (big : Int) := by unfold big; omega
  walk_at "A"
  refine comp_fm (List.range b.length) _ (fun p => if isE (b.getD p 0) = true then some (.int p) else none) rfl rfl (by rw [List.length_range]; unfold big; omega) ?_ ?_
  · rintro p hp xs loc
    have hp' : p < b.length := List.mem_range.mp hp
    have e1 : b[p]? = some (b.getD p 0) := by rw [List.getD_eq_getElem?_getD, List.getElem?_eq_getElem hp']; rfl
    have e2 : wordI (p : Int) = true := word_nn hp' (by omega)
    walk_at "A"
    rw [isE_in]
    cases hE : isE (b.getD p 0) with
    | true => walk_at "A"
    | false => walk_at "A"
  intro loc
  have hE : (List.filterMap (fun p => if isE (b.getD p 0) = true then some (V.int ↑p) else none) (List.range b.length)) = (eAt b).map fun p : Nat => V.int p := fm_filter
  rw [hE]
  walk_at "A"
  have hnm : ∀ L, eAt b = L → lawNum w = match L with
    | [] => lnPart w b []
    | [p] => if digs (unSign (b.drop (p + 1))) = true then lnPart w (b.take p) (unSign (b.drop (p + 1))) else none
    | _ => none := fun L hL => by unfold lawNum; rw [hbe, hL]
  by_cases hlen : 1 < (eAt b).length
  · have e1 : decide ((1 : Int) < ((List.map (fun p : Nat => V.int p) (eAt b)).length : Int)) = true := by rw [List.length_map]; simp only [decide_eq_true_eq]; omega
    rw [e1]
    walk_at "A"
    rw [List.append_assoc]
    refine hq _ _ (fun _ => rfl) (fun r hr => ?_)
    have := hnm _ rfl
    cases h : eAt b with
    | nil => rw [h] at hlen; simp at hlen
    | cons a r1 =>
      cases r1 with
      | nil => rw [h] at hlen; simp at hlen
      | cons a2 r2 => rw [h] at this; rw [this] at hr; cases hr
  have e1 : decide ((1 : Int) < ((List.map (fun p : Nat => V.int p) (eAt b)).length : Int)) = false := by rw [List.length_map]; simp only [decide_eq_false_iff_not]; omega
  rw [e1]
  walk_at "A"
  refine WT_mono (Q := fun o => (∃ loc1 X1 b' pw, o = ⟨.next, loc1, H ++ X1⟩ ∧ lk loc1 "word" = some (.str w) ∧ lk loc1 "power" = some (.str pw) ∧ X1.length ≠ 0 ∧ cellAtM (H ++ X1) H.length = some (.str b') ∧ lawNum w = lnPart w b' pw ∧ b'.length < 1000 ∧ pw.length < 1000 ∧ (w = [] → b' = [])) ∨ (∃ loc1 X1, o = ⟨.ret .none, loc1, H ++ X1⟩ ∧ lawNum w = none)) ?_ ?_
  · cases h : eAt b with
    | nil =>
      rw [for_end (by simp only [nextM, listAt_end, h]; rfl)]
      refine .inl ⟨_, [.cell (some (.str b)), .list []], b, [], by rw [List.append_assoc]; rfl, ?_, ?_, by simp, ?_, hnm _ h, hbl, by simp, fun e => by rw [← hb, e]; rfl⟩
      · walk_at "A"
      · walk_at "A"
      · have := hc2 (some (.str b)); simp only [List.append_assoc, List.singleton_append] at this; exact this _
    | cons p r =>
      cases r with
      | cons q r => rw [h] at hlen; simp at hlen
      | nil =>
        rw [for_turn (v := .int p) (it' := .lst (H ++ [O.cell (some (V.str b))]).length 1) (by simp only [nextM, listAt_end, h]; rfl)]
        have hp : p < b.length := by
          have : p ∈ eAt b := by rw [h]; simp
          unfold eAt at this
          rw [List.mem_filter] at this
          exact List.mem_range.mp this.1
        have w1 : wordI (p : Int) = true := word_nn hp (by omega)
        have w2 : wordI ((p : Int) + 1) = true := wordZ (by omega) (by omega)
        walk_at "A"
        have hdl : (b.drop (p + 1)).length < 1000 := by rw [List.length_drop]; omega
        cases hs : (List.take 1 (b.drop (p + 1)) == [43] || List.take 1 (b.drop (p + 1)) == [45]) with
        | true =>
          have hu : unSign (b.drop (p + 1)) = (b.drop (p + 1)).drop 1 := by unfold unSign; rw [hs]; rfl
          have hdl1 : ((b.drop (p + 1)).drop 1).length < 1000 := by rw [List.length_drop]; omega
          walk_at "A"
          refine digits_ (by unfold big; omega) (by omega) (fun X => ?_)
          cases hg : ((b.drop (p + 1)).drop 1 != [] && ((b.drop (p + 1)).drop 1).all isDig) with
          | true =>
            walk_at "A"
            rw [for_end (by simp only [nextM, listAt_mid]; rfl)]
            refine .inl ⟨_, [.cell (some (.str (b.take p))), .list [.int p]] ++ X, b.take p, _, by rw [List.append_assoc, List.append_assoc]; rfl, ?_, ?_, by simp, ?_, ?_, by rw [List.length_take]; omega, by assumption, fun e => by rw [← hb, e]; simp⟩
            · walk_at "A"
            · walk_at "A"
            · rw [cellAt_of]; rw [List.getElem?_append_right (Nat.le_refl _)]; simp
            · have hh := hnm _ h
              dsimp only at hh
              first | rw [hh, hu] | rw [hu] | skip
              unfold digs
              rw [if_pos hg]
          | false =>
            walk_at "A"
            refine .inr ⟨_, [.cell (some (.str (b.take p))), .list [.int p]] ++ X, by rw [List.append_assoc, List.append_assoc]; rfl, ?_⟩
            have hh := hnm _ h
            dsimp only at hh
            first | rw [hh, hu] | rw [hu] | skip
            unfold digs
            rw [if_neg (by rw [hg]; exact Bool.false_ne_true)]
        | false =>
          have hu : unSign (b.drop (p + 1)) = b.drop (p + 1) := by unfold unSign; rw [hs]; rfl
          walk_at "A"
          refine digits_ (by unfold big; omega) (by omega) (fun X => ?_)
          cases hg : (b.drop (p + 1) != [] && (b.drop (p + 1)).all isDig) with
          | true =>
            walk_at "A"
            rw [for_end (by simp only [nextM, listAt_mid]; rfl)]
            refine .inl ⟨_, [.cell (some (.str (b.take p))), .list [.int p]] ++ X, b.take p, _, by rw [List.append_assoc, List.append_assoc]; rfl, ?_, ?_, by simp, ?_, ?_, by rw [List.length_take]; omega, by assumption, fun e => by rw [← hb, e]; simp⟩
            · walk_at "A"
            · walk_at "A"
            · rw [cellAt_of]; rw [List.getElem?_append_right (Nat.le_refl _)]; simp
            · have hh := hnm _ h
              dsimp only at hh
              first | rw [hh, hu] | rw [hu] | skip
              unfold digs
              rw [if_pos hg]
          | false =>
            walk_at "A"
            refine .inr ⟨_, [.cell (some (.str (b.take p))), .list [.int p]] ++ X, by rw [List.append_assoc, List.append_assoc]; rfl, ?_⟩
            have hh := hnm _ h
            dsimp only at hh
            first | rw [hh, hu] | rw [hu] | skip
            unfold digs
            rw [if_neg (by rw [hg]; exact Bool.false_ne_true)]
  · rintro o (⟨loc1, X1, b', pw, rfl, f1, f2, f3, f4, f5, f6, f7, f8⟩ | ⟨loc1, X1, rfl, f1⟩)
    · clear hnm hE e1 hc hc2 hi1 hi2 hs2
      have gi : isCell (H ++ X1) H.length = true := isCell_of f4
      have gs : ∀ o, (H ++ X1).set H.length o = H ++ X1.set 0 o := fun o => by rw [List.set_append_right _ _ (Nat.le_refl _), Nat.sub_self]
      have gc : ∀ o, cellAtM (H ++ X1.set 0 (.cell o)) H.length = o := fun o => by
        apply cellAt_of
        rw [List.getElem?_append_right (Nat.le_refl _), Nat.sub_self, List.getElem?_set_self (by omega)]
      have gm : subIn [46] b' = b'.contains 46 := subIn_one
      walk_at "A"
      refine WK (P := fun o => (∃ loc1 X1 b2 part, o = ⟨.next, loc1, H ++ X1⟩ ∧ lk loc1 "word" = some (.str w) ∧ lk loc1 "power" = some (.str pw) ∧ lk loc1 "part" = some (.str part) ∧ X1.length ≠ 0 ∧ cellAtM (H ++ X1) H.length = some (.str b2) ∧ lawNum w = lnInt w b2 part pw ∧ b2.length < 1000 ∧ (w = [] → b2 = [])) ∨ (∃ loc1 X1, o = ⟨.ret .none, loc1, H ++ X1⟩ ∧ lawNum w = none)) ?_ ?_
      · cases h46 : b'.contains 46 with
        | true =>
          have gx : b'.idxOf 46 < b'.length := List.idxOf_lt_length_of_mem (by simpa using h46)
          have g1 : wordI (b'.idxOf 46 : Int) = true := word_nn gx (by omega)
          have g2 : wordI ((b'.idxOf 46 : Int) + 1) = true := wordZ (by omega) (by omega)
          walk_at "A"
          have gd : (b'.drop (b'.idxOf 46 + 1)).length < 1000 := by rw [List.length_drop]; omega
          refine digits_ (by unfold big; omega) (by omega) (fun X => ?_)
          cases hg : (b'.drop (b'.idxOf 46 + 1) != [] && (b'.drop (b'.idxOf 46 + 1)).all isDig) with
          | true =>
            walk_at "A"
            refine .inl ⟨_, X1.set 0 (.cell (some (.str (b'.take (b'.idxOf 46))))) ++ X, b'.take (b'.idxOf 46), b'.drop (b'.idxOf 46 + 1), by rw [List.append_assoc], ?_, ?_, ?_, ?_, ?_, ?_, ?_, fun e => by rw [f8 e]; simp⟩
            · walk_at "A"
            · walk_at "A"
            · walk_at "A"
            · rw [List.length_append, List.length_set]; omega
            · rw [← List.append_assoc]
              have : ∀ X, cellAtM (H ++ X1.set 0 (.cell (some (.str (b'.take (b'.idxOf 46))))) ++ X) H.length = some (.str (b'.take (b'.idxOf 46))) := fun X => by
                apply cellAt_of
                rw [List.getElem?_append_left (by rw [List.length_append, List.length_set]; omega), List.getElem?_append_right (Nat.le_refl _), Nat.sub_self, List.getElem?_set_self (by omega)]
              exact this X
            · try rw [f5]
              unfold lnPart digs; rw [if_pos h46, if_pos hg]
            · rw [List.length_take]; omega
          | false =>
            walk_at "A"
            refine .inr ⟨_, X1.set 0 (.cell (some (.str (b'.take (b'.idxOf 46))))) ++ X, by rw [List.append_assoc], ?_⟩
            try rw [f5]
            unfold lnPart digs; rw [if_pos h46, if_neg (by rw [hg]; exact Bool.false_ne_true)]
        | false =>
          walk_at "A"
          refine .inl ⟨_, X1, b', [], rfl, ?_, ?_, ?_, f3, f4, ?_, f6, f8⟩
          · walk_at "A"
          · walk_at "A"
          · walk_at "A"
          · try rw [f5]
            unfold lnPart; rw [if_neg (by rw [h46]; exact Bool.false_ne_true)]
      · rintro o (⟨loc1, X1, b2, part, rfl, g1, g2, g3, g4, g5, g6, g7, g8⟩ | ⟨loc1, X1, rfl, f1⟩)
        · clear gi gs gc gm f1 f2 f3 f4 f5 f6
          walk_at "A"
          refine digits_ (by unfold big; omega) (by omega) (fun X => ?_)
          have gc : ∀ Y, cellAtM (H ++ X1 ++ Y) H.length = some (.str b2) := fun Y => by
            rw [← g5]; unfold cellAtM; rw [get_app (by rw [List.length_append]; omega)]
          cases hg : (b2 != [] && b2.all isDig) with
          | false =>
            walk_at "A"
            rw [List.append_assoc]
            refine hq _ _ (fun _ => rfl) (fun r hr => ?_)
            rw [g6] at hr; unfold lnInt digs at hr; rw [hg] at hr; cases hr
          | true =>
            cases b2 with
            | nil => cases hg
            | cons c t =>
            have gt : ((c :: t).take 1 == [48]) = ([c] == [48]) := rfl
            have k0 : (c :: t)[0]? = some c := rfl
            walk_at "A"
            refine KTl_and (c := [c] == [48]) (fun P hP => ?_) ?_
            · walk_at "A"
            have k1 : decide ((1 : Int) < ((t.length + 1 : Nat) : Int)) = decide (1 < (c :: t).length) := by
              rw [List.length_cons]; by_cases h : 1 < t.length + 1
              · rw [decide_eq_true h, decide_eq_true (by omega)]
              · rw [decide_eq_false h, decide_eq_false (by omega)]
            rw [k1]
            cases k2 : (decide (1 < (c :: t).length) && ([c] == [48])) with
            | true =>
              walk_at "A"
              rw [List.append_assoc]
              refine hq _ _ (fun _ => rfl) (fun r hr => ?_)
              rw [g6] at hr; unfold lnInt digs at hr; rw [gt, k2, hg] at hr; cases hr
            | false =>
              have k3 : lawNum w = if (part != [] || pw != []) = true then some none else some (some (if w.take 1 == [45] then -(digitsN (c :: t) : Int) else (digitsN (c :: t) : Int))) := by
                rw [g6]; unfold lnInt digs; rw [gt, k2, hg]; rfl
              walk_at "A"
              refine KTl_or (c := pw != []) (fun P hP => ?_) ?_
              · walk_at "A"
              cases k4 : (part != [] || pw != []) with
              | true =>
                rw [k4] at k3
                walk_at "A"
                have hX : H ++ X1 ++ X ++ [O.list [V.str [102, 114, 97, 99, 116, 105, 111, 110], V.str w]] = H ++ (X1 ++ X ++ [O.list [V.str [102, 114, 97, 99, 116, 105, 111, 110], V.str w]]) := by simp only [List.append_assoc]
                rw [hX]
                refine hq _ _ (fun h => by rw [k3] at h; cases h) (fun r hr => ⟨_, rfl, ?_⟩)
                rw [← hX, listAt_end]
                rw [k3] at hr; cases hr; rfl
              | false =>
                rw [k4] at k3
                walk_at "A"
                have hall : ∀ x ∈ c :: t, isDig x = true := List.all_eq_true.mp (by simpa using hg)
                refine WT_for_vals (fun r loc' H' => H' = H ++ X1 ++ X ∧ lk loc' "word" = some (.str w) ∧ ∃ pre rest, c :: t = pre ++ rest ∧ r = rest.map (fun c => V.str [c]) ∧ lk loc' "number" = some (.int (digitsN pre : Int))) ⟨rfl, by walk_at "A", [], c :: t, rfl, rfl, by walk_at "A"; rfl⟩ ?_ ?_
                · rintro v r loc' H' ⟨rfl, m1, pre, rest, m2, m3, m4⟩
                  cases rest with
                  | nil => cases m3
                  | cons x rest =>
                  rw [List.map_cons] at m3
                  obtain ⟨rfl, rfl⟩ := List.cons.inj m3
                  obtain ⟨n1, n2⟩ := dig_index (hall x (by rw [m2]; simp))
                  clear hq
                  walk_at "A"
                  refine ⟨(), pre ++ [x], rest, by simp, rfl, ?_⟩
                  rw [digitsN_snoc]; simp
                · rintro loc' H' ⟨rfl, m1, pre, rest, m2, m3, m4⟩
                  cases rest with
                  | cons x rest => cases m3
                  | nil =>
                  rw [List.append_nil] at m2
                  subst m2
                  cases w with
                  | nil => cases g8 rfl
                  | cons w0 wt =>
                  have n1 : (w0 :: wt)[0]? = some w0 := rfl
                  walk_at "A"
                  refine KIfV_int (x := -(digitsN (c :: t) : Int)) (y := (digitsN (c :: t) : Int)) (fun _ P hP => ?_) (fun _ P hP => ?_) ?_
                  · walk_at "A"
                  · walk_at "A"
                  walk_at "A"
                  have hX : ∀ Y, H ++ X1 ++ X ++ Y = H ++ (X1 ++ X ++ Y) := fun Y => by simp only [List.append_assoc]
                  rw [hX]
                  refine ⟨lb1, hq _ _ (fun h => by rw [k3] at h; cases h) (fun r hr => ⟨_, rfl, ?_⟩)⟩
                  rw [← hX, listAt_end]
                  rw [k3] at hr; cases hr; rfl
        · walk_at "A"
          exact hq _ _ (fun _ => rfl) (fun r hr => by rw [f1] at hr; cases hr)
    · walk_at "A"
      exact hq _ _ (fun _ => rfl) (fun r hr => by rw [f1] at hr; cases hr)
end

end Mine.R

end
section
open PySem
set_option autoImplicit false
set_option maxHeartbeats 4000000
namespace Mine.R
local macro_rules | `(tactic| walk_at "W") => `(tactic| simp only [↓KB_, ↓KBin1_, ↓KBin2_, ↓KUn_, ↓KNot_, ↓KTru_, ↓KIfV_t, ↓KIfV_f, ↓KIfT_t, ↓KIfT_f, ↓KLst_, ↓KTpl_, ↓KTplA_, ↓KCmp1_, ↓KCmp2_, ↓KBool_, ↓KMeth1_, ↓KMeth2_, ↓KCall1_, ↓KArgs_, ↓KKws_, ↓KAttr_, ↓KAttrA_, ↓KLocA_, ↓KSub1_, ↓KSub2_, ↓KSubA1_, ↓KSubA2_, ↓KSl1_, ↓KSl2_, ↓KSl3_, ↓KL1_, ↓KL2_, ↓KK1_, ↓KK2_,
  ↓KTl_At, ↓KTl_Af, ↓KTl_Ot, ↓KTl_Of, ↓KTl_nil, ↓KBl_, ↓KBl2_At, ↓KBl2_Af, ↓KBl2_Ot, ↓KBl2_Of, ↓KAl_, ↓KComp1_, ↓KComp2_, ↓KComp3_, ↓v_cst, ↓v_name, ↓a_name, ↓v_bop, ↓t_bop, ↓v_bin, ↓t_not, ↓v_neg, ↓v_ife, ↓t_ife, ↓v_lst, ↓v_tpl, ↓a_tpl, ↓v_dict0, ↓v_comp, ↓v_cmp, ↓t_cmp, ↓v_callmn, ↓v_callmc, ↓v_callmsl, ↓v_calln, ↓v_attrn, ↓a_attr, ↓v_sub, ↓a_sub, ↓v_slice, ↓l_nil, ↓k_nil, ↓tl_nilA, ↓tl_nilO, ↓al_nil, ↓l_cons, ↓tl_cons, ↓bl_last, ↓bl_cons, ↓al_cons, ↓k_kw, ↓o_no, ↓o_cst, ↓o_name, ↓o_bop, ↓o_bin, ↓o_neg, ↓o_ife, ↓o_lst, ↓o_tpl, ↓o_dict0, ↓o_comp, ↓o_cmp, ↓o_callm, ↓o_call, ↓o_attr, ↓o_sub, ↓o_slice, ↓t_cst, ↓t_name, ↓t_bin, ↓t_callm, ↓t_call, ↓t_attr, ↓t_sub, ↓t_slice,
  ↓KSeq_next, ↓KSeq_ret, ↓KSeq_brk, ↓KSeq_cont, ↓KExpr_, ↓KRet_, ↓KAsg1_, ↓KAsg2_, ↓KAug1_, ↓KAug2_, ↓KAug3_, ↓KIf_t, ↓KIf_f, ↓KFor1_, ↓KFor2_, ↓KTry1_next, ↓KTry1_ret, ↓KTry1_brk, ↓KTry1_cont, ↓KTry2_nil, ↓KTry2_cons, ↓KTry3_, ↓KBody_ret, ↓KBody_next, ↓KCallR_, ↓KCallI_, ↓KComp4_, ↓KDef_, ↓s_nil, ↓s_cons, ↓s_exprc, ↓s_exprm, ↓s_ret, ↓s_asgn, ↓s_asg, ↓s_aug, ↓s_ife, ↓s_whl, ↓s_for, ↓s_try, ↓s_brk, ↓s_cont, ↓s_pass, ↓s_def, ↓W_callbi, ↓W_callty, ↓W_callfn, ↓W_callclo, ↓W_callcls, ↓KTurn_next, ↓KTurn_cont, ↓KTurn_brk, ↓KTurn_ret, ↓KWT_t, ↓KWT_f, ↓KFA_, ↓KForA_, ↓KForE_next, ↓KForE_cont, ↓KForE_brk, ↓KForE_ret, ↓KCE_, ↓KCI_t, ↓KCI_f, ↓KCA_,
  ↓optW_some, ofs_beq, String.reduceBEq, String.reduceBNe, ofs_bne, ↓reduceIte, Bool.false_eq_true, lookup_putS, List.lookup_cons, List.lookup_nil, isCompE, isTpl, isAttr, isSuper, callmOk, lenE_nil, lenE_cons, lenE_kw, Nat.reduceLT, decide_true, decide_false, dbg, cdict, constM_none, constM_bool, constM_int, cst_0, cst_1, cst_2, cst_3, cst_4, cst_5, cst_6, cst_7, cst_8, cst_9, cst_10, cst_11, cst_12, cst_13, cst_14, cst_15, cst_16, cst_17, cst_18, cst_19, cst_20, cst_21, cst_22, cst_23, cst_24, cst_25, cst_26, cst_27, cst_28, cst_29, cst_30, cst_31, cst_32, cst_33, cst_34, cst_35, cst_36, cst_37, cst_38, cst_39, cst_40, cst_41, cst_42, loadM, storeM, TL_glob, TL_fn, TL_meth, TL_lst, TL_defs, globTab, fnTab, Option.isSome, binM_add, binM_sub, binM_mod, binM_mul, binM_adds, cmp_eqs, cmp_eqi, cmp_eqb, cmp_nes, cmp_nei, cmp_lt, cmp_le, cmp_gt, cmp_ge, cmp_ges, cmp_les, cmp_ins, cmp_int, cmp_is, cmp_isn, cmp_eq0s, cmp_eqs0, strsOf, aug_add, aug_sub, aug_adds, Option.map_some, Option.map_none, Option.bind_some, List.nil_append, List.append_nil, List.cons_append, List.any_cons, List.any_nil, List.length_cons, List.length_nil, Bool.not_true, Bool.not_false, Bool.true_and, Bool.and_true, Bool.false_and, Bool.and_false, Bool.or_false, Bool.false_or, Bool.true_or, Bool.or_true, truth_none, truth_bool, truth_int, truth_str, sub_str, sub_tup, sub_lst, sub_glo, sub_dict, slice_str, sliceS_, slice_obj, sliceO_, word_0, word_1, word_2, word_01, word_02, word_m1, word_14, ne_eq, Int.reduceEq, not_false_eq_true, intOpt_none, intOpt_int, items_tup, truth_obj, truthO_l, slice_glo, sliceG_, sliceL_map, getMeth_obj, getMM_append, getMM_pop, getMM_clear, getMM_fld, sl_0n, get_mid, set_mid, get_mid2, set_mid2, plainPs, List.isEmpty_nil, cellAt_app0, cellAt_appk, cellAt_succ, cellAt_zero, isCell_app0, isCell_appk, isCell_succ, isCell_zero, set_app0, set_appk, set_succ, set_zero, get_app0, get_appk, List.getElem?_cons_zero, List.getElem?_cons_succ, setAttr_, setA_, getAttr_, getA_, fieldM_, putS_nil, putS_cons, fi_0, fi_1, fi_2, fi_3, fi_4, fi_5, fi_6, fi_7, fi_8, fi_9, fi_10, fi_11, fi_12, fi_13, hm_glo, hm_str, hm_bool, hm_none, hm_obj, hm_clo, truth_frac, truth_clo, Option.isNone_some, Option.isNone_none, Option.all_some, binM_addo, addO_, listAt_end1, bm10, negM_, lb0, lb1, lb2, lb3, lb4, lb5, lb6, lb7, lb8, Nat.reduceAdd, Nat.zero_add, bi_len_s, bi_len_t, bi_len_o, bi_isi_bool, bi_isi_str, bi_isi_list, bi_isi_dict, bi_all_, bi_ord_, bi_app_, bi_pop_, bi_strip_, bi_rstrip_, bi_join_, bi_index_, bi_end_, bi_groups_, ty_range, ty_int, meth_strip, meth_rstrip, meth_join, meth_index, meth_match, meth_end, meth_groups, listAt_end, get_end, String.reduceBEq, nk_lc, nk_fc, nk_gc, nk_ll, nk_fl, nk_gl, nk_sl, sk_f, free_nil, free_free, free_local, free_glob, free_cell, iter_str, iter_rng, iter_o, iterO_l, iterO_d, List.all_cons, List.all_nil, items_obj, slice_ch, slice_ch1, slice_ch0, slice_ch01, sl_from, sl_from1, sl_1, sl_to, sl_to1, sl_two, index_n, index_0, index_1, cellAt_of, Int.reduceBNe, Int.reduceBEq, Nat.reduceBEq, Nat.reduceBNe, true_and, and_true, and_self, *])
local macro_rules | `(tactic| walk_at "B") => `(tactic| simp only [stAt, PySem.Challenge.pw_ew0010_02, ↓List.getElem?_cons_succ, ↓List.getElem?_cons_zero, Option.getD_some, fnI, kidAt, ↓dE_cst, ↓dE_name, ↓dE_bop, ↓dE_bin, ↓dE_un, ↓dE_ife, ↓dE_lst, ↓dE_tpl, ↓dE_dict, ↓dE_comp, ↓dE_cmp, ↓dE_callm, ↓dE_calln, ↓dE_attr, ↓dE_slice, ↓dE_subc, ↓dE_subn, ↓dE_subb, ↓dE_subu, ↓dE_subs, ↓dE_subcl, ↓dL_nil, ↓dL_cons, ↓dO_none, ↓dO_some, ↓dK_nil, ↓dK_cons, ↓dS_expr, ↓dS_ret, ↓dS_asg, ↓dS_aug, ↓dS_ife, ↓dS_whl, ↓dS_for, ↓dS_try, ↓dS_brk, ↓dS_cont, ↓dS_pass, ↓dS_def, ↓dSs_nil, ↓dSs_cons])
local macro_rules | `(tactic| walk_at "A") => `(tactic| simp only [↓KB_, ↓KBin1_, ↓KBin2_, ↓KUn_, ↓KNot_, ↓KTru_, ↓KIfV_t, ↓KIfV_f, ↓KIfT_t, ↓KIfT_f, ↓KLst_, ↓KTpl_, ↓KTplA_, ↓KCmp1_, ↓KCmp2_, ↓KBool_, ↓KMeth1_, ↓KMeth2_, ↓KCall1_, ↓KArgs_, ↓KKws_, ↓KAttr_, ↓KAttrA_, ↓KLocA_, ↓KSub1_, ↓KSub2_, ↓KSubA1_, ↓KSubA2_, ↓KSl1_, ↓KSl2_, ↓KSl3_, ↓KL1_, ↓KL2_, ↓KK1_, ↓KK2_,
  ↓KTl_At, ↓KTl_Af, ↓KTl_Ot, ↓KTl_Of, ↓KTl_nil, ↓KBl_, ↓KBl2_At, ↓KBl2_Af, ↓KBl2_Ot, ↓KBl2_Of, ↓KAl_, ↓KComp1_, ↓KComp2_, ↓KComp3_, ↓v_cst, ↓v_name, ↓a_name, ↓v_bop, ↓t_bop, ↓v_bin, ↓t_not, ↓v_neg, ↓v_ife, ↓t_ife, ↓v_lst, ↓v_tpl, ↓a_tpl, ↓v_dict0, ↓v_comp, ↓v_cmp, ↓t_cmp, ↓v_callmn, ↓v_callmc, ↓v_callmsl, ↓v_calln, ↓v_attrn, ↓a_attr, ↓v_sub, ↓a_sub, ↓v_slice, ↓l_nil, ↓k_nil, ↓tl_nilA, ↓tl_nilO, ↓al_nil, ↓l_cons, ↓tl_cons, ↓bl_last, ↓bl_cons, ↓al_cons, ↓k_kw, ↓o_no, ↓o_cst, ↓o_name, ↓o_bop, ↓o_bin, ↓o_neg, ↓o_ife, ↓o_lst, ↓o_tpl, ↓o_dict0, ↓o_comp, ↓o_cmp, ↓o_callm, ↓o_call, ↓o_attr, ↓o_sub, ↓o_slice, ↓t_cst, ↓t_name, ↓t_bin, ↓t_callm, ↓t_call, ↓t_attr, ↓t_sub, ↓t_slice,
  ↓KSeq_next, ↓KSeq_ret, ↓KSeq_brk, ↓KSeq_cont, ↓KExpr_, ↓KRet_, ↓KAsg1_, ↓KAsg2_, ↓KAug1_, ↓KAug2_, ↓KAug3_, ↓KIf_t, ↓KIf_f, ↓KFor1_, ↓KFor2_, ↓KTry1_next, ↓KTry1_ret, ↓KTry1_brk, ↓KTry1_cont, ↓KTry2_nil, ↓KTry2_cons, ↓KTry3_, ↓KBody_ret, ↓KBody_next, ↓KCallR_, ↓KCallI_, ↓KComp4_, ↓KDef_, ↓s_nil, ↓s_cons, ↓s_exprc, ↓s_exprm, ↓s_ret, ↓s_asgn, ↓s_asg, ↓s_aug, ↓s_ife, ↓s_whl, ↓s_for, ↓s_try, ↓s_brk, ↓s_cont, ↓s_pass, ↓s_def, ↓W_callbi, ↓W_callty, ↓W_callfn, ↓W_callclo, ↓W_callcls, ↓KTurn_next, ↓KTurn_cont, ↓KTurn_brk, ↓KTurn_ret, ↓KWT_t, ↓KWT_f, ↓KFA_, ↓KForA_, ↓KForE_next, ↓KForE_cont, ↓KForE_brk, ↓KForE_ret, ↓KCE_, ↓KCI_t, ↓KCI_f, ↓KCA_,
  ↓optW_some, ofs_beq, String.reduceBEq, String.reduceBNe, ofs_bne, ↓reduceIte, Bool.false_eq_true, lookup_putS, List.lookup_cons, List.lookup_nil, isCompE, isTpl, isAttr, isSuper, callmOk, lenE_nil, lenE_cons, lenE_kw, Nat.reduceLT, decide_true, decide_false, dbg, cdict, constM_none, constM_bool, constM_int, cst_0, cst_1, cst_2, cst_3, cst_4, cst_5, cst_6, cst_7, cst_8, cst_9, cst_10, cst_11, cst_12, cst_13, cst_14, cst_15, cst_16, cst_17, cst_18, cst_19, cst_20, cst_21, cst_22, cst_23, cst_24, cst_25, cst_26, cst_27, cst_28, cst_29, cst_30, cst_31, cst_32, cst_33, cst_34, cst_35, cst_36, cst_37, cst_38, cst_39, cst_40, cst_41, cst_42, loadM, storeM, TL_glob, TL_fn, TL_meth, TL_lst, globTab, fnTab, Option.isSome, binM_add, binM_sub, binM_mod, binM_mul, binM_adds, cmp_eqs, cmp_eqi, cmp_eqb, cmp_nes, cmp_nei, cmp_lt, cmp_le, cmp_gt, cmp_ge, cmp_ges, cmp_les, cmp_ins, cmp_int, cmp_is, cmp_isn, cmp_eq0s, cmp_eqs0, strsOf, aug_add, aug_sub, aug_adds, Option.map_some, Option.map_none, Option.bind_some, List.nil_append, List.append_nil, List.cons_append, List.any_cons, List.any_nil, List.length_cons, List.length_nil, Bool.not_true, Bool.not_false, Bool.true_and, Bool.and_true, Bool.false_and, Bool.and_false, Bool.or_false, Bool.false_or, Bool.true_or, Bool.or_true, truth_none, truth_bool, truth_int, truth_str, sub_str, sub_tup, sub_lst, sub_glo, sub_dict, slice_str, sliceS_, slice_obj, sliceO_, word_0, word_1, word_2, word_01, word_02, word_m1, word_14, ne_eq, Int.reduceEq, not_false_eq_true, intOpt_none, intOpt_int, items_tup, binM_addo, addO_, listAt_end1, bm10, negM_, lb0, lb1, lb2, lb3, lb4, lb5, lb6, lb7, lb8, Nat.reduceAdd, Nat.zero_add, bi_len_s, bi_len_t, bi_len_o, bi_isi_bool, bi_isi_str, bi_isi_list, bi_isi_dict, bi_all_, bi_ord_, bi_app_, bi_pop_, bi_strip_, bi_rstrip_, bi_join_, bi_index_, bi_end_, bi_groups_, ty_range, ty_int, meth_strip, meth_rstrip, meth_join, meth_index, meth_match, meth_end, meth_groups, listAt_end, get_end, isInst, String.reduceBEq, nk_lc, nk_fc, nk_gc, nk_ll, nk_fl, nk_gl, nk_sl, sk_f, free_nil, free_free, free_local, free_glob, free_cell, iter_str, iter_rng, iter_o, iterO_l, iterO_d, List.all_cons, List.all_nil, items_obj, slice_ch, slice_ch1, slice_ch0, slice_ch01, sl_from, sl_from1, sl_1, sl_to, sl_to1, sl_two, index_n, index_0, index_1, cellAt_of, Int.reduceBNe, Int.reduceBEq, Nat.reduceBEq, Nat.reduceBNe, true_and, and_true, and_self, *])
inductive R where
  | none
  | bool (b : Bool)
  | int (i : Int)
  | frac (w : List Nat)
  | str (l : List Nat)
def RV (H : Hp) : R → V → Prop
  | .none, v => v = .none
  | .bool b, v => v = .bool b
  | .int i, v => v = .int i
  | .str l, v => v = .str l
  | .frac w, v => ∃ k, v = .obj k ∧ listAt H k = some (fracV w)
def judge (w : List Nat) : Option R :=
  if w == [110, 117, 108, 108] then some .none
  else if w == [116, 114, 117, 101] then some (.bool true)
  else if w == [102, 97, 108, 115, 101] then some (.bool false)
  else match lawNum w with
    | none => none
    | some none => some (.frac w)
    | some (some i) => some (.int i)
def cutAt (l : List Nat) (p : Nat) : Bool := [44, 125, 93, 35].contains (l.getD p 0) || ((l.drop p).take 2 == [47, 47] || (l.drop p).take 2 == [47, 42])
def cutsOf (l : List Nat) : List Nat := (List.range l.length).filter (cutAt l)
def wantAt (l : List Nat) (cuts : List Nat) : R × Nat := match cuts with
  | [] => (.str (stripL l), l.length)
  | c :: r => match judge (stripL (l.take c)) with
    | some x => (x, c)
    | none => wantAt l r
theorem wantAt_nil {l : List Nat} : wantAt l [] = (.str (stripL l), l.length) := rfl
theorem wantAt_cons {l : List Nat} {c : Nat} {r : List Nat} : wantAt l (c :: r) = match judge (stripL (l.take c)) with
    | some x => (x, c)
    | none => wantAt l r := rfl
theorem RV_app {H X : Hp} {r : R} {v : V} (h : RV H r v) : RV (H ++ X) r v := by
  cases r with
  | frac w =>
    obtain ⟨k, e, hk⟩ := h
    refine ⟨k, e, ?_⟩
    have := listAt_len hk
    unfold listAt at hk ⊢
    rw [get_app this]; exact hk
  | _ => exact h
section
variable {ns : List Int} {d : Nat} {H : Hp} {Q : Out → Prop}
theorem wanted_ {l : List Nat} (hl : l.length < 900) (ha : ascii l = true) (hd : d < 130)
   (hq : ∀ k X v0, listAt (H ++ X) k = some [v0, .int ((wantAt l (cutsOf l ++ [l.length])).2 : Int)] → RV (H ++ X) (wantAt l (cutsOf l ++ [l.length])).1 v0 → Q ⟨.ret (.obj k), [], H ++ X⟩) :
    WT (TL ns) (.call (.glo "_law_wanted") [.str l] [] d H) Q := by
  have hd' : d < 150 := by omega
  rw [WT_fn (i := fnI "_law_wanted" (stAt 29) [] false) rfl (b := [("line", .str l)]) rfl (e := ⟨⟨(fnI "_law_wanted" (stAt 29) [] false).sc.names, [("line", H.length)], d + 1, false⟩, [], H ++ [.cell (some (.str l))]⟩) (enter_of hd' rfl)]
  walk_at "B"
  have hc : ∀ o : Option V, cellAtM (H ++ [O.cell o]) H.length = o := fun o => cellAt_of (by rw [List.getElem?_append_right (Nat.le_refl _)]; simp)
  have hc2 : ∀ (o : Option V) (X : Hp), cellAtM (H ++ [O.cell o] ++ X) H.length = o := fun o x => cellAt_of (by rw [get_app (by simp), List.getElem?_append_right (Nat.le_refl _)]; simp)
  have i1 : (0 : Int) ≤ (l.length : Int) := by omega
  have i2 : (l.length : Int) ≤ (big : Int) := by unfold big; omega
  walk_at "A"
  refine comp_fm (List.range l.length) _ (fun p => if cutAt l p = true then some (.int p) else none) rfl rfl (by rw [List.length_range]; unfold big; omega) ?_ ?_
  · rintro p hp xs loc
    have hp' : p < l.length := List.mem_range.mp hp
    have e1 : l[p]? = some (l.getD p 0) := by rw [List.getD_eq_getElem?_getD, List.getElem?_eq_getElem hp']; rfl
    have e2 : wordI (p : Int) = true := word_nn hp' (by omega)
    have e3 : wordI ((p : Int) + 2) = true := wordZ (by omega) (by omega)
    walk_at "A"
    refine KTl_or (c := ((l.drop p).take 2 == [47, 47] || (l.drop p).take 2 == [47, 42])) (fun P hP => ?_) ?_
    · walk_at "A"
    rw [subIn_one]
    walk_at "A"
    cases hE : cutAt l p with
    | true => unfold cutAt at hE; rw [hE]; walk_at "A"
    | false => unfold cutAt at hE; rw [hE]; walk_at "A"
  intro loc
  have hE : (List.filterMap (fun p => if cutAt l p = true then some (V.int ↑p) else none) (List.range l.length)) = (cutsOf l).map fun p : Nat => V.int p := fm_filter
  rw [hE]
  have hcl : (cutsOf l).length ≤ l.length := by
    have := List.length_filter_le (cutAt l) (List.range l.length)
    rw [List.length_range] at this; exact this
  have hcb : ((cutsOf l).map fun p : Nat => V.int p).length + 1 ≤ big := by rw [List.length_map]; unfold big; omega
  have hkk : ∀ xs o, listAt (H ++ [O.cell (some (V.str l))] ++ [O.list xs] ++ [o]) (H ++ [O.cell (some (V.str l))]).length = some xs := fun xs o => by
    rw [listAt_app (by simp), listAt_end]
  walk_at "A"
  have hcs : (List.map (fun p : Nat => V.int ↑p) (cutsOf l) ++ [V.int ↑l.length]) = (cutsOf l ++ [l.length]).map fun p : Nat => V.int p := by rw [List.map_append]; rfl
  rw [hcs]
  have hca : ∀ c ∈ cutsOf l ++ [l.length], c ≤ l.length := by
    intro c hc
    rcases List.mem_append.mp hc with h | h
    · unfold cutsOf at h; rw [List.mem_filter, List.mem_range] at h; omega
    · simp at h; omega
  have hcsl : (cutsOf l ++ [l.length]).length < 1000 := by rw [List.length_append, List.length_singleton]; omega
  clear hE hcs hkk hcb hcl
  generalize cutsOf l ++ [l.length] = cs at *
  have g1 : cellAtM (H ++ [O.cell (some (V.str l))] ++ [O.list (List.map (fun p : Nat => V.int ↑p) (cutsOf l))] ++ [O.list [V.int ↑l.length]] ++ [O.list (cs.map fun p : Nat => V.int p)]) H.length = some (.str l) := by
    rw [List.append_assoc, List.append_assoc]; exact hc2 _ _
  have g2 : listAt (H ++ [O.cell (some (V.str l))] ++ [O.list (List.map (fun p : Nat => V.int ↑p) (cutsOf l))] ++ [O.list [V.int ↑l.length]] ++ [O.list (cs.map fun p : Nat => V.int p)]) (H ++ [O.cell (some (V.str l))] ++ [O.list (List.map (fun p : Nat => V.int ↑p) (cutsOf l))] ++ [O.list [V.int ↑l.length]]).length = some (cs.map fun p : Nat => V.int p) := listAt_end
  have g3 : ∃ X, (H ++ [O.cell (some (V.str l))] ++ [O.list (List.map (fun p : Nat => V.int ↑p) (cutsOf l))] ++ [O.list [V.int ↑l.length]] ++ [O.list (cs.map fun p : Nat => V.int p)]) = H ++ X := ⟨_, by simp only [List.append_assoc]; rfl⟩
  have g4 : H.length < (H ++ [O.cell (some (V.str l))] ++ [O.list (List.map (fun p : Nat => V.int ↑p) (cutsOf l))] ++ [O.list [V.int ↑l.length]] ++ [O.list (cs.map fun p : Nat => V.int p)]).length := by simp
  generalize (H ++ [O.cell (some (V.str l))] ++ [O.list (List.map (fun p : Nat => V.int ↑p) (cutsOf l))] ++ [O.list [V.int ↑l.length]] ++ [O.list (cs.map fun p : Nat => V.int p)]) = H1 at *
  generalize (H ++ [O.cell (some (V.str l))] ++ [O.list (List.map (fun p : Nat => V.int ↑p) (cutsOf l))] ++ [O.list [V.int ↑l.length]]).length = idx at *
  obtain ⟨X1, rfl⟩ := g3
  have gc : ∀ X, cellAtM (H ++ X1 ++ X) H.length = some (.str l) := fun X => by rw [← g1]; unfold cellAtM; rw [get_app g4]
  refine WT_for_lst (xs := cs.map fun p : Nat => V.int p) (fun k loc' H' => k ≤ cs.length ∧ (∃ X, H' = H ++ X1 ++ X) ∧ wantAt l cs = wantAt l (cs.drop k)) 0 (Nat.zero_le _) ⟨Nat.zero_le _, ⟨[], by simp⟩, rfl⟩ ?_ ?_ ?_
  · rintro k loc' H' ⟨_, ⟨X, rfl⟩, _⟩
    exact listAt_keep g2
  · rintro k v loc' H' ⟨_, ⟨X, rfl⟩, hw⟩ hv
    rw [List.getElem?_map] at hv
    obtain ⟨c, hc, rfl⟩ := Option.map_eq_some_iff.mp hv
    have hcl : c ≤ l.length := hca c (List.mem_of_getElem? hc)
    have hkl := (List.getElem?_eq_some_iff.mp hc).1
    have hdr : cs.drop k = c :: cs.drop (k + 1) := by
      obtain ⟨h1, h2⟩ := List.getElem?_eq_some_iff.mp hc
      rw [List.drop_eq_getElem_cons h1, h2]
    have e1 : wordI (c : Int) = true := wordN (by omega)
    have e2 : ascii (l.take c) = true := ascii_take ha
    rw [hdr, wantAt_cons] at hw
    generalize hwd : stripL (l.take c) = wd at *
    have hwl : wd.length < 1000 := by
      rw [← hwd]; have := @strip_len (l.take c); rw [List.length_take] at this; omega
    have fin : ∀ (X : Hp) (r : R) (v0 : V), judge wd = some r → RV (H ++ X1 ++ X) r v0 → Q ⟨.ret (.obj (H ++ X1 ++ X).length), [], H ++ X1 ++ X ++ [.list [v0, .int c]]⟩ := by
      intro X r v0 hj hr
      have hX : ∀ X Y : Hp, H ++ X1 ++ X ++ Y = H ++ (X1 ++ X ++ Y) := fun X Y => by simp only [List.append_assoc]
      rw [hj] at hw
      rw [hX]
      refine hq _ _ v0 ?_ ?_
      · rw [← hX, listAt_end, hw]
      · rw [← hX, hw]; exact RV_app hr
    walk_at "A"
    cases hn : (wd == [110, 117, 108, 108]) with
    | true =>
      walk_at "A"
      exact fin X .none .none (by unfold judge; rw [if_pos hn]) rfl
    | false =>
    walk_at "A"
    cases ht : (wd == [116, 114, 117, 101]) with
    | true =>
      walk_at "A"
      exact fin X (.bool true) (.bool true) (by unfold judge; rw [if_neg (by rw [hn]; exact Bool.false_ne_true), if_pos ht]) rfl
    | false =>
    cases hf : (wd == [102, 97, 108, 115, 101]) with
    | true =>
      walk_at "A"
      exact fin X (.bool false) (.bool false) (by unfold judge; rw [if_neg (by rw [hn]; exact Bool.false_ne_true), if_neg (by rw [ht]; exact Bool.false_ne_true), if_pos hf]) rfl
    | false =>
    have hj : judge wd = match lawNum wd with
        | none => none
        | some none => some (.frac wd)
        | some (some i) => some (.int i) := by
      unfold judge; rw [if_neg (by rw [hn]; exact Bool.false_ne_true), if_neg (by rw [ht]; exact Bool.false_ne_true), if_neg (by rw [hf]; exact Bool.false_ne_true)]
    walk_at "A"
    refine number_ hwl (by omega) (fun v Y h1 h2 => ?_)
    walk_at "A"
    cases hln : lawNum wd with
    | none =>
      rw [h1 hln]
      rw [hln] at hj
      walk_at "A"
      exact ⟨(), by omega, X ++ Y, by simp only [List.append_assoc]⟩
    | some r =>
      obtain ⟨k2, rfl, hk2⟩ := h2 r hln
      have hk3 : ∀ r', r = r' → (H ++ X1 ++ X ++ Y)[k2]? = some (.list (numVs wd r')) := fun r' e => by
        subst e
        unfold listAt at hk2
        split at hk2
        · rename_i e; rw [e]; cases hk2; rfl
        · cases hk2
      cases r with
      | none =>
        rw [hln] at hj
        have hk4 := hk3 none rfl
        unfold numVs fracV at hk4
        walk_at "A"
        refine KIfV_split (fun _ => ?_) (fun h => absurd h (by simp [numVs, fracV]))
        walk_at "A"
        have := fin (X ++ Y) (.frac wd) (.obj k2) hj ⟨k2, rfl, by rw [← List.append_assoc]; exact hk2⟩
        simp only [← List.append_assoc] at this
        exact this
      | some i =>
        rw [hln] at hj
        have hk4 := hk3 (some i) rfl
        unfold numVs at hk4
        walk_at "A"
        refine KIfV_split (fun h => absurd h (by simp [numVs])) (fun _ => ?_)
        have hk5 : (numVs wd (some i))[0]? = some (.int i) := rfl
        walk_at "A"
        have := fin (X ++ Y) (.int i) (.int i) hj rfl
        simp only [← List.append_assoc] at this
        exact this
  · rintro loc' H' ⟨_, ⟨X, rfl⟩, hw⟩
    rw [List.length_map, List.drop_length, wantAt_nil] at hw
    rw [hw] at hq
    walk_at "A"
    have hX : ∀ Y : Hp, H ++ X1 ++ X ++ Y = H ++ (X1 ++ X ++ Y) := fun Y => by simp only [List.append_assoc]
    rw [hX]
    exact hq _ _ (.str (stripL l)) (by rw [← hX, listAt_end]) rfl
end

end Mine.R

end
section
open PySem
set_option autoImplicit false
set_option maxHeartbeats 4000000
namespace Mine.R
local macro_rules | `(tactic| walk_at "W") => `(tactic| simp only [↓KB_, ↓KBin1_, ↓KBin2_, ↓KUn_, ↓KNot_, ↓KTru_, ↓KIfV_t, ↓KIfV_f, ↓KIfT_t, ↓KIfT_f, ↓KLst_, ↓KTpl_, ↓KTplA_, ↓KCmp1_, ↓KCmp2_, ↓KBool_, ↓KMeth1_, ↓KMeth2_, ↓KCall1_, ↓KArgs_, ↓KKws_, ↓KAttr_, ↓KAttrA_, ↓KLocA_, ↓KSub1_, ↓KSub2_, ↓KSubA1_, ↓KSubA2_, ↓KSl1_, ↓KSl2_, ↓KSl3_, ↓KL1_, ↓KL2_, ↓KK1_, ↓KK2_,
  ↓KTl_At, ↓KTl_Af, ↓KTl_Ot, ↓KTl_Of, ↓KTl_nil, ↓KBl_, ↓KBl2_At, ↓KBl2_Af, ↓KBl2_Ot, ↓KBl2_Of, ↓KAl_, ↓KComp1_, ↓KComp2_, ↓KComp3_, ↓v_cst, ↓v_name, ↓a_name, ↓v_bop, ↓t_bop, ↓v_bin, ↓t_not, ↓v_neg, ↓v_ife, ↓t_ife, ↓v_lst, ↓v_tpl, ↓a_tpl, ↓v_dict0, ↓v_comp, ↓v_cmp, ↓t_cmp, ↓v_callmn, ↓v_callmc, ↓v_callmsl, ↓v_calln, ↓v_attrn, ↓a_attr, ↓v_sub, ↓a_sub, ↓v_slice, ↓l_nil, ↓k_nil, ↓tl_nilA, ↓tl_nilO, ↓al_nil, ↓l_cons, ↓tl_cons, ↓bl_last, ↓bl_cons, ↓al_cons, ↓k_kw, ↓o_no, ↓o_cst, ↓o_name, ↓o_bop, ↓o_bin, ↓o_neg, ↓o_ife, ↓o_lst, ↓o_tpl, ↓o_dict0, ↓o_comp, ↓o_cmp, ↓o_callm, ↓o_call, ↓o_attr, ↓o_sub, ↓o_slice, ↓t_cst, ↓t_name, ↓t_bin, ↓t_callm, ↓t_call, ↓t_attr, ↓t_sub, ↓t_slice,
  ↓KSeq_next, ↓KSeq_ret, ↓KSeq_brk, ↓KSeq_cont, ↓KExpr_, ↓KRet_, ↓KAsg1_, ↓KAsg2_, ↓KAug1_, ↓KAug2_, ↓KAug3_, ↓KIf_t, ↓KIf_f, ↓KFor1_, ↓KFor2_, ↓KTry1_next, ↓KTry1_ret, ↓KTry1_brk, ↓KTry1_cont, ↓KTry2_nil, ↓KTry2_cons, ↓KTry3_, ↓KBody_ret, ↓KBody_next, ↓KCallR_, ↓KCallI_, ↓KComp4_, ↓KDef_, ↓s_nil, ↓s_cons, ↓s_exprc, ↓s_exprm, ↓s_ret, ↓s_asgn, ↓s_asg, ↓s_aug, ↓s_ife, ↓s_whl, ↓s_for, ↓s_try, ↓s_brk, ↓s_cont, ↓s_pass, ↓s_def, ↓W_callbi, ↓W_callty, ↓W_callfn, ↓W_callclo, ↓W_callcls, ↓KTurn_next, ↓KTurn_cont, ↓KTurn_brk, ↓KTurn_ret, ↓KWT_t, ↓KWT_f, ↓KFA_, ↓KForA_, ↓KForE_next, ↓KForE_cont, ↓KForE_brk, ↓KForE_ret, ↓KCE_, ↓KCI_t, ↓KCI_f, ↓KCA_,
  ↓optW_some, ofs_beq, String.reduceBEq, String.reduceBNe, ofs_bne, ↓reduceIte, Bool.false_eq_true, lookup_putS, List.lookup_cons, List.lookup_nil, isCompE, isTpl, isAttr, isSuper, callmOk, lenE_nil, lenE_cons, lenE_kw, Nat.reduceLT, decide_true, decide_false, dbg, cdict, constM_none, constM_bool, constM_int, cst_0, cst_1, cst_2, cst_3, cst_4, cst_5, cst_6, cst_7, cst_8, cst_9, cst_10, cst_11, cst_12, cst_13, cst_14, cst_15, cst_16, cst_17, cst_18, cst_19, cst_20, cst_21, cst_22, cst_23, cst_24, cst_25, cst_26, cst_27, cst_28, cst_29, cst_30, cst_31, cst_32, cst_33, cst_34, cst_35, cst_36, cst_37, cst_38, cst_39, cst_40, cst_41, cst_42, loadM, storeM, TL_glob, TL_fn, TL_meth, TL_lst, TL_defs, globTab, fnTab, Option.isSome, binM_add, binM_sub, binM_mod, binM_mul, binM_adds, cmp_eqs, cmp_eqi, cmp_eqb, cmp_nes, cmp_nei, cmp_lt, cmp_le, cmp_gt, cmp_ge, cmp_ges, cmp_les, cmp_ins, cmp_int, cmp_is, cmp_isn, cmp_eq0s, cmp_eqs0, strsOf, aug_add, aug_sub, aug_adds, Option.map_some, Option.map_none, Option.bind_some, List.nil_append, List.append_nil, List.cons_append, List.any_cons, List.any_nil, List.length_cons, List.length_nil, Bool.not_true, Bool.not_false, Bool.true_and, Bool.and_true, Bool.false_and, Bool.and_false, Bool.or_false, Bool.false_or, Bool.true_or, Bool.or_true, truth_none, truth_bool, truth_int, truth_str, sub_str, sub_tup, sub_lst, sub_glo, sub_dict, slice_str, sliceS_, slice_obj, sliceO_, word_0, word_1, word_2, word_01, word_02, word_m1, word_14, ne_eq, Int.reduceEq, not_false_eq_true, intOpt_none, intOpt_int, items_tup, truth_obj, truthO_l, slice_glo, sliceG_, sliceL_map, getMeth_obj, getMM_append, getMM_pop, getMM_clear, getMM_fld, sl_0n, get_mid, set_mid, get_mid2, set_mid2, plainPs, List.isEmpty_nil, cellAt_app0, cellAt_appk, cellAt_succ, cellAt_zero, isCell_app0, isCell_appk, isCell_succ, isCell_zero, set_app0, set_appk, set_succ, set_zero, get_app0, get_appk, List.getElem?_cons_zero, List.getElem?_cons_succ, setAttr_, setA_, getAttr_, getA_, fieldM_, putS_nil, putS_cons, fi_0, fi_1, fi_2, fi_3, fi_4, fi_5, fi_6, fi_7, fi_8, fi_9, fi_10, fi_11, fi_12, fi_13, hm_glo, hm_str, hm_bool, hm_none, hm_obj, hm_clo, truth_frac, truth_clo, Option.isNone_some, Option.isNone_none, Option.all_some, binM_addo, addO_, listAt_end1, bm10, negM_, lb0, lb1, lb2, lb3, lb4, lb5, lb6, lb7, lb8, Nat.reduceAdd, Nat.zero_add, bi_len_s, bi_len_t, bi_len_o, bi_isi_bool, bi_isi_str, bi_isi_list, bi_isi_dict, bi_all_, bi_ord_, bi_app_, bi_pop_, bi_strip_, bi_rstrip_, bi_join_, bi_index_, bi_end_, bi_groups_, ty_range, ty_int, meth_strip, meth_rstrip, meth_join, meth_index, meth_match, meth_end, meth_groups, listAt_end, get_end, String.reduceBEq, nk_lc, nk_fc, nk_gc, nk_ll, nk_fl, nk_gl, nk_sl, sk_f, free_nil, free_free, free_local, free_glob, free_cell, iter_str, iter_rng, iter_o, iterO_l, iterO_d, List.all_cons, List.all_nil, items_obj, slice_ch, slice_ch1, slice_ch0, slice_ch01, sl_from, sl_from1, sl_1, sl_to, sl_to1, sl_two, index_n, index_0, index_1, cellAt_of, Int.reduceBNe, Int.reduceBEq, Nat.reduceBEq, Nat.reduceBNe, true_and, and_true, and_self, *])
local macro_rules | `(tactic| walk_at "B") => `(tactic| simp only [stAt, PySem.Challenge.pw_ew0010_02, ↓List.getElem?_cons_succ, ↓List.getElem?_cons_zero, Option.getD_some, fnI, kidAt, ↓dE_cst, ↓dE_name, ↓dE_bop, ↓dE_bin, ↓dE_un, ↓dE_ife, ↓dE_lst, ↓dE_tpl, ↓dE_dict, ↓dE_comp, ↓dE_cmp, ↓dE_callm, ↓dE_calln, ↓dE_attr, ↓dE_slice, ↓dE_subc, ↓dE_subn, ↓dE_subb, ↓dE_subu, ↓dE_subs, ↓dE_subcl, ↓dL_nil, ↓dL_cons, ↓dO_none, ↓dO_some, ↓dK_nil, ↓dK_cons, ↓dS_expr, ↓dS_ret, ↓dS_asg, ↓dS_aug, ↓dS_ife, ↓dS_whl, ↓dS_for, ↓dS_try, ↓dS_brk, ↓dS_cont, ↓dS_pass, ↓dS_def, ↓dSs_nil, ↓dSs_cons])
local macro_rules | `(tactic| walk_at "A") => `(tactic| simp only [↓KB_, ↓KBin1_, ↓KBin2_, ↓KUn_, ↓KNot_, ↓KTru_, ↓KIfV_t, ↓KIfV_f, ↓KIfT_t, ↓KIfT_f, ↓KLst_, ↓KTpl_, ↓KTplA_, ↓KCmp1_, ↓KCmp2_, ↓KBool_, ↓KMeth1_, ↓KMeth2_, ↓KCall1_, ↓KArgs_, ↓KKws_, ↓KAttr_, ↓KAttrA_, ↓KLocA_, ↓KSub1_, ↓KSub2_, ↓KSubA1_, ↓KSubA2_, ↓KSl1_, ↓KSl2_, ↓KSl3_, ↓KL1_, ↓KL2_, ↓KK1_, ↓KK2_,
  ↓KTl_At, ↓KTl_Af, ↓KTl_Ot, ↓KTl_Of, ↓KTl_nil, ↓KBl_, ↓KBl2_At, ↓KBl2_Af, ↓KBl2_Ot, ↓KBl2_Of, ↓KAl_, ↓KComp1_, ↓KComp2_, ↓KComp3_, ↓v_cst, ↓v_name, ↓a_name, ↓v_bop, ↓t_bop, ↓v_bin, ↓t_not, ↓v_neg, ↓v_ife, ↓t_ife, ↓v_lst, ↓v_tpl, ↓a_tpl, ↓v_dict0, ↓v_comp, ↓v_cmp, ↓t_cmp, ↓v_callmn, ↓v_callmc, ↓v_callmsl, ↓v_calln, ↓v_attrn, ↓a_attr, ↓v_sub, ↓a_sub, ↓v_slice, ↓l_nil, ↓k_nil, ↓tl_nilA, ↓tl_nilO, ↓al_nil, ↓l_cons, ↓tl_cons, ↓bl_last, ↓bl_cons, ↓al_cons, ↓k_kw, ↓o_no, ↓o_cst, ↓o_name, ↓o_bop, ↓o_bin, ↓o_neg, ↓o_ife, ↓o_lst, ↓o_tpl, ↓o_dict0, ↓o_comp, ↓o_cmp, ↓o_callm, ↓o_call, ↓o_attr, ↓o_sub, ↓o_slice, ↓t_cst, ↓t_name, ↓t_bin, ↓t_callm, ↓t_call, ↓t_attr, ↓t_sub, ↓t_slice,
  ↓KSeq_next, ↓KSeq_ret, ↓KSeq_brk, ↓KSeq_cont, ↓KExpr_, ↓KRet_, ↓KAsg1_, ↓KAsg2_, ↓KAug1_, ↓KAug2_, ↓KAug3_, ↓KIf_t, ↓KIf_f, ↓KFor1_, ↓KFor2_, ↓KTry1_next, ↓KTry1_ret, ↓KTry1_brk, ↓KTry1_cont, ↓KTry2_nil, ↓KTry2_cons, ↓KTry3_, ↓KBody_ret, ↓KBody_next, ↓KCallR_, ↓KCallI_, ↓KComp4_, ↓KDef_, ↓s_nil, ↓s_cons, ↓s_exprc, ↓s_exprm, ↓s_ret, ↓s_asgn, ↓s_asg, ↓s_aug, ↓s_ife, ↓s_whl, ↓s_for, ↓s_try, ↓s_brk, ↓s_cont, ↓s_pass, ↓s_def, ↓W_callbi, ↓W_callty, ↓W_callfn, ↓W_callclo, ↓W_callcls, ↓KTurn_next, ↓KTurn_cont, ↓KTurn_brk, ↓KTurn_ret, ↓KWT_t, ↓KWT_f, ↓KFA_, ↓KForA_, ↓KForE_next, ↓KForE_cont, ↓KForE_brk, ↓KForE_ret, ↓KCE_, ↓KCI_t, ↓KCI_f, ↓KCA_,
  ↓optW_some, ofs_beq, String.reduceBEq, String.reduceBNe, ofs_bne, ↓reduceIte, Bool.false_eq_true, lookup_putS, List.lookup_cons, List.lookup_nil, isCompE, isTpl, isAttr, isSuper, callmOk, lenE_nil, lenE_cons, lenE_kw, Nat.reduceLT, decide_true, decide_false, dbg, cdict, constM_none, constM_bool, constM_int, cst_0, cst_1, cst_2, cst_3, cst_4, cst_5, cst_6, cst_7, cst_8, cst_9, cst_10, cst_11, cst_12, cst_13, cst_14, cst_15, cst_16, cst_17, cst_18, cst_19, cst_20, cst_21, cst_22, cst_23, cst_24, cst_25, cst_26, cst_27, cst_28, cst_29, cst_30, cst_31, cst_32, cst_33, cst_34, cst_35, cst_36, cst_37, cst_38, cst_39, cst_40, cst_41, cst_42, loadM, storeM, TL_glob, TL_fn, TL_meth, TL_lst, globTab, fnTab, Option.isSome, binM_add, binM_sub, binM_mod, binM_mul, binM_adds, cmp_eqs, cmp_eqi, cmp_eqb, cmp_nes, cmp_nei, cmp_lt, cmp_le, cmp_gt, cmp_ge, cmp_ges, cmp_les, cmp_ins, cmp_int, cmp_is, cmp_isn, cmp_eq0s, cmp_eqs0, strsOf, aug_add, aug_sub, aug_adds, Option.map_some, Option.map_none, Option.bind_some, List.nil_append, List.append_nil, List.cons_append, List.any_cons, List.any_nil, List.length_cons, List.length_nil, Bool.not_true, Bool.not_false, Bool.true_and, Bool.and_true, Bool.false_and, Bool.and_false, Bool.or_false, Bool.false_or, Bool.true_or, Bool.or_true, truth_none, truth_bool, truth_int, truth_str, sub_str, sub_tup, sub_lst, sub_glo, sub_dict, slice_str, sliceS_, slice_obj, sliceO_, word_0, word_1, word_2, word_01, word_02, word_m1, word_14, ne_eq, Int.reduceEq, not_false_eq_true, intOpt_none, intOpt_int, items_tup, binM_addo, addO_, listAt_end1, bm10, negM_, lb0, lb1, lb2, lb3, lb4, lb5, lb6, lb7, lb8, Nat.reduceAdd, Nat.zero_add, bi_len_s, bi_len_t, bi_len_o, bi_isi_bool, bi_isi_str, bi_isi_list, bi_isi_dict, bi_all_, bi_ord_, bi_app_, bi_pop_, bi_strip_, bi_rstrip_, bi_join_, bi_index_, bi_end_, bi_groups_, ty_range, ty_int, meth_strip, meth_rstrip, meth_join, meth_index, meth_match, meth_end, meth_groups, listAt_end, get_end, isInst, String.reduceBEq, nk_lc, nk_fc, nk_gc, nk_ll, nk_fl, nk_gl, nk_sl, sk_f, free_nil, free_free, free_local, free_glob, free_cell, iter_str, iter_rng, iter_o, iterO_l, iterO_d, List.all_cons, List.all_nil, items_obj, slice_ch, slice_ch1, slice_ch0, slice_ch01, sl_from, sl_from1, sl_1, sl_to, sl_to1, sl_two, index_n, index_0, index_1, cellAt_of, Int.reduceBNe, Int.reduceBEq, Nat.reduceBEq, Nat.reduceBNe, true_and, and_true, and_self, *])
section
variable {ns : List Int} {d : Nat} {H : Hp} {Q : Out → Prop}
theorem scanner_ {i : Nat} {fs : List (Str × V)} (hi : H[i]? = some (.inst "HjsonDecoder" fs)) (hil : i < H.length)
   {k : Nat}
   (f1 : lk fs "parse_object" = some (.glo "JSONObject")) (f2 : lk fs "parse_array" = some (.glo "JSONArray")) (f3 : lk fs "parse_string" = some (.glo "scanstring")) (f4 : lk fs "parse_mlstring" = some (.glo "mlscanstring"))
   (f5 : lk fs "parse_tfnns" = some (.glo "scantfnns")) (f6 : lk fs "encoding" = some (.str [117, 116, 102, 45, 56])) (f7 : lk fs "strict" = some (.bool true)) (f8 : lk fs "object_hook" = some .none) (f9 : lk fs "object_pairs_hook" = some .none) (f10 : lk fs "memo" = some (.obj k))
   (hd : d < 140)
   (hq : ∀ c1 c2 X, handM c1 = true → handM c2 = true → Q ⟨.ret (.tup [c1, c2]), [], H ++ X⟩) :
    WT (TL ns) (.call (.glo "make_scanner") [.obj i] [] d H) Q := by
  have hd' : d < 150 := by omega
  rw [WT_fn (i := fnI "make_scanner" (stAt 19) [] true) rfl (b := [("context", .obj i)]) rfl (e := ⟨⟨(fnI "make_scanner" (stAt 19) [] true).sc.names, [("strict", H.length + 11), ("parse_tfnns", H.length + 10), ("parse_string", H.length + 9), ("parse_object", H.length + 8), ("parse_mlstring", H.length + 7), ("parse_array", H.length + 6), ("object_pairs_hook", H.length + 5), ("object_hook", H.length + 4), ("memo", H.length + 3), ("encoding", H.length + 2), ("_scan_once", H.length + 1), ("context", H.length)], d + 1, true⟩, [], H ++ [.cell (some (.obj i)), .cell none, .cell none, .cell none, .cell none, .cell none, .cell none, .cell none, .cell none, .cell none, .cell none, .cell none]⟩) (enter_of hd' rfl)]
  walk_at "B"
  have ga : ∀ X, (H ++ X)[i]? = some (.inst "HjsonDecoder" fs) := fun X => by rw [get_app hil]; exact hi
  walk_at "W"
theorem init_ (hd : d < 130)
   (hq : ∀ fs X, lk fs "parse_int" = some (.glo "whole") → lk fs "parse_float" = some (.glo "_law_fraction") → Q ⟨.ret .none, [], H ++ [.inst "HjsonDecoder" fs] ++ X⟩) :
    WT (TL ns) (.call (.glo "HjsonDecoder.__init__") [.obj H.length] [("parse_float", .glo "_law_fraction")] d (H ++ [.inst "HjsonDecoder" []])) Q := by
  have hd' : d < 150 := by omega
  rw [WT_fnP (i := fnI "HjsonDecoder.__init__" (kidAt 23 0) [.none, .none, .none, .none, .bool true, .none] false) rfl (b := [("self", .obj H.length), ("encoding", .none), ("object_hook", .none), ("parse_float", .glo "_law_fraction"), ("parse_int", .none), ("strict", .bool true), ("object_pairs_hook", .none)]) rfl hd' rfl]
  walk_at "B"
  walk_at "W"
  refine scanner_ (k := (H ++ [O.inst (Str.ofString "HjsonDecoder") []]).length) get_mid (by simp) ?_ ?_ ?_ ?_ ?_ ?_ ?_ ?_ ?_ ?_ (by omega) (fun c1 c2 X h1 h2 => ?_)
  case refine_10 => (show some _ = some _); simp
  case refine_11 =>
    walk_at "W"
    have := hq
    rw [List.append_assoc]
    refine hq _ _ ?_ ?_
    · walk_at "W"
    · walk_at "W"
  all_goals walk_at "W"
theorem dec_ {QV : V × Hp → Prop} (hd : d < 120)
   (hq : ∀ fs X, lk fs "parse_int" = some (.glo "whole") → lk fs "parse_float" = some (.glo "_law_fraction") → QV (.obj H.length, H ++ [.inst "HjsonDecoder" fs] ++ X)) :
    W (TL ns) (callM (TL ns) (.glo "HjsonDecoder") [] [("parse_float", .glo "_law_fraction")] d H) QV := by
  rw [W_callcls (q := "HjsonDecoder.__init__") (by rfl) (by rfl) (by omega)]
  refine init_ (by omega) (fun fs X h1 h2 => ?_)
  rw [KCallI_]
  exact hq fs X h1 h2
end

end Mine.R

end
section
open PySem
set_option autoImplicit false
set_option maxHeartbeats 4000000
namespace Mine.R
local macro_rules | `(tactic| walk_at "W") => `(tactic| simp only [↓KB_, ↓KBin1_, ↓KBin2_, ↓KUn_, ↓KNot_, ↓KTru_, ↓KIfV_t, ↓KIfV_f, ↓KIfT_t, ↓KIfT_f, ↓KLst_, ↓KTpl_, ↓KTplA_, ↓KCmp1_, ↓KCmp2_, ↓KBool_, ↓KMeth1_, ↓KMeth2_, ↓KCall1_, ↓KArgs_, ↓KKws_, ↓KAttr_, ↓KAttrA_, ↓KLocA_, ↓KSub1_, ↓KSub2_, ↓KSubA1_, ↓KSubA2_, ↓KSl1_, ↓KSl2_, ↓KSl3_, ↓KL1_, ↓KL2_, ↓KK1_, ↓KK2_,
  ↓KTl_At, ↓KTl_Af, ↓KTl_Ot, ↓KTl_Of, ↓KTl_nil, ↓KBl_, ↓KBl2_At, ↓KBl2_Af, ↓KBl2_Ot, ↓KBl2_Of, ↓KAl_, ↓KComp1_, ↓KComp2_, ↓KComp3_, ↓v_cst, ↓v_name, ↓a_name, ↓v_bop, ↓t_bop, ↓v_bin, ↓t_not, ↓v_neg, ↓v_ife, ↓t_ife, ↓v_lst, ↓v_tpl, ↓a_tpl, ↓v_dict0, ↓v_comp, ↓v_cmp, ↓t_cmp, ↓v_callmn, ↓v_callmc, ↓v_callmsl, ↓v_calln, ↓v_attrn, ↓a_attr, ↓v_sub, ↓a_sub, ↓v_slice, ↓l_nil, ↓k_nil, ↓tl_nilA, ↓tl_nilO, ↓al_nil, ↓l_cons, ↓tl_cons, ↓bl_last, ↓bl_cons, ↓al_cons, ↓k_kw, ↓o_no, ↓o_cst, ↓o_name, ↓o_bop, ↓o_bin, ↓o_neg, ↓o_ife, ↓o_lst, ↓o_tpl, ↓o_dict0, ↓o_comp, ↓o_cmp, ↓o_callm, ↓o_call, ↓o_attr, ↓o_sub, ↓o_slice, ↓t_cst, ↓t_name, ↓t_bin, ↓t_callm, ↓t_call, ↓t_attr, ↓t_sub, ↓t_slice,
  ↓KSeq_next, ↓KSeq_ret, ↓KSeq_brk, ↓KSeq_cont, ↓KExpr_, ↓KRet_, ↓KAsg1_, ↓KAsg2_, ↓KAug1_, ↓KAug2_, ↓KAug3_, ↓KIf_t, ↓KIf_f, ↓KFor1_, ↓KFor2_, ↓KTry1_next, ↓KTry1_ret, ↓KTry1_brk, ↓KTry1_cont, ↓KTry2_nil, ↓KTry2_cons, ↓KTry3_, ↓KBody_ret, ↓KBody_next, ↓KCallR_, ↓KCallI_, ↓KComp4_, ↓KDef_, ↓s_nil, ↓s_cons, ↓s_exprc, ↓s_exprm, ↓s_ret, ↓s_asgn, ↓s_asg, ↓s_aug, ↓s_ife, ↓s_whl, ↓s_for, ↓s_try, ↓s_brk, ↓s_cont, ↓s_pass, ↓s_def, ↓W_callbi, ↓W_callty, ↓W_callfn, ↓W_callclo, ↓W_callcls, ↓KTurn_next, ↓KTurn_cont, ↓KTurn_brk, ↓KTurn_ret, ↓KWT_t, ↓KWT_f, ↓KFA_, ↓KForA_, ↓KForE_next, ↓KForE_cont, ↓KForE_brk, ↓KForE_ret, ↓KCE_, ↓KCI_t, ↓KCI_f, ↓KCA_,
  ↓optW_some, ofs_beq, String.reduceBEq, String.reduceBNe, ofs_bne, ↓reduceIte, Bool.false_eq_true, lookup_putS, List.lookup_cons, List.lookup_nil, isCompE, isTpl, isAttr, isSuper, callmOk, lenE_nil, lenE_cons, lenE_kw, Nat.reduceLT, decide_true, decide_false, dbg, cdict, constM_none, constM_bool, constM_int, cst_0, cst_1, cst_2, cst_3, cst_4, cst_5, cst_6, cst_7, cst_8, cst_9, cst_10, cst_11, cst_12, cst_13, cst_14, cst_15, cst_16, cst_17, cst_18, cst_19, cst_20, cst_21, cst_22, cst_23, cst_24, cst_25, cst_26, cst_27, cst_28, cst_29, cst_30, cst_31, cst_32, cst_33, cst_34, cst_35, cst_36, cst_37, cst_38, cst_39, cst_40, cst_41, cst_42, loadM, storeM, TL_glob, TL_fn, TL_meth, TL_lst, TL_defs, globTab, fnTab, Option.isSome, binM_add, binM_sub, binM_mod, binM_mul, binM_adds, cmp_eqs, cmp_eqi, cmp_eqb, cmp_nes, cmp_nei, cmp_lt, cmp_le, cmp_gt, cmp_ge, cmp_ges, cmp_les, cmp_ins, cmp_int, cmp_is, cmp_isn, cmp_eq0s, cmp_eqs0, strsOf, aug_add, aug_sub, aug_adds, Option.map_some, Option.map_none, Option.bind_some, List.nil_append, List.append_nil, List.cons_append, List.any_cons, List.any_nil, List.length_cons, List.length_nil, Bool.not_true, Bool.not_false, Bool.true_and, Bool.and_true, Bool.false_and, Bool.and_false, Bool.or_false, Bool.false_or, Bool.true_or, Bool.or_true, truth_none, truth_bool, truth_int, truth_str, sub_str, sub_tup, sub_lst, sub_glo, sub_dict, slice_str, sliceS_, slice_obj, sliceO_, word_0, word_1, word_2, word_01, word_02, word_m1, word_14, ne_eq, Int.reduceEq, not_false_eq_true, intOpt_none, intOpt_int, items_tup, truth_obj, truthO_l, slice_glo, sliceG_, sliceL_map, getMeth_obj, getMM_append, getMM_pop, getMM_clear, getMM_fld, sl_0n, get_mid, set_mid, get_mid2, set_mid2, plainPs, List.isEmpty_nil, cellAt_app0, cellAt_appk, cellAt_succ, cellAt_zero, isCell_app0, isCell_appk, isCell_succ, isCell_zero, set_app0, set_appk, set_succ, set_zero, get_app0, get_appk, List.getElem?_cons_zero, List.getElem?_cons_succ, setAttr_, setA_, getAttr_, getA_, fieldM_, putS_nil, putS_cons, fi_0, fi_1, fi_2, fi_3, fi_4, fi_5, fi_6, fi_7, fi_8, fi_9, fi_10, fi_11, fi_12, fi_13, hm_glo, hm_str, hm_bool, hm_none, hm_obj, hm_clo, truth_frac, truth_clo, Option.isNone_some, Option.isNone_none, Option.all_some, binM_addo, addO_, listAt_end1, bm10, negM_, lb0, lb1, lb2, lb3, lb4, lb5, lb6, lb7, lb8, Nat.reduceAdd, Nat.zero_add, bi_len_s, bi_len_t, bi_len_o, bi_isi_bool, bi_isi_str, bi_isi_list, bi_isi_dict, bi_all_, bi_ord_, bi_app_, bi_pop_, bi_strip_, bi_rstrip_, bi_join_, bi_index_, bi_end_, bi_groups_, ty_range, ty_int, meth_strip, meth_rstrip, meth_join, meth_index, meth_match, meth_end, meth_groups, listAt_end, get_end, String.reduceBEq, nk_lc, nk_fc, nk_gc, nk_ll, nk_fl, nk_gl, nk_sl, sk_f, free_nil, free_free, free_local, free_glob, free_cell, iter_str, iter_rng, iter_o, iterO_l, iterO_d, List.all_cons, List.all_nil, items_obj, slice_ch, slice_ch1, slice_ch0, slice_ch01, sl_from, sl_from1, sl_1, sl_to, sl_to1, sl_two, index_n, index_0, index_1, cellAt_of, Int.reduceBNe, Int.reduceBEq, Nat.reduceBEq, Nat.reduceBNe, true_and, and_true, and_self, *])
local macro_rules | `(tactic| walk_at "B") => `(tactic| simp only [stAt, PySem.Challenge.pw_ew0010_02, ↓List.getElem?_cons_succ, ↓List.getElem?_cons_zero, Option.getD_some, fnI, kidAt, ↓dE_cst, ↓dE_name, ↓dE_bop, ↓dE_bin, ↓dE_un, ↓dE_ife, ↓dE_lst, ↓dE_tpl, ↓dE_dict, ↓dE_comp, ↓dE_cmp, ↓dE_callm, ↓dE_calln, ↓dE_attr, ↓dE_slice, ↓dE_subc, ↓dE_subn, ↓dE_subb, ↓dE_subu, ↓dE_subs, ↓dE_subcl, ↓dL_nil, ↓dL_cons, ↓dO_none, ↓dO_some, ↓dK_nil, ↓dK_cons, ↓dS_expr, ↓dS_ret, ↓dS_asg, ↓dS_aug, ↓dS_ife, ↓dS_whl, ↓dS_for, ↓dS_try, ↓dS_brk, ↓dS_cont, ↓dS_pass, ↓dS_def, ↓dSs_nil, ↓dSs_cons])
local macro_rules | `(tactic| walk_at "A") => `(tactic| simp only [↓KB_, ↓KBin1_, ↓KBin2_, ↓KUn_, ↓KNot_, ↓KTru_, ↓KIfV_t, ↓KIfV_f, ↓KIfT_t, ↓KIfT_f, ↓KLst_, ↓KTpl_, ↓KTplA_, ↓KCmp1_, ↓KCmp2_, ↓KBool_, ↓KMeth1_, ↓KMeth2_, ↓KCall1_, ↓KArgs_, ↓KKws_, ↓KAttr_, ↓KAttrA_, ↓KLocA_, ↓KSub1_, ↓KSub2_, ↓KSubA1_, ↓KSubA2_, ↓KSl1_, ↓KSl2_, ↓KSl3_, ↓KL1_, ↓KL2_, ↓KK1_, ↓KK2_,
  ↓KTl_At, ↓KTl_Af, ↓KTl_Ot, ↓KTl_Of, ↓KTl_nil, ↓KBl_, ↓KBl2_At, ↓KBl2_Af, ↓KBl2_Ot, ↓KBl2_Of, ↓KAl_, ↓KComp1_, ↓KComp2_, ↓KComp3_, ↓v_cst, ↓v_name, ↓a_name, ↓v_bop, ↓t_bop, ↓v_bin, ↓t_not, ↓v_neg, ↓v_ife, ↓t_ife, ↓v_lst, ↓v_tpl, ↓a_tpl, ↓v_dict0, ↓v_comp, ↓v_cmp, ↓t_cmp, ↓v_callmn, ↓v_callmc, ↓v_callmsl, ↓v_calln, ↓v_attrn, ↓a_attr, ↓v_sub, ↓a_sub, ↓v_slice, ↓l_nil, ↓k_nil, ↓tl_nilA, ↓tl_nilO, ↓al_nil, ↓l_cons, ↓tl_cons, ↓bl_last, ↓bl_cons, ↓al_cons, ↓k_kw, ↓o_no, ↓o_cst, ↓o_name, ↓o_bop, ↓o_bin, ↓o_neg, ↓o_ife, ↓o_lst, ↓o_tpl, ↓o_dict0, ↓o_comp, ↓o_cmp, ↓o_callm, ↓o_call, ↓o_attr, ↓o_sub, ↓o_slice, ↓t_cst, ↓t_name, ↓t_bin, ↓t_callm, ↓t_call, ↓t_attr, ↓t_sub, ↓t_slice,
  ↓KSeq_next, ↓KSeq_ret, ↓KSeq_brk, ↓KSeq_cont, ↓KExpr_, ↓KRet_, ↓KAsg1_, ↓KAsg2_, ↓KAug1_, ↓KAug2_, ↓KAug3_, ↓KIf_t, ↓KIf_f, ↓KFor1_, ↓KFor2_, ↓KTry1_next, ↓KTry1_ret, ↓KTry1_brk, ↓KTry1_cont, ↓KTry2_nil, ↓KTry2_cons, ↓KTry3_, ↓KBody_ret, ↓KBody_next, ↓KCallR_, ↓KCallI_, ↓KComp4_, ↓KDef_, ↓s_nil, ↓s_cons, ↓s_exprc, ↓s_exprm, ↓s_ret, ↓s_asgn, ↓s_asg, ↓s_aug, ↓s_ife, ↓s_whl, ↓s_for, ↓s_try, ↓s_brk, ↓s_cont, ↓s_pass, ↓s_def, ↓W_callbi, ↓W_callty, ↓W_callfn, ↓W_callclo, ↓W_callcls, ↓KTurn_next, ↓KTurn_cont, ↓KTurn_brk, ↓KTurn_ret, ↓KWT_t, ↓KWT_f, ↓KFA_, ↓KForA_, ↓KForE_next, ↓KForE_cont, ↓KForE_brk, ↓KForE_ret, ↓KCE_, ↓KCI_t, ↓KCI_f, ↓KCA_,
  ↓optW_some, ofs_beq, String.reduceBEq, String.reduceBNe, ofs_bne, ↓reduceIte, Bool.false_eq_true, lookup_putS, List.lookup_cons, List.lookup_nil, isCompE, isTpl, isAttr, isSuper, callmOk, lenE_nil, lenE_cons, lenE_kw, Nat.reduceLT, decide_true, decide_false, dbg, cdict, constM_none, constM_bool, constM_int, cst_0, cst_1, cst_2, cst_3, cst_4, cst_5, cst_6, cst_7, cst_8, cst_9, cst_10, cst_11, cst_12, cst_13, cst_14, cst_15, cst_16, cst_17, cst_18, cst_19, cst_20, cst_21, cst_22, cst_23, cst_24, cst_25, cst_26, cst_27, cst_28, cst_29, cst_30, cst_31, cst_32, cst_33, cst_34, cst_35, cst_36, cst_37, cst_38, cst_39, cst_40, cst_41, cst_42, loadM, storeM, TL_glob, TL_fn, TL_meth, TL_lst, globTab, fnTab, Option.isSome, binM_add, binM_sub, binM_mod, binM_mul, binM_adds, cmp_eqs, cmp_eqi, cmp_eqb, cmp_nes, cmp_nei, cmp_lt, cmp_le, cmp_gt, cmp_ge, cmp_ges, cmp_les, cmp_ins, cmp_int, cmp_is, cmp_isn, cmp_eq0s, cmp_eqs0, strsOf, aug_add, aug_sub, aug_adds, Option.map_some, Option.map_none, Option.bind_some, List.nil_append, List.append_nil, List.cons_append, List.any_cons, List.any_nil, List.length_cons, List.length_nil, Bool.not_true, Bool.not_false, Bool.true_and, Bool.and_true, Bool.false_and, Bool.and_false, Bool.or_false, Bool.false_or, Bool.true_or, Bool.or_true, truth_none, truth_bool, truth_int, truth_str, sub_str, sub_tup, sub_lst, sub_glo, sub_dict, slice_str, sliceS_, slice_obj, sliceO_, word_0, word_1, word_2, word_01, word_02, word_m1, word_14, ne_eq, Int.reduceEq, not_false_eq_true, intOpt_none, intOpt_int, items_tup, binM_addo, addO_, listAt_end1, bm10, negM_, lb0, lb1, lb2, lb3, lb4, lb5, lb6, lb7, lb8, Nat.reduceAdd, Nat.zero_add, bi_len_s, bi_len_t, bi_len_o, bi_isi_bool, bi_isi_str, bi_isi_list, bi_isi_dict, bi_all_, bi_ord_, bi_app_, bi_pop_, bi_strip_, bi_rstrip_, bi_join_, bi_index_, bi_end_, bi_groups_, ty_range, ty_int, meth_strip, meth_rstrip, meth_join, meth_index, meth_match, meth_end, meth_groups, listAt_end, get_end, isInst, String.reduceBEq, nk_lc, nk_fc, nk_gc, nk_ll, nk_fl, nk_gl, nk_sl, sk_f, free_nil, free_free, free_local, free_glob, free_cell, iter_str, iter_rng, iter_o, iterO_l, iterO_d, List.all_cons, List.all_nil, items_obj, slice_ch, slice_ch1, slice_ch0, slice_ch01, sl_from, sl_from1, sl_1, sl_to, sl_to1, sl_two, index_n, index_0, index_1, cellAt_of, Int.reduceBNe, Int.reduceBEq, Nat.reduceBEq, Nat.reduceBNe, true_and, and_true, and_self, *])
def otxt : Option (List Nat) → V
  | none => .none
  | some l => .str l
structure NumIs (s : List Nat) (sp : List (Option (Nat × Nat))) (e : Nat) (it : List Nat) (fr ex : Option (List Nat)) (i : Int) : Prop where
  sh : ∃ p q, sp = some (p, e) :: q ∧ q.map (spanTxt s) = [.str it, otxt fr, otxt ex]
  int : intOf it = some i
  nfr : fr ≠ some []
  nex : ex ≠ some []
  len : it.length + (fr.getD []).length + (ex.getD []).length < 1000
  ek : e ≤ s.length
def numR (it : List Nat) (fr ex : Option (List Nat)) (i : Int) : R := if fr.isSome || ex.isSome then .frac (it ++ fr.getD [] ++ ex.getD []) else .int i
def isEol (s : List Nat) (k : Nat) : Bool := ch s k == [13] || (ch s k == [10] || ch s k == [])
def stopAt (s : List Nat) (k : Nat) : Bool := isEol s k || (ch s k == [44] || (ch s k == [125] || (ch s k == [93] || (ch s k == [35] || (ch s k == [47] && (ch s (k + 1) == [47] || ch s (k + 1) == [42]))))))
/-- what is told at a place: N is what the number's pattern tells -/
def hitAt (s : List Nat) (c : Nat) (N : Option (Nat × R)) (k : Nat) : Option R :=
  if stopAt s k = true then
    if ([c] == [110] && stripL (s.take k) == [110, 117, 108, 108]) = true then some .none
    else if ([c] == [116] && stripL (s.take k) == [116, 114, 117, 101]) = true then some (.bool true)
    else if ([c] == [102] && stripL (s.take k) == [102, 97, 108, 115, 101]) = true then some (.bool false)
    else match (if ([c] == [45] || (decide (48 ≤ c) && decide (c ≤ 57))) = true then N else none) with
      | some (e, r) => if e = k then some r else if isEol s k = true then some (.str (stripL (s.take k))) else none
      | none => if isEol s k = true then some (.str (stripL (s.take k))) else none
  else none
theorem lt_one {a b : Nat} : decide ([a] < [b]) = decide (a < b) := by
  by_cases h : a < b
  · rw [decide_eq_true h, decide_eq_true]; exact List.Lex.rel h
  · rw [decide_eq_false h, decide_eq_false]
    intro q; cases q with
    | rel q => exact h q
    | cons q => cases q
theorem bi_num {l : List Nat} {H : Hp} (ha : ascii l = true) : biM "re.Pattern.match" [.glo "NUMBER_RE", .str l, .int 0] H = some (match numT l.toArray 0 with | some sp => (.mat l sp, H) | none => (.none, H)) := by
  show (if 0 ≤ (0 : Int) ∧ (0 : Int) ≤ l.length ∧ ascii (l.drop (0 : Int).toNat) = true then _ else none) = _
  rw [if_pos ⟨by omega, by omega, by simpa using ha⟩]
  rfl
theorem KBl2_orb {T : Tp} {F : Fc} {loc : Loc} {H : Hp} {r : E} {b c : Bool} {Q : V × Hp → Prop} (h : ∀ P : V × Hp → Prop, P (.bool c, H) → W T ((den T F r loc).bl .Or H) P) (hq : Q (.bool (b || c), H)) : KBl2 T F loc .Or r (.bool b) H Q b := by
  cases b with
  | true => exact hq
  | false => exact h Q hq
section
variable {ns : List Int} {d : Nat} {H : Hp} {Q : Out → Prop}
theorem scantf_ {s : List Nat} {i : Nat} {fs : List (Str × V)} {c n : Nat} {r : R} {N : Option (Nat × R)} (hi : H[i]? = some (.inst "HjsonDecoder" fs)) (fpi : lk fs "parse_int" = some (.glo "whole")) (fpf : lk fs "parse_float" = some (.glo "_law_fraction"))
   (hs : s.length < 1000) (ha : ascii s = true) (hc : s[0]? = some c) (hc0 : subIn [c] [32, 9, 10, 13] = false) (hc1 : c ≠ 35) (hc2 : c ≠ 47) (hc3 : subIn [c] [123, 125, 91, 93, 44, 58] = false)
   (hN : (N = none ∧ numT s.toArray 0 = none) ∨ ∃ sp e it fr ex i, numT s.toArray 0 = some sp ∧ NumIs s sp e it fr ex i ∧ N = some (e, numR it fr ex i))
   (hn : n ≤ s.length) (hh : hitAt s c N n = some r) (hk : ∀ k, k < n → hitAt s c N k = none) (hd : d < 120)
   (hq : ∀ v X, RV (H ++ X) r v → Q ⟨.ret (.tup [v, .int n]), [], H ++ X⟩) :
    WT (TL ns) (.call (.glo "scantfnns") [.obj i, .str s, .int 0] [] d H) Q := by
  have hd' : d < 150 := by omega
  rw [WT_fnP (i := fnI "scantfnns" (stAt 17) [] false) rfl (b := [("context", .obj i), ("s", .str s), ("end", .int 0)]) rfl hd' rfl]
  walk_at "B"
  walk_at "W"
  refine getNext_now hc hc0 hc1 hc2 (by omega) ?_
  walk_at "W"
  refine WT_whl (fun y => s.length + 1 - y) (fun y loc' H' => lk loc' "s" = some (.str s) ∧ lk loc' "end" = some (.int (y : Nat)) ∧ lk loc' "begin" = some (.int 0) ∧ lk loc' "chf" = some (.str [c]) ∧ lk loc' "context" = some (.obj i) ∧ H' = H ∧ y ≤ n) 0 ⟨?_, ?_, ?_, ?_, ?_, rfl, by omega⟩ ?_
  · walk_at "W"
  · walk_at "W"; rfl
  · walk_at "W"
  · walk_at "W"
  · walk_at "W"
  rintro y loc H' ⟨g1, g2, g3, g4, g5, rfl, gy⟩
  have w1 : wordI (y : Int) = true := wordN (by omega)
  have w2 : wordI ((y : Int) + 1) = true := wordZ (by omega) (by omega)
  have w3 : wordI ((y : Int) + 2) = true := wordZ (by omega) (by omega)
  walk_at "W"
  refine KBl2_orb (c := (ch s y == [10] || ch s y == [])) (fun P hP => ?_) ?_
  · walk_at "W"
    refine KBl2_orb (c := (ch s y == [])) (fun P hP => ?_) ?_
    · walk_at "W"
    · exact hP
  change KAsg1 _ _ _ _ _ (V.bool (isEol s y), _)
  walk_at "W"
  refine KTl_or (c := (ch s y == [44] || (ch s y == [125] || (ch s y == [93] || (ch s y == [35] || (ch s y == [47] && (ch s (y + 1) == [47] || ch s (y + 1) == [42]))))))) (fun P hP => ?_) ?_
  · walk_at "W"
    refine KTl_or (c := (ch s y == [125] || (ch s y == [93] || (ch s y == [35] || (ch s y == [47] && (ch s (y + 1) == [47] || ch s (y + 1) == [42])))))) (fun P hP => ?_) hP
    walk_at "W"
    refine KTl_or (c := (ch s y == [93] || (ch s y == [35] || (ch s y == [47] && (ch s (y + 1) == [47] || ch s (y + 1) == [42]))))) (fun P hP => ?_) hP
    walk_at "W"
    refine KTl_or (c := (ch s y == [35] || (ch s y == [47] && (ch s (y + 1) == [47] || ch s (y + 1) == [42])))) (fun P hP => ?_) hP
    walk_at "W"
    refine KTl_or (c := (ch s y == [47] && (ch s (y + 1) == [47] || ch s (y + 1) == [42]))) (fun P hP => ?_) hP
    walk_at "W"
    refine KTl_and (c := (ch s (y + 1) == [47] || ch s (y + 1) == [42])) (fun P hP => ?_) ?_
    · walk_at "W"
      refine KTl_or (c := (ch s (y + 1) == [42])) (fun P hP => ?_) ?_
      · walk_at "W"
      · walk_at "W"
    · walk_at "W"
  change KIf _ _ _ _ _ _ (stopAt s y, _)
  cases hst : stopAt s y with
  | false =>
    walk_at "W"
    have hyn : y ≠ n := fun e => by
      subst e; unfold hitAt at hh; rw [hst] at hh; cases hh
    refine ⟨y + 1, by omega, ?_, by omega⟩
    rfl
  | true =>
    have hy : ∀ r', hitAt s c N y = some r' → y = n ∧ r = r' := fun r' h => by
      by_cases hlt : y < n
      · rw [hk y hlt] at h; cases h
      · have : y = n := by omega
        subst this
        rw [hh] at h; cases h; exact ⟨rfl, rfl⟩
    have hat : ascii (s.take y) = true := ascii_take ha
    walk_at "W"
    refine KTl_and (c := stripL (s.take y) == [110, 117, 108, 108]) (fun P hP => by walk_at "W") ?_
    cases c1 : ([c] == [110] && stripL (s.take y) == [110, 117, 108, 108]) with
    | true =>
      obtain ⟨rfl, rfl⟩ := hy .none (by unfold hitAt; rw [if_pos hst, if_pos c1])
      walk_at "W"
      exact (by simpa using hq .none [] rfl)
    | false =>
    walk_at "W"
    refine KTl_and (c := stripL (s.take y) == [116, 114, 117, 101]) (fun P hP => by walk_at "W") ?_
    cases c2 : ([c] == [116] && stripL (s.take y) == [116, 114, 117, 101]) with
    | true =>
      obtain ⟨rfl, rfl⟩ := hy (.bool true) (by unfold hitAt; rw [if_pos hst, if_neg (by rw [c1]; exact Bool.false_ne_true), if_pos c2])
      walk_at "W"
      exact (by simpa using hq (.bool true) [] rfl)
    | false =>
    walk_at "W"
    refine KTl_and (c := stripL (s.take y) == [102, 97, 108, 115, 101]) (fun P hP => by walk_at "W") ?_
    cases c3 : ([c] == [102] && stripL (s.take y) == [102, 97, 108, 115, 101]) with
    | true =>
      obtain ⟨rfl, rfl⟩ := hy (.bool false) (by unfold hitAt; rw [if_pos hst, if_neg (by rw [c1]; exact Bool.false_ne_true), if_neg (by rw [c2]; exact Bool.false_ne_true), if_pos c3])
      walk_at "W"
      exact (by simpa using hq (.bool false) [] rfl)
    | false =>
    walk_at "W"
    have k1 : (!decide ([c] < [48])) = decide (48 ≤ c) := by
      rw [lt_one]; by_cases h : c < 48
      · rw [decide_eq_true h, decide_eq_false (by omega)]; rfl
      · rw [decide_eq_false h, decide_eq_true (by omega)]; rfl
    have k2 : (!decide ([57] < [c])) = decide (c ≤ 57) := by
      rw [lt_one]; by_cases h : 57 < c
      · rw [decide_eq_true h, decide_eq_false (by omega)]; rfl
      · rw [decide_eq_false h, decide_eq_true (by omega)]; rfl
    have hbase : hitAt s c N y = match (if ([c] == [45] || (decide (48 ≤ c) && decide (c ≤ 57))) = true then N else none) with
      | some (e, r) => if e = y then some r else if isEol s y = true then some (.str (stripL (s.take y))) else none
      | none => if isEol s y = true then some (.str (stripL (s.take y))) else none := by
      unfold hitAt; rw [if_pos hst, if_neg (by rw [c1]; exact Bool.false_ne_true), if_neg (by rw [c2]; exact Bool.false_ne_true), if_neg (by rw [c3]; exact Bool.false_ne_true)]
    have hyr : y = n → hitAt s c N y = some r := fun e => by subst e; exact hh
    clear hh hk
    refine KTl_or (c := (decide (48 ≤ c) && decide (c ≤ 57))) (fun P hP => ?_) ?_
    · walk_at "W"
      refine KTl_and (c := decide (c ≤ 57)) (fun P hP => ?_) ?_
      · walk_at "W"
      · walk_at "W"
    cases c4 : ([c] == [45] || (decide (48 ≤ c) && decide (c ≤ 57))) with
    | false =>
      rw [c4] at hbase
      simp only [Bool.false_eq_true, if_false] at hbase
      walk_at "W"
      cases he : isEol s y with
      | false =>
        have hyn : y ≠ n := fun e => by have := hyr e; rw [hbase, he] at this; cases this
        walk_at "W"
        refine ⟨y + 1, by omega, ?_, by omega⟩
        rfl
      | true =>
        rw [he] at hbase
        obtain ⟨rfl, rfl⟩ := hy (.str (stripL (s.take y))) hbase
        walk_at "W"
        exact (by simpa using hq (.str (stripL (s.take y))) [] rfl)
    | true =>
      rw [c4] at hbase
      simp only [if_true] at hbase
      have hbn := bi_num (l := s) (H := H') ha
      rcases hN with ⟨rfl, hN⟩ | ⟨sp, e, it, fr, ex, i0, hN, hS, rfl⟩
      · rw [hN] at hbn
        walk_at "W"
        cases he : isEol s y with
        | false =>
          have hyn : y ≠ n := fun e => by have := hyr e; rw [hbase, he] at this; cases this
          walk_at "W"
          refine ⟨y + 1, by omega, ?_, by omega⟩
          rfl
        | true =>
          rw [he] at hbase
          obtain ⟨rfl, rfl⟩ := hy (.str (stripL (s.take y))) hbase
          walk_at "W"
          exact (by simpa using hq (.str (stripL (s.take y))) [] rfl)
      · rw [hN] at hbn
        obtain ⟨⟨p, q, rfl, hgr⟩, hint, hfr, hex, hlen, hek⟩ := hS
        walk_at "W"
        by_cases hey : e = y
        · subst hey
          have d1 : decide ((e : Int) = (e : Int)) = true := decide_eq_true rfl
          obtain ⟨rfl, rfl⟩ := hy (numR it fr ex i0) (by simpa using hbase)
          have hnil : ∀ l : List Nat, (some l ≠ some []) → (l != []) = true := fun l h => by cases l with
            | nil => exact absurd rfl h
            | cons a t => rfl
          cases fr with
          | none =>
            cases ex with
            | none =>
              simp only [otxt] at hgr
              walk_at "W"
              refine whole_ hint (by omega) ?_
              walk_at "W"
              exact (by simpa using hq (.int i0) [] rfl)
            | some x =>
              have hx := hnil x hex
              simp only [otxt] at hgr
              simp only [Option.getD_none, Option.getD_some, List.length_nil] at hlen
              have l1 : it.length + 0 ≤ big := by unfold big; omega
              have l2 : it.length + x.length ≤ big := by unfold big; omega
              walk_at "W"
              refine fraction_ (by omega) ?_
              walk_at "W"
              refine hq _ _ ⟨_, rfl, ?_⟩
              rw [listAt_end]
              simp [fracV]
          | some f =>
            have hf := hnil f hfr
            cases ex with
            | none =>
              simp only [otxt] at hgr
              simp only [Option.getD_none, Option.getD_some, List.length_nil] at hlen
              have l1 : it.length + f.length ≤ big := by unfold big; omega
              have l2 : (it ++ f).length + 0 ≤ big := by rw [List.length_append]; unfold big; omega
              walk_at "W"
              refine fraction_ (by omega) ?_
              walk_at "W"
              refine hq _ _ ⟨_, rfl, ?_⟩
              rw [listAt_end]
              simp [fracV]
            | some x =>
              have hx := hnil x hex
              simp only [otxt] at hgr
              simp only [Option.getD_none, Option.getD_some, List.length_nil] at hlen
              have l1 : it.length + f.length ≤ big := by unfold big; omega
              have l2 : (it ++ f).length + x.length ≤ big := by rw [List.length_append]; unfold big; omega
              walk_at "W"
              refine fraction_ (by omega) ?_
              walk_at "W"
              refine hq _ _ ⟨_, rfl, ?_⟩
              rw [listAt_end]
              simp [fracV]
        · have d1 : decide ((e : Int) = (y : Int)) = false := decide_eq_false (by omega)
          dsimp only at hbase
          rw [if_neg hey] at hbase
          walk_at "W"
          cases he : isEol s y with
          | false =>
            have hyn : y ≠ n := fun e => by have := hyr e; rw [hbase, he] at this; cases this
            walk_at "W"
            refine ⟨y + 1, by omega, ?_, by omega⟩
            rfl
          | true =>
            rw [he] at hbase
            obtain ⟨rfl, rfl⟩ := hy (.str (stripL (s.take y))) hbase
            walk_at "W"
            exact (by simpa using hq (.str (stripL (s.take y))) [] rfl)
end

end Mine.R

end
section
open PySem
set_option autoImplicit false
namespace Mine.R
/-! ## numbers: what the pattern takes, list by list -/
def sgL (l : List Nat) : List Nat := match l with
  | [] => []
  | c :: _ => if c = 45 then [45] else []
def lenO (l : List Nat) : Option Nat := match l with
  | [] => none
  | _ :: _ => some l.length
def consIf (c : Nat) (l : List Nat) : List Nat := match l with
  | [] => []
  | _ :: _ => c :: l
theorem lenO_getD {l : List Nat} : (lenO l).getD 0 = l.length := by cases l <;> rfl
theorem lenO_consIf {c : Nat} {l : List Nat} : lenO (consIf c l) = if l.length = 0 then none else some (1 + l.length) := by
  cases l with
  | nil => rfl
  | cons a r => rw [if_neg (by simp)]; unfold consIf lenO; simp; omega
def natL (l : List Nat) : Option (List Nat) := match l with
  | [] => none
  | c :: r => if c = 48 then some [48] else if (49 ≤ c && c ≤ 57) = true then some (c :: r.takeWhile isDig) else none
def frL (l : List Nat) : List Nat := match l with
  | [] => []
  | c :: r => if c = 46 then consIf c (r.takeWhile isDig) else []
def pmL (l : List Nat) : List Nat := match l with
  | [] => []
  | c :: _ => if (c == 45 || c == 43) = true then [c] else []
def exL (l : List Nat) : List Nat := match l with
  | [] => []
  | c :: r => if isE c = true then (match (r.drop (pmL r).length).takeWhile isDig with | [] => [] | d :: ds => c :: (pmL r ++ d :: ds)) else []
structure NP where
  it : List Nat
  f : List Nat
  x : List Nat
  bl : List Nat
def numL (l : List Nat) : Option NP := (natL (l.drop (sgL l).length)).map fun nt =>
  let it := sgL l ++ nt
  let l1 := l.drop it.length
  let f := frL l1
  let l2 := l1.drop f.length
  let x := exL l2
  ⟨it, f, x, (l2.drop x.length).takeWhile isBl⟩

theorem cntA_eq {P : Nat → Bool} {l : List Nat} : ∀ (n p : Nat), l.length - p = n → cntA P l.toArray n p = ((l.drop p).takeWhile P).length := by
  intro n
  induction n with
  | zero => intro p h; rw [List.drop_eq_nil_of_le (by omega)]; rfl
  | succ n ih =>
    intro p h
    have hp : p < l.length := by omega
    rw [List.drop_eq_getElem_cons hp, List.takeWhile_cons]
    have e : l.toArray.getD p 0 = l[p] := by simp [Array.getD, hp]
    show (if P (l.toArray.getD p 0) = true then _ else _) = _
    rw [e, ih (p + 1) (by omega)]
    cases P l[p] <;> simp
theorem cntA_one {P : Nat → Bool} {l : List Nat} {p : Nat} : cntA P l.toArray (min 1 (l.length - p)) p = match l.drop p with
    | [] => 0
    | c :: _ => if P c then 1 else 0 := by
  by_cases hp : p < l.length
  · rw [List.drop_eq_getElem_cons hp]
    have : min 1 (l.length - p) = 1 := by omega
    rw [this]
    have e : l.toArray.getD p 0 = l[p] := by simp [Array.getD, hp]
    show (if P (l.toArray.getD p 0) = true then 0 + 1 else 0) = _
    rw [e]
  · rw [List.drop_eq_nil_of_le (by omega)]
    have : min 1 (l.length - p) = 0 := by omega
    rw [this]; rfl
theorem sgnT_eq {l : List Nat} {p : Nat} : sgnT l.toArray p = (sgL (l.drop p)).length := by
  unfold sgnT
  rw [List.size_toArray, cntA_one]
  unfold sgL
  cases l.drop p with
  | nil => rfl
  | cons c r =>
    dsimp only
    by_cases h : c = 45
    · subst h; rfl
    · rw [if_neg (by simpa using h), if_neg h]; rfl
theorem getD_arr {l : List Nat} {p : Nat} {c : Nat} {r : List Nat} (h : l.drop p = c :: r) : p < l.toArray.size ∧ l.toArray.getD p 0 = c ∧ l.drop (p + 1) = r := by
  have hp : p < l.length := by
    refine Nat.lt_of_not_le fun hn => ?_
    rw [List.drop_eq_nil_of_le hn] at h; cases h
  rw [List.drop_eq_getElem_cons hp] at h
  obtain ⟨h1, h2⟩ := List.cons.inj h
  exact ⟨by simpa using hp, by rw [← h1]; simp [Array.getD, hp], h2⟩
theorem no_arr {l : List Nat} {p : Nat} (h : l.drop p = []) : ¬ p < l.toArray.size := by
  have := List.drop_eq_nil_iff.mp h
  rw [List.size_toArray]; omega
theorem natT_eq {l : List Nat} {p : Nat} : natT l.toArray p = (natL (l.drop p)).map List.length := by
  unfold natT natL
  cases h : l.drop p with
  | nil =>
    have hn := no_arr h
    rw [if_neg (fun q => hn q.1), if_neg (fun q => hn q.1)]; rfl
  | cons c r =>
    obtain ⟨h1, h2, h3⟩ := getD_arr h
    rw [h2]
    by_cases e1 : c = 48
    · rw [if_pos ⟨h1, e1⟩]; dsimp only; rw [if_pos e1]; rfl
    · rw [if_neg (fun q => e1 q.2)]; dsimp only; rw [if_neg e1]
      by_cases e2 : (49 ≤ c && c ≤ 57) = true
      · rw [if_pos ⟨h1, e2⟩, if_pos e2, List.size_toArray, cntA_eq _ _ rfl, h3]
        simp; omega
      · rw [if_neg (fun q => e2 q.2), if_neg e2]; rfl
theorem fracT_eq {l : List Nat} {p : Nat} : fracT l.toArray p = lenO (frL (l.drop p)) := by
  unfold fracT frL
  cases h : l.drop p with
  | nil =>
    have hn := no_arr h
    rw [if_neg (fun q => hn q.1)]; rfl
  | cons c r =>
    obtain ⟨h1, h2, h3⟩ := getD_arr h
    rw [h2, List.size_toArray, cntA_eq _ _ rfl, h3]
    dsimp only
    by_cases e1 : c = 46
    · rw [if_pos ⟨h1, e1⟩, if_pos e1, lenO_consIf]
    · rw [if_neg (fun q => e1 q.2), if_neg e1]; rfl
theorem expS_eq {l : List Nat} {p : Nat} : expS l.toArray p = (pmL (l.drop p)).length := by
  unfold expS
  rw [List.size_toArray, cntA_one]
  unfold pmL
  cases l.drop p with
  | nil => rfl
  | cons c r =>
    dsimp only
    cases (c == 45 || c == 43) <;> rfl
theorem expT_eq {l : List Nat} {p : Nat} : expT l.toArray p = lenO (exL (l.drop p)) := by
  unfold expT exL
  cases h : l.drop p with
  | nil =>
    have hn := no_arr h
    rw [if_neg (fun q => hn q.1)]; rfl
  | cons c r =>
    obtain ⟨h1, h2, h3⟩ := getD_arr h
    rw [h2, expS_eq, h3, List.size_toArray, cntA_eq _ _ rfl, ← List.drop_drop, h3]
    dsimp only
    have hE : (c == 101 || c == 69) = isE c := rfl
    rw [hE]
    by_cases e1 : isE c = true
    · rw [if_pos ⟨h1, e1⟩, if_pos e1]
      cases e2 : (r.drop (pmL r).length).takeWhile isDig with
      | nil => rfl
      | cons a t => rw [if_neg (by simp)]; unfold lenO; simp; omega
    · rw [if_neg (fun q => e1 q.2), if_neg e1]; rfl
theorem blT_eq {l : List Nat} {p : Nat} : blT l.toArray p = ((l.drop p).takeWhile isBl).length := by
  unfold blT; rw [List.size_toArray, cntA_eq _ _ rfl]
def spO (a : Nat) (l : List Nat) : Option (Nat × Nat) := (lenO l).map fun n => (a, a + n)
theorem numT_eq {l : List Nat} {c : Nat} {r : List Nat} (hl : l = c :: r) (hc : isBl c = false) : numT l.toArray 0 = (numL l).map fun n =>
    [some (0, n.it.length + n.f.length + n.x.length + n.bl.length), some (0, n.it.length), spO n.it.length n.f, spO (n.it.length + n.f.length) n.x] := by
  have h0 : blT l.toArray 0 = 0 := by rw [blT_eq, List.drop_zero, hl, List.takeWhile_cons, hc]; rfl
  unfold numT intT numL
  rw [h0, Nat.add_zero, sgnT_eq, natT_eq, Nat.zero_add, List.drop_zero]
  cases natL (l.drop (sgL l).length) with
  | none => rfl
  | some nt =>
    dsimp only [Option.map_some]
    have e1 : 0 + ((sgL l).length + nt.length) = (sgL l ++ nt).length := by rw [List.length_append]; omega
    rw [e1]
    generalize hi : sgL l ++ nt = it
    have e2 : (fracT l.toArray it.length).getD 0 = (frL (l.drop it.length)).length := by rw [fracT_eq, lenO_getD]
    have e3 : (expT l.toArray (it.length + (frL (l.drop it.length)).length)).getD 0 = (exL ((l.drop it.length).drop (frL (l.drop it.length)).length)).length := by
      rw [expT_eq, List.drop_drop, lenO_getD]
    rw [e2]
    unfold numFin
    rw [e2, e3, blT_eq, fracT_eq, expT_eq]
    simp only [List.drop_drop]
    rfl
end Mine.R

end
section
open PySem
set_option autoImplicit false
namespace Mine.R
def HD (P : Nat → Bool) (l : List Nat) : Prop := ∀ c r, l = c :: r → P c = false
theorem tw_app {P : Nat → Bool} {a b : List Nat} (ha : a.all P = true) (hb : HD P b) : (a ++ b).takeWhile P = a := by
  induction a with
  | nil =>
    cases b with
    | nil => rfl
    | cons c r => rw [List.nil_append, List.takeWhile_cons, hb c r rfl]; rfl
  | cons c r ih =>
    simp only [List.all_cons, Bool.and_eq_true] at ha
    rw [List.cons_append, List.takeWhile_cons, ha.1]
    simp [ih ha.2]
theorem tw_all {P : Nat → Bool} {l : List Nat} : (l.takeWhile P).all P = true := by
  induction l with
  | nil => rfl
  | cons c r ih =>
    rw [List.takeWhile_cons]
    cases h : P c with
    | true => simp [h, ih]
    | false => rfl
theorem tw_drop {P : Nat → Bool} {l : List Nat} : l = l.takeWhile P ++ l.drop (l.takeWhile P).length := by
  induction l with
  | nil => rfl
  | cons c r ih =>
    rw [List.takeWhile_cons]
    cases h : P c with
    | true => simp only [if_true, List.cons_append, List.length_cons, List.drop_succ_cons]; rw [← ih]
    | false => rfl
structure NtS (ds : List Nat) : Prop where
  ne : ds ≠ []
  dg : ds.all isDig = true
  z : ∀ r, ds = 48 :: r → r = []
inductive ItS : List Nat → Prop
  | pos {ds : List Nat} : NtS ds → ItS ds
  | neg {ds : List Nat} : NtS ds → ItS (45 :: ds)
inductive FrS : List Nat → Prop
  | nil : FrS []
  | some {ds : List Nat} : ds ≠ [] → ds.all isDig = true → FrS (46 :: ds)
inductive PmS : List Nat → Prop
  | nil : PmS []
  | plus : PmS [43]
  | minus : PmS [45]
inductive ExS : List Nat → Prop
  | nil : ExS []
  | some {c : Nat} {sg ds : List Nat} : isE c = true → PmS sg → ds ≠ [] → ds.all isDig = true → ExS (c :: (sg ++ ds))

theorem sgL_drop {l : List Nat} : l = sgL l ++ l.drop (sgL l).length := by
  unfold sgL
  cases l with
  | nil => rfl
  | cons c r => dsimp only; split <;> simp [*]
theorem dig_ne {c : Nat} (h : isDig c = true) : c ≠ 45 ∧ c ≠ 43 ∧ c ≠ 46 ∧ isE c = false ∧ isBl c = false := by
  unfold isDig at h
  simp only [Bool.and_eq_true, decide_eq_true_eq] at h
  refine ⟨by omega, by omega, by omega, ?_, ?_⟩
  · unfold isE; simp; omega
  · unfold isBl; simp; omega
theorem natL_shape {l nt : List Nat} (h : natL l = some nt) : l = nt ++ l.drop nt.length ∧ NtS nt := by
  unfold natL at h
  cases l with
  | nil => cases h
  | cons c r =>
    dsimp only at h
    split at h
    · rename_i e; cases h; subst e
      exact ⟨rfl, by simp, by decide, fun r hr => (List.cons.inj hr).2.symm⟩
    · rename_i e
      split at h
      · rename_i e2; cases h
        simp only [Bool.and_eq_true, decide_eq_true_eq] at e2
        refine ⟨?_, by simp, ?_, fun r hr => ?_⟩
        · simp only [List.cons_append, List.length_cons, List.drop_succ_cons]; rw [← tw_drop]
        · rw [List.all_cons, tw_all, Bool.and_true]; unfold isDig; simp; omega
        · have := (List.cons.inj hr).1; omega
      · cases h
theorem frL_shape {l : List Nat} : l = frL l ++ l.drop (frL l).length ∧ FrS (frL l) := by
  unfold frL
  cases l with
  | nil => exact ⟨rfl, .nil⟩
  | cons c r =>
    dsimp only
    split
    · rename_i e; subst e
      have h1 : r = _ := tw_drop (P := isDig) (l := r)
      have h2 := tw_all (P := isDig) (l := r)
      generalize r.takeWhile isDig = t at *
      cases t with
      | nil => exact ⟨rfl, .nil⟩
      | cons a t =>
        refine ⟨?_, .some (by simp) h2⟩
        show 46 :: r = 46 :: (a :: t) ++ (46 :: r).drop (46 :: a :: t).length
        rw [List.length_cons, List.drop_succ_cons, List.cons_append, ← h1]
    · exact ⟨rfl, .nil⟩
theorem pmL_shape {l : List Nat} : l = pmL l ++ l.drop (pmL l).length ∧ PmS (pmL l) := by
  unfold pmL
  cases l with
  | nil => exact ⟨rfl, .nil⟩
  | cons c r =>
    dsimp only
    split
    · rename_i e
      simp only [Bool.or_eq_true, beq_iff_eq] at e
      rcases e with rfl | rfl
      · exact ⟨rfl, .minus⟩
      · exact ⟨rfl, .plus⟩
    · exact ⟨rfl, .nil⟩
theorem exL_shape {l : List Nat} : l = exL l ++ l.drop (exL l).length ∧ ExS (exL l) := by
  unfold exL
  cases l with
  | nil => exact ⟨rfl, .nil⟩
  | cons c r =>
    dsimp only
    split
    · rename_i e
      have h0 := pmL_shape (l := r)
      have h1 := tw_drop (P := isDig) (l := r.drop (pmL r).length)
      have h2 := tw_all (P := isDig) (l := r.drop (pmL r).length)
      generalize (r.drop (pmL r).length).takeWhile isDig = t at *
      cases t with
      | nil => exact ⟨rfl, .nil⟩
      | cons a t =>
        refine ⟨?_, .some e h0.2 (by simp) h2⟩
        show c :: r = c :: (pmL r ++ a :: t) ++ (c :: r).drop (c :: (pmL r ++ a :: t)).length
        rw [List.length_cons, List.drop_succ_cons, List.cons_append, List.append_assoc, List.length_append, ← List.drop_drop, ← h1, ← h0.1]
    · exact ⟨rfl, .nil⟩
theorem numL_shape {l : List Nat} {n : NP} (h : numL l = some n) : (∃ rest, l = n.it ++ (n.f ++ (n.x ++ (n.bl ++ rest)))) ∧ ItS n.it ∧ FrS n.f ∧ ExS n.x ∧ n.bl.all isBl = true := by
  unfold numL at h
  obtain ⟨nt, h1, rfl⟩ := Option.map_eq_some_iff.mp h
  dsimp only
  obtain ⟨h2, h3⟩ := natL_shape h1
  have e1 : l = (sgL l ++ nt) ++ l.drop (sgL l ++ nt).length := by
    rw [List.append_assoc, List.length_append, ← List.drop_drop, ← h2]; exact sgL_drop
  have hit : ItS (sgL l ++ nt) := by
    unfold sgL
    cases l with
    | nil => exact .pos h3
    | cons c r =>
      dsimp only
      split
      · exact .neg h3
      · exact .pos h3
  generalize sgL l ++ nt = it at *
  obtain ⟨f1, f2⟩ := frL_shape (l := l.drop it.length)
  obtain ⟨x1, x2⟩ := exL_shape (l := (l.drop it.length).drop (frL (l.drop it.length)).length)
  refine ⟨⟨(((l.drop it.length).drop (frL (l.drop it.length)).length).drop (exL ((l.drop it.length).drop (frL (l.drop it.length)).length)).length).drop ((((l.drop it.length).drop (frL (l.drop it.length)).length).drop (exL ((l.drop it.length).drop (frL (l.drop it.length)).length)).length).takeWhile isBl).length, ?_⟩, hit, f2, x2, tw_all⟩
  rw [← tw_drop, ← x1, ← f1]; exact e1

theorem HD_app {P : Nat → Bool} {a b : List Nat} (ha : ∀ c r, a = c :: r → P c = false) (hb : HD P b) : HD P (a ++ b) := by
  intro c r e
  cases a with
  | nil => exact hb c r e
  | cons a t => cases e; exact ha _ _ rfl
/-- what cannot go on a number -/
def stopC (c : Nat) : Bool := !(isDig c || c == 46 || isE c || isBl c)
structure RS (rest : List Nat) : Prop where
  d : HD isDig rest
  p : ∀ c r, rest = c :: r → c ≠ 46
  e : HD isE rest
  b : HD isBl rest
theorem natL_app {nt t : List Nat} (h : NtS nt) (ht : HD isDig t) : natL (nt ++ t) = some nt := by
  cases nt with
  | nil => exact absurd rfl h.ne
  | cons c r =>
    have hd := h.dg
    simp only [List.all_cons, Bool.and_eq_true] at hd
    unfold natL
    rw [List.cons_append]
    dsimp only
    by_cases e : c = 48
    · subst e; rw [if_pos rfl, h.z r rfl]
    · rw [if_neg e, if_pos (by have := hd.1; unfold isDig at this; simp at this ⊢; omega), tw_app hd.2 ht]
theorem frL_app {f t : List Nat} (h : FrS f) (ht : HD isDig t) (h0 : f = [] → ∀ c r, t = c :: r → c ≠ 46) : frL (f ++ t) = f := by
  cases h with
  | nil =>
    unfold frL
    cases t with
    | nil => rfl
    | cons c r => dsimp only [List.nil_append]; rw [if_neg (h0 rfl c r rfl)]
  | some hn hd =>
    unfold frL
    rw [List.cons_append]
    dsimp only
    rw [if_pos rfl, tw_app hd ht]
    rename_i ds
    cases ds with
    | nil => exact absurd rfl hn
    | cons a r => rfl
theorem pmL_app {sg ds t : List Nat} (h : PmS sg) (hn : ds ≠ []) (hd : ds.all isDig = true) : pmL (sg ++ (ds ++ t)) = sg := by
  cases h with
  | nil =>
    cases ds with
    | nil => exact absurd rfl hn
    | cons c r =>
      simp only [List.all_cons, Bool.and_eq_true] at hd
      have := dig_ne hd.1
      unfold pmL
      simp [this.1, this.2.1]
  | plus => rfl
  | minus => rfl
theorem exL_app {x t : List Nat} (h : ExS x) (ht : HD isDig t) (h0 : x = [] → HD isE t) : exL (x ++ t) = x := by
  cases h with
  | nil =>
    unfold exL
    cases t with
    | nil => rfl
    | cons c r => dsimp only [List.nil_append]; rw [if_neg (by rw [h0 rfl c r rfl]; exact Bool.false_ne_true)]
  | some he hp hn hd =>
    rename_i c sg ds
    unfold exL
    rw [List.cons_append]
    dsimp only
    rw [if_pos he, List.append_assoc, pmL_app hp hn hd, List.drop_left, tw_app hd ht]
    cases ds with
    | nil => exact absurd rfl hn
    | cons a r => rfl
theorem numL_app {it f x bl rest : List Nat} (hi : ItS it) (hf : FrS f) (hx : ExS x) (hb : bl.all isBl = true) (hr : RS rest) :
    numL (it ++ (f ++ (x ++ (bl ++ rest)))) = some ⟨it, f, x, bl⟩ := by
  have blH : ∀ P : Nat → Bool, (∀ c, isBl c = true → P c = false) → HD P rest → HD P (bl ++ rest) := fun P h1 h2 => HD_app (fun c r e => by
    subst e; simp only [List.all_cons, Bool.and_eq_true] at hb; exact h1 c hb.1) h2
  have t1 : HD isDig (bl ++ rest) := blH _ (fun c h => by unfold isBl at h; unfold isDig; simp at h ⊢; omega) hr.d
  have t1e : HD isE (bl ++ rest) := blH _ (fun c h => by unfold isBl at h; unfold isE; simp at h ⊢; omega) hr.e
  have t1p : ∀ c r, bl ++ rest = c :: r → c ≠ 46 := fun c r e q => by
    have := blH (fun c => c == 46) (fun c h => by unfold isBl at h; simp at h ⊢; omega) (fun c r e => by simpa using hr.p c r e) c r e
    simp [q] at this
  have t2 : HD isDig (x ++ (bl ++ rest)) := HD_app (fun c r e => by
    cases hx with
    | nil => cases e
    | some he _ _ _ => cases e; unfold isE at he; unfold isDig; simp at he ⊢; omega) t1
  have t2p : ∀ c r, x ++ (bl ++ rest) = c :: r → c ≠ 46 := fun c r e => by
    cases hx with
    | nil => exact t1p c r e
    | some he _ _ _ => cases e; unfold isE at he; simp at he; omega
  have t3 : HD isDig (f ++ (x ++ (bl ++ rest))) := HD_app (fun c r e => by
    cases hf with
    | nil => cases e
    | some _ _ => cases e; decide) t2
  have hsg : ∃ sg nt, it = sg ++ nt ∧ NtS nt ∧ sgL (it ++ (f ++ (x ++ (bl ++ rest)))) = sg := by
    cases hi with
    | pos h =>
      refine ⟨[], it, rfl, h, ?_⟩
      cases it with
      | nil => exact absurd rfl h.ne
      | cons c r =>
        have hd := h.dg
        simp only [List.all_cons, Bool.and_eq_true] at hd
        unfold sgL
        simp [(dig_ne hd.1).1]
    | neg h => exact ⟨[45], _, rfl, h, rfl⟩
  obtain ⟨sg, nt, rfl, hnt, hs⟩ := hsg
  unfold numL
  rw [hs, List.append_assoc, List.drop_left, natL_app hnt t3]
  dsimp only [Option.map_some]
  rw [← List.append_assoc, List.drop_left, frL_app hf t2 (fun _ => t2p), List.drop_left, exL_app hx t1 (fun _ => t1e), List.drop_left, tw_app hb hr.b]
end Mine.R

end
section
open PySem
set_option autoImplicit false
namespace Mine.R
def nonE (l : List Nat) : Prop := ∀ c ∈ l, isE c = false
theorem eAt_nil : eAt [] = [] := rfl
theorem eAt_cons {c : Nat} {r : List Nat} : eAt (c :: r) = (if isE c = true then [0] else []) ++ (eAt r).map (· + 1) := by
  unfold eAt
  rw [List.length_cons, List.range_succ_eq_map, List.filter_cons, List.filter_map]
  have e1 : ((fun p => isE ((c :: r).getD p 0)) ∘ Nat.succ) = fun p => isE (r.getD p 0) := by funext p; rfl
  rw [e1]
  have e2 : (c :: r).getD 0 0 = c := rfl
  rw [e2]
  cases isE c <;> rfl
theorem eAt_nil_iff {b : List Nat} : eAt b = [] ↔ nonE b := by
  induction b with
  | nil => exact ⟨fun _ c h => by simp at h, fun _ => rfl⟩
  | cons c r ih =>
    rw [eAt_cons]
    constructor
    · intro h
      rw [List.append_eq_nil_iff, List.map_eq_nil_iff] at h
      intro x hx
      rcases List.mem_cons.mp hx with rfl | hx
      · cases hE : isE x with
        | false => rfl
        | true => rw [hE] at h; cases h.1
      · exact ih.mp h.2 x hx
    · intro h
      rw [if_neg (by rw [h c (by simp)]; exact Bool.false_ne_true), ih.mpr fun x hx => h x (by simp [hx])]; rfl
theorem eAt_one_iff {b : List Nat} {p : Nat} : eAt b = [p] ↔ ∃ pre c post, b = pre ++ c :: post ∧ pre.length = p ∧ nonE pre ∧ isE c = true ∧ nonE post := by
  induction b generalizing p with
  | nil =>
    constructor
    · intro h; cases h
    · rintro ⟨pre, c, post, h, _⟩; simp at h
  | cons c r ih =>
    rw [eAt_cons]
    cases hE : isE c with
    | true =>
      simp only [if_true, List.cons_append, List.nil_append, List.cons.injEq, List.map_eq_nil_iff]
      constructor
      · rintro ⟨rfl, h⟩
        exact ⟨[], c, r, rfl, rfl, fun x hx => by simp at hx, hE, eAt_nil_iff.mp h⟩
      · rintro ⟨pre, c', post, h1, h2, h3, h4, h5⟩
        cases pre with
        | nil => rw [List.nil_append] at h1; cases h1; exact ⟨h2, eAt_nil_iff.mpr h5⟩
        | cons a pre => cases h1; have := h3 c (by simp); rw [hE] at this; cases this
    | false =>
      simp only [Bool.false_eq_true, if_false, List.nil_append]
      constructor
      · intro h
        obtain ⟨q, hq, rfl⟩ : ∃ q, eAt r = [q] ∧ q + 1 = p := by
          cases hr : eAt r with
          | nil => rw [hr] at h; cases h
          | cons q t =>
            rw [hr] at h
            cases t with
            | nil => exact ⟨q, rfl, by simpa using h⟩
            | cons a t => cases h
        obtain ⟨pre, c', post, h1, h2, h3, h4, h5⟩ := ih.mp hq
        refine ⟨c :: pre, c', post, by rw [h1]; rfl, by simp [h2], fun x hx => ?_, h4, h5⟩
        rcases List.mem_cons.mp hx with rfl | hx
        · exact hE
        · exact h3 x hx
      · rintro ⟨pre, c', post, h1, h2, h3, h4, h5⟩
        cases pre with
        | nil => rw [List.nil_append] at h1; cases h1; rw [hE] at h4; cases h4
        | cons a pre =>
          cases h1
          have := (ih (p := pre.length)).mpr ⟨pre, c', post, rfl, rfl, fun x hx => h3 x (by simp [hx]), h4, h5⟩
          rw [this, ← h2]; rfl
theorem idx_of {c : Nat} {pre post : List Nat} (h : c ∉ pre) : (pre ++ c :: post).idxOf c = pre.length := by
  induction pre with
  | nil => simp
  | cons a r ih =>
    have h1 : a ≠ c := fun e => h (by simp [e])
    have h2 : (a == c) = false := by simpa using h1
    rw [List.cons_append, List.idxOf_cons, h2]
    simp [ih fun e => h (by simp [e])]
theorem lnPart_dot {w pre post pw : List Nat} (h : 46 ∉ pre) : lnPart w (pre ++ 46 :: post) pw = if digs post = true then lnInt w pre post pw else none := by
  unfold lnPart
  rw [if_pos (by simp), idx_of h]
  have e1 : (pre ++ 46 :: post).drop (pre.length + 1) = post := by rw [← List.drop_drop, List.drop_left]; rfl
  rw [e1, List.take_left]
theorem lnPart_no {w b pw : List Nat} (h : 46 ∉ b) : lnPart w b pw = lnInt w b [] pw := by
  unfold lnPart
  rw [if_neg (by simpa using h)]
theorem digs_iff {l : List Nat} : digs l = true ↔ l ≠ [] ∧ l.all isDig = true := by
  unfold digs; rw [Bool.and_eq_true, bne_iff_ne]
theorem noE_digs {l : List Nat} (h : l.all isDig = true) : nonE l := fun c hc => (dig_ne (List.all_eq_true.mp h c hc)).2.2.2.1
theorem no46_digs {l : List Nat} (h : l.all isDig = true) : 46 ∉ l := fun hc => (dig_ne (List.all_eq_true.mp h 46 hc)).2.2.1 rfl
theorem nt_cond {ds : List Nat} : (!digs ds || (decide (1 < ds.length) && ds.take 1 == [48])) = false ↔ NtS ds := by
  cases ds with
  | nil => constructor
           · intro h; cases h
           · intro h; exact absurd rfl h.ne
  | cons c r =>
    simp only [Bool.or_eq_false_iff, Bool.not_eq_false', Bool.and_eq_false_iff, decide_eq_false_iff_not, List.length_cons, List.take_succ_cons, List.take_zero, beq_eq_false_iff_ne, ne_eq, List.cons.injEq, and_true]
    constructor
    · rintro ⟨h1, h2⟩
      refine ⟨by simp, (digs_iff.mp h1).2, fun r' e => ?_⟩
      obtain ⟨e1, e2⟩ := List.cons.inj e
      rcases h2 with h2 | h2
      · rw [← e2]; cases r with
        | nil => rfl
        | cons a t => simp at h2
      · exact absurd e1 h2
    · intro h
      refine ⟨digs_iff.mpr ⟨by simp, h.dg⟩, ?_⟩
      by_cases e : c = 48
      · subst e; left; rw [h.z r rfl]; simp
      · right; exact e
def itVal (it : List Nat) : Int := if it.take 1 == [45] then -(digitsN (lnBody it) : Int) else (digitsN (lnBody it) : Int)
theorem unSign_app {sg ds : List Nat} (h : PmS sg) (hn : ds ≠ []) (hd : ds.all isDig = true) : unSign (sg ++ ds) = ds := by
  unfold unSign
  cases h with
  | nil =>
    cases ds with
    | nil => exact absurd rfl hn
    | cons c r =>
      simp only [List.all_cons, Bool.and_eq_true] at hd
      have := dig_ne hd.1
      rw [if_neg (by simp [this.1, this.2.1])]; rfl
  | plus => rfl
  | minus => rfl
theorem lnInt_of {w ds part pw : List Nat} (h : NtS ds) : lnInt w ds part pw = if (part != [] || pw != []) = true then some none else some (some (if w.take 1 == [45] then -(digitsN ds : Int) else (digitsN ds : Int))) := by
  unfold lnInt
  rw [if_neg (by rw [nt_cond.mpr h]; exact Bool.false_ne_true)]
theorem lnPart_of {w ds f pw : List Nat} (h : NtS ds) (hf : FrS f) : lnPart w (ds ++ f) pw = if (f != [] || pw != []) = true then some none else some (some (if w.take 1 == [45] then -(digitsN ds : Int) else (digitsN ds : Int))) := by
  cases hf with
  | nil => rw [List.append_nil, lnPart_no (no46_digs h.dg), lnInt_of h]
  | some hn hd =>
    rename_i d2
    rw [lnPart_dot (no46_digs h.dg), if_pos (digs_iff.mpr ⟨hn, hd⟩), lnInt_of h]
    cases d2 with
    | nil => exact absurd rfl hn
    | cons a r => rfl
theorem lnBody_it {it t : List Nat} (h : ItS it) : ∃ ds, NtS ds ∧ lnBody (it ++ t) = ds ++ t ∧ lnBody it = ds ∧ (it ++ t).take 1 = it.take 1 := by
  cases h with
  | pos h =>
    refine ⟨it, h, ?_⟩
    cases it with
    | nil => exact absurd rfl h.ne
    | cons c r =>
      have hd := h.dg
      simp only [List.all_cons, Bool.and_eq_true] at hd
      have := (dig_ne hd.1).1
      unfold lnBody
      refine ⟨?_, ?_, rfl⟩
      · rw [if_neg (by simpa using this)]
      · rw [if_neg (by simpa using this)]
  | neg h => exact ⟨_, h, rfl, rfl, rfl⟩
theorem lawNum_of {it f x : List Nat} (hi : ItS it) (hf : FrS f) (hx : ExS x) : lawNum (it ++ (f ++ x)) = if (f != [] || x != []) = true then some none else some (some (itVal it)) := by
  obtain ⟨ds, h1, h2, h3, h4⟩ := lnBody_it (t := f ++ x) hi
  have hnf : nonE f := by
    cases hf with
    | nil => exact fun c h => by simp at h
    | some hn hd =>
      intro c hc
      rcases List.mem_cons.mp hc with rfl | hc
      · rfl
      · exact noE_digs hd c hc
  have hnd : nonE (ds ++ f) := fun c hc => (List.mem_append.mp hc).elim (noE_digs h1.dg c) (hnf c)
  unfold lawNum itVal
  rw [h2, h3]
  cases hx with
  | nil =>
    simp only [List.append_nil] at *
    rw [eAt_nil_iff.mpr hnd]
    dsimp only
    rw [lnPart_of h1 hf, h4]
  | some he hp hn hd =>
    rename_i c sg d2
    have e1 : eAt (ds ++ (f ++ c :: (sg ++ d2))) = [(ds ++ f).length] := by
      rw [eAt_one_iff]
      refine ⟨ds ++ f, c, sg ++ d2, by rw [List.append_assoc], rfl, hnd, he, fun y hy => ?_⟩
      rcases List.mem_append.mp hy with hy | hy
      · cases hp with
        | nil => simp at hy
        | plus => simp at hy; subst hy; rfl
        | minus => simp at hy; subst hy; rfl
      · exact noE_digs hd y hy
    rw [e1]
    dsimp only
    have e2 : (ds ++ (f ++ c :: (sg ++ d2))).drop ((ds ++ f).length + 1) = sg ++ d2 := by
      rw [← List.append_assoc, ← List.drop_drop, List.drop_left]; rfl
    have e3 : (ds ++ (f ++ c :: (sg ++ d2))).take (ds ++ f).length = ds ++ f := by
      rw [← List.append_assoc, List.take_left]
    rw [e2, e3, unSign_app hp hn hd, if_pos (digs_iff.mpr ⟨hn, hd⟩), lnPart_of h1 hf]
    have e4 : (d2 != []) = true := by simpa using hn
    rw [e4]
    simp
theorem lnPart_shape {w b pw : List Nat} {q : Option Int} (h : lnPart w b pw = some q) : ∃ ds f, NtS ds ∧ FrS f ∧ b = ds ++ f := by
  have key : ∀ ds part, lnInt w ds part pw = some q → NtS ds := by
    intro ds part hh
    unfold lnInt at hh
    split at hh
    · cases hh
    · rename_i hc; exact nt_cond.mp (by simpa using hc)
  by_cases h46 : 46 ∈ b
  · obtain ⟨pre, post, rfl, hp⟩ := List.eq_append_cons_of_mem h46
    rw [lnPart_dot hp] at h
    split at h
    · rename_i hd
      have hd' := digs_iff.mp hd
      exact ⟨pre, 46 :: post, key _ _ h, .some hd'.1 hd'.2, rfl⟩
    · cases h
  · rw [lnPart_no h46] at h
    exact ⟨b, [], key _ _ h, .nil, by simp⟩
theorem unSign_shape {l : List Nat} : ∃ sg, PmS sg ∧ l = sg ++ unSign l := by
  unfold unSign
  split
  · rename_i h
    cases l with
    | nil => cases h
    | cons c r =>
      simp only [List.take_succ_cons, List.take_zero, Bool.or_eq_true, beq_iff_eq, List.cons.injEq, and_true] at h
      rcases h with rfl | rfl
      · exact ⟨[43], .plus, rfl⟩
      · exact ⟨[45], .minus, rfl⟩
  · exact ⟨[], .nil, rfl⟩
theorem lawNum_shape {w : List Nat} {q : Option Int} (h : lawNum w = some q) : ∃ it f x, ItS it ∧ FrS f ∧ ExS x ∧ w = it ++ (f ++ x) := by
  have hb : ∀ ds t, NtS ds → lnBody w = ds ++ t → ∃ it, ItS it ∧ w = it ++ t := by
    intro ds t hd e
    unfold lnBody at e
    split at e
    · rename_i h45
      cases w with
      | nil => cases h45
      | cons c r =>
        simp only [List.take_succ_cons, List.take_zero, beq_iff_eq, List.cons.injEq, and_true] at h45
        subst h45
        exact ⟨45 :: ds, .neg hd, by rw [List.cons_append, ← e]; rfl⟩
    · exact ⟨ds, .pos hd, e⟩
  unfold lawNum at h
  split at h
  · rename_i he
    obtain ⟨ds, f, h1, h2, h3⟩ := lnPart_shape h
    obtain ⟨it, h4, h5⟩ := hb ds f h1 h3
    exact ⟨it, f, [], h4, h2, .nil, by rw [List.append_nil]; exact h5⟩
  · rename_i p he
    split at h
    · rename_i hd
      obtain ⟨pre, c, post, e1, e2, e3, e4, e5⟩ := eAt_one_iff.mp he
      have f1 : (lnBody w).drop (p + 1) = post := by rw [e1, ← e2, ← List.drop_drop, List.drop_left]; rfl
      have f2 : (lnBody w).take p = pre := by rw [e1, ← e2, List.take_left]
      rw [f1] at hd h
      rw [f2] at h
      obtain ⟨ds, f, h1, h2, h3⟩ := lnPart_shape h
      obtain ⟨sg, hs1, hs2⟩ := unSign_shape (l := post)
      have hd' := digs_iff.mp hd
      obtain ⟨it, h4, h5⟩ := hb ds (f ++ c :: post) h1 (by rw [e1, h3, List.append_assoc])
      refine ⟨it, f, c :: post, h4, h2, ?_, h5⟩
      rw [hs2]
      exact .some e4 hs1 hd'.1 hd'.2
    · cases h
  · cases h
end Mine.R

end
section
open PySem
set_option autoImplicit false
namespace Mine.R
/-! ## blanks at the ends -/
theorem dw_all {P : Nat → Bool} {a b : List Nat} (h : a.all P = true) : (a ++ b).dropWhile P = b.dropWhile P := by
  induction a with
  | nil => rfl
  | cons c r ih =>
    simp only [List.all_cons, Bool.and_eq_true] at h
    rw [List.cons_append, List.dropWhile_cons, h.1]
    simpa using ih h.2
theorem dw_hd {P : Nat → Bool} {c : Nat} {r : List Nat} (h : P c = false) : (c :: r).dropWhile P = c :: r := by
  rw [List.dropWhile_cons, h]; rfl
theorem strip_of {u bl : List Nat} (hu : ∀ x ∈ u, isWs x = false) (hb : bl.all isWs = true) : stripL (u ++ bl) = u := by
  unfold stripL lstripL rstripL
  cases u with
  | nil =>
    rw [List.nil_append]
    have : bl.dropWhile isWs = [] := by have := dw_all (b := []) hb; simpa using this
    rw [this]; rfl
  | cons c r =>
    rw [List.cons_append, dw_hd (hu c (by simp)), ← List.cons_append, List.reverse_append, dw_all (by rw [List.all_reverse]; exact hb)]
    have : ∀ v : List Nat, (∀ x ∈ v, isWs x = false) → v.dropWhile isWs = v := fun v hv => by
      cases v with
      | nil => rfl
      | cons a t => exact dw_hd (hv a (by simp))
    rw [this _ fun x hx => hu x (by simpa [or_comm] using hx), List.reverse_reverse]
theorem strip_dec {c : Nat} {r : List Nat} (hc : isWs c = false) : ∃ u bl, c :: r = (c :: u) ++ bl ∧ bl.all isWs = true ∧ stripL (c :: r) = c :: u := by
  unfold stripL lstripL rstripL
  rw [dw_hd hc]
  have h1 := tw_drop (P := isWs) (l := (c :: r).reverse)
  have h2 := tw_all (P := isWs) (l := (c :: r).reverse)
  have h3 : ∀ l : List Nat, l.dropWhile isWs = l.drop (l.takeWhile isWs).length := by
    intro l
    induction l with
    | nil => rfl
    | cons a t ih =>
      rw [List.dropWhile_cons, List.takeWhile_cons]
      cases isWs a with
      | true => simpa using ih
      | false => rfl
  have h4 : c :: r = ((c :: r).reverse.dropWhile isWs).reverse ++ ((c :: r).reverse.takeWhile isWs).reverse := by
    rw [← List.reverse_append, h3, ← h1, List.reverse_reverse]
  generalize hv : ((c :: r).reverse.dropWhile isWs).reverse = v at *
  generalize hb : (c :: r).reverse.takeWhile isWs = bl at *
  cases v with
  | nil =>
    exfalso
    rw [List.nil_append] at h4
    have : c ∈ bl.reverse := by rw [← h4]; simp
    have := List.all_eq_true.mp h2 c (by simpa using this)
    rw [hc] at this; cases this
  | cons a u =>
    have : a = c := (List.cons.inj h4).1.symm
    subst this
    exact ⟨u, bl.reverse, h4, by rw [List.all_reverse]; exact h2, rfl⟩
theorem dig_ws {c : Nat} (h : isDig c = true) : isWs c = false := by
  unfold isDig at h; unfold isWs
  simp only [Bool.and_eq_true, decide_eq_true_eq] at h
  simp; omega
theorem num_ws {it f x : List Nat} (hi : ItS it) (hf : FrS f) (hx : ExS x) : ∀ y ∈ it ++ (f ++ x), isWs y = false := by
  intro y hy
  rcases List.mem_append.mp hy with h | h
  · cases hi with
    | pos q => exact dig_ws (List.all_eq_true.mp q.dg y h)
    | neg q =>
      rcases List.mem_cons.mp h with rfl | h
      · rfl
      · exact dig_ws (List.all_eq_true.mp q.dg y h)
  · rcases List.mem_append.mp h with h | h
    · cases hf with
      | nil => simp at h
      | some hn hd =>
        rcases List.mem_cons.mp h with rfl | h
        · rfl
        · exact dig_ws (List.all_eq_true.mp hd y h)
    · cases hx with
      | nil => simp at h
      | some he hp hn hd =>
        rcases List.mem_cons.mp h with rfl | h
        · unfold isE at he; unfold isWs; simp at he ⊢; omega
        · rcases List.mem_append.mp h with h | h
          · cases hp with
            | nil => simp at h
            | plus => simp at h; subst h; rfl
            | minus => simp at h; subst h; rfl
          · exact dig_ws (List.all_eq_true.mp hd y h)
theorem bl_ws {l : List Nat} (h : l.all isBl = true) : l.all isWs = true :=
  List.all_eq_true.mpr fun x hx => by
    have := List.all_eq_true.mp h x hx
    unfold isBl at this; unfold isWs; simp at this ⊢; omega

/-! ## the number's pattern upon a text that opens with no blank -/
def optO (l : List Nat) : Option (List Nat) := match l with
  | [] => none
  | _ :: _ => some l
theorem optO_ne {l : List Nat} : optO l ≠ some [] := by cases l <;> simp [optO]
theorem optO_getD {l : List Nat} : (optO l).getD [] = l := by cases l <;> rfl
theorem optO_isSome {l : List Nat} : (optO l).isSome = (l != []) := by cases l <;> rfl
def numOf (n : NP) : Nat × R := (n.it.length + n.f.length + n.x.length + n.bl.length, numR n.it (optO n.f) (optO n.x) (itVal n.it))
theorem intOf_it {it : List Nat} (h : ItS it) (hl : it.length ≤ 600) : intOf it = some (itVal it) := by
  cases h with
  | pos q =>
    cases it with
    | nil => exact absurd rfl q.ne
    | cons c r =>
      have hd := q.dg
      have hc : c ≠ 45 := by
        simp only [List.all_cons, Bool.and_eq_true] at hd
        exact (dig_ne hd.1).1
      have h1 : ((c :: r).take 1 == [45]) = false := by simpa using hc
      unfold intOf itVal lnBody
      split
      · rename_i e; exact absurd (List.cons.inj e).1 hc
      · rw [if_pos ⟨by simp, hd, hl⟩, h1]
        rfl
  | neg q =>
    rename_i ds
    show (if ds ≠ [] ∧ ds.all isDig = true ∧ ds.length ≤ 600 then some (-(digitsN ds : Int)) else none) = _
    rw [if_pos ⟨q.ne, q.dg, by simp at hl; omega⟩]
    rfl
theorem span_of {s a b r : List Nat} (h : s = a ++ (b ++ r)) : spanTxt s (some (a.length, a.length + b.length)) = .str b := by
  unfold spanTxt
  dsimp only
  rw [h, List.drop_left, Nat.add_sub_cancel_left, List.take_left]
theorem spO_of {s a b r : List Nat} (h : s = a ++ (b ++ r)) : spanTxt s (spO a.length b) = otxt (optO b) := by
  cases b with
  | nil => rfl
  | cons c t => exact span_of h
theorem num_hN {s : List Nat} {c : Nat} {r : List Nat} (hs : s = c :: r) (hc : isBl c = false) (hl : s.length ≤ 600) :
    ((numL s).map numOf = none ∧ numT s.toArray 0 = none) ∨ ∃ sp e it fr ex i, numT s.toArray 0 = some sp ∧ NumIs s sp e it fr ex i ∧ (numL s).map numOf = some (e, numR it fr ex i) := by
  rw [numT_eq hs hc]
  cases h : numL s with
  | none => exact .inl ⟨rfl, rfl⟩
  | some n =>
    refine .inr ⟨_, n.it.length + n.f.length + n.x.length + n.bl.length, n.it, optO n.f, optO n.x, itVal n.it, rfl, ?_, rfl⟩
    obtain ⟨⟨rest, e⟩, hi, hf, hx, hb⟩ := numL_shape h
    have hlen : s.length = n.it.length + (n.f.length + (n.x.length + (n.bl.length + rest.length))) := by
      conv => lhs; rw [e]
      simp only [List.length_append]
    refine ⟨⟨(0, n.it.length + n.f.length + n.x.length + n.bl.length).1, _, rfl, ?_⟩, intOf_it hi (by omega), optO_ne, optO_ne, by rw [optO_getD, optO_getD]; omega, by omega⟩
    have e1 : spanTxt s (some (0, n.it.length)) = .str n.it := by
      have := @span_of s [] n.it _ (by rw [List.nil_append]; exact e)
      simpa using this
    have e2 : spanTxt s (spO n.it.length n.f) = otxt (optO n.f) := spO_of e
    have e3 : spanTxt s (spO (n.it.length + n.f.length) n.x) = otxt (optO n.x) := by
      have := @spO_of s (n.it ++ n.f) n.x (n.bl ++ rest) (by rw [List.append_assoc]; exact e)
      rw [List.length_append] at this; exact this
    simp only [List.map_cons, List.map_nil, e1, e2, e3]

/-! ## where it is cut, and what is told there -/
structure LineIs (line en : List Nat) (c : Nat) (t : List Nat) : Prop where
  hd : line = c :: t
  ok : ∀ x ∈ line, x < 128 ∧ x ≠ 10 ∧ x ≠ 13 ∧ (isWs x = true → isBl x = true)
  cw : isWs c = false
  cb : c ≠ 44 ∧ c ≠ 125 ∧ c ≠ 93 ∧ c ≠ 35 ∧ c ≠ 47 ∧ c ≠ 91 ∧ c ≠ 123 ∧ c ≠ 58
  en : en = [] ∨ en = [10] ∨ en = [13, 10] ∨ en = [10, 125]
section
variable {line en t : List Nat} {c k : Nat}
theorem ch_line (h : k < line.length) : ch (line ++ en) k = [line[k]] := by
  rw [ch_lt (by rw [List.length_append]; omega), List.getElem_append_left h]
theorem ch_end : ch (line ++ en) line.length = en.take 1 := by
  unfold ch; rw [List.drop_left]
theorem eol_end (L : LineIs line en c t) : isEol (line ++ en) line.length = true := by
  unfold isEol; rw [ch_end]
  rcases L.en with h | h | h | h <;> subst h <;> rfl
theorem eol_in (L : LineIs line en c t) (h : k < line.length) : isEol (line ++ en) k = false := by
  unfold isEol; rw [ch_line h]
  have := L.ok line[k] (List.getElem_mem h)
  simp [this.2.1, this.2.2.1]
theorem stop_cut (L : LineIs line en c t) (h : k < line.length) : stopAt (line ++ en) k = cutAt line k := by
  unfold stopAt cutAt
  rw [eol_in L h, ch_line h]
  have e1 : line.getD k 0 = line[k] := by rw [List.getD_eq_getElem?_getD, List.getElem?_eq_getElem h]; rfl
  rw [e1]
  have e2 : (line.drop k).take 2 = line[k] :: ch line (k + 1) := by
    rw [List.drop_eq_getElem_cons h]; unfold ch; rfl
  rw [e2]
  have e3 : ∀ y, y = 47 ∨ y = 42 → (ch (line ++ en) (k + 1) == [y]) = (ch line (k + 1) == [y]) := by
    intro y hy
    by_cases h' : k + 1 < line.length
    · rw [ch_line h', ch_lt h']
    · have : k + 1 = line.length := by omega
      rw [this, ch_end, ch_ge (Nat.le_refl _)]
      rcases L.en with q | q | q | q <;> subst q <;> rcases hy with rfl | rfl <;> rfl
  rw [e3 47 (.inl rfl), e3 42 (.inr rfl)]
  generalize line[k] = a
  generalize ch line (k + 1) = b
  rw [Bool.eq_iff_iff]
  simp only [Bool.false_or, Bool.or_eq_true, Bool.and_eq_true, beq_iff_eq, List.cons.injEq, and_true, List.contains_eq_mem, List.mem_cons, List.not_mem_nil, or_false, decide_eq_true_eq]
  constructor
  · rintro (h | h | h | h | ⟨h, h' | h'⟩)
    · exact .inl (.inl h)
    · exact .inl (.inr (.inl h))
    · exact .inl (.inr (.inr (.inl h)))
    · exact .inl (.inr (.inr (.inr h)))
    · exact .inr (.inl ⟨h, h'⟩)
    · exact .inr (.inr ⟨h, h'⟩)
  · rintro ((h | h | h | h) | ⟨h, h'⟩ | ⟨h, h'⟩)
    · exact .inl h
    · exact .inr (.inl h)
    · exact .inr (.inr (.inl h))
    · exact .inr (.inr (.inr (.inl h)))
    · exact .inr (.inr (.inr (.inr ⟨h, .inl h'⟩)))
    · exact .inr (.inr (.inr (.inr ⟨h, .inr h'⟩)))
theorem stop_rest (h : stopAt (line ++ en) k = true) : RS ((line ++ en).drop k) := by
  have key : ∀ y r, (line ++ en).drop k = y :: r → y = 13 ∨ y = 10 ∨ y = 44 ∨ y = 125 ∨ y = 93 ∨ y = 35 ∨ y = 47 := by
    intro y r e
    have hc : ch (line ++ en) k = [y] := by unfold ch; rw [e]; rfl
    unfold stopAt isEol at h
    rw [hc] at h
    simp only [Bool.or_eq_true, Bool.and_eq_true, beq_iff_eq, List.cons.injEq, and_true, reduceCtorEq, or_false] at h
    rcases h with (h | h) | h | h | h | h | h
    · exact .inl h
    · exact .inr (.inl h)
    · exact .inr (.inr (.inl h))
    · exact .inr (.inr (.inr (.inl h)))
    · exact .inr (.inr (.inr (.inr (.inl h))))
    · exact .inr (.inr (.inr (.inr (.inr (.inl h)))))
    · exact .inr (.inr (.inr (.inr (.inr (.inr h.1)))))
  refine ⟨fun y r e => ?_, fun y r e => ?_, fun y r e => ?_, fun y r e => ?_⟩ <;> rcases key y r e with h | h | h | h | h | h | h <;> subst h <;> decide
/-- what is told at a stop -/
theorem hit_judge (L : LineIs line en c t) (hk : k ≤ line.length) (hst : stopAt (line ++ en) k = true) :
    hitAt (line ++ en) c ((numL (line ++ en)).map numOf) k = match judge (stripL (line.take k)) with
      | some r => some r
      | none => if isEol (line ++ en) k = true then some (.str (stripL ((line ++ en).take k))) else none := by
  have htk : (line ++ en).take k = line.take k := by rw [List.take_append_of_le_length hk]
  have hk0 : k ≠ 0 := by
    rintro rfl
    have := stop_cut (k := 0) L (by rw [L.hd]; simp)
    rw [this] at hst
    unfold cutAt at hst
    rw [L.hd] at hst
    have cb := L.cb
    simp [cb.1, cb.2.1, cb.2.2.1, cb.2.2.2.1] at hst
    rcases hst with h | h
    · exact cb.2.2.2.2.1 h.1
    · exact cb.2.2.2.2.1 h.1
  obtain ⟨k', rfl⟩ : ∃ k', k = k' + 1 := ⟨k - 1, by omega⟩
  have hl0 : line.take (k' + 1) = c :: t.take k' := by rw [L.hd]; rfl
  obtain ⟨u, bl, h1, h2, h3⟩ := strip_dec (r := t.take k') L.cw
  rw [htk, hl0, h3]
  have hbl : bl.all isBl = true := List.all_eq_true.mpr fun x hx => by
    have hm : x ∈ line := by
      have : x ∈ c :: t.take k' := by rw [h1]; simp [hx]
      rw [← hl0] at this
      exact List.mem_of_mem_take this
    exact (L.ok x hm).2.2.2 (List.all_eq_true.mp h2 x hx)
  have hsplit : line ++ en = (c :: u) ++ (bl ++ (line ++ en).drop (k' + 1)) := by
    conv => lhs; rw [← List.take_append_drop (k' + 1) (line ++ en)]
    rw [htk, hl0, h1, List.append_assoc]
  have hkl : (c :: u).length + bl.length = k' + 1 := by
    have h4 := congrArg List.length h1
    rw [List.length_append] at h4
    rw [← h4, ← hl0, List.length_take]; omega
  have kw : ∀ (a : Nat) (v : List Nat), ([c] == [a] && (c :: u) == (a :: v)) = ((c :: u) == (a :: v)) := by
    intro a v
    by_cases h : (c :: u) = a :: v
    · obtain ⟨rfl, rfl⟩ := List.cons.inj h
      simp
    · have : ((c :: u) == (a :: v)) = false := by simpa using h
      rw [this, Bool.and_false]
  unfold hitAt
  rw [if_pos hst, htk, hl0, h3, kw, kw, kw]
  unfold judge
  by_cases j1 : ((c :: u) == [110, 117, 108, 108]) = true
  · rw [if_pos j1, if_pos j1]
  rw [if_neg j1, if_neg j1]
  by_cases j2 : ((c :: u) == [116, 114, 117, 101]) = true
  · rw [if_pos j2, if_pos j2]
  rw [if_neg j2, if_neg j2]
  by_cases j3 : ((c :: u) == [102, 97, 108, 115, 101]) = true
  · rw [if_pos j3, if_pos j3]
  rw [if_neg j3, if_neg j3]
  cases hln : lawNum (c :: u) with
  | some q =>
    obtain ⟨it, f, x, hi, hf, hx, hw⟩ := lawNum_shape hln
    have hcd : ([c] == [45] || (decide (48 ≤ c) && decide (c ≤ 57))) = true := by
      cases hi with
      | pos w =>
        cases it with
        | nil => exact absurd rfl w.ne
        | cons a r =>
          have hd := w.dg
          simp only [List.all_cons, Bool.and_eq_true] at hd
          have : c = a := (List.cons.inj hw).1
          subst this
          have := hd.1
          unfold isDig at this
          rw [Bool.or_eq_true]; right; simpa using this
      | neg w =>
        have : c = 45 := (List.cons.inj hw).1
        subst this; rfl
    rw [if_pos hcd]
    have hnum : numL (line ++ en) = some ⟨it, f, x, bl⟩ := by
      rw [hsplit, hw, List.append_assoc, List.append_assoc]
      exact numL_app hi hf hx hbl (stop_rest hst)
    rw [hnum]
    dsimp only [Option.map_some]
    unfold numOf
    dsimp only
    have hwl := congrArg List.length hw
    rw [List.length_append, List.length_append] at hwl
    have hq := lawNum_of hi hf hx
    rw [← hw, hln] at hq
    rw [if_pos (by omega)]
    unfold numR
    rw [optO_isSome, optO_isSome]
    cases hfx : (f != [] || x != []) with
    | true =>
      rw [hfx, if_pos rfl] at hq
      cases hq
      rw [if_pos rfl, optO_getD, optO_getD, List.append_assoc, ← hw]
    | false =>
      rw [hfx, if_neg Bool.false_ne_true] at hq
      cases hq
      rw [if_neg Bool.false_ne_true]
  | none =>
    dsimp only
    cases hcd : ([c] == [45] || (decide (48 ≤ c) && decide (c ≤ 57))) with
    | false => rw [if_neg Bool.false_ne_true]
    | true =>
      rw [if_pos rfl]
      cases hnum : numL (line ++ en) with
      | none => rfl
      | some n =>
        dsimp only [Option.map_some]
        unfold numOf
        dsimp only
        rw [if_neg]
        intro he
        obtain ⟨⟨rest, e⟩, hi, hf, hx, hb⟩ := numL_shape hnum
        have e1 : line.take (k' + 1) = (n.it ++ (n.f ++ n.x)) ++ n.bl := by
          rw [← htk, e]
          have : n.it ++ (n.f ++ (n.x ++ (n.bl ++ rest))) = ((n.it ++ (n.f ++ n.x)) ++ n.bl) ++ rest := by simp only [List.append_assoc]
          rw [this, List.take_left' (by simp only [List.length_append]; omega)]
        have e2 := strip_of (num_ws hi hf hx) (bl_ws hb)
        rw [← e1, hl0, h3] at e2
        rw [e2, lawNum_of hi hf hx] at hln
        split at hln <;> cases hln
/-- the two readings meet -/
theorem law_meets (L : LineIs line en c t) : ∀ r n, wantAt line (cutsOf line ++ [line.length]) = (r, n) →
    n ≤ line.length ∧ hitAt (line ++ en) c ((numL (line ++ en)).map numOf) n = some r ∧ ∀ k, k < n → hitAt (line ++ en) c ((numL (line ++ en)).map numOf) k = none := by
  have key : ∀ m a, a + m = line.length → ∀ r n, wantAt line ((List.range' a m).filter (cutAt line) ++ [line.length]) = (r, n) →
      n ≤ line.length ∧ hitAt (line ++ en) c ((numL (line ++ en)).map numOf) n = some r ∧ ∀ k, a ≤ k → k < n → hitAt (line ++ en) c ((numL (line ++ en)).map numOf) k = none := by
    intro m
    induction m with
    | zero =>
      intro a ha r n hw
      have ha : a = line.length := by omega
      subst ha
      have hj := hit_judge L (Nat.le_refl _) (by unfold stopAt; rw [eol_end L]; rfl)
      rw [eol_end L, if_pos rfl] at hj
      simp only [List.range'_zero, List.filter_nil, List.nil_append] at hw
      rw [wantAt_cons, wantAt_nil] at hw
      rw [List.take_append_of_le_length (Nat.le_refl _), List.take_length] at hj
      rw [List.take_length] at hw
      cases hjj : judge (stripL line) with
      | some r' =>
        rw [hjj] at hw hj
        cases hw
        exact ⟨Nat.le_refl _, hj, fun k h1 h2 => by omega⟩
      | none =>
        rw [hjj] at hw hj
        cases hw
        exact ⟨Nat.le_refl _, hj, fun k h1 h2 => by omega⟩
    | succ m ih =>
      intro a ha r n hw
      have hal : a < line.length := by omega
      rw [List.range'_succ, List.filter_cons] at hw
      cases hca : cutAt line a with
      | false =>
        rw [hca, if_neg Bool.false_ne_true] at hw
        obtain ⟨h1, h2, h3⟩ := ih (a + 1) (by omega) r n hw
        refine ⟨h1, h2, fun k hk1 hk2 => ?_⟩
        by_cases e : k = a
        · subst e
          unfold hitAt
          rw [stop_cut L hal, hca, if_neg Bool.false_ne_true]
        · exact h3 k (by omega) hk2
      | true =>
        rw [hca, if_pos rfl, List.cons_append, wantAt_cons] at hw
        have hj := hit_judge L (Nat.le_of_lt hal) (by rw [stop_cut L hal]; exact hca)
        rw [eol_in L hal, if_neg Bool.false_ne_true] at hj
        cases hjj : judge (stripL (line.take a)) with
        | some r' =>
          rw [hjj] at hw hj
          cases hw
          exact ⟨Nat.le_of_lt hal, hj, fun k h1 h2 => by omega⟩
        | none =>
          rw [hjj] at hw hj
          obtain ⟨h1, h2, h3⟩ := ih (a + 1) (by omega) r n hw
          refine ⟨h1, h2, fun k hk1 hk2 => ?_⟩
          by_cases e : k = a
          · subst e; exact hj
          · exact h3 k (by omega) hk2
  intro r n hw
  unfold cutsOf at hw
  rw [List.range_eq_range'] at hw
  obtain ⟨h1, h2, h3⟩ := key line.length 0 (by omega) r n hw
  exact ⟨h1, h2, fun k hk => h3 k (Nat.zero_le _) hk⟩
end
end Mine.R

end
section
open PySem
set_option autoImplicit false
set_option maxHeartbeats 4000000
namespace Mine.R
local macro_rules | `(tactic| walk_at "W") => `(tactic| simp only [↓KB_, ↓KBin1_, ↓KBin2_, ↓KUn_, ↓KNot_, ↓KTru_, ↓KIfV_t, ↓KIfV_f, ↓KIfT_t, ↓KIfT_f, ↓KLst_, ↓KTpl_, ↓KTplA_, ↓KCmp1_, ↓KCmp2_, ↓KBool_, ↓KMeth1_, ↓KMeth2_, ↓KCall1_, ↓KArgs_, ↓KKws_, ↓KAttr_, ↓KAttrA_, ↓KLocA_, ↓KSub1_, ↓KSub2_, ↓KSubA1_, ↓KSubA2_, ↓KSl1_, ↓KSl2_, ↓KSl3_, ↓KL1_, ↓KL2_, ↓KK1_, ↓KK2_,
  ↓KTl_At, ↓KTl_Af, ↓KTl_Ot, ↓KTl_Of, ↓KTl_nil, ↓KBl_, ↓KBl2_At, ↓KBl2_Af, ↓KBl2_Ot, ↓KBl2_Of, ↓KAl_, ↓KComp1_, ↓KComp2_, ↓KComp3_, ↓v_cst, ↓v_name, ↓a_name, ↓v_bop, ↓t_bop, ↓v_bin, ↓t_not, ↓v_neg, ↓v_ife, ↓t_ife, ↓v_lst, ↓v_tpl, ↓a_tpl, ↓v_dict0, ↓v_comp, ↓v_cmp, ↓t_cmp, ↓v_callmn, ↓v_callmc, ↓v_callmsl, ↓v_calln, ↓v_attrn, ↓a_attr, ↓v_sub, ↓a_sub, ↓v_slice, ↓l_nil, ↓k_nil, ↓tl_nilA, ↓tl_nilO, ↓al_nil, ↓l_cons, ↓tl_cons, ↓bl_last, ↓bl_cons, ↓al_cons, ↓k_kw, ↓o_no, ↓o_cst, ↓o_name, ↓o_bop, ↓o_bin, ↓o_neg, ↓o_ife, ↓o_lst, ↓o_tpl, ↓o_dict0, ↓o_comp, ↓o_cmp, ↓o_callm, ↓o_call, ↓o_attr, ↓o_sub, ↓o_slice, ↓t_cst, ↓t_name, ↓t_bin, ↓t_callm, ↓t_call, ↓t_attr, ↓t_sub, ↓t_slice,
  ↓KSeq_next, ↓KSeq_ret, ↓KSeq_brk, ↓KSeq_cont, ↓KExpr_, ↓KRet_, ↓KAsg1_, ↓KAsg2_, ↓KAug1_, ↓KAug2_, ↓KAug3_, ↓KIf_t, ↓KIf_f, ↓KFor1_, ↓KFor2_, ↓KTry1_next, ↓KTry1_ret, ↓KTry1_brk, ↓KTry1_cont, ↓KTry2_nil, ↓KTry2_cons, ↓KTry3_, ↓KBody_ret, ↓KBody_next, ↓KCallR_, ↓KCallI_, ↓KComp4_, ↓KDef_, ↓s_nil, ↓s_cons, ↓s_exprc, ↓s_exprm, ↓s_ret, ↓s_asgn, ↓s_asg, ↓s_aug, ↓s_ife, ↓s_whl, ↓s_for, ↓s_try, ↓s_brk, ↓s_cont, ↓s_pass, ↓s_def, ↓W_callbi, ↓W_callty, ↓W_callfn, ↓W_callclo, ↓W_callcls, ↓KTurn_next, ↓KTurn_cont, ↓KTurn_brk, ↓KTurn_ret, ↓KWT_t, ↓KWT_f, ↓KFA_, ↓KForA_, ↓KForE_next, ↓KForE_cont, ↓KForE_brk, ↓KForE_ret, ↓KCE_, ↓KCI_t, ↓KCI_f, ↓KCA_,
  ↓optW_some, ofs_beq, String.reduceBEq, String.reduceBNe, ofs_bne, ↓reduceIte, Bool.false_eq_true, lookup_putS, List.lookup_cons, List.lookup_nil, isCompE, isTpl, isAttr, isSuper, callmOk, lenE_nil, lenE_cons, lenE_kw, Nat.reduceLT, decide_true, decide_false, dbg, cdict, constM_none, constM_bool, constM_int, cst_0, cst_1, cst_2, cst_3, cst_4, cst_5, cst_6, cst_7, cst_8, cst_9, cst_10, cst_11, cst_12, cst_13, cst_14, cst_15, cst_16, cst_17, cst_18, cst_19, cst_20, cst_21, cst_22, cst_23, cst_24, cst_25, cst_26, cst_27, cst_28, cst_29, cst_30, cst_31, cst_32, cst_33, cst_34, cst_35, cst_36, cst_37, cst_38, cst_39, cst_40, cst_41, cst_42, loadM, storeM, TL_glob, TL_fn, TL_meth, TL_lst, TL_defs, globTab, fnTab, Option.isSome, binM_add, binM_sub, binM_mod, binM_mul, binM_adds, cmp_eqs, cmp_eqi, cmp_eqb, cmp_nes, cmp_nei, cmp_lt, cmp_le, cmp_gt, cmp_ge, cmp_ges, cmp_les, cmp_ins, cmp_int, cmp_is, cmp_isn, cmp_eq0s, cmp_eqs0, strsOf, aug_add, aug_sub, aug_adds, Option.map_some, Option.map_none, Option.bind_some, List.nil_append, List.append_nil, List.cons_append, List.any_cons, List.any_nil, List.length_cons, List.length_nil, Bool.not_true, Bool.not_false, Bool.true_and, Bool.and_true, Bool.false_and, Bool.and_false, Bool.or_false, Bool.false_or, Bool.true_or, Bool.or_true, truth_none, truth_bool, truth_int, truth_str, sub_str, sub_tup, sub_lst, sub_glo, sub_dict, slice_str, sliceS_, slice_obj, sliceO_, word_0, word_1, word_2, word_01, word_02, word_m1, word_14, ne_eq, Int.reduceEq, not_false_eq_true, intOpt_none, intOpt_int, items_tup, truth_obj, truthO_l, slice_glo, sliceG_, sliceL_map, getMeth_obj, getMM_append, getMM_pop, getMM_clear, getMM_fld, sl_0n, get_mid, set_mid, get_mid2, set_mid2, plainPs, List.isEmpty_nil, cellAt_app0, cellAt_appk, cellAt_succ, cellAt_zero, isCell_app0, isCell_appk, isCell_succ, isCell_zero, set_app0, set_appk, set_succ, set_zero, get_app0, get_appk, List.getElem?_cons_zero, List.getElem?_cons_succ, setAttr_, setA_, getAttr_, getA_, fieldM_, putS_nil, putS_cons, fi_0, fi_1, fi_2, fi_3, fi_4, fi_5, fi_6, fi_7, fi_8, fi_9, fi_10, fi_11, fi_12, fi_13, hm_glo, hm_str, hm_bool, hm_none, hm_obj, hm_clo, truth_frac, truth_clo, Option.isNone_some, Option.isNone_none, Option.all_some, binM_addo, addO_, listAt_end1, bm10, negM_, lb0, lb1, lb2, lb3, lb4, lb5, lb6, lb7, lb8, Nat.reduceAdd, Nat.zero_add, bi_len_s, bi_len_t, bi_len_o, bi_isi_bool, bi_isi_str, bi_isi_list, bi_isi_dict, bi_all_, bi_ord_, bi_app_, bi_pop_, bi_strip_, bi_rstrip_, bi_join_, bi_index_, bi_end_, bi_groups_, ty_range, ty_int, meth_strip, meth_rstrip, meth_join, meth_index, meth_match, meth_end, meth_groups, listAt_end, get_end, String.reduceBEq, nk_lc, nk_fc, nk_gc, nk_ll, nk_fl, nk_gl, nk_sl, sk_f, free_nil, free_free, free_local, free_glob, free_cell, iter_str, iter_rng, iter_o, iterO_l, iterO_d, List.all_cons, List.all_nil, items_obj, slice_ch, slice_ch1, slice_ch0, slice_ch01, sl_from, sl_from1, sl_1, sl_to, sl_to1, sl_two, index_n, index_0, index_1, cellAt_of, Int.reduceBNe, Int.reduceBEq, Nat.reduceBEq, Nat.reduceBNe, true_and, and_true, and_self, *])
local macro_rules | `(tactic| walk_at "B") => `(tactic| simp only [stAt, PySem.Challenge.pw_ew0010_02, ↓List.getElem?_cons_succ, ↓List.getElem?_cons_zero, Option.getD_some, fnI, kidAt, ↓dE_cst, ↓dE_name, ↓dE_bop, ↓dE_bin, ↓dE_un, ↓dE_ife, ↓dE_lst, ↓dE_tpl, ↓dE_dict, ↓dE_comp, ↓dE_cmp, ↓dE_callm, ↓dE_calln, ↓dE_attr, ↓dE_slice, ↓dE_subc, ↓dE_subn, ↓dE_subb, ↓dE_subu, ↓dE_subs, ↓dE_subcl, ↓dL_nil, ↓dL_cons, ↓dO_none, ↓dO_some, ↓dK_nil, ↓dK_cons, ↓dS_expr, ↓dS_ret, ↓dS_asg, ↓dS_aug, ↓dS_ife, ↓dS_whl, ↓dS_for, ↓dS_try, ↓dS_brk, ↓dS_cont, ↓dS_pass, ↓dS_def, ↓dSs_nil, ↓dSs_cons])
local macro_rules | `(tactic| walk_at "A") => `(tactic| simp only [↓KB_, ↓KBin1_, ↓KBin2_, ↓KUn_, ↓KNot_, ↓KTru_, ↓KIfV_t, ↓KIfV_f, ↓KIfT_t, ↓KIfT_f, ↓KLst_, ↓KTpl_, ↓KTplA_, ↓KCmp1_, ↓KCmp2_, ↓KBool_, ↓KMeth1_, ↓KMeth2_, ↓KCall1_, ↓KArgs_, ↓KKws_, ↓KAttr_, ↓KAttrA_, ↓KLocA_, ↓KSub1_, ↓KSub2_, ↓KSubA1_, ↓KSubA2_, ↓KSl1_, ↓KSl2_, ↓KSl3_, ↓KL1_, ↓KL2_, ↓KK1_, ↓KK2_,
  ↓KTl_At, ↓KTl_Af, ↓KTl_Ot, ↓KTl_Of, ↓KTl_nil, ↓KBl_, ↓KBl2_At, ↓KBl2_Af, ↓KBl2_Ot, ↓KBl2_Of, ↓KAl_, ↓KComp1_, ↓KComp2_, ↓KComp3_, ↓v_cst, ↓v_name, ↓a_name, ↓v_bop, ↓t_bop, ↓v_bin, ↓t_not, ↓v_neg, ↓v_ife, ↓t_ife, ↓v_lst, ↓v_tpl, ↓a_tpl, ↓v_dict0, ↓v_comp, ↓v_cmp, ↓t_cmp, ↓v_callmn, ↓v_callmc, ↓v_callmsl, ↓v_calln, ↓v_attrn, ↓a_attr, ↓v_sub, ↓a_sub, ↓v_slice, ↓l_nil, ↓k_nil, ↓tl_nilA, ↓tl_nilO, ↓al_nil, ↓l_cons, ↓tl_cons, ↓bl_last, ↓bl_cons, ↓al_cons, ↓k_kw, ↓o_no, ↓o_cst, ↓o_name, ↓o_bop, ↓o_bin, ↓o_neg, ↓o_ife, ↓o_lst, ↓o_tpl, ↓o_dict0, ↓o_comp, ↓o_cmp, ↓o_callm, ↓o_call, ↓o_attr, ↓o_sub, ↓o_slice, ↓t_cst, ↓t_name, ↓t_bin, ↓t_callm, ↓t_call, ↓t_attr, ↓t_sub, ↓t_slice,
  ↓KSeq_next, ↓KSeq_ret, ↓KSeq_brk, ↓KSeq_cont, ↓KExpr_, ↓KRet_, ↓KAsg1_, ↓KAsg2_, ↓KAug1_, ↓KAug2_, ↓KAug3_, ↓KIf_t, ↓KIf_f, ↓KFor1_, ↓KFor2_, ↓KTry1_next, ↓KTry1_ret, ↓KTry1_brk, ↓KTry1_cont, ↓KTry2_nil, ↓KTry2_cons, ↓KTry3_, ↓KBody_ret, ↓KBody_next, ↓KCallR_, ↓KCallI_, ↓KComp4_, ↓KDef_, ↓s_nil, ↓s_cons, ↓s_exprc, ↓s_exprm, ↓s_ret, ↓s_asgn, ↓s_asg, ↓s_aug, ↓s_ife, ↓s_whl, ↓s_for, ↓s_try, ↓s_brk, ↓s_cont, ↓s_pass, ↓s_def, ↓W_callbi, ↓W_callty, ↓W_callfn, ↓W_callclo, ↓W_callcls, ↓KTurn_next, ↓KTurn_cont, ↓KTurn_brk, ↓KTurn_ret, ↓KWT_t, ↓KWT_f, ↓KFA_, ↓KForA_, ↓KForE_next, ↓KForE_cont, ↓KForE_brk, ↓KForE_ret, ↓KCE_, ↓KCI_t, ↓KCI_f, ↓KCA_,
  ↓optW_some, ofs_beq, String.reduceBEq, String.reduceBNe, ofs_bne, ↓reduceIte, Bool.false_eq_true, lookup_putS, List.lookup_cons, List.lookup_nil, isCompE, isTpl, isAttr, isSuper, callmOk, lenE_nil, lenE_cons, lenE_kw, Nat.reduceLT, decide_true, decide_false, dbg, cdict, constM_none, constM_bool, constM_int, cst_0, cst_1, cst_2, cst_3, cst_4, cst_5, cst_6, cst_7, cst_8, cst_9, cst_10, cst_11, cst_12, cst_13, cst_14, cst_15, cst_16, cst_17, cst_18, cst_19, cst_20, cst_21, cst_22, cst_23, cst_24, cst_25, cst_26, cst_27, cst_28, cst_29, cst_30, cst_31, cst_32, cst_33, cst_34, cst_35, cst_36, cst_37, cst_38, cst_39, cst_40, cst_41, cst_42, loadM, storeM, TL_glob, TL_fn, TL_meth, TL_lst, globTab, fnTab, Option.isSome, binM_add, binM_sub, binM_mod, binM_mul, binM_adds, cmp_eqs, cmp_eqi, cmp_eqb, cmp_nes, cmp_nei, cmp_lt, cmp_le, cmp_gt, cmp_ge, cmp_ges, cmp_les, cmp_ins, cmp_int, cmp_is, cmp_isn, cmp_eq0s, cmp_eqs0, strsOf, aug_add, aug_sub, aug_adds, Option.map_some, Option.map_none, Option.bind_some, List.nil_append, List.append_nil, List.cons_append, List.any_cons, List.any_nil, List.length_cons, List.length_nil, Bool.not_true, Bool.not_false, Bool.true_and, Bool.and_true, Bool.false_and, Bool.and_false, Bool.or_false, Bool.false_or, Bool.true_or, Bool.or_true, truth_none, truth_bool, truth_int, truth_str, sub_str, sub_tup, sub_lst, sub_glo, sub_dict, slice_str, sliceS_, slice_obj, sliceO_, word_0, word_1, word_2, word_01, word_02, word_m1, word_14, ne_eq, Int.reduceEq, not_false_eq_true, intOpt_none, intOpt_int, items_tup, binM_addo, addO_, listAt_end1, bm10, negM_, lb0, lb1, lb2, lb3, lb4, lb5, lb6, lb7, lb8, Nat.reduceAdd, Nat.zero_add, bi_len_s, bi_len_t, bi_len_o, bi_isi_bool, bi_isi_str, bi_isi_list, bi_isi_dict, bi_all_, bi_ord_, bi_app_, bi_pop_, bi_strip_, bi_rstrip_, bi_join_, bi_index_, bi_end_, bi_groups_, ty_range, ty_int, meth_strip, meth_rstrip, meth_join, meth_index, meth_match, meth_end, meth_groups, listAt_end, get_end, isInst, String.reduceBEq, nk_lc, nk_fc, nk_gc, nk_ll, nk_fl, nk_gl, nk_sl, sk_f, free_nil, free_free, free_local, free_glob, free_cell, iter_str, iter_rng, iter_o, iterO_l, iterO_d, List.all_cons, List.all_nil, items_obj, slice_ch, slice_ch1, slice_ch0, slice_ch01, sl_from, sl_from1, sl_1, sl_to, sl_to1, sl_two, index_n, index_0, index_1, cellAt_of, Int.reduceBNe, Int.reduceBEq, Nat.reduceBEq, Nat.reduceBNe, true_and, and_true, and_self, *])
def isB : R → Bool
  | .bool _ => true
  | _ => false
theorem isInst_RV {H : Hp} {r : R} {v : V} (h : RV H r v) : isInst v "bool" H = some (isB r) := by
  cases r with
  | frac w =>
    obtain ⟨k, rfl, hk⟩ := h
    simp only [isInst, get_listAt hk]; rfl
  | _ => rw [show v = _ from h]; rfl
theorem eqV_RV {H : Hp} {r : R} {v w : V} {n : Nat} (h : RV H r v) (h' : RV H r w) : eqV (n + 3) H v w = some true := by
  cases r with
  | frac l =>
    obtain ⟨k, rfl, hk⟩ := h
    obtain ⟨k', rfl, hk'⟩ := h'
    simp only [eqV, get_listAt hk, get_listAt hk', fracV, eqL]
    simp
  | _ => rw [show v = _ from h, show w = _ from h']; simp [eqV]
theorem eq_told {H : Hp} {r : R} {v w : V} {n e k : Nat} (he : H[e]? = some (.list [v, .int n])) (hk : H[k]? = some (.list [w, .int n])) (h : RV H r v) (h' : RV H r w) : cmpM .Eq (.obj e) (.obj k) H = some true := by
  have e1 : eqV 39 H v w = some true := eqV_RV (n := 36) h h'
  have e2 : eqV 39 H (.int n) (.int n) = some true := by simp [eqV]
  have e3 : cmpM .Eq (.obj e) (.obj k) H = match H[e]?, H[k]? with
      | some (.list xs), some (.list ys) => eqL (eqV 39 H) xs ys
      | _, _ => none := rfl
  rw [e3, he, hk]
  simp only [eqL, e1, e2]
  rfl
def pcs : List (List Nat) := pieces.map fun s => s.toList.map Char.toNat
def pcN (k : Nat) : List Nat := (pcs[k]?).getD []
theorem pcs_get {k : Nat} (h : k < 26) : (pieces.map strV)[k]? = some (.str (pcN k)) := by
  have e : pieces.map strV = pcs.map V.str := by unfold pcs; rw [List.map_map]; rfl
  have hl : pcs.length = 26 := rfl
  rw [e, List.getElem?_map]
  unfold pcN
  rw [List.getElem?_eq_getElem (by omega)]; rfl
def ens : List (List Nat) := [[], [10], [13, 10], [10, 125]]
theorem pcs_len : ∀ p ∈ pcs, p.length ≤ 8 := by decide
theorem pcN_mem {k : Nat} (h : k < 26) : pcN k ∈ pcs := by
  unfold pcN
  have hl : pcs.length = 26 := rfl
  rw [List.getElem?_eq_getElem (by omega)]; exact List.getElem_mem _
def enN (k : Nat) : List Nat := (ens[k]?).getD []
def lineOf (k0 : Nat) (mid : List Int) : List Nat := pcN k0 ++ joinL [] (mid.map fun n => pcN (n.fmod 26).toNat)
theorem join_len {ls : List (List Nat)} {b : Nat} (h : ∀ l ∈ ls, l.length ≤ b) : (joinL [] ls).length ≤ ls.length * b := by
  rw [joinL_nil]
  induction ls with
  | nil => simp
  | cons a r ih =>
    rw [List.flatten_cons, List.length_append, List.length_cons, Nat.add_mul, Nat.one_mul]
    have h1 := h a (by simp)
    have h2 := ih fun l hl => h l (by simp [hl])
    omega
def headOk (l : List Nat) : Bool := match l with
  | [] => false
  | c :: _ => !isWs c && (c != 44 && (c != 125 && (c != 93 && (c != 35 && (c != 47 && (c != 91 && (c != 123 && c != 58)))))))
theorem heads : ∀ k, k < 12 → headOk (pcN k) = true := by decide
theorem pcs_ok : ∀ p ∈ pcs, ∀ x ∈ p, x < 128 ∧ x ≠ 10 ∧ x ≠ 13 ∧ (isWs x = true → isBl x = true) := by decide
theorem ens_ok : ∀ k, k < 4 → (enN k = [] ∨ enN k = [10] ∨ enN k = [13, 10] ∨ enN k = [10, 125]) ∧ (enN k).length ≤ 2 ∧ ascii (enN k) = true := by decide
theorem line_is {k0 kl : Nat} {mid : List Int} (h0 : k0 < 12) (hl : kl < 4) : ∃ c t, LineIs (lineOf k0 mid) (enN kl) c t := by
  have h1 := heads k0 h0
  unfold headOk at h1
  split at h1
  · cases h1
  · rename_i c r e
    simp only [Bool.and_eq_true, bne_iff_ne, Bool.not_eq_true'] at h1
    refine ⟨c, r ++ joinL [] (mid.map fun n => pcN (n.fmod 26).toNat), ⟨by unfold lineOf; rw [e]; rfl, fun x hx => ?_, h1.1, ⟨h1.2.1, h1.2.2.1, h1.2.2.2.1, h1.2.2.2.2.1, h1.2.2.2.2.2.1, h1.2.2.2.2.2.2.1, h1.2.2.2.2.2.2.2.1, h1.2.2.2.2.2.2.2.2⟩, (ens_ok kl hl).1⟩⟩
    unfold lineOf at hx
    rw [joinL_nil] at hx
    rcases List.mem_append.mp hx with hx | hx
    · exact pcs_ok _ (pcN_mem (by omega)) x hx
    · obtain ⟨p, hp, hxp⟩ := List.mem_flatten.mp hx
      obtain ⟨n, _, rfl⟩ := List.mem_map.mp hp
      obtain ⟨ka, hka, hkal⟩ := fmod_nat (x := n) (m := 26) (by decide)
      have hka' : n.fmod 26 = (ka : Int) := hka
      have : (n.fmod 26).toNat = ka := by rw [hka']; rfl
      rw [this] at hxp
      exact pcs_ok _ (pcN_mem hkal) x hxp
def xsOf (ns : List Int) : List Int := if ns.take 14 = [] then [0] else ns.take 14
section
variable {ns : List Int} {d : Nat} {H : Hp} {Q : Out → Prop}
theorem lawW_ (hns : ns.length ≤ 63) (hq : ∀ X, Q ⟨.ret (.bool true), [], H ++ X⟩) :
    WT (TL ns) (.call (.glo "law") [.glo "script"] [] 0 H) Q := by
  rw [WT_fnP (i := fnI "law" (stAt 30) [] false) rfl (b := [("script", .glo "script")]) rfl (by decide) rfl]
  walk_at "B"
  have hb0 : (ns.map V.int).length ≤ big := by rw [List.length_map]; unfold big; omega
  walk_at "W"
  have htk : (sliceL ns none (some 14)).length ≤ 14 := by rw [show (some 14 : Option Int) = some ((14 : Nat) : Int) from rfl, slG_to, List.length_take]; omega
  have htk2 : sliceL ns none (some 14) = ns.take 14 := by rw [show (some 14 : Option Int) = some ((14 : Nat) : Int) from rfl, slG_to]
  refine comp_mapL (sliceL ns none (some 14)) V.int V.int rfl ?_ (by unfold big; omega) ?_ ?_
  · exact listAt_end
  · intro a ha xs loc
    walk_at "W"
  intro loc
  walk_at "W"
  refine KBl2_mono (P := fun a => ∃ idx X, a = (.obj idx, H ++ X) ∧ listAt (H ++ X) idx = some ((xsOf ns).map V.int)) ?_ ?_
  · cases hn : ns.take 14 with
    | nil =>
      have hx : xsOf ns = [0] := by unfold xsOf; rw [if_pos hn]
      simp only [List.map_nil, List.isEmpty_nil, Bool.not_true]
      walk_at "W"
      try rw [hx]
      exact ⟨_, _, by rw [List.append_assoc, List.append_assoc], by rw [← List.append_assoc, ← List.append_assoc]; exact listAt_end⟩
    | cons a r =>
      have hx : xsOf ns = a :: r := by unfold xsOf; rw [if_neg (by rw [hn]; simp), hn]
      simp only [List.map_cons, List.isEmpty_cons, Bool.not_false]
      walk_at "W"
      try rw [hx]
      exact ⟨_, _, by rw [List.append_assoc], by rw [← List.append_assoc]; exact listAt_end⟩
  rintro a ⟨idx, X, rfl, hidx⟩
  have hxl : (xsOf ns).length ≤ 14 := by
    unfold xsOf; split
    · simp
    · rw [List.length_take]; omega
  obtain ⟨x0, hx0⟩ : ∃ x0, (xsOf ns)[0]? = some x0 := by
    unfold xsOf; split
    · exact ⟨0, rfl⟩
    · rename_i h; cases hh : ns.take 14 with
      | nil => exact absurd hh h
      | cons a r => exact ⟨a, rfl⟩
  obtain ⟨xl, hlast⟩ : ∃ xl, indexL ((xsOf ns).map V.int) (-1) = some (.int xl) := by
    refine ⟨(xsOf ns).getLast (fun h => by rw [h] at hx0; cases hx0), ?_⟩
    conv => lhs; rw [← List.dropLast_concat_getLast (l := xsOf ns) (fun h => by rw [h] at hx0; cases hx0)]
    rw [List.map_append]; exact index_last
  have hfirst : ((xsOf ns).map V.int)[0]? = some (.int x0) := by rw [List.getElem?_map, hx0]; rfl
  obtain ⟨k0, hk0, hk0l⟩ := fmod_nat (x := x0) (m := 12) (by decide)
  obtain ⟨kl, hkl, hkll⟩ := fmod_nat (x := xl) (m := 4) (by decide)
  have hk0' : x0.fmod 12 = (k0 : Int) := hk0
  have hkl' : xl.fmod 4 = (kl : Int) := hkl
  clear hk0 hkl
  have hw0 : wordI (k0 : Int) = true := wordN (by omega)
  have hwl : wordI (kl : Int) = true := wordN (by omega)
  have hgI : (H ++ X)[idx]? = some (.list ((xsOf ns).map V.int)) := get_listAt hidx
  have hp0 := pcs_get (k := k0) (by omega)
  walk_at "W"
  have hml : (sliceL (xsOf ns) (some 1) (some (-1))).length ≤ 14 := Nat.le_trans sliceL_len hxl
  generalize sliceL (xsOf ns) (some 1) (some (-1)) = mid at *
  refine comp_mapL mid V.int (fun n => .str (pcN (n.fmod 26).toNat)) rfl ?_ (by unfold big; omega) ?_ ?_
  · exact listAt_end
  · intro a ha xs loc
    obtain ⟨ka, hka, hkal⟩ := fmod_nat (x := a) (m := 26) (by decide)
    have hka' : a.fmod 26 = (ka : Int) := hka
    have hwa : wordI (ka : Int) = true := wordN (by omega)
    have hpa := pcs_get hkal
    have e1 : (a.fmod 26).toNat = ka := by rw [hka']; rfl
    clear hka
    walk_at "W"
    rfl
  intro loc
  have hst := strsOf_map (fun n : Int => pcN (n.fmod 26).toNat) mid
  have hjl := join_len (ls := mid.map fun n : Int => pcN (n.fmod 26).toNat) (b := 8) (fun l hl => by
    obtain ⟨n, _, rfl⟩ := List.mem_map.mp hl
    obtain ⟨ka, hka, hkal⟩ := fmod_nat (x := n) (m := 26) (by decide)
    have hka' : n.fmod 26 = (ka : Int) := hka
    have : (n.fmod 26).toNat = ka := by rw [hka']; rfl
    rw [this]
    exact pcs_len _ (pcN_mem hkal))
  rw [List.length_map] at hjl
  have hp0l : (pcN k0).length ≤ 8 := pcs_len _ (pcN_mem (by omega))
  have hb1 : (joinL [] (mid.map fun n : Int => pcN (n.fmod 26).toNat)).length ≤ big := by unfold big; omega
  have hb2 : (pcN k0).length + (joinL [] (mid.map fun n : Int => pcN (n.fmod 26).toNat)).length ≤ big := by unfold big; omega
  have hgI2 : ∀ Y, (H ++ X ++ Y)[idx]? = some (.list ((xsOf ns).map V.int)) := fun Y => by
    rw [get_app (List.getElem?_eq_some_iff.mp hgI).1]; exact hgI
  have hlI2 : ∀ Y, listAt (H ++ X ++ Y) idx = some ((xsOf ns).map V.int) := fun Y => listAt_get (hgI2 Y)
  have hlI3 : ∀ Y Z, listAt (H ++ X ++ Y ++ Z) idx = some ((xsOf ns).map V.int) := fun Y Z => by rw [List.append_assoc (H ++ X)]; exact hlI2 _
  have hlI4 : ∀ Y Z U, listAt (H ++ X ++ Y ++ Z ++ U) idx = some ((xsOf ns).map V.int) := fun Y Z U => by rw [List.append_assoc (H ++ X ++ Y), List.append_assoc (H ++ X)]; exact hlI2 _
  have hen : ([V.str [], V.str [10], V.str [13, 10], V.str [10, 125]] : List V)[kl]? = some (.str (enN kl)) := by
    have : kl = 0 ∨ kl = 1 ∨ kl = 2 ∨ kl = 3 := by omega
    rcases this with rfl | rfl | rfl | rfl <;> rfl
  walk_at "W"
  obtain ⟨c, t, L⟩ := line_is (mid := mid) hk0l hkll
  have hln : (lineOf k0 mid).length ≤ 200 := by unfold lineOf; rw [List.length_append]; omega
  unfold lineOf at L hln
  have hX3 : ∃ X3, H ++ X ++ [O.list (List.map V.int mid)] ++ [O.list (List.map (fun n => V.str (pcN (n.fmod 26).toNat)) mid)] ++ [O.list [V.str [], V.str [10], V.str [13, 10], V.str [10, 125]]] = H ++ X3 := ⟨_, by rw [List.append_assoc, List.append_assoc, List.append_assoc]⟩
  obtain ⟨X3, hX3⟩ := hX3
  rw [hX3]
  clear hX3 hlI2 hlI3 hlI4 hgI2 hgI hlast hfirst hb1 hb2 hjl hst hp0 hen hidx hx0
  generalize (pcN k0 ++ joinL [] (List.map (fun n => pcN (n.fmod 26).toNat) mid)) = line at *
  obtain ⟨_, hel, hea⟩ := ens_ok kl hkll
  have hen := (ens_ok kl hkll).1
  generalize enN kl = en at *
  have hca : ∀ x ∈ line, x < 128 := fun x hx => (L.ok x hx).1
  have hla : ascii line = true := List.all_eq_true.mpr fun x hx => by simpa using hca x hx
  have hsa : ascii (line ++ en) = true := by unfold ascii at hla hea ⊢; rw [List.all_append, hla, hea]; rfl
  have hsl : (line ++ en).length ≤ 202 := by rw [List.length_append]; omega
  have hb3 : line.length + en.length ≤ big := by unfold big; omega
  obtain ⟨hm1, hm2, hm3⟩ := law_meets L _ _ (Prod.eta _).symm
  have hc0 : (line ++ en)[0]? = some c := by rw [L.hd]; rfl
  have hcw : isBl c = false := by have := L.cw; unfold isWs at this; unfold isBl; simp at this ⊢; omega
  have hcs : subIn [c] [32, 9, 10, 13] = false := by
    rw [subIn_one]; have := L.cw; unfold isWs at this; simp at this ⊢; omega
  have hcp : subIn [c] [123, 125, 91, 93, 44, 58] = false := by
    rw [subIn_one]; have := L.cb; simp; omega
  have hN := num_hN (s := line ++ en) (by rw [L.hd]; rfl) hcw (by omega)
  refine dec_ (by decide) (fun fs X4 f1 f2 => ?_)
  walk_at "W"
  refine scantf_ get_mid f1 f2 (by omega) hsa hc0 hcs L.cb.2.2.2.1 L.cb.2.2.2.2.1 hcp hN (by rw [List.length_append]; omega) hm2 hm3 (by decide) (fun v X5 hv => ?_)
  walk_at "W"
  refine wanted_ (by omega) hla (by decide) (fun k X6 v0 hk hv0 => ?_)
  have hgk := get_listAt hk
  generalize wantAt line (cutsOf line ++ [line.length]) = rn at *
  obtain ⟨r, n⟩ := rn
  dsimp only at *
  have hv' := RV_app (X := X6) hv
  have hi1 := isInst_RV hv'
  have hi2 := isInst_RV hv0
  have hbb : (isB r == isB r) = true := by simp
  walk_at "W"
  rw [eq_told (r := r) get_end (by rw [get_app (List.getElem?_eq_some_iff.mp hgk).1]; exact hgk) (RV_app hv') (RV_app hv0)]
  walk_at "W"
  simp only [List.append_assoc]
  exact hq _
end

end Mine.R

end
section
open PySem PySem.W PySem.Calls PyProof.Rows
set_option autoImplicit false
namespace Mine.R
/-! ## what the head's tree of objects tells -/
def fdAt (K : Frag) (a : Addr) : Option FuncData := match K.lookup a with
  | some ⟨_, _, .func fd, _⟩ => some fd
  | _ => none
theorem fdAt_get {K : Frag} {h : Heap} (X : K.In h) {a : Addr} {fd : FuncData} (e : fdAt K a = some fd) : ∃ o, h.get? a = some o ∧ o.data = .func fd := by
  unfold fdAt at e
  split at e
  · rename_i c d fd' sl hl
    cases e
    exact ⟨_, X _ _ hl, rfl⟩
  · cases e
def all2 {α β : Type} (f : α → β → Bool) : List α → List β → Bool
  | [], [] => true
  | a :: r, b :: q => f a b && all2 f r q
  | _, _ => false
/-- simple values -/
def vOk (addr : Str → Option Addr) : V → Value → Bool
  | .none, .none => true
  | .bool b, .bool c => b == c
  | .str l, .str s _ => s.cps.toList == l && decide (l.length ≤ 1000)
  | .glo x, .ref a => addr x == some a
  | .st (.builtin i), .builtin j => i == j
  | .st (.type i), .type j => i == j
  | _, _ => false
theorem vOk_VR {G : Gx} {h : Heap} {v : V} {w : Value} (e : vOk G.addr v w = true) : VR G [] h v w := by
  unfold vOk at e
  split at e
  · exact .none
  · rename_i b c; obtain rfl : b = c := by simpa using e
    exact .bool b
  · rename_i l s t
    simp only [Bool.and_eq_true, beq_iff_eq, decide_eq_true_eq] at e
    obtain ⟨rfl, e2⟩ := e
    have : s = ⟨s.cps.toList.toArray⟩ := by cases s; simp
    rw [this]
    have h2 : (⟨s.cps.toList.toArray⟩ : Str).cps.toList = s.cps.toList := by simp
    rw [h2]
    exact .str _ t (by unfold big; omega)
  · exact .glo (by simpa using e)
  · rename_i i j; obtain rfl : i = j := by simpa using e
    exact .bi i
  · rename_i i j; obtain rfl : i = j := by simpa using e
    exact .ty i
  · cases e
theorem all2_VRs {G : Gx} {h : Heap} : ∀ {vs : List V} {ws : List Value}, all2 (vOk G.addr) vs ws = true → VRs G [] h vs ws
  | [], [], _ => VRs.nil
  | v :: vs, w :: ws, e => by
    unfold all2 at e
    rw [Bool.and_eq_true] at e
    exact VRs.cons (vOk_VR e.1) (all2_VRs e.2)
  | [], _ :: _, e => by cases e
  | _ :: _, [], e => by cases e
def dfOk (K : Frag) (addr : Str → Option Addr) (vs : List V) (d : Option Value) : Bool := match d with
  | some .none => vs.isEmpty
  | some (.ref T) => match K.lookup T with
    | some ⟨_, _, .seq items _, _⟩ => all2 (vOk addr) vs items.toList
    | _ => false
  | _ => false
def fdMeta (K : Frag) (fd : FuncData) := (fd.params, fd.body, fd.scope, fd.closure, fd.globals, fd.builtins, codeIn K fd.code fd.qualname)
def FnE (K : Frag) (i : FnI) (a : Addr) : Prop := (fdAt K a).map (fdMeta K) = some (i.params, .stmts (upS i.body).l, i.sc, [], mainGlobals, builtinsNs, true)
def FnT (K : Frag) (a c : Addr) (q : Str) : Prop := (fdAt K a).map (fun fd => (fd.code, fd.qualname ++ (".<locals>." : Str))) = some (.ref c, q)
theorem fn_ok {G : Gx} (X : G.frag.In G.base) {x : Str} {i : FnI} {a : Addr} (ha : G.addr x = some a) (e : FnE G.frag i a)
    (hd : dfOk G.frag G.addr i.dflt ((fdAt G.frag a).map (·.defaults)) = true) (ht : i.tab = true → ∃ c P, FnT G.frag a c (G.tqual c) ∧ (c, P) ∈ G.tabs) : FnOK G x i := by
  unfold FnE at e
  obtain ⟨fd, hfd, hm⟩ := Option.map_eq_some_iff.mp e
  obtain ⟨o, ho, hod⟩ := fdAt_get X hfd
  unfold fdMeta at hm
  simp only [Prod.mk.injEq] at hm
  obtain ⟨h1, h2, h3, h4, h5, h6, h7⟩ := hm
  rw [hfd] at hd
  simp only [Option.map_some] at hd
  refine ⟨a, o, fd.name, fd.qualname, fd.defaults, fd.kwdefaults, fd.doc, fd.pyModule, fd.annotations, fd.code, fd.closureTuple, ha, ho, ?_, codeRec_of X h7, ?_, fun q => ?_⟩
  · rw [hod]
    obtain ⟨n, q, ps, b, sc, gl, cl, df, kd, dc, pm, an, cd, ct, bi⟩ := fd
    simp only at h1 h2 h3 h4 h5 h6
    subst h1 h2 h3 h4 h5 h6
    rfl
  · unfold dfOk at hd
    split at hd
    · rename_i e1; injection e1 with e1
      exact .inl ⟨by simpa using hd, e1⟩
    · rename_i T e1; injection e1 with e1
      split at hd
      · rename_i c d items n sl hl
        exact .inr ⟨T, _, n, items, e1, X _ _ hl, rfl, all2_VRs hd⟩
      · cases hd
    · cases hd
  · obtain ⟨c, P, hc, hp⟩ := ht q
    unfold FnT at hc
    rw [hfd] at hc
    simp only [Option.map_some, Option.some.injEq, Prod.mk.injEq] at hc
    exact ⟨c, P, hc.1, hp, hc.2⟩
def gvAt (K : Frag) (x : Str) : Option (Option Value) := match K.lookup mainGlobals with
  | some ⟨_, _, .dict es _, _⟩ => some (nsFind es x)
  | _ => none
theorem gvAt_get {K : Frag} {h : Heap} {mg : Str → Option Value} (X : K.In h) (g : h.Ns mainGlobals mg) {x : Str} {r : Option Value} (e : gvAt K x = some r) : mg x = r := by
  unfold gvAt at e
  split at e
  · rename_i c d es n sl hl
    cases e
    obtain ⟨o, es', ep, h1, h2, _, h4⟩ := g
    rw [X _ _ hl] at h1
    cases h1
    cases h2
    exact (h4 x).symm
  · cases e
def gOk (K : Frag) (addr : Str → Option Addr) (p : Str × V) : Bool := match gvAt K p.1 with
  | some (some v) => vOk addr p.2 v
  | some none => p.1 != "__name__" && (match bootBuiltins p.1 with | some v => vOk addr p.2 v | none => false)
  | none => false
theorem lookup_mem {α β : Type} [BEq α] [LawfulBEq α] {l : List (α × β)} {x : α} {v : β} (h : l.lookup x = some v) : (x, v) ∈ l := by
  induction l with
  | nil => cases h
  | cons p r ih =>
    obtain ⟨y, w⟩ := p
    rw [List.lookup_cons] at h
    by_cases e : x = y
    · subst e; rw [beq_self_eq_true] at h; cases h; simp
    · have : (x == y) = false := by simpa using e
      rw [this] at h
      exact List.mem_cons_of_mem _ (ih h)
theorem g_ok {G : Gx} (X : G.frag.In G.base) {mg mb : Str → Option Value} (hg : G.base.Ns mainGlobals mg) (hb : ∀ x : Str, x ≠ "__name__" → mb x = bootBuiltins x) {tab : List (Str × V)} (e : tab.all (gOk G.frag G.addr) = true) :
    ∀ x v, tab.lookup x = some v → ∃ v', (mg x = some v' ∨ (mg x = none ∧ mb x = some v')) ∧ VR G [] G.base v v' := by
  intro x v h
  have h1 := List.all_eq_true.mp e _ (lookup_mem h)
  unfold gOk at h1
  split at h1
  · rename_i w hw
    exact ⟨w, .inl (gvAt_get X hg hw), vOk_VR h1⟩
  · rename_i hw
    rw [Bool.and_eq_true, bne_iff_ne] at h1
    obtain ⟨h2, h3⟩ := h1
    split at h3
    · rename_i w hw2
      exact ⟨w, .inr ⟨gvAt_get X hg hw, by rw [hb x h2]; exact hw2⟩, vOk_VR h3⟩
    · cases h3
  · cases h1
/-- the class of the decoder -/
def clsOk (K : Frag) (addr : Str → Option Addr) (C : Addr) (ms : List (Str × Str)) : Bool :=
  plainGet K C "" && hasDictIn K C && plainOver K C && (match findIn K (.ref C) "__setattr__" with | some (some (.builtin n)) => n == "object.__setattr__" | _ => false) &&
  fieldNames.all (fun x => match findIn K (.ref C) x with | some none => true | _ => false) &&
  ms.all (fun p => match addr p.2, findIn K (.ref C) p.1 with | some f, some (some (.ref f')) => f == f' && isFn K (.ref f) | _, _ => false) && keepIn K (.ref C) && makesIn K C
theorem cls_ok {G : Gx} {c : Str} {C : Addr} {ms : List (Str × Str)} (hm : ∀ x q, G.T.meth c x = some q → (x, q) ∈ ms) (e : clsOk G.frag G.addr C ms = true) : ClsOK G c C := by
  unfold clsOk at e
  simp only [Bool.and_eq_true] at e
  obtain ⟨⟨⟨⟨⟨⟨⟨e1, e2⟩, e3⟩, e4⟩, e5⟩, e6⟩, e7⟩, e8⟩ := e
  refine ⟨e1, e2, e3, ?_, fun x hx => ?_, fun x q hq => ?_, e7, e8⟩
  · split at e4
    · rename_i n hn; rw [hn, (by simpa using e4 : n = "object.__setattr__")]
    · cases e4
  · have := List.all_eq_true.mp e5 x hx
    split at this
    · rename_i hn; exact hn
    · cases this
  · have := List.all_eq_true.mp e6 _ (hm x q hq)
    split at this
    · rename_i f f' h1 h2
      rw [Bool.and_eq_true, beq_iff_eq] at this
      obtain ⟨rfl, h3⟩ := this
      exact ⟨f, h1, h2, h3⟩
    · cases this
def patOk (K : Frag) (a : Addr) : Bool := match K.lookup a with
  | some ⟨.type n, none, .fields vs, _⟩ => n == "re.Pattern" && (match vs.toList with
    | [_, _, .int 3 _, _, _, .ref L, .int 0 _] => (match K.lookup L with
      | some ⟨_, _, .seq items _, _⟩ => ((items.map Builtin.Re.reRawOf).map (·.toNat)).toList == numC.toList
      | _ => false)
    | _ => false)
  | _ => false
theorem pat_ok {G : Gx} (X : G.frag.In G.base) {a : Addr} (e : patOk G.frag a = true) : ∃ o, G.base.get? a = some o ∧ o.cls = .type "re.Pattern" ∧ o.dict = none ∧ patData G o.data := by
  unfold patOk at e
  split at e
  · rename_i n vs sl hl
    rw [Bool.and_eq_true, beq_iff_eq] at e
    obtain ⟨rfl, e2⟩ := e
    split at e2
    · rename_i f0 f1 t2 f3 f4 L t6 hv
      split at e2
      · rename_i c d items n sl2 hl2
        refine ⟨_, X _ _ hl, rfl, rfl, f0, f1, f3, f4, L, t2, t6, _, items, n, ?_, X _ _ hl2, rfl, ?_⟩
        · have : vs = vs.toList.toArray := by simp
          rw [this, hv]
        · have := beq_iff_eq.mp e2
          exact Array.toList_inj.mp this
      · cases e2
    · cases e2
  · cases e
def lstOk (K : Frag) (addr : Str → Option Addr) (a : Addr) (xs : List V) : Bool := match K.lookup a with
  | some ⟨.type n, _, .seq items _, _⟩ => n == "list" && all2 (vOk addr) xs items.toList
  | _ => false
theorem lst_ok {G : Gx} (X : G.frag.In G.base) {a : Addr} {xs : List V} (e : lstOk G.frag G.addr a xs = true) : ∃ o items n, G.base.get? a = some o ∧ o.cls = .type "list" ∧ o.data = .seq items n ∧ VRs G [] G.base xs items.toList := by
  unfold lstOk at e
  split at e
  · rename_i n d items k sl hl
    rw [Bool.and_eq_true, beq_iff_eq] at e
    obtain ⟨rfl, e2⟩ := e
    exact ⟨_, items, k, X _ _ hl, rfl, rfl, all2_VRs e2⟩
  · cases e
theorem ints_VRs {G : Gx} {h : Heap} {vs : List Value} {ns : List Int} (e : IntsAre vs ns) : VRs G [] h (ns.map V.int) vs := by
  induction e with
  | nil => exact VRs.nil
  | cons n t _ ih => exact VRs.cons (.int n t) ih
def clsIs (K : Frag) (a : Addr) : Bool := match K.lookup a with
  | some ⟨.type n, _, _, _⟩ => n == "function"
  | _ => false
theorem clsIs_get {K : Frag} {h : Heap} (X : K.In h) {a : Addr} (e : clsIs K a = true) : ∃ o, h.get? a = some o ∧ o.cls = .type "function" := by
  unfold clsIs at e
  split at e
  · rename_i n d da sl hl
    exact ⟨_, X _ _ hl, by rw [beq_iff_eq.mp e]⟩
  · cases e
end Mine.R

end
section
open PySem PySem.W PySem.Calls PyProof.Rows
set_option autoImplicit false
namespace Mine.R
def addrTab : List (Str × Addr) := [("getNext", 87), ("scantfnns", 123), ("make_scanner", 138), ("whole", 160), ("HjsonDecoder", 193), ("HjsonDecoder.__init__", 175), ("_law_pieces", 198), ("_law_fraction", 205), ("_law_digits", 210), ("_law_number", 215), ("_law_wanted", 220), ("law", 225),
  ("NUMBER_RE", 74), ("JSONObject", 146), ("JSONArray", 153), ("scanstring", 109), ("mlscanstring", 116)]
def addrOf (sa : Addr) (x : Str) : Option Addr := if x == "script" then some sa else addrTab.lookup x
def scanQ : Str := "make_scanner.<locals>."
def gxOf (prog : Program) (w : World) (ns : List Int) (base : Heap) (sa : Addr) (gens : Array GenState) (os : OsState) (K : Frag) : Gx :=
  { prog := prog, w := w, T := TL ns, base := base, tabs := [(137, 133)], addr := addrOf sa, gens := gens, os := os, frag := K, tqual := fun _ => scanQ }
/-- what is to be seen in the tree of objects -/
structure SeenK (K : Frag) : Prop where
  f1 : FnE K (fnI "getNext" (stAt 12) [] false) 87
  f2 : FnE K (fnI "scantfnns" (stAt 17) [] false) 123
  f3 : FnE K (fnI "make_scanner" (stAt 19) [] true) 138
  f4 : FnE K (fnI "whole" (stAt 22) [] false) 160
  f5 : FnE K (fnI "HjsonDecoder.__init__" (kidAt 23 0) [.none, .none, .none, .none, .bool true, .none] false) 175
  f6 : FnE K (fnI "_law_fraction" (stAt 26) [] false) 205
  f7 : FnE K (fnI "_law_digits" (stAt 27) [] false) 210
  f8 : FnE K (fnI "_law_number" (stAt 28) [] false) 215
  f9 : FnE K (fnI "_law_wanted" (stAt 29) [] false) 220
  f10 : FnE K (fnI "law" (stAt 30) [] false) 225
  t3 : FnT K 138 137 scanQ
  rest : ∀ sa, (dfOk K (addrOf sa) [] ((fdAt K 87).map (·.defaults)) && dfOk K (addrOf sa) [] ((fdAt K 123).map (·.defaults)) && dfOk K (addrOf sa) [] ((fdAt K 138).map (·.defaults)) && dfOk K (addrOf sa) [] ((fdAt K 160).map (·.defaults)) &&
    dfOk K (addrOf sa) [.none, .none, .none, .none, .bool true, .none] ((fdAt K 175).map (·.defaults)) && dfOk K (addrOf sa) [] ((fdAt K 205).map (·.defaults)) && dfOk K (addrOf sa) [] ((fdAt K 210).map (·.defaults)) &&
    dfOk K (addrOf sa) [] ((fdAt K 215).map (·.defaults)) && dfOk K (addrOf sa) [] ((fdAt K 220).map (·.defaults)) && dfOk K (addrOf sa) [] ((fdAt K 225).map (·.defaults)) &&
    globTab.all (gOk K (addrOf sa)) && clsOk K (addrOf sa) 193 [("__init__", "HjsonDecoder.__init__")] && patOk K 74 && lstOk K (addrOf sa) 198 (pieces.map strV) && clsIs K 205) = true
theorem gok {prog : Program} {w : World} {ns : List Int} {base : Heap} {sa : Addr} {gens : Array GenState} {os : OsState} {K : Frag} {mg mb : Str → Option Value} {vals : List Value} (X : K.In base) (S : SeenK K)
   (hg : base.Ns mainGlobals mg) (hbN : base.Ns builtinsNs mb) (hb : ∀ x : Str, x ≠ "__name__" → mb x = bootBuiltins x)
   (bm : ∃ bm ob, mg "__builtins__" = some (.ref bm) ∧ bm ≠ builtinsNs ∧ base.get? bm = some ob ∧ ob.cls = .type "module" ∧ ob.dict = some builtinsNs ∧ ob.data = .plain)
   (nl : base.NoLimit) (ch : CodeHd base 137 133) (gn : base.get? 133 = none) (sysm : ∃ o, base.get? sysModules = some o) (ls : base.IsList sa vals.toArray) (hI : IntsAre vals ns) :
   GOK (gxOf prog w ns base sa gens os K) := by
  have R := S.rest sa
  simp only [Bool.and_eq_true] at R
  obtain ⟨⟨⟨⟨⟨⟨⟨⟨⟨⟨⟨⟨⟨⟨r1, r2⟩, r3⟩, r4⟩, r5⟩, r6⟩, r7⟩, r8⟩, r9⟩, r10⟩, rg⟩, rc⟩, rp⟩, rl⟩, rt⟩ := R
  have hmeth : ∀ c x q, (TL ns).meth c x = some q → c = "HjsonDecoder" ∧ (x, q) ∈ [(("__init__" : Str), ("HjsonDecoder.__init__" : Str))] := by
    intro c x q h
    rw [TL_meth] at h
    split at h
    · rename_i hc
      rw [Bool.and_eq_true, beq_iff_eq, beq_iff_eq] at hc
      obtain ⟨rfl, rfl⟩ := hc
      cases h
      exact ⟨rfl, by simp⟩
    · cases h
  refine { fn := ?_, glob := ?_, nolimit := nl, kin := X, code := ?_, tnd := by simp [gxOf], cls := ?_, pat := ?_, lst := ?_, sysm := sysm, tru := ?_ }
  · intro x i h
    have h1 := lookup_mem (h : fnTab.lookup x = some i)
    simp only [fnTab, List.mem_cons, List.not_mem_nil, or_false, Prod.mk.injEq] at h1
    rcases h1 with ⟨rfl, rfl⟩ | ⟨rfl, rfl⟩ | ⟨rfl, rfl⟩ | ⟨rfl, rfl⟩ | ⟨rfl, rfl⟩ | ⟨rfl, rfl⟩ | ⟨rfl, rfl⟩ | ⟨rfl, rfl⟩ | ⟨rfl, rfl⟩ | ⟨rfl, rfl⟩
    · exact fn_ok (a := 87) X rfl S.f1 r1 (fun q => by cases q)
    · exact fn_ok (a := 123) X rfl S.f2 r2 (fun q => by cases q)
    · exact fn_ok (a := 138) X rfl S.f3 r3 (fun _ => ⟨137, 133, S.t3, by simp [gxOf]⟩)
    · exact fn_ok (a := 160) X rfl S.f4 r4 (fun q => by cases q)
    · exact fn_ok (a := 175) X rfl S.f5 r5 (fun q => by cases q)
    · exact fn_ok (a := 205) X rfl S.f6 r6 (fun q => by cases q)
    · exact fn_ok (a := 210) X rfl S.f7 r7 (fun q => by cases q)
    · exact fn_ok (a := 215) X rfl S.f8 r8 (fun q => by cases q)
    · exact fn_ok (a := 220) X rfl S.f9 r9 (fun q => by cases q)
    · exact fn_ok (a := 225) X rfl S.f10 r10 (fun q => by cases q)
  · refine ⟨mg, mb, hg, hbN, ?_, g_ok (G := gxOf prog w ns base sa gens os K) X hg hb rg⟩
    intro q hq
    have hq' : q = (137, 133) := by simpa [gxOf] using hq
    subst hq'
    obtain ⟨bm, ob, h1, h2, h3, h4, h5, h6⟩ := bm
    refine ⟨bm, ob, h1, h2, ?_, ?_, h3, h4, h5, h6⟩
    · rintro rfl
      obtain ⟨o, es, ep, g1, g2, _⟩ := hg
      rw [h3] at g1; cases g1
      rw [h6] at g2; cases g2
    · rintro rfl
      rw [gn] at h3; cases h3
  · intro q hq
    have hq' : q = (137, 133) := by simpa [gxOf] using hq
    subst hq'
    exact ⟨ch, gn⟩
  · intro c C hc hm
    obtain ⟨q, hq⟩ := Option.isSome_iff_exists.mp hm
    obtain ⟨rfl, _⟩ := hmeth c _ q hq
    have hC : C = 193 := by
      have : addrOf sa "HjsonDecoder" = some 193 := rfl
      have h2 : addrOf sa "HjsonDecoder" = some C := hc
      rw [this] at h2; cases h2; rfl
    subst hC
    exact cls_ok (ms := [("__init__", "HjsonDecoder.__init__")]) (fun x q h => (hmeth _ x q h).2) rc
  · intro a ha
    have hC : a = 74 := by
      have : addrOf sa "NUMBER_RE" = some 74 := rfl
      have h2 : addrOf sa "NUMBER_RE" = some a := ha
      rw [this] at h2; cases h2; rfl
    subst hC
    exact pat_ok (G := gxOf prog w ns base sa gens os K) X rp
  · intro x xs hx a ha
    have hx' : (if x == "_law_pieces" then some (pieces.map strV) else if x == "script" then some (ns.map V.int) else none) = some xs := hx
    split at hx'
    · rename_i hc
      obtain rfl := beq_iff_eq.mp hc
      cases hx'
      have hC : a = 198 := by
        have : addrOf sa "_law_pieces" = some 198 := rfl
        have h2 : addrOf sa "_law_pieces" = some a := ha
        rw [this] at h2; cases h2; rfl
      subst hC
      exact lst_ok (G := gxOf prog w ns base sa gens os K) X rl
    · split at hx'
      · rename_i hc
        obtain rfl := beq_iff_eq.mp hc
        cases hx'
        have hC : a = sa := by
          have : addrOf sa "script" = some sa := rfl
          have h2 : addrOf sa "script" = some a := ha
          rw [this] at h2; cases h2; rfl
        subst hC
        obtain ⟨o, h1, h2, n, h3⟩ := ls
        exact ⟨o, _, n, h1, h2, h3, by simpa using ints_VRs hI⟩
      · cases hx'
  · intro a ha
    have hC : a = 205 := by
      have : addrOf sa "_law_fraction" = some 205 := rfl
      have h2 : addrOf sa "_law_fraction" = some a := ha
      rw [this] at h2; cases h2; rfl
    subst hC
    exact clsIs_get X rt
/-- from the head to the end of the law -/
theorem join {prog : Program} {w : World} {ns : List Int} {base h₁ : Heap} {L sa fa : Addr} {cd : Value} {gens : Array GenState} {os : OsState} {drawn : Drawn} {toks : Nat} {K : Frag} {mg mb : Str → Option Value} {vals : List Value} {name : Str} {sc : Scope} {body : List Stmt}
   {Q : Flow → Shared → Prop} {E : Value → Shared → Prop} (X : K.In base) (S : SeenK K)
   (hg : base.Ns mainGlobals mg) (hbN : base.Ns builtinsNs mb) (hb : ∀ x : Str, x ≠ "__name__" → mb x = bootBuiltins x)
   (bm : ∃ bm ob, mg "__builtins__" = some (.ref bm) ∧ bm ≠ builtinsNs ∧ base.get? bm = some ob ∧ ob.cls = .type "module" ∧ ob.dict = some builtinsNs ∧ ob.data = .plain)
   (nl : base.NoLimit) (ch : CodeHd base 137 133) (gn : base.get? 133 = none) (sysm : ∃ o, base.get? sysModules = some o) (ls : base.IsList sa vals.toArray) (hI : IntsAre vals ns) (hns : ns.length ≤ 63)
   (F : Fr base L h₁ (fun x => List.lookup x [(("script" : Str), Value.ref sa)].reverse)) (N : h₁.get? 133 = some (tabObj #[])) (hL : 133 < L)
   (hbody : body = (upS (fnI "law" (stAt 30) [] false).body).l) (hsc : sc = (fnI "law" (stAt 30) [] false).sc)
   (hq : ∀ s', (∀ b o, base.get? b = some o → s'.heap.get? b = some o) → (∃ ps, s'.heap.get? 133 = some (tabObj ps)) → s'.gens = gens → s'.os = os → Q (.ret (.bool true)) s') :
   wpAny (model prog w) (callerA.deeper (envOf name sc L fa cd)) (execs body (envOf name sc L fa cd)) Q E ⟨h₁, gens, drawn, toks, os⟩ := by
  subst hbody hsc
  have KK : GOK (gxOf prog w ns base sa gens os K) := gok X S hg hbN hb bm nl ch gn sysm ls hI
  obtain ⟨n, a, hr, ha⟩ := (WT_fnP (i := fnI "law" (stAt 30) [] false) rfl (b := [("script", .glo "script")]) rfl (by decide) rfl).mp (lawW_ (H := []) (Q := fun o => o.f = .ret (.bool true)) hns (fun _ => rfl))
  have haf : a.f = .ret (.bool true) := by
    obtain ⟨f, loc, H⟩ := a
    cases f with
    | ret v => exact ha
    | next => cases ha
    | brk => cases ha
    | cont => cases ha
  have hLn : base.get? L = none := by
    cases h : base.get? L with
    | none => rfl
    | some o => exact absurd (Heap.lt_size h) (Nat.not_lt.mpr F.above)
  refine (simS KK (tasks KK n) (fnI "law" (stAt 30) [] false).body).2 (F := ⟨(fnI "law" (stAt 30) [] false).sc.names, [], 1, false⟩) (loc := [("script", .glo "script")]) (ρ := []) (H := []) ?_ ?_ hr ?_
  · refine ⟨⟨?_, ?_, rfl⟩, by decide, rfl, rfl, rfl, fun x => .inl rfl, rfl, fun q => by cases q⟩
    · show 1 + claimMargin + 1 ≤ _; decide
    · show 4 + 3 ≤ _; decide
  · refine ⟨⟨F.keep, fun q hq => ?_, rfl, fun i p o h => by simp at h, fun i j p q h => by simp at h, ?_, ?_, rfl, rfl⟩, ⟨?_, ?_, hLn, ?_, fun x i h => by cases h⟩⟩
    · have hq' : q = (137, 133) := by simpa [gxOf] using hq
      subst hq'
      refine ⟨#[], N, ?_, ?_⟩
      · first | trivial | exact .nil | constructor
      · intro pos c' h; cases h
    · rintro b ⟨p, hp, _⟩; cases hp
    · rintro b ⟨p, hp, _⟩; cases hp
    · refine ⟨_, F.ns, fun x v h => ?_⟩
      rw [List.lookup_cons] at h
      by_cases e : x = "script"
      · subst e
        rw [beq_self_eq_true] at h
        cases h
        exact ⟨.ref sa, rfl, .glo rfl⟩
      · have : (x == ("script" : Str)) = false := by simpa using e
        rw [this] at h; cases h
    · rintro ⟨p, hp, _⟩; cases hp
    · show L ∉ [133]
      intro h
      exact Nat.ne_of_gt hL (List.mem_singleton.mp h)
  · intro fl ρ' s' E' S' FR
    rw [haf] at FR
    cases FR with
    | ret V =>
    cases V
    refine hq s' S'.rel.base ?_ S'.rel.gens S'.rel.os
    obtain ⟨ps, h, _⟩ := S'.rel.tabs (137, 133) (by simp [gxOf])
    exact ⟨ps, h⟩
end Mine.R

end
open PySem PySem.W PyProof.Rows
set_option maxRecDepth 100000 in
set_option maxHeartbeats 8000000 in
theorem PySem.Challenge.cw_ew0010_02_holds : PySem.Challenge.rw_ew0010_02.Holds := by
  w_on; o_law; k_head; (case hw => w_witness2); w_strict (
    k_go0
    rename Frag.In _ _ => XX
    rename Top topProg _ _ _ _ _ => TT
    rename Ground _ _ _ _ _ _ _ _ _ => G0
    rename IntsAre _ _ => II
    rename Fr _ _ _ _ => FF
    rename News _ _ _ _ => NN
    rename CodeHd _ _ _ => CH
    rename Heap.IsList (ghostOf _ _) _ _ => LS
    refine Mine.R.join XX ?seen TT.g TT.b TT.builtins TT.bmain TT.nolimit CH ?gn ?sysm LS II ?hns FF ?gtab ?hlow ?hbody ?hsc ?hq
    case seen =>
      constructor
      case rest => intro sa; kernel_rfl
      all_goals (first | unfold Mine.R.FnE | unfold Mine.R.FnT)
      all_goals kernel_rfl
    case hbody => kernel_rfl
    case hsc => kernel_rfl
    case gtab => exact (NN _ (List.mem_cons_self ..)).1
    case gn => exact (NN _ (List.mem_cons_self ..)).2.2
    case hlow => assumption
    case hns => omega
    case sysm =>
      obtain ⟨mm, ⟨o, es, ep, ho, _⟩, _⟩ := (G0.T.seer (by kernel_rfl)).mods
      exact ⟨o, ghost_ne ho (by decide)⟩
    case hq =>
      intro s' hk hp hg ho
      refine ⟨⟨.inl ⟨.bool true, .bool true, [], rfl, ?_, .bool true, ?_, ?_⟩, hk, ho, hg.trans (by assumption)⟩, hp, trivial⟩
      · intro c; rfl
      · kernel_rfl
      · intro _; exact ⟨List.nodup_nil, fun a ha => by cases ha⟩)

