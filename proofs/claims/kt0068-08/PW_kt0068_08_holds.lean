import PyProof.Rows.All
import Wide.All
import OpenK.AllK
import Wide.FinOn
import KE.KPairComp
import KE.KLam
import PyProof.IsiPairs
import KE.KNestM
import Lean
import PySem.Challenge.RW_kt0068_08
set_option Elab.async false
/-! ## KA -/
namespace Mine
open PySem

/-- plain data; `ref n`: an entry of the store (a list that is still filled, an object); `app n`: its method append -/
inductive D where
  | none
  | bool (b : Bool)
  | int (i : Int)
  | str (s : List Nat)
  | tup (l : List D)
  | lst (l : List D)
  | ref (n : Nat)
  | app (n : Nat)
  | rng (a b : Int)
  | dic0
  | pat (k : Nat)
  | inst (c : Str) (fs : List (Str × D))
  | scr (l : List D)
  deriving Repr, Inhabited

inductive Mo where
  | lst (l : List D)
  | sent
  | dead
  deriving Repr, Inhabited

inductive Fl where
  | next | brk | cont
  | ret (d : D)
  deriving Repr, Inhabited

abbrev Vars := List (Str × D)
abbrev Sto := List Mo
abbrev Fn := List D → List (Str × D) → Sto → Option (D × Sto)

structure Gam where
  fn : Str → Option Fn
  con : Str → Option D
  meth : Str → Str → Option Fn
  grow : List Str := []
  res : List Str := []
  turns : Nat := 1000
  bi : Str → Option Fn := fun _ => none
  bm : Str → Option ((Sto → D → Bool) × Fn) := fun _ => none

/-- a built-in method that is told apart -/
def Gam.own (Γ : Gam) (m : Str) (st : Sto) (a : D) : Option Fn := match Γ.bm m with
  | some (g, F) => if g st a then some F else none
  | none => none

mutual
/-- Python's == over plain data -/
def D.beq : D → D → Bool
  | .none, .none => true
  | .bool a, .bool b => a == b
  | .bool a, .int j => (if a then 1 else 0) == j
  | .int i, .bool b => i == (if b then 1 else 0)
  | .int a, .int b => a == b
  | .str a, .str b => a == b
  | .tup a, .tup b => D.beqs a b
  | .lst a, .lst b => D.beqs a b
  | _, _ => false
def D.beqs : List D → List D → Bool
  | [], [] => true
  | a :: l, b :: r => D.beq a b && D.beqs l r
  | _, _ => false
end
/-- data of depth n at most, without objects -/
def D.ok : Nat → D → Bool
  | _, .none | _, .bool _ | _, .int _ | _, .str _ => true
  | n + 1, .tup l => l.all (D.ok n)
  | n + 1, .lst l => l.all (D.ok n)
  | _, _ => false

/-- equal data for Python: only where both sides are of one kind all through -/
def D.kind : D → Nat
  | .none => 0 | .bool _ => 1 | .int _ => 2 | .str _ => 3 | .tup _ => 4 | .lst _ => 5 | .ref _ => 6 | .app _ => 7 | .rng _ _ => 8 | .dic0 => 9 | .inst _ _ => 10 | .scr _ => 11 | .pat _ => 12

def Sto.items (st : Sto) : D → Option (List D)
  | .lst l => some l
  | .tup l => some l
  | .scr l => some l
  | .ref n => match st[n]? with
    | some (.lst l) => some l
    | _ => none
  | _ => none

def chars (s : List Nat) : List D := s.map fun c => .str [c]
def intsD (a : Int) : Nat → List D
  | 0 => []
  | n + 1 => .int a :: intsD (a + 1) n

def Sto.iter (st : Sto) : D → Option (List D)
  | .lst l => some l
  | .tup l => some l
  | .str s => some (chars s)
  | .rng a b => some (intsD a (b - a).toNat)
  | .ref n => match st[n]? with
    | some (.lst l) => some l
    | _ => none
  | _ => none

/-- what a loop goes over; a store's entry is locked while it does -/
def Sto.walk (st : Sto) : D → Option (List D × Option Nat)
  | .lst l => some (l, none)
  | .tup l => some (l, none)
  | .str s => some (chars s, none)
  | .rng a b => some (intsD a (b - a).toNat, none)
  | .ref n => match st[n]? with
    | some (.lst l) => some (l, some n)
    | _ => none
  | _ => none
def Sto.lock (st : Sto) : Option Nat → Sto
  | none => st
  | some n => st.set n .dead
def Sto.unlock (st : Sto) (ds : List D) : Option Nat → Sto
  | none => st
  | some n => st.set n (.lst ds)

def Sto.truthy (st : Sto) : D → Option Bool
  | .none => some false
  | .bool b => some b
  | .int i => some (decide (i ≠ 0))
  | .str s => some !s.isEmpty
  | .lst l => some !l.isEmpty
  | .ref n => match st[n]? with
    | some (.lst l) => some !l.isEmpty
    | _ => none
  | _ => none

def rep (n : Nat) (l : List α) : List α := match n with
  | 0 => []
  | n + 1 => l ++ rep n l

def LIM : Nat := 1048576
def lim (l : List D) : Option D := if l.length ≤ LIM then some (.lst l) else none
def limS (l : List Nat) : Option D := if l.length ≤ LIM then some (.str l) else none

/-- int, str, list operators -/
def binI (op : Operator) (a b : Int) : Option D := match op with
  | .Add => some (.int (a + b))
  | .Sub => some (.int (a - b))
  | .Mult => if b.natAbs < 1073741824 ∨ a.natAbs < 1073741824 then some (.int (a * b)) else none
  | .FloorDiv => if b = 0 ∨ 1073741824 ≤ b.natAbs then none else some (.int (a.fdiv b))
  | .Mod => if b = 0 then none else some (.int (a.fmod b))
  | .Pow => if b < 0 ∨ 64 < b ∨ 1073741824 ≤ a.natAbs then none else some (.int (a ^ b.toNat))
  | .BitAnd => some (.int (Builtin.bitAnd a b))
  | .BitOr => some (.int (Builtin.bitOr a b))
  | .BitXor => some (.int (Builtin.bitXor a b))
  | _ => none
def addL (st : Sto) (a b : D) : Option D :=
  if a.kind == 4 || b.kind == 4 || a.kind == 11 || b.kind == 11 then none else do
    let x ← st.items a
    let y ← st.items b
    lim (x ++ y)
def mulD (st : Sto) (a : D) (n : Int) : Option D :=
  if a.kind == 4 || a.kind == 11 || decide (n < -1000) || decide (1048576 < n) then none else do
    let x ← st.items a
    lim (rep n.toNat x)
def mulS (a : List Nat) (n : Int) : Option D := if n < -1000 ∨ 1048576 < n then none else limS (rep n.toNat a)
def binop (st : Sto) (op : Operator) (a b : D) : Option D := match a, b with
  | .int x, .int y => binI op x y
  | .str x, .str y => (match op with | .Add => limS (x ++ y) | _ => none)
  | .str x, .int n => (match op with | .Mult => mulS x n | _ => none)
  | a, .int n => (match op with | .Mult => mulD st a n | _ => none)
  | a, b => (match op with | .Add => addL st a b | _ => none)

def D.flat : D → Bool
  | .none | .bool _ | .int _ | .str _ => true
  | _ => false

/-- a list that is still filled, as data -/
def Sto.now (st : Sto) : D → D
  | .ref n => match st[n]? with
    | some (.lst l) => .lst l
    | _ => .ref n
  | d => d

def eqD (st : Sto) (a b : D) : Option Bool :=
  if (st.now a).ok 16 && (st.now b).ok 16 then some (D.beq (st.now a) (st.now b)) else none

def isIn (st : Sto) (a b : D) : Option Bool := match st.now b with
  | .lst l => if a.ok 16 && l.all (D.ok 16) then some (l.any fun x => D.beq x a) else none
  | .tup l => if a.ok 16 && l.all (D.ok 16) then some (l.any fun x => D.beq x a) else none
  | _ => none

def cmp (st : Sto) : CmpOp → D → D → Option Bool
  | .Eq, a, b => eqD st a b
  | .NotEq, a, b => (eqD st a b).map not
  | .Lt, .int a, .int b => some (decide (a < b))
  | .LtE, .int a, .int b => some (decide (a ≤ b))
  | .Gt, .int a, .int b => some (decide (b < a))
  | .GtE, .int a, .int b => some (decide (b ≤ a))
  | .In, .str [c], .str b => some (b.contains c)
  | .NotIn, .str [c], .str b => some !(b.contains c)
  | .In, a, b => isIn st a b
  | .NotIn, a, b => (isIn st a b).map not
  | .Is, .ref a, .ref b => some (decide (a = b))
  | .IsNot, .ref a, .ref b => some !(decide (a = b))
  | .IsNot, .str _, .ref _ => some true
  | .Is, .str _, .ref _ => some false
  | .IsNot, .str _, .none => some true
  | .Is, .str _, .none => some false
  | .Is, .none, .none => some true
  | .IsNot, .none, .none => some false
  | .IsNot, .ref _, .none => some true
  | .Is, .ref _, .none => some false
  | _, _, _ => none

def index? (n : Nat) (i : Int) : Option Nat :=
  seqIndex? i n

def item (st : Sto) (o : D) (i : D) : Option D := match i with
  | .int i => match o with
    | .str s => do
      let k ← index? s.length i
      some (.str [← s[k]?])
    | o => do
      let l ← st.items o
      let k ← index? l.length i
      l[k]?
  | _ => none

def bound (n : Nat) (dflt : Nat) : D → Option Nat
  | .none => some dflt
  | .int i => some (clipAt n i)
  | _ => none
def cutI {α : Type} (l : List α) (lo hi : Nat) : List α := (l.drop lo).take (hi - lo)
def slice (st : Sto) (o lo hi : D) : Option D := match o with
  | .str s => do some (.str (cutI s (← bound s.length 0 lo) (← bound s.length s.length hi)))
  | .tup _ => none
  | o => do
    let l ← st.items o
    some (.lst (cutI l (← bound l.length 0 lo) (← bound l.length l.length hi)))
def every3 (l : List α) : List α := match l with
  | a :: _ :: _ :: r => a :: every3 r
  | a :: _ => [a]
  | [] => []

def kindOf (sc : Scope) (x : Str) : Option NameKind := sc.names.lookup x

def setVar (vars : Vars) (x : Str) (d : D) : Vars := (x, d) :: vars.filter fun p => !(p.1 == x)

def bindNames : List Expr → List D → Vars → Option Vars
  | [], [], v => some v
  | .Name x _ :: ts, d :: ds, v => bindNames ts ds (setVar v x d)
  | _, _, _ => none

def Sto.assign (st : Sto) (t : Expr) (d : D) (v : Vars) : Option Vars := match t with
  | .Name x _ => some (setVar v x d)
  | .Tuple ts _ _ => (match d with
    | .tup l => bindNames ts l v
    | _ => none)
  | _ => none

def mapE (f : Expr → Sto → Option (D × Sto)) : List Expr → Sto → Option (List D × Sto)
  | [], st => some ([], st)
  | e :: r, st => do
    let (d, st) ← f e st
    let (ds, st) ← mapE f r st
    some (d :: ds, st)
def mapK (f : Expr → Sto → Option (D × Sto)) : List Keyword → Sto → Option (List (Str × D) × Sto)
  | [], st => some ([], st)
  | ⟨some n, e, _⟩ :: r, st => do
    let (d, st) ← f e st
    let (ds, st) ← mapK f r st
    some ((n, d) :: ds, st)
  | _ :: _, _ => none

def andE (f : Expr → Sto → Option (Bool × Sto)) : List Expr → Sto → Option (Bool × Sto)
  | [], st => some (true, st)
  | e :: r, st => do
    let (b, st) ← f e st
    if b then andE f r st else some (false, st)
def orE (f : Expr → Sto → Option (Bool × Sto)) : List Expr → Sto → Option (Bool × Sto)
  | [], st => some (false, st)
  | e :: r, st => do
    let (b, st) ← f e st
    if b then some (true, st) else orE f r st
/-- `a and b` as a value -/
def andV (f : Expr → Sto → Option (D × Sto)) : List Expr → Sto → Option (D × Sto)
  | [], _ => none
  | [e], st => f e st
  | e :: r, st => do
    let (d, st) ← f e st
    if ← st.truthy d then andV f r st else some (d, st)
def orV (f : Expr → Sto → Option (D × Sto)) : List Expr → Sto → Option (D × Sto)
  | [], _ => none
  | [e], st => f e st
  | e :: r, st => do
    let (d, st) ← f e st
    if ← st.truthy d then some (d, st) else orV f r st

def concatStr : List D → Option (List Nat)
  | [] => some []
  | .str s :: r => do some (s ++ (← concatStr r))
  | _ :: _ => none
def joinStr (sep : List Nat) : List D → Option (List Nat)
  | [] => some []
  | [.str s] => some s
  | .str s :: r => do some (s ++ sep ++ (← joinStr sep r))
  | _ :: _ => none

def sumD : List D → Int → Option Int
  | [], a => some a
  | .int i :: r, a => sumD r (a + i)
  | _ :: _, _ => none
def maxD : List D → Int → Option Int
  | [], a => some a
  | .int i :: r, a => maxD r (if a < i then i else a)
  | _ :: _, _ => none
def minD : List D → Int → Option Int
  | [], a => some a
  | .int i :: r, a => minD r (if i < a then i else a)
  | _ :: _, _ => none

def zipD : List D → List D → List D
  | a :: l, b :: r => .tup [a, b] :: zipD l r
  | _, _ => []
def zipD3 : List D → List D → List D → List D
  | a :: l, b :: r, c :: s => .tup [a, b, c] :: zipD3 l r s
  | _, _, _ => []
def enumD (i : Int) : List D → List D
  | [] => []
  | a :: r => .tup [.int i, a] :: enumD (i + 1) r

def lowerC (c : Nat) : Nat := if 65 ≤ c ∧ c ≤ 90 then c + 32 else c
def upperC (c : Nat) : Nat := if 97 ≤ c ∧ c ≤ 122 then c - 32 else c
def swapC (c : Nat) : Nat := if 97 ≤ c ∧ c ≤ 122 then c - 32 else if 65 ≤ c ∧ c ≤ 90 then c + 32 else c
def ascii (s : List Nat) : Bool := s.all fun c => decide (c < 128)

def natDigits (n : Nat) : List Nat := (Nat.toDigits 10 n).map Char.toNat

def countD (x : D) (l : List D) : Int := (l.filter fun y => D.beq x y).length
def indexD (x : D) : List D → Int → Option Int
  | [], _ => none
  | y :: r, i => if D.beq x y then some i else indexD x r (i + 1)

/-- the built-in functions, by name -/
def builtin (st : Sto) (f : Str) (args : List D) : Option (D × Sto) :=
  if f == ("len" : Str) then (match args with
    | [.str s] => some (.int s.length, st)
    | [a] => do some (.int (← st.items a).length, st)
    | _ => none)
  else if f == ("range" : Str) then (match args with
    | [.int b] => if b ≤ 1048576 ∧ -1048576 ≤ b then some (.rng 0 b, st) else none
    | [.int a, .int b] => if b ≤ 1048576 ∧ -1048576 ≤ a ∧ a ≤ 1048576 ∧ -1048576 ≤ b then some (.rng a b, st) else none
    | _ => none)
  else if f == ("sum" : Str) then (match args with
    | [a] => if a.kind == 4 then none else do some (.int (← sumD (← st.items a) 0), st)
    | _ => none)
  else if f == ("object" : Str) then (match args with
    | [] => some (.ref st.length, st ++ [.sent])
    | _ => none)
  else none

/-! the tables of the patterns: names, values (headers.py), [&~|] (fnmatch.py) -/
def nameCode : Array Nat := #[14, 10, 4, 1, 1, 22, 0, 31, 16, 127, 0, 13, 7, 22, 0, 31, 16, 127, 0, 1]
def valueCode : Array Nat := #[14, 14, 4, 1, 1, 9, 4294966783, 0, 0, 2147483648, 0, 0, 0, 0, 0, 13, 11, 9, 4294966783, 0, 0, 2147483648, 0, 0, 0, 0, 0, 1]
def twinCode : Array Nat := #[14, 14, 4, 1, 1, 9, 0, 64, 0, 1342177280, 0, 0, 0, 0, 0, 17, 0, 13, 11, 9, 0, 64, 0, 1342177280, 0, 0, 0, 0, 0, 17, 1, 1]
def patCode : Nat → Array Nat
  | 0 => nameCode
  | 1 => valueCode
  | _ => twinCode
/-- printable signs -/
def printable (l : List Nat) : Bool := l.all fun c => decide (32 ≤ c) && decide (c < 127)
/-- the built-in method behind a name -/
def recv (st : Sto) (a : D) (m : Str) : Option String := match a with
  | .str _ => if m == ("join" : Str) then some "str.join" else if m == ("upper" : Str) then some "str.upper" else if m == ("lower" : Str) then some "str.lower" else none
  | .ref n => match st[n]? with
    | some (.lst _) => if m == ("append" : Str) then some "list.append" else none
    | _ => none
  | .pat k => if k < 2 && m == ("search" : Str) then some "re.Pattern.search" else none
  | _ => none
def appendD (st : Sto) (n : Nat) (args : List D) : Option (D × Sto) := match st[n]? with
  | some (.lst l) => (match args with
    | [a] => if l.length < LIM then some (.none, st.set n (.lst (l ++ [a]))) else none
    | _ => none)
  | _ => none
/-- the methods of built-in data -/
def methodB (st : Sto) (o : D) (id : String) (args : List D) : Option (D × Sto) := match o with
  | .str s =>
    if id == "str.join" then (match args with
      | [a] => do some (← limS (← joinStr s (← st.items a)), st)
      | _ => none)
    else if id == "str.upper" then (match args with
      | [] => some (.str (s.map upperC), st)
      | _ => none)
    else if id == "str.lower" then (match args with
      | [] => some (.str (s.map lowerC), st)
      | _ => none)
    else none
  | .ref n => if id == "list.append" then appendD st n args else none
  | .pat k => if k < 2 && id == "re.Pattern.search" then (match args with
      | [.str l] => if printable l then some (.none, st) else none
      | _ => none)
    else none
  | _ => none

/-- a name that the machine does not treat apart -/
def plainName (x : Str) : Bool := !(x == ("__debug__" : Str)) && !(x == ("__classdict__" : Str))
/-- the names that a target binds -/
def bound1 (sc : Scope) : Expr → Bool
  | .Name x _ => kindOf sc x == some .local || kindOf sc x == some .cell
  | _ => false
def targetOk (sc : Scope) : Expr → Bool
  | .Name x p => bound1 sc (.Name x p)
  | .Tuple ts _ _ => ts.all (bound1 sc)
  | _ => false
def isTuple : Expr → Bool
  | .Tuple .. => true
  | _ => false
/-- a comprehension's scope -/
def compOk (sc csc : Scope) : Bool :=
  (match csc.kind with | .function => true | _ => false) && csc.names.all fun p => (match p.2 with
    | .local => csc.names.lookup p.1 == some .local
    | .cell => csc.names.lookup p.1 == some .cell
    | .free => csc.names.lookup p.1 == some .free && (kindOf sc p.1 == some .cell || kindOf sc p.1 == some .free)
    | _ => true)

/-- a comprehension's loop: `body` gives the elements of one turn -/
def compL (body : D → Sto → Option (List D × Sto)) : List D → Sto → Option (List D × Sto)
  | [], st => some ([], st)
  | d :: r, st => do
    let (x, st) ← body d st
    let (y, st) ← compL body r st
    some (x ++ y, st)

def forL (assign : D → Vars → Sto → Option Vars) (body : Vars → Sto → Option (Fl × Vars × Sto)) (orelse : Vars → Sto → Option (Fl × Vars × Sto)) : List D → Vars → Sto → Option (Fl × Vars × Sto)
  | [], v, st => orelse v st
  | d :: r, v, st => do
    let v ← assign d v st
    let (f, v, st) ← body v st
    match f with
    | .next | .cont => forL assign body orelse r v st
    | .brk => some (.next, v, st)
    | .ret d => some (.ret d, v, st)

def whileL (test : Vars → Sto → Option (Bool × Sto)) (body : Vars → Sto → Option (Fl × Vars × Sto)) : Nat → Vars → Sto → Option (Fl × Vars × Sto)
  | 0, _, _ => none
  | n + 1, v, st => do
    let (b, st) ← test v st
    if b then
      let (f, v, st) ← body v st
      match f with
      | .next | .cont => whileL test body n v st
      | .brk => some (.next, v, st)
      | .ret d => some (.ret d, v, st)
    else some (.next, v, st)

def runStmts (ex : Stmt → Vars → Sto → Option (Fl × Vars × Sto)) : List Stmt → Vars → Sto → Option (Fl × Vars × Sto)
  | [], v, st => some (.next, v, st)
  | s :: r, v, st => do
    let (f, v, st) ← ex s v st
    match f with
    | .next => runStmts ex r v st
    | f => some (f, v, st)

/-- type(x) is str -/
def isType? : Expr → Option (Str × Expr × Str)
  | .Compare (.Call (.Name f _) [x] [] _) [.Is] [.Name g _] _ => if f == ("type" : Str) && g == ("str" : Str) then some (f, x, g) else none
  | _ => none
def isStar : Expr → Bool
  | .Starred .. => true
  | _ => false
/-- a pattern's sub with a lambda -/
def isSub (o : Expr) (m : Str) (args : List Expr) (kws : List Keyword) : Option (Str × Expr) := match o, args, kws with
  | .Name r _, [.Lambda a _ ls _, e], [] => if m == ("sub" : Str) && a.defaults.isEmpty && a.kw_defaults.isEmpty && ls.names.all (fun p => !(p.2 == .free)) && !(isStar e) then some (r, e) else none
  | _, _, _ => none
/-- the shape of a method's call -/
def notSuper : Expr → Bool
  | .Call (.Name x _) [] [] _ => !(x == ("super" : Str))
  | _ => true
def callOk (o : Expr) (apos pos : Pos) (n : Nat) : Bool := notSuper o && apos.endLine == pos.line && decide (n < 25)

def compVars (sc : Scope) (v : Vars) : Vars := v.filter fun p => kindOf sc p.1 == some .free

/-- an empty dict's items -/
def itemsOf (m : Str) (ok : Bool) : Option (D × Sto) → Option Sto
  | some (.dic0, st) => if m == ("items" : Str) && ok then some st else none
  | _ => none
mutual
def evalE : Nat → Gam → Scope → Vars → Expr → Sto → Option (D × Sto)
  | 0, _, _, _, _, _ => none
  | n + 1, Γ, sc, v, e, st => match e with
    | .Constant c _ _ => (match c with
      | .none => some (.none, st)
      | .bool b => some (.bool b, st)
      | .int i => some (.int i, st)
      | .str s => if ascii s.cps.toList && decide (s.cps.toList.length ≤ LIM) then some (.str s.cps.toList, st) else none
      | _ => none)
    | .Name x _ => (match kindOf sc x with
      | some .local | some .cell | some .free => if plainName x then do some (← v.lookup x, st) else none
      | some .globalImplicit => if plainName x then do some (← Γ.con x, st) else none
      | _ => none)
    | .BinOp l op r _ => do
      let (a, st) ← evalE n Γ sc v l st
      let (b, st) ← evalE n Γ sc v r st
      some (← binop st op a b, st)
    | .UnaryOp op x _ => do
      let (a, st) ← evalE n Γ sc v x st
      match op, a with
      | .USub, .int i => some (.int (-i), st)
      | .Invert, .int i => some (.int (-i - 1), st)
      | .Not, a => do some (.bool !(← st.truthy a), st)
      | _, _ => none
    | .BoolOp .And es _ => andV (evalE n Γ sc v) es st
    | .BoolOp .Or es _ => orV (evalE n Γ sc v) es st
    | .Compare l [op] [r] _ => do
      let (a, st) ← evalE n Γ sc v l st
      let (b, st) ← evalE n Γ sc v r st
      some (.bool (← cmp st op a b), st)
    | .IfExp t b o _ => do
      let (c, st) ← testE n Γ sc v t st
      if c then evalE n Γ sc v b st else evalE n Γ sc v o st
    | .List es _ => do
      let (ds, st) ← mapE (evalE n Γ sc v) es st
      if ds.length ≤ LIM then some (.lst ds, st) else none
    | .Tuple es _ _ => do
      let (ds, st) ← mapE (evalE n Γ sc v) es st
      if ds.length ≤ LIM then some (.tup ds, st) else none
    | .Attribute o m _ => if !notSuper o then none else do
      let (a, st) ← evalE n Γ sc v o st
      match a with
      | .inst _ fs => do some (← fs.lookup m, st)
      | .ref k => match st[k]? with
        | some (.lst _) => if m == ("append" : Str) then some (.app k, st) else none
        | _ => none
      | _ => none
    | .Subscript o (.Slice lo hi none _) _ => do
      let (a, st) ← evalE n Γ sc v o st
      let (l, st) ← (match lo with | some e => evalE n Γ sc v e st | none => some (.none, st))
      let (h, st) ← (match hi with | some e => evalE n Γ sc v e st | none => some (.none, st))
      some (← slice st a l h, st)
    | .Subscript o i _ => do
      let (a, st) ← evalE n Γ sc v o st
      let (b, st) ← evalE n Γ sc v i st
      some (← item st a b, st)
    | .Call (.Attribute o m apos) args kws pos => match isSub o m args kws with
      | some (r, x) => if kindOf sc r == some .globalImplicit && Γ.res.contains r && callOk o apos pos (args.length + kws.length) then do
          let (a, st) ← evalE n Γ sc v x st
          match a with
          | .str s => if s.all fun c => c != 38 && c != 126 && c != 124 then some (.str s, st) else none
          | _ => none
        else none
      | none => if !callOk o apos pos (args.length + kws.length) then none else do
        let (a, st) ← evalE n Γ sc v o st
        match a with
        | .inst c fs => do
          let F ← Γ.meth c m
          let (ds, st) ← mapE (evalE n Γ sc v) args st
          let (ks, st) ← mapK (evalE n Γ sc v) kws st
          F (.inst c fs :: ds) ks st
        | a => match Γ.own m st a with
          | some F => do
            let (ds, st) ← mapE (evalE n Γ sc v) args st
            if kws.isEmpty then F (a :: ds) [] st else none
          | none => do
            let id ← recv st a m
            let (ds, st) ← mapE (evalE n Γ sc v) args st
            if kws.isEmpty then methodB st a id ds else none
    | .Call (.Name f _) args kws _ => if !plainName f then none else (match kindOf sc f with
      | some .globalImplicit => (match Γ.fn f with
        | some F => do
          let (ds, st) ← mapE (evalE n Γ sc v) args st
          let (ks, st) ← mapK (evalE n Γ sc v) kws st
          F ds ks st
        | none => do
          let (ds, st) ← mapE (evalE n Γ sc v) args st
          if kws.isEmpty then (match Γ.bi f with
            | some F => F ds [] st
            | none => builtin st f ds) else none)
      | some .local | some .cell | some .free => do
        match ← v.lookup f with
        | .app k => do
          let (ds, st) ← mapE (evalE n Γ sc v) args st
          if kws.isEmpty then appendD st k ds else none
        | _ => none
      | _ => none)
    | .JoinedStr es _ => do
      let (ds, st) ← mapE (evalE n Γ sc v) es st
      some (← limS (← concatStr ds), st)
    | .FormattedValue x (-1) none _ => do
      let (a, st) ← evalE n Γ sc v x st
      match a with
      | .str s => some (.str s, st)
      | _ => none
    | .ListComp elt [⟨t, it, ifs, 0⟩] csc _ => if !(compOk sc csc && targetOk csc t) then none else do
      let (ds, lk, st) ← iterE n Γ sc v (isTuple t) it st
      let (out, st) ← compL (compT n Γ csc elt t ifs (compVars csc v)) ds (st.lock lk)
      if out.length ≤ LIM then some (.lst out, st.unlock ds lk) else none
    | _ => none

/-- the items that a `for` goes over -/
def iterE : Nat → Gam → Scope → Vars → Bool → Expr → Sto → Option (List D × Option Nat × Sto)
  | 0, _, _, _, _, _, _ => none
  | n + 1, Γ, sc, v, pairs, e, st => match e with
    | .Call (.Name f p) [a] [] q => if f == ("enumerate" : Str) then
        if pairs && (Γ.fn f).isNone && kindOf sc f == some .globalImplicit then do
          let (x, st) ← evalE n Γ sc v a st
          match x with
          | .lst l | .tup l => some (enumD 0 l, none, st)
          | _ => none
        else none
      else do
        let (x, st) ← evalE n Γ sc v (.Call (.Name f p) [a] [] q) st
        let (l, lk) ← st.walk x
        some (l, lk, st)
    | .Call (.Attribute o m apos) [] [] pos => match itemsOf m (callOk o apos pos 0) (evalE n Γ sc v o st) with
      | some st => some ([], none, st)
      | none => do
        let (x, st) ← evalE n Γ sc v (.Call (.Attribute o m apos) [] [] pos) st
        let (l, lk) ← st.walk x
        some (l, lk, st)
    | e => do
      let (x, st) ← evalE n Γ sc v e st
      let (l, lk) ← st.walk x
      some (l, lk, st)

/-- one turn of a comprehension -/
def compT : Nat → Gam → Scope → Expr → Expr → List Expr → Vars → D → Sto → Option (List D × Sto)
  | 0, _, _, _, _, _, _, _, _ => none
  | n + 1, Γ, sc, elt, t, ifs, v, d, st => do
    let v ← st.assign t d v
    let (b, st) ← andE (testE n Γ sc v) ifs st
    if b then do
      let (x, st) ← evalE n Γ sc v elt st
      some ([x], st)
    else some ([], st)

def testE : Nat → Gam → Scope → Vars → Expr → Sto → Option (Bool × Sto)
  | 0, _, _, _, _, _ => none
  | n + 1, Γ, sc, v, e, st => match e with
    | .UnaryOp .Not x _ => do
      let (b, st) ← testE n Γ sc v x st
      some (!b, st)
    | .BoolOp .And es _ => andE (testE n Γ sc v) es st
    | .BoolOp .Or es _ => orE (testE n Γ sc v) es st
    | .IfExp t b o _ => do
      let (c, st) ← testE n Γ sc v t st
      if c then testE n Γ sc v b st else testE n Γ sc v o st
    | e => match isType? e with
      | some (f, x, g) => if kindOf sc f == some .globalImplicit && kindOf sc g == some .globalImplicit && (Γ.fn f).isNone && (Γ.fn g).isNone then do
          let (a, st) ← evalE n Γ sc v x st
          match a with
          | .str _ => some (true, st)
          | _ => none
        else none
      | none => do
        let (a, st) ← evalE n Γ sc v e st
        some (← st.truthy a, st)
end

/-- a value for the name `x`: a list display becomes a store's entry where the name is one that is filled -/
def evalTo (n : Nat) (Γ : Gam) (sc : Scope) (v : Vars) (x : Str) (e : Expr) (st : Sto) : Option (D × Sto) := match e with
  | .List es _ => if Γ.grow.contains x then do
      let (ds, st) ← mapE (evalE n Γ sc v) es st
      if ds.length ≤ LIM then some (.ref st.length, st ++ [.lst ds]) else none
    else evalE n Γ sc v e st
  | e => evalE n Γ sc v e st

def nameAt (sc : Scope) (line : Nat) : Expr → Option Str
  | .Name id pos => if kindOf sc id == some .local && pos.line == line then some id else none
  | _ => none
/-- two or three names that take a display's values, the last one first -/
def swapOk (sc : Scope) (ts es : List Expr) : Option (List Str) :=
  let names := ts.filterMap (nameAt sc ((ts.head?.map (·.pos.line)).getD 0))
  if (ts.length == 2 || ts.length == 3) && es.length == ts.length && names.length == ts.length && names.eraseDups.length == names.length && !(es.any isStar) && !(es.all (foldedForSure 8)) && !(es.all (constantsAlone 8)) then some names else none
def bindStrs : List Str → List D → Vars → Option Vars
  | [], [], v => some v
  | x :: ts, d :: ds, v => bindStrs ts ds (setVar v x d)
  | _, _, _ => none

def execS : Nat → Gam → Scope → Stmt → Vars → Sto → Option (Fl × Vars × Sto)
  | 0, _, _, _, _, _ => none
  | n + 1, Γ, sc, s, v, st => match s with
    | .Expr e _ => do
      let (d, st) ← evalE n Γ sc v e st
      match d with
      | .none => some (.next, v, st)
      | _ => none
    | .Pass _ => some (.next, v, st)
    | .Break _ => some (.brk, v, st)
    | .Continue _ => some (.cont, v, st)
    | .Return (some e) _ => do
      let (d, st) ← evalE n Γ sc v e st
      some (.ret d, v, st)
    | .Return none _ => some (.ret .none, v, st)
    | .Assign [.Name x p] e _ => if bound1 sc (.Name x p) then do
        let (d, st) ← evalTo n Γ sc v x e st
        some (.next, setVar v x d, st)
      else none
    | .Assign [.Tuple ts _ _] (.Tuple es _ _) _ => do
      let names ← swapOk sc ts es
      let (ds, st) ← mapE (evalE n Γ sc v) es st
      if ds.length ≤ LIM then some (.next, ← bindStrs names.reverse ds.reverse v, st) else none
    | .AugAssign (.Name x p) .Add e _ => if bound1 sc (.Name x p) && plainName x then do
        let old ← v.lookup x
        let (d, st) ← evalE n Γ sc v e st
        match old, d with
        | .int a, .int b => some (.next, setVar v x (.int (a + b)), st)
        | _, _ => none
      else none
    | .If t b o _ => do
      let (c, st) ← testE n Γ sc v t st
      if c then runStmts (execS n Γ sc) b v st else runStmts (execS n Γ sc) o v st
    | .Assert t _ _ => do
      let (c, st) ← testE n Γ sc v t st
      if c then some (.next, v, st) else none
    | .While t b [] _ => whileL (fun v st => testE n Γ sc v t st) (runStmts (execS n Γ sc) b) Γ.turns v st
    | .For t it b o _ => if !(targetOk sc t) then none else do
      let (ds, lk, st) ← iterE n Γ sc v (isTuple t) it st
      let (f, v, st) ← forL (fun d v st => st.assign t d v) (runStmts (execS n Γ sc) b) (runStmts (execS n Γ sc) o) ds v (st.lock lk)
      some (f, v, st.unlock ds lk)
    | _ => none

mutual
def freeze (st : Sto) : D → D
  | .ref n => match st[n]? with
    | some (.lst l) => .lst l
    | _ => .ref n
  | .tup l => .tup (freezes st l)
  | d => d
def freezes (st : Sto) : List D → List D
  | [] => []
  | d :: r => freeze st d :: freezes st r
end

/-- the body of a def -/
def runBody (n : Nat) (Γ : Gam) (sc : Scope) (body : List Stmt) (binds : Vars) (st : Sto) : Option (D × Sto) := do
  let (f, _, st) ← runStmts (execS n Γ sc) body binds st
  match f with
  | .ret d => some (d, st)
  | .next => some (.none, st)
  | _ => none

end Mine
/-! ## KB -/
set_option autoImplicit false
namespace Mine
open PySem PySem.W PyProof.Rows PySem.Calls

def listO (vs : List Value) (n : Nat) : Obj := { cls := .type "list", data := .seq vs.toArray n }
def tupO (vs : List Value) (n : Nat) : Obj := { cls := .type "tuple", data := .seq vs.toArray n }
def appO (a : Addr) : Obj := { cls := .type "builtin_function_or_method", data := .fields #[.builtin "list.append", .ref a] }
def patO (p : Str) (t u : Tok) (g : Int) (ca : Addr) : Obj := { cls := .type "re.Pattern", data := .fields #[.str p t, .int 32 u, .int g 0, .none, .none, .ref ca, .int 0 0] }
def sentO : Obj := { cls := .type "object", data := .plain }
abbrev InsT := Addr → Obj → Obj → Str → List (Str × Value) → Prop

/-- what is known of the program's own top, at any heap of the call -/
structure Base where
  prog : Program
  w : World
  mg : Str → Option Value
  old : Addr → Prop
  T : Addr → Prop
  Inv : Heap → Prop
  Ins : InsT
  step : ∀ h h', Inv h → (∀ a o, old a → h.get? a = some o → h'.get? a = some o) → Inv h'
  stays : ∀ h a, Inv h → old a → ∃ o, h.get? a = some o
  T_old : ∀ a, T a → old a
  g : ∀ h, Inv h → h.Ns mainGlobals mg
  b : ∀ h, Inv h → ∃ mb, h.Ns builtinsNs mb ∧ ∀ x : Str, x ≠ "__name__" → mb x = bootBuiltins x
  nolim : ∀ h, Inv h → h.NoLimit
  Code : Value → Prop

/-- where an entry of the store lies; `lock`: no one may change it now -/
inductive Ent where
  | live (a : Addr)
  | lock (a : Addr)
def Ent.at : Ent → Addr
  | .live a => a
  | .lock a => a
def At (adr : List Ent) (a : Addr) : Prop := ∃ e ∈ adr, e.at = a

/-- an address that holds what no one will change -/
structure Fz (T Φ : Addr → Prop) (adr : List Ent) (a : Addr) : Prop where
  t : ¬ T a
  p : ¬ Φ a
  m : ¬ At adr a

mutual
inductive VR (T Φ : Addr → Prop) (Ins : InsT) (h : Heap) (adr : List Ent) : Value → D → Prop
  | none : VR T Φ Ins h adr .none .none
  | bool (b : Bool) : VR T Φ Ins h adr (.bool b) (.bool b)
  | int (i : Int) (t : Tok) : VR T Φ Ins h adr (.int i t) (.int i)
  | str (s : Str) (t : Tok) (l : List Nat) : s.cps.toList = l → l.length ≤ LIM → ascii l = true → VR T Φ Ins h adr (.str s t) (.str l)
  | tup {a : Addr} {vs : List Value} {n : Nat} {ds : List D} : h.get? a = some (tupO vs n) → Fz T Φ adr a → VRs T Φ Ins h adr vs ds → ds.length ≤ LIM → VR T Φ Ins h adr (.ref a) (.tup ds)
  | lst {a : Addr} {vs : List Value} {n : Nat} {ds : List D} : h.get? a = some (listO vs n) → Fz T Φ adr a → VRs T Φ Ins h adr vs ds → ds.length ≤ LIM → VR T Φ Ins h adr (.ref a) (.lst ds)
  | scr {a : Addr} {o : Obj} {vs : List Value} {n : Nat} {ds : List D} : h.get? a = some o → o.cls = .type "list" → o.data = .seq vs.toArray n → Fz T Φ adr a → VRs T Φ Ins h adr vs ds → ds.length ≤ LIM → VR T Φ Ins h adr (.ref a) (.scr ds)
  | ref {e : Ent} {n : Nat} : adr[n]? = some e → VR T Φ Ins h adr (.ref e.at) (.ref n)
  | app {b : Addr} {e : Ent} {n : Nat} : h.get? b = some (appO e.at) → Fz T Φ adr b → adr[n]? = some e → VR T Φ Ins h adr (.ref b) (.app n)
  | dic {a : Addr} {ep : Nat} : h.get? a = some { cls := .type "dict", data := .dict #[] ep } → Fz T Φ adr a → (a == sysModules) = false → VR T Φ Ins h adr (.ref a) .dic0
  | pat {a ca : Addr} {p : Str} {t u : Tok} {g : Int} {items : Array Value} {m k : Nat} : h.get? a = some (patO p t u g ca) → h.get? ca = some { cls := .type "tuple", data := .seq items m } → Fz T Φ adr a → Fz T Φ adr ca → (items.map Builtin.Re.reRawOf).map (·.toNat) = patCode k → (k < 2 → g = 0) → VR T Φ Ins h adr (.ref a) (.pat k)
  | rng {a : Addr} {x y : Int} {t u v : Tok} : h.get? a = some { cls := .type "range", data := .fields #[.int x t, .int y u, .int 1 v] } → Fz T Φ adr a → x.natAbs ≤ LIM → y.natAbs ≤ LIM → VR T Φ Ins h adr (.ref a) (.rng x y)
  | inst {a d : Addr} {oa od : Obj} {c : Str} {vs : List (Str × Value)} {fs : List (Str × D)} : h.get? a = some oa → oa.dict = some d → h.get? d = some od → Ins a oa od c vs → Fz T Φ adr a → Fz T Φ adr d → VRf T Φ Ins h adr vs fs → VR T Φ Ins h adr (.ref a) (.inst c fs)
inductive VRs (T Φ : Addr → Prop) (Ins : InsT) (h : Heap) (adr : List Ent) : List Value → List D → Prop
  | nil : VRs T Φ Ins h adr [] []
  | cons {v : Value} {vs : List Value} {d : D} {ds : List D} : VR T Φ Ins h adr v d → VRs T Φ Ins h adr vs ds → VRs T Φ Ins h adr (v :: vs) (d :: ds)
inductive VRf (T Φ : Addr → Prop) (Ins : InsT) (h : Heap) (adr : List Ent) : List (Str × Value) → List (Str × D) → Prop
  | nil : VRf T Φ Ins h adr [] []
  | cons {x : Str} {v : Value} {vs : List (Str × Value)} {d : D} {ds : List (Str × D)} : VR T Φ Ins h adr v d → VRf T Φ Ins h adr vs ds → VRf T Φ Ins h adr ((x, v) :: vs) ((x, d) :: ds)
end

/-- from one heap to a later one -/
structure Ex (T : Addr → Prop) (h : Heap) (adr : List Ent) (h' : Heap) (adr' : List Ent) : Prop where
  keep : ∀ a o, h.get? a = some o → ¬ T a → Ent.live a ∉ adr → h'.get? a = some o
  live : ∀ a o, h.get? a = some o → ∃ o', h'.get? a = some o'
  pre : ∀ i, i < adr.length → adr'[i]? = adr[i]?
  fresh : ∀ e, e ∈ adr' → e ∈ adr ∨ h.get? e.at = none

section
variable {T Φ : Addr → Prop} {Ins : InsT} {h h' h'' : Heap} {adr adr' adr'' : List Ent}

theorem Ex.refl : Ex T h adr h adr := ⟨fun _ _ e _ _ => e, fun _ o e => ⟨o, e⟩, fun _ _ => rfl, fun _ m => .inl m⟩
theorem mem_pre (hp : ∀ i, i < adr.length → adr'[i]? = adr[i]?) {a : Ent} (m : a ∈ adr) : a ∈ adr' := by
  obtain ⟨i, hi, e⟩ := List.getElem_of_mem m
  have := hp i hi
  rw [List.getElem?_eq_getElem hi, e] at this
  exact List.mem_of_getElem? this
theorem pre_len (hp : ∀ i, i < adr.length → adr'[i]? = adr[i]?) : adr.length ≤ adr'.length := by
  rcases Nat.eq_zero_or_pos adr.length with e | e
  · omega
  · have h1 := hp (adr.length - 1) (by omega)
    have h2 : adr[adr.length - 1]? = some (adr[adr.length - 1]'(by omega)) := List.getElem?_eq_getElem (by omega)
    have := (List.getElem?_eq_some_iff.mp (h1.trans h2)).1
    omega
theorem Ex.trans (x : Ex T h adr h' adr') (y : Ex T h' adr' h'' adr'') : Ex T h adr h'' adr'' := by
  refine ⟨fun a o e ht hm => ?_, fun a o e => ?_, fun i hi => ?_, fun a m => ?_⟩
  · refine y.keep a o (x.keep a o e ht hm) ht fun m' => ?_
    rcases x.fresh _ m' with m | q
    · exact hm m
    · have q : h.get? a = none := q
      rw [q] at e; cases e
  · obtain ⟨o', e'⟩ := x.live a o e
    exact y.live a o' e'
  · exact (y.pre i (Nat.lt_of_lt_of_le hi (pre_len x.pre))).trans (x.pre i hi)
  · rcases y.fresh a m with m | q
    · exact x.fresh a m
    · right
      cases e : h.get? a.at with
      | none => rfl
      | some o => obtain ⟨o', e'⟩ := x.live _ o e; rw [q] at e'; cases e'
theorem Ex.out (x : Ex T h adr h' adr') {a : Addr} {o : Obj} (e : h.get? a = some o) (hm : ¬ At adr a) : ¬ At adr' a := fun ⟨b, m, eb⟩ => by
  rcases x.fresh b m with m | q
  · exact hm ⟨b, m, eb⟩
  · rw [eb, e] at q; cases q
theorem At.of_live {adr : List Ent} {a : Addr} (m : Ent.live a ∈ adr) : At adr a := ⟨_, m, rfl⟩
theorem Fz.live {T Φ : Addr → Prop} {a : Addr} (z : Fz T Φ adr a) : Ent.live a ∉ adr := fun m => z.m (.of_live m)
theorem Ex.get (x : Ex T h adr h' adr') {a : Addr} {o : Obj} (e : h.get? a = some o) (z : Fz T Φ adr a) : h'.get? a = some o ∧ Fz T Φ adr' a :=
  ⟨x.keep a o e z.t z.live, z.t, z.p, x.out e z.m⟩
/-- only keeps: nothing of the store is touched -/
theorem Ex.of_keep (k : ∀ a o, h.get? a = some o → h'.get? a = some o) : Ex T h adr h' adr := ⟨fun a o e _ _ => k a o e, fun a o e => ⟨o, k a o e⟩, fun _ _ => rfl, fun _ m => .inl m⟩
theorem keep_push (o : Obj) : ∀ a o', h.get? a = some o' → (h.push o).get? a = some o' := fun _ _ e => Heap.get?_push_of_some _ e

mutual
theorem VR.ex (x : Ex T h adr h' adr') : ∀ {v : Value} {d : D}, VR T Φ Ins h adr v d → VR T Φ Ins h' adr' v d
  | _, _, .none => .none
  | _, _, .bool b => .bool b
  | _, _, .int i t => .int i t
  | _, _, .str s t l e b c => .str s t l e b c
  | _, _, .tup e z r b => .tup (x.get e z).1 (x.get e z).2 (VRs.ex x r) b
  | _, _, .lst e z r b => .lst (x.get e z).1 (x.get e z).2 (VRs.ex x r) b
  | _, _, .scr e c d z r b => .scr (x.get e z).1 c d (x.get e z).2 (VRs.ex x r) b
  | _, _, .ref e => .ref ((x.pre _ (List.getElem?_eq_some_iff.mp e).1).trans e)
  | _, _, .app e z i => .app (x.get e z).1 (x.get e z).2 ((x.pre _ (List.getElem?_eq_some_iff.mp i).1).trans i)
  | _, _, .dic e z n => .dic (x.get e z).1 (x.get e z).2 n
  | _, _, .pat e e' z z' c q => .pat (x.get e z).1 (x.get e' z').1 (x.get e z).2 (x.get e' z').2 c q
  | _, _, .rng e z p q => .rng (x.get e z).1 (x.get e z).2 p q
  | _, _, .inst e dd e' i z z' r => .inst (x.get e z).1 dd (x.get e' z').1 i (x.get e z).2 (x.get e' z').2 (VRf.ex x r)
theorem VRs.ex (x : Ex T h adr h' adr') : ∀ {v : List Value} {d : List D}, VRs T Φ Ins h adr v d → VRs T Φ Ins h' adr' v d
  | _, _, .nil => .nil
  | _, _, .cons a r => .cons (VR.ex x a) (VRs.ex x r)
theorem VRf.ex (x : Ex T h adr h' adr') : ∀ {v : List (Str × Value)} {d : List (Str × D)}, VRf T Φ Ins h adr v d → VRf T Φ Ins h' adr' v d
  | _, _, .nil => .nil
  | _, _, .cons a r => .cons (VR.ex x a) (VRf.ex x r)
end

theorem VRs.length {vs : List Value} {ds : List D} (r : VRs T Φ Ins h adr vs ds) : vs.length = ds.length := by
  induction ds generalizing vs with
  | nil => cases r; rfl
  | cons d ds ih => cases r with | cons _ r => rw [List.length_cons, List.length_cons, ih r]
theorem VRs.append {vs ws : List Value} {ds es : List D} (r : VRs T Φ Ins h adr vs ds) (q : VRs T Φ Ins h adr ws es) : VRs T Φ Ins h adr (vs ++ ws) (ds ++ es) := by
  induction ds generalizing vs with
  | nil => cases r; exact q
  | cons d ds ih => cases r with | cons a r => exact .cons a (ih r)
theorem VRs.get {vs : List Value} {ds : List D} (r : VRs T Φ Ins h adr vs ds) {i : Nat} {d : D} (e : ds[i]? = some d) : ∃ v, vs[i]? = some v ∧ VR T Φ Ins h adr v d := by
  induction ds generalizing vs i with
  | nil => simp at e
  | cons d' ds ih =>
    cases r with
    | cons a r =>
      cases i with
      | zero => simp at e; subst e; exact ⟨_, rfl, a⟩
      | succ i => exact ih r (by simpa using e)
theorem VRs.get' {vs : List Value} {ds : List D} (r : VRs T Φ Ins h adr vs ds) {i : Nat} {v : Value} (e : vs[i]? = some v) : ∃ d, ds[i]? = some d ∧ VR T Φ Ins h adr v d := by
  have hi := (List.getElem?_eq_some_iff.mp e).1
  rw [r.length] at hi
  obtain ⟨v', e', q⟩ := r.get (List.getElem?_eq_getElem hi)
  rw [e] at e'; cases e'
  exact ⟨_, List.getElem?_eq_getElem hi, q⟩
theorem VRs.take {vs : List Value} {ds : List D} (r : VRs T Φ Ins h adr vs ds) (n : Nat) : VRs T Φ Ins h adr (vs.take n) (ds.take n) := by
  induction ds generalizing vs n with
  | nil => cases r; simp; exact .nil
  | cons d ds ih =>
    cases r with
    | cons a r => cases n with
      | zero => simp; exact .nil
      | succ n => simpa using VRs.cons a (ih r n)
theorem VRs.drop {vs : List Value} {ds : List D} (r : VRs T Φ Ins h adr vs ds) (n : Nat) : VRs T Φ Ins h adr (vs.drop n) (ds.drop n) := by
  induction ds generalizing vs n with
  | nil => cases r; simp; exact .nil
  | cons d ds ih =>
    cases r with
    | cons a r => cases n with
      | zero => simpa using VRs.cons a r
      | succ n => simpa using ih r n
theorem VRf.get {vs : List (Str × Value)} {ds : List (Str × D)} (r : VRf T Φ Ins h adr vs ds) {x : Str} {d : D} (e : ds.lookup x = some d) : ∃ v, vs.lookup x = some v ∧ VR T Φ Ins h adr v d := by
  induction ds generalizing vs with
  | nil => cases e
  | cons p ds ih =>
    cases r with
    | @cons y v vs d' _ a r =>
      rw [List.lookup_cons] at e ⊢
      cases q : x == y with
      | true => rw [q] at e; cases e; exact ⟨_, rfl, a⟩
      | false => rw [q] at e; exact ih r e
end

/-- the store: its entries lie at `adr` -/
structure SR (B : Base) (Φ : Addr → Prop) (h : Heap) (adr : List Ent) (st : Sto) : Prop where
  len : adr.length = st.length
  lst : ∀ (i : Nat) (l : List D), st[i]? = some (Mo.lst l) → ∃ a vs n, adr[i]? = some (.live a) ∧ h.get? a = some (listO vs n) ∧ VRs B.T Φ B.Ins h adr vs l ∧ l.length ≤ LIM
  sent : ∀ (i : Nat), st[i]? = some Mo.sent → ∃ a, adr[i]? = some (.live a) ∧ h.get? a = some sentO
  dead : ∀ (i : Nat), st[i]? = some Mo.dead → ∃ a vs n, adr[i]? = some (.lock a) ∧ h.get? a = some (listO vs n)
  inj : ∀ (i j : Nat) (e f : Ent), adr[i]? = some e → adr[j]? = some f → e.at = f.at → i = j
  out : ∀ a, At adr a → ¬ B.old a ∧ ¬ Φ a
  phi : ∀ a, Φ a → ∃ o, h.get? a = some o
  phiO : ∀ a, Φ a → ¬ B.old a

/-- one frame's names -/
structure FR (B : Base) (Φ : Addr → Prop) (h : Heap) (adr : List Ent) (env : Env) (sc : Scope) (v : Vars) : Prop where
  kind : env.scope.kind = .function
  glob : env.globals = mainGlobals
  blt : env.builtins = builtinsNs
  code : B.Code env.code
  loc : ∀ x, kindOf sc x = some .local → env.kindOf x = some .local
  cell : ∀ x, kindOf sc x = some .cell → env.kindOf x = some .cell
  free : ∀ x, kindOf sc x = some .free → env.kindOf x = some .free ∨ env.kindOf x = some .cell
  gl : ∀ x, kindOf sc x = some .globalImplicit → env.kindOf x = some .globalImplicit
  ns : ∃ m, h.Ns env.locals m ∧ ∀ x d, kindOf sc x = some .local → v.lookup x = some d → ∃ u, m x = some u ∧ VR B.T Φ B.Ins h adr u d
  cl : ∀ x, (kindOf sc x = some .cell ∨ kindOf sc x = some .free) → ∃ c ov, env.cells.lookup x = some c ∧ h.IsCell c ov ∧ ∀ d, v.lookup x = some d → ∃ u, ov = some u ∧ VR B.T Φ B.Ins h adr u d
  lfree : ¬ At adr env.locals
  lnew : ¬ B.old env.locals
  cfree : ∀ x c, env.cells.lookup x = some c → ¬ At adr c ∧ ¬ B.old c
  clive : ∀ x c, env.cells.lookup x = some c → ∃ o, h.get? c = some o
  lc : ∀ x c, env.cells.lookup x = some c → c ≠ env.locals
  cinj : ∀ x y c, env.cells.lookup x = some c → env.cells.lookup y = some c → x = y

section
variable {B : Base} {Φ : Addr → Prop} {h h' : Heap} {adr adr' : List Ent} {env : Env} {sc : Scope} {v : Vars} {st : Sto}
theorem FR.ex (F : FR B Φ h adr env sc v) (x : Ex B.T h adr h' adr') : FR B Φ h' adr' env sc v := by
  obtain ⟨m, hn, hm⟩ := F.ns
  have hnT : ∀ a, ¬ B.old a → ¬ B.T a := fun a ha t => ha (B.T_old a t)
  refine ⟨F.kind, F.glob, F.blt, F.code, F.loc, F.cell, F.free, F.gl, ⟨m, ?_, fun y d hk hl => ?_⟩, fun y hk => ?_, ?_, F.lnew, fun y c hc => ?_, fun y c hc => ?_, F.lc, F.cinj⟩
  · obtain ⟨o, es, ep, e, r⟩ := hn
    exact ⟨o, es, ep, x.keep _ _ e (hnT _ F.lnew) (fun m => F.lfree (.of_live m)), r⟩
  · obtain ⟨u, e, q⟩ := hm y d hk hl
    exact ⟨u, e, q.ex x⟩
  · obtain ⟨c, ov, e, ⟨o, ho, hd⟩, q⟩ := F.cl y hk
    refine ⟨c, ov, e, ⟨o, x.keep _ _ ho (hnT _ (F.cfree y c e).2) (fun m => (F.cfree y c e).1 (.of_live m)), hd⟩, fun d hl => ?_⟩
    obtain ⟨u, eu, qu⟩ := q d hl
    exact ⟨u, eu, qu.ex x⟩
  · obtain ⟨o, es, ep, e, r⟩ := hn
    exact x.out e F.lfree
  · obtain ⟨o, ho⟩ := F.clive y c hc
    exact ⟨x.out ho (F.cfree y c hc).1, (F.cfree y c hc).2⟩
  · obtain ⟨o, ho⟩ := F.clive y c hc
    exact x.live c o ho
end
end Mine
/-! ## KC -/
set_option autoImplicit false
namespace Mine
open PySem PySem.W PyProof.Rows PySem.Calls

structure Room (A : Around) (k : Nat) : Prop where
  h : A.handled = none
  d : A.depth + k < 900
  u : A.units + 4 * k < 9800

theorem Room.le {A : Around} {k j : Nat} (r : Room A k) (hj : j ≤ k) : Room A j := ⟨r.h, by have := r.d; omega, by have := r.u; omega⟩
theorem Room.in1 {A : Around} {k : Nat} (r : Room A (k + 1)) : Room A.in1 k := ⟨r.h, by have := r.d; show A.depth + k < 900; omega, by have := r.u; show A.units + 1 + 4 * k < 9800; omega⟩
theorem Room.deeper {A : Around} {k : Nat} {env : Env} (r : Room A (k + 1)) : Room (A.deeper env) k := ⟨r.h, by have := r.d; show A.depth + 1 + k < 900; omega, by have := r.u; show A.units + 3 + 4 * k < 9800; omega⟩
theorem Room.depth {A : Around} {k : Nat} (r : Room A k) : A.depth < recursionLimit := by have := r.d; show A.depth < 1000; omega
theorem Room.units {A : Around} {k : Nat} (r : Room A k) : A.units + 64 < cLine := by have := r.u; rw [cLine_is]; omega

structure Post (B : Base) (Φ : Addr → Prop) (s : Shared) (adr : List Ent) (s' : Shared) (adr' : List Ent) (st' : Sto) : Prop where
  inv : B.Inv s'.heap
  sr : SR B Φ s'.heap adr' st'
  ex : Ex B.T s.heap adr s'.heap adr'
  os : s'.os = s.os
  gens : s'.gens = s.gens

def NoE : Value → Shared → Prop := fun _ _ => False

/-- the tree ends in data `d`, the store being `st'` -/
def Gives (B : Base) (Φ : Addr → Prop) (A : Around) (t : Sem Value) (s : Shared) (adr : List Ent) (st' : Sto) (d : D) : Prop :=
  wpAny (model B.prog B.w) A t (fun v s' => ∃ adr', Post B Φ s adr s' adr' st' ∧ VR B.T Φ B.Ins s'.heap adr' v d) NoE s

section
variable {B : Base} {Φ : Addr → Prop} {s s' s'' : Shared} {adr adr' adr'' : List Ent} {st st' st'' : Sto} {h h' : Heap}

theorem Post.trans (x : Post B Φ s adr s' adr' st') (y : Post B Φ s' adr' s'' adr'' st'') : Post B Φ s adr s'' adr'' st'' :=
  ⟨y.inv, y.sr, x.ex.trans y.ex, y.os.trans x.os, y.gens.trans x.gens⟩
theorem Post.refl (i : B.Inv s.heap) (r : SR B Φ s.heap adr st) : Post B Φ s adr s adr st := ⟨i, r, .refl, rfl, rfl⟩

theorem SR.at (S : SR B Φ h adr st) {i : Nat} {e : Ent} (he : adr[i]? = some e) : ∃ o, h.get? e.at = some o ∧ o.cls ≠ .type "tuple" := by
  have hi := (List.getElem?_eq_some_iff.mp he).1
  have hl : i < st.length := S.len ▸ hi
  cases hm : st[i] with
  | lst l =>
    obtain ⟨a', vs, n, q1, q2, _⟩ := S.lst i l (by rw [List.getElem?_eq_getElem hl, hm])
    rw [he] at q1; cases q1; exact ⟨_, q2, by simp [listO]⟩
  | sent =>
    obtain ⟨a', q1, q2⟩ := S.sent i (by rw [List.getElem?_eq_getElem hl, hm])
    rw [he] at q1; cases q1; exact ⟨_, q2, by simp [sentO]⟩
  | dead =>
    obtain ⟨a', vs, n, q1, q2⟩ := S.dead i (by rw [List.getElem?_eq_getElem hl, hm])
    rw [he] at q1; cases q1; exact ⟨_, q2, by simp [listO]⟩
theorem SR.fresh (S : SR B Φ h adr st) {a : Addr} (hn : h.get? a = none) : ¬ At adr a := fun ⟨e, m, he⟩ => by
  obtain ⟨i, hi, q⟩ := List.getElem_of_mem m
  obtain ⟨o, ho, _⟩ := S.at (i := i) (e := e) (by rw [List.getElem?_eq_getElem hi, q])
  rw [he, hn] at ho; cases ho

/-- where everything is kept the store stands -/
theorem SR.keep (S : SR B Φ h adr st) (k : ∀ a o, h.get? a = some o → h'.get? a = some o) : SR B Φ h' adr st := by
  have x : Ex B.T h adr h' adr := .of_keep k
  refine ⟨S.len, fun i l e => ?_, fun i e => ?_, fun i e => ?_, S.inj, S.out, fun a p => ?_, S.phiO⟩
  · obtain ⟨a, vs, n, q1, q2, q3, q4⟩ := S.lst i l e
    exact ⟨a, vs, n, q1, k _ _ q2, q3.ex x, q4⟩
  · obtain ⟨a, q1, q2⟩ := S.sent i e
    exact ⟨a, q1, k _ _ q2⟩
  · obtain ⟨a, vs, n, q1, q2⟩ := S.dead i e
    exact ⟨a, vs, n, q1, k _ _ q2⟩
  · obtain ⟨o, e⟩ := S.phi a p
    exact ⟨o, k _ _ e⟩
theorem Post.keep (i : B.Inv s.heap) (r : SR B Φ s.heap adr st) (k : ∀ a o, s.heap.get? a = some o → h'.get? a = some o) (tk : Nat) : Post B Φ s adr { s with heap := h', toks := tk } adr st :=
  ⟨B.step _ _ i fun a o _ e => k a o e, r.keep k, .of_keep k, rfl, rfl⟩
theorem Post.toks (i : B.Inv s.heap) (r : SR B Φ s.heap adr st) (tk : Nat) : Post B Φ s adr { s with toks := tk } adr st := Post.keep i r (fun _ _ e => e) tk
theorem new_fz (i : B.Inv h) (S : SR B Φ h adr st) {a : Addr} (hn : h.get? a = none) : Fz B.T Φ adr a :=
  ⟨fun t => (by obtain ⟨o, e⟩ := B.stays h a i (B.T_old a t); rw [hn] at e; cases e), fun p => (by obtain ⟨o, e⟩ := S.phi a p; rw [hn] at e; cases e), S.fresh hn⟩
theorem new_old (i : B.Inv h) {a : Addr} (hn : h.get? a = none) : ¬ B.old a := fun t => by obtain ⟨o, e⟩ := B.stays h a i t; rw [hn] at e; cases e
theorem size_none (h : Heap) : h.get? h.objs.size = none := by
  cases e : h.get? h.objs.size with
  | none => rfl
  | some o => exact absurd (Heap.lt_size e) (Nat.lt_irrefl _)

/-- a new plain object -/
theorem gives_push {A : Around} {t : Sem Value} {d : D} {o : Obj} (i : B.Inv s.heap) (r : SR B Φ s.heap adr st) {tk : Nat}
    (hv : VR B.T Φ B.Ins (s.heap.push o) adr (.ref s.heap.objs.size) d)
    (ht : ∀ Q E, Q (.ref s.heap.objs.size) { s with heap := s.heap.push o, toks := tk } → wpAny (model B.prog B.w) A t Q E s) : Gives B Φ A t s adr st d :=
  ht _ _ ⟨adr, Post.keep i r (keep_push o) tk, hv⟩

theorem vr_push_lst (i : B.Inv s.heap) (S : SR B Φ s.heap adr st) {vs : List Value} {ds : List D} {n : Nat} (r : VRs B.T Φ B.Ins s.heap adr vs ds) (hl : ds.length ≤ LIM) :
    VR B.T Φ B.Ins (s.heap.push (listO vs n)) adr (.ref s.heap.objs.size) (.lst ds) :=
  .lst (Heap.get?_push_size _ rfl) (new_fz i S (size_none _)) (r.ex (.of_keep (keep_push _))) hl
theorem vr_push_tup (i : B.Inv s.heap) (S : SR B Φ s.heap adr st) {vs : List Value} {ds : List D} {n : Nat} (r : VRs B.T Φ B.Ins s.heap adr vs ds) (hl : ds.length ≤ LIM) :
    VR B.T Φ B.Ins (s.heap.push (tupO vs n)) adr (.ref s.heap.objs.size) (.tup ds) :=
  .tup (Heap.get?_push_size _ rfl) (new_fz i S (size_none _)) (r.ex (.of_keep (keep_push _))) hl
end

section
variable {B : Base} {Φ : Addr → Prop} {A : Around} {s : Shared} {adr : List Ent} {st : Sto}

theorem gives_tok {t : Sem Value} {d : D} (i : B.Inv s.heap) (r : SR B Φ s.heap adr st) {v : Value} {tk : Nat} (hv : VR B.T Φ B.Ins s.heap adr v d)
    (ht : ∀ Q E, Q v { s with toks := tk } → wpAny (model B.prog B.w) A t Q E s) : Gives B Φ A t s adr st d :=
  ht _ _ ⟨adr, Post.toks i r tk, hv⟩
theorem gives_now {t : Sem Value} {d : D} (i : B.Inv s.heap) (r : SR B Φ s.heap adr st) {v : Value} (hv : VR B.T Φ B.Ins s.heap adr v d)
    (ht : ∀ Q E, Q v s → wpAny (model B.prog B.w) A t Q E s) : Gives B Φ A t s adr st d :=
  ht _ _ ⟨adr, Post.refl i r, hv⟩

theorem bits_small {a : Int} (h : a.natAbs < 1073741824) : Builtin.Int.intBits a ≤ 64 := intBits_le_64 (by omega) (by omega)

theorem binop_int {op : Operator} {a b : Int} {t u : Tok} {d : D} (i : B.Inv s.heap) (S : SR B Φ s.heap adr st) (e : binI op a b = some d) : Gives B Φ A (binaryOp op (.int a t) (.int b u)) s adr st d := by
  cases op with
  | Add => simp only [binI] at e; cases e; exact gives_tok i S (.int _ _) fun Q E h => add_int h
  | Sub => simp only [binI] at e; cases e; exact gives_tok i S (.int _ _) fun Q E h => sub_int h
  | Mult =>
    simp only [binI] at e
    split at e
    · rename_i hc
      cases e
      refine gives_tok i S (.int _ _) fun Q E h => mul_int h ?_
      rcases hc with hc | hc
      · exact IntMulOk.of_right (bits_small hc)
      · exact IntMulOk.of_left (bits_small hc)
    · cases e
  | Mod =>
    simp only [binI] at e
    split at e
    · cases e
    · rename_i hc
      cases e
      exact gives_tok i S (.int _ _) fun Q E h => mod_int' hc h
  | Pow =>
    simp only [binI] at e
    split at e
    · cases e
    · rename_i hc
      cases e
      refine gives_tok i S (.int _ _) fun Q E h => pow_int (by omega) ?_ h
      have h1 : (Builtin.Int.intBits a : Int) ≤ 64 := by exact_mod_cast bits_small (a := a) (by omega)
      have h2 : (0 : Int) ≤ (Builtin.Int.intBits a : Int) := by omega
      have h3 : (Builtin.Int.intBits a : Int) * b ≤ 64 * 64 := Int.mul_le_mul h1 (by omega) (by omega) (by omega)
      omega
  | BitOr => simp only [binI] at e; cases e; exact gives_tok i S (.int _ _) fun Q E h => or_int h
  | BitXor => simp only [binI] at e; cases e; exact gives_tok i S (.int _ _) fun Q E h => xor_int h
  | BitAnd => simp only [binI] at e; cases e; exact gives_tok i S (.int _ _) fun Q E h => and_int h
  | FloorDiv =>
    simp only [binI] at e
    split at e
    · cases e
    · rename_i hc
      cases e
      exact gives_tok i S (.int _ _) fun Q E h => floordiv_int (by omega) h (.inl (PyProof.noPylong_small (by omega)))
  | _ => simp [binI] at e

theorem binop_str {x y : Str} {t u : Tok} {a b : List Nat} {d : D} (i : B.Inv s.heap) (S : SR B Φ s.heap adr st) (ha : VR B.T Φ B.Ins s.heap adr (.str x t) (.str a)) (hb : VR B.T Φ B.Ins s.heap adr (.str y u) (.str b))
    (e : limS (a ++ b) = some d) : Gives B Φ A (binaryOp .Add (.str x t) (.str y u)) s adr st d := by
  cases ha with
  | str _ _ _ e1 l1 c1 =>
  cases hb with
  | str _ _ _ e2 l2 c2 =>
  unfold limS at e
  split at e
  · rename_i hl
    cases e
    refine add_str (fun t' tk => ⟨adr, Post.toks i S tk, .str _ _ _ ?_ hl ?_⟩) ?_
    · show (x.cps ++ y.cps).toList = _
      rw [Array.toList_append, e1, e2]
    · unfold ascii at *
      rw [List.all_append, c1, c2]; rfl
    · have q1 : x.length = a.length := by rw [← e1]; exact (Array.length_toList).symm
      have q2 : y.length = b.length := by rw [← e2]; exact (Array.length_toList).symm
      rw [q1, q2, sizeLine_eq]
      unfold LIM at *; omega
  · cases e

theorem rep_eq {α : Type} (n : Nat) (l : List α) : rep n l = (List.replicate n l).flatten := by
  induction n with
  | zero => rfl
  | succ n ih => rw [rep, ih, List.replicate_succ, List.flatten_cons]
theorem rep_len {α : Type} (n : Nat) (l : List α) : (rep n l).length = n * l.length := by
  induction n with
  | zero => simp [rep]
  | succ n ih => rw [rep, List.length_append, ih, Nat.succ_mul]; omega
theorem foldl_apps {α : Type} : ∀ (l : List (Array α)) (a : Array α), (l.foldl (· ++ ·) a).toList = a.toList ++ (l.map Array.toList).flatten
  | [], a => by simp
  | x :: l, a => by rw [List.foldl_cons, foldl_apps l]; simp
theorem rep_ascii (n : Nat) (l : List Nat) (h : ascii l = true) : ascii (rep n l) = true := by
  induction n with
  | zero => rfl
  | succ n ih => unfold ascii at *; rw [rep, List.all_append, h, ih]; rfl

theorem mul_str_ok {x : Str} {t u : Tok} {a : List Nat} {n : Int} {d : D} (i : B.Inv s.heap) (S : SR B Φ s.heap adr st) (ha : VR B.T Φ B.Ins s.heap adr (.str x t) (.str a))
    (hn : ¬ (n < -1000 ∨ 1048576 < n)) (e : limS (rep n.toNat a) = some d) : Gives B Φ A (binaryOp .Mult (.str x t) (.int n u)) s adr st d := by
  cases ha with
  | str _ _ _ e1 l1 c1 =>
  unfold limS at e
  split at e
  · rename_i hl
    cases e
    have q1 : x.length = a.length := by rw [← e1]; exact (Array.length_toList).symm
    refine P.mul_str ?_ (fun h1 h2 => ?_) (fun h1 h2 => ?_) ?_
    · rw [decide_eq_false (by omega), decide_eq_false (by omega)]; rfl
    · intro hc
      rw [q1] at hc
      have h3 : (2 ^ 63 - 1 : Int) / n ≥ 2 ^ 63 / 2 ^ 21 := by
        refine (Int.le_ediv_iff_mul_le (by omega)).mpr ?_
        have : (2 ^ 63 / 2 ^ 21 : Int) = 4398046511104 := by decide
        rw [this]
        omega
      have : (2 ^ 63 / 2 ^ 21 : Int) = 4398046511104 := by decide
      rw [this] at h3
      unfold LIM at l1
      omega
    · rw [q1]
      have h4 : a.length * n.toNat ≤ LIM := by rw [Nat.mul_comm, ← rep_len]; exact hl
      unfold LIM at h4
      show decide (a.length * n.toNat > sizeLine) = false
      rw [sizeLine_eq]
      exact decide_eq_false (by omega)
    · by_cases h1 : n < 1
      · rw [if_pos h1]
        have : n.toNat = 0 := by omega
        refine ⟨by decide, adr, Post.toks i S _, .str _ _ _ ?_ hl (rep_ascii _ _ c1)⟩
        rw [this]; rfl
      · rw [if_neg h1]
        by_cases h2 : (n == 1 || x.length == 0) = true
        · rw [if_pos h2]
          refine ⟨adr, Post.refl i S, .str _ _ _ ?_ hl (rep_ascii _ _ c1)⟩
          rw [e1]
          rcases Bool.or_eq_true_iff.mp h2 with h3 | h3
          · have : n = 1 := by simpa using h3
            subst this; simp [rep]
          · have h4 : a.length = 0 := by rw [← q1]; simpa using h3
            have : a = [] := List.eq_nil_of_length_eq_zero h4
            subst this
            rw [rep_eq]; simp
        · rw [if_neg h2]
          refine ⟨?_, adr, Post.toks i S _, .str _ _ _ ?_ hl (rep_ascii _ _ c1)⟩
          · show (Array.size _) ≤ sizeLine
            rw [← Array.length_toList, foldl_apps, sizeLine_eq]
            simp only [List.map_replicate, e1, ← rep_eq]
            unfold LIM at hl
            simp; omega
          · rw [foldl_apps, List.map_replicate, e1, ← rep_eq]; simp
  · cases e
end
end Mine
/-! ## KD -/
set_option autoImplicit false
namespace Mine
open PySem PySem.W PyProof.Rows PySem.Calls

section
variable {B : Base} {Φ : Addr → Prop} {A : Around} {s : Shared} {adr : List Ent} {st : Sto}

theorem plain_at (S : SR B Φ s.heap adr st) {u : Value} {a : D} {l : List D} (r : VR B.T Φ B.Ins s.heap adr u a) (e : st.items a = some l) (h4 : a.kind ≠ 4) (h11 : a.kind ≠ 11) :
    ∃ x vs n, u = .ref x ∧ s.heap.get? x = some (listO vs n) ∧ VRs B.T Φ B.Ins s.heap adr vs l ∧ l.length ≤ LIM := by
  cases r with
  | lst e1 z r b => simp only [Sto.items] at e; cases e; exact ⟨_, _, _, rfl, e1, r, b⟩
  | ref e1 =>
    simp only [Sto.items] at e
    split at e
    · rename_i l' hl
      cases e
      obtain ⟨x, vs, n, q1, q2, q3, q4⟩ := S.lst _ _ hl
      rw [e1] at q1; cases q1
      exact ⟨_, _, _, rfl, q2, q3, q4⟩
    · cases e
  | tup => exact absurd rfl h4
  | scr => exact absurd rfl h11
  | _ => simp [Sto.items] at e
theorem list_at (S : SR B Φ s.heap adr st) {u : Value} {a : D} {l : List D} (r : VR B.T Φ B.Ins s.heap adr u a) (e : st.items a = some l) (h4 : a.kind ≠ 4) :
    ∃ x vs, u = .ref x ∧ s.heap.IsList x vs.toArray ∧ VRs B.T Φ B.Ins s.heap adr vs l ∧ l.length ≤ LIM := by
  by_cases h11 : a.kind = 11
  · cases r with
    | scr e1 c d z r b => simp only [Sto.items] at e; cases e; exact ⟨_, _, rfl, ⟨_, e1, c, _, d⟩, r, b⟩
    | _ => simp [D.kind] at h11
  · obtain ⟨x, vs, n, q1, q2, q3, q4⟩ := plain_at S r e h4 h11
    exact ⟨x, vs, q1, ⟨_, q2, rfl, n, rfl⟩, q3, q4⟩

theorem mulL {l : Addr} {items : Array Value} {k : Nat} {x : Int} {u : Tok} {Q : Value → Shared → Prop} {E : Value → Shared → Prop} {prog : Program} {w : World}
    (hl : s.heap.get? l = some { cls := .type "list", dict := none, data := .seq items k, slots := #[] })
    (hlo : -(2 ^ 63 : Int) ≤ x) (hhi : x < 2 ^ 63) (hsz : items.size * x.toNat ≤ 2 ^ 24)
    (h : Q (.ref s.heap.objs.size) { s with heap := s.heap.push { cls := .type "list", data := .seq (List.foldl (fun x1 x2 => x1 ++ x2) #[] (List.replicate (if items.isEmpty = true then 0 else x.toNat) items)) } }) :
    wpAny (model prog w) A (binaryOp .Mult (.ref l) (.int x u)) Q E s :=
  wpAny_binaryOp_repeat_ref (T := "list") (U := "int") (by decide) ⟨_, hl, rfl⟩ (fun s' => typeIs_int s' x u) noFill_list_mul PySem.F.fills_int_mul PySem.F.slot_int_rmul repeat_list PySem.F.slot_int_index.lookup
    (call_meets PySem.F.slot_int_rmul (typeIs_int s x u) PySem.F.entry_int_rmul (PySem.F.args_int_rmul_2 _ _) (int___rmul___int_list x u l items k)
      ⟨hl, rfl, ⟨_, hl, rfl⟩, call_meets PySem.F.slot_list_mul ⟨_, hl, rfl⟩ PySem.F.entry_list_mul (PySem.F.args_list_mul_2 _ _)
        (AutoListH.list___mul___list_int_3 l items k x u (by simp [Builtin.List.listFitsIndex]; omega) (by omega) (by simp [Builtin.List.listTooLong, sizeLine]; omega))
        ⟨hl, h⟩⟩)

theorem vrs_rep {T Φ : Addr → Prop} {Ins : InsT} {h : Heap} {vs : List Value} {ds : List D} (r : VRs T Φ Ins h adr vs ds) : ∀ n, VRs T Φ Ins h adr (rep n vs) (rep n ds)
  | 0 => .nil
  | n + 1 => r.append (vrs_rep r n)

theorem addL_ok {a b d : D} {u v : Value} (i : B.Inv s.heap) (S : SR B Φ s.heap adr st) (ru : VR B.T Φ B.Ins s.heap adr u a) (rv : VR B.T Φ B.Ins s.heap adr v b) (e : addL st a b = some d) :
    Gives B Φ A (binaryOp .Add u v) s adr st d := by
  unfold addL at e
  split at e
  · cases e
  · rename_i hk
    simp only [Option.bind_eq_bind, Option.bind_eq_some_iff] at e
    obtain ⟨x, hx, y, hy, e⟩ := e
    simp only [Bool.or_eq_true, beq_iff_eq, not_or] at hk
    obtain ⟨p, vs, n, rfl, q2, q3, q4⟩ := plain_at S ru hx hk.1.1.1 hk.1.2
    obtain ⟨p', vs', n', rfl, q2', q3', q4'⟩ := plain_at S rv hy hk.1.1.2 hk.2
    unfold lim at e
    split at e
    · rename_i hl
      cases e
      have ha : (vs.toArray ++ vs'.toArray) = (vs ++ vs').toArray := by simp
      refine P.add_list q2 q2' ?_ ?_
      · rw [ha]
        exact ⟨adr, Post.keep i S (keep_push _) _, vr_push_lst i S (q3.append q3') hl⟩
      · rw [sizeLine_eq, List.size_toArray, List.size_toArray, q3.length, q3'.length]
        unfold LIM at *; omega
    · cases e
theorem mulD_ok {a d : D} {u : Value} {n : Int} {t : Tok} (i : B.Inv s.heap) (S : SR B Φ s.heap adr st) (ru : VR B.T Φ B.Ins s.heap adr u a) (e : mulD st a n = some d) :
    Gives B Φ A (binaryOp .Mult u (.int n t)) s adr st d := by
  unfold mulD at e
  split at e
  · cases e
  · rename_i hk
    simp only [Option.bind_eq_bind, Option.bind_eq_some_iff] at e
    obtain ⟨x, hx, e⟩ := e
    simp only [Bool.or_eq_true, beq_iff_eq, not_or, decide_eq_true_eq] at hk
    obtain ⟨p, vs, m, rfl, q2, q3, q4⟩ := plain_at S ru hx hk.1.1.1 hk.1.1.2
    unfold lim at e
    split at e
    · rename_i hl
      cases e
      rw [rep_len] at hl
      refine mulL q2 (by omega) (by omega) ?_ ?_
      · rw [List.size_toArray, q3.length, Nat.mul_comm]
        unfold LIM at hl; omega
      · have ha : (List.foldl (fun x1 x2 => x1 ++ x2) #[] (List.replicate (if vs.toArray.isEmpty = true then 0 else n.toNat) vs.toArray)) = (rep n.toNat vs).toArray := by
          apply Array.ext'
          rw [foldl_apps]
          by_cases hz : vs = []
          · subst hz; rw [rep_eq]; simp
          · have : vs.toArray.isEmpty = false := by simpa using hz
            rw [this, List.map_replicate, rep_eq]; simp
        rw [ha]
        exact ⟨adr, Post.keep i S (keep_push _) _, vr_push_lst i S (vrs_rep q3 _) (by rw [rep_len]; exact hl)⟩
    · cases e

theorem binop_ok {op : Operator} {a b d : D} {u v : Value} (i : B.Inv s.heap) (S : SR B Φ s.heap adr st) (ru : VR B.T Φ B.Ins s.heap adr u a) (rv : VR B.T Φ B.Ins s.heap adr v b) (e : binop st op a b = some d) :
    Gives B Φ A (binaryOp op u v) s adr st d := by
  unfold binop at e
  split at e
  · cases ru; cases rv; exact binop_int i S e
  · split at e
    · cases ru with
      | str x t _ e1 l1 c1 =>
      cases rv with
      | str y u _ e2 l2 c2 => exact binop_str i S (.str _ _ _ e1 l1 c1) (.str _ _ _ e2 l2 c2) e
    · cases e
  · split at e
    · unfold mulS at e
      split at e
      · cases e
      · rename_i hn
        cases ru with
        | str x t _ e1 l1 c1 =>
        cases rv
        exact mul_str_ok i S (.str _ _ _ e1 l1 c1) hn e
    · cases e
  · split at e
    · cases rv
      exact mulD_ok i S ru e
    · cases e
  · split at e
    · exact addL_ok i S ru rv e
    · cases e
end
end Mine
/-! ## KF -/
set_option autoImplicit false
namespace Mine
open PySem PySem.W PyProof.Rows PySem.Calls

mutual
def D.toP : D → PyData
  | .none => .none
  | .bool b => .bool b
  | .int i => .int i
  | .str l => .str ⟨l.toArray⟩
  | .tup l => .tuple (D.toPs l)
  | .lst l => .list (D.toPs l)
  | _ => .none
def D.toPs : List D → List PyData
  | [] => []
  | d :: r => d.toP :: D.toPs r
end

theorem D.toPs_any (x : D) (f : PyData → Bool) : ∀ l : List D, (D.toPs l).any f = l.any fun y => f y.toP
  | [] => rfl
  | y :: l => by rw [D.toPs, List.any_cons, List.any_cons, D.toPs_any x f l]

mutual
theorem D.beq_toP : ∀ (a b : D) (n m : Nat), a.ok n = true → b.ok m = true → PyData.eqv a.toP b.toP = D.beq a b
  | .none, b, n, m, _, hb => by cases b <;> first | rfl | (cases m <;> simp [D.ok] at hb)
  | .bool a, b, n, m, _, hb => by cases b <;> first | rfl | (cases m <;> simp [D.ok] at hb)
  | .int a, b, n, m, _, hb => by cases b <;> first | rfl | (cases m <;> simp [D.ok] at hb)
  | .str a, b, n, m, _, hb => by
    cases b <;> first | rfl | (cases m <;> simp [D.ok] at hb; done) | skip
    rename_i l
    show ((⟨a.toArray⟩ : Str) == ⟨l.toArray⟩) = (a == l)
    rw [Bool.eq_iff_iff, beq_iff_eq, beq_iff_eq]
    constructor
    · intro h; simpa using congrArg (fun x => x.cps.toList) h
    · intro h; rw [h]
  | .tup x, b, n, m, ha, hb => by
    cases b <;> first | (cases m <;> simp [D.ok] at hb; done) | rfl | skip
    rename_i l
    cases n with
    | zero => simp [D.ok] at ha
    | succ n => cases m with
      | zero => simp [D.ok] at hb
      | succ m =>
        show PyData.eqvAll (D.toPs x) (D.toPs l) = D.beqs x l
        exact D.beqs_toP x l n m (by simpa [D.ok] using ha) (by simpa [D.ok] using hb)
  | .lst x, b, n, m, ha, hb => by
    cases b <;> first | (cases m <;> simp [D.ok] at hb; done) | rfl | skip
    rename_i l
    cases n with
    | zero => simp [D.ok] at ha
    | succ n => cases m with
      | zero => simp [D.ok] at hb
      | succ m =>
        show PyData.eqvAll (D.toPs x) (D.toPs l) = D.beqs x l
        exact D.beqs_toP x l n m (by simpa [D.ok] using ha) (by simpa [D.ok] using hb)
  | .ref _, b, n, m, ha, _ => by cases n <;> simp [D.ok] at ha
  | .app _, b, n, m, ha, _ => by cases n <;> simp [D.ok] at ha
  | .rng _ _, b, n, m, ha, _ => by cases n <;> simp [D.ok] at ha
  | .dic0, b, n, m, ha, _ => by cases n <;> simp [D.ok] at ha
  | .pat _, b, n, m, ha, _ => by cases n <;> simp [D.ok] at ha
  | .inst _ _, b, n, m, ha, _ => by cases n <;> simp [D.ok] at ha
  | .scr _, b, n, m, ha, _ => by cases n <;> simp [D.ok] at ha
theorem D.beqs_toP : ∀ (x l : List D) (n m : Nat), (∀ d ∈ x, d.ok n = true) → (∀ d ∈ l, d.ok m = true) → PyData.eqvAll (D.toPs x) (D.toPs l) = D.beqs x l
  | [], [], _, _, _, _ => rfl
  | [], _ :: _, _, _, _, _ => rfl
  | _ :: _, [], _, _, _, _ => rfl
  | a :: x, b :: l, n, m, ha, hb => by
    show (PyData.eqv a.toP b.toP && PyData.eqvAll (D.toPs x) (D.toPs l)) = (D.beq a b && D.beqs x l)
    rw [D.beq_toP a b n m (ha a (.head _)) (hb b (.head _)), D.beqs_toP x l n m (fun d hd => ha d (.tail _ hd)) fun d hd => hb d (.tail _ hd)]
end

section
variable {T Φ : Addr → Prop} {Ins : InsT} {h : Heap} {adr : List Ent}
theorem strOk_ascii {l : List Nat} (h : ascii l = true) : PyData.strOk ⟨l.toArray⟩ = true := by
  unfold PyData.strOk
  rw [Array.all_eq_true']
  intro x hx
  have := List.all_eq_true.mp h x (by simpa using hx)
  simp only [decide_eq_true_eq] at this ⊢
  omega
mutual
theorem VR.reads : ∀ {v : Value} {d : D} (n : Nat), VR T Φ Ins h adr v d → d.ok n = true → (∃ as, Reads h v d.toP as) ∧ d.toP.canLay0 = true ∧ d.toP.depth ≤ n
  | _, _, _, .none, _ => ⟨⟨_, .none⟩, rfl, Nat.zero_le _⟩
  | _, _, _, .bool b, _ => ⟨⟨_, .bool b⟩, rfl, Nat.zero_le _⟩
  | _, _, _, .int i t, _ => ⟨⟨_, .int i t⟩, rfl, Nat.zero_le _⟩
  | _, _, _, .str s t l e b c, _ => by
    subst e
    exact ⟨⟨_, .str s t⟩, strOk_ascii c, Nat.zero_le _⟩
  | _, _, 0, .tup .., hk => by simp [D.ok] at hk
  | _, _, 0, .lst .., hk => by simp [D.ok] at hk
  | _, _, n + 1, .tup e z r b, hk => by
    obtain ⟨⟨as, q⟩, c, p⟩ := VRs.reads n r (by simpa [D.ok] using hk)
    exact ⟨⟨_, reads_tuple_at e rfl rfl (by simpa using q)⟩, c, by show PyData.depthAll _ + 1 ≤ n + 1; omega⟩
  | _, _, n + 1, .lst e z r b, hk => by
    obtain ⟨⟨as, q⟩, c, p⟩ := VRs.reads n r (by simpa [D.ok] using hk)
    exact ⟨⟨_, reads_list_at e rfl rfl (by simpa using q)⟩, c, by show PyData.depthAll _ + 1 ≤ n + 1; omega⟩
  | _, _, n, .scr .., hk => by cases n <;> simp [D.ok] at hk
  | _, _, n, .ref _, hk => by cases n <;> simp [D.ok] at hk
  | _, _, n, .app .., hk => by cases n <;> simp [D.ok] at hk
  | _, _, n, .dic .., hk => by cases n <;> simp [D.ok] at hk
  | _, _, n, .pat .., hk => by cases n <;> simp [D.ok] at hk
  | _, _, n, .rng .., hk => by cases n <;> simp [D.ok] at hk
  | _, _, n, .inst .., hk => by cases n <;> simp [D.ok] at hk
theorem VRs.reads : ∀ {vs : List Value} {ds : List D} (n : Nat), VRs T Φ Ins h adr vs ds → (∀ d ∈ ds, d.ok n = true) → (∃ as, ReadsAll h vs (D.toPs ds) as) ∧ PyData.canLayAll0 (D.toPs ds) = true ∧ PyData.depthAll (D.toPs ds) ≤ n
  | _, _, _, .nil, _ => ⟨⟨_, .nil⟩, rfl, Nat.zero_le _⟩
  | _, _, n, .cons a r, hk => by
    obtain ⟨⟨as, q⟩, c, p⟩ := VR.reads n a (hk _ (.head _))
    obtain ⟨⟨as', q'⟩, c', p'⟩ := VRs.reads n r fun d hd => hk d (.tail _ hd)
    refine ⟨⟨_, .cons q q'⟩, ?_, ?_⟩
    · show (_ && _) = true; rw [c, c']; rfl
    · show max _ _ ≤ n; omega
end
end

section
variable {B : Base} {Φ : Addr → Prop} {A : Around} {s : Shared} {adr : List Ent} {st : Sto}

theorem now_reads (S : SR B Φ s.heap adr st) {u : Value} {a : D} (r : VR B.T Φ B.Ins s.heap adr u a) (n : Nat) (hk : (st.now a).ok n = true) :
    (∃ as, Reads s.heap u (st.now a).toP as) ∧ (st.now a).toP.canLay0 = true ∧ (st.now a).toP.depth ≤ n := by
  cases r with
  | @ref x i e1 =>
    by_cases hl : ∃ l, st[i]? = some (Mo.lst l)
    · obtain ⟨l, hl⟩ := hl
      have hn : st.now (.ref i) = .lst l := by simp only [Sto.now, hl]
      rw [hn] at hk ⊢
      obtain ⟨x', vs, m, q1, q2, q3, q4⟩ := S.lst _ _ hl
      rw [e1] at q1; cases q1
      cases n with
      | zero => simp [D.ok] at hk
      | succ n =>
        obtain ⟨⟨as, q⟩, c, p⟩ := VRs.reads n q3 (by simpa [D.ok] using hk)
        exact ⟨⟨_, reads_list_at q2 rfl rfl (by simpa using q)⟩, c, by show PyData.depthAll _ + 1 ≤ n + 1; omega⟩
    · have hn : st.now (.ref i) = .ref i := by
        simp only [Sto.now]
        split
        · rename_i l hl'; exact absurd ⟨l, hl'⟩ hl
        · rfl
      rw [hn] at hk
      cases n <;> simp [D.ok] at hk
  | none => exact VR.reads (T := B.T) (Φ := Φ) (Ins := B.Ins) (adr := adr) n .none hk
  | bool b => exact VR.reads (T := B.T) (Φ := Φ) (Ins := B.Ins) (adr := adr) n (.bool b) hk
  | int i t => exact VR.reads (T := B.T) (Φ := Φ) (Ins := B.Ins) (adr := adr) n (.int i t) hk
  | str s t l e b c => exact VR.reads (T := B.T) (Φ := Φ) (Ins := B.Ins) (adr := adr) n (.str s t l e b c) hk
  | tup e z r b => exact VR.reads n (.tup e z r b) hk
  | lst e z r b => exact VR.reads n (.lst e z r b) hk
  | scr e c d z r b => exact VR.reads n (.scr e c d z r b) hk
  | app e z i => exact VR.reads (T := B.T) (Φ := Φ) (Ins := B.Ins) (adr := adr) n (.app e z i) hk
  | dic e z q => exact VR.reads (T := B.T) (Φ := Φ) (Ins := B.Ins) (adr := adr) n (.dic e z q) hk
  | pat e e' z z' c q => exact VR.reads (T := B.T) (Φ := Φ) (Ins := B.Ins) (adr := adr) n (.pat e e' z z' c q) hk
  | rng e z p q => exact VR.reads (T := B.T) (Φ := Φ) (Ins := B.Ins) (adr := adr) n (.rng e z p q) hk
  | inst e dd e' i z z' r => exact VR.reads n (.inst e dd e' i z z' r) hk

theorem shaped16 {d : PyData} (c : d.canLay0 = true) (p : d.depth ≤ 16) : SeqAt.shaped d = true := by
  unfold SeqAt.shaped; rw [c, Bool.true_and]; exact decide_eq_true (by omega)

theorem eq_ok {k : Nat} {a b : D} {u v : Value} {r : Bool} (R : Room A k) (i : B.Inv s.heap) (S : SR B Φ s.heap adr st) (ru : VR B.T Φ B.Ins s.heap adr u a) (rv : VR B.T Φ B.Ins s.heap adr v b) (e : eqD st a b = some r) :
    (∀ Q E, Q (.bool r) s → wpAny (model B.prog B.w) A (compareOp .Eq u v) Q E s) ∧ (∀ Q E, Q (.bool (!r)) s → wpAny (model B.prog B.w) A (compareOp .NotEq u v) Q E s) := by
  unfold eqD at e
  split at e
  · rename_i hk
    cases e
    obtain ⟨h1, h2⟩ := Bool.and_eq_true_iff.mp hk
    obtain ⟨⟨as, q⟩, c, p⟩ := now_reads S ru 16 h1
    obtain ⟨⟨bs, q'⟩, c', p'⟩ := now_reads S rv 16 h2
    have e := D.beq_toP _ _ 16 16 h1 h2
    exact ⟨fun Q E h => eq_dataH q q' (shaped16 c p) (shaped16 c' p') R.units (by rw [e]; exact h), fun Q E h => ne_dataH q q' (shaped16 c p) (shaped16 c' p') R.units (by rw [e]; exact h)⟩
  · cases e

theorem isIn_ok {k : Nat} {a b : D} {u v : Value} {r : Bool} (R : Room A k) (i : B.Inv s.heap) (S : SR B Φ s.heap adr st) (ru : VR B.T Φ B.Ins s.heap adr u a) (rv : VR B.T Φ B.Ins s.heap adr v b) (e : isIn st a b = some r) :
    (∀ Q E, Q (.bool r) s → wpAny (model B.prog B.w) A (compareOp .In u v) Q E s) ∧ (∀ Q E, Q (.bool (!r)) s → wpAny (model B.prog B.w) A (compareOp .NotIn u v) Q E s) := by
  unfold isIn at e
  have hu := R.units
  split at e
  · rename_i l hl
    split at e
    · rename_i hk
      cases e
      obtain ⟨h1, h2⟩ := Bool.and_eq_true_iff.mp hk
      obtain ⟨⟨as, q⟩, c, p⟩ := VR.reads 16 ru h1
      obtain ⟨⟨bs, q'⟩, c', p'⟩ := now_reads S rv 17 (by rw [hl]; simpa [D.ok] using h2)
      rw [hl] at q' c' p'
      have e1 : ((D.toPs l).any fun y => PyData.eqv y a.toP) = l.any fun x => D.beq x a := by
        rw [D.toPs_any a]
        have h3 := List.all_eq_true.mp h2
        clear hl h2 hk q' c' p'
        induction l with
        | nil => rfl
        | cons x l ih =>
          rw [List.any_cons, List.any_cons, D.beq_toP x a 16 16 (h3 x (.head _)) h1, ih fun y hy => h3 y (.tail _ hy)]
      have p2 : A.units + 1 + min (PyData.depthAll (D.toPs l)) a.toP.depth < cLine := by
        have := Nat.min_le_right (PyData.depthAll (D.toPs l)) a.toP.depth; omega
      exact ⟨fun Q E h => SeqAt.in_list_reads q' q c' c p2 (by rw [e1]; exact h), fun Q E h => SeqAt.notIn_list_reads q' q c' c p2 (by rw [e1]; exact h)⟩
    · cases e
  · rename_i l hl
    split at e
    · rename_i hk
      cases e
      obtain ⟨h1, h2⟩ := Bool.and_eq_true_iff.mp hk
      obtain ⟨⟨as, q⟩, c, p⟩ := VR.reads 16 ru h1
      obtain ⟨⟨bs, q'⟩, c', p'⟩ := now_reads S rv 17 (by rw [hl]; simpa [D.ok] using h2)
      rw [hl] at q' c' p'
      have e1 : ((D.toPs l).any fun y => PyData.eqv y a.toP) = l.any fun x => D.beq x a := by
        rw [D.toPs_any a]
        have h3 := List.all_eq_true.mp h2
        clear hl h2 hk q' c' p'
        induction l with
        | nil => rfl
        | cons x l ih =>
          rw [List.any_cons, List.any_cons, D.beq_toP x a 16 16 (h3 x (.head _)) h1, ih fun y hy => h3 y (.tail _ hy)]
      have p2 : A.units + 1 + min (PyData.depthAll (D.toPs l)) a.toP.depth < cLine := by
        have := Nat.min_le_right (PyData.depthAll (D.toPs l)) a.toP.depth; omega
      exact ⟨fun Q E h => SeqAt.in_tuple_reads q' q c' c p2 (by rw [e1]; exact h), fun Q E h => SeqAt.notIn_tuple_reads q' q c' c p2 (by rw [e1]; exact h)⟩
    · cases e
  · cases e
end
end Mine
/-! ## KG -/
set_option autoImplicit false
namespace Mine
open PySem PySem.W PyProof.Rows PySem.Calls

section
variable {B : Base} {Φ : Addr → Prop} {A : Around} {s : Shared} {adr : List Ent} {st : Sto}

theorem Sto.items_str (st : Sto) (l : List Nat) : st.items (.str l) = none := rfl

theorem cmp_ok {k : Nat} {op : CmpOp} {a b : D} {u v : Value} {r : Bool} (R : Room A k) (i : B.Inv s.heap) (S : SR B Φ s.heap adr st) (ru : VR B.T Φ B.Ins s.heap adr u a) (rv : VR B.T Φ B.Ins s.heap adr v b) (e : cmp st op a b = some r) :
    ∀ Q E, Q (.bool r) s → wpAny (model B.prog B.w) A (compareOp op u v) Q E s := by
  intro Q E h
  unfold cmp at e
  split at e
  · exact (eq_ok R i S ru rv e).1 Q E h
  · simp only [Option.map_eq_some_iff] at e
    obtain ⟨r', e, rfl⟩ := e
    exact (eq_ok R i S ru rv e).2 Q E h
  · cases ru; cases rv; cases e; exact lt_int h
  · cases ru; cases rv; cases e; exact P.le_int h
  · cases ru; cases rv; cases e; exact gt_int h
  · cases ru; cases rv; cases e; exact P.ge_int (by simpa using h)
  · cases ru with
    | str x t _ e1 l1 c1 =>
    cases rv with
    | str y w _ e2 l2 c2 =>
    cases e
    rename_i c _
    have hx : x = ⟨#[c]⟩ := by
      obtain ⟨x⟩ := x
      simp only at e1
      congr 1
      exact Array.ext' e1
    subst hx
    refine P.in_str ?_
    rw [StrLaws.found_one, e2]
    simpa using h
  · cases ru with
    | str x t _ e1 l1 c1 =>
    cases rv with
    | str y w _ e2 l2 c2 =>
    cases e
    rename_i c _
    have hx : x = ⟨#[c]⟩ := by
      obtain ⟨x⟩ := x
      simp only at e1
      congr 1
      exact Array.ext' e1
    subst hx
    refine P.notIn_str ?_
    rw [StrLaws.found_one, e2]
    simpa using h
  · exact (isIn_ok R i S ru rv e).1 Q E h
  · simp only [Option.map_eq_some_iff] at e
    obtain ⟨r', e, rfl⟩ := e
    exact (isIn_ok R i S ru rv e).2 Q E h
  · rename_i n m
    cases ru with
    | @ref x _ e1 =>
    cases rv with
    | @ref y _ e2 =>
    cases e
    by_cases hnm : n = m
    · subst hnm
      rw [e1] at e2; cases e2
      rw [decide_eq_true rfl] at h
      exact wpAny_is_ref_self h
    · rw [decide_eq_false hnm] at h
      obtain ⟨o, ho, ht⟩ := S.at e1
      obtain ⟨o', ho', _⟩ := S.at e2
      exact wpAny_is_ref_other (fun q => hnm (S.inj _ _ _ _ e1 e2 q)) ho ho' ht h
  · rename_i n m
    cases ru with
    | @ref x _ e1 =>
    cases rv with
    | @ref y _ e2 =>
    cases e
    by_cases hnm : n = m
    · subst hnm
      rw [e1] at e2; cases e2
      rw [decide_eq_true rfl] at h
      exact wpAny_isNot_ref_self h
    · rw [decide_eq_false hnm] at h
      obtain ⟨o, ho, ht⟩ := S.at e1
      obtain ⟨o', ho', _⟩ := S.at e2
      exact wpAny_isNot_ref_other (fun q => hnm (S.inj _ _ _ _ e1 e2 q)) ho ho' ht h
  · cases ru with
    | str x t _ e1 l1 c1 =>
    cases rv
    cases e
    exact wpAny_isNot_other rfl (by nofun) h
  · cases ru with
    | str x t _ e1 l1 c1 =>
    cases rv
    cases e
    exact wpAny_is_other rfl (by nofun) h
  · cases ru; cases rv; cases e; exact wpAny_isNot_other rfl (by nofun) h
  · cases ru; cases rv; cases e; exact wpAny_is_other rfl (by nofun) h
  · cases ru; cases rv; cases e; exact wpAny_is_self rfl h
  · cases ru; cases rv; cases e; exact wpAny_isNot_self rfl h
  · cases ru; cases rv; cases e; exact wpAny_isNot_other rfl (by nofun) h
  · cases ru; cases rv; cases e; exact wpAny_is_other rfl (by nofun) h
  · cases e

theorem truthy_ok {a : D} {u : Value} {r : Bool} (S : SR B Φ s.heap adr st) (ru : VR B.T Φ B.Ins s.heap adr u a) (e : st.truthy a = some r) :
    ∀ (Q : Bool → Shared → Prop) E, (∀ tk, Q r { s with toks := tk }) → wpAny (model B.prog B.w) A (truthy u) Q E s := by
  intro Q E h
  cases ru with
  | none => cases e; exact truthy_none (h s.toks)
  | bool b => cases e; exact wpAny_truthy_bool (h s.toks)
  | int i t =>
    cases e
    refine P.truthy_int ?_
    have : (i != 0) = decide (i ≠ 0) := by by_cases hi : i = 0 <;> simp [hi]
    rw [this]; exact h s.toks
  | str x t l e1 l1 c1 =>
    cases e
    have q1 : x.length = l.length := by rw [← e1]; exact (Array.length_toList).symm
    refine P.truthy_str (by unfold LIM at l1; omega) ?_
    rw [q1]
    have : ((l.length : Int) != 0) = !l.isEmpty := by cases l <;> simp; omega
    rw [this]; exact h _
  | @lst x vs n ds e1 z r b =>
    cases e
    refine wpAny_truthy_list (items := vs.toArray) ⟨_, e1, rfl, n, rfl⟩ (by rw [List.size_toArray, r.length]; unfold LIM at b; omega) ?_
    have : (!vs.toArray.isEmpty) = !ds.isEmpty := by
      have := r.length
      cases vs <;> cases ds <;> simp_all
    rw [this]; exact h _
  | @ref x n e1 =>
    simp only [Sto.truthy] at e
    split at e
    · rename_i l hl
      cases e
      obtain ⟨x', vs, m, q1, q2, q3, q4⟩ := S.lst _ _ hl
      rw [e1] at q1; cases q1
      refine wpAny_truthy_list (items := vs.toArray) ⟨_, q2, rfl, m, rfl⟩ (by rw [List.size_toArray, q3.length]; unfold LIM at q4; omega) ?_
      have : (!vs.toArray.isEmpty) = !l.isEmpty := by
        have := q3.length
        cases vs <;> cases l <;> simp_all
      rw [this]; exact h _
    · cases e
  | _ => simp [Sto.truthy] at e

theorem seqIndex_some {i : Int} {n k : Nat} (h : seqIndex? i n = some k) : (0 ≤ i ∧ i < n ∧ k = i.toNat) ∨ (i < 0 ∧ 0 ≤ i + n ∧ k = (i + n).toNat) := by
  by_cases hi : i < 0
  · simp only [seqIndex?, hi, if_true, Bool.and_eq_true, decide_eq_true_eq, Option.ite_none_right_eq_some, Option.some.injEq] at h
    omega
  · simp only [seqIndex?, hi, if_false, Bool.and_eq_true, decide_eq_true_eq, Option.ite_none_right_eq_some, Option.some.injEq] at h
    omega
theorem seqIndex_lim {i : Int} {n k : Nat} (h : seqIndex? i n = some k) (hn : n ≤ LIM) : -(2 ^ 63) ≤ i ∧ i < 2 ^ 63 := by
  unfold LIM at hn
  rcases seqIndex_some h with h | h <;> omega

theorem getItem_list' {l : Addr} {items : Array Value} {k : Int} {t : Tok} {j : Nat} {x : Value} {prog : Program} {w : World} {Q : Value → Shared → Prop} {E : Value → Shared → Prop} (hl : s.heap.IsList l items) (hlo : -(2 ^ 63) ≤ k) (hfit : k < 2 ^ 63)
    (hj : seqIndex? k items.size = some j) (hx : items[j]? = some x) (h : Q x s) : wpAny (model prog w) A (getItem (.ref l) (.int k t)) Q E s := by
  rcases seqIndex_some hj with ⟨h0, h1, rfl⟩ | ⟨h0, h1, rfl⟩
  · exact wpAny_getItem_list hl h0 hfit hx h
  · exact wpAny_getItem_list_neg hl h0 (by omega) hlo hx h

theorem item_ok {a b d : D} {u v : Value} (i : B.Inv s.heap) (S : SR B Φ s.heap adr st) (ru : VR B.T Φ B.Ins s.heap adr u a) (rv : VR B.T Φ B.Ins s.heap adr v b) (e : item st a b = some d) :
    Gives B Φ A (getItem u v) s adr st d ∧ ∃ T id, s.TypeIs u T ∧ typeLookup (.type T) "__getitem__" = pure (some (.builtin id)) := by
  unfold item at e
  split at e
  · rename_i j
    cases rv with
    | int _ t =>
    split at e
    · rename_i l
      simp only [Option.bind_eq_bind, Option.bind_eq_some_iff] at e
      obtain ⟨k, hk, c, hc, e⟩ := e
      cases e
      cases ru with
      | str x t' _ e1 l1 c1 =>
      have q1 : x.length = l.length := by rw [← e1]; exact (Array.length_toList).symm
      have hlim := seqIndex_lim hk l1
      refine ⟨gives_tok i S (.str _ _ _ rfl (by show 1 ≤ LIM; decide) ?_) fun Q E h => P.getItem_str (c := c) ?_ ?_ h, "str", _, typeIs_str s x t', PySem.F.slot_str_getitem.lookup⟩
      · have := List.all_eq_true.mp c1 c (List.mem_of_getElem? hc)
        simpa [ascii] using this
      · rw [decide_eq_false (by omega), decide_eq_false (by omega)]; rfl
      · rw [q1, show seqIndex? j l.length = some k from hk]
        rw [← e1] at hc
        simpa using hc
    · rename_i o _
      simp only [Option.bind_eq_bind, Option.bind_eq_some_iff] at e
      obtain ⟨l, hl, k, hk, e⟩ := e
      by_cases h4 : a.kind = 4
      · cases ru with
        | @tup x vs n ds e1 z r b =>
          simp only [Sto.items] at hl
          cases hl
          have hlim := seqIndex_lim hk b
          obtain ⟨y, hy, ry⟩ := r.get e
          refine ⟨gives_now i S ry fun Q E h => getItem_tuple (items := vs.toArray) ⟨_, e1, rfl, n, rfl⟩ hlim.1 hlim.2 (by rw [List.size_toArray, r.length]; exact hk) (by simpa using hy) h, "tuple", _, ⟨_, e1, rfl⟩, slot_tuple_getitem.lookup⟩
        | _ => simp [D.kind] at h4
      · obtain ⟨x, vs, rfl, q2, q3, q4⟩ := list_at S ru hl h4
        have hlim := seqIndex_lim hk q4
        obtain ⟨y, hy, ry⟩ := q3.get e
        exact ⟨gives_now i S ry fun Q E h => getItem_list' q2 hlim.1 hlim.2 (by rw [List.size_toArray, q3.length]; exact hk) (by simpa using hy) h, "list", _, q2.typeIs, slot_list_getitem.lookup⟩
  · cases e
end
end Mine
/-! ## KH -/
set_option autoImplicit false
namespace Mine
open PySem PySem.W PyProof.Rows PySem.Calls

section
variable {B : Base} {Φ : Addr → Prop} {A : Around} {s : Shared} {adr : List Ent} {st : Sto}

def partOf : D → Option Int
  | .int i => some i
  | _ => none
theorem bound_elim {n dflt k : Nat} {d : D} (h : bound n dflt d = some k) : k = (partOf d).elim dflt (clipAt n) := by
  cases d <;> simp [bound] at h <;> simp [partOf, h]
theorem isPart_of {T Φ : Addr → Prop} {Ins : InsT} {h : Heap} {u : Value} {d : D} {n dflt k : Nat} (r : VR T Φ Ins h adr u d) (e : bound n dflt d = some k) : IsPart u (partOf d) ∧ ∃ p : Option (Int × Tok), u = partValue p ∧ p.map (·.1) = partOf d := by
  cases r with
  | none => exact ⟨.none, none, rfl, rfl⟩
  | int i t => exact ⟨.int i t, some (i, t), rfl, rfl⟩
  | _ => simp [bound] at e

theorem vrs_cut {T Φ : Addr → Prop} {Ins : InsT} {h : Heap} {vs : List Value} {ds : List D} (r : VRs T Φ Ins h adr vs ds) (a b : Nat) : VRs T Φ Ins h adr (cutI vs a b) (cutI ds a b) := (r.drop a).take _
theorem cut_len {α : Type} (l : List α) (a b : Nat) : (cutI l a b).length ≤ l.length := by
  unfold cutI; rw [List.length_take, List.length_drop]; omega

theorem strPick (x : Str) (lo hi : Option Int) : (Builtin.Str.strSliceIndices lo hi 1 x.length).filterMap (x.cps[·]?) = cutI x.cps.toList (lo.elim 0 (clipAt x.length)) (hi.elim x.length (clipAt x.length)) := by
  have e : Builtin.Str.strSliceIndices lo hi 1 x.length = sliceRange ((lo.elim 0 (clipAt x.length) : Nat) : Int) ((hi.elim x.length (clipAt x.length) : Nat) : Int) 1 := by
    unfold Builtin.Str.strSliceIndices
    cases lo <;> cases hi <;> simp [clipAt_cast]
  rw [e]
  unfold cutI
  simp only [sliceRange_one, pick_run]

theorem slice_ok {a lo hi d : D} {u ul uh : Value} (i : B.Inv s.heap) (S : SR B Φ s.heap adr st) (ru : VR B.T Φ B.Ins s.heap adr u a) (rl : VR B.T Φ B.Ins s.heap adr ul lo) (rh : VR B.T Φ B.Ins s.heap adr uh hi) (e : slice st a lo hi = some d) :
    Gives B Φ A (getItem u (.ref s.heap.objs.size)) { s with heap := s.heap.push { cls := .type "slice", data := .fields #[ul, uh, .none] } } adr st d ∧
      ∃ T id, (∀ h' : Shared, (∀ x o, s.heap.get? x = some o → h'.heap.get? x = some o) → h'.TypeIs u T) ∧ typeLookup (.type T) "__getitem__" = pure (some (.builtin id)) := by
  have hk : ∀ x o, s.heap.get? x = some o → (s.heap.push { cls := .type "slice", data := .fields #[ul, uh, .none] }).get? x = some o := keep_push _
  have i' : B.Inv (s.heap.push { cls := .type "slice", data := .fields #[ul, uh, .none] }) := B.step _ _ i fun a o _ e => hk a o e
  have S' := S.keep hk
  have ru' := ru.ex (.of_keep (T := B.T) hk)
  unfold slice at e
  split at e
  · rename_i l
    simp only [Option.bind_eq_bind, Option.bind_eq_some_iff] at e
    obtain ⟨p, hp, q, hq, e⟩ := e
    cases e
    cases ru with
    | str x t _ e1 l1 c1 =>
    have q1 : x.length = l.length := by rw [← e1]; exact (Array.length_toList).symm
    obtain ⟨_, pl, rfl, epl⟩ := isPart_of rl hp
    obtain ⟨_, pu, rfl, epu⟩ := isPart_of rh hq
    refine ⟨?_, "str", _, fun h' _ => typeIs_str h' x t, PySem.F.slot_str_getitem.lookup⟩
    refine wpAny_getItem_str_slice (l := pl) (u := pu) (st := none) ⟨_, Heap.get?_push_size _ rfl, rfl, rfl⟩ rfl ?_
    have hc : cutI l p q = (slicePicked x pl pu none).filterMap (x.cps[·]?) := by
      unfold slicePicked
      rw [epl, epu]
      show _ = (Builtin.Str.strSliceIndices _ _ 1 x.length).filterMap _
      rw [strPick, e1, q1, bound_elim hp, bound_elim hq]
    have hl : (cutI l p q).length ≤ LIM := Nat.le_trans (cut_len _ _ _) l1
    have ha : ascii (cutI l p q) = true := by
      unfold ascii at *
      rw [List.all_eq_true] at *
      exact fun y hy => c1 y (List.mem_of_mem_drop (List.mem_of_mem_take hy))
    unfold sliceMade
    split
    · rename_i hcc
      refine ⟨adr, Post.refl i' S', .str _ _ _ ?_ hl ha⟩
      simp only [Bool.and_eq_true, beq_iff_eq] at hcc
      rw [hc]
      have h2 := hcc.2
      unfold slicePicked at h2 ⊢
      have h3 : ((none : Option (Int × Tok)).map (·.1)).getD 1 = 1 := rfl
      rw [h3] at h2 ⊢
      have h4 := strPick x (pl.map (·.1)) (pu.map (·.1))
      have h5 : (Builtin.Str.strSliceIndices (pl.map (·.1)) (pu.map (·.1)) 1 x.length).length = (cutI x.cps.toList ((pl.map (·.1)).elim 0 (clipAt x.length)) ((pu.map (·.1)).elim x.length (clipAt x.length))).length := by
        have e : Builtin.Str.strSliceIndices (pl.map (·.1)) (pu.map (·.1)) 1 x.length = sliceRange (((pl.map (·.1)).elim 0 (clipAt x.length) : Nat) : Int) (((pu.map (·.1)).elim x.length (clipAt x.length) : Nat) : Int) 1 := by
          unfold Builtin.Str.strSliceIndices
          cases (pl.map (·.1)) <;> cases (pu.map (·.1)) <;> simp [clipAt_cast]
        rw [e, sliceRange_one]
        have hcl : ∀ (o : Option Int), o.elim x.length (clipAt x.length) ≤ x.length := fun o => by
          cases o with
          | none => exact Nat.le_refl _
          | some z => have := clipAt_cast x.length z; simp only [Option.elim]; omega
        unfold cutI
        rw [List.length_map, List.length_range, List.length_take, List.length_drop, Array.length_toList]
        have := hcl (pu.map (·.1))
        show _ = min _ (x.length - _)
        omega
      rw [h4]
      rw [h5] at h2
      unfold cutI at h2 ⊢
      rw [List.length_take, List.length_drop] at h2
      have h6 : x.cps.toList.length = x.length := Array.length_toList
      rw [h6] at h2
      have h7 : ((pl.map (·.1)).elim 0 (clipAt x.length)) = 0 ∨ x.length = 0 := by omega
      rcases h7 with h7 | h7
      · rw [h7, List.drop_zero, List.take_of_length_le (by rw [h6]; omega)]
      · have : x.cps.toList = [] := List.eq_nil_of_length_eq_zero (by rw [h6]; exact h7)
        rw [this]; simp
    · refine ⟨?_, adr, Post.toks i' S' _, .str _ _ _ ?_ hl ha⟩
      · show Array.size _ ≤ sizeLine
        rw [List.size_toArray, ← hc, sizeLine_eq]
        unfold LIM at hl; omega
      · exact hc.symm
  · cases e
  · rename_i _ h4
    simp only [Option.bind_eq_bind, Option.bind_eq_some_iff] at e
    obtain ⟨l, hl, p, hp, q, hq, e⟩ := e
    cases e
    have h4' : a.kind ≠ 4 := by
      intro hk4
      cases a <;> simp [D.kind] at hk4
      exact h4 _ rfl
    obtain ⟨x, vs, rfl, q2, q3, q4⟩ := list_at S ru hl h4'
    obtain ⟨ip, _⟩ := isPart_of rl hp
    obtain ⟨iq, _⟩ := isPart_of rh hq
    refine ⟨?_, "list", _, fun h' hk' => (Heap.IsList.typeIs (q2.at fun o e => hk' _ o e)), slot_list_getitem.lookup⟩
    have q2' : (s.heap.push { cls := .type "slice", data := .fields #[ul, uh, .none] }).IsList x vs.toArray := q2.at fun o e => hk _ o e
    refine wpAny_getItem_list_slice (lo := partOf lo) (hi := partOf hi) (st := none) q2' (Heap.IsSliceOf.new ..) ip iq .none (by nofun) ?_ ?_
    · rw [slicePick_plain]
      have e2 : ((vs.toArray.toList.drop ((partOf lo).elim 0 (clipAt vs.toArray.size))).take ((partOf hi).elim vs.toArray.size (clipAt vs.toArray.size) - (partOf lo).elim 0 (clipAt vs.toArray.size))) = cutI vs p q := by
        unfold cutI
        rw [List.size_toArray, q3.length, bound_elim hp, bound_elim hq]
      rw [e2]
      exact ⟨adr, Post.keep i' S' (keep_push _) _, vr_push_lst (s := { s with heap := s.heap.push { cls := .type "slice", data := .fields #[ul, uh, .none] } }) (n := 0) i' S' ((vrs_cut q3 p q).ex (.of_keep (T := B.T) hk)) (Nat.le_trans (cut_len _ _ _) q4)⟩
    · rw [List.size_toArray, q3.length, sizeLine_eq]; unfold LIM at q4; omega
end
end Mine
/-! ## KI -/
set_option autoImplicit false
namespace Mine
open PySem PySem.W PyProof.Rows PySem.Calls

section
variable {M : Model} {A : Around} {E : Value → Shared → Prop} {s : Shared}

/-- who keeps the callee: nothing more to do -/
def KeepOk (M : Model) (A : Around) (f : Value) (s : Shared) : Prop := ∀ (Q : Keeper → Shared → Prop) (E : Value → Shared → Prop), (∀ k, (k = .frame ∨ k = .machine) → Q k s) → wpAny M A (keeperOf f) Q E s

theorem keep_builtin (id : String) : KeepOk M A (.builtin id) s := fun _ _ h => wpAny_pure (h _ (.inr rfl))
theorem keep_type (t : String) : KeepOk M A (.type t) s := fun _ _ h => wpAny_pure (h _ (.inr rfl))
theorem keep_func {a : Addr} {o : Obj} {fd : FuncData} (ho : s.heap.get? a = some o) (hd : o.data = .func fd) : KeepOk M A (.ref a) s := fun Q E h => by
  unfold keeperOf
  refine wpAny_bind (wpAny_load ho ?_)
  rw [hd]
  exact wpAny_pure (h _ (.inl rfl))

theorem evalArgs_ok {f : Value} {args : List (Bool × Sem Value)} {keywords : List (Option Str × Sem Value)} {Q : Args → Shared → Prop} (hplain : args.any (·.1) = false) (hall : keywords.all (·.1.isSome) = true)
    (h : wpAny M A (spliced args) (fun vs s₁ => wpAny M A (evalAll (keywords.map (·.2))) (fun ks s₂ => Q ⟨vs, (keywords.filterMap (·.1)).zip ks⟩ s₂) E s₁) E s) : wpAny M A (evalArgs f true args keywords) Q E s := by
  cases args with
  | nil =>
    refine evalArgs_kw_nil hall ?_
    have : ∀ {Q' : List Value → Shared → Prop}, wpAny M A (spliced []) Q' E s → Q' [] s ∨ True := fun _ => .inr trivial
    clear this
    have e : spliced [] = pure [] := rfl
    rw [e] at h
    intro Γ p hΓ
    exact (h Γ p hΓ) Γ p hΓ
  | cons x rest =>
    obtain ⟨b, t⟩ := x
    simp only [List.any_cons, Bool.or_eq_false_iff] at hplain
    have hb : b = false := hplain.1
    subst hb
    exact evalArgs_kw hall h

theorem callWith_ok {pos : Pos} {f : Value} {first : List Value} {args : List (Bool × Sem Value)} {keywords : List (Option Str × Sem Value)} {Q : Value → Shared → Prop} (hplain : args.any (·.1) = false) (hall : keywords.all (·.1.isSome) = true)
    (h : wpAny M A (spliced args) (fun vs s₁ => wpAny M A (evalAll (keywords.map (·.2))) (fun ks s₂ => KeepOk M A f s₂ ∧ wpAny M A (call f (first ++ vs) ((keywords.filterMap (·.1)).zip ks)) Q E s₂) E s₁) E s) :
    wpAny M A (callWith pos f first args keywords) Q E s := by
  unfold callWith
  refine wpAny_bind (wpAny_holding (wpAny_mono (evalArgs_ok (Q := fun a s₁ => KeepOk M A f s₁ ∧ wpAny M A (call f (first ++ a.pos) a.kw) Q E s₁) hplain hall h) (fun a s₁ h₁ => wpAny_bind (wpAny_standAt ?_)) fun _ _ x => x))
  have tail : ∀ {t : Sem Value}, wpAny M A t Q E s₁ → wpAny M A (t >>= fun r => holding [r] point >>= fun _ => pure r) Q E s₁ :=
    fun ht => wpAny_bind (wpAny_mono ht (fun r s₂ hr => wpAny_bind (wpAny_holding (wpAny_point (wpAny_pure hr)))) fun _ _ x => x)
  have hst : (args.any (·.1) || keywords.any (·.1.isNone)) = false := by
    rw [hplain, Bool.false_or]
    rw [List.any_eq_false]
    intro x hx
    have := List.all_eq_true.mp hall x hx
    cases hx1 : x.1 <;> simp_all
  refine wpAny_bind (h₁.1 _ _ fun k hk => ?_)
  simp only [hst]
  rcases hk with rfl | rfl
  · simp only
    split
    · exact tail h₁.2
    · exact tail (by unfold callMarked; exact Calls.wpAny_keep h₁.2)
  · exact tail h₁.2

/-- a method's call -/
theorem methodCall_ok {o : Expr} {name : Str} {apos pos : Pos} {args : List Expr} {kws : List Keyword} {env : Env} {Q : Value → Shared → Prop} (hc : callOk o apos pos (args.length + kws.length) = true)
    (hplain : (starEach args env).any (·.1) = false) (hall : (keywordEach kws env).all (·.1.isSome) = true)
    (h : wpAny M A (eval o env) (fun ov s₁ => ∀ pl, wpAny M A (getMethod ov name pl) (fun fx s₂ => wpAny M A (callWith pos fx.1 fx.2 (backTo pos (starEach args env)) (backToKw pos (keywordEach kws env))) Q E s₂) E s₁) E s) :
    wpAny M A (eval (.Call (.Attribute o name apos) args kws pos) env) Q E s := by
  unfold callOk at hc
  simp only [Bool.and_eq_true, decide_eq_true_eq] at hc
  obtain ⟨⟨h1, h2⟩, h3⟩ := hc
  have hbase : attributeBase o name env (eval o env) = eval o env := by
    unfold attributeBase
    split
    · rename_i x _ _
      simp only [notSuper, Bool.not_eq_true'] at h1
      have : (x != ("super" : Str)) = true := by rw [bne, h1]; rfl
      rw [this]; rfl
    · rfl
  have hpl : (backTo pos (starEach args env)).all (fun x => !x.1) = true := by
    unfold backTo
    rw [List.all_map, List.all_eq_true]
    intro x hx
    have := List.any_eq_false.mp hplain x hx
    simpa using this
  have hkw : (backToKw pos (keywordEach kws env)).all (fun x => x.1.isSome) = true := by
    unfold backToKw
    rw [List.all_map, List.all_eq_true]
    intro x hx
    have := List.all_eq_true.mp hall x hx
    simpa using this
  have hform : methodCallForm (args.length + kws.length) (backTo pos (starEach args env)) (backToKw pos (keywordEach kws env)) = true := by
    unfold methodCallForm
    rw [hpl, hkw]
    simp only [Bool.true_and, decide_eq_true_eq]
    split <;> omega
  rw [arm_eval_Call, hbase]
  refine wpAny_bind (wpAny_mono h (fun ov s₁ h₁ => ?_) fun _ _ e => e)
  refine wpAny_bind (wpAny_standAt ?_)
  have hpos : methodCallPos true o env apos pos = pure pos := by unfold methodCallPos; simp [h2]
  unfold methodCall
  rw [hform]
  refine wpAny_bind (wpAny_holding (wpAny_mono (h₁ _) (fun fx s₂ h₂ => ?_) fun _ _ e => e))
  obtain ⟨f, first⟩ := fx
  exact wpAny_bind (wpAny_of_eq hpos h₂)
end
end Mine
/-! ## KJ -/
set_option autoImplicit false
namespace Mine
open PySem PySem.W PyProof.Rows PySem.Calls

section
variable {T T' Φ Φ' : Addr → Prop} {Ins : InsT} {h h' : Heap} {adr adr' : List Ent}

theorem Fz.re {a : Addr} {o : Obj} (e : h.get? a = some o) (hT : ∀ a o, h.get? a = some o → T' a → T a ∨ Φ a) (hP : ∀ a o, h.get? a = some o → Φ' a → T a ∨ Φ a) (z : Fz T Φ adr a) : Fz T' Φ' adr a :=
  ⟨fun t => (hT a o e t).elim z.t z.p, fun p => (hP a o e p).elim z.t z.p, z.m⟩
mutual
theorem VR.re (hT : ∀ a o, h.get? a = some o → T' a → T a ∨ Φ a) (hP : ∀ a o, h.get? a = some o → Φ' a → T a ∨ Φ a) : ∀ {v : Value} {d : D}, VR T Φ Ins h adr v d → VR T' Φ' Ins h adr v d
  | _, _, .none => .none
  | _, _, .bool b => .bool b
  | _, _, .int i t => .int i t
  | _, _, .str s t l e b c => .str s t l e b c
  | _, _, .tup e z r b => .tup e (z.re e hT hP) (VRs.re hT hP r) b
  | _, _, .lst e z r b => .lst e (z.re e hT hP) (VRs.re hT hP r) b
  | _, _, .scr e c d z r b => .scr e c d (z.re e hT hP) (VRs.re hT hP r) b
  | _, _, .ref e => .ref e
  | _, _, .app e z i => .app e (z.re e hT hP) i
  | _, _, .dic e z n => .dic e (z.re e hT hP) n
  | _, _, .pat e e' z z' c q => .pat e e' (z.re e hT hP) (z'.re e' hT hP) c q
  | _, _, .rng e z p q => .rng e (z.re e hT hP) p q
  | _, _, .inst e dd e' i z z' r => .inst e dd e' i (z.re e hT hP) (z'.re e' hT hP) (VRf.re hT hP r)
theorem VRs.re (hT : ∀ a o, h.get? a = some o → T' a → T a ∨ Φ a) (hP : ∀ a o, h.get? a = some o → Φ' a → T a ∨ Φ a) : ∀ {v : List Value} {d : List D}, VRs T Φ Ins h adr v d → VRs T' Φ' Ins h adr v d
  | _, _, .nil => .nil
  | _, _, .cons a r => .cons (VR.re hT hP a) (VRs.re hT hP r)
theorem VRf.re (hT : ∀ a o, h.get? a = some o → T' a → T a ∨ Φ a) (hP : ∀ a o, h.get? a = some o → Φ' a → T a ∨ Φ a) : ∀ {v : List (Str × Value)} {d : List (Str × D)}, VRf T Φ Ins h adr v d → VRf T' Φ' Ins h adr v d
  | _, _, .nil => .nil
  | _, _, .cons a r => .cons (VR.re hT hP a) (VRf.re hT hP r)
end

/-- the table of code and some places of frames may change -/
structure Wid (T Φ T' : Addr → Prop) : Prop where
  up : ∀ a, T a → T' a
  dn : ∀ a, T' a → T a ∨ Φ a

theorem Wid.refl : Wid T Φ T := ⟨fun _ h => h, fun _ h => .inl h⟩
theorem VR.exF (x : Ex T' h adr h' adr') (W : Wid T Φ T') {v : Value} {d : D} (r : VR T Φ Ins h adr v d) : VR T Φ Ins h' adr' v d :=
  ((r.re (fun a _ _ t => W.dn a t) fun _ _ _ p => .inr p).ex x).re (fun a _ _ t => .inl (W.up a t)) fun _ _ _ p => .inr p
theorem VRs.exF (x : Ex T' h adr h' adr') (W : Wid T Φ T') {v : List Value} {d : List D} (r : VRs T Φ Ins h adr v d) : VRs T Φ Ins h' adr' v d :=
  ((r.re (fun a _ _ t => W.dn a t) fun _ _ _ p => .inr p).ex x).re (fun a _ _ t => .inl (W.up a t)) fun _ _ _ p => .inr p
theorem Ex.up (x : Ex T h adr h' adr') (W : ∀ a, T a → T' a) : Ex T' h adr h' adr' := ⟨fun a o e t m => x.keep a o e (fun q => t (W a q)) m, x.live, x.pre, x.fresh⟩
theorem Ex.drop (x : Ex T' h adr h' adr') (W : ∀ a, T' a → T a ∨ h.get? a = none) : Ex T h adr h' adr' :=
  ⟨fun a o e t m => x.keep a o e (fun q => (W a q).elim t fun n => by rw [n] at e; cases e) m, x.live, x.pre, x.fresh⟩
/-- the heap may change at some places alone -/
theorem Ex.of_but (k : ∀ a o, h.get? a = some o → ¬ T' a → h'.get? a = some o) (l : ∀ a o, h.get? a = some o → ∃ o', h'.get? a = some o') : Ex T' h adr h' adr := ⟨fun a o e t _ => k a o e t, l, fun _ _ => rfl, fun _ m => .inl m⟩
end

section
variable {B : Base} {Φ Φ' T' : Addr → Prop} {h h' : Heap} {adr adr' : List Ent} {st st' : Sto}

theorem SR.keepF (S : SR B Φ h adr st) (W : Wid B.T Φ T') (k : ∀ a o, h.get? a = some o → ¬ T' a → h'.get? a = some o) (l : ∀ a o, h.get? a = some o → ∃ o', h'.get? a = some o') : SR B Φ h' adr st := by
  have x : Ex T' h adr h' adr := .of_but k l
  have hA : ∀ e, e ∈ adr → ¬ T' e.at := fun e m t => by
    obtain ⟨h1, h2⟩ := S.out e.at ⟨e, m, rfl⟩
    exact (W.dn _ t).elim (fun q => h1 (B.T_old _ q)) h2
  refine ⟨S.len, fun i l e => ?_, fun i e => ?_, fun i e => ?_, S.inj, S.out, fun a p => ?_, S.phiO⟩
  · obtain ⟨a, vs, n, q1, q2, q3, q4⟩ := S.lst i l e
    exact ⟨a, vs, n, q1, k _ _ q2 (hA _ (List.mem_of_getElem? q1)), q3.exF x W, q4⟩
  · obtain ⟨a, q1, q2⟩ := S.sent i e
    exact ⟨a, q1, k _ _ q2 (hA _ (List.mem_of_getElem? q1))⟩
  · obtain ⟨a, vs, n, q1, q2⟩ := S.dead i e
    exact ⟨a, vs, n, q1, k _ _ q2 (hA _ (List.mem_of_getElem? q1))⟩
  · obtain ⟨o, e⟩ := S.phi a p
    exact l _ _ e

/-- a wider set of frames' places -/
theorem SR.phi' (S : SR B Φ h adr st) (hP : ∀ a o, h.get? a = some o → Φ' a → Φ a ∨ False) (hA : ∀ a, At adr a → ¬ Φ' a) (hL : ∀ a, Φ' a → ∃ o, h.get? a = some o) (hO : ∀ a, Φ' a → ¬ B.old a) : SR B Φ' h adr st := by
  refine ⟨S.len, fun i l e => ?_, S.sent, S.dead, S.inj, fun a m => ⟨(S.out a m).1, hA a m⟩, hL, hO⟩
  obtain ⟨a, vs, n, q1, q2, q3, q4⟩ := S.lst i l e
  exact ⟨a, vs, n, q1, q2, q3.re (fun _ _ _ t => .inl t) (fun a o e p => .inr ((hP a o e p).elim id False.elim)), q4⟩
end

/-- the places of a frame -/
def own (env : Env) (sc : Scope) (a : Addr) : Prop := a = env.locals ∨ ∃ x, kindOf sc x = some .cell ∧ env.cells.lookup x = some a
def TO (B : Base) (env : Env) (sc : Scope) (a : Addr) : Prop := B.T a ∨ own env sc a
/-- all places of a frame, those of the frames around it with them -/
def reach (env : Env) (a : Addr) : Prop := a = env.locals ∨ ∃ x, env.cells.lookup x = some a

structure PostF (B : Base) (Φ : Addr → Prop) (env : Env) (sc : Scope) (s : Shared) (adr : List Ent) (s' : Shared) (adr' : List Ent) (st' : Sto) : Prop where
  inv : B.Inv s'.heap
  sr : SR B Φ s'.heap adr' st'
  ex : Ex (TO B env sc) s.heap adr s'.heap adr'
  os : s'.os = s.os
  gens : s'.gens = s.gens

section
variable {B : Base} {Φ : Addr → Prop} {h h' : Heap} {adr adr' adr'' : List Ent} {env : Env} {sc : Scope} {v : Vars} {st st' st'' : Sto} {s s' s'' : Shared}
theorem wid_own (hO : ∀ a, own env sc a → Φ a) : Wid B.T Φ (TO B env sc) := ⟨fun _ h => .inl h, fun a h => h.elim .inl fun o => .inr (hO a o)⟩
theorem Post.toF (P : Post B Φ s adr s' adr' st') : PostF B Φ env sc s adr s' adr' st' := ⟨P.inv, P.sr, P.ex.up fun _ h => .inl h, P.os, P.gens⟩
theorem PostF.trans (x : PostF B Φ env sc s adr s' adr' st') (y : PostF B Φ env sc s' adr' s'' adr'' st'') : PostF B Φ env sc s adr s'' adr'' st'' :=
  ⟨y.inv, y.sr, x.ex.trans y.ex, y.os.trans x.os, y.gens.trans x.gens⟩

theorem lookup_setVar (v : Vars) (x y : Str) (d : D) : (setVar v x d).lookup y = if y = x then some d else v.lookup y := by
  unfold setVar
  by_cases e : y = x
  · subst e; rw [List.lookup_cons, beq_self_eq_true, if_pos rfl]
  · rw [List.lookup_cons, beq_false_of_ne e, if_neg e]
    show List.lookup y _ = _
    induction v with
    | nil => rfl
    | cons p r ih =>
      obtain ⟨k, q⟩ := p
      rw [List.filter_cons]
      by_cases hk : k = x
      · subst hk
        have : (!((k, q).1 == k)) = false := by simp
        rw [if_neg (by rw [this]; decide), ih, List.lookup_cons, beq_false_of_ne e]
      · have : (!((k, q).1 == x)) = true := by simp [hk]
        rw [if_pos this, List.lookup_cons, List.lookup_cons, ih]

theorem FR.own_live (F : FR B Φ h adr env sc v) {a : Addr} (ho : own env sc a) : ¬ B.old a ∧ ¬ At adr a := by
  rcases ho with rfl | ⟨x, _, hx⟩
  · exact ⟨F.lnew, F.lfree⟩
  · exact ⟨(F.cfree x a hx).2, (F.cfree x a hx).1⟩

theorem FR.live (F : FR B Φ h adr env sc v) {a : Addr} (ho : reach env a) : ∃ o, h.get? a = some o := by
  rcases ho with rfl | ⟨x, hx⟩
  · obtain ⟨m, ⟨o, es, ep, e, r⟩, hm⟩ := F.ns
    exact ⟨o, e⟩
  · exact F.clive x a hx

/-- a name of the frame is read -/
theorem loadN_ok {M : Model} {A : Around} {x : Str} {d : D} (F : FR B Φ s.heap adr env sc v) (hk : kindOf sc x = some .local ∨ kindOf sc x = some .cell ∨ kindOf sc x = some .free) (hl : v.lookup x = some d)
    (h2 : (x == ("__classdict__" : Str)) = false) :
    ∃ u, VR B.T Φ B.Ins s.heap adr u d ∧ ∀ (Q : Value → Shared → Prop) E, Q u s → wpAny M A (loadName env x) Q E s := by
  have hc : kindOf sc x = some .cell ∨ kindOf sc x = some .free → ∃ c u, env.cells.lookup x = some c ∧ s.heap.IsCell c (some u) ∧ VR B.T Φ B.Ins s.heap adr u d := fun hk => by
    obtain ⟨c, ov, e1, e2, e3⟩ := F.cl x hk
    obtain ⟨u, rfl, r⟩ := e3 d hl
    exact ⟨c, u, e1, e2, r⟩
  have cellCase : ∀ c u, env.cells.lookup x = some c → s.heap.IsCell c (some u) → env.kindOf x = some .cell → ∀ (Q : Value → Shared → Prop) E, Q u s → wpAny M A (loadName env x) Q E s :=
    fun c u e1 e2 hk Q E h => wpAny_loadName_cell F.kind hk e1 e2 h
  rcases hk with hk | hk | hk
  · obtain ⟨m, hn, hm⟩ := F.ns
    obtain ⟨u, e, r⟩ := hm x d hk hl
    exact ⟨u, r, fun Q E h => wpAny_loadName_local F.kind (F.loc x hk) hn e h⟩
  · obtain ⟨c, u, e1, e2, r⟩ := hc (.inl hk)
    exact ⟨u, r, cellCase c u e1 e2 (F.cell x hk)⟩
  · obtain ⟨c, u, e1, e2, r⟩ := hc (.inr hk)
    refine ⟨u, r, ?_⟩
    rcases F.free x hk with hf | hf
    · exact fun Q E h => wpAny_loadName_free F.kind hf e1 e2 h h2
    · exact cellCase c u e1 e2 hf
theorem load_ok {M : Model} {A : Around} {x : Str} {pos : Pos} {d : D} (F : FR B Φ s.heap adr env sc v) (hk : kindOf sc x = some .local ∨ kindOf sc x = some .cell ∨ kindOf sc x = some .free) (hl : v.lookup x = some d)
    (h1 : (x == ("__debug__" : Str)) = false) (h2 : (x == ("__classdict__" : Str)) = false) :
    ∃ u, VR B.T Φ B.Ins s.heap adr u d ∧ ∀ (Q : Value → Shared → Prop) E, Q u s → wpAny M A (eval (.Name x pos) env) Q E s := by
  obtain ⟨u, r, h⟩ := loadN_ok (M := M) (A := A) F hk hl h2
  exact ⟨u, r, fun Q E q => wpAny_Name (h Q E q) h1⟩

theorem SameBut.live {a : Addr} {h h' : Heap} (x : Heap.SameBut a h h') (e' : ∃ o, h'.get? a = some o) : ∀ b o, h.get? b = some o → ∃ o', h'.get? b = some o' := fun b o e => by
  by_cases q : b = a
  · subst q; exact e'
  · exact ⟨o, (x.2 b q).trans e⟩

/-- a name of the frame is set -/
theorem store_ok {M : Model} {A : Around} {x : Str} {d : D} {u : Value} (i : B.Inv s.heap) (S : SR B Φ s.heap adr st) (hO : ∀ a, own env sc a → Φ a) (F : FR B Φ s.heap adr env sc v) (hk : kindOf sc x = some .local ∨ kindOf sc x = some .cell) (r : VR B.T Φ B.Ins s.heap adr u d) :
    ∀ (Q : Unit → Shared → Prop) E, (∀ s', PostF B Φ env sc s adr s' adr st → FR B Φ s'.heap adr env sc (setVar v x d) → Q () s') → wpAny M A (storeName env x u) Q E s := by
  intro Q E h
  have W : Wid B.T Φ (TO B env sc) := wid_own hO
  have hp : (env.scope.kind == .class || (env.scope.kind == .module && env.locals != env.globals)) = false := by rw [F.kind]; rfl
  have key : ∀ (a : Addr) (h' : Heap) (tk : Nat), own env sc a → Heap.SameBut a s.heap h' → (∃ o, h'.get? a = some o) → PostF B Φ env sc s adr { s with heap := h', toks := tk } adr st := fun a h' tk ha hs hl => by
    have k : ∀ b o, s.heap.get? b = some o → ¬ TO B env sc b → h'.get? b = some o := fun b o e t => (hs.2 b fun q => t (.inr (q ▸ ha))).trans e
    exact ⟨B.step _ _ i fun b o hb e => (hs.2 b fun q => (F.own_live ha).1 (q ▸ hb)).trans e, S.keepF W k (SameBut.live hs hl), .of_but k (SameBut.live hs hl), rfl, rfl⟩
  have hnT : ∀ a, ¬ B.old a → ¬ B.T a := fun a ha t => ha (B.T_old a t)
  rcases hk with hk | hk
  · obtain ⟨m, hn, hm⟩ := F.ns
    refine wpAny_storeName_local (F.loc x hk) hn (fun h' hn' hs => ?_) hp
    have P : PostF B Φ env sc s adr { s with heap := h', toks := s.toks + 1 } adr st := key _ _ _ (.inl rfl) hs ⟨_, hn'.choose_spec.choose_spec.choose_spec.1⟩
    refine h _ P ⟨F.kind, F.glob, F.blt, F.code, F.loc, F.cell, F.free, F.gl, ⟨_, hn', fun y dy hky hly => ?_⟩, fun y hky => ?_, F.lfree, F.lnew, F.cfree, fun y c hc => ?_, F.lc, F.cinj⟩
    · rw [lookup_setVar] at hly
      by_cases e : y = x
      · rw [if_pos e] at hly ⊢; cases hly; exact ⟨u, rfl, r.exF P.ex W⟩
      · rw [if_neg e] at hly ⊢
        obtain ⟨u', e', r'⟩ := hm y dy hky hly
        exact ⟨u', e', r'.exF P.ex W⟩
    · obtain ⟨c, ov, e1, e2, e3⟩ := F.cl y hky
      refine ⟨c, ov, e1, e2.sameBut hs (F.lc y c e1), fun dy hly => ?_⟩
      rw [lookup_setVar] at hly
      have e : y ≠ x := fun e => by subst e; rcases hky with q | q <;> rw [hk] at q <;> cases q
      rw [if_neg e] at hly
      obtain ⟨u', e', r'⟩ := e3 dy hly
      exact ⟨u', e', r'.exF P.ex W⟩
    · obtain ⟨o, ho⟩ := F.clive y c hc
      exact P.ex.live c o ho
  · obtain ⟨c, ov, e1, e2, e3⟩ := F.cl x (.inl hk)
    refine wpAny_storeName_cell F.kind (F.cell x hk) e1 e2 (fun h' hn' hs => ?_)
    have P : PostF B Φ env sc s adr { s with heap := h' } adr st := key _ _ s.toks (.inr ⟨x, hk, e1⟩) hs ⟨_, hn'.choose_spec.1⟩
    refine h _ P ⟨F.kind, F.glob, F.blt, F.code, F.loc, F.cell, F.free, F.gl, ?_, fun y hky => ?_, F.lfree, F.lnew, F.cfree, fun y c hc => ?_, F.lc, F.cinj⟩
    · obtain ⟨m, hn, hm⟩ := F.ns
      refine ⟨m, hn.sameBut hs (Ne.symm (F.lc x c e1)), fun y dy hky hly => ?_⟩
      rw [lookup_setVar] at hly
      have e : y ≠ x := fun e => by subst e; rw [hk] at hky; cases hky
      rw [if_neg e] at hly
      obtain ⟨u', e', r'⟩ := hm y dy hky hly
      exact ⟨u', e', r'.exF P.ex W⟩
    · obtain ⟨c', ov', q1, q2, q3⟩ := F.cl y hky
      by_cases e : y = x
      · subst e
        rw [e1] at q1; cases q1
        refine ⟨c, _, e1, hn', fun dy hly => ?_⟩
        rw [lookup_setVar, if_pos rfl] at hly
        cases hly
        exact ⟨u, rfl, r.exF P.ex W⟩
      · refine ⟨c', ov', q1, q2.sameBut hs (fun q => e (F.cinj y x c (q ▸ q1) e1)), fun dy hly => ?_⟩
        rw [lookup_setVar, if_neg e] at hly
        obtain ⟨u', e', r'⟩ := q3 dy hly
        exact ⟨u', e', r'.exF P.ex W⟩
    · obtain ⟨o, ho⟩ := F.clive y c hc
      exact P.ex.live c o ho
end
end Mine
/-! ## KK0 -/
set_option autoImplicit false
set_option maxRecDepth 100000
namespace Mine
open PySem PySem.W PyProof.Rows PySem.Calls

theorem mro_object : mroOf (.type "object") = pure [.type "object"] := by rw [mroOf_type]; kernel_rfl
theorem lookup_object_new : typeLookup (.type "object") "__new__" = pure (some (.builtin "object.__new__")) := by rw [typeLookup_type, builtinLookup_eq_fast]; kernel_rfl
theorem called_object : TypeCalled "object" "object.__new__" "object.__init__" :=
  ⟨by decide +kernel, by decide +kernel, ⟨_, _, mro_object⟩, madeBy_type mro_object lookup_object_new (by decide +kernel), by decide +kernel, by rw [isSubtype_type]; kernel_rfl, F.slot_object_init⟩
theorem madeHere_object : Bind.madeHere "object.__new__" (.type "object") = pure () := by
  unfold Bind.madeHere
  have e : Bind.staticBase (.type "object") = pure (.type "object") := by first | rfl | kernel_rfl
  rw [e]
  simp only [pure_bind, called_object.made]
  first | rfl | kernel_rfl | (simp; rfl)

theorem object_new_meets : Meets (Builtin.«object.__new__» ⟨[.type "object"], []⟩) (fun _ R s => R (.ok (.ret (.ref s.heap.objs.size))) { s with heap := s.heap.push sentO }) := by
  refine Meets.of_wp fun prog w A R s hs => ?_
  unfold Builtin.«object.__new__»
  have h1 : ((Manifest.find? "object").elim false (·.mro.any fun t => (Manifest.find? t).elim false (·.noNew))) = false := by decide +kernel
  have h2 : typeHasDict (.type "object") = false := by decide +kernel
  have h3 : diesByItsTypesDel "object" = false := by decide +kernel
  simp only [isType, pure_bind, Bool.not_true, Bool.false_eq_true, if_false, h1, madeHere_object, List.isEmpty_nil, Bool.or_false, h2, h3]
  exact wpAny_bind (wpAny_newObj_type (wpAny_pure ⟨_, rfl, hs⟩))

theorem object_init_plain (self : Value) : Meets (Builtin.«object.__init__» ⟨[self], []⟩) (fun _ R s => R (.ok (.ret .none)) s) := by
  refine Meets.of_wp fun prog w A R s hs => ?_
  unfold Builtin.«object.__init__»
  simp only [List.isEmpty_nil, Bool.not_true, Bool.or_false, Bool.false_eq_true, if_false]
  exact wpAny_pure ⟨_, rfl, hs⟩
theorem args_object_init_1 (obj : Value) : argsOk "object.__init__" ⟨[obj], []⟩ := by
  unfold argsOk; rw [signature?_of (id := "object.__init__") (n := ['_', '_', 't', 'i', 'n', 'i', '_', '_']) (o := ['t', 'c', 'e', 'j', 'b', 'o']) (by kernel_rfl) F.owner_object]; kernel_rfl
theorem typeCall_object : checkTypeCall "object" ⟨[], []⟩ = pure () := by kernel_rfl
theorem newCall_object : checkBuiltinCall "object.__new__" ⟨[.type "object"], []⟩ = pure () := by kernel_rfl

theorem call_object {prog : Program} {w : World} {A : Around} {E : Value → Shared → Prop} {s : Shared} {Q : Value → Shared → Prop}
    (h : Q (.ref s.heap.objs.size) { s with heap := s.heap.push sentO }) : wpAny (model prog w) A (call (.type "object") []) Q E s := by
  refine callType_meets (S := fun _ R s => R (.ok (.ret (.ref s.heap.objs.size))) { s with heap := s.heap.push sentO }) (Q₁ := fun obj s₁ => s₁.TypeIs obj "object" ∧ Q obj s₁) called_object typeCall_object newCall_object PySem.F.objNew.entry F.entry_object_init object_new_meets ?_ ?_
  · exact ⟨⟨_, Heap.get?_push_size _ rfl, rfl⟩, h⟩
  · exact fun obj s₁ hq => ⟨hq.1, args_object_init_1 obj, _, object_init_plain obj, rfl, hq.2⟩
end Mine
/-! ## KK1 -/
set_option autoImplicit false
set_option maxRecDepth 100000
namespace Mine
open PySem PySem.W PyProof.Rows PySem.Calls


theorem ap_type : typeOf (.builtin "list.append") = pure (.type "method_descriptor") := by show builtinType _ = _; rw [builtinType_eq_fast]; kernel_rfl
theorem ap_get : typeLookup (.type "method_descriptor") "__get__" = pure (some (.builtin "method_descriptor.__get__")) := by rw [typeLookup_type, builtinLookup_eq_fast]; kernel_rfl
theorem ap_slot_get : Slot "method_descriptor" "__get__" "method_descriptor.__get__" :=
  .of (owner := "method_descriptor") (n := "__get__") (by rw [typeLookup_type, builtinLookup_eq_fast]; kernel_rfl) (by decide +kernel) (by decide +kernel) (by decide +kernel)
    (by first | exact .inl (by decide +kernel) | exact .inr (by decide +kernel)) (by rw [isSubtype_type]; kernel_rfl)
theorem ap_entry_get : entryFor table "method_descriptor.__get__" = some Builtin.«method_descriptor.__get__» := entryFor_of_tree (by kernel_rfl)
theorem ap_args_get (a b c : Value) : argsOk "method_descriptor.__get__" ⟨[a, b, c], []⟩ := by unfold argsOk; kernel_rfl
theorem ap_told : Manifest.toldItsClass.contains "list.append" = false := by decide +kernel
theorem ap_sub : isSubtype (.type "list") (.type "list") = pure true := by rw [isSubtype_type]; kernel_rfl
theorem ap_set : typeLookup (.type "method_descriptor") "__set__" = pure none := by rw [typeLookup_type, builtinLookup_eq_fast]; kernel_rfl
theorem ap_del : typeLookup (.type "method_descriptor") "__delete__" = pure none := by rw [typeLookup_type, builtinLookup_eq_fast]; kernel_rfl
theorem ap_quiet (as : Args) : (Code.builtin "list.append" as).quiet = true := Code.quiet_builtin _ (by decide +kernel)

theorem ap_typeIs {s : Shared} : s.TypeIs (.builtin "list.append") "method_descriptor" := ap_type

section
variable {M : Model} {A : Around} {E : Value → Shared → Prop} {s : Shared}

theorem ap_meets (a : Addr) (o : Obj) (hc : o.cls = .type "list") : Meets (Builtin.«method_descriptor.__get__» ⟨[.builtin "list.append", .ref a, .type "list"], []⟩)
    (fun _ R s => s.heap.get? a = some o ∧ R (.ok (.ret (.ref s.heap.objs.size))) { s with heap := s.heap.push (appO a) }) := by
  refine Meets.of_wp fun prog w A R s hs => ?_
  obtain ⟨ho, hs⟩ := hs
  have hT : s.TypeIs (.ref a) "list" := ⟨o, ho, hc⟩
  unfold Builtin.«method_descriptor.__get__»
  refine wpAny_bind (wpAny_of_eq (a := (.builtin "list.append", some (.ref a), some (.type "list"))) (by first | rfl | kernel_rfl) ?_)
  simp only [ap_told, Bool.false_eq_true, if_false]
  refine wpAny_bind (wpAny_bind (wpAny_of_eq (a := (PySem.Str.ofString "append", .type "list")) (by first | rfl | kernel_rfl) ?_))
  dsimp only
  refine wpAny_bind (wpAny_isInstance hT ap_sub ?_)
  refine KFB.if_not rfl (wpAny_pure ?_)
  exact wpAny_bind (wpAny_newObj_type (wpAny_pure ⟨_, rfl, hs⟩))

theorem ap_getattribute (a : Addr) (vs : List Value) (n : Nat) (u : Tok) : Meets (Builtin.«object.__getattribute__» ⟨[.ref a, .str ("append" : Str) u], []⟩)
    (fun _ R s => s.heap.get? a = some (listO vs n) ∧ R (.ok (.ret (.ref s.heap.objs.size))) { s with heap := s.heap.push (appO a) }) := by
  refine Meets.of_wp fun prog w A R s hs => ?_
  obtain ⟨hp, g, d, tk, os⟩ := s
  obtain ⟨hx, hs⟩ := hs
  unfold listO at hx
  have hT : (⟨hp, g, d, tk, os⟩ : Shared).TypeIs (.ref a) "list" := ⟨_, hx, rfl⟩
  have f1 := slot_list_append.lookup
  have f2 := ap_type
  have f3 := ap_get
  have f4 := ap_set
  have f5 := ap_del
  unfold Builtin.«object.__getattribute__»
  repeat (any_goals (first | assumption | wp_step))
  let R' : Result → Shared → Prop := fun r s' => r = .ok (.ret (.ref hp.objs.size)) ∧ s' = ⟨hp.push (appO a), g, d, tk, os⟩
  refine codeAny_mono (R := R') (codeAny_call_builtin ap_slot_get.plain ap_entry_get (ap_slot_get.check _ _ _ _ _ _ _ _ ap_typeIs (ap_args_get _ _ _) (ap_meets a _ rfl prog w A.in1 R' _ ⟨hx, rfl, rfl⟩))) fun r s' h => ?_
  obtain ⟨rfl, rfl⟩ := h
  exact wpAny_pure ⟨_, rfl, hs⟩

/-- `res.append` as a value -/
theorem ap_attr {prog : Program} {w : World} {Q : Value → Shared → Prop} {a : Addr} {vs : List Value} {n : Nat} (ho : s.heap.get? a = some (listO vs n))
    (h : ∀ tk, Q (.ref s.heap.objs.size) { s with heap := s.heap.push (appO a), toks := tk }) : wpAny (model prog w) A (getAttr (.ref a) ("append" : Str) true) Q E s := by
  obtain ⟨hp, g, d, tk, os⟩ := s
  unfold listO at ho
  have hT : ∀ tk', (⟨hp, g, d, tk', os⟩ : Shared).TypeIs (.ref a) "list" := fun _ => ⟨_, ho, rfl⟩
  have f3 := F.slot_list_getattribute.lookup
  have f4 := F.slot_list_getattribute.bind (.ref a)
  unfold getAttr getAttrBy
  repeat (any_goals (first | assumption | exact hT _ | ((with_reducible show wpAny _ _ (call (Value.builtin "list.__getattribute__") _ _) _ _ _); refine call_meets F.slot_list_getattribute (hT _) am_entry_list_getattribute (F.args_list_getattribute_2 _ _) (ap_getattribute a vs n _) ⟨ho, ?_⟩) | wp_step))
  exact wpAny_pure (h _)

theorem ap_nomod : isSubtype (.type "list") (.type "module") = pure false := by rw [isSubtype_type]; kernel_rfl
theorem ap_kind : builtinKind "list.append" = some .method := by decide +kernel
theorem ap_var : Manifest.varargsMethods.contains "list.append" = false := by decide +kernel
theorem ap_sig (a x : Value) : (match Manifest.signature? "list.append" with
    | some sig => Bind.checkArgs "list.append" { sig with full := s!"{Bind.lastOf "list"}.{Bind.lastOf "list.append"}" } ⟨[a, x], []⟩
    | none => pure ()) = pure () := by
  rw [signature?_of (id := "list.append") (n := ['d', 'n', 'e', 'p', 'p', 'a']) (o := ['t', 's', 'i', 'l']) (by kernel_rfl) F.owner_list]; kernel_rfl
theorem ap_check (a : Addr) (vs : List Value) (n : Nat) (x : Value) (ho : s.heap.get? a = some (listO vs n)) {Q : Unit → Shared → Prop} (h : Q () s) : wpAny M A (checkBoundCall "list.append" ⟨[.ref a, x], []⟩) Q E s := by
  have h2 := ap_sig (.ref a) x
  obtain ⟨hp, g, d, tk, os⟩ := s
  unfold listO at ho
  have hT : (⟨hp, g, d, tk, os⟩ : Shared).TypeIs (.ref a) "list" := ⟨_, ho, rfl⟩
  unfold checkBoundCall
  cases hs : Manifest.signature? "list.append" with
  | none => exact wpAny_pure h
  | some sig =>
    rw [hs] at h2
    simp only at h2
    rw [ap_kind]
    simp only [show (Manifest.AttrKind.method != Manifest.AttrKind.method && Manifest.AttrKind.method != Manifest.AttrKind.classMethod) = false by decide, Bool.false_eq_true, if_false]
    refine wpAny_bind (wpAny_isInstance hT ap_nomod ?_)
    simp only [ap_var, Bool.or_false, Bool.false_eq_true, if_false]
    refine wpAny_bind (wpAny_bind (wpAny_loadPart_at ho (wpAny_pure ?_)))
    refine KFB.if_not rfl ?_
    refine wpAny_bind (wpAny_typeOf hT ?_)
    exact wpAny_of_eq h2 h

/-- the bound method is called -/
theorem ap_call {prog : Program} {w : World} {Q : Value → Shared → Prop} {b a : Addr} {vs : List Value} {n : Nat} {x : Value} (hb : s.heap.get? b = some (appO a)) (ho : s.heap.get? a = some (listO vs n)) (hl : vs.length ≤ 1048576)
    (h : ∀ h', h'.get? a = some (listO (vs ++ [x]) (n + 1)) → Heap.SameBut a s.heap h' → Q .none { s with heap := h' }) : wpAny (model prog w) A (call (.ref b) [x]) Q E s := by
  refine wpAny_call (codeAny_of_tree ?_)
  show wpAny _ A.in1 (callAny (.ref b) ⟨[x], []⟩) _ _ s
  simp only [callAny]
  refine wpAny_bind (wpAny_load hb ?_)
  simp only [appO, show (Value.type "builtin_function_or_method" == Value.type "method" || Value.type "builtin_function_or_method" == Value.type "builtin_function_or_method" || Value.type "builtin_function_or_method" == Value.type "method-wrapper") = true by decide, if_true]
  refine KFB.if_so (by decide) ?_
  refine wpAny_bind (ap_check a vs n x ho ?_)
  refine wpAny_bind (wpAny_pure (wpAny_pure ?_))
  refine ⟨ap_quiet _, codeAny_builtin F.entry_list_append ?_⟩
  show wpAny _ _ (updateSeq a (·.push x) >>= fun _ => ret .none) _ _ s
  refine wpAny_bind ?_
  refine wpAny_updateSeq ho rfl (wpAny_pure (h _ ?_ (Heap.SameBut.update ..)))
  unfold listO at ho ⊢
  rw [Heap.get?_update_self _ ho (by rw [Obj.mapSeq_push_plain]; rfl), Obj.mapSeq_push_plain]
  simp
end
end Mine
/-! ## KK2 -/
set_option autoImplicit false
set_option maxRecDepth 100000
namespace Mine
open PySem PySem.W PyProof.Rows PySem.Calls

section
variable {prog : Program} {w : World} {A : Around} {E : Value → Shared → Prop} {s : Shared}

theorem next_tuple_item {it t : Addr} {i : Nat} {items : Array Value} {x : Value} {Q : Value → Shared → Prop} (hit : s.heap.IsTupleIter it t i) (ht : s.heap.IsTuple t items) (hx : items[i]? = some x)
    (hQ : ∀ h', h'.IsTupleIter it t (i + 1) → Heap.SameBut it s.heap h' → Q x { s with heap := h' }) : wpAny (model prog w) A (Builtin.SmallTypes.nextOf (.ref it)) Q E s := by
  obtain ⟨o, ho, hc, hd⟩ := id hit
  obtain ⟨ol, hol, _, nl, hdl⟩ := ht
  unfold Builtin.SmallTypes.nextOf
  refine wpAny_bind (wpAny_callSpecial?_slot (name := Str.ofString "__next__") hit.typeIs F.slot_tuple_iterator_next
    (wpAny_call_entry F.slot_tuple_iterator_next hit.typeIs F.entry_tuple_iterator_next ?_ (F.args_tuple_iterator_next_1 _)))
  show wpAny _ _ (field (.ref it) 0 >>= _) _ _ s
  refine wpAny_bind (wpAny_field ho hd (x := .ref t) rfl ?_)
  show wpAny _ _ (if (Value.ref t == Value.none) = true then _ else _) _ _ s
  rw [if_neg (show ¬ ((Value.ref t == Value.none) = true) from Bool.false_ne_true)]
  show wpAny _ _ (field (.ref it) 1 >>= _) _ _ s
  refine wpAny_bind (wpAny_field ho hd (x := .int i 0) rfl ?_)
  show wpAny _ _ (seqItems? (.ref t) >>= _) _ _ s
  refine wpAny_bind (wpAny_seqItems hol hdl ?_)
  simp only [Int.toNat_natCast, hx]
  refine wpAny_bind (wpAny_setField ho hd (by simp) (wpAny_pure ⟨x, rfl, wpAny_pure (hQ _ ?_ (Heap.SameBut.update ..))⟩))
  exact ⟨_, Heap.get?_update_self _ ho (Obj.isFreed_of_fields (Obj.data_mapFields hd _)), (Obj.cls_mapFields ..).trans hc, by
    rw [Obj.data_mapFields hd]; simp [rawInt]⟩

theorem next_tuple_end {it t : Addr} {i : Nat} {items : Array Value} {Q : Value → Shared → Prop} (hh : A.handled = none) (hit : s.heap.IsTupleIter it t i) (ht : s.heap.IsTuple t items) (hx : items[i]? = none)
    (hE : ∀ h' e, Heap.ExtBut it s.heap h' → (∃ o, h'.get? e = some o ∧ o.cls = .type "StopIteration") → E (.ref e) { s with heap := h' }) : wpAny (model prog w) A (Builtin.SmallTypes.nextOf (.ref it)) Q E s := by
  obtain ⟨o, ho, hc, hd⟩ := id hit
  obtain ⟨ol, hol, _, nl, hdl⟩ := ht
  unfold Builtin.SmallTypes.nextOf
  refine wpAny_bind (wpAny_callSpecial?_slot (name := Str.ofString "__next__") hit.typeIs F.slot_tuple_iterator_next
    (wpAny_call_entry F.slot_tuple_iterator_next hit.typeIs F.entry_tuple_iterator_next ?_ (F.args_tuple_iterator_next_1 _)))
  show wpAny _ _ (field (.ref it) 0 >>= _) _ _ s
  refine wpAny_bind (wpAny_field ho hd (x := .ref t) rfl ?_)
  show wpAny _ _ (if (Value.ref t == Value.none) = true then _ else _) _ _ s
  rw [if_neg (show ¬ ((Value.ref t == Value.none) = true) from Bool.false_ne_true)]
  show wpAny _ _ (field (.ref it) 1 >>= _) _ _ s
  refine wpAny_bind (wpAny_field ho hd (x := .int i 0) rfl ?_)
  show wpAny _ _ (seqItems? (.ref t) >>= _) _ _ s
  refine wpAny_bind (wpAny_seqItems hol hdl ?_)
  simp only [Int.toNat_natCast, hx]
  refine wpAny_bind (wpAny_rule (wpAny_bind (wpAny_setField ho hd (by simp) ?_)))
  show wpAny _ _ (newExc (.type "StopIteration") [] >>= _) _ _ _
  refine wpAny_bind ?_
  simp only [newExc, newTuple]
  refine wpAny_bind (wpAny_newObj_type ?_ (by size_fits))
  refine wpAny_bind (m := firstArgMember _ _) (wpAny_of_eq (a := Value.none) (by first | rfl | (simp only [firstArgMember]; rfl)) ?_)
  refine wpAny_newObj_type ?_ (by size_fits)
  simp only [raiseNew]
  refine wpAny_bind (wpAny_handled ?_)
  first | rw [show A.in1.handled = none from hh] | rw [hh]
  refine wpAny_bind (wpAny_pure (wpAny_throw ?_))
  exact hE _ _ (((Heap.SameBut.update ..).extBut.push _).push _) ⟨_, Heap.get?_push_size _ rfl, rfl⟩
end

theorem drawsTuple {prog : Program} {w : World} {A : Around} (hh : A.handled = none) (it l : Addr) (hne : l ≠ it) (items : Array Value) :
    Draws prog w A it [it, l] items.size (fun i v => items[i]? = some v) (fun i h => h.IsTupleIter it l i ∧ h.IsTuple l items) where
  live := fun _ _ st => let ⟨o, ho, _⟩ := st.1; ⟨o, ho⟩
  frame := fun _ _ _ st hk => ⟨st.1.at fun o e => hk it (by simp) o e, st.2.at fun o e => hk l (by simp) o e⟩
  item := fun i s Q E hi st hQ => by
    refine next_tuple_item st.1 st.2 (x := items[i]) (by simp [hi]) fun h' hit' hs' => ?_
    exact hQ _ h' s.toks (by simp [hi]) ⟨hit', st.2.extBut hs'.extBut hne⟩ hs'
  done := fun s Q E st hE => next_tuple_end hh st.1 st.2 (by simp) hE

theorem meets_enum_tup (l : Addr) (vs : List Value) (n : Nat) :
    Meets (Builtin.«enumerate.__new__» ⟨[.type "enumerate", .ref l], []⟩) (fun _ R s => s.heap.get? l = some (tupO vs n) ∧
      R (.ok (.ret (.ref (s.heap.push { cls := .type "tuple_iterator", data := .fields #[.ref l, .int 0 0] }).objs.size)))
        { s with heap := (s.heap.push { cls := .type "tuple_iterator", data := .fields #[.ref l, .int 0 0] }).push { cls := .type "enumerate", data := .fields #[.none, .bool false, .ref s.heap.objs.size, rawInt 0, .none, .none] } }) :=
  .of_wp fun prog w A R s h => by
    obtain ⟨hp, g, d, tk, os⟩ := s; obtain ⟨hl, h⟩ := h
    unfold tupO at hl
    have hsub := sub_enumerate
    have hL : Heap.IsTuple (Shared.heap ⟨hp, g, d, tk, os⟩) l vs.toArray := ⟨_, hl, rfl, n, rfl⟩
    wp_walk using wpAny_loadPart' hl
    refine wpAny_stack_any fun st => wpAny_pure ?_
    split
    · rename_i c _ _ _ _ _
      cases (c == Value.type "enumerate")
      · wp_walk using wpAny_loadPart' hl, wpAny_pyIter_tuple hL
        exact ⟨_, rfl, h⟩
      · wp_walk using wpAny_loadPart' hl, wpAny_pyIter_tuple hL
        exact ⟨_, rfl, h⟩
    · wp_walk using wpAny_loadPart' hl, wpAny_pyIter_tuple hL
      exact ⟨_, rfl, h⟩

theorem call_enum_tup {prog : Program} {w : World} {A : Around} {E : Value → Shared → Prop} {s : Shared} {l : Addr} {vs : List Value} {n : Nat} {Q : Value → Shared → Prop} (hl : s.heap.get? l = some (tupO vs n))
    (h : ∀ h', IsEnum h' (s.heap.objs.size + 1) s.heap.objs.size 0 .none → h'.IsTupleIter s.heap.objs.size l 0 → h'.objs.size = s.heap.objs.size + 2 →
      (∀ b o, s.heap.get? b = some o → h'.get? b = some o) → Q (.ref (s.heap.objs.size + 1)) { s with heap := h' }) :
    wpAny (model prog w) A (call (.type "enumerate") [.ref l]) Q E s := by
  refine callType_new F.called_enumerate (by decide) (F.typeCall_enumerate_1 _) (F.newCall_enumerate_1 _) (fun obj => F.args_object_init_2 obj _) F.entry_enumerate_new
    (meets_enum_tup l vs n) ⟨hl, ?_⟩
  have hz : (s.heap.push { cls := .type "tuple_iterator", data := .fields #[.ref l, .int 0 0] }).objs.size = s.heap.objs.size + 1 := Heap.size_push ..
  show _ ∧ _
  rw [hz]
  have he : IsEnum ((s.heap.push { cls := .type "tuple_iterator", data := .fields #[.ref l, .int 0 0] }).push
      { cls := .type "enumerate", data := .fields #[.none, .bool false, .ref s.heap.objs.size, rawInt 0, .none, .none] }) (s.heap.objs.size + 1) s.heap.objs.size 0 .none := by
    have := Heap.get?_push_size (s.heap.push { cls := .type "tuple_iterator", data := .fields #[.ref l, .int 0 0] })
      (o := { cls := .type "enumerate", data := .fields #[.none, .bool false, .ref s.heap.objs.size, rawInt 0, .none, .none] }) rfl
    rw [hz] at this; exact this
  refine ⟨⟨_, he, rfl⟩, h _ he ⟨_, Heap.get?_push_of_some _ (Heap.get?_push_size _ rfl), rfl, rfl⟩ (by rw [Heap.size_push, hz]) fun b o x => Heap.get?_push_of_some _ (Heap.get?_push_of_some _ x)⟩
end Mine
/-! ## KK -/
set_option autoImplicit false
set_option maxRecDepth 100000
namespace Mine
open PySem PySem.W PyProof.Rows PySem.Calls

section
variable {B : Base} {Φ : Addr → Prop} {A : Around} {s : Shared} {h h' : Heap} {adr : List Ent} {st : Sto}

/-- a new entry of the store -/
theorem SR.add (S : SR B Φ h adr st) (i : B.Inv h) (k : ∀ a o, h.get? a = some o → h'.get? a = some o) {a : Addr} (hn : h.get? a = none) (m : Mo)
    (hm : match m with
      | .lst l => ∃ vs n, h'.get? a = some (listO vs n) ∧ VRs B.T Φ B.Ins h adr vs l ∧ l.length ≤ LIM
      | .sent => h'.get? a = some sentO
      | .dead => False) :
    SR B Φ h' (adr ++ [.live a]) (st ++ [m]) ∧ Ex B.T h adr h' (adr ++ [.live a]) := by
  have hx : Ex B.T h adr h' (adr ++ [.live a]) := by
    refine ⟨fun b o e _ _ => k b o e, fun b o e => ⟨o, k b o e⟩, fun j hj => List.getElem?_append_left hj, fun e me => ?_⟩
    rcases List.mem_append.mp me with me | me
    · exact .inl me
    · rw [List.mem_singleton.mp me]; exact .inr hn
  have hlen := S.len
  have gt : ∀ {j : Nat} {e : Ent}, (adr ++ [Ent.live a])[j]? = some e → (j < st.length ∧ adr[j]? = some e) ∨ (j = st.length ∧ e = .live a) := fun {j e} he => by
    by_cases hj : j < adr.length
    · rw [List.getElem?_append_left hj] at he; exact .inl ⟨hlen ▸ hj, he⟩
    · rw [List.getElem?_append_right (by omega)] at he
      have hj' : j - adr.length = 0 := by
        cases q : j - adr.length with
        | zero => rfl
        | succ n => rw [q] at he; simp at he
      rw [hj'] at he
      simp at he
      exact .inr ⟨by omega, he.symm⟩
  have sg : ∀ {j : Nat} {x : Mo}, (st ++ [m])[j]? = some x → (st[j]? = some x ∧ (adr ++ [Ent.live a])[j]? = adr[j]?) ∨ (j = st.length ∧ x = m) := fun {j x} he => by
    by_cases hj : j < st.length
    · rw [List.getElem?_append_left hj] at he; exact .inl ⟨he, List.getElem?_append_left (by omega)⟩
    · rw [List.getElem?_append_right (by omega)] at he
      have hj' : j - st.length = 0 := by
        cases q : j - st.length with
        | zero => rfl
        | succ n => rw [q] at he; simp at he
      rw [hj'] at he
      simp at he
      exact .inr ⟨by omega, he.symm⟩
  have last : (adr ++ [Ent.live a])[st.length]? = some (.live a) := by rw [← hlen]; simp
  have nz := new_fz i S hn
  refine ⟨⟨by simp [hlen], fun j l e => ?_, fun j e => ?_, fun j e => ?_, fun j j' e e' h1 h2 hq => ?_, fun b hb => ?_, fun b p => ?_, S.phiO⟩, hx⟩
  · rcases sg e with ⟨e, ea⟩ | ⟨rfl, e'⟩
    · obtain ⟨a', vs, n, q1, q2, q3, q4⟩ := S.lst j l e
      exact ⟨a', vs, n, ea.trans q1, k _ _ q2, q3.ex hx, q4⟩
    · subst e'
      obtain ⟨vs, n, q1, q2, q3⟩ := hm
      exact ⟨a, vs, n, last, q1, q2.ex hx, q3⟩
  · rcases sg e with ⟨e, ea⟩ | ⟨rfl, e'⟩
    · obtain ⟨a', q1, q2⟩ := S.sent j e
      exact ⟨a', ea.trans q1, k _ _ q2⟩
    · subst e'
      exact ⟨a, last, hm⟩
  · rcases sg e with ⟨e, ea⟩ | ⟨rfl, e'⟩
    · obtain ⟨a', vs, n, q1, q2⟩ := S.dead j e
      exact ⟨a', vs, n, ea.trans q1, k _ _ q2⟩
    · subst e'; exact hm.elim
  · rcases gt h1 with ⟨_, h1⟩ | ⟨rfl, rfl⟩ <;> rcases gt h2 with ⟨_, h2⟩ | ⟨rfl, rfl⟩
    · exact S.inj _ _ _ _ h1 h2 hq
    · exact absurd ⟨e, List.mem_of_getElem? h1, hq⟩ nz.m
    · exact absurd ⟨e', List.mem_of_getElem? h2, hq.symm⟩ nz.m
    · rfl
  · obtain ⟨e, me, he⟩ := hb
    rcases List.mem_append.mp me with me | me
    · exact S.out b ⟨e, me, he⟩
    · rw [List.mem_singleton.mp me] at he
      subst he
      exact ⟨new_old i hn, nz.p⟩
  · obtain ⟨o, e⟩ := S.phi b p
    exact ⟨o, k _ _ e⟩

/-- an entry is filled -/
theorem SR.put (S : SR B Φ h adr st) (i : B.Inv h) {n : Nat} {l l' : List D} (hl : st[n]? = some (.lst l)) {a : Addr} (ha : adr[n]? = some (.live a)) (hs : Heap.SameBut a h h') {vs : List Value} {m : Nat}
    (ho : h'.get? a = some (listO vs m)) (hv : VRs B.T Φ B.Ins h adr vs l') (hb : l'.length ≤ LIM) : SR B Φ h' adr (st.set n (.lst l')) ∧ Ex B.T h adr h' adr ∧ B.Inv h' := by
  have hx : Ex B.T h adr h' adr := by
    refine ⟨fun b o e _ ml => ?_, SameBut.live hs ⟨_, ho⟩, fun _ _ => rfl, fun _ me => .inl me⟩
    exact (hs.2 b fun q => ml (q ▸ List.mem_of_getElem? ha)).trans e
  have hA : At adr a := ⟨_, List.mem_of_getElem? ha, rfl⟩
  have ne : ∀ {j : Nat} {e : Ent}, j ≠ n → adr[j]? = some e → e.at ≠ a := fun hj he q => hj (S.inj _ _ _ _ he ha q)
  refine ⟨⟨by simp [S.len], fun j l₁ e => ?_, fun j e => ?_, fun j e => ?_, S.inj, S.out, fun b p => ?_, S.phiO⟩, hx, B.step _ _ i fun b o hb e => (hs.2 b fun q => (S.out a hA).1 (q ▸ hb)).trans e⟩
  · by_cases hj : j = n
    · subst hj
      rw [List.getElem?_set_self (List.getElem?_eq_some_iff.mp hl).1] at e
      cases e
      exact ⟨a, vs, m, ha, ho, hv.ex hx, hb⟩
    · rw [List.getElem?_set_ne (Ne.symm hj)] at e
      obtain ⟨a', vs', n', q1, q2, q3, q4⟩ := S.lst j l₁ e
      exact ⟨a', vs', n', q1, (hs.2 _ (ne hj q1)).trans q2, q3.ex hx, q4⟩
  · by_cases hj : j = n
    · subst hj
      rw [List.getElem?_set_self (List.getElem?_eq_some_iff.mp hl).1] at e
      cases e
    · rw [List.getElem?_set_ne (Ne.symm hj)] at e
      obtain ⟨a', q1, q2⟩ := S.sent j e
      exact ⟨a', q1, (hs.2 _ (ne hj q1)).trans q2⟩
  · by_cases hj : j = n
    · subst hj
      rw [List.getElem?_set_self (List.getElem?_eq_some_iff.mp hl).1] at e
      cases e
    · rw [List.getElem?_set_ne (Ne.symm hj)] at e
      obtain ⟨a', vs', n', q1, q2⟩ := S.dead j e
      exact ⟨a', vs', n', q1, (hs.2 _ (ne hj q1)).trans q2⟩
  · obtain ⟨o, e⟩ := S.phi b p
    exact ⟨o, (hs.2 b fun q => (S.out a hA).2 (q ▸ p)).trans e⟩

theorem sum_ints {T Φ : Addr → Prop} {Ins : InsT} : ∀ {vs : List Value} {ds : List D} {a r : Int}, VRs T Φ Ins h adr vs ds → sumD ds a = some r → ∃ xs : List (Int × Tok), vs = xs.map (fun p => Value.int p.1 p.2) ∧ a + (xs.map (·.1)).sum = r
  | _, _, a, r, .nil, e => ⟨[], rfl, by simp only [sumD] at e; cases e; simp⟩
  | _, _, a, r, .cons x y, e => by
    cases x with
    | int i t =>
      simp only [sumD] at e
      obtain ⟨xs, q1, q2⟩ := sum_ints y e
      exact ⟨(i, t) :: xs, by rw [q1]; rfl, by rw [← q2]; simp; omega⟩
    | _ => simp [sumD] at e

theorem bb_len : bootBuiltins ("len" : Str) = some (.builtin "len") := by kernel_rfl
theorem bb_range : bootBuiltins ("range" : Str) = some (.type "range") := by kernel_rfl
theorem bb_sum : bootBuiltins ("sum" : Str) = some (.builtin "sum") := by kernel_rfl
theorem bb_object : bootBuiltins ("object" : Str) = some (.type "object") := by kernel_rfl
theorem bb_enumerate : bootBuiltins ("enumerate" : Str) = some (.type "enumerate") := by kernel_rfl
end
end Mine
/-! ## KL -/
set_option autoImplicit false
set_option maxRecDepth 100000
namespace Mine
open PySem PySem.W PyProof.Rows PySem.Calls

theorem bb_type : bootBuiltins ("type" : Str) = some (.type "type") := by kernel_rfl
theorem bb_str : bootBuiltins ("str" : Str) = some (.type "str") := by kernel_rfl

section
variable {B : Base} {Φ : Addr → Prop} {A : Around} {s : Shared} {adr : List Ent} {st : Sto}

theorem builtin_ok {k : Nat} {f : Str} {fv : Value} {us : List Value} {ds : List D} {d : D} {st' : Sto} (R : Room A k) (i : B.Inv s.heap) (S : SR B Φ s.heap adr st) (hf : bootBuiltins f = some fv) (r : VRs B.T Φ B.Ins s.heap adr us ds)
    (e : builtin st f ds = some (d, st')) : Gives B Φ A (call fv us) s adr st' d := by
  unfold builtin at e
  split at e
  · rename_i hn
    have hn : f = ("len" : Str) := eq_of_beq hn
    subst hn
    rw [bb_len] at hf; cases hf
    split at e
    · rename_i l
      cases e
      cases r with
      | cons r r' =>
      cases r'
      cases r with
      | str x t _ e1 l1 c1 =>
      have q1 : x.length = l.length := by rw [← e1]; exact (Array.length_toList).symm
      rw [← q1]
      exact gives_tok i S (.int _ _) fun Q E h => P.len_str (by unfold LIM at l1; omega) h
    · rename_i a _
      simp only [Option.bind_eq_bind, Option.bind_eq_some_iff] at e
      obtain ⟨l, hl, e⟩ := e
      cases e
      cases r with
      | cons r r' =>
      cases r'
      by_cases h4 : a.kind = 4
      · cases r with
        | @tup x vs n ds e1 z r b =>
          simp only [Sto.items] at hl
          cases hl
          have q : vs.toArray.size = l.length := by rw [List.size_toArray, r.length]
          rw [← q]
          exact gives_tok i S (.int _ _) fun Q E h => len_tuple ⟨_, e1, rfl, n, rfl⟩ (by rw [q]; unfold LIM at b; omega) h
        | _ => simp [D.kind] at h4
      · obtain ⟨x, vs, rfl, q2, q3, q4⟩ := list_at S r hl h4
        have q : vs.toArray.size = l.length := by rw [List.size_toArray, q3.length]
        rw [← q]
        exact gives_tok i S (.int _ _) fun Q E h => len_list q2 (by rw [q]; unfold LIM at q4; omega) h
    · cases e
  · split at e
    · rename_i hn
      have hn : f = ("range" : Str) := eq_of_beq hn
      subst hn
      rw [bb_range] at hf; cases hf
      split at e
      · split at e
        · rename_i b hb
          cases e
          cases r with
          | cons r r' =>
          cases r'
          cases r with
          | int _ t =>
          refine gives_push i S (tk := s.toks + 1 + 1) (o := { cls := .type "range", data := .fields #[.int 0 s.toks, .int b t, .int 1 (s.toks + 1)] }) (.rng (Heap.get?_push_size _ rfl) (new_fz i S (size_none _)) (by decide) (by unfold LIM; omega)) fun Q E h => call_range_1 h
        · cases e
      · split at e
        · rename_i a b hb
          cases e
          cases r with
          | cons r r' =>
          cases r' with
          | cons r'' r' =>
          cases r'
          cases r with
          | int _ t =>
          cases r'' with
          | int _ u =>
          refine gives_push i S (tk := s.toks + 1) (o := { cls := .type "range", data := .fields #[.int a t, .int b u, .int 1 s.toks] }) (.rng (Heap.get?_push_size _ rfl) (new_fz i S (size_none _)) (by unfold LIM; omega) (by unfold LIM; omega)) fun Q E h => call_range_2 h
        · cases e
      · cases e
    · split at e
      · rename_i hn
        have hn : f = ("sum" : Str) := eq_of_beq hn
        subst hn
        rw [bb_sum] at hf; cases hf
        split at e
        · rename_i a
          split at e
          · cases e
          · rename_i h4
            simp only [Option.bind_eq_bind, Option.bind_eq_some_iff] at e
            obtain ⟨l, hl, t, ht, e⟩ := e
            cases e
            cases r with
            | cons r r' =>
            cases r'
            obtain ⟨x, vs, rfl, q2, q3, q4⟩ := list_at S r hl (by simpa using h4)
            obtain ⟨xs, rfl, q5⟩ := sum_ints q3 ht
            have q6 : (xs.map fun p => Value.int p.1 p.2).toArray = intItems xs.toArray := by simp [intItems]
            rw [q6] at q2
            refine sum_intListG R.h q2 fun h' tk t' hk => ?_
            refine ⟨adr, Post.keep i S hk tk, ?_⟩
            rw [preSum_eq, List.take_of_length_le (by simp)]
            rw [Int.zero_add] at q5
            rw [← q5]
            exact .int _ _
        · cases e
      · split at e
        · rename_i hn
          have hn : f = ("object" : Str) := eq_of_beq hn
          subst hn
          rw [bb_object] at hf; cases hf
          split at e
          · cases e
            cases r
            obtain ⟨S', x⟩ := S.add (h' := s.heap.push sentO) i (keep_push _) (size_none _) .sent (Heap.get?_push_size _ rfl)
            refine call_object ⟨_, ⟨B.step _ _ i fun a o _ e => keep_push _ a o e, S', x, rfl, rfl⟩, ?_⟩
            have : (adr ++ [Ent.live s.heap.objs.size])[st.length]? = some (.live s.heap.objs.size) := by rw [← S.len]; simp
            exact .ref this
          · cases e
        · cases e
end
end Mine
/-! ## KL1 -/
set_option autoImplicit false
set_option maxRecDepth 100000
namespace Mine
open PySem PySem.W PyProof.Rows PySem.Calls PySem.Builtin PySem.Builtin.Re

/-- no sign of the text is in the set with which a pattern must start -/
def NoneIn (code : Array Nat) (l : List Nat) : Prop := ∀ c ∈ l, ∀ seen, ∃ seen', Sre.inSet code c code.size 5 true seen = .ok (false, seen')

theorem admitted_none {m : Sre.M} {l : List Nat} (hc : NoneIn m.code l) (ht : ∀ s, s < m.lim → m.text.getD s 0 ∈ l) : ∀ (fuel s : Nat) (seen : Sre.Seen), m.lim + 1 - s ≤ fuel → ∃ seen', m.admitted fuel s seen = .ok (none, seen')
  | 0, s, seen, _ => ⟨seen, rfl⟩
  | fuel + 1, s, seen, hf => by
    unfold Sre.M.admitted
    by_cases hs : s ≥ m.lim
    · rw [if_pos hs]; exact ⟨seen, rfl⟩
    · rw [if_neg hs]
      obtain ⟨seen', h⟩ := hc _ (ht s (by omega)) seen
      rw [h]
      exact admitted_none hc ht fuel (s + 1) seen' (by omega)

theorem from_none {m : Sre.M} {l : List Nat} (hset : m.hasFirstSet = true) (hc : NoneIn m.code l) (ht : ∀ s, s < m.lim → m.text.getD s 0 ∈ l) (hf : m.frames = []) (ho : m.outcome = none) :
    (m.attemptFrom 0 true).answer = some false ∧ (m.attemptFrom 0 true).frames = [] ∧ (m.attemptFrom 0 true).outcome = none := by
  unfold Sre.M.attemptFrom
  rw [hset]
  simp only [Bool.not_true, Bool.false_eq_true, if_false]
  obtain ⟨seen', h⟩ := admitted_none hc ht (m.lim + 1 - 0) 0 m.seen (Nat.le_refl _)
  rw [h]
  exact ⟨rfl, hf, ho⟩

theorem search_none {code : Array Nat} {text : Array Nat} {groups lim : Nat} {adv : Bool} (hset : ∀ m : Sre.M, m.code = code → m.hasFirstSet = true) (hc : NoneIn code text.toList) (hl : lim ≤ text.size) :
    (Sre.forSearch code text groups 0 lim adv).answer = some false ∧ (Sre.forSearch code text groups 0 lim adv).frames = [] ∧ (Sre.forSearch code text groups 0 lim adv).outcome = none := by
  unfold Sre.forSearch
  simp only
  split
  · exact ⟨rfl, rfl, rfl⟩
  · refine from_none (l := text.toList) (hset _ rfl) hc (fun s hs => ?_) rfl rfl
    show text.getD s 0 ∈ text.toList
    have hs : s < lim := hs
    have : s < text.size := by omega
    rw [Array.getD_eq_getD_getElem?, Array.getElem?_eq_getElem this]
    simp

section
variable {M : Model} {A : Around} {E : Value → Shared → Prop} {s : Shared}

theorem run_for {m : Sre.M} (ha : m.answer = some false) (hf : m.frames = []) (ho : m.outcome = none) : m.runFor 4 = { m with outcome := some .failed } := by
  have h1 : m.step = { m with outcome := some .failed } := by
    unfold Sre.M.step
    rw [ho, ha, hf]
    rfl
  show (if m.outcome.isSome then m else Sre.M.runFor 3 m.step) = _
  rw [ho, h1]
  rfl

theorem forIn_rules {l : List Nat} (f : Nat → PUnit → Sem (ForInStep PUnit)) (hf : ∀ i, f i ⟨⟩ = pure (.yield ⟨⟩) ∨ ∃ tag, f i ⟨⟩ = (rule tag >>= fun _ => pure (.yield ⟨⟩))) {Q : PUnit → Shared → Prop} (h : Q ⟨⟩ s) : wpAny M A (forIn l ⟨⟩ f) Q E s := by
  induction l with
  | nil => exact wpAny_pure h
  | cons a l ih =>
    rw [List.forIn_cons]
    rcases hf a with e | ⟨tag, e⟩
    · rw [e]; exact wpAny_bind (wpAny_pure ih)
    · rw [e]; exact wpAny_bind (wpAny_bind (wpAny_rule (wpAny_pure ih)))

theorem run_end {m : Sre.M} {Q : Option Sre.M → Shared → Prop} (ha : m.answer = some false) (hf : m.frames = []) (ho : m.outcome = none) (h : Q none s) : wpAny M A (reRunToEnd m) Q E s := by
  unfold reRunToEnd
  have e : reDrive (2 ^ 64) m = pure { m with outcome := some .failed } := by
    show reDrive (18446744073709551615 + 1) m = _
    unfold reDrive
    simp only [reTurnSteps, run_for ha hf ho]
    rfl
  rw [e]
  refine wpAny_bind (wpAny_pure ?_)
  refine wpAny_bind (forIn_rules _ (fun i => ?_) ?_)
  · dsimp only
    split
    · exact .inr ⟨_, rfl⟩
    · exact .inl rfl
  · exact wpAny_pure h
end
end Mine
/-! ## KL2 -/
set_option autoImplicit false
set_option maxRecDepth 100000
namespace Mine
open PySem PySem.W PyProof.Rows PySem.Calls PySem.Builtin PySem.Builtin.Re

theorem re_slot_search : Slot "re.Pattern" "search" "re.Pattern.search" :=
  .of (owner := "re.Pattern") (n := "search") (by rw [typeLookup_type, builtinLookup_eq_fast]; kernel_rfl) (by decide +kernel) (by decide +kernel) (by decide +kernel)
    (by first | exact .inl (by decide +kernel) | exact .inr (by decide +kernel)) (by rw [isSubtype_type]; kernel_rfl)
theorem re_type_search : typeOf (.builtin "re.Pattern.search") = pure (.type "method_descriptor") := by show builtinType _ = _; rw [builtinType_eq_fast]; kernel_rfl
theorem re_entry_search : entryFor table "re.Pattern.search" = some Builtin.«re.Pattern.search» := entryFor_of_tree (by kernel_rfl)
theorem re_args_search (a b : Value) : argsOk "re.Pattern.search" ⟨[a, b], []⟩ := by unfold argsOk; kernel_rfl

theorem named_one (id f : String) (v : Value) : reNamed id f ["string", "pos", "endpos"] 1 [v] [] = pure [some v, none, none] := by
  unfold reNamed
  first
    | rfl
    | kernel_rfl
    | (simp; rfl)

theorem ans_none {M : Model} {A : Around} {E : Value → Shared → Prop} {s : Shared} {tg : ReTarget} {m : Sre.M} {Q : Fin → Shared → Prop} (ha : m.answer = some false) (hf : m.frames = []) (ho : m.outcome = none) (h : Q (.done (.ret .none)) s) : wpAny M A (reAnswer tg m) Q E s := by
  unfold reAnswer
  exact wpAny_bind (run_end ha hf ho (wpAny_pure h))

theorem search_meets (pa ca : Addr) (p x : Str) (t u tx : Tok) (items : Array Value) (m : Nat) (code : Array Nat) (hcode : (items.map reRawOf).map (·.toNat) = code) (hset : ∀ m : Sre.M, m.code = code → m.hasFirstSet = true) (hx : NoneIn code x.cps.toList) :
    Meets (Builtin.«re.Pattern.search» ⟨[.ref pa, .str x tx], []⟩) (fun _ R s => s.heap.get? pa = some (patO p t u 0 ca) ∧ s.heap.get? ca = some { cls := .type "tuple", data := .seq items m } ∧ R (.ok (.ret .none)) s) := by
  refine Meets.of_wp fun prog w A R s hs => ?_
  obtain ⟨h1, h2, hs⟩ := hs
  unfold Builtin.«re.Pattern.search» reTarget
  refine wpAny_bind ?_
  dsimp only
  rw [named_one]
  refine wpAny_bind (wpAny_pure ?_)
  dsimp only
  refine wpAny_bind (wpAny_pure ?_)
  refine wpAny_bind (wpAny_pure ?_)
  refine wpAny_bind (wpAny_fieldsOf h1 rfl ?_)
  have htext : reTextOf (.str x tx) = pure (x.cps, 0) := by first | rfl | kernel_rfl
  rw [htext]
  refine wpAny_bind (wpAny_pure ?_)
  refine KFB.if_not (by first | rfl | decide) ?_
  refine KFB.if_not (by first | rfl | decide) ?_
  refine wpAny_bind ?_
  have hcoll : reNoCollectionInside (.str x tx) 0 = pure () := by first | rfl | kernel_rfl
  rw [hcoll]
  refine wpAny_pure ?_
  refine wpAny_bind ?_
  show wpAny _ _ (reRawItems (.ref ca)) _ _ s
  unfold reRawItems
  refine wpAny_bind (wpAny_seqItems h2 rfl (wpAny_pure ?_))
  refine wpAny_pure ?_
  have hlim : Min.min (2 ^ 63 - 1 : Int).toNat x.cps.size ≤ x.cps.size := Nat.min_le_right _ _
  have hpos : Min.min (Int.toNat 0) x.cps.size = 0 := by simp
  dsimp only
  simp only [Option.getD_some, hcode, hpos]
  generalize Min.min (2 ^ 63 - 1 : Int).toNat x.cps.size = lim at hlim ⊢
  obtain ⟨q1, q2, q3⟩ := search_none (code := code) (text := x.cps) (groups := reRawNat (#[Value.str p t, Value.int 32 u, Value.int 0 0, Value.none, Value.none, Value.ref ca, Value.int 0 0].getD 2 Value.none)) (lim := lim) (adv := false) hset hx hlim
  exact ans_none q1 q2 q3 ⟨_, rfl, hs⟩

/-- pattern.search(text), nothing found -/
theorem search_call {prog : Program} {w : World} {A : Around} {E : Value → Shared → Prop} {s : Shared} {Q : Value → Shared → Prop} {pa ca : Addr} {p x : Str} {t u tx : Tok} {items : Array Value} {m : Nat} {code : Array Nat} (hcode : (items.map reRawOf).map (·.toNat) = code) (hset : ∀ m : Sre.M, m.code = code → m.hasFirstSet = true)
    (hx : NoneIn code x.cps.toList) (h1 : s.heap.get? pa = some (patO p t u 0 ca)) (h2 : s.heap.get? ca = some { cls := .type "tuple", data := .seq items m }) (h : Q .none s) : wpAny (model prog w) A (call (.builtin "re.Pattern.search") [.ref pa, .str x tx]) Q E s :=
  call_meets re_slot_search ⟨_, h1, rfl⟩ re_entry_search (re_args_search _ _) (search_meets pa ca p x t u tx items m code hcode hset hx) ⟨h1, h2, h⟩
theorem re_plain : PlainAttrs "re.Pattern" := by
  first
    | exact ⟨⟨"re.Pattern.__getattribute__", by rw [typeLookup_type, builtinLookup_eq_fast]; kernel_rfl, by decide +kernel⟩, by rw [typeLookup_type, builtinLookup_eq_fast]; kernel_rfl⟩
    | exact ⟨⟨"object.__getattribute__", by rw [typeLookup_type, builtinLookup_eq_fast]; kernel_rfl, by decide +kernel⟩, by rw [typeLookup_type, builtinLookup_eq_fast]; kernel_rfl⟩
theorem search_get {M : Model} {A : Around} {E : Value → Shared → Prop} {s : Shared} {Q : Value × List Value → Shared → Prop} {pl : Sem Bool} {pa ca : Addr} {p : Str} {t u : Tok} (h1 : s.heap.get? pa = some (patO p t u 0 ca)) (h : Q (.builtin "re.Pattern.search", [.ref pa]) s) :
    wpAny M A (getMethod (.ref pa) "search" pl) Q E s :=
  getMethod_builtin ⟨_, h1, rfl⟩ re_plain re_slot_search re_type_search (fun b hb => by cases hb; exact ⟨_, h1, rfl⟩) h

theorem set_of {code : Array Nat} (h : (Sre.M.hasFirstSet { code := code, text := #[], lim := 0, start := 0, pc := 0, pos := 0, handed := 0, marks := #[] }) = true) : ∀ m : Sre.M, m.code = code → m.hasFirstSet = true := by
  intro m hm
  subst hm
  exact h
theorem inSet_const {code : Array Nat} {c : Nat} {n i : Nat} {yes : Bool} {b : Bool} (h : ∀ seen, ∃ seen', Sre.inSet code c n i yes seen = .ok (b, seen')) : ∀ seen, ∃ seen', Sre.inSet code c n i yes seen = .ok (b, seen') := h
theorem name_none {l : List Nat} (h : printable l = true) : NoneIn nameCode l := by
  intro c hc seen
  have hc := List.all_eq_true.mp h c hc
  simp only [Bool.and_eq_true, decide_eq_true_eq] at hc
  show ∃ seen', Sre.inSet nameCode c 20 5 true seen = _
  unfold Sre.inSet
  simp only [show Sre.ops[nameCode.getD (5 + 0) 0]? = some .RANGE from rfl, show nameCode.getD (5 + 1) 0 = 0 from rfl, show nameCode.getD (5 + 2) 0 = 31 from rfl]
  rw [if_neg (by simp; omega)]
  unfold Sre.inSet
  simp only [show Sre.ops[nameCode.getD (5 + 3 + 0) 0]? = some .LITERAL from rfl, show nameCode.getD (5 + 3 + 1) 0 = 127 from rfl]
  rw [if_neg (by simp; omega)]
  unfold Sre.inSet
  simp only [show Sre.ops[nameCode.getD (5 + 3 + 2 + 0) 0]? = some .FAILURE from rfl]
  exact ⟨_, rfl⟩
theorem set_bits : ∀ c, c < 128 → 32 ≤ c → c ≠ 127 → (valueCode.getD (5 + (1 + c / 32)) 0).testBit (c % 32) = false := by decide +kernel
theorem value_none {l : List Nat} (h : printable l = true) : NoneIn valueCode l := by
  intro c hc seen
  have hc := List.all_eq_true.mp h c hc
  simp only [Bool.and_eq_true, decide_eq_true_eq] at hc
  show ∃ seen', Sre.inSet valueCode c 28 5 true seen = _
  unfold Sre.inSet
  simp only [show Sre.ops[valueCode.getD (5 + 0) 0]? = some .CHARSET from rfl]
  rw [if_neg (by rw [set_bits c (by omega) hc.1 (by omega)]; simp)]
  unfold Sre.inSet
  simp only [show Sre.ops[valueCode.getD (5 + 9 + 0) 0]? = some .FAILURE from rfl]
  exact ⟨_, rfl⟩
theorem twin_bits : ∀ c, c < 128 → c ≠ 38 → c ≠ 126 → c ≠ 124 → (twinCode.getD (5 + (1 + c / 32)) 0).testBit (c % 32) = false := by decide +kernel
theorem twin_none {l : List Nat} (ha : ascii l = true) (h : (l.all fun c => c != 38 && c != 126 && c != 124) = true) : NoneIn twinCode l := by
  intro c hc seen
  have h1 := List.all_eq_true.mp h c hc
  have h2 := List.all_eq_true.mp ha c hc
  simp only [Bool.and_eq_true, decide_eq_true_eq, bne_iff_ne] at h1 h2
  show ∃ seen', Sre.inSet twinCode c 32 5 true seen = _
  unfold Sre.inSet
  simp only [show Sre.ops[twinCode.getD (5 + 0) 0]? = some .CHARSET from rfl]
  rw [if_neg (by rw [twin_bits c h2 h1.1.1 h1.1.2 h1.2]; simp)]
  unfold Sre.inSet
  simp only [show Sre.ops[twinCode.getD (5 + 9 + 0) 0]? = some .FAILURE from rfl]
  exact ⟨_, rfl⟩
end Mine
/-! ## KM -/
set_option autoImplicit false
set_option maxRecDepth 100000
namespace Mine
open PySem PySem.W PyProof.Rows PySem.Calls

section
variable {B : Base} {Φ : Addr → Prop} {A : Around} {s : Shared} {adr : List Ent} {st : Sto}

theorem recv_ok {M : Model} {a : D} {u : Value} {m : Str} {id : String} {pl : Sem Bool} (S : SR B Φ s.heap adr st) (r : VR B.T Φ B.Ins s.heap adr u a) (e : recv st a m = some id) :
    ∀ (Q : Value × List Value → Shared → Prop) E, Q (.builtin id, [u]) s → wpAny M A (getMethod u m pl) Q E s := by
  intro Q E h
  unfold recv at e
  split at e
  · cases r with
    | str x t _ e1 l1 c1 =>
    split at e
    · rename_i hm
      rw [eq_of_beq hm]; cases e; exact GM.join h
    · split at e
      · rename_i hm
        rw [eq_of_beq hm]; cases e; exact GM.upper h
      · split at e
        · rename_i hm
          rw [eq_of_beq hm]; cases e; exact GM.lower h
        · cases e
  · rename_i n
    split at e
    · rename_i l hl
      split at e
      · rename_i hm
        rw [eq_of_beq hm]; cases e
        obtain ⟨a, vs, k, q1, q2, q3, q4⟩ := S.lst n l hl
        cases r with
        | ref e1 =>
        rw [q1] at e1; cases e1
        exact getMethod_builtin ⟨_, q2, rfl⟩ F.plainAttrs_list F.slot_list_append F.type_list_append (fun b hb => by cases hb; exact ⟨_, q2, rfl⟩) h
      · cases e
    · cases e
  · rename_i k
    split at e
    · rename_i hm
      rw [Bool.and_eq_true, decide_eq_true_eq] at hm
      rw [eq_of_beq hm.2]; cases e
      cases r with
      | pat e1 e2 z z' c q =>
      rw [q hm.1] at e1
      exact search_get e1 h
    · cases e
  · cases e

theorem VRs.strs {T Φ : Addr → Prop} {Ins : InsT} {h : Heap} : ∀ {vs : List Value} {ds : List D} {sep r : List Nat}, VRs T Φ Ins h adr vs ds → joinStr sep ds = some r →
    ∃ ys : List Str, StrsAre vs ys ∧ (∀ y : Str, y.cps.toList = sep → (Str.join y ys).cps.toList = r) ∧ (ys.map (·.length)).sum + (ys.length - 1) * sep.length = r.length ∧ (ascii sep = true → ascii r = true)
  | _, _, sep, r, .nil, e => by simp only [joinStr] at e; cases e; exact ⟨[], .nil, fun _ _ => rfl, by simp, fun _ => rfl⟩
  | _, _, sep, r, .cons x .nil, e => by
    cases x with
    | str y t _ e1 l1 c1 =>
      simp only [joinStr] at e; cases e
      exact ⟨[y], .cons y t .nil, fun _ _ => e1, by simp [← e1]; exact (Array.length_toList).symm, fun _ => c1⟩
    | _ => simp [joinStr] at e
  | _, _, sep, r, .cons x (.cons x' y), e => by
    cases x with
    | str z t _ e1 l1 c1 =>
      simp only [joinStr, Option.bind_eq_bind, Option.bind_eq_some_iff] at e
      obtain ⟨r', e, e'⟩ := e
      cases e'
      obtain ⟨ys, q1, q2, q3, q4⟩ := VRs.strs (.cons x' y) e
      cases q1 with
      | cons z' t' q1 =>
      rename_i zs
      refine ⟨z :: z' :: zs, .cons z t (.cons z' t' q1), fun w hw => ?_, ?_, fun hs => ?_⟩
      · show ((z.cps ++ w.cps) ++ (Str.join w (z' :: zs)).cps).toList = _
        rw [Array.toList_append, Array.toList_append, e1, hw, q2 w hw]
      · have hz : z.length = z.cps.toList.length := (Array.length_toList).symm
        rw [List.length_append, List.length_append, ← q3, ← e1, ← hz]
        simp only [List.map_cons, List.sum_cons, List.length_cons, Nat.add_sub_cancel]
        rw [Nat.add_mul]
        omega
      · have := q4 hs
        unfold ascii at *
        rw [List.all_append, List.all_append, c1, hs, this]; rfl
    | _ => simp [joinStr] at e

theorem append_ok {n : Nat} {us : List Value} {ds : List D} {d : D} {st' : Sto} (i : B.Inv s.heap) (S : SR B Φ s.heap adr st) (rs : VRs B.T Φ B.Ins s.heap adr us ds) (e : appendD st n ds = some (d, st')) :
    ∃ a x vs m, us = [x] ∧ adr[n]? = some (.live a) ∧ s.heap.get? a = some (listO vs m) ∧ vs.length ≤ 1048576 ∧ d = .none ∧
      ∀ h', h'.get? a = some (listO (vs ++ [x]) (m + 1)) → Heap.SameBut a s.heap h' → Post B Φ s adr { s with heap := h' } adr st' := by
  unfold appendD at e
  split at e
  · rename_i l hl
    split at e
    · split at e
      · rename_i hlen
        cases e
        cases rs with
        | cons r r' =>
        cases r'
        obtain ⟨a, vs, m, q1, q2, q3, q4⟩ := S.lst n l hl
        refine ⟨a, _, vs, m, rfl, q1, q2, by rw [q3.length]; exact q4, rfl, fun h' ho hs => ?_⟩
        obtain ⟨S', x, i'⟩ := S.put i hl q1 hs ho (q3.append (.cons r .nil)) (by rw [List.length_append, List.length_singleton]; exact hlen)
        exact ⟨i', S', x, rfl, rfl⟩
      · cases e
    · cases e
  · cases e

theorem methodB_ok {a d : D} {u : Value} {id : String} {us : List Value} {ds : List D} {st' : Sto} (i : B.Inv s.heap) (S : SR B Φ s.heap adr st) (r : VR B.T Φ B.Ins s.heap adr u a) (rs : VRs B.T Φ B.Ins s.heap adr us ds)
    (e : methodB st a id ds = some (d, st')) : Gives B Φ A (call (.builtin id) (u :: us)) s adr st' d := by
  unfold methodB at e
  split at e
  · rename_i l
    cases r with
    | str x t _ e1 l1 c1 =>
    have q1 : x.length = l.length := by rw [← e1]; exact (Array.length_toList).symm
    have hA : ∀ c ∈ x.cps.toList, c < 128 := fun c hc => by
      have := List.all_eq_true.mp c1 c (e1 ▸ hc)
      simpa using this
    split at e
    · rename_i hm
      rw [eq_of_beq hm]
      split at e
      · rename_i a
        simp only [Option.bind_eq_bind, Option.bind_eq_some_iff] at e
        obtain ⟨items, hi, jl, hj, r2, h2, e⟩ := e
        cases e
        unfold limS at h2
        split at h2
        · rename_i hlim
          cases h2
          cases rs with
          | cons r r' =>
          cases r'
          by_cases h4 : a.kind = 4
          · cases r with
            | @tup z vs n ds e2 z' r b =>
              simp only [Sto.items] at hi
              cases hi
              obtain ⟨ys, p1, p2, p3, p4⟩ := r.strs hj
              refine join_tuple (items := vs.toArray) ⟨_, e2, rfl, n, rfl⟩ (by simpa using p1) ?_ fun t' tk => ⟨adr, Post.toks i S tk, .str _ _ _ ?_ hlim (p4 c1)⟩
              · rw [q1]; unfold LIM at *
                cases ys with
                | nil => simp
                | cons y ys =>
                  simp only [List.length_cons, Nat.add_sub_cancel] at p3 ⊢
                  rw [Nat.add_mul]; omega
              · show (Txt.join x ys).cps.toList = _
                rw [eq_of_beq (join_plain_closes x ys)]; exact p2 x e1
            | _ => simp [D.kind] at h4
          · obtain ⟨z, vs, rfl, q2, q3, q4⟩ := list_at S r hi h4
            obtain ⟨ys, p1, p2, p3, p4⟩ := q3.strs hj
            refine join_list q2 (by simpa using p1) ?_ fun t' tk => ⟨adr, Post.toks i S tk, .str _ _ _ ?_ hlim (p4 c1)⟩
            · rw [q1]; unfold LIM at *
              cases ys with
              | nil => simp
              | cons y ys =>
                simp only [List.length_cons, Nat.add_sub_cancel] at p3 ⊢
                rw [Nat.add_mul]; omega
            · show (Txt.join x ys).cps.toList = _
              rw [eq_of_beq (join_plain_closes x ys)]; exact p2 x e1
        · cases h2
      · cases e
    · split at e
      · rename_i hm
        rw [eq_of_beq hm]
        split at e
        · cases e
          cases rs
          refine gives_tok i S (v := .str (Txt.upper x) s.toks) (.str _ _ _ ?_ (by rw [List.length_map]; exact l1) ?_) fun Q E h => SC.upper (fit_upper (by rw [q1]; unfold LIM at l1; omega)) h
          · rw [upper_ascii hA]; simp only [Array.toList_map, e1]; rfl
          · unfold ascii at *
            rw [List.all_eq_true] at *
            intro y hy
            obtain ⟨z, hz, rfl⟩ := List.mem_map.mp hy
            have := c1 z hz
            unfold upperC
            simp only [decide_eq_true_eq] at this ⊢
            split <;> omega
        · cases e
      · split at e
        · rename_i hm
          rw [eq_of_beq hm]
          split at e
          · cases e
            cases rs
            refine gives_tok i S (v := .str (Txt.lower x) s.toks) (.str _ _ _ ?_ (by rw [List.length_map]; exact l1) ?_) fun Q E h => SC.lower (fit_lower (by rw [q1]; unfold LIM at l1; omega)) h
            · rw [lower_ascii hA]; simp only [Array.toList_map, e1]; rfl
            · unfold ascii at *
              rw [List.all_eq_true] at *
              intro y hy
              obtain ⟨z, hz, rfl⟩ := List.mem_map.mp hy
              have := c1 z hz
              unfold lowerC
              simp only [decide_eq_true_eq] at this ⊢
              split <;> omega
          · cases e
        · cases e
  · rename_i n
    split at e
    · rename_i hm
      rw [eq_of_beq hm]
      obtain ⟨a, x, vs, m, rfl, q1, q2, q3, rfl, q4⟩ := append_ok i S rs e
      cases r with
      | ref e1 =>
      rw [q1] at e1; cases e1
      have hP : s.heap.PlainList a vs.toArray := ⟨m, q2⟩
      refine wpAny_call_entry slot_list_append ⟨_, q2, rfl⟩ entry_list_append ?_ (args_list_append _ _)
      show wpAny _ _ (updateSeq a (·.push x) >>= fun _ => ret .none) _ _ s
      refine wpAny_bind (wpAny_updateSeq q2 rfl (wpAny_pure ⟨.none, rfl, _, q4 _ ?_ (Heap.SameBut.update ..), .none⟩))
      unfold listO at q2 ⊢
      rw [Heap.get?_update_self _ q2 (by rw [Obj.mapSeq_push_plain]; rfl), Obj.mapSeq_push_plain]
      simp
    · cases e
  · rename_i k
    split at e
    · rename_i hm
      rw [Bool.and_eq_true, decide_eq_true_eq] at hm
      rw [eq_of_beq hm.2]
      split at e
      · split at e
        · rename_i l hp
          cases e
          cases r with
          | pat e1 e2 z z' c q =>
          rw [q hm.1] at e1
          cases rs with
          | cons r r' =>
          cases r'
          cases r with
          | str x t _ q1 l1 c1 =>
          refine search_call c ?_ (q1 ▸ ?_) e1 e2 ⟨adr, Post.refl i S, .none⟩
          · have : k = 0 ∨ k = 1 := by omega
            rcases this with rfl | rfl
            · exact set_of rfl
            · exact set_of rfl
          · have : k = 0 ∨ k = 1 := by omega
            rcases this with rfl | rfl
            · exact name_none hp
            · exact value_none hp
        · cases e
      · cases e
    · cases e
  · cases e

/-- the bound append is called -/
theorem app_ok {n : Nat} {u : Value} {us : List Value} {ds : List D} {d : D} {st' : Sto} (i : B.Inv s.heap) (S : SR B Φ s.heap adr st) (r : VR B.T Φ B.Ins s.heap adr u (.app n)) (rs : VRs B.T Φ B.Ins s.heap adr us ds)
    (e : appendD st n ds = some (d, st')) : Gives B Φ A (call u us) s adr st' d := by
  obtain ⟨a, x, vs, m, rfl, q1, q2, q3, rfl, q4⟩ := append_ok i S rs e
  cases r with
  | app hb z he =>
  rw [q1] at he; cases he
  exact ap_call hb q2 q3 fun h' ho hs => ⟨_, q4 h' ho hs, .none⟩
end
end Mine
/-! ## KN -/
set_option autoImplicit false
set_option maxRecDepth 100000
namespace Mine
open PySem PySem.W PyProof.Rows PySem.Calls

/-- a frame at work -/
structure OK (B : Base) (Φ : Addr → Prop) (env : Env) (sc : Scope) (v : Vars) (s : Shared) (adr : List Ent) (st : Sto) : Prop where
  inv : B.Inv s.heap
  sr : SR B Φ s.heap adr st
  fr : FR B Φ s.heap adr env sc v
  own : ∀ a, own env sc a → Φ a
  tk : 0 ≤ s.toks

/-- what a function does -/
def FnOk (B : Base) (K : Nat) (F : Fn) (fv : Value) : Prop :=
  ∀ (Φ : Addr → Prop) (A : Around) (s : Shared) (adr : List Ent) (st : Sto) (us : List Value) (kus : List (Str × Value)) (ds : List D) (ks : List (Str × D)) (d : D) (st' : Sto),
    F ds ks st = some (d, st') → Room A K → 0 ≤ s.toks → B.Inv s.heap → SR B Φ s.heap adr st → VRs B.T Φ B.Ins s.heap adr us ds → VRf B.T Φ B.Ins s.heap adr kus ks → Gives B Φ A (call fv us kus) s adr st' d

/-- who is called keeps his frame's or the machine's measure -/
def IsFn (B : Base) (fa : Addr) : Prop := ∀ (M : Model) (A : Around) (s : Shared), B.Inv s.heap → KeepOk M A (.ref fa) s
theorem IsFn.of_func {B : Base} {fa : Addr} (h : ∀ h, B.Inv h → ∃ o fd, h.get? fa = some o ∧ o.data = .func fd) : IsFn B fa := fun M A s i => by
  obtain ⟨o, fd, ho, hd⟩ := h _ i
  exact keep_func ho hd
def builtinNames : List Str := ["len", "range", "sum", "object", "enumerate", "type", "str", "isinstance"]

structure GamOk (B : Base) (Γ : Gam) (K : Nat) : Prop where
  fn : ∀ f F, Γ.fn f = some F → ∃ fa, B.mg f = some (.ref fa) ∧ IsFn B fa ∧ FnOk B K F (.ref fa)
  con : ∀ x d, Γ.con x = some d → ∃ v, B.mg x = some v ∧ ∀ Φ h adr st, B.Inv h → SR B Φ h adr st → VR B.T Φ B.Ins h adr v d
  bl : ∀ f, f ∈ builtinNames → Γ.fn f = none → B.mg f = none
  meth : ∀ c m F, Γ.meth c m = some F → ∃ fa, IsFn B fa ∧ FnOk B K F (.ref fa) ∧
    ∀ (A : Around) (s : Shared) (adr : List Ent) (Φ : Addr → Prop) (u : Value) (fs : List (Str × D)) (pl : Sem Bool) (Q : Value × List Value → Shared → Prop) (E : Value → Shared → Prop),
      B.Inv s.heap → VR B.T Φ B.Ins s.heap adr u (.inst c fs) → (∀ tk, Q (.ref fa, [u]) { s with toks := tk }) → wpAny (model B.prog B.w) A (getMethod u m pl) Q E s
  bi : ∀ f F, Γ.bi f = some F → B.mg f = none ∧ f ≠ ("__name__" : Str) ∧ ∃ fv, bootBuiltins f = some fv ∧ (∀ M A s, KeepOk M A fv s) ∧ FnOk B K F fv
  bm : ∀ m g F, Γ.bm m = some (g, F) → ∀ (s : Shared) (adr : List Ent) (st : Sto) (Φ : Addr → Prop) (u : Value) (a : D), SR B Φ s.heap adr st → VR B.T Φ B.Ins s.heap adr u a → g st a = true →
    ∃ id, (∀ (M : Model) (A : Around) (pl : Sem Bool) (Q : Value × List Value → Shared → Prop) (E : Value → Shared → Prop), Q (.builtin id, [u]) s → wpAny M A (getMethod u m pl) Q E s) ∧ FnOk B K F (.builtin id)
  attr : ∀ (A : Around) (s : Shared) (adr : List Ent) (Φ : Addr → Prop) (u : Value) (c m : Str) (fs : List (Str × D)) (d : D), B.Inv s.heap → VR B.T Φ B.Ins s.heap adr u (.inst c fs) → fs.lookup m = some d →
    ∃ x, VR B.T Φ B.Ins s.heap adr x d ∧ ∀ (Q : Value → Shared → Prop) (E : Value → Shared → Prop), (∀ tk, Q x { s with toks := tk }) → wpAny (model B.prog B.w) A (getAttr u m true) Q E s

def EvalOk (B : Base) (Γ : Gam) (K n : Nat) : Prop :=
  ∀ Φ A env sc v e s adr st d st', evalE n Γ sc v e st = some (d, st') → Room A (K + n) → OK B Φ env sc v s adr st → Gives B Φ A (eval e env) s adr st' d
/-- a test's verdict -/
def Says (B : Base) (Φ : Addr → Prop) (A : Around) (t : Sem Bool) (s : Shared) (adr : List Ent) (st' : Sto) (b : Bool) : Prop :=
  wpAny (model B.prog B.w) A t (fun r s' => ∃ adr', Post B Φ s adr s' adr' st' ∧ r = b) NoE s
def TestOk (B : Base) (Γ : Gam) (K n : Nat) : Prop :=
  ∀ Φ A env sc v e s adr st b st', testE n Γ sc v e st = some (b, st') → Room A (K + n) → OK B Φ env sc v s adr st → Says B Φ A (isTrue e env (eval e env)) s adr st' b

section
variable {B : Base} {Γ : Gam} {K n : Nat} {Φ : Addr → Prop} {A : Around} {env : Env} {sc : Scope} {v : Vars} {s s₁ : Shared} {adr adr₁ : List Ent} {st st₁ st' : Sto} {d : D} {b : Bool}

theorem OK.next (O : OK B Φ env sc v s adr st) (P : Post B Φ s adr s₁ adr₁ st₁) (t : 0 ≤ s₁.toks) : OK B Φ env sc v s₁ adr₁ st₁ := ⟨P.inv, P.sr, O.fr.ex P.ex, O.own, t⟩

theorem Gives.next {t : Sem Value} (G : Gives B Φ A t s adr st₁ d) (O : OK B Φ env sc v s adr st) {Q : Value → Shared → Prop} {E : Value → Shared → Prop}
    (h : ∀ u s₁ adr₁, OK B Φ env sc v s₁ adr₁ st₁ → Post B Φ s adr s₁ adr₁ st₁ → VR B.T Φ B.Ins s₁.heap adr₁ u d → Q u s₁) : wpAny (model B.prog B.w) A t Q E s :=
  wpAny_mono (wpAny_toks_of O.tk G) (fun u s₁ ⟨tk, adr₁, P, r⟩ => h u s₁ adr₁ (O.next P tk) P r) fun _ _ e => e.2.elim
theorem Gives.last {t : Sem Value} (G : Gives B Φ A t s₁ adr₁ st' d) (P : Post B Φ s adr s₁ adr₁ st₁) :
    wpAny (model B.prog B.w) A t (fun u s' => ∃ adr', Post B Φ s adr s' adr' st' ∧ VR B.T Φ B.Ins s'.heap adr' u d) NoE s₁ :=
  wpAny_mono G (fun _ _ ⟨adr₂, P', r⟩ => ⟨adr₂, P.trans P', r⟩) fun _ _ e => e
theorem Says.next {t : Sem Bool} (G : Says B Φ A t s adr st₁ b) (O : OK B Φ env sc v s adr st) {Q : Bool → Shared → Prop} {E : Value → Shared → Prop}
    (h : ∀ s₁ adr₁, OK B Φ env sc v s₁ adr₁ st₁ → Post B Φ s adr s₁ adr₁ st₁ → Q b s₁) : wpAny (model B.prog B.w) A t Q E s :=
  wpAny_mono (wpAny_toks_of O.tk G) (fun u s₁ ⟨tk, adr₁, P, r⟩ => r ▸ h s₁ adr₁ (O.next P tk) P) fun _ _ e => e.2.elim
theorem Says.last {t : Sem Bool} (G : Says B Φ A t s₁ adr₁ st' b) (P : Post B Φ s adr s₁ adr₁ st₁) :
    wpAny (model B.prog B.w) A t (fun r s' => ∃ adr', Post B Φ s adr s' adr' st' ∧ r = b) NoE s₁ :=
  wpAny_mono G (fun _ _ ⟨adr₂, P', r⟩ => ⟨adr₂, P.trans P', r⟩) fun _ _ e => e

theorem plain_of {x : Str} (h : plainName x = true) : (x == ("__debug__" : Str)) = false ∧ (x == ("__classdict__" : Str)) = false := by
  unfold plainName at h
  simpa using h

theorem const_ok {c : Const} {k : Nat} {pos : Pos} {m : Nat} (e : evalE (m + 1) Γ sc v (.Constant c k pos) st = some (d, st')) (O : OK B Φ env sc v s adr st) : Gives B Φ A (eval (.Constant c k pos) env) s adr st' d := by
  unfold evalE at e
  cases c with
  | none => cases e; exact gives_now O.inv O.sr .none fun Q E h => Constant_none h
  | bool b => cases e; exact gives_now O.inv O.sr (.bool b) fun Q E h => Constant_bool h
  | int i => cases e; exact gives_tok O.inv O.sr (.int i _) fun Q E h => wpAny_Constant_int h
  | str x =>
    simp only at e
    split at e
    · rename_i hc
      cases e
      simp only [Bool.and_eq_true, decide_eq_true_eq] at hc
      exact gives_tok O.inv O.sr (.str x _ _ rfl hc.2 hc.1) fun Q E h => Calls.Constant_str h
    · cases e
  | _ => simp at e

theorem name_ok (G : GamOk B Γ K) {x : Str} {pos : Pos} {m : Nat} (e : evalE (m + 1) Γ sc v (.Name x pos) st = some (d, st')) (O : OK B Φ env sc v s adr st) : Gives B Φ A (eval (.Name x pos) env) s adr st' d := by
  unfold evalE at e
  simp only at e
  have loc : (kindOf sc x = some .local ∨ kindOf sc x = some .cell ∨ kindOf sc x = some .free) → (if plainName x then (do some (← v.lookup x, st)) else none) = some (d, st') → Gives B Φ A (eval (.Name x pos) env) s adr st' d := fun hk e => by
    split at e
    · rename_i hp
      simp only [Option.bind_eq_bind, Option.bind_eq_some_iff] at e
      obtain ⟨d', hl, e⟩ := e
      cases e
      obtain ⟨u, r, h⟩ := load_ok (M := model B.prog B.w) (A := A) (pos := pos) O.fr hk hl (plain_of hp).1 (plain_of hp).2
      exact gives_now O.inv O.sr r h
    · cases e
  split at e
  · rename_i hk; exact loc (.inl hk) e
  · rename_i hk; exact loc (.inr (.inl hk)) e
  · rename_i hk; exact loc (.inr (.inr hk)) e
  · rename_i hk
    split at e
    · rename_i hp
      simp only [Option.bind_eq_bind, Option.bind_eq_some_iff] at e
      obtain ⟨d', hl, e⟩ := e
      cases e
      obtain ⟨u, hu, r⟩ := G.con x d hl
      refine gives_now O.inv O.sr (r Φ _ _ _ O.inv O.sr) fun Q E h => Name_function_global O.fr.kind (O.fr.gl x hk) (loadGlobal_global (mg := B.mg) (O.fr.glob ▸ B.g _ O.inv) hu h) (plain_of hp).1
    · cases e
  · cases e

theorem binop_arm (H : EvalOk B Γ K n) {l r : Expr} {op : Operator} {pos : Pos} (e : evalE (n + 1) Γ sc v (.BinOp l op r pos) st = some (d, st')) (R : Room A (K + (n + 1))) (O : OK B Φ env sc v s adr st) : Gives B Φ A (eval (.BinOp l op r pos) env) s adr st' d := by
  unfold evalE at e
  simp only [Option.bind_eq_bind, Option.bind_eq_some_iff] at e
  obtain ⟨⟨a, st₁⟩, h1, ⟨b, st₂⟩, h2, d', h3, e⟩ := e
  cases e
  have R' : Room A (K + n) := R.le (by omega)
  refine wpAny_BinOp ((H _ _ _ _ _ _ _ _ _ _ _ h1 R' O).next O fun u s₁ adr₁ O₁ P₁ r₁ => ?_)
  refine (H _ _ _ _ _ _ _ _ _ _ _ h2 R' O₁).next O₁ fun w s₂ adr₂ O₂ P₂ r₂ => ?_
  exact (binop_ok O₂.inv O₂.sr (r₁.ex P₂.ex) r₂ h3).last (P₁.trans P₂)

theorem unop_arm (H : EvalOk B Γ K n) {x : Expr} {op : UnaryOp} {pos : Pos} (e : evalE (n + 1) Γ sc v (.UnaryOp op x pos) st = some (d, st')) (R : Room A (K + (n + 1))) (O : OK B Φ env sc v s adr st) : Gives B Φ A (eval (.UnaryOp op x pos) env) s adr st' d := by
  unfold evalE at e
  simp only [Option.bind_eq_bind, Option.bind_eq_some_iff] at e
  obtain ⟨⟨a, st₁⟩, h1, e⟩ := e
  have R' : Room A (K + n) := R.le (by omega)
  refine UnaryOp_ ((H _ _ _ _ _ _ _ _ _ _ _ h1 R' O).next O fun u s₁ adr₁ O₁ P₁ r₁ => ?_)
  simp only at e
  split at e
  · cases e
    cases r₁ with
    | int i t => exact (gives_tok (st := st') O₁.inv O₁.sr (.int _ _) fun Q E h => neg_int h).last P₁
  · cases e
    cases r₁ with
    | int i t => exact (gives_tok (st := st') O₁.inv O₁.sr (.int _ _) fun Q E h => invert_int h).last P₁
  · simp only [Option.bind_eq_some_iff] at e
    obtain ⟨c, hc, e⟩ := e
    cases e
    exact not_of (truthy_ok O₁.sr r₁ hc _ _ fun tk => ⟨adr₁, P₁.trans (Post.toks O₁.inv O₁.sr tk), .bool _⟩)
  · cases e

theorem cmp_arm (H : EvalOk B Γ K n) {l r : Expr} {op : CmpOp} {pos : Pos} (e : evalE (n + 1) Γ sc v (.Compare l [op] [r] pos) st = some (d, st')) (R : Room A (K + (n + 1))) (O : OK B Φ env sc v s adr st) :
    Gives B Φ A (eval (.Compare l [op] [r] pos) env) s adr st' d ∧ ∃ b, d = .bool b ∧ Says B Φ A (isTrue (.Compare l [op] [r] pos) env (eval (.Compare l [op] [r] pos) env)) s adr st' b := by
  unfold evalE at e
  simp only [Option.bind_eq_bind, Option.bind_eq_some_iff] at e
  obtain ⟨⟨a, st₁⟩, h1, ⟨b, st₂⟩, h2, d', h3, e⟩ := e
  cases e
  have R' : Room A (K + n) := R.le (by omega)
  have hm : behindInMarks op r = false := by
    unfold behindInMarks
    split
    · cases n <;> simp [evalE] at h2
    · rfl
  refine ⟨?_, _, rfl, ?_⟩
  · refine wpAny_Compare1 ((H _ _ _ _ _ _ _ _ _ _ _ h1 R' O).next O fun u s₁ adr₁ O₁ P₁ r₁ => ?_) hm
    refine (H _ _ _ _ _ _ _ _ _ _ _ h2 R' O₁).next O₁ fun w s₂ adr₂ O₂ P₂ r₂ => ?_
    exact (gives_now O₂.inv O₂.sr (.bool _) (cmp_ok R O₂.inv O₂.sr (r₁.ex P₂.ex) r₂ h3)).last (P₁.trans P₂)
  · refine wpAny_isTrue_Compare1 ((H _ _ _ _ _ _ _ _ _ _ _ h1 R' O).next O fun u s₁ adr₁ O₁ P₁ r₁ => ?_) hm
    refine (H _ _ _ _ _ _ _ _ _ _ _ h2 R' O₁).next O₁ fun w s₂ adr₂ O₂ P₂ r₂ => ?_
    exact cmp_ok R O₂.inv O₂.sr (r₁.ex P₂.ex) r₂ h3 _ _ (wpAny_truthy_bool ⟨adr₂, P₁.trans P₂, rfl⟩)

theorem ifexp_arm (H : EvalOk B Γ K n) (HT : TestOk B Γ K n) {t x y : Expr} {pos : Pos} (e : evalE (n + 1) Γ sc v (.IfExp t x y pos) st = some (d, st')) (R : Room A (K + (n + 1))) (O : OK B Φ env sc v s adr st) : Gives B Φ A (eval (.IfExp t x y pos) env) s adr st' d := by
  unfold evalE at e
  simp only [Option.bind_eq_bind, Option.bind_eq_some_iff] at e
  obtain ⟨⟨c, st₁⟩, h1, e⟩ := e
  have R' : Room A (K + n) := R.le (by omega)
  refine IfExp_ ((HT _ _ _ _ _ _ _ _ _ _ _ h1 R' O).next O fun s₁ adr₁ O₁ P₁ => ?_)
  cases c with
  | true => exact (H _ _ _ _ _ _ _ _ _ _ _ e R' O₁).last P₁
  | false => exact (H _ _ _ _ _ _ _ _ _ _ _ e R' O₁).last P₁
end
end Mine
/-! ## KO -/
set_option autoImplicit false
set_option maxRecDepth 100000
namespace Mine
open PySem PySem.W PyProof.Rows PySem.Calls

def GivesL (B : Base) (Φ : Addr → Prop) (A : Around) (t : Sem (List Value)) (s : Shared) (adr : List Ent) (st' : Sto) (ds : List D) : Prop :=
  wpAny (model B.prog B.w) A t (fun us s' => ∃ adr', Post B Φ s adr s' adr' st' ∧ VRs B.T Φ B.Ins s'.heap adr' us ds) NoE s

section
variable {B : Base} {Γ : Gam} {K n : Nat} {Φ : Addr → Prop} {A : Around} {env : Env} {sc : Scope} {v : Vars} {s s₁ : Shared} {adr adr₁ : List Ent} {st st₁ st' : Sto} {d : D} {ds : List D} {b : Bool}

theorem GivesL.next {t : Sem (List Value)} (G : GivesL B Φ A t s adr st₁ ds) (O : OK B Φ env sc v s adr st) {Q : List Value → Shared → Prop} {E : Value → Shared → Prop}
    (h : ∀ u s₁ adr₁, OK B Φ env sc v s₁ adr₁ st₁ → Post B Φ s adr s₁ adr₁ st₁ → VRs B.T Φ B.Ins s₁.heap adr₁ u ds → Q u s₁) : wpAny (model B.prog B.w) A t Q E s :=
  wpAny_mono (wpAny_toks_of O.tk G) (fun u s₁ ⟨tk, adr₁, P, r⟩ => h u s₁ adr₁ (O.next P tk) P r) fun _ _ e => e.2.elim

theorem evalE_star {m : Nat} {x : Expr} {p : Pos} : evalE m Γ sc v (.Starred x p) st = none := by cases m <;> rfl

theorem starEach_plain {e : Expr} {rest : List Expr} {r : D × Sto} (h : evalE n Γ sc v e st = some r) : starEach (e :: rest) env = (false, eval e env) :: starEach rest env := by
  cases e <;> first | rfl | (rw [evalE_star] at h; cases h)

theorem mapE_ok (H : EvalOk B Γ K n) {pos : Pos} (R : Room A (K + n)) : ∀ {es : List Expr} {s : Shared} {adr : List Ent} {st st' : Sto} {ds : List D}, mapE (evalE n Γ sc v) es st = some (ds, st') → OK B Φ env sc v s adr st →
    GivesL B Φ A (spliced (backTo pos (starEach es env))) s adr st' ds ∧ (starEach es env).any (·.1) = false
  | [], s, adr, st, st', ds, e, O => by
    simp only [mapE] at e
    cases e
    exact ⟨spliced_nil ⟨adr, Post.refl O.inv O.sr, .nil⟩, rfl⟩
  | x :: es, s, adr, st, st', ds, e, O => by
    simp only [mapE, Option.bind_eq_bind, Option.bind_eq_some_iff] at e
    obtain ⟨⟨d, st₁⟩, h1, ⟨ds', st₂⟩, h2, e⟩ := e
    cases e
    have hs := starEach_plain (env := env) (rest := es) h1
    refine ⟨?_, ?_⟩
    · rw [hs]
      refine spliced_cons (x := eval x env) ((H _ _ _ _ _ _ _ _ _ _ _ h1 R O).next O fun u s₁ adr₁ O₁ P₁ r₁ => ?_)
      refine (mapE_ok H (pos := pos) R h2 O₁).1.next O₁ fun us s₂ adr₂ O₂ P₂ r₂ => ?_
      exact ⟨adr₂, P₁.trans P₂, .cons (r₁.ex P₂.ex) r₂⟩
    · rw [hs, List.any_cons, Bool.false_or]
      -- the rest is plain whatever the state
      have : ∀ {es : List Expr} {st st' : Sto} {ds : List D}, mapE (evalE n Γ sc v) es st = some (ds, st') → (starEach es env).any (·.1) = false := by
        intro es
        induction es with
        | nil => intros; rfl
        | cons y es ih =>
          intro st st' ds e
          simp only [mapE, Option.bind_eq_bind, Option.bind_eq_some_iff] at e
          obtain ⟨⟨d, st₁⟩, h1, ⟨ds', st₂⟩, h2, e⟩ := e
          rw [starEach_plain (env := env) (rest := es) h1, List.any_cons, Bool.false_or]
          exact ih h2
      exact this h2

theorem list_arm (H : EvalOk B Γ K n) {es : List Expr} {pos : Pos} (e : evalE (n + 1) Γ sc v (.List es pos) st = some (d, st')) (R : Room A (K + (n + 1))) (O : OK B Φ env sc v s adr st) : Gives B Φ A (eval (.List es pos) env) s adr st' d := by
  unfold evalE at e
  simp only [Option.bind_eq_bind, Option.bind_eq_some_iff] at e
  obtain ⟨⟨ds, st₁⟩, h1, e⟩ := e
  simp only at e
  split at e
  · rename_i hl
    cases e
    have R' : Room A (K + n) := R.le (by omega)
    unfold Gives
    rw [arm_eval_List]
    refine wpAny_bind (wpAny_standAt (wpAny_bind ((mapE_ok H R' h1 O).1.next O fun us s₁ adr₁ O₁ P₁ r₁ => ?_)))
    refine (gives_push (o := listO us 0) (tk := s₁.toks) O₁.inv O₁.sr (vr_push_lst O₁.inv O₁.sr r₁ hl) fun Q E h => wpAny_newObj_type h ?_).last P₁
    show us.toArray.size ≤ sizeLine
    rw [List.size_toArray, r₁.length, sizeLine_eq]; unfold LIM at hl; omega
  · cases e

theorem tuple_arm (H : EvalOk B Γ K n) {es : List Expr} {k : Nat} {pos : Pos} (e : evalE (n + 1) Γ sc v (.Tuple es k pos) st = some (d, st')) (R : Room A (K + (n + 1))) (O : OK B Φ env sc v s adr st) : Gives B Φ A (eval (.Tuple es k pos) env) s adr st' d := by
  unfold evalE at e
  simp only [Option.bind_eq_bind, Option.bind_eq_some_iff] at e
  obtain ⟨⟨ds, st₁⟩, h1, e⟩ := e
  simp only at e
  split at e
  · rename_i hl
    cases e
    have R' : Room A (K + n) := R.le (by omega)
    unfold Gives
    rw [arm_eval_Tuple]
    refine wpAny_bind (wpAny_standAt (wpAny_bind ((mapE_ok H R' h1 O).1.next O fun us s₁ adr₁ O₁ P₁ r₁ => ?_)))
    refine (gives_push (o := tupO us 0) (tk := s₁.toks) O₁.inv O₁.sr (vr_push_tup O₁.inv O₁.sr r₁ hl) fun Q E h => wpAny_newObj_type h ?_).last P₁
    show us.toArray.size ≤ sizeLine
    rw [List.size_toArray, r₁.length, sizeLine_eq]; unfold LIM at hl; omega
  · cases e

theorem evalEach_cons {x : Expr} {r : List Expr} : evalEach (x :: r) env = eval x env :: evalEach r env := rfl

theorem truthy_says {a : D} {u : Value} {r : Bool} (O : OK B Φ env sc v s adr st) (ru : VR B.T Φ B.Ins s.heap adr u a) (e : st.truthy a = some r) : Says B Φ A (truthy u) s adr st r :=
  truthy_ok O.sr ru e _ _ fun tk => ⟨adr, Post.toks O.inv O.sr tk, rfl⟩

theorem and_arm (H : EvalOk B Γ K n) {pos : Pos} (R : Room A (K + n)) : ∀ {es : List Expr} {s : Shared} {adr : List Ent} {st st' : Sto} {d : D}, andV (evalE n Γ sc v) es st = some (d, st') → OK B Φ env sc v s adr st →
    Gives B Φ A (eval (.BoolOp .And es pos) env) s adr st' d
  | [], s, adr, st, st', d, e, O => by simp [andV] at e
  | [x], s, adr, st, st', d, e, O => by
    simp only [andV] at e
    exact BoolOp_one (H _ _ _ _ _ _ _ _ _ _ _ e R O)
  | x :: y :: es, s, adr, st, st', d, e, O => by
    simp only [andV, Option.bind_eq_bind, Option.bind_eq_some_iff] at e
    obtain ⟨⟨d₁, st₁⟩, h1, c, h2, e⟩ := e
    refine BoolOp_and ((H _ _ _ _ _ _ _ _ _ _ _ h1 R O).next O fun u s₁ adr₁ O₁ P₁ r₁ => ?_)
    refine (truthy_says O₁ r₁ h2).next O₁ fun s₂ adr₂ O₂ P₂ => ?_
    cases c with
    | true => exact (and_arm H R e O₂).last (P₁.trans P₂)
    | false =>
      simp only [Bool.false_eq_true, if_false] at e ⊢
      cases e
      exact ⟨adr₂, P₁.trans P₂, r₁.ex P₂.ex⟩

theorem or_arm (H : EvalOk B Γ K n) {pos : Pos} (R : Room A (K + n)) : ∀ {es : List Expr} {s : Shared} {adr : List Ent} {st st' : Sto} {d : D}, orV (evalE n Γ sc v) es st = some (d, st') → OK B Φ env sc v s adr st →
    Gives B Φ A (eval (.BoolOp .Or es pos) env) s adr st' d
  | [], s, adr, st, st', d, e, O => by simp [orV] at e
  | [x], s, adr, st, st', d, e, O => by
    simp only [orV] at e
    exact BoolOp_one (H _ _ _ _ _ _ _ _ _ _ _ e R O)
  | x :: y :: es, s, adr, st, st', d, e, O => by
    simp only [orV, Option.bind_eq_bind, Option.bind_eq_some_iff] at e
    obtain ⟨⟨d₁, st₁⟩, h1, c, h2, e⟩ := e
    refine BoolOp_or ((H _ _ _ _ _ _ _ _ _ _ _ h1 R O).next O fun u s₁ adr₁ O₁ P₁ r₁ => ?_)
    refine (truthy_says O₁ r₁ h2).next O₁ fun s₂ adr₂ O₂ P₂ => ?_
    cases c with
    | true =>
      simp only [if_true] at e ⊢
      cases e
      exact ⟨adr₂, P₁.trans P₂, r₁.ex P₂.ex⟩
    | false => exact (or_arm H R e O₂).last (P₁.trans P₂)

theorem attr_arm (G : GamOk B Γ K) (H : EvalOk B Γ K n) {o : Expr} {m : Str} {pos : Pos} (e : evalE (n + 1) Γ sc v (.Attribute o m pos) st = some (d, st')) (R : Room A (K + (n + 1))) (O : OK B Φ env sc v s adr st) :
    Gives B Φ A (eval (.Attribute o m pos) env) s adr st' d := by
  unfold evalE at e
  simp only at e
  split at e
  · cases e
  · rename_i hn
    simp only [Option.bind_eq_bind, Option.bind_eq_some_iff] at e
    obtain ⟨⟨a, st₁⟩, h1, e⟩ := e
    have R' : Room A (K + n) := R.le (by omega)
    have hbase : attributeBase o m env (eval o env) = eval o env := by
      unfold attributeBase
      split
      · rename_i x _ _
        simp only [notSuper, Bool.not_eq_true', Bool.not_eq_false'] at hn
        have : (x != ("super" : Str)) = true := by rw [bne]; simpa using hn
        rw [this]; rfl
      · rfl
    unfold Gives
    rw [arm_eval_Attribute, hbase]
    refine wpAny_bind ((H _ _ _ _ _ _ _ _ _ _ _ h1 R' O).next O fun u s₁ adr₁ O₁ P₁ r₁ => ?_)
    refine wpAny_bind (wpAny_standAt ?_)
    have fin : ∀ {d : D} {x : Value} {s₂ : Shared}, Post B Φ s₁ adr₁ s₂ adr₁ st' → VR B.T Φ B.Ins s₂.heap adr₁ x d →
        wpAny (model B.prog B.w) A (do letTemporaryGo o u x; pure x) (fun u s' => ∃ adr', Post B Φ s adr s' adr' st' ∧ VR B.T Φ B.Ins s'.heap adr' u d) NoE s₂ := fun P r => wpAny_bind (wpAny_letTemporaryGo (wpAny_pure ⟨adr₁, P₁.trans P, r⟩))
    simp only at e
    split at e
    · simp only [Option.bind_eq_some_iff] at e
      obtain ⟨d', hl, e⟩ := e
      cases e
      obtain ⟨x, rx, hx⟩ := G.attr A s₁ adr₁ Φ u _ m _ d O₁.inv r₁ hl
      exact wpAny_bind (wpAny_holding (hx _ _ fun tk => fin (Post.toks O₁.inv O₁.sr tk) rx))
    · rename_i k
      split at e
      · rename_i l hl
        split at e
        · rename_i hm
          cases e
          rw [eq_of_beq hm]
          obtain ⟨a, vs, j, q1, q2, q3, q4⟩ := O₁.sr.lst k l hl
          cases r₁ with
          | ref e1 =>
          rw [q1] at e1; cases e1
          refine wpAny_bind (wpAny_holding (ap_attr q2 fun tk => ?_))
          have k1 := keep_push (h := s₁.heap) (appO a)
          exact fin (Post.keep O₁.inv O₁.sr k1 tk) (.app (e := .live a) (Heap.get?_push_size _ rfl) (new_fz O₁.inv O₁.sr (size_none _)) q1)
        · cases e
      · cases e
    · cases e
end
end Mine
/-! ## KP -/
set_option autoImplicit false
set_option maxRecDepth 100000
namespace Mine
open PySem PySem.W PyProof.Rows PySem.Calls

section
variable {B : Base} {Γ : Gam} {K n : Nat} {Φ : Addr → Prop} {A : Around} {env : Env} {sc : Scope} {v : Vars} {s s₁ : Shared} {adr adr₁ : List Ent} {st st₁ st' : Sto} {d : D} {ds : List D} {b : Bool}

theorem tail_ok {prog : Program} {w : World} {value slice : Expr} {o i : Value} {T id : String} {Q : Value → Shared → Prop} {E : Value → Shared → Prop} (hT : s.TypeIs o T)
    (hl : typeLookup (.type T) "__getitem__" = pure (some (.builtin id))) (h : wpAny (model prog w) A (getItem o i) Q E s)
    (hs : ∃ vs, subscripted slice false o i = operate vs (getItem o i)) : wpAny (model prog w) A (subscriptTail value slice o i) Q E s := by
  unfold subscriptTail
  refine wpAny_bind ?_
  rw [getitemInPython_of_ne hT.not_modules]
  refine wpAny_bind (wpAny_specialOf hT hl ?_)
  have fin : wpAny (model prog w) A (subscripted slice false o i) (fun r s₃ => wpAny (model prog w) A (letTemporaryGo value o r >>= fun _ => pure r) Q E s₃) E s := by
    obtain ⟨vs, hs⟩ := hs
    rw [hs]
    exact wpAny_operating (wpAny_mono h (fun r s₃ h₃ => wpAny_bind (wpAny_letTemporaryGo (wpAny_pure h₃))) fun _ _ x => x)
  first
    | exact wpAny_pure (wpAny_bind fin)
    | exact wpAny_bind (wpAny_pure (wpAny_bind fin))
    | exact wpAny_bind fin

theorem part_ok (H : EvalOk B Γ K n) {x : Option Expr} (R : Room A (K + n)) (e : (match x with | some e => evalE n Γ sc v e st | none => some (D.none, st)) = some (d, st')) (O : OK B Φ env sc v s adr st) : Gives B Φ A (evalPart x env) s adr st' d := by
  cases x with
  | none => simp only at e; cases e; exact gives_now O.inv O.sr .none fun Q E h => wpAny_pure h
  | some y => exact H _ _ _ _ _ _ _ _ _ _ _ e R O

theorem slice_arm (H : EvalOk B Γ K n) {o : Expr} {lo hi : Option Expr} {p pos : Pos} {a l h' : D} {st₂ st₃ : Sto} (R : Room A (K + n)) (O : OK B Φ env sc v s adr st)
    (h1 : evalE n Γ sc v o st = some (a, st₁)) (h2 : (match lo with | some e => evalE n Γ sc v e st₁ | none => some (D.none, st₁)) = some (l, st₂))
    (h3 : (match hi with | some e => evalE n Γ sc v e st₂ | none => some (D.none, st₂)) = some (h', st₃)) (h4 : slice st₃ a l h' = some d) :
    Gives B Φ A (eval (.Subscript o (.Slice lo hi none p) pos) env) s adr st₃ d := by
  refine Subscript_ ((H _ _ _ _ _ _ _ _ _ _ _ h1 R O).next O fun u s₁ adr₁ O₁ P₁ r₁ => ?_)
  refine wpAny_Slice ((part_ok H R h2 O₁).next O₁ fun ul s₂ adr₂ O₂ P₂ r₂ => ?_)
  refine (part_ok H R h3 O₂).next O₂ fun uh s₃ adr₃ O₃ P₃ r₃ => wpAny_pure ?_
  obtain ⟨g, T, id, hT, hl⟩ := slice_ok (A := A) O₃.inv O₃.sr ((r₁.ex P₂.ex).ex P₃.ex) (r₂.ex P₃.ex) r₃ h4
  refine tail_ok (hT _ (keep_push _)) hl (wpAny_mono g (fun x s' ⟨adr', P', r'⟩ => ⟨adr', ?_, r'⟩) fun _ _ e => e) ⟨_, rfl⟩
  exact ((P₁.trans P₂).trans P₃).trans ((Post.keep O₃.inv O₃.sr (keep_push _) s₃.toks).trans P')

theorem item_arm (H : EvalOk B Γ K n) {o i : Expr} {pos : Pos} {a b : D} {st₂ : Sto} (R : Room A (K + n)) (O : OK B Φ env sc v s adr st)
    (h1 : evalE n Γ sc v o st = some (a, st₁)) (h2 : evalE n Γ sc v i st₁ = some (b, st₂)) (h3 : item st₂ a b = some d) :
    Gives B Φ A (eval (.Subscript o i pos) env) s adr st₂ d := by
  refine Subscript_ ((H _ _ _ _ _ _ _ _ _ _ _ h1 R O).next O fun u s₁ adr₁ O₁ P₁ r₁ => ?_)
  refine (H _ _ _ _ _ _ _ _ _ _ _ h2 R O₁).next O₁ fun w s₂ adr₂ O₂ P₂ r₂ => ?_
  obtain ⟨g, T, id, hT, hl⟩ := item_ok (A := A) O₂.inv O₂.sr (r₁.ex P₂.ex) r₂ h3
  refine tail_ok hT hl (g.last (P₁.trans P₂)) ?_
  cases n with
  | zero => simp [evalE] at h2
  | succ n => cases i <;> first | exact ⟨_, rfl⟩ | (simp [evalE] at h2)

theorem subscript_arm (H : EvalOk B Γ K n) {o i : Expr} {pos : Pos} (e : evalE (n + 1) Γ sc v (.Subscript o i pos) st = some (d, st')) (R : Room A (K + (n + 1))) (O : OK B Φ env sc v s adr st) :
    Gives B Φ A (eval (.Subscript o i pos) env) s adr st' d := by
  have R' : Room A (K + n) := R.le (by omega)
  have plainCase : (do
      let (a, st) ← evalE n Γ sc v o st
      let (b, st) ← evalE n Γ sc v i st
      some (← item st a b, st)) = some (d, st') → Gives B Φ A (eval (.Subscript o i pos) env) s adr st' d := fun e => by
    simp only [Option.bind_eq_bind, Option.bind_eq_some_iff] at e
    obtain ⟨⟨a, st₁⟩, h1, ⟨b, st₂⟩, h2, d', h3, e⟩ := e
    cases e
    exact item_arm H R' O h1 h2 h3
  cases i with
  | Slice lo hi step p =>
    cases step with
    | none =>
      unfold evalE at e
      simp only [Option.bind_eq_bind, Option.bind_eq_some_iff] at e
      obtain ⟨⟨a, st₁⟩, h1, ⟨l, st₂⟩, h2, ⟨h', st₃⟩, h3, d', h4, e⟩ := e
      cases e
      exact slice_arm H R' O h1 h2 h3 h4
    | some x => unfold evalE at e; exact plainCase e
  | _ => unfold evalE at e; exact plainCase e

theorem fmt_arm (H : EvalOk B Γ K n) {x : Expr} {pos : Pos} (e : evalE (n + 1) Γ sc v (.FormattedValue x (-1) none pos) st = some (d, st')) (R : Room A (K + (n + 1))) (O : OK B Φ env sc v s adr st) :
    Gives B Φ A (eval (.FormattedValue x (-1) none pos) env) s adr st' d := by
  unfold evalE at e
  simp only [Option.bind_eq_bind, Option.bind_eq_some_iff] at e
  obtain ⟨⟨a, st₁⟩, h1, e⟩ := e
  have R' : Room A (K + n) := R.le (by omega)
  refine FormattedValue_plain ((H _ _ _ _ _ _ _ _ _ _ _ h1 R' O).next O fun u s₁ adr₁ O₁ P₁ r₁ => ?_)
  simp only at e
  split at e
  · cases e
    cases r₁ with
    | str y t _ e1 l1 c1 =>
    refine formatField_str (fun t' tk => ⟨adr₁, P₁.trans (Post.toks O₁.inv O₁.sr tk), .str _ _ _ e1 l1 c1⟩) ?_
    have q1 : y.length = y.cps.toList.length := (Array.length_toList).symm
    rw [q1, e1, sizeLine_eq]; unfold LIM at l1; omega
  · cases e

theorem concat_ok (H : EvalOk B Γ K n) (R : Room A (K + n)) : ∀ {es : List Expr} {s : Shared} {adr : List Ent} {st st' : Sto} {ds : List D} {out : Str} {l r : List Nat}, mapE (evalE n Γ sc v) es st = some (ds, st') → OK B Φ env sc v s adr st →
    concatStr ds = some r → out.cps.toList = l → ascii l = true → (l ++ r).length ≤ LIM → Gives B Φ A (joinParts out (evalEach es env)) s adr st' (.str (l ++ r))
  | [], s, adr, st, st', ds, out, l, r, e, O, hc, hl, ha, hlim => by
    simp only [mapE] at e
    cases e
    simp only [concatStr] at hc
    cases hc
    rw [List.append_nil] at hlim ⊢
    refine gives_tok O.inv O.sr (.str out s.toks l hl hlim ha) fun Q E h => joinParts_nil h ?_
    have q1 : out.length = out.cps.toList.length := (Array.length_toList).symm
    rw [q1, hl, sizeLine_eq]; unfold LIM at hlim; omega
  | x :: es, s, adr, st, st', ds, out, l, r, e, O, hc, hl, ha, hlim => by
    simp only [mapE, Option.bind_eq_bind, Option.bind_eq_some_iff] at e
    obtain ⟨⟨d, st₁⟩, h1, ⟨ds', st₂⟩, h2, e⟩ := e
    cases e
    cases d with
    | str y =>
      simp only [concatStr, Option.bind_eq_bind, Option.bind_eq_some_iff] at hc
      obtain ⟨r', hr', hc⟩ := hc
      cases hc
      rw [evalEach_cons]
      refine joinParts_cons ((H _ _ _ _ _ _ _ _ _ _ _ h1 R O).next O fun u s₁ adr₁ O₁ P₁ r₁ => ?_)
      cases r₁ with
      | str z t _ e1 l1 c1 =>
      have hz : (out ++ z).cps.toList = l ++ y := by
        show (out.cps ++ z.cps).toList = _
        rw [Array.toList_append, hl, e1]
      refine ⟨?_, ?_⟩
      · have q1 : (out ++ z).length = (out ++ z).cps.toList.length := (Array.length_toList).symm
        rw [q1, hz, sizeLine_eq]
        rw [← List.append_assoc, List.length_append] at hlim
        unfold LIM at hlim; omega
      · have ha' : ascii (l ++ y) = true := by unfold ascii at *; rw [List.all_append, ha, c1]; rfl
        have := concat_ok H R h2 O₁ hr' hz ha' (by rw [List.append_assoc]; exact hlim)
        rw [List.append_assoc] at this
        exact this.last P₁
    | _ => simp [concatStr] at hc

theorem joined_arm (H : EvalOk B Γ K n) {es : List Expr} {pos : Pos} (e : evalE (n + 1) Γ sc v (.JoinedStr es pos) st = some (d, st')) (R : Room A (K + (n + 1))) (O : OK B Φ env sc v s adr st) :
    Gives B Φ A (eval (.JoinedStr es pos) env) s adr st' d := by
  unfold evalE at e
  simp only [Option.bind_eq_bind, Option.bind_eq_some_iff] at e
  obtain ⟨⟨ds, st₁⟩, h1, r, hr, d', hd, e⟩ := e
  cases e
  have R' : Room A (K + n) := R.le (by omega)
  unfold limS at hd
  split at hd
  · rename_i hlim
    cases hd
    have g : ∀ {es : List Expr} {ds : List D} {r : List Nat}, mapE (evalE n Γ sc v) es st = some (ds, st₁) → concatStr ds = some r → r.length ≤ LIM → Gives B Φ A (joinParts Str.empty (evalEach es env)) s adr st₁ (.str r) := fun h1 hr hl => by
      have := concat_ok H R' h1 O hr (out := Str.empty) (l := []) rfl rfl (by simpa using hl)
      simpa using this
    match es, h1 with
    | [], h1 => exact g h1 hr hlim
    | [x], h1 =>
      simp only [mapE, Option.bind_eq_bind, Option.bind_eq_some_iff] at h1
      obtain ⟨⟨d, st₂⟩, hx, ⟨ds', st₃⟩, h2, e⟩ := h1
      cases h2
      cases e
      cases d with
      | str y =>
        simp only [concatStr, Option.bind_eq_bind, Option.bind_some] at hr
        cases hr
        rw [List.append_nil]
        exact JoinedStr_one (H _ _ _ _ _ _ _ _ _ _ _ hx R' O)
      | _ => simp [concatStr] at hr
    | x :: y :: es, h1 => exact JoinedStr_many (g h1 hr hlim)
  · cases hd
end
end Mine
/-! ## KQ -/
set_option autoImplicit false
set_option maxRecDepth 100000
namespace Mine
open PySem PySem.W PyProof.Rows PySem.Calls

section
variable {B : Base} {Γ : Gam} {K n : Nat} {Φ : Addr → Prop} {A : Around} {env : Env} {sc : Scope} {v : Vars} {s s₁ : Shared} {adr adr₁ : List Ent} {st st₁ st' : Sto} {d : D} {ds : List D} {b : Bool}

theorem backTo_any {pos : Pos} {l : List (Bool × Sem Value)} (h : l.any (·.1) = false) : (backTo pos l).any (·.1) = false := by
  unfold backTo
  rw [List.any_map]
  exact h
theorem keyword_cons {name : Option Str} {x : Expr} {p : Pos} {r : List Keyword} : keywordEach (⟨name, x, p⟩ :: r) env = (name, eval x env) :: keywordEach r env := rfl

def GivesK (B : Base) (Φ : Addr → Prop) (A : Around) (names : List Str) (t : Sem (List Value)) (s : Shared) (adr : List Ent) (st' : Sto) (ks : List (Str × D)) : Prop :=
  wpAny (model B.prog B.w) A t (fun us s' => ∃ adr', Post B Φ s adr s' adr' st' ∧ VRf B.T Φ B.Ins s'.heap adr' (names.zip us) ks) NoE s

theorem VRf.one {T Φ : Addr → Prop} {Ins : InsT} {h : Heap} {x : Str} {u : Value} {d : D} {names : List Str} {us : List Value} {ks : List (Str × D)} (a : VR T Φ Ins h adr u d) (r : VRf T Φ Ins h adr (names.zip us) ks) : VRf T Φ Ins h adr ((x :: names).zip (u :: us)) ((x, d) :: ks) := .cons a r

theorem mapK_ok (H : EvalOk B Γ K n) {pos : Pos} (R : Room A (K + n)) : ∀ {kws : List Keyword} {s : Shared} {adr : List Ent} {st st' : Sto} {ks : List (Str × D)}, mapK (evalE n Γ sc v) kws st = some (ks, st') → OK B Φ env sc v s adr st →
    GivesK B Φ A ((backToKw pos (keywordEach kws env)).filterMap (·.1)) (evalAll ((backToKw pos (keywordEach kws env)).map (·.2))) s adr st' ks
  | [], s, adr, st, st', ks, e, O => by
    simp only [mapK] at e
    cases e
    exact evalAll_nil ⟨adr, Post.refl O.inv O.sr, .nil⟩
  | ⟨none, x, p⟩ :: r, s, adr, st, st', ks, e, O => by simp [mapK] at e
  | ⟨some name, x, p⟩ :: r, s, adr, st, st', ks, e, O => by
    simp only [mapK, Option.bind_eq_bind, Option.bind_eq_some_iff] at e
    obtain ⟨⟨d, st₁⟩, h1, ⟨ds', st₂⟩, h2, e⟩ := e
    cases e
    refine kws_cons ((H _ _ _ _ _ _ _ _ _ _ _ h1 R O).next O fun u s₁ adr₁ O₁ P₁ r₁ => ?_)
    refine wpAny_mono (mapK_ok H (pos := pos) R h2 O₁) (fun us s₂ ⟨adr₂, P₂, r₂⟩ => ?_) fun _ _ e => e
    exact ⟨adr₂, P₁.trans P₂, VRf.one (r₁.ex P₂.ex) r₂⟩
theorem mapK_all {pos : Pos} : ∀ {kws : List Keyword} {st st' : Sto} {ks : List (Str × D)}, mapK (evalE n Γ sc v) kws st = some (ks, st') → (backToKw pos (keywordEach kws env)).all (·.1.isSome) = true ∧ (keywordEach kws env).all (·.1.isSome) = true
  | [], _, _, _, _ => ⟨rfl, rfl⟩
  | ⟨none, x, p⟩ :: r, st, st', ks, e => by simp [mapK] at e
  | ⟨some name, x, p⟩ :: r, st, st', ks, e => by
    simp only [mapK, Option.bind_eq_bind, Option.bind_eq_some_iff] at e
    obtain ⟨⟨d, st₁⟩, h1, ⟨ds', st₂⟩, h2, e⟩ := e
    cases e
    have := mapK_all (pos := pos) h2
    rw [keyword_cons]
    refine ⟨?_, ?_⟩
    · show (_ && _) = true; rw [Bool.and_eq_true]; exact ⟨rfl, this.1⟩
    · show (_ && _) = true; rw [Bool.and_eq_true]; exact ⟨rfl, this.2⟩
theorem GivesK.next {names : List Str} {t : Sem (List Value)} {ks : List (Str × D)} (G : GivesK B Φ A names t s adr st₁ ks) (O : OK B Φ env sc v s adr st) {Q : List Value → Shared → Prop} {E : Value → Shared → Prop}
    (h : ∀ u s₁ adr₁, OK B Φ env sc v s₁ adr₁ st₁ → Post B Φ s adr s₁ adr₁ st₁ → VRf B.T Φ B.Ins s₁.heap adr₁ (names.zip u) ks → Q u s₁) : wpAny (model B.prog B.w) A t Q E s :=
  wpAny_mono (wpAny_toks_of O.tk G) (fun u s₁ ⟨tk, adr₁, P, r⟩ => h u s₁ adr₁ (O.next P tk) P r) fun _ _ e => e.2.elim

theorem mapK_nil {kws : List Keyword} {ks : List (Str × D)} (he : kws.isEmpty = true) : kws = [] := List.isEmpty_iff.mp he

/-- the arguments, then the call -/
theorem args_ok (H : EvalOk B Γ K n) {pos : Pos} {f : Value} {first : List Value} {args : List Expr} {kws : List Keyword} {ks : List (Str × D)} {st₂ : Sto} (R : Room A (K + n)) (O : OK B Φ env sc v s adr st)
    (h1 : mapE (evalE n Γ sc v) args st = some (ds, st₁)) (h2 : mapK (evalE n Γ sc v) kws st₁ = some (ks, st₂)) {Q : Value → Shared → Prop}
    (hk : ∀ s₂ adr₂, Post B Φ s adr s₂ adr₂ st₂ → KeepOk (model B.prog B.w) A f s₂)
    (h : ∀ us kus s₂ adr₂, OK B Φ env sc v s₂ adr₂ st₂ → Post B Φ s adr s₂ adr₂ st₂ → VRs B.T Φ B.Ins s₂.heap adr₂ us ds → VRf B.T Φ B.Ins s₂.heap adr₂ kus ks → (kws = [] → kus = []) → wpAny (model B.prog B.w) A (call f (first ++ us) kus) Q NoE s₂) :
    wpAny (model B.prog B.w) A (callWith pos f first (backTo pos (starEach args env)) (backToKw pos (keywordEach kws env))) Q NoE s := by
  have g := mapE_ok (pos := pos) H R h1 O
  refine callWith_ok (backTo_any g.2) (mapK_all h2).1 (g.1.next O fun us s₁ adr₁ O₁ P₁ r₁ => ?_)
  refine (mapK_ok (pos := pos) H R h2 O₁).next O₁ fun kus s₂ adr₂ O₂ P₂ r₂ => ?_
  exact ⟨hk _ _ (P₁.trans P₂), h us _ s₂ adr₂ O₂ (P₁.trans P₂) (r₁.ex P₂.ex) r₂ fun e => by subst e; rfl⟩

theorem global_ok (O : OK B Φ env sc v s adr st) {f : Str} {p : Pos} {fv : Value} (hk : kindOf sc f = some .globalImplicit) (hp : plainName f = true) (hv : B.mg f = some fv) {M : Model} {Q : Value → Shared → Prop} {E : Value → Shared → Prop} (h : Q fv s) : wpAny M A (eval (.Name f p) env) Q E s :=
  Name_function_global O.fr.kind (O.fr.gl f hk) (loadGlobal_global (mg := B.mg) (O.fr.glob ▸ B.g _ O.inv) hv h) (plain_of hp).1
theorem builtin_name (O : OK B Φ env sc v s adr st) {f : Str} {p : Pos} {fv : Value} (hk : kindOf sc f = some .globalImplicit) (hp : plainName f = true) (hv : B.mg f = none) (hb : bootBuiltins f = some fv) (hn : f ≠ ("__name__" : Str)) {M : Model} {Q : Value → Shared → Prop} {E : Value → Shared → Prop} (h : Q fv s) :
    wpAny M A (eval (.Name f p) env) Q E s := by
  obtain ⟨mb, h1, h2⟩ := B.b _ O.inv
  exact Name_function_global O.fr.kind (O.fr.gl f hk) (loadGlobal_builtin (mg := B.mg) (mb := mb) (O.fr.glob ▸ B.g _ O.inv) hv (O.fr.blt ▸ h1) ((h2 f hn).trans hb) h) (plain_of hp).1

theorem builtin_known {f : Str} {ds : List D} {r : D × Sto} (e : builtin st f ds = some r) : f ∈ builtinNames ∧ f ≠ ("__name__" : Str) ∧ ∃ fv, bootBuiltins f = some fv ∧ (∀ M A s, KeepOk M A fv s) := by
  unfold builtin at e
  split at e
  · rename_i hn
    rw [eq_of_beq hn]
    exact ⟨by decide, by decide, _, bb_len, fun M A s => keep_builtin _⟩
  · split at e
    · rename_i hn
      rw [eq_of_beq hn]
      exact ⟨by decide, by decide, _, bb_range, fun M A s => keep_type _⟩
    · split at e
      · rename_i hn
        rw [eq_of_beq hn]
        exact ⟨by decide, by decide, _, bb_sum, fun M A s => keep_builtin _⟩
      · split at e
        · rename_i hn
          rw [eq_of_beq hn]
          exact ⟨by decide, by decide, _, bb_object, fun M A s => keep_type _⟩
        · cases e

theorem isFn_keep {fa : Addr} (h : IsFn B fa) (i : B.Inv s.heap) {M : Model} : KeepOk M A (.ref fa) s := by
  exact h _ _ _ i

theorem call_arm (G : GamOk B Γ K) (H : EvalOk B Γ K n) {f : Str} {p pos : Pos} {args : List Expr} {kws : List Keyword} (e : evalE (n + 1) Γ sc v (.Call (.Name f p) args kws pos) st = some (d, st')) (R : Room A (K + (n + 1))) (O : OK B Φ env sc v s adr st) :
    Gives B Φ A (eval (.Call (.Name f p) args kws pos) env) s adr st' d := by
  have R' : Room A (K + n) := R.le (by omega)
  have RK : Room A K := R.le (by omega)
  unfold evalE at e
  simp only at e
  split at e
  · cases e
  · rename_i hp
    have hp : plainName f = true := by simpa using hp
    have appCase : ∀ (hk : kindOf sc f = some .local ∨ kindOf sc f = some .cell ∨ kindOf sc f = some .free), (do
        match ← v.lookup f with
        | .app k => do
          let (ds, st) ← mapE (evalE n Γ sc v) args st
          if kws.isEmpty then appendD st k ds else none
        | _ => none) = some (d, st') → Gives B Φ A (eval (.Call (.Name f p) args kws pos) env) s adr st' d := fun hk e₁ => by
      simp only [Option.bind_eq_bind, Option.bind_eq_some_iff] at e₁
      obtain ⟨a, hl, e₁⟩ := e₁
      split at e₁
      · rename_i k
        simp only [Option.bind_eq_some_iff] at e₁
        obtain ⟨⟨ds, st₁⟩, h1, e₁⟩ := e₁
        simp only at e₁
        split at e₁
        · rename_i hkw
          have hkw := mapK_nil (ks := []) hkw
          subst hkw
          obtain ⟨u, r, hu⟩ := load_ok (M := model B.prog B.w) (A := A) (pos := p) O.fr hk hl (plain_of hp).1 (plain_of hp).2
          refine wpAny_Call_Name_kw (hu _ _ ?_)
          refine args_ok H R' O h1 (ks := []) (st₂ := st₁) rfl (fun s₂ adr₂ P => ?_) fun us kus s₂ adr₂ O₂ P₂ r₂ r₃ hk0 => ?_
          · have r' := r.ex P.ex
            cases r' with
            | app hb z he =>
              refine fun Q E h => ?_
              unfold keeperOf
              refine wpAny_bind (wpAny_load hb ?_)
              simp only [appO]
              exact wpAny_pure (h _ (.inr rfl))
          · rw [hk0 rfl]
            exact (app_ok O₂.inv O₂.sr (r.ex P₂.ex) r₂ e₁).last P₂
        · cases e₁
      · cases e₁
    split at e
    · rename_i hk
      split at e
      · rename_i F hF
        simp only [Option.bind_eq_bind, Option.bind_eq_some_iff] at e
        obtain ⟨⟨ds, st₁⟩, h1, ⟨ks, st₂⟩, h2, e⟩ := e
        obtain ⟨fa, hm, hf, hok⟩ := G.fn f F hF
        refine wpAny_Call_Name_kw (global_ok O hk hp hm ?_)
        refine args_ok H R' O h1 h2 (fun s₂ adr₂ P => isFn_keep hf P.inv) fun us kus s₂ adr₂ O₂ P₂ r₂ r₃ _ => ?_
        exact (hok Φ A s₂ adr₂ st₂ us kus ds ks d st' e RK O₂.tk O₂.inv O₂.sr r₂ r₃).last P₂
      · rename_i hF
        simp only [Option.bind_eq_bind, Option.bind_eq_some_iff] at e
        obtain ⟨⟨ds, st₁⟩, h1, e⟩ := e
        simp only at e
        split at e
        · rename_i hkw
          have hkw := mapK_nil (ks := []) hkw
          subst hkw
          split at e
          · rename_i F hF'
            obtain ⟨hb1, hb2, fv, hb3, hb4, hb5⟩ := G.bi f F hF'
            refine wpAny_Call_Name_kw (builtin_name O hk hp hb1 hb3 hb2 ?_)
            refine args_ok H R' O h1 (ks := []) (st₂ := st₁) rfl (fun s₂ adr₂ P => hb4 _ _ _) fun us kus s₂ adr₂ O₂ P₂ r₂ r₃ hk0 => ?_
            rw [hk0 rfl]
            exact (hb5 Φ A s₂ adr₂ st₁ us [] ds [] d st' e RK O₂.tk O₂.inv O₂.sr r₂ .nil).last P₂
          · obtain ⟨hb1, hb2, fv, hb3, hb4⟩ := builtin_known e
            refine wpAny_Call_Name_kw (builtin_name O hk hp (G.bl f hb1 hF) hb3 hb2 ?_)
            refine args_ok H R' O h1 (ks := []) (st₂ := st₁) rfl (fun s₂ adr₂ P => hb4 _ _ _) fun us kus s₂ adr₂ O₂ P₂ r₂ r₃ hk0 => ?_
            rw [hk0 rfl]
            exact (builtin_ok RK O₂.inv O₂.sr hb3 r₂ e).last P₂
        · cases e
    · rename_i hk; exact appCase (.inl hk) e
    · rename_i hk; exact appCase (.inr (.inl hk)) e
    · rename_i hk; exact appCase (.inr (.inr hk)) e
    · cases e
end
end Mine
/-! ## KR -/
set_option autoImplicit false
set_option maxRecDepth 100000
namespace Mine
open PySem PySem.W PyProof.Rows PySem.Calls

section
variable {B : Base} {Γ : Gam} {K n : Nat} {Φ : Addr → Prop} {A : Around} {env : Env} {sc : Scope} {v : Vars} {s s₁ : Shared} {adr adr₁ : List Ent} {st st₁ st' : Sto} {d : D} {ds : List D} {b : Bool}

theorem method_arm (G : GamOk B Γ K) (H : EvalOk B Γ K n) {o : Expr} {m : Str} {apos pos : Pos} {args : List Expr} {kws : List Keyword} (hs : isSub o m args kws = none)
    (e : evalE (n + 1) Γ sc v (.Call (.Attribute o m apos) args kws pos) st = some (d, st')) (R : Room A (K + (n + 1))) (O : OK B Φ env sc v s adr st) :
    Gives B Φ A (eval (.Call (.Attribute o m apos) args kws pos) env) s adr st' d := by
  have R' : Room A (K + n) := R.le (by omega)
  have RK : Room A K := R.le (by omega)
  unfold evalE at e
  simp only [hs] at e
  split at e
  · cases e
  · rename_i hc
    have hc : callOk o apos pos (args.length + kws.length) = true := by simpa using hc
    simp only [Option.bind_eq_bind, Option.bind_eq_some_iff] at e
    obtain ⟨⟨a, st₁⟩, h1, e⟩ := e
    simp only at e
    split at e
    · rename_i c fs
      simp only [Option.bind_eq_some_iff] at e
      obtain ⟨F, hF, ⟨ds, st₂⟩, h2, ⟨ks, st₃⟩, h3, e⟩ := e
      simp only at h3 e
      obtain ⟨fa, hf, hok, hget⟩ := G.meth c m F hF
      have hp : (starEach args env).any (·.1) = false := by
        have : ∀ {es : List Expr} {st st' : Sto} {ds : List D}, mapE (evalE n Γ sc v) es st = some (ds, st') → (starEach es env).any (·.1) = false := by
          intro es
          induction es with
          | nil => intros; rfl
          | cons y es ih =>
            intro st st' ds e
            simp only [mapE, Option.bind_eq_bind, Option.bind_eq_some_iff] at e
            obtain ⟨⟨d, st₁⟩, h1, ⟨ds', st₂⟩, h2, e⟩ := e
            rw [starEach_plain (env := env) (rest := es) h1, List.any_cons, Bool.false_or]
            exact ih h2
        exact this h2
      refine methodCall_ok hc hp (mapK_all (pos := pos) h3).2 ((H _ _ _ _ _ _ _ _ _ _ _ h1 R' O).next O fun u s₁ adr₁ O₁ P₁ r₁ pl => ?_)
      refine wpAny_mono (wpAny_toks_of O₁.tk (hget A s₁ adr₁ Φ u fs pl (fun fx s' => fx = (.ref fa, [u]) ∧ Post B Φ s₁ adr₁ s' adr₁ st₁) NoE O₁.inv r₁ fun tk => ⟨rfl, Post.toks O₁.inv O₁.sr tk⟩)) (fun fx s₂ ⟨tk, hfx, P₂⟩ => ?_) fun _ _ e => e.2
      subst hfx
      have O₂ := O₁.next P₂ tk
      refine args_ok H R' O₂ h2 h3 (fun s₃ adr₃ P => isFn_keep hf P.inv) fun us kus s₃ adr₃ O₃ P₃ r₃ r₄ _ => ?_
      exact (hok Φ A s₃ adr₃ st₃ (u :: us) kus (.inst c fs :: ds) ks d st' e RK O₃.tk O₃.inv O₃.sr (.cons ((r₁.ex P₂.ex).ex P₃.ex) r₃) r₄).last ((P₁.trans P₂).trans P₃)
    · rename_i hni
      have hp : ∀ {es : List Expr} {st st' : Sto} {ds : List D}, mapE (evalE n Γ sc v) es st = some (ds, st') → (starEach es env).any (·.1) = false := by
        intro es
        induction es with
        | nil => intros; rfl
        | cons y es ih =>
          intro st st' ds e
          simp only [mapE, Option.bind_eq_bind, Option.bind_eq_some_iff] at e
          obtain ⟨⟨d, st₁⟩, h1, ⟨ds', st₂⟩, h2, e⟩ := e
          rw [starEach_plain (env := env) (rest := es) h1, List.any_cons, Bool.false_or]
          exact ih h2
      split at e
      · rename_i F hF
        simp only [Option.bind_eq_some_iff] at e
        obtain ⟨⟨ds, st₂⟩, h2, e⟩ := e
        simp only at e
        split at e
        · rename_i hkw
          have hkw := mapK_nil (ks := []) hkw
          subst hkw
          unfold Gam.own at hF
          split at hF
          · rename_i g F' hB
            split at hF
            · rename_i hg
              cases hF
              refine methodCall_ok hc (hp h2) rfl ((H _ _ _ _ _ _ _ _ _ _ _ h1 R' O).next O fun u s₁ adr₁ O₁ P₁ r₁ pl => ?_)
              obtain ⟨id, hid, hok⟩ := G.bm m g F hB s₁ adr₁ st₁ Φ u _ O₁.sr r₁ hg
              refine hid _ _ _ _ _ ?_
              refine args_ok H R' O₁ h2 (ks := []) (st₂ := st₂) rfl (fun s₃ adr₃ P => keep_builtin _) fun us kus s₂ adr₂ O₂ P₂ r₂ r₃ hk0 => ?_
              rw [hk0 rfl]
              exact (hok Φ A s₂ adr₂ st₂ (u :: us) [] _ [] d st' e RK O₂.tk O₂.inv O₂.sr (.cons (r₁.ex P₂.ex) r₂) .nil).last (P₁.trans P₂)
            · cases hF
          · cases hF
        · cases e
      · simp only [Option.bind_eq_some_iff] at e
        obtain ⟨id, hid, ⟨ds, st₂⟩, h2, e⟩ := e
        simp only at e
        split at e
        · rename_i hkw
          have hkw := mapK_nil (ks := []) hkw
          subst hkw
          refine methodCall_ok hc (hp h2) rfl ((H _ _ _ _ _ _ _ _ _ _ _ h1 R' O).next O fun u s₁ adr₁ O₁ P₁ r₁ pl => ?_)
          refine recv_ok O₁.sr r₁ hid _ _ ?_
          refine args_ok H R' O₁ h2 (ks := []) (st₂ := st₂) rfl (fun s₃ adr₃ P => keep_builtin _) fun us kus s₂ adr₂ O₂ P₂ r₂ r₃ hk0 => ?_
          rw [hk0 rfl]
          exact (methodB_ok O₂.inv O₂.sr (r₁.ex P₂.ex) r₂ e).last (P₁.trans P₂)
        · cases e

theorem andT_ok (HT : TestOk B Γ K n) {pos : Pos} (R : Room A (K + n)) : ∀ {es : List Expr} {s : Shared} {adr : List Ent} {st st' : Sto} {b : Bool} {whole : Sem Value}, andE (testE n Γ sc v) es st = some (b, st') → OK B Φ env sc v s adr st →
    Says B Φ A (isTrue (.BoolOp .And es pos) env whole) s adr st' b
  | [], s, adr, st, st', b, whole, e, O => by
    simp only [andE] at e
    cases e
    exact isTrue_and_nil ⟨adr, Post.refl O.inv O.sr, rfl⟩
  | x :: es, s, adr, st, st', b, whole, e, O => by
    simp only [andE, Option.bind_eq_bind, Option.bind_eq_some_iff] at e
    obtain ⟨⟨c, st₁⟩, h1, e⟩ := e
    refine isTrue_and ((HT _ _ _ _ _ _ _ _ _ _ _ h1 R O).next O fun s₁ adr₁ O₁ P₁ => ?_)
    cases c with
    | true => exact (andT_ok HT R e O₁).last P₁
    | false =>
      simp only [Bool.false_eq_true, if_false] at e ⊢
      cases e
      exact ⟨adr₁, P₁, rfl⟩
theorem orT_ok (HT : TestOk B Γ K n) {pos : Pos} (R : Room A (K + n)) : ∀ {es : List Expr} {s : Shared} {adr : List Ent} {st st' : Sto} {b : Bool} {whole : Sem Value}, orE (testE n Γ sc v) es st = some (b, st') → OK B Φ env sc v s adr st →
    Says B Φ A (isTrue (.BoolOp .Or es pos) env whole) s adr st' b
  | [], s, adr, st, st', b, whole, e, O => by
    simp only [orE] at e
    cases e
    exact isTrue_or_nil ⟨adr, Post.refl O.inv O.sr, rfl⟩
  | x :: es, s, adr, st, st', b, whole, e, O => by
    simp only [orE, Option.bind_eq_bind, Option.bind_eq_some_iff] at e
    obtain ⟨⟨c, st₁⟩, h1, e⟩ := e
    refine isTrue_or ((HT _ _ _ _ _ _ _ _ _ _ _ h1 R O).next O fun s₁ adr₁ O₁ P₁ => ?_)
    cases c with
    | true =>
      simp only [if_true] at e ⊢
      cases e
      exact ⟨adr₁, P₁, rfl⟩
    | false => exact (orT_ok HT R e O₁).last P₁

theorem isType_of {e x : Expr} {f g : Str} (h : isType? e = some (f, x, g)) : ∃ p q p' pos, e = .Compare (.Call (.Name f p) [x] [] q) [.Is] [.Name g p'] pos ∧ f = ("type" : Str) ∧ g = ("str" : Str) := by
  unfold isType? at h
  split at h
  · split at h
    · rename_i hc
      cases h
      rw [Bool.and_eq_true] at hc
      exact ⟨_, _, _, _, rfl, eq_of_beq hc.1, eq_of_beq hc.2⟩
    · cases h
  · cases h

theorem type_test (G : GamOk B Γ K) (H : EvalOk B Γ K n) {e x : Expr} {f g : Str} {l : List Nat} (h : isType? e = some (f, x, g)) (R : Room A (K + n)) (O : OK B Φ env sc v s adr st) (hf : kindOf sc f = some .globalImplicit) (hg : kindOf sc g = some .globalImplicit) (nf : Γ.fn f = none) (ng : Γ.fn g = none)
    (h1 : evalE n Γ sc v x st = some (.str l, st')) : Says B Φ A (isTrue e env (eval e env)) s adr st' true := by
  obtain ⟨p, q, p', pos, rfl, rfl, rfl⟩ := isType_of h
  have hm : mapE (evalE n Γ sc v) [x] st = some ([.str l], st') := by simp [mapE, h1]
  refine wpAny_isTrue_Compare1 ?_ rfl
  refine wpAny_Call_Name_kw (builtin_name O hf (by decide) (G.bl _ (by decide) nf) bb_type (by decide) ?_)
  refine args_ok H R O hm (ks := []) (st₂ := st') (kws := []) rfl (fun s₂ adr₂ P => keep_type _) fun us kus s₁ adr₁ O₁ P₁ r₁ _ hk0 => ?_
  rw [hk0 rfl]
  cases r₁ with
  | cons r₁ r' =>
  cases r'
  cases r₁ with
  | str y t _ e1 l1 c1 =>
  refine call_type_of (x := .str y t) (typeIs_str _ _ _) (by decide) ?_
  refine builtin_name O₁ hg (by decide) (G.bl _ (by decide) ng) bb_str (by decide) ?_
  exact wpAny_is_self rfl (wpAny_truthy_bool ⟨adr₁, P₁, rfl⟩)

theorem test_step (G : GamOk B Γ K) (H : ∀ m, m ≤ n → EvalOk B Γ K m) (HT : TestOk B Γ K n) : TestOk B Γ K (n + 1) := by
  intro Φ A env sc v e s adr st b st' h R O
  have R' : Room A (K + n) := R.le (by omega)
  have plainCase : isTrue e env (eval e env) = (do let v ← eval e env; standAt e.pos; holding [v] (truthy v)) → (do
      let (a, st) ← evalE n Γ sc v e st
      some (← st.truthy a, st)) = some (b, st') → Says B Φ A (isTrue e env (eval e env)) s adr st' b := fun he h => by
    simp only [Option.bind_eq_bind, Option.bind_eq_some_iff] at h
    obtain ⟨⟨a, st₁⟩, h1, c, h2, h⟩ := h
    cases h
    exact isTrue_plain ((H n (Nat.le_refl _) _ _ _ _ _ _ _ _ _ _ _ h1 R' O).next O fun u s₁ adr₁ O₁ P₁ r₁ => (truthy_says O₁ r₁ h2).last P₁) he
  cases e with
  | UnaryOp op x pos =>
    cases op with
    | Not =>
      unfold testE at h
      simp only [Option.bind_eq_bind, Option.bind_eq_some_iff] at h
      obtain ⟨⟨c, st₁⟩, h1, h⟩ := h
      cases h
      exact isTrue_not ((HT _ _ _ _ _ _ _ _ _ _ _ h1 R' O).next O fun s₁ adr₁ O₁ P₁ => ⟨adr₁, P₁, rfl⟩)
    | _ => unfold testE at h; exact plainCase rfl h
  | BoolOp op es pos =>
    cases op with
    | And => unfold testE at h; exact andT_ok HT R' h O
    | Or => unfold testE at h; exact orT_ok HT R' h O
  | IfExp t x y pos =>
    unfold testE at h
    simp only [Option.bind_eq_bind, Option.bind_eq_some_iff] at h
    obtain ⟨⟨c, st₁⟩, h1, h⟩ := h
    refine isTrue_IfExp ((HT _ _ _ _ _ _ _ _ _ _ _ h1 R' O).next O fun s₁ adr₁ O₁ P₁ => ?_)
    cases c with
    | true => exact (HT _ _ _ _ _ _ _ _ _ _ _ h R' O₁).last P₁
    | false => exact (HT _ _ _ _ _ _ _ _ _ _ _ h R' O₁).last P₁
  | Compare l ops rs pos =>
    unfold testE at h
    simp only at h
    split at h
    · rename_i f x g hty
      split at h
      · rename_i hc
        simp only [Bool.and_eq_true, beq_iff_eq, Option.isNone_iff_eq_none] at hc
        simp only [Option.bind_eq_bind, Option.bind_eq_some_iff] at h
        obtain ⟨⟨a, st₁⟩, h1, h⟩ := h
        simp only at h
        split at h
        · cases h
          exact type_test G (H n (Nat.le_refl _)) hty R' O hc.1.1.1 hc.1.1.2 hc.1.2 hc.2 h1
        · cases h
      · cases h
    simp only [Option.bind_eq_bind, Option.bind_eq_some_iff] at h
    obtain ⟨⟨a, st₁⟩, h1, c, h2, h⟩ := h
    cases h
    cases n with
    | zero => simp [evalE] at h1
    | succ m =>
      match ops, rs, h1 with
      | [op], [r], h1 =>
        obtain ⟨_, b', hb, hs⟩ := cmp_arm (A := A) (Φ := Φ) (H m (by omega)) h1 (R'.le (Nat.le_refl _)) O
        subst hb
        simp only [Sto.truthy] at h2
        cases h2
        exact hs
      | [], _, h1 => simp [evalE] at h1
      | [_], [], h1 => simp [evalE] at h1
      | [_], _ :: _ :: _, h1 => simp [evalE] at h1
      | _ :: _ :: _, _, h1 => simp [evalE] at h1
  | _ => unfold testE at h; exact plainCase rfl h
end
end Mine
/-! ## LA -/
set_option autoImplicit false
set_option maxRecDepth 100000
namespace Mine
open PySem PySem.W PyProof.Rows PySem.Calls

/-- the same places, locked or not -/
structure SameAt (adr adr' : List Ent) : Prop where
  to : ∀ (i : Nat) e, adr[i]? = some e → ∃ e', adr'[i]? = some e' ∧ e'.at = e.at
  from' : ∀ (i : Nat) e, adr'[i]? = some e → ∃ e', adr[i]? = some e' ∧ e'.at = e.at

section
variable {T Φ : Addr → Prop} {Ins : InsT} {h : Heap} {adr adr' : List Ent}
theorem SameAt.symm (x : SameAt adr adr') : SameAt adr' adr := ⟨x.from', x.to⟩
theorem SameAt.at' (x : SameAt adr adr') {a : Addr} (m : At adr' a) : At adr a := by
  obtain ⟨e, me, rfl⟩ := m
  obtain ⟨i, hi, q⟩ := List.getElem_of_mem me
  obtain ⟨e', h1, h2⟩ := x.from' i e (by rw [List.getElem?_eq_getElem hi, q])
  exact ⟨e', List.mem_of_getElem? h1, h2⟩
theorem Fz.sm (x : SameAt adr adr') {a : Addr} (z : Fz T Φ adr a) : Fz T Φ adr' a := ⟨z.t, z.p, fun m => z.m (x.at' m)⟩
mutual
theorem VR.sm (x : SameAt adr adr') : ∀ {v : Value} {d : D}, VR T Φ Ins h adr v d → VR T Φ Ins h adr' v d
  | _, _, .none => .none
  | _, _, .bool b => .bool b
  | _, _, .int i t => .int i t
  | _, _, .str s t l e b c => .str s t l e b c
  | _, _, .tup e z r b => .tup e (z.sm x) (VRs.sm x r) b
  | _, _, .lst e z r b => .lst e (z.sm x) (VRs.sm x r) b
  | _, _, .scr e c d z r b => .scr e c d (z.sm x) (VRs.sm x r) b
  | _, _, .ref e => by
    obtain ⟨e', h1, h2⟩ := x.to _ _ e
    rw [← h2]; exact .ref h1
  | _, _, .app e z i => by
    obtain ⟨e', h1, h2⟩ := x.to _ _ i
    exact .app (h2.symm ▸ e) (z.sm x) h1
  | _, _, .dic e z n => .dic e (z.sm x) n
  | _, _, .pat e e' z z' c q => .pat e e' (z.sm x) (z'.sm x) c q
  | _, _, .rng e z p q => .rng e (z.sm x) p q
  | _, _, .inst e dd e' i z z' r => .inst e dd e' i (z.sm x) (z'.sm x) (VRf.sm x r)
theorem VRs.sm (x : SameAt adr adr') : ∀ {v : List Value} {d : List D}, VRs T Φ Ins h adr v d → VRs T Φ Ins h adr' v d
  | _, _, .nil => .nil
  | _, _, .cons a r => .cons (VR.sm x a) (VRs.sm x r)
theorem VRf.sm (x : SameAt adr adr') : ∀ {v : List (Str × Value)} {d : List (Str × D)}, VRf T Φ Ins h adr v d → VRf T Φ Ins h adr' v d
  | _, _, .nil => .nil
  | _, _, .cons a r => .cons (VR.sm x a) (VRf.sm x r)
end
end

section
variable {B : Base} {Φ Φ' : Addr → Prop} {h h' : Heap} {adr adr' : List Ent} {env : Env} {sc : Scope} {v : Vars} {st : Sto}
theorem FR.sm (x : SameAt adr adr') (F : FR B Φ h adr env sc v) : FR B Φ h adr' env sc v := by
  obtain ⟨m, hn, hm⟩ := F.ns
  refine ⟨F.kind, F.glob, F.blt, F.code, F.loc, F.cell, F.free, F.gl, ⟨m, hn, fun y d hk hl => ?_⟩, fun y hk => ?_, fun q => F.lfree (x.at' q), F.lnew, fun y c hc => ⟨fun q => (F.cfree y c hc).1 (x.at' q), (F.cfree y c hc).2⟩, F.clive, F.lc, F.cinj⟩
  · obtain ⟨u, e, q⟩ := hm y d hk hl
    exact ⟨u, e, q.sm x⟩
  · obtain ⟨c, ov, e, h1, q⟩ := F.cl y hk
    refine ⟨c, ov, e, h1, fun d hl => ?_⟩
    obtain ⟨u, eu, qu⟩ := q d hl
    exact ⟨u, eu, qu.sm x⟩
/-- another set of frames' places -/
theorem FR.re (hP : ∀ a o, h.get? a = some o → Φ' a → B.T a ∨ Φ a) (F : FR B Φ h adr env sc v) : FR B Φ' h adr env sc v := by
  obtain ⟨m, hn, hm⟩ := F.ns
  refine ⟨F.kind, F.glob, F.blt, F.code, F.loc, F.cell, F.free, F.gl, ⟨m, hn, fun y d hk hl => ?_⟩, fun y hk => ?_, F.lfree, F.lnew, F.cfree, F.clive, F.lc, F.cinj⟩
  · obtain ⟨u, e, q⟩ := hm y d hk hl
    exact ⟨u, e, q.re (fun _ _ _ t => .inl t) hP⟩
  · obtain ⟨c, ov, e, h1, q⟩ := F.cl y hk
    refine ⟨c, ov, e, h1, fun d hl => ?_⟩
    obtain ⟨u, eu, qu⟩ := q d hl
    exact ⟨u, eu, qu.re (fun _ _ _ t => .inl t) hP⟩
theorem SR.re (hP : ∀ a o, h.get? a = some o → Φ' a → B.T a ∨ Φ a) (S : SR B Φ h adr st) (hA : ∀ a, At adr a → ¬ Φ' a) (hL : ∀ a, Φ' a → ∃ o, h.get? a = some o) (hO : ∀ a, Φ' a → ¬ B.old a) : SR B Φ' h adr st := by
  refine ⟨S.len, fun i l e => ?_, S.sent, S.dead, S.inj, fun a m => ⟨(S.out a m).1, hA a m⟩, hL, hO⟩
  obtain ⟨a, vs, n, q1, q2, q3, q4⟩ := S.lst i l e
  exact ⟨a, vs, n, q1, q2, q3.re (fun _ _ _ t => .inl t) hP, q4⟩

def lockA (adr : List Ent) : Option Nat → List Ent
  | none => adr
  | some n => match adr[n]? with
    | some e => adr.set n (.lock e.at)
    | none => adr
def openA (adr : List Ent) : Option Nat → List Ent
  | none => adr
  | some n => match adr[n]? with
    | some e => adr.set n (.live e.at)
    | none => adr
theorem set_same {n : Nat} {e e' : Ent} (h : adr[n]? = some e) (q : e'.at = e.at) : SameAt adr (adr.set n e') := by
  have hn := (List.getElem?_eq_some_iff.mp h).1
  refine ⟨fun i x hx => ?_, fun i x hx => ?_⟩
  · by_cases hi : i = n
    · subst hi
      rw [h] at hx; cases hx
      exact ⟨e', List.getElem?_set_self hn, q⟩
    · exact ⟨x, by rw [List.getElem?_set_ne (Ne.symm hi)]; exact hx, rfl⟩
  · by_cases hi : i = n
    · subst hi
      rw [List.getElem?_set_self hn] at hx; cases hx
      exact ⟨e, h, q.symm⟩
    · exact ⟨x, by rw [List.getElem?_set_ne (Ne.symm hi)] at hx; exact hx, rfl⟩
theorem lockA_some {n : Nat} {e : Ent} (h : adr[n]? = some e) : lockA adr (some n) = adr.set n (.lock e.at) := by simp only [lockA, h]
theorem same_lock (adr : List Ent) (lk : Option Nat) : SameAt adr (lockA adr lk) := by
  unfold lockA
  split
  · exact ⟨fun i e h => ⟨e, h, rfl⟩, fun i e h => ⟨e, h, rfl⟩⟩
  · split
    · rename_i e h; exact set_same h rfl
    · exact ⟨fun i e h => ⟨e, h, rfl⟩, fun i e h => ⟨e, h, rfl⟩⟩
theorem same_open (adr : List Ent) (lk : Option Nat) : SameAt adr (openA adr lk) := by
  unfold openA
  split
  · exact ⟨fun i e h => ⟨e, h, rfl⟩, fun i e h => ⟨e, h, rfl⟩⟩
  · split
    · rename_i e h; exact set_same h rfl
    · exact ⟨fun i e h => ⟨e, h, rfl⟩, fun i e h => ⟨e, h, rfl⟩⟩

theorem SR.lock (S : SR B Φ h adr st) {lk : Option Nat} (hl : ∀ n, lk = some n → ∃ l, st[n]? = some (.lst l)) : SR B Φ h (lockA adr lk) (st.lock lk) := by
  cases lk with
  | none => exact S
  | some n =>
    obtain ⟨l, hl⟩ := hl n rfl
    obtain ⟨a, vs, m, q1, q2, q3, q4⟩ := S.lst n l hl
    have hn := (List.getElem?_eq_some_iff.mp q1).1
    have hn' := (List.getElem?_eq_some_iff.mp hl).1
    have hA : lockA adr (some n) = adr.set n (.lock a) := lockA_some q1
    have sm := same_lock adr (some n)
    rw [hA] at sm ⊢
    show SR B Φ h (adr.set n (.lock a)) (st.set n .dead)
    have ne : ∀ {j : Nat}, j ≠ n → (adr.set n (.lock a))[j]? = adr[j]? := fun hj => List.getElem?_set_ne (Ne.symm hj)
    refine ⟨by simp [S.len], fun j l₁ e => ?_, fun j e => ?_, fun j e => ?_, fun i j e f h1 h2 hq => ?_, fun b hb => S.out b (sm.at' hb), S.phi, S.phiO⟩
    · by_cases hj : j = n
      · subst hj; rw [List.getElem?_set_self hn'] at e; cases e
      · rw [List.getElem?_set_ne (Ne.symm hj)] at e
        obtain ⟨a', vs', n', p1, p2, p3, p4⟩ := S.lst j l₁ e
        exact ⟨a', vs', n', (ne hj).trans p1, p2, p3.sm sm, p4⟩
    · by_cases hj : j = n
      · subst hj; rw [List.getElem?_set_self hn'] at e; cases e
      · rw [List.getElem?_set_ne (Ne.symm hj)] at e
        obtain ⟨a', p1, p2⟩ := S.sent j e
        exact ⟨a', (ne hj).trans p1, p2⟩
    · by_cases hj : j = n
      · subst hj; exact ⟨a, vs, m, List.getElem?_set_self hn, q2⟩
      · rw [List.getElem?_set_ne (Ne.symm hj)] at e
        obtain ⟨a', vs', n', p1, p2⟩ := S.dead j e
        exact ⟨a', vs', n', (ne hj).trans p1, p2⟩
    · obtain ⟨e', r1, r2⟩ := sm.from' _ _ h1
      obtain ⟨f', r3, r4⟩ := sm.from' _ _ h2
      exact S.inj _ _ _ _ r1 r3 (by rw [r2, r4, hq])

theorem lock_live (S : SR B Φ h adr st) {n : Nat} {a : Addr} (ha : adr[n]? = some (.live a)) : Ent.live a ∉ lockA adr (some n) ∧ (lockA adr (some n))[n]? = some (.lock a) := by
  have hn := (List.getElem?_eq_some_iff.mp ha).1
  have hA : lockA adr (some n) = adr.set n (.lock a) := lockA_some ha
  rw [hA]
  refine ⟨fun m => ?_, List.getElem?_set_self hn⟩
  obtain ⟨j, hj, q⟩ := List.getElem_of_mem m
  have h1 : (adr.set n (.lock a))[j]? = some (.live a) := by rw [List.getElem?_eq_getElem hj, q]
  by_cases e : j = n
  · subst e; rw [List.getElem?_set_self hn] at h1; cases h1
  · rw [List.getElem?_set_ne (Ne.symm e)] at h1
    exact e (S.inj _ _ _ _ h1 ha rfl)

/-- what is locked before a loop is open again behind it -/
theorem unlock_ok {T' Φ₃ : Addr → Prop} {h₂ h₃ : Heap} {adr₂ adr₃ : List Ent} {st₂ st₃ : Sto} {lk : Option Nat} {ds : List D} (S₂ : SR B Φ h₂ adr₂ st₂) (hl : ∀ n, lk = some n → st₂[n]? = some (.lst ds))
    (hP : ∀ a o, h₂.get? a = some o → Φ₃ a → B.T a ∨ Φ a) (W : Wid B.T Φ₃ T') (x : Ex T' h₂ (lockA adr₂ lk) h₃ adr₃) (S₃ : SR B Φ₃ h₃ adr₃ st₃) : ∃ adr', SR B Φ₃ h₃ adr' (st₃.unlock ds lk) ∧ Ex T' h₂ adr₂ h₃ adr' ∧ SameAt adr₃ adr' := by
  cases lk with
  | none => exact ⟨adr₃, S₃, x, ⟨fun i e h => ⟨e, h, rfl⟩, fun i e h => ⟨e, h, rfl⟩⟩⟩
  | some n =>
    have hl := hl n rfl
    obtain ⟨a, vs, m, q1, q2, q3, q4⟩ := S₂.lst n ds hl
    have hn := (List.getElem?_eq_some_iff.mp q1).1
    obtain ⟨k1, k2⟩ := lock_live S₂ q1
    have hlen : (lockA adr₂ (some n)).length = adr₂.length := by rw [lockA_some q1]; simp
    have k3 : adr₃[n]? = some (.lock a) := (x.pre n (by rw [hlen]; exact hn)).trans k2
    have hn₃ := (List.getElem?_eq_some_iff.mp k3).1
    have sm : SameAt adr₃ (adr₃.set n (.live a)) := set_same k3 rfl
    have sm₂ := same_lock adr₂ (some n)
    have hA : At adr₂ a := ⟨_, List.mem_of_getElem? q1, rfl⟩
    have hnT : ¬ T' a := fun t => (W.dn a t).elim (fun t => (S₂.out a hA).1 (B.T_old a t)) fun p => (hP a _ q2 p).elim (fun t => (S₂.out a hA).1 (B.T_old a t)) (S₂.out a hA).2
    have q5 : h₃.get? a = some (listO vs m) := x.keep a _ q2 hnT k1
    have ne : ∀ {j : Nat}, j ≠ n → (adr₃.set n (.live a))[j]? = adr₃[j]? := fun hj => List.getElem?_set_ne (Ne.symm hj)
    refine ⟨adr₃.set n (.live a), ?_, ?_, sm⟩
    · show SR B Φ₃ h₃ _ (st₃.set n (.lst ds))
      have hn' : n < st₃.length := S₃.len ▸ hn₃
      refine ⟨by simp [S₃.len], fun j l₁ e => ?_, fun j e => ?_, fun j e => ?_, fun i j e f h1 h2 hq => ?_, fun b hb => S₃.out b (sm.at' hb), S₃.phi, S₃.phiO⟩
      · by_cases hj : j = n
        · subst hj; rw [List.getElem?_set_self hn'] at e; cases e
          exact ⟨a, vs, m, List.getElem?_set_self hn₃, q5, (((q3.re (fun _ _ _ t => .inl t) hP).sm sm₂).exF x W).sm sm, q4⟩
        · rw [List.getElem?_set_ne (Ne.symm hj)] at e
          obtain ⟨a', vs', n', p1, p2, p3, p4⟩ := S₃.lst j l₁ e
          exact ⟨a', vs', n', (ne hj).trans p1, p2, p3.sm sm, p4⟩
      · by_cases hj : j = n
        · subst hj; rw [List.getElem?_set_self hn'] at e; cases e
        · rw [List.getElem?_set_ne (Ne.symm hj)] at e
          obtain ⟨a', p1, p2⟩ := S₃.sent j e
          exact ⟨a', (ne hj).trans p1, p2⟩
      · by_cases hj : j = n
        · subst hj; rw [List.getElem?_set_self hn'] at e; cases e
        · rw [List.getElem?_set_ne (Ne.symm hj)] at e
          obtain ⟨a', vs', n', p1, p2⟩ := S₃.dead j e
          exact ⟨a', vs', n', (ne hj).trans p1, p2⟩
      · obtain ⟨e', r1, r2⟩ := sm.from' _ _ h1
        obtain ⟨f', r3, r4⟩ := sm.from' _ _ h2
        exact S₃.inj _ _ _ _ r1 r3 (by rw [r2, r4, hq])
    · refine ⟨fun b o e ht hb => x.keep b o e ht fun mb => hb ?_, x.live, fun i hi => ?_, fun e me => ?_⟩
      · obtain ⟨j, hj, q⟩ := List.getElem_of_mem mb
        have h1 : (lockA adr₂ (some n))[j]? = some (.live b) := by rw [List.getElem?_eq_getElem hj, q]
        by_cases ej : j = n
        · subst ej; rw [k2] at h1; cases h1
        · have : (lockA adr₂ (some n))[j]? = adr₂[j]? := by rw [lockA_some q1]; exact List.getElem?_set_ne (Ne.symm ej)
          rw [this] at h1
          exact List.mem_of_getElem? h1
      · by_cases ej : i = n
        · subst ej; rw [List.getElem?_set_self hn₃, q1]
        · rw [ne ej, x.pre i (by rw [hlen]; exact hi)]
          rw [lockA_some q1]; exact List.getElem?_set_ne (Ne.symm ej)
      · obtain ⟨i, hi, q⟩ := List.getElem_of_mem me
        have h1 : (adr₃.set n (.live a))[i]? = some e := by rw [List.getElem?_eq_getElem hi, q]
        by_cases ei : i = n
        · subst ei; rw [List.getElem?_set_self hn₃] at h1; cases h1
          exact .inl (List.mem_of_getElem? q1)
        · rw [ne ei] at h1
          rcases x.fresh e (List.mem_of_getElem? h1) with m1 | m1
          · obtain ⟨j, hj, q'⟩ := List.getElem_of_mem m1
            have h2 : (lockA adr₂ (some n))[j]? = some e := by rw [List.getElem?_eq_getElem hj, q']
            by_cases ej : j = n
            · subst ej
              rw [k2] at h2; cases h2
              exact absurd (S₃.inj _ _ _ _ h1 k3 rfl) ei
            · have : (lockA adr₂ (some n))[j]? = adr₂[j]? := by rw [lockA_some q1]; exact List.getElem?_set_ne (Ne.symm ej)
              rw [this] at h2
              exact .inl (List.mem_of_getElem? h2)
          · exact .inr m1
end
end Mine
/-! ## LB -/
set_option autoImplicit false
set_option maxRecDepth 100000
namespace Mine
open PySem PySem.W PyProof.Rows PySem.Calls

def ownNames : List String := ["enumerate", "zip", "dict_itemiterator", "dict_reverseitemiterator", "odict_iterator", "itertools.zip_longest", "itertools.pairwise"]

theorem letOwn_ok {prog : Program} {w : World} {A : Around} {E : Value → Shared → Prop} {s : Shared} {target : Expr} {I : Addr} {v : Value} {o : Obj} {nm : String} {Q : Unit → Shared → Prop} (ho : s.heap.get? I = some o) (hc : o.cls = .type nm) (hn : ownNames.contains nm = false)
    (hQ : Q () s) : wpAny (model prog w) A (letOwnedTupleGo target (.ref I) v) Q E s := by
  have key : wpAny (model prog w) A (do
      let (.ref r, .ref a) := (Value.ref I, v) | return
      let o ← load r
      match o.cls, o.data with
      | .type n, .fields vs =>
        if ["enumerate", "zip", "dict_itemiterator", "dict_reverseitemiterator", "odict_iterator", "itertools.zip_longest", "itertools.pairwise"].contains n && vs[0]? == some (rawInt a) then
          rule "for.unpacks-the-owned-tuple"
          updateField r 0 .none
      | _, _ => pure ()) Q E s := by
    cases v with
    | ref a =>
      refine wpAny_bind (wpAny_load ho ?_)
      rw [hc]
      cases o.data with
      | fields vs =>
        show wpAny _ A (if (ownNames.contains nm && (vs[0]? == some (rawInt a))) = true then _ else _) Q E s
        rw [hn, Bool.false_and, if_neg Bool.false_ne_true]
        exact wpAny_pure hQ
      | _ => exact wpAny_pure hQ
    | _ => exact wpAny_pure hQ
  cases target <;> first | exact wpAny_pure hQ | exact key

/-- an iterator over plain data -/
structure Wk (B : Base) (Φ : Addr → Prop) (A : Around) (pairs : Bool) (I : Addr) (wr : Addr → Prop) (ds : List D) (St : Nat → Heap → List Ent → Prop) : Prop where
  live : ∀ i h adr b, St i h adr → wr b → ∃ o, h.get? b = some o
  frame : ∀ i h h' adr adr' (T' : Addr → Prop), St i h adr → Ex T' h adr h' adr' → Wid B.T Φ T' → (∀ b o, wr b → h.get? b = some o → h'.get? b = some o) → St i h' adr'
  item : ∀ i d (s : Shared) adr st (Q : Value → Shared → Prop) (E : Value → Shared → Prop) (target : Expr), (pairs = true → isTuple target = true) → ds[i]? = some d → St i s.heap adr → B.Inv s.heap → SR B Φ s.heap adr st →
    (∀ v h' tk, St (i + 1) h' adr → VR B.T Φ B.Ins h' adr v d → (∀ b o, ¬ wr b → s.heap.get? b = some o → h'.get? b = some o) → Q v { s with heap := h', toks := tk }) →
    wpAny (model B.prog B.w) A (pyNext (.ref I)) (fun r s₁ => match r with
      | none => False
      | some v => wpAny (model B.prog B.w) A (letOwnedTupleGo target (.ref I) v) (fun _ s₂ => Q v s₂) E s₁) E s
  done : ∀ (s : Shared) adr (Q : Option Value → Shared → Prop) (E : Value → Shared → Prop), St ds.length s.heap adr →
    (∀ h' tk, (∀ b o, ¬ wr b → s.heap.get? b = some o → h'.get? b = some o) → Q none { s with heap := h', toks := tk }) → wpAny (model B.prog B.w) A (pyNext (.ref I)) Q E s
  self : ∀ i (s : Shared) adr (Q : Value → Shared → Prop) (E : Value → Shared → Prop), St i s.heap adr → Q (.ref I) s → wpAny (model B.prog B.w) A (pyIter (.ref I)) Q E s

section
variable {B : Base} {Φ : Addr → Prop} {A : Around} {I : Addr} {fp wrl : List Addr} {n : Nat} {P : Nat → Value → Prop} {S₀ : Nat → Heap → Prop} {ds : List D} {pairs : Bool}

/-- the places that a walk reads -/
def StW (B : Base) (Φ : Addr → Prop) (fp wrl : List Addr) (P : Nat → Value → Prop) (ds : List D) (S₀ : Nat → Heap → Prop) (i : Nat) (h : Heap) (adr : List Ent) : Prop :=
  S₀ i h ∧ (∀ b ∈ fp, b ∈ wrl ∨ (¬ B.T b ∧ ¬ Φ b ∧ Ent.live b ∉ adr ∧ ∃ o, h.get? b = some o)) ∧ ∀ j v d, P j v → ds[j]? = some d → VR B.T Φ B.Ins h adr v d

theorem Wk.ofWalks (W : Walks B.prog B.w A I fp wrl n P S₀) (hw : ∀ b ∈ wrl, Φ b) (hlen : ds.length = n) (hlive : ∀ i h b, S₀ i h → b ∈ wrl → ∃ o, h.get? b = some o)
    (hcls : ∀ i h, S₀ i h → ∃ o nm, h.get? I = some o ∧ o.cls = .type nm ∧ ownNames.contains nm = false) : Wk B Φ A pairs I (· ∈ wrl) ds (StW B Φ fp wrl P ds S₀) where
  live := fun i h adr b st hb => hlive i h b st.1 hb
  frame := fun i h h' adr adr' T' st x wd hk => by
    refine ⟨W.frame i h h' st.1 fun b hb o e => ?_, fun b hb => ?_, fun j v d p e => (st.2.2 j v d p e).exF x wd⟩
    · rcases st.2.1 b hb with hb | ⟨h1, h2, h3, h4⟩
      · exact hk b o hb e
      · exact x.keep b o e (fun t => (wd.dn b t).elim h1 h2) h3
    · rcases st.2.1 b hb with hb | ⟨h1, h2, h3, o, h4⟩
      · exact .inl hb
      · refine .inr ⟨h1, h2, fun m => ?_, x.live b o h4⟩
        rcases x.fresh _ m with m | m
        · exact h3 m
        · have m : h.get? b = none := m
          rw [h4] at m; cases m
  item := fun i d s adr st Q E target _ hd hst i0 S hQ => by
    have hi : i < n := hlen ▸ (List.getElem?_eq_some_iff.mp hd).1
    refine W.item i s _ _ hi hst.1 fun v h' tk hp hs' hk => ?_
    have wd : Wid B.T Φ (fun a => B.T a ∨ a ∈ wrl) := ⟨fun _ t => .inl t, fun a t => t.elim .inl fun m => .inr (hw a m)⟩
    have x : Ex (fun a => B.T a ∨ a ∈ wrl) s.heap adr h' adr := .of_but (fun b o e t => hk b o (fun m => t (.inr m)) e) fun b o e => by
      by_cases hb : b ∈ wrl
      · exact hlive _ _ b hs' hb
      · exact ⟨o, hk b o hb e⟩
    obtain ⟨o, nm, ho, hc, hn⟩ := hcls _ _ hs'
    refine letOwn_ok ho hc hn (hQ v h' tk ⟨hs', fun b hb => ?_, fun j v d p e => (hst.2.2 j v d p e).exF x wd⟩ ((hst.2.2 i v d hp hd).exF x wd) fun b o hb e => hk b o hb e)
    rcases hst.2.1 b hb with hb | ⟨h1, h2, h3, o, h4⟩
    · exact .inl hb
    · exact .inr ⟨h1, h2, h3, x.live b o h4⟩
  done := fun s adr Q E hst hQ => W.done s Q E (hlen ▸ hst.1) fun h' tk hk => hQ h' tk fun b o hb e => hk b o hb e
  self := fun i s adr Q E hst hQ => W.self i s Q E hst.1 hQ

theorem enum_get : ∀ (l : List D) (a : Int) (i : Nat), (enumD a l)[i]? = l[i]?.map fun d => .tup [.int (a + i), d]
  | [], _, _ => by simp [enumD]
  | d :: l, a, 0 => by simp [enumD]
  | d :: l, a, i + 1 => by
    simp only [enumD, List.getElem?_cons_succ]
    rw [enum_get l (a + 1) i]
    have : a + 1 + (i : Int) = a + ((i + 1 : Nat) : Int) := by push_cast; omega
    rw [this]
theorem enum_len : ∀ (l : List D) (a : Int), (enumD a l).length = l.length
  | [], _ => rfl
  | _ :: l, a => by simp [enumD, enum_len l (a + 1)]
theorem ints_get : ∀ (n : Nat) (a : Int) (i : Nat), (intsD a n)[i]? = if i < n then some (.int (a + i)) else none
  | 0, _, _ => by simp [intsD]
  | n + 1, a, 0 => by simp [intsD]
  | n + 1, a, i + 1 => by
    simp only [intsD, List.getElem?_cons_succ]
    rw [ints_get n (a + 1) i]
    have : a + 1 + (i : Int) = a + ((i + 1 : Nat) : Int) := by push_cast; omega
    rw [this]
    by_cases h : i < n
    · rw [if_pos h, if_pos (by omega)]
    · rw [if_neg h, if_neg (by omega)]
theorem ints_len : ∀ (n : Nat) (a : Int), (intsD a n).length = n
  | 0, _ => rfl
  | n + 1, a => by simp [intsD, ints_len n (a + 1)]

/-- enumerate over a tuple or a list -/
def StE (B : Base) (Φ : Addr → Prop) (e it : Addr) (fp : List Addr) (P : Nat → Value → Prop) (ds : List D) (S₀ : Nat → Heap → Prop) (i : Nat) (h : Heap) (adr : List Ent) : Prop :=
  (∃ old, IsEnum h e it i old) ∧ StW B Φ fp [e, it] P ds S₀ i h adr

theorem Wk.enum {it e : Addr} (Dr : Draws B.prog B.w A.in1 it fp n P S₀) (hei : e ≠ it) (hef : e ∉ fp) (hif : it ∈ fp) (hw : Φ e ∧ Φ it) {l : List D} (hlen : l.length = n) :
    Wk B Φ A true e (· ∈ [e, it]) (enumD 0 l) (StE B Φ e it fp P l S₀) where
  live := fun i h adr b st hb => by
    rcases List.mem_cons.mp hb with rfl | hb
    · obtain ⟨⟨old, x⟩, _⟩ := st; exact ⟨_, x⟩
    · rw [List.mem_singleton.mp hb]; exact Dr.live i h st.2.1
  frame := fun i h h' adr adr' T' st x wd hk => by
    obtain ⟨⟨old, he⟩, st⟩ := st
    refine ⟨⟨old, hk e _ (by simp) he⟩, Dr.frame i h h' st.1 fun b hb o q => ?_, fun b hb => ?_, fun j v d p q => (st.2.2 j v d p q).exF x wd⟩
    · rcases st.2.1 b hb with hb | ⟨h1, h2, h3, h4⟩
      · exact hk b o hb q
      · exact x.keep b o q (fun t => (wd.dn b t).elim h1 h2) h3
    · rcases st.2.1 b hb with hb | ⟨h1, h2, h3, o, h4⟩
      · exact .inl hb
      · refine .inr ⟨h1, h2, fun m => ?_, x.live b o h4⟩
        rcases x.fresh _ m with m | m
        · exact h3 m
        · have m : h.get? b = none := m
          rw [h4] at m; cases m
  item := fun i d s adr st Q E target ht hd hst i0 S hQ => by
    obtain ⟨⟨old, he⟩, hst⟩ := hst
    rw [enum_get] at hd
    obtain ⟨d₀, hd₀, rfl⟩ := Option.map_eq_some_iff.mp hd
    have hi : i < n := hlen ▸ (List.getElem?_eq_some_iff.mp hd₀).1
    refine wpAny_pyNext_enum_itemD Dr he hst.1 hi hei hef fun x h' tk hp ho hs' hT hsz hk => ?_
    have helt : e < s.heap.objs.size := Heap.lt_size he
    have hilt : it < s.heap.objs.size := by obtain ⟨_, y⟩ := Dr.live _ _ hst.1; exact Heap.lt_size y
    cases target with
    | Tuple ts k pos =>
      refine wpAny_letOwnedTupleGo_enum ho fun h₂ he₂ hs₂ => ?_
      have hk₂ : ∀ b o, b ∉ [e, it] → s.heap.get? b = some o → h₂.get? b = some o := fun b o hb q => (hs₂.2 b fun r => hb (by simp [r])).trans (hk b o (fun r => hb (by simp [r])) (fun r => hb (by simp [r])) q)
      have hsz₂ : h₂.get? s.heap.objs.size = some { cls := .type "tuple", data := .seq #[.int i tk, x] } := (hs₂.2 _ (Nat.ne_of_gt helt)).trans hT
      have wd : Wid B.T Φ (fun a => B.T a ∨ a ∈ [e, it]) := ⟨fun _ t => .inl t, fun a t => t.elim .inl fun m => by
        rcases List.mem_cons.mp m with rfl | m
        · exact .inr hw.1
        · rw [List.mem_singleton.mp m]; exact .inr hw.2⟩
      have st₂ : S₀ (i + 1) h₂ := Dr.frame _ _ _ hs' fun b hb o q => (hs₂.2 b fun r => hef (r ▸ hb)).trans q
      have ex : Ex (fun a => B.T a ∨ a ∈ [e, it]) s.heap adr h₂ adr := .of_but (fun b o q t => hk₂ b o (fun m => t (.inr m)) q) fun b o q => by
        by_cases hb : b ∈ [e, it]
        · rcases List.mem_cons.mp hb with rfl | hb
          · exact ⟨_, he₂⟩
          · rw [List.mem_singleton.mp hb]; exact Dr.live _ _ st₂
        · exact ⟨o, hk₂ b o hb q⟩
      have rx := (hst.2.2 i x d₀ hp hd₀).exF ex wd
      have z : Fz B.T Φ adr s.heap.objs.size := new_fz i0 S (size_none _)
      have hI : IsEnum h₂ e it ((i + 1 : Nat) : Int) x := by
        have : ((i + 1 : Nat) : Int) = (i : Int) + 1 := by push_cast; rfl
        rw [this]; exact he₂
      refine hQ _ h₂ _ ⟨⟨x, hI⟩, st₂, fun b hb => ?_, fun j v d p q => (hst.2.2 j v d p q).exF ex wd⟩ ?_ hk₂
      · rcases hst.2.1 b hb with hb | ⟨h1, h2, h3, o, h4⟩
        · exact .inl hb
        · exact .inr ⟨h1, h2, h3, ex.live b o h4⟩
      · have e0 : (0 : Int) + (i : Int) = i := by omega
        rw [e0]
        exact .tup (vs := [.int i tk, x]) (n := 0) hsz₂ z (.cons (.int _ _) (.cons rx .nil)) (by show 2 ≤ LIM; decide)
    | _ => exact absurd (ht rfl) (by simp [isTuple])
  done := fun s adr Q E hst hQ => by
    obtain ⟨⟨old, he⟩, hst⟩ := hst
    rw [enum_len, hlen] at hst he
    exact wpAny_pyNext_enum_endD Dr he hst.1 fun h' hx => hQ h' s.toks fun b o hb q => hx b o (fun r => hb (by simp [r])) q
  self := fun i s adr Q E hst hQ => by
    obtain ⟨⟨old, he⟩, _⟩ := hst
    exact wpAny_pyIter_enum he hQ
end
end Mine
/-! ## LC -/
set_option autoImplicit false
set_option maxRecDepth 100000
namespace Mine
open PySem PySem.W PyProof.Rows PySem.Calls

structure IterEnd (B : Base) (Φ : Addr → Prop) (A : Around) (pairs : Bool) (s : Shared) (adr : List Ent) (st' : Sto) (ds : List D) (lk : Option Nat) (s₂ : Shared) (I : Addr) (wr : Addr → Prop) (St : (Addr → Prop) → Nat → Heap → List Ent → Prop) (adr₂ : List Ent) (h₁ : Heap) : Prop where
  post : Post B Φ s adr s₂ adr₂ st'
  lks : ∀ n, lk = some n → st'[n]? = some (.lst ds)
  up : ∀ a o, h₁.get? a = some o → s₂.heap.get? a = some o
  dn : ∀ a o, s.heap.get? a = some o → ∃ o', h₁.get? a = some o'
  ex1 : Ex B.T s.heap adr h₁ adr₂
  inv1 : B.Inv h₁
  sr1 : SR B Φ h₁ adr₂ st'
  wrs : ∀ b, wr b → h₁.get? b = none ∧ ∃ o, s₂.heap.get? b = some o
  len : ds.length ≤ 4194304
  walk : ∀ Φ', (∀ a, wr a → Φ' a) → (∀ a o, h₁.get? a = some o → Φ' a → Φ a) → Wk B Φ' A pairs I wr ds (St Φ') ∧ St Φ' 0 s₂.heap (lockA adr₂ lk)
  tk : 0 ≤ s₂.toks

def IsIter (B : Base) (Φ : Addr → Prop) (A : Around) (pairs : Bool) (s : Shared) (adr : List Ent) (st' : Sto) (ds : List D) (lk : Option Nat) (it : Value) (s₂ : Shared) : Prop :=
  ∃ I wr St adr₂ h₁, it = .ref I ∧ IterEnd B Φ A pairs s adr st' ds lk s₂ I wr St adr₂ h₁

section
variable {B : Base} {Γ : Gam} {K n : Nat} {Φ : Addr → Prop} {A : Around} {env : Env} {sc : Scope} {v : Vars} {s s₁ : Shared} {adr adr₁ : List Ent} {st st₁ st' : Sto} {d : D} {ds : List D} {b : Bool} {pairs : Bool}

theorem IsIter.from {lk : Option Nat} {it : Value} {s₂ : Shared} (P : Post B Φ s adr s₁ adr₁ st₁) (x : IsIter B Φ A pairs s₁ adr₁ st' ds lk it s₂) : IsIter B Φ A pairs s adr st' ds lk it s₂ := by
  obtain ⟨I, wr, St, adr₂, h₁, e, x⟩ := x
  refine ⟨I, wr, St, adr₂, h₁, e, P.trans x.post, x.lks, x.up, fun a o q => ?_, P.ex.trans x.ex1, x.inv1, x.sr1, x.wrs, x.len, x.walk, x.tk⟩
  obtain ⟨o', q'⟩ := P.ex.live a o q
  exact x.dn a o' q'

/-- one pushed iterator -/
theorem iter_push {lk : Option Nat} {o : Obj} {St : (Addr → Prop) → Nat → Heap → List Ent → Prop} (O : OK B Φ env sc v s adr st) (hl : ∀ n, lk = some n → st[n]? = some (.lst ds)) (hlen : ds.length ≤ 4194304)
    (hw : ∀ Φ', Φ' s.heap.objs.size → (∀ a o, s.heap.get? a = some o → Φ' a → Φ a) → Wk B Φ' A pairs s.heap.objs.size (· ∈ [s.heap.objs.size]) ds (St Φ') ∧ St Φ' 0 (s.heap.push o) (lockA adr lk)) (hf : o.isFreed = false := by rfl) :
    IsIter B Φ A pairs s adr st ds lk (.ref s.heap.objs.size) { s with heap := s.heap.push o } := by
  refine ⟨s.heap.objs.size, (· ∈ [s.heap.objs.size]), St, adr, s.heap, rfl, Post.keep O.inv O.sr (keep_push o) s.toks, hl, keep_push o, fun a o e => ⟨o, e⟩, .refl, O.inv, O.sr, fun b hb => ?_, hlen, fun Φ' h1 h2 => hw Φ' (h1 _ (by simp)) h2, O.tk⟩
  rw [List.mem_singleton.mp hb]
  exact ⟨size_none _, _, Heap.get?_push_size _ hf⟩

theorem walk_list {lk : Option Nat} {a : Addr} {vs : List Value} {o : Obj} {k : Nat} (hh : A.handled = none) (O : OK B Φ env sc v s adr st) (ho : s.heap.get? a = some o) (hc : o.cls = .type "list") (hd : o.data = .seq vs.toArray k) (ht : ¬ B.T a) (hp : ¬ Φ a) (hm : Ent.live a ∉ lockA adr lk)
    (r : VRs B.T Φ B.Ins s.heap adr vs ds) (hl : ∀ n, lk = some n → st[n]? = some (.lst ds)) (hlen : ds.length ≤ 4194304) :
    wpAny (model B.prog B.w) A (pyIter (.ref a)) (fun it s₂ => IsIter B Φ A pairs s adr st ds lk it s₂) NoE s := by
  have hL : s.heap.IsList a vs.toArray := ⟨o, ho, hc, k, hd⟩
  have hne : a ≠ s.heap.objs.size := Nat.ne_of_lt (Heap.lt_size ho)
  refine wpAny_pyIter_list hL (iter_push (St := fun Φ' => StW B Φ' [s.heap.objs.size, a] [s.heap.objs.size] (fun i v => vs.toArray[i]? = some v) ds (fun i h => h.IsListIter s.heap.objs.size a i ∧ h.IsList a vs.toArray)) O hl hlen fun Φ' h1 h2 => ⟨?_, ?_⟩)
  · refine Wk.ofWalks (Walks.list hh _ a hne vs.toArray) (fun b hb => by rw [List.mem_singleton.mp hb]; exact h1) (by rw [List.size_toArray, r.length]) (fun i h b hs hb => ?_) fun i h hs => ?_
    · rw [List.mem_singleton.mp hb]; obtain ⟨o, x, _⟩ := hs.1; exact ⟨o, x⟩
    · obtain ⟨o, x, y, _⟩ := hs.1; exact ⟨o, _, x, y, by decide⟩
  · refine ⟨⟨⟨_, Heap.get?_push_size _ rfl, rfl, rfl⟩, hL.push _⟩, fun b hb => ?_, fun j u d hj hdj => ?_⟩
    · rcases List.mem_cons.mp hb with rfl | hb
      · exact .inl (by simp)
      · rw [List.mem_singleton.mp hb]
        exact .inr ⟨ht, fun p => hp (h2 a _ ho p), hm, _, keep_push _ _ _ ho⟩
    · obtain ⟨d', hd', rv⟩ := r.get' (by simpa using hj)
      rw [hdj] at hd'; cases hd'
      exact ((rv.re (fun _ _ _ t => .inl t) fun a o e p => .inr (h2 a o e p)).ex (.of_keep (keep_push _))).sm (same_lock adr lk)

theorem walk_tup {a : Addr} {vs : List Value} {k : Nat} (hh : A.handled = none) (O : OK B Φ env sc v s adr st) (ho : s.heap.get? a = some (tupO vs k)) (z : Fz B.T Φ adr a)
    (r : VRs B.T Φ B.Ins s.heap adr vs ds) (hlen : ds.length ≤ 4194304) :
    wpAny (model B.prog B.w) A (pyIter (.ref a)) (fun it s₂ => IsIter B Φ A pairs s adr st ds none it s₂) NoE s := by
  have hL : s.heap.IsTuple a vs.toArray := ⟨_, ho, rfl, k, rfl⟩
  have hne : a ≠ s.heap.objs.size := Nat.ne_of_lt (Heap.lt_size ho)
  refine wpAny_pyIter_tuple hL (iter_push (St := fun Φ' => StW B Φ' [s.heap.objs.size, a] [s.heap.objs.size] (fun i v => vs.toArray[i]? = some v) ds (fun i h => h.IsTupleIter s.heap.objs.size a i ∧ h.IsTuple a vs.toArray)) O (fun n e => by cases e) hlen fun Φ' h1 h2 => ⟨?_, ?_⟩)
  · refine Wk.ofWalks (Walks.tuple hh _ a hne vs.toArray) (fun b hb => by rw [List.mem_singleton.mp hb]; exact h1) (by rw [List.size_toArray, r.length]) (fun i h b hs hb => ?_) fun i h hs => ?_
    · rw [List.mem_singleton.mp hb]; obtain ⟨o, x, _⟩ := hs.1; exact ⟨o, x⟩
    · obtain ⟨o, x, y, _⟩ := hs.1; exact ⟨o, _, x, y, by decide⟩
  · refine ⟨⟨⟨_, Heap.get?_push_size _ rfl, rfl, rfl⟩, hL.push _⟩, fun b hb => ?_, fun j u d hj hdj => ?_⟩
    · rcases List.mem_cons.mp hb with rfl | hb
      · exact .inl (by simp)
      · rw [List.mem_singleton.mp hb]
        exact .inr ⟨z.t, fun p => z.p (h2 a _ ho p), z.live, _, keep_push _ _ _ ho⟩
    · obtain ⟨d', hd', rv⟩ := r.get' (by simpa using hj)
      rw [hdj] at hd'; cases hd'
      exact (rv.re (fun _ _ _ t => .inl t) fun a o e p => .inr (h2 a o e p)).ex (.of_keep (keep_push _))

theorem walk_str {x : Str} {t : Tok} {l : List Nat} (hh : A.handled = none) (O : OK B Φ env sc v s adr st) (e1 : x.cps.toList = l) (l1 : l.length ≤ LIM) (c1 : ascii l = true) :
    wpAny (model B.prog B.w) A (pyIter (.str x t)) (fun it s₂ => IsIter B Φ A pairs s adr st (chars l) none it s₂) NoE s := by
  have hall : x.cps.all (· < 128) = true := by
    rw [← Array.all_toList, e1]
    exact c1
  have hsz : x.cps.size = l.length := by rw [← e1]; simp
  refine wpAny_pyIter_ascii hall (iter_push (St := fun Φ' => StW B Φ' [s.heap.objs.size] [s.heap.objs.size] (SignAt x) (chars l) (fun i h => h.IsStrIter s.heap.objs.size "str_ascii_iterator" x t i)) O (fun n e => by cases e) (by unfold chars; rw [List.length_map]; unfold LIM at l1; omega) fun Φ' h1 h2 => ⟨?_, ?_⟩)
  · refine Wk.ofWalks (Walks.strAscii hh _ x t) (fun b hb => by rw [List.mem_singleton.mp hb]; exact h1) (by unfold chars; rw [List.length_map, hsz]) (fun i h b hs hb => ?_) fun i h hs => ?_
    · rw [List.mem_singleton.mp hb]; obtain ⟨o, x, _⟩ := hs; exact ⟨o, x⟩
    · obtain ⟨o, x, y, _⟩ := hs; exact ⟨o, _, x, y, by decide⟩
  · refine ⟨⟨_, Heap.get?_push_size _ rfl, rfl, rfl⟩, fun b hb => ?_, fun j u d hj hdj => ?_⟩
    · exact .inl hb
    · obtain ⟨c, t', hc, rfl⟩ := hj
      have hc' : l[j]? = some c := by rw [← e1]; simpa using hc
      unfold chars at hdj
      rw [List.getElem?_map, hc'] at hdj
      cases hdj
      refine .str _ _ _ rfl (by show 1 ≤ LIM; decide) ?_
      have := List.all_eq_true.mp c1 c (List.mem_of_getElem? hc')
      unfold ascii
      simpa using this

theorem walk_rng {a : Addr} {x y : Int} {t u w : Tok} (hh : A.handled = none) (O : OK B Φ env sc v s adr st) (ho : s.heap.get? a = some { cls := .type "range", data := .fields #[.int x t, .int y u, .int 1 w] }) (hx : x.natAbs ≤ LIM) (hy : y.natAbs ≤ LIM) :
    wpAny (model B.prog B.w) A (pyIter (.ref a)) (fun it s₂ => IsIter B Φ A pairs s adr st (intsD x (y - x).toNat) none it s₂) NoE s := by
  unfold LIM at hx hy
  have hsm := small_one (a := x) (b := y) (by omega) (by omega) (by omega) (by omega)
  have hsz : Builtin.Range.rangeSize x y 1 = ((y - x).toNat : Int) := by rw [rangeSize_one]; split <;> omega
  have hlen : (intsD x (y - x).toNat).length ≤ 4194304 := by rw [ints_len]; omega
  refine wpAny_pyIter_range (t := t) (u := u) (v := w) ho hsm (iter_push (St := fun Φ' => StW B Φ' [s.heap.objs.size] [s.heap.objs.size] (fun i v => ∃ t, v = .int (x + i * 1) t) (intsD x (y - x).toNat)
    (fun i h => IsRangeIter h s.heap.objs.size (x + (i : Nat) * 1) (((y - x).toNat : Int) - (i : Nat)) 1)) O (fun n e => by cases e) hlen fun Φ' h1 h2 => ⟨?_, ?_⟩)
  · refine Wk.ofWalks (Walks.range hh _ x 1 (y - x).toNat) (fun b hb => by rw [List.mem_singleton.mp hb]; exact h1) (ints_len _ _) (fun i h b hs hb => ?_) fun i h hs => ?_
    · rw [List.mem_singleton.mp hb]; exact ⟨_, hs⟩
    · exact ⟨_, _, hs, rfl, by decide⟩
  · refine ⟨?_, fun b hb => .inl hb, fun j u d hj hdj => ?_⟩
    · have e1 : x + ((0 : Nat) : Int) * 1 = x := by simp
      have e2 : ((y - x).toNat : Int) - ((0 : Nat) : Int) = Builtin.Range.rangeSize x y 1 := by rw [hsz]; simp
      show IsRangeIter _ s.heap.objs.size (x + ((0 : Nat) : Int) * 1) (((y - x).toNat : Int) - ((0 : Nat) : Int)) 1
      rw [e1, e2]
      exact Heap.get?_push_size _ rfl
    · obtain ⟨t', rfl⟩ := hj
      rw [ints_get] at hdj
      split at hdj
      · cases hdj
        rw [Int.mul_one]
        exact .int _ _
      · cases hdj

theorem walk_ok {u : Value} {x : D} {lk : Option Nat} (hh : A.handled = none) (O : OK B Φ env sc v s adr st) (r : VR B.T Φ B.Ins s.heap adr u x) (e : st.walk x = some (ds, lk)) :
    wpAny (model B.prog B.w) A (pyIter u) (fun it s₂ => IsIter B Φ A pairs s adr st ds lk it s₂) NoE s := by
  cases r with
  | lst ho z r b =>
    simp only [Sto.walk] at e; cases e
    exact walk_list hh O ho rfl rfl z.t z.p z.live r (fun n e => by cases e) (by unfold LIM at b; omega)
  | tup ho z r b =>
    simp only [Sto.walk] at e; cases e
    exact walk_tup hh O ho z r (by unfold LIM at b; omega)
  | str y t l e1 l1 c1 =>
    simp only [Sto.walk] at e; cases e
    exact walk_str hh O e1 l1 c1
  | rng ho z hx hy =>
    simp only [Sto.walk] at e; cases e
    exact walk_rng hh O ho hx hy
  | @ref en n he =>
    simp only [Sto.walk] at e
    split at e
    · rename_i l hl
      cases e
      obtain ⟨a, vs, m, q1, q2, q3, q4⟩ := O.sr.lst n ds hl
      rw [q1] at he; cases he
      have hA := O.sr.out a ⟨_, List.mem_of_getElem? q1, rfl⟩
      exact walk_list hh O q2 rfl rfl (fun t => hA.1 (B.T_old _ t)) hA.2 (lock_live O.sr q1).1 q3 (fun n' e => by cases e; exact hl) (by unfold LIM at q4; omega)
    · cases e
  | _ => simp [Sto.walk] at e
end
end Mine
/-! ## LD -/
set_option autoImplicit false
set_option maxRecDepth 100000
namespace Mine
open PySem PySem.W PyProof.Rows PySem.Calls

section
variable {T T' Φ : Addr → Prop} {Ins : InsT} {h h' : Heap} {adr : List Ent}
mutual
theorem VR.kp (k : ∀ a o, h.get? a = some o → ¬ T a → h'.get? a = some o) : ∀ {v : Value} {d : D}, VR T Φ Ins h adr v d → VR T Φ Ins h' adr v d
  | _, _, .none => .none
  | _, _, .bool b => .bool b
  | _, _, .int i t => .int i t
  | _, _, .str s t l e b c => .str s t l e b c
  | _, _, .tup e z r b => .tup (k _ _ e z.t) z (VRs.kp k r) b
  | _, _, .lst e z r b => .lst (k _ _ e z.t) z (VRs.kp k r) b
  | _, _, .scr e c d z r b => .scr (k _ _ e z.t) c d z (VRs.kp k r) b
  | _, _, .ref e => .ref e
  | _, _, .app e z i => .app (k _ _ e z.t) z i
  | _, _, .dic e z n => .dic (k _ _ e z.t) z n
  | _, _, .pat e e' z z' c q => .pat (k _ _ e z.t) (k _ _ e' z'.t) z z' c q
  | _, _, .rng e z p q => .rng (k _ _ e z.t) z p q
  | _, _, .inst e dd e' i z z' r => .inst (k _ _ e z.t) dd (k _ _ e' z'.t) i z z' (VRf.kp k r)
theorem VRs.kp (k : ∀ a o, h.get? a = some o → ¬ T a → h'.get? a = some o) : ∀ {v : List Value} {d : List D}, VRs T Φ Ins h adr v d → VRs T Φ Ins h' adr v d
  | _, _, .nil => .nil
  | _, _, .cons a r => .cons (VR.kp k a) (VRs.kp k r)
theorem VRf.kp (k : ∀ a o, h.get? a = some o → ¬ T a → h'.get? a = some o) : ∀ {v : List (Str × Value)} {d : List (Str × D)}, VRf T Φ Ins h adr v d → VRf T Φ Ins h' adr v d
  | _, _, .nil => .nil
  | _, _, .cons a r => .cons (VR.kp k a) (VRf.kp k r)
end
end

section
variable {B : Base} {Φ Φ' wr : Addr → Prop} {h h₁ h' : Heap} {adr adr' : List Ent} {env : Env} {sc : Scope} {v : Vars} {st : Sto} {s s' : Shared}

/-- the walk's own places are let go -/
theorem VR.fin {u : Value} {d : D} (hw : ∀ a, wr a → Φ' a) (hP : ∀ a, Φ a → Φ' a) (k : ∀ a o, ¬ wr a → h.get? a = some o → h'.get? a = some o) (r : VR B.T Φ' B.Ins h adr u d) : VR B.T Φ B.Ins h' adr u d :=
  ((r.re (T' := fun a => B.T a ∨ wr a) (Φ' := Φ') (fun a _ _ t => t.elim .inl fun w => .inr (hw a w)) fun _ _ _ p => .inr p).kp fun a o e t => k a o (fun w => t (.inr w)) e).re (fun _ _ _ t => .inl (.inl t)) fun a _ _ p => .inr (hP a p)
theorem VRs.fin {u : List Value} {d : List D} (hw : ∀ a, wr a → Φ' a) (hP : ∀ a, Φ a → Φ' a) (k : ∀ a o, ¬ wr a → h.get? a = some o → h'.get? a = some o) (r : VRs B.T Φ' B.Ins h adr u d) : VRs B.T Φ B.Ins h' adr u d :=
  ((r.re (T' := fun a => B.T a ∨ wr a) (Φ' := Φ') (fun a _ _ t => t.elim .inl fun w => .inr (hw a w)) fun _ _ _ p => .inr p).kp fun a o e t => k a o (fun w => t (.inr w)) e).re (fun _ _ _ t => .inl (.inl t)) fun a _ _ p => .inr (hP a p)

theorem SR.fin (hw : ∀ a, wr a → Φ' a) (hP : ∀ a, Φ a → Φ' a) (hd : ∀ a, Φ a → ¬ wr a) (k : ∀ a o, ¬ wr a → h.get? a = some o → h'.get? a = some o) (S : SR B Φ' h adr st) : SR B Φ h' adr st := by
  have ok : ∀ {i : Nat} {e : Ent}, adr[i]? = some e → ¬ wr e.at := fun he w => (S.out _ ⟨_, List.mem_of_getElem? he, rfl⟩).2 (hw _ w)
  refine ⟨S.len, fun i l e => ?_, fun i e => ?_, fun i e => ?_, S.inj, fun a m => ⟨(S.out a m).1, fun p => (S.out a m).2 (hP a p)⟩, fun a p => ?_, fun a p => S.phiO a (hP a p)⟩
  · obtain ⟨a, vs, n, q1, q2, q3, q4⟩ := S.lst i l e
    exact ⟨a, vs, n, q1, k _ _ (ok q1) q2, q3.fin hw hP k, q4⟩
  · obtain ⟨a, q1, q2⟩ := S.sent i e
    exact ⟨a, q1, k _ _ (ok q1) q2⟩
  · obtain ⟨a, vs, n, q1, q2⟩ := S.dead i e
    exact ⟨a, vs, n, q1, k _ _ (ok q1) q2⟩
  · obtain ⟨o, e⟩ := S.phi a (hP a p)
    exact ⟨o, k _ _ (hd a p) e⟩

theorem FR.fin (hw : ∀ a, wr a → Φ' a) (hP : ∀ a, Φ a → Φ' a) (hd : ∀ a, reach env a → ¬ wr a) (k : ∀ a o, ¬ wr a → h.get? a = some o → h'.get? a = some o) (F : FR B Φ' h adr env sc v) : FR B Φ h' adr env sc v := by
  obtain ⟨m, hn, hm⟩ := F.ns
  have hc : ∀ x c, env.cells.lookup x = some c → ¬ wr c := fun x c e => hd c (.inr ⟨x, e⟩)
  refine ⟨F.kind, F.glob, F.blt, F.code, F.loc, F.cell, F.free, F.gl, ⟨m, ?_, fun y d hk hl => ?_⟩, fun y hk => ?_, F.lfree, F.lnew, F.cfree, fun y c e => ?_, F.lc, F.cinj⟩
  · obtain ⟨o, es, ep, e, r⟩ := hn
    exact ⟨o, es, ep, k _ _ (hd _ (.inl rfl)) e, r⟩
  · obtain ⟨u, e, q⟩ := hm y d hk hl
    exact ⟨u, e, q.fin hw hP k⟩
  · obtain ⟨c, ov, e, ⟨o, ho, hd'⟩, q⟩ := F.cl y hk
    refine ⟨c, ov, e, ⟨o, k _ _ (hc y c e) ho, hd'⟩, fun d hl => ?_⟩
    obtain ⟨u, eu, qu⟩ := q d hl
    exact ⟨u, eu, qu.fin hw hP k⟩
  · obtain ⟨o, ho⟩ := F.clive y c e
    exact ⟨o, k _ _ (hc y c e) ho⟩

theorem Inv.fin (hO : ∀ a, wr a → ¬ B.old a) (k : ∀ a o, ¬ wr a → h.get? a = some o → h'.get? a = some o) (i : B.Inv h) : B.Inv h' := B.step _ _ i fun a o ho e => k a o (fun w => hO a w ho) e

/-- more places of frames, all of them new since `h₁` -/
theorem SR.wide (S : SR B Φ h₁ adr st) (up : ∀ a o, h₁.get? a = some o → h.get? a = some o) (hP : ∀ a o, h₁.get? a = some o → Φ' a → Φ a) (hL : ∀ a, Φ' a → ∃ o, h.get? a = some o) (hO : ∀ a, Φ' a → ¬ B.old a) : SR B Φ' h adr st := by
  refine ⟨S.len, fun i l e => ?_, fun i e => ?_, fun i e => ?_, S.inj, fun a m => ⟨(S.out a m).1, fun p => ?_⟩, hL, hO⟩
  · obtain ⟨a, vs, n, q1, q2, q3, q4⟩ := S.lst i l e
    exact ⟨a, vs, n, q1, up _ _ q2, (q3.re (fun _ _ _ t => .inl t) fun a o e p => .inr (hP a o e p)).ex (.of_keep up), q4⟩
  · obtain ⟨a, q1, q2⟩ := S.sent i e
    exact ⟨a, q1, up _ _ q2⟩
  · obtain ⟨a, vs, n, q1, q2⟩ := S.dead i e
    exact ⟨a, vs, n, q1, up _ _ q2⟩
  · obtain ⟨e, me, he⟩ := m
    obtain ⟨i, hi, q⟩ := List.getElem_of_mem me
    obtain ⟨o, ho, _⟩ := S.at (i := i) (e := e) (by rw [List.getElem?_eq_getElem hi, q])
    rw [he] at ho
    exact (S.out a ⟨e, me, he⟩).2 (hP a o ho p)
end
end Mine
/-! ## LE0 -/
set_option autoImplicit false
set_option maxRecDepth 100000
namespace Mine
open PySem PySem.W PyProof.Rows PySem.Calls

section
variable {B : Base} {Γ : Gam} {K n : Nat} {Φ : Addr → Prop} {A : Around} {env : Env} {sc : Scope} {v : Vars} {s : Shared} {adr : List Ent} {st : Sto} {pairs : Bool}

theorem empty_dict {prog : Program} {w : World} {h : Heap} {a : Addr} {ep : Nat} (ho : h.get? a = some { cls := .type "dict", data := .dict #[] ep }) : h.DictAt (strKind prog w) a [] ep := by
  refine ⟨_, #[], ho, ?_, rfl, ?_, ?_, List.nodup_nil⟩
  · exact ⟨rfl, rfl, rfl⟩
  · intro e he; simp at he
  · exact .nil

/-- the walk over an empty dict's items -/
theorem walk_items {a u : Addr} {ep : Nat} (hh : A.handled = none) (O : OK B Φ env sc v s adr st) (ho : s.heap.get? a = some { cls := .type "dict", data := .dict #[] ep }) (z : Fz B.T Φ adr a) (hu : s.heap.get? u = some { cls := .type "dict_items", data := .fields #[.ref a] }) :
    wpAny (model B.prog B.w) A (pyIter (.ref u)) (fun it s₂ => IsIter B Φ A pairs s adr st [] none it s₂) NoE s := by
  refine wpAny_pyIter_items (knd := strKind B.prog B.w) (kvs := []) ⟨_, hu, rfl, rfl⟩ (empty_dict ho) (iter_push (St := fun Φ' i h adr => i = 0 ∧ IsItemIter h s.heap.objs.size a 0 0 ep .none .none ∧ h.get? a = some { cls := .type "dict", data := .dict #[] ep } ∧ ¬ B.T a ∧ ¬ Φ' a ∧ Ent.live a ∉ adr) O (fun n q => by cases q) (Nat.zero_le _) fun Φ' h1 h2 => ⟨⟨?_, ?_, ?_, ?_, ?_⟩, rfl, Heap.get?_push_size _ rfl, keep_push _ _ _ ho, z.t, fun p => z.p (h2 a _ ho p), z.live⟩)
  · rintro i h adr b ⟨_, q, _⟩ hb
    rw [List.mem_singleton.mp hb]; exact ⟨_, q⟩
  · rintro i h h' adr adr' T' ⟨q1, q2, q3, q4, q5, q6⟩ x wd hk
    refine ⟨q1, hk _ _ (List.mem_singleton.mpr rfl) q2, x.keep _ _ q3 (fun t => (wd.dn a t).elim q4 q5) q6, q4, q5, fun m => ?_⟩
    rcases x.fresh _ m with m | m
    · exact q6 m
    · have m : h.get? a = none := m
      rw [q3] at m; cases m
  · intro i d s adr st Q E t _ hd
    simp at hd
  · rintro s' adr Q E ⟨_, q2, q3, _⟩ hQ
    exact wpAny_pyNext_items_end (knd := strKind B.prog B.w) (kvs := []) hh q2 (empty_dict q3) rfl fun h' he => hQ h' s'.toks fun b o hb e => he b o (fun h => hb (by simp [h])) e
  · rintro i s' adr Q E ⟨_, q2, _⟩ hQ
    exact kcp_self q2 hQ
end
end Mine
/-! ## LE -/
set_option autoImplicit false
set_option maxRecDepth 100000
namespace Mine
open PySem PySem.W PyProof.Rows PySem.Calls

/-- the states behind a step that may change the frame -/
structure Went (B : Base) (Φ : Addr → Prop) (env : Env) (sc : Scope) (v : Vars) (s : Shared) (adr : List Ent) (s' : Shared) (adr' : List Ent) (st' : Sto) : Prop where
  ok : OK B Φ env sc v s' adr' st'
  ex : Ex (TO B env sc) s.heap adr s'.heap adr'
  os : s'.os = s.os
  gens : s'.gens = s.gens

section
variable {B : Base} {Γ : Gam} {K n : Nat} {Φ : Addr → Prop} {A : Around} {env : Env} {sc : Scope} {v v' v'' : Vars} {s s₁ s₂ : Shared} {adr adr₁ adr₂ : List Ent} {st st₁ st₂ st' : Sto} {d : D} {ds : List D} {b : Bool}

theorem Went.refl (O : OK B Φ env sc v s adr st) : Went B Φ env sc v s adr s adr st := ⟨O, .refl, rfl, rfl⟩
theorem Went.trans (x : Went B Φ env sc v s adr s₁ adr₁ st₁) (y : Went B Φ env sc v' s₁ adr₁ s₂ adr₂ st₂) : Went B Φ env sc v' s adr s₂ adr₂ st₂ :=
  ⟨y.ok, x.ex.trans y.ex, y.os.trans x.os, y.gens.trans x.gens⟩
theorem Went.post (O : OK B Φ env sc v s adr st) (P : Post B Φ s adr s₁ adr₁ st₁) (t : 0 ≤ s₁.toks) : Went B Φ env sc v s adr s₁ adr₁ st₁ := ⟨O.next P t, P.ex.up fun _ h => .inl h, P.os, P.gens⟩

/-- a name is set -/
theorem set_ok {M : Model} {x : Str} {u : Value} (O : OK B Φ env sc v s adr st) (hk : kindOf sc x = some .local ∨ kindOf sc x = some .cell) (r : VR B.T Φ B.Ins s.heap adr u d) {Q : Unit → Shared → Prop} {E : Value → Shared → Prop}
    (h : ∀ s', Went B Φ env sc (setVar v x d) s adr s' adr st → Q () s') : wpAny M A (storeName env x u) Q E s :=
  wpAny_mono (wpAny_toks_of O.tk (store_ok O.inv O.sr O.own O.fr hk r (fun _ s' => Went B Φ env sc (setVar v x d) s adr s' adr st ∨ (∃ P : PostF B Φ env sc s adr s' adr st, FR B Φ s'.heap adr env sc (setVar v x d))) NoE fun s' P F => .inr ⟨P, F⟩))
    (fun _ s' ⟨tk, q⟩ => q.elim (h s') fun ⟨P, F⟩ => h s' ⟨⟨P.inv, P.sr, F, O.own, tk⟩, P.ex, P.os, P.gens⟩) fun _ _ e => e.2.elim

theorem bound1_of {x : Str} {p : Pos} (h : bound1 sc (.Name x p) = true) : kindOf sc x = some .local ∨ kindOf sc x = some .cell := by
  unfold bound1 at h
  simpa using h

theorem assignEach_name {x : Str} {p : Pos} {ts : List Expr} : assignEach (.Name x p :: ts) env = (false, fun v => assign (.Name x p) env v) :: assignEach ts env := rfl

theorem bindNames_ok {M : Model} : ∀ {ts : List Expr} {ds : List D} {us : List Value} {v : Vars} {s : Shared}, ts.all (bound1 sc) = true → bindNames ts ds v = some v' → OK B Φ env sc v s adr st → VRs B.T Φ B.Ins s.heap adr us ds →
    ∀ {Q : Unit → Shared → Prop} {E : Value → Shared → Prop}, (∀ s', Went B Φ env sc v' s adr s' adr st → Q () s') → wpAny M A (assignInOrder ((assignEach ts env).map (·.2)) us) Q E s
  | [], [], us, v, s, _, e, O, r, Q, E, h => by
    cases r
    simp only [bindNames] at e
    cases e
    exact wpAny_pure (h s (.refl O))
  | t :: ts, ds, us, v, s, hb, e, O, r, Q, E, h => by
    rw [List.all_cons, Bool.and_eq_true] at hb
    cases t with
    | Name x p =>
      cases ds with
      | nil => simp [bindNames] at e
      | cons d ds =>
        cases r with
        | cons a r =>
        simp only [bindNames] at e
        rw [assignEach_name]
        show wpAny M A (do holding _ (assign (.Name x p) env _); assignInOrder _ _) Q E s
        refine wpAny_bind (wpAny_holding (wpAny_assign_Name (set_ok O (bound1_of hb.1) a fun s' w => ?_)))
        exact bindNames_ok hb.2 e w.ok (r.exF w.ex (wid_own O.own)) fun s'' w' => h s'' (w.trans w')
    | _ => simp [bindNames] at e
  | [], d :: ds, us, v, s, _, e, O, r, Q, E, h => by simp [bindNames] at e

theorem each_plain : ∀ {ts : List Expr}, ts.all (bound1 sc) = true → (assignEach ts env).findIdx? (·.1) = none ∧ (assignEach ts env).length = ts.length
  | [], _ => ⟨rfl, rfl⟩
  | t :: ts, h => by
    rw [List.all_cons, Bool.and_eq_true] at h
    cases t with
    | Name x p =>
      have := each_plain (ts := ts) h.2
      rw [assignEach_name]
      refine ⟨?_, by simp [this.2]⟩
      rw [List.findIdx?_cons]
      simp [this.1]
    | _ => simp [bound1] at h

theorem bindNames_len : ∀ {ts : List Expr} {ds : List D} {v : Vars}, bindNames ts ds v = some v' → ts.length = ds.length
  | [], [], _, _ => rfl
  | [], _ :: _, _, e => by simp [bindNames] at e
  | t :: ts, ds, v, e => by
    cases t with
    | Name x p =>
      cases ds with
      | nil => simp [bindNames] at e
      | cons d ds =>
        simp only [bindNames] at e
        simp [bindNames_len e]
    | _ => simp [bindNames] at e

theorem assign_ok {t : Expr} {u : Value} (hh : A.handled = none) (ht : targetOk sc t = true) (O : OK B Φ env sc v s adr st) (e : st.assign t d v = some v') (r : VR B.T Φ B.Ins s.heap adr u d) {Q : Unit → Shared → Prop} {E : Value → Shared → Prop}
    (h : ∀ s', Went B Φ env sc v' s adr s' adr st → Q () s') : wpAny (model B.prog B.w) A (assign t env u) Q E s := by
  cases t with
  | Name x p =>
    simp only [Sto.assign] at e
    cases e
    exact wpAny_assign_Name (set_ok O (bound1_of (p := p) ht) r h)
  | Tuple ts k pos =>
    simp only [Sto.assign] at e
    split at e
    · cases r with
      | @tup a vs m ds ho z r b =>
        have ht : ts.all (bound1 sc) = true := ht
        obtain ⟨p1, p2⟩ := each_plain (env := env) ht
        refine wpAny_assign_Tuple hh (items := vs.toArray) ⟨_, ho, rfl, m, rfl⟩ (by rw [p2, bindNames_len e, List.size_toArray, r.length]) p1 fun h' hx => ?_
        have k : ∀ a o, s.heap.get? a = some o → h'.get? a = some o := fun a o q => hx a o (Nat.ne_of_lt (Heap.lt_size q)) q
        have P := Post.keep O.inv O.sr k s.toks
        have O' : OK B Φ env sc v { s with heap := h' } adr st := O.next P O.tk
        have w := Went.post O P O.tk
        exact bindNames_ok ht e O' (r.ex (.of_keep (T := B.T) k)) fun s' w' => h s' (w.trans w')
    · cases e
  | _ => simp [targetOk] at ht

theorem no_set {x : Expr} {r : D × Sto} (h : evalE n Γ sc v x st = some r) : ∀ w, foldedSetIterable x env w = pure w := by
  cases n with
  | zero => simp [evalE] at h
  | succ n => cases x <;> first | (intro w; rfl) | (simp [evalE] at h)

theorem iter_plain (H : EvalOk B Γ K n) {e : Expr} {x : D} {lk : Option Nat} {pairs : Bool} (R : Room A (K + n)) (O : OK B Φ env sc v s adr st) (h1 : evalE n Γ sc v e st = some (x, st₁)) (h2 : st₁.walk x = some (ds, lk)) :
    (∀ w, foldedSetIterable e env w = pure w) ∧ wpAny (model B.prog B.w) A (eval e env) (fun u s₁ => wpAny (model B.prog B.w) A (pyIter u) (fun it s₂ => IsIter B Φ A pairs s adr st₁ ds lk it s₂) NoE s₁) NoE s :=
  ⟨no_set h1, (H _ _ _ _ _ _ _ _ _ _ _ h1 R O).next O fun _ _ _ O₁ P₁ r₁ => wpAny_mono (walk_ok R.h O₁ r₁ h2) (fun _ _ x => x.from P₁) fun _ _ e => e⟩

def IterOk (B : Base) (Γ : Gam) (K n : Nat) : Prop :=
  ∀ Φ A env sc v pairs e s adr st ds lk st', iterE n Γ sc v pairs e st = some (ds, lk, st') → Room A (K + n) → OK B Φ env sc v s adr st →
    (∀ w, foldedSetIterable e env w = pure w) ∧ wpAny (model B.prog B.w) A (eval e env) (fun u s₁ => wpAny (model B.prog B.w) A (pyIter u) (fun it s₂ => IsIter B Φ A pairs s adr st' ds lk it s₂) NoE s₁) NoE s

theorem enum_end {it e : Addr} {h' : Heap} {S₀ : Nat → Heap → Prop} {fp : List Addr} {P : Nat → Value → Prop} {m : Nat} {l : List D} (O : OK B Φ env sc v s adr st) (Dr : Draws B.prog B.w A.in1 it fp m P S₀) (hlen : l.length = m) (hb : l.length ≤ LIM)
    (hit : it = s.heap.objs.size) (he : e = s.heap.objs.size + 1) (hef : e ∉ fp) (hif : it ∈ fp) (hfp : ∀ b ∈ fp, b ∈ [e, it] ∨ (¬ B.T b ∧ ¬ Φ b ∧ Ent.live b ∉ adr ∧ ∃ o, s.heap.get? b = some o))
    (hE : IsEnum h' e it 0 .none) (hS : S₀ 0 h') (k : ∀ b o, s.heap.get? b = some o → h'.get? b = some o) (hP : ∀ j u d, P j u → l[j]? = some d → VR B.T Φ B.Ins s.heap adr u d) :
    IsIter B Φ A true s adr st (enumD 0 l) none (.ref e) { s with heap := h' } := by
  have f1 : s.heap.get? it = none := hit ▸ size_none _
  have f2 : s.heap.get? e = none := by
    rw [he]
    cases q : s.heap.get? (s.heap.objs.size + 1) with
    | none => rfl
    | some o => exact absurd (Heap.lt_size q) (Nat.not_lt.mpr (Nat.le_succ _))
  refine ⟨e, (· ∈ [e, it]), fun Φ' => StE B Φ' e it fp P l S₀, adr, s.heap, rfl, Post.keep O.inv O.sr k s.toks, (fun n q => by cases q), k, fun a o q => ⟨o, q⟩, .refl, O.inv, O.sr, fun b hb => ?_, by rw [enum_len]; unfold LIM at hb; omega, fun Φ' h1 h2 => ⟨Wk.enum Dr (by rw [he, hit]; exact Nat.succ_ne_self _) hef hif ⟨h1 e (by simp), h1 it (by simp)⟩ hlen, ?_⟩, O.tk⟩
  · rcases List.mem_cons.mp hb with rfl | hb
    · exact ⟨f2, _, hE⟩
    · rw [List.mem_singleton.mp hb]
      obtain ⟨o, q⟩ := Dr.live _ _ hS
      exact ⟨f1, o, q⟩
  · refine ⟨⟨.none, hE⟩, hS, fun b hb => ?_, fun j u d p q => ?_⟩
    · rcases hfp b hb with hb | ⟨p1, p2, p3, o, p4⟩
      · exact .inl hb
      · exact .inr ⟨p1, fun p => p2 (h2 b o p4 p), p3, o, k b o p4⟩
    · exact ((hP j u d p q).re (fun _ _ _ t => .inl t) fun a o e p => .inr (h2 a o e p)).ex (.of_keep (T := B.T) k)

theorem iter_step (G : GamOk B Γ K) (H : EvalOk B Γ K n) : IterOk B Γ K (n + 1) := by
  intro Φ A env sc v pairs e s adr st ds lk st' h R O
  have R' : Room A (K + n) := R.le (by omega)
  have plainCase : (do
      let (x, st) ← evalE n Γ sc v e st
      let (l, lk) ← st.walk x
      some (l, lk, st)) = some (ds, lk, st') → (∀ w, foldedSetIterable e env w = pure w) ∧ wpAny (model B.prog B.w) A (eval e env) (fun u s₁ => wpAny (model B.prog B.w) A (pyIter u) (fun it s₂ => IsIter B Φ A pairs s adr st' ds lk it s₂) NoE s₁) NoE s := fun h => by
    simp only [Option.bind_eq_bind, Option.bind_eq_some_iff] at h
    obtain ⟨⟨x, st₁⟩, h1, ⟨l, lk'⟩, h2, h⟩ := h
    cases h
    exact iter_plain H R' O h1 h2
  unfold iterE at h
  split at h
  · rename_i f p a q
    split at h
    · rename_i hf
      have hf := eq_of_beq hf
      subst hf
      split at h
      · rename_i hc
        simp only [Bool.and_eq_true, beq_iff_eq, Option.isNone_iff_eq_none] at hc
        obtain ⟨⟨hp, hF⟩, hk⟩ := hc
        subst hp
        simp only [Option.bind_eq_bind, Option.bind_eq_some_iff] at h
        obtain ⟨⟨x, st₁⟩, h1, h⟩ := h
        refine ⟨fun w => rfl, ?_⟩
        have hm : mapE (evalE n Γ sc v) [a] st = some ([x], st₁) := by simp [mapE, h1]
        refine wpAny_Call_Name_kw (builtin_name O hk (by decide) (G.bl _ (by decide) hF) bb_enumerate (by decide) ?_)
        refine wpAny_mono (args_ok H R' O hm (ks := []) (st₂ := st₁) (kws := []) rfl (fun s₂ adr₂ P => keep_type _) (Q := fun u s₁ => wpAny (model B.prog B.w) A (pyIter u) (fun it s₂ => IsIter B Φ A true s adr st' ds lk it s₂) NoE s₁) fun us kus s₁ adr₁ O₁ P₁ r₁ _ hk0 => ?_) (fun _ _ x => x) fun _ _ e => e
        rw [hk0 rfl]
        cases r₁ with
        | cons r₁ r' =>
        cases r'
        simp only at h
        split at h
        · cases h
          cases r₁ with
          | @lst ax vs m _ ho z r b =>
            have hne : ax ≠ s₁.heap.objs.size := Nat.ne_of_lt (Heap.lt_size ho)
            have hne' : ax ≠ s₁.heap.objs.size + 1 := Nat.ne_of_lt (Nat.lt_succ_of_lt (Heap.lt_size ho))
            refine call_enumerate_list ⟨_, ho, rfl, m, rfl⟩ fun h' hE hit hsz k => ?_
            refine wpAny_pyIter_enum hE (IsIter.from P₁ (enum_end O₁ (Draws.list (A := A.in1) (show A.in1.handled = none from R.h) s₁.heap.objs.size ax hne vs.toArray) (by rw [List.size_toArray, r.length]) b rfl rfl ?_ (by simp) (fun b hb => ?_) hE ⟨hit, ?_⟩ k fun j u d p q => ?_))
            · intro hm
              rcases List.mem_cons.mp hm with hm | hm
              · exact absurd hm (Nat.succ_ne_self _)
              · exact hne' (List.mem_singleton.mp hm).symm
            · rcases List.mem_cons.mp hb with rfl | hb
              · exact .inl (by simp)
              · rw [List.mem_singleton.mp hb]
                exact .inr ⟨z.t, z.p, z.live, _, ho⟩
            · exact ⟨_, k _ _ ho, rfl, m, rfl⟩
            · obtain ⟨d', hd', rv⟩ := r.get' (by simpa using p)
              rw [q] at hd'; cases hd'; exact rv
        · cases h
          cases r₁ with
          | @tup ax vs m _ ho z r b =>
            have hne : ax ≠ s₁.heap.objs.size := Nat.ne_of_lt (Heap.lt_size ho)
            have hne' : ax ≠ s₁.heap.objs.size + 1 := Nat.ne_of_lt (Nat.lt_succ_of_lt (Heap.lt_size ho))
            refine call_enum_tup ho fun h' hE hit hsz k => ?_
            refine wpAny_pyIter_enum hE (IsIter.from P₁ (enum_end O₁ (drawsTuple (A := A.in1) (show A.in1.handled = none from R.h) s₁.heap.objs.size ax hne vs.toArray) (by rw [List.size_toArray, r.length]) b rfl rfl ?_ (by simp) (fun b hb => ?_) hE ⟨hit, ?_⟩ k fun j u d p q => ?_))
            · intro hm
              rcases List.mem_cons.mp hm with hm | hm
              · exact absurd hm (Nat.succ_ne_self _)
              · exact hne' (List.mem_singleton.mp hm).symm
            · rcases List.mem_cons.mp hb with rfl | hb
              · exact .inl (by simp)
              · rw [List.mem_singleton.mp hb]
                exact .inr ⟨z.t, z.p, z.live, _, ho⟩
            · exact ⟨_, k _ _ ho, rfl, m, rfl⟩
            · obtain ⟨d', hd', rv⟩ := r.get' (by simpa using p)
              rw [q] at hd'; cases hd'; exact rv
        · cases h
      · cases h
    · exact plainCase h
  · rename_i o m apos pos
    split at h
    · rename_i st₁ hi
      cases h
      unfold itemsOf at hi
      split at hi
      · rename_i st₂ h1
        split at hi
        · rename_i hc
          cases hi
          rw [Bool.and_eq_true] at hc
          obtain ⟨hm, hc⟩ := hc
          rw [eq_of_beq hm]
          refine ⟨fun w => rfl, ?_⟩
          refine methodCall_ok (args := []) (kws := []) hc rfl rfl ((H _ _ _ _ _ _ _ _ _ _ _ h1 R' O).next O fun u s₁ adr₁ O₁ P₁ r₁ pl => ?_)
          cases r₁ with
          | @dic a ep ho z hn =>
          have hD : s₁.heap.DictOf (strKind B.prog B.w) a [] := by
            obtain ⟨o, es, q1, q2, q3, q4⟩ := empty_dict (prog := B.prog) (w := B.w) ho
            exact ⟨o, es, _, q1, q2, q3, q4⟩
          refine getMethod_builtin hD.typeIs F.plainAttrs_dict F.slot_dict_items F.type_dict_items (fun b hb => by cases hb; exact ⟨_, ho, rfl⟩) ?_
          show wpAny _ _ (callWith pos (.builtin "dict.items") [.ref a] [] []) _ _ _
          refine method_meetsIn F.slot_dict_items F.entry_dict_items rfl (PySem.evalArgs_none ⟨rfl, hD.typeIs, F.args_dict_items_1 _, _, meets_dict_items (strKind B.prog B.w) a hn, ⟨[], hD⟩, ?_⟩)
          have P₂ : Post B Φ s₁ adr₁ { s₁ with heap := s₁.heap.push { cls := .type "dict_items", data := .fields #[.ref a] } } adr₁ st' := Post.keep O₁.inv O₁.sr (keep_push _) s₁.toks
          have O₂ := O₁.next P₂ O₁.tk
          exact wpAny_mono (walk_items (pairs := pairs) R.h O₂ (keep_push _ _ _ ho) z (Heap.get?_push_size _ rfl)) (fun _ _ x => x.from (P₁.trans P₂)) fun _ _ e => e
        · cases hi
      · cases hi
    · exact plainCase h
  · exact plainCase h
end
end Mine
/-! ## LF -/
set_option autoImplicit false
set_option maxRecDepth 100000
namespace Mine
open PySem PySem.W PyProof.Rows PySem.Calls

inductive FlR (B : Base) (Φ : Addr → Prop) (h : Heap) (adr : List Ent) : Flow → Fl → Prop
  | next : FlR B Φ h adr .next .next
  | brk : FlR B Φ h adr .brk .brk
  | cont : FlR B Φ h adr .cont .cont
  | ret {u : Value} {d : D} : VR B.T Φ B.Ins h adr u d → FlR B Φ h adr (.ret u) (.ret d)

def Ends (B : Base) (Φ : Addr → Prop) (env : Env) (sc : Scope) (s : Shared) (adr : List Ent) (f : Fl) (v' : Vars) (st' : Sto) (fl : Flow) (s' : Shared) : Prop :=
  ∃ adr', Went B Φ env sc v' s adr s' adr' st' ∧ FlR B Φ s'.heap adr' fl f

def ExecOk (B : Base) (Γ : Gam) (K n : Nat) : Prop :=
  ∀ Φ A env sc x v s adr st f v' st', execS n Γ sc x v st = some (f, v', st') → Room A (K + n) → OK B Φ env sc v s adr st → wpAny (model B.prog B.w) A (exec x env) (Ends B Φ env sc s adr f v' st') NoE s
def RunOk (B : Base) (Γ : Gam) (K n : Nat) : Prop :=
  ∀ Φ A env sc xs v s adr st f v' st', runStmts (execS n Γ sc) xs v st = some (f, v', st') → Room A (K + n) → OK B Φ env sc v s adr st → wpAny (model B.prog B.w) A (execs xs env) (Ends B Φ env sc s adr f v' st') NoE s

section
variable {B : Base} {Γ : Gam} {K n : Nat} {Φ : Addr → Prop} {A : Around} {env : Env} {sc : Scope} {v v' v'' vf : Vars} {s s₁ s₂ s₃ : Shared} {adr adr₁ adr₂ adr₃ : List Ent} {st st₁ st₂ st' σf : Sto} {d : D} {ds : List D} {b : Bool} {f : Fl}

theorem run_of_exec (H : ExecOk B Γ K n) : RunOk B Γ K n := by
  intro Φ A env sc xs
  induction xs with
  | nil =>
    intro v s adr st f v' st' e R O
    simp only [runStmts] at e
    cases e
    exact wpAny_execs_nil ⟨adr, .refl O, .next⟩
  | cons x xs ih =>
    intro v s adr st f v' st' e R O
    simp only [runStmts, Option.bind_eq_bind, Option.bind_eq_some_iff] at e
    obtain ⟨⟨f₁, v₁, st₁⟩, h1, e⟩ := e
    refine wpAny_execs_cons (wpAny_mono (H _ _ _ _ _ _ _ _ _ _ _ _ h1 R O) (fun fl s₁ ⟨adr₁, w₁, r₁⟩ => ?_) fun _ _ e => e)
    cases r₁ with
    | next => exact wpAny_mono (ih _ _ _ _ _ _ _ e R w₁.ok) (fun fl s₂ ⟨adr₂, w₂, r₂⟩ => ⟨adr₂, w₁.trans w₂, r₂⟩) fun _ _ e => e
    | brk => simp only at e; cases e; exact ⟨adr₁, w₁, .brk⟩
    | cont => simp only at e; cases e; exact ⟨adr₁, w₁, .cont⟩
    | ret r => simp only at e; cases e; exact ⟨adr₁, w₁, .ret r⟩

section loop
variable {pairs : Bool} {lk : Option Nat} {I : Addr} {wr : Addr → Prop} {St : (Addr → Prop) → Nat → Heap → List Ent → Prop} {h₁ : Heap}

theorem IterEnd.dis (X : IterEnd B Φ A pairs s adr st' ds lk s₂ I wr St adr₂ h₁) : ∀ a, Φ a → ¬ wr a := fun a p w => by
  obtain ⟨o, e⟩ := X.sr1.phi a p
  rw [(X.wrs a w).1] at e; cases e
theorem IterEnd.wrO (X : IterEnd B Φ A pairs s adr st' ds lk s₂ I wr St adr₂ h₁) : ∀ a, wr a → ¬ B.old a := fun a w o => by
  obtain ⟨o, e⟩ := B.stays h₁ a X.inv1 o
  rw [(X.wrs a w).1] at e; cases e
theorem IterEnd.wrF (X : IterEnd B Φ A pairs s adr st' ds lk s₂ I wr St adr₂ h₁) : ∀ a, wr a → s.heap.get? a = none := fun a w => by
  cases e : s.heap.get? a with
  | none => rfl
  | some o => obtain ⟨o', e'⟩ := X.dn a o e; rw [(X.wrs a w).1] at e'; cases e'
theorem IterEnd.hP (X : IterEnd B Φ A pairs s adr st' ds lk s₂ I wr St adr₂ h₁) : ∀ a o, h₁.get? a = some o → (Φ a ∨ wr a) → Φ a := fun a o e p => p.elim id fun w => by rw [(X.wrs a w).1] at e; cases e

/-- the frame when the loop starts -/
theorem IterEnd.start (X : IterEnd B Φ A pairs s adr st' ds lk s₂ I wr St adr₂ h₁) (O : OK B Φ env sc v s adr st) : OK B (fun a => Φ a ∨ wr a) env sc v s₂ (lockA adr₂ lk) (st'.lock lk) := by
  have S' : SR B (fun a => Φ a ∨ wr a) s₂.heap adr₂ st' := X.sr1.wide X.up X.hP (fun a p => p.elim (fun p => X.post.sr.phi a p) fun w => (X.wrs a w).2) fun a p => p.elim (fun p => X.sr1.phiO a p) fun w => X.wrO a w
  have F' : FR B (fun a => Φ a ∨ wr a) s₂.heap adr₂ env sc v := (O.fr.re (fun a o e p => p.elim .inr fun w => by rw [X.wrF a w] at e; cases e)).ex X.post.ex
  exact ⟨X.post.inv, S'.lock fun n e => ⟨ds, X.lks n e⟩, F'.sm (same_lock _ _), fun a o => .inl (O.own a o), X.tk⟩

/-- the loop is left -/
theorem IterEnd.leave (X : IterEnd B Φ A pairs s adr st' ds lk s₂ I wr St adr₂ h₁) (O : OK B Φ env sc v s adr st) (S₃ : SR B Φ s₃.heap adr₃ σf) (F₃ : FR B Φ s₃.heap adr₃ env sc vf) (i₃ : B.Inv s₃.heap)
    (x : Ex (TO B env sc) h₁ (lockA adr₂ lk) s₃.heap adr₃) (tk : 0 ≤ s₃.toks) (os : s₃.os = s₂.os) (gens : s₃.gens = s₂.gens) : ∃ adr', Went B Φ env sc vf s adr s₃ adr' (σf.unlock ds lk) ∧ SameAt adr₃ adr' := by
  obtain ⟨adr', S', x', sm⟩ := unlock_ok X.sr1 X.lks (fun _ _ _ p => .inr p) (wid_own O.own) x S₃
  exact ⟨adr', ⟨⟨i₃, S', F₃.sm sm, O.own, tk⟩, (X.ex1.up fun _ h => .inl h).trans x', os.trans X.post.os, gens.trans X.post.gens⟩, sm⟩

theorem Ex.but {T' : Addr → Prop} {h h' : Heap} {a₀ : List Ent} (x : Ex T' h₁ a₀ h adr) (k : ∀ b o, ¬ wr b → h.get? b = some o → h'.get? b = some o) (hw : ∀ b, wr b → h₁.get? b = none) : Ex T' h₁ a₀ h' adr :=
  ⟨fun a o e t m => k a o (fun w => by rw [hw a w] at e; cases e) (x.keep a o e t m), fun a o e => (by
    obtain ⟨o', e'⟩ := x.live a o e
    exact ⟨o', k a o' (fun w => by rw [hw a w] at e; cases e) e'⟩), x.pre, x.fresh⟩

theorem FR.chg {T' : Addr → Prop} {h h' : Heap} {wr : Addr → Prop} (F : FR B Φ h adr env sc v) (hx : Ex T' h adr h' adr) (W : Wid B.T Φ T') (hno : ∀ a, reach env a → ¬ wr a) (k : ∀ a o, ¬ wr a → h.get? a = some o → h'.get? a = some o) : FR B Φ h' adr env sc v := by
  obtain ⟨m, hn, hm⟩ := F.ns
  refine ⟨F.kind, F.glob, F.blt, F.code, F.loc, F.cell, F.free, F.gl, ⟨m, ?_, fun y d hk hl => ?_⟩, fun y hk => ?_, F.lfree, F.lnew, F.cfree, fun y c e => ?_, F.lc, F.cinj⟩
  · obtain ⟨o, es, ep, q, r⟩ := hn
    exact ⟨o, es, ep, k _ _ (hno _ (.inl rfl)) q, r⟩
  · obtain ⟨u, q, r⟩ := hm y d hk hl
    exact ⟨u, q, r.exF hx W⟩
  · obtain ⟨c, ov, q, ⟨o, ho, hd'⟩, r⟩ := F.cl y hk
    refine ⟨c, ov, q, ⟨o, k _ _ (hno _ (.inr ⟨y, q⟩)) ho, hd'⟩, fun d hl => ?_⟩
    obtain ⟨u, eu, qu⟩ := r d hl
    exact ⟨u, eu, qu.exF hx W⟩
  · obtain ⟨o, ho⟩ := F.clive y c e
    exact ⟨o, k _ _ (hno _ (.inr ⟨y, e⟩)) ho⟩

theorem for_ok {t : Expr} {body orelse : List Stmt} (HR : RunOk B Γ K n) (R : Room A (K + n)) (ht : targetOk sc t = true) (O : OK B Φ env sc v s adr st) (X : IterEnd B Φ A (isTuple t) s adr st' ds lk s₂ I wr St adr₂ h₁)
    (e : forL (fun d v st => st.assign t d v) (runStmts (execS n Γ sc) body) (runStmts (execS n Γ sc) orelse) ds v (st'.lock lk) = some (f, vf, σf)) {E : Value → Shared → Prop} :
    codeAny (model B.prog B.w) A (.forLoop t (.ref I) body orelse env) (fun r s' => match r with
      | .ok fl => Ends B Φ env sc s adr f vf (σf.unlock ds lk) fl s'
      | .error e => E e s') s₂ := by
  have O₂ := X.start O
  obtain ⟨W, st0⟩ := X.walk (fun a => Φ a ∨ wr a) (fun a w => .inr w) X.hP
  have hwr1 : ∀ b, wr b → h₁.get? b = none := fun b w => (X.wrs b w).1
  have wid1 : Wid B.T (fun a => Φ a ∨ wr a) (fun a => B.T a ∨ wr a) := ⟨fun _ t => .inl t, fun a t => t.elim .inl fun w => .inr (.inr w)⟩
  have widO : Wid B.T (fun a => Φ a ∨ wr a) (TO B env sc) := wid_own O₂.own
  have nR : ∀ a, reach env a → ¬ wr a := fun a o w => by
    obtain ⟨o', q⟩ := O.fr.live o
    rw [X.wrF a w] at q; cases q
  have nTO : ∀ b, wr b → ¬ TO B env sc b := fun b w t => t.elim (fun t => X.wrO b w (B.T_old b t)) fun o => X.dis b (O.own b o) w
  -- what the loop keeps
  let Keep (i : Nat) (v₁ : Vars) (σ : Sto) (s' : Shared) (adr' : List Ent) : Prop := St (fun a => Φ a ∨ wr a) i s'.heap adr' ∧ OK B (fun a => Φ a ∨ wr a) env sc v₁ s' adr' σ ∧ Ex (TO B env sc) h₁ (lockA adr₂ lk) s'.heap adr' ∧ s'.os = s₂.os ∧ s'.gens = s₂.gens
  have step : ∀ {i : Nat} {v₁ v₂ : Vars} {σ σ' : Sto} {s' s'' : Shared} {adr' adr'' : List Ent}, Keep i v₁ σ s' adr' → Went B (fun a => Φ a ∨ wr a) env sc v₂ s' adr' s'' adr'' σ' → Keep i v₂ σ' s'' adr'' := by
    rintro i v₁ v₂ σ σ' s' s'' adr' adr'' ⟨k1, k2, k3, k4, k5⟩ w
    refine ⟨W.frame _ _ _ _ _ _ k1 w.ex widO fun b o hb q => w.ex.keep b o q (nTO b hb) fun m => (k2.sr.out b ⟨_, m, rfl⟩).2 (.inr hb), w.ok, k3.trans w.ex, w.os.trans k4, w.gens.trans k5⟩
  have leave : ∀ {i : Nat} {v₁ : Vars} {σ : Sto} {s' : Shared} {adr' : List Ent}, Keep i v₁ σ s' adr' → ∃ adr'', Went B Φ env sc v₁ s adr s' adr'' (σ.unlock ds lk) ∧ ∀ {u : Value} {d : D}, VR B.T (fun a => Φ a ∨ wr a) B.Ins s'.heap adr' u d → VR B.T Φ B.Ins s'.heap adr'' u d := by
    rintro i v₁ σ s' adr' ⟨k1, k2, k3, k4, k5⟩
    have kk : ∀ a o, ¬ wr a → s'.heap.get? a = some o → s'.heap.get? a = some o := fun _ _ _ e => e
    obtain ⟨adr'', w, sm⟩ := X.leave O (k2.sr.fin (wr := wr) (fun a w => .inr w) (fun a p => .inl p) X.dis kk) (k2.fr.fin (wr := wr) (fun a w => .inr w) (fun a p => .inl p) nR kk) k2.inv k3 k2.tk k4 k5
    exact ⟨adr'', w, fun r => (r.fin (wr := wr) (fun a w => .inr w) (fun a p => .inl p) kk).sm sm⟩
  refine codeAny_forLoop_any (fun k s' => ∃ i adr' σ v₁, i ≤ ds.length ∧ k = ds.length + 1 - i ∧ forL (fun d v st => st.assign t d v) (runStmts (execS n Γ sc) body) (runStmts (execS n Γ sc) orelse) (ds.drop i) v₁ σ = some (f, vf, σf) ∧ Keep i v₁ σ s' adr') ?_ (ds.length + 1)
    ⟨0, lockA adr₂ lk, st'.lock lk, v, Nat.zero_le _, rfl, by simpa using e, st0, O₂, .of_keep X.up, rfl, rfl⟩
  rintro k s' ⟨i, adr', σ, v₁, hi, rfl, hf, hk⟩
  by_cases hlt : i < ds.length
  · have hd : ds[i]? = some ds[i] := List.getElem?_eq_getElem hlt
    rw [List.drop_eq_getElem_cons hlt] at hf
    simp only [forL, Option.bind_eq_bind, Option.bind_eq_some_iff] at hf
    obtain ⟨v₂, ha, ⟨f₁, v₃, σ₁⟩, hb, hf⟩ := hf
    obtain ⟨k1, k2, k3, k4, k5⟩ := hk
    refine wpAny_mono (wpAny_toks_of k2.tk (W.item i _ s' adr' σ (fun u s₂' => 0 ≤ s₂'.toks → wpAny (model B.prog B.w) A (assign t env u) (fun _ s₃ => wpAny (model B.prog B.w) A (execs body env) (fun fl s₄ => match fl with
        | .next | .cont => ∃ m, m < ds.length + 1 - i ∧ ∃ i adr' σ v₁, i ≤ ds.length ∧ m = ds.length + 1 - i ∧ forL (fun d v st => st.assign t d v) (runStmts (execS n Γ sc) body) (runStmts (execS n Γ sc) orelse) (ds.drop i) v₁ σ = some (f, vf, σf) ∧ Keep i v₁ σ s₄ adr'
        | .brk => Ends B Φ env sc s adr f vf (σf.unlock ds lk) .next s₄
        | .ret u => Ends B Φ env sc s adr f vf (σf.unlock ds lk) (.ret u) s₄) NoE s₃) NoE s₂') NoE t id hd k1 k2.inv k2.sr fun u h' tk' st' r hkk tk => ?_)) (fun r s₁' h => ?_) fun _ _ e => e.2.elim
    · -- the item is there: the target is set, the body runs
      have hx : Ex (fun a => B.T a ∨ wr a) s'.heap adr' h' adr' := .of_but (fun b o q t => hkk b o (fun w => t (.inr w)) q) fun b o q => by
        by_cases w : wr b
        · exact W.live _ _ _ b st' w
        · exact ⟨o, hkk b o w q⟩
      have S₂ : SR B (fun a => Φ a ∨ wr a) h' adr' σ := k2.sr.keepF wid1 (fun b o q t => hkk b o (fun w => t (.inr w)) q) hx.live
      have F₂ : FR B (fun a => Φ a ∨ wr a) h' adr' env sc v₁ := by
        exact k2.fr.chg hx wid1 nR fun a o w q => hkk a o w q
      have i₂ : B.Inv h' := Inv.fin X.wrO hkk k2.inv
      have O₃ : OK B (fun a => Φ a ∨ wr a) env sc v₁ { s' with heap := h', toks := tk' } adr' σ := ⟨i₂, S₂, F₂, O₂.own, tk⟩
      have k₃ : Keep (i + 1) v₁ σ { s' with heap := h', toks := tk' } adr' := ⟨st', O₃, k3.but hkk hwr1, k4, k5⟩
      refine assign_ok R.h ht O₃ ha r fun s₃ w₃ => ?_
      have k₄ := step k₃ w₃
      refine wpAny_mono (HR _ _ _ _ _ _ _ _ _ _ _ _ hb R w₃.ok) (fun fl s₄ ⟨adr₄, w₄, r₄⟩ => ?_) fun _ _ e => e
      have k₅ := step k₄ w₄
      cases r₄ with
      | next => exact ⟨_, by omega, i + 1, adr₄, σ₁, v₃, hlt, rfl, hf, k₅⟩
      | cont => exact ⟨_, by omega, i + 1, adr₄, σ₁, v₃, hlt, rfl, hf, k₅⟩
      | brk =>
        simp only at hf; cases hf
        obtain ⟨adr₅, w₅, _⟩ := leave k₅
        exact ⟨adr₅, w₅, .next⟩
      | ret r =>
        simp only at hf; cases hf
        obtain ⟨adr₅, w₅, vr⟩ := leave k₅
        exact ⟨adr₅, w₅, .ret (vr r)⟩
    · -- the iterator gave something
      cases r with
      | none => exact h.2.elim
      | some u =>
        refine wpAny_mono (wpAny_toks_of h.1 h.2) (fun _ s₂' ⟨tk, q⟩ => wpAny_mono (q tk) (fun _ s₃ q' => wpAny_mono q' (fun fl s₄ x => ?_) fun _ _ e => e.elim) fun _ _ e => e.elim) fun _ _ e => e.2.elim
        cases fl <;> exact x
  · have hi' : i = ds.length := by omega
    subst hi'
    rw [List.drop_length] at hf
    simp only [forL] at hf
    obtain ⟨k1, k2, k3, k4, k5⟩ := hk
    refine wpAny_mono (wpAny_toks_of k2.tk (W.done s' adr' (fun r s₁ => r = none ∧ ∃ h' tk', s₁ = { s' with heap := h', toks := tk' } ∧ ∀ b o, ¬ wr b → s'.heap.get? b = some o → h'.get? b = some o) NoE k1 fun h' tk' hkk => ⟨rfl, h', tk', rfl, hkk⟩)) (fun r s₁ ⟨tk, hr, h', tk', hs, hkk⟩ => ?_) fun _ _ e => e.2.elim
    subst hr hs
    have O₃ : OK B Φ env sc v₁ { s' with heap := h', toks := tk' } adr' σ :=
      ⟨Inv.fin X.wrO hkk k2.inv, k2.sr.fin (wr := wr) (fun a w => .inr w) (fun a p => .inl p) X.dis fun a o w q => hkk a o w q, k2.fr.fin (wr := wr) (fun a w => .inr w) (fun a p => .inl p) nR fun a o w q => hkk a o w q, O.own, tk⟩
    have x₃ : Ex (TO B env sc) h₁ (lockA adr₂ lk) h' adr' := k3.but hkk hwr1
    refine wpAny_mono (HR _ _ _ _ _ _ _ _ _ _ _ _ hf R O₃) (fun fl s₄ ⟨adr₄, w₄, r₄⟩ => ?_) fun _ _ e => e.elim
    obtain ⟨adr₅, w₅, sm⟩ := X.leave O w₄.ok.sr w₄.ok.fr w₄.ok.inv (x₃.trans w₄.ex) w₄.ok.tk (w₄.os.trans k4) (w₄.gens.trans k5)
    refine ⟨adr₅, w₅, ?_⟩
    cases r₄ with
    | next => exact .next
    | brk => exact .brk
    | cont => exact .cont
    | ret r => exact .ret (r.sm sm)
end loop
end
end Mine
/-! ## LG -/
set_option autoImplicit false
set_option maxRecDepth 100000
namespace Mine
open PySem PySem.W PyProof.Rows PySem.Calls

def closL (env : Env) : List (Str × NameKind) → List (Str × Addr) → List (Str × Addr)
  | [], acc => acc
  | (n, k) :: r, acc => closL env r (if k == .free then (match env.cells.lookup n with
    | some c => (n, c) :: acc
    | none => acc) else acc)

theorem closureFor_eq {env : Env} : ∀ (names : List (Str × NameKind)) (acc : List (Str × Addr)), (∀ p ∈ names, p.2 = .free → ∃ c, env.cells.lookup p.1 = some c) →
    (forIn names acc (fun (x : Str × NameKind) (cs : List (Str × Addr)) => (match x with
      | (name, kind) => if (kind == .free) = true then do
          let a ← cellOf env name
          pure (ForInStep.yield ((name, a) :: cs))
        else pure (ForInStep.yield cs) : Sem (ForInStep (List (Str × Addr))))) : Sem (List (Str × Addr))) = pure (closL env names acc)
  | [], acc, _ => rfl
  | (n, k) :: r, acc, h => by
    rw [List.forIn_cons]
    have ih := fun acc => closureFor_eq r acc fun p hp => h p (.tail _ hp)
    cases hk : k == NameKind.free with
    | false =>
      simp only [hk, Bool.false_eq_true, if_false, pure_bind]
      rw [ih]
      simp only [closL, hk, Bool.false_eq_true, if_false]
    | true =>
      obtain ⟨c, hc⟩ := h (n, k) (.head _) (eq_of_beq hk)
      have hcell : cellOf env n = pure c := by unfold cellOf; rw [hc]
      simp only [hk, if_true, hcell, pure_bind]
      rw [ih]
      simp only [closL, hk, if_true, hc]

theorem closure_ok {env : Env} {csc : Scope} (h : ∀ p ∈ csc.names, p.2 = .free → ∃ c, env.cells.lookup p.1 = some c) : closureFor csc env = pure (closL env csc.names []) := by
  have := closureFor_eq (env := env) csc.names [] h
  unfold closureFor
  simp only [bind_pure]
  first
    | exact this
    | (rw [← this]; congr 1; funext x cs; obtain ⟨n, k⟩ := x; cases k <;> rfl)

theorem closL_mem {env : Env} : ∀ {names : List (Str × NameKind)} {acc : List (Str × Addr)} {x : Str} {c : Addr}, (x, c) ∈ closL env names acc → (x, c) ∈ acc ∨ ((x, NameKind.free) ∈ names ∧ env.cells.lookup x = some c)
  | [], acc, x, c, h => .inl h
  | (n, k) :: r, acc, x, c, h => by
    simp only [closL] at h
    rcases closL_mem h with h | ⟨h1, h2⟩
    · cases hk : k == NameKind.free with
      | false => simp only [hk, Bool.false_eq_true, if_false] at h; exact .inl h
      | true =>
        simp only [hk, if_true] at h
        split at h
        · rename_i c' hc
          rcases List.mem_cons.mp h with e | h
          · cases e
            have := eq_of_beq hk
            subst this
            exact .inr ⟨.head _, hc⟩
          · exact .inl h
        · exact .inl h
    · exact .inr ⟨.tail _ h1, h2⟩
theorem closL_some {env : Env} : ∀ {names : List (Str × NameKind)} {acc : List (Str × Addr)} {x : Str}, ((∃ c, acc.lookup x = some c) ∨ ((x, NameKind.free) ∈ names ∧ ∃ c, env.cells.lookup x = some c)) → ∃ c, (closL env names acc).lookup x = some c
  | [], acc, x, h => by
    rcases h with h | ⟨h, _⟩
    · exact h
    · cases h
  | (n, k) :: r, acc, x, h => by
    simp only [closL]
    refine closL_some ?_
    rcases h with ⟨c, h⟩ | ⟨h, c, hc⟩
    · left
      split
      · split
        · rw [List.lookup_cons]
          split
          · exact ⟨_, rfl⟩
          · exact ⟨c, h⟩
        · exact ⟨c, h⟩
      · exact ⟨c, h⟩
    · rcases List.mem_cons.mp h with e | h
      · cases e
        left
        simp only [beq_self_eq_true, if_true, hc]
        exact ⟨c, by rw [List.lookup_cons, beq_self_eq_true]⟩
      · exact .inr ⟨h, c, hc⟩

theorem cellsFrom_app : ∀ (names : List (Str × NameKind)) (n : Nat) (acc : List (Str × Addr)), cellsFrom n names acc = cellsFrom n names [] ++ acc
  | [], n, acc => by simp [cellsFrom]
  | (x, k) :: r, n, acc => by
    unfold cellsFrom
    split
    · rw [cellsFrom_app r (n + 1) ((x, n) :: acc), cellsFrom_app r (n + 1) [(x, n)]]; simp
    · exact cellsFrom_app r n acc
theorem cellsFrom_mem : ∀ {names : List (Str × NameKind)} {n : Nat} {x : Str} {c : Addr}, (x, c) ∈ cellsFrom n names [] → (x, NameKind.cell) ∈ names
  | [], n, x, c, h => by simp [cellsFrom] at h
  | (y, k) :: r, n, x, c, h => by
    unfold cellsFrom at h
    split at h
    · rename_i hk
      rw [cellsFrom_app] at h
      rcases List.mem_append.mp h with h | h
      · exact .tail _ (cellsFrom_mem h)
      · cases List.mem_singleton.mp h
        rw [eq_of_beq hk]
        exact .head _
    · exact .tail _ (cellsFrom_mem h)
theorem cellsFrom_some : ∀ {names : List (Str × NameKind)} {n : Nat} {x : Str}, (x, NameKind.cell) ∈ names → ∃ c, (cellsFrom n names []).lookup x = some c
  | [], n, x, h => by cases h
  | (y, k) :: r, n, x, h => by
    have look : ∀ {l m : List (Str × Addr)} {x : Str} {c : Addr}, l.lookup x = some c → (l ++ m).lookup x = some c := by
      intro l m x c h
      induction l with
      | nil => cases h
      | cons p l ih =>
        rw [List.cons_append, List.lookup_cons]
        rw [List.lookup_cons] at h
        split <;> rename_i q <;> rw [q] at h
        · exact h
        · exact ih h
    have lookR : ∀ {l m : List (Str × Addr)} {x : Str} {c : Addr}, m.lookup x = some c → ∃ c', (l ++ m).lookup x = some c' := by
      intro l m x c h
      induction l with
      | nil => exact ⟨c, h⟩
      | cons p l ih =>
        rw [List.cons_append, List.lookup_cons]
        split
        · exact ⟨_, rfl⟩
        · exact ih
    unfold cellsFrom
    rcases List.mem_cons.mp h with e | h
    · cases e
      rw [if_pos (by decide), cellsFrom_app]
      exact lookR (c := n) (by rw [List.lookup_cons, beq_self_eq_true])
    · split
      · obtain ⟨c, hc⟩ := cellsFrom_some (n := n + 1) h
        exact ⟨c, by rw [cellsFrom_app]; exact look hc⟩
      · exact cellsFrom_some h

def compEnv' (csc : Scope) (env : Env) (L : Addr) : Env :=
  { scope := csc, locals := L, globals := env.globals, cells := cellsFrom (L + 1) csc.names (closL env csc.names []), qual := env.qual, func := none, code := env.code, frame := env.frame, builtins := env.builtins }

theorem newEnv_ok {M : Model} {A : Around} {E : Value → Shared → Prop} {s : Shared} {csc : Scope} {env : Env} {Q : Env → Shared → Prop}
    (h : Q (compEnv' csc env s.heap.objs.size) { s with heap := pushCells (s.heap.push { cls := .type "dict", data := .dict #[] }) csc.names }) :
    wpAny M A (newFunctionEnv csc env.globals (closL env csc.names []) [] env.qual none .none (some env)) Q E s := by
  simp only [newFunctionEnv, Option.isSome_some, if_true]
  refine wpAny_bind (wpAny_alloc ?_)
  refine wpAny_bind (wpAny_layCells _ (fun name kind cells => by cases hkc : kind == NameKind.cell <;> simp [hkc]) _ _ _ _ ?_)
  rw [show ({ s with heap := s.heap.push { cls := .type "dict", data := .dict #[] } } : Shared).heap.objs.size = s.heap.objs.size + 1 from Heap.size_push ..]
  exact wpAny_bind (wpAny_pure (wpAny_pure h))
end Mine
/-! ## LH -/
set_option autoImplicit false
set_option maxRecDepth 100000
namespace Mine
open PySem PySem.W PyProof.Rows PySem.Calls

theorem relabel_lookup {csc : Scope} {env : Env} {x : Str} : (relabel csc env).names.lookup x = (csc.names.lookup x).map fun k => if (k == NameKind.free && env.scope.kind == .function && env.kindOf x == some .cell) then NameKind.cell else k := by
  unfold relabel
  show List.lookup x (csc.names.map _) = _
  induction csc.names with
  | nil => rfl
  | cons p r ih =>
    obtain ⟨n, k⟩ := p
    simp only [List.map_cons]
    cases hx : x == n with
    | true =>
      have := eq_of_beq hx
      subst this
      by_cases hc : (k == NameKind.free && env.scope.kind == .function && env.kindOf x == some .cell) = true
      · simp only [if_pos hc, List.lookup_cons, beq_self_eq_true, Option.map_some]
      · simp only [if_neg hc, List.lookup_cons, beq_self_eq_true, Option.map_some]
    | false =>
      by_cases hc : (k == NameKind.free && env.scope.kind == .function && env.kindOf n == some .cell) = true
      · simp only [if_pos hc, List.lookup_cons, hx]; exact ih
      · simp only [if_neg hc, List.lookup_cons, hx]; exact ih

structure CompScope (sc csc : Scope) : Prop where
  kind : csc.kind = .function
  loc : ∀ p ∈ csc.names, p.2 = .local → csc.names.lookup p.1 = some .local
  cell : ∀ p ∈ csc.names, p.2 = .cell → csc.names.lookup p.1 = some .cell
  free : ∀ p ∈ csc.names, p.2 = .free → csc.names.lookup p.1 = some .free ∧ (kindOf sc p.1 = some .cell ∨ kindOf sc p.1 = some .free)
theorem compOk_of {sc csc : Scope} (h : compOk sc csc = true) : CompScope sc csc := by
  unfold compOk at h
  rw [Bool.and_eq_true] at h
  obtain ⟨h1, h2⟩ := h
  have h2 := List.all_eq_true.mp h2
  refine ⟨?_, fun p hp hk => ?_, fun p hp hk => ?_, fun p hp hk => ?_⟩
  · split at h1
    · assumption
    · cases h1
  · have := h2 p hp
    simp only [hk] at this
    exact eq_of_beq this
  · have := h2 p hp
    simp only [hk] at this
    exact eq_of_beq this
  · have := h2 p hp
    simp only [hk, Bool.and_eq_true, Bool.or_eq_true, beq_iff_eq] at this
    exact this

theorem lookup_mem {x : Str} {k : NameKind} {csc : Scope} (h : kindOf csc x = some k) : (x, k) ∈ csc.names := mem_of_lookup h

theorem compVars_lookup {csc : Scope} {v : Vars} {x : Str} {d : D} (h : (compVars csc v).lookup x = some d) : kindOf csc x = some .free ∧ v.lookup x = some d := by
  unfold compVars at h
  induction v with
  | nil => cases h
  | cons p r ih =>
    rw [List.filter_cons] at h
    rw [List.lookup_cons]
    split at h
    · rename_i hp
      rw [List.lookup_cons] at h
      cases hx : x == p.1 with
      | true =>
        rw [hx] at h
        cases h
        have := eq_of_beq hx
        subst this
        exact ⟨eq_of_beq hp, rfl⟩
      | false => rw [hx] at h; exact ih h
    · rename_i hp
      cases hx : x == p.1 with
      | true =>
        have := eq_of_beq hx
        subst this
        have := (ih h).1
        rw [this] at hp
        exact absurd rfl hp
      | false => exact ih h

section
variable {B : Base} {Φ Φ₂ : Addr → Prop} {h H : Heap} {adr : List Ent} {env : Env} {sc csc : Scope} {v : Vars} {st : Sto}

def cenvOf (csc : Scope) (env : Env) (L : Addr) : Env := { compEnv' csc env L with scope := relabel csc env }

/-- the frame of a comprehension when it starts -/
theorem comp_frame (C : CompScope sc csc) (F : FR B Φ₂ h adr env sc v) (i : B.Inv h) (hfr : ∀ a, h.get? a = none → ¬ At adr a ∧ ¬ B.old a) :
    FR B Φ₂ (pushCells (h.push { cls := .type "dict", data := .dict #[] }) csc.names) adr (cenvOf csc env h.objs.size) csc (compVars csc v) ∧ ∀ a, own (cenvOf csc env h.objs.size) csc a → h.get? a = none := by
  have up : ∀ a o, h.get? a = some o → (pushCells (h.push { cls := .type "dict", data := .dict #[] }) csc.names).get? a = some o := fun a o e => pushCells_keeps _ _ a o (Heap.get?_push_of_some _ e)
  have x : Ex B.T h adr (pushCells (h.push { cls := .type "dict", data := .dict #[] }) csc.names) adr := .of_keep up
  have Fx := F.ex x
  have ok := cellsFrom_ok csc.names (h.push { cls := .type "dict", data := .dict #[] }) (h.objs.size + 1) [] ⟨fun _ _ hm => (nomatch hm), List.Pairwise.nil⟩ (by rw [Heap.size_push]; exact Nat.le_refl _)
  rw [Heap.size_push] at ok
  have hcells : (cenvOf csc env h.objs.size).cells = cellsFrom (h.objs.size + 1) csc.names [] ++ closL env csc.names [] := cellsFrom_app _ _ _
  have none_of : ∀ {a : Addr}, h.objs.size ≤ a → h.get? a = none := fun {a} ha => Heap.get?_none_of_le ha
  -- a name's cell is its own or one of the frame around
  have split : ∀ {x : Str} {c : Addr}, (cenvOf csc env h.objs.size).cells.lookup x = some c → ((x, c) ∈ cellsFrom (h.objs.size + 1) csc.names [] ∧ kindOf csc x = some .cell) ∨ (env.cells.lookup x = some c ∧ kindOf csc x = some .free) := fun {x c} e => by
    rw [hcells] at e
    have hm := mem_of_lookup e
    rcases List.mem_append.mp hm with hm | hm
    · exact .inl ⟨hm, C.cell _ (cellsFrom_mem hm) rfl⟩
    · rcases closL_mem hm with hm | ⟨h1, h2⟩
      · cases hm
      · exact .inr ⟨h2, (C.free _ h1 rfl).1⟩
  have kf : (cenvOf csc env h.objs.size).scope.kind = .function := C.kind
  refine ⟨?_, fun a ho => ?_⟩
  rotate_left
  · rcases ho with rfl | ⟨x, hk, e⟩
    · exact none_of (Nat.le_refl _)
    · rcases split e with ⟨hm, _⟩ | ⟨_, hk'⟩
      · exact none_of (Nat.le_trans (Nat.le_succ _) (ok.empty x a hm).2)
      · rw [hk] at hk'; cases hk'
  refine ⟨kf, F.glob, F.blt, F.code, fun x hk => ?_, fun x hk => ?_, fun x hk => ?_, fun x hk => ?_, ⟨fun _ => none, ?_, fun y d hk hl => ?_⟩, fun y hk => ?_, (hfr _ (none_of (Nat.le_refl _))).1, (hfr _ (none_of (Nat.le_refl _))).2, fun y c e => ?_, fun y c e => ?_, fun y c e => ?_, fun y z c e1 e2 => ?_⟩
  · show (relabel csc env).names.lookup x = _
    rw [relabel_lookup, show csc.names.lookup x = _ from hk]; rfl
  · show (relabel csc env).names.lookup x = _
    rw [relabel_lookup, show csc.names.lookup x = _ from hk]; rfl
  · show (relabel csc env).names.lookup x = _ ∨ (relabel csc env).names.lookup x = _
    rw [relabel_lookup, show csc.names.lookup x = _ from hk]
    simp only [Option.map_some]
    split
    · exact .inr rfl
    · exact .inl rfl
  · show (relabel csc env).names.lookup x = _
    rw [relabel_lookup, show csc.names.lookup x = _ from hk]; rfl
  · exact (Heap.Ns.new h (.type "dict")).keeps (pushCells_keeps _ _)
  · have := (compVars_lookup hl).1
    rw [hk] at this; cases this
  · rcases hk with hk | hk
    · obtain ⟨c, hc⟩ := cellsFrom_some (n := h.objs.size + 1) (lookup_mem hk)
      have hlk : (cenvOf csc env h.objs.size).cells.lookup y = some c := by
        rw [hcells]
        revert hc
        generalize cellsFrom (h.objs.size + 1) csc.names [] = l
        intro hc
        induction l with
        | nil => cases hc
        | cons p l ih =>
          rw [List.cons_append, List.lookup_cons]
          rw [List.lookup_cons] at hc
          split <;> rename_i q <;> rw [q] at hc
          · exact hc
          · exact ih hc
      refine ⟨c, none, hlk, (ok.empty y c (mem_of_lookup hc)).1, fun d hl => ?_⟩
      have := (compVars_lookup hl).1
      rw [hk] at this; cases this
    · obtain ⟨_, hsc⟩ := C.free _ (lookup_mem hk) rfl
      obtain ⟨c, ov, e1, e2, e3⟩ := Fx.cl y hsc
      obtain ⟨c', hc'⟩ := closL_some (env := env) (names := csc.names) (acc := []) (x := y) (.inr ⟨lookup_mem hk, c, e1⟩)
      have hlk : ∃ c, (cenvOf csc env h.objs.size).cells.lookup y = some c := by
        rw [hcells]
        generalize cellsFrom (h.objs.size + 1) csc.names [] = l
        induction l with
        | nil => exact ⟨c', hc'⟩
        | cons p l ih =>
          rw [List.cons_append, List.lookup_cons]
          split
          · exact ⟨_, rfl⟩
          · exact ih
      obtain ⟨c₂, hlk⟩ := hlk
      rcases split hlk with ⟨_, hk'⟩ | ⟨e1', _⟩
      · rw [hk] at hk'; cases hk'
      · rw [e1] at e1'; cases e1'
        exact ⟨c, ov, hlk, e2, fun d hl => e3 d (compVars_lookup hl).2⟩
  · rcases split e with ⟨hm, _⟩ | ⟨e', _⟩
    · exact hfr c (none_of (Nat.le_trans (Nat.le_succ _) (ok.empty y c hm).2))
    · exact F.cfree y c e'
  · rcases split e with ⟨hm, _⟩ | ⟨e', _⟩
    · obtain ⟨o, ho, _⟩ := (ok.empty y c hm).1
      exact ⟨o, ho⟩
    · exact Fx.clive y c e'
  · rcases split e with ⟨hm, _⟩ | ⟨e', _⟩
    · exact Nat.ne_of_gt (ok.empty y c hm).2
    · obtain ⟨o, ho⟩ := F.clive y c e'
      exact Nat.ne_of_lt (Heap.lt_size ho)
  · rcases split e1 with ⟨h1, _⟩ | ⟨h1, _⟩ <;> rcases split e2 with ⟨h2, _⟩ | ⟨h2, _⟩
    · exact name_of_addr ok.apart h1 h2
    · obtain ⟨o, ho⟩ := F.clive z c h2
      exact absurd (Nat.lt_of_lt_of_le (Heap.lt_size ho) (Nat.le_trans (Nat.le_succ _) (ok.empty y c h1).2)) (Nat.lt_irrefl _)
    · obtain ⟨o, ho⟩ := F.clive y c h1
      exact absurd (Nat.lt_of_lt_of_le (Heap.lt_size ho) (Nat.le_trans (Nat.le_succ _) (ok.empty z c h2).2)) (Nat.lt_irrefl _)
    · exact F.cinj y z c h1 h2
end
end Mine
/-! ## LI -/
set_option autoImplicit false
set_option maxRecDepth 100000
namespace Mine
open PySem PySem.W PyProof.Rows PySem.Calls

theorem compLoop_any {prog : Program} {w : World} {A : Around} {R : Result → Shared → Prop} {s : Shared} {elt target iter : Expr} {ifs : List Expr} {scope : Scope} {pos : Pos} {it acc : Value} {env : Env} (I : Nat → Shared → Prop)
    (turn : ∀ n s, I n s → wpAny (model prog w) A (pyNext it) (fun r s₁ => match r with
      | none => R (.ok .next) s₁
      | some v => wpAny (model prog w) A (letOwnedTupleGo target it v) (fun _ s₁' => wpAny (model prog w) A (assign target env v) (fun _ s₂ =>
          wpAny (model prog w) A (forIn ifs true fun c r => if r = true then do let ok ← isTrue c env (eval c env); pure (ForInStep.yield ok) else pure (ForInStep.yield r)) (fun ok s₃ =>
            if ok = true then wpAny (model prog w) A (eval elt env) (fun x s₄ => wpAny (model prog w) A (call (.builtin "list.append") [acc, x]) (fun _ s₅ => ∃ m, m < n ∧ I m s₅) NoE s₄) NoE s₃
            else ∃ m, m < n ∧ I m s₃) NoE s₂) NoE s₁') NoE s₁) NoE s)
    (n : Nat) (h : I n s) : codeAny (model prog w) A (.compLoop (.ListComp elt [⟨target, iter, ifs, 0⟩] scope pos) 0 it acc env) R s := by
  refine codeAny_loop rfl I (fun n s hI => ?_) n h
  show wpAny _ A ((compTurn (.ListComp elt [⟨target, iter, ifs, 0⟩] scope pos) 0 it acc env).onRaise (fun x => do noteFrame x env; theTreesLotGoes x)) _ _ s
  refine wpAny_noted ?_
  rw [compTurn_list]
  refine wpAny_bind (wpAny_standAt (wpAny_bind (wpAny_mono (turn n s hI) (fun r s₁ h₁ => ?_) fun _ _ h' => h'.elim)))
  cases r with
  | none => exact wpAny_pure h₁
  | some v =>
    refine wpAny_bind (wpAny_mono h₁ (fun _ s₁' h₁' => ?_) fun _ _ h' => h'.elim)
    refine wpAny_bind (wpAny_mono h₁' (fun _ s₂ h₂ => wpAny_bind (wpAny_mono h₂ (fun ok s₃ h₃ => ?_) fun _ _ h' => h'.elim)) fun _ _ h' => h'.elim)
    cases ok with
    | false => exact wpAny_pure ⟨rfl, h₃⟩
    | true =>
      exact wpAny_bind (wpAny_bind (wpAny_mono h₃ (fun x s₄ h₄ => wpAny_bind (wpAny_mono h₄ (fun _ s₅ h₅ => wpAny_pure (wpAny_pure ⟨rfl, h₅⟩)) fun _ _ h' => h'.elim)) fun _ _ h' => h'.elim))

def CompTOk (B : Base) (Γ : Gam) (K n : Nat) : Prop := EvalOk B Γ K n ∧ TestOk B Γ K n

section
variable {B : Base} {Γ : Gam} {K n : Nat} {Φ : Addr → Prop} {A : Around} {env : Env} {sc csc : Scope} {v v' v'' vf : Vars} {s s₁ s₂ s₃ : Shared} {adr adr₁ adr₂ adr₃ : List Ent} {st st₁ st₂ st' σf : Sto} {d : D} {ds out : List D} {b : Bool} {f : Fl}

theorem tests_ok (HT : TestOk B Γ K n) (R : Room A (K + n)) : ∀ {ifs : List Expr} {r : Bool} {s : Shared} {adr : List Ent} {st st' : Sto} {b : Bool}, (if r = true then andE (testE n Γ sc v) ifs st else some (false, st)) = some (b, st') → OK B Φ env sc v s adr st →
    Says B Φ A (forIn ifs r fun c r => if r = true then do let ok ← isTrue c env (eval c env); pure (ForInStep.yield ok) else pure (ForInStep.yield r)) s adr st' b
  | [], r, s, adr, st, st', b, e, O => by
    unfold Says
    rw [List.forIn_nil]
    cases r with
    | true => simp only [if_true, andE] at e; cases e; exact wpAny_pure ⟨adr, Post.refl O.inv O.sr, rfl⟩
    | false => simp only [Bool.false_eq_true, if_false] at e; cases e; exact wpAny_pure ⟨adr, Post.refl O.inv O.sr, rfl⟩
  | x :: ifs, r, s, adr, st, st', b, e, O => by
    unfold Says
    rw [List.forIn_cons]
    cases r with
    | true =>
      simp only [if_true, andE, Option.bind_eq_bind, Option.bind_eq_some_iff] at e ⊢
      obtain ⟨⟨c, st₁⟩, h1, e⟩ := e
      refine wpAny_bind (wpAny_bind ((HT _ _ _ _ _ _ _ _ _ _ _ h1 R O).next O fun s₁ adr₁ O₁ P₁ => wpAny_pure ?_))
      have e' : (if c = true then andE (testE n Γ sc v) ifs st₁ else some (false, st₁)) = some (b, st') := e
      exact (tests_ok HT R e' O₁).last P₁
    | false =>
      simp only [Bool.false_eq_true, if_false] at e ⊢
      refine wpAny_bind (wpAny_pure ?_)
      exact tests_ok HT R (r := false) (by simpa using e) O

theorem FR.sub {h : Heap} (F : FR B Φ h adr env sc v) (hs : ∀ x d, v'.lookup x = some d → v.lookup x = some d) : FR B Φ h adr env sc v' := by
  obtain ⟨m, hn, hm⟩ := F.ns
  refine ⟨F.kind, F.glob, F.blt, F.code, F.loc, F.cell, F.free, F.gl, ⟨m, hn, fun y d hk hl => hm y d hk (hs y d hl)⟩, fun y hk => ?_, F.lfree, F.lnew, F.cfree, F.clive, F.lc, F.cinj⟩
  obtain ⟨c, ov, e, h1, q⟩ := F.cl y hk
  exact ⟨c, ov, e, h1, fun d hl => q d (hs y d hl)⟩

theorem bindNames_sub {x : Str} : ∀ {ts : List Expr} {ds : List D} {v : Vars}, kindOf sc x = some .free → ts.all (bound1 sc) = true → bindNames ts ds v = some v' → v'.lookup x = v.lookup x
  | [], [], v, _, _, e => by simp only [bindNames] at e; cases e; rfl
  | [], _ :: _, v, _, _, e => by simp [bindNames] at e
  | t :: ts, ds, v, hx, hb, e => by
    rw [List.all_cons, Bool.and_eq_true] at hb
    cases t with
    | Name y p =>
      cases ds with
      | nil => simp [bindNames] at e
      | cons d ds =>
        simp only [bindNames] at e
        rw [bindNames_sub hx hb.2 e, lookup_setVar, if_neg]
        rintro rfl
        rcases bound1_of hb.1 with h | h <;> rw [hx] at h <;> cases h
    | _ => simp [bindNames] at e
theorem assign_sub {t : Expr} (ht : targetOk csc t = true) (e : st.assign t d (compVars csc v) = some v') : ∀ x d, (compVars csc v).lookup x = some d → v'.lookup x = some d := fun x d₁ h => by
  have hx := (compVars_lookup h).1
  rw [← h]
  cases t with
  | Name y p =>
    simp only [Sto.assign] at e
    cases e
    rw [lookup_setVar, if_neg]
    rintro rfl
    rcases bound1_of (p := p) ht with h | h <;> rw [hx] at h <;> cases h
  | Tuple ts k pos =>
    simp only [Sto.assign] at e
    split at e
    · exact bindNames_sub hx ht e
    · cases e
  | _ => simp [targetOk] at ht

section comp
variable {pairs : Bool} {lk : Option Nat} {I : Addr} {wr : Addr → Prop} {St : (Addr → Prop) → Nat → Heap → List Ent → Prop} {h₁ : Heap}

theorem comp_block {elt t iter : Expr} {ifs : List Expr} {pos : Pos} (H : EvalOk B Γ K n) (HT : TestOk B Γ K n) (R : Room A (K + n)) (C : CompScope sc csc) (ht : targetOk csc t = true) (O : OK B Φ env sc v s adr st)
    (X : IterEnd B Φ A (isTuple t) s adr st' ds lk s₂ I wr St adr₂ h₁) (e : compL (compT (n + 1) Γ csc elt t ifs (compVars csc v)) ds (st'.lock lk) = some (out, σf)) (hout : out.length ≤ LIM) {E : Value → Shared → Prop} {RR : Value → Addr → Result → Shared → Prop}
    (hRR : ∀ s₅ adr₆, OK B (fun a => Φ a ∨ a = s₂.heap.objs.size + 1) env sc v s₅ adr₆ (σf.unlock ds lk) → Ex B.T s.heap adr s₅.heap adr₆ → s₅.os = s.os → s₅.gens = s.gens → s.heap.get? (s₂.heap.objs.size + 1) = none →
      VR B.T (fun a => Φ a ∨ a = s₂.heap.objs.size + 1) B.Ins s₅.heap adr₆ (.ref s₂.heap.objs.size) (.lst out) → (∃ m, s₅.heap.Ns (s₂.heap.objs.size + 1) m) → RR (.ref s₂.heap.objs.size) (s₂.heap.objs.size + 1) (.ok .next) s₅) :
    wpAny (model B.prog B.w) A (newList []) (fun acc s₃ => wpAny (model B.prog B.w) A (newFunctionEnv csc env.globals (closL env csc.names []) [] env.qual none .none (some env)) (fun cenv s₄ =>
      codeAny (model B.prog B.w) A (.compStart (.ListComp elt [⟨t, iter, ifs, 0⟩] csc pos) 0 (.ref I) acc { cenv with scope := relabel csc env }) (RR acc cenv.locals) s₄) E s₃) E s₂ := by
  refine wpAny_newObj_type (newEnv_ok ?_)
  show codeAny (model B.prog B.w) A (.compStart (.ListComp elt [⟨t, iter, ifs, 0⟩] csc pos) 0 (.ref I) (.ref s₂.heap.objs.size) (cenvOf csc env (s₂.heap.push (listO [] 0)).objs.size)) (RR (.ref s₂.heap.objs.size) (s₂.heap.push (listO [] 0)).objs.size)
    { s₂ with heap := pushCells ((s₂.heap.push (listO [] 0)).push { cls := .type "dict", data := .dict #[] }) csc.names }
  have hLe : (s₂.heap.push (listO [] 0)).objs.size = s₂.heap.objs.size + 1 := Heap.size_push ..
  generalize hD : s₂.heap.objs.size = Da at hRR hLe ⊢
  generalize hH3 : s₂.heap.push (listO [] 0) = H₃ at hLe ⊢
  generalize hH4 : pushCells (H₃.push { cls := .type "dict", data := .dict #[] }) csc.names = H₄
  rw [hLe]
  have up3 : ∀ a o, s₂.heap.get? a = some o → H₃.get? a = some o := fun a o q => hH3 ▸ keep_push _ a o q
  have up34 : ∀ a o, H₃.get? a = some o → H₄.get? a = some o := fun a o q => hH4 ▸ pushCells_keeps _ _ a o (Heap.get?_push_of_some _ q)
  have up4 : ∀ a o, s₂.heap.get? a = some o → H₄.get? a = some o := fun a o q => up34 a o (up3 a o q)
  have dD3 : H₃.get? Da = some (listO [] 0) := by rw [← hH3, ← hD]; exact Heap.get?_push_size _ rfl
  have dDn : s₂.heap.get? Da = none := by rw [← hD]; exact size_none _
  have dLn3 : H₃.get? (Da + 1) = none := by rw [← hLe]; exact size_none _
  have dLn : s₂.heap.get? (Da + 1) = none := by
    cases q : s₂.heap.get? (Da + 1) with
    | none => rfl
    | some o => have := up3 _ _ q; rw [dLn3] at this; cases this
  -- places of the loop
  let Φ₂ : Addr → Prop := fun a => Φ a ∨ wr a ∨ (s₂.heap.get? a = none ∧ ∃ o, H₄.get? a = some o)
  have h1n : ∀ a, s₂.heap.get? a = none → h₁.get? a = none := fun a q => by
    cases q' : h₁.get? a with
    | none => rfl
    | some o => have := X.up a o q'; rw [q] at this; cases this
  have hP : ∀ a o, h₁.get? a = some o → Φ₂ a → Φ a := fun a o q p => by
    rcases p with p | w | ⟨p, _⟩
    · exact p
    · rw [(X.wrs a w).1] at q; cases q
    · rw [h1n a p] at q; cases q
  have live2 : ∀ a, Φ a → ∃ o, s₂.heap.get? a = some o := fun a p => X.post.sr.phi a p
  have hLive : ∀ a, Φ₂ a → ∃ o, H₄.get? a = some o := fun a p => by
    rcases p with p | w | ⟨_, p⟩
    · obtain ⟨o, q⟩ := live2 a p; exact ⟨o, up4 _ _ q⟩
    · obtain ⟨o, q⟩ := (X.wrs a w).2; exact ⟨o, up4 _ _ q⟩
    · exact p
  have hOld : ∀ a, Φ₂ a → ¬ B.old a := fun a p o => by
    rcases p with p | w | ⟨p, _⟩
    · exact X.sr1.phiO a p o
    · exact X.wrO a w o
    · obtain ⟨o', q⟩ := B.stays _ a X.post.inv o
      rw [p] at q; cases q
  have S₄ : SR B Φ₂ H₄ (lockA adr₂ lk) (st'.lock lk) := (X.sr1.wide (fun a o q => up4 a o (X.up a o q)) hP hLive hOld).lock fun n e => ⟨ds, X.lks n e⟩
  have i₃ : B.Inv H₃ := B.step _ _ X.post.inv fun a o _ q => up3 a o q
  have i₄ : B.Inv H₄ := B.step _ _ i₃ fun a o _ q => up34 a o q
  have sFree : ∀ a, s.heap.get? a = none ∨ s.heap.get? a ≠ none := fun a => Classical.em _
  have hPs : ∀ a o, s.heap.get? a = some o → Φ₂ a → Φ a := fun a o q p => by
    obtain ⟨o', q'⟩ := X.dn a o q
    exact hP a o' q' p
  have F₃ : FR B Φ₂ H₃ (lockA adr₂ lk) env sc v := ((O.fr.re (fun a o q p => .inr (hPs a o q p))).ex (X.post.ex.trans (.of_keep up3))).sm (same_lock _ _)
  have S₃ : SR B Φ H₃ adr₂ st' := X.post.sr.keep up3
  obtain ⟨F₄, own4⟩ := comp_frame C F₃ i₃ fun a q => ⟨fun m => S₃.fresh q ((same_lock adr₂ lk).at' m), new_old i₃ q⟩
  rw [hLe, hH4] at F₄
  rw [hLe] at own4
  have own2 : ∀ a, own (cenvOf csc env (Da + 1)) csc a → s₂.heap.get? a = none := fun a o => by
    have := own4 a o
    cases q : s₂.heap.get? a with
    | none => rfl
    | some o' => rw [up3 a o' q] at this; cases this
  have hO₂ : ∀ a, own (cenvOf csc env (Da + 1)) csc a → Φ₂ a := fun a o => by
    refine .inr (.inr ⟨own2 a o, ?_⟩)
    rcases o with rfl | ⟨x, hk, e⟩
    · exact F₄.live (.inl rfl)
    · exact F₄.live (.inr ⟨x, e⟩)
  have O₄ : OK B Φ₂ (cenvOf csc env (Da + 1)) csc (compVars csc v) { s₂ with heap := H₄ } (lockA adr₂ lk) (st'.lock lk) := ⟨i₄, S₄, F₄, hO₂, X.tk⟩
  obtain ⟨W, st0⟩ := X.walk Φ₂ (fun a w => .inr (.inl w)) hP
  have st4 := W.frame 0 _ H₄ _ (lockA adr₂ lk) B.T st0 (.of_keep up4) .refl fun b o _ q => up4 b o q
  have hwr1 : ∀ b, wr b → h₁.get? b = none := fun b w => (X.wrs b w).1
  have D2 : Φ₂ Da := .inr (.inr ⟨dDn, _, up34 _ _ dD3⟩)
  have wrD : ¬ wr Da := fun w => by obtain ⟨o, q⟩ := (X.wrs Da w).2; rw [dDn] at q; cases q
  have wrL : ¬ wr (Da + 1) := fun w => by obtain ⟨o, q⟩ := (X.wrs _ w).2; rw [dLn] at q; cases q
  have nT : ∀ b, Φ₂ b → ¬ B.T b := fun b p t => hOld b p (B.T_old b t)
  have wrOwn : ∀ b, wr b → ¬ own (cenvOf csc env (Da + 1)) csc b := fun b w o => by obtain ⟨o', q⟩ := (X.wrs b w).2; rw [own2 b o] at q; cases q
  have DOwn : ¬ own (cenvOf csc env (Da + 1)) csc Da := fun o => by rw [own4 Da o] at dD3; cases dD3
  have reachD : ∀ a, reach (cenvOf csc env (Da + 1)) a → a ≠ Da := fun a r q => by
    subst q
    rcases r with r | ⟨x, e⟩
    · exact absurd r (Nat.ne_of_lt (Nat.lt_succ_self _))
    · have hc := F₄.clive x a e
      -- a cell is its own, or one of the frame around
      have : H₃.get? a = none ∨ ∃ o, s.heap.get? a = some o := by
        have hm := mem_of_lookup e
        show _
        have hcells : (cenvOf csc env (a + 1)).cells = cellsFrom (a + 1 + 1) csc.names [] ++ closL env csc.names [] := cellsFrom_app _ _ _
        rw [hcells] at hm
        rcases List.mem_append.mp hm with hm | hm
        · left
          exact own4 a (.inr ⟨x, C.cell _ (cellsFrom_mem hm) rfl, e⟩)
        · rcases closL_mem hm with hm | ⟨_, h2⟩
          · cases hm
          · exact .inr (O.fr.clive x a h2)
      rcases this with q | ⟨o, q⟩
      · rw [q] at dD3; cases dD3
      · obtain ⟨o', q'⟩ := X.dn a o q
        rw [X.up a o' q'] at dDn; cases dDn
  have reachW : ∀ a, reach (cenvOf csc env (Da + 1)) a → ¬ wr a := fun a r w => by
    rcases r with r | ⟨x, e⟩
    · subst r; exact wrL w
    · have hm := mem_of_lookup e
      have hcells : (cenvOf csc env (Da + 1)).cells = cellsFrom (Da + 1 + 1) csc.names [] ++ closL env csc.names [] := cellsFrom_app _ _ _
      rw [hcells] at hm
      rcases List.mem_append.mp hm with hm | hm
      · exact wrOwn a w (.inr ⟨x, C.cell _ (cellsFrom_mem hm) rfl, e⟩)
      · rcases closL_mem hm with hm | ⟨_, h2⟩
        · cases hm
        · obtain ⟨o, q⟩ := O.fr.clive x a h2
          rw [X.wrF a w] at q; cases q
  have wid1 : Wid B.T Φ₂ (fun a => B.T a ∨ wr a) := ⟨fun _ t => .inl t, fun a t => t.elim .inl fun w => .inr (.inr (.inl w))⟩
  have widD : Wid B.T Φ₂ (fun a => B.T a ∨ a = Da) := ⟨fun _ t => .inl t, fun a t => t.elim .inl fun w => .inr (w ▸ D2)⟩
  have widO : Wid B.T Φ₂ (TO B (cenvOf csc env (Da + 1)) csc) := wid_own hO₂
  let Keep (i : Nat) (od : List D) (σ : Sto) (s' : Shared) (adr' : List Ent) : Prop := St Φ₂ i s'.heap adr' ∧ OK B Φ₂ (cenvOf csc env (Da + 1)) csc (compVars csc v) s' adr' σ ∧ Ex B.T h₁ (lockA adr₂ lk) s'.heap adr' ∧ s'.os = s₂.os ∧ s'.gens = s₂.gens ∧
    ∃ us k, s'.heap.get? Da = some (listO us k) ∧ VRs B.T Φ₂ B.Ins s'.heap adr' us od
  have stepP : ∀ {i : Nat} {od : List D} {σ σ' : Sto} {v₂ : Vars} {s' s'' : Shared} {adr' adr'' : List Ent}, Keep i od σ s' adr' → (∀ x d, (compVars csc v).lookup x = some d → v₂.lookup x = some d) →
      Went B Φ₂ (cenvOf csc env (Da + 1)) csc v₂ s' adr' s'' adr'' σ' → Keep i od σ' s'' adr'' := by
    rintro i od σ σ' v₂ s' s'' adr' adr'' ⟨k1, k2, k3, k4, k5, us, k, k6, k7⟩ hv w
    have nl : ∀ b, Φ₂ b → Ent.live b ∉ adr' := fun b p m => (k2.sr.out b ⟨_, m, rfl⟩).2 p
    refine ⟨W.frame _ _ _ _ _ _ k1 w.ex widO fun b o hb q => w.ex.keep b o q (fun t => t.elim (nT b (.inr (.inl hb))) (wrOwn b hb)) (nl b (.inr (.inl hb))), ⟨w.ok.inv, w.ok.sr, w.ok.fr.sub hv, w.ok.own, w.ok.tk⟩,
      ((k3.up fun _ t => .inl t).trans w.ex).drop fun b t => t.elim .inl fun o => .inr (h1n b (own2 b o)), w.os.trans k4, w.gens.trans k5, us, k, ?_, k7.exF w.ex widO⟩
    exact w.ex.keep Da _ k6 (fun t => t.elim (nT Da D2) DOwn) (nl Da D2)
  have pst : ∀ {i : Nat} {od : List D} {σ σ' : Sto} {s' s'' : Shared} {adr' adr'' : List Ent}, Keep i od σ s' adr' → Post B Φ₂ s' adr' s'' adr'' σ' → 0 ≤ s''.toks → Keep i od σ' s'' adr'' := fun k P t => stepP k (fun _ _ h => h) (Went.post k.2.1 P t)
  have main : codeAny (model B.prog B.w) A (.compLoop (.ListComp elt [⟨t, iter, ifs, 0⟩] csc pos) 0 (.ref I) (.ref Da) (cenvOf csc env (Da + 1))) (RR (.ref Da) (Da + 1)) { s₂ with heap := H₄ } := by
    refine compLoop_any (fun k s' => ∃ i adr' σ od rest, i ≤ ds.length ∧ k = ds.length + 1 - i ∧ compL (compT (n + 1) Γ csc elt t ifs (compVars csc v)) (ds.drop i) σ = some (rest, σf) ∧ out = od ++ rest ∧ Keep i od σ s' adr') ?_ (ds.length + 1)
      ⟨0, lockA adr₂ lk, st'.lock lk, [], out, Nat.zero_le _, rfl, by simpa using e, rfl, st4, O₄, .of_keep fun a o q => up4 a o (X.up a o q), rfl, rfl, [], 0, up34 _ _ dD3, .nil⟩
    rintro k s' ⟨i, adr', σ, od, rest, hi, rfl, hf, hod, hk⟩
    by_cases hlt : i < ds.length
    · have hd : ds[i]? = some ds[i] := List.getElem?_eq_getElem hlt
      rw [List.drop_eq_getElem_cons hlt] at hf
      simp only [compL, Option.bind_eq_bind, Option.bind_eq_some_iff] at hf
      obtain ⟨⟨x₁, σ₁⟩, hb, ⟨r₁, σ₂⟩, hf, q⟩ := hf
      obtain ⟨q1, q2⟩ := Prod.mk.inj (Option.some.inj q)
      have q2 := q2.symm
      subst q1 q2
      unfold compT at hb
      simp only [Option.bind_eq_bind, Option.bind_eq_some_iff] at hb
      obtain ⟨v₁, ha, ⟨ok, σ₃⟩, htest, hb⟩ := hb
      obtain ⟨k1, k2, k3, k4, k5, us, kk, k6, k7⟩ := id hk
      refine wpAny_mono (wpAny_toks_of k2.tk (W.item i _ s' adr' σ (fun u s₂' => 0 ≤ s₂'.toks → wpAny (model B.prog B.w) A (assign t (cenvOf csc env (Da + 1)) u) (fun _ s₃ =>
          wpAny (model B.prog B.w) A (forIn ifs true fun c r => if r = true then do let ok ← isTrue c (cenvOf csc env (Da + 1)) (eval c (cenvOf csc env (Da + 1))); pure (ForInStep.yield ok) else pure (ForInStep.yield r)) (fun ok s₄ =>
            if ok = true then wpAny (model B.prog B.w) A (eval elt (cenvOf csc env (Da + 1))) (fun x s₅ => wpAny (model B.prog B.w) A (call (.builtin "list.append") [.ref Da, x]) (fun _ s₆ => ∃ m, m < ds.length + 1 - i ∧ ∃ i adr' σ od rest, i ≤ ds.length ∧ m = ds.length + 1 - i ∧ compL (compT (n + 1) Γ csc elt t ifs (compVars csc v)) (ds.drop i) σ = some (rest, σf) ∧ out = od ++ rest ∧ Keep i od σ s₆ adr') NoE s₅) NoE s₄
            else ∃ m, m < ds.length + 1 - i ∧ ∃ i adr' σ od rest, i ≤ ds.length ∧ m = ds.length + 1 - i ∧ compL (compT (n + 1) Γ csc elt t ifs (compVars csc v)) (ds.drop i) σ = some (rest, σf) ∧ out = od ++ rest ∧ Keep i od σ s₄ adr') NoE s₃) NoE s₂') NoE t id hd k1 k2.inv k2.sr fun u h' tk' st'' r hkk tk => ?_)) (fun r s₁' h => ?_) fun _ _ e => e.2
      · have hx : Ex (fun a => B.T a ∨ wr a) s'.heap adr' h' adr' := .of_but (fun b o q t => hkk b o (fun w => t (.inr w)) q) fun b o q => by
          by_cases w : wr b
          · exact W.live _ _ _ b st'' w
          · exact ⟨o, hkk b o w q⟩
        have O₃ : OK B Φ₂ (cenvOf csc env (Da + 1)) csc (compVars csc v) { s' with heap := h', toks := tk' } adr' σ :=
          ⟨Inv.fin X.wrO hkk k2.inv, k2.sr.keepF wid1 (fun b o q t => hkk b o (fun w => t (.inr w)) q) hx.live, k2.fr.chg hx wid1 reachW fun a o w q => hkk a o w q, hO₂, tk⟩
        have k₃ : Keep (i + 1) od σ { s' with heap := h', toks := tk' } adr' := ⟨st'', O₃, k3.but hkk hwr1, k4, k5, us, kk, hkk _ _ wrD k6, k7.exF hx wid1⟩
        refine assign_ok R.h ht O₃ ha r fun s₃ w₃ => ?_
        have hsub := assign_sub ht ha
        have k₄ := stepP k₃ hsub w₃
        refine (tests_ok HT R (r := true) (by simpa using htest) w₃.ok).next w₃.ok fun s₄ adr₄ O₅ P₄ => ?_
        have k₅ := pst k₄ P₄ O₅.tk
        cases ok with
        | false =>
          simp only [Bool.false_eq_true, if_false] at hb ⊢
          cases hb
          exact ⟨_, by omega, i + 1, adr₄, _, od, _, hlt, rfl, hf, by simpa using hod, k₅⟩
        | true =>
          simp only [if_true, Option.bind_eq_some_iff] at hb ⊢
          obtain ⟨⟨x, σ₄⟩, hx', hb⟩ := hb
          cases hb
          refine (H _ _ _ _ _ _ _ _ _ _ _ hx' R O₅).next O₅ fun u s₅ adr₅ O₆ P₅ r₅ => ?_
          obtain ⟨j1, j2, j3, j4, j5, us', kk', j6, j7⟩ := pst k₅ P₅ O₆.tk
          have hlen : us'.length ≤ LIM := by
            rw [j7.length]
            rw [hod, List.length_append] at hout
            omega
          refine wpAny_list_append_plain (l := Da) (items := us'.toArray) ⟨kk', j6⟩ (fun h₆ hp₆ hs₆ => ?_) (by rw [List.size_toArray, sizeLine_eq]; unfold LIM at hlen; omega)
          obtain ⟨k6', q6⟩ := hp₆
          have q6 : h₆.get? Da = some (listO (us' ++ [u]) k6') := by rw [q6]; unfold listO; simp
          have hx₆ : Ex (fun a => B.T a ∨ a = Da) s₅.heap adr₅ h₆ adr₅ := .of_but (fun b o q t => (hs₆.2 b fun r => t (.inr r)).trans q) (SameBut.live hs₆ ⟨_, q6⟩)
          have hne : ∀ b o, ¬ b = Da → s₅.heap.get? b = some o → h₆.get? b = some o := fun b o q r => (hs₆.2 b q).trans r
          refine ⟨_, by omega, i + 1, adr₅, _, od ++ [x], r₁, hlt, rfl, hf, by rw [hod]; simp, W.frame _ _ _ _ _ _ j1 hx₆ widD fun b o w q => hne b o (fun r => wrD (r ▸ w)) q, ?_, (j3.but (wr := fun a => a = Da) (fun b o q r => hne b o q r) fun b q => q ▸ h1n Da dDn), j4, j5, _, k6', q6, (j7.append (.cons r₅ .nil)).exF hx₆ widD⟩
          exact ⟨Inv.fin (wr := fun a => a = Da) (fun a q => q ▸ hOld Da D2) (fun b o q r => hne b o q r) j2.inv, j2.sr.keepF widD (fun b o q t => hne b o (fun r => t (.inr r)) q) hx₆.live, j2.fr.chg (wr := fun a => a = Da) hx₆ widD reachD fun b o q r => hne b o q r, hO₂, O₆.tk⟩
      · cases r with
        | none => exact h.2.elim
        | some u => exact wpAny_mono (wpAny_toks_of h.1 h.2) (fun _ s₂' ⟨tk, q⟩ => q tk) fun _ _ e => e.2
    · have hi' : i = ds.length := by omega
      subst hi'
      rw [List.drop_length] at hf
      simp only [compL] at hf
      cases hf
      rw [List.append_nil] at hod
      subst hod
      obtain ⟨k1, k2, k3, k4, k5, us, kk, k6, k7⟩ := hk
      refine wpAny_mono (wpAny_toks_of k2.tk (W.done s' adr' (fun r s₁ => r = none ∧ ∃ h' tk', s₁ = { s' with heap := h', toks := tk' } ∧ ∀ b o, ¬ wr b → s'.heap.get? b = some o → h'.get? b = some o) NoE k1 fun h' tk' hkk => ⟨rfl, h', tk', rfl, hkk⟩)) (fun r s₁ ⟨tk, hr, h', tk', hs, hkk⟩ => ?_) fun _ _ e => e.2
      subst hr hs
      have pL : ∀ a, (Φ a ∨ a = Da + 1) → Φ₂ a := fun a p => p.elim .inl fun q => .inr (.inr ⟨q ▸ dLn, q ▸ F₄.live (.inl rfl)⟩)
      have hkk' : ∀ b o, ¬ wr b → s'.heap.get? b = some o → h'.get? b = some o := hkk
      have S₅ : SR B (fun a => Φ a ∨ a = Da + 1) h' adr' σf := k2.sr.fin (wr := wr) (fun a w => .inr (.inl w)) pL (fun a p => p.elim (X.dis a) fun q => q ▸ wrL) hkk'
      have x₅ : Ex B.T h₁ (lockA adr₂ lk) h' adr' := k3.but hkk hwr1
      have sL : s.heap.get? (Da + 1) = none := by
        cases q : s.heap.get? (Da + 1) with
        | none => rfl
        | some o => obtain ⟨o', q'⟩ := X.dn _ o q; rw [h1n _ dLn] at q'; cases q'
      obtain ⟨adr₆, S₆, x₆, sm⟩ := unlock_ok X.sr1 X.lks (Φ₃ := fun a => Φ a ∨ a = Da + 1) (fun a o q p => p.elim .inr fun r => by rw [r, h1n _ dLn] at q; cases q) .refl x₅ S₅
      have xs : Ex B.T s.heap adr h' adr₆ := X.ex1.trans x₆
      have F₆ : FR B (fun a => Φ a ∨ a = Da + 1) h' adr₆ env sc v := (O.fr.re (fun a o q p => p.elim .inr fun r => by rw [r, sL] at q; cases q)).ex xs
      have nD : ¬ At adr' Da := fun m => (k2.sr.out Da m).2 D2
      refine hRR _ adr₆ ⟨Inv.fin X.wrO hkk k2.inv, S₆, F₆, fun a o => .inl (O.own a o), tk⟩ xs (k4.trans X.post.os) (k5.trans X.post.gens) sL ?_ ?_
      · refine .lst (vs := us) (n := kk) (hkk _ _ wrD k6) ⟨nT Da D2, fun p => ?_, fun m => nD (sm.at' m)⟩ ((k7.fin (wr := wr) (fun a w => .inr (.inl w)) pL hkk').sm sm) hout
        rcases p with p | p
        · obtain ⟨o, q⟩ := live2 Da p; rw [dDn] at q; cases q
        · exact absurd p (Nat.ne_of_lt (Nat.lt_succ_self _))
      · obtain ⟨m, ⟨o, es, ep, q, r⟩, _⟩ := k2.fr.ns
        exact ⟨m, o, es, ep, hkk _ _ wrL q, r⟩
  exact codeAny_compStart_list main (W.self 0 _ _ _ _ st4 main)
end comp
end
end Mine
/-! ## LJ -/
set_option autoImplicit false
set_option maxRecDepth 100000
namespace Mine
open PySem PySem.W PyProof.Rows PySem.Calls

section
variable {B : Base} {Γ : Gam} {K n : Nat} {Φ : Addr → Prop} {A : Around} {env : Env} {sc csc : Scope} {v v' : Vars} {s s₁ s₂ s₃ s₅ : Shared} {adr adr₁ adr₂ adr₃ adr₆ : List Ent} {st st₁ st₂ st' σ σf : Sto} {d : D} {ds out : List D} {b : Bool} {f : Fl} {L : Addr} {lk : Option Nat}

theorem scope_free (C : CompScope sc csc) (F : FR B Φ s.heap adr env sc v) : ∀ p ∈ csc.names, p.2 = .free → ∃ c, env.cells.lookup p.1 = some c := fun p hp hk => by
  obtain ⟨c, ov, e, _⟩ := F.cl p.1 (C.free p hp hk).2
  exact ⟨c, e⟩

/-- the comprehension as a whole -/
theorem comp_all {elt t it : Expr} {ifs : List Expr} {pos cpos : Pos} {Q : Value → Shared → Prop} {E : Value → Shared → Prop} {use : Option (Value → Sem Unit)} (HI : IterOk B Γ K (n + 1)) (H : EvalOk B Γ K n) (HT : TestOk B Γ K n) (R : Room A (K + (n + 1))) (hc : compOk sc csc = true) (ht : targetOk csc t = true)
    (O : OK B Φ env sc v s adr st) (h1 : iterE (n + 1) Γ sc v (isTuple t) it st = some (ds, lk, st')) (e : compL (compT (n + 1) Γ csc elt t ifs (compVars csc v)) ds (st'.lock lk) = some (out, σf)) (hout : out.length ≤ LIM)
    (hQ : ∀ D L s₅ adr₆, OK B (fun a => Φ a ∨ a = L) env sc v s₅ adr₆ (σf.unlock ds lk) → Ex B.T s.heap adr s₅.heap adr₆ → s₅.os = s.os → s₅.gens = s.gens → s.heap.get? L = none →
      VR B.T (fun a => Φ a ∨ a = L) B.Ins s₅.heap adr₆ (.ref D) (.lst out) → (∃ m, s₅.heap.Ns L m) → compPost (model B.prog B.w) A E use Q (.ref D) L (.ok .next) s₅) :
    wpAny (model B.prog B.w) A (comprehension (.ListComp elt [⟨t, it, ifs, 0⟩] csc pos) csc env cpos (newList []) false (eval it env) use) Q E s := by
  have C := compOk_of hc
  have R' : Room A (K + n) := R.le (by omega)
  obtain ⟨hs, hi⟩ := HI _ _ _ _ _ _ _ _ _ _ _ _ _ h1 R O
  refine wpAny_comprehension_free (g := ⟨t, it, ifs, 0⟩) (gs := []) rfl hs (closure_ok (scope_free C O.fr)) C.kind C.loc ?_
  refine wpAny_mono hi (fun u s₁ h => wpAny_mono h (fun w s₂ ⟨I, wr, St, adr₂, h₁, hw, X⟩ => ?_) fun _ _ e => e.elim) fun _ _ e => e.elim
  subst hw
  exact comp_block H HT R' C ht O X e hout fun s₅ adr₆ O₅ x os gens hL r m => hQ _ _ s₅ adr₆ O₅ x os gens hL r m

/-- a comprehension's frame is gone -/
theorem same_fin (O : OK B Φ env sc v s adr st) (O₅ : OK B (fun a => Φ a ∨ a = L) env sc v' s₅ adr₆ σ) (hL : s.heap.get? L = none) {h' : Heap} (hs : Heap.SameBut L s₅.heap h') :
    SR B Φ h' adr₆ σ ∧ B.Inv h' ∧ FR B Φ h' adr₆ env sc v' ∧ (∀ {u : Value} {d : D}, VR B.T (fun a => Φ a ∨ a = L) B.Ins s₅.heap adr₆ u d → VR B.T Φ B.Ins h' adr₆ u d) ∧ ∀ {T' : Addr → Prop}, Ex T' s.heap adr s₅.heap adr₆ → Ex T' s.heap adr h' adr₆ := by
  have k : ∀ a o, ¬ a = L → s₅.heap.get? a = some o → h'.get? a = some o := fun a o q r => (hs.2 a q).trans r
  have hw : ∀ a, a = L → (Φ a ∨ a = L) := fun a q => .inr q
  have hP : ∀ a, Φ a → (Φ a ∨ a = L) := fun a q => .inl q
  refine ⟨O₅.sr.fin hw hP (fun a p q => ?_) k, Inv.fin (fun a q => O₅.sr.phiO a (.inr q)) k O₅.inv, O₅.fr.fin hw hP (fun a r q => ?_) k, fun r => r.fin hw hP k, fun x => Ex.but (wr := fun a => a = L) x k fun b q => q ▸ hL⟩
  · obtain ⟨o, e⟩ := O.sr.phi a p
    rw [q, hL] at e; cases e
  · obtain ⟨o, e⟩ := O.fr.live (a := a) (by
      rcases r with r | ⟨x, r⟩
      · exact .inl r
      · exact .inr ⟨x, r⟩)
    rw [q, hL] at e; cases e

theorem comp_arm (HI : IterOk B Γ K (n + 1)) (H : EvalOk B Γ K n) (HT : TestOk B Γ K n) {elt t it : Expr} {ifs : List Expr} {pos : Pos} (e : evalE (n + 1 + 1) Γ sc v (.ListComp elt [⟨t, it, ifs, 0⟩] csc pos) st = some (d, st')) (R : Room A (K + (n + 1))) (O : OK B Φ env sc v s adr st) :
    Gives B Φ A (eval (.ListComp elt [⟨t, it, ifs, 0⟩] csc pos) env) s adr st' d := by
  unfold evalE at e
  simp only at e
  split at e
  · cases e
  · rename_i hc
    have hc : compOk sc csc = true ∧ targetOk csc t = true := by simpa using hc
    simp only [Option.bind_eq_bind, Option.bind_eq_some_iff] at e
    obtain ⟨⟨ds, lk, st₁⟩, h1, ⟨out, σf⟩, h2, e⟩ := e
    simp only at h2 e
    split at e
    · rename_i hl
      cases e
      unfold Gives
      rw [arm_eval_ListComp]
      refine comp_all (use := none) HI H HT R hc.1 hc.2 O h1 h2 hl fun D L s₅ adr₆ O₅ x os gens hL r m => ?_
      obtain ⟨m, hm⟩ := m
      refine ⟨m, hm, fun h' hs => ?_⟩
      obtain ⟨S', i', F', vr, ex⟩ := same_fin O O₅ hL hs
      exact ⟨adr₆, ⟨i', S', ex x, os, gens⟩, vr r⟩
    · cases e

theorem swaps_comp {elt : Expr} {gens : List Comprehension} {pos p : Pos} {y : Str} {line : Nat} : ∃ c : Bool, swapsWith (.ListComp elt gens csc pos) (some (.Name y p)) line env = pure c := ⟨_, rfl⟩

theorem assign_comp (HI : IterOk B Γ K (n + 1)) (H : EvalOk B Γ K n) (HT : TestOk B Γ K n) {elt t it : Expr} {ifs : List Expr} {pos p spos : Pos} {y : Str} (e : evalE (n + 1 + 1) Γ sc v (.ListComp elt [⟨t, it, ifs, 0⟩] csc pos) st = some (d, st')) (R : Room A (K + (n + 1))) (O : OK B Φ env sc v s adr st)
    (hb : bound1 sc (.Name y p) = true) : wpAny (model B.prog B.w) A (exec (.Assign [.Name y p] (.ListComp elt [⟨t, it, ifs, 0⟩] csc pos) spos) env) (Ends B Φ env sc s adr .next (setVar v y d) st') NoE s := by
  obtain ⟨c, hsw⟩ := swaps_comp (env := env) (csc := csc) (elt := elt) (gens := [⟨t, it, ifs, 0⟩]) (pos := pos) (p := p) (y := y) (line := spos.line)
  cases c with
  | false =>
    exact wpAny_Assign_Name ((comp_arm HI H HT e R O).next O fun u s₁ adr₁ O₁ P₁ r₁ => set_ok O₁ (bound1_of hb) r₁ fun s₂ w => ⟨adr₁, (Went.post O P₁ O₁.tk).trans w, .next⟩) hsw
  | true =>
    unfold evalE at e
    simp only at e
    split at e
    · cases e
    · rename_i hc
      have hc : compOk sc csc = true ∧ targetOk csc t = true := by simpa using hc
      simp only [Option.bind_eq_bind, Option.bind_eq_some_iff] at e
      obtain ⟨⟨ds, lk, st₁⟩, h1, ⟨out, σf⟩, h2, e⟩ := e
      simp only at h2 e
      split at e
      · rename_i hl
        cases e
        rw [exec_Assign_Name_used _ _ _ _ hsw]
        refine wpAny_bind (wpAny_standAt (wpAny_bind ?_))
        show wpAny _ A (do let _ ← comprehension (.ListComp elt [⟨t, it, ifs, 0⟩] csc pos) csc env _ (newList []) false (eval it env) (some (assign (.Name y p) env))) _ _ s
        refine wpAny_bind (wpAny_mono (comp_all (E := NoE) (Q := fun _ s' => Ends B Φ env sc s adr .next (setVar v y (.lst out)) (σf.unlock ds lk) .next s') (use := some (assign (.Name y p) env)) HI H HT R hc.1 hc.2 O h1 h2 hl fun D L s₅ adr₆ O₅ x os gens hL r m => ?_)
          (fun _ s' hq => wpAny_pure (wpAny_pure hq)) fun _ _ e => e)
        obtain ⟨m, hm⟩ := m
        refine wpAny_assign_Name (set_ok O₅ (bound1_of hb) r fun s₆ w => ?_)
        refine ⟨m, ?_, fun h' hs => ?_⟩
        · obtain ⟨o, es, ep, q, rest⟩ := hm
          refine ⟨o, es, ep, w.ex.keep L o q (fun t => ?_) fun ml => (O₅.sr.out L ⟨_, ml, rfl⟩).2 (.inr rfl), rest⟩
          rcases t with t | t
          · exact O₅.sr.phiO L (.inr rfl) (B.T_old L t)
          · obtain ⟨o', e'⟩ := O.fr.live (a := L) (by
              rcases t with r | ⟨x, _, r⟩
              · exact .inl r
              · exact .inr ⟨x, r⟩)
            rw [hL] at e'; cases e'
        · obtain ⟨S', i', F', vr, ex⟩ := same_fin O w.ok hL hs
          exact ⟨adr₆, ⟨⟨i', S', F', O.own, w.ok.tk⟩, ex ((x.up fun _ h => .inl h).trans w.ex), w.os.trans os, w.gens.trans gens⟩, .next⟩
      · cases e
end
end Mine
/-! ## LK -/
set_option autoImplicit false
set_option maxRecDepth 100000
namespace Mine
open PySem PySem.W PyProof.Rows PySem.Calls

section
variable {B : Base} {Γ : Gam} {K n : Nat} {Φ : Addr → Prop} {A : Around} {env : Env} {sc csc : Scope} {v v' vf : Vars} {s s₁ s₂ s₃ s₅ : Shared} {adr adr₁ adr₂ adr₃ adr₆ : List Ent} {st st₁ st₂ st' σ σf : Sto} {d : D} {ds out : List D} {b : Bool} {f : Fl}

/-- while -/
theorem while_ok {t : Expr} {body : List Stmt} {pos : Pos} (HT : TestOk B Γ K n) (HR : RunOk B Γ K n) (R : Room A (K + n)) : ∀ {turns : Nat}, whileL (fun v st => testE n Γ sc v t st) (runStmts (execS n Γ sc) body) turns v st = some (f, vf, σf) → OK B Φ env sc v s adr st →
    wpAny (model B.prog B.w) A (exec (.While t body [] pos) env) (Ends B Φ env sc s adr f vf σf) NoE s := by
  intro turns e O
  refine wpAny_While (codeAny_whileLoop (fun k s' => ∃ v₁ σ adr', whileL (fun v st => testE n Γ sc v t st) (runStmts (execS n Γ sc) body) k v₁ σ = some (f, vf, σf) ∧ Went B Φ env sc v₁ s adr s' adr' σ) ?_ turns ⟨v, st, adr, e, .refl O⟩)
  rintro k s' ⟨v₁, σ, adr', e, w⟩
  cases k with
  | zero => simp [whileL] at e
  | succ k =>
    simp only [whileL, Option.bind_eq_bind, Option.bind_eq_some_iff] at e
    obtain ⟨⟨c, σ₁⟩, h1, e⟩ := e
    refine (HT _ _ _ _ _ _ _ _ _ _ _ h1 R w.ok).next w.ok fun s₁ adr₁ O₁ P₁ => ?_
    have w₁ := w.trans (Went.post w.ok P₁ O₁.tk)
    cases c with
    | false =>
      simp only [Bool.false_eq_true, if_false] at e ⊢
      cases e
      exact wpAny_execs_nil ⟨adr₁, w₁, .next⟩
    | true =>
      simp only [if_true, Option.bind_eq_some_iff] at e ⊢
      obtain ⟨⟨f₁, v₂, σ₂⟩, h2, e⟩ := e
      refine wpAny_mono (HR _ _ _ _ _ _ _ _ _ _ _ _ h2 R O₁) (fun fl s₂ ⟨adr₂, w₂, r₂⟩ => ?_) fun _ _ e => e.elim
      have w₃ := w₁.trans w₂
      cases r₂ with
      | next => exact ⟨k, Nat.lt_succ_self _, v₂, σ₂, adr₂, e, w₃⟩
      | cont => exact ⟨k, Nat.lt_succ_self _, v₂, σ₂, adr₂, e, w₃⟩
      | brk => simp only at e; cases e; exact ⟨adr₂, w₃, .next⟩
      | ret r => simp only at e; cases e; exact ⟨adr₂, w₃, .ret r⟩

theorem for_arm {t it : Expr} {body orelse : List Stmt} {pos : Pos} (HI : IterOk B Γ K n) (HR : RunOk B Γ K n) (e : execS (n + 1) Γ sc (.For t it body orelse pos) v st = some (f, v', st')) (R : Room A (K + (n + 1))) (O : OK B Φ env sc v s adr st) :
    wpAny (model B.prog B.w) A (exec (.For t it body orelse pos) env) (Ends B Φ env sc s adr f v' st') NoE s := by
  have R' : Room A (K + n) := R.le (by omega)
  unfold execS at e
  simp only at e
  split at e
  · cases e
  · rename_i ht
    have ht : targetOk sc t = true := by simpa using ht
    simp only [Option.bind_eq_bind, Option.bind_eq_some_iff] at e
    obtain ⟨⟨ds, lk, st₁⟩, h1, ⟨f₁, v₁, st₂⟩, h2, e⟩ := e
    simp only at h2 e
    cases e
    obtain ⟨hs, hi⟩ := HI _ _ _ _ _ _ _ _ _ _ _ _ _ h1 R' O
    refine wpAny_For (wpAny_mono hi (fun u s₁ h => wpAny_mono h (fun w s₂ ⟨I, wr, St, adr₂, h₁, hw, X⟩ => ?_) fun _ _ e => e) fun _ _ e => e) hs
    subst hw
    exact for_ok HR R' ht O X h2

theorem bindStrs_ok {M : Model} : ∀ {xs : List Str} {ds : List D} {us : List Value} {v : Vars} {s : Shared}, (∀ x ∈ xs, kindOf sc x = some .local) → bindStrs xs ds v = some v' → OK B Φ env sc v s adr st → VRs B.T Φ B.Ins s.heap adr us ds →
    ∀ {Q : Unit → Shared → Prop} {E : Value → Shared → Prop}, (∀ s', Went B Φ env sc v' s adr s' adr st → Q () s') → wpAny M A (assignInOrder (xs.map fun n => bindName env n) us) Q E s
  | [], [], us, v, s, _, e, O, r, Q, E, h => by
    cases r
    simp only [bindStrs] at e
    cases e
    exact wpAny_pure (h s (.refl O))
  | x :: xs, ds, us, v, s, hb, e, O, r, Q, E, h => by
    cases ds with
    | nil => simp [bindStrs] at e
    | cons d ds =>
      cases r with
      | cons a r =>
      simp only [bindStrs] at e
      rw [List.map_cons]
      show wpAny M A (do holding _ (bindName env x _); assignInOrder _ _) Q E s
      refine wpAny_bind (wpAny_holding (wpAny_bindName (set_ok O (.inl (hb x (.head _))) a fun s' w => ?_)))
      exact bindStrs_ok (fun y hy => hb y (.tail _ hy)) e w.ok (r.exF w.ex (wid_own O.own)) fun s'' w' => h s'' (w.trans w')
  | [], d :: ds, us, v, s, _, e, O, r, Q, E, h => by simp [bindStrs] at e

theorem filterMap_eq {α β : Type} {f g : α → Option β} (hfg : ∀ a b, f a = some b → g a = some b) : ∀ {l : List α}, (l.filterMap f).length = l.length → l.filterMap g = l.filterMap f
  | [], _ => rfl
  | a :: l, h => by
    cases hf : f a with
    | none =>
      rw [List.filterMap_cons_none hf] at h
      have := List.length_filterMap_le f l
      simp at h
      omega
    | some b =>
      rw [List.filterMap_cons_some hf] at h ⊢
      rw [List.filterMap_cons_some (hfg a b hf), filterMap_eq hfg (by simpa using h)]

theorem swap_ok {ts es : List Expr} {k k' : Nat} {p p' : Pos} {names : List Str} (F : FR B Φ s.heap adr env sc v) (h : swapOk sc ts es = some names) : swappedStores [.Tuple ts k p] (.Tuple es k' p') env = pure (some names) ∧ (∀ x ∈ names, kindOf sc x = some .local) ∧ names.length = es.length := by
  unfold swapOk at h
  simp only at h
  split at h
  · rename_i hc
    cases h
    simp only [Bool.and_eq_true, Bool.or_eq_true, Bool.not_eq_true', beq_iff_eq] at hc
    obtain ⟨⟨⟨⟨⟨⟨c1, c2⟩, c3⟩, c4⟩, c5⟩, c6⟩, c7⟩ := hc
    have hfg : ts.filterMap (fun x => match x with
        | .Name id pos => if (env.kindOf id == some .local && pos.line == (ts.head?.map (·.pos.line)).getD 0) = true then some id else none
        | _ => none) = ts.filterMap (nameAt sc ((ts.head?.map (·.pos.line)).getD 0)) := by
      refine filterMap_eq (fun a b h => ?_) c3
      cases a with
      | Name id pos =>
        simp only [nameAt] at h ⊢
        split at h
        · rename_i hk
          cases h
          rw [Bool.and_eq_true] at hk
          rw [if_pos]
          rw [Bool.and_eq_true]
          exact ⟨by rw [F.loc b (eq_of_beq hk.1)]; rfl, hk.2⟩
        · cases h
      | _ => simp [nameAt] at h
    refine ⟨?_, fun x hx => ?_, ?_⟩
    · have hblk : (env.blockKind != .function) = false := by unfold Env.blockKind; rw [F.kind]; rfl
      have hlen : (!(ts.length == 2 || ts.length == 3) || es.length != ts.length || env.blockKind != .function) = false := by
        rw [hblk, bne, c2]
        rcases c1 with c1 | c1 <;> rw [c1] <;> rfl
      have hst : (es.any fun | .Starred .. => true | _ => false) = false := c5
      unfold swappedStores
      have e1 : ((ts.filterMap (nameAt sc ((ts.head?.map (·.pos.line)).getD 0))).length != ts.length || (ts.filterMap (nameAt sc ((ts.head?.map (·.pos.line)).getD 0))).eraseDups.length != (ts.filterMap (nameAt sc ((ts.head?.map (·.pos.line)).getD 0))).length) = false := by
        rw [bne, bne, c4, c3]; simp
      have gen : ∀ g : Expr → Option Str, ts.filterMap g = ts.filterMap (nameAt sc ((ts.head?.map (·.pos.line)).getD 0)) →
          (if (!(ts.length == 2 || ts.length == 3) || es.length != ts.length || env.blockKind != ScopeKind.function) = true then (pure none : Sem (Option (List Str)))
            else if (es.any isStar) = true then pure none
            else if ((ts.filterMap g).length != ts.length || (ts.filterMap g).eraseDups.length != (ts.filterMap g).length) = true then pure none
            else if es.all (foldedForSure 8) = true then pure none
            else if es.all (constantsAlone 8) = true then (do
              let _ ← (unsupported "assign.tuple-of-constant-expressions:order-of-the-stores" : Sem Unit)
              pure (some (ts.filterMap g)))
            else pure (some (ts.filterMap g))) = pure (some (ts.filterMap (nameAt sc ((ts.head?.map (·.pos.line)).getD 0)))) := by
        intro g hg
        rw [hg, if_neg (by rw [hlen]; exact Bool.false_ne_true), if_neg (by rw [c5]; exact Bool.false_ne_true), if_neg (by rw [e1]; exact Bool.false_ne_true), if_neg (by rw [c6]; exact Bool.false_ne_true), if_neg (by rw [c7]; exact Bool.false_ne_true)]
      exact gen _ hfg
    · obtain ⟨a, ha, hx⟩ := List.mem_filterMap.mp hx
      cases a with
      | Name id pos =>
        simp only [nameAt] at hx
        split at hx
        · rename_i hk
          cases hx
          rw [Bool.and_eq_true] at hk
          exact eq_of_beq hk.1
        · cases hx
      | _ => simp [nameAt] at hx
    · rw [c3, c2]
  · cases h
end
end Mine
/-! ## LL -/
set_option autoImplicit false
set_option maxRecDepth 100000
namespace Mine
open PySem PySem.W PyProof.Rows PySem.Calls

section
variable {B : Base} {Γ : Gam} {K n : Nat} {Φ : Addr → Prop} {A : Around} {env : Env} {sc csc : Scope} {v v' vf : Vars} {s s₁ s₂ s₃ s₅ : Shared} {adr adr₁ adr₂ adr₃ adr₆ : List Ent} {st st₁ st₂ st' σ σf : Sto} {d : D} {ds out : List D} {b : Bool} {f : Fl}

theorem tuple_assign {ts es : List Expr} {k k' : Nat} {p p' pos : Pos} (H : EvalOk B Γ K n) (e : execS (n + 1) Γ sc (.Assign [.Tuple ts k p] (.Tuple es k' p') pos) v st = some (f, v', st')) (R : Room A (K + (n + 1))) (O : OK B Φ env sc v s adr st) :
    wpAny (model B.prog B.w) A (exec (.Assign [.Tuple ts k p] (.Tuple es k' p') pos) env) (Ends B Φ env sc s adr f v' st') NoE s := by
  have R' : Room A (K + n) := R.le (by omega)
  unfold execS at e
  simp only [Option.bind_eq_bind, Option.bind_eq_some_iff] at e
  obtain ⟨names, h1, ⟨ds, st₁⟩, h2, e⟩ := e
  simp only at e
  split at e
  · rename_i hl
    simp only [Option.bind_eq_some_iff] at e
    obtain ⟨v₁, h3, e⟩ := e
    cases e
    obtain ⟨hw, hloc, hlen⟩ := swap_ok (k := k) (k' := k') (p := p) (p' := p') O.fr h1
    refine Assign_Tuple_swapped ?_ rfl hw
    have ht : evalE (n + 1) Γ sc v (.Tuple es k' p') st = some (.tup ds, st') := by
      unfold evalE
      simp only [h2, Option.bind_eq_bind, Option.bind_some, if_pos hl]
    refine (tuple_arm H ht R O).next O fun u s₁ adr₁ O₁ P₁ r₁ => ?_
    cases r₁ with
    | @tup a vs m _ ho z r b =>
    have hds : ds.length = es.length := by
      have : ∀ {es : List Expr} {st st' : Sto} {ds : List D}, mapE (evalE n Γ sc v) es st = some (ds, st') → ds.length = es.length := by
        intro es
        induction es with
        | nil => intro st st' ds e; simp only [mapE] at e; cases e; rfl
        | cons y es ih =>
          intro st st' ds e
          simp only [mapE, Option.bind_eq_bind, Option.bind_eq_some_iff] at e
          obtain ⟨⟨d, st₁⟩, h1, ⟨ds', st₂⟩, h2, e⟩ := e
          cases e
          simp [ih h2]
      exact this h2
    have hsz : names.length = vs.toArray.size := by rw [List.size_toArray, r.length, hlen, hds]
    rw [hsz]
    refine wpAny_unpackItems_tuple R.h (items := vs.toArray) ⟨_, ho, rfl, m, rfl⟩ fun h' hx => ?_
    have k₁ : ∀ a o, s₁.heap.get? a = some o → h'.get? a = some o := fun a o q => hx a o (Nat.ne_of_lt (Heap.lt_size q)) q
    have P₂ := Post.keep O₁.inv O₁.sr k₁ s₁.toks
    have O₂ : OK B Φ env sc v { s₁ with heap := h' } adr₁ st' := O₁.next P₂ O₁.tk
    have w := (Went.post O P₁ O₁.tk).trans (Went.post O₁ P₂ O₁.tk)
    have rr : VRs B.T Φ B.Ins h' adr₁ vs.reverse ds.reverse := by
      have rev : ∀ {us : List Value} {es : List D} {us' : List Value} {es' : List D}, VRs B.T Φ B.Ins h' adr₁ us es → VRs B.T Φ B.Ins h' adr₁ us' es' → VRs B.T Φ B.Ins h' adr₁ (us.reverse ++ us') (es.reverse ++ es') := by
        intro us es
        induction es generalizing us with
        | nil => intro us' es' x y; cases x; exact y
        | cons d es ih =>
          intro us' es' x y
          cases x with
          | cons x1 x2 =>
          rw [List.reverse_cons, List.reverse_cons, List.append_assoc, List.append_assoc]
          exact ih x2 (.cons x1 y)
      have := rev (r.ex (.of_keep (T := B.T) k₁)) .nil
      simpa using this
    exact bindStrs_ok (fun x hx => hloc x (List.mem_reverse.mp hx)) h3 O₂ rr fun s' w' => ⟨adr₁, w.trans w', .next⟩
  · cases e

theorem grow_ok {es : List Expr} {pos : Pos} (H : EvalOk B Γ K n) (R : Room A (K + n)) (O : OK B Φ env sc v s adr st) (h1 : mapE (evalE n Γ sc v) es st = some (ds, st₁)) (hl : ds.length ≤ LIM) :
    Gives B Φ A (eval (.List es pos) env) s adr (st₁ ++ [.lst ds]) (.ref st₁.length) := by
  unfold Gives
  rw [arm_eval_List]
  refine wpAny_bind (wpAny_standAt (wpAny_bind ((mapE_ok H R h1 O).1.next O fun us s₁ adr₁ O₁ P₁ r₁ => ?_)))
  obtain ⟨S', x⟩ := O₁.sr.add (h' := s₁.heap.push (listO us 0)) O₁.inv (keep_push _) (size_none _) (.lst ds) ⟨us, 0, Heap.get?_push_size _ rfl, r₁, hl⟩
  refine wpAny_newObj_type ⟨adr₁ ++ [Ent.live s₁.heap.objs.size], P₁.trans (s' := s₁) ⟨B.step _ _ O₁.inv fun a o _ e => keep_push _ a o e, S', x, rfl, rfl⟩, ?_⟩ ?_
  · have : (adr₁ ++ [Ent.live s₁.heap.objs.size])[st₁.length]? = some (.live s₁.heap.objs.size) := by rw [← O₁.sr.len]; simp
    exact .ref this
  · show us.toArray.size ≤ sizeLine
    rw [List.size_toArray, r₁.length, sizeLine_eq]; unfold LIM at hl; omega

def notComp : Expr → Bool
  | .ListComp .. | .SetComp .. | .DictComp .. => false
  | _ => true
theorem comp_shape {elt : Expr} {gens : List Comprehension} {pos : Pos} {r : D × Sto} (h : evalE n Γ sc v (.ListComp elt gens csc pos) st = some r) : ∃ m t it ifs, n = m + 1 + 1 ∧ gens = [⟨t, it, ifs, 0⟩] := by
  cases n with
  | zero => simp [evalE] at h
  | succ n =>
    rcases gens with _ | ⟨⟨t, it, ifs, a⟩, _ | ⟨g, gs⟩⟩
    · simp [evalE] at h
    · have ha : a = 0 := by
        cases a with
        | ofNat k => cases k with
          | zero => rfl
          | succ k =>
            unfold evalE at h
            have h : (none : Option (D × Sto)) = some r := h
            cases h
        | negSucc k =>
          unfold evalE at h
          have h : (none : Option (D × Sto)) = some r := h
          cases h
      subst ha
      cases n with
      | zero =>
        unfold evalE at h
        simp only at h
        split at h
        · cases h
        · simp [iterE] at h
      | succ n => exact ⟨n, t, it, ifs, rfl, rfl⟩
    · simp [evalE] at h
theorem comp_lst {elt : Expr} {gens : List Comprehension} {pos : Pos} (h : evalE n Γ sc v (.ListComp elt gens csc pos) st = some (d, st')) : ∃ l, d = .lst l := by
  obtain ⟨m, t, it, ifs, rfl, rfl⟩ := comp_shape h
  unfold evalE at h
  simp only at h
  split at h
  · cases h
  · simp only [Option.bind_eq_bind, Option.bind_eq_some_iff] at h
    obtain ⟨⟨ds, lk, st₁⟩, _, ⟨out, σf⟩, _, h⟩ := h
    simp only at h
    split at h
    · cases h; exact ⟨_, rfl⟩
    · cases h

theorem no_swap {e : Expr} {t : Option Expr} {line : Nat} (h : notComp e = true) : swapsWith e t line env = pure false := by
  cases e <;> first | rfl | (simp [notComp] at h)

theorem set_arm {x : Str} {p spos : Pos} {e : Expr} (g : Gives B Φ A (eval e env) s adr st' d) (O : OK B Φ env sc v s adr st) (hb : bound1 sc (.Name x p) = true) (h : notComp e = true) :
    wpAny (model B.prog B.w) A (exec (.Assign [.Name x p] e spos) env) (Ends B Φ env sc s adr .next (setVar v x d) st') NoE s :=
  wpAny_Assign_Name (g.next O fun _ _ adr₁ O₁ P₁ r₁ => set_ok O₁ (bound1_of hb) r₁ fun _ w => ⟨adr₁, (Went.post O P₁ O₁.tk).trans w, .next⟩) (no_swap h)

theorem evalE_set {m : Nat} {es : List Expr} {k : Nat} {p : Pos} : evalE m Γ sc v (.Set es k p) st = none := by cases m <;> rfl

theorem assign_arm {x : Str} {p spos : Pos} {e : Expr} (HA : ∀ m, m ≤ n → EvalOk B Γ K m ∧ TestOk B Γ K m ∧ IterOk B Γ K m) (h : execS (n + 1) Γ sc (.Assign [.Name x p] e spos) v st = some (f, v', st')) (R : Room A (K + (n + 1))) (O : OK B Φ env sc v s adr st) :
    wpAny (model B.prog B.w) A (exec (.Assign [.Name x p] e spos) env) (Ends B Φ env sc s adr f v' st') NoE s := by
  have R' : Room A (K + n) := R.le (by omega)
  have H := (HA n (Nat.le_refl _)).1
  unfold execS at h
  simp only at h
  split at h
  · rename_i hb
    simp only [Option.bind_eq_bind, Option.bind_eq_some_iff] at h
    obtain ⟨⟨d, st₁⟩, h1, h⟩ := h
    cases h
    have plainCase : evalE n Γ sc v e st = some (d, st₁) → notComp e = true → wpAny (model B.prog B.w) A (exec (.Assign [.Name x p] e spos) env) (Ends B Φ env sc s adr .next (setVar v x d) st₁) NoE s :=
      fun h1 hn => set_arm (H _ _ _ _ _ _ _ _ _ _ _ h1 R' O) O hb hn
    cases e with
    | List es pos =>
      unfold evalTo at h1
      simp only at h1
      split at h1
      · simp only [Option.bind_eq_bind, Option.bind_eq_some_iff] at h1
        obtain ⟨⟨ds, st₁⟩, h2, h1⟩ := h1
        simp only at h1
        split at h1
        · rename_i hl
          cases h1
          exact set_arm (grow_ok H R' O h2 hl) O hb rfl
        · cases h1
      · exact plainCase h1 rfl
    | ListComp elt gens csc pos =>
      unfold evalTo at h1
      simp only at h1
      obtain ⟨m, t, it, ifs, rfl, rfl⟩ := comp_shape h1
      exact assign_comp (HA (m + 1) (by omega)).2.2 (HA m (by omega)).1 (HA m (by omega)).2.1 h1 (R'.le (by omega)) O hb
    | SetComp => cases n <;> simp [evalTo, evalE] at h1
    | DictComp => cases n <;> simp [evalTo, evalE] at h1
    | _ => exact plainCase h1 rfl
  · cases h

theorem aug_arm {x : Str} {p spos : Pos} {e : Expr} (H : EvalOk B Γ K n) (h : execS (n + 1) Γ sc (.AugAssign (.Name x p) .Add e spos) v st = some (f, v', st')) (R : Room A (K + (n + 1))) (O : OK B Φ env sc v s adr st) :
    wpAny (model B.prog B.w) A (exec (.AugAssign (.Name x p) .Add e spos) env) (Ends B Φ env sc s adr f v' st') NoE s := by
  have R' : Room A (K + n) := R.le (by omega)
  unfold execS at h
  simp only at h
  split at h
  · rename_i hb
    rw [Bool.and_eq_true] at hb
    simp only [Option.bind_eq_bind, Option.bind_eq_some_iff] at h
    obtain ⟨old, hl, ⟨d, st₁⟩, h1, h⟩ := h
    simp only at h
    split at h
    · rename_i i j
      cases h
      obtain ⟨u, r, hu⟩ := loadN_ok (M := model B.prog B.w) (A := A) O.fr ((bound1_of hb.1).elim .inl fun h => .inr (.inl h)) hl (plain_of hb.2).2
      refine wpAny_AugAssign_Name (hu _ _ ((H _ _ _ _ _ _ _ _ _ _ _ h1 R' O).next O fun u₁ s₁ adr₁ O₁ P₁ r₁ => ?_))
      cases r with
      | int _ t =>
      cases r₁ with
      | int _ t' =>
      refine wpAny_mono (wpAny_toks_of O₁.tk (iadd_int (Q := fun r s' => ∃ t, r = .int (i + j) t ∧ Post B Φ s₁ adr₁ s' adr₁ st') (E := NoE) ⟨_, rfl, Post.toks O₁.inv O₁.sr _⟩)) (fun r s₂ ⟨tk, t, hr, P₂⟩ => ?_) fun _ _ e => e.2
      subst hr
      have O₂ := O₁.next P₂ tk
      exact set_ok O₂ (bound1_of hb.1) (.int _ _) fun s₃ w => ⟨adr₁, ((Went.post O P₁ O₁.tk).trans (Went.post O₁ P₂ tk)).trans w, .next⟩
    · cases h
  · cases h

theorem interactive_no (F : FR B Φ s.heap adr env sc v) : interactive env = false := by
  unfold interactive
  rw [F.kind]; rfl

theorem exec_step (HA : ∀ m, m ≤ n → EvalOk B Γ K m ∧ TestOk B Γ K m ∧ IterOk B Γ K m) (HR : RunOk B Γ K n) : ExecOk B Γ K (n + 1) := by
  intro Φ A env sc x v s adr st f v' st' h R O
  have R' : Room A (K + n) := R.le (by omega)
  obtain ⟨H, HT, HI⟩ := HA n (Nat.le_refl _)
  cases x with
  | Expr e pos =>
    unfold execS at h
    simp only [Option.bind_eq_bind, Option.bind_eq_some_iff] at h
    obtain ⟨⟨d, st₁⟩, h1, h⟩ := h
    simp only at h
    split at h
    · cases h
      have hn : notComp e = true := by
        cases e with
        | ListComp elt gens csc pos => obtain ⟨l, hl⟩ := comp_lst h1; cases hl
        | SetComp => cases n <;> simp [evalE] at h1
        | DictComp => cases n <;> simp [evalE] at h1
        | _ => rfl
      refine wpAny_Expr ((H _ _ _ _ _ _ _ _ _ _ _ h1 R' O).next O fun u s₁ adr₁ O₁ P₁ r₁ => ?_) (interactive_no O.fr) (no_swap hn)
      cases r₁
      exact ⟨adr₁, Went.post O P₁ O₁.tk, .next⟩
    · cases h
  | Pass pos => unfold execS at h; cases h; exact wpAny_Pass ⟨adr, .refl O, .next⟩
  | Break pos => unfold execS at h; cases h; exact wpAny_Break ⟨adr, .refl O, .brk⟩
  | Continue pos => unfold execS at h; cases h; exact wpAny_Continue ⟨adr, .refl O, .cont⟩
  | Return e pos =>
    cases e with
    | none => unfold execS at h; cases h; exact wpAny_Return_none ⟨adr, .refl O, .ret .none⟩
    | some e =>
      unfold execS at h
      simp only [Option.bind_eq_bind, Option.bind_eq_some_iff] at h
      obtain ⟨⟨d, st₁⟩, h1, h⟩ := h
      cases h
      exact wpAny_Return_some ((H _ _ _ _ _ _ _ _ _ _ _ h1 R' O).next O fun u s₁ adr₁ O₁ P₁ r₁ => ⟨adr₁, Went.post O P₁ O₁.tk, .ret r₁⟩)
  | Assign ts e pos =>
    rcases ts with _ | ⟨t, _ | ⟨t', ts⟩⟩
    · simp [execS] at h
    · cases t with
      | Name x p => exact assign_arm HA h R O
      | Tuple ts k p =>
        cases e with
        | Tuple es k' p' => exact tuple_assign H h R O
        | _ => simp [execS] at h
      | _ => simp [execS] at h
    · cases t <;> simp [execS] at h
  | AugAssign t op e pos =>
    cases t with
    | Name x p =>
      cases op with
      | Add => exact aug_arm H h R O
      | _ => simp [execS] at h
    | _ => simp [execS] at h
  | If t b o pos =>
    unfold execS at h
    simp only [Option.bind_eq_bind, Option.bind_eq_some_iff] at h
    obtain ⟨⟨c, st₁⟩, h1, h⟩ := h
    refine wpAny_If ((HT _ _ _ _ _ _ _ _ _ _ _ h1 R' O).next O fun s₁ adr₁ O₁ P₁ => ?_)
    have w := Went.post O P₁ O₁.tk
    cases c with
    | true => exact wpAny_mono (HR _ _ _ _ _ _ _ _ _ _ _ _ h R' O₁) (fun fl s₂ ⟨adr₂, w₂, r₂⟩ => ⟨adr₂, w.trans w₂, r₂⟩) fun _ _ e => e
    | false => exact wpAny_mono (HR _ _ _ _ _ _ _ _ _ _ _ _ h R' O₁) (fun fl s₂ ⟨adr₂, w₂, r₂⟩ => ⟨adr₂, w.trans w₂, r₂⟩) fun _ _ e => e
  | Assert t m pos =>
    unfold execS at h
    simp only [Option.bind_eq_bind, Option.bind_eq_some_iff] at h
    obtain ⟨⟨c, st₁⟩, h1, h⟩ := h
    simp only at h
    split at h
    · rename_i hc
      cases h
      subst hc
      exact wpAny_Assert_holds ((HT _ _ _ _ _ _ _ _ _ _ _ h1 R' O).next O fun s₁ adr₁ O₁ P₁ => ⟨rfl, adr₁, Went.post O P₁ O₁.tk, .next⟩)
    · cases h
  | While t b o pos =>
    cases o with
    | nil => unfold execS at h; exact while_ok HT HR R' h O
    | cons _ _ => simp [execS] at h
  | For t it b o pos => exact for_arm HI HR h R O
  | _ => simp [execS] at h
end
end Mine
/-! ## LM -/
set_option autoImplicit false
set_option maxRecDepth 100000
namespace Mine
open PySem PySem.W PyProof.Rows PySem.Calls

/-- a pattern's sub with a lambda, where nothing is found -/
def SubOk (B : Base) (Γ : Gam) (K : Nat) : Prop :=
  ∀ Φ A env sc v o m apos pos args kws r x s adr st st₁ l, isSub o m args kws = some (r, x) → kindOf sc r = some .globalImplicit → Γ.res.contains r = true → callOk o apos pos (args.length + kws.length) = true → Room A K →
    (l.all fun c => c != 38 && c != 126 && c != 124) = true → OK B Φ env sc v s adr st → (∀ s₁ adr₁, OK B Φ env sc v s₁ adr₁ st → Gives B Φ A (eval x env) s₁ adr₁ st₁ (.str l)) →
    Gives B Φ A (eval (.Call (.Attribute o m apos) args kws pos) env) s adr st₁ (.str l)

section
variable {B : Base} {Γ : Gam} {K n : Nat}

theorem eval_step (G : GamOk B Γ K) (GS : SubOk B Γ K) (HA : ∀ m, m ≤ n → EvalOk B Γ K m ∧ TestOk B Γ K m ∧ IterOk B Γ K m) : EvalOk B Γ K (n + 1) := by
  intro Φ A env sc v e s adr st d st' h R O
  have R' : Room A (K + n) := R.le (by omega)
  obtain ⟨H, HT, HI⟩ := HA n (Nat.le_refl _)
  cases e with
  | Constant c k pos => exact const_ok h O
  | Name x pos => exact name_ok G h O
  | BinOp l op r pos => exact binop_arm H h R O
  | UnaryOp op x pos => exact unop_arm H h R O
  | BoolOp op es pos =>
    cases op with
    | And => unfold evalE at h; exact and_arm H R' h O
    | Or => unfold evalE at h; exact or_arm H R' h O
  | Compare l ops rs pos =>
    match ops, rs, h with
    | [op], [r], h => exact (cmp_arm H h R O).1
    | [], _, h => simp [evalE] at h
    | [_], [], h => simp [evalE] at h
    | [_], _ :: _ :: _, h => simp [evalE] at h
    | _ :: _ :: _, _, h => simp [evalE] at h
  | IfExp t b o pos => exact ifexp_arm H HT h R O
  | List es pos => exact list_arm H h R O
  | Tuple es k pos => exact tuple_arm H h R O
  | Attribute o m pos => exact attr_arm G H h R O
  | Subscript o i pos => exact subscript_arm H h R O
  | JoinedStr es pos => exact joined_arm H h R O
  | FormattedValue x c spec pos =>
    cases spec with
    | some y => simp [evalE] at h
    | none =>
      by_cases hc : c = -1
      · subst hc; exact fmt_arm H h R O
      · exfalso
        cases c with
        | ofNat k =>
          unfold evalE at h
          have h : (none : Option (D × Sto)) = some (d, st') := h
          cases h
        | negSucc k =>
          cases k with
          | zero => exact hc rfl
          | succ k =>
            unfold evalE at h
            have h : (none : Option (D × Sto)) = some (d, st') := h
            cases h
  | ListComp elt gens csc pos =>
    obtain ⟨m, t, it, ifs, hn, rfl⟩ := comp_shape h
    have hn : n = m + 1 := by omega
    subst hn
    exact comp_arm HI (HA m (by omega)).1 (HA m (by omega)).2.1 h (R.le (by omega)) O
  | Call f args kws pos =>
    cases f with
    | Name f p => exact call_arm G H h R O
    | Attribute o m apos =>
      cases hs : isSub o m args kws with
      | none => exact method_arm G H hs h R O
      | some rx =>
        obtain ⟨r, x⟩ := rx
        unfold evalE at h
        simp only [hs] at h
        split at h
        · rename_i hc
          simp only [Bool.and_eq_true, beq_iff_eq] at hc
          simp only [Option.bind_eq_bind, Option.bind_eq_some_iff] at h
          obtain ⟨⟨a, st₁⟩, h1, h⟩ := h
          simp only at h
          split at h
          · rename_i l
            split at h
            · rename_i hl
              cases h
              exact GS Φ A env sc v o m apos pos args kws r x s adr st st' l hs hc.1.1 hc.1.2 hc.2 (R.le (by omega)) hl O fun s₁ adr₁ O₁ => H _ _ _ _ _ _ _ _ _ _ _ h1 R' O₁
            · cases h
          · cases h
        · cases h
    | _ => simp [evalE] at h
  | _ => simp [evalE] at h

theorem all_ok (G : GamOk B Γ K) (GS : SubOk B Γ K) : ∀ n, ∀ m, m ≤ n → EvalOk B Γ K m ∧ TestOk B Γ K m ∧ IterOk B Γ K m := by
  intro n
  induction n with
  | zero =>
    intro m hm
    have : m = 0 := by omega
    subst this
    exact ⟨fun Φ A env sc v e s adr st d st' h => by simp [evalE] at h, fun Φ A env sc v e s adr st d st' h => by simp [testE] at h, fun Φ A env sc v pairs e s adr st ds lk st' h => by simp [iterE] at h⟩
  | succ n ih =>
    intro m hm
    by_cases h : m ≤ n
    · exact ih m h
    · have : m = n + 1 := by omega
      subst this
      exact ⟨eval_step G GS ih, test_step G (fun m hm => (ih m hm).1) (ih n (Nat.le_refl _)).2.1, iter_step G (ih n (Nat.le_refl _)).1⟩

theorem exec_ok (G : GamOk B Γ K) (GS : SubOk B Γ K) : ∀ n, ExecOk B Γ K n := by
  intro n
  induction n with
  | zero => exact fun Φ A env sc x v s adr st f v' st' h => by simp [execS] at h
  | succ n ih => exact exec_step (all_ok G GS n) (run_of_exec ih)
end
end Mine
/-! ## LN -/
set_option autoImplicit false
set_option maxRecDepth 100000
namespace Mine
open PySem PySem.W PyProof.Rows PySem.Calls

/-- a function of the program -/
structure FnAt (B : Base) (fa : Addr) (sc : Scope) (body : List Stmt) (bd : List D → List (Str × D) → Option Vars) : Prop where
  fd : ∃ (o : Obj) (fd : FuncData), (∀ h, B.Inv h → h.get? fa = some o) ∧ o.data = .func fd ∧ fd.scope = sc ∧ fd.body = .stmts body ∧ fd.closure = [] ∧ fd.globals = mainGlobals ∧ fd.builtins = builtinsNs ∧ (∀ h, B.Inv h → h.CodeRec fd.code fd.qualname) ∧ B.Code fd.code ∧
    ∀ (M : Model) (A : Around) (s : Shared) (Φ : Addr → Prop) (adr : List Ent) (st : Sto) (us : List Value) (kus : List (Str × Value)) (ds : List D) (ks : List (Str × D)) (vars : Vars), B.Inv s.heap → SR B Φ s.heap adr st → VRs B.T Φ B.Ins s.heap adr us ds → VRf B.T Φ B.Ins s.heap adr kus ks → bd ds ks = some vars →
      ∀ (Q : List (Str × Value) → Shared → Prop) (E : Value → Shared → Prop), (∀ binds h' tk, (∀ a o, s.heap.get? a = some o → h'.get? a = some o) → VRf B.T Φ B.Ins h' adr binds vars → Q binds { s with heap := h', toks := tk }) → wpAny M A (bindArgs fd ⟨us, kus⟩) Q E s
  kind : sc.kind = .function
  gen : sc.isGenerator = false
  cor : sc.isCoroutine = false

/-- the names of a call fit the scope -/
def bindsOk (sc : Scope) (vars : Vars) : Bool :=
  (vars.map (·.1)).Nodup && vars.all fun p => kindOf sc p.1 == some .local || kindOf sc p.1 == some .cell
def scopeOk (sc : Scope) : Bool := sc.names.all fun p => (match p.2 with
  | .cell => sc.names.lookup p.1 == some .cell
  | .free => false
  | _ => true)

/-- a def whose work goes on in its caller's store -/
def fnSt (n : Nat) (Γ : Gam) (sc : Scope) (body : List Stmt) (bd : List D → List (Str × D) → Option Vars) : Fn := fun ds ks st => do
  let vars ← bd ds ks
  if bindsOk sc vars && scopeOk sc then runBody n Γ sc body vars st else none

section
variable {B : Base} {Γ : Gam} {K n : Nat} {Φ : Addr → Prop} {A : Around} {env : Env} {sc : Scope} {v v' : Vars} {s s₁ s₂ : Shared} {h : Heap} {adr adr₁ adr₂ : List Ent} {st st₁ st' : Sto} {d : D}

theorem VRf.names {T Φ : Addr → Prop} {Ins : InsT} {binds : List (Str × Value)} {vars : Vars} (r : VRf T Φ Ins h adr binds vars) : binds.map (·.1) = vars.map (·.1) := by
  induction vars generalizing binds with
  | nil => cases r; rfl
  | cons p vars ih => cases r with | cons a r => rw [List.map_cons, List.map_cons, ih r]
theorem bindL_none {kf : Str → Option NameKind} {x : Str} : ∀ {binds : List (Str × Value)} {m : Str → Option Value}, x ∉ binds.map (·.1) → bindL kf binds m x = m x
  | [], _, _ => rfl
  | (y, u) :: r, m, h => by
    rw [List.map_cons, List.mem_cons] at h
    have h' : x ≠ y ∧ x ∉ r.map (·.1) := ⟨fun e => h (.inl e), fun e => h (.inr e)⟩
    unfold bindL
    rw [bindL_none h'.2]
    split
    · exact if_neg h'.1
    · rfl
theorem bindC_none {kf : Str → Option NameKind} {x : Str} : ∀ {binds : List (Str × Value)} {m : Str → Option Value}, x ∉ binds.map (·.1) → bindC kf binds m x = m x
  | [], _, _ => rfl
  | (y, u) :: r, m, h => by
    rw [List.map_cons, List.mem_cons] at h
    have h' : x ≠ y ∧ x ∉ r.map (·.1) := ⟨fun e => h (.inl e), fun e => h (.inr e)⟩
    unfold bindC
    rw [bindC_none h'.2]
    split
    · rfl
    · exact if_neg h'.1
theorem bindL_get {T Φ : Addr → Prop} {Ins : InsT} {kf : Str → Option NameKind} {x : Str} : ∀ {binds : List (Str × Value)} {vars : Vars} {m : Str → Option Value}, VRf T Φ Ins h adr binds vars → (vars.map (·.1)).Nodup → vars.lookup x = some d → kf x = some .local → ∃ u, bindL kf binds m x = some u ∧ VR T Φ Ins h adr u d
  | _, [], _, _, _, e, _ => by cases e
  | _, (y, d') :: vars, m, .cons a r, hn, e, hk => by
    rw [List.map_cons, List.nodup_cons] at hn
    rw [List.lookup_cons] at e
    unfold bindL
    cases hx : x == y with
    | true =>
      rw [hx] at e; cases e
      have := eq_of_beq hx
      subst this
      rw [bindL_none (by rw [r.names]; exact hn.1), if_pos hk]
      exact ⟨_, if_pos rfl, a⟩
    | false => rw [hx] at e; exact bindL_get r hn.2 e hk
theorem bindC_get {T Φ : Addr → Prop} {Ins : InsT} {kf : Str → Option NameKind} {x : Str} : ∀ {binds : List (Str × Value)} {vars : Vars} {m : Str → Option Value}, VRf T Φ Ins h adr binds vars → (vars.map (·.1)).Nodup → vars.lookup x = some d → kf x = some .cell → ∃ u, bindC kf binds m x = some u ∧ VR T Φ Ins h adr u d
  | _, [], _, _, _, e, _ => by cases e
  | _, (y, d') :: vars, m, .cons a r, hn, e, hk => by
    rw [List.map_cons, List.nodup_cons] at hn
    rw [List.lookup_cons] at e
    unfold bindC
    cases hx : x == y with
    | true =>
      rw [hx] at e; cases e
      have := eq_of_beq hx
      subst this
      rw [bindC_none (by rw [r.names]; exact hn.1), if_neg (by rw [hk]; decide)]
      exact ⟨_, if_pos rfl, a⟩
    | false => rw [hx] at e; exact bindC_get r hn.2 e hk

def callEnv' (sc : Scope) (L : Addr) (fd : FuncData) (fa : Addr) : Env := newEnv sc L mainGlobals (cellsFrom (L + 1) sc.names []) (fd.qualname ++ ".<locals>.") (some fa) fd.code none builtinsNs

/-- a call's frame when it starts -/
theorem call_frame {fd : FuncData} {fa : Addr} {binds : List (Str × Value)} {vars : Vars} (hcd : B.Code fd.code) (hk : sc.kind = .function) (hb : bindsOk sc vars = true) (hs : scopeOk sc = true) (i : B.Inv s.heap) (S : SR B Φ s.heap adr st) (r : VRf B.T Φ B.Ins s.heap adr binds vars)
    (x : InCallC s (callEnv' sc s.heap.objs.size fd fa).locals (bindL (callEnv' sc s.heap.objs.size fd fa).kindOf binds fun _ => none) (callEnv' sc s.heap.objs.size fd fa).cells (bindC (callEnv' sc s.heap.objs.size fd fa).kindOf binds fun _ => none) s₁) (tk : 0 ≤ s₁.toks) :
    ∃ Φ₂ : Addr → Prop, OK B Φ₂ (callEnv' sc s.heap.objs.size fd fa) sc vars s₁ adr st ∧ (∀ a, Φ a → Φ₂ a) ∧ (∀ a, own (callEnv' sc s.heap.objs.size fd fa) sc a → s.heap.get? a = none) := by
  have keep := x.toInCall.keep
  unfold bindsOk at hb
  rw [Bool.and_eq_true] at hb
  have hnod : (vars.map (·.1)).Nodup := by simpa using hb.1
  have none_of : ∀ {a : Addr}, s.heap.objs.size ≤ a → s.heap.get? a = none := fun {a} ha => Heap.get?_none_of_le ha
  have hcell : ∀ {y : Str} {c : Addr}, (callEnv' sc s.heap.objs.size fd fa).cells.lookup y = some c → s.heap.objs.size < c ∧ kindOf sc y = some .cell := fun {y c} e => by
    have hm := mem_of_lookup e
    refine ⟨x.above y c hm, ?_⟩
    have := List.all_eq_true.mp hs _ (cellsFrom_mem hm)
    exact eq_of_beq this
  let Φ₂ : Addr → Prop := fun a => Φ a ∨ (s.heap.get? a = none ∧ ∃ o, s₁.heap.get? a = some o)
  have hkf : (callEnv' sc s.heap.objs.size fd fa).scope = sc := rfl
  have hown : ∀ a, own (callEnv' sc s.heap.objs.size fd fa) sc a → s.heap.get? a = none := fun a o => by
    rcases o with rfl | ⟨y, _, e⟩
    · exact none_of (Nat.le_refl _)
    · exact none_of (Nat.le_of_lt (hcell e).1)
  have hP : ∀ a o, s.heap.get? a = some o → Φ₂ a → Φ a := fun a o e p => p.elim id fun q => by rw [q.1] at e; cases e
  have i₁ : B.Inv s₁.heap := B.step _ _ i fun a o _ e => keep a o e
  have S₁ : SR B Φ₂ s₁.heap adr st := S.wide keep hP (fun a p => p.elim (fun p => by obtain ⟨o, e⟩ := S.phi a p; exact ⟨o, keep _ _ e⟩) fun q => q.2) fun a p o => p.elim (fun p => S.phiO a p o) fun q => by
    obtain ⟨o', e⟩ := B.stays _ a i o
    rw [q.1] at e; cases e
  have r₁ : VRf B.T Φ₂ B.Ins s₁.heap adr binds vars := (r.re (fun _ _ _ t => .inl t) fun a o e p => .inr (hP a o e p)).ex (.of_keep (T := B.T) keep)
  have notAt : ∀ a, s.heap.get? a = none → ¬ At adr a := fun a e => S.fresh e
  obtain ⟨hnl, hns1, hns2, hns3, _⟩ := id x.toInCall.ns
  refine ⟨Φ₂, ⟨i₁, S₁, ⟨hk, rfl, rfl, hcd, fun y h => h, fun y h => h, fun y h => .inl h, fun y h => h, ⟨_, x.toInCall.ns, fun y dy hky hl => bindL_get r₁ hnod hl hky⟩, fun y hky => ?_, notAt _ (hown _ (.inl rfl)), fun o => ?_, fun y c e => ?_, fun y c e => ?_, fun y c e => ?_, fun y z c e1 e2 => ?_⟩, fun a o => .inr ⟨hown a o, ?_⟩, tk⟩, fun a p => .inl p, hown⟩
  · rcases hky with hky | hky
    · obtain ⟨c, hc⟩ := cellsFrom_some (n := s.heap.objs.size + 1) (lookup_mem hky)
      exact ⟨c, _, hc, x.cell y c hc, fun dy hl => bindC_get r₁ hnod hl hky⟩
    · have := List.all_eq_true.mp hs _ (lookup_mem hky)
      simp at this
  · obtain ⟨o', e⟩ := B.stays _ _ i o
    rw [hown _ (.inl rfl)] at e; cases e
  · have e0 := none_of (Nat.le_of_lt (hcell e).1)
    exact ⟨notAt c e0, new_old i e0⟩
  · obtain ⟨o, ho, _⟩ := x.cell y c e
    exact ⟨o, ho⟩
  · exact Nat.ne_of_gt (hcell e).1
  · exact name_of_addr x.apart (mem_of_lookup e1) (mem_of_lookup e2)
  · rcases o with rfl | ⟨y, _, e⟩
    · exact ⟨_, hns3⟩
    · obtain ⟨o, ho, _⟩ := x.cell y a e
      exact ⟨o, ho⟩
end
end Mine
/-! ## LO -/
set_option autoImplicit false
set_option maxRecDepth 100000
namespace Mine
open PySem PySem.W PyProof.Rows PySem.Calls

section
variable {B : Base} {Γ : Gam} {K n : Nat} {Φ : Addr → Prop} {A : Around} {env : Env} {sc : Scope} {v v' vars : Vars} {s s₁ s₂ : Shared} {h : Heap} {adr adr₁ adr₂ : List Ent} {st st₁ st' : Sto} {d : D} {fa : Addr} {body : List Stmt} {bd : List D → List (Str × D) → Option Vars} {f : Fl}

/-- the call as such: the body's end, told for the caller -/
theorem call_fn (HR : RunOk B Γ K n) (FA : FnAt B fa sc body bd) {us : List Value} {kus : List (Str × Value)} {ds : List D} {ks : List (Str × D)} (R : Room A (K + n + 2)) (tk : 0 ≤ s.toks) (i : B.Inv s.heap) (S : SR B Φ s.heap adr st) (ru : VRs B.T Φ B.Ins s.heap adr us ds) (rk : VRf B.T Φ B.Ins s.heap adr kus ks)
    (hb : bd ds ks = some vars) (hbo : bindsOk sc vars = true) (hso : scopeOk sc = true) (e : runStmts (execS n Γ sc) body vars st = some (f, v', st')) {Q : Value → Shared → Prop}
    (hQ : ∀ (Φ₂ : Addr → Prop) u s' adr', (∀ a, Φ a → Φ₂ a) → B.Inv s'.heap → SR B Φ₂ s'.heap adr' st' → Ex B.T s.heap adr s'.heap adr' → s'.os = s.os → s'.gens = s.gens →
      (match f with | .ret d => VR B.T Φ₂ B.Ins s'.heap adr' u d | _ => u = .none) → Q u s') : wpAny (model B.prog B.w) A (call (.ref fa) us kus) Q NoE s := by
  obtain ⟨o, fd, ho, hd, h1, h2, h3, h4, h5, h6, hcd, h7⟩ := FA.fd
  subst h1
  refine wpAny_call (codeAny_call_function R.depth (ho _ i) hd FA.cor FA.gen h2 (h6 _ i) ?_)
  rw [h3, h4, h5]
  refine wpAny_mono (wpAny_toks_of tk (h7 _ _ s Φ adr st us kus ds ks vars i S ru rk hb (fun binds s₁ => ∃ h' tk', s₁ = { s with heap := h', toks := tk' } ∧ (∀ a o, s.heap.get? a = some o → h'.get? a = some o) ∧ VRf B.T Φ B.Ins h' adr binds vars) NoE fun binds h' tk' k r => ⟨h', tk', rfl, k, r⟩)) (fun binds s₁ ⟨tk₁, h', tk', hs, k, r⟩ => ?_) fun _ _ e => e.2.elim
  subst hs
  have i₁ : B.Inv h' := B.step _ _ i fun a o _ e => k a o e
  have S₁ : SR B Φ h' adr st := S.keep k
  refine wpAny_mono (wpAny_toks_of tk₁ (wpAny_newFunctionEnv_cells (E := NoE) (Q := fun env s₂ => env = callEnv' fd.scope h'.objs.size fd fa ∧
      InCallC { s with heap := h', toks := tk' } env.locals (bindL env.kindOf binds fun _ => none) env.cells (bindC env.kindOf binds fun _ => none) s₂) FA.kind (fun p hp => ?_) fun env he s' x => ⟨he, x⟩)) (fun env s₂ ⟨tk₂, he, x⟩ => ?_) fun _ _ e => e.2.elim
  · unfold bindsOk at hbo
    rw [Bool.and_eq_true] at hbo
    have hm : p.1 ∈ vars.map (·.1) := by rw [← r.names]; exact List.mem_map_of_mem hp
    obtain ⟨q, hq, hq'⟩ := List.mem_map.mp hm
    have := List.all_eq_true.mp hbo.2 q hq
    rw [hq'] at this
    rcases Bool.or_eq_true_iff.mp this with this | this
    · exact .inl (eq_of_beq this)
    · have hc : fd.scope.names.lookup p.1 = some .cell := eq_of_beq this
      refine .inr ⟨hc, ?_⟩
      obtain ⟨c, hc⟩ := cellsFrom_some (n := ({ s with heap := h', toks := tk' } : Shared).heap.objs.size + 1) (mem_of_lookup hc)
      rw [hc]; rfl
  · subst he
    obtain ⟨Φ₂, O₂, hΦ, hown⟩ := call_frame (st := st) hcd FA.kind hbo hso i₁ S₁ r x tk₂
    have keep := x.toInCall.keep
    obtain ⟨h₂, tk₂', hs₂, _⟩ := x.done
    refine ⟨B.nolim _ O₂.inv, codeAny_func ?_⟩
    have R₂ : Room (A.deeper (callEnv' fd.scope h'.objs.size fd fa)) (K + n) := (R.le (by omega : K + n + 1 ≤ K + n + 2)).deeper
    refine wpAny_mono (HR _ _ _ _ _ _ _ _ _ _ _ _ e R₂ O₂) (fun fl s₃ ⟨adr₃, w, rf⟩ => ?_) fun _ _ e => e.elim
    have ex : Ex B.T s.heap adr s₃.heap adr₃ := by
      have e1 : Ex B.T s.heap adr h' adr := .of_keep k
      have e2 : Ex B.T h' adr s₂.heap adr := .of_keep keep
      refine e1.trans (((e2.up fun _ t => .inl t).trans w.ex).drop fun a t => ?_)
      rcases t with t | t
      · exact .inl t
      · exact .inr (hown a t)
    have hos : s₃.os = s.os := by rw [w.os, hs₂]
    have hge : s₃.gens = s.gens := by rw [w.gens, hs₂]
    cases rf with
    | next => exact hQ Φ₂ .none s₃ adr₃ hΦ w.ok.inv w.ok.sr ex hos hge rfl
    | brk => exact hQ Φ₂ .none s₃ adr₃ hΦ w.ok.inv w.ok.sr ex hos hge rfl
    | cont => exact hQ Φ₂ .none s₃ adr₃ hΦ w.ok.inv w.ok.sr ex hos hge rfl
    | ret r => exact hQ Φ₂ _ s₃ adr₃ hΦ w.ok.inv w.ok.sr ex hos hge r

theorem SR.less {Φ₂ : Addr → Prop} (S : SR B Φ₂ h adr st) (hP : ∀ a, Φ a → Φ₂ a) : SR B Φ h adr st :=
  S.re (fun a _ _ p => .inr (hP a p)) (fun a m p => (S.out a m).2 (hP a p)) (fun a p => S.phi a (hP a p)) fun a p => S.phiO a (hP a p)

theorem fnSt_ok (HR : RunOk B Γ K n) (FA : FnAt B fa sc body bd) : FnOk B (K + n + 2) (fnSt n Γ sc body bd) (.ref fa) := by
  intro Φ A s adr st us kus ds ks d st' e R tk i S ru rk
  unfold fnSt at e
  simp only [Option.bind_eq_bind, Option.bind_eq_some_iff] at e
  obtain ⟨vars, hb, e⟩ := e
  split at e
  · rename_i hc
    rw [Bool.and_eq_true] at hc
    unfold runBody at e
    simp only [Option.bind_eq_bind, Option.bind_eq_some_iff] at e
    obtain ⟨⟨f, v', st₁⟩, h1, e⟩ := e
    refine call_fn HR FA R tk i S ru rk hb hc.1 hc.2 h1 fun Φ₂ u s' adr' hΦ i' S' ex os gens r => ?_
    simp only at e
    split at e
    · cases e
      exact ⟨adr', ⟨i', S'.less hΦ, ex, os, gens⟩, r.re (fun _ _ _ t => .inl t) fun a _ _ p => .inr (hΦ a p)⟩
    · cases e
      subst r
      exact ⟨adr', ⟨i', S'.less hΦ, ex, os, gens⟩, .none⟩
    · cases e
  · cases e
end
end Mine
/-! ## LP -/
set_option autoImplicit false
set_option maxRecDepth 100000
namespace Mine
open PySem PySem.W PyProof.Rows PySem.Calls

mutual
/-- without a store's entry -/
def D.pure : D → Bool
  | .ref _ | .app _ => false
  | .tup l | .lst l | .scr l => D.pures l
  | .inst _ fs => D.puresK fs
  | _ => true
def D.pures : List D → Bool
  | [] => true
  | d :: r => D.pure d && D.pures r
def D.puresK : List (Str × D) → Bool
  | [] => true
  | (_, d) :: r => D.pure d && D.puresK r
end
def freezeD (st : Sto) : D → Option D
  | .ref n => match st[n]? with
    | some (.lst l) => if D.pures l then some (.lst l) else none
    | _ => none
  | d => if D.pure d then some d else none

/-- a def that works with a store of its own -/
def fnPure (n : Nat) (Γ : Gam) (sc : Scope) (body : List Stmt) (bd : List D → List (Str × D) → Option Vars) : Fn := fun ds ks st =>
  if D.pures ds && D.puresK ks then do
    let vars ← bd ds ks
    if bindsOk sc vars && scopeOk sc then do
      let (d, st') ← runBody n Γ sc body vars []
      let d ← freezeD st' d
      some (d, st)
    else none
  else none

section
variable {T Φ Φ' : Addr → Prop} {Ins : InsT} {h : Heap} {adr adr' : List Ent}
mutual
theorem VR.move (hF : ∀ a o, h.get? a = some o → Fz T Φ adr a → Fz T Φ' adr' a) : ∀ {v : Value} {d : D}, VR T Φ Ins h adr v d → d.pure = true → VR T Φ' Ins h adr' v d
  | _, _, .none, _ => .none
  | _, _, .bool b, _ => .bool b
  | _, _, .int i t, _ => .int i t
  | _, _, .str s t l e b c, _ => .str s t l e b c
  | _, _, .tup e z r b, p => .tup e (hF _ _ e z) (VRs.move hF r (by simpa [D.pure] using p)) b
  | _, _, .lst e z r b, p => .lst e (hF _ _ e z) (VRs.move hF r (by simpa [D.pure] using p)) b
  | _, _, .scr e c d z r b, p => .scr e c d (hF _ _ e z) (VRs.move hF r (by simpa [D.pure] using p)) b
  | _, _, .ref _, p => by simp [D.pure] at p
  | _, _, .app _ _ _, p => by simp [D.pure] at p
  | _, _, .dic e z n, _ => .dic e (hF _ _ e z) n
  | _, _, .pat e e' z z' c q, _ => .pat e e' (hF _ _ e z) (hF _ _ e' z') c q
  | _, _, .rng e z p q, _ => .rng e (hF _ _ e z) p q
  | _, _, .inst e dd e' i z z' r, p => .inst e dd e' i (hF _ _ e z) (hF _ _ e' z') (VRf.move hF r (by simpa [D.pure] using p))
theorem VRs.move (hF : ∀ a o, h.get? a = some o → Fz T Φ adr a → Fz T Φ' adr' a) : ∀ {v : List Value} {d : List D}, VRs T Φ Ins h adr v d → D.pures d = true → VRs T Φ' Ins h adr' v d
  | _, _, .nil, _ => .nil
  | _, _, .cons a r, p => by
    simp only [D.pures, Bool.and_eq_true] at p
    exact .cons (VR.move hF a p.1) (VRs.move hF r p.2)
theorem VRf.move (hF : ∀ a o, h.get? a = some o → Fz T Φ adr a → Fz T Φ' adr' a) : ∀ {v : List (Str × Value)} {d : List (Str × D)}, VRf T Φ Ins h adr v d → D.puresK d = true → VRf T Φ' Ins h adr' v d
  | _, _, .nil, _ => .nil
  | _, _, .cons a r, p => by
    simp only [D.puresK, Bool.and_eq_true] at p
    exact .cons (VR.move hF a p.1) (VRf.move hF r p.2)
end
end

section
variable {B : Base} {Γ : Gam} {K n : Nat} {sc : Scope} {fa : Addr} {body : List Stmt} {bd : List D → List (Str × D) → Option Vars}

theorem fnPure_ok (HR : RunOk B Γ K n) (FA : FnAt B fa sc body bd) : FnOk B (K + n + 2) (fnPure n Γ sc body bd) (.ref fa) := by
  intro Φ A s adr st us kus ds ks d st' e R tk i S ru rk
  unfold fnPure at e
  split at e
  · rename_i hp
    rw [Bool.and_eq_true] at hp
    simp only [Option.bind_eq_bind, Option.bind_eq_some_iff] at e
    obtain ⟨vars, hb, e⟩ := e
    split at e
    · rename_i hc
      rw [Bool.and_eq_true] at hc
      unfold runBody at e
      simp only [Option.bind_eq_bind, Option.bind_eq_some_iff] at e
      obtain ⟨⟨d₀, st₀⟩, ⟨⟨f, v', st₁⟩, h1, e1⟩, d₁, h2, e⟩ := e
      cases e
      let Φ₃ : Addr → Prop := fun a => Φ a ∨ At adr a
      have nil_at : ∀ a, ¬ At [] a := fun a m => by
        obtain ⟨e, m, _⟩ := m
        cases m
      have S₃ : SR B Φ₃ s.heap [] [] := by
        refine ⟨rfl, fun i l e => ?_, fun i e => ?_, fun i e => ?_, fun i j e f h => ?_, fun a m => (nil_at a m).elim, fun a p => ?_, fun a p => p.elim (fun p => S.phiO a p) fun m => (S.out a m).1⟩
        · simp at e
        · simp at e
        · simp at e
        · simp at h
        · rcases p with p | ⟨e, me, he⟩
          · exact S.phi a p
          · obtain ⟨j, hj, q⟩ := List.getElem_of_mem me
            obtain ⟨o, ho, _⟩ := S.at (i := j) (e := e) (by rw [List.getElem?_eq_getElem hj, q])
            exact ⟨o, he ▸ ho⟩
      have hF : ∀ a o, s.heap.get? a = some o → Fz B.T Φ adr a → Fz B.T Φ₃ [] a := fun a o _ z => ⟨z.t, fun p => p.elim z.p z.m, nil_at a⟩
      refine call_fn HR FA R tk i S₃ (ru.move hF hp.1) (rk.move hF hp.2) hb hc.1 hc.2 h1 fun Φ₂ u s' adr' hΦ i' S' ex os gens r => ?_
      have keep : ∀ a o, s.heap.get? a = some o → ¬ B.T a → s'.heap.get? a = some o := fun a o q t => ex.keep a o q t (by simp)
      have hP : Post B Φ s adr s' adr st := ⟨i', S.keepF .refl keep ex.live, .of_but keep ex.live, os, gens⟩
      refine ⟨adr, hP, ?_⟩
      have hB : ∀ a o, s'.heap.get? a = some o → Fz B.T Φ₂ adr' a → Fz B.T Φ adr a := fun a o _ z => ⟨z.t, fun p => z.p (hΦ a (.inl p)), fun m => z.p (hΦ a (.inr m))⟩
      simp only at e1
      have fin : ∀ {w : Value} {x y : D}, VR B.T Φ₂ B.Ins s'.heap adr' w x → freezeD st₁ x = some y → VR B.T Φ B.Ins s'.heap adr w y := by
        intro w x y r q
        have plainCase : (if D.pure x = true then some x else none) = some y → VR B.T Φ B.Ins s'.heap adr w y := fun q => by
          split at q
          · rename_i hp
            cases q
            exact r.move hB hp
          · cases q
        cases x with
        | ref k =>
          simp only [freezeD] at q
          split at q
          · rename_i l hl
            split at q
            · rename_i hpl
              cases q
              obtain ⟨a, vs, m, q1, q2, q3, q4⟩ := S'.lst k l hl
              cases r with
              | ref he =>
              rw [q1] at he; cases he
              have hA := S'.out a ⟨_, List.mem_of_getElem? q1, rfl⟩
              exact .lst q2 ⟨fun t => hA.1 (B.T_old a t), fun p => hA.2 (hΦ a (.inl p)), fun m => hA.2 (hΦ a (.inr m))⟩ (q3.move hB hpl) q4
            · cases q
          · cases q
        | _ => exact plainCase q
      split at e1
      · cases e1
        exact fin r h2
      · cases e1
        subst r
        simp only [freezeD, D.pure, if_true] at h2
        cases h2
        exact .none
      · cases e1
    · cases e
  · cases e
end
end Mine
/-! ## MA -/
set_option autoImplicit false
set_option maxRecDepth 100000
namespace Mine
open PySem PySem.W PyProof.Rows PySem.Calls

/-- an instance of the class at `C` with one field -/
def InsH (C : Addr) (cn fn : Str) : InsT := fun _ oa od c vs => c = cn ∧ oa.cls = .ref C ∧ notCls oa = true ∧ ∃ v, vs = [(fn, v)] ∧ (∀ m, lookIn m od = if m = fn then some (some v) else some none) ∧ handedIn v = true

section
variable {B : Base} {K : Frag} {C : Addr} {cn fn : Str}

theorem inst_at {Φ : Addr → Prop} {h : Heap} {adr : List Ent} {u : Value} {c : Str} {fs : List (Str × D)} (hI : B.Ins = InsH C cn fn) (r : VR B.T Φ B.Ins h adr u (.inst c fs)) :
    ∃ a oa od v, u = .ref a ∧ InstAt h a oa C (some od) ∧ c = cn ∧ (∀ m, lookIn m od = if m = fn then some (some v) else some none) ∧ handedIn v = true ∧ VRf B.T Φ B.Ins h adr [(fn, v)] fs := by
  cases r with
  | @inst a d oa od _ vs _ e dd e' i z z' rf =>
  rw [hI] at i
  obtain ⟨h1, h2, h3, v, h4, h5, h6⟩ := i
  subst h4
  exact ⟨a, oa, od, v, rfl, ⟨e, h2, h3, by rw [dd]; exact e'⟩, h1, h5, h6, rf⟩

theorem attr_K (hK : ∀ h, B.Inv h → K.In h) (hI : B.Ins = InsH C cn fn) (hg : plainGet K C fn = true) (hh : hasDictIn K C = true) (attr : Option Value) (ha : findIn K (.ref C) fn = some attr) (hn : noGet K attr = true) :
    ∀ (A : Around) (s : Shared) (adr : List Ent) (Φ : Addr → Prop) (u : Value) (c m : Str) (fs : List (Str × D)) (d : D), B.Inv s.heap → VR B.T Φ B.Ins s.heap adr u (.inst c fs) → fs.lookup m = some d →
      ∃ x, VR B.T Φ B.Ins s.heap adr x d ∧ ∀ (Q : Value → Shared → Prop) (E : Value → Shared → Prop), (∀ tk, Q x { s with toks := tk }) → wpAny (model B.prog B.w) A (getAttr u m true) Q E s := by
  intro A s adr Φ u c m fs d i r hl
  obtain ⟨a, oa, od, v, rfl, I, _, h5, h6, rf⟩ := inst_at hI r
  obtain ⟨x, hx, rx⟩ := rf.get hl
  have hm : m = fn ∧ x = v := by
    rw [List.lookup_cons] at hx
    cases q : m == fn with
    | true => rw [q] at hx; cases hx; exact ⟨eq_of_beq q, rfl⟩
    | false => rw [q] at hx; cases hx
  obtain ⟨rfl, rfl⟩ := hm
  refine ⟨x, rx, fun Q E h => ?_⟩
  exact get_value (hK _ i) I (plainGet_of hg).1 (findObj_own hh ha hn (by rw [h5, if_pos rfl])) h6 (h _)

theorem meth_K {m : Str} {f : Addr} (hK : ∀ h, B.Inv h → K.In h) (hI : B.Ins = InsH C cn fn) (hg : plainGet K C m = true) (hf : findIn K (.ref C) m = some (some (.ref f))) (ht : isFn K (.ref f) = true) (hm : m ≠ fn) :
    ∀ (A : Around) (s : Shared) (adr : List Ent) (Φ : Addr → Prop) (u : Value) (fs : List (Str × D)) (pl : Sem Bool) (Q : Value × List Value → Shared → Prop) (E : Value → Shared → Prop),
      B.Inv s.heap → VR B.T Φ B.Ins s.heap adr u (.inst cn fs) → (∀ tk, Q (.ref f, [u]) { s with toks := tk }) → wpAny (model B.prog B.w) A (getMethod u m pl) Q E s := by
  intro A s adr Φ u fs pl Q E i r h
  obtain ⟨a, oa, od, v, rfl, I, _, h5, h6, rf⟩ := inst_at hI r
  exact method_fn (hK _ i) I (plainGet_of hg).1 (plainGet_of hg).2 hf (beq_iff_eq.mp ht) (by show (lookIn m od).map _ = _; rw [h5, if_neg hm]; rfl) (h s.toks)
end
end Mine
/-! ## MB -/
set_option autoImplicit false
set_option maxRecDepth 100000
namespace Mine
open PySem PySem.W PyProof.Rows PySem.Calls

section
variable {B : Base} {K : Frag} {C : Addr} {sc : Scope} {body : List Stmt} {fa : Addr}

theorem isFn_cls (hK : ∀ h, B.Inv h → K.In h) (hc : (clsIn K C).isSome = true) (hs : specialIn K (.ref C) "__call__" = some (some (.builtin "type.__call__"))) : IsFn B C := fun M A s i => by
  intro Q E h
  unfold clsIn at hc
  split at hc
  · rename_i oc od cd sl ho
    unfold keeperOf
    refine wpAny_bind (wpAny_load (hK _ i _ _ ho) ?_)
    refine wpAny_bind ((looks_specialIn (hK _ i) hs).here ?_)
    exact wpAny_pure (h _ (.inr rfl))
  · cases hc

/-- a def without defaults, its arguments given by place -/
def bdPos (names : List Str) : List D → List (Str × D) → Option Vars := fun ds ks => if ks.isEmpty && ds.length == names.length then some (names.zip ds) else none

theorem VRf.zip {T Φ : Addr → Prop} {Ins : InsT} {h : Heap} {adr : List Ent} : ∀ {names : List Str} {us : List Value} {ds : List D}, VRs T Φ Ins h adr us ds → VRf T Φ Ins h adr (names.zip us) (names.zip ds)
  | [], _, _, _ => .nil
  | _ :: _, _, _, .nil => .nil
  | _ :: _, _, _, .cons a r => .cons a (VRf.zip r)

/-- a written-out function object -/
def fnIn (K : Frag) (fa : Addr) : Option FuncData := match K.lookup fa with
  | some ⟨_, _, .func fd, _⟩ => some fd
  | _ => none
def codeIn (K : Frag) (cd : Value) (q : Str) : Bool := match cd with
  | .ref c => (match K.lookup c with
    | some ⟨_, _, .fields vs, _⟩ => (match (vs[1]? : Option Value) with | some (.str x _) => x == q | _ => false)
    | _ => false)
  | _ => false

theorem fnAt_K {fd : FuncData} {names : List Str} (hK : ∀ h, B.Inv h → K.In h) (hf : fnIn K fa = some fd) (h1 : fd.scope = sc) (h2 : fd.body = .stmts body) (h3 : fd.closure = []) (h4 : fd.globals = mainGlobals) (h5 : fd.builtins = builtinsNs) (h6 : codeIn K fd.code fd.qualname = true) (hcd : B.Code fd.code)
    (h7 : ∀ us : List Value, us.length = names.length → bindArgs fd ⟨us, []⟩ = pure (names.zip us)) (hk : sc.kind = .function) (hg : sc.isGenerator = false) (hco : sc.isCoroutine = false) : FnAt B fa sc body (bdPos names) where
  fd := by
    unfold fnIn at hf
    split at hf
    · rename_i oc od fd' sl ho
      cases hf
      refine ⟨_, _, fun h i => hK h i _ _ ho, rfl, h1, h2, h3, h4, h5, fun h i => ?_, hcd, ?_⟩
      · unfold codeIn at h6
        split at h6
        · rename_i c hc
          split at h6
          · rename_i oc' od' vs sl' ho'
            split at h6
            · rename_i x t hx
              exact ⟨c, _, vs, t, hc, hK h i _ _ ho', rfl, by rw [hx, eq_of_beq h6]⟩
            · cases h6
          · cases h6
        · cases h6
      · intro M A s Φ adr st us kus ds ks vars i S ru rk hb Q E h
        unfold bdPos at hb
        split at hb
        · rename_i hc
          cases hb
          rw [Bool.and_eq_true, beq_iff_eq] at hc
          have hks : ks = [] := List.isEmpty_iff.mp hc.1
          subst hks
          cases rk
          rw [h7 us (by rw [ru.length, hc.2])]
          exact wpAny_pure (h _ s.heap s.toks (fun _ _ e => e) (VRf.zip ru))
        · cases hb
    · cases hf
  kind := hk
  gen := hg
  cor := hco
end
end Mine
/-! ## MC -/
set_option autoImplicit false
set_option maxRecDepth 100000
namespace Mine
open PySem PySem.W PyProof.Rows PySem.Calls

/-- what stands when the law is called -/
def baseOf (prog : Program) (w : World) (mg mb : Str → Option Value) (h₁ : Heap) (tabs : List Addr) (C : Addr) (cn fn : Str) (hg : h₁.Ns mainGlobals mg) (hb : h₁.Ns builtinsNs mb) (hbb : ∀ x : Str, x ≠ "__name__" → mb x = bootBuiltins x) (hn : h₁.NoLimit)
    (ht : ∀ P ∈ tabs, h₁.get? P = some (tabObj #[])) (h3 : mainGlobals ∉ tabs) (h0 : builtinsNs ∉ tabs) (h2 : cStatics ∉ tabs) : Base where
  Code := fun _ => True
  prog := prog
  w := w
  mg := mg
  old := fun a => ∃ o, h₁.get? a = some o
  T := fun a => a ∈ tabs
  Inv := fun h => (∀ a o, h₁.get? a = some o → a ∉ tabs → h.get? a = some o) ∧ ∀ P ∈ tabs, ∃ vs, h.get? P = some (tabObj vs) ∧ TriplesOk vs.toList
  Ins := InsH C cn fn
  step := fun h h' i k => ⟨fun a o e ha => k a o ⟨o, e⟩ (i.1 a o e ha), fun P hP => by
    obtain ⟨vs, e, q⟩ := i.2 P hP
    exact ⟨vs, k P _ ⟨_, ht P hP⟩ e, q⟩⟩
  stays := fun h a i o => by
    obtain ⟨o, e⟩ := o
    by_cases ha : a ∈ tabs
    · obtain ⟨vs, e', _⟩ := i.2 a ha
      exact ⟨_, e'⟩
    · exact ⟨o, i.1 a o e ha⟩
  T_old := fun a ha => ⟨_, ht a ha⟩
  g := fun h i => by
    obtain ⟨o, es, ep, e, r⟩ := hg
    exact ⟨o, es, ep, i.1 _ _ e h3, r⟩
  b := fun h i => by
    refine ⟨mb, ?_, hbb⟩
    obtain ⟨o, es, ep, e, r⟩ := hb
    exact ⟨o, es, ep, i.1 _ _ e h0, r⟩
  nolim := fun h i => by
    obtain ⟨mc, ⟨o, es, ep, e, r⟩, q⟩ := hn
    exact ⟨mc, ⟨o, es, ep, i.1 _ _ e h2, r⟩, q⟩

section
variable {prog : Program} {w : World} {mg mb : Str → Option Value} {s₁ : Shared} {tabs : List Addr} {C : Addr} {cn fn : Str} {hg : s₁.heap.Ns mainGlobals mg} {hb : s₁.heap.Ns builtinsNs mb} {hbb : ∀ x : Str, x ≠ "__name__" → mb x = bootBuiltins x} {hn : s₁.heap.NoLimit}
  {ht : ∀ P ∈ tabs, s₁.heap.get? P = some (tabObj #[])} {h3 : mainGlobals ∉ tabs} {h0 : builtinsNs ∉ tabs} {h2 : cStatics ∉ tabs}

theorem base_inv : (baseOf prog w mg mb s₁.heap tabs C cn fn hg hb hbb hn ht h3 h0 h2).Inv s₁.heap := ⟨fun _ _ e _ => e, fun P hP => ⟨#[], ht P hP, trivial⟩⟩
theorem base_sr : SR (baseOf prog w mg mb s₁.heap tabs C cn fn hg hb hbb hn ht h3 h0 h2) (fun _ => False) s₁.heap [] [] := by
  refine ⟨rfl, fun i l e => ?_, fun i e => ?_, fun i e => ?_, fun i j e f h => ?_, fun a m => ?_, fun a p => p.elim, fun a p => p.elim⟩
  · simp at e
  · simp at e
  · simp at e
  · simp at h
  · obtain ⟨e, m, _⟩ := m
    cases m

/-- the law's own end -/
theorem finish {c : ClaimW} {cl : Str → Option Addr} {mean : ExcName → Option Value} {args : List WData} {t : Sem Value} {A : Around} {st' : Sto} (hct : ∀ P ∈ tabs, isCodeTable s₁.heap P) (hgens : s₁.gens = #[]) (hr : ∀ cls, c.raises args cls = false) (hp : c.post args (.bool true) args = true)
    (G : Gives (baseOf prog w mg mb s₁.heap tabs C cn fn hg hb hbb hn ht h3 h0 h2) (fun _ => False) A t s₁ [] st' (.bool true)) :
    wpAny (model prog w) A t (fun v s' => GoodWG c cl mean args s₁ (.ok (.ret v)) s') (fun e s' => GoodWG c cl mean args s₁ (.error e) s') s₁ := by
  refine wpAny_mono G (fun v s' ⟨adr', P, r⟩ => ?_) fun _ _ e => e.elim
  cases r
  have i := P.inv
  refine ⟨.inl ⟨_, .bool true, [], rfl, hr, .bool true, hp, fun _ => ⟨List.nodup_nil, fun a ha => by cases ha⟩⟩, ⟨fun b o e => ?_, fun b o e => ?_⟩, P.os, .of_eq (P.gens.trans hgens)⟩
  · by_cases hb' : b ∈ tabs
    · obtain ⟨vs, e', _⟩ := i.2 b hb'
      have := ht b hb'
      rw [e] at this
      cases this
      exact .inr (.inl ⟨hct b hb', rfl, #[], vs, rfl, by rw [e']; simp⟩)
    · exact .inl (i.1 b o e hb')
  · by_cases hb' : b ∈ tabs
    · obtain ⟨vs, e', _⟩ := i.2 b hb'
      exact ⟨_, e'⟩
    · exact ⟨o, i.1 b o e hb'⟩
end
end Mine
/-! ## MD -/
set_option autoImplicit false
set_option maxRecDepth 100000
namespace Mine
open PySem PySem.W PyProof.Rows PySem.Calls

theorem Ns.kp {h h' : Heap} {a : Addr} {m : Str → Option Value} (n : h.Ns a m) (k : ∀ b o, h.get? b = some o → h'.get? b = some o) : h'.Ns a m := by
  obtain ⟨o, es, ep, e, r⟩ := n
  exact ⟨o, es, ep, k _ _ e, r⟩

section
variable {prog : Program} {w : World} {A : Around} {env : Env} {s : Shared} {h₀ : Heap} {m : Str → Option Value} {news : List (Addr × Obj)} {E : Value → Shared → Prop} {K : Frag} {C x dx : Addr}

/-- a loop over an empty list -/
theorem for_empty {t it : Expr} {body : List Stmt} {pos : Pos} {a : Addr} {Q : Flow → Shared → Prop} (hh : A.handled = none) (F : Fr h₀ env.locals s.heap m) (N : News h₀ env.locals s.heap news) (hL : s.heap.IsList a #[])
    (hv : ∀ (Q : Value → Shared → Prop) (E : Value → Shared → Prop), Q (.ref a) s → wpAny (model prog w) A (eval it env) Q E s) (hs : ∀ x, foldedSetIterable it env x = pure x)
    (h : ∀ h' tk, Fr h₀ env.locals h' m → News h₀ env.locals h' news → Q .next { s with heap := h', toks := tk }) : wpAny (model prog w) A (exec (.For t it body [] pos) env) Q E s := by
  have hne : a ≠ s.heap.objs.size := by
    obtain ⟨o, e, _⟩ := hL
    exact Nat.ne_of_lt (Heap.lt_size e)
  refine wpAny_For (hv _ _ (wpAny_pyIter_list hL ?_)) hs
  refine codeAny_forLoop_any (fun _ s' => s' = { s with heap := s.heap.push { cls := .type "list_iterator", data := .fields #[.ref a, .int 0 0] } }) ?_ 0 rfl
  rintro n s' rfl
  refine (Walks.list hh s.heap.objs.size a hne #[]).done _ _ _ ⟨⟨_, Heap.get?_push_size _ rfl, rfl, rfl⟩, hL.push _⟩ fun h' tk k => ?_
  have nw : ∀ b o, s.heap.get? b = some o → h'.get? b = some o := fun b o e => k b o (fun m => by
    rw [List.mem_singleton.mp m] at e
    exact absurd (Heap.lt_size e) (Nat.lt_irrefl _)) (Heap.get?_push_of_some _ e)
  exact wpAny_execs_nil (h h' tk (F.keeps nw) (N.grown nw))

/-- `headers = headers if headers is not None else []`, the test of its type, the field set, the loop that has nothing to do -/
theorem init_walk {mg mb : Str → Option Value} {p1 p2 p3 p4 p5 p6 p7 p8 q1 q2 q3 q4 q5 q6 r1 r2 r3 r4 u1 u2 u3 u4 : Pos} {kc kd : Nat} {tgt : Expr} {b1 b2 : List Stmt} {Q : Flow → Shared → Prop}
    (hk : env.scope.kind = .function) (hh : A.handled = none) (hgl : env.globals = mainGlobals) (hbl : env.builtins = builtinsNs)
    (k1 : env.kindOf "headers" = some .local) (k2 : env.kindOf "self" = some .local) (k3 : env.kindOf "type" = some .globalImplicit) (k4 : env.kindOf "list" = some .globalImplicit)
    (F : Fr h₀ env.locals s.heap m) (N : News h₀ env.locals s.heap [(x, instObj C dx), (dx, emptyDict)]) (hxd : x ≠ dx) (X : K.In h₀) (hmh : m "headers" = some .none) (hms : m "self" = some (.ref x))
    (hG : h₀.Ns mainGlobals mg) (hB : h₀.Ns builtinsNs mb) (g3 : mg "type" = none) (g4 : mg "list" = none) (hbb : ∀ y : Str, y ≠ "__name__" → mb y = bootBuiltins y)
    (hs : findIn K (.ref C) "__setattr__" = some (some (.builtin "object.__setattr__"))) (hp : plainOver K C = true) (ht : takerIn K C "_headers" = some none) (hd : hasDictIn K C = true)
    (h : ∀ h' tk l od, Fr h₀ env.locals h' (fun y => if y = "headers" then some (.ref l) else m y) → News h₀ env.locals h' [(l, listO [] 0), (x, instObj C dx), (dx, od)] →
      (∀ y, lookIn y od = if y = "_headers" then some (some (.ref l)) else some none) → l ≠ x → l ≠ dx → Q .next { s with heap := h', toks := tk }) :
    wpAny (model prog w) A (execs [
      .Assign [.Name "headers" p1] (.IfExp (.Compare (.Name "headers" p2) [.IsNot] [.Constant .none kc p3] p4) (.Name "headers" p5) (.List [] p6) p7) p8,
      .If (.Compare (.Call (.Name "type" q1) [.Name "headers" q2] [] q3) [.IsNot] [.Name "list" q4] q5) b1 [] q6,
      .Assign [.Attribute (.Name "self" r1) "_headers" r2] (.Name "headers" r3) r4,
      .If (.Constant (.bool true) kd u1) [.For tgt (.Name "headers" u2) b2 [] u3] [] u4] env) Q E s := by
  refine wpAny_execs_cons (wpAny_Assign_Name (wpAny_IfExp (wpAny_isTrue_Compare1 (wpAny_Name (wpAny_loadName_local hk k1 F.ns hmh (wpAny_Constant_none (wpAny_isNot_self rfl (wpAny_truthy_bool ?_))))))) ?_)
  · show wpAny _ _ (eval (.List [] p6) env) _ _ _
    rw [arm_eval_List]
    refine wpAny_bind (wpAny_standAt (wpAny_bind (spliced_nil (newList_N F N (fun h1 F1 N1 => ?_)))))
    refine wpAny_storeName_local k1 F1.ns (fun h2 n2 s2 => ?_) (by rw [hk]; rfl)
    have F2 := F1.set n2 s2
    have N2 := N1.set s2
    generalize hl : s.heap.objs.size = l at N2 F2
    have hlx : l ≠ x := by
      rw [← hl]; exact N.fresh_ne _ (.head _)
    have hld : l ≠ dx := by
      rw [← hl]; exact N.fresh_ne _ (.tail _ (.head _))
    have e1 : (fun y => if y = ("headers" : Str) then some (Value.ref l) else m y) "headers" = some (.ref l) := if_pos rfl
    have e2 : (fun y => if y = ("headers" : Str) then some (Value.ref l) else m y) "self" = some (.ref x) := by
      show (if ("self" : Str) = "headers" then _ else _) = _
      rw [if_neg (by decide)]; exact hms
    have glob : ∀ {M : Model} {A : Around} {h' : Heap} {tk : Nat} {f : Str} {p : Pos} {fv : Value} {m' : Str → Option Value} {Q : Value → Shared → Prop} {E : Value → Shared → Prop}, Fr h₀ env.locals h' m' → env.kindOf f = some .globalImplicit → (f == ("__debug__" : Str)) = false → mg f = none → bootBuiltins f = some fv → f ≠ "__name__" →
        Q fv { s with heap := h', toks := tk } → wpAny M A (eval (.Name f p) env) Q E { s with heap := h', toks := tk } := fun F' kf df mf bf nf q =>
      Name_function_global hk kf (loadGlobal_builtin (mg := mg) (mb := mb) (by rw [hgl]; exact Ns.kp hG F'.keep) mf (by rw [hbl]; exact Ns.kp hB F'.keep) ((hbb _ nf).trans bf) q) df
    refine wpAny_execs_cons (wpAny_If (wpAny_isTrue_Compare1 (wpAny_Call_NameR (glob F2 k3 (by decide) g3 bb_type (by decide) ?_)) rfl))
    refine callWith_ok rfl rfl (spliced_cons (wpAny_Name (wpAny_loadName_local hk k1 F2.ns e1 (spliced_nil (evalAll_nil ⟨keep_type _, ?_⟩)))))
    refine call_type_of (x := .ref l) (Tx := "list") ?_ (by decide) ?_
    · exact Heap.IsList.typeIs (items := #[]) ⟨_, (N2 _ (.head _)).1, rfl, 0, rfl⟩
    refine glob F2 k4 (by decide) g4 (by kernel_rfl) (by decide) (wpAny_isNot_self rfl (wpAny_truthy_bool ?_))
    refine wpAny_execs_nil ?_
    refine wpAny_execs_cons (plainObj_wpAny_Assign_Attribute (wpAny_Name (wpAny_loadName_local hk k1 F2.ns e1 (wpAny_Name (wpAny_loadName_local hk k2 F2.ns e2 ?_)))))
    refine set_dict (C := C) (es := []) (n := 0) F2 X N2 (.of_news N2 (.tail _ (.head _)) (.tail _ (.tail _ (.head _)))) rfl hs hp ht hd rfl rfl (.tail hld (.tail hxd (.head fun p hp => by cases hp))) (show 1 ≤ 1000 by decide) fun h3 F3 N3 => ?_
    have e1' := e1
    refine wpAny_execs_cons (wpAny_If (wpAny_isTrue_value ?_))
    refine Constant_bool (wpAny_truthy_bool ?_)
    refine wpAny_execs_cons (for_empty hh F3 N3 ⟨_, (N3 _ (.head _)).1, rfl, 0, rfl⟩ (fun Q E q => wpAny_Name (wpAny_loadName_local hk k1 F3.ns e1 q)) (fun _ => rfl) fun h4 tk F4 N4 => wpAny_execs_nil (wpAny_execs_nil ?_))
    refine h h4 tk l _ F4 N4 (fun y => ?_) hlx hld
    show getL y [⟨_, .str "_headers" _, .ref l⟩] = _
    unfold getL
    by_cases hy : y = "_headers"
    · subst hy; rfl
    · rw [if_neg hy]
      have hf : (("_headers" : Str) == y) = false := beq_eq_false_iff_ne.mpr fun e => hy e.symm
      simp only [List.find?_cons, Value.isStr, hf, List.find?_nil]
      rfl
  · rfl
end
end Mine
/-! ## ME -/
set_option autoImplicit false
set_option maxRecDepth 100000
namespace Mine
open PySem PySem.W PyProof.Rows PySem.Calls

theorem Room.make {A : Around} {k : Nat} {C : Addr} (r : Room A (k + 1)) : Room (A.under (.builtin "type.__call__" ⟨[.ref C], []⟩)) k :=
  ⟨r.h, by have := r.d; show A.depth + 1 + k < 900; omega, by have := r.u; show A.units + 1 + 4 * k < 9800; omega⟩

/-- the class called without arguments: an instance with one empty list -/
def newInst (cn fn : Str) : Fn := fun ds ks st => if ds.isEmpty && ks.isEmpty then some (.inst cn [(fn, .ref st.length)], st ++ [.lst []]) else none

section
variable {B : Base} {K : Frag} {C fI : Addr} {cn : Str} {fd : FuncData} {k : Nat}

theorem init_ok {p1 p2 p3 p4 p5 p6 p7 p8 q1 q2 q3 q4 q5 q6 r1 r2 r3 r4 u1 u2 u3 u4 : Pos} {kc kd : Nat} {tgt : Expr} {b1 b2 : List Stmt}
    (hK : ∀ h, B.Inv h → K.In h) (hI : B.Ins = InsH C cn "_headers")
    (hm : makesIn K C = true) (hi : findIn K (.ref C) "__init__" = some (some (.ref fI))) (hf : typeIn K (.ref fI) = some (.type "function"))
    (hfn : fnIn K fI = some fd) (h3 : fd.closure = []) (h4 : fd.globals = mainGlobals) (h5 : fd.builtins = builtinsNs) (h6 : codeIn K fd.code fd.qualname = true)
    (hba : ∀ (M : Model) (A : Around) (s : Shared) (u : Value) (Q : List (Str × Value) → Shared → Prop) (E : Value → Shared → Prop), K.In s.heap → Q [("self", u), ("headers", .none)] s → wpAny M A (bindArgs fd ⟨[u], []⟩) Q E s)
    (hbody : fd.body = .stmts [
      .Assign [.Name "headers" p1] (.IfExp (.Compare (.Name "headers" p2) [.IsNot] [.Constant .none kc p3] p4) (.Name "headers" p5) (.List [] p6) p7) p8,
      .If (.Compare (.Call (.Name "type" q1) [.Name "headers" q2] [] q3) [.IsNot] [.Name "list" q4] q5) b1 [] q6,
      .Assign [.Attribute (.Name "self" r1) "_headers" r2] (.Name "headers" r3) r4,
      .If (.Constant (.bool true) kd u1) [.For tgt (.Name "headers" u2) b2 [] u3] [] u4])
    (hk : fd.scope.kind = .function) (hgen : fd.scope.isGenerator = false) (hco : fd.scope.isCoroutine = false)
    (k1 : kindOf fd.scope "headers" = some .local) (k2 : kindOf fd.scope "self" = some .local) (k3 : kindOf fd.scope "type" = some .globalImplicit) (k4 : kindOf fd.scope "list" = some .globalImplicit)
    (g3 : B.mg "type" = none) (g4 : B.mg "list" = none)
    (hs : findIn K (.ref C) "__setattr__" = some (some (.builtin "object.__setattr__"))) (hp : plainOver K C = true) (ht : takerIn K C "_headers" = some none) (hd : hasDictIn K C = true) :
    FnOk B (k + 4) (newInst cn "_headers") (.ref C) := by
  intro Φ A s adr st us kus ds ks d st' e R tk i S ru rk
  unfold newInst at e
  split at e
  · rename_i hc
    cases e
    rw [Bool.and_eq_true] at hc
    obtain ⟨c1, c2⟩ := hc
    have c1 := List.isEmpty_iff.mp c1
    have c2 := List.isEmpty_iff.mp c2
    subst c1 c2
    cases ru
    cases rk
    have X := hK _ i
    obtain ⟨hh, g, dr, tok, os⟩ := s
    refine wpAny_call (make_core (makes_of X hm) (looks_findIn X hi) (fun self => bind_fn X self hf) (.inl rfl) ?_)
    have kp1 : ∀ b o, hh.get? b = some o → ((hh.push emptyDict).push (instObj C hh.objs.size)).get? b = some o := fun b o e => Heap.get?_push_of_some _ (Heap.get?_push_of_some _ e)
    have X1 := X.keeps kp1
    have i1 := B.step _ _ i fun a o _ e => kp1 a o e
    have hfd : ∃ o, K.lookup fI = some o ∧ o.data = .func fd := by
      unfold fnIn at hfn
      split at hfn
      · rename_i oc od fd' sl ho
        cases hfn
        exact ⟨_, ho, rfl⟩
      · cases hfn
    obtain ⟨of, ho, hof⟩ := hfd
    have hcr : ((hh.push emptyDict).push (instObj C hh.objs.size)).CodeRec fd.code fd.qualname := by
      unfold codeIn at h6
      split at h6
      · rename_i c hc
        split at h6
        · rename_i oc' od' vs sl' ho'
          split at h6
          · rename_i x t hx
            exact ⟨c, _, vs, t, hc, X1 _ _ ho', rfl, by rw [hx, eq_of_beq h6]⟩
          · cases h6
        · cases h6
      · cases h6
    have R1 : Room (A.under (.builtin "type.__call__" ⟨[.ref C], []⟩)) (k + 3) := R.make
    refine codeAny_call_function R1.depth (X1 _ _ ho) hof hco hgen hbody hcr (hba _ _ _ _ _ _ X1 ?_)
    rw [h3, h4, h5]
    refine wpAny_newFunctionEnv_cells hk (fun p hp => ?_) fun env he s2 x => ?_
    · rcases List.mem_cons.mp hp with rfl | hp
      · exact .inl k2
      · rw [List.mem_singleton.mp hp]; exact .inl k1
    · subst he
      have keep := x.toInCall.keep
      obtain ⟨h2, tk2, hs2, _⟩ := x.toInCall.done
      subst hs2
      have F : Fr hh ((hh.push emptyDict).push (instObj C hh.objs.size)).objs.size h2 _ := ⟨x.toInCall.ns, fun b o e => keep _ _ (kp1 _ _ e), by rw [Heap.size_push, Heap.size_push]; omega⟩
      have hsz : ((hh.push emptyDict).push (instObj C hh.objs.size)).objs.size = hh.objs.size + 2 := by rw [Heap.size_push, Heap.size_push]
      have ha : ((hh.push emptyDict).push (instObj C hh.objs.size)).get? (hh.objs.size + 1) = some (instObj C hh.objs.size) := by heap_get
      have hb : ((hh.push emptyDict).push (instObj C hh.objs.size)).get? hh.objs.size = some emptyDict := by heap_get
      have N : News hh ((hh.push emptyDict).push (instObj C hh.objs.size)).objs.size h2 [(hh.objs.size + 1, instObj C hh.objs.size), (hh.objs.size, emptyDict)] := fun p hp => by
        rcases List.mem_cons.mp hp with rfl | hp
        · exact ⟨keep _ _ ha, by rw [hsz]; show hh.objs.size + 1 ≠ _; omega, Heap.get?_none_of_le (Nat.le_succ _)⟩
        · rw [List.mem_singleton.mp hp]
          exact ⟨keep _ _ hb, by rw [hsz]; show hh.objs.size ≠ _; omega, Heap.get?_none_of_le (Nat.le_refl _)⟩
      have i2 : B.Inv h2 := B.step _ _ i fun a o _ e => F.keep a o e
      refine ⟨B.nolim _ i2, codeAny_func ?_⟩
      obtain ⟨mb, hB, hbb⟩ := B.b _ i
      refine init_walk (env := callEnv' fd.scope ((hh.push emptyDict).push (instObj C hh.objs.size)).objs.size fd fI) hk R.h rfl rfl k1 k2 k3 k4 F N (Nat.succ_ne_self _) X ?_ ?_ (B.g _ i) hB g3 g4 hbb hs hp ht hd fun h3' tk3 l od F3 N3 hl hlx hld => ?_
      · show bindL (kindOf fd.scope) _ _ _ = _
        unfold bindL bindL bindL
        rw [if_pos k2, if_pos k1]
        exact if_pos rfl
      · show bindL (kindOf fd.scope) _ _ _ = _
        unfold bindL bindL bindL
        rw [if_pos k2, if_pos k1]
        exact (if_neg (by decide)).trans (if_pos rfl)
      · refine ⟨rfl, ?_⟩
        have i3 : B.Inv h3' := B.step _ _ i fun a o _ e => F3.keep a o e
        obtain ⟨gl, nl, fl⟩ := N3 _ (.head _)
        obtain ⟨gx, nx, fx⟩ := N3 _ (.tail _ (.head _))
        obtain ⟨gd, nd, fd'⟩ := N3 _ (.tail _ (.tail _ (.head _)))
        obtain ⟨S3, e3⟩ := S.add (h' := h3') i F3.keep fl (.lst []) ⟨[], 0, gl, .nil, Nat.zero_le _⟩
        have fz : ∀ a, hh.get? a = none → l ≠ a → Fz B.T Φ (adr ++ [.live l]) a := fun a ha hla =>
          ⟨(new_fz i S ha).t, (new_fz i S ha).p, fun ⟨e, me, he⟩ => by
            rcases List.mem_append.mp me with me | me
            · exact (new_fz i S ha).m ⟨e, me, he⟩
            · rw [List.mem_singleton.mp me] at he; exact hla he⟩
        refine ⟨adr ++ [.live l], ⟨i3, S3, e3, rfl, rfl⟩, .inst gx rfl gd ?_ (fz _ fx hlx) (fz _ fd' hld) (.cons (v := .ref l) (.ref (e := .live l) ?_) .nil)⟩
        · rw [hI]
          exact ⟨rfl, rfl, rfl, .ref l, rfl, hl, rfl⟩
        · rw [← S.len]; simp
  · cases e
end
end Mine
/-! ## MF -/
set_option autoImplicit false
set_option maxRecDepth 100000
namespace Mine
open PySem PySem.W PyProof.Rows PySem.Calls

section
variable {B : Base} {K : Frag} {C : Addr} {sc : Scope} {body : List Stmt} {fa : Addr} {bd : List D → List (Str × D) → Option Vars} {fd : FuncData} {names : List Str}

/-- how a def binds its arguments -/
def BindOk (B : Base) (fd : FuncData) (bd : List D → List (Str × D) → Option Vars) : Prop :=
  ∀ (M : Model) (A : Around) (s : Shared) (Φ : Addr → Prop) (adr : List Ent) (st : Sto) (us : List Value) (kus : List (Str × Value)) (ds : List D) (ks : List (Str × D)) (vars : Vars), B.Inv s.heap → SR B Φ s.heap adr st → VRs B.T Φ B.Ins s.heap adr us ds → VRf B.T Φ B.Ins s.heap adr kus ks → bd ds ks = some vars →
    ∀ (Q : List (Str × Value) → Shared → Prop) (E : Value → Shared → Prop), (∀ binds h' tk, (∀ a o, s.heap.get? a = some o → h'.get? a = some o) → VRf B.T Φ B.Ins h' adr binds vars → Q binds { s with heap := h', toks := tk }) → wpAny M A (bindArgs fd ⟨us, kus⟩) Q E s

theorem fnAt_B (hK : ∀ h, B.Inv h → K.In h) (hf : fnIn K fa = some fd) (h1 : fd.scope = sc) (h2 : fd.body = .stmts body) (h3 : fd.closure = []) (h4 : fd.globals = mainGlobals) (h5 : fd.builtins = builtinsNs) (h6 : codeIn K fd.code fd.qualname = true) (hcd : B.Code fd.code)
    (h7 : BindOk B fd bd) (hk : sc.kind = .function) (hg : sc.isGenerator = false) (hco : sc.isCoroutine = false) : FnAt B fa sc body bd where
  fd := by
    unfold fnIn at hf
    split at hf
    · rename_i oc od fd' sl ho
      cases hf
      refine ⟨_, _, fun h i => hK h i _ _ ho, rfl, h1, h2, h3, h4, h5, fun h i => ?_, hcd, h7⟩
      unfold codeIn at h6
      split at h6
      · rename_i c hc
        split at h6
        · rename_i oc' od' vs sl' ho'
          split at h6
          · rename_i x t hx
            exact ⟨c, _, vs, t, hc, hK h i _ _ ho', rfl, by rw [hx, eq_of_beq h6]⟩
          · cases h6
        · cases h6
      · cases h6
    · cases hf
  kind := hk
  gen := hg
  cor := hco

theorem VRf.zipd {T Φ : Addr → Prop} {Ins : InsT} {h : Heap} {adr : List Ent} {x : Str} {u : Value} {d : D} (a : VR T Φ Ins h adr u d) : ∀ {names : List Str} {us : List Value} {ds : List D}, VRs T Φ Ins h adr us ds → VRf T Φ Ins h adr ((names ++ [x]).zip (us ++ [u])) ((names ++ [x]).zip (ds ++ [d]))
  | [], _, _, .nil => .cons a .nil
  | [], _, _, .cons b r => .cons b (by cases r <;> exact .nil)
  | n :: ns, _, _, .nil => .cons a (by cases ns <;> exact .nil)
  | _ :: _, _, _, .cons b r => .cons b (VRf.zipd a r)

/-- a default that is None, kept in a tuple -/
def bdDef (names : List Str) (x : Str) : List D → List (Str × D) → Option Vars := fun ds ks => if ks.isEmpty && ds.length == names.length then some ((names ++ [x]).zip (ds ++ [.none])) else none
def noneIn (K : Frag) (t : Value) : Bool := match t with
  | .ref a => (match K.lookup a with
    | some ⟨_, _, .seq items _, _⟩ => items.toList == [.none]
    | _ => false)
  | _ => false
theorem bind_def {x : Str} {G : List Value → Option (Array Value) → Sem (List (Str × Value))} (hK : ∀ h, B.Inv h → K.In h) (hn : noneIn K fd.defaults = true)
    (h1 : ∀ us : List Value, us.length = names.length → bindArgs fd ⟨us, []⟩ = seqItems? fd.defaults >>= G us) (h2 : ∀ us : List Value, us.length = names.length → G us (some #[.none]) = pure ((names ++ [x]).zip (us ++ [.none]))) : BindOk B fd (bdDef names x) := by
  intro M A s Φ adr st us kus ds ks vars i S ru rk hb Q E h
  unfold bdDef at hb
  split at hb
  · rename_i hc
    cases hb
    rw [Bool.and_eq_true, beq_iff_eq] at hc
    have hks : ks = [] := List.isEmpty_iff.mp hc.1
    subst hks
    cases rk
    have hl : us.length = names.length := by rw [ru.length, hc.2]
    rw [h1 us hl]
    unfold noneIn at hn
    split at hn
    · rename_i a ha
      split at hn
      · rename_i oc od items n sl ho
        have hi : items = #[.none] := Array.toList_inj.mp (eq_of_beq hn)
        subst hi
        rw [ha]
        refine wpAny_bind (wpAny_seqItems (hK _ i _ _ ho) rfl ?_)
        rw [h2 us hl]
        exact wpAny_pure (h _ s.heap s.toks (fun _ _ e => e) (VRf.zipd .none ru))
      · cases hn
    · cases hn
  · cases hb

/-- one argument by keyword alone -/
def bdKw (names : List Str) (x : Str) : List D → List (Str × D) → Option Vars := fun ds ks => match ks with
  | [(y, d)] => if y == x && ds.length == names.length then some ((names ++ [x]).zip (ds ++ [d])) else none
  | _ => none
theorem bind_kw {x : Str} (h1 : ∀ (us : List Value) (u : Value), us.length = names.length → bindArgs fd ⟨us, [(x, u)]⟩ = pure ((names ++ [x]).zip (us ++ [u]))) : BindOk B fd (bdKw names x) := by
  intro M A s Φ adr st us kus ds ks vars i S ru rk hb Q E h
  unfold bdKw at hb
  split at hb
  · rename_i y d
    split at hb
    · rename_i hc
      cases hb
      rw [Bool.and_eq_true, beq_iff_eq, beq_iff_eq] at hc
      obtain ⟨rfl, hc⟩ := hc
      cases rk with
      | cons a r =>
      cases r
      rw [h1 us _ (by rw [ru.length, hc])]
      exact wpAny_pure (h _ s.heap s.toks (fun _ _ e => e) (VRf.zipd a ru))
    · cases hb
  · cases hb

/-- a def with a dict for the keywords, of which there are none -/
def bdDict (names : List Str) (x : Str) : List D → List (Str × D) → Option Vars := fun ds ks => if ks.isEmpty && ds.length == names.length then some ((names ++ [x]).zip (ds ++ [.dic0])) else none
theorem bind_dict {x : Str} (h1 : ∀ us : List Value, us.length = names.length → bindArgs fd ⟨us, []⟩ = alloc emptyDict >>= fun d => pure ((names ++ [x]).zip (us ++ [.ref d]))) : BindOk B fd (bdDict names x) := by
  intro M A s Φ adr st us kus ds ks vars i S ru rk hb Q E h
  unfold bdDict at hb
  split at hb
  · rename_i hc
    cases hb
    rw [Bool.and_eq_true, beq_iff_eq] at hc
    have hks : ks = [] := List.isEmpty_iff.mp hc.1
    subst hks
    cases rk
    rw [h1 us (by rw [ru.length, hc.2])]
    refine wpAny_bind (wpAny_alloc (wpAny_pure ?_))
    have z := new_fz i S (size_none s.heap)
    have hq : (s.heap.objs.size == sysModules) = false := by
      obtain ⟨mc, ⟨o, es, ep, e, _⟩, _⟩ := B.nolim _ i
      exact beq_eq_false_iff_ne.mpr (Nat.ne_of_gt (Nat.lt_trans (by decide) (Heap.lt_size e)))
    exact h _ (s.heap.push emptyDict) s.toks (keep_push _) (VRf.zipd (.dic (ep := 0) (Heap.get?_push_size _ rfl) z hq) (ru.ex (.of_keep (keep_push _))))
  · cases hb
end
end Mine
/-! ## NA -/
set_option autoImplicit false
set_option maxRecDepth 100000
namespace Mine
open PySem PySem.W PyProof.Rows PySem.Calls

/-- the same base, another word on the code of a frame -/
def Base.withCode (B : Base) (C : Value → Prop) : Base := { B with Code := C }
section
variable {B : Base} {C : Value → Prop} {Φ : Addr → Prop} {h : Heap} {adr : List Ent} {st : Sto} {Γ : Gam} {K K' : Nat} {F : Fn} {fv : Value}
theorem SR.to (S : SR B Φ h adr st) : SR (B.withCode C) Φ h adr st := ⟨S.len, S.lst, S.sent, S.dead, S.inj, S.out, S.phi, S.phiO⟩
theorem SR.un (S : SR (B.withCode C) Φ h adr st) : SR B Φ h adr st := ⟨S.len, S.lst, S.sent, S.dead, S.inj, S.out, S.phi, S.phiO⟩
theorem FnOk.to (H : FnOk B K F fv) : FnOk (B.withCode C) K F fv := fun Φ A s adr st us kus ds ks d st' e R tk i S ru rk =>
  wpAny_mono (H Φ A s adr st us kus ds ks d st' e R tk i S.un ru rk) (fun _ _ ⟨adr', P, r⟩ => ⟨adr', ⟨P.inv, P.sr.to, P.ex, P.os, P.gens⟩, r⟩) fun _ _ e => e
theorem FnOk.un (H : FnOk (B.withCode C) K F fv) : FnOk B K F fv := fun Φ A s adr st us kus ds ks d st' e R tk i S ru rk =>
  wpAny_mono (H Φ A s adr st us kus ds ks d st' e R tk i S.to ru rk) (fun _ _ ⟨adr', P, r⟩ => ⟨adr', ⟨P.inv, P.sr.un, P.ex, P.os, P.gens⟩, r⟩) fun _ _ e => e
theorem FnOk.mono (H : FnOk B K F fv) (hk : K ≤ K') : FnOk B K' F fv := fun Φ A s adr st us kus ds ks d st' e R tk i S ru rk => H Φ A s adr st us kus ds ks d st' e (R.le hk) tk i S ru rk
theorem GamOk.to (G : GamOk B Γ K) : GamOk (B.withCode C) Γ K where
  fn f F e := let ⟨fa, h1, h2, h3⟩ := G.fn f F e; ⟨fa, h1, h2, h3.to⟩
  con x d e := let ⟨v, h1, h2⟩ := G.con x d e; ⟨v, h1, fun Φ h adr st i S => h2 Φ h adr st i S.un⟩
  bl := G.bl
  meth c m F e := let ⟨fa, h1, h2, h3⟩ := G.meth c m F e; ⟨fa, h1, h2.to, h3⟩
  bi f F e := let ⟨a, b, fv, c, k, H⟩ := G.bi f F e; ⟨a, b, fv, c, k, H.to⟩
  bm m g F e s adr st Φ u a S r hg := let ⟨id, h1, h2⟩ := G.bm m g F e s adr st Φ u a S.un r hg; ⟨id, h1, h2.to⟩
  attr := G.attr

/-- a built-in function told apart -/
def BiT (B : Base) (K : Nat) (f : Str) (F : Fn) : Prop := B.mg f = none ∧ f ≠ ("__name__" : Str) ∧ ∃ fv, bootBuiltins f = some fv ∧ (∀ M A s, KeepOk M A fv s) ∧ FnOk B K F fv
def BmT (B : Base) (K : Nat) (g : Sto → D → Bool) (m : Str) (F : Fn) : Prop := ∀ (s : Shared) (adr : List Ent) (st : Sto) (Φ : Addr → Prop) (u : Value) (a : D), SR B Φ s.heap adr st → VR B.T Φ B.Ins s.heap adr u a → g st a = true →
    ∃ id, (∀ (M : Model) (A : Around) (pl : Sem Bool) (Q : Value × List Value → Shared → Prop) (E : Value → Shared → Prop), Q (.builtin id, [u]) s → wpAny M A (getMethod u m pl) Q E s) ∧ FnOk B K F (.builtin id)
theorem BiT.mono {f : Str} (H : BiT B K f F) (hk : K ≤ K') : BiT B K' f F := let ⟨a, b, fv, c, k, h⟩ := H; ⟨a, b, fv, c, k, h.mono hk⟩
theorem BmT.mono {m : Str} {g : Sto → D → Bool} (H : BmT B K g m F) (hk : K ≤ K') : BmT B K' g m F := fun s adr st Φ u a S r hg => let ⟨id, h1, h2⟩ := H s adr st Φ u a S r hg; ⟨id, h1, h2.mono hk⟩
/-- a function of the program, by its name -/
def FnT (B : Base) (K : Nat) (f : Str) (F : Fn) : Prop := ∃ fa, B.mg f = some (.ref fa) ∧ IsFn B fa ∧ FnOk B K F (.ref fa)
theorem FnT.mono {f : Str} (H : FnT B K f F) (hk : K ≤ K') : FnT B K' f F := let ⟨fa, h1, h2, h3⟩ := H; ⟨fa, h1, h2, h3.mono hk⟩
def MethT (B : Base) (K : Nat) (c m : Str) (F : Fn) : Prop := ∃ fa, IsFn B fa ∧ FnOk B K F (.ref fa) ∧
    ∀ (A : Around) (s : Shared) (adr : List Ent) (Φ : Addr → Prop) (u : Value) (fs : List (Str × D)) (pl : Sem Bool) (Q : Value × List Value → Shared → Prop) (E : Value → Shared → Prop),
      B.Inv s.heap → VR B.T Φ B.Ins s.heap adr u (.inst c fs) → (∀ tk, Q (.ref fa, [u]) { s with toks := tk }) → wpAny (model B.prog B.w) A (getMethod u m pl) Q E s
theorem MethT.mono {c m : Str} (H : MethT B K c m F) (hk : K ≤ K') : MethT B K' c m F := let ⟨fa, h1, h2, h3⟩ := H; ⟨fa, h1, h2.mono hk, h3⟩
def ConT (B : Base) (x : Str) (d : D) : Prop := ∃ v, B.mg x = some v ∧ ∀ Φ h adr st, B.Inv h → SR B Φ h adr st → VR B.T Φ B.Ins h adr v d
def AttrT (B : Base) : Prop := ∀ (A : Around) (s : Shared) (adr : List Ent) (Φ : Addr → Prop) (u : Value) (c m : Str) (fs : List (Str × D)) (d : D), B.Inv s.heap → VR B.T Φ B.Ins s.heap adr u (.inst c fs) → fs.lookup m = some d →
    ∃ x, VR B.T Φ B.Ins s.heap adr x d ∧ ∀ (Q : Value → Shared → Prop) (E : Value → Shared → Prop), (∀ tk, Q x { s with toks := tk }) → wpAny (model B.prog B.w) A (getAttr u m true) Q E s
/-- a context, by its lists -/
def mkGam (fns : List (Str × Fn)) (cons : List (Str × D)) (meths : List (Str × Fn)) (bis : List (Str × Fn)) (bms : List (Str × ((Sto → D → Bool) × Fn))) (grow res : List Str) (turns : Nat) : Gam where
  fn x := fns.lookup x
  con x := cons.lookup x
  meth c m := if c = ("Headers" : Str) then meths.lookup m else none
  grow := grow
  res := res
  turns := turns
  bi x := bis.lookup x
  bm x := bms.lookup x
theorem lookup_mem' {β : Type} {x : Str} {v : β} : ∀ {l : List (Str × β)}, l.lookup x = some v → (x, v) ∈ l
  | [], e => by cases e
  | (y, w) :: l, e => by
    rw [List.lookup_cons] at e
    cases q : x == y with
    | true => rw [q] at e; cases e; rw [eq_of_beq q]; exact .head _
    | false => rw [q] at e; exact .tail _ (lookup_mem' e)
theorem mkGam_ok {fns : List (Str × Fn)} {cons : List (Str × D)} {meths : List (Str × Fn)} {bis : List (Str × Fn)} {bms : List (Str × ((Sto → D → Bool) × Fn))} {grow res : List Str} {turns : Nat} (hf : ∀ p ∈ fns, FnT B K p.1 p.2) (hc : ∀ p ∈ cons, ConT B p.1 p.2) (hm : ∀ p ∈ meths, MethT B K "Headers" p.1 p.2) (hbi : ∀ p ∈ bis, BiT B K p.1 p.2) (hbm : ∀ p ∈ bms, BmT B K p.2.1 p.1 p.2.2) (ha : AttrT B)
    (hb : ∀ f ∈ builtinNames, B.mg f = none) : GamOk B (mkGam fns cons meths bis bms grow res turns) K where
  fn f F e := hf (f, F) (lookup_mem' e)
  con x d e := hc (x, d) (lookup_mem' e)
  bl f h _ := hb f h
  meth c m F e := by
    simp only [mkGam] at e
    split at e
    · rename_i hc
      subst hc
      exact hm (m, F) (lookup_mem' e)
    · cases e
  bi f F e := hbi (f, F) (lookup_mem' e)
  bm m g F e := hbm (m, (g, F)) (lookup_mem' e)
  attr := ha
end

/-- a lambda may be made in a frame with such code -/
def LamOk (B : Base) : Prop := ∀ h cv, B.Inv h → B.Code cv → ∃ c P ps, cv = .ref c ∧ B.T P ∧ CodeHd h c P ∧ h.get? P = some (tabObj ps) ∧ TriplesOk ps.toList ∧ mainGlobals ≠ P ∧ h.BuiltinsAt B.mg P ∧
  ∀ h' ps', Heap.ExtBut P h h' → h'.get? P = some (tabObj ps') → TriplesOk ps'.toList → B.Inv h'

theorem closL_nofree {env : Env} : ∀ {names : List (Str × NameKind)} {acc : List (Str × Addr)}, (names.all fun p => !(p.2 == .free)) = true → closL env names acc = acc
  | [], _, _ => rfl
  | (n, k) :: r, acc, h => by
    rw [List.all_cons, Bool.and_eq_true] at h
    have hk : (k == NameKind.free) = false := by simpa using h.1
    simp only [closL, hk, Bool.false_eq_true, if_false]
    exact closL_nofree h.2

section
variable {B : Base} {Φ : Addr → Prop} {A : Around} {env : Env} {sc : Scope} {v : Vars} {s : Shared} {adr : List Ent} {st : Sto}
theorem lambda_ok (L : LamOk B) (O : OK B Φ env sc v s adr st) {params : Arguments} {body : Expr} {ls : Scope} {pos : Pos} (h1 : params.defaults.isEmpty = true) (h2 : params.kw_defaults.isEmpty = true) (h3 : (ls.names.all fun p => !(p.2 == .free)) = true)
    {Q : Value → Shared → Prop} {E : Value → Shared → Prop} (h : ∀ (f : Addr) (fd : FuncData) (h' : Heap) (tk : Nat), s.heap.get? f = none → h'.get? f = some { cls := .type "function", data := .func fd } → Post B Φ s adr { s with heap := h', toks := tk } adr st → Q (.ref f) { s with heap := h', toks := tk }) :
    wpAny (model B.prog B.w) A (eval (.Lambda params body ls pos) env) Q E s := by
  obtain ⟨c, P, ps, hc, hT, C, hP, ht, hgP, hb, hinv⟩ := L _ _ O.inv O.fr.code
  have hdef : defaultsOf params env = ([], []) := by
    obtain ⟨a1, a2, a3, a4, a5, a6, a7⟩ := params
    have e1 : a7 = [] := List.isEmpty_iff.mp h1
    have e2 : a5 = [] := List.isEmpty_iff.mp h2
    subst e1 e2
    rfl
  have hcl : closureFor ls env = pure [] := by
    rw [closure_ok (env := env) (csc := ls) fun p hp hk => ?_, closL_nofree h3]
    have := List.all_eq_true.mp h3 p hp
    rw [hk] at this
    exact absurd this (by decide)
  have hg := O.fr.glob
  refine kla_eval hdef ?_
  have ext : ∀ {h' : Heap} {o : Obj} {tk : Nat}, Heap.ExtBut P s.heap h' → (∃ ps', h'.get? P = some (tabObj ps') ∧ TriplesOk ps'.toList) → Post B Φ s adr { s with heap := h'.push o, toks := tk } adr st := fun {h' o tk} hx ⟨ps', hp', ht'⟩ => by
    have i' := hinv h' ps' hx hp' ht'
    have k1 : ∀ a o, s.heap.get? a = some o → ¬ B.T a → h'.get? a = some o := fun a o e hn => hx a o (fun q => hn (q ▸ hT)) e
    have k2 : ∀ a o, s.heap.get? a = some o → ∃ o', h'.get? a = some o' := fun a o e => by
      by_cases q : a = P
      · subst q; exact ⟨_, hp'⟩
      · exact ⟨o, hx a o q e⟩
    have S' : SR B Φ h' adr st := O.sr.keepF .refl k1 k2
    have e1 : Ex B.T s.heap adr h' adr := .of_but k1 k2
    exact ⟨B.step _ _ i' fun a o' _ e => keep_push o a o' e, S'.keep (keep_push o), e1.trans (.of_keep (keep_push o)), rfl, rfl⟩
  cases hf : codeAmong pos ps.toList with
  | none =>
    refine kla_makeFunction (mg := B.mg) hcl hg (B.g _ O.inv) hc C hP ht hf hgP hb fun c' ctv h' tk hx hge hlt hrec htb => ?_
    exact h _ _ _ tk (Heap.get?_none_of_le (Nat.le_trans hge (Nat.le_of_lt hlt))) (Heap.get?_push_size _ rfl) (ext hx ⟨_, htb, by simpa using TriplesOk_snoc _ _ _ _ ht⟩)
  | some cv =>
    refine kla_makeFunctionHit (mg := B.mg) hcl hg (B.g _ O.inv) hc C hP ht hf hb fun ctv h' tk hk hsz => ?_
    exact h _ _ _ tk (Heap.get?_none_of_le hsz) (Heap.get?_push_size _ rfl) (ext (fun b o _ e => hk b o e) ⟨_, hk _ _ hP, ht⟩)
end
end Mine
/-! ## NB -/
set_option autoImplicit false
set_option maxRecDepth 100000
namespace Mine
open PySem PySem.W PyProof.Rows PySem.Calls PySem.Builtin PySem.Builtin.Re

theorem rs_slot : Slot "re.Pattern" "sub" "re.Pattern.sub" :=
  .of (owner := "re.Pattern") (n := "sub") (by rw [typeLookup_type, builtinLookup_eq_fast]; kernel_rfl) (by decide +kernel) (by decide +kernel) (by decide +kernel)
    (by first | exact .inl (by decide +kernel) | exact .inr (by decide +kernel)) (by rw [isSubtype_type]; kernel_rfl)
theorem rs_type : typeOf (.builtin "re.Pattern.sub") = pure (.type "method_descriptor") := by show builtinType _ = _; rw [builtinType_eq_fast]; kernel_rfl
theorem rs_entry : entryFor table "re.Pattern.sub" = some Builtin.«re.Pattern.sub» := entryFor_of_tree (by kernel_rfl)
theorem rs_loop_entry : entryFor table "re.Pattern.sub.loop" = some Builtin.«re.Pattern.sub.loop» := entryFor_of_tree (by kernel_rfl)
theorem rs_args (a b c : Value) : argsOk "re.Pattern.sub" ⟨[a, b, c], []⟩ := by unfold argsOk; kernel_rfl
theorem rs_named (id f : String) (v w : Value) : reNamed id f ["repl", "string", "count"] 2 [v, w] [] = pure [some v, some w, none] := by
  unfold reNamed
  first
    | rfl
    | kernel_rfl
    | (simp; rfl)
theorem rs_called : typeLookup (.type "function") "__call__" = pure (some (.builtin "function.__call__")) := by
  rw [typeLookup_type, builtinLookup_eq_fast]; kernel_rfl
theorem rs_sub1 : isSubtype (.type "str") (.type "bytearray") = pure false := by rw [isSubtype_type]; kernel_rfl
theorem rs_get {M : Model} {A : Around} {E : Value → Shared → Prop} {s : Shared} {Q : Value × List Value → Shared → Prop} {pl : Sem Bool} {pa ca : Addr} {p : Str} {t u : Tok} {g : Int} (h1 : s.heap.get? pa = some (patO p t u g ca)) (h : Q (.builtin "re.Pattern.sub", [.ref pa]) s) :
    wpAny M A (getMethod (.ref pa) "sub" pl) Q E s :=
  getMethod_builtin ⟨_, h1, rfl⟩ re_plain rs_slot rs_type (fun b hb => by cases hb; exact ⟨_, h1, rfl⟩) h

section
variable {prog : Program} {w : World} {A : Around} {E : Value → Shared → Prop} {s : Shared} {pa ca : Addr} {p x : Str} {t u tx : Tok} {g : Int} {items : Array Value} {m : Nat} {code : Array Nat}

theorem whole_ok {M : Model} {Q : ReTarget → Shared → Prop} (hcode : (items.map reRawOf).map (·.toNat) = code) (h1 : s.heap.get? pa = some (patO p t u g ca)) (h2 : s.heap.get? ca = some { cls := .type "tuple", data := .seq items m })
    (h : ∀ gr, Q { pattern := .ref pa, string := .str x tx, code := code, text := x.cps, kind := 0, groups := gr, pos := 0, lim := x.cps.size } s) : wpAny M A (reWholeTarget (.ref pa) (.str x tx)) Q E s := by
  unfold reWholeTarget
  refine wpAny_bind (wpAny_fieldsOf h1 rfl ?_)
  have htext : reTextOf (.str x tx) = pure (x.cps, 0) := by first | rfl | kernel_rfl
  rw [htext]
  refine wpAny_bind (wpAny_pure ?_)
  refine KFB.if_not (by first | rfl | decide) ?_
  refine KFB.if_not (by first | rfl | decide) ?_
  refine wpAny_bind ?_
  have hcoll : reNoCollectionInside (.str x tx) 0 = pure () := by first | rfl | kernel_rfl
  rw [hcoll]
  refine wpAny_pure ?_
  refine wpAny_bind ?_
  show wpAny _ _ (reRawItems (.ref ca)) _ _ s
  unfold reRawItems
  refine wpAny_bind (wpAny_seqItems h2 rfl (wpAny_pure ?_))
  simp only [Option.getD_some, hcode]
  exact wpAny_pure (h _)

theorem next_none {M : Model} {Q : Option Sre.M → Shared → Prop} {gr : Nat} {pv sv : Value} (hset : ∀ m : Sre.M, m.code = code → m.hasFirstSet = true) (hx : NoneIn code x.cps.toList) (h : Q none s) :
    wpAny M A (reNextFound { pattern := pv, string := sv, code := code, text := x.cps, kind := 0, groups := gr, pos := 0, lim := x.cps.size } 0 false) Q E s := by
  unfold reNextFound
  obtain ⟨q1, q2, q3⟩ := search_none (code := code) (text := x.cps) (groups := gr) (lim := x.cps.size) (adv := false) hset hx (Nat.le_refl _)
  exact run_end q1 q2 q3 h

theorem extract_all (a : Array Nat) : a.extract 0 a.size = a := by simp
theorem loop_code {A : Around} {R : Result → Shared → Prop} {l : Addr} {fv : Value} (hcode : (items.map reRawOf).map (·.toNat) = code) (hset : ∀ m : Sre.M, m.code = code → m.hasFirstSet = true) (hx : NoneIn code x.cps.toList) (hsz : x.length ≤ 1048576)
    (h1 : s.heap.get? pa = some (patO p t u g ca)) (h2 : s.heap.get? ca = some { cls := .type "tuple", data := .seq items m }) (h3 : s.heap.get? l = some { cls := .type "list", data := .seq #[] })
    (h : ∀ h' tk tx', Heap.SameBut l s.heap h' → R (.ok (.ret (.str x tx'))) { s with heap := h', toks := tk }) :
    codeAny (model prog w) A (.builtin "re.Pattern.sub.loop" ⟨[.ref pa, .str x tx, fv, rawInt 1, rawInt 0, rawInt 0, rawInt 0, rawInt 0, .bool false, .ref l, .bool false], []⟩) R s := by
  refine codeAny_builtin rs_loop_entry ?_
  unfold Builtin.«re.Pattern.sub.loop»
  dsimp only [rawInt]
  refine wpAny_bind (whole_ok hcode h1 h2 fun gr => ?_)
  refine KFB.if_not (by first | rfl | decide) ?_
  refine wpAny_bind (m := (if ((0 : Int) != 0 && decide ((0 : Int) ≥ 0)) = true then pure none else reNextFound _ _ _)) ?_
  refine KFB.if_not (by first | rfl | decide) ?_
  refine next_none hset hx ?_
  have q0 : x.cps.size = x.length := rfl
  by_cases hs : 0 < x.cps.size
  · rw [if_pos (by exact hs)]
    refine wpAny_bind ?_
    unfold reSlice
    refine KFB.if_so rfl ?_
    refine wpAny_mkStr ?_ (by show _ ≤ sizeLine; rw [sizeLine_eq]; show (x.cps.extract 0 x.cps.size).size ≤ _; rw [extract_all]; omega)
    refine wpAny_bind (wpAny_updateSeq (xs := #[]) (n := 0) h3 rfl ?_)
    have e0 : ({ cps := x.cps.extract (Int.toNat 0) x.cps.size } : Str) = x := by show ({ cps := x.cps.extract 0 x.cps.size } : Str) = x; rw [extract_all]
    dsimp only
    rw [e0]
    have hu : (s.heap.update l (Obj.mapSeq fun y => y.push (.str x s.toks))).get? l = some { cls := .type "list", data := .seq #[.str x s.toks] 1 } := by
      rw [Heap.get?_update_self _ h3 (by rw [Obj.mapSeq_push_plain]; rfl), Obj.mapSeq_push_plain]; rfl
    have hb : Heap.SameBut l s.heap (s.heap.update l (Obj.mapSeq fun y => y.push (.str x s.toks))) := Heap.SameBut.update ..
    generalize s.heap.update l (Obj.mapSeq fun y => y.push (.str x s.toks)) = H at hu hb ⊢
    refine wpAny_bind (KFB.if_so rfl (wpAny_mkStr ?_ (by show _ ≤ sizeLine; rw [sizeLine_eq]; simp [Str.length])))
    refine wpAny_bind (wpAny_seqItems hu rfl ?_)
    refine KFB.if_not rfl ?_
    refine wpAny_bind (join_list (ys := [x]) ⟨_, hu, rfl, 1, rfl⟩ (.cons x _ .nil) ?_ fun t' k => ?_)
    · simp [Str.length]; simp [Str.length] at hsz; omega
    · refine KFB.if_not rfl (wpAny_pure ?_)
      exact h H _ _ hb
  · rw [if_neg (by exact hs)]
    have hx0 : x.cps = #[] := Array.eq_empty_of_size_eq_zero (by omega)
    refine wpAny_bind (KFB.if_so rfl (wpAny_mkStr ?_ (by show _ ≤ sizeLine; rw [sizeLine_eq]; simp [Str.length])))
    refine wpAny_bind (wpAny_seqItems h3 rfl ?_)
    refine KFB.if_so rfl (wpAny_bind (wpAny_pure (KFB.if_not rfl (wpAny_pure ?_))))
    have e0 : ({ cps := x.cps.extract 0 0 } : Str) = x := by
      obtain ⟨c⟩ := x
      simp only at hx0
      subst hx0; rfl
    dsimp only
    rw [e0]
    exact h s.heap _ _ ⟨rfl, fun _ _ => rfl⟩

/-- pattern.sub(function, text), nothing found -/
theorem sub_call {Q : Value → Shared → Prop} {f : Addr} {fd : FuncData} (hcode : (items.map reRawOf).map (·.toNat) = code) (hset : ∀ m : Sre.M, m.code = code → m.hasFirstSet = true) (hx : NoneIn code x.cps.toList) (hsz : x.length ≤ 1048576)
    (h1 : s.heap.get? pa = some (patO p t u g ca)) (h2 : s.heap.get? ca = some { cls := .type "tuple", data := .seq items m }) (h3 : s.heap.get? f = some { cls := .type "function", data := .func fd })
    (h : ∀ h' tk tx', (∀ a o, s.heap.get? a = some o → h'.get? a = some o) → Q (.str x tx') { s with heap := h', toks := tk }) :
    wpAny (model prog w) A (call (.builtin "re.Pattern.sub") [.ref pa, .ref f, .str x tx]) Q E s := by
  refine wpAny_call (codeAny_call_builtin rs_slot.plain rs_entry (rs_slot.check _ _ _ _ _ _ _ _ ⟨_, h1, rfl⟩ (rs_args _ _ _) ?_))
  unfold Builtin.«re.Pattern.sub» reSubstitute
  dsimp only
  refine wpAny_bind ?_
  rw [rs_named]
  refine wpAny_pure ?_
  dsimp only
  refine wpAny_bind (wpAny_pure ?_)
  refine wpAny_bind (wpAny_specialOf ⟨_, h3, rfl⟩ rs_called ?_)
  refine KFB.if_so rfl (wpAny_bind (wpAny_pure ?_))
  refine KFB.if_so rfl (wpAny_bind (wpAny_pure ?_))
  refine wpAny_bind (wpAny_holding (whole_ok hcode h1 h2 fun gr => ?_))
  refine KFB.if_so rfl (wpAny_bind ?_)
  unfold reNotHeld
  refine wpAny_bind (wpAny_isInstance_val rfl rs_sub1 ?_)
  refine KFB.if_not rfl (wpAny_pure ?_)
  refine wpAny_bind (wpAny_newList ?_)
  refine wpAny_pure ⟨by first | rfl | kernel_rfl | simp [Code.quiet], ?_⟩
  have k : ∀ a o, s.heap.get? a = some o → (s.heap.push { cls := .type "list", data := .seq #[] }).get? a = some o := fun a o e => Heap.get?_push_of_some _ e
  refine loop_code hcode hset hx hsz (k _ _ h1) (k _ _ h2) (Heap.get?_push_size _ rfl) fun h' tk tx' hb => ?_
  refine h h' tk tx' fun a o e => ?_
  rw [hb.2 a (Nat.ne_of_lt (Heap.lt_size e))]
  exact k a o e
end
end Mine
/-! ## NC -/
set_option autoImplicit false
set_option maxRecDepth 100000
namespace Mine
open PySem PySem.W PyProof.Rows PySem.Calls

section
variable {B : Base} {Γ : Gam} {K : Nat}
theorem isSub_of {o x : Expr} {m r : Str} {args : List Expr} {kws : List Keyword} (h : isSub o m args kws = some (r, x)) :
    ∃ p a b ls lp, o = .Name r p ∧ args = [.Lambda a b ls lp, x] ∧ kws = [] ∧ m = ("sub" : Str) ∧ a.defaults.isEmpty = true ∧ a.kw_defaults.isEmpty = true ∧ (ls.names.all fun p => !(p.2 == .free)) = true ∧ isStar x = false := by
  unfold isSub at h
  split at h
  · split at h
    · rename_i hc
      cases h
      simp only [Bool.and_eq_true, beq_iff_eq] at hc
      obtain ⟨⟨⟨⟨h1, h2⟩, h3⟩, h4⟩, h5⟩ := hc
      exact ⟨_, _, _, _, _, rfl, rfl, rfl, h1, h2, h3, h4, by simpa using h5⟩
    · cases h
  · cases h

theorem star_plain {env : Env} {e : Expr} {rest : List Expr} (h : isStar e = false) : starEach (e :: rest) env = (false, eval e env) :: starEach rest env := by
  cases e <;> first | rfl | (simp [isStar] at h)

theorem subOk_of (L : LamOk B) (hr : ∀ r ∈ Γ.res, plainName r = true ∧ ConT B r (.pat 2)) : SubOk B Γ K := by
  intro Φ A env sc v o m apos pos args kws r x s adr st st₁ l hs hk hres hc R hl O hx
  obtain ⟨p, a, b, ls, lp, rfl, rfl, rfl, rfl, h1, h2, h3, h4⟩ := isSub_of hs
  obtain ⟨hp, pv, hv, hpat⟩ := hr r (by simpa using hres)
  have hsL : starEach [.Lambda a b ls lp, x] env = [(false, eval (.Lambda a b ls lp) env), (false, eval x env)] := by
    rw [star_plain rfl, star_plain h4]; rfl
  refine methodCall_ok hc (by rw [hsL]; rfl) rfl (global_ok O hk hp hv fun pl => ?_)
  have hv' := hpat Φ _ _ _ O.inv O.sr
  cases hv' with
  | @pat pa ca pp t u g items mm k e1 e2 z z' c q =>
  refine rs_get e1 ?_
  rw [hsL]
  refine callWith_ok rfl rfl ?_
  refine spliced_cons (x := eval (.Lambda a b ls lp) env) (wpAny_mono (wpAny_toks_of O.tk (lambda_ok (E := NoE) (Q := fun u s₁ => ∃ f fd h' tk, u = .ref f ∧ s.heap.get? f = none ∧ s₁ = { s with heap := h', toks := tk } ∧ h'.get? f = some { cls := .type "function", data := .func fd } ∧ Post B Φ s adr { s with heap := h', toks := tk } adr st) L O h1 h2 h3
    fun f fd h' tk hn hf P => ⟨f, fd, h', tk, rfl, hn, rfl, hf, P⟩)) (fun u s₁ ⟨tk₁, f, fd, h', tk, hu, hn, hs₁, hf, P⟩ => ?_) fun _ _ e => e.2.elim)
  subst hu hs₁
  have O₁ := O.next P tk₁
  refine spliced_cons (x := eval x env) ((hx _ _ O₁).next O₁ fun u s₂ adr₂ O₂ P₂ r₂ => spliced_nil ?_)
  have hnil : evalAll (List.map (fun x => x.2) (backToKw pos (keywordEach [] env))) = pure [] := rfl
  rw [hnil]
  refine wpAny_pure (And.intro (keep_builtin _) ?_)
  show wpAny _ _ (call (.builtin "re.Pattern.sub") [.ref pa, .ref f, u]) _ _ _
  cases r₂ with
  | str x' tx _ q1 l1 c1 =>
  have g1 := (P.ex.trans P₂.ex).get e1 z
  have g2 := (P.ex.trans P₂.ex).get e2 z'
  have hfT : ¬ B.T f := (new_fz O.inv O.sr hn).t
  have hfL : Ent.live f ∉ adr := fun m => (new_fz O.inv O.sr hn).m ⟨_, m, rfl⟩
  have g3 : s₂.heap.get? f = some { cls := .type "function", data := .func fd } := P₂.ex.keep f _ hf hfT hfL
  refine sub_call c (set_of rfl) ?_ ?_ g1.1 g2.1 g3 fun h₃ tk₃ tx' k => ?_
  · rw [q1]; exact twin_none c1 hl
  · show x'.cps.size ≤ _
    rw [← Array.length_toList, q1]; exact l1
  · exact ⟨adr₂, (P.trans P₂).trans (Post.keep O₂.inv O₂.sr k tk₃), .str _ _ _ q1 l1 c1⟩
end
end Mine
/-! ## ND -/
set_option autoImplicit false
set_option maxRecDepth 100000
namespace Mine
open PySem PySem.W PyProof.Rows PySem.Calls PySem.Builtin

theorem td_sub : isSubtype (.type "KeyError") (.type "LookupError") = pure true := by rw [isSubtype_type]; kernel_rfl
section
variable {prog : Program} {w : World} {A : Around} {E : Value → Shared → Prop} {s : Shared} {d : Addr} {f : Int → Option Value} {c : Nat}

theorem tab_look {Q : Str.Mapped → Shared → Prop} (hm : s.heap.MapOf (intKind prog w) d f) (hd : (d == sysModules) = false) (hh : A.handled = none)
    (h0 : f c = none → ∀ h' tk, (∀ a o, s.heap.get? a = some o → h'.get? a = some o) → Q .keep { s with heap := h', toks := tk })
    (h1 : ∀ v, f c = some v → ∃ y t, v = .str y t ∧ ∀ tk, Q (.text y) { s with toks := tk }) : wpAny (model prog w) A (Str.tableLookup (.ref d) c) Q E s := by
  unfold Str.tableLookup
  refine wpAny_bind (wpAny_attempt (wpAny_bind (wpAny_mkInt ?_)))
  cases hf : f c with
  | none =>
    refine wpAny_getItem_missing_of (k := (c : Int)) (intKind_is _ _ _ _) hd hh (f := f) hm hf fun h' e x => ?_
    obtain ⟨ob, t, he, hc, hdt⟩ := x.there
    refine wpAny_bind (wpAny_isInstance (T := "KeyError") ⟨ob, he, hc⟩ td_sub ?_)
    refine KFB.if_so rfl (wpAny_bind (wpAny_rule (wpAny_pure ?_)))
    exact h0 hf _ _ x.keeps
  | some v =>
    obtain ⟨y, t, rfl, hq⟩ := h1 v hf
    refine wpAny_getItem_of (k := (c : Int)) (intKind_is _ _ _ _) hm hf ?_
    dsimp only
    have e1 : asInt? (.str y t) = pure none := by first | rfl | kernel_rfl
    have e2 : asStr? (.str y t) = pure (some y) := by first | rfl | kernel_rfl
    rw [e1]
    refine wpAny_bind (wpAny_pure ?_)
    rw [e2]
    exact wpAny_bind (wpAny_pure (wpAny_pure (hq _)))

/-- one sign through the table -/
theorem translate_call {Q : Value → Shared → Prop} {x : Str} {t : Tok} (hx : x.cps.toList = [c]) (hc : c < 128) (hd : (d == sysModules) = false) (hh : A.handled = none) (hm : s.heap.MapOf (intKind prog w) d f)
    (h0 : f c = none → ∀ y h' tk tx, y.cps.toList = [c] → (∀ a o, s.heap.get? a = some o → h'.get? a = some o) → Q (.str y tx) { s with heap := h', toks := tk })
    (h1 : ∀ v, f c = some v → ∃ y t, v = .str y t ∧ y.cps.size = 2 ∧ ∀ z h' tk tx, z.cps.toList = y.cps.toList → (∀ a o, s.heap.get? a = some o → h'.get? a = some o) → Q (.str z tx) { s with heap := h', toks := tk }) :
    wpAny (model prog w) A (call (.builtin "str.translate") [.str x t, .ref d]) Q E s := by
  have hx' : x = ⟨#[c]⟩ := by
    obtain ⟨a⟩ := x
    simp only at hx
    have : a = #[c] := Array.toList_inj.mp hx
    rw [this]
  subst hx'
  refine wpAny_call_entry F.slot_str_translate (typeIs_str _ _ _) F.entry_str_translate ?_ (F.args_str_translate_2 _ _)
  unfold Builtin.«str.translate»
  have e1 : Str.strOneArg "translate" ⟨[.str ⟨#[c]⟩ t, .ref d], []⟩ = pure (.str ⟨#[c]⟩ t, ⟨#[c]⟩, .ref d) := by first | rfl | kernel_rfl
  rw [e1]
  refine wpAny_bind (wpAny_pure ?_)
  refine KFB.if_not (by first | rfl | decide) ?_
  have hall : (#[c].all fun x => decide (x < 128)) = true := by simp [hc]
  dsimp only
  rw [hall]
  rw [List.forIn_toArray, List.forIn_cons]
  refine wpAny_bind (wpAny_bind (KFB.if_not (by first | rfl | decide) ?_))
  rw [if_pos rfl]
  dsimp only [List.lookup]
  have hh' : A.in1.handled = none := hh
  have out : ∀ {z y : Str} {s' : Shared}, z.cps.toList = y.cps.toList → z.cps.size ≤ 2 → (∃ h' tk, s' = { s with heap := h', toks := tk } ∧ (∀ a o, s.heap.get? a = some o → h'.get? a = some o)) → (∀ tx h' tk, (∀ a o, s.heap.get? a = some o → h'.get? a = some o) → Q (.str z tx) { s with heap := h', toks := tk }) →
      wpAny (model prog w) A.in1 (retStr z) (fun fin s' => ∃ v, fin = Fin.done (.ret v) ∧ Q v s') E s' := fun {z y s'} e hsz ⟨h', tk, es, k⟩ hq => by
    subst es
    refine wpAny_bind (wpAny_mkStr (wpAny_pure ⟨_, rfl, hq _ _ _ k⟩) ?_)
    show z.cps.size ≤ sizeLine
    rw [sizeLine_eq]; omega
  refine wpAny_bind (tab_look hm hd hh' (fun hf h' tk k => ?_) fun v hv => ?_)
  · dsimp only
    refine wpAny_bind (wpAny_pure ?_)
    dsimp only
    refine wpAny_pure ?_
    dsimp only
    rw [List.forIn_nil]
    refine wpAny_pure ?_
    refine KFB.if_not (by first | rfl | decide) ?_
    exact out (z := ⟨#[c]⟩) (y := ⟨#[c]⟩) rfl (by simp) ⟨_, _, rfl, k⟩ fun tx h' tk k => h0 hf ⟨#[c]⟩ h' tk tx rfl k
  · obtain ⟨y, ty, rfl, hsz, hq⟩ := h1 v hv
    refine ⟨y, ty, rfl, fun tk => ?_⟩
    have hl : (y.length == 1 && y.cps.all fun x => decide (x < 128)) = false := by
      have : y.length = 2 := hsz
      rw [this]; rfl
    have hif : (if (y.length == 1 && y.cps.all fun x => decide (x < 128)) = true then some y.cps[0]? else none) = none := by rw [hl]; rfl
    dsimp only
    rw [hif]
    dsimp only
    refine wpAny_bind (wpAny_pure ?_)
    dsimp only
    refine wpAny_bind (wpAny_rule ?_)
    refine KFB.if_not rfl ?_
    refine wpAny_bind (tab_look (s := { s with toks := tk }) hm hd hh' (fun hf h' tk k => ?_) fun v hv' => ?_)
    · rw [hv] at hf; cases hf
    · rw [hv] at hv'; cases hv'
      refine ⟨y, ty, rfl, fun tk => ?_⟩
      dsimp only
      refine wpAny_pure ?_
      dsimp only
      rw [List.forIn_nil]
      refine wpAny_pure ?_
      dsimp only
      have hl2 : 0 + y.length = 2 := by show 0 + y.cps.size = 2; omega
      rw [hl2]
      refine KFB.if_not (by first | rfl | decide) ?_
      have hz : (List.foldl (fun (acc : Array Nat) (p : Str) => acc ++ p.cps) #[] [y].reverse).toList = y.cps.toList := by simp
      refine out (y := y) hz ?_ ⟨_, _, rfl, fun _ _ e => e⟩ fun tx h' tk k => hq _ h' tk tx hz k
      show (List.foldl (fun (acc : Array Nat) (p : Str) => acc ++ p.cps) #[] [y].reverse).size ≤ 2
      rw [← Array.length_toList, hz, Array.length_toList]; omega
end
end Mine
/-! ## NE -/
set_option autoImplicit false
set_option maxRecDepth 100000
namespace Mine
open PySem PySem.W PyProof.Rows PySem.Calls

section
variable {B : Base} {Γ : Gam} {K n : Nat} {Φ : Addr → Prop} {A : Around} {sc : Scope} {vars : Vars} {s : Shared} {adr : List Ent} {st : Sto} {d : D} {fa : Addr} {body : List Stmt} {bd : List D → List (Str × D) → Option Vars}

/-- a call whose body is walked by hand; the store stays -/
theorem call_hand (FA : FnAt B fa sc body bd) (us : List Value) (kus : List (Str × Value)) (ds : List D) (ks : List (Str × D)) (R : Room A (K + 2)) (tk : 0 ≤ s.toks) (i : B.Inv s.heap) (S : SR B Φ s.heap adr st) (ru : VRs B.T Φ B.Ins s.heap adr us ds) (rk : VRf B.T Φ B.Ins s.heap adr kus ks)
    (hb : bd ds ks = some vars) (hbo : bindsOk sc vars = true) (hso : scopeOk sc = true)
    (HB : ∀ (Φ₂ : Addr → Prop) (A : Around) (env : Env) (s : Shared), OK B Φ₂ env sc vars s adr st → Room A K → wpAny (model B.prog B.w) A (execs body env) (fun fl s' => ∃ u, fl = .ret u ∧ Post B Φ₂ s adr s' adr st ∧ VR B.T Φ₂ B.Ins s'.heap adr u d) NoE s) : Gives B Φ A (call (.ref fa) us kus) s adr st d := by
  obtain ⟨o, fd, ho, hd, h1, h2, h3, h4, h5, h6, hcd, h7⟩ := FA.fd
  subst h1
  refine wpAny_call (codeAny_call_function R.depth (ho _ i) hd FA.cor FA.gen h2 (h6 _ i) ?_)
  rw [h3, h4, h5]
  refine wpAny_mono (wpAny_toks_of tk (h7 _ _ s Φ adr st us kus ds ks vars i S ru rk hb (fun binds s₁ => ∃ h' tk', s₁ = { s with heap := h', toks := tk' } ∧ (∀ a o, s.heap.get? a = some o → h'.get? a = some o) ∧ VRf B.T Φ B.Ins h' adr binds vars) NoE fun binds h' tk' k r => ⟨h', tk', rfl, k, r⟩)) (fun binds s₁ ⟨tk₁, h', tk', hs, k, r⟩ => ?_) fun _ _ e => e.2.elim
  subst hs
  have i₁ : B.Inv h' := B.step _ _ i fun a o _ e => k a o e
  have S₁ : SR B Φ h' adr st := S.keep k
  refine wpAny_mono (wpAny_toks_of tk₁ (wpAny_newFunctionEnv_cells (E := NoE) (Q := fun env s₂ => env = callEnv' fd.scope h'.objs.size fd fa ∧
      InCallC { s with heap := h', toks := tk' } env.locals (bindL env.kindOf binds fun _ => none) env.cells (bindC env.kindOf binds fun _ => none) s₂) FA.kind (fun p hp => ?_) fun env he s' x => ⟨he, x⟩)) (fun env s₂ ⟨tk₂, he, x⟩ => ?_) fun _ _ e => e.2.elim
  · unfold bindsOk at hbo
    rw [Bool.and_eq_true] at hbo
    have hm : p.1 ∈ vars.map (·.1) := by rw [← r.names]; exact List.mem_map_of_mem hp
    obtain ⟨q, hq, hq'⟩ := List.mem_map.mp hm
    have := List.all_eq_true.mp hbo.2 q hq
    rw [hq'] at this
    rcases Bool.or_eq_true_iff.mp this with this | this
    · exact .inl (eq_of_beq this)
    · have hc : fd.scope.names.lookup p.1 = some .cell := eq_of_beq this
      refine .inr ⟨hc, ?_⟩
      obtain ⟨c, hc⟩ := cellsFrom_some (n := ({ s with heap := h', toks := tk' } : Shared).heap.objs.size + 1) (mem_of_lookup hc)
      rw [hc]; rfl
  · subst he
    obtain ⟨Φ₂, O₂, hΦ, hown⟩ := call_frame (st := st) hcd FA.kind hbo hso i₁ S₁ r x tk₂
    have keep := x.toInCall.keep
    obtain ⟨h₂, tk₂', hs₂, _⟩ := x.done
    refine ⟨B.nolim _ O₂.inv, codeAny_func ?_⟩
    have R₂ : Room (A.deeper (callEnv' fd.scope h'.objs.size fd fa)) K := (R.le (by omega : K + 1 ≤ K + 2)).deeper
    refine wpAny_mono (HB _ _ _ _ O₂ R₂) (fun fl s₃ ⟨u, hfl, P, rf⟩ => ?_) fun _ _ e => e.elim
    subst hfl
    have ex : Ex B.T s.heap adr s₃.heap adr := ((Ex.of_keep k).trans (.of_keep keep)).trans P.ex
    have hos : s₃.os = s.os := by rw [P.os, hs₂]
    have hge : s₃.gens = s.gens := by rw [P.gens, hs₂]
    exact ⟨adr, ⟨P.inv, P.sr.less hΦ, ex, hos, hge⟩, rf.re (fun _ _ _ t => .inl t) fun a _ _ p => .inr (hΦ a p)⟩

end
/-! escape: the signs that are special, by the table -/
def escKeys : List Nat := [40, 41, 91, 93, 123, 125, 63, 42, 43, 45, 124, 94, 36, 92, 46, 38, 126, 35, 32, 9, 10, 13, 11, 12]
def escC (c : Nat) : List Nat := if escKeys.contains c then [92, c] else [c]
def escFn : Fn := fun ds ks st => match ds, ks with
  | [.str [c]], [] => if c < 128 then some (.str (escC c), st) else none
  | _, _ => none
def escEntry (e : DictEntry) : Option Nat := match e.key, e.val with
  | .int i _, .str y _ => if e.hash == hashInt i && decide (0 ≤ i) && y.cps.toList == [92, i.toNat] then some i.toNat else none
  | _, _ => none
def escIn (K : Frag) (a : Addr) : Bool := match K.lookup a with
  | some ⟨.type "dict", none, .dict es _, sl⟩ => sl.isEmpty && es.toList.map escEntry == escKeys.map some && !(a == sysModules)
  | _ => false

theorem escEntry_of {e : DictEntry} {c : Nat} (h : escEntry e = some c) : ∃ t y u, e.key = .int c t ∧ e.val = .str y u ∧ y.cps.toList = [92, c] ∧ e.hash = hashInt c := by
  unfold escEntry at h
  split at h
  · rename_i i t y u h1 h2
    split at h
    · rename_i hc
      cases h
      simp only [Bool.and_eq_true, beq_iff_eq, decide_eq_true_eq] at hc
      have e : ((i.toNat : Nat) : Int) = i := Int.toNat_of_nonneg hc.1.2
      exact ⟨t, y, u, by rw [e]; exact h1, h2, hc.2, by rw [e]; exact hc.1.1⟩
    · cases h
  · cases h

theorem escMap {prog : Program} {w : World} {h : Heap} {K : Frag} {a : Addr} (X : K.In h) (e : escIn K a = true) : (a == sysModules) = false ∧ ∃ f, h.MapOf (intKind prog w) a f ∧ ∀ c : Nat, (escKeys.contains c = false → f c = none) ∧ (escKeys.contains c = true → ∃ y u, f c = some (.str y u) ∧ y.cps.toList = [92, c]) := by
  unfold escIn at e
  split at e
  · rename_i es ep sl ho
    simp only [Bool.and_eq_true, beq_iff_eq] at e
    obtain ⟨⟨e1, e2⟩, e3⟩ := e
    have e3 : (a == sysModules) = false := by simpa using e3
    have hall : ∀ x ∈ es.toList, ∃ c ∈ escKeys, escEntry x = some c := fun x hx => by
      have : escEntry x ∈ escKeys.map some := e2 ▸ List.mem_map_of_mem hx
      obtain ⟨c, hc, q⟩ := List.mem_map.mp this
      exact ⟨c, hc, q.symm⟩
    refine ⟨e3, fun k => findBy Value.isInt es k, ⟨_, es, ep, X _ _ ho, ⟨rfl, rfl, by simpa using e1⟩, rfl, fun x hx => ?_, fun _ => rfl⟩, fun c => ⟨fun hc => ?_, fun hc => ?_⟩⟩
    · obtain ⟨c, _, q⟩ := hall x (by simpa using hx)
      obtain ⟨t, y, u, q1, q2, q3, q4⟩ := escEntry_of q
      exact ⟨(c : Int), by rw [q1]; exact intKind_is _ _ _ _, q4⟩
    · show findBy Value.isInt es (c : Int) = none
      unfold findBy
      rw [Option.map_eq_none_iff, Array.find?_eq_none]
      intro x hx hk
      obtain ⟨c', hc', q⟩ := hall x (by simpa using hx)
      obtain ⟨t, y, u, q1, q2, q3, q4⟩ := escEntry_of q
      obtain ⟨t', q5⟩ := Value.isInt_shape hk
      rw [q1] at q5
      have : c' = c := by injection q5 with q5; exact Int.ofNat.inj q5
      subst this
      have : escKeys.contains c' = true := by simpa using hc'
      rw [this] at hc; cases hc
    · show ∃ y u, findBy Value.isInt es (c : Int) = some (.str y u) ∧ _
      have hm : some c ∈ es.toList.map escEntry := by rw [e2]; exact List.mem_map_of_mem (by simpa using hc)
      obtain ⟨x, hx, q⟩ := List.mem_map.mp hm
      obtain ⟨t, y, u, q1, q2, q3, q4⟩ := escEntry_of q
      unfold findBy
      cases hf : es.find? (fun e => Value.isInt (c : Int) e.key) with
      | none =>
        rw [Array.find?_eq_none] at hf
        have := hf x (by simpa using hx)
        rw [q1] at this
        exact absurd (by simp [Value.isInt]) this
      | some x' =>
        have h1 := Array.mem_of_find?_eq_some hf
        have h2 := Array.find?_some hf
        obtain ⟨c', hc', q'⟩ := hall x' (by simpa using h1)
        obtain ⟨t', y', u', p1, p2, p3, p4⟩ := escEntry_of q'
        obtain ⟨t'', q5⟩ := Value.isInt_shape h2
        rw [p1] at q5
        have : c' = c := by injection q5 with q5; exact Int.ofNat.inj q5
        subst this
        exact ⟨y', u', by rw [Option.map_some, p2], p3⟩
  · cases e

theorem gm_translate {M : Model} {A : Around} {E : Value → Shared → Prop} {s : Shared} {x : Str} {t : Tok} {pl : Sem Bool} {Q : Value × List Value → Shared → Prop} (h : Q (.builtin "str.translate", [.str x t]) s) : wpAny M A (getMethod (.str x t) "translate" pl) Q E s := by
  with_reducible exact GM.of (.str x t) (typeIs_str _ _ _) F.slot_str_translate F.type_str_translate GM.noRef h
theorem bb_isinstance : bootBuiltins ("isinstance" : Str) = some (.builtin "isinstance") := by kernel_rfl
section
variable {B : Base} {K : Frag} {k : Nat} {fa a : Addr} {sc : Scope} {p1 p2 p3 p4 q1 q2 q3 q4 q5 q6 : Pos} {els : List Stmt}
theorem escape_ok (hK : ∀ h, B.Inv h → K.In h) (FA : FnAt B fa sc [.If (.Call (.Name "isinstance" p1) [.Name "pattern" p2, .Name "str" p3] [] p4) [.Return (some (.Call (.Attribute (.Name "pattern" q1) "translate" q2) [.Name "_special_chars_map" q3] [] q4)) q5] els q6] (bdPos ["pattern"]))
    (hm : B.mg "_special_chars_map" = some (.ref a)) (he : escIn K a = true) (h1 : B.mg "isinstance" = none) (h2 : B.mg "str" = none) (hs : scopeOk sc = true)
    (k1 : kindOf sc "pattern" = some .local) (k2 : kindOf sc "isinstance" = some .globalImplicit) (k3 : kindOf sc "str" = some .globalImplicit) (k4 : kindOf sc "_special_chars_map" = some .globalImplicit) (hcall : callOk (.Name "pattern" q1) q2 q4 1 = true) : FnOk B (k + 2) escFn (.ref fa) := by
  intro Φ A s adr st us kus ds ks d st' e R tk i S ru rk
  unfold escFn at e
  split at e
  · rename_i c
    split at e
    · rename_i hc
      cases e
      refine call_hand FA us kus _ _ R tk i S ru rk (vars := [("pattern", .str [c])]) rfl ?_ hs fun Φ₂ A env s O R => ?_
      · unfold bindsOk
        simp [k1]
      · refine wpAny_execs_cons (wpAny_If (isTrue_plain (wpAny_Call_Name_kw (builtin_name O k2 (by decide) h1 bb_isinstance (by decide) ?_))))
        obtain ⟨u, r, hu⟩ := load_ok (M := model B.prog B.w) (A := A) (pos := p2) O.fr (.inl k1) (d := .str [c]) rfl (by decide) (by decide)
        have hsL : starEach [.Name "pattern" p2, .Name "str" p3] env = [(false, eval (.Name "pattern" p2) env), (false, eval (.Name "str" p3) env)] := rfl
        rw [hsL]
        refine callWith_ok rfl rfl ?_
        refine spliced_cons (x := eval (.Name "pattern" p2) env) (hu _ _ (spliced_cons (x := eval (.Name "str" p3) env) (builtin_name O k3 (by decide) h2 bb_str (by decide) (spliced_nil ?_))))
        have hnil : evalAll (List.map (fun x => x.2) (backToKw p4 (keywordEach [] env))) = pure [] := rfl
        rw [hnil]
        refine wpAny_pure (And.intro (keep_builtin _) ?_)
        cases r with
        | str x tx _ e1 l1 c1 =>
        refine IsiPair.str_str (wpAny_truthy_bool ?_)
        rw [if_pos rfl]
        refine wpAny_execs_cons (wpAny_Return_some ?_)
        obtain ⟨u, r, hu⟩ := load_ok (M := model B.prog B.w) (A := A) (pos := q1) O.fr (.inl k1) (d := .str [c]) rfl (by decide) (by decide)
        have hsL : starEach [.Name "_special_chars_map" q3] env = [(false, eval (.Name "_special_chars_map" q3) env)] := rfl
        refine methodCall_ok hcall (by rw [hsL]; rfl) rfl (hu _ _ fun pl => ?_)
        cases r with
        | str x tx _ e1 l1 c1 =>
        refine gm_translate ?_
        rw [hsL]
        refine callWith_ok rfl rfl ?_
        refine spliced_cons (x := eval (.Name "_special_chars_map" q3) env) (global_ok O k4 (by decide) hm (spliced_nil ?_))
        have hnil : evalAll (List.map (fun x => x.2) (backToKw q4 (keywordEach [] env))) = pure [] := rfl
        rw [hnil]
        refine wpAny_pure (And.intro (keep_builtin _) ?_)
        obtain ⟨hsys, f, hf, hcs⟩ := escMap (prog := B.prog) (w := B.w) (hK _ O.inv) he
        have fin : ∀ (y : Str) h' tk ty, y.cps.toList = escC c → (∀ a o, s.heap.get? a = some o → h'.get? a = some o) → ∃ u, (Flow.ret (.str y ty) : Flow) = .ret u ∧ Post B Φ₂ s adr { s with heap := h', toks := tk } adr st ∧ VR B.T Φ₂ B.Ins h' adr u (.str (escC c)) := fun y h' tk ty ey k =>
          ⟨_, rfl, Post.keep O.inv O.sr k tk, .str _ _ _ ey (by unfold escC LIM; split <;> simp) (by unfold escC ascii; split <;> simp [hc])⟩
        refine translate_call e1 hc hsys R.h hf (fun hn y h' tk ty ey k => fin y h' tk ty ?_ k) fun v hv => ?_
        · rw [ey]; unfold escC
          cases hcc : escKeys.contains c with
          | true =>
            obtain ⟨y, u, q, _⟩ := (hcs c).2 hcc
            rw [hn] at q; cases q
          | false => rfl
        · cases hcc : escKeys.contains c with
          | false =>
            have := (hcs c).1 hcc
            rw [hv] at this; cases this
          | true =>
            obtain ⟨y, u, q, q'⟩ := (hcs c).2 hcc
            rw [hv] at q; cases q
            have q' : y.cps.toList = escC c := by rw [q']; unfold escC; rw [hcc]; rfl
            exact ⟨y, u, rfl, by rw [← Array.length_toList, q']; unfold escC; rw [hcc]; rfl, fun z h' tk tz ez k => fin z h' tk tz (ez.trans q') k⟩
    · cases e
  · cases e
end
end Mine
/-! ## NF -/
set_option autoImplicit false
set_option maxRecDepth 100000
namespace Mine
open PySem PySem.W PyProof.Rows PySem.Calls

def gAdr (K : Frag) (f : Str) : Addr := match nsIn K mainGlobals f with
  | some (some (.ref a)) => a
  | _ => 0
def gRef (K : Frag) (f : Str) : Bool := match nsIn K mainGlobals f with
  | some (some (.ref a)) => a == gAdr K f
  | _ => false
def gNone (K : Frag) (f : Str) : Bool := match nsIn K mainGlobals f with
  | some none => true
  | _ => false
def mAdr (K : Frag) (m : Str) : Addr := match findIn K (.ref (gAdr K "Headers")) m with
  | some (some (.ref a)) => a
  | _ => 0
def fData (K : Frag) (a : Addr) : FuncData := (fnIn K a).getD default
def fPlain (K : Frag) (fd : FuncData) : Bool := fd.closure.isEmpty && fd.globals == mainGlobals && fd.builtins == builtinsNs && codeIn K fd.code fd.qualname &&
  (match fd.scope.kind with | .function => true | _ => false) && !fd.scope.isGenerator && !fd.scope.isCoroutine
def fGood (K : Frag) (a : Addr) : Bool := (fnIn K a).isSome && fPlain K (fData K a)

/-- the base and what is written out of the heap -/
structure Ctx (B : Base) (K : Frag) : Prop where
  hK : ∀ h, B.Inv h → K.In h
  hI : B.Ins = InsH (gAdr K "Headers") "Headers" "_headers"
  mg : ∀ x v, nsIn K mainGlobals x = some v → B.mg x = v
  code : ∀ v, B.Code v
  old : ∀ a o, K.lookup a = some o → B.old a ∧ ¬ B.T a

section
variable {B : Base} {K : Frag} {f : Str} {a : Addr} {bd : List D → List (Str × D) → Option Vars} {Γ : Gam} {k n : Nat} {sc : Scope} {body : List Stmt}
theorem Ctx.ref (X : Ctx B K) (h : gRef K f = true) : B.mg f = some (.ref (gAdr K f)) := by
  unfold gRef at h
  split at h
  · rename_i a ha
    rw [← eq_of_beq h]
    exact X.mg _ _ ha
  · cases h
theorem Ctx.none (X : Ctx B K) (h : gNone K f = true) : B.mg f = none := by
  unfold gNone at h
  split at h
  · rename_i ha; exact X.mg _ _ ha
  · cases h
theorem fGood_of (h : fGood K a = true) : ∃ oc od sl, K.lookup a = some ⟨oc, od, .func (fData K a), sl⟩ := by
  unfold fGood at h
  rw [Bool.and_eq_true] at h
  obtain ⟨h, _⟩ := h
  unfold fData
  cases hf : fnIn K a with
  | none => rw [hf] at h; cases h
  | some fd =>
    unfold fnIn at hf
    split at hf
    · rename_i oc od fd' sl ho
      cases hf
      exact ⟨oc, od, sl, ho⟩
    · cases hf
theorem fGood_fn (h : fGood K a = true) : fnIn K a = some (fData K a) := by
  unfold fGood at h
  rw [Bool.and_eq_true] at h
  obtain ⟨h, _⟩ := h
  unfold fData
  cases hf : fnIn K a with
  | none => rw [hf] at h; cases h
  | some fd => rfl
theorem Ctx.isFn (X : Ctx B K) (h : fGood K a = true) : IsFn B a := IsFn.of_func fun h' i => by
  obtain ⟨oc, od, sl, ho⟩ := fGood_of h
  exact ⟨_, _, X.hK _ i _ _ ho, rfl⟩
theorem fnAt0 (hK : ∀ h, B.Inv h → K.In h) (hc : B.Code (fData K a).code) (h : fGood K a = true) (h1 : (fData K a).scope = sc) (h2 : (fData K a).body = .stmts body) (hb : BindOk B (fData K a) bd) : FnAt B a sc body bd := by
  have hp := h
  unfold fGood fPlain at hp
  simp only [Bool.and_eq_true] at hp
  obtain ⟨_, ⟨⟨⟨⟨⟨p1, p2⟩, p3⟩, p4⟩, p5⟩, p6⟩, p7⟩ := hp
  subst h1
  refine fnAt_B hK (fGood_fn h) rfl h2 (List.isEmpty_iff.mp p1) (eq_of_beq p2) (eq_of_beq p3) p4 hc hb ?_ (by simpa using p6) (by simpa using p7)
  cases hk : (fData K a).scope.kind <;> rw [hk] at p5 <;> first | rfl | cases p5
theorem Ctx.fnAt (X : Ctx B K) (h : fGood K a = true) (h1 : (fData K a).scope = sc) (h2 : (fData K a).body = .stmts body) (hb : BindOk B (fData K a) bd) : FnAt B a sc body bd := fnAt0 X.hK (X.code _) h h1 h2 hb
theorem Ctx.fnPure (X : Ctx B K) (hr : gRef K f = true) (h : fGood K (gAdr K f) = true) (h1 : (fData K (gAdr K f)).scope = sc) (h2 : (fData K (gAdr K f)).body = .stmts body) (hb : BindOk B (fData K (gAdr K f)) bd) (G : GamOk B Γ k) (GS : SubOk B Γ k) :
    FnT B (k + n + 2) f (fnPure n Γ sc body bd) :=
  ⟨_, X.ref hr, X.isFn h, fnPure_ok (run_of_exec (exec_ok G GS n)) (X.fnAt h h1 h2 hb)⟩
theorem Ctx.fnSt (X : Ctx B K) (hr : gRef K f = true) (h : fGood K (gAdr K f) = true) (h1 : (fData K (gAdr K f)).scope = sc) (h2 : (fData K (gAdr K f)).body = .stmts body) (hb : BindOk B (fData K (gAdr K f)) bd) (G : GamOk B Γ k) (GS : SubOk B Γ k) :
    FnT B (k + n + 2) f (fnSt n Γ sc body bd) :=
  ⟨_, X.ref hr, X.isFn h, fnSt_ok (run_of_exec (exec_ok G GS n)) (X.fnAt h h1 h2 hb)⟩
/-- without a pattern's sub -/
theorem noSub (h : Γ.res = []) : SubOk B Γ k := fun Φ A env sc v o m apos pos args kws r x s adr st st₁ l _ _ hres => by
  rw [h] at hres; cases hres

def mGood (K : Frag) (m : Str) : Bool := (match findIn K (.ref (gAdr K "Headers")) m with | some (some (.ref a)) => a == mAdr K m | _ => false) && plainGet K (gAdr K "Headers") m && isFn K (.ref (mAdr K m)) && fGood K (mAdr K m) && !(m == ("_headers" : Str))
theorem Ctx.meth (X : Ctx B K) {m : Str} {F : Fn} (h : mGood K m = true) (hF : FnOk B k F (.ref (mAdr K m))) : MethT B k "Headers" m F := by
  unfold mGood at h
  simp only [Bool.and_eq_true] at h
  obtain ⟨⟨⟨⟨h1, h2⟩, h3⟩, h4⟩, h5⟩ := h
  split at h1
  · rename_i a ha
    have := eq_of_beq h1
    subst this
    exact ⟨_, X.isFn h4, hF, meth_K X.hK X.hI h2 ha h3 (by simpa using h5)⟩
  · cases h1
theorem mGood_fn {m : Str} (h : mGood K m = true) : fGood K (mAdr K m) = true := by
  unfold mGood at h
  simp only [Bool.and_eq_true] at h
  exact h.1.2
theorem Ctx.methSt (X : Ctx B K) {m : Str} (h : mGood K m = true) (h1 : (fData K (mAdr K m)).scope = sc) (h2 : (fData K (mAdr K m)).body = .stmts body) (hb : BindOk B (fData K (mAdr K m)) bd) (G : GamOk B Γ k) (GS : SubOk B Γ k) :
    MethT B (k + n + 2) "Headers" m (Mine.fnSt n Γ sc body bd) :=
  X.meth h (fnSt_ok (run_of_exec (exec_ok G GS n)) (X.fnAt (mGood_fn h) h1 h2 hb))

def hGood (K : Frag) : Bool := plainGet K (gAdr K "Headers") "_headers" && hasDictIn K (gAdr K "Headers") && (match findIn K (.ref (gAdr K "Headers")) "_headers" with | some none => true | _ => false)
theorem Ctx.attr (X : Ctx B K) (h : hGood K = true) : AttrT B := by
  unfold hGood at h
  simp only [Bool.and_eq_true] at h
  obtain ⟨⟨h1, h2⟩, h3⟩ := h
  split at h3
  · rename_i ha
    exact attr_K X.hK X.hI h1 h2 Option.none ha rfl
  · cases h3

/-! data that is written out -/
mutual
def readD (K : Frag) : Nat → Value → D → Bool
  | _, .none, .none => true
  | _, .bool a, .bool b => a == b
  | _, .int i _, .int j => i == j
  | _, .str s _, .str l => s.cps.toList == l && decide (l.length ≤ LIM) && ascii l
  | n + 1, .ref a, .tup ds => (match K.lookup a with
    | some ⟨.type "tuple", none, .seq items _, sl⟩ => sl.isEmpty && readL K n items.toList ds && decide (ds.length ≤ LIM)
    | _ => false)
  | _, .ref a, .pat k => (match K.lookup a with
    | some ⟨.type "re.Pattern", none, .fields fs, sl⟩ => sl.isEmpty && (match fs.toList with
      | [.str _ _, .int i _, .int g t, .none, .none, .ref ca, .int j u] => i == 32 && t == 0 && j == 0 && u == 0 && (decide (2 ≤ k) || g == 0) && (match K.lookup ca with
        | some ⟨.type "tuple", none, .seq items _, sl⟩ => sl.isEmpty && ((items.map Builtin.Re.reRawOf).map (·.toNat)).toList == (patCode k).toList
        | _ => false)
      | _ => false)
    | _ => false)
  | _, _, _ => false
def readL (K : Frag) : Nat → List Value → List D → Bool
  | _, [], [] => true
  | n + 1, v :: vs, d :: ds => readD K n v d && readL K n vs ds
  | _, _, _ => false
end

theorem Ctx.fz (X : Ctx B K) {o : Obj} {Φ : Addr → Prop} {h : Heap} {adr : List Ent} {st : Sto} (S : SR B Φ h adr st) (e : K.lookup a = some o) : Fz B.T Φ adr a :=
  ⟨(X.old a o e).2, fun p => S.phiO a p (X.old a o e).1, fun m => (S.out a m).1 (X.old a o e).1⟩

mutual
theorem readD_ok (X : Ctx B K) {Φ : Addr → Prop} {h : Heap} {adr : List Ent} {st : Sto} (i : B.Inv h) (S : SR B Φ h adr st) : ∀ (n : Nat) (v : Value) (d : D), readD K n v d = true → VR B.T Φ B.Ins h adr v d
  | n, v, d, e => by
    unfold readD at e
    split at e
    · exact .none
    · rw [eq_of_beq e]; exact .bool _
    · rw [eq_of_beq e]; exact .int _ _
    · simp only [Bool.and_eq_true, decide_eq_true_eq] at e
      exact .str _ _ _ (eq_of_beq e.1.1) e.1.2 e.2
    · rename_i n a ds
      split at e
      · rename_i items m sl ho
        simp only [Bool.and_eq_true, decide_eq_true_eq] at e
        obtain ⟨⟨e1, e2⟩, e3⟩ := e
        have hsl : sl = #[] := by simpa using e1
        subst hsl
        have hi : items = items.toList.toArray := by simp
        refine .tup (vs := items.toList) (n := m) ?_ (X.fz S ho) (readL_ok X i S _ _ _ e2) e3
        rw [X.hK _ i _ _ ho]
        simp [tupO]
      · cases e
    · rename_i a k
      split at e
      · rename_i fs sl ho
        simp only [Bool.and_eq_true] at e
        obtain ⟨e1, e2⟩ := e
        have hsl : sl = #[] := by simpa using e1
        subst hsl
        split at e2
        · rename_i p t i32 u g t0 ca j u0 hfs
          simp only [Bool.and_eq_true] at e2
          obtain ⟨⟨⟨⟨⟨q1, q2⟩, q3⟩, q4⟩, q5⟩, q6⟩ := e2
          split at q6
          · rename_i items m sl' hc
            simp only [Bool.and_eq_true] at q6
            obtain ⟨q7, q8⟩ := q6
            have hsl : sl' = #[] := by simpa using q7
            subst hsl
            have hfs' : fs = #[.str p t, .int 32 u, .int g 0, .none, .none, .ref ca, .int 0 0] := by
              rw [← Array.toList_inj, hfs, eq_of_beq q1, eq_of_beq q2, eq_of_beq q3, eq_of_beq q4]
            subst hfs'
            refine .pat (X.hK _ i _ _ ho) (X.hK _ i _ _ hc) (X.fz S ho) (X.fz S hc) (Array.toList_inj.mp (eq_of_beq q8)) fun hk => ?_
            rcases Bool.or_eq_true_iff.mp q5 with q | q
            · have := of_decide_eq_true q; omega
            · exact eq_of_beq q
          · cases q6
        · cases e2
      · cases e
    · cases e
theorem readL_ok (X : Ctx B K) {Φ : Addr → Prop} {h : Heap} {adr : List Ent} {st : Sto} (i : B.Inv h) (S : SR B Φ h adr st) : ∀ (n : Nat) (v : List Value) (d : List D), readL K n v d = true → VRs B.T Φ B.Ins h adr v d
  | n, v, d, e => by
    unfold readL at e
    split at e
    · exact .nil
    · rw [Bool.and_eq_true] at e
      exact .cons (readD_ok X i S _ _ _ e.1) (readL_ok X i S _ _ _ e.2)
    · cases e
end
def gCon (K : Frag) (f : Str) (d : D) : Bool := match nsIn K mainGlobals f with
  | some (some v) => readD K 40 v d
  | _ => false
theorem Ctx.con (X : Ctx B K) {d : D} (h : gCon K f d = true) : ConT B f d := by
  unfold gCon at h
  split at h
  · rename_i v hv
    exact ⟨v, X.mg _ _ hv, fun Φ h' adr st i S => readD_ok X i S _ _ _ h⟩
  · cases h

theorem mg_all {h : Heap} {mg : Str → Option Value} {x : Str} {v : Option Value} (X : K.In h) (G : h.Ns mainGlobals mg) (e : nsIn K mainGlobals x = some v) : mg x = v := by
  obtain ⟨o, es, ep, ho, hd, _, hf⟩ := G
  unfold nsIn at e
  split at e
  · rename_i c d es' n' sl q
    have := X _ _ q
    rw [ho] at this
    cases this
    cases hd
    have hx := hf x
    unfold nsFind findBy at hx
    rw [← Array.find?_toList] at hx
    rw [← hx]
    split at e
    · rename_i en he; cases e; rw [he]; rfl
    · rename_i he
      rw [he]
      split at e
      · cases e
      · cases e; rfl
  · cases e
end
end Mine
/-! ## NG -/
set_option autoImplicit false
set_option maxRecDepth 100000
namespace Mine
open PySem PySem.W PyProof.Rows PySem.Calls

section
variable {prog : Program} {w : World} {mg mb : Str → Option Value} {s₁ : Shared} {tabs : List Addr} {hg : s₁.heap.Ns mainGlobals mg} {hb : s₁.heap.Ns builtinsNs mb} {hbb : ∀ x : Str, x ≠ "__name__" → mb x = bootBuiltins x} {hn : s₁.heap.NoLimit}
  {ht : ∀ P ∈ tabs, s₁.heap.get? P = some (tabObj #[])} {h3 : mainGlobals ∉ tabs} {h0 : builtinsNs ∉ tabs} {h2 : cStatics ∉ tabs} {K : Frag}

/-- what is written out is no table of code -/
theorem K_notab (X : K.In s₁.heap) (hK : noTabs K = true) (ht : ∀ P ∈ tabs, s₁.heap.get? P = some (tabObj #[])) {a : Addr} {o : Obj} (e : K.lookup a = some o) : a ∉ tabs := fun m => by
  have e1 := X a o e
  rw [ht a m] at e1
  cases e1
  have h2 := List.all_eq_true.mp hK _ (mem_of_lookupK e)
  exact absurd (show false = true from h2) Bool.false_ne_true

theorem ctx_of (X : K.In s₁.heap) (hK : noTabs K = true) : Ctx (baseOf prog w mg mb s₁.heap tabs (gAdr K "Headers") "Headers" "_headers" hg hb hbb hn ht h3 h0 h2) K where
  hK _ i a o e := i.1 a o (X a o e) (K_notab X hK ht e)
  hI := rfl
  mg _ _ e := mg_all X hg e
  code _ := trivial
  old a o e := ⟨⟨o, X a o e⟩, K_notab X hK ht e⟩

/-- a lambda may be made in the def `f` -/
def lamGood (K : Frag) (tabs : List Addr) (f : Str) : Bool := match tabIn K f with
  | some (c, P) => tabs.contains P && codeHdIn K c P && (match (fData K (gAdr K f)).code with | .ref c' => c' == c | _ => false)
  | none => false
theorem lamOk_of (X : K.In s₁.heap) (hK : noTabs K = true) {f : Str} (hl : lamGood K tabs f = true) (bm : ∃ bm ob, mg "__builtins__" = some (.ref bm) ∧ bm ≠ builtinsNs ∧ s₁.heap.get? bm = some ob ∧ ob.cls = .type "module" ∧ ob.dict = some builtinsNs ∧ ob.data = .plain) :
    LamOk ((baseOf prog w mg mb s₁.heap tabs (gAdr K "Headers") "Headers" "_headers" hg hb hbb hn ht h3 h0 h2).withCode fun v => v = (fData K (gAdr K f)).code) := by
  intro h cv i hcv
  unfold lamGood at hl
  split at hl
  · rename_i c P hcP
    simp only [Bool.and_eq_true] at hl
    obtain ⟨⟨l1, l2⟩, l3⟩ := hl
    have l1 : P ∈ tabs := by simpa using l1
    have hc : cv = .ref c := by
      have hcv : cv = (fData K (gAdr K f)).code := hcv
      rw [hcv]
      split at l3
      · rename_i c' hc'
        rw [hc', eq_of_beq l3]
      · cases l3
    have i0 : (∀ a o, s₁.heap.get? a = some o → a ∉ tabs → h.get? a = some o) ∧ ∀ P ∈ tabs, ∃ vs, h.get? P = some (tabObj vs) ∧ TriplesOk vs.toList := i
    have XK : K.In h := fun a o e => i0.1 a o (X a o e) (K_notab X hK ht e)
    obtain ⟨ps, hP, hT⟩ := i0.2 P l1
    obtain ⟨bm, ob, b1, b2, b3, b4, b5, b6⟩ := bm
    have b7 : bm ∉ tabs := fun m => by
      rw [ht bm m] at b3; cases b3; cases b4
    have b8 : bm ≠ mainGlobals := fun q => by
      obtain ⟨o, es, ep, e, hd, _⟩ := hg
      rw [q, e] at b3; cases b3; rw [hd] at b6; cases b6
    refine ⟨c, P, ps, hc, l1, codeHd_of_K XK l2, hP, hT, fun q => h3 (q ▸ l1), ⟨bm, ob, b1, b2, b8, fun q => b7 (q ▸ l1), i0.1 _ _ b3 b7, b4, b5, b6⟩, fun h' ps' hx hp' ht' => ?_⟩
    refine ⟨fun a o e ha => hx a o (fun q => ha (q ▸ l1)) (i0.1 a o e ha), fun P' hP' => ?_⟩
    by_cases q : P' = P
    · subst q; exact ⟨ps', hp', ht'⟩
    · obtain ⟨vs, e, q'⟩ := i0.2 P' hP'
      exact ⟨vs, hx P' _ q e, q'⟩
  · cases hl

theorem Ctx.to {B : Base} {f : Str} {bd : List D → List (Str × D) → Option Vars} {Γ : Gam} {k n : Nat} {sc : Scope} {body : List Stmt} (X : Ctx B K) (L : LamOk (B.withCode fun v => v = (fData K (gAdr K f)).code)) (hres : ∀ r ∈ Γ.res, plainName r = true ∧ ConT B r (.pat 2))
    (hr : gRef K f = true) (h : fGood K (gAdr K f) = true) (h1 : (fData K (gAdr K f)).scope = sc) (h2 : (fData K (gAdr K f)).body = .stmts body) (hb : BindOk B (fData K (gAdr K f)) bd) (G : GamOk B Γ k) :
    FnT B (k + n + 2) f (Mine.fnSt n Γ sc body bd) := by
  have hres' : ∀ r ∈ Γ.res, plainName r = true ∧ ConT (B.withCode fun v => v = (fData K (gAdr K f)).code) r (.pat 2) := fun r hr => by
    obtain ⟨p, v, q1, q2⟩ := hres r hr
    exact ⟨p, v, q1, fun Φ h adr st i S => q2 Φ h adr st i S.un⟩
  have hb' : BindOk (B.withCode fun v => v = (fData K (gAdr K f)).code) (fData K (gAdr K f)) bd := fun M A s Φ adr st us kus ds ks vars i S ru rk e Q E hq => hb M A s Φ adr st us kus ds ks vars i S.un ru rk e Q E hq
  have FA' : FnAt (B.withCode fun v => v = (fData K (gAdr K f)).code) (gAdr K f) sc body bd := fnAt0 X.hK rfl h h1 h2 hb'
  exact ⟨_, X.ref hr, X.isFn h, (fnSt_ok (run_of_exec (exec_ok G.to (subOk_of L hres') n)) FA').un⟩
end
end Mine
/-! ## NH -/
set_option autoImplicit false
set_option maxRecDepth 100000
namespace Mine
open PySem PySem.W PyProof.Rows PySem.Calls

section
variable {B : Base} {K : Frag} {fd : FuncData} {names : List Str}
theorem bind_pos (h7 : ∀ us : List Value, us.length = names.length → bindArgs fd ⟨us, []⟩ = pure (names.zip us)) : BindOk B fd (bdPos names) := by
  intro M A s Φ adr st us kus ds ks vars i S ru rk hb Q E h
  unfold bdPos at hb
  split at hb
  · rename_i hc
    cases hb
    rw [Bool.and_eq_true, beq_iff_eq] at hc
    have hks : ks = [] := List.isEmpty_iff.mp hc.1
    subst hks
    cases rk
    rw [h7 us (by rw [ru.length, hc.2])]
    exact wpAny_pure (h _ s.heap s.toks (fun _ _ e => e) (VRf.zip ru))
  · cases hb
theorem len1 {us : List Value} (h : us.length = 1) : ∃ a, us = [a] := by
  match us, h with
  | [a], _ => exact ⟨a, rfl⟩
theorem len2 {us : List Value} (h : us.length = 2) : ∃ a b, us = [a, b] := by
  match us, h with
  | [a, b], _ => exact ⟨a, b, rfl⟩
theorem len3 {us : List Value} (h : us.length = 3) : ∃ a b c, us = [a, b, c] := by
  match us, h with
  | [a, b, c], _ => exact ⟨a, b, c, rfl⟩

/-- a def with one default -/
def defParams (fd : FuncData) (names : List Str) : Bool := fd.params.posonlyargs.isEmpty && (fd.params.args.map (·.arg) == names) && fd.params.vararg.isNone && fd.params.kwonlyargs.isEmpty && fd.params.kwarg.isNone
theorem defParams_of (h : defParams fd names = true) : fd.params.posonlyargs = [] ∧ fd.params.args.map (·.arg) = names ∧ fd.params.vararg = none ∧ fd.params.kwonlyargs = [] ∧ fd.params.kwarg = none := by
  unfold defParams at h
  simp only [Bool.and_eq_true] at h
  obtain ⟨⟨⟨⟨h1, h2⟩, h3⟩, h4⟩, h5⟩ := h
  exact ⟨List.isEmpty_iff.mp h1, eq_of_beq h2, by simpa using h3, List.isEmpty_iff.mp h4, by simpa using h5⟩
theorem binds_get (hp : defParams fd ["self", "name", "default"] = true) (a b : Value) : ∃ G, bindArgs fd ⟨[a, b], []⟩ = seqItems? fd.defaults >>= G ∧ G (some #[.none]) = pure [((("self" : Str)), a), ((("name" : Str)), b), ((("default" : Str)), Value.none)] := by
  obtain ⟨h1, h2, h3, h4, h5⟩ := defParams_of hp
  unfold bindArgs
  simp only [h1, h2, h3, h4, h5]
  exact ⟨_, rfl, rfl⟩
theorem binds_init (hp : defParams fd ["self", "headers"] = true) (a : Value) : ∃ G, bindArgs fd ⟨[a], []⟩ = seqItems? fd.defaults >>= G ∧ G (some #[.none]) = pure [((("self" : Str)), a), ((("headers" : Str)), Value.none)] := by
  obtain ⟨h1, h2, h3, h4, h5⟩ := defParams_of hp
  unfold bindArgs
  simp only [h1, h2, h3, h4, h5]
  exact ⟨_, rfl, rfl⟩
theorem none_items (hn : noneIn K fd.defaults = true) {M : Model} {A : Around} {s : Shared} {Q : Option (Array Value) → Shared → Prop} {E : Value → Shared → Prop} (i : K.In s.heap) (h : Q (some #[.none]) s) : wpAny M A (seqItems? fd.defaults) Q E s := by
  unfold noneIn at hn
  split at hn
  · rename_i a ha
    split at hn
    · rename_i oc od items n sl ho
      have hi : items = #[.none] := Array.toList_inj.mp (eq_of_beq hn)
      subst hi
      rw [ha]
      exact wpAny_seqItems (i _ _ ho) rfl h
    · cases hn
  · cases hn
theorem bind_get (hK : ∀ h, B.Inv h → K.In h) (hn : noneIn K fd.defaults = true) (hp : defParams fd ["self", "name", "default"] = true) : BindOk B fd (bdDef ["self", "name"] "default") := by
  intro M A s Φ adr st us kus ds ks vars i S ru rk hb Q E h
  unfold bdDef at hb
  split at hb
  · rename_i hc
    cases hb
    rw [Bool.and_eq_true, beq_iff_eq] at hc
    have hks : ks = [] := List.isEmpty_iff.mp hc.1
    subst hks
    cases rk
    obtain ⟨a, b, rfl⟩ := len2 (show us.length = 2 by rw [ru.length]; exact hc.2)
    obtain ⟨G, g1, g2⟩ := binds_get hp a b
    rw [g1]
    refine wpAny_bind (none_items hn (hK _ i) ?_)
    rw [g2]
    exact wpAny_pure (h _ s.heap s.toks (fun _ _ e => e) (VRf.zipd (names := ["self", "name"]) .none ru))
  · cases hb
theorem bind_init (hK : ∀ h, B.Inv h → K.In h) (hn : noneIn K fd.defaults = true) (hp : defParams fd ["self", "headers"] = true) (M : Model) (A : Around) (s : Shared) (u : Value) (Q : List (Str × Value) → Shared → Prop) (E : Value → Shared → Prop) (X : K.In s.heap) (h : Q [("self", u), ("headers", .none)] s) : wpAny M A (bindArgs fd ⟨[u], []⟩) Q E s := by
  obtain ⟨G, g1, g2⟩ := binds_init hp u
  rw [g1]
  refine wpAny_bind (none_items hn X ?_)
  rw [g2]
  exact wpAny_pure h
end
end Mine
/-! ## NI -/
set_option autoImplicit false
set_option maxRecDepth 100000
namespace Mine
open PySem PySem.W PyProof.Rows PySem.Calls PySem.Builtin

def replG : Sto → D → Bool := fun _ a => match a with | .str _ => true | _ => false
/-- replace of a sign that is not there -/
def replFn : Fn := fun ds ks st => match ds, ks with
  | [.str s, .str [c], .str _], [] => if s.contains c then none else some (.str s, st)
  | _, _ => none
theorem occ_nil {x : Str} {c : Nat} (h : c ∉ x.cps.toList) (n : Nat) : Builtin.Str.occurrences x ⟨#[c]⟩ 0 x.length (n + 1) = [] := by
  rcases StrLaws.occ_head x ⟨#[c]⟩ (n + 1) (by omega) with ⟨h1, _⟩ | ⟨i, r, _, hi, _⟩
  · exact h1
  · exfalso
    have := StrLaws.found_one x c
    rw [decide_eq_false h] at this
    have h2 := (StrLaws.found_iff x ⟨#[c]⟩).mpr ⟨i, hi.1, hi.2⟩
    rw [this] at h2
    cases h2
theorem repl_B {B : Base} {k : Nat} : BmT B k replG "replace" replFn := by
  intro s adr st Φ u a S r hg
  cases r with
  | str x t l e1 l1 c1 =>
    refine ⟨"str.replace", fun M A pl Q E h => GM.replace h, ?_⟩
    intro Φ A s adr st us kus ds ks d st' e R tk i S ru rk
    unfold replFn at e
    split at e
    · rename_i sl c z
      split at e
      · cases e
      · rename_i hc
        cases e
        cases rk
        cases ru with
        | cons r1 ru =>
        cases ru with
        | cons r2 ru =>
        cases ru with
        | cons r3 ru =>
        cases ru
        cases r1 with
        | str x t _ e1 l1 c1 =>
        cases r2 with
        | str y u _ e2 l2 c2 =>
        cases r3 with
        | str w v _ e3 l3 c3 =>
        have hy : y = ⟨#[c]⟩ := by
          obtain ⟨a⟩ := y
          simp only at e2
          have : a = #[c] := Array.toList_inj.mp e2
          rw [this]
        subst hy
        have hcx : c ∉ x.cps.toList := by rw [e1]; simpa using hc
        have ho : (Builtin.Str.occurrences x ⟨#[c]⟩ 0 x.length (x.length + 1)).isEmpty = true := by rw [occ_nil hcx]; rfl
        refine call_gives F.slot_str_replace (typeIs_str _ _ _) F.entry_str_replace (F.args_str_replace_3 _ _ _) (gives_str_replace x ⟨#[c]⟩ w t u v fun h => ?_) ?_
        · rw [ho, Bool.true_or] at h; cases h
        · rw [ho, Bool.true_or, if_pos rfl]
          exact ⟨adr, Post.refl i S, .str _ _ _ e1 l1 c1⟩
    · cases e
  | _ => cases hg
end Mine
/-! ## PB -/
set_option autoImplicit false
set_option maxRecDepth 100000
namespace Mine
open PySem PySem.W PyProof.Rows PySem.Calls

/-! rules that carry the interpreter out, one a form -/
def varKind (sc : Scope) (x : Str) : Bool := (match kindOf sc x with | some .local | some .cell | some .free => true | _ => false) && plainName x
def gloKind (sc : Scope) (x : Str) : Bool := (match kindOf sc x with | some .globalImplicit => true | _ => false) && plainName x

theorem lk_here {β : Type} {x : Str} {d : β} {l : List (Str × β)} : List.lookup x ((x, d) :: l) = some d := by rw [List.lookup_cons]; simp
theorem lk_there {β : Type} {x k : Str} {d d' : β} {l : List (Str × β)} (h : (x == k) = false) (hl : List.lookup x l = some d) : List.lookup x ((k, d') :: l) = some d := by rw [List.lookup_cons, h]; exact hl
theorem lk_none {β : Type} {x : Str} : List.lookup x ([] : List (Str × β)) = none := rfl
theorem lk_skip {β : Type} {x k : Str} {d' : β} {l : List (Str × β)} (h : (x == k) = false) (hl : List.lookup x l = none) : List.lookup x ((k, d') :: l) = none := by rw [List.lookup_cons, h]; exact hl
theorem lk_filter {x y : Str} {v : Vars} (h : (y == x) = false) : (v.filter fun p => !(p.1 == x)).lookup y = v.lookup y := by
  induction v with
  | nil => rfl
  | cons p v ih =>
    obtain ⟨k, d⟩ := p
    rw [List.filter_cons]
    by_cases hk : k = x
    · subst hk
      rw [if_neg (by simp), ih, List.lookup_cons, h]
    · have : (k == x) = false := beq_eq_false_iff_ne.mpr hk
      rw [if_pos (by simp [this]), List.lookup_cons, List.lookup_cons, ih]
theorem lk_set {x : Str} {d : D} {v : Vars} : (setVar v x d).lookup x = some d := lk_here
theorem lk_put {x y : Str} {d : D} {e : Option D} {v : Vars} (h : (y == x) = false) (hl : v.lookup y = e) : (setVar v x d).lookup y = e := by
  unfold setVar
  rw [List.lookup_cons, h]
  exact (lk_filter h).trans hl

def notInst : D → Bool
  | .inst _ _ => false
  | _ => true
def notSlice : Expr → Bool
  | .Slice _ _ _ _ => false
  | _ => true
def notCall : Expr → Bool
  | .Call _ _ _ _ => false
  | _ => true
def notList : Expr → Bool
  | .List _ _ => false
  | _ => true
def plainTest : Expr → Bool
  | .UnaryOp .Not _ _ | .BoolOp _ _ _ | .IfExp _ _ _ _ => false
  | _ => true
def optE (f : Expr → Sto → Option (D × Sto)) (st : Sto) : Option Expr → Option (D × Sto)
  | some e => f e st
  | none => some (.none, st)
def flEnd (st : Sto) : Fl → Option (D × Sto)
  | .ret d => some (d, st)
  | .next => some (.none, st)
  | _ => none
def flSeq (k : Option (Fl × Vars × Sto)) (v : Vars) (st : Sto) : Fl → Option (Fl × Vars × Sto)
  | .next => k
  | f => some (f, v, st)
def flLoop (k : Option (Fl × Vars × Sto)) (v : Vars) (st : Sto) : Fl → Option (Fl × Vars × Sto)
  | .next | .cont => k
  | .brk => some (.next, v, st)
  | .ret d => some (.ret d, v, st)
section
variable {n : Nat} {Γ : Gam} {sc : Scope} {v v1 v2 : Vars} {st st1 st2 st3 : Sto} {a b c d d1 d2 : D} {pos p q : Pos} {e l r o : Expr} {x : Str} {ds es : List D} {ks : List (Str × D)}

theorem ev_none {k : Nat} : evalE (n + 1) Γ sc v (.Constant .none k pos) st = some (.none, st) := by unfold evalE; rfl
theorem ev_bool {k : Nat} {b : Bool} : evalE (n + 1) Γ sc v (.Constant (.bool b) k pos) st = some (.bool b, st) := by unfold evalE; rfl
theorem ev_int {k : Nat} {i : Int} : evalE (n + 1) Γ sc v (.Constant (.int i) k pos) st = some (.int i, st) := by unfold evalE; rfl
theorem ev_str {k : Nat} {s : Str} (h : (ascii s.cps.toList && decide (s.cps.toList.length ≤ LIM)) = true) : evalE (n + 1) Γ sc v (.Constant (.str s) k pos) st = some (.str s.cps.toList, st) := by unfold evalE; simp only [h, if_true]
theorem ev_var (h : varKind sc x = true) (hl : v.lookup x = some d) : evalE (n + 1) Γ sc v (.Name x pos) st = some (d, st) := by
  unfold varKind at h
  rw [Bool.and_eq_true] at h
  obtain ⟨h1, h2⟩ := h
  unfold evalE
  simp only
  split at h1
  all_goals first | (rename_i hk; simp only [hk, h2, if_true, hl]; rfl) | cases h1
theorem ev_con (h : gloKind sc x = true) (hl : Γ.con x = some d) : evalE (n + 1) Γ sc v (.Name x pos) st = some (d, st) := by
  unfold gloKind at h
  rw [Bool.and_eq_true] at h
  obtain ⟨h1, h2⟩ := h
  unfold evalE
  simp only
  split at h1
  · rename_i hk; simp only [hk, h2, if_true, hl]; rfl
  · cases h1
theorem ev_binop {op : Operator} (h1 : evalE n Γ sc v l st = some (a, st1)) (h2 : evalE n Γ sc v r st1 = some (b, st2)) (h3 : binop st2 op a b = some d) : evalE (n + 1) Γ sc v (.BinOp l op r pos) st = some (d, st2) := by
  unfold evalE; simp [h1, h2, h3]
theorem ev_neg {i : Int} (h1 : evalE n Γ sc v e st = some (.int i, st1)) : evalE (n + 1) Γ sc v (.UnaryOp .USub e pos) st = some (.int (-i), st1) := by
  unfold evalE; simp [h1]
theorem ev_inv {i : Int} (h1 : evalE n Γ sc v e st = some (.int i, st1)) : evalE (n + 1) Γ sc v (.UnaryOp .Invert e pos) st = some (.int (-i - 1), st1) := by
  unfold evalE; simp [h1]
theorem ev_not {t : Bool} (h1 : evalE n Γ sc v e st = some (a, st1)) (h2 : st1.truthy a = some t) : evalE (n + 1) Γ sc v (.UnaryOp .Not e pos) st = some (.bool !t, st1) := by
  unfold evalE; simp [h1, h2]
theorem ev_cmp {op : CmpOp} {t : Bool} (h1 : evalE n Γ sc v l st = some (a, st1)) (h2 : evalE n Γ sc v r st1 = some (b, st2)) (h3 : cmp st2 op a b = some t) : evalE (n + 1) Γ sc v (.Compare l [op] [r] pos) st = some (.bool t, st2) := by
  unfold evalE; simp [h1, h2, h3]
theorem ev_if {t : Bool} {R : Option (D × Sto)} (h1 : testE n Γ sc v e st = some (t, st1)) (h2 : (if t then evalE n Γ sc v l st1 else evalE n Γ sc v r st1) = R) : evalE (n + 1) Γ sc v (.IfExp e l r pos) st = R := by
  unfold evalE; simp only [h1, Option.bind_eq_bind, Option.bind_some]; exact h2
theorem ev_list {xs : List Expr} (h1 : mapE (evalE n Γ sc v) xs st = some (ds, st1)) (h2 : decide (ds.length ≤ LIM) = true) : evalE (n + 1) Γ sc v (.List xs pos) st = some (.lst ds, st1) := by
  unfold evalE; simp only [h1, Option.bind_eq_bind, Option.bind_some, of_decide_eq_true h2, if_true]
theorem ev_tuple {xs : List Expr} {k : Nat} (h1 : mapE (evalE n Γ sc v) xs st = some (ds, st1)) (h2 : decide (ds.length ≤ LIM) = true) : evalE (n + 1) Γ sc v (.Tuple xs k pos) st = some (.tup ds, st1) := by
  unfold evalE; simp only [h1, Option.bind_eq_bind, Option.bind_some, of_decide_eq_true h2, if_true]
theorem me_nil {f : Expr → Sto → Option (D × Sto)} : mapE f [] st = some ([], st) := rfl
theorem me_cons {f : Expr → Sto → Option (D × Sto)} {xs : List Expr} (h1 : f e st = some (d, st1)) (h2 : mapE f xs st1 = some (ds, st2)) : mapE f (e :: xs) st = some (d :: ds, st2) := by
  unfold mapE; simp [h1, h2]
theorem mk_nil {f : Expr → Sto → Option (D × Sto)} : mapK f [] st = some ([], st) := rfl
theorem mk_cons {f : Expr → Sto → Option (D × Sto)} {xs : List Keyword} {kp : Pos} (h1 : f e st = some (d, st1)) (h2 : mapK f xs st1 = some (ks, st2)) : mapK f (⟨some x, e, kp⟩ :: xs) st = some ((x, d) :: ks, st2) := by
  unfold mapK; simp [h1, h2]
theorem ev_attr {cn : Str} {fs : List (Str × D)} (hs : notSuper o = true) (h1 : evalE n Γ sc v o st = some (.inst cn fs, st1)) (h2 : fs.lookup x = some d) : evalE (n + 1) Γ sc v (.Attribute o x pos) st = some (d, st1) := by
  unfold evalE; simp [hs, h1, h2]
theorem ev_append {k : Nat} {ds : List D} (hs : notSuper o = true) (h1 : evalE n Γ sc v o st = some (.ref k, st1)) (h2 : st1[k]? = some (.lst ds)) : evalE (n + 1) Γ sc v (.Attribute o "append" pos) st = some (.app k, st1) := by
  unfold evalE; simp [hs, h1, h2]
theorem ev_item {i : D} (hni : notSlice e = true) (h1 : evalE n Γ sc v o st = some (a, st1)) (h2 : evalE n Γ sc v e st1 = some (i, st2)) (h3 : item st2 a i = some d) : evalE (n + 1) Γ sc v (.Subscript o e pos) st = some (d, st2) := by
  cases e with
  | Slice _ _ _ _ => cases hni
  | _ => unfold evalE; simp [h1, h2, h3]
theorem ev_slice {lo hi : Option Expr} {x y : D} (h1 : evalE n Γ sc v o st = some (a, st1)) (h2 : optE (evalE n Γ sc v) st1 lo = some (x, st2)) (h3 : optE (evalE n Γ sc v) st2 hi = some (y, st3))
    (h4 : slice st3 a x y = some d) : evalE (n + 1) Γ sc v (.Subscript o (.Slice lo hi none p) pos) st = some (d, st3) := by
  unfold evalE
  cases lo <;> cases hi <;> simp_all [optE]
theorem oe_some {f : Expr → Sto → Option (D × Sto)} {R : Option (D × Sto)} (h : f e st = R) : optE f st (some e) = R := h
theorem oe_none' {f : Expr → Sto → Option (D × Sto)} : optE f st none = some (.none, st) := rfl
theorem ev_meth {m cn : Str} {fs : List (Str × D)} {args : List Expr} {kws : List Keyword} {F : Fn} {R : Option (D × Sto)} (hs : isSub o m args kws = none) (hc : callOk o p pos (args.length + kws.length) = true) (h1 : evalE n Γ sc v o st = some (.inst cn fs, st1)) (hm : Γ.meth cn m = some F)
    (h2 : mapE (evalE n Γ sc v) args st1 = some (ds, st2)) (h3 : mapK (evalE n Γ sc v) kws st2 = some (ks, st3)) (h4 : F (.inst cn fs :: ds) ks st3 = R) : evalE (n + 1) Γ sc v (.Call (.Attribute o m p) args kws pos) st = R := by
  unfold evalE; simp [hs, hc, h1, hm, h2, h3, h4]
theorem ev_methB {m : Str} {args : List Expr} {id : String} {R : Option (D × Sto)} (hs : isSub o m args [] = none) (hc : callOk o p pos (args.length + 0) = true) (h1 : evalE n Γ sc v o st = some (a, st1)) (hi : notInst a = true) (ho : Γ.own m st1 a = none) (hr : recv st1 a m = some id)
    (h2 : mapE (evalE n Γ sc v) args st1 = some (ds, st2)) (h4 : methodB st2 a id ds = R) : evalE (n + 1) Γ sc v (.Call (.Attribute o m p) args [] pos) st = R := by
  have hc' : callOk o p pos args.length = true := hc
  unfold evalE
  cases a <;> first | (simp [hs, hc', h1, ho, hr, h2, h4]; done) | cases hi
theorem ev_methO {m : Str} {args : List Expr} {F : Fn} {R : Option (D × Sto)} (hs : isSub o m args [] = none) (hc : callOk o p pos (args.length + 0) = true) (h1 : evalE n Γ sc v o st = some (a, st1)) (hi : notInst a = true) (ho : Γ.own m st1 a = some F)
    (h2 : mapE (evalE n Γ sc v) args st1 = some (ds, st2)) (h4 : F (a :: ds) [] st2 = R) : evalE (n + 1) Γ sc v (.Call (.Attribute o m p) args [] pos) st = R := by
  have hc' : callOk o p pos args.length = true := hc
  unfold evalE
  cases a <;> first | (simp [hs, hc', h1, ho, h2, h4]; done) | cases hi
theorem ev_sub {m y : Str} {args : List Expr} {l : List Nat} (hs : isSub o m args [] = some (y, e)) (hk : (kindOf sc y == some .globalImplicit && Γ.res.contains y && callOk o p pos (args.length + 0)) = true) (h1 : evalE n Γ sc v e st = some (.str l, st1)) (hl : (l.all fun c => c != 38 && c != 126 && c != 124) = true) :
    evalE (n + 1) Γ sc v (.Call (.Attribute o m p) args [] pos) st = some (.str l, st1) := by
  unfold evalE
  simp only [hs, List.length_nil, hk, if_true, h1, Option.bind_eq_bind, Option.bind_some, hl]
theorem ev_call {args : List Expr} {kws : List Keyword} {F : Fn} {R : Option (D × Sto)} (hk : gloKind sc x = true) (hF : Γ.fn x = some F) (h2 : mapE (evalE n Γ sc v) args st = some (ds, st1)) (h3 : mapK (evalE n Γ sc v) kws st1 = some (ks, st2)) (h4 : F ds ks st2 = R) :
    evalE (n + 1) Γ sc v (.Call (.Name x p) args kws pos) st = R := by
  unfold gloKind at hk
  rw [Bool.and_eq_true] at hk
  obtain ⟨k1, k2⟩ := hk
  unfold evalE
  simp only [k2]
  split at k1
  · rename_i hk; simp [hk, hF, h2, h3, h4]
  · cases k1
theorem ev_callB {args : List Expr} {R : Option (D × Sto)} (hk : gloKind sc x = true) (hF : Γ.fn x = none) (hB : Γ.bi x = none) (h2 : mapE (evalE n Γ sc v) args st = some (ds, st1)) (h4 : builtin st1 x ds = R) :
    evalE (n + 1) Γ sc v (.Call (.Name x p) args [] pos) st = R := by
  unfold gloKind at hk
  rw [Bool.and_eq_true] at hk
  obtain ⟨k1, k2⟩ := hk
  unfold evalE
  simp only [k2]
  split at k1
  · rename_i hk; simp [hk, hF, hB, h2, h4]
  · cases k1
theorem ev_callO {args : List Expr} {F : Fn} {R : Option (D × Sto)} (hk : gloKind sc x = true) (hF : Γ.fn x = none) (hB : Γ.bi x = some F) (h2 : mapE (evalE n Γ sc v) args st = some (ds, st1)) (h4 : F ds [] st1 = R) :
    evalE (n + 1) Γ sc v (.Call (.Name x p) args [] pos) st = R := by
  unfold gloKind at hk
  rw [Bool.and_eq_true] at hk
  obtain ⟨k1, k2⟩ := hk
  unfold evalE
  simp only [k2]
  split at k1
  · rename_i hk; simp [hk, hF, hB, h2, h4]
  · cases k1
theorem ev_callA {args : List Expr} {k : Nat} {R : Option (D × Sto)} (hk : varKind sc x = true) (hl : v.lookup x = some (.app k)) (h2 : mapE (evalE n Γ sc v) args st = some (ds, st1)) (h4 : appendD st1 k ds = R) :
    evalE (n + 1) Γ sc v (.Call (.Name x p) args [] pos) st = R := by
  unfold varKind at hk
  rw [Bool.and_eq_true] at hk
  obtain ⟨k1, k2⟩ := hk
  unfold evalE
  simp only [k2]
  split at k1
  all_goals first | (rename_i hk; simp [hk, hl, h2, h4]; done) | cases k1
theorem ev_joined {xs : List Expr} {s : List Nat} {R : D} (h1 : mapE (evalE n Γ sc v) xs st = some (ds, st1)) (h2 : concatStr ds = some s) (h3 : limS s = some R) : evalE (n + 1) Γ sc v (.JoinedStr xs pos) st = some (R, st1) := by
  unfold evalE; simp [h1, h2, h3]
theorem ev_fmt {s : List Nat} (h1 : evalE n Γ sc v e st = some (.str s, st1)) : evalE (n + 1) Γ sc v (.FormattedValue e (-1) none pos) st = some (.str s, st1) := by
  unfold evalE; simp [h1]
theorem ev_comp {elt t it : Expr} {ifs : List Expr} {csc : Scope} {lk : Option Nat} {out : List D} (hc : (compOk sc csc && targetOk csc t) = true) (h1 : iterE n Γ sc v (isTuple t) it st = some (ds, lk, st1)) (h2 : compL (compT n Γ csc elt t ifs (compVars csc v)) ds (st1.lock lk) = some (out, st2)) (h3 : out.length ≤ LIM) :
    evalE (n + 1) Γ sc v (.ListComp elt [⟨t, it, ifs, 0⟩] csc pos) st = some (.lst out, st2.unlock ds lk) := by
  unfold evalE
  simp only [hc, Bool.not_true, Bool.false_eq_true, if_false, h1, Option.bind_eq_bind, Option.bind_some, h2, h3, if_true]
theorem ct_turn {elt t : Expr} {ifs : List Expr} {tt : Bool} {R : Option (List D × Sto)} (h1 : st.assign t d v = some v1) (h2 : andE (testE n Γ sc v1) ifs st = some (tt, st1)) (h3 : (if tt then (evalE n Γ sc v1 elt st1).map fun p => ([p.1], p.2) else some ([], st1)) = R) : compT (n + 1) Γ sc elt t ifs v d st = R := by
  unfold compT
  simp only [h1, h2, Option.bind_eq_bind, Option.bind_some]
  rw [← h3]
  cases tt with
  | true => simp only [if_true]; cases evalE n Γ sc v1 elt st1 <;> rfl
  | false => rfl
theorem it_plain {pairs : Bool} {lk : Option Nat} (he : notCall e = true) (h1 : evalE n Γ sc v e st = some (a, st1)) (h2 : st1.walk a = some (ds, lk)) : iterE (n + 1) Γ sc v pairs e st = some (ds, lk, st1) := by
  cases e with
  | Call _ _ _ _ => cases he
  | _ => unfold iterE; simp [h1, h2]
theorem it_call {pairs : Bool} {lk : Option Nat} {f : Str} (hn : (f == ("enumerate" : Str)) = false) {y : Expr} (h1 : evalE n Γ sc v (.Call (.Name f p) [y] [] q) st = some (a, st1)) (h2 : st1.walk a = some (ds, lk)) : iterE (n + 1) Γ sc v pairs (.Call (.Name f p) [y] [] q) st = some (ds, lk, st1) := by
  unfold iterE; simp [hn, h1, h2]
theorem it_enum {pairs : Bool} {y : Expr} (hp : pairs = true) (hk : (Γ.fn "enumerate").isNone = true) (hk2 : (kindOf sc "enumerate" == some .globalImplicit) = true) (h1 : evalE n Γ sc v y st = some (.tup ds, st1)) : iterE (n + 1) Γ sc v pairs (.Call (.Name "enumerate" p) [y] [] q) st = some (enumD 0 ds, none, st1) := by
  subst hp
  unfold iterE; simp [hk, hk2, h1]
theorem it_meth {pairs : Bool} {lk : Option Nat} {m : Str} (h0 : itemsOf m (callOk o p pos 0) (evalE n Γ sc v o st) = none) (h1 : evalE n Γ sc v (.Call (.Attribute o m p) [] [] pos) st = some (a, st1)) (h2 : st1.walk a = some (ds, lk)) : iterE (n + 1) Γ sc v pairs (.Call (.Attribute o m p) [] [] pos) st = some (ds, lk, st1) := by
  unfold iterE; simp [h0, h1, h2]
theorem it_items {pairs : Bool} (hc : callOk o p pos 0 = true) (h1 : evalE n Γ sc v o st = some (.dic0, st1)) : iterE (n + 1) Γ sc v pairs (.Call (.Attribute o "items" p) [] [] pos) st = some ([], none, st1) := by
  unfold iterE; simp [h1, itemsOf, hc]

theorem te_not {t : Bool} (h : testE n Γ sc v e st = some (t, st1)) : testE (n + 1) Γ sc v (.UnaryOp .Not e pos) st = some (!t, st1) := by unfold testE; simp [h]
theorem te_and {xs : List Expr} {R : Option (Bool × Sto)} (h : andE (testE n Γ sc v) xs st = R) : testE (n + 1) Γ sc v (.BoolOp .And xs pos) st = R := by unfold testE; exact h
theorem te_or {xs : List Expr} {R : Option (Bool × Sto)} (h : orE (testE n Γ sc v) xs st = R) : testE (n + 1) Γ sc v (.BoolOp .Or xs pos) st = R := by unfold testE; exact h
theorem ae_nil {f : Expr → Sto → Option (Bool × Sto)} : andE f [] st = some (true, st) := rfl
theorem ae_cons {f : Expr → Sto → Option (Bool × Sto)} {xs : List Expr} {t : Bool} {R : Option (Bool × Sto)} (h1 : f e st = some (t, st1)) (h2 : (if t then andE f xs st1 else some (false, st1)) = R) : andE f (e :: xs) st = R := by
  unfold andE; simp only [h1, Option.bind_eq_bind, Option.bind_some]; exact h2
theorem oe_nil {f : Expr → Sto → Option (Bool × Sto)} : orE f [] st = some (false, st) := rfl
theorem oe_cons {f : Expr → Sto → Option (Bool × Sto)} {xs : List Expr} {t : Bool} {R : Option (Bool × Sto)} (h1 : f e st = some (t, st1)) (h2 : (if t then some (true, st1) else orE f xs st1) = R) : orE f (e :: xs) st = R := by
  unfold orE; simp only [h1, Option.bind_eq_bind, Option.bind_some]; exact h2
theorem te_plain {t : Bool} (hp : plainTest e = true) (hi : isType? e = none) (h1 : evalE n Γ sc v e st = some (a, st1)) (h2 : st1.truthy a = some t) : testE (n + 1) Γ sc v e st = some (t, st1) := by
  cases e with
  | BoolOp _ _ _ => cases hp
  | IfExp _ _ _ _ => cases hp
  | UnaryOp op _ _ => cases op with
    | Not => cases hp
    | _ => unfold testE; simp [hi, h1, h2]
  | _ => unfold testE; simp [hi, h1, h2]
theorem te_type {f g : Str} {y : Expr} {s : List Nat} (hi : isType? e = some (f, y, g)) (hk : (kindOf sc f == some .globalImplicit && kindOf sc g == some .globalImplicit && (Γ.fn f).isNone && (Γ.fn g).isNone) = true) (h1 : evalE n Γ sc v y st = some (.str s, st1)) : testE (n + 1) Γ sc v e st = some (true, st1) := by
  obtain ⟨p1, p2, p3, p4, rfl, rfl, rfl⟩ := isType_of hi
  unfold testE
  simp only [hi, hk, if_true, h1, Option.bind_eq_bind, Option.bind_some]

theorem rs_nil {ex : Stmt → Vars → Sto → Option (Fl × Vars × Sto)} : runStmts ex [] v st = some (.next, v, st) := rfl
theorem rs_next {ex : Stmt → Vars → Sto → Option (Fl × Vars × Sto)} {s : Stmt} {ss : List Stmt} {R : Option (Fl × Vars × Sto)} (h1 : ex s v st = some (.next, v1, st1)) (h2 : runStmts ex ss v1 st1 = R) : runStmts ex (s :: ss) v st = R := by
  unfold runStmts; simp only [h1, Option.bind_eq_bind, Option.bind_some]; exact h2
theorem rs_ret {ex : Stmt → Vars → Sto → Option (Fl × Vars × Sto)} {s : Stmt} {ss : List Stmt} (h1 : ex s v st = some (.ret d, v1, st1)) : runStmts ex (s :: ss) v st = some (.ret d, v1, st1) := by
  unfold runStmts; simp only [h1, Option.bind_eq_bind, Option.bind_some]
theorem rs_brk {ex : Stmt → Vars → Sto → Option (Fl × Vars × Sto)} {s : Stmt} {ss : List Stmt} (h1 : ex s v st = some (.brk, v1, st1)) : runStmts ex (s :: ss) v st = some (.brk, v1, st1) := by
  unfold runStmts; simp only [h1, Option.bind_eq_bind, Option.bind_some]
theorem rs_if {ex : Stmt → Vars → Sto → Option (Fl × Vars × Sto)} {s : Stmt} {ss : List Stmt} {f : Fl} {R : Option (Fl × Vars × Sto)} (h1 : ex s v st = some (f, v1, st1)) (h2 : flSeq (runStmts ex ss v1 st1) v1 st1 f = R) : runStmts ex (s :: ss) v st = R := by
  unfold runStmts; simp only [h1, Option.bind_eq_bind, Option.bind_some]; rw [← h2]; cases f <;> rfl
theorem fq_next {k R : Option (Fl × Vars × Sto)} (h : k = R) : flSeq k v st .next = R := h
theorem fq_ret {k : Option (Fl × Vars × Sto)} : flSeq k v st (.ret d) = some (.ret d, v, st) := rfl
theorem fq_brk {k : Option (Fl × Vars × Sto)} : flSeq k v st .brk = some (.brk, v, st) := rfl
theorem fl_next {k R : Option (Fl × Vars × Sto)} (h : k = R) : flLoop k v st .next = R := h
theorem fl_brk {k : Option (Fl × Vars × Sto)} : flLoop k v st .brk = some (.next, v, st) := rfl
theorem fl_ret {k : Option (Fl × Vars × Sto)} : flLoop k v st (.ret d) = some (.ret d, v, st) := rfl
theorem ite_t {α : Type} {A B R : α} (h : A = R) : (if true = true then A else B) = R := h
theorem ite_f {α : Type} {A B R : α} (h : B = R) : (if false = true then A else B) = R := h
theorem ex_expr (h1 : evalE n Γ sc v e st = some (.none, st1)) : execS (n + 1) Γ sc (.Expr e pos) v st = some (.next, v, st1) := by unfold execS; simp [h1]
theorem ex_pass : execS (n + 1) Γ sc (.Pass pos) v st = some (.next, v, st) := by unfold execS; rfl
theorem ex_break : execS (n + 1) Γ sc (.Break pos) v st = some (.brk, v, st) := by unfold execS; rfl
theorem ex_ret (h1 : evalE n Γ sc v e st = some (d, st1)) : execS (n + 1) Γ sc (.Return (some e) pos) v st = some (.ret d, v, st1) := by unfold execS; simp [h1]
theorem ex_set (hb : bound1 sc (.Name x p) = true) (h1 : evalTo n Γ sc v x e st = some (d, st1)) : execS (n + 1) Γ sc (.Assign [.Name x p] e pos) v st = some (.next, setVar v x d, st1) := by
  unfold execS; simp [hb, h1]
theorem to_plain (he : notList e = true) (h1 : evalE n Γ sc v e st = some (d, st1)) : evalTo n Γ sc v x e st = some (d, st1) := by
  cases e with
  | List _ _ => cases he
  | _ => exact h1
theorem to_list {xs : List Expr} (hg : Γ.grow.contains x = false) (h1 : evalE n Γ sc v (.List xs p) st = some (d, st1)) : evalTo n Γ sc v x (.List xs p) st = some (d, st1) := by
  unfold evalTo; simp only [hg, Bool.false_eq_true, if_false]; exact h1
theorem to_grow {xs : List Expr} (hg : Γ.grow.contains x = true) (h1 : mapE (evalE n Γ sc v) xs st = some (ds, st1)) (h2 : decide (ds.length ≤ LIM) = true) : evalTo n Γ sc v x (.List xs p) st = some (.ref st1.length, st1 ++ [.lst ds]) := by
  unfold evalTo; simp only [hg, if_true, h1, Option.bind_eq_bind, Option.bind_some, of_decide_eq_true h2]
theorem ex_swap {ts xs : List Expr} {k k' : Nat} {names : List Str} (hn : swapOk sc ts xs = some names) (h1 : mapE (evalE n Γ sc v) xs st = some (ds, st1)) (h2 : decide (ds.length ≤ LIM) = true) (h3 : bindStrs names.reverse ds.reverse v = some v1) : execS (n + 1) Γ sc (.Assign [.Tuple ts k p] (.Tuple xs k' q) pos) v st = some (.next, v1, st1) := by
  unfold execS; simp only [hn, h1, Option.bind_eq_bind, Option.bind_some, of_decide_eq_true h2, if_true, h3]
theorem bs_nil : bindStrs [] [] v = some v := rfl
theorem bs_cons {names : List Str} (h : bindStrs names ds (setVar v x d) = some v1) : bindStrs (x :: names) (d :: ds) v = some v1 := h
theorem ex_aug {i j : Int} (hb : (bound1 sc (.Name x p) && plainName x) = true) (hl : v.lookup x = some (.int i)) (h1 : evalE n Γ sc v e st = some (.int j, st1)) : execS (n + 1) Γ sc (.AugAssign (.Name x p) .Add e pos) v st = some (.next, setVar v x (.int (i + j)), st1) := by
  unfold execS; simp only [hb, if_true, hl, h1, Option.bind_eq_bind, Option.bind_some]
theorem ex_if {b1 b2 : List Stmt} {t : Bool} {R : Option (Fl × Vars × Sto)} (h1 : testE n Γ sc v e st = some (t, st1)) (h2 : (if t then runStmts (execS n Γ sc) b1 v st1 else runStmts (execS n Γ sc) b2 v st1) = R) : execS (n + 1) Γ sc (.If e b1 b2 pos) v st = R := by
  unfold execS; simp only [h1, Option.bind_eq_bind, Option.bind_some]; exact h2
theorem ex_assert {msg : Option Expr} (h1 : testE n Γ sc v e st = some (true, st1)) : execS (n + 1) Γ sc (.Assert e msg pos) v st = some (.next, v, st1) := by
  unfold execS; simp [h1]
theorem ex_while {b1 : List Stmt} {R : Option (Fl × Vars × Sto)} (h : whileL (fun v st => testE n Γ sc v e st) (runStmts (execS n Γ sc) b1) Γ.turns v st = R) : execS (n + 1) Γ sc (.While e b1 [] pos) v st = R := by
  unfold execS; exact h
theorem ex_for {t : Expr} {b1 b2 : List Stmt} {lk : Option Nat} {f : Fl} (ht : targetOk sc t = true) (h1 : iterE n Γ sc v (isTuple t) e st = some (ds, lk, st1)) (h2 : forL (fun d v st => st.assign t d v) (runStmts (execS n Γ sc) b1) (runStmts (execS n Γ sc) b2) ds v (st1.lock lk) = some (f, v1, st2)) :
    execS (n + 1) Γ sc (.For t e b1 b2 pos) v st = some (f, v1, st2.unlock ds lk) := by
  unfold execS; simp only [ht, Bool.not_true, Bool.false_eq_true, if_false, h1, Option.bind_eq_bind, Option.bind_some, h2]
theorem fl_nil {as : D → Vars → Sto → Option Vars} {body orelse : Vars → Sto → Option (Fl × Vars × Sto)} {R : Option (Fl × Vars × Sto)} (h : orelse v st = R) : forL as body orelse [] v st = R := h
theorem fl_cons {as : D → Vars → Sto → Option Vars} {body orelse : Vars → Sto → Option (Fl × Vars × Sto)} {R : Option (Fl × Vars × Sto)} {f : Fl} (h1 : as d v st = some v1) (h2 : body v1 st = some (f, v2, st1))
    (h3 : flLoop (forL as body orelse ds v2 st1) v2 st1 f = R) : forL as body orelse (d :: ds) v st = R := by
  unfold forL; simp only [h1, h2, Option.bind_eq_bind, Option.bind_some]; rw [← h3]; cases f <;> rfl
theorem fs_ok {bd : List D → List (Str × D) → Option Vars} {body : List Stmt} {f : Fl} (hb : bd ds ks = some v) (ho : (bindsOk sc v && scopeOk sc) = true) (h : ∃ v1, runStmts (execS n Γ sc) body v st = some (f, v1, st1)) (hd : flEnd st1 f = some (d, st2)) : fnSt n Γ sc body bd ds ks st = some (d, st2) := by
  obtain ⟨v1, h⟩ := h
  unfold fnSt runBody
  simp only [hb, Option.bind_eq_bind, Option.bind_some, ho, if_true, h]
  rw [← hd]; cases f <;> rfl
theorem fp_ok {bd : List D → List (Str × D) → Option Vars} {body : List Stmt} {f : Fl} (hp : (D.pures ds && D.puresK ks) = true) (hb : bd ds ks = some v) (ho : (bindsOk sc v && scopeOk sc) = true) (h : ∃ v1, runStmts (execS n Γ sc) body v [] = some (f, v1, st1)) (hd : flEnd st1 f = some (d, st2)) (hf : freezeD st2 d = some d1) : fnPure n Γ sc body bd ds ks st = some (d1, st) := by
  obtain ⟨v1, h⟩ := h
  unfold fnPure runBody
  simp only [hp, if_true, hb, Option.bind_eq_bind, Option.bind_some, ho, h]
  cases f <;> simp_all [flEnd]

theorem mb_search {k : Nat} {s : List Nat} (hk : decide (k < 2) = true) (h : printable s = true) : methodB st (.pat k) "re.Pattern.search" [.str s] = some (.none, st) := by
  unfold methodB
  simp only [hk, h, if_true, Bool.true_and]
  rfl
theorem ap_ok {k : Nat} {l : List D} (h : st[k]? = some (.lst l)) (hl : l.length < LIM) : appendD st k [a] = some (.none, st.set k (.lst (l ++ [a]))) := by
  unfold appendD; simp [h, hl]
end
end Mine
/-! ## PC -/
set_option autoImplicit false
set_option maxRecDepth 100000
namespace Mine
open PySem PySem.W PyProof.Rows PySem.Calls

/-- a name's value -/
abbrev Has (v : Vars) (x : Str) (d : D) : Prop := List.lookup x v = some d
/-- ends so that `Q` -/
def Run (x : Option (Fl × Vars × Sto)) (Q : Fl → Vars → Sto → Prop) : Prop := ∃ f v s, x = some (f, v, s) ∧ Q f v s
section
variable {n : Nat} {Γ : Gam} {sc : Scope} {v v1 v2 : Vars} {st st1 st2 st3 : Sto} {a b c d d1 d2 : D} {pos p q : Pos} {e l r o : Expr} {x : Str} {ds es : List D} {ks : List (Str × D)} {f : Fl} {Q Q' : Fl → Vars → Sto → Prop} {y k : Option (Fl × Vars × Sto)} {ex : Stmt → Vars → Sto → Option (Fl × Vars × Sto)} {s : Stmt} {ss : List Stmt}
theorem Run.mono (h : Run y Q) (hq : ∀ f v s, Q f v s → Q' f v s) : Run y Q' := let ⟨f, v, s, e, q⟩ := h; ⟨f, v, s, e, hq f v s q⟩
theorem ru_eq (h : y = some (f, v, st)) (hq : Q f v st) : Run y Q := ⟨f, v, st, h, hq⟩
theorem ru_now (hq : Q f v st) : Run (some (f, v, st)) Q := ⟨f, v, st, rfl, hq⟩
theorem ru_nil (hq : Q .next v st) : Run (runStmts ex [] v st) Q := ⟨_, _, _, rfl, hq⟩
theorem ru_step (h1 : ex s v st = some (f, v1, st1)) (h2 : Run (flSeq (runStmts ex ss v1 st1) v1 st1 f) Q) : Run (runStmts ex (s :: ss) v st) Q := by
  rw [rs_if h1 rfl]; exact h2
theorem ru_seq (h1 : Run (ex s v st) Q') (h2 : ∀ f v1 st1, Q' f v1 st1 → Run (flSeq (runStmts ex ss v1 st1) v1 st1 f) Q) : Run (runStmts ex (s :: ss) v st) Q := by
  obtain ⟨f, v1, st1, e, q⟩ := h1
  exact ru_step e (h2 f v1 st1 q)
theorem ru_next (h : Run k Q) : Run (flSeq k v st .next) Q := h
theorem ru_ret (h : Q (.ret d) v st) : Run (flSeq k v st (.ret d)) Q := ⟨_, _, _, rfl, h⟩
theorem ru_brk (h : Q .brk v st) : Run (flSeq k v st .brk) Q := ⟨_, _, _, rfl, h⟩
theorem ru_if {b1 b2 : List Stmt} {t : Bool} (h1 : testE n Γ sc v e st = some (t, st1)) (h2 : t = true → Run (runStmts (execS n Γ sc) b1 v st1) Q) (h3 : t = false → Run (runStmts (execS n Γ sc) b2 v st1) Q) : Run (execS (n + 1) Γ sc (.If e b1 b2 pos) v st) Q := by
  rw [ex_if h1 rfl]
  cases t with
  | true => exact h2 rfl
  | false => exact h3 rfl
theorem ru_ite {b1 b2 : List Stmt} {t : Bool} (h1 : testE n Γ sc v e st = some (t, st1)) (h2 : t = true → Run (runStmts (execS n Γ sc) b1 v st1) fun f v s => Run (flSeq (runStmts (execS (n + 1) Γ sc) ss v s) v s f) Q) (h3 : t = false → Run (runStmts (execS n Γ sc) b2 v st1) fun f v s => Run (flSeq (runStmts (execS (n + 1) Γ sc) ss v s) v s f) Q) :
    Run (runStmts (execS (n + 1) Γ sc) (.If e b1 b2 pos :: ss) v st) Q :=
  ru_seq (ru_if h1 h2 h3) fun _ _ _ h => h
theorem ru_for {t : Expr} {b1 b2 : List Stmt} {lk : Option Nat} (ht : targetOk sc t = true) (h1 : iterE n Γ sc v (isTuple t) e st = some (ds, lk, st1)) (h2 : Run (forL (fun d v st => st.assign t d v) (runStmts (execS n Γ sc) b1) (runStmts (execS n Γ sc) b2) ds v (st1.lock lk)) (fun f v s => Q f v (s.unlock ds lk))) :
    Run (execS (n + 1) Γ sc (.For t e b1 b2 pos) v st) Q := by
  obtain ⟨f, v1, st2, e, q⟩ := h2
  exact ⟨_, _, _, ex_for ht h1 e, q⟩
theorem ru_for0 {t : Expr} {b1 b2 : List Stmt} (ht : targetOk sc t = true) (h1 : iterE n Γ sc v (isTuple t) e st = some (ds, none, st1)) (h2 : Run (forL (fun d v st => st.assign t d v) (runStmts (execS n Γ sc) b1) (runStmts (execS n Γ sc) b2) ds v st1) Q) :
    Run (execS (n + 1) Γ sc (.For t e b1 b2 pos) v st) Q := ru_for (lk := none) ht h1 h2
theorem ru_while {b1 : List Stmt} (h : Run (whileL (fun v st => testE n Γ sc v e st) (runStmts (execS n Γ sc) b1) Γ.turns v st) Q) : Run (execS (n + 1) Γ sc (.While e b1 [] pos) v st) Q := by
  unfold execS; exact h
variable {as : D → Vars → Sto → Option Vars} {body orelse : Vars → Sto → Option (Fl × Vars × Sto)}
theorem ru_for_nil (h : Run (orelse v st) Q) : Run (forL as body orelse [] v st) Q := h
theorem ru_for_cons (h1 : as d v st = some v1) (h2 : Run (body v1 st) fun f v2 st2 => Run (flLoop (forL as body orelse ds v2 st2) v2 st2 f) Q) : Run (forL as body orelse (d :: ds) v st) Q := by
  obtain ⟨f, v2, st2, e, q⟩ := h2
  rw [fl_cons h1 e rfl]; exact q
theorem ru_l_next (h : Run k Q) : Run (flLoop k v st .next) Q := h
theorem ru_l_brk (h : Q .next v st) : Run (flLoop k v st .brk) Q := ⟨_, _, _, rfl, h⟩
theorem ru_l_ret (h : Q (.ret d) v st) : Run (flLoop k v st (.ret d)) Q := ⟨_, _, _, rfl, h⟩
/-- a loop that goes through, by an invariant over what has been taken -/
theorem ru_for_inv (I : List D → Vars → Sto → Prop) (h0 : I [] v st) (h1 : ∀ pre d post v st, ds = pre ++ d :: post → I pre v st → ∃ v1, as d v st = some v1 ∧ Run (body v1 st) fun f v2 st2 => f = .next ∧ I (pre ++ [d]) v2 st2)
    (h2 : ∀ v st, I ds v st → Run (orelse v st) Q) : Run (forL as body orelse ds v st) Q := by
  suffices ∀ post pre v st, ds = pre ++ post → I pre v st → Run (forL as body orelse post v st) Q from this ds [] v st rfl h0
  intro post
  induction post with
  | nil => intro pre v st e i; rw [List.append_nil] at e; subst e; exact h2 v st i
  | cons d post ih =>
    intro pre v st e i
    obtain ⟨v1, ha, f, v2, st2, hb, rfl, i2⟩ := h1 pre d post v st e i
    exact ru_for_cons ha ⟨_, _, _, hb, ih (pre ++ [d]) v2 st2 (by rw [e]; simp) i2⟩
/-- a loop over a list of such data, by an invariant over the turn's number -/
theorem ru_for_list {α : Type} {l : List α} {g : α → D} (I : Nat → Vars → Sto → Prop) (h0 : I 0 v st) (h1 : ∀ i (hi : i < l.length) v st, I i v st → ∃ v1, as (g l[i]) v st = some v1 ∧ Run (body v1 st) fun f v2 st2 => f = .next ∧ I (i + 1) v2 st2)
    (h2 : ∀ v st, I l.length v st → Run (orelse v st) Q) : Run (forL as body orelse (l.map g) v st) Q := by
  refine ru_for_inv (fun pre v st => I pre.length v st) h0 (fun pre d post v st e i => ?_) (fun v st i => h2 v st (by simpa using i))
  have hlen : pre.length < l.length := by
    have := congrArg List.length e
    simp at this; omega
  have hd : d = g l[pre.length] := by
    have := congrArg (fun x => x[pre.length]?) e
    simp at this
    rw [List.getElem?_eq_getElem hlen] at this
    simp at this
    exact this.symm
  obtain ⟨v1, ha, f, v2, st2, hb, rfl, i2⟩ := h1 pre.length hlen v st i
  exact ⟨v1, by rw [hd]; exact ha, _, _, _, hb, rfl, by simpa using i2⟩
/-- a loop that seeks -/
theorem ru_for_find (I : Vars → Prop) (g : D → Option D) (h0 : I v) (h1 : ∀ d v, d ∈ ds → I v → ∃ v1, as d v st = some v1 ∧ ∃ v2, body v1 st = some ((match g d with | some r => .ret r | none => .next), v2, st) ∧ I v2)
    (h2 : ∀ v, I v → ds.findSome? g = none → Run (orelse v st) Q) (h3 : ∀ v r, ds.findSome? g = some r → Q (.ret r) v st) : Run (forL as body orelse ds v st) Q := by
  induction ds generalizing v with
  | nil => exact h2 v h0 rfl
  | cons d ds ih =>
    obtain ⟨v1, ha, v2, hb, i2⟩ := h1 d v (.head _) h0
    refine ru_for_cons ha ⟨_, _, _, hb, ?_⟩
    cases hg : g d with
    | some r =>
      simp only [hg]
      exact ru_l_ret (h3 v2 r (by simp [hg]))
    | none =>
      simp only [hg]
      exact ru_l_next (ih i2 (fun d v hd => h1 d v (.tail _ hd)) (fun v i e => h2 v i (by simp [hg, e])) fun v r e => h3 v r (by simp [hg, e]))
theorem ru_find {t : Expr} {b1 : List Stmt} {lk : Option Nat} (ht : targetOk sc t = true) (h1 : iterE n Γ sc v (isTuple t) e st = some (ds, lk, st1)) (hl : st1.lock lk = st2) (hu : st2.unlock ds lk = st3) (I : Vars → Prop) (g : D → Option D) (h0 : I v)
    (hs : ∀ d v, d ∈ ds → I v → ∃ v1, st2.assign t d v = some v1 ∧ Run (runStmts (execS n Γ sc) b1 v1 st2) fun f v2 s => s = st2 ∧ f = (match g d with | some r => .ret r | none => .next) ∧ I v2)
    (h2 : ∀ v, I v → ds.findSome? g = none → Run (runStmts (execS (n + 1) Γ sc) ss v st3) Q) (h3 : ∀ v r, ds.findSome? g = some r → Q (.ret r) v st3) : Run (runStmts (execS (n + 1) Γ sc) (.For t e b1 [] pos :: ss) v st) Q := by
  subst hl hu
  refine ru_seq (Q' := fun f v1 s => s = (st1.lock lk).unlock ds lk ∧ ((f = .next ∧ I v1 ∧ ds.findSome? g = none) ∨ ∃ r, f = .ret r ∧ ds.findSome? g = some r)) (ru_for ht h1 (ru_for_find I g h0 (fun d v hd i => ?_) (fun v i q => ?_) fun v r q => ?_)) fun f v1 s1 ⟨e1, e2⟩ => ?_
  · obtain ⟨v1, ha, f, v2, s, hb, rfl, rfl, i2⟩ := hs d v hd i
    exact ⟨v1, ha, v2, hb, i2⟩
  · exact ru_nil ⟨rfl, .inl ⟨rfl, i, q⟩⟩
  · exact ⟨rfl, .inr ⟨r, rfl, q⟩⟩
  · subst e1
    rcases e2 with ⟨rfl, i, q⟩ | ⟨r, rfl, q⟩
    · exact ru_next (h2 _ i q)
    · exact ru_ret (h3 _ r q)
/-- a loop that leaves at the first hit -/
theorem ru_for_brk (I : Vars → Prop) (p : D → Bool) (S : D → Sto) (h0 : I v) (h1 : ∀ d v, d ∈ ds → I v → ∃ v1, as d v st = some v1 ∧ Run (body v1 st) fun f v2 s => I v2 ∧ ((p d = true ∧ f = .brk ∧ s = S d) ∨ (p d = false ∧ f = .next ∧ s = st)))
    (h2 : ∀ v, I v → ds.find? p = none → Run (orelse v st) Q) (h3 : ∀ v d, I v → ds.find? p = some d → Q .next v (S d)) : Run (forL as body orelse ds v st) Q := by
  induction ds generalizing v with
  | nil => exact h2 v h0 rfl
  | cons d ds ih =>
    obtain ⟨v1, ha, f, v2, s, hb, i2, hc⟩ := h1 d v (.head _) h0
    refine ru_for_cons ha ⟨_, _, _, hb, ?_⟩
    rcases hc with ⟨hp, rfl, rfl⟩ | ⟨hp, rfl, rfl⟩
    · exact ru_l_brk (h3 v2 d i2 (by simp [hp]))
    · exact ru_l_next (ih i2 (fun d v hd => h1 d v (.tail _ hd)) (fun v i e => h2 v i (by simp [hp, e])) fun v r i e => h3 v r i (by simp [hp, e]))
theorem ru_while_step {test : Vars → Sto → Option (Bool × Sto)} {m : Nat} {t : Bool} (h1 : test v st = some (t, st1)) (h2 : t = true → Run (body v st1) fun f v2 st2 => Run (flLoop (whileL test body m v2 st2) v2 st2 f) Q) (h3 : t = false → Q .next v st1) : Run (whileL test body (m + 1) v st) Q := by
  unfold whileL
  simp only [h1, Option.bind_eq_bind, Option.bind_some]
  cases t with
  | false => exact ⟨_, _, _, rfl, h3 rfl⟩
  | true =>
    obtain ⟨f, v2, st2, e, q⟩ := h2 rfl
    simp only [if_true, e, Option.bind_some]
    cases f <;> exact q
theorem fs_run {bd : List D → List (Str × D) → Option Vars} {body : List Stmt} (hb : bd ds ks = some v) (ho : (bindsOk sc v && scopeOk sc) = true) (h : Run (runStmts (execS n Γ sc) body v st) fun f _ s => flEnd s f = some (d, st2)) : fnSt n Γ sc body bd ds ks st = some (d, st2) := by
  obtain ⟨f, v1, st1, e, q⟩ := h
  exact fs_ok hb ho ⟨_, e⟩ q
theorem fs_ex {bd : List D → List (Str × D) → Option Vars} {body : List Stmt} {P : Sto → Prop} (hb : bd ds ks = some v) (ho : (bindsOk sc v && scopeOk sc) = true) (h : Run (runStmts (execS n Γ sc) body v st) fun f _ s => flEnd s f = some (d, s) ∧ P s) : ∃ st2, fnSt n Γ sc body bd ds ks st = some (d, st2) ∧ P st2 := by
  obtain ⟨f, v1, st1, e, q, r⟩ := h
  exact ⟨st1, fs_ok hb ho ⟨_, e⟩ q, r⟩
theorem fp_run {bd : List D → List (Str × D) → Option Vars} {body : List Stmt} (hp : (D.pures ds && D.puresK ks) = true) (hb : bd ds ks = some v) (ho : (bindsOk sc v && scopeOk sc) = true) (h : Run (runStmts (execS n Γ sc) body v []) fun f _ s => ∃ d2 st2, flEnd s f = some (d2, st2) ∧ freezeD st2 d2 = some d1) : fnPure n Γ sc body bd ds ks st = some (d1, st) := by
  obtain ⟨f, v1, st1, e, d2, st2, q, r⟩ := h
  exact fp_ok hp hb ho ⟨_, e⟩ q r

/-! comprehensions -/
theorem cl_map {body : D → Sto → Option (List D × Sto)} {g : D → List D} (h : ∀ d ∈ ds, body d st = some (g d, st)) : compL body ds st = some (ds.flatMap g, st) := by
  induction ds with
  | nil => rfl
  | cons d ds ih =>
    unfold compL
    simp only [h d (.head _), ih fun d hd => h d (.tail _ hd), Option.bind_eq_bind, Option.bind_some, List.flatMap_cons]
theorem cl_nil {body : D → Sto → Option (List D × Sto)} : compL body [] st = some ([], st) := rfl
theorem cl_cons {body : D → Sto → Option (List D × Sto)} {xs ys : List D} (h1 : body d st = some (xs, st1)) (h2 : compL body ds st1 = some (ys, st2)) : compL body (d :: ds) st = some (xs ++ ys, st2) := by
  unfold compL; simp only [h1, h2, Option.bind_eq_bind, Option.bind_some]

theorem ev_compM {elt t it : Expr} {ifs : List Expr} {csc : Scope} {lk : Option Nat} (g : D → List D) (hc : (compOk sc csc && targetOk csc t) = true) (h1 : iterE n Γ sc v (isTuple t) it st = some (ds, lk, st1)) (hl : st1.lock lk = st2) (hu : st2.unlock ds lk = st3)
    (hb : ∀ d ∈ ds, compT n Γ csc elt t ifs (compVars csc v) d st2 = some (g d, st2)) (hlen : (ds.flatMap g).length ≤ LIM) : evalE (n + 1) Γ sc v (.ListComp elt [⟨t, it, ifs, 0⟩] csc pos) st = some (.lst (ds.flatMap g), st3) := by
  subst hl hu
  exact ev_comp hc h1 (cl_map hb) hlen
theorem ct_one {elt t : Expr} (h1 : st.assign t d v = some v1) (h2 : evalE n Γ sc v1 elt st = some (a, st1)) : compT (n + 1) Γ sc elt t [] v d st = some ([a], st1) := ct_turn (tt := true) h1 rfl (by simp [h2])
theorem ct_filter {elt t : Expr} {tt : Bool} (h1 : st.assign t d v = some v1) (h2 : testE n Γ sc v1 e st = some (tt, st)) (h3 : tt = true → evalE n Γ sc v1 elt st = some (a, st)) : compT (n + 1) Γ sc elt t [e] v d st = some (if tt then [a] else [], st) := by
  refine ct_turn (tt := tt) (st1 := st) h1 ?_ ?_
  · unfold andE; simp only [h2, Option.bind_eq_bind, Option.bind_some]; cases tt <;> rfl
  · cases tt with
    | true => simp [h3 rfl]
    | false => rfl
theorem lk_comp {csc : Scope} {x : Str} {e : Option D} (h : (kindOf csc x == some .free) = true) (hl : v.lookup x = e) : (compVars csc v).lookup x = e := by
  unfold compVars
  rw [← hl]
  clear hl
  induction v with
  | nil => rfl
  | cons p v ih =>
    obtain ⟨k, d⟩ := p
    rw [List.filter_cons, List.lookup_cons]
    by_cases hk : x = k
    · subst hk
      rw [if_pos h, List.lookup_cons]; simp
    · have : (x == k) = false := beq_eq_false_iff_ne.mpr hk
      rw [this]
      split
      · rw [List.lookup_cons, this]; exact ih
      · exact ih
theorem fz_lst {l : List D} (h : D.pures l = true) : freezeD st (.lst l) = some (.lst l) := by
  unfold freezeD; simp [D.pure, h]
/-! the store -/
theorem st_last {m : Mo} : (st ++ [m])[st.length]? = some m := by simp
theorem st_left {i : Nat} {m m' : Mo} (h : st[i]? = some m) : (st ++ [m'])[i]? = some m := by
  rw [List.getElem?_append_left (List.getElem?_eq_some_iff.mp h).1]; exact h
theorem st_same {i : Nat} {m m' : Mo} (h : st[i]? = some m) : (st.set i m')[i]? = some m' := by
  simp [(List.getElem?_eq_some_iff.mp h).1]
theorem st_ne {i j : Nat} {m m' : Mo} (hne : j ≠ i) (h : st[i]? = some m) : (st.set j m')[i]? = some m := by
  rw [List.getElem?_set_ne hne]; exact h
theorem st_lt {i : Nat} {m : Mo} (h : st[i]? = some m) : i < st.length := (List.getElem?_eq_some_iff.mp h).1
theorem rc_append {i : Nat} {l : List D} (h : st[i]? = some (.lst l)) : recv st (.ref i) "append" = some "list.append" := by
  unfold recv; simp only [h]; rfl
theorem mb_append {i : Nat} {l : List D} (h : st[i]? = some (.lst l)) (hl : l.length < LIM) : methodB st (.ref i) "list.append" [a] = some (.none, st.set i (.lst (l ++ [a]))) := by
  unfold methodB
  exact ap_ok h hl
theorem wk_ref {i : Nat} {l : List D} (h : st[i]? = some (.lst l)) : st.walk (.ref i) = some (l, some i) := by
  unfold Sto.walk; simp only [h]
theorem items_ref {i : Nat} {l : List D} (h : st[i]? = some (.lst l)) : st.items (.ref i) = some l := by
  unfold Sto.items; simp only [h]
theorem mb_join {sep : List Nat} {l : List D} {z : List Nat} (h : st.items a = some l) (hj : joinStr sep l = some z) (hl : z.length ≤ LIM) : methodB st (.str sep) "str.join" [a] = some (.str z, st) := by
  unfold methodB
  simp [h, hj, limS, hl]
theorem ex_for0 {t : Expr} {b1 b2 : List Stmt} (ht : targetOk sc t = true) (h1 : iterE n Γ sc v (isTuple t) e st = some ([], none, st1)) (h2 : runStmts (execS n Γ sc) b2 v st1 = some (f, v1, st2)) : execS (n + 1) Γ sc (.For t e b1 b2 pos) v st = some (f, v1, st2) :=
  ex_for (lk := none) ht h1 h2
theorem set_back {i : Nat} {m m' : Mo} (h : st[i]? = some m) : (st.set i m').set i m = st := by
  apply List.ext_getElem?
  intro j
  by_cases hj : i = j
  · subst hj; rw [st_same (st_same h), h]
  · rw [List.getElem?_set_ne hj, List.getElem?_set_ne hj]
theorem unlock_back {i : Nat} {l : List D} (h : st[i]? = some (.lst l)) : (st.lock (some i)).unlock l (some i) = st := set_back h
theorem mg_fn {F : Fn} {fns meths bis : List (Str × Fn)} {cons : List (Str × D)} {bms : List (Str × ((Sto → D → Bool) × Fn))} {gr re : List Str} {tu : Nat} (h : fns.lookup x = some F) : (mkGam fns cons meths bis bms gr re tu).fn x = some F := h
theorem mg_fn0 {fns meths bis : List (Str × Fn)} {cons : List (Str × D)} {bms : List (Str × ((Sto → D → Bool) × Fn))} {gr re : List Str} {tu : Nat} (h : fns.lookup x = none) : (mkGam fns cons meths bis bms gr re tu).fn x = none := h
theorem mg_bi {F : Fn} {fns meths bis : List (Str × Fn)} {cons : List (Str × D)} {bms : List (Str × ((Sto → D → Bool) × Fn))} {gr re : List Str} {tu : Nat} (h : bis.lookup x = some F) : (mkGam fns cons meths bis bms gr re tu).bi x = some F := h
theorem mg_bi0 {fns meths bis : List (Str × Fn)} {cons : List (Str × D)} {bms : List (Str × ((Sto → D → Bool) × Fn))} {gr re : List Str} {tu : Nat} (h : bis.lookup x = none) : (mkGam fns cons meths bis bms gr re tu).bi x = none := h
theorem mg_con {fns meths bis : List (Str × Fn)} {cons : List (Str × D)} {bms : List (Str × ((Sto → D → Bool) × Fn))} {gr re : List Str} {tu : Nat} (h : cons.lookup x = some d) : (mkGam fns cons meths bis bms gr re tu).con x = some d := h
theorem mg_meth {F : Fn} {m : Str} {fns meths bis : List (Str × Fn)} {cons : List (Str × D)} {bms : List (Str × ((Sto → D → Bool) × Fn))} {gr re : List Str} {tu : Nat} (h : meths.lookup m = some F) : (mkGam fns cons meths bis bms gr re tu).meth "Headers" m = some F := h
theorem mg_own0 {m : Str} {fns meths bis : List (Str × Fn)} {cons : List (Str × D)} {bms : List (Str × ((Sto → D → Bool) × Fn))} {gr re : List Str} {tu : Nat} (h : bms.lookup m = none) : (mkGam fns cons meths bis bms gr re tu).own m st a = none := by
  unfold Gam.own mkGam; simp only [h]
theorem mg_own {m : Str} {g : Sto → D → Bool} {F : Fn} {fns meths bis : List (Str × Fn)} {cons : List (Str × D)} {bms : List (Str × ((Sto → D → Bool) × Fn))} {gr re : List Str} {tu : Nat} (h : bms.lookup m = some (g, F)) (hg : g st a = true) : (mkGam fns cons meths bis bms gr re tu).own m st a = some F := by
  unfold Gam.own mkGam; simp only [h, hg, if_true]
theorem eq_int {i j : Int} : cmp st .Eq (.int i) (.int j) = some (i == j) := rfl
theorem join_one : ∀ (l : List Nat), joinStr [] (l.map fun c => .str [c]) = some l
  | [] => rfl
  | [c] => rfl
  | c :: d :: l => by
    have := join_one (d :: l)
    simp only [List.map_cons] at this ⊢
    unfold joinStr
    rw [this]; rfl
theorem eq_str {s t : List Nat} : cmp st .Eq (.str s) (.str t) = some (s == t) := rfl
end
end Mine
/-! ## PA -/
set_option autoImplicit false
set_option maxRecDepth 100000
namespace Mine
open PySem PySem.W PyProof.Rows PySem.Calls

def defAt (p : Program) (i : Nat) : List Stmt × Scope := match p.main.body[i]? with
  | some (.FunctionDef _ _ b _ _ _ sc _ _ _) => (b, sc)
  | _ => ([], { kind := .module, names := [], isGenerator := false, isCoroutine := false })
def methAt (p : Program) (i j : Nat) : List Stmt × Scope := match p.main.body[i]? with
  | some (.ClassDef _ _ _ b _ _ _ _ _ _ _) => (match b[j]? with
    | some (.FunctionDef _ _ b _ _ _ sc _ _ _) => (b, sc)
    | _ => ([], { kind := .module, names := [], isGenerator := false, isCoroutine := false }))
  | _ => ([], { kind := .module, names := [], isGenerator := false, isCoroutine := false })
abbrev BS := List Stmt × Scope
open PySem.Challenge
def b_conv : { b : BS // methAt pw_kt0068_08 7 1 = b } := ⟨_, by (conv => lhs; whnf)⟩
def b_get : { b : BS // methAt pw_kt0068_08 7 8 = b } := ⟨_, by (conv => lhs; whnf)⟩
def b_add : { b : BS // methAt pw_kt0068_08 7 16 = b } := ⟨_, by (conv => lhs; whnf)⟩
def b_values : { b : BS // methAt pw_kt0068_08 7 10 = b } := ⟨_, by (conv => lhs; whnf)⟩
def b_ifmt : { b : BS // defAt pw_kt0068_08 18 = b } := ⟨_, by (conv => lhs; whnf)⟩
def b_filemode : { b : BS // defAt pw_kt0068_08 39 = b } := ⟨_, by (conv => lhs; whnf)⟩
local macro_rules | `(tactic| walk_at "lk") => `(tactic| first
  | with_reducible exact lk_here
  | with_reducible exact lk_set
  | ((with_reducible refine lk_there ?_ ?_); (focus decide +kernel); walk_at "lk")
  | ((with_reducible refine lk_put ?_ ?_); (focus decide +kernel); walk_at "lk")
  | with_reducible exact lk_none
  | ((with_reducible refine lk_skip ?_ ?_); (focus decide +kernel); walk_at "lk")
  | ((with_reducible refine lk_comp ?_ ?_); (focus decide +kernel); walk_at "lk")
  | assumption)
local macro_rules | `(tactic| walk_at "go") => `(tactic| first
  | with_reducible exact ev_none
  | with_reducible exact ev_bool
  | with_reducible exact ev_int
  | ((with_reducible apply ev_str); decide +kernel)
  | ((with_reducible apply ev_var); (focus decide +kernel); walk_at "lk")
  | ((with_reducible apply ev_con); (focus decide +kernel); exact mg_con (by walk_at "lk"))
  | ((with_reducible apply ev_binop) <;> walk_at "go")
  | ((with_reducible apply ev_cmp) <;> walk_at "go")
  | ((with_reducible apply ev_slice) <;> walk_at "go")
  | ((with_reducible apply ev_neg) <;> walk_at "go")
  | ((with_reducible apply ev_inv) <;> walk_at "go")
  | ((with_reducible apply ev_not) <;> walk_at "go")
  | ((with_reducible apply me_cons) <;> walk_at "go")
  | ((with_reducible apply mk_cons) <;> walk_at "go")
  | ((with_reducible apply te_not) <;> walk_at "go")
  | ((with_reducible apply te_and) <;> walk_at "go")
  | ((with_reducible apply te_or) <;> walk_at "go")
  | ((with_reducible apply ex_ret) <;> walk_at "go")
  | ((with_reducible apply ex_expr) <;> walk_at "go")
  | ((with_reducible apply ev_fmt) <;> walk_at "go")
  | ((with_reducible apply ev_joined) <;> walk_at "go")
  | with_reducible exact me_nil
  | with_reducible exact mk_nil
  | with_reducible exact rs_nil
  | with_reducible exact ex_break
  | with_reducible exact ae_nil
  | with_reducible exact oe_nil
  | ((with_reducible apply oe_some); walk_at "go")
  | with_reducible exact oe_none'
  | ((with_reducible apply ev_tuple); (focus walk_at "go"); rfl)
  | ((with_reducible apply ev_list); (focus walk_at "go"); rfl)
  | ((with_reducible apply ev_attr); (focus rfl); (focus walk_at "go"); walk_at "lk")
  | ((with_reducible apply ev_item); (focus rfl); all_goals walk_at "go")
  | ((with_reducible apply te_type); (focus rfl); (focus decide +kernel); walk_at "go")
  | ((with_reducible apply te_plain); (focus rfl); (focus rfl); all_goals walk_at "go")
  | ((with_reducible apply ex_set); (focus decide +kernel); walk_at "go")
  | ((with_reducible apply to_plain); (focus rfl); walk_at "go")
  | ((with_reducible apply to_grow); (focus decide +kernel); (focus walk_at "go"); rfl)
  | ((with_reducible apply to_list); (focus decide +kernel); walk_at "go")
  | ((with_reducible apply ev_meth); (focus rfl); (focus decide +kernel); (focus walk_at "go"); (focus exact mg_meth (by walk_at "lk")); (focus walk_at "go"); (focus walk_at "go"); walk_at "fn")
  | ((with_reducible apply ev_methB); (focus rfl); (focus decide +kernel); (focus walk_at "go"); (focus rfl); (focus exact mg_own0 (by walk_at "lk")); (focus (first | rfl | exact rc_append (by walk_at "st"))); (focus walk_at "go"); walk_at "fn")
  | ((with_reducible apply ev_call); (focus decide +kernel); (focus exact mg_fn (by walk_at "lk")); (focus walk_at "go"); (focus walk_at "go"); walk_at "fn")
  | ((with_reducible apply ev_callB); (focus decide +kernel); (focus exact mg_fn0 (by walk_at "lk")); (focus exact mg_bi0 (by walk_at "lk")); (focus walk_at "go"); walk_at "fn")
  | ((with_reducible apply ev_callO); (focus decide +kernel); (focus exact mg_fn0 (by walk_at "lk")); (focus exact mg_bi (by walk_at "lk")); (focus walk_at "go"); walk_at "fn")
  | ((with_reducible apply ev_methO); (focus rfl); (focus decide +kernel); (focus walk_at "go"); (focus rfl); (focus exact mg_own (by walk_at "lk") rfl); (focus walk_at "go"); walk_at "fn")
  | ((with_reducible apply ev_callA); (focus decide +kernel); (focus walk_at "lk"); (focus walk_at "go"); walk_at "fn")
  | ((with_reducible apply ex_for0); (focus decide +kernel); (focus walk_at "go"); walk_at "go")
  | ((with_reducible apply rs_if); (focus walk_at "go"); walk_at "go")
  | ((with_reducible apply fq_next); walk_at "go")
  | (with_reducible exact fq_ret)
  | (with_reducible exact fq_brk)
  | ((with_reducible apply ite_t); walk_at "go")
  | ((with_reducible apply ite_f); walk_at "go")
  | ((with_reducible apply ex_if); (focus walk_at "go"); walk_at "go")
  | ((with_reducible apply ev_if); (focus walk_at "go"); walk_at "go")
  | ((with_reducible apply it_plain); (focus rfl); (focus walk_at "go"); (first | rfl | exact wk_ref (by walk_at "st")))
  | ((with_reducible apply it_call); (focus decide +kernel); (focus walk_at "go"); (first | rfl | exact wk_ref (by walk_at "st")))
  | ((with_reducible apply it_enum); (focus rfl); (focus decide +kernel); walk_at "go")
  | ((with_reducible apply it_items); (focus decide +kernel); walk_at "go")
  | (with_reducible exact eq_str)
  | (with_unfolding_all rfl))
local macro_rules | `(tactic| walk_at "run") => `(tactic| first
  | ((with_reducible apply ru_step); (focus walk_at "go"); walk_at "run")
  | ((with_reducible apply ru_next); walk_at "run")
  | (with_reducible apply ru_ret)
  | (with_reducible apply ru_brk)
  | (with_reducible apply ru_nil)
  | skip)
local macro_rules | `(tactic| walk_at "st") => `(tactic| first
  | assumption
  | exact st_last
  | ((with_reducible apply st_left); walk_at "st")
  | ((with_reducible apply st_same); walk_at "st")
  | ((with_reducible refine st_ne ?_ ?_); (focus (first | assumption | omega)); walk_at "st")
  | rfl)
local macro_rules | `(tactic| walk_at "fn") => `(tactic| first
  | ((with_reducible apply mb_search); (focus rfl); assumption)
  | ((with_reducible apply mb_append); (focus walk_at "st"); (first | assumption | decide | omega))
  | ((with_reducible apply ap_ok); (focus walk_at "st"); (first | assumption | decide | omega))
  | ((with_reducible apply mb_join); (focus (first | exact items_ref (by walk_at "st") | rfl)); (focus rfl); (first | assumption | decide))
  | (with_unfolding_all rfl))
def G_conv : Gam := mkGam [] [("_name_disallowed_re", .pat 0), ("_value_disallowed_re", .pat 1)] [] [] [] [] [] 0
def convFn : Fn := fnSt 20 G_conv b_conv.1.2 b_conv.1.1 (bdKw ["self", "value"] "name")
set_option maxHeartbeats 4000000
theorem conv_eq {c : Str} {fs : List (Str × D)} {l : List Nat} {b : Bool} {st : Sto} (h : printable l = true) : convFn [.inst c fs, .str l] [("name", .bool b)] st = some (.str l, st) := by
  unfold convFn
  refine fs_run rfl (by rfl) ?_
  simp only [b_conv, List.cons_append, List.nil_append, List.zip_cons_cons, List.zip_nil_left]
  cases b
  · walk_at "run"; rfl
  · walk_at "run"; rfl
local macro_rules | `(tactic| walk_at "fn") => `(tactic| ((with_reducible apply conv_eq); assumption))

abbrev HD (p : List Nat × List Nat) : D := .tup [.str p.1, .str p.2]
def G_get : Gam := mkGam [] [] [("_convert_string_type", convFn)] [] [] [] [] 0
def getFn : Fn := fnSt 30 G_get b_get.1.2 b_get.1.1 (bdDef ["self", "name"] "default")
def getG (k : List Nat) : D → Option D
  | .tup [.str a, .str b] => if a.map lowerC == k.map lowerC then some (.str b) else none
  | _ => none
def getD (l : List (List Nat × List Nat)) (k : List Nat) : D := ((l.map HD).findSome? (getG k)).getD .none
theorem get_eq {n : Nat} {l : List (List Nat × List Nat)} {k : List Nat} {st : Sto} (hp : printable (k.map lowerC) = true) (hs : st[n]? = some (.lst (l.map HD))) : getFn [.inst "Headers" [("_headers", .ref n)], .str k] [] st = some (getD l k, st) := by
  unfold getFn
  refine fs_run rfl (by rfl) ?_
  simp only [b_get, List.cons_append, List.nil_append, List.zip_cons_cons, List.zip_nil_left]
  walk_at "run"
  refine ru_find (ds := l.map HD) (lk := some n) (st1 := st) (st2 := st.set n .dead) (st3 := st) (by decide +kernel) ?_ rfl (unlock_back hs) (fun v => Has v "name" (.str (k.map lowerC)) ∧ Has v "default" .none)
    (getG k) ⟨?_, ?_⟩ ?_ ?_ ?_
  · walk_at "go"
  · walk_at "lk"
  · walk_at "lk"
  · rintro d v hd ⟨hn, hdf⟩
    obtain ⟨⟨a, b⟩, _, rfl⟩ := List.mem_map.mp hd
    refine ⟨_, rfl, ?_⟩
    apply ru_ite
    · walk_at "go"
    · intro h
      walk_at "run"
      refine ru_ret ⟨rfl, ?_, ?_⟩
      · dsimp only [getG] at h ⊢; rw [h]; rfl
      · exact ⟨by walk_at "lk", by walk_at "lk"⟩
    · intro h
      walk_at "run"
      refine ru_next (ru_nil ⟨rfl, ?_, ?_⟩)
      · dsimp only [getG] at h ⊢; rw [h]; rfl
      · exact ⟨by walk_at "lk", by walk_at "lk"⟩
  · rintro v ⟨hn, hdf⟩ hnone
    walk_at "run"
    unfold getD; rw [hnone]; rfl
  · intro v r hr
    unfold getD; rw [hr]; rfl
local macro_rules | `(tactic| walk_at "fn") => `(tactic| ((with_reducible apply get_eq); (focus assumption); walk_at "st"))

def G_plain : Gam := mkGam [] [] [] [] [] [] [] 0
def valuesFn : Fn := fnSt 30 G_plain b_values.1.2 b_values.1.1 (bdPos ["self"])
theorem values_eq {n : Nat} {l : List (List Nat × List Nat)} {st : Sto} (hl : l.length ≤ LIM) (hs : st[n]? = some (.lst (l.map HD))) : valuesFn [.inst "Headers" [("_headers", .ref n)]] [] st = some (.lst (l.map fun p => .str p.2), st) := by
  unfold valuesFn
  refine fs_run rfl (by rfl) ?_
  simp only [b_values, List.zip_cons_cons, List.zip_nil_left]
  apply ru_step
  · apply ex_ret
    refine ev_compM (ds := l.map HD) (lk := some n) (st1 := st) (st3 := st) (fun d => match d with | .tup [_, b] => [b] | _ => []) (by decide +kernel) ?_ rfl (unlock_back hs) (fun d hd => ?_) ?_
    · walk_at "go"
    · obtain ⟨⟨a, b⟩, _, rfl⟩ := List.mem_map.mp hd
      refine ct_one rfl ?_
      walk_at "go"
    · simpa [← List.map_eq_flatMap, List.flatMap_map] using hl
  · walk_at "run"
    simp only [flEnd, List.flatMap_map, ← List.map_eq_flatMap]
local macro_rules | `(tactic| walk_at "fn") => `(tactic| ((with_reducible apply values_eq); (focus (first | assumption | decide | omega)); walk_at "st"))

def G_add : Gam := mkGam [] [] [("_convert_string_type", convFn)] [] [] ["parts"] [] 0
def addFn : Fn := fnSt 40 G_add b_add.1.2 b_add.1.1 (bdDict ["self", "_name", "_value"] "_params")
theorem add_eq {n : Nat} {l : List D} {k x : List Nat} {st : Sto} (hk : printable k = true) (hx : printable x = true) (hl : l.length < LIM) (hs : st[n]? = some (.lst l)) (hll : x.length ≤ LIM) :
    addFn [.inst "Headers" [("_headers", .ref n)], .str k, .str x] [] st = some (.none, (st ++ [Mo.lst [.str x]]).set n (.lst (l ++ [D.tup [.str k, .str x]]))) := by
  unfold addFn
  have hn := st_lt hs
  refine fs_run rfl (by rfl) ?_
  simp only [b_add, List.cons_append, List.nil_append, List.zip_cons_cons, List.zip_nil_left]
  walk_at "run"
  rw [List.nil_append, List.set_append_right _ _ (Nat.le_refl _), Nat.sub_self]
  rfl
end Mine
/-! ## PD -/
set_option autoImplicit false
set_option maxRecDepth 100000
namespace Mine
open PySem PySem.W PyProof.Rows PySem.Calls
local macro_rules | `(tactic| walk_at "lk") => `(tactic| first
  | with_reducible exact lk_here
  | with_reducible exact lk_set
  | ((with_reducible refine lk_there ?_ ?_); (focus decide +kernel); walk_at "lk")
  | ((with_reducible refine lk_put ?_ ?_); (focus decide +kernel); walk_at "lk")
  | with_reducible exact lk_none
  | ((with_reducible refine lk_skip ?_ ?_); (focus decide +kernel); walk_at "lk")
  | ((with_reducible refine lk_comp ?_ ?_); (focus decide +kernel); walk_at "lk")
  | assumption)
local macro_rules | `(tactic| walk_at "go") => `(tactic| first
  | with_reducible exact ev_none
  | with_reducible exact ev_bool
  | with_reducible exact ev_int
  | ((with_reducible apply ev_str); decide +kernel)
  | ((with_reducible apply ev_var); (focus decide +kernel); walk_at "lk")
  | ((with_reducible apply ev_con); (focus decide +kernel); exact mg_con (by walk_at "lk"))
  | ((with_reducible apply ev_binop) <;> walk_at "go")
  | ((with_reducible apply ev_cmp) <;> walk_at "go")
  | ((with_reducible apply ev_slice) <;> walk_at "go")
  | ((with_reducible apply ev_neg) <;> walk_at "go")
  | ((with_reducible apply ev_inv) <;> walk_at "go")
  | ((with_reducible apply ev_not) <;> walk_at "go")
  | ((with_reducible apply me_cons) <;> walk_at "go")
  | ((with_reducible apply mk_cons) <;> walk_at "go")
  | ((with_reducible apply te_not) <;> walk_at "go")
  | ((with_reducible apply te_and) <;> walk_at "go")
  | ((with_reducible apply te_or) <;> walk_at "go")
  | ((with_reducible apply ex_ret) <;> walk_at "go")
  | ((with_reducible apply ex_expr) <;> walk_at "go")
  | ((with_reducible apply ev_fmt) <;> walk_at "go")
  | ((with_reducible apply ev_joined) <;> walk_at "go")
  | with_reducible exact me_nil
  | with_reducible exact mk_nil
  | with_reducible exact rs_nil
  | with_reducible exact ex_break
  | with_reducible exact ae_nil
  | with_reducible exact oe_nil
  | ((with_reducible apply oe_some); walk_at "go")
  | with_reducible exact oe_none'
  | ((with_reducible apply ev_tuple); (focus walk_at "go"); rfl)
  | ((with_reducible apply ev_list); (focus walk_at "go"); rfl)
  | ((with_reducible apply ev_attr); (focus rfl); (focus walk_at "go"); walk_at "lk")
  | ((with_reducible apply ev_item); (focus rfl); all_goals walk_at "go")
  | ((with_reducible apply te_type); (focus rfl); (focus decide +kernel); walk_at "go")
  | ((with_reducible apply te_plain); (focus rfl); (focus rfl); all_goals walk_at "go")
  | ((with_reducible apply ex_set); (focus decide +kernel); walk_at "go")
  | ((with_reducible apply to_plain); (focus rfl); walk_at "go")
  | ((with_reducible apply to_grow); (focus decide +kernel); (focus walk_at "go"); rfl)
  | ((with_reducible apply to_list); (focus decide +kernel); walk_at "go")
  | ((with_reducible apply ev_meth); (focus rfl); (focus decide +kernel); (focus walk_at "go"); (focus exact mg_meth (by walk_at "lk")); (focus walk_at "go"); (focus walk_at "go"); walk_at "fn")
  | ((with_reducible apply ev_methB); (focus rfl); (focus decide +kernel); (focus walk_at "go"); (focus rfl); (focus exact mg_own0 (by walk_at "lk")); (focus (first | rfl | exact rc_append (by walk_at "st"))); (focus walk_at "go"); walk_at "fn")
  | ((with_reducible apply ev_call); (focus decide +kernel); (focus exact mg_fn (by walk_at "lk")); (focus walk_at "go"); (focus walk_at "go"); walk_at "fn")
  | ((with_reducible apply ev_callB); (focus decide +kernel); (focus exact mg_fn0 (by walk_at "lk")); (focus exact mg_bi0 (by walk_at "lk")); (focus walk_at "go"); walk_at "fn")
  | ((with_reducible apply ev_callO); (focus decide +kernel); (focus exact mg_fn0 (by walk_at "lk")); (focus exact mg_bi (by walk_at "lk")); (focus walk_at "go"); walk_at "fn")
  | ((with_reducible apply ev_methO); (focus rfl); (focus decide +kernel); (focus walk_at "go"); (focus rfl); (focus exact mg_own (by walk_at "lk") rfl); (focus walk_at "go"); walk_at "fn")
  | ((with_reducible apply ev_callA); (focus decide +kernel); (focus walk_at "lk"); (focus walk_at "go"); walk_at "fn")
  | ((with_reducible apply ex_for0); (focus decide +kernel); (focus walk_at "go"); walk_at "go")
  | ((with_reducible apply rs_if); (focus walk_at "go"); walk_at "go")
  | ((with_reducible apply fq_next); walk_at "go")
  | (with_reducible exact fq_ret)
  | (with_reducible exact fq_brk)
  | ((with_reducible apply ite_t); walk_at "go")
  | ((with_reducible apply ite_f); walk_at "go")
  | ((with_reducible apply ex_if); (focus walk_at "go"); walk_at "go")
  | ((with_reducible apply ev_if); (focus walk_at "go"); walk_at "go")
  | ((with_reducible apply it_plain); (focus rfl); (focus walk_at "go"); (first | rfl | exact wk_ref (by walk_at "st")))
  | ((with_reducible apply it_call); (focus decide +kernel); (focus walk_at "go"); (first | rfl | exact wk_ref (by walk_at "st")))
  | ((with_reducible apply it_enum); (focus rfl); (focus rfl); (focus decide +kernel); walk_at "go")
  | ((with_reducible apply it_items); (focus decide +kernel); walk_at "go")
  | (with_reducible exact eq_str)
  | (with_reducible exact eq_int)
  | (with_unfolding_all rfl))
local macro_rules | `(tactic| walk_at "run") => `(tactic| first
  | ((with_reducible apply ru_step); (focus walk_at "go"); walk_at "run")
  | ((with_reducible apply ru_next); walk_at "run")
  | ((with_reducible apply ru_ret); (try with_reducible show Run _ _); walk_at "run")
  | ((with_reducible apply ru_brk); (try with_reducible show Run _ _); walk_at "run")
  | ((with_reducible apply ru_nil); (try with_reducible show Run _ _); walk_at "run")
  | skip)
local macro_rules | `(tactic| walk_at "st") => `(tactic| first
  | assumption
  | exact st_last
  | ((with_reducible apply st_left); walk_at "st")
  | ((with_reducible apply st_same); walk_at "st")
  | ((with_reducible refine st_ne ?_ ?_); (focus (first | assumption | omega)); walk_at "st")
  | rfl)
local macro_rules | `(tactic| walk_at "fn") => `(tactic| first
  | ((with_reducible apply mb_search); (focus rfl); assumption)
  | ((with_reducible apply mb_append); (focus walk_at "st"); (first | assumption | decide | omega))
  | ((with_reducible apply ap_ok); (focus walk_at "st"); (first | assumption | decide | omega))
  | ((with_reducible apply mb_join); (focus (first | exact items_ref (by walk_at "st") | rfl)); (focus rfl); (first | assumption | decide))
  | (with_unfolding_all rfl))
set_option maxHeartbeats 4000000
def ifmtFn : Fn := fnPure 20 G_plain b_ifmt.1.2 b_ifmt.1.1 (bdPos ["mode"])
theorem ifmt_eq {m : Int} {st : Sto} : ifmtFn [.int m] [] st = some (.int (Builtin.bitAnd m 61440), st) := by
  unfold ifmtFn
  refine fp_run rfl rfl (by rfl) ?_
  simp only [b_ifmt, List.zip_cons_cons, List.zip_nil_left]
  walk_at "run"
  exact ⟨_, _, rfl, rfl⟩
local macro_rules | `(tactic| walk_at "fn") => `(tactic| with_reducible exact ifmt_eq)

def rowD (i : Int) (c : Nat) : D := .tup [.int i, .str [c]]
def fmTab : List D := [.tup [rowD 40960 108, rowD 49152 115, rowD 32768 45, rowD 24576 98, rowD 16384 100, rowD 8192 99, rowD 4096 112], .tup [rowD 256 114], .tup [rowD 128 119], .tup [rowD 2112 115, rowD 2048 83, rowD 64 120],
    .tup [rowD 32 114], .tup [rowD 16 119], .tup [rowD 1032 115, rowD 1024 83, rowD 8 120], .tup [rowD 4 114], .tup [rowD 2 119], .tup [rowD 513 116, rowD 512 84, rowD 1 120]]
def rowHit (m i : Int) : D → Bool
  | .tup [.int b, .str _] => if i = 0 then Builtin.bitAnd m 61440 == b else Builtin.bitAnd m b == b
  | _ => false
def rowC : D → Nat
  | .tup [_, .str [c]] => c
  | _ => 0
def charN (m : Int) : D → Nat
  | .tup [.int i, .tup rows] => match rows.find? (rowHit m i) with
    | some r => rowC r
    | none => if i = 0 then 63 else 45
  | _ => 0
def filemodeL (m : Int) : List Nat := (enumD 0 fmTab).map (charN m)
def isRow : D → Bool
  | .tup [.int _, .str [_]] => true
  | _ => false
def isTab : D → Bool
  | .tup [.int _, .tup rows] => rows.all isRow
  | _ => false
theorem isRow_of {d : D} (h : isRow d = true) : ∃ b c, d = rowD b c := by
  unfold isRow at h
  split at h
  · exact ⟨_, _, rfl⟩
  · cases h
theorem fm_all : (enumD 0 fmTab).all isTab = true := by decide +kernel
theorem fm_shape : ∀ d ∈ enumD 0 fmTab, ∃ i rows, d = .tup [.int i, .tup rows] ∧ ∀ r ∈ rows, ∃ b c, r = rowD b c := by
  intro d hd
  have := List.all_eq_true.mp fm_all d hd
  unfold isTab at this
  split at this
  · exact ⟨_, _, rfl, fun r hr => isRow_of (List.all_eq_true.mp this r hr)⟩
  · cases this
def G_filemode : Gam := mkGam [("S_IFMT", ifmtFn)] [("_filemode_table", .tup fmTab)] [] [] [] ["perm"] [] 0
def filemodeFn : Fn := fnPure 40 G_filemode b_filemode.1.2 b_filemode.1.1 (bdPos ["mode"])
theorem filemode_eq {m : Int} {st : Sto} : filemodeFn [.int m] [] st = some (.str (filemodeL m), st) := by
  unfold filemodeFn
  refine fp_run rfl rfl (by rfl) ?_
  simp only [b_filemode, List.zip_cons_cons, List.zip_nil_left]
  walk_at "run"
  apply ru_seq (Q' := fun f v s => f = .next ∧ s = [.lst ((filemodeL m).map fun c => .str [c])] ∧ Has v "perm" (.ref 0))
  · refine ru_for0 (ds := enumD 0 fmTab) (st1 := [.lst []]) (by decide +kernel) ?_ ?_
    · with_reducible apply it_enum
      · rfl
      · rfl
      · decide +kernel
      · walk_at "go"
    · refine ru_for_inv (fun pre v s => s = [.lst ((pre.map (charN m)).map fun c => .str [c])] ∧ Has v "perm" (.ref 0) ∧ Has v "mode" (.int m)) ⟨rfl, ?_, ?_⟩ ?_ ?_
      · exact lk_set
      · walk_at "lk"
      · rintro pre d post v s hd ⟨rfl, hp, hm⟩
        obtain ⟨i, rows, rfl, hr⟩ := fm_shape d (by rw [hd]; simp)
        have hlen : (List.map (fun c => D.str [c]) (List.map (charN m) pre)).length < LIM := by
          have := congrArg List.length hd
          rw [List.length_append, show (enumD 0 fmTab).length = 10 from rfl] at this
          rw [List.length_map, List.length_map]; unfold LIM; omega
        refine ⟨_, rfl, ?_⟩
        apply ru_seq (Q' := fun f v2 st2 => f = .next ∧ st2 = [Mo.lst (((pre ++ [D.tup [D.int i, D.tup rows]]).map (charN m)).map fun c => .str [c])] ∧ Has v2 "perm" (.ref 0) ∧ Has v2 "mode" (.int m))
        · refine ru_for0 (ds := rows) (st1 := [Mo.lst ((pre.map (charN m)).map fun c => .str [c])]) (by decide +kernel) ?_ ?_
          · walk_at "go"
          · refine ru_for_brk (fun v => Has v "perm" (.ref 0) ∧ Has v "mode" (.int m) ∧ Has v "index" (.int i)) (rowHit m i) (fun d => [Mo.lst (((pre.map (charN m)).map fun c => .str [c]) ++ [.str [rowC d]])]) ⟨?_, ?_, ?_⟩ ?_ ?_ ?_
            · walk_at "lk"
            · walk_at "lk"
            · walk_at "lk"
            · rintro r v hrm ⟨hp, hm, hi⟩
              obtain ⟨b, c, rfl⟩ := hr r hrm
              refine ⟨_, rfl, ?_⟩
              apply ru_ite
              · walk_at "go"
              · intro h
                have hi0 : i = 0 := by simpa using h
                subst hi0
                apply ru_ite
                · walk_at "go"
                · intro h2
                  walk_at "run"
                  refine ⟨⟨by walk_at "lk", by walk_at "lk", by walk_at "lk"⟩, .inl ⟨?_, rfl, rfl⟩⟩
                  simpa [rowHit, rowD] using h2
                · intro h2
                  walk_at "run"
                  refine ⟨⟨by walk_at "lk", by walk_at "lk", by walk_at "lk"⟩, .inr ⟨?_, rfl, rfl⟩⟩
                  simpa [rowHit, rowD] using h2
              · intro h
                have hi0 : i ≠ 0 := by simpa using h
                apply ru_ite
                · walk_at "go"
                · intro h2
                  walk_at "run"
                  refine ⟨⟨by walk_at "lk", by walk_at "lk", by walk_at "lk"⟩, .inl ⟨?_, rfl, rfl⟩⟩
                  simpa [rowHit, rowD, hi0] using h2
                · intro h2
                  walk_at "run"
                  refine ⟨⟨by walk_at "lk", by walk_at "lk", by walk_at "lk"⟩, .inr ⟨?_, rfl, rfl⟩⟩
                  simpa [rowHit, rowD, hi0] using h2
            · rintro v ⟨hp, hm, hi⟩ hnone
              apply ru_ite
              · walk_at "go"
              · intro h
                have hi0 : i = 0 := by simpa using h
                subst hi0
                walk_at "run"
                refine ⟨rfl, ?_, by walk_at "lk", by walk_at "lk"⟩
                simp [charN, hnone]
                kernel_rfl
              · intro h
                have hi0 : i ≠ 0 := by simpa using h
                walk_at "run"
                refine ⟨rfl, ?_, by walk_at "lk", by walk_at "lk"⟩
                simp [charN, hnone, hi0]
                kernel_rfl
            · rintro v d ⟨hp, hm, hi⟩ hsome
              refine ⟨rfl, ?_, hp, hm⟩
              simp [charN, hsome]
        · rintro f v2 st2 ⟨rfl, rfl, h1, h2⟩
          exact ru_next (ru_nil ⟨rfl, rfl, h1, h2⟩)
      · rintro v s ⟨rfl, hp, hm⟩
        exact ru_nil ⟨rfl, rfl, hp⟩
  · rintro f v s ⟨rfl, rfl, hp⟩
    apply ru_next
    apply ru_step
    · apply ex_ret
      apply ev_methB
      · rfl
      · decide +kernel
      · walk_at "go"
      · rfl
      · exact mg_own0 (by walk_at "lk")
      · rfl
      · walk_at "go"
      · exact mb_join (items_ref rfl) (join_one _) (by unfold filemodeL; simp; decide)
    · walk_at "run"
      exact ⟨_, _, rfl, rfl⟩

theorem fm_rows : (enumD 0 fmTab).all (fun d => match d with | .tup [_, .tup rows] => rows.all (fun r => decide (32 ≤ rowC r) && decide (rowC r < 127)) | _ => false) = true := by decide +kernel
theorem fm_print {m : Int} : printable (filemodeL m) = true := by
  unfold printable filemodeL
  rw [List.all_map, List.all_eq_true]
  intro d hd
  have h1 := List.all_eq_true.mp fm_rows d hd
  obtain ⟨i, rows, rfl, hr⟩ := fm_shape d hd
  have e : charN m (.tup [.int i, .tup rows]) = (match rows.find? (rowHit m i) with | some r => rowC r | none => if i = 0 then 63 else 45) := rfl
  have key : 32 ≤ charN m (.tup [.int i, .tup rows]) ∧ charN m (.tup [.int i, .tup rows]) < 127 := by
    rw [e]
    cases hf : rows.find? (rowHit m i) with
    | some r =>
      have := List.all_eq_true.mp h1 r (List.mem_of_find?_eq_some hf)
      simpa using this
    | none => by_cases h0 : i = 0 <;> simp [h0]
  simpa using key
theorem fm_len {m : Int} : (filemodeL m).length = 10 := by
  unfold filemodeL; rw [List.length_map]; rfl
end Mine
/-! ## PE -/
set_option autoImplicit false
set_option maxRecDepth 100000
namespace Mine
open PySem PySem.W PyProof.Rows PySem.Calls PySem.Challenge
def b_translate : { b : BS // defAt pw_kt0068_08 10 = b } := ⟨_, by (conv => lhs; whnf)⟩
def b_tr : { b : BS // defAt pw_kt0068_08 15 = b } := ⟨_, by (conv => lhs; whnf)⟩
def b_join : { b : BS // defAt pw_kt0068_08 16 = b } := ⟨_, by (conv => lhs; whnf)⟩
def G_tr : Gam := mkGam [("escape", escFn)] [] [] [] [("replace", (replG, replFn))] ["res"] ["_twin_re_1"] 100
def trFn : Fn := fnSt 40 G_tr b_tr.1.2 b_tr.1.1 (bdPos ["pat", "STAR", "QUESTION_MARK"])
def G_join : Gam := mkGam [] [] [] [] [] ["res", "fixed"] [] 100
def joinFn : Fn := fnSt 40 G_join b_join.1.2 b_join.1.1 (bdPos ["inp", "STAR"])
def G_translate : Gam := mkGam [("_translate", trFn), ("_join_translated_parts", joinFn)] [] [] [] [] [] [] 0
def translateFn : Fn := fnPure 20 G_translate b_translate.1.2 b_translate.1.1 (bdPos ["pat"])
def cs (s : String) : List Nat := s.toList.map Char.toNat
theorem tr_test (st : Sto) : translateFn [.str (cs "???[xst]*")] [] st = some (.str (cs "(?s:...[xst].*)\\Z"), st) := by kernel_rfl
end Mine
/-! ## PG -/
set_option autoImplicit false
set_option maxRecDepth 100000
namespace Mine
open PySem PySem.W PyProof.Rows PySem.Calls

theorem mem_ints {d : D} : ∀ {n : Nat} {a : Int}, d ∈ intsD a n → ∃ i : Nat, i < n ∧ d = .int (a + i)
  | 0, _, h => by cases h
  | n + 1, a, h => by
    unfold intsD at h
    rcases List.mem_cons.mp h with rfl | h
    · exact ⟨0, by omega, by simp⟩
    · obtain ⟨i, hi, rfl⟩ := mem_ints h
      exact ⟨i + 1, by omega, by congr 1; omega⟩
theorem ints_eq : ∀ (n : Nat) (a : Int), intsD a n = (List.range n).map fun (i : Nat) => D.int (a + i)
  | 0, _ => rfl
  | n + 1, a => by
    unfold intsD
    rw [ints_eq n (a + 1), List.range_succ_eq_map, List.map_cons, List.map_map]
    congr 1
    · simp
    · refine List.map_congr_left fun i _ => ?_
      simp only [Function.comp]; congr 1; omega
theorem index_ok {len i : Nat} (h : i < len) : index? len (i : Int) = some i := by
  unfold index? seqIndex?
  have h1 : ¬ ((i : Int) < 0) := by omega
  simp only [h1, if_false]
  rw [if_pos (by simp; omega)]
  simp
section
variable {n m : Nat} {Γ : Gam} {sc csc : Scope} {v v1 v2 : Vars} {st st1 st2 st3 : Sto} {a b c d d1 d2 : D} {pos p q p1 : Pos} {e elt it : Expr} {x : Str} {ds es : List D} {lk : Option Nat} {α : Type}

/-- a comprehension over what is a list of such data -/
theorem ev_overC {l : List α} {g : α → D} {f : α → D} {t : Expr} (hc : (compOk sc csc && targetOk csc t) = true) (hi : iterE (m + 1) Γ sc v (isTuple t) it st = some (l.map g, lk, st1)) (hl : st1.lock lk = st2) (hu : st2.unlock (l.map g) lk = st3) 
    (hb : ∀ i ∈ l, ∃ v1, st2.assign t (g i) (compVars csc v) = some v1 ∧ evalE m Γ csc v1 elt st2 = some (f i, st2)) (hlen : l.length ≤ LIM) :
    evalE (m + 2) Γ sc v (.ListComp elt [⟨t, it, [], 0⟩] csc pos) st = some (.lst (l.map f), st3) := by
  have := ev_comp (n := m + 1) (pos := pos) (elt := elt) (ifs := []) (st2 := st2) (out := l.map f) hc hi (by
    rw [hl]
    clear hi hu hlen hl
    induction l with
    | nil => rfl
    | cons i l ih =>
      obtain ⟨v1, h1, h2⟩ := hb i (.head _)
      exact cl_cons (ct_one h1 h2) (ih fun i hi => hb i (.tail _ hi))) (by rw [List.length_map]; exact hlen)
  rw [this, hu]
theorem ev_overF {l : List α} {g : α → D} {f : α → D} {t y : Expr} {pr : α → Bool} (hc : (compOk sc csc && targetOk csc t) = true) (hi : iterE (m + 1) Γ sc v (isTuple t) it st = some (l.map g, lk, st1)) (hl : st1.lock lk = st2) (hu : st2.unlock (l.map g) lk = st3) 
    (hb : ∀ i ∈ l, ∃ v1, st2.assign t (g i) (compVars csc v) = some v1 ∧ testE m Γ csc v1 y st2 = some (pr i, st2) ∧ (pr i = true → evalE m Γ csc v1 elt st2 = some (f i, st2))) (hlen : l.length ≤ LIM) :
    evalE (m + 2) Γ sc v (.ListComp elt [⟨t, it, [y], 0⟩] csc pos) st = some (.lst ((l.filter pr).map f), st3) := by
  have := ev_comp (n := m + 1) (pos := pos) (elt := elt) (ifs := [y]) (st2 := st2) (out := (l.filter pr).map f) hc hi (by
    rw [hl]
    clear hi hu hlen hl
    induction l with
    | nil => rfl
    | cons i l ih =>
      obtain ⟨v1, h1, h2, h3⟩ := hb i (.head _)
      have h := cl_cons (ct_filter h1 h2 h3) (ih fun i hi => hb i (.tail _ hi))
      rw [List.map_cons, h, List.filter_cons]
      cases pr i <;> rfl) (by rw [List.length_map]; exact Nat.le_trans (List.length_filter_le _ _) hlen)
  rw [this, hu]

/-- range(N) gone over -/
theorem it_range {N : Nat} {pairs : Bool} {k : Nat} (hk : gloKind sc "range" = true) (hF : Γ.fn "range" = none) (hB : Γ.bi "range" = none) (hN : N ≤ 1048576) (he : evalE m Γ sc v e st = some (.int N, st1)) : iterE (m + 2) Γ sc v pairs (.Call (.Name "range" p) [e] [] q) st = some ((List.range N).map fun (i : Nat) => D.int i, none, st1) := by
  refine it_call (by decide) (ev_callB (st1 := st1) (ds := [.int N]) hk hF hB (me_cons he me_nil) (R := some (.rng 0 N, st1)) ?_) ?_
  · show (if ((N : Int) ≤ 1048576 ∧ -1048576 ≤ (N : Int)) then some (D.rng 0 N, st1) else none) = _
    rw [if_pos (by omega)]
  · show some (intsD 0 (((N : Int)) - 0).toNat, none) = _
    rw [ints_eq]
    simp
theorem nm_assign {i : D} : st.assign (.Name x p) i v = some (setVar v x i) := rfl

theorem bo_add {i j : Int} : binop st .Add (.int i) (.int j) = some (.int (i + j)) := rfl
theorem bo_sub {i j : Int} : binop st .Sub (.int i) (.int j) = some (.int (i - j)) := rfl
theorem bo_pow {i j : Int} (h0 : 0 ≤ j) (h1 : j ≤ 64) (h2 : i.natAbs < 1073741824) : binop st .Pow (.int i) (.int j) = some (.int (i ^ j.toNat)) := by
  show (if j < 0 ∨ 64 < j ∨ 1073741824 ≤ i.natAbs then none else some (D.int (i ^ j.toNat))) = _
  rw [if_neg (by omega)]
theorem bo_div {i j : Int} (h0 : j ≠ 0) (h1 : j.natAbs < 1073741824) : binop st .FloorDiv (.int i) (.int j) = some (.int (i.fdiv j)) := by
  show (if j = 0 ∨ 1073741824 ≤ j.natAbs then none else some (D.int (i.fdiv j))) = _
  rw [if_neg (by omega)]
theorem bo_mod {i j : Int} (h0 : j ≠ 0) : binop st .Mod (.int i) (.int j) = some (.int (i.fmod j)) := by
  show (if j = 0 then none else some (D.int (i.fmod j))) = _
  rw [if_neg h0]
theorem bo_mul {i j : Int} (h : j.natAbs < 1073741824 ∨ i.natAbs < 1073741824) : binop st .Mult (.int i) (.int j) = some (.int (i * j)) := by
  show (if j.natAbs < 1073741824 ∨ i.natAbs < 1073741824 then some (D.int (i * j)) else none) = _
  rw [if_pos h]
theorem p2_ne {e : Nat} : (2 : Int) ^ e ≠ 0 := by
  have : (0 : Int) < 2 ^ e := Int.pow_pos (by decide)
  omega
theorem p2_lt {e : Nat} (h : e < 30) : ((2 : Int) ^ e).natAbs < 1073741824 := by
  rw [Int.natAbs_pow]
  show 2 ^ e < 2 ^ 30
  exact Nat.pow_lt_pow_right (by decide) h
theorem im_lst {l : List D} {i : Nat} (h : l[i]? = some d) : item st (.lst l) (.int i) = some d := by
  have hi := (List.getElem?_eq_some_iff.mp h).1
  unfold item Sto.items
  simp only [Option.bind_eq_bind, Option.bind_some]
  rw [show index? l.length (i : Int) = some i from index_ok hi]
  simpa using h
theorem im_tup {l : List D} {i : Nat} (h : l[i]? = some d) : item st (.tup l) (.int i) = some d := by
  have hi := (List.getElem?_eq_some_iff.mp h).1
  unfold item Sto.items
  simp only [Option.bind_eq_bind, Option.bind_some]
  rw [show index? l.length (i : Int) = some i from index_ok hi]
  simpa using h
theorem im_str {l : List Nat} {i k : Nat} (h : l[i]? = some k) : item st (.str l) (.int i) = some (.str [k]) := by
  have hi := (List.getElem?_eq_some_iff.mp h).1
  unfold item
  simp only [Option.bind_eq_bind]
  rw [show index? l.length (i : Int) = some i from index_ok hi]
  simp [h]
theorem in_ints {l : List Nat} {j : Nat} : isIn st (.int j) (.lst (l.map fun (i : Nat) => D.int i)) = some (l.contains j) := by
  have h1 : ∀ l : List Nat, (l.map fun (i : Nat) => D.int i).all (D.ok 16) = true := fun l => by
    rw [List.all_map]; exact List.all_eq_true.mpr fun _ _ => rfl
  show (if (D.ok 16 (D.int j) && (l.map fun (i : Nat) => D.int i).all (D.ok 16)) = true then some ((l.map fun (i : Nat) => D.int i).any fun x => D.beq x (.int j)) else none) = _
  rw [h1, if_pos (by rfl : (D.ok 16 (D.int j) && true) = true), List.any_map]
  congr 1
  induction l with
  | nil => rfl
  | cons a l ih =>
    rw [List.any_cons, List.contains_cons, ih]
    congr 1
    show ((a : Int) == (j : Int)) = (j == a)
    by_cases h : a = j
    · subst h; simp
    · have h' : ¬ ((a : Int) = (j : Int)) := fun e => h (Int.ofNat.inj e)
      rw [beq_eq_false_iff_ne.mpr h', beq_eq_false_iff_ne.mpr (Ne.symm h)]
theorem cm_in {l : List Nat} {j : Nat} : cmp st .In (.int j) (.lst (l.map fun (i : Nat) => D.int i)) = some (l.contains j) := in_ints (st := st)
theorem cm_notin {l : List Nat} {j : Nat} : cmp st .NotIn (.int j) (.lst (l.map fun (i : Nat) => D.int i)) = some !(l.contains j) := by
  show (isIn st _ _).map not = _
  rw [in_ints]; rfl
theorem cm_ne_nil {l : List D} (h : l.all (D.ok 15) = true) : cmp st .NotEq (.lst l) (.lst []) = some !l.isEmpty := by
  have h' : (D.ok 16 (.lst l)) = true := h
  show (eqD st (.lst l) (.lst [])).map not = _
  unfold eqD Sto.now
  simp only [h', Bool.true_and]
  rw [if_pos (by rfl : D.ok 16 (.lst []) = true)]
  cases l <;> rfl
theorem cm_eq_nil {l : List D} (h : l.all (D.ok 15) = true) : cmp st .Eq (.lst l) (.lst []) = some l.isEmpty := by
  have h' : (D.ok 16 (.lst l)) = true := h
  show eqD st (.lst l) (.lst []) = _
  unfold eqD Sto.now
  simp only [h', Bool.true_and]
  rw [if_pos (by rfl : D.ok 16 (.lst []) = true)]
  cases l <;> rfl
theorem ok_ints {n : Nat} {l : List Nat} : (l.map fun (i : Nat) => D.int i).all (D.ok n) = true := by
  rw [List.all_map]; exact List.all_eq_true.mpr fun _ _ => by simp [D.ok]
theorem sumD_map {α : Type} {f : α → Int} : ∀ (l : List α) (a : Int), sumD (l.map fun i => .int (f i)) a = some (l.foldl (fun a i => a + f i) a)
  | [], _ => rfl
  | i :: l, a => sumD_map l (a + f i)
theorem bi_sum {α : Type} {f : α → Int} {l : List α} : builtin st "sum" [.lst (l.map fun i => .int (f i))] = some (.int (l.foldl (fun a i => a + f i) 0), st) := by
  have h : builtin st "sum" [.lst (l.map fun i => .int (f i))] = (do some (.int (← sumD (l.map fun i => .int (f i)) 0), st)) := by rfl
  rw [h, sumD_map]; rfl
theorem bi_lenL {l : List D} : builtin st "len" [.lst l] = some (.int l.length, st) := rfl
theorem bi_lenS {l : List D} : builtin st "len" [.scr l] = some (.int l.length, st) := rfl
mutual
theorem D.beq_self : ∀ (n : Nat) (d : D), D.ok n d = true → D.beq d d = true
  | _, .none, _ => rfl
  | _, .bool b, _ => by simp [D.beq]
  | _, .int i, _ => by simp [D.beq]
  | _, .str s, _ => by simp [D.beq]
  | n + 1, .tup l, h => by unfold D.beq; exact D.beqs_self n l (by simpa [D.ok] using h)
  | n + 1, .lst l, h => by unfold D.beq; exact D.beqs_self n l (by simpa [D.ok] using h)
  | 0, .tup _, h => by simp [D.ok] at h
  | 0, .lst _, h => by simp [D.ok] at h
  | _, .ref _, h => by simp [D.ok] at h
  | _, .app _, h => by simp [D.ok] at h
  | _, .rng _ _, h => by simp [D.ok] at h
  | _, .dic0, h => by simp [D.ok] at h
  | _, .pat _, h => by simp [D.ok] at h
  | _, .inst _ _, h => by simp [D.ok] at h
  | _, .scr _, h => by simp [D.ok] at h
theorem D.beqs_self : ∀ (n : Nat) (l : List D), (∀ x ∈ l, D.ok n x = true) → D.beqs l l = true
  | _, [], _ => rfl
  | n, a :: l, h => by
    unfold D.beqs
    rw [D.beq_self n a (h a (.head _)), D.beqs_self n l fun x hx => h x (.tail _ hx)]; rfl
end
theorem cm_eq_self {l : List D} (h : D.ok 16 (.lst l) = true) : cmp st .Eq (.lst l) (.lst l) = some true := by
  show eqD st (.lst l) (.lst l) = _
  unfold eqD Sto.now
  simp only [h, Bool.and_self, if_true]
  rw [D.beq_self 16 _ h]
theorem pure_map {α : Type} {g : α → D} {l : List α} (h : ∀ i, (g i).pure = true) : D.pures (l.map g) = true := by
  induction l with
  | nil => rfl
  | cons i l ih => rw [List.map_cons]; unfold D.pures; rw [h, ih]; rfl
theorem rg_get {k n : Nat} {f : Nat → D} (h : k < n) : ((List.range n).map f)[k]? = some (f k) := by
  rw [List.getElem?_map, List.getElem?_range h]; rfl
theorem rg_im {k n : Nat} {f : Nat → D} (h : k < n) : item st (.lst ((List.range n).map f)) (.int k) = some (f k) := im_lst (rg_get h)
end
end Mine
/-! ## Q1 -/
set_option autoImplicit false
set_option maxRecDepth 100000
namespace Mine
open PySem PySem.W PyProof.Rows PySem.Calls PySem.Challenge
local macro_rules | `(tactic| walk_at "lk") => `(tactic| first
  | with_reducible exact lk_here
  | with_reducible exact lk_set
  | ((with_reducible apply lk_there); (focus decide +kernel); walk_at "lk")
  | ((with_reducible apply lk_put); (focus decide +kernel); walk_at "lk")
  | with_reducible exact lk_none
  | ((with_reducible apply lk_skip); (focus decide +kernel); walk_at "lk")
  | ((with_reducible apply lk_comp); (focus decide +kernel); walk_at "lk")
  | assumption)
local macro_rules | `(tactic| walk_at "go") => `(tactic| first
  | with_reducible exact ev_none
  | with_reducible exact ev_bool
  | with_reducible exact ev_int
  | ((with_reducible apply ev_str); decide +kernel)
  | ((with_reducible apply ev_var); (focus decide +kernel); walk_at "lk")
  | ((with_reducible apply ev_con); (focus decide +kernel); exact mg_con (by walk_at "lk"))
  | ((with_reducible apply ev_binop) <;> walk_at "go")
  | ((with_reducible apply ev_cmp) <;> walk_at "go")
  | ((with_reducible apply ev_slice) <;> walk_at "go")
  | ((with_reducible apply ev_neg) <;> walk_at "go")
  | ((with_reducible apply ev_inv) <;> walk_at "go")
  | ((with_reducible apply ev_not) <;> walk_at "go")
  | ((with_reducible apply me_cons) <;> walk_at "go")
  | ((with_reducible apply mk_cons) <;> walk_at "go")
  | ((with_reducible apply te_not) <;> walk_at "go")
  | ((with_reducible apply te_and) <;> walk_at "go")
  | ((with_reducible apply te_or) <;> walk_at "go")
  | ((with_reducible apply ex_ret) <;> walk_at "go")
  | ((with_reducible apply ex_expr) <;> walk_at "go")
  | ((with_reducible apply ev_fmt) <;> walk_at "go")
  | ((with_reducible apply ev_joined) <;> walk_at "go")
  | with_reducible exact me_nil
  | with_reducible exact mk_nil
  | with_reducible exact rs_nil
  | with_reducible exact ex_break
  | with_reducible exact ae_nil
  | with_reducible exact oe_nil
  | ((with_reducible apply oe_some); walk_at "go")
  | with_reducible exact oe_none'
  | ((with_reducible apply ev_tuple); (focus walk_at "go"); rfl)
  | ((with_reducible apply ev_list); (focus walk_at "go"); rfl)
  | ((with_reducible apply ev_attr); (focus rfl); (focus walk_at "go"); walk_at "lk")
  | ((with_reducible apply ev_item); (focus rfl); all_goals walk_at "go")
  | ((with_reducible apply te_type); (focus rfl); (focus decide +kernel); walk_at "go")
  | ((with_reducible apply te_plain); (focus rfl); (focus rfl); all_goals walk_at "go")
  | ((with_reducible apply ex_set); (focus decide +kernel); walk_at "go")
  | ((with_reducible apply to_plain); (focus rfl); walk_at "go")
  | ((with_reducible apply to_grow); (focus decide +kernel); (focus walk_at "go"); rfl)
  | ((with_reducible apply to_list); (focus decide +kernel); walk_at "go")
  | ((with_reducible apply ev_meth); (focus rfl); (focus decide +kernel); (focus walk_at "go"); (focus exact mg_meth (by walk_at "lk")); (focus walk_at "go"); (focus walk_at "go"); walk_at "fn")
  | ((with_reducible apply ev_methB); (focus rfl); (focus decide +kernel); (focus walk_at "go"); (focus rfl); (focus exact mg_own0 (by walk_at "lk")); (focus (first | rfl | exact rc_append (by walk_at "st"))); (focus walk_at "go"); walk_at "fn")
  | ((with_reducible apply ev_call); (focus decide +kernel); (focus exact mg_fn (by walk_at "lk")); (focus walk_at "go"); (focus walk_at "go"); walk_at "fn")
  | ((with_reducible apply ev_callB); (focus decide +kernel); (focus exact mg_fn0 (by walk_at "lk")); (focus exact mg_bi0 (by walk_at "lk")); (focus walk_at "go"); walk_at "fn")
  | ((with_reducible apply ev_callO); (focus decide +kernel); (focus exact mg_fn0 (by walk_at "lk")); (focus exact mg_bi (by walk_at "lk")); (focus walk_at "go"); walk_at "fn")
  | ((with_reducible apply ev_methO); (focus rfl); (focus decide +kernel); (focus walk_at "go"); (focus rfl); (focus exact mg_own (by walk_at "lk") rfl); (focus walk_at "go"); walk_at "fn")
  | ((with_reducible apply ev_callA); (focus decide +kernel); (focus walk_at "lk"); (focus walk_at "go"); walk_at "fn")
  | ((with_reducible apply ex_for0); (focus decide +kernel); (focus walk_at "go"); walk_at "go")
  | ((with_reducible apply rs_if); (focus walk_at "go"); walk_at "go")
  | ((with_reducible apply fq_next); walk_at "go")
  | (with_reducible exact fq_ret)
  | (with_reducible exact fq_brk)
  | ((with_reducible apply ite_t); walk_at "go")
  | ((with_reducible apply ite_f); walk_at "go")
  | ((with_reducible apply ex_if); (focus walk_at "go"); walk_at "go")
  | ((with_reducible apply ev_if); (focus walk_at "go"); walk_at "go")
  | ((with_reducible apply it_plain); (focus rfl); (focus walk_at "go"); (first | rfl | exact wk_ref (by walk_at "st")))
  | ((with_reducible apply it_call); (focus decide +kernel); (focus walk_at "go"); (first | rfl | exact wk_ref (by walk_at "st")))
  | ((with_reducible apply it_enum); (focus rfl); (focus rfl); (focus decide +kernel); walk_at "go")
  | ((with_reducible apply it_items); (focus decide +kernel); walk_at "go")
  | ((with_reducible apply bo_pow); (focus omega); (focus omega); decide)
  | ((with_reducible apply bo_div); (focus (first | decide | exact p2_ne)); (first | decide | exact p2_lt (by omega)))
  | ((with_reducible apply bo_mod); (first | decide | exact p2_ne))
  | (with_reducible exact cm_in)
  | (with_reducible exact cm_notin)
  | ((with_reducible apply it_range); (focus decide +kernel); (focus exact mg_fn0 (by walk_at "lk")); (focus exact mg_bi0 (by walk_at "lk")); (focus omega); walk_at "go")
  | (with_reducible exact eq_str)
  | (with_reducible exact eq_int)
  | (with_unfolding_all rfl))
local macro_rules | `(tactic| walk_at "run") => `(tactic| first
  | ((with_reducible apply ru_step); (focus walk_at "go"); walk_at "run")
  | ((with_reducible apply ru_next); walk_at "run")
  | ((with_reducible apply ru_ret); (try with_reducible show Run _ _); walk_at "run")
  | ((with_reducible apply ru_brk); (try with_reducible show Run _ _); walk_at "run")
  | ((with_reducible apply ru_nil); (try with_reducible show Run _ _); walk_at "run")
  | skip)
local macro_rules | `(tactic| walk_at "st") => `(tactic| first
  | assumption
  | exact st_last
  | ((with_reducible apply st_left); walk_at "st")
  | ((with_reducible apply st_same); walk_at "st")
  | ((with_reducible refine st_ne ?_ ?_); (focus (first | assumption | omega)); walk_at "st")
  | rfl)
local macro_rules | `(tactic| walk_at "fn") => `(tactic| first
  | ((with_reducible apply mb_search); (focus rfl); assumption)
  | ((with_reducible apply mb_append); (focus walk_at "st"); (first | assumption | decide | omega))
  | ((with_reducible apply ap_ok); (focus walk_at "st"); (first | assumption | decide | omega))
  | ((with_reducible apply mb_join); (focus (first | exact items_ref (by walk_at "st") | rfl)); (focus rfl); (first | assumption | decide))
  | (with_unfolding_all rfl))

set_option maxHeartbeats 4000000
def b_wards : { b : BS // defAt pw_kt0068_08 41 = b } := ⟨_, by (conv => lhs; whnf)⟩
def b_behind : { b : BS // defAt pw_kt0068_08 42 = b } := ⟨_, by (conv => lhs; whnf)⟩
def b_sign : { b : BS // defAt pw_kt0068_08 43 = b } := ⟨_, by (conv => lhs; whnf)⟩
def b_table : { b : BS // defAt pw_kt0068_08 44 = b } := ⟨_, by (conv => lhs; whnf)⟩
def b_told : { b : BS // defAt pw_kt0068_08 45 = b } := ⟨_, by (conv => lhs; whnf)⟩
def b_law : { b : BS // defAt pw_kt0068_08 46 = b } := ⟨_, by (conv => lhs; whnf)⟩
def bit (ns : List Int) (k j : Nat) : Int := ((ns.getD k 0).fdiv (2 ^ (8 - j))).fmod 2
def bitN (n : Int) (j : Nat) : Int := (n.fdiv (2 ^ (8 - j))).fmod 2
def wd (ns : List Int) (k j : Nat) : Bool := decide (bit ns j k < bit ns k j)
def wards (ns : List Int) (k : Nat) : List Nat := (List.range 9).filter (wd ns k)
abbrev natsD (l : List Nat) : D := .lst (l.map fun (i : Nat) => D.int i)
def wardsD (ns : List Int) : D := .lst ((List.range 9).map fun k => natsD (wards ns k))
def wardsFn : Fn := fnPure 30 G_plain b_wards.1.2 b_wards.1.1 (bdPos ["numbers"])
theorem wards_eq {ns : List Int} {st : Sto} (hn : ns.length = 9) : wardsFn [.lst (ns.map .int)] [] st = some (wardsD ns, st) := by
  unfold wardsFn
  have hp : (D.pures [.lst (ns.map .int)] && D.puresK []) = true := by
    have := pure_map (g := D.int) (l := ns) fun _ => rfl
    simp [D.pures, D.puresK, D.pure, this]
  refine fp_run hp rfl (by rfl) ?_
  simp only [b_wards, List.zip_cons_cons, List.zip_nil_left]
  apply ru_step (v1 := setVar _ "bits" (.lst (ns.map fun n => .lst ((List.range 9).map fun j => .int (bitN n j)))))
  · apply ex_set
    · decide +kernel
    · apply to_plain
      · rfl
      · refine ev_overC (l := ns) (g := .int) (lk := none) (st1 := []) (st2 := []) (st3 := []) (by decide +kernel) ?_ rfl rfl (fun n _ => ⟨_, nm_assign, ?_⟩) ?_
        · walk_at "go"
        · refine ev_overC (l := List.range 9) (g := fun (i : Nat) => .int i) (lk := none) (st1 := []) (st2 := []) (st3 := []) (by decide +kernel) ?_ rfl rfl (fun j hj => ⟨_, nm_assign, ?_⟩) ?_
          · walk_at "go"
          · have hj : j < 9 := by simpa using hj
            have he : (8 - (j : Int)).toNat = 8 - j := by omega
            unfold bitN
            rw [← he]
            walk_at "go"
          · decide
        · rw [hn]; decide
  · apply ru_next
    apply ru_step
    · apply ex_ret
      refine ev_overC (l := List.range 9) (g := fun (i : Nat) => .int i) (f := fun k => natsD (wards ns k)) (lk := none) (st1 := []) (st2 := []) (st3 := []) (by decide +kernel) ?_ rfl rfl (fun k hk => ⟨_, nm_assign, ?_⟩) (by decide)
      · walk_at "go"
      · have hk : k < 9 := by simpa using hk
        refine ev_overF (l := List.range 9) (g := fun (i : Nat) => .int i) (pr := wd ns k) (lk := none) (st1 := []) (st2 := []) (st3 := []) (by decide +kernel) ?_ rfl rfl (fun j hj => ⟨_, nm_assign, ?_, fun _ => ?_⟩) (by decide)
        · walk_at "go"
        · have hj : j < 9 := by simpa using hj
          have g1 : ∀ a : Nat, a < 9 → (ns.map fun n => D.lst ((List.range 9).map fun j => .int (bitN n j)))[a]? = some (.lst ((List.range 9).map fun j => .int (bit ns a j))) := fun a ha => by
            rw [List.getElem?_map]
            have : ns[a]? = some (ns.getD a 0) := by rw [List.getD_eq_getElem?_getD, List.getElem?_eq_getElem (by omega)]; rfl
            rw [this]; rfl
          apply te_plain
          · rfl
          · rfl
          · apply ev_cmp
            · apply ev_item
              · rfl
              · apply ev_item
                · rfl
                · walk_at "go"
                · walk_at "go"
                · exact im_lst (g1 k hk)
              · walk_at "go"
              · exact rg_im hj
            · apply ev_item
              · rfl
              · apply ev_item
                · rfl
                · walk_at "go"
                · walk_at "go"
                · exact im_lst (g1 j hj)
              · walk_at "go"
              · exact rg_im hk
            · rfl
          · rfl
        · walk_at "go"
    · walk_at "run"
      exact ⟨_, _, rfl, fz_lst (pure_map fun k => by unfold natsD D.pure; exact pure_map fun _ => rfl)⟩
local macro_rules | `(tactic| walk_at "fn") => `(tactic| ((with_reducible apply wards_eq); assumption))

def behind (ns : List Int) (k : Nat) : List Nat := (List.range 9).filter fun j => !((wards ns k).contains j) && !((wards ns k).filter fun m => (wards ns m).contains j).isEmpty
def behindFn : Fn := fnPure 30 G_plain b_behind.1.2 b_behind.1.1 (bdPos ["wards", "k"])
theorem behind_eq {ns : List Int} {k : Nat} {st : Sto} (hk : k < 9) : behindFn [wardsD ns, .int k] [] st = some (natsD (behind ns k), st) := by
  unfold behindFn
  have hp : (D.pures [wardsD ns, .int k] && D.puresK []) = true := by
    have : (wardsD ns).pure = true := by unfold wardsD D.pure; exact pure_map fun k => by unfold natsD D.pure; exact pure_map fun _ => rfl
    simp [D.pures, D.puresK, this, D.pure]
  refine fp_run hp rfl (by rfl) ?_
  simp only [b_behind, List.zip_cons_cons, List.zip_nil_left]
  apply ru_step
  · apply ex_ret
    refine ev_overF (l := List.range 9) (g := fun (i : Nat) => .int i) (f := fun (i : Nat) => .int i) (pr := fun j => !((wards ns k).contains j) && !((wards ns k).filter fun m => (wards ns m).contains j).isEmpty) (lk := none) (st1 := []) (st2 := []) (st3 := []) (by decide +kernel) ?_ rfl rfl (fun j hj => ⟨_, nm_assign, ?_, fun _ => ?_⟩) (by decide)
    · walk_at "go"
    · have hj : j < 9 := by simpa using hj
      apply te_and
      apply ae_cons (t := !((wards ns k).contains j)) (st1 := [])
      · apply te_plain
        · rfl
        · rfl
        · apply ev_cmp
          · walk_at "go"
          · apply ev_item
            · rfl
            · walk_at "go"
            · walk_at "go"
            · exact rg_im hk
          · exact cm_notin
        · rfl
      · cases (wards ns k).contains j with
        | true => rfl
        | false =>
          apply ite_t
          apply ae_cons (t := !((wards ns k).filter fun m => (wards ns m).contains j).isEmpty) (st1 := [])
          · apply te_plain
            · rfl
            · rfl
            · apply ev_cmp
              · refine ev_overF (l := wards ns k) (g := fun (i : Nat) => .int i) (f := fun (i : Nat) => .int i) (pr := fun m => (wards ns m).contains j) (lk := none) (st1 := []) (st2 := []) (st3 := []) (by decide +kernel) ?_ rfl rfl (fun m hm => ⟨_, nm_assign, ?_, fun _ => ?_⟩) ?_
                · apply it_plain
                  · rfl
                  · apply ev_item
                    · rfl
                    · walk_at "go"
                    · walk_at "go"
                    · exact rg_im hk
                  · rfl
                · have hm : m < 9 := by simpa using (List.mem_filter.mp hm).1
                  apply te_plain
                  · rfl
                  · rfl
                  · apply ev_cmp
                    · walk_at "go"
                    · apply ev_item
                      · rfl
                      · walk_at "go"
                      · walk_at "go"
                      · exact rg_im hm
                    · exact cm_in
                  · rfl
                · walk_at "go"
                · exact Nat.le_trans (List.length_filter_le _ _) (by decide)
              · walk_at "go"
              · exact cm_ne_nil ok_ints
            · simp only [List.isEmpty_map]; rfl
          · cases ((wards ns k).filter fun m => (wards ns m).contains j).isEmpty <;> rfl
    · walk_at "go"
  · walk_at "run"
    exact ⟨_, _, rfl, fz_lst (pure_map fun _ => rfl)⟩
local macro_rules | `(tactic| walk_at "fn") => `(tactic| ((with_reducible apply behind_eq); assumption))

def signL (j : Nat) : List Nat := if j % 3 = 0 then [114] else if j % 3 = 1 then [119] else [91, 120, 115, 116, 93]
def G_sign : Gam := mkGam [("translate", translateFn)] [] [] [] [] [] [] 0
def signFn : Fn := fnPure 30 G_sign b_sign.1.2 b_sign.1.1 (bdPos ["j"])
theorem sign_eq {j : Nat} {st : Sto} (hj : j < 9) : signFn [.int j] [] st = some (.str (signL j), st) := by
  have : j = 0 ∨ j = 1 ∨ j = 2 ∨ j = 3 ∨ j = 4 ∨ j = 5 ∨ j = 6 ∨ j = 7 ∨ j = 8 := by omega
  rcases this with rfl | rfl | rfl | rfl | rfl | rfl | rfl | rfl | rfl <;> kernel_rfl
local macro_rules | `(tactic| walk_at "fn") => `(tactic| ((with_reducible apply sign_eq); assumption))

theorem fl_pr {m : Int} : printable (filemodeL m) = true := fm_print
local macro_rules | `(tactic| walk_at "fn") => `(tactic| with_reducible exact filemode_eq)
local macro_rules | `(tactic| walk_at "fn") => `(tactic| with_reducible exact bi_sum)
local macro_rules | `(tactic| walk_at "fn") => `(tactic| with_reducible exact bi_lenL)
local macro_rules | `(tactic| walk_at "fn") => `(tactic| with_reducible exact bi_lenS)
def letA : List Nat := [97, 66, 99, 68, 101, 70, 103, 72, 105]
def letB : List Nat := [65, 98, 67, 100, 69, 102, 71, 104, 73]
def mode (ns : List Int) (k : Nat) : Int := (ns.getD k 0).fdiv 512 * 512 + (wards ns k).foldl (fun (a : Int) (j : Nat) => a + 2 ^ (8 - (j : Int)).toNat) 0
def rowOf (ns : List Int) (k : Nat) : List Nat × List Nat := ([letA.getD k 0], filemodeL (mode ns k))
def tabL (ns : List Int) : List (List Nat × List Nat) := (List.range 9).map (rowOf ns)
theorem letA_eq : (Str.ofString "aBcDeFgHi").cps.toList = letA := by kernel_rfl
theorem letB_eq : (Str.ofString "AbCdEfGhI").cps.toList = letB := by kernel_rfl
theorem letA_pr : ∀ k < 9, printable [letA.getD k 0] = true := by decide
theorem getD_some {l : List Nat} {k n : Nat} (h : k < l.length) : l[k]? = some (l.getD k n) := by
  rw [List.getD_eq_getElem?_getD, List.getElem?_eq_getElem h]; rfl
theorem getI_some {l : List Int} {k : Nat} {n : Int} (h : k < l.length) : l[k]? = some (l.getD k n) := by
  rw [List.getD_eq_getElem?_getD, List.getElem?_eq_getElem h]; rfl
def G_table : Gam := mkGam [("Headers", newInst "Headers" "_headers"), ("filemode", filemodeFn)] [] [("add_header", addFn)] [] [] [] [] 0
def tableFn : Fn := fnSt 40 G_table b_table.1.2 b_table.1.1 (bdPos ["numbers", "wards"])
theorem table_eq {ns : List Int} {st : Sto} (hn : ns.length = 9) : ∃ st', tableFn [.lst (ns.map .int), wardsD ns] [] st = some (.inst "Headers" [("_headers", .ref st.length)], st') ∧ st'[st.length]? = some (.lst ((tabL ns).map HD)) := by
  unfold tableFn
  refine fs_ex rfl (by rfl) ?_
  simp only [b_table, List.zip_cons_cons, List.zip_nil_left]
  apply ru_step (v1 := setVar _ "table" (.inst "Headers" [("_headers", .ref st.length)])) (st1 := st ++ [.lst []])
  · walk_at "go"
  · apply ru_next
    apply ru_seq (Q' := fun f v s => f = .next ∧ s[st.length]? = some (.lst ((tabL ns).map HD)) ∧ Has v "table" (.inst "Headers" [("_headers", .ref st.length)]))
    · refine ru_for0 (ds := (List.range 9).map fun (i : Nat) => .int i) (st1 := st ++ [.lst []]) (by decide +kernel) ?_ ?_
      · walk_at "go"
      · refine ru_for_list (fun i v s => s[st.length]? = some (.lst (((List.range i).map (rowOf ns)).map HD)) ∧ Has v "table" (.inst "Headers" [("_headers", .ref st.length)]) ∧ Has v "numbers" (.lst (ns.map .int)) ∧ Has v "wards" (wardsD ns)) ⟨st_last, ?_, ?_, ?_⟩ ?_ ?_
        · walk_at "lk"
        · walk_at "lk"
        · walk_at "lk"
        · rintro k hk v s ⟨hs, ht, hnn, hw⟩
          have hk : k < 9 := by simpa using hk
          rw [List.getElem_range]
          refine ⟨_, nm_assign, ?_⟩
          apply ru_step (v1 := setVar _ "mode" (.int (mode ns k))) (st1 := s)
          · apply ex_set
            · decide +kernel
            · apply to_plain
              · rfl
              · apply ev_binop (a := .int ((ns.getD k 0).fdiv 512 * 512)) (b := .int ((wards ns k).foldl (fun (a : Int) (j : Nat) => a + 2 ^ (8 - (j : Int)).toNat) 0)) (st1 := s)
                · apply ev_binop
                  · apply ev_binop
                    · apply ev_item
                      · rfl
                      · walk_at "go"
                      · walk_at "go"
                      · exact im_lst (d := .int (ns.getD k 0)) (by rw [List.getElem?_map, getI_some (n := 0) (by omega)]; rfl)
                    · walk_at "go"
                    · walk_at "go"
                  · walk_at "go"
                  · exact bo_mul (.inl (by decide))
                · apply ev_callB
                  · decide +kernel
                  · exact mg_fn0 (by walk_at "lk")
                  · exact mg_bi0 (by walk_at "lk")
                  · apply me_cons
                    · refine ev_overC (l := wards ns k) (g := fun (i : Nat) => .int i) (f := fun (j : Nat) => .int (2 ^ (8 - (j : Int)).toNat)) (lk := none) (st1 := s) (st2 := s) (st3 := s) (by decide +kernel) ?_ rfl rfl (fun j hj => ⟨_, nm_assign, ?_⟩) (Nat.le_trans (List.length_filter_le _ _) (by decide))
                      · apply it_plain
                        · rfl
                        · apply ev_item
                          · rfl
                          · walk_at "go"
                          · walk_at "go"
                          · exact rg_im hk
                        · rfl
                      · have hj : j < 9 := by simpa using (List.mem_filter.mp hj).1
                        walk_at "go"
                    · walk_at "go"
                  · walk_at "fn"
                · rfl
          · apply ru_next
            have h1 : printable [letA.getD k 0] = true := letA_pr k hk
            have h2 : printable (filemodeL (mode ns k)) = true := fm_print
            have h3 : (((List.range k).map (rowOf ns)).map HD).length < LIM := by simp [LIM]; omega
            have h4 : (filemodeL (mode ns k)).length ≤ LIM := by rw [fm_len]; decide
            apply ru_step
            · apply ex_expr
              apply ev_meth
              · rfl
              · decide +kernel
              · walk_at "go"
              · exact mg_meth (by walk_at "lk")
              · apply me_cons
                · apply ev_item
                  · rfl
                  · walk_at "go"
                  · walk_at "go"
                  · rw [letA_eq]; exact im_str (getD_some (n := 0) hk)
                · apply me_cons
                  · walk_at "go"
                  · walk_at "go"
              · walk_at "go"
              · exact add_eq h1 h2 h3 hs h4
            · apply ru_next
              apply ru_nil
              refine ⟨rfl, ?_, by walk_at "lk", by walk_at "lk", by walk_at "lk"⟩
              rw [st_same (st_left hs), List.range_succ, List.map_append, List.map_append]
              rfl
        · rintro v s ⟨hs, ht, _, _⟩
          exact ru_nil ⟨rfl, by simpa [tabL] using hs, ht⟩
    · rintro f v s ⟨rfl, hs, ht⟩
      apply ru_next
      walk_at "run"
      exact ⟨rfl, hs⟩
end Mine
/-! ## Q2 -/
set_option autoImplicit false
set_option maxRecDepth 100000
namespace Mine
open PySem PySem.W PyProof.Rows PySem.Calls PySem.Challenge
local macro_rules | `(tactic| walk_at "lk") => `(tactic| first
  | with_reducible exact lk_here
  | with_reducible exact lk_set
  | ((with_reducible apply lk_there); (focus decide +kernel); walk_at "lk")
  | ((with_reducible apply lk_put); (focus decide +kernel); walk_at "lk")
  | with_reducible exact lk_none
  | ((with_reducible apply lk_skip); (focus decide +kernel); walk_at "lk")
  | ((with_reducible apply lk_comp); (focus decide +kernel); walk_at "lk")
  | assumption)
local macro_rules | `(tactic| walk_at "go") => `(tactic| first
  | with_reducible exact ev_none
  | with_reducible exact ev_bool
  | with_reducible exact ev_int
  | ((with_reducible apply ev_str); decide +kernel)
  | ((with_reducible apply ev_var); (focus decide +kernel); walk_at "lk")
  | ((with_reducible apply ev_con); (focus decide +kernel); exact mg_con (by walk_at "lk"))
  | ((with_reducible apply ev_binop) <;> walk_at "go")
  | ((with_reducible apply ev_cmp) <;> walk_at "go")
  | ((with_reducible apply ev_slice) <;> walk_at "go")
  | ((with_reducible apply ev_neg) <;> walk_at "go")
  | ((with_reducible apply ev_inv) <;> walk_at "go")
  | ((with_reducible apply ev_not) <;> walk_at "go")
  | ((with_reducible apply me_cons) <;> walk_at "go")
  | ((with_reducible apply mk_cons) <;> walk_at "go")
  | ((with_reducible apply te_not) <;> walk_at "go")
  | ((with_reducible apply te_and) <;> walk_at "go")
  | ((with_reducible apply te_or) <;> walk_at "go")
  | ((with_reducible apply ex_ret) <;> walk_at "go")
  | ((with_reducible apply ex_expr) <;> walk_at "go")
  | ((with_reducible apply ev_fmt) <;> walk_at "go")
  | ((with_reducible apply ev_joined) <;> walk_at "go")
  | with_reducible exact me_nil
  | with_reducible exact mk_nil
  | with_reducible exact rs_nil
  | with_reducible exact ex_break
  | with_reducible exact ae_nil
  | with_reducible exact oe_nil
  | ((with_reducible apply oe_some); walk_at "go")
  | with_reducible exact oe_none'
  | ((with_reducible apply ev_tuple); (focus walk_at "go"); rfl)
  | ((with_reducible apply ev_list); (focus walk_at "go"); rfl)
  | ((with_reducible apply ev_attr); (focus rfl); (focus walk_at "go"); walk_at "lk")
  | ((with_reducible apply ev_item); (focus rfl); all_goals walk_at "go")
  | ((with_reducible apply te_type); (focus rfl); (focus decide +kernel); walk_at "go")
  | ((with_reducible apply te_plain); (focus rfl); (focus rfl); all_goals walk_at "go")
  | ((with_reducible apply ex_set); (focus decide +kernel); walk_at "go")
  | ((with_reducible apply to_plain); (focus rfl); walk_at "go")
  | ((with_reducible apply to_grow); (focus decide +kernel); (focus walk_at "go"); rfl)
  | ((with_reducible apply to_list); (focus decide +kernel); walk_at "go")
  | ((with_reducible apply ev_meth); (focus rfl); (focus decide +kernel); (focus walk_at "go"); (focus exact mg_meth (by walk_at "lk")); (focus walk_at "go"); (focus walk_at "go"); walk_at "fn")
  | ((with_reducible apply ev_methB); (focus rfl); (focus decide +kernel); (focus walk_at "go"); (focus rfl); (focus exact mg_own0 (by walk_at "lk")); (focus (first | rfl | exact rc_append (by walk_at "st"))); (focus walk_at "go"); walk_at "fn")
  | ((with_reducible apply ev_call); (focus decide +kernel); (focus exact mg_fn (by walk_at "lk")); (focus walk_at "go"); (focus walk_at "go"); walk_at "fn")
  | ((with_reducible apply ev_callB); (focus decide +kernel); (focus exact mg_fn0 (by walk_at "lk")); (focus exact mg_bi0 (by walk_at "lk")); (focus walk_at "go"); walk_at "fn")
  | ((with_reducible apply ev_callO); (focus decide +kernel); (focus exact mg_fn0 (by walk_at "lk")); (focus exact mg_bi (by walk_at "lk")); (focus walk_at "go"); walk_at "fn")
  | ((with_reducible apply ev_methO); (focus rfl); (focus decide +kernel); (focus walk_at "go"); (focus rfl); (focus exact mg_own (by walk_at "lk") rfl); (focus walk_at "go"); walk_at "fn")
  | ((with_reducible apply ev_callA); (focus decide +kernel); (focus walk_at "lk"); (focus walk_at "go"); walk_at "fn")
  | ((with_reducible apply ex_for0); (focus decide +kernel); (focus walk_at "go"); walk_at "go")
  | ((with_reducible apply rs_if); (focus walk_at "go"); walk_at "go")
  | ((with_reducible apply fq_next); walk_at "go")
  | (with_reducible exact fq_ret)
  | (with_reducible exact fq_brk)
  | ((with_reducible apply ite_t); walk_at "go")
  | ((with_reducible apply ite_f); walk_at "go")
  | ((with_reducible apply ex_if); (focus walk_at "go"); walk_at "go")
  | ((with_reducible apply ev_if); (focus walk_at "go"); walk_at "go")
  | ((with_reducible apply it_plain); (focus rfl); (focus walk_at "go"); (first | rfl | exact wk_ref (by walk_at "st")))
  | ((with_reducible apply it_call); (focus decide +kernel); (focus walk_at "go"); (first | rfl | exact wk_ref (by walk_at "st")))
  | ((with_reducible apply it_enum); (focus rfl); (focus rfl); (focus decide +kernel); walk_at "go")
  | ((with_reducible apply it_items); (focus decide +kernel); walk_at "go")
  | ((with_reducible apply bo_pow); (focus omega); (focus omega); decide)
  | ((with_reducible apply bo_div); (focus (first | decide | exact p2_ne)); (first | decide | exact p2_lt (by omega)))
  | ((with_reducible apply bo_mod); (first | decide | exact p2_ne))
  | (with_reducible exact cm_in)
  | (with_reducible exact cm_notin)
  | ((with_reducible apply it_range); (focus decide +kernel); (focus exact mg_fn0 (by walk_at "lk")); (focus exact mg_bi0 (by walk_at "lk")); (focus omega); walk_at "go")
  | (with_reducible exact eq_str)
  | (with_reducible exact eq_int)
  | (with_unfolding_all rfl))
local macro_rules | `(tactic| walk_at "run") => `(tactic| first
  | ((with_reducible apply ru_step); (focus walk_at "go"); walk_at "run")
  | ((with_reducible apply ru_next); walk_at "run")
  | ((with_reducible apply ru_ret); (try with_reducible show Run _ _); walk_at "run")
  | ((with_reducible apply ru_brk); (try with_reducible show Run _ _); walk_at "run")
  | ((with_reducible apply ru_nil); (try with_reducible show Run _ _); walk_at "run")
  | skip)
local macro_rules | `(tactic| walk_at "st") => `(tactic| first
  | assumption
  | exact st_last
  | ((with_reducible apply st_left); walk_at "st")
  | ((with_reducible apply st_same); walk_at "st")
  | ((with_reducible refine st_ne ?_ ?_); (focus (first | assumption | omega)); walk_at "st")
  | rfl)
local macro_rules | `(tactic| walk_at "fn") => `(tactic| first
  | ((with_reducible apply mb_search); (focus rfl); assumption)
  | ((with_reducible apply mb_append); (focus walk_at "st"); (first | assumption | decide | omega))
  | ((with_reducible apply ap_ok); (focus walk_at "st"); (first | assumption | decide | omega))
  | ((with_reducible apply mb_join); (focus (first | exact items_ref (by walk_at "st") | rfl)); (focus rfl); (first | assumption | decide))
  | (with_unfolding_all rfl))
local macro_rules | `(tactic| walk_at "fn") => `(tactic| with_reducible exact filemode_eq)
local macro_rules | `(tactic| walk_at "fn") => `(tactic| with_reducible exact bi_sum)
local macro_rules | `(tactic| walk_at "fn") => `(tactic| with_reducible exact bi_lenL)
local macro_rules | `(tactic| walk_at "fn") => `(tactic| with_reducible exact bi_lenS)
local macro_rules | `(tactic| walk_at "fn") => `(tactic| ((with_reducible apply wards_eq); assumption))
local macro_rules | `(tactic| walk_at "fn") => `(tactic| ((with_reducible apply behind_eq); assumption))
local macro_rules | `(tactic| walk_at "fn") => `(tactic| ((with_reducible apply sign_eq); assumption))

set_option maxHeartbeats 4000000
def signsD : D := .lst ((List.range 9).map fun j => .str (signL j))
/-- the sign shows the right -/
def has (m : Int) (j : Nat) : Bool := (signL j).contains ((filemodeL m).getD (j + 1) 0)
def firstL (m : Int) : List Nat := (List.range 9).filter (has m)
def secondL (ns : List Int) (m : Int) : List Nat := (List.range 9).filter fun j => !((firstL m).contains j) && !((firstL m).filter fun i => has (mode ns i) j).isEmpty
theorem getD_tab {ns : List Int} {j : Nat} (hj : j < 9) : getD (tabL ns) [letB.getD j 0] = .str (filemodeL (mode ns j)) := by
  have : j = 0 ∨ j = 1 ∨ j = 2 ∨ j = 3 ∨ j = 4 ∨ j = 5 ∨ j = 6 ∨ j = 7 ∨ j = 8 := by omega
  rcases this with rfl | rfl | rfl | rfl | rfl | rfl | rfl | rfl | rfl <;> kernel_rfl
theorem letB_pr : ∀ k < 9, printable ([letB.getD k 0].map lowerC) = true := by decide
theorem ch_get {m : Int} {j : Nat} {st : Sto} (hj : j < 9) : item st (.str (filemodeL m)) (.int ((j : Int) + 1)) = some (.str [(filemodeL m).getD (j + 1) 0]) := by
  have h : (filemodeL m)[j + 1]? = some ((filemodeL m).getD (j + 1) 0) := getD_some (by rw [fm_len]; omega)
  exact im_str (i := j + 1) h
theorem cm_inS {c : Nat} {b : List Nat} {st : Sto} : cmp st .In (.str [c]) (.str b) = some (b.contains c) := rfl
def G_told : Gam := mkGam [] [] [("get", getFn)] [] [] [] [] 0
def toldFn : Fn := fnSt 40 G_told b_told.1.2 b_told.1.1 (bdPos ["table", "signs", "row"])
theorem told_eq {ns : List Int} {st : Sto} {p : Nat} {m : Int} (hs : st[p]? = some (.lst ((tabL ns).map HD))) :
    toldFn [.inst "Headers" [("_headers", .ref p)], signsD, .str (filemodeL m)] [] st = some (.tup [natsD (firstL m), natsD (secondL ns m)], st) := by
  unfold toldFn
  refine fs_run rfl (by rfl) ?_
  simp only [b_told, List.zip_cons_cons, List.zip_nil_left]
  apply ru_step (v1 := setVar _ "first" (natsD (firstL m))) (st1 := st)
  · apply ex_set
    · decide +kernel
    · apply to_plain
      · rfl
      · refine ev_overF (l := List.range 9) (g := fun (i : Nat) => .int i) (f := fun (i : Nat) => .int i) (pr := has m) (lk := none) (st1 := st) (st2 := st) (st3 := st) (by decide +kernel) ?_ rfl rfl (fun j hj => ⟨_, nm_assign, ?_, fun _ => ?_⟩) (by decide)
        · walk_at "go"
        · have hj : j < 9 := by simpa using hj
          apply te_plain
          · rfl
          · rfl
          · apply ev_cmp
            · apply ev_item
              · rfl
              · walk_at "go"
              · walk_at "go"
              · exact ch_get hj
            · apply ev_item
              · rfl
              · walk_at "go"
              · walk_at "go"
              · exact rg_im hj
            · exact cm_inS
          · rfl
        · walk_at "go"
  · apply ru_next
    apply ru_step (v1 := setVar _ "rows" (.lst ((firstL m).map fun j => .str (filemodeL (mode ns j))))) (st1 := st)
    · apply ex_set
      · decide +kernel
      · apply to_plain
        · rfl
        · refine ev_overC (l := firstL m) (g := fun (i : Nat) => .int i) (f := fun j => .str (filemodeL (mode ns j))) (lk := none) (st1 := st) (st2 := st) (st3 := st) (by decide +kernel) ?_ rfl rfl (fun j hj => ⟨_, nm_assign, ?_⟩) (Nat.le_trans (List.length_filter_le _ _) (by decide))
          · walk_at "go"
          · have hj : j < 9 := by simpa using (List.mem_filter.mp hj).1
            apply ev_meth
            · rfl
            · decide +kernel
            · walk_at "go"
            · exact mg_meth (by walk_at "lk")
            · apply me_cons
              · apply ev_item
                · rfl
                · walk_at "go"
                · walk_at "go"
                · rw [letB_eq]; exact im_str (getD_some (n := 0) hj)
              · walk_at "go"
            · walk_at "go"
            · rw [← getD_tab hj]; exact get_eq (letB_pr j hj) hs
    · apply ru_next
      apply ru_step
      · apply ex_ret
        apply ev_tuple
        · apply me_cons
          · walk_at "go"
          · apply me_cons
            · refine ev_overF (l := List.range 9) (g := fun (i : Nat) => .int i) (f := fun (i : Nat) => .int i) (pr := fun j => !((firstL m).contains j) && !((firstL m).filter fun i => has (mode ns i) j).isEmpty) (lk := none) (st1 := st) (st2 := st) (st3 := st) (by decide +kernel) ?_ rfl rfl (fun j hj => ⟨_, nm_assign, ?_, fun _ => ?_⟩) (by decide)
              · walk_at "go"
              · have hj : j < 9 := by simpa using hj
                apply te_and
                apply ae_cons (t := !((firstL m).contains j)) (st1 := st)
                · walk_at "go"
                · cases (firstL m).contains j with
                  | true => rfl
                  | false =>
                    apply ite_t
                    apply ae_cons (t := !((firstL m).filter fun i => has (mode ns i) j).isEmpty) (st1 := st)
                    · apply te_plain
                      · rfl
                      · rfl
                      · apply ev_cmp
                        · refine ev_overF (l := firstL m) (g := fun j => .str (filemodeL (mode ns j))) (f := fun j => .str (filemodeL (mode ns j))) (pr := fun i => has (mode ns i) j) (lk := none) (st1 := st) (st2 := st) (st3 := st) (by decide +kernel) ?_ rfl rfl (fun i hi => ⟨_, nm_assign, ?_, fun _ => ?_⟩) (Nat.le_trans (List.length_filter_le _ _) (by decide))
                          · walk_at "go"
                          · apply te_plain
                            · rfl
                            · rfl
                            · apply ev_cmp
                              · apply ev_item
                                · rfl
                                · walk_at "go"
                                · walk_at "go"
                                · exact ch_get hj
                              · apply ev_item
                                · rfl
                                · walk_at "go"
                                · walk_at "go"
                                · exact rg_im hj
                              · exact cm_inS
                            · rfl
                          · walk_at "go"
                        · walk_at "go"
                        · exact cm_ne_nil (by rw [List.all_map]; exact List.all_eq_true.mpr fun _ _ => rfl)
                      · simp only [List.isEmpty_map]; rfl
                    · cases ((firstL m).filter fun i => has (mode ns i) j).isEmpty <;> rfl
              · walk_at "go"
            · walk_at "go"
        · rfl
      · walk_at "run"
        rfl
end Mine
/-! ## Q3 -/
set_option autoImplicit false
set_option maxRecDepth 100000
namespace Mine
open PySem PySem.W PyProof.Rows PySem.Calls PySem.Challenge
local macro_rules | `(tactic| walk_at "lk") => `(tactic| first
  | with_reducible exact lk_here
  | with_reducible exact lk_set
  | ((with_reducible apply lk_there); (focus decide +kernel); walk_at "lk")
  | ((with_reducible apply lk_put); (focus decide +kernel); walk_at "lk")
  | with_reducible exact lk_none
  | ((with_reducible apply lk_skip); (focus decide +kernel); walk_at "lk")
  | ((with_reducible apply lk_comp); (focus decide +kernel); walk_at "lk")
  | assumption)
local macro_rules | `(tactic| walk_at "go") => `(tactic| first
  | with_reducible exact ev_none
  | with_reducible exact ev_bool
  | with_reducible exact ev_int
  | ((with_reducible apply ev_str); decide +kernel)
  | ((with_reducible apply ev_var); (focus decide +kernel); walk_at "lk")
  | ((with_reducible apply ev_con); (focus decide +kernel); exact mg_con (by walk_at "lk"))
  | ((with_reducible apply ev_binop) <;> walk_at "go")
  | ((with_reducible apply ev_cmp) <;> walk_at "go")
  | ((with_reducible apply ev_slice) <;> walk_at "go")
  | ((with_reducible apply ev_neg) <;> walk_at "go")
  | ((with_reducible apply ev_inv) <;> walk_at "go")
  | ((with_reducible apply ev_not) <;> walk_at "go")
  | ((with_reducible apply me_cons) <;> walk_at "go")
  | ((with_reducible apply mk_cons) <;> walk_at "go")
  | ((with_reducible apply te_not) <;> walk_at "go")
  | ((with_reducible apply te_and) <;> walk_at "go")
  | ((with_reducible apply te_or) <;> walk_at "go")
  | ((with_reducible apply ex_ret) <;> walk_at "go")
  | ((with_reducible apply ex_expr) <;> walk_at "go")
  | ((with_reducible apply ev_fmt) <;> walk_at "go")
  | ((with_reducible apply ev_joined) <;> walk_at "go")
  | with_reducible exact me_nil
  | with_reducible exact mk_nil
  | with_reducible exact rs_nil
  | with_reducible exact ex_break
  | with_reducible exact ae_nil
  | with_reducible exact oe_nil
  | ((with_reducible apply oe_some); walk_at "go")
  | with_reducible exact oe_none'
  | ((with_reducible apply ev_tuple); (focus walk_at "go"); rfl)
  | ((with_reducible apply ev_list); (focus walk_at "go"); rfl)
  | ((with_reducible apply ev_attr); (focus rfl); (focus walk_at "go"); walk_at "lk")
  | ((with_reducible apply ev_item); (focus rfl); all_goals walk_at "go")
  | ((with_reducible apply te_type); (focus rfl); (focus decide +kernel); walk_at "go")
  | ((with_reducible apply te_plain); (focus rfl); (focus rfl); all_goals walk_at "go")
  | ((with_reducible apply ex_set); (focus decide +kernel); walk_at "go")
  | ((with_reducible apply to_plain); (focus rfl); walk_at "go")
  | ((with_reducible apply to_grow); (focus decide +kernel); (focus walk_at "go"); rfl)
  | ((with_reducible apply to_list); (focus decide +kernel); walk_at "go")
  | ((with_reducible apply ev_meth); (focus rfl); (focus decide +kernel); (focus walk_at "go"); (focus exact mg_meth (by walk_at "lk")); (focus walk_at "go"); (focus walk_at "go"); walk_at "fn")
  | ((with_reducible apply ev_methB); (focus rfl); (focus decide +kernel); (focus walk_at "go"); (focus rfl); (focus exact mg_own0 (by walk_at "lk")); (focus (first | rfl | exact rc_append (by walk_at "st"))); (focus walk_at "go"); walk_at "fn")
  | ((with_reducible apply ev_call); (focus decide +kernel); (focus exact mg_fn (by walk_at "lk")); (focus walk_at "go"); (focus walk_at "go"); walk_at "fn")
  | ((with_reducible apply ev_callB); (focus decide +kernel); (focus exact mg_fn0 (by walk_at "lk")); (focus exact mg_bi0 (by walk_at "lk")); (focus walk_at "go"); walk_at "fn")
  | ((with_reducible apply ev_callO); (focus decide +kernel); (focus exact mg_fn0 (by walk_at "lk")); (focus exact mg_bi (by walk_at "lk")); (focus walk_at "go"); walk_at "fn")
  | ((with_reducible apply ev_methO); (focus rfl); (focus decide +kernel); (focus walk_at "go"); (focus rfl); (focus exact mg_own (by walk_at "lk") rfl); (focus walk_at "go"); walk_at "fn")
  | ((with_reducible apply ev_callA); (focus decide +kernel); (focus walk_at "lk"); (focus walk_at "go"); walk_at "fn")
  | ((with_reducible apply ex_for0); (focus decide +kernel); (focus walk_at "go"); walk_at "go")
  | ((with_reducible apply rs_if); (focus walk_at "go"); walk_at "go")
  | ((with_reducible apply fq_next); walk_at "go")
  | (with_reducible exact fq_ret)
  | (with_reducible exact fq_brk)
  | ((with_reducible apply ite_t); walk_at "go")
  | ((with_reducible apply ite_f); walk_at "go")
  | ((with_reducible apply ex_if); (focus walk_at "go"); walk_at "go")
  | ((with_reducible apply ev_if); (focus walk_at "go"); walk_at "go")
  | ((with_reducible apply it_plain); (focus rfl); (focus walk_at "go"); (first | rfl | exact wk_ref (by walk_at "st")))
  | ((with_reducible apply it_call); (focus decide +kernel); (focus walk_at "go"); (first | rfl | exact wk_ref (by walk_at "st")))
  | ((with_reducible apply it_enum); (focus rfl); (focus rfl); (focus decide +kernel); walk_at "go")
  | ((with_reducible apply it_items); (focus decide +kernel); walk_at "go")
  | ((with_reducible apply bo_pow); (focus omega); (focus omega); decide)
  | ((with_reducible apply bo_div); (focus (first | decide | exact p2_ne)); (first | decide | exact p2_lt (by omega)))
  | ((with_reducible apply bo_mod); (first | decide | exact p2_ne))
  | (with_reducible exact cm_in)
  | (with_reducible exact cm_notin)
  | ((with_reducible apply it_range); (focus decide +kernel); (focus exact mg_fn0 (by walk_at "lk")); (focus exact mg_bi0 (by walk_at "lk")); (focus omega); walk_at "go")
  | (with_reducible exact eq_str)
  | (with_reducible exact eq_int)
  | (with_unfolding_all rfl))
local macro_rules | `(tactic| walk_at "run") => `(tactic| first
  | ((with_reducible apply ru_step); (focus walk_at "go"); walk_at "run")
  | ((with_reducible apply ru_next); walk_at "run")
  | ((with_reducible apply ru_ret); (try with_reducible show Run _ _); walk_at "run")
  | ((with_reducible apply ru_brk); (try with_reducible show Run _ _); walk_at "run")
  | ((with_reducible apply ru_nil); (try with_reducible show Run _ _); walk_at "run")
  | skip)
local macro_rules | `(tactic| walk_at "st") => `(tactic| first
  | assumption
  | exact st_last
  | ((with_reducible apply st_left); walk_at "st")
  | ((with_reducible apply st_same); walk_at "st")
  | ((with_reducible refine st_ne ?_ ?_); (focus (first | assumption | omega)); walk_at "st")
  | rfl)
local macro_rules | `(tactic| walk_at "fn") => `(tactic| first
  | ((with_reducible apply mb_search); (focus rfl); assumption)
  | ((with_reducible apply mb_append); (focus walk_at "st"); (first | assumption | decide | omega))
  | ((with_reducible apply ap_ok); (focus walk_at "st"); (first | assumption | decide | omega))
  | ((with_reducible apply mb_join); (focus (first | exact items_ref (by walk_at "st") | rfl)); (focus rfl); (first | assumption | decide))
  | (with_unfolding_all rfl))
local macro_rules | `(tactic| walk_at "fn") => `(tactic| with_reducible exact bi_lenL)
local macro_rules | `(tactic| walk_at "fn") => `(tactic| with_reducible exact bi_lenS)
local macro_rules | `(tactic| walk_at "fn") => `(tactic| ((with_reducible apply wards_eq); assumption))
local macro_rules | `(tactic| walk_at "fn") => `(tactic| ((with_reducible apply behind_eq); assumption))
local macro_rules | `(tactic| walk_at "fn") => `(tactic| ((with_reducible apply sign_eq); assumption))

set_option maxHeartbeats 4000000
def dflt : List Int := [36480, 18528, 42032, 5144, 49164, 8710, 25091, 64769, 384]
def fill (s : List Int) : List Int := s.take 9 ++ dflt.drop s.length
def nums (s : List Int) : List Int := (fill s).map fun x => x.fmod 65536
theorem clip_le {n : Nat} {i : Nat} : clipAt n (i : Int) = min i n := by
  unfold clipAt
  first
    | (simp; omega)
    | (split <;> simp <;> omega)
    | omega
theorem cut_map {l : List Int} {a b : Nat} : cutI (l.map D.int) a b = (cutI l a b).map D.int := by
  unfold cutI; rw [List.map_take, List.map_drop]
theorem sl_scr {l : List Int} {n : Nat} {st : Sto} : slice st (.scr (l.map .int)) .none (.int (n : Int)) = some (.lst ((l.take n).map .int)) := by
  show (do some (D.lst (cutI (l.map D.int) (← bound (l.map D.int).length 0 .none) (← bound (l.map D.int).length (l.map D.int).length (.int (n : Int)))))) = _
  show some (D.lst (cutI (l.map D.int) 0 (clipAt (l.map D.int).length (n : Int)))) = _
  rw [clip_le, cut_map, List.length_map]
  unfold cutI
  rw [List.drop_zero, Nat.sub_zero]
  congr 3
  rw [List.take_eq_take_iff]; omega
theorem sl_from {l : List Int} {n : Nat} {st : Sto} : slice st (.lst (l.map .int)) (.int (n : Int)) .none = some (.lst ((l.drop n).map .int)) := by
  show some (D.lst (cutI (l.map D.int) (clipAt (l.map D.int).length (n : Int)) (l.map D.int).length)) = _
  rw [clip_le, cut_map, List.length_map]
  unfold cutI
  congr 3
  by_cases h : n ≤ l.length
  · rw [Nat.min_eq_left h, List.take_of_length_le (by rw [List.length_drop]; exact Nat.le_refl _)]
  · rw [Nat.min_eq_right (by omega), List.drop_length, List.take_nil, List.drop_eq_nil_of_le (by omega)]
theorem fill_len {s : List Int} : (fill s).length = 9 := by
  unfold fill; rw [List.length_append, List.length_take, List.length_drop, show dflt.length = 9 from rfl]; omega
theorem nums_len {s : List Int} : (nums s).length = 9 := by unfold nums; rw [List.length_map, fill_len]
theorem add_ints {a b : List Int} {st : Sto} (h : (a ++ b).length ≤ LIM) : binop st .Add (.lst (a.map .int)) (.lst (b.map .int)) = some (.lst ((a ++ b).map .int)) := by
  show addL st _ _ = _
  unfold addL
  simp only [D.kind]
  show (do let x ← some (a.map D.int); let y ← some (b.map D.int); lim (x ++ y)) = _
  show lim (a.map D.int ++ b.map D.int) = _
  unfold lim
  rw [← List.map_append, List.length_map, if_pos h]

def G_law : Gam := mkGam [("_law_wards", wardsFn), ("_law_behind", behindFn), ("_law_sign", signFn), ("_law_table", tableFn), ("_law_told", toldFn)] [] [("values", valuesFn)] [] [] [] [] 0
def lawFn : Fn := fnPure 60 G_law b_law.1.2 b_law.1.1 (bdPos ["script"])
def toldD (ns : List Int) : D := .lst ((List.range 9).map fun k => .tup [natsD (firstL (mode ns k)), natsD (secondL ns (mode ns k))])
theorem toldD_ok {f g : Nat → List Nat} {l : List Nat} (hl : l.length ≤ 9) : D.ok 16 (.lst (l.map fun k => .tup [natsD (f k), natsD (g k)])) = true := by
  show (l.map fun k => D.tup [natsD (f k), natsD (g k)]).all (D.ok 15) = true
  rw [List.all_map, List.all_eq_true]
  intro k _
  show [natsD (f k), natsD (g k)].all (D.ok 14) = true
  simp only [List.all_cons, List.all_nil, Bool.and_true, Bool.and_eq_true]
  exact ⟨ok_ints, ok_ints⟩
theorem law_eq {s : List Int} {st : Sto} (hs : s.length ≤ 63) (h1 : ∀ k < 9, firstL (mode (nums s) k) = wards (nums s) k ∧ secondL (nums s) (mode (nums s) k) = behind (nums s) k) (h2 : ∃ k < 9, (wards (nums s) k).length ≤ (behind (nums s) k).length) :
    lawFn [.scr (s.map .int)] [] st = some (.bool true, st) := by
  unfold lawFn
  have hp : (D.pures [.scr (s.map .int)] && D.puresK []) = true := by
    have := pure_map (g := D.int) (l := s) fun _ => rfl
    simp [D.pures, D.puresK, D.pure, this]
  refine fp_run hp rfl (by rfl) ?_
  simp only [b_law, List.zip_cons_cons, List.zip_nil_left]
  have hn : (nums s).length = 9 := nums_len
  apply ru_step (v1 := setVar _ "filled" (.lst ((fill s).map .int))) (st1 := [])
  · apply ex_set
    · decide +kernel
    · apply to_plain
      · rfl
      · apply ev_binop (a := .lst ((s.take 9).map .int)) (b := .lst ((dflt.drop s.length).map .int)) (st1 := []) (st2 := [])
        · apply ev_slice
          · walk_at "go"
          · walk_at "go"
          · walk_at "go"
          · exact sl_scr (n := 9)
        · apply ev_slice (a := .lst (dflt.map .int)) (x := .int s.length) (y := .none) (st1 := []) (st2 := []) (st3 := [])
          · walk_at "go"
          · apply oe_some
            apply ev_callB
            · decide +kernel
            · exact mg_fn0 (by walk_at "lk")
            · exact mg_bi0 (by walk_at "lk")
            · walk_at "go"
            · rw [bi_lenS, List.length_map]
          · walk_at "go"
          · exact sl_from
        · exact add_ints (by rw [show s.take 9 ++ dflt.drop s.length = fill s from rfl, fill_len]; decide)
  · apply ru_next
    apply ru_step (v1 := setVar _ "numbers" (.lst ((nums s).map .int))) (st1 := [])
    · apply ex_set
      · decide +kernel
      · apply to_plain
        · rfl
        · have e : (nums s).map D.int = (fill s).map fun x => D.int (x.fmod 65536) := by unfold nums; rw [List.map_map]; rfl
          rw [e]
          refine ev_overC (l := fill s) (g := .int) (f := fun x => .int (x.fmod 65536)) (lk := none) (st1 := []) (st2 := []) (st3 := []) (by decide +kernel) ?_ rfl rfl (fun x _ => ⟨_, nm_assign, ?_⟩) (by rw [fill_len]; decide)
          · walk_at "go"
          · walk_at "go"
    · apply ru_next
      apply ru_step (v1 := setVar _ "wards" (wardsD (nums s))) (st1 := [])
      · walk_at "go"
      · apply ru_next
        obtain ⟨st1, e1, hs1⟩ := table_eq (st := []) hn
        apply ru_step (v1 := setVar _ "table" (.inst "Headers" [("_headers", .ref 0)])) (st1 := st1)
        · apply ex_set
          · decide +kernel
          · apply to_plain
            · rfl
            · apply ev_call
              · decide +kernel
              · exact mg_fn (by walk_at "lk")
              · walk_at "go"
              · walk_at "go"
              · exact e1
        · apply ru_next
          apply ru_step (v1 := setVar _ "signs" signsD) (st1 := st1)
          · apply ex_set
            · decide +kernel
            · apply to_plain
              · rfl
              · refine ev_overC (l := List.range 9) (g := fun (i : Nat) => .int i) (f := fun j => .str (signL j)) (lk := none) (st1 := st1) (st2 := st1) (st3 := st1) (by decide +kernel) ?_ rfl rfl (fun j hj => ⟨_, nm_assign, ?_⟩) (by decide)
                · walk_at "go"
                · have hj : j < 9 := by simpa using hj
                  walk_at "go"
          · apply ru_next
            apply ru_step (v1 := setVar _ "told" (toldD (nums s))) (st1 := st1)
            · apply ex_set
              · decide +kernel
              · apply to_plain
                · rfl
                · refine ev_overC (l := List.range 9) (g := fun k => .str (filemodeL (mode (nums s) k))) (f := fun k => .tup [natsD (firstL (mode (nums s) k)), natsD (secondL (nums s) (mode (nums s) k))]) (lk := none) (st1 := st1) (st2 := st1) (st3 := st1) (by decide +kernel) ?_ rfl rfl (fun k hk => ⟨_, nm_assign, ?_⟩) (by decide)
                  · apply it_meth (a := .lst ((tabL (nums s)).map fun p => .str p.2))
                    · rw [ev_var (d := .inst "Headers" [("_headers", .ref 0)]) (by decide +kernel) (by walk_at "lk")]; rfl
                    · apply ev_meth
                      · rfl
                      · decide +kernel
                      · walk_at "go"
                      · exact mg_meth (by walk_at "lk")
                      · walk_at "go"
                      · walk_at "go"
                      · exact values_eq (by unfold tabL; rw [List.length_map]; decide) hs1
                    · rfl
                  · apply ev_call
                    · decide +kernel
                    · exact mg_fn (by walk_at "lk")
                    · walk_at "go"
                    · walk_at "go"
                    · exact told_eq hs1
            · apply ru_next
              apply ru_ite (t := false) (st1 := st1)
              · apply te_plain
                · rfl
                · rfl
                · apply ev_cmp
                  · refine ev_overF (l := List.range 9) (g := fun k => .tup [natsD (firstL (mode (nums s) k)), natsD (secondL (nums s) (mode (nums s) k))]) (f := fun k => natsD (firstL (mode (nums s) k))) (pr := fun k => decide (((firstL (mode (nums s) k)).length : Int) ≤ (secondL (nums s) (mode (nums s) k)).length)) (lk := none) (st1 := st1) (st2 := st1) (st3 := st1) (by decide +kernel) ?_ rfl rfl (fun k hk => ⟨_, rfl, ?_, fun _ => ?_⟩) (by decide)
                    · walk_at "go"
                    · apply te_plain
                      · rfl
                      · rfl
                      · apply ev_cmp (a := .int (secondL (nums s) (mode (nums s) k)).length) (b := .int (firstL (mode (nums s) k)).length) (st1 := st1) (st2 := st1)
                        · apply ev_callB
                          · decide +kernel
                          · exact mg_fn0 (by walk_at "lk")
                          · exact mg_bi0 (by walk_at "lk")
                          · walk_at "go"
                          · rw [bi_lenL, List.length_map]
                        · apply ev_callB
                          · decide +kernel
                          · exact mg_fn0 (by walk_at "lk")
                          · exact mg_bi0 (by walk_at "lk")
                          · walk_at "go"
                          · rw [bi_lenL, List.length_map]
                        · rfl
                      · rfl
                    · walk_at "go"
                  · walk_at "go"
                  · exact cm_eq_nil (by rw [List.all_map]; exact List.all_eq_true.mpr fun _ _ => ok_ints)
                · rw [List.isEmpty_map]
                  have : ((List.range 9).filter fun k => decide (((firstL (mode (nums s) k)).length : Int) ≤ (secondL (nums s) (mode (nums s) k)).length)).isEmpty = false := by
                    obtain ⟨k, hk, hle⟩ := h2
                    rw [List.isEmpty_eq_false_iff_exists_mem]
                    refine ⟨k, List.mem_filter.mpr ⟨by simpa using hk, ?_⟩⟩
                    rw [(h1 k hk).1, (h1 k hk).2]
                    simpa using hle
                  rw [this]; rfl
              · intro h; cases h
              · intro _
                apply ru_nil
                apply ru_next
                apply ru_step (v1 := _) (st1 := st1)
                · apply ex_ret
                  apply ev_cmp
                  · walk_at "go"
                  · refine ev_overC (l := List.range 9) (g := fun (i : Nat) => .int i) (f := fun k => .tup [natsD (firstL (mode (nums s) k)), natsD (secondL (nums s) (mode (nums s) k))]) (lk := none) (st1 := st1) (st2 := st1) (st3 := st1) (by decide +kernel) ?_ rfl rfl (fun k hk => ⟨_, nm_assign, ?_⟩) (by decide)
                    · walk_at "go"
                    · have hk : k < 9 := by simpa using hk
                      rw [(h1 k hk).1, (h1 k hk).2]
                      apply ev_tuple
                      · apply me_cons
                        · apply ev_item
                          · rfl
                          · walk_at "go"
                          · walk_at "go"
                          · exact rg_im hk
                        · walk_at "go"
                      · rfl
                  · exact cm_eq_self (toldD_ok (by decide))
                · apply ru_ret
                  exact ⟨_, _, rfl, rfl⟩
end Mine
/-! ## NJ -/
set_option autoImplicit false
set_option maxRecDepth 100000
namespace Mine
open PySem PySem.W PyProof.Rows PySem.Calls

theorem ints_vr {T Φ : Addr → Prop} {Ins : InsT} {h : Heap} {adr : List Ent} : ∀ {vs : List Value} {ns : List Int}, IntsAre vs ns → VRs T Φ Ins h adr vs (ns.map .int)
  | _, _, .nil => .nil
  | _, _, .cons i t r => .cons (.int i t) (ints_vr r)

def tabsGood (K : Frag) (tabs : List Addr) (f : Str) : Bool := match tabIn K f with
  | some (c, P) => tabs.all (· == P) && codeHdIn K c P
  | none => false

theorem law_end {prog : Program} {w : World} {mg mb : Str → Option Value} {s₁ : Shared} {tabs : List Addr} {hg : s₁.heap.Ns mainGlobals mg} {hb : s₁.heap.Ns builtinsNs mb} {hbb : ∀ x : Str, x ≠ "__name__" → mb x = bootBuiltins x} {hn : s₁.heap.NoLimit}
    {ht : ∀ P ∈ tabs, s₁.heap.get? P = some (tabObj #[])} {h3 : mainGlobals ∉ tabs} {h0 : builtinsNs ∉ tabs} {h2 : cStatics ∉ tabs} {K : Frag} {fa sa C : Addr} {cn fn : Str} {vs : List Value} {ns : List Int} {F : Fn} {k : Nat} {c : ClaimW} {cl : Str → Option Addr} {mean : ExcName → Option Value} {args : List WData} {f : Str}
    (X : K.In s₁.heap) (htg : tabsGood K tabs f = true) (hgens : s₁.gens = #[]) (HT : FnT (baseOf prog w mg mb s₁.heap tabs C cn fn hg hb hbb hn ht h3 h0 h2) k "law" F) (hF : F [.scr (ns.map .int)] [] [] = some (.bool true, [])) (hk : k ≤ 500)
    (hm : mg "law" = some (.ref fa)) (hL : s₁.heap.IsList sa vs.toArray) (hI : IntsAre vs ns) (hlen : ns.length ≤ 63) (hr : ∀ cls, c.raises args cls = false) (hp : c.post args (.bool true) args = true) :
    wpAny (model prog w) callerA (call (.ref fa) [.ref sa]) (fun v s' => GoodWG c cl mean args s₁ (.ok (.ret v)) s') (fun e s' => GoodWG c cl mean args s₁ (.error e) s') s₁ := by
  obtain ⟨fa', hm', _, H⟩ := HT
  have hm' : mg "law" = some (.ref fa') := hm'
  rw [hm] at hm'
  cases hm'
  have hct : ∀ P ∈ tabs, isCodeTable s₁.heap P := fun P hP => by
    unfold tabsGood at htg
    split at htg
    · rename_i c' P' _
      rw [Bool.and_eq_true] at htg
      have : P = P' := eq_of_beq (List.all_eq_true.mp htg.1 P hP)
      subst this
      exact ((codeHd_of_K X htg.2).tab (ht P hP)).isCodeTable
    · cases htg
  obtain ⟨o, ho, hc, n, hd⟩ := hL
  have hsa : sa ∉ tabs := fun m => by
    rw [ht sa m] at ho; cases ho; cases hc
  refine finish hct hgens hr hp (H (fun _ => False) callerA s₁ [] [] [.ref sa] [] [.scr (ns.map .int)] [] _ _ hF ⟨rfl, ?_, ?_⟩ (Nat.zero_le _) base_inv base_sr (.cons (.scr ho hc hd ⟨hsa, fun p => p.elim, fun ⟨e, m, _⟩ => by cases m⟩ (ints_vr hI) (by rw [List.length_map]; unfold LIM; omega)) .nil) .nil)
  · show 1 + claimMargin + k < 900
    have : claimMargin = 300 := rfl
    omega
  · show 4 + 4 * k < 9800
    omega
end Mine
/-! ## R8 -/
set_option autoImplicit false
namespace Mine.Sey
/-- how many of nine -/
def c (p : Nat → Bool) : Nat := (List.range 9).countP p
def beh (N : Nat → Nat → Bool) (k j : Nat) : Bool := !N k j && (List.range 9).any fun m => N k m && N m j

theorem c_mono {p q : Nat → Bool} (h : ∀ j, j < 9 → p j = true → q j = true) : c p ≤ c q :=
  List.countP_mono_left fun j hj => h j (by simpa using hj)
theorem count_ne (p : Nat → Bool) (y : Nat) : ∀ l : List Nat, l.Nodup → l.countP p ≤ l.countP (fun j => p j && !(j == y)) + 1
  | [], _ => by simp
  | a :: l, h => by
    rw [List.nodup_cons] at h
    have ih := count_ne p y l h.2
    rw [List.countP_cons, List.countP_cons]
    by_cases ha : a = y
    · subst ha
      have : l.countP p ≤ l.countP (fun j => p j && !(j == a)) := List.countP_mono_left fun j hj hp => by
        have hne : j ≠ a := fun e => h.1 (e ▸ hj)
        simp [hp, hne]
      simp; split <;> omega
    · have : (p a && !(a == y)) = p a := by simp [ha]
      simp only [this]; split <;> omega
theorem c_ne (p : Nat → Bool) (y : Nat) : c p ≤ c (fun j => p j && !(j == y)) + 1 := count_ne p y _ List.nodup_range
theorem count_add {p : Nat → Bool} {y : Nat} (hp : p y = false) : ∀ l : List Nat, y ∈ l → l.countP p + 1 ≤ l.countP (fun j => p j || j == y)
  | [], h => by cases h
  | a :: l, h => by
    rw [List.countP_cons, List.countP_cons]
    by_cases ha : a = y
    · subst ha
      have : l.countP p ≤ l.countP (fun j => p j || j == a) := List.countP_mono_left fun j _ h => by simp [h]
      simp [hp]; omega
    · have ih := count_add hp l (by rcases List.mem_cons.mp h with e | h; exact absurd e.symm ha; exact h)
      have : (p a || a == y) = p a := by simp [ha]
      simp only [this]; split <;> omega
theorem c_add {p : Nat → Bool} {y : Nat} (hp : p y = false) (hy : y < 9) : c p + 1 ≤ c (fun j => p j || j == y) := count_add hp _ (by simpa using hy)
theorem c_pos {p : Nat → Bool} (h : 0 < c p) : ∃ j, j < 9 ∧ p j = true := by
  unfold c at h
  rw [List.countP_pos_iff] at h
  obtain ⟨j, hj, hp⟩ := h
  exact ⟨j, by simpa using hj, hp⟩
theorem c_nine (p : Nat → Bool) : c p = (p 0).toNat + (p 1).toNat + (p 2).toNat + (p 3).toNat + (p 4).toNat + (p 5).toNat + (p 6).toNat + (p 7).toNat + (p 8).toNat := by
  unfold c
  rw [show List.range 9 = [0, 1, 2, 3, 4, 5, 6, 7, 8] from rfl]
  simp only [List.countP_cons, List.countP_nil]
  have : ∀ b : Bool, (if b = true then 1 else 0) = b.toNat := by decide
  simp only [this]
  omega

theorem pair_le {N : Nat → Nat → Bool} (hN : ∀ i j, N i j = true → N j i = false) (i j : Nat) : (N i j).toNat + (N j i).toNat ≤ 1 := by
  cases h : N i j with
  | false => cases N j i <;> decide
  | true => rw [hN i j h]; decide
theorem self_no {N : Nat → Nat → Bool} (hN : ∀ i j, N i j = true → N j i = false) (i : Nat) : N i i = false := by
  cases h : N i i with
  | false => rfl
  | true => have := hN i i h; rw [h] at this; cases this
theorem total {N : Nat → Nat → Bool} (hN : ∀ i j, N i j = true → N j i = false) : c (N 0) + c (N 1) + c (N 2) + c (N 3) + c (N 4) + c (N 5) + c (N 6) + c (N 7) + c (N 8) ≤ 36 := by
  simp only [c_nine, self_no hN, Bool.toNat_false]
  have P := pair_le hN
  have h01 := P 0 1; have h02 := P 0 2; have h03 := P 0 3; have h04 := P 0 4; have h05 := P 0 5; have h06 := P 0 6; have h07 := P 0 7; have h08 := P 0 8
  have h12 := P 1 2; have h13 := P 1 3; have h14 := P 1 4; have h15 := P 1 5; have h16 := P 1 6; have h17 := P 1 7; have h18 := P 1 8
  have h23 := P 2 3; have h24 := P 2 4; have h25 := P 2 5; have h26 := P 2 6; have h27 := P 2 7; have h28 := P 2 8
  have h34 := P 3 4; have h35 := P 3 5; have h36 := P 3 6; have h37 := P 3 7; have h38 := P 3 8
  have h45 := P 4 5; have h46 := P 4 6; have h47 := P 4 7; have h48 := P 4 8
  have h56 := P 5 6; have h57 := P 5 7; have h58 := P 5 8
  have h67 := P 6 7; have h68 := P 6 8
  have h78 := P 7 8
  omega

theorem argmin (f : Nat → Nat) : ∀ n, ∃ v, v < n + 1 ∧ ∀ k, k < n + 1 → f v ≤ f k
  | 0 => ⟨0, by omega, fun k hk => by have : k = 0 := by omega
                                      subst this; omega⟩
  | n + 1 => by
    obtain ⟨v, hv, h⟩ := argmin f n
    by_cases hn : f v ≤ f (n + 1)
    · exact ⟨v, by omega, fun k hk => by
        by_cases e : k = n + 1
        · subst e; exact hn
        · exact h k (by omega)⟩
    · refine ⟨n + 1, by omega, fun k hk => ?_⟩
      by_cases e : k = n + 1
      · subst e; omega
      · have := h k (by omega); omega

theorem c_split (p q : Nat → Bool) : c p = c (fun j => p j && q j) + c (fun j => p j && !q j) := by
  have : ∀ a b : Bool, a.toNat = (a && b).toNat + (a && !b).toNat := by decide
  simp only [c_nine]
  rw [this (p 0) (q 0), this (p 1) (q 1), this (p 2) (q 2), this (p 3) (q 3), this (p 4) (q 4), this (p 5) (q 5), this (p 6) (q 6), this (p 7) (q 7), this (p 8) (q 8)]
  omega
section
variable {N : Nat → Nat → Bool} (hN : ∀ i j, N i j = true → N j i = false)
include hN
omit hN in
theorem beh_of {v m j : Nat} (hm : m < 9) (h1 : N v m = true) (h2 : N m j = true) (h3 : N v j = false) : beh N v j = true := by
  unfold beh
  rw [h3]
  simp only [Bool.not_false, Bool.true_and, List.any_eq_true, Bool.and_eq_true]
  exact ⟨m, by simpa using hm, h1, h2⟩
theorem no_in {v x : Nat} (hx : x < 9) (hv : N v x = true) (h : ∀ j, j < 9 → N v j = true → N x j = false) : c (N x) ≤ c (beh N v) := by
  refine c_mono fun j hj hp => beh_of hx hv hp ?_
  cases e : N v j with
  | false => rfl
  | true => rw [h j hj e] at hp; cases hp
theorem cyc {v a b e : Nat} (hv : v < 9) (ha : a < 9) (hb : b < 9) (he : e < 9) (hd : c (N v) ≤ 3) (h3 : ∀ k, k < 9 → 3 ≤ c (N k)) (hA : ∀ j, j < 9 → (N v j = true ↔ j = a ∨ j = b ∨ j = e)) (hab : N a b = true) (hbe : N b e = true) (hea : N e a = true) :
    ∃ k, k < 9 ∧ c (N k) ≤ c (beh N k) := by
  by_cases hbig : 3 ≤ c (beh N v)
  · exact ⟨v, hv, by omega⟩
  have va : N v a = true := (hA a ha).mpr (.inl rfl)
  have vb : N v b = true := (hA b hb).mpr (.inr (.inl rfl))
  have ve : N v e = true := (hA e he).mpr (.inr (.inr rfl))
  -- the out-neighbours of one of the three, but the next
  have sub : ∀ x y z, x < 9 → N v x = true → N x y = true → N z x = true → (∀ j, j < 9 → (N v j = true ↔ j = x ∨ j = y ∨ j = z)) → ∀ j, j < 9 → (N x j && !(j == y)) = true → beh N v j = true := by
    intro x y z hx hvx hxy hzx hA j hj hp
    rw [Bool.and_eq_true] at hp
    refine beh_of hx hvx hp.1 ?_
    cases q : N v j with
    | false => rfl
    | true =>
      exfalso
      rcases (hA j hj).mp q with rfl | rfl | rfl
      · have := self_no hN j; rw [hp.1] at this; cases this
      · have := hp.2; simp at this
      · have := hN _ _ hzx; rw [hp.1] at this; cases this
  have all : ∀ x y z, x < 9 → N v x = true → N x y = true → N z x = true → (∀ j, j < 9 → (N v j = true ↔ j = x ∨ j = y ∨ j = z)) → c (N x) ≤ 3 ∧ ∀ j, j < 9 → beh N v j = true → N x j = true := by
    intro x y z hx hvx hxy hzx hA'
    have s := sub x y z hx hvx hxy hzx hA'
    have h1 := c_ne (N x) y
    have h2 := c_mono s
    refine ⟨by omega, fun j hj hbj => ?_⟩
    cases q : (N x j && !(j == y)) with
    | true => rw [Bool.and_eq_true] at q; exact q.1
    | false =>
      exfalso
      have h4 := c_add (p := fun j => N x j && !(j == y)) (y := j) q hj
      have h5 : c (fun l => (N x l && !(l == y)) || l == j) ≤ c (beh N v) := c_mono fun l hl hp => by
        rcases Bool.or_eq_true_iff.mp hp with hp | hp
        · exact s l hl hp
        · rw [eq_of_beq hp]; exact hbj
      have := h3 x hx
      omega
  obtain ⟨da, Na⟩ := all a b e ha va hab hea hA
  obtain ⟨_, Nb⟩ := all b e a hb vb hbe hab fun j hj => by rw [hA j hj]; exact ⟨fun h => by rcases h with h | h | h <;> simp [h], fun h => by rcases h with h | h | h <;> simp [h]⟩
  obtain ⟨_, Ne⟩ := all e a b he ve hea hbe fun j hj => by rw [hA j hj]; exact ⟨fun h => by rcases h with h | h | h <;> simp [h], fun h => by rcases h with h | h | h <;> simp [h]⟩
  have s := sub a b e ha va hab hea hA
  have h1 := c_ne (N a) b
  have h2 := c_mono s
  have h4 := h3 a ha
  obtain ⟨x, hx, hbx⟩ := c_pos (p := beh N v) (by omega)
  have xa := hN _ _ (Na x hx hbx)
  have xb := hN _ _ (Nb x hx hbx)
  have xe := hN _ _ (Ne x hx hbx)
  have h5 := c_split (N x) (N a)
  have h6 : c (fun j => N x j && N a j) ≤ c (fun j => beh N v j && !(j == x)) := c_mono fun j hj hp => by
    rw [Bool.and_eq_true] at hp ⊢
    have hjb : j ≠ b := fun q => by subst q; rw [xb] at hp; cases hp.1
    have hjx : j ≠ x := fun q => by subst q; rw [self_no hN j] at hp; cases hp.1
    exact ⟨s j hj (by simp [hp.2, hjb]), by simp [hjx]⟩
  have h7 := c_add (p := fun j => beh N v j && !(j == x)) (y := x) (by simp) hx
  have h8 : c (fun l => (beh N v l && !(l == x)) || l == x) ≤ c (beh N v) := c_mono fun l hl hp => by
    rcases Bool.or_eq_true_iff.mp hp with hp | hp
    · rw [Bool.and_eq_true] at hp; exact hp.1
    · rw [eq_of_beq hp]; exact hbx
  have h9 := h3 x hx
  have ae := hN _ _ hea
  have h10 := c_add (p := fun j => N x j && !N a j) (y := e) (by simp [xe]) he
  have h11 : c (fun l => (N x l && !N a l) || l == e) ≤ c (beh N a) := c_mono fun l hl hp => by
    rcases Bool.or_eq_true_iff.mp hp with hp | hp
    · rw [Bool.and_eq_true] at hp
      exact beh_of hx (Na x hx hbx) hp.1 (by simpa using hp.2)
    · rw [eq_of_beq hp]
      exact beh_of hb hab hbe ae
  exact ⟨a, ha, by omega⟩

theorem complete (h4 : ∀ k, k < 9 → 4 ≤ c (N k)) {i j : Nat} (hi : i < 9) (hj : j < 9) (hne : i ≠ j) : N i j = true ∨ N j i = true := by
  cases e1 : N i j with
  | true => exact .inl rfl
  | false =>
    cases e2 : N j i with
    | true => exact .inr rfl
    | false =>
      exfalso
      have hM : ∀ k l, (N k l || (k == i && l == j)) = true → (N l k || (l == i && k == j)) = false := fun k l h => by
        rcases Bool.or_eq_true_iff.mp h with g | g
        · rw [hN _ _ g, Bool.false_or]
          cases q : (l == i && k == j) with
          | false => rfl
          | true =>
            simp only [Bool.and_eq_true, beq_iff_eq] at q
            rw [q.1, q.2, e2] at g
            cases g
        · simp only [Bool.and_eq_true, beq_iff_eq] at g
          rw [g.1, g.2, e2, Bool.false_or]
          have : (j == i) = false := beq_eq_false_iff_ne.mpr (Ne.symm hne)
          rw [this]; rfl
      have tot := total (N := fun k l => N k l || (k == i && l == j)) hM
      have up : ∀ k, c (N k) ≤ c (fun l => N k l || (k == i && l == j)) := fun k => c_mono fun l _ h => by simp [h]
      have up1 : c (N i) + 1 ≤ c (fun l => N i l || (i == i && l == j)) := by
        have := c_add (p := N i) e1 hj
        simpa using this
      have g0 := up 0; have g1 := up 1; have g2 := up 2; have g3 := up 3; have g4 := up 4; have g5 := up 5; have g6 := up 6; have g7 := up 7; have g8 := up 8
      have k0 := h4 0 (by omega); have k1 := h4 1 (by omega); have k2 := h4 2 (by omega); have k3 := h4 3 (by omega); have k4 := h4 4 (by omega); have k5 := h4 5 (by omega); have k6 := h4 6 (by omega); have k7 := h4 7 (by omega); have k8 := h4 8 (by omega)
      have hi' : i = 0 ∨ i = 1 ∨ i = 2 ∨ i = 3 ∨ i = 4 ∨ i = 5 ∨ i = 6 ∨ i = 7 ∨ i = 8 := by omega
      rcases hi' with rfl | rfl | rfl | rfl | rfl | rfl | rfl | rfl | rfl <;> omega

theorem seymour : ∃ k, k < 9 ∧ c (N k) ≤ c (beh N k) := by
  obtain ⟨v, hv, hmin⟩ := argmin (fun k => c (N k)) 8
  have hmin : ∀ k, k < 9 → c (N v) ≤ c (N k) := hmin
  have tot := total hN
  have k0 := hmin 0 (by omega); have k1 := hmin 1 (by omega); have k2 := hmin 2 (by omega); have k3 := hmin 3 (by omega); have k4 := hmin 4 (by omega); have k5 := hmin 5 (by omega); have k6 := hmin 6 (by omega); have k7 := hmin 7 (by omega); have k8 := hmin 8 (by omega)
  have hL : c (N v) = ((List.range 9).filter (N v)).length := List.countP_eq_length_filter
  have hmem : ∀ j, j < 9 → (N v j = true ↔ j ∈ (List.range 9).filter (N v)) := fun j hj => by simp [hj]
  have hlt : ∀ j, j ∈ (List.range 9).filter (N v) → j < 9 := fun j hj => by simpa using (List.mem_filter.mp hj).1
  have hin : ∀ j, j ∈ (List.range 9).filter (N v) → N v j = true := fun j hj => (List.mem_filter.mp hj).2
  have h4 : c (N v) ≤ 4 := by omega
  generalize hLe : (List.range 9).filter (N v) = L at hL hmem hlt hin
  match L, hL with
  | [], hL => exact ⟨v, hv, by simp at hL; omega⟩
  | [a], hL =>
    have ha := hlt a (by simp)
    have := no_in hN ha (hin a (by simp)) fun j hj h => by
      have : j = a := by simpa using (hmem j hj).mp h
      rw [this]; exact self_no hN a
    have := hmin a ha
    exact ⟨v, hv, by omega⟩
  | [a, b], hL =>
    have ha := hlt a (by simp)
    have hb := hlt b (by simp)
    cases q : N a b with
    | true =>
      have := no_in hN hb (hin b (by simp)) fun j hj h => by
        have : j = a ∨ j = b := by simpa using (hmem j hj).mp h
        rcases this with rfl | rfl
        · exact hN _ _ q
        · exact self_no hN _
      have := hmin b hb
      exact ⟨v, hv, by omega⟩
    | false =>
      have := no_in hN ha (hin a (by simp)) fun j hj h => by
        have : j = a ∨ j = b := by simpa using (hmem j hj).mp h
        rcases this with rfl | rfl
        · exact self_no hN _
        · exact q
      have := hmin a ha
      exact ⟨v, hv, by omega⟩
  | [a, b, e], hL =>
    have ha := hlt a (by simp)
    have hb := hlt b (by simp)
    have he := hlt e (by simp)
    have hA : ∀ j, j < 9 → (N v j = true ↔ j = a ∨ j = b ∨ j = e) := fun j hj => by rw [hmem j hj]; simp
    have hd : c (N v) ≤ 3 := by simp at hL; omega
    have h3 : ∀ k, k < 9 → 3 ≤ c (N k) := fun k hk => by have := hmin k hk; simp at hL; omega
    have none : ∀ x, x < 9 → N v x = true → N x a = false → N x b = false → N x e = false → ∃ k, k < 9 ∧ c (N k) ≤ c (beh N k) := fun x hx hvx xa xb xe => by
      have := no_in hN hx hvx fun j hj h => by
        rcases (hA j hj).mp h with rfl | rfl | rfl <;> assumption
      have := hmin x hx
      exact ⟨v, hv, by omega⟩
    have va := hin a (by simp)
    have vb := hin b (by simp)
    have ve := hin e (by simp)
    have aa := self_no hN a
    have bb := self_no hN b
    have ee := self_no hN e
    cases ab : N a b with
    | true =>
      have ba := hN _ _ ab
      cases be : N b e with
      | false => exact none b hb vb ba bb be
      | true =>
        have eb := hN _ _ be
        cases ea : N e a with
        | false => exact none e he ve ea eb ee
        | true => exact cyc hN hv ha hb he hd h3 hA ab be ea
    | false =>
      cases ae : N a e with
      | false => exact none a ha va aa ab ae
      | true =>
        have ea := hN _ _ ae
        cases eb : N e b with
        | false => exact none e he ve ea eb ee
        | true =>
          have be := hN _ _ eb
          cases ba : N b a with
          | false => exact none b hb vb ba bb be
          | true => exact cyc hN hv ha he hb hd h3 (fun j hj => by rw [hA j hj]; exact ⟨fun h => by rcases h with h | h | h <;> simp [h], fun h => by rcases h with h | h | h <;> simp [h]⟩) ae eb ba
  | a :: b :: e :: f :: L, hL =>
    have hd : c (N v) = 4 := by simp at hL; omega
    have h4 : ∀ k, k < 9 → 4 ≤ c (N k) := fun k hk => by have := hmin k hk; omega
    have top : ∀ u, u < 9 → c (N u) ≤ 4 := fun u hu => by
      have hi' : u = 0 ∨ u = 1 ∨ u = 2 ∨ u = 3 ∨ u = 4 ∨ u = 5 ∨ u = 6 ∨ u = 7 ∨ u = 8 := by omega
      rcases hi' with rfl | rfl | rfl | rfl | rfl | rfl | rfl | rfl | rfl <;> omega
    refine ⟨v, hv, ?_⟩
    have h5 := c_split (fun _ => true) (N v)
    have h6 : c (fun _ => true) = 9 := by decide
    have h7 := c_ne (fun j => true && !N v j) v
    have h8 : c (fun j => true && N v j) = c (N v) := by simp
    have h9 : c (fun j => (true && !N v j) && !(j == v)) ≤ c (beh N v) := c_mono fun u hu hp => by
      simp only [Bool.true_and, Bool.and_eq_true, Bool.not_eq_true', beq_eq_false_iff_ne] at hp
      obtain ⟨hp, hne⟩ := hp
      have uv : N u v = true := by
        rcases complete hN h4 hu hv hne with h | h
        · exact h
        · rw [hp] at h; cases h
      cases q : beh N v u with
      | true => rfl
      | false =>
        exfalso
        have hsub : c (fun l => N v l || l == v) ≤ c (N u) := c_mono fun l hl h => by
          rcases Bool.or_eq_true_iff.mp h with h | h
          · have hlu : l ≠ u := fun e => by subst e; rw [hp] at h; cases h
            rcases complete hN h4 hl hu hlu with g | g
            · have := beh_of hl h g hp
              rw [q] at this; cases this
            · exact g
          · rw [eq_of_beq h]; exact uv
        have := c_add (p := N v) (self_no hN v) hv
        have := top u hu
        omega
    omega
end
end Mine.Sey
/-! ## S1 -/
set_option autoImplicit false
set_option maxRecDepth 100000
namespace Mine
open PySem

/-! the rights that filemode shows, by the bits -/
theorem ba_nat {m : Int} (hm : 0 ≤ m) (b : Nat) : Builtin.bitAnd m (b : Int) = ((m.toNat &&& b : Nat) : Int) := by
  unfold Builtin.bitAnd
  simp [hm]
theorem ba_beq {m : Int} (hm : 0 ≤ m) (b : Nat) : (Builtin.bitAnd m (b : Int) == (b : Int)) = (m.toNat &&& b == b) := by
  rw [ba_nat hm]
  by_cases h : m.toNat &&& b = b
  · rw [h]; simp
  · have : ¬ (((m.toNat &&& b : Nat) : Int) = (b : Int)) := fun e => h (Int.ofNat.inj e)
    rw [beq_eq_false_iff_ne.mpr h, beq_eq_false_iff_ne.mpr this]
theorem and_p2 (x i : Nat) : (x &&& 2 ^ i == 2 ^ i) = x.testBit i := by
  cases h : x.testBit i with
  | true =>
    refine beq_iff_eq.mpr (Nat.eq_of_testBit_eq fun j => ?_)
    rw [Nat.testBit_and, Nat.testBit_two_pow]
    by_cases hj : i = j
    · subst hj; simp [h]
    · simp [hj]
  | false =>
    refine beq_eq_false_iff_ne.mpr fun e => ?_
    have := congrArg (fun y => y.testBit i) e
    simp [Nat.testBit_and, h, Nat.testBit_two_pow_self] at this
theorem and_two (x i j : Nat) (c : Nat) (hc : c = 2 ^ i ||| 2 ^ j) : (x &&& c == c) = (x.testBit i && x.testBit j) := by
  subst hc
  have e1 := and_p2 x i
  have e2 := and_p2 x j
  by_cases h1 : x &&& 2 ^ i = 2 ^ i
  · by_cases h2 : x &&& 2 ^ j = 2 ^ j
    · have : x &&& (2 ^ i ||| 2 ^ j) = 2 ^ i ||| 2 ^ j := by rw [Nat.and_or_distrib_left, h1, h2]
      rw [this, ← e1, ← e2, h1, h2]; simp
    · have t2 : x.testBit j = false := by rw [← e2]; exact beq_eq_false_iff_ne.mpr h2
      rw [t2, Bool.and_false]
      refine beq_eq_false_iff_ne.mpr fun e => ?_
      have := congrArg (fun y => y.testBit j) e
      simp [Nat.testBit_and, Nat.testBit_or, t2, Nat.testBit_two_pow_self] at this
  · have t1 : x.testBit i = false := by rw [← e1]; exact beq_eq_false_iff_ne.mpr h1
    rw [t1, Bool.false_and]
    refine beq_eq_false_iff_ne.mpr fun e => ?_
    have := congrArg (fun y => y.testBit i) e
    simp [Nat.testBit_and, Nat.testBit_or, t1, Nat.testBit_two_pow_self] at this

/-- the sign of the right j -/
def permN (m : Int) (j : Nat) : Nat := (filemodeL m).getD (j + 1) 0
theorem bit_beq {m : Int} (hm : 0 ≤ m) (i : Nat) (c : Int) (hc : c = ((2 ^ i : Nat) : Int)) : (Builtin.bitAnd m c == c) = m.toNat.testBit i := by
  rw [hc, ba_beq hm, and_p2]
theorem bit_beq2 {m : Int} (hm : 0 ≤ m) (i j : Nat) (c : Int) (hc : c = ((2 ^ i ||| 2 ^ j : Nat) : Int)) : (Builtin.bitAnd m c == c) = (m.toNat.testBit i && m.toNat.testBit j) := by
  rw [hc, ba_beq hm, and_two _ i j _ rfl]
/-- one right -/
theorem char_one {m : Int} (hm : 0 ≤ m) {i c : Int} {k n : Nat} (hi : i ≠ 0) (hc : c = ((2 ^ k : Nat) : Int)) : charN m (.tup [.int i, .tup [rowD c n]]) = if m.toNat.testBit k then n else 45 := by
  have e : charN m (.tup [.int i, .tup [rowD c n]]) = (match [rowD c n].find? (rowHit m i) with | some r => rowC r | none => if i = 0 then 63 else 45) := rfl
  have h : rowHit m i (rowD c n) = m.toNat.testBit k := by
    show (if i = 0 then Builtin.bitAnd m 61440 == c else Builtin.bitAnd m c == c) = _
    rw [if_neg hi, bit_beq hm k c hc]
  rw [e, List.find?_cons, h]
  cases m.toNat.testBit k with
  | true => rfl
  | false => simp [hi]
/-- the right to run, with the mark -/
theorem char_three {m : Int} (hm : 0 ≤ m) {i c1 c2 c3 : Int} {k l n1 n2 n3 : Nat} (hi : i ≠ 0) (h1 : c1 = ((2 ^ k ||| 2 ^ l : Nat) : Int)) (h2 : c2 = ((2 ^ k : Nat) : Int)) (h3 : c3 = ((2 ^ l : Nat) : Int)) :
    charN m (.tup [.int i, .tup [rowD c1 n1, rowD c2 n2, rowD c3 n3]]) = if m.toNat.testBit k then (if m.toNat.testBit l then n1 else n2) else if m.toNat.testBit l then n3 else 45 := by
  have e : charN m (.tup [.int i, .tup [rowD c1 n1, rowD c2 n2, rowD c3 n3]]) = (match [rowD c1 n1, rowD c2 n2, rowD c3 n3].find? (rowHit m i) with | some r => rowC r | none => if i = 0 then 63 else 45) := rfl
  have g1 : rowHit m i (rowD c1 n1) = (m.toNat.testBit k && m.toNat.testBit l) := by
    show (if i = 0 then Builtin.bitAnd m 61440 == c1 else Builtin.bitAnd m c1 == c1) = _
    rw [if_neg hi, bit_beq2 hm k l c1 h1]
  have g2 : rowHit m i (rowD c2 n2) = m.toNat.testBit k := by
    show (if i = 0 then Builtin.bitAnd m 61440 == c2 else Builtin.bitAnd m c2 == c2) = _
    rw [if_neg hi, bit_beq hm k c2 h2]
  have g3 : rowHit m i (rowD c3 n3) = m.toNat.testBit l := by
    show (if i = 0 then Builtin.bitAnd m 61440 == c3 else Builtin.bitAnd m c3 == c3) = _
    rw [if_neg hi, bit_beq hm l c3 h3]
  rw [e, List.find?_cons, g1, List.find?_cons, g2, List.find?_cons, g3]
  cases m.toNat.testBit k <;> cases m.toNat.testBit l <;> simp [hi, rowC, rowD]
theorem perm_r {m : Int} (hm : 0 ≤ m) : permN m 0 = (if m.toNat.testBit 8 then 114 else 45) ∧ permN m 1 = (if m.toNat.testBit 7 then 119 else 45) ∧ permN m 3 = (if m.toNat.testBit 5 then 114 else 45) ∧ permN m 4 = (if m.toNat.testBit 4 then 119 else 45) ∧
    permN m 6 = (if m.toNat.testBit 2 then 114 else 45) ∧ permN m 7 = (if m.toNat.testBit 1 then 119 else 45) :=
  ⟨char_one hm (i := 1) (c := 256) (by decide) (by decide), char_one hm (i := 2) (c := 128) (by decide) (by decide), char_one hm (i := 4) (c := 32) (by decide) (by decide), char_one hm (i := 5) (c := 16) (by decide) (by decide), char_one hm (i := 7) (c := 4) (by decide) (by decide), char_one hm (i := 8) (c := 2) (by decide) (by decide)⟩
theorem perm_x {m : Int} (hm : 0 ≤ m) : permN m 2 = (if m.toNat.testBit 11 then (if m.toNat.testBit 6 then 115 else 83) else if m.toNat.testBit 6 then 120 else 45) ∧
    permN m 5 = (if m.toNat.testBit 10 then (if m.toNat.testBit 3 then 115 else 83) else if m.toNat.testBit 3 then 120 else 45) ∧
    permN m 8 = (if m.toNat.testBit 9 then (if m.toNat.testBit 0 then 116 else 84) else if m.toNat.testBit 0 then 120 else 45) :=
  ⟨char_three hm (i := 3) (c1 := 2112) (c2 := 2048) (c3 := 64) (by decide) (by decide) (by decide) (by decide), char_three hm (i := 6) (c1 := 1032) (c2 := 1024) (c3 := 8) (by decide) (by decide) (by decide) (by decide), char_three hm (i := 9) (c1 := 513) (c2 := 512) (c3 := 1) (by decide) (by decide) (by decide) (by decide)⟩
end Mine
/-! ## S2 -/
set_option autoImplicit false
set_option maxRecDepth 100000
namespace Mine
open PySem

/-- a right's sign in the pattern's bracket -/
theorem has_eq {m : Int} (hm : 0 ≤ m) {j : Nat} (hj : j < 9) : has m j = m.toNat.testBit (8 - j) := by
  have h : has m j = (signL j).contains (permN m j) := rfl
  obtain ⟨p0, p1, p3, p4, p6, p7⟩ := perm_r hm
  obtain ⟨p2, p5, p8⟩ := perm_x hm
  rw [h]
  have : j = 0 ∨ j = 1 ∨ j = 2 ∨ j = 3 ∨ j = 4 ∨ j = 5 ∨ j = 6 ∨ j = 7 ∨ j = 8 := by omega
  rcases this with rfl | rfl | rfl | rfl | rfl | rfl | rfl | rfl | rfl
  · rw [p0]; cases m.toNat.testBit 8 <;> rfl
  · rw [p1]; cases m.toNat.testBit 7 <;> rfl
  · rw [p2]; cases m.toNat.testBit 11 <;> cases m.toNat.testBit 6 <;> rfl
  · rw [p3]; cases m.toNat.testBit 5 <;> rfl
  · rw [p4]; cases m.toNat.testBit 4 <;> rfl
  · rw [p5]; cases m.toNat.testBit 10 <;> cases m.toNat.testBit 3 <;> rfl
  · rw [p6]; cases m.toNat.testBit 2 <;> rfl
  · rw [p7]; cases m.toNat.testBit 1 <;> rfl
  · rw [p8]; cases m.toNat.testBit 9 <;> cases m.toNat.testBit 0 <;> rfl

/-- the bits that are set, as a number -/
def packed (p : Nat → Bool) : Nat → Nat
  | 0 => 0
  | n + 1 => 2 * packed p n + (p n).toNat
theorem packed_succ (p : Nat → Bool) (n : Nat) : packed p (n + 1) = 2 * packed p n + (p n).toNat := rfl
theorem packed_lt (p : Nat → Bool) : ∀ n, packed p n < 2 ^ n
  | 0 => by show 0 < 1; decide
  | n + 1 => by
    have := packed_lt p n
    rw [packed_succ, Nat.pow_succ]
    have : (p n).toNat ≤ 1 := by cases p n <;> decide
    omega
theorem packed_bit (p : Nat → Bool) : ∀ n j, j < n → (packed p n).testBit (n - 1 - j) = p j
  | 0, _, h => by omega
  | n + 1, j, h => by
    rw [packed_succ]
    by_cases e : j = n
    · subst e
      rw [show j + 1 - 1 - j = 0 by omega, Nat.testBit_zero]
      cases p j <;> simp <;> omega
    · rw [show n + 1 - 1 - j = (n - 1 - j) + 1 by omega, Nat.testBit_succ]
      have : (2 * packed p n + (p n).toNat) / 2 = packed p n := by cases p n <;> simp <;> omega
      rw [this]
      exact packed_bit p n j (by omega)
theorem fold_int (f : Nat → Int) : ∀ (l : List Nat) (a : Int), l.foldl (fun (a : Int) (j : Nat) => a + f j) a = a + (l.map f).sum
  | [], a => by simp
  | j :: l, a => by rw [List.foldl_cons, fold_int f l, List.map_cons, List.sum_cons]; omega
theorem sum_packed (p : Nat → Bool) : ∀ n, n ≤ 9 → (((List.range n).filter p).map fun (j : Nat) => (2 : Int) ^ (n - 1 - j)).sum = packed p n
  | 0, _ => rfl
  | n + 1, h => by
    have ih := sum_packed p n (by omega)
    rw [List.range_succ, List.filter_append, List.map_append, List.sum_append]
    have e : ((List.range n).filter p).map (fun (j : Nat) => (2 : Int) ^ (n + 1 - 1 - j)) = (((List.range n).filter p).map fun (j : Nat) => (2 : Int) ^ (n - 1 - j)).map (2 * ·) := by
      rw [List.map_map]
      refine List.map_congr_left fun j hj => ?_
      have : j < n := by simpa using (List.mem_filter.mp hj).1
      simp only [Function.comp]
      rw [show n + 1 - 1 - j = (n - 1 - j) + 1 by omega, Int.pow_succ]; omega
    have e2 : ∀ l : List Int, (l.map (2 * ·)).sum = 2 * l.sum := fun l => by
      induction l with
      | nil => rfl
      | cons a l ih => rw [List.map_cons, List.sum_cons, List.sum_cons, ih]; omega
    rw [e, e2, ih, packed_succ]
    cases hp : p n with
    | true => simp [hp]
    | false => simp [hp]
theorem mode_eq {ns : List Int} {k : Nat} (h0 : 0 ≤ ns.getD k 0) : 0 ≤ mode ns k ∧ (mode ns k).toNat = 2 ^ 9 * ((ns.getD k 0).toNat / 512) + packed (wd ns k) 9 := by
  have e : mode ns k = (ns.getD k 0).fdiv 512 * 512 + (packed (wd ns k) 9 : Int) := by
    unfold mode
    rw [fold_int fun (j : Nat) => 2 ^ (8 - (j : Int)).toNat]
    have : (wards ns k).map (fun (j : Nat) => (2 : Int) ^ (8 - (j : Int)).toNat) = ((List.range 9).filter (wd ns k)).map fun (j : Nat) => (2 : Int) ^ (9 - 1 - j) := by
      unfold wards
      refine List.map_congr_left fun j hj => ?_
      have : j < 9 := by simpa using (List.mem_filter.mp hj).1
      rw [show (8 - (j : Int)).toNat = 9 - 1 - j by omega]
    rw [this, sum_packed _ 9 (by omega)]
    omega
  have f : (ns.getD k 0).fdiv 512 = (((ns.getD k 0).toNat / 512 : Nat) : Int) := by
    rw [Int.fdiv_eq_ediv_of_nonneg _ (by decide)]
    omega
  rw [e, f]
  omega
theorem mode_has {ns : List Int} {k j : Nat} (h0 : 0 ≤ ns.getD k 0) (hj : j < 9) : has (mode ns k) j = wd ns k j := by
  obtain ⟨h1, h2⟩ := mode_eq h0
  rw [has_eq h1 hj, h2, Nat.testBit_two_pow_mul_add _ (packed_lt _ 9), if_pos (by omega)]
  exact packed_bit (wd ns k) 9 j hj
theorem num_nonneg {s : List Int} {k : Nat} : 0 ≤ (nums s).getD k 0 := by
  have hall : ∀ x ∈ nums s, 0 ≤ x := fun x hx => by
    unfold nums at hx
    obtain ⟨y, _, rfl⟩ := List.mem_map.mp hx
    exact Int.fmod_nonneg_of_pos _ (by decide)
  cases h : (nums s)[k]? with
  | none => rw [List.getD_eq_getElem?_getD, h]; exact Int.le_refl 0
  | some x => rw [List.getD_eq_getElem?_getD, h]; exact hall x (List.mem_of_getElem? h)
theorem first_eq (s : List Int) (k : Nat) : firstL (mode (nums s) k) = wards (nums s) k := by
  unfold firstL wards
  refine List.filter_congr fun j hj => ?_
  exact mode_has num_nonneg (by simpa using hj)
theorem second_eq (s : List Int) (k : Nat) : secondL (nums s) (mode (nums s) k) = behind (nums s) k := by
  unfold secondL behind
  rw [first_eq]
  refine List.filter_congr fun j hj => ?_
  have hj : j < 9 := by simpa using hj
  have : (wards (nums s) k).filter (fun i => has (mode (nums s) i) j) = (wards (nums s) k).filter fun m => (wards (nums s) m).contains j := by
    refine List.filter_congr fun i _ => ?_
    rw [mode_has num_nonneg hj]
    unfold wards
    cases h : wd (nums s) i j with
    | true => simp [h, hj]
    | false => simp [h]
  rw [this]
theorem law_seymour (s : List Int) : ∃ k < 9, (wards (nums s) k).length ≤ (behind (nums s) k).length := by
  have hN : ∀ i j, wd (nums s) i j = true → wd (nums s) j i = false := fun i j h => by
    unfold wd at *
    have := of_decide_eq_true h
    exact decide_eq_false (by omega)
  obtain ⟨k, hk, h⟩ := Sey.seymour hN
  refine ⟨k, hk, ?_⟩
  unfold Sey.c at h
  rw [List.countP_eq_length_filter, List.countP_eq_length_filter] at h
  have e : (List.range 9).filter (Sey.beh (wd (nums s)) k) = behind (nums s) k := by
    unfold behind
    refine List.filter_congr fun j hj => ?_
    have hj : j < 9 := by simpa using hj
    have w : ∀ i, (wards (nums s) i).contains j = wd (nums s) i j := fun i => by
      unfold wards
      cases h : wd (nums s) i j with
      | true => simp [h, hj]
      | false => simp [h]
    unfold Sey.beh
    rw [w k]
    congr 1
    simp only [w]
    unfold wards
    rw [List.filter_filter]
    cases q : ((List.range 9).any fun m => wd (nums s) k m && wd (nums s) m j) with
    | true =>
      obtain ⟨m, hm, hp⟩ := List.any_eq_true.mp q
      have : m ∈ (List.range 9).filter fun a => wd (nums s) a j && wd (nums s) k a := List.mem_filter.mpr ⟨hm, by rw [Bool.and_comm]; exact hp⟩
      cases hh : ((List.range 9).filter fun a => wd (nums s) a j && wd (nums s) k a) with
      | nil => rw [hh] at this; cases this
      | cons _ _ => rfl
    | false =>
      have : ((List.range 9).filter fun a => wd (nums s) a j && wd (nums s) k a) = [] := by
        rw [List.filter_eq_nil_iff]
        intro m hm hp
        have := List.any_eq_false.mp q m hm
        rw [Bool.and_comm] at hp
        exact this hp
      rw [this]; rfl
  rw [e] at h
  exact h
theorem law_true {s : List Int} (hs : s.length ≤ 63) : lawFn [.scr (s.map .int)] [] [] = some (.bool true, []) :=
  law_eq hs (fun k _ => ⟨first_eq s k, second_eq s k⟩) (law_seymour s)
end Mine
/-! ## H08 -/
open PySem PySem.W PyProof.Rows
set_option Elab.async false
set_option maxRecDepth 100000
set_option maxHeartbeats 8000000
open_top Mine.hd for PySem.Challenge.rw_kt0068_08
/-! ## Q4 -/
set_option autoImplicit false
set_option maxRecDepth 100000
namespace Mine
open PySem PySem.W PyProof.Rows PySem.Calls PySem.Challenge
noncomputable abbrev KH (P : Params) : Frag := hd.heap_39 P
set_option maxHeartbeats 4000000


def b_init : { b : BS // methAt pw_kt0068_08 7 0 = b } := ⟨_, by (conv => lhs; whnf)⟩
section
variable {B : Base} {P : Params}
theorem k_bl (X : Ctx B (KH P)) : ∀ f ∈ builtinNames, B.mg f = none := by
  intro f hf
  have : builtinNames.all (gNone (KH P)) = true := by kernel_rfl
  exact X.none (List.all_eq_true.mp this f hf)
theorem k_attr (X : Ctx B (KH P)) : AttrT B := X.attr (by kernel_rfl)
theorem no_sub {Γ : Gam} {k : Nat} (h : Γ.res = []) : SubOk B Γ k := noSub h
theorem con_name (X : Ctx B (KH P)) : ConT B "_name_disallowed_re" (.pat 0) := X.con (by kernel_rfl)
theorem con_value (X : Ctx B (KH P)) : ConT B "_value_disallowed_re" (.pat 1) := X.con (by kernel_rfl)
theorem con_twin (X : Ctx B (KH P)) : ConT B "_twin_re_1" (.pat 2) := X.con (by kernel_rfl)
theorem con_tab (X : Ctx B (KH P)) : ConT B "_filemode_table" (.tup fmTab) := X.con (by kernel_rfl)

theorem conv_T (X : Ctx B (KH P)) : MethT B 22 "Headers" "_convert_string_type" convFn := by
  have G : GamOk B G_conv 0 := mkGam_ok (by simp) (by
    intro p hp
    simp only [List.mem_cons, List.not_mem_nil, or_false] at hp
    rcases hp with rfl | rfl
    · exact con_name X
    · exact con_value X) (by simp) (by simp) (by simp) (k_attr X) (k_bl X)
  exact X.methSt (k := 0) (n := 20) (by kernel_rfl) (by kernel_rfl) (by kernel_rfl) (bind_kw fun us u h => by obtain ⟨a, b, rfl⟩ := len2 h; kernel_rfl) G (no_sub rfl)

theorem get_T (X : Ctx B (KH P)) : MethT B 54 "Headers" "get" getFn := by
  have G : GamOk B G_get 22 := mkGam_ok (by simp) (by simp) (by
    intro p hp
    simp only [List.mem_cons, List.not_mem_nil, or_false] at hp
    subst hp
    exact conv_T X) (by simp) (by simp) (k_attr X) (k_bl X)
  exact X.methSt (k := 22) (n := 30) (by kernel_rfl) (by kernel_rfl) (by kernel_rfl) (bind_get X.hK (by kernel_rfl) (by kernel_rfl)) G (no_sub rfl)
theorem add_T (X : Ctx B (KH P)) : MethT B 64 "Headers" "add_header" addFn := by
  have G : GamOk B G_add 22 := mkGam_ok (by simp) (by simp) (by
    intro p hp
    simp only [List.mem_cons, List.not_mem_nil, or_false] at hp
    subst hp
    exact conv_T X) (by simp) (by simp) (k_attr X) (k_bl X)
  exact X.methSt (k := 22) (n := 40) (by kernel_rfl) (by kernel_rfl) (by kernel_rfl) (bind_dict fun us h => by obtain ⟨a, b, c, rfl⟩ := len3 h; kernel_rfl) G (no_sub rfl)
theorem G_plain_ok (X : Ctx B (KH P)) {k : Nat} : GamOk B G_plain k := mkGam_ok (by simp) (by simp) (by simp) (by simp) (by simp) (k_attr X) (k_bl X)
theorem values_T (X : Ctx B (KH P)) : MethT B 32 "Headers" "values" valuesFn :=
  X.methSt (k := 0) (n := 30) (by kernel_rfl) (by kernel_rfl) (by kernel_rfl) (bind_pos fun us h => by obtain ⟨a, rfl⟩ := len1 h; kernel_rfl) (G_plain_ok X) (no_sub rfl)
theorem ifmt_T (X : Ctx B (KH P)) : FnT B 22 "S_IFMT" ifmtFn :=
  X.fnPure (k := 0) (n := 20) (by kernel_rfl) (by kernel_rfl) (by kernel_rfl) (by kernel_rfl) (bind_pos fun us h => by obtain ⟨a, rfl⟩ := len1 h; kernel_rfl) (G_plain_ok X) (no_sub rfl)
theorem filemode_T (X : Ctx B (KH P)) : FnT B 64 "filemode" filemodeFn := by
  have G : GamOk B G_filemode 22 := mkGam_ok (by
    intro p hp
    simp only [List.mem_cons, List.not_mem_nil, or_false] at hp
    subst hp
    exact ifmt_T X) (by
    intro p hp
    simp only [List.mem_cons, List.not_mem_nil, or_false] at hp
    subst hp
    exact con_tab X) (by simp) (by simp) (by simp) (k_attr X) (k_bl X)
  exact X.fnPure (k := 22) (n := 40) (by kernel_rfl) (by kernel_rfl) (by kernel_rfl) (by kernel_rfl) (bind_pos fun us h => by obtain ⟨a, rfl⟩ := len1 h; kernel_rfl) G (no_sub rfl)

theorem escape_T (X : Ctx B (KH P)) : FnT B 2 "escape" escFn := by
  have FA : FnAt B (gAdr (KH P) "escape") (defAt pw_kt0068_08 13).2 (defAt pw_kt0068_08 13).1 (bdPos ["pattern"]) :=
    X.fnAt (by kernel_rfl) (by kernel_rfl) (by kernel_rfl) (bind_pos fun us h => by obtain ⟨a, rfl⟩ := len1 h; kernel_rfl)
  exact ⟨_, X.ref (by kernel_rfl), X.isFn (by kernel_rfl), escape_ok (k := 0) X.hK FA (X.ref (f := "_special_chars_map") (by kernel_rfl)) (by kernel_rfl) (X.none (by kernel_rfl)) (X.none (by kernel_rfl)) (by kernel_rfl) (by kernel_rfl) (by kernel_rfl) (by kernel_rfl) (by kernel_rfl) (by kernel_rfl)⟩

theorem tr_T (X : Ctx B (KH P)) (L : LamOk (B.withCode fun v => v = (fData (KH P) (gAdr (KH P) "_translate")).code)) : FnT B 44 "_translate" trFn := by
  have G : GamOk B G_tr 2 := mkGam_ok (by
    intro p hp
    simp only [List.mem_cons, List.not_mem_nil, or_false] at hp
    subst hp
    exact escape_T X) (by simp) (by simp) (by simp) (by
    intro p hp
    simp only [List.mem_cons, List.not_mem_nil, or_false] at hp
    subst hp
    exact repl_B) (k_attr X) (k_bl X)
  exact X.to (k := 2) (n := 40) L (by
    intro r hr
    have hr : r = "_twin_re_1" := by simpa [G_tr, mkGam] using hr
    subst hr
    exact ⟨by kernel_rfl, con_twin X⟩) (by kernel_rfl) (by kernel_rfl) (by kernel_rfl) (by kernel_rfl) (bind_pos fun us h => by obtain ⟨a, b, c, rfl⟩ := len3 h; kernel_rfl) G
theorem join_T (X : Ctx B (KH P)) : FnT B 42 "_join_translated_parts" joinFn := by
  have G : GamOk B G_join 0 := mkGam_ok (by simp) (by simp) (by simp) (by simp) (by simp) (k_attr X) (k_bl X)
  exact X.fnSt (k := 0) (n := 40) (by kernel_rfl) (by kernel_rfl) (by kernel_rfl) (by kernel_rfl) (bind_pos fun us h => by obtain ⟨a, b, rfl⟩ := len2 h; kernel_rfl) G (no_sub rfl)
theorem translate_T (X : Ctx B (KH P)) (L : LamOk (B.withCode fun v => v = (fData (KH P) (gAdr (KH P) "_translate")).code)) : FnT B 66 "translate" translateFn := by
  have G : GamOk B G_translate 44 := mkGam_ok (by
    intro p hp
    simp only [List.mem_cons, List.not_mem_nil, or_false] at hp
    rcases hp with rfl | rfl
    · exact tr_T X L
    · exact (join_T X).mono (by decide)) (by simp) (by simp) (by simp) (by simp) (k_attr X) (k_bl X)
  exact X.fnPure (k := 44) (n := 20) (by kernel_rfl) (by kernel_rfl) (by kernel_rfl) (by kernel_rfl) (bind_pos fun us h => by obtain ⟨a, rfl⟩ := len1 h; kernel_rfl) G (no_sub rfl)

theorem init_T (X : Ctx B (KH P)) : FnT B 4 "Headers" (newInst "Headers" "_headers") := by
  refine ⟨_, X.ref (by kernel_rfl), isFn_cls X.hK (by kernel_rfl) (by kernel_rfl), ?_⟩
  have h : (fData (KH P) (mAdr (KH P) "__init__")).body = .stmts b_init.1.1 := by kernel_rfl
  simp only [b_init] at h
  exact init_ok (fI := mAdr (KH P) "__init__") (fd := fData (KH P) (mAdr (KH P) "__init__")) (k := 0) X.hK X.hI (by kernel_rfl) (by kernel_rfl) (by kernel_rfl) (fGood_fn (by kernel_rfl)) (by kernel_rfl) (by kernel_rfl) (by kernel_rfl) (by kernel_rfl)
    (fun M A s u Q E XK h => bind_init X.hK (by kernel_rfl) (by kernel_rfl) M A s u Q E XK h) h (by kernel_rfl) (by kernel_rfl) (by kernel_rfl) (by kernel_rfl) (by kernel_rfl) (by kernel_rfl) (by kernel_rfl) (X.none (by kernel_rfl)) (X.none (by kernel_rfl)) (by kernel_rfl) (by kernel_rfl) (by kernel_rfl) (by kernel_rfl)
theorem wards_T (X : Ctx B (KH P)) : FnT B 32 "_law_wards" wardsFn :=
  X.fnPure (k := 0) (n := 30) (by kernel_rfl) (by kernel_rfl) (by kernel_rfl) (by kernel_rfl) (bind_pos fun us h => by obtain ⟨a, rfl⟩ := len1 h; kernel_rfl) (G_plain_ok X) (no_sub rfl)
theorem behind_T (X : Ctx B (KH P)) : FnT B 32 "_law_behind" behindFn :=
  X.fnPure (k := 0) (n := 30) (by kernel_rfl) (by kernel_rfl) (by kernel_rfl) (by kernel_rfl) (bind_pos fun us h => by obtain ⟨a, b, rfl⟩ := len2 h; kernel_rfl) (G_plain_ok X) (no_sub rfl)
abbrev LamK (B : Base) (P : Params) : Prop := LamOk (B.withCode fun v => v = (fData (KH P) (gAdr (KH P) "_translate")).code)
theorem sign_T (X : Ctx B (KH P)) (L : LamK B P) : FnT B 98 "_law_sign" signFn := by
  have G : GamOk B G_sign 66 := mkGam_ok (by
    intro p hp
    simp only [List.mem_cons, List.not_mem_nil, or_false] at hp
    subst hp
    exact translate_T X L) (by simp) (by simp) (by simp) (by simp) (k_attr X) (k_bl X)
  exact X.fnPure (k := 66) (n := 30) (by kernel_rfl) (by kernel_rfl) (by kernel_rfl) (by kernel_rfl) (bind_pos fun us h => by obtain ⟨a, rfl⟩ := len1 h; kernel_rfl) G (no_sub rfl)
theorem table_T (X : Ctx B (KH P)) : FnT B 106 "_law_table" tableFn := by
  have G : GamOk B G_table 64 := mkGam_ok (by
    intro p hp
    simp only [List.mem_cons, List.not_mem_nil, or_false] at hp
    rcases hp with rfl | rfl
    · exact (init_T X).mono (by decide)
    · exact filemode_T X) (by simp) (by
    intro p hp
    simp only [List.mem_cons, List.not_mem_nil, or_false] at hp
    subst hp
    exact add_T X) (by simp) (by simp) (k_attr X) (k_bl X)
  exact X.fnSt (k := 64) (n := 40) (by kernel_rfl) (by kernel_rfl) (by kernel_rfl) (by kernel_rfl) (bind_pos fun us h => by obtain ⟨a, b, rfl⟩ := len2 h; kernel_rfl) G (no_sub rfl)
theorem told_T (X : Ctx B (KH P)) : FnT B 96 "_law_told" toldFn := by
  have G : GamOk B G_told 54 := mkGam_ok (by simp) (by simp) (by
    intro p hp
    simp only [List.mem_cons, List.not_mem_nil, or_false] at hp
    subst hp
    exact get_T X) (by simp) (by simp) (k_attr X) (k_bl X)
  exact X.fnSt (k := 54) (n := 40) (by kernel_rfl) (by kernel_rfl) (by kernel_rfl) (by kernel_rfl) (bind_pos fun us h => by obtain ⟨a, b, c, rfl⟩ := len3 h; kernel_rfl) G (no_sub rfl)
theorem law_T (X : Ctx B (KH P)) (L : LamK B P) : FnT B 168 "law" lawFn := by
  have G : GamOk B G_law 106 := mkGam_ok (by
    intro p hp
    simp only [List.mem_cons, List.not_mem_nil, or_false] at hp
    rcases hp with rfl | rfl | rfl | rfl | rfl
    · exact (wards_T X).mono (by decide)
    · exact (behind_T X).mono (by decide)
    · exact (sign_T X L).mono (by decide)
    · exact table_T X
    · exact (told_T X).mono (by decide)) (by simp) (by
    intro p hp
    simp only [List.mem_cons, List.not_mem_nil, or_false] at hp
    subst hp
    exact (values_T X).mono (by decide)) (by simp) (by simp) (k_attr X) (k_bl X)
  exact X.fnPure (k := 106) (n := 60) (by kernel_rfl) (by kernel_rfl) (by kernel_rfl) (by kernel_rfl) (bind_pos fun us h => by obtain ⟨a, rfl⟩ := len1 h; kernel_rfl) G (no_sub rfl)
end
end Mine
/-! ## Q5 -/
set_option autoImplicit false
set_option Elab.async false
set_option maxRecDepth 100000
set_option maxHeartbeats 8000000
open PySem PySem.W PyProof.Rows
theorem Mine.tabs_ok {P : Params} : Mine.tabsGood (Mine.hd.heap_39 P) [214] "_translate" = true := by kernel_rfl
theorem Mine.lam_ok {P : Params} : Mine.lamGood (Mine.hd.heap_39 P) [214] "_translate" = true := by kernel_rfl
theorem Mine.notab_ok {P : Params} : noTabs (Mine.hd.heap_39 P) = true := by kernel_rfl
theorem PySem.Challenge.cw_kt0068_08_holds : PySem.Challenge.rw_kt0068_08.Holds := by
  exact Mine.hd (by
   k_fill
   intro w s₀ s₁ mg mb G y fa o pm cd doc dV kV ho hdd hcd hD hmg hg args vals as hpre hlay hrd hwl hlo
   have KX := km_in_of y
   have KT := km_tabs_of y
   refine Ground.open G ?_
   intro T B D TE TW
   clear hcd hD
   wrow_args hpre hlay hrd hwl hlo
   rename_i ns _ _ _ _ _ _ _ sa vs _ hL _ _ _ hI _ hlen _
   have h3 : mainGlobals ∉ ([214] : List Addr) := by decide
   have h0 : builtinsNs ∉ ([214] : List Addr) := by decide
   have h2 : cStatics ∉ ([214] : List Addr) := by decide
   have X := Mine.ctx_of (prog := PySem.Challenge.rw_kt0068_08.row.prog) (w := w) (hg := T.g) (hb := T.b) (hbb := T.builtins) (hn := T.nolimit) (ht := KT) (h3 := h3) (h0 := h0) (h2 := h2) KX Mine.notab_ok
   have bm : ∃ bm ob, mg "__builtins__" = some (.ref bm) ∧ bm ≠ builtinsNs ∧ s₁.heap.get? bm = some ob ∧ ob.cls = .type "module" ∧ ob.dict = some builtinsNs ∧ ob.data = .plain := T.bmain
   have L := Mine.lamOk_of (prog := PySem.Challenge.rw_kt0068_08.row.prog) (w := w) (hg := T.g) (hb := T.b) (hbb := T.builtins) (hn := T.nolimit) (ht := KT) (h3 := h3) (h0 := h0) (h2 := h2) KX Mine.notab_ok Mine.lam_ok bm
   have H := Mine.law_T X L
   exact Mine.law_end KX Mine.tabs_ok hg H (Mine.law_true (s := ns) (by omega)) (by decide) hmg hL hI (by omega) (fun _ => rfl) (by wrow_post))
