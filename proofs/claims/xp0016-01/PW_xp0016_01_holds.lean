import PyProof.Rows.All
import PyProof.StrLawsTight
import KE.KUnpack
import KE.KItem
import KE.KRevSl
import Wide.FinOn
import OpenK.AllK
import Wide.All
import Lean
import PySem.Challenge.RW_xp0016_01
set_option Elab.async false
set_option linter.all false
section -- MpDefs
open PySem PySem.W PyProof.Rows

/-! A small evaluator for the part of Python that the law is written in: pure values, a frame of numbered names. -/
namespace MP

/-- pure values -/
inductive T where
  | none
  | bool (b : Bool)
  | int (i : Int)
  | str (s : List Nat)
  | fn (g : Nat)
  | list (xs : List T)
  | tuple (xs : List T)
  | dict (ks : List (List Nat)) (vs : List T)
  | range (a b : Int)

/-- a frame: a name's number, its value, and whether its top object is the name's alone -/
noncomputable abbrev St := List (Nat × T × Bool)

/- by the list's recursor itself: the kernel runs it with few steps -/
noncomputable def St.get (st : St) (i : Nat) : Option (T × Bool) := @List.rec (Nat × T × Bool) (fun _ => Option (T × Bool)) Option.none (fun p _ ih => match Nat.beq p.1 i with
  | true => some p.2
  | false => ih) st
noncomputable def St.set (st : St) (i : Nat) (t : T) (b : Bool) : St := @List.rec (Nat × T × Bool) (fun _ => St) [(i, t, b)] (fun p r ih => match Nat.beq p.1 i with
  | true => (i, t, b) :: r
  | false => p :: ih) st
theorem St.get_nil (i : Nat) : St.get [] i = Option.none := rfl
theorem St.get_cons (j : Nat) (x : T × Bool) (r : St) (i : Nat) : St.get ((j, x) :: r) i = match Nat.beq j i with
  | true => some x
  | false => St.get r i := rfl
theorem St.set_nil (i : Nat) (t : T) (b : Bool) : St.set [] i t b = [(i, t, b)] := rfl
theorem St.set_cons (j : Nat) (x : T × Bool) (r : St) (i : Nat) (t : T) (b : Bool) : St.set ((j, x) :: r) i t b = match Nat.beq j i with
  | true => (i, t, b) :: r
  | false => (j, x) :: St.set r i t b := rfl

/-! steps that may fail -/
noncomputable def ob {α γ : Type} (o : Option α) (k : α → Option γ) : Option γ := match o with
  | some x => k x
  | Option.none => Option.none
noncomputable def bn {α γ : Type} (o : Option (α × St)) (k : α → St → Option γ) : Option γ := match o with
  | some (x, s) => k x s
  | Option.none => Option.none
noncomputable def gt {γ : Type} (b : Bool) (k : Option γ) : Option γ := match b with
  | true => k
  | false => Option.none
noncomputable def asInt : T → Option Int
  | .int i => some i
  | _ => Option.none
noncomputable def asBool : T → Option Bool
  | .bool i => some i
  | _ => Option.none
noncomputable def asStr : T → Option (List Nat)
  | .str i => some i
  | _ => Option.none
noncomputable def asList : T → Option (List T)
  | .list i => some i
  | _ => Option.none
noncomputable def asDict : T → Option (List (List Nat) × List T)
  | .dict ks vs => some (ks, vs)
  | _ => Option.none
noncomputable def asFn : T → Option Nat
  | .fn g => some g
  | _ => Option.none
noncomputable def nat? : Int → Option Nat
  | .ofNat n => some n
  | .negSucc _ => Option.none
noncomputable def one? {α : Type} : List α → Option α
  | [] => Option.none
  | t :: r => gt r.isEmpty (some t)
noncomputable def two? {α : Type} : List α → Option (α × α)
  | [] => Option.none
  | t :: r => ob (one? r) fun u => some (t, u)
noncomputable def three? {α : Type} : List α → Option (α × α × α)
  | [] => Option.none
  | t :: r => ob (two? r) fun u => some (t, u)

inductive Op where
  | val (t : T)
  | new (t : T)
  | var (i : Nat)

noncomputable def Op.low : Op → Op
  | .new t => .val t
  | o => o

noncomputable def peek (st : St) : Op → Option T
  | .val t => some t
  | .new t => some t
  | .var i => ob (st.get i) fun p => some p.1

noncomputable def esc (st : St) : Op → Option (T × St)
  | .val t => some (t, st)
  | .new t => some (t, st)
  | .var i => ob (st.get i) fun p => match p.2 with
    | true => some (p.1, st.set i p.1 false)
    | false => some (p.1, st)

noncomputable def peeks (st : St) : List Op → Option (List T)
  | [] => some []
  | o :: r => ob (peek st o) fun t => ob (peeks st r) fun ts => some (t :: ts)

noncomputable def escs (st : St) : List Op → Option (List T × St)
  | [] => some ([], st)
  | o :: r => bn (esc st o) fun t st₁ => bn (escs st₁ r) fun ts st₂ => some (t :: ts, st₂)

/-! the mini syntax -/
inductive BI where
  | len | range | sorted | max | sum | abs | chr | list
  deriving DecidableEq
inductive ME where
  | append | pop | index | get | join | split | startswith | endswith | find
  deriving DecidableEq

inductive Tg where
  | name (x : Nat)
  | tup (xs : List Nat)

mutual
inductive E where
  | int (i : Int)
  | str (s : List Nat)
  | bool (b : Bool)
  | var (x : Nat)
  | glob (g : Nat)
  | neg (i : Int)
  | bin (o : Operator) (a b : E)
  | cmp (a : E) (r : Cs)
  | andor (isAnd : Bool) (a : E) (r : Es)
  | ite (c a b : E)
  | sub (a i : E)
  | slc (a : E) (lo hi : Oe)
  | rev (a : E)
  | list (es : Es)
  | tup (es : Es)
  | dict0
  | dict1 (k v : E)
  | call (f : E) (args : Es)
  | bi (b : BI) (args : Es)
  | meth (m : ME) (o : E) (args : Es)
  | repl (o : E) (c : Nat) (z : List Nat)
  | comp (tg : Tg) (iter : E) (ifs : Es) (rest : Gs) (cap : List Nat)
inductive Oe where
  | none
  | some (e : E)
inductive Es where
  | nil
  | cons (e : E) (es : Es)
inductive Cs where
  | one (op : CmpOp) (e : E)
  | cons (op : CmpOp) (e : E) (r : Cs)
inductive Gs where
  | nil (elt : E)
  | cons (tg : Tg) (iter : E) (ifs : Es) (rest : Gs)
end

mutual
inductive S where
  | assign (x : Nat) (e : E)
  | assignTup (xs : List Nat) (es : Es)
  | assignNew (x y : Nat)
  | setItem (x : Nat) (i e : E)
  | aug (x : Nat) (o : Operator) (e : E)
  | augc (x : Nat) (o : Operator) (e : E)
  | augItem (x : Nat) (i e : E)
  | expr (e : E)
  | iff (c : E) (a b : Ss)
  | whil (n : Nat) (c : E) (b : Ss)
  | for (x : Nat) (it : E) (b : Ss)
  | ret (e : E)
  | del (x : Nat) (i : E)
  | asrt (e : E)
  | tri (b : Ss)
inductive Ss where
  | nil
  | cons (s : S) (r : Ss)
end

/-! operations on pure values -/
noncomputable def mkS (s : List Nat) : Str := ⟨s.toArray⟩

noncomputable def small (i : Int) : Bool := decide (-4611686018427387904 < i) && decide (i < 4611686018427387904)
noncomputable def lenOk (n : Nat) : Bool := Nat.ble n 1048576
noncomputable def b2i' (b : Bool) : Int := match b with | true => 1 | false => 0

noncomputable def toInts : List T → Option (List Int)
  | [] => some []
  | t :: r => ob (asInt t) fun i => ob (toInts r) fun l => some (i :: l)
noncomputable def toBools : List T → Option (List Bool)
  | [] => some []
  | t :: r => ob (asBool t) fun i => ob (toBools r) fun l => some (i :: l)
noncomputable def toStrs : List T → Option (List (List Nat))
  | [] => some []
  | t :: r => ob (asStr t) fun i => ob (toStrs r) fun l => some (i :: l)

/-- a text as one number: equal texts are told by one step of the kernel -/
noncomputable def code : List Nat → Nat
  | [] => 0
  | c :: r => Nat.mul (Nat.pow 2 c) (Nat.succ (Nat.mul 2 (code r)))
noncomputable def sEq (a b : List Nat) : Bool := Nat.beq (code a) (code b)
noncomputable def sLt : List Nat → List Nat → Bool
  | [], [] => false
  | [], _ :: _ => true
  | _ :: _, [] => false
  | a :: r, b :: t => match Nat.blt a b with | true => true | false => (match Nat.beq a b with | true => sLt r t | false => false)
noncomputable def iEqs : List Int → List Int → Bool
  | [], [] => true
  | a :: r, b :: t => match decide (a = b) with | true => iEqs r t | false => false
  | _, _ => false

noncomputable def sFind (x y : List Nat) (i j : Nat) : Int := match Builtin.Str.occurrences (mkS x) (mkS y) i j 1 with | k :: _ => (k : Int) | [] => -1

noncomputable def sIn (y x : List Nat) : Bool := !(Builtin.Str.occurrences (mkS x) (mkS y) 0 x.length 1).isEmpty

/-- what a run asks of its texts -/
structure Gd where
  len : Nat → Bool
  row : List Nat → Bool
  nm : List Nat → Bool
  cmp : List Nat → List Nat → Bool
  lit : List Nat → Bool
  free : Bool

noncomputable def binI : Operator → Int → Int → Option (T × Bool)
  | .Add, a, b => some (.int (a + b), false)
  | .Sub, a, b => some (.int (a - b), false)
  | .Mult, a, b => gt (small a && small b) (some (.int (a * b), false))
  | .FloorDiv, a, b => gt (small a && small b && !decide (b = 0)) (some (.int (a.fdiv b), false))
  | .Mod, a, b => gt (!decide (b = 0)) (some (.int (a.fmod b), false))
  | .Pow, a, b => gt (decide (a = 10) && decide (b = 6)) (some (.int 1000000, false))
  | _, _, _ => Option.none
noncomputable def isAdd : Operator → Bool
  | .Add => true
  | _ => false
noncomputable def isSub : Operator → Bool
  | .Sub => true
  | _ => false
noncomputable def binT (g : Gd) (o : Operator) (a b : T) : Option (T × Bool) := match a with
  | .int x => ob (asInt b) fun y => binI o x y
  | .bool x => ob (asBool b) fun y => gt (isSub o) (some (.int (b2i' x - b2i' y), false))
  | .str x => ob (asStr b) fun y => gt (isAdd o) (gt (g.len (x.length + y.length)) (some (.str (x ++ y), false)))
  | .list x => ob (asList b) fun y => gt (isAdd o) (gt (lenOk (x.length + y.length)) (some (.list (x ++ y), true)))
  | _ => Option.none

noncomputable def dEqs (ks : List (List Nat)) (vs : List T) (ls : List (List Nat)) (ws : List T) : Option Bool := match ks with
  | [] => some ls.isEmpty
  | k :: kr => match ls with
    | [] => some false
    | l :: lr => gt (kr.isEmpty && lr.isEmpty) (ob (one? vs) fun v => ob (one? ws) fun w => ob (asInt v) fun a => ob (asInt w) fun b => some (sEq k l && decide (a = b)))

noncomputable def eqL (x y : List T) : Option Bool := match toInts x with
  | some l => (match toInts y with
    | some m => some (iEqs l m)
    | Option.none => gt x.isEmpty (some false))
  | Option.none => gt y.isEmpty (some false)

noncomputable def eqT (g : Gd) (a b : T) : Option Bool := match a with
  | .int x => (match b with
    | .int y => some (decide (x = y))
    | .bool y => some (decide (x = b2i' y))
    | _ => Option.none)
  | .str x => ob (asStr b) fun y => gt (g.cmp x y) (some (sEq x y))
  | .bool x => ob (asBool b) fun y => some (x == y)
  | .list x => ob (asList b) fun y => eqL x y
  | .dict ks vs => ob (asDict b) fun q => dEqs ks vs q.1 q.2
  | _ => Option.none

noncomputable def ltT (g : Gd) (a b : T) : Option Bool := match a with
  | .int x => ob (asInt b) fun y => some (decide (x < y))
  | .str x => ob (asStr b) fun y => gt g.free (some (sLt x y))
  | _ => Option.none
noncomputable def inT (g : Gd) (a b : T) : Option Bool := match a with
  | .str y => ob (asStr b) fun x => gt g.free (some (sIn y x))
  | .bool k => ob (asList b) fun xs => ob (toBools xs) fun l => some (l.any (· == k))
  | _ => Option.none
noncomputable def isT (a b : T) : Option Bool := ob (asBool b) fun d => match a with
  | .bool k => some (k == d)
  | .int _ => some false
  | _ => Option.none

noncomputable def cmpT (g : Gd) (op : CmpOp) (a b : T) : Option Bool := match op with
  | .Eq => eqT g a b
  | .NotEq => ob (eqT g a b) fun x => some (!x)
  | .Lt => ltT g a b
  | .Gt => ltT g b a
  | .GtE => ob (asInt a) fun x => ob (asInt b) fun y => some (decide (y ≤ x))
  | .In => inT g a b
  | .NotIn => ob (asStr a) fun y => ob (asStr b) fun x => gt g.free (some (!sIn y x))
  | .Is => isT a b
  | .IsNot => ob (isT a b) fun x => some (!x)
  | _ => Option.none

noncomputable def truthT (g : Gd) : T → Option Bool
  | .bool b => some b
  | .str s => gt (g.free && lenOk s.length) (some (!s.isEmpty))
  | _ => Option.none

noncomputable def lookS : List (List Nat) → List T → List Nat → Option T
  | k :: ks, v :: vs, x => match sEq k x with | true => some v | false => lookS ks vs x
  | _, _, _ => Option.none
noncomputable def putS : List (List Nat) → List T → List Nat → T → List (List Nat) × List T
  | k :: ks, v :: vs, x, t => match sEq k x with
    | true => (k :: ks, t :: vs)
    | false => match putS ks vs x t with | (a, b) => (k :: a, v :: b)
  | _, _, x, t => ([x], [t])

/-- where an index lies -/
noncomputable def place (k : Int) (n : Nat) : Option Nat :=
  match k with
  | .ofNat j => match Nat.blt j n with | true => some j | false => Option.none
  | .negSucc j => match Nat.blt j n with | true => some (n - (j + 1)) | false => Option.none

noncomputable def idxT (g : Gd) (a i : T) : Option T := match a with
  | .list xs => ob (asInt i) fun k => gt (lenOk xs.length) (ob (place k xs.length) fun j => xs[j]?)
  | .str s => ob (asInt i) fun k => gt (g.row s && lenOk s.length) (ob (nat? k) fun n => ob s[n]? fun c => some (.str [c]))
  | .dict ks vs => ob (asStr i) fun k => gt (g.row k) (lookS ks vs k)
  | _ => Option.none

/-- a slice between two places that are not below nought -/
noncomputable def cutH {α : Type} (xs : List α) (hi : Option Int) : Option (List α) := match hi with
  | Option.none => some xs
  | some b => ob (nat? b) fun n => some (xs.take n)
noncomputable def cutL {α : Type} (xs : List α) (lo hi : Option Int) : Option (List α) := ob (cutH xs hi) fun ys => match lo with
  | Option.none => some ys
  | some a => ob (nat? a) fun n => some (ys.drop n)

noncomputable def sliceT (g : Gd) (a : T) (lo hi : Option Int) : Option (T × Bool) := match a with
  | .list xs => gt (lenOk xs.length) (ob (cutL xs lo hi) fun ys => some (.list ys, true))
  | .str xs => gt (g.row xs && lenOk xs.length) (ob (cutL xs lo hi) fun ys => some (.str ys, false))
  | _ => Option.none

noncomputable def revT (a : T) : Option (T × Bool) := ob (asList a) fun xs => gt (lenOk xs.length) (some (.list xs.reverse, true))

noncomputable def insI (x : Int) : List Int → List Int
  | [] => [x]
  | y :: r => match decide (x ≤ y) with | true => x :: y :: r | false => y :: insI x r
noncomputable def sortI : List Int → List Int
  | [] => []
  | x :: r => insI x (sortI r)
noncomputable def insS (x : List Nat) : List (List Nat) → List (List Nat)
  | [] => [x]
  | y :: r => match sLt y x with | true => y :: insS x r | false => x :: y :: r
noncomputable def sortS : List (List Nat) → List (List Nat)
  | [] => []
  | x :: r => insS x (sortS r)
noncomputable def maxI : Int → List Int → Int
  | m, [] => m
  | m, x :: r => match decide (m < x) with | true => maxI x r | false => maxI m r
noncomputable def sumI : List Int → Int
  | [] => 0
  | x :: r => x + sumI r
noncomputable def absI : Int → Int
  | .ofNat n => .ofNat n
  | .negSucc n => .ofNat (n + 1)

noncomputable def inRange (a : Int) : Bool := decide (0 ≤ a) && decide (a ≤ 1048576)
noncomputable def lenT (g : Gd) : T → Option (T × Bool)
  | .list xs => gt (lenOk xs.length) (some (.int xs.length, false))
  | .str s => gt (g.row s && lenOk s.length) (some (.int s.length, false))
  | _ => Option.none
noncomputable def rangeB (ts : List T) : Option (T × Bool) := match ts with
  | [] => Option.none
  | t :: r => ob (asInt t) fun a => match r with
    | [] => gt (inRange a) (some (.range 0 a, false))
    | u :: q => gt q.isEmpty (ob (asInt u) fun b => gt (inRange a && inRange b) (some (.range a b, false)))
noncomputable def sortT (g : Gd) (xs : List T) : Option (T × Bool) := gt (Nat.ble xs.length 60) (match toInts xs with
  | some l => some (.list ((sortI l).map .int), true)
  | Option.none => ob (toStrs xs) fun l => gt (l.all g.nm) (some (.list ((sortS l).map .str), true)))
noncomputable def maxT (xs : List T) : Option (T × Bool) := ob (toInts xs) fun l => match l with
  | [] => Option.none
  | x :: r => some (.int (maxI x r), false)
noncomputable def biT (g : Gd) (b : BI) (ts : List T) : Option (T × Bool) := match b with
  | .range => rangeB ts
  | .len => ob (one? ts) (lenT g)
  | .sorted => ob (one? ts) fun t => ob (asList t) fun xs => sortT g xs
  | .max => ob (one? ts) fun t => ob (asList t) fun xs => maxT xs
  | .sum => ob (one? ts) fun t => ob (asList t) fun xs => ob (toInts xs) fun l => some (.int (sumI l), false)
  | .abs => ob (one? ts) fun t => ob (asInt t) fun i => some (.int (absI i), false)
  | .chr => ob (one? ts) fun t => ob (asInt t) fun i => ob (nat? i) fun c => gt (g.free && Nat.ble c 55295) (some (.str [c], false))
  | .list => ob (one? ts) fun t => ob (asStr t) fun s => gt (g.free && Nat.ble s.length 1000) (some (.list (s.map fun c => .str [c]), true))

noncomputable def findBy {α : Type} (p : α → Bool) : List α → Option Nat
  | [] => Option.none
  | y :: r => match p y with
    | true => some 0
    | false => ob (findBy p r) fun n => some (n + 1)
noncomputable def findI (x : Int) (l : List Int) : Option Nat := findBy (fun y => decide (y = x)) l
noncomputable def findS (x : List Nat) (l : List (List Nat)) : Option Nat := findBy (fun y => sEq y x) l
noncomputable def findC (x : Nat) (l : List Nat) : Option Nat := findBy (fun y => Nat.beq y x) l

noncomputable def joinS (sep : List Nat) : List (List Nat) → List Nat
  | [] => []
  | [x] => x
  | x :: y :: r => x ++ sep ++ joinS sep (y :: r)

/-- each sign c of the text by z -/
noncomputable def replC (c : Nat) (z : List Nat) : List Nat → List Nat
  | [] => []
  | x :: r => match Nat.beq x c with | true => z ++ replC c z r | false => x :: replC c z r

noncomputable def numAt? (o : Option Nat) : Option (T × Bool) := ob o fun n => gt (lenOk n) (some (.int n, false))
noncomputable def indexT (g : Gd) (t u : T) : Option (T × Bool) := match t with
  | .list xs => (match u with
    | .int i => ob (toInts xs) fun l => numAt? (findI i l)
    | .str i => ob (toStrs xs) fun l => gt (l.all g.nm && g.nm i) (numAt? (findS i l))
    | _ => Option.none)
  | .str s => ob (asStr u) fun x => ob (one? x) fun c => gt (g.free && lenOk s.length) (ob (findC c s) fun n => some (.int n, false))
  | _ => Option.none
noncomputable def getT (g : Gd) (t k d : T) : Option (T × Bool) := ob (asDict t) fun q => ob (asStr k) fun k => ob (asInt d) fun d => gt (g.row k) (match lookS q.1 q.2 k with
  | some t => some (t, false)
  | Option.none => some (.int d, false))
noncomputable def joinT (g : Gd) (t u : T) : Option (T × Bool) := ob (asStr t) fun sep => ob (asList u) fun xs => ob (toStrs xs) fun l =>
  gt (g.len (joinS sep l).length && g.len (l.length * sep.length)) (some (.str (joinS sep l), false))
noncomputable def splitT (g : Gd) (t u : T) : Option (T × Bool) := ob (asStr t) fun s => ob (asStr u) fun sep =>
  gt (g.free && lenOk s.length && !sep.isEmpty) (some (.list ((Txt.split (mkS s) (mkS sep)).map fun x => .str x.cps.toList), true))
noncomputable def withT (g : Gd) (p : Str → Str → Bool) (t u : T) : Option (T × Bool) := ob (asStr t) fun s => ob (asStr u) fun x => gt g.free (some (.bool (p (mkS s) (mkS x)), false))
noncomputable def findT (g : Gd) (t x i j : T) : Option (T × Bool) := ob (asStr t) fun s => ob (asStr x) fun x => ob (asInt i) fun i => ob (nat? i) fun i => ob (asInt j) fun j => ob (nat? j) fun j =>
  gt (g.free && Nat.ble j s.length) (some (.int (sFind s x i j), false))
noncomputable def methT (g : Gd) (m : ME) (t : T) (ts : List T) : Option (T × Bool) := match m with
  | .append => Option.none
  | .pop => Option.none
  | .index => ob (one? ts) fun u => indexT g t u
  | .get => ob (two? ts) fun q => getT g t q.1 q.2
  | .join => ob (one? ts) fun u => joinT g t u
  | .split => ob (one? ts) fun u => splitT g t u
  | .startswith => ob (one? ts) fun u => withT g Txt.startswith t u
  | .endswith => ob (one? ts) fun u => withT g Txt.endswith t u
  | .find => ob (three? ts) fun q => findT g t q.1 q.2.1 q.2.2
noncomputable def replT (g : Gd) (c : Nat) (z : List Nat) (t : T) : Option (T × Bool) := ob (asStr t) fun s => gt (g.free && lenOk s.length && Nat.ble z.length 14 && !sEq [c] z) (some (.str (replC c z s), false))

noncomputable def charsT (s : List Nat) : List T := s.map fun c => .str [c]
noncomputable def rangeT (a : Int) : Nat → List T
  | 0 => []
  | n + 1 => .int a :: rangeT (a + 1) n

noncomputable def itemsT (g : Gd) : T → Option (List T)
  | .list xs => gt (lenOk xs.length) (some xs)
  | .str s => gt (g.row s && lenOk s.length) (some (charsT s))
  | .range a b => gt (inRange a && inRange b) (some (rangeT a (b - a).toNat))
  | .dict ks _ => gt (lenOk ks.length) (some (ks.map .str))
  | _ => Option.none

noncomputable def setAll : St → List Nat → List T → Option St
  | st, [], ts => gt ts.isEmpty (some st)
  | st, x :: xs, ts => match ts with
    | [] => Option.none
    | t :: ts => setAll (st.set x t false) xs ts

noncomputable def bindT (tg : Tg) (t : T) (st : St) : Option St := match tg with
  | .name x => some (st.set x t false)
  | .tup xs => match t with
    | .list ts => setAll st xs ts
    | .tuple ts => setAll st xs ts
    | _ => Option.none

noncomputable def freshX (st : St) (x : Nat) : Bool := match st.get x with
  | some _ => false
  | Option.none => true
/-- a target's names are not yet bound -/
noncomputable def freshT : Tg → St → Bool
  | .name x, st => freshX st x
  | .tup xs, st => xs.all (freshX st)

/-- the names that a comprehension sees of the frame around it -/
noncomputable def capt (st : St) : List Nat → Option (St × St)
  | [] => some ([], st)
  | x :: xs => bn (esc st (.var x)) fun t st₁ => bn (capt st₁ xs) fun inner st₂ => some ((x, t, false) :: inner, st₂)

noncomputable def mapCat (f : T → Option (List T)) : List T → Option (List T)
  | [] => some []
  | t :: r => ob (f t) fun a => ob (mapCat f r) fun b => some (a ++ b)

noncomputable def mkOp (t : T) (nw : Bool) : Op := match nw with | true => .new t | false => .val t

/-- methods that change the list that a name holds -/
noncomputable def mutT (m : ME) (xs ts : List T) : Option (List T × T) := match m with
  | .append => ob (one? ts) fun t => gt (lenOk xs.length) (some (xs ++ [t], .none))
  | .pop => gt (lenOk xs.length) (match ts with
    | [] => ob xs.getLast? fun t => some (xs.dropLast, t)
    | u :: r => gt r.isEmpty (ob (asInt u) fun k => ob (place k xs.length) fun j => ob xs[j]? fun t => some (xs.eraseIdx j, t)))
  | _ => Option.none

noncomputable def isMut : ME → Bool
  | .append => true
  | .pop => true
  | _ => false

inductive Fl where
  | next
  | ret (t : T)

/-- what comes behind a statement -/
noncomputable def thn (o : Option (Fl × St)) (k : St → Option (Fl × St)) : Option (Fl × St) := bn o fun f st => match f with
  | .next => k st
  | .ret v => some (.ret v, st)
noncomputable def evFor (f : St → Option (Fl × St)) (x : Nat) : List T → St → Option (Fl × St)
  | [], st => some (.next, st)
  | t :: r, st => thn (f (st.set x t false)) fun st₁ => evFor f x r st₁
noncomputable def evWhile (c : St → Option (Bool × St)) (f : St → Option (Fl × St)) : Nat → St → Option (Fl × St)
  | 0, _ => Option.none
  | n + 1, st => bn (c st) fun b st₁ => match b with
    | true => thn (f st₁) fun st₂ => evWhile c f n st₂
    | false => some (.next, st₁)

/-- what the own functions of the text give -/
noncomputable abbrev FTab := Nat → Option (List T → Option T)

noncomputable def doCall (F : FTab) (g : Nat) (ops : List Op) (st : St) : Option (Op × St) := bn (escs st ops) fun ts st₁ => ob (F g) fun fP => ob (fP ts) fun r => some (.val r, st₁)
/-- the function that an operand stands for -/
noncomputable def opFn (st : St) (x : Op) : Option Nat := ob (peek st x) asFn
/-- a value that the name's alone holds; a value that is common -/
noncomputable def own (st : St) (i : Nat) : Option T := ob (st.get i) fun p => gt p.2 (some p.1)
noncomputable def shr (st : St) (i : Nat) : Option T := ob (st.get i) fun p => gt (!p.2) (some p.1)

/-- the kinds that have methods -/
noncomputable def kindT : T → Nat
  | .list _ => 1
  | .str _ => 2
  | .dict _ _ => 3
  | _ => 0
noncomputable def doMut (m : ME) (k : Nat) (x : Op) (ops : List Op) (st : St) : Option (Op × St) := match x with
  | .var i => bn (escs st ops) fun ts st₁ => ob (own st₁ i) fun t => ob (asList t) fun xs => gt (Nat.beq k 1) (ob (mutT m xs ts) fun r => some (.val r.2, st₁.set i (.list r.1) true))
  | _ => Option.none
noncomputable def doPure (g : Gd) (m : ME) (k : Nat) (x : Op) (ops : List Op) (st : St) : Option (Op × St) :=
  ob (peek st x) fun tx => gt (Nat.beq k (kindT tx)) (ob (peeks st ops) fun ts => ob (methT g m tx ts) fun r => some (mkOp r.1 r.2, st))
noncomputable def doMeth (g : Gd) (m : ME) (k : Nat) (x : Op) (ops : List Op) (st : St) : Option (Op × St) := match isMut m with
  | true => doMut m k x ops st
  | false => doPure g m k x ops st
noncomputable def opKind (st : St) (x : Op) : Nat := match peek st x with
  | some t => kindT t
  | Option.none => 0
noncomputable def doTruth (g : Gd) (x : Op) (st : St) : Option (Bool × St) := ob (peek st x) fun t => ob (truthT g t) fun b => some (b, st)

/-! the forms of a term's run -/
noncomputable abbrev Ev (α : Type) := St → Option (α × St)
noncomputable def evVar (x : Nat) : Ev Op := fun st => ob (st.get x) fun _ => some (.var x, st)
noncomputable def ev1 (p : Ev Op) (f : T → Option (T × Bool)) : Ev Op := fun st => bn (p st) fun x st₁ => ob (peek st₁ x) fun t => ob (f t) fun r => some (mkOp r.1 r.2, st₁)
noncomputable def ev2 (p q : Ev Op) (f : T → T → Option (T × Bool)) : Ev Op := fun st => bn (p st) fun x st₁ => bn (q st₁) fun y st₂ => ob (peek st₂ x) fun t => ob (peek st₂ y) fun u => ob (f t u) fun r => some (mkOp r.1 r.2, st₂)
noncomputable def ev3 (p : Ev Op) (l u : Ev (Option Int)) (f : T → Option Int → Option Int → Option (T × Bool)) : Ev Op := fun st => bn (p st) fun x st₁ => bn (l st₁) fun lo st₂ => bn (u st₂) fun hi st₃ => ob (peek st₃ x) fun t => ob (f t lo hi) fun r => some (mkOp r.1 r.2, st₃)
noncomputable def evN (p : Ev (List Op)) (f : List T → Option (T × Bool)) : Ev Op := fun st => bn (p st) fun ops st₁ => bn (escs st₁ ops) fun ts st₂ => ob (f ts) fun r => some (mkOp r.1 r.2, st₂)
noncomputable def evP (p : Ev (List Op)) (f : List T → Option (T × Bool)) : Ev Op := fun st => bn (p st) fun ops st₁ => ob (peeks st₁ ops) fun ts => ob (f ts) fun r => some (mkOp r.1 r.2, st₁)
noncomputable def evD (g : Gd) (p q : Ev Op) : Ev Op := fun st => bn (p st) fun x st₁ => bn (q st₁) fun y st₂ => ob (peek st₂ x) fun k => ob (asStr k) fun s => bn (esc st₂ y) fun t st₃ => gt (g.row s) (some (.new (.dict [s] [t]), st₃))
noncomputable def evCall (F : FTab) (p : Ev Op) (q : Ev (List Op)) : Ev Op := fun st => bn (p st) fun fo st₁ => ob (opFn st₁ fo) fun n => bn (q st₁) fun ops st₂ => doCall F n ops st₂
noncomputable def evMeth (g : Gd) (m : ME) (p : Ev Op) (q : Ev (List Op)) : Ev Op := fun st => bn (p st) fun x st₁ => bn (q st₁) fun ops st₂ => doMeth g m (opKind st₁ x) x ops st₂
noncomputable def turn (tg : Tg) (inner : St) (fi : St → Option Bool) (rest : St → Option (List T)) (it : T) : Option (List T) := ob (bindT tg it inner) fun inn => ob (fi inn) fun b => match b with
  | true => rest inn
  | false => some []
noncomputable def evComp (g : Gd) (tg : Tg) (p : Ev Op) (fi : St → Option Bool) (rest : St → Option (List T)) (cap : List Nat) : Ev Op := fun st => bn (p st) fun x st₁ => bn (esc st₁ x) fun t st₂ => ob (itemsT g t) fun items =>
  bn (capt st₂ cap) fun inner st₃ => gt (freshT tg inner) (ob (mapCat (turn tg inner fi rest) items) fun out => gt (lenOk out.length) (some (.new (.list out), st₃)))
noncomputable def evGc (g : Gd) (tg : Tg) (p : Ev Op) (fi : St → Option Bool) (rest : St → Option (List T)) : St → Option (List T) := fun st => bn (p st) fun x st₁ => bn (esc st₁ x) fun t _ => ob (itemsT g t) fun items =>
  gt (freshT tg st) (mapCat (turn tg st fi rest) items)
noncomputable def evInt (p : Ev Op) : Ev (Option Int) := fun st => bn (p st) fun x st₁ => ob (peek st₁ x) fun t => ob (asInt t) fun i => gt (small i) (some (some i, st₁))
/-- one comparison, and what is behind it if it holds -/
noncomputable def evLink (g : Gd) (op : CmpOp) (p : Ev Op) (x : Op) (k : Op → Ev Bool) : Ev Bool := fun st => bn (p st) fun y st₁ => ob (peek st₁ x) fun t => ob (peek st₁ y) fun u => ob (cmpT g op t u) fun b => match b with
  | true => k y.low st₁
  | false => some (false, st₁)
/-- the last comparison -/
noncomputable def evLast (g : Gd) (op : CmpOp) (p : Ev Op) (x : Op) : Ev Bool := fun st => bn (p st) fun y st₁ => ob (peek st₁ x) fun t => ob (peek st₁ y) fun u => ob (cmpT g op t u) fun b => some (b, st₁)
noncomputable def goOn (isAnd : Bool) (b : Bool) (k : Ev Bool) : Ev Bool := fun st => match b == isAnd with
  | true => k st
  | false => some (b, st)
noncomputable def listT (ts : List T) : Option (T × Bool) := gt (lenOk ts.length) (some (.list ts, true))
noncomputable def tupT (ts : List T) : Option (T × Bool) := gt (lenOk ts.length) (some (.tuple ts, false))
noncomputable def subT (g : Gd) (a i : T) : Option (T × Bool) := ob (idxT g a i) fun t => some (t, false)

section
variable (g : Gd) (F : FTab) (G : Nat → Option T)
mutual
noncomputable def evE : E → St → Option (Op × St)
  | .int i, st => some (.val (.int i), st)
  | .str s, st => gt (g.lit s) (some (.val (.str s), st))
  | .bool b, st => some (.val (.bool b), st)
  | .var x, st => evVar x st
  | .glob n, st => ob (G n) fun t => some (.val t, st)
  | .neg i, st => some (.val (.int (-i)), st)
  | .bin o a b, st => ev2 (evE a) (evE b) (binT g o) st
  | .cmp a r, st => bn (bn (evE a st) (evCs r)) fun b st₁ => some (.val (.bool b), st₁)
  | .andor isAnd a r, st => bn (evE a st) (evBO isAnd r)
  | .ite c a b, st => bn (evB c st) fun x st₁ => match x with
    | true => evE a st₁
    | false => evE b st₁
  | .sub a i, st => ev2 (evE a) (evE i) (subT g) st
  | .slc a lo hi, st => ev3 (evE a) (evO lo) (evO hi) (sliceT g) st
  | .rev a, st => ev1 (evE a) revT st
  | .list es, st => evN (evEs es) listT st
  | .tup es, st => evN (evEs es) tupT st
  | .dict0, st => some (.new (.dict [] []), st)
  | .dict1 k v, st => evD g (evE k) (evE v) st
  | .call f args, st => evCall F (evE f) (evEs args) st
  | .bi b args, st => evP (evEs args) (biT g b) st
  | .meth m o args, st => evMeth g m (evE o) (evEs args) st
  | .repl o c z, st => ev1 (evE o) (replT g c z) st
  | .comp tg iter ifs rest cap, st => evComp g tg (evE iter) (evIf ifs) (evG rest) cap st
noncomputable def evO : Oe → St → Option (Option Int × St)
  | .none, st => some (Option.none, st)
  | .some e, st => evInt (evE e) st
noncomputable def evEs : Es → St → Option (List Op × St)
  | .nil, st => some ([], st)
  | .cons e es, st => bn (evE e st) fun x st₁ => bn (evEs es st₁) fun xs st₂ => some (x.low :: xs, st₂)
noncomputable def evCs : Cs → Op → St → Option (Bool × St)
  | .one op e, x, st => evLast g op (evE e) x st
  | .cons op e r, x, st => evLink g op (evE e) x (evCs r) st
noncomputable def evBO (isAnd : Bool) : Es → Op → St → Option (Op × St)
  | .nil, x, st => ob (peek st x) fun t => ob (asBool t) fun b => some (.val (.bool b), st)
  | .cons e r, x, st => ob (peek st x) fun t => ob (asBool t) fun b => match b == isAnd with
    | true => bn (evE e st) (evBO isAnd r)
    | false => some (.val (.bool b), st)
noncomputable def evB : E → St → Option (Bool × St)
  | .cmp a r, st => bn (evE a st) (evCs r)
  | .andor isAnd a r, st => bn (evB a st) fun b st₁ => goOn isAnd b (evBs isAnd r) st₁
  | .var x, st => bn (evVar x st) (doTruth g)
  | .call f args, st => bn (evCall F (evE f) (evEs args) st) (doTruth g)
  | .meth m o args, st => bn (evMeth g m (evE o) (evEs args) st) (doTruth g)
  | _, _ => Option.none
noncomputable def evBs (isAnd : Bool) : Es → St → Option (Bool × St)
  | .nil, st => some (isAnd, st)
  | .cons e r, st => bn (evB e st) fun b st₁ => goOn isAnd b (evBs isAnd r) st₁
noncomputable def evIf : Es → St → Option Bool
  | .nil, _ => some true
  | .cons e .nil, st => bn (evB e st) fun b _ => some b
  | .cons _ (.cons _ _), _ => Option.none
noncomputable def evG : Gs → St → Option (List T)
  | .nil elt, st => bn (evE elt st) fun x st₁ => bn (esc st₁ x) fun t _ => some [t]
  | .cons tg iter ifs rest, st => evGc g tg (evE iter) (evIf ifs) (evG rest) st
end

/-- a value under a name -/
noncomputable def asg (x : Nat) (o : Op) : Ev Fl := fun st => match o with
  | .new t => some (.next, st.set x t true)
  | .val t => some (.next, st.set x t false)
  | .var i => bn (esc st (.var i)) fun t st₁ => some (.next, st₁.set x t false)
/-- a name and a value that is common -/
noncomputable def augS (x : Nat) (o : Operator) (t tv : T) : Ev Fl := fun st => ob (binT g o t tv) fun r => gt (!r.2) (some (.next, st.set x r.1 false))
noncomputable def augL (x : Nat) (o : Operator) (t tv : T) : Ev Fl := fun st => ob (asList t) fun a => gt (isAdd o) (ob (asList tv) fun b => gt (lenOk (a.length + b.length)) (some (.next, st.set x (.list (a ++ b)) true)))
noncomputable def evAug (x : Nat) (o : Operator) (p : Ev Op) : Ev Fl := fun st => bn (evVar x st) fun _ _ => bn (p st) fun v st₁ => ob (peek st₁ v) fun tv => ob (st₁.get x) fun q => match q.2 with
  | true => augL x o q.1 tv st₁
  | false => augS g x o q.1 tv st₁
noncomputable def evAugc (x : Nat) (o : Operator) (p : Ev Op) : Ev Fl := fun st => bn (evVar x st) fun _ _ => bn (p st) fun v st₁ => ob (peek st₁ v) fun tv => ob (shr st₁ x) fun t => augS g x o t tv st₁
noncomputable def evSet (x : Nat) (i p : Ev Op) : Ev Fl := fun st => bn (p st) fun v st₁ => bn (esc st₁ v) fun t st₂ => bn (evVar x st₂) fun _ _ => bn (i st₂) fun k st₃ => ob (peek st₃ k) fun kt => ob (asStr kt) fun s =>
  ob (own st₃ x) fun d => ob (asDict d) fun q => gt (lenOk q.1.length && g.row s) (some (.next, st₃.set x (.dict (putS q.1 q.2 s t).1 (putS q.1 q.2 s t).2) true))
noncomputable def evAugI (x : Nat) (i p : Ev Op) : Ev Fl := fun st => bn (evVar x st) fun _ _ => bn (i st) fun k st₁ => ob (peek st₁ k) fun kt => ob (asInt kt) fun j => ob (nat? j) fun j =>
  ob (own st₁ x) fun d => ob (asList d) fun xs => gt (lenOk xs.length) (ob xs[j]? fun ot => ob (asInt ot) fun old =>
  bn (p st₁) fun v st₂ => ob (peek st₂ v) fun tv => ob (asInt tv) fun n => ob (own st₂ x) fun d => ob (asList d) fun ys => gt (Nat.blt j ys.length && lenOk ys.length) (some (.next, st₂.set x (.list (ys.set j (.int (old + n)))) true)))
noncomputable def evDel (x : Nat) (i : Ev Op) : Ev Fl := fun st => bn (evVar x st) fun _ _ => bn (i st) fun k st₁ => ob (peek st₁ k) fun kt => ob (asInt kt) fun j =>
  ob (own st₁ x) fun d => ob (asList d) fun xs => gt (lenOk xs.length) (ob (place j xs.length) fun q => some (.next, st₁.set x (.list (xs.eraseIdx q)) true))
noncomputable def evIff (c : Ev Bool) (a b : Ev Fl) : Ev Fl := fun st => bn (c st) fun x st₁ => match x with
  | true => a st₁
  | false => b st₁
noncomputable def evForE (x : Nat) (p : Ev Op) (b : Ev Fl) : Ev Fl := fun st => bn (p st) fun o st₁ => bn (esc st₁ o) fun t st₂ => ob (itemsT g t) fun items => evFor b x items st₂
mutual
noncomputable def evS : S → St → Option (Fl × St)
  | .assign x e, st => bn (evE g F G e st) (asg x)
  | .assignTup xs es, st => bn (evEs g F G es st) fun ops st₁ => bn (escs st₁ ops) fun ts st₂ => ob (setAll st₂ xs ts) fun st₃ => some (.next, st₃)
  | .assignNew x y, st => some (.next, (st.set x (.list []) true).set y (.list []) true)
  | .setItem x i e, st => evSet g x (evE g F G i) (evE g F G e) st
  | .aug x o e, st => evAug g x o (evE g F G e) st
  | .augc x o e, st => evAugc g x o (evE g F G e) st
  | .augItem x i e, st => evAugI x (evE g F G i) (evE g F G e) st
  | .expr e, st => bn (evE g F G e st) fun _ st₁ => some (.next, st₁)
  | .iff c a b, st => evIff (evB g F G c) (evSs a) (evSs b) st
  | .whil n c b, st => evWhile (evB g F G c) (evSs b) n st
  | .for x it b, st => evForE g x (evE g F G it) (evSs b) st
  | .ret e, st => bn (evE g F G e st) fun o st₁ => bn (esc st₁ o) fun t st₂ => some (.ret t, st₂)
  | .del x i, st => evDel x (evE g F G i) st
  | .asrt e, st => bn (evB g F G e st) fun b st₁ => gt b (some (.next, st₁))
  | .tri b, st => evSs b st
noncomputable def evSs : Ss → St → Option (Fl × St)
  | .nil, st => some (.next, st)
  | .cons s r, st => thn (evS s st) (evSs r)
end

/-- a function of the text, run -/
noncomputable def runF (ps : List Nat) (body : Ss) (ts : List T) : Option T := ob (setAll [] ps ts) fun st => bn (evSs g F G body st) fun f _ => match f with
  | .ret t => some t
  | .next => Option.none
end
/-- no guard beyond the model's own -/
noncomputable def gF : Gd := ⟨lenOk, fun _ => true, fun _ => true, fun _ _ => true, fun _ => true, true⟩
end MP
end

section -- MpElim
open PySem
namespace MP
/-! taking apart what the evaluator hands on -/
section
variable {α β γ : Type} {P : Prop} {r : γ}
theorem oe {o : Option α} {k : α → Option γ} (h : ob o k = some r) (H : ∀ x, o = some x → k x = some r → P) : P := by
  cases o with
  | none => exact nomatch h
  | some x => exact H x rfl h
theorem be {o : Option (α × St)} {k : α → St → Option γ} (h : bn o k = some r) (H : ∀ x s, o = some (x, s) → k x s = some r → P) : P := by
  cases o with
  | none => exact nomatch h
  | some x => exact H x.1 x.2 rfl h
theorem ge {b : Bool} {k : Option γ} (h : gt b k = some r) (H : b = true → k = some r → P) : P := by
  cases b with
  | false => exact nomatch h
  | true => exact H rfl h
theorem se {x y : γ} {Q : γ → Prop} (h : some x = some y) (H : Q x) : Q y := Option.some.inj h ▸ H
theorem pe {x y : α} {s t : β} {Q : α → β → Prop} (h : some (x, s) = some (y, t)) (H : Q x s) : Q y t := by cases h; exact H
theorem asInt_e {t : T} {i : Int} (h : asInt t = some i) : t = .int i := by cases t <;> first | exact congrArg T.int (Option.some.inj h) | exact nomatch h
theorem asBool_e {t : T} {i : Bool} (h : asBool t = some i) : t = .bool i := by cases t <;> first | exact congrArg T.bool (Option.some.inj h) | exact nomatch h
theorem asStr_e {t : T} {i : List Nat} (h : asStr t = some i) : t = .str i := by cases t <;> first | exact congrArg T.str (Option.some.inj h) | exact nomatch h
theorem asList_e {t : T} {i : List T} (h : asList t = some i) : t = .list i := by cases t <;> first | exact congrArg T.list (Option.some.inj h) | exact nomatch h
theorem asFn_e {t : T} {i : Nat} (h : asFn t = some i) : t = .fn i := by cases t <;> first | exact congrArg T.fn (Option.some.inj h) | exact nomatch h
theorem asDict_e {t : T} {q : List (List Nat) × List T} (h : asDict t = some q) : t = .dict q.1 q.2 := by cases t <;> first | exact congrArg (fun q => T.dict q.1 q.2) (Option.some.inj h) | exact nomatch h
theorem nat_e {i : Int} {n : Nat} (h : nat? i = some n) : i = .ofNat n := by cases i <;> first | exact congrArg Int.ofNat (Option.some.inj h) | exact nomatch h
theorem isAdd_e {o : Operator} (h : isAdd o = true) : o = .Add := by cases o <;> first | rfl | exact nomatch h
theorem isSub_e {o : Operator} (h : isSub o = true) : o = .Sub := by cases o <;> first | rfl | exact nomatch h
theorem oi {t : T} {k : Int → Option γ} (h : ob (asInt t) k = some r) (H : ∀ i, t = .int i → k i = some r → P) : P := oe h fun x e => H x (asInt_e e)
theorem oB {t : T} {k : Bool → Option γ} (h : ob (asBool t) k = some r) (H : ∀ i, t = .bool i → k i = some r → P) : P := oe h fun x e => H x (asBool_e e)
theorem os {t : T} {k : List Nat → Option γ} (h : ob (asStr t) k = some r) (H : ∀ i, t = .str i → k i = some r → P) : P := oe h fun x e => H x (asStr_e e)
theorem ol {t : T} {k : List T → Option γ} (h : ob (asList t) k = some r) (H : ∀ i, t = .list i → k i = some r → P) : P := oe h fun x e => H x (asList_e e)
theorem od {t : T} {k : List (List Nat) × List T → Option γ} (h : ob (asDict t) k = some r) (H : ∀ q, t = .dict q.1 q.2 → k q = some r → P) : P := oe h fun x e => H x (asDict_e e)
theorem on {i : Int} {k : Nat → Option γ} (h : ob (nat? i) k = some r) (H : ∀ n, i = .ofNat n → k n = some r → P) : P := oe h fun x e => H x (nat_e e)
theorem isE {l : List α} (h : l.isEmpty = true) : l = [] := List.isEmpty_iff.mp h
theorem one_e {l : List α} {x : α} (h : one? l = some x) : l = [x] := by
  cases l with
  | nil => exact nomatch h
  | cons a t => exact ge h fun e h => by rw [isE e, Option.some.inj h]
theorem two_e {l : List α} {x : α × α} (h : two? l = some x) : l = [x.1, x.2] := by
  cases l with
  | nil => exact nomatch h
  | cons a t => exact oe h fun u e h => by rw [one_e e, ← Option.some.inj h]
theorem three_e {l : List α} {x : α × α × α} (h : three? l = some x) : l = [x.1, x.2.1, x.2.2] := by
  cases l with
  | nil => exact nomatch h
  | cons a t => exact oe h fun u e h => by rw [two_e e, ← Option.some.inj h]
theorem o1 {l : List α} {k : α → Option γ} (h : ob (one? l) k = some r) (H : ∀ x, l = [x] → k x = some r → P) : P := oe h fun x e => H x (one_e e)
theorem o2 {l : List α} {k : α × α → Option γ} (h : ob (two? l) k = some r) (H : ∀ x, l = [x.1, x.2] → k x = some r → P) : P := oe h fun x e => H x (two_e e)
theorem o3 {l : List α} {k : α × α × α → Option γ} (h : ob (three? l) k = some r) (H : ∀ x, l = [x.1, x.2.1, x.2.2] → k x = some r → P) : P := oe h fun x e => H x (three_e e)
theorem and_e {a b : Bool} (h : (a && b) = true) (H : a = true → b = true → P) : P := by
  cases a with
  | false => exact nomatch h
  | true => exact H rfl h
/-! putting together -/
theorem obI {o : Option α} {k : α → Option γ} {q : Option γ} {x : α} (e : o = some x) (H : k x = q) : ob o k = q := by subst e; exact H
theorem bnI {o : Option (α × St)} {k : α → St → Option γ} {q : Option γ} {x : α} {s : St} (e : o = some (x, s)) (H : k x s = q) : bn o k = q := by subst e; exact H
theorem gtI {b : Bool} {k q : Option γ} (e : b = true) (H : k = q) : gt b k = q := by subst e; exact H
@[simp] theorem ob_some {x : α} {k : α → Option γ} : ob (some x) k = k x := rfl
@[simp] theorem ob_none {k : α → Option γ} : ob none k = none := rfl
@[simp] theorem bn_some {x : α} {s : St} {k : α → St → Option γ} : bn (some (x, s)) k = k x s := rfl
@[simp] theorem bn_none {k : α → St → Option γ} : bn none k = none := rfl
@[simp] theorem gt_true {k : Option γ} : gt true k = k := rfl
@[simp] theorem gt_false {k : Option γ} : gt false k = none := rfl
end
@[simp] theorem asInt_int {i : Int} : asInt (.int i) = some i := rfl
@[simp] theorem asBool_bool {i : Bool} : asBool (.bool i) = some i := rfl
@[simp] theorem asStr_str {i : List Nat} : asStr (.str i) = some i := rfl
@[simp] theorem asList_list {i : List T} : asList (.list i) = some i := rfl
@[simp] theorem asDict_dict {ks : List (List Nat)} {vs : List T} : asDict (.dict ks vs) = some (ks, vs) := rfl
@[simp] theorem asFn_fn {i : Nat} : asFn (.fn i) = some i := rfl
@[simp] theorem one_one {α : Type} {x : α} : one? [x] = some x := rfl
@[simp] theorem two_two {α : Type} {x y : α} : two? [x, y] = some (x, y) := rfl
@[simp] theorem three_three {α : Type} {x y z : α} : three? [x, y, z] = some (x, y, z) := rfl
@[simp] theorem nat_of {n : Nat} : nat? (.ofNat n) = some n := rfl
@[simp] theorem nat_cast {n : Nat} : nat? (n : Int) = some n := rfl
@[simp] theorem gF_len {n : Nat} : gF.len n = lenOk n := rfl
@[simp] theorem gF_row {s : List Nat} : gF.row s = true := rfl
@[simp] theorem gF_nm {s : List Nat} : gF.nm s = true := rfl
@[simp] theorem gF_cmp {s t : List Nat} : gF.cmp s t = true := rfl
@[simp] theorem gF_lit {s : List Nat} : gF.lit s = true := rfl
@[simp] theorem gF_free : gF.free = true := rfl
theorem thnI {o : Option (Fl × St)} {k : St → Option (Fl × St)} {s : St} {q : Option (Fl × St)} (e : o = some (.next, s)) (H : k s = q) : thn o k = q := bnI e H
@[simp] theorem thn_next {s : St} {k : St → Option (Fl × St)} : thn (some (.next, s)) k = k s := rfl
@[simp] theorem thn_ret {s : St} {t : T} {k : St → Option (Fl × St)} : thn (some (.ret t, s)) k = some (.ret t, s) := rfl
/-! the forms of a term's run -/
section
variable {P : Prop} {st st' : St} {op : Op}
theorem var_e {x : Nat} (h : evVar x st = some (op, st')) (H : ∀ y, st.get x = some y → op = .var x → st' = st → P) : P := oe h fun y e h => by cases h; exact H y e rfl rfl
theorem ev1_e {p : Ev Op} {f : T → Option (T × Bool)} (h : ev1 p f st = some (op, st')) (H : ∀ x t r, p st = some (x, st') → peek st' x = some t → f t = some r → op = mkOp r.1 r.2 → P) : P :=
  be h fun x s h1 h => oe h fun t h2 h => oe h fun r h3 h => by cases h; exact H x t r h1 h2 h3 rfl
theorem ev2_e {p q : Ev Op} {f : T → T → Option (T × Bool)} (h : ev2 p q f st = some (op, st')) (H : ∀ x s y t u r, p st = some (x, s) → q s = some (y, st') → peek st' x = some t → peek st' y = some u → f t u = some r → op = mkOp r.1 r.2 → P) : P :=
  be h fun x s h1 h => be h fun y s2 h2 h => oe h fun t h3 h => oe h fun u h4 h => oe h fun r h5 h => by cases h; exact H x s y t u r h1 h2 h3 h4 h5 rfl
theorem ev3_e {p : Ev Op} {l u : Ev (Option Int)} {f : T → Option Int → Option Int → Option (T × Bool)} (h : ev3 p l u f st = some (op, st')) (H : ∀ x s lo s2 hi t r, p st = some (x, s) → l s = some (lo, s2) → u s2 = some (hi, st') → peek st' x = some t → f t lo hi = some r → op = mkOp r.1 r.2 → P) : P :=
  be h fun x s h1 h => be h fun lo s2 h2 h => be h fun hi s3 h3 h => oe h fun t h4 h => oe h fun r h5 h => by cases h; exact H x s lo s2 hi t r h1 h2 h3 h4 h5 rfl
theorem evN_e {p : Ev (List Op)} {f : List T → Option (T × Bool)} (h : evN p f st = some (op, st')) (H : ∀ ops s ts r, p st = some (ops, s) → escs s ops = some (ts, st') → f ts = some r → op = mkOp r.1 r.2 → P) : P :=
  be h fun ops s h1 h => be h fun ts s2 h2 h => oe h fun r h3 h => by cases h; exact H ops s ts r h1 h2 h3 rfl
theorem evP_e {p : Ev (List Op)} {f : List T → Option (T × Bool)} (h : evP p f st = some (op, st')) (H : ∀ ops ts r, p st = some (ops, st') → peeks st' ops = some ts → f ts = some r → op = mkOp r.1 r.2 → P) : P :=
  be h fun ops s h1 h => oe h fun ts h2 h => oe h fun r h3 h => by cases h; exact H ops ts r h1 h2 h3 rfl
theorem evD_e {g : Gd} {p q : Ev Op} (h : evD g p q st = some (op, st')) (H : ∀ x s y s2 z t, p st = some (x, s) → q s = some (y, s2) → peek s2 x = some (.str z) → esc s2 y = some (t, st') → g.row z = true → op = .new (.dict [z] [t]) → P) : P :=
  be h fun x s h1 h => be h fun y s2 h2 h => oe h fun k h3 h => os h fun z h4 h => be h fun t s3 h5 h => ge h fun h6 h => by cases h; subst h4; exact H x s y s2 z t h1 h2 h3 h5 h6 rfl
theorem doCall_e {F : FTab} {n : Nat} {ops : List Op} (h : doCall F n ops st = some (op, st')) (H : ∀ ts fP r, escs st ops = some (ts, st') → F n = some fP → fP ts = some r → op = .val r → P) : P :=
  be h fun ts s h1 h => oe h fun fP h2 h => oe h fun r h3 h => by cases h; exact H ts fP r h1 h2 h3 rfl
theorem opFn_e {x : Op} {n : Nat} (h : opFn st x = some n) : peek st x = some (.fn n) := oe h fun t h1 h => by rw [h1, asFn_e h]
theorem evCall_e {F : FTab} {p : Ev Op} {q : Ev (List Op)} (h : evCall F p q st = some (op, st')) (H : ∀ fo s n ops s2 ts fP r, p st = some (fo, s) → peek s fo = some (.fn n) → q s = some (ops, s2) → escs s2 ops = some (ts, st') → F n = some fP → fP ts = some r → op = .val r → P) : P :=
  be h fun fo s h1 h => oe h fun n h2 h => be h fun ops s2 h3 h => doCall_e h fun ts fP r h4 h5 h6 h7 => H fo s n ops s2 ts fP r h1 (opFn_e h2) h3 h4 h5 h6 h7
theorem own_e {i : Nat} {t : T} (h : own st i = some t) : st.get i = some (t, true) := oe h fun p e h => ge h fun q h => by rw [e, ← Option.some.inj h, ← q]
theorem shr_e {i : Nat} {t : T} (h : shr st i = some t) : st.get i = some (t, false) := oe h fun p e h => ge h fun q h => by
  obtain ⟨u, b⟩ := p
  cases b with
  | false => rw [e, ← Option.some.inj h]
  | true => exact nomatch q
theorem doMut_e {m : ME} {k : Nat} {x : Op} {ops : List Op} (h : doMut m k x ops st = some (op, st')) (H : ∀ i ts s xs ys r, x = .var i → escs st ops = some (ts, s) → s.get i = some (.list xs, true) → k = 1 → mutT m xs ts = some (ys, r) → op = .val r → st' = s.set i (.list ys) true → P) : P := by
  cases x with
  | var i => exact be h fun ts s h1 h => oe h fun t h2 h => ol h fun xs h3 h => ge h fun h4 h => oe h fun r h5 h => by cases h; subst h3; exact H i ts s xs r.1 r.2 rfl h1 (own_e h2) (Nat.eq_of_beq_eq_true h4) h5 rfl rfl
  | _ => exact nomatch h
theorem doPure_e {g : Gd} {m : ME} {k : Nat} {x : Op} {ops : List Op} (h : doPure g m k x ops st = some (op, st')) (H : ∀ t ts r, peek st x = some t → k = kindT t → peeks st ops = some ts → methT g m t ts = some r → op = mkOp r.1 r.2 → st' = st → P) : P :=
  oe h fun t h1 h => ge h fun h2 h => oe h fun ts h3 h => oe h fun r h4 h => by cases h; exact H t ts r h1 (Nat.eq_of_beq_eq_true h2) h3 h4 rfl rfl
theorem doTruth_e {g : Gd} {x : Op} {b : Bool} (h : doTruth g x st = some (b, st')) (H : ∀ t, peek st x = some t → truthT g t = some b → st' = st → P) : P :=
  oe h fun t h1 h => oe h fun c h2 h => by cases h; exact H t h1 h2 rfl
theorem evInt_e {p : Ev Op} {lo : Option Int} (h : evInt p st = some (lo, st')) (H : ∀ x i, p st = some (x, st') → peek st' x = some (.int i) → small i = true → lo = some i → P) : P :=
  be h fun x s h1 h => oe h fun t h2 h => oi h fun i h3 h => ge h fun h4 h => by cases h; subst h3; exact H x i h1 h2 h4 rfl
theorem evLast_e {g : Gd} {o : CmpOp} {p : Ev Op} {x : Op} {c : Bool} (h : evLast g o p x st = some (c, st')) (H : ∀ y t u, p st = some (y, st') → peek st' x = some t → peek st' y = some u → cmpT g o t u = some c → P) : P :=
  be h fun y s h1 h => oe h fun t h2 h => oe h fun u h3 h => oe h fun b h4 h => by cases h; exact H y t u h1 h2 h3 h4
theorem evLink_e {g : Gd} {o : CmpOp} {p : Ev Op} {x : Op} {k : Op → Ev Bool} {c : Bool} (h : evLink g o p x k st = some (c, st')) (H : ∀ y s t u b, p st = some (y, s) → peek s x = some t → peek s y = some u → cmpT g o t u = some b → (b = true ∧ k y.low s = some (c, st')) ∨ (b = false ∧ c = false ∧ st' = s) → P) : P :=
  be h fun y s h1 h => oe h fun t h2 h => oe h fun u h3 h => oe h fun b h4 h => by
    cases b with
    | true => exact H y s t u true h1 h2 h3 h4 (.inl ⟨rfl, h⟩)
    | false => cases h; exact H y _ t u false h1 h2 h3 h4 (.inr ⟨rfl, rfl, rfl⟩)
theorem thn_e {o : Option (Fl × St)} {k : St → Option (Fl × St)} {fl : Fl} {st' : St} {P : Prop} (h : thn o k = some (fl, st')) (H1 : ∀ s, o = some (.next, s) → k s = some (fl, st') → P) (H2 : ∀ t, o = some (.ret t, st') → fl = .ret t → P) : P := by
  refine be h ?_; clear h; intro f s h1 h
  cases f with
  | next => exact H1 s h1 h
  | ret t => cases h; exact H2 t h1 rfl
end
end MP
end

section -- MpRel
open PySem PySem.W PyProof.Rows

namespace MP
/-- the world a proof speaks of: the program, the names by their numbers, the heap when the law is called -/
structure Wd where
  prog : Program
  w : World
  mg : Str → Option Value
  mb : Str → Option Value
  p : Program
  loose : List Str
  mean : ExcName → Option Value
  hb : Heap
  T : Top p loose mean mg mb hb
  nm : Nat → Str
  inj : ∀ i j, nm i = nm j → i = j

noncomputable def Okv (ok : Addr → Prop) : T → Value → Prop
  | .fn _, _ => True
  | _, .ref a => ok a
  | _, _ => True

mutual
noncomputable def Body (W : Wd) (ok : Addr → Prop) (h : Heap) : T → Value → Prop
  | .none, v => v = .none
  | .bool b, v => v = .bool b
  | .int i, v => ∃ k, v = .int i k
  | .str s, v => ∃ k, v = .str (mkS s) k
  | .fn g, v => ∃ a, v = .ref a ∧ W.mg (W.nm g) = some (.ref a)
  | .list ts, v => ∃ a vs, v = .ref a ∧ h.PlainList a vs.toArray ∧ Reps W ok h ts vs
  | .tuple ts, v => ∃ a vs, v = .ref a ∧ h.IsTuple a vs.toArray ∧ Reps W ok h ts vs
  | .dict ks ts, v => ∃ a vs ep, v = .ref a ∧ (a == sysModules) = false ∧ h.DictAt (PySem.strKind W.prog W.w) a ((ks.map mkS).zip vs) ep ∧ ks.length = vs.length ∧ Reps W ok h ts vs
  | .range lo hi, v => ∃ a t u k, v = .ref a ∧ IsRange h a lo hi 1 t u k
noncomputable def Reps (W : Wd) (ok : Addr → Prop) (h : Heap) : List T → List Value → Prop
  | [], vs => vs = []
  | t :: ts, vs => ∃ v r, vs = v :: r ∧ (Body W ok h t v ∧ Okv ok t v) ∧ Reps W ok h ts r
end

noncomputable def Rep (W : Wd) (ok : Addr → Prop) (h : Heap) (t : T) (v : Value) : Prop := Body W ok h t v ∧ Okv ok t v

theorem Heap.PlainList.at'' {h h' : Heap} {a : Addr} {xs : Array Value} (x : h.PlainList a xs) (k : ∀ o, h.get? a = some o → h'.get? a = some o) : h'.PlainList a xs :=
  let ⟨n, e⟩ := x; ⟨n, k _ e⟩

/-- what a value rests on goes over from one heap to another -/
noncomputable def Tr (ok : Addr → Prop) (h : Heap) (ok' : Addr → Prop) (h' : Heap) : Prop := ∀ a o, ok a → h.get? a = some o → ok' a ∧ h'.get? a = some o

section
variable {W : Wd} {ok ok' : Addr → Prop} {h h' : Heap}

theorem body_get {t : T} {a : Addr} (b : Body W ok h t (.ref a)) (hf : ∀ g, t ≠ .fn g) : ∃ o, h.get? a = some o := by
  cases t with
  | none => simp [Body] at b
  | bool b' => simp [Body] at b
  | int i => simp [Body] at b
  | str s => simp [Body] at b
  | fn g => exact absurd rfl (hf g)
  | list ts => simp only [Body] at b; obtain ⟨a', vs, e, ⟨n, q⟩, _⟩ := b; cases e; exact ⟨_, q⟩
  | tuple ts => simp only [Body] at b; obtain ⟨a', vs, e, ⟨o, q, _⟩, _⟩ := b; cases e; exact ⟨_, q⟩
  | dict ks ts => simp only [Body] at b; obtain ⟨a', vs, ep, e, _, ⟨o, es, q, _⟩, _⟩ := b; cases e; exact ⟨_, q⟩
  | range lo hi => simp only [Body] at b; obtain ⟨a', t, u, k, e, q⟩ := b; cases e; exact ⟨_, q⟩

theorem okv_of {t : T} {v : Value} (k : ∀ a, v = .ref a → ok a) : Okv ok t v := by
  unfold Okv
  split
  · trivial
  · exact k _ rfl
  · trivial

theorem okv_at {t : T} {a : Addr} (k : Okv ok t (.ref a)) (hf : ∀ g, t ≠ .fn g) : ok a := by
  cases t <;> first | exact absurd rfl (hf _) | exact k

theorem okv_fn {g : Nat} {v : Value} : Okv ok (.fn g) v := trivial

theorem okv_tr (x : Tr ok h ok' h') {t : T} {v : Value} (b : Body W ok h t v) (k : Okv ok t v) : Okv ok' t v := by
  by_cases hf : ∀ g, t ≠ .fn g
  · refine okv_of fun a e => ?_
    subst e
    obtain ⟨o, e⟩ := body_get b hf
    exact (x a o (okv_at k hf) e).1
  · have : ∃ g, t = .fn g := Classical.byContradiction fun q => hf fun g e => q ⟨g, e⟩
    obtain ⟨g, rfl⟩ := this
    exact okv_fn

mutual
theorem body_tr (x : Tr ok h ok' h') : ∀ {t : T} {v : Value}, Body W ok h t v → (∀ a o, v = .ref a → (∀ g, t ≠ .fn g) → h.get? a = some o → h'.get? a = some o) → Body W ok' h' t v
  | .none, v, b, _ => by simpa [Body] using b
  | .bool _, v, b, _ => by simpa [Body] using b
  | .int _, v, b, _ => by simpa [Body] using b
  | .str _, v, b, _ => by simpa [Body] using b
  | .fn _, v, b, _ => by simpa [Body] using b
  | .list ts, v, b, k => by
    simp only [Body] at b ⊢
    obtain ⟨a, vs, rfl, q, r⟩ := b
    exact ⟨a, vs, rfl, Heap.PlainList.at'' q fun o e => k a o rfl (by intro _ q; cases q) e, reps_tr x r⟩
  | .tuple ts, v, b, k => by
    simp only [Body] at b ⊢
    obtain ⟨a, vs, rfl, ⟨o, q1, q2⟩, r⟩ := b
    exact ⟨a, vs, rfl, ⟨o, k a o rfl (by intro _ q; cases q) q1, q2⟩, reps_tr x r⟩
  | .dict ks ts, v, b, k => by
    simp only [Body] at b ⊢
    obtain ⟨a, vs, ep, rfl, hs, ⟨o, es, q1, q2⟩, hl, r⟩ := b
    exact ⟨a, vs, ep, rfl, hs, ⟨o, es, k a o rfl (by intro _ q; cases q) q1, q2⟩, hl, reps_tr x r⟩
  | .range lo hi, v, b, k => by
    simp only [Body] at b ⊢
    obtain ⟨a, t, u, n, rfl, q⟩ := b
    exact ⟨a, t, u, n, rfl, k a _ rfl (by intro _ q; cases q) q⟩
theorem reps_tr (x : Tr ok h ok' h') : ∀ {ts : List T} {vs : List Value}, Reps W ok h ts vs → Reps W ok' h' ts vs
  | [], vs, r => by simpa [Reps] using r
  | t :: ts, vs, r => by
    simp only [Reps] at r ⊢
    obtain ⟨v, r', rfl, ⟨b, k⟩, q⟩ := r
    refine ⟨v, r', rfl, ⟨body_tr x b fun a o e hf g => ?_, okv_tr x b k⟩, reps_tr x q⟩
    subst e
    exact (x a o (okv_at k hf) g).2
end
theorem rep_tr (x : Tr ok h ok' h') {t : T} {v : Value} (r : Rep W ok h t v) : Rep W ok' h' t v :=
  ⟨body_tr x r.1 fun a o e hf g => by subst e; exact (x a o (okv_at r.2 hf) g).2, okv_tr x r.1 r.2⟩
end

/-! the frame -/
theorem St.get_set (st : St) (i : Nat) (t : T) (b : Bool) (j : Nat) : (St.set st i t b).get j = if i = j then some (t, b) else st.get j := by
  induction st with
  | nil =>
    simp only [St.set_nil, St.set_cons, St.get_nil, St.get_cons]
    by_cases e : i = j
    · subst e; simp
    · have : Nat.beq i j = false := by cases q : Nat.beq i j with
        | false => rfl
        | true => exact absurd (Nat.eq_of_beq_eq_true q) e
      simp [this, e]
  | cons x r ih =>
    obtain ⟨k, t', b'⟩ := x
    simp only [St.set_nil, St.set_cons]
    cases q : Nat.beq k i with
    | true =>
      have e := Nat.eq_of_beq_eq_true q
      subst e
      simp only [St.get_nil, St.get_cons]
      by_cases e : k = j
      · subst e; simp
      · have : Nat.beq k j = false := by cases q : Nat.beq k j with
          | false => rfl
          | true => exact absurd (Nat.eq_of_beq_eq_true q) e
        simp [this, e]
    | false =>
      simp only [St.get_nil, St.get_cons]
      cases q2 : Nat.beq k j with
      | true =>
        have e := Nat.eq_of_beq_eq_true q2
        subst e
        have : ¬ i = k := fun e => by subst e; simp at q
        simp [this]
      | false => simpa using ih

noncomputable def isVarK : Option NameKind → Bool
  | some .local => true
  | some .cell => true
  | some .free => true
  | _ => false

/-- the addresses that the frame alone may change -/
noncomputable def Pv (sc : List (Str × NameKind)) (env : Env) (vm : Nat → Option Value) (st : St) (a : Addr) : Prop :=
  a = env.locals ∨ (∃ x, sc.lookup x = some .cell ∧ env.cells.lookup x = some a) ∨ ∃ i t, st.get i = some (t, true) ∧ vm i = some (.ref a)

noncomputable def Ok (H : Addr → Prop) (sc : List (Str × NameKind)) (env : Env) (vm : Nat → Option Value) (st : St) (a : Addr) : Prop := ¬ Pv sc env vm st a ∧ ¬ H a

structure Rel (W : Wd) (H : Addr → Prop) (sc : List (Str × NameKind)) (env : Env) (vm : Nat → Option Value) (st : St) (h : Heap) : Prop where
  base : ∀ b o, W.hb.get? b = some o → h.get? b = some o
  kind : env.scope.kind = .function
  glob : env.globals = mainGlobals
  blt : env.builtins = builtinsNs
  kl : ∀ x, sc.lookup x = some .local → env.kindOf x = some .local
  kc : ∀ x, sc.lookup x = some .cell → env.kindOf x = some .cell
  kf : ∀ x, sc.lookup x = some .free → env.kindOf x = some .cell ∨ env.kindOf x = some .free
  kg : ∀ x, sc.lookup x = some .globalImplicit → env.kindOf x = some .globalImplicit
  ns : ∃ m, h.Ns env.locals m ∧ ∀ i v, vm i = some v → sc.lookup (W.nm i) = some .local → m (W.nm i) = some v
  cl : ∀ x, sc.lookup x = some .cell ∨ sc.lookup x = some .free → ∃ c o, env.cells.lookup x = some c ∧ h.IsCell c o
  cv : ∀ i v c, vm i = some v → sc.lookup (W.nm i) = some .cell ∨ sc.lookup (W.nm i) = some .free → env.cells.lookup (W.nm i) = some c → h.IsCell c (some v)
  apart : ∀ x y c, sc.lookup x = some .cell → sc.lookup y = some .cell ∨ sc.lookup y = some .free → env.cells.lookup x = some c → env.cells.lookup y = some c → x = y
  vals : ∀ i t b, st.get i = some (t, b) → ∃ v, vm i = some v ∧ Body W (Ok H sc env vm st) h t v ∧ (b = false → Okv (Ok H sc env vm st) t v)
  own : ∀ i t, st.get i = some (t, true) → ∃ a, vm i = some (.ref a) ∧ a ≠ env.locals ∧ (∀ g, t ≠ .fn g) ∧ ∀ v, ¬ h.IsCell a v
  one : ∀ i j a t u, st.get i = some (t, true) → st.get j = some (u, true) → vm i = some (.ref a) → vm j = some (.ref a) → i = j
  priv : ∀ a, Pv sc env vm st a → W.hb.get? a = none
  hid : ∀ a, H a → (∃ o, h.get? a = some o) ∧ ¬ Pv sc env vm st a

structure Stp (P : Addr → Prop) (h : Heap) (P' : Addr → Prop) (h' : Heap) : Prop where
  keep : ∀ a o, ¬ P a → h.get? a = some o → h'.get? a = some o
  priv : ∀ a, P' a → P a ∨ h.get? a = none

theorem Stp.refl {P : Addr → Prop} {h : Heap} : Stp P h P h := ⟨fun _ _ _ e => e, fun _ p => .inl p⟩
theorem Stp.trans {P P₁ P₂ : Addr → Prop} {h h₁ h₂ : Heap} (x : Stp P h P₁ h₁) (y : Stp P₁ h₁ P₂ h₂) : Stp P h P₂ h₂ := by
  refine ⟨fun a o n e => y.keep a o (fun p => (x.priv a p).elim n fun q => by rw [q] at e; cases e) (x.keep a o n e), fun a p => ?_⟩
  rcases y.priv a p with q | q
  · exact x.priv a q
  · by_cases k : P a
    · exact .inl k
    · refine .inr ?_
      cases e : h.get? a with
      | none => rfl
      | some o => have := x.keep a o k e; rw [q] at this; cases this

theorem ns_unique {h : Heap} {L : Addr} {m m' : Str → Option Value} (x : h.Ns L m) (y : h.Ns L m') : m = m' := by
  obtain ⟨o, es, ep, e1, e2, _, e3⟩ := x
  obtain ⟨o', es', ep', f1, f2, _, f3⟩ := y
  rw [e1] at f1; cases f1
  rw [e2] at f2; cases f2
  funext n
  rw [← e3, f3]

/-- nothing that stood is changed -/
structure Grown (h h' : Heap) : Prop where
  keep : ∀ a o, h.get? a = some o → h'.get? a = some o
theorem Grown.refl {h : Heap} : Grown h h := ⟨fun _ _ e => e⟩
theorem Grown.trans {h h₁ h₂ : Heap} (x : Grown h h₁) (y : Grown h₁ h₂) : Grown h h₂ := ⟨fun a o e => y.keep a o (x.keep a o e)⟩
theorem Grown.push {h : Heap} (o : Obj) : Grown h (h.push o) := ⟨fun _ _ e => Heap.get?_push_of_some _ e⟩

/-- nothing that stood is changed, but that the frame's own table may be laid anew -/
structure GrownL (L : Addr) (h h' : Heap) : Prop where
  keep : ∀ a o, a ≠ L → h.get? a = some o → h'.get? a = some o
  ns : ∀ m, h.Ns L m → h'.Ns L m
theorem Grown.gl {L : Addr} {h h' : Heap} (g : Grown h h') : GrownL L h h' := ⟨fun a o _ e => g.keep a o e, fun m n => n.keeps g.keep⟩
theorem GrownL.trans {L : Addr} {h h₁ h₂ : Heap} (x : GrownL L h h₁) (y : GrownL L h₁ h₂) : GrownL L h h₂ := ⟨fun a o n e => y.keep a o n (x.keep a o n e), fun m n => y.ns m (x.ns m n)⟩

section
variable {W : Wd} {H H' : Addr → Prop} {sc : List (Str × NameKind)} {env : Env} {vm : Nat → Option Value} {st st' : St} {h h' : Heap}

theorem GrownL.stp {P P' : Addr → Prop} {L : Addr} (g : GrownL L h h') (pl : P L) (p : ∀ a, P' a → P a) : Stp P h P' h' := ⟨fun a o n e => g.keep a o (fun q => n (q ▸ pl)) e, fun a q => .inl (p a q)⟩
theorem Grown.stp {P P' : Addr → Prop} (g : Grown h h') (p : ∀ a, P' a → P a) : Stp P h P' h' := ⟨fun a o _ e => g.keep a o e, fun a q => .inl (p a q)⟩

/-- what the frame owns stands in the heap -/
theorem Rel.pv_get (R : Rel W H sc env vm st h) {a : Addr} (p : Pv sc env vm st a) : ∃ o, h.get? a = some o := by
  rcases p with rfl | ⟨x, hx, hc⟩ | ⟨i, t, hi, hv⟩
  · obtain ⟨m, ⟨o, es, ep, e, _⟩, _⟩ := R.ns; exact ⟨o, e⟩
  · obtain ⟨c, o, e, ⟨oc, q, _⟩⟩ := R.cl x (.inl hx)
    rw [hc] at e; cases e
    exact ⟨oc, q⟩
  · obtain ⟨v, e, b, _⟩ := R.vals i t true hi
    rw [hv] at e; cases e
    obtain ⟨a', _, _, hf, _⟩ := R.own i t hi
    exact body_get b hf

theorem Rel.fresh (R : Rel W H sc env vm st h) {a : Addr} (g : h.get? a = none) : ¬ Pv sc env vm st a := fun p => by
  obtain ⟨o, e⟩ := R.pv_get p
  rw [g] at e; cases e
theorem get?_big {h : Heap} {a : Addr} (q : h.objs.size ≤ a) : h.get? a = none := by
  cases e : h.get? a with
  | none => rfl
  | some o => exact absurd (Heap.lt_size e) (Nat.not_lt.mpr q)
theorem Rel.okBig (R : Rel W H sc env vm st h) {a : Addr} (q : h.get? a = none) : Ok H sc env vm st a :=
  ⟨R.fresh q, fun k => by obtain ⟨⟨o, e⟩, _⟩ := R.hid a k; rw [q] at e; cases e⟩

/-- a value goes over a step -/
theorem Stp.tr {P' : Addr → Prop} (x : Stp (Pv sc env vm st) h P' h') (H : Addr → Prop) : Tr (Ok H sc env vm st) h (fun a => ¬ P' a ∧ ¬ H a) h' :=
  fun a o k e => ⟨⟨fun p => (x.priv a p).elim k.1 fun q => (by rw [q] at e; cases e), k.2⟩, x.keep a o k.1 e⟩

/-- a frame stands still while the heap grows; new places may be hidden -/
theorem Rel.growL (R : Rel W H sc env vm st h) (g : GrownL env.locals h h') (hH : ∀ a, H' a → H a ∨ (h.get? a = none ∧ ∃ o, h'.get? a = some o)) : Rel W H' sc env vm st h' := by
  have ne : ∀ a, ¬ Pv sc env vm st a → a ≠ env.locals := fun a n e => n (.inl e)
  have locs : ∀ c o, h.IsCell c o → c ≠ env.locals := fun c o hc e => by
    subst e
    obtain ⟨m, ⟨o1, es, ep, e1, e2, _⟩, _⟩ := R.ns
    obtain ⟨o2, e3, e4⟩ := hc
    rw [e1] at e3; cases e3
    rw [e2] at e4; cases e4
  have tr : Tr (Ok H sc env vm st) h (Ok H' sc env vm st) h' := fun a o k e =>
    ⟨⟨k.1, fun q => (hH a q).elim k.2 fun r => (by rw [r.1] at e; cases e)⟩, g.keep a o (ne a k.1) e⟩
  have cell : ∀ c o, h.IsCell c o → h'.IsCell c o := fun c o x => by
    have n := locs c o x
    obtain ⟨oc, e, d⟩ := x
    exact ⟨oc, g.keep c oc n e, d⟩
  refine ⟨fun b o e => g.keep b o (fun q => ?_) (R.base b o e), R.kind, R.glob, R.blt, R.kl, R.kc, R.kf, R.kg, ?_, ?_, ?_, R.apart, ?_, ?_, R.one, R.priv, ?_⟩
  · have := R.priv b (.inl q)
    rw [this] at e; cases e
  · obtain ⟨m, n, q⟩ := R.ns
    exact ⟨m, g.ns m n, q⟩
  · intro x hx
    obtain ⟨c, o, e, q⟩ := R.cl x hx
    exact ⟨c, o, e, cell c o q⟩
  · intro i v c e k l
    exact cell _ _ (R.cv i v c e k l)
  · intro i t b e
    obtain ⟨v, q, B, k⟩ := R.vals i t b e
    refine ⟨v, q, body_tr tr B fun a o ea hf e' => ?_, fun hb => okv_tr tr B (k hb)⟩
    subst ea
    cases b with
    | false => exact g.keep a o (ne a (okv_at (k rfl) hf).1) e'
    | true =>
      obtain ⟨a', qa, n, _⟩ := R.own i t e
      rw [q] at qa; cases qa
      exact g.keep a o n e'
  · intro i t e
    obtain ⟨a, q, n, hf, nc⟩ := R.own i t e
    refine ⟨a, q, n, hf, fun v ⟨o, e1, e2⟩ => ?_⟩
    obtain ⟨v', q', B, _⟩ := R.vals i t true e
    rw [q] at q'; cases q'
    obtain ⟨o', e3⟩ := body_get B hf
    have := g.keep a o' n e3
    rw [e1] at this; cases this
    exact nc v ⟨o, e3, e2⟩
  · intro a k
    rcases hH a k with q | ⟨q1, q2⟩
    · obtain ⟨⟨o, e⟩, n⟩ := R.hid a q
      exact ⟨⟨o, g.keep a o (ne a n) e⟩, n⟩
    · exact ⟨q2, R.fresh q1⟩
theorem Rel.grow (R : Rel W H sc env vm st h) (g : Grown h h') (hH : ∀ a, H' a → H a ∨ (h.get? a = none ∧ ∃ o, h'.get? a = some o)) : Rel W H' sc env vm st h' := R.growL g.gl hH

theorem Rel.unhide (R : Rel W H' sc env vm st h) (k : ∀ a, H a → H' a) : Rel W H sc env vm st h := by
  have tr : Tr (Ok H' sc env vm st) h (Ok H sc env vm st) h := fun a o q e => ⟨⟨q.1, fun r => q.2 (k a r)⟩, e⟩
  exact { R with
    vals := fun i t b e => by
      obtain ⟨v, q, B, kk⟩ := R.vals i t b e
      exact ⟨v, q, body_tr tr B fun a o _ _ e => e, fun hb => okv_tr tr B (kk hb)⟩
    hid := fun a q => R.hid a (k a q) }

theorem Rel.tr_hide (R : Rel W H' sc env vm st h) (k : ∀ a, H a → H' a) : Tr (Ok H' sc env vm st) h (Ok H sc env vm st) h := fun a o q e => ⟨⟨q.1, fun r => q.2 (k a r)⟩, e⟩

/-- a name's top object becomes common -/
theorem Rel.unown (R : Rel W H sc env vm st h) {i : Nat} {t : T} {b : Bool} (e : st.get i = some (t, b)) : Rel W H sc env vm (st.set i t false) h ∧
    (∀ a, Pv sc env vm (st.set i t false) a → Pv sc env vm st a) ∧ ∃ v, vm i = some v ∧ Rep W (Ok H sc env vm (st.set i t false)) h t v := by
  have pv : ∀ a, Pv sc env vm (st.set i t false) a → Pv sc env vm st a := by
    rintro a (p | p | ⟨j, u, q, r⟩)
    · exact .inl p
    · exact .inr (.inl p)
    · rw [St.get_set] at q
      split at q
      · first | exact nomatch q | cases q
      · exact .inr (.inr ⟨j, u, q, r⟩)
  have tr : Tr (Ok H sc env vm st) h (Ok H sc env vm (st.set i t false)) h := fun a o k e => ⟨⟨fun p => k.1 (pv a p), k.2⟩, e⟩
  have me : ∃ v, vm i = some v ∧ Rep W (Ok H sc env vm (st.set i t false)) h t v := by
    obtain ⟨v, q, B, k⟩ := R.vals i t b e
    refine ⟨v, q, body_tr tr B fun a o _ _ e => e, ?_⟩
    cases b with
    | false => exact okv_tr tr B (k rfl)
    | true =>
      obtain ⟨a, qa, n, hf, nc⟩ := R.own i t e
      refine okv_of fun a' ea => ?_
      rw [q] at qa; cases qa; cases ea
      refine ⟨?_, fun hh => (R.hid a hh).2 (.inr (.inr ⟨i, t, e, q⟩))⟩
      rintro (p | ⟨x, hx, hc⟩ | ⟨j, u, q1, q2⟩)
      · exact n p
      · obtain ⟨c, o, e1, e2⟩ := R.cl x (.inl hx)
        rw [hc] at e1; cases e1
        exact nc o e2
      · rw [St.get_set] at q1
        split at q1
        · first | exact nomatch q1 | cases q1
        · rename_i hne
          exact hne (R.one i j a t u e q1 q q2)
  refine ⟨?_, pv, me⟩
  refine { R with vals := ?_, own := ?_, one := ?_, priv := fun a p => R.priv a (pv a p), hid := fun a k => ⟨(R.hid a k).1, fun p => (R.hid a k).2 (pv a p)⟩ }
  · intro j u c q
    rw [St.get_set] at q
    split at q
    · rename_i hj
      subst hj
      cases q
      obtain ⟨v, q, r⟩ := me
      exact ⟨v, q, r.1, fun _ => r.2⟩
    · obtain ⟨v, q', B, k⟩ := R.vals j u c q
      exact ⟨v, q', body_tr tr B fun a o _ _ e => e, fun hb => okv_tr tr B (k hb)⟩
  · intro j u q
    rw [St.get_set] at q
    split at q
    · first | exact nomatch q | cases q
    · exact R.own j u q
  · intro j k a u u' q1 q2
    rw [St.get_set] at q1 q2
    split at q1
    · first | exact nomatch q1 | cases q1
    · split at q2
      · first | exact nomatch q2 | cases q2
      · exact R.one j k a u u' q1 q2
end
end MP
end

section -- MpPost
open PySem PySem.W PyProof.Rows
namespace MP

structure Alike (s s' : Shared) : Prop where
  gens : s'.gens = s.gens
  os : s'.os = s.os
theorem Alike.refl {s : Shared} : Alike s s := ⟨rfl, rfl⟩
theorem Alike.trans {s s₁ s₂ : Shared} (x : Alike s s₁) (y : Alike s₁ s₂) : Alike s s₂ := ⟨y.gens.trans x.gens, y.os.trans x.os⟩

section
variable {W : Wd} {H H' : Addr → Prop} {sc : List (Str × NameKind)} {env : Env} {vm : Nat → Option Value} {st st' st₁ : St} {h h' : Heap}

/-- an operand stands for a value -/
noncomputable def OpAt (W : Wd) (H : Addr → Prop) (sc : List (Str × NameKind)) (env : Env) (vm : Nat → Option Value) (st : St) (h : Heap) : Op → Value → Prop
  | .val t, v => Rep W (Ok H sc env vm st) h t v
  | .var i, v => vm i = some v ∧ ∃ x, st.get i = some x
  | .new _, _ => False

noncomputable def OpRel (W : Wd) (H : Addr → Prop) (sc : List (Str × NameKind)) (env : Env) (vm : Nat → Option Value) (st : St) (h : Heap) : Op → Value → Prop
  | .new t, v => ∃ a, v = .ref a ∧ (∀ g, t ≠ .fn g) ∧ (∀ c, ¬ h.IsCell a c) ∧ ¬ H a ∧ W.hb.get? a = none ∧ Rel W (fun b => H b ∨ b = a) sc env vm st h ∧ Body W (Ok (fun b => H b ∨ b = a) sc env vm st) h t v
  | o, v => Rel W H sc env vm st h ∧ OpAt W H sc env vm st h o v

noncomputable def Dom (st st' : St) : Prop := ∀ i x, st.get i = some x → ∃ y, st'.get i = some y
theorem Dom.refl : Dom st st := fun _ x e => ⟨x, e⟩
theorem Dom.trans (x : Dom st st₁) (y : Dom st₁ st') : Dom st st' := fun i a e => let ⟨b, q⟩ := x i a e; y i b q
theorem Dom.set (i : Nat) (t : T) (b : Bool) : Dom st (st.set i t b) := fun j x e => by
  rw [St.get_set]
  split
  · exact ⟨_, rfl⟩
  · exact ⟨x, e⟩

structure PostE (W : Wd) (H : Addr → Prop) (sc : List (Str × NameKind)) (env : Env) (vm : Nat → Option Value) (st : St) (s : Shared) (op : Op) (st' : St) (v : Value) (s' : Shared) : Prop where
  rel : OpRel W H sc env vm st' s'.heap op v
  stp : Stp (Pv sc env vm st) s.heap (Pv sc env vm st') s'.heap
  alike : Alike s s'
  toks : 1 ≤ s'.toks
  dom : Dom st st'
  new : ∀ t a, op = .new t → v = .ref a → Pv sc env vm st a ∨ s.heap.get? a = none

theorem OpRel.low {op : Op} {v : Value} (x : OpRel W H sc env vm st h op v) : Rel W H sc env vm st h ∧ OpAt W H sc env vm st h op.low v := by
  cases op with
  | val t => exact x
  | var i => exact x
  | new t =>
    obtain ⟨a, rfl, hf, _, nh, _, R, B⟩ := x
    have tr := R.tr_hide (H := H) fun a k => .inl k
    refine ⟨R.unhide fun a k => .inl k, body_tr tr B fun a o _ _ e => e, okv_of fun a' e => ?_⟩
    cases e
    exact ⟨(R.hid a (.inr rfl)).2, nh⟩

theorem OpAt.step {op : Op} {v : Value} (x : OpAt W H sc env vm st h op v) (q : Stp (Pv sc env vm st) h (Pv sc env vm st') h') (d : Dom st st') : OpAt W H sc env vm st' h' op v := by
  cases op with
  | val t => exact rep_tr (q.tr H) x
  | var i => exact ⟨x.1, let ⟨y, e⟩ := x.2; d i y e⟩
  | new t => exact x

theorem peek_low (st : St) (op : Op) : peek st op.low = peek st op := by cases op <;> rfl
theorem esc_low (st : St) (op : Op) : esc st op.low = esc st op := by cases op <;> rfl

theorem peek_ok (R : Rel W H sc env vm st h) {op : Op} {v : Value} {t : T} (x : OpAt W H sc env vm st h op v) (e : peek st op = some t) : Body W (Ok H sc env vm st) h t v := by
  cases op with
  | val u => cases e; exact x.1
  | new u => exact x.elim
  | var i =>
    obtain ⟨hv, ⟨u, b⟩, he⟩ := x
    simp only [peek, he, ob_some] at e
    cases e
    obtain ⟨v', q, B, _⟩ := R.vals i t b he
    rw [hv] at q; cases q
    exact B

theorem esc_ok (R : Rel W H sc env vm st h) {op : Op} {v : Value} {t : T} (x : OpAt W H sc env vm st h op v) (e : esc st op = some (t, st')) :
    Rel W H sc env vm st' h ∧ Stp (Pv sc env vm st) h (Pv sc env vm st') h ∧ Dom st st' ∧ Rep W (Ok H sc env vm st') h t v := by
  cases op with
  | val u => cases e; exact ⟨R, .refl, .refl, x⟩
  | new u => exact x.elim
  | var i =>
    obtain ⟨hv, ⟨u, b⟩, he⟩ := x
    simp only [esc, he, ob_some] at e
    cases b with
    | true =>
      cases e
      obtain ⟨R', pv, v', q, r⟩ := R.unown he
      rw [hv] at q; cases q
      exact ⟨R', Grown.refl.stp pv, .set _ _ _, r⟩
    | false =>
      cases e
      obtain ⟨v', q, B, k⟩ := R.vals i t false he
      rw [hv] at q; cases q
      exact ⟨R, .refl, .refl, B, k rfl⟩

inductive OpsAt (W : Wd) (H : Addr → Prop) (sc : List (Str × NameKind)) (env : Env) (vm : Nat → Option Value) (st : St) (h : Heap) : List Op → List Value → Prop
  | nil : OpsAt W H sc env vm st h [] []
  | cons {o v os vs} : OpAt W H sc env vm st h o v → OpsAt W H sc env vm st h os vs → OpsAt W H sc env vm st h (o :: os) (v :: vs)

theorem OpsAt.step {ops : List Op} {vs : List Value} (x : OpsAt W H sc env vm st h ops vs) (q : Stp (Pv sc env vm st) h (Pv sc env vm st') h') (d : Dom st st') : OpsAt W H sc env vm st' h' ops vs := by
  induction x with
  | nil => exact .nil
  | cons a _ ih => exact .cons (a.step q d) ih

inductive Bodies (W : Wd) (ok : Addr → Prop) (h : Heap) : List T → List Value → Prop
  | nil : Bodies W ok h [] []
  | cons {t v ts vs} : Body W ok h t v → Bodies W ok h ts vs → Bodies W ok h (t :: ts) (v :: vs)

theorem peeks_ok (R : Rel W H sc env vm st h) : ∀ {ops : List Op} {vs : List Value} {ts : List T}, OpsAt W H sc env vm st h ops vs → peeks st ops = some ts → Bodies W (Ok H sc env vm st) h ts vs
  | [], _, _, .nil, e => by cases e; exact .nil
  | o :: r, _, _, .cons a b, e => oe e fun t h1 e => oe e fun ts h2 e => by
    cases e
    exact .cons (peek_ok R a h1) (peeks_ok R b h2)

theorem escs_ok : ∀ {ops : List Op} {vs : List Value} {ts : List T} {st : St}, Rel W H sc env vm st h → OpsAt W H sc env vm st h ops vs → escs st ops = some (ts, st') →
    Rel W H sc env vm st' h ∧ Stp (Pv sc env vm st) h (Pv sc env vm st') h ∧ Dom st st' ∧ Reps W (Ok H sc env vm st') h ts vs
  | [], _, _, st, R, .nil, e => by cases e; exact ⟨R, .refl, .refl, by simp [Reps]⟩
  | o :: r, _, _, st, R, .cons a b, e => be e fun t st₁ h1 e => be e fun ts st₂ h2 e => by
    cases e
    obtain ⟨R₁, q₁, d₁, r₁⟩ := esc_ok R a h1
    obtain ⟨R₂, q₂, d₂, r₂⟩ := escs_ok R₁ (b.step q₁ d₁) h2
    exact ⟨R₂, q₁.trans q₂, d₁.trans d₂, _, _, rfl, rep_tr (q₂.tr H) r₁, r₂⟩

/-- what an operation on values gives -/
noncomputable def Res (W : Wd) (L : Addr) (ok : Addr → Prop) (s : Shared) (nw : Bool) (t : T) (v : Value) (s' : Shared) : Prop :=
  GrownL L s.heap s'.heap ∧ Alike s s' ∧ match nw with
    | false => Rep W ok s'.heap t v
    | true => ∃ a, v = .ref a ∧ (∀ g, t ≠ .fn g) ∧ (∀ c, ¬ s'.heap.IsCell a c) ∧ s.heap.get? a = none ∧ Body W (fun b => ok b ∧ b ≠ a) s'.heap t v

theorem Res.post {s s' : Shared} {nw : Bool} {t : T} {v : Value} (R : Rel W H sc env vm st s.heap) (x : Res W env.locals (Ok H sc env vm st) s nw t v s') (tk : 1 ≤ s'.toks) : PostE W H sc env vm st s (mkOp t nw) st v s' := by
  obtain ⟨g, al, r⟩ := x
  cases nw with
  | false => exact ⟨⟨R.growL g fun a k => .inl k, r⟩, g.stp (.inl rfl) fun _ p => p, al, tk, .refl, fun _ _ q => by cases q⟩
  | true =>
    obtain ⟨a, rfl, hf, nc, h1, B⟩ := r
    have nH : ¬ H a := fun k => by obtain ⟨⟨o, e⟩, _⟩ := R.hid a k; rw [h1] at e; cases e
    have nb : W.hb.get? a = none := by
      cases e : W.hb.get? a with
      | none => rfl
      | some o => have := R.base a o e; rw [h1] at this; cases this
    refine ⟨⟨a, rfl, hf, nc, nH, nb, R.growL g fun b k => k.imp id fun e => by subst e; exact ⟨h1, body_get B hf⟩, ?_⟩, g.stp (.inl rfl) fun _ p => p, al, tk, .refl, fun _ _ _ q => by cases q; exact .inr h1⟩
    exact body_tr (fun b o k e => ⟨⟨k.1.1, fun q => q.elim k.1.2 k.2⟩, e⟩) B fun b o _ _ e => e

theorem Grown.trNew {ok : Addr → Prop} {a : Addr} (g : Grown h h') (ha : h.get? a = none) : Tr ok h (fun b => ok b ∧ b ≠ a) h' :=
  fun b o k e => ⟨⟨k, fun q => by subst q; rw [ha] at e; cases e⟩, g.keep b o e⟩
theorem Grown.tr {ok : Addr → Prop} (g : Grown h h') : Tr ok h ok h' := fun b o k e => ⟨k, g.keep b o e⟩
theorem GrownL.trNew {ok : Addr → Prop} {L a : Addr} (g : GrownL L h h') (hL : ¬ ok L) (ha : h.get? a = none) : Tr ok h (fun b => ok b ∧ b ≠ a) h' :=
  fun b o k e => ⟨⟨k, fun q => by subst q; rw [ha] at e; cases e⟩, g.keep b o (fun q => hL (q ▸ k)) e⟩
theorem GrownL.tr {ok : Addr → Prop} {L : Addr} (g : GrownL L h h') (hL : ¬ ok L) : Tr ok h ok h' := fun b o k e => ⟨k, g.keep b o (fun q => hL (q ▸ k)) e⟩

/-- the frame's own list or dict is changed -/
theorem Rel.mutate (R : Rel W H sc env vm st h) {i : Nat} {t t' : T} {a : Addr} (e : st.get i = some (t, true)) (hv : vm i = some (.ref a)) (hs : Heap.SameBut a h h') (hf : ∀ g, t' ≠ .fn g)
    (hn : ∀ c, ¬ h'.IsCell a c) (B : Body W (Ok H sc env vm st) h' t' (.ref a)) :
    Rel W H sc env vm (st.set i t' true) h' ∧ Stp (Pv sc env vm st) h (Pv sc env vm (st.set i t' true)) h' ∧ (∀ b, Pv sc env vm (st.set i t' true) b ↔ Pv sc env vm st b) := by
  have pa : Pv sc env vm st a := .inr (.inr ⟨i, t, e, hv⟩)
  have pv : ∀ b, Pv sc env vm (st.set i t' true) b ↔ Pv sc env vm st b := by
    intro b
    constructor
    · rintro (p | p | ⟨j, u, q, r⟩)
      · exact .inl p
      · exact .inr (.inl p)
      · rw [St.get_set] at q
        split at q
        · rename_i hj; subst hj; rw [hv] at r; cases r; exact pa
        · exact .inr (.inr ⟨j, u, q, r⟩)
    · rintro (p | p | ⟨j, u, q, r⟩)
      · exact .inl p
      · exact .inr (.inl p)
      · by_cases hj : i = j
        · subst hj
          exact .inr (.inr ⟨i, t', by rw [St.get_set, if_pos rfl], r⟩)
        · exact .inr (.inr ⟨j, u, by rw [St.get_set, if_neg hj]; exact q, r⟩)
  obtain ⟨a', qa, hnl, _, hnc⟩ := R.own i t e
  rw [hv] at qa; cases qa
  have keep : ∀ b o, b ≠ a → h.get? b = some o → h'.get? b = some o := fun b o n q => (hs.2 b n).trans q
  have tr : Tr (Ok H sc env vm st) h (Ok H sc env vm (st.set i t' true)) h' := fun b o k q =>
    ⟨⟨fun p => k.1 ((pv b).1 p), k.2⟩, keep b o (fun ea => k.1 (ea ▸ pa)) q⟩
  have trB : Tr (Ok H sc env vm st) h' (Ok H sc env vm (st.set i t' true)) h' := fun b o k q => ⟨⟨fun p => k.1 ((pv b).1 p), k.2⟩, q⟩
  have ncell : ∀ c, ¬ h.IsCell a c := hnc
  refine ⟨?_, ⟨fun b o n q => keep b o (fun ea => n (ea ▸ pa)) q, fun b p => .inl ((pv b).1 p)⟩, pv⟩
  refine ⟨fun b o q => keep b o (fun ea => ?_) (R.base b o q), R.kind, R.glob, R.blt, R.kl, R.kc, R.kf, R.kg, ?_, ?_, ?_, R.apart, ?_, ?_, ?_, fun b p => R.priv b ((pv b).1 p), fun b k => ⟨?_, fun p => (R.hid b k).2 ((pv b).1 p)⟩⟩
  rotate_right
  · obtain ⟨⟨o, e⟩, n⟩ := R.hid b k
    exact ⟨o, keep b o (fun ea => n (ea ▸ pa)) e⟩
  · subst ea
    have := R.priv b pa
    rw [this] at q; cases q
  · obtain ⟨m, n, q⟩ := R.ns
    exact ⟨m, n.sameBut hs (Ne.symm hnl), q⟩
  · intro x hx
    obtain ⟨c, o, q, r⟩ := R.cl x hx
    exact ⟨c, o, q, r.sameBut hs (fun ea => ncell o (ea ▸ r))⟩
  · intro j v c q k l
    have r := R.cv j v c q k l
    exact r.sameBut hs (fun ea => ncell _ (ea ▸ r))
  · intro j u b q
    rw [St.get_set] at q
    split at q
    · rename_i hj
      subst hj
      cases q
      exact ⟨_, hv, body_tr trB B fun _ _ _ _ q => q, fun hb => by cases hb⟩
    · rename_i hj
      obtain ⟨v, qv, Bj, k⟩ := R.vals j u b q
      refine ⟨v, qv, body_tr tr Bj fun b' o eb hfu q' => keep b' o (fun ea => ?_) q', fun hb => okv_tr tr Bj (k hb)⟩
      subst eb ea
      cases b with
      | false => exact (okv_at (k rfl) hfu).1 pa
      | true => exact hj (R.one i j b' t u e q hv qv)
  · intro j u q
    rw [St.get_set] at q
    split at q
    · rename_i hj
      subst hj
      cases q
      exact ⟨a, hv, hnl, hf, hn⟩
    · rename_i hj
      obtain ⟨b, qb, n1, hfu, n2⟩ := R.own j u q
      refine ⟨b, qb, n1, hfu, fun v ⟨o, r1, r2⟩ => ?_⟩
      by_cases ea : b = a
      · subst ea; exact hn v ⟨o, r1, r2⟩
      · exact n2 v ⟨o, (hs.2 b ea) ▸ r1, r2⟩
  · intro j k b u u' q1 q2 r1 r2
    have own : ∀ j u, (st.set i t' true).get j = some (u, true) → ∃ u', st.get j = some (u', true) := fun j u q => by
      rw [St.get_set] at q
      split at q
      · rename_i hj; subst hj; exact ⟨t, e⟩
      · exact ⟨u, q⟩
    obtain ⟨w1, x1⟩ := own j u q1
    obtain ⟨w2, x2⟩ := own k u' q2
    exact R.one j k b w1 w2 x1 x2 r1 r2

/-- a name is bound -/
noncomputable def vset (vm : Nat → Option Value) (i : Nat) (v : Value) : Nat → Option Value := fun j => if i = j then some v else vm j

theorem Rel.bound {i : Nat} {t : T} {b : Bool} {v : Value} {Hx : Addr → Prop} (R : Rel W Hx sc env vm st h) (hH : ∀ a, H a → Hx a)
    (hB : Body W (Ok Hx sc env vm st) h t v)
    (hk : b = false → Okv (Ok Hx sc env vm st) t v)
    (ho : b = true → ∃ a, v = .ref a ∧ Hx a ∧ ¬ H a ∧ (∀ g, t ≠ .fn g) ∧ (∀ c, ¬ h.IsCell a c) ∧ W.hb.get? a = none)
    (hs : (∃ (c : Addr), env.cells.lookup (W.nm i) = some c ∧ sc.lookup (W.nm i) = some .cell ∧ h'.IsCell c (some v) ∧ Heap.SameBut c h h') ∨
      (sc.lookup (W.nm i) = some .local ∧ Heap.SameBut env.locals h h' ∧ ∀ m, h.Ns env.locals m → h'.Ns env.locals (fun x => if x = W.nm i then some v else m x))) :
    Rel W H sc env (vset vm i v) (st.set i t b) h' ∧ ∀ P₀ h₀, Stp P₀ h₀ (Pv sc env vm st) h → (b = true → ∀ a, v = .ref a → P₀ a ∨ h₀.get? a = none) → Stp P₀ h₀ (Pv sc env (vset vm i v) (st.set i t b)) h' := by
  have pv : ∀ a, Pv sc env (vset vm i v) (st.set i t b) a → Pv sc env vm st a ∨ (b = true ∧ v = .ref a) := by
    rintro a (p | p | ⟨j, u, q, r⟩)
    · exact .inl (.inl p)
    · exact .inl (.inr (.inl p))
    · rw [St.get_set] at q
      unfold vset at r
      by_cases hj : i = j
      · rw [if_pos hj] at q r
        cases q; cases r
        exact .inr ⟨rfl, rfl⟩
      · rw [if_neg hj] at q r
        exact .inl (.inr (.inr ⟨j, u, q, r⟩))
  -- the place that is written
  obtain ⟨z, zpv, zsb, zk⟩ : ∃ z, Pv sc env vm st z ∧ Heap.SameBut z h h' ∧ ∀ a, a ≠ env.locals → (∀ o, ¬ h.IsCell a o) → a ≠ z := by
    rcases hs with ⟨c, h1, h2, _, h4⟩ | ⟨_, h2, _⟩
    · refine ⟨c, .inr (.inl ⟨_, h2, h1⟩), h4, fun a _ n ea => ?_⟩
      obtain ⟨c', o, e1, e2⟩ := R.cl _ (.inl h2)
      rw [h1] at e1; cases e1
      exact n o (ea ▸ e2)
    · exact ⟨_, .inl rfl, h2, fun a n _ => n⟩
  have keep : ∀ a o, a ≠ z → h.get? a = some o → h'.get? a = some o := fun a o n q => (zsb.2 a n).trans q
  have keepN : ∀ a o, ¬ Pv sc env vm st a → h.get? a = some o → h'.get? a = some o := fun a o n q => keep a o (fun ea => n (ea ▸ zpv)) q
  have back : ∀ a o, a ≠ z → h'.get? a = some o → h.get? a = some o := fun a o n q => (zsb.2 a n).symm.trans q
  have zown : ∀ j u a, st.get j = some (u, true) → vm j = some (.ref a) → a ≠ z := by
    intro j u a q r
    obtain ⟨a', qa, n1, _, n2⟩ := R.own j u q
    rw [r] at qa; cases qa
    exact zk a n1 n2
  have tr : Tr (Ok Hx sc env vm st) h (Ok H sc env (vset vm i v) (st.set i t b)) h' := fun a o k q => by
    refine ⟨⟨fun p => ?_, fun q => k.2 (hH a q)⟩, keepN a o k.1 q⟩
    rcases pv a p with q | ⟨hb, hv⟩
    · exact k.1 q
    · obtain ⟨a', e, n, _⟩ := ho hb
      rw [hv] at e; cases e
      exact k.2 n
  have newAt : b = true → ∃ a o, v = .ref a ∧ ¬ Pv sc env vm st a ∧ (∀ g, t ≠ .fn g) ∧ (∀ c, ¬ h.IsCell a c) ∧ W.hb.get? a = none ∧ ¬ H a ∧ h.get? a = some o := fun hb => by
    obtain ⟨a, e, n, nh, hf, nc, hbig⟩ := ho hb
    subst e
    obtain ⟨o, q⟩ := body_get hB hf
    exact ⟨a, o, rfl, (R.hid a n).2, hf, nc, hbig, nh, q⟩
  have locs : ∀ c o, h.IsCell c o → c ≠ env.locals := fun c o hc e => by
    subst e
    obtain ⟨m, ⟨o1, es, ep, e1, e2, _⟩, _⟩ := R.ns
    obtain ⟨o2, e3, e4⟩ := hc
    rw [e1] at e3; cases e3
    rw [e2] at e4; cases e4
  refine ⟨?_, fun P₀ h₀ x hb => ⟨fun a o n q => ?_, fun a p => ?_⟩⟩
  rotate_left
  · have y := x.keep a o n q
    by_cases k : Pv sc env vm st a
    · rcases x.priv a k with r | r
      · exact absurd r n
      · rw [r] at q; cases q
    · exact keepN a o k y
  · rcases pv a p with q | ⟨q, r⟩
    · exact x.priv a q
    · exact hb q a r
  refine ⟨fun c o q => keep c o (fun ec => ?_) (R.base c o q), R.kind, R.glob, R.blt, R.kl, R.kc, R.kf, R.kg, ?_, ?_, ?_, R.apart, ?_, ?_, ?_, ?_, ?_⟩
  · subst ec
    have := R.priv c zpv
    rw [this] at q; cases q
  · obtain ⟨m, n, q⟩ := R.ns
    rcases hs with ⟨c, h1, h2, _, h4⟩ | ⟨h1, h2, h3⟩
    · obtain ⟨c', o, e1, e2⟩ := R.cl _ (.inl h2)
      rw [h1] at e1; cases e1
      refine ⟨m, n.sameBut h4 (Ne.symm (locs c o e2)), fun j w r l => ?_⟩
      unfold vset at r
      by_cases hj : i = j
      · subst hj; rw [h2] at l; cases l
      · rw [if_neg hj] at r; exact q j w r l
    · refine ⟨_, h3 m n, fun j w r l => ?_⟩
      unfold vset at r
      by_cases hj : i = j
      · subst hj; rw [if_pos rfl] at r; simpa using r
      · rw [if_neg hj] at r
        rw [if_neg fun e => hj (W.inj _ _ e).symm]
        exact q j w r l
  · intro x hx
    obtain ⟨c, o, e, q⟩ := R.cl x hx
    rcases hs with ⟨c', h1, h2, h3, h4⟩ | ⟨h1, h2, h3⟩
    · by_cases ec : c = c'
      · subst ec; exact ⟨c, _, e, h3⟩
      · exact ⟨c, o, e, q.sameBut h4 ec⟩
    · exact ⟨c, o, e, q.sameBut h2 (locs c o q)⟩
  · intro j w c q k l
    unfold vset at q
    by_cases hj : i = j
    · subst hj
      rw [if_pos rfl] at q
      cases q
      rcases hs with ⟨c', h1, h2, h3, h4⟩ | ⟨h1, h2, h3⟩
      · rw [h1] at l; cases l; exact h3
      · rcases k with k | k <;> (rw [h1] at k; cases k)
    · rw [if_neg hj] at q
      have r := R.cv j w c q k l
      rcases hs with ⟨c', h1, h2, h3, h4⟩ | ⟨h1, h2, h3⟩
      · refine r.sameBut h4 fun ec => ?_
        subst ec
        exact hj (W.inj _ _ (R.apart _ _ c h2 k h1 l))
      · exact r.sameBut h2 (locs c _ r)
  · intro j u c q
    rw [St.get_set] at q
    unfold vset
    by_cases hj : i = j
    · rw [if_pos hj] at q
      cases q
      refine ⟨v, if_pos hj, body_tr tr hB fun a o ea hf g => ?_, fun hb => okv_tr tr hB (hk hb)⟩
      subst ea
      cases b with
      | false => exact keepN a o (okv_at (hk rfl) hf).1 g
      | true =>
        obtain ⟨a', o', e, n, _⟩ := newAt rfl
        cases e
        exact keepN a o n g
    · rw [if_neg hj] at q
      obtain ⟨w, qw, B, k⟩ := R.vals j u c q
      refine ⟨w, by rw [if_neg hj]; exact qw, body_tr tr B fun a o ea hf g => ?_, fun hb => okv_tr tr B (k hb)⟩
      subst ea
      cases c with
      | false => exact keepN a o (okv_at (k rfl) hf).1 g
      | true => exact keep a o (zown j u a q qw) g
  · intro j u q
    rw [St.get_set] at q
    unfold vset
    by_cases hj : i = j
    · rw [if_pos hj] at q
      cases q
      obtain ⟨a, o, e, n, hf, nc, _, _, g⟩ := newAt rfl
      subst e
      refine ⟨a, if_pos hj, fun ea => n (.inl ea), hf, fun w ⟨o', r1, r2⟩ => nc w ⟨o', back a o' (fun ea => n (ea ▸ zpv)) r1, r2⟩⟩
    · rw [if_neg hj] at q
      obtain ⟨a, qa, n1, hf, n2⟩ := R.own j u q
      refine ⟨a, by rw [if_neg hj]; exact qa, n1, hf, fun w ⟨o', r1, r2⟩ => n2 w ⟨o', back a o' (zk a n1 n2) r1, r2⟩⟩
  · intro j k a u u' q1 q2 r1 r2
    rw [St.get_set] at q1 q2
    unfold vset at r1 r2
    by_cases hj : i = j
    · rw [if_pos hj] at q1 r1
      by_cases hk' : i = k
      · exact hj.symm.trans hk'
      · rw [if_neg hk'] at q2 r2
        cases q1; cases r1
        obtain ⟨a', o, e, n, _⟩ := newAt rfl
        cases e
        exact absurd (.inr (.inr ⟨k, u', q2, r2⟩)) n
    · rw [if_neg hj] at q1 r1
      by_cases hk' : i = k
      · rw [if_pos hk'] at q2 r2
        cases q2; cases r2
        obtain ⟨a', o, e, n, _⟩ := newAt rfl
        cases e
        exact absurd (.inr (.inr ⟨j, u, q1, r1⟩)) n
      · rw [if_neg hk'] at q2 r2
        exact R.one j k a u u' q1 q2 r1 r2
  · intro a p
    rcases pv a p with q | ⟨hb, hv⟩
    · exact R.priv a q
    · obtain ⟨a', o, e, _, _, _, hbig, _⟩ := newAt hb
      rw [hv] at e; cases e
      exact hbig
  · intro a k
    obtain ⟨⟨o', e'⟩, n'⟩ := R.hid a (hH a k)
    refine ⟨⟨o', keepN a o' n' e'⟩, fun p => ?_⟩
    rcases pv a p with q | ⟨hb, hv⟩
    · exact (R.hid a (hH a k)).2 q
    · obtain ⟨a', o, e, _, _, _, _, nh, _⟩ := newAt hb
      rw [hv] at e; cases e
      exact nh k
end
end MP
end

section -- MpProg
open PySem
namespace MP
/-- the names, by their numbers -/
noncomputable def nmTab : List String := ["_strcoll", "_ellipsis_match", "_escape_cdata", "_escape_attrib", "_escape_attrib_html", "_escape_cdata_c14n", "_escape_attrib_c14n", "_law_cells", "_law_spelled", "_law_ways", "_law_lines", "_law_fillings", "_law_has_four", "_law_gives_way", "_law_count", "_law_by_names", "law", "ELLIPSIS_MARKER", "a", "b", "want", "got", "w", "ws", "startpos", "endpos", "text", "script", "cells", "k", "sign", "which", "place", "row", "told", "turn", "ways", "after", "line", "moved", "order", "count", "behind", "y", "lines", "product", "hooks", "j", "boxes", "i", "m", "fours", "others", "far", "between", "low", "left", "one", "names", "page", "taken", "refused", "tail", "head", "other", "columns", "threes", "c", "ranked", "four", "name", "x", "every", "escape", "signs", "strange"]
noncomputable abbrev g_strcoll : Nat := 0
noncomputable abbrev g_ellipsis_match : Nat := 1
noncomputable abbrev g_escape_cdata : Nat := 2
noncomputable abbrev g_escape_attrib : Nat := 3
noncomputable abbrev g_escape_attrib_html : Nat := 4
noncomputable abbrev g_escape_cdata_c14n : Nat := 5
noncomputable abbrev g_escape_attrib_c14n : Nat := 6
noncomputable abbrev g_law_cells : Nat := 7
noncomputable abbrev g_law_spelled : Nat := 8
noncomputable abbrev g_law_ways : Nat := 9
noncomputable abbrev g_law_lines : Nat := 10
noncomputable abbrev g_law_fillings : Nat := 11
noncomputable abbrev g_law_has_four : Nat := 12
noncomputable abbrev g_law_gives_way : Nat := 13
noncomputable abbrev g_law_count : Nat := 14
noncomputable abbrev g_law_by_names : Nat := 15
noncomputable abbrev g_law : Nat := 16
noncomputable abbrev g_ELLIPSIS_MARKER : Nat := 17
noncomputable def b_strcoll : Ss := (.cons 
  (.ret (.bin .Sub (.cmp (.var 18) (.one .Gt (.var 19))) (.cmp (.var 18) (.one .Lt (.var 19))))) .nil)
noncomputable def p_strcoll : List Nat := [18, 19]
noncomputable def b_ellipsis_match : Ss := (.cons 
  (.iff (.cmp (.glob 17) (.one .NotIn (.var 20))) (.cons (.ret (.cmp (.var 20) (.one .Eq (.var 21)))) .nil) .nil) (.cons 
  (.assign 23 (.meth .split (.var 20) (.cons (.glob 17) .nil))) (.cons 
  (.asrt (.cmp (.bi .len (.cons (.var 23) .nil)) (.one .GtE (.int 2)))) (.cons 
  (.assignTup [24, 25] (.cons (.int 0) (.cons (.bi .len (.cons (.var 21) .nil)) .nil))) (.cons 
  (.assign 22 (.sub (.var 23) (.int 0))) (.cons 
  (.iff (.var 22) (.cons (.iff (.meth .startswith (.var 21) (.cons (.var 22) .nil)) (.cons (.assign 24 (.bi .len (.cons (.var 22) .nil))) (.cons (.del 23 (.int 0)) .nil)) (.cons (.ret (.bool false)) .nil)) .nil) .nil) (.cons 
  (.assign 22 (.sub (.var 23) (.neg 1))) (.cons 
  (.iff (.var 22) (.cons (.iff (.meth .endswith (.var 21) (.cons (.var 22) .nil)) (.cons (.aug 25 .Sub (.bi .len (.cons (.var 22) .nil))) (.cons (.del 23 (.neg 1)) .nil)) (.cons (.ret (.bool false)) .nil)) .nil) .nil) (.cons 
  (.iff (.cmp (.var 24) (.one .Gt (.var 25))) (.cons (.ret (.bool false)) .nil) .nil) (.cons 
  (.for 22 (.var 23) (.cons (.assign 24 (.meth .find (.var 21) (.cons (.var 22) (.cons (.var 24) (.cons (.var 25) .nil))))) (.cons (.iff (.cmp (.var 24) (.one .Lt (.int 0))) (.cons (.ret (.bool false)) .nil) .nil) (.cons (.aug 24 .Add (.bi .len (.cons (.var 22) .nil))) .nil)))) (.cons 
  (.ret (.bool true)) .nil)))))))))))
noncomputable def p_ellipsis_match : List Nat := [20, 21]
noncomputable def b_escape_cdata : Ss := (.cons 
  (.tri (.cons (.iff (.cmp (.str [38]) (.one .In (.var 26))) (.cons (.assign 26 (.repl (.var 26) 38 [38, 97, 109, 112, 59])) .nil) .nil) (.cons (.iff (.cmp (.str [60]) (.one .In (.var 26))) (.cons (.assign 26 (.repl (.var 26) 60 [38, 108, 116, 59])) .nil) .nil) (.cons (.iff (.cmp (.str [62]) (.one .In (.var 26))) (.cons (.assign 26 (.repl (.var 26) 62 [38, 103, 116, 59])) .nil) .nil) (.cons (.ret (.var 26)) .nil))))) .nil)
noncomputable def p_escape_cdata : List Nat := [26]
noncomputable def b_escape_attrib : Ss := (.cons 
  (.tri (.cons (.iff (.cmp (.str [38]) (.one .In (.var 26))) (.cons (.assign 26 (.repl (.var 26) 38 [38, 97, 109, 112, 59])) .nil) .nil) (.cons (.iff (.cmp (.str [60]) (.one .In (.var 26))) (.cons (.assign 26 (.repl (.var 26) 60 [38, 108, 116, 59])) .nil) .nil) (.cons (.iff (.cmp (.str [62]) (.one .In (.var 26))) (.cons (.assign 26 (.repl (.var 26) 62 [38, 103, 116, 59])) .nil) .nil) (.cons (.iff (.cmp (.str [34]) (.one .In (.var 26))) (.cons (.assign 26 (.repl (.var 26) 34 [38, 113, 117, 111, 116, 59])) .nil) .nil) (.cons (.iff (.cmp (.str [13]) (.one .In (.var 26))) (.cons (.assign 26 (.repl (.var 26) 13 [38, 35, 49, 51, 59])) .nil) .nil) (.cons (.iff (.cmp (.str [10]) (.one .In (.var 26))) (.cons (.assign 26 (.repl (.var 26) 10 [38, 35, 49, 48, 59])) .nil) .nil) (.cons (.iff (.cmp (.str [9]) (.one .In (.var 26))) (.cons (.assign 26 (.repl (.var 26) 9 [38, 35, 48, 57, 59])) .nil) .nil) (.cons (.ret (.var 26)) .nil))))))))) .nil)
noncomputable def p_escape_attrib : List Nat := [26]
noncomputable def b_escape_attrib_html : Ss := (.cons 
  (.tri (.cons (.iff (.cmp (.str [38]) (.one .In (.var 26))) (.cons (.assign 26 (.repl (.var 26) 38 [38, 97, 109, 112, 59])) .nil) .nil) (.cons (.iff (.cmp (.str [62]) (.one .In (.var 26))) (.cons (.assign 26 (.repl (.var 26) 62 [38, 103, 116, 59])) .nil) .nil) (.cons (.iff (.cmp (.str [34]) (.one .In (.var 26))) (.cons (.assign 26 (.repl (.var 26) 34 [38, 113, 117, 111, 116, 59])) .nil) .nil) (.cons (.ret (.var 26)) .nil))))) .nil)
noncomputable def p_escape_attrib_html : List Nat := [26]
noncomputable def b_escape_cdata_c14n : Ss := (.cons 
  (.tri (.cons (.iff (.cmp (.str [38]) (.one .In (.var 26))) (.cons (.assign 26 (.repl (.var 26) 38 [38, 97, 109, 112, 59])) .nil) .nil) (.cons (.iff (.cmp (.str [60]) (.one .In (.var 26))) (.cons (.assign 26 (.repl (.var 26) 60 [38, 108, 116, 59])) .nil) .nil) (.cons (.iff (.cmp (.str [62]) (.one .In (.var 26))) (.cons (.assign 26 (.repl (.var 26) 62 [38, 103, 116, 59])) .nil) .nil) (.cons (.iff (.cmp (.str [13]) (.one .In (.var 26))) (.cons (.assign 26 (.repl (.var 26) 13 [38, 35, 120, 68, 59])) .nil) .nil) (.cons (.ret (.var 26)) .nil)))))) .nil)
noncomputable def p_escape_cdata_c14n : List Nat := [26]
noncomputable def b_escape_attrib_c14n : Ss := (.cons 
  (.tri (.cons (.iff (.cmp (.str [38]) (.one .In (.var 26))) (.cons (.assign 26 (.repl (.var 26) 38 [38, 97, 109, 112, 59])) .nil) .nil) (.cons (.iff (.cmp (.str [60]) (.one .In (.var 26))) (.cons (.assign 26 (.repl (.var 26) 60 [38, 108, 116, 59])) .nil) .nil) (.cons (.iff (.cmp (.str [34]) (.one .In (.var 26))) (.cons (.assign 26 (.repl (.var 26) 34 [38, 113, 117, 111, 116, 59])) .nil) .nil) (.cons (.iff (.cmp (.str [9]) (.one .In (.var 26))) (.cons (.assign 26 (.repl (.var 26) 9 [38, 35, 120, 57, 59])) .nil) .nil) (.cons (.iff (.cmp (.str [10]) (.one .In (.var 26))) (.cons (.assign 26 (.repl (.var 26) 10 [38, 35, 120, 65, 59])) .nil) .nil) (.cons (.iff (.cmp (.str [13]) (.one .In (.var 26))) (.cons (.assign 26 (.repl (.var 26) 13 [38, 35, 120, 68, 59])) .nil) .nil) (.cons (.ret (.var 26)) .nil)))))))) .nil)
noncomputable def p_escape_attrib_c14n : List Nat := [26]
noncomputable def b_law_cells : Ss := (.cons 
  (.assign 28 (.list (.cons (.int 0) (.cons (.int 0) (.cons (.int 2) (.cons (.int 0) (.cons (.int 0) (.cons (.int 2) .nil)))))))) (.cons 
  (.for 29 (.bi .range (.cons (.bi .len (.cons (.var 27) .nil)) .nil)) (.cons (.augItem 28 (.bin .Mod (.var 29) (.int 6)) (.bin .Mod (.sub (.var 27) (.var 29)) (.bin .Pow (.int 10) (.int 6)))) .nil)) (.cons 
  (.ret (.var 28)) .nil)))
noncomputable def p_law_cells : List Nat := [27]
noncomputable def b_law_spelled : Ss := (.cons 
  (.iff (.cmp (.var 30) (.one .NotIn (.sub (.list (.cons (.str [38, 60, 62]) (.cons (.str [38, 60, 62, 34, 13, 10, 9]) (.cons (.str [38, 62, 34]) (.cons (.str [38, 60, 62, 13]) (.cons (.str [38, 60, 34, 13, 10, 9]) .nil)))))) (.var 31)))) (.cons (.ret (.var 30)) .nil) .nil) (.cons 
  (.assign 32 (.meth .index (.str [38, 60, 62, 34, 13, 10, 9]) (.cons (.var 30) .nil))) (.cons 
  (.iff (.andor true (.cmp (.var 31) (.one .Gt (.int 2))) (.cons (.cmp (.var 32) (.one .Gt (.int 3))) .nil)) (.cons (.aug 32 .Add (.int 3)) .nil) .nil) (.cons 
  (.ret (.bin .Add (.bin .Add (.str [38]) (.sub (.list (.cons (.str [97, 109, 112]) (.cons (.str [108, 116]) (.cons (.str [103, 116]) (.cons (.str [113, 117, 111, 116]) (.cons (.str [35, 49, 51]) (.cons (.str [35, 49, 48]) (.cons (.str [35, 48, 57]) (.cons (.str [35, 120, 68]) (.cons (.str [35, 120, 65]) (.cons (.str [35, 120, 57]) .nil))))))))))) (.var 32))) (.str [59]))) .nil))))
noncomputable def p_law_spelled : List Nat := [30, 31]
noncomputable def b_law_ways : Ss := (.cons 
  (.assign 36 (.dict1 (.var 33) (.int 1))) (.cons 
  (.for 35 (.bi .range (.cons (.int 11) .nil)) (.cons (.assign 37 .dict0) (.cons (.for 38 (.var 36) (.cons (.for 29 (.bi .range (.cons (.int 4) .nil)) (.cons (.iff (.cmp (.sub (.var 34) (.slc (.var 38) (.some (.var 29)) (.some (.bin .Add (.var 29) (.int 2))))) (.one .Eq (.int 1))) (.cons (.assign 39 (.bin .Add (.bin .Add (.bin .Add (.slc (.var 38) .none (.some (.var 29))) (.sub (.var 38) (.bin .Add (.var 29) (.int 1)))) (.sub (.var 38) (.var 29))) (.slc (.var 38) (.some (.bin .Add (.var 29) (.int 2))) .none))) (.cons (.setItem 37 (.var 39) (.bin .Add (.meth .get (.var 37) (.cons (.var 39) (.cons (.int 0) .nil))) (.sub (.var 36) (.var 38)))) .nil)) .nil) .nil)) .nil)) (.cons (.iff (.cmp (.var 37) (.one .Eq .dict0)) (.cons (.ret (.var 36)) .nil) .nil) (.cons (.assign 36 (.var 37)) .nil))))) (.cons 
  (.ret .dict0) .nil)))
noncomputable def p_law_ways : List Nat := [33, 34]
noncomputable def b_law_lines : Ss := (.cons 
  (.assign 42 (.comp (.name 29) (.bi .range (.cons (.bi .len (.cons (.var 40) .nil)) .nil)) .nil (.nil (.bi .len (.cons (.comp (.name 43) (.slc (.var 40) (.some (.bin .Add (.var 29) (.int 1))) .none) (.cons (.cmp (.var 43) (.one .Lt (.sub (.var 40) (.var 29)))) .nil) (.nil (.var 43)) [40, 29]) .nil))) [40])) (.cons 
  (.ret (.rev (.bi .sorted (.cons (.comp (.name 41) (.var 42) (.cons (.cmp (.var 41) (.one .Gt (.int 0))) .nil) (.nil (.var 41)) []) .nil)))) .nil))
noncomputable def p_law_lines : List Nat := [40]
noncomputable def b_law_fillings : Ss := (.cons 
  (.assignTup [48, 45, 46] (.cons (.int 0) (.cons (.int 1) (.cons (.int 1) .nil)))) (.cons 
  (.for 47 (.bi .range (.cons (.bi .len (.cons (.var 44) .nil)) .nil)) (.cons (.for 29 (.bi .range (.cons (.sub (.var 44) (.var 47)) .nil)) (.cons (.aug 48 .Add (.int 1)) (.cons (.aug 45 .Mult (.var 48)) (.cons (.aug 46 .Mult (.bin .Add (.bin .Sub (.sub (.var 44) (.var 47)) (.var 29)) (.bi .len (.cons (.comp (.name 38) (.slc (.var 44) (.some (.bin .Add (.var 47) (.int 1))) .none) (.cons (.cmp (.var 38) (.one .Gt (.var 29))) .nil) (.nil (.var 38)) [29]) .nil)))) .nil)))) .nil)) (.cons 
  (.ret (.bin .FloorDiv (.var 45) (.var 46))) .nil)))
noncomputable def p_law_fillings : List Nat := [44]
noncomputable def b_law_has_four : Ss := (.cons 
  (.assign 51 (.comp (.name 50) (.bi .range (.cons (.bi .len (.cons (.var 40) .nil)) .nil)) .nil (.cons (.name 29) (.bi .range (.cons (.var 50) .nil)) .nil (.cons (.name 47) (.bi .range (.cons (.var 29) .nil)) .nil (.cons (.name 49) (.bi .range (.cons (.var 47) .nil)) .nil (.nil (.tup (.cons (.var 49) (.cons (.var 47) (.cons (.var 29) (.cons (.var 50) .nil))))))))) [])) (.cons 
  (.ret (.cmp (.comp (.tup [49, 47, 29, 50]) (.var 51) (.cons (.cmp (.sub (.var 40) (.var 47)) (.cons .Lt (.sub (.var 40) (.var 49)) (.cons .Lt (.sub (.var 40) (.var 50)) (.one .Lt (.sub (.var 40) (.var 29)))))) .nil) (.nil (.var 49)) [40]) (.one .NotEq (.list .nil)))) .nil))
noncomputable def p_law_has_four : List Nat := [40]
noncomputable def b_law_gives_way : Ss := (.cons 
  (.assign 53 (.bi .max (.cons (.comp (.name 29) (.bi .range (.cons (.bin .Sub (.bi .len (.cons (.var 40) .nil)) (.int 1)) .nil)) (.cons (.cmp (.sub (.var 40) (.var 29)) (.one .Gt (.sub (.var 40) (.bin .Add (.var 29) (.int 1))))) .nil) (.nil (.var 29)) [40]) .nil))) (.cons 
  (.assign 55 (.bi .max (.cons (.comp (.name 29) (.bi .range (.cons (.bin .Add (.var 53) (.int 1)) (.cons (.bi .len (.cons (.var 40) .nil)) .nil))) (.cons (.cmp (.sub (.var 40) (.var 29)) (.one .Lt (.sub (.var 40) (.var 53)))) .nil) (.nil (.var 29)) [40, 53]) .nil))) (.cons 
  (.assign 39 (.bin .Add (.bin .Add (.bin .Add (.bin .Add (.slc (.var 40) .none (.some (.var 53))) (.list (.cons (.sub (.var 40) (.var 55)) .nil))) (.slc (.var 40) (.some (.bin .Add (.var 53) (.int 1))) (.some (.var 55)))) (.list (.cons (.sub (.var 40) (.var 53)) .nil))) (.slc (.var 40) (.some (.bin .Add (.var 55) (.int 1))) .none))) (.cons 
  (.assign 52 (.list .nil)) (.cons 
  (.for 29 (.bi .range (.cons (.var 53) .nil)) (.cons (.assign 54 (.comp (.name 43) (.slc (.var 39) (.some (.bin .Add (.var 29) (.int 1))) (.some (.var 53))) (.cons (.cmp (.sub (.var 39) (.var 29)) (.cons .Lt (.var 43) (.one .Lt (.sub (.var 39) (.var 53))))) .nil) (.nil (.var 43)) [39, 29, 53])) (.cons (.iff (.andor true (.cmp (.sub (.var 39) (.var 29)) (.one .Lt (.sub (.var 39) (.var 53)))) (.cons (.cmp (.var 54) (.one .Eq (.list .nil))) .nil)) (.cons (.expr (.meth .append (.var 52) (.cons (.bin .Add (.bin .Add (.bin .Add (.bin .Add (.slc (.var 39) .none (.some (.var 29))) (.list (.cons (.sub (.var 39) (.var 53)) .nil))) (.slc (.var 39) (.some (.bin .Add (.var 29) (.int 1))) (.some (.var 53)))) (.list (.cons (.sub (.var 39) (.var 29)) .nil))) (.slc (.var 39) (.some (.bin .Add (.var 53) (.int 1))) .none)) .nil))) .nil) .nil) .nil))) (.cons 
  (.ret (.ite (.cmp (.var 52) (.one .NotEq (.list .nil))) (.var 52) (.list (.cons (.bin .Add (.list (.cons (.int 0) .nil)) (.comp (.name 43) (.var 40) .nil (.nil (.bin .Add (.var 43) (.int 1))) [])) .nil)))) .nil))))))
noncomputable def p_law_gives_way : List Nat := [40]
noncomputable def b_law_count : Ss := (.cons 
  (.assign 56 (.list (.cons (.var 40) .nil))) (.cons 
  (.assign 41 (.int 0)) (.cons 
  (.whil 100 (.cmp (.var 56) (.one .NotEq (.list .nil))) (.cons (.assign 57 (.meth .pop (.var 56) .nil)) (.cons (.iff (.call (.glob 12) (.cons (.var 57) .nil)) (.cons (.aug 56 .Add (.call (.glob 13) (.cons (.var 57) .nil))) .nil) (.cons (.aug 41 .Add (.call (.glob 11) (.cons (.call (.glob 10) (.cons (.var 57) .nil)) .nil))) .nil)) .nil))) (.cons 
  (.ret (.var 41)) .nil))))
noncomputable def p_law_count : List Nat := [40]
noncomputable def b_law_by_names : Ss := (.cons 
  (.assignTup [63, 64, 62] (.cons (.sub (.var 58) (.int 0)) (.cons (.sub (.var 58) (.int 1)) (.cons (.sub (.var 58) (.int 4)) .nil)))) (.cons 
  (.assign 60 (.list (.cons (.list (.cons (.var 59) (.cons (.var 59) .nil))) (.cons (.list (.cons (.bin .Add (.bin .Add (.var 63) (.str [46, 46, 46])) (.var 62)) (.cons (.var 59) .nil))) (.cons (.list (.cons (.bin .Add (.bin .Add (.var 63) (.str [46, 46, 46])) (.var 64)) (.cons (.bin .Add (.var 63) (.var 64)) .nil))) .nil))))) (.cons 
  (.assign 61 (.list (.cons (.list (.cons (.var 63) (.cons (.var 59) .nil))) (.cons (.list (.cons (.bin .Add (.bin .Add (.var 64) (.str [46, 46, 46])) (.var 62)) (.cons (.var 59) .nil))) (.cons (.list (.cons (.bin .Add (.bin .Add (.var 63) (.str [46, 46, 46])) (.sub (.var 58) (.int 3))) (.cons (.var 59) .nil))) .nil))))) (.cons 
  (.aug 61 .Add (.list (.cons (.list (.cons (.bin .Add (.bin .Add (.bin .Add (.bin .Add (.str [46, 46, 46]) (.var 63)) (.str [46, 46, 46])) (.var 63)) (.str [46, 46, 46])) (.cons (.var 59) .nil))) (.cons (.list (.cons (.bin .Add (.bin .Add (.var 62) (.str [46, 46, 46])) (.var 62)) (.cons (.var 62) .nil))) .nil)))) (.cons 
  (.assign 34 (.comp (.tup [20, 26]) (.bin .Add (.var 60) (.var 61)) .nil (.nil (.call (.glob 1) (.cons (.var 20) (.cons (.var 26) .nil)))) [])) (.cons 
  (.ret (.andor true (.cmp (.comp (.name 57) (.slc (.var 34) .none (.some (.int 3))) (.cons (.cmp (.var 57) (.one .IsNot (.bool true))) .nil) (.nil (.var 57)) []) (.one .Eq (.list .nil))) (.cons (.cmp (.comp (.name 57) (.slc (.var 34) (.some (.int 3)) .none) (.cons (.cmp (.var 57) (.one .IsNot (.bool false))) .nil) (.nil (.var 57)) []) (.one .Eq (.list .nil))) .nil))) .nil))))))
noncomputable def p_law_by_names : List Nat := [58, 59]
noncomputable def b_law : Ss := (.cons 
  (.assign 28 (.call (.glob 7) (.cons (.var 27) .nil))) (.cons 
  (.assign 31 (.bin .Mod (.sub (.var 28) (.int 0)) (.int 5))) (.cons 
  (.assign 75 (.bi .chr (.cons (.bin .Add (.int 256) (.bin .Mod (.bin .FloorDiv (.sub (.var 28) (.int 0)) (.int 5)) (.int 55000))) .nil))) (.cons 
  (.assign 73 (.sub (.list (.cons (.glob 2) (.cons (.glob 3) (.cons (.glob 4) (.cons (.glob 5) (.cons (.glob 6) .nil)))))) (.var 31))) (.cons 
  (.assign 72 (.bin .Add (.str [38, 60, 62, 34, 13, 10, 9]) (.var 75))) (.cons 
  (.assign 74 (.bi .list (.cons (.var 72) .nil))) (.cons 
  (.assign 33 (.str [])) (.cons 
  (.for 29 (.bi .range (.cons (.int 1) (.cons (.int 6) .nil))) (.cons (.augc 33 .Add (.meth .pop (.var 74) (.cons (.bin .Mod (.sub (.var 28) (.var 29)) (.bi .len (.cons (.var 74) .nil))) .nil))) .nil)) (.cons 
  (.assign 58 (.comp (.name 30) (.var 33) .nil (.nil (.call (.glob 8) (.cons (.var 30) (.cons (.var 31) .nil)))) [31])) (.cons 
  (.assign 59 (.call (.var 73) (.cons (.var 33) .nil))) (.cons 
  (.iff (.andor false (.cmp (.var 59) (.one .NotEq (.meth .join (.str []) (.cons (.var 58) .nil)))) (.cons (.cmp (.call (.var 73) (.cons (.bin .Add (.var 72) (.var 72)) .nil)) (.one .NotEq (.meth .join (.str []) (.cons (.comp (.name 30) (.bin .Add (.var 72) (.var 72)) .nil (.nil (.call (.glob 8) (.cons (.var 30) (.cons (.var 31) .nil)))) [31]) .nil)))) .nil)) (.cons (.ret (.bool false)) .nil) .nil) (.cons 
  (.assign 34 .dict0) (.cons 
  (.for 47 (.bi .range (.cons (.int 5) .nil)) (.cons (.for 29 (.bi .range (.cons (.int 5) .nil)) (.cons (.setItem 34 (.bin .Add (.sub (.var 33) (.var 47)) (.sub (.var 33) (.var 29))) (.call (.glob 0) (.cons (.sub (.var 58) (.var 47)) (.cons (.sub (.var 58) (.var 29)) .nil)))) .nil)) .nil)) (.cons 
  (.for 71 (.var 33) (.cons (.for 43 (.var 33) (.cons (.assign 57 (.sub (.var 34) (.bin .Add (.var 71) (.var 43)))) (.cons (.iff (.andor false (.cmp (.var 57) (.one .Is (.bool true))) (.cons (.cmp (.var 57) (.one .Is (.bool false))) (.cons (.cmp (.bin .Add (.var 57) (.sub (.var 34) (.bin .Add (.var 43) (.var 71)))) (.one .NotEq (.int 0))) (.cons (.cmp (.bi .abs (.cons (.var 57) .nil)) (.one .NotEq (.cmp (.var 71) (.one .NotEq (.var 43))))) .nil)))) (.cons (.ret (.bool false)) .nil) .nil) .nil))) .nil)) (.cons 
  (.iff (.cmp (.list (.cons (.call (.glob 0) (.cons (.str []) (.cons (.var 59) .nil))) (.cons (.call (.glob 0) (.cons (.var 59) (.cons (.sub (.var 58) (.int 0)) .nil))) (.cons (.call (.glob 0) (.cons (.sub (.var 58) (.int 0)) (.cons (.slc (.var 59) .none (.some (.bi .len (.cons (.sub (.var 58) (.int 0)) .nil)))) .nil))) (.cons (.call (.glob 0) (.cons (.str [90]) (.cons (.str [97]) .nil))) .nil))))) (.one .NotEq (.list (.cons (.neg 1) (.cons (.int 1) (.cons (.int 0) (.cons (.neg 1) .nil))))))) (.cons (.ret (.bool false)) .nil) .nil) (.cons 
  (.assign 68 (.bi .sorted (.cons (.var 58) .nil))) (.cons 
  (.assign 40 (.comp (.name 70) (.var 58) .nil (.nil (.meth .index (.var 68) (.cons (.var 70) .nil))) [68])) (.cons 
  (.iff (.cmp (.call (.glob 9) (.cons (.var 33) (.cons (.var 34) .nil))) (.one .NotEq (.dict1 (.meth .join (.str []) (.cons (.comp (.name 29) (.bi .range (.cons (.int 5) .nil)) .nil (.nil (.sub (.var 33) (.meth .index (.var 40) (.cons (.var 29) .nil)))) [33, 40]) .nil)) (.call (.glob 14) (.cons (.var 40) .nil))))) (.cons (.ret (.bool false)) .nil) .nil) (.cons 
  (.assignNew 51 66) (.cons 
  (.for 67 (.bi .range (.cons (.int 5) .nil)) (.cons (.assign 69 (.bin .Add (.slc (.var 68) .none (.some (.var 67))) (.slc (.var 68) (.some (.bin .Add (.var 67) (.int 1))) .none))) (.cons (.expr (.meth .append (.var 51) (.cons (.call (.glob 1) (.cons (.bin .Add (.bin .Add (.str [46, 46, 46]) (.meth .join (.str [46, 46, 46]) (.cons (.list (.cons (.sub (.var 69) (.int 1)) (.cons (.sub (.var 69) (.int 0)) (.cons (.sub (.var 69) (.int 3)) (.cons (.sub (.var 69) (.int 2)) .nil))))) .nil))) (.str [46, 46, 46])) (.cons (.var 59) .nil))) .nil))) (.cons (.for 19 (.bi .range (.cons (.var 67) .nil)) (.cons (.for 18 (.bi .range (.cons (.var 19) .nil)) (.cons (.expr (.meth .append (.var 66) (.cons (.call (.glob 1) (.cons (.bin .Add (.bin .Add (.str [46, 46, 46]) (.meth .join (.str [46, 46, 46]) (.cons (.list (.cons (.sub (.var 68) (.var 67)) (.cons (.sub (.var 68) (.var 19)) (.cons (.sub (.var 68) (.var 18)) .nil)))) .nil))) (.str [46, 46, 46])) (.cons (.var 59) .nil))) .nil))) .nil)) .nil)) .nil)))) (.cons 
  (.iff (.cmp (.comp (.name 57) (.bin .Add (.var 51) (.var 66)) (.cons (.andor true (.cmp (.var 57) (.one .IsNot (.bool true))) (.cons (.cmp (.var 57) (.one .IsNot (.bool false))) .nil)) .nil) (.nil (.var 57)) []) (.one .NotEq (.list .nil))) (.cons (.ret (.bool false)) .nil) .nil) (.cons 
  (.assign 44 (.call (.glob 10) (.cons (.var 40) .nil))) (.cons 
  (.iff (.cmp (.cmp (.bool true) (.one .In (.var 66))) (.one .NotEq (.cmp (.bi .sum (.cons (.comp (.name 29) (.bi .range (.cons (.int 5) .nil)) .nil (.nil (.bi .abs (.cons (.bin .Sub (.sub (.var 40) (.var 29)) (.var 29)) .nil))) [40]) .nil)) (.one .Lt (.bin .Mult (.int 2) (.bi .sum (.cons (.var 44) .nil))))))) (.cons (.ret (.bool false)) .nil) .nil) (.cons 
  (.assign 65 (.comp (.name 29) (.bi .range (.cons (.bi .max (.cons (.bin .Add (.list (.cons (.int 0) .nil)) (.var 44)) .nil)) .nil)) .nil (.nil (.bi .len (.cons (.comp (.name 38) (.var 44) (.cons (.cmp (.var 38) (.one .Gt (.var 29))) .nil) (.nil (.var 38)) [29]) .nil))) [44])) (.cons 
  (.iff (.cmp (.cmp (.bool true) (.one .In (.var 51))) (.one .NotEq (.cmp (.var 65) (.one .NotEq (.call (.glob 10) (.cons (.comp (.name 43) (.rev (.var 40)) .nil (.nil (.bin .Sub (.int 4) (.var 43))) []) .nil)))))) (.cons (.ret (.bool false)) .nil) .nil) (.cons 
  (.ret (.call (.glob 15) (.cons (.var 58) (.cons (.var 59) .nil)))) .nil))))))))))))))))))))))))))
noncomputable def p_law : List Nat := [27]
noncomputable def constG (n : Nat) : Option T := match Nat.beq n 17 with
  | true => some (.str [46, 46, 46])
  | false => gt (Nat.blt n 17) (some (.fn n))
noncomputable def bodyTab : List (List Nat × Ss) := [(p_strcoll, b_strcoll), (p_ellipsis_match, b_ellipsis_match), (p_escape_cdata, b_escape_cdata), (p_escape_attrib, b_escape_attrib), (p_escape_attrib_html, b_escape_attrib_html), (p_escape_cdata_c14n, b_escape_cdata_c14n), (p_escape_attrib_c14n, b_escape_attrib_c14n), (p_law_cells, b_law_cells), (p_law_spelled, b_law_spelled), (p_law_ways, b_law_ways), (p_law_lines, b_law_lines), (p_law_fillings, b_law_fillings), (p_law_has_four, b_law_has_four), (p_law_gives_way, b_law_gives_way), (p_law_count, b_law_count), (p_law_by_names, b_law_by_names), (p_law, b_law)]
noncomputable def bodies (g : Nat) : Option (List Nat × Ss) := bodyTab[g]?
noncomputable def FF : Nat → FTab
  | 0 => fun _ => none
  | n + 1 => fun g => ob (bodies g) fun q => some (runF gF (FF n) constG q.1 q.2)
theorem constG_e {g : Nat} {t : T} (e : constG g = some t) : (g = 17 ∧ t = .str [46, 46, 46]) ∨ (g < 17 ∧ t = .fn g) := by
  unfold constG at e
  cases q : Nat.beq g 17 with
  | true => rw [q] at e; exact .inl ⟨Nat.eq_of_beq_eq_true q, (Option.some.inj e).symm⟩
  | false => rw [q] at e; exact ge e fun k e => .inr ⟨Nat.le_of_ble_eq_true k, (Option.some.inj e).symm⟩
end MP
end

section -- MpOps
open PySem PySem.W PyProof.Rows
namespace MP

theorem odd_pow : ∀ {c d m n : Nat}, Nat.mul (Nat.pow 2 c) (Nat.succ (Nat.mul 2 m)) = Nat.mul (Nat.pow 2 d) (Nat.succ (Nat.mul 2 n)) → c = d ∧ m = n
  | 0, 0, m, n, h => ⟨rfl, by simp only [Nat.pow_eq, Nat.pow_zero, Nat.mul_eq, Nat.succ_eq_add_one] at h; omega⟩
  | 0, d + 1, m, n, h => by simp only [Nat.pow_eq, Nat.pow_zero, Nat.pow_succ, Nat.mul_eq, Nat.succ_eq_add_one, Nat.mul_right_comm _ 2] at h; omega
  | c + 1, 0, m, n, h => by simp only [Nat.pow_eq, Nat.pow_zero, Nat.pow_succ, Nat.mul_eq, Nat.succ_eq_add_one, Nat.mul_right_comm _ 2] at h; omega
  | c + 1, d + 1, m, n, h => by
    have h : 2 ^ c * (2 * m + 1) = 2 ^ d * (2 * n + 1) := by simp only [Nat.pow_eq, Nat.pow_succ, Nat.mul_eq, Nat.succ_eq_add_one, Nat.mul_right_comm _ 2] at h; omega
    exact (odd_pow h).imp_left (congrArg (· + 1))
theorem code_pos (c : Nat) (r : List Nat) : code (c :: r) ≠ 0 := fun e => by
  rcases Nat.mul_eq_zero.mp e with h | h
  · exact absurd h (Nat.ne_of_gt (Nat.pow_pos (by omega)))
  · exact nomatch h
theorem code_inj : ∀ {a b : List Nat}, code a = code b → a = b
  | [], [], _ => rfl
  | [], _ :: _, h => absurd h.symm (code_pos _ _)
  | _ :: _, [], h => absurd h (code_pos _ _)
  | a :: r, b :: t, h => by
    obtain ⟨rfl, e⟩ := odd_pow h
    rw [code_inj e]
theorem sEq_iff (a b : List Nat) : sEq a b = true ↔ a = b := Nat.beq_eq ▸ ⟨fun h => code_inj h, fun h => congrArg code h⟩
theorem sEq_eq (a b : List Nat) : sEq a b = decide (a = b) := by
  rw [Bool.eq_iff_iff, sEq_iff]; simp
theorem sLt_eq : ∀ a b : List Nat, sLt a b = decide (a < b)
  | [], [] => by simp [sLt]
  | [], _ :: _ => by simp [sLt]
  | _ :: _, [] => by simp [sLt]
  | a :: r, b :: t => by
    simp only [sLt]
    rw [StrLaws.lt_cons_cons, ← sLt_eq r t]
    have h1 : Nat.blt a b = decide (a < b) := by
      rw [Bool.eq_iff_iff, Nat.blt_eq]; simp
    have h2 : Nat.beq a b = (a == b) := by
      rw [Bool.eq_iff_iff, Nat.beq_eq]; simp
    rw [h1, h2]
    cases decide (a < b) <;> cases (a == b) <;> rfl
theorem iEqs_eq : ∀ a b : List Int, iEqs a b = decide (a = b)
  | [], [] => by simp [iEqs]
  | [], _ :: _ => by simp [iEqs]
  | _ :: _, [] => by simp [iEqs]
  | a :: r, b :: t => by
    simp only [iEqs]
    cases q : decide (a = b) with
    | true => have := of_decide_eq_true q; subst this; simp [iEqs_eq r t]
    | false =>
      have := of_decide_eq_false q
      symm
      simp [this]

theorem mkS_append (a b : List Nat) : mkS a ++ mkS b = mkS (a ++ b) := by
  show Str.append _ _ = _
  simp [Str.append, mkS]
theorem mkS_len (a : List Nat) : (mkS a).length = a.length := by simp [mkS, Str.length]
theorem mkS_inj {a b : List Nat} : mkS a = mkS b ↔ a = b := by
  constructor
  · intro h; have := congrArg (fun x : Str => x.cps.toList) h; simpa [mkS] using this
  · rintro rfl; rfl
theorem lenOk_le {n : Nat} (h : lenOk n = true) : n ≤ 1048576 := Nat.le_of_ble_eq_true h
theorem sizeLine_v : sizeLine = 16777216 := by rw [sizeLine_eq]
theorem mkS_cps (a : List Nat) : (mkS a).cps.toList = a := by simp [mkS]

section
variable {W : Wd} {L : Addr} {ok : Addr → Prop} {s : Shared} {A : Around} {Er : Value → Shared → Prop}

theorem Res.atom {t : T} {v : Value} {k : Nat} (h : Body W ok s.heap t v) (ha : ∀ a, v ≠ .ref a) : Res W L ok s false t v { s with toks := k } :=
  ⟨Grown.refl.gl, ⟨rfl, rfl⟩, h, okv_of fun a e => absurd e (ha a)⟩

theorem reps_cons {h : Heap} {t : T} {ts : List T} {vs : List Value} (r : Reps W ok h (t :: ts) vs) : ∃ v r', vs = v :: r' ∧ Rep W ok h t v ∧ Reps W ok h ts r' := by
  simpa [Reps, Rep] using r
theorem reps_len {h : Heap} : ∀ {ts : List T} {vs : List Value}, Reps W ok h ts vs → ts.length = vs.length
  | [], vs, r => by simp [Reps] at r; simp [r]
  | t :: ts, vs, r => by obtain ⟨v, r', rfl, _, q⟩ := reps_cons r; simp [reps_len q]
theorem reps_append {h : Heap} : ∀ {ts us : List T} {vs ws : List Value}, Reps W ok h ts vs → Reps W ok h us ws → Reps W ok h (ts ++ us) (vs ++ ws)
  | [], us, vs, ws, r, q => by simp [Reps] at r; simpa [r] using q
  | t :: ts, us, vs, ws, r, q => by
    obtain ⟨v, r', rfl, x, r2⟩ := reps_cons r
    simp only [List.cons_append, Reps]
    exact ⟨v, _, rfl, x, reps_append r2 q⟩

theorem small_lt {a : Int} (h : small a = true) : -(2 ^ 62) < a ∧ a < 2 ^ 62 := by
  simp only [small, Bool.and_eq_true, decide_eq_true_eq] at h
  omega

theorem plainNoCell {h : Heap} {a : Addr} {xs : Array Value} (p : h.PlainList a xs) (c : Option Value) : ¬ h.IsCell a c := fun ⟨o, e, d⟩ => by
  obtain ⟨n, q⟩ := p
  rw [q] at e; cases e; cases d

theorem Res.int {i : Int} {k : Tok} {s' : Shared} (g : Grown s.heap s'.heap) (al : Alike s s') : Res W L ok s false (.int i) (.int i k) s' :=
  ⟨g.gl, al, ⟨k, rfl⟩, okv_of fun a e => nomatch e⟩
theorem Res.str {x : List Nat} {k : Tok} {s' : Shared} (g : Grown s.heap s'.heap) (al : Alike s s') : Res W L ok s false (.str x) (.str (mkS x) k) s' :=
  ⟨g.gl, al, ⟨k, rfl⟩, okv_of fun a e => nomatch e⟩
theorem Res.bool {b : Bool} {s' : Shared} (g : Grown s.heap s'.heap) (al : Alike s s') : Res W L ok s false (.bool b) (.bool b) s' :=
  ⟨g.gl, al, rfl, okv_of fun a e => nomatch e⟩

theorem binI_ok {o : Operator} {a b : Int} {r : T × Bool} {k l : Tok} {Q : Value → Shared → Prop} (h : binI o a b = some r)
    (hQ : ∀ v s', Res W L ok s r.2 r.1 v s' → Q v s') : wpAny (model W.prog W.w) A (binaryOp o (.int a k) (.int b l)) Q Er s := by
  cases o with
  | Add => cases h; exact add_int (hQ _ _ (.int .refl ⟨rfl, rfl⟩))
  | Sub => cases h; exact sub_int (hQ _ _ (.int .refl ⟨rfl, rfl⟩))
  | Mult =>
    refine ge h ?_; clear h; intro hs h
    cases h
    have h1 := small_lt (Bool.and_eq_true_iff.mp hs).1
    exact mul_int (hm := IntMulOk.of_left (intBits_le_64 (Int.lt_trans (by decide) h1.1) (Int.lt_trans h1.2 (by decide)))) (hQ _ _ (.int .refl ⟨rfl, rfl⟩))
  | FloorDiv =>
    refine ge h ?_; clear h; intro hs h
    cases h
    simp only [Bool.and_eq_true, Bool.not_eq_true', decide_eq_false_iff_not] at hs
    have h1 := small_lt hs.1.2
    refine floordiv_int (hp := Or.inl (PyProof.noPylong_of_log2 ?_)) hs.2 (hQ _ _ (.int .refl ⟨rfl, rfl⟩))
    have : b.natAbs < 2 ^ 62 := by omega
    rcases Nat.eq_zero_or_pos b.natAbs with e | e
    · rw [e]; decide
    · exact Nat.lt_trans ((Nat.log2_lt (Nat.ne_of_gt e)).2 this) (by decide)
  | Mod =>
    refine ge h ?_; clear h; intro hs h
    cases h
    exact mod_int' (of_decide_eq_false (by simpa using hs)) (hQ _ _ (.int .refl ⟨rfl, rfl⟩))
  | Pow =>
    refine ge h ?_; clear h; intro hs h
    cases h
    obtain ⟨h1, h2⟩ := Bool.and_eq_true_iff.mp hs
    have h1 := of_decide_eq_true h1
    have h2 := of_decide_eq_true h2
    subst h1 h2
    exact pow_int_small (by decide) (by decide) (by decide) (hQ _ _ (.int .refl ⟨rfl, rfl⟩))
  | _ => exact nomatch h

theorem sub_bools (x y : Bool) : (b2i x - b2i y : Int) = b2i' x - b2i' y := by cases x <;> cases y <;> rfl
theorem concat_ok {xs ys : List T} {va vb : Value} {Q : Value → Shared → Prop} (hs : lenOk (xs.length + ys.length) = true) (Ba : Body W ok s.heap (.list xs) va) (Bb : Body W ok s.heap (.list ys) vb)
    (hQ : ∀ v s', Res W L ok s true (.list (xs ++ ys)) v s' → Q v s') : wpAny (model W.prog W.w) A (binaryOp .Add va vb) Q Er s := by
  obtain ⟨l, vs, rfl, ⟨n, hl⟩, ra⟩ := Ba
  obtain ⟨m, ws, rfl, ⟨n', hm⟩, rb⟩ := Bb
  have := lenOk_le hs
  have e : vs.toArray ++ ws.toArray = (vs ++ ws).toArray := List.append_toArray _ _
  have hle : vs.length + ws.length ≤ sizeLine := by rw [← reps_len ra, ← reps_len rb, sizeLine_v]; exact Nat.le_trans this (by decide)
  refine concat_meets ⟨_, hl, rfl⟩ ⟨_, hm, rfl⟩ noFill_list_add seq_list_add PySem.F.slot_list_add PySem.F.entry_list_add (PySem.F.args_list_add_2 _ _) (list_addW l m vs.toArray ws.toArray n n' none none #[] #[] (by simpa using hle)) ⟨hl, hm, ?_⟩
  rw [e]
  exact hQ _ _ ⟨(Grown.push _).gl, ⟨rfl, rfl⟩, s.heap.objs.size, rfl, (by intro g q; cases q), plainNoCell ⟨0, Heap.get?_push_size _ rfl⟩, get?_big (Nat.le_refl _), ⟨_, _, rfl, ⟨0, Heap.get?_push_size _ rfl⟩,
    reps_append (reps_tr (Grown.trNew (.push _) (get?_big (Nat.le_refl _))) ra) (reps_tr (Grown.trNew (.push _) (get?_big (Nat.le_refl _))) rb)⟩⟩

theorem bin_ok {o : Operator} {a b : T} {r : T × Bool} {va vb : Value} {Q : Value → Shared → Prop} (h : binT gF o a b = some r) (Ba : Body W ok s.heap a va) (Bb : Body W ok s.heap b vb)
    (hQ : ∀ v s', Res W L ok s r.2 r.1 v s' → Q v s') : wpAny (model W.prog W.w) A (binaryOp o va vb) Q Er s := by
  cases a with
  | int x =>
    refine oi h ?_; clear h; intro y e h
    subst e
    obtain ⟨k, rfl⟩ := Ba
    obtain ⟨l, rfl⟩ := Bb
    exact binI_ok h hQ
  | bool x =>
    refine oB h ?_; clear h; intro y e h
    refine ge h ?_; clear h; intro ho h
    cases h
    subst e
    obtain rfl := isSub_e ho
    obtain rfl := Ba
    obtain rfl := Bb
    exact sub_bool (hQ _ _ (sub_bools x y ▸ .int .refl ⟨rfl, rfl⟩))
  | str x =>
    refine os h ?_; clear h; intro y e h
    refine ge h ?_; clear h; intro ho h
    refine ge h ?_; clear h; intro hs h
    cases h
    subst e
    obtain rfl := isAdd_e ho
    obtain ⟨k, rfl⟩ := Ba
    obtain ⟨l, rfl⟩ := Bb
    have := lenOk_le hs
    exact add_str (hsz := by rw [mkS_len, mkS_len, sizeLine_v]; exact Nat.le_trans this (by decide)) fun t' tk => hQ _ _ (mkS_append x y ▸ .str .refl ⟨rfl, rfl⟩)
  | list x =>
    refine ol h ?_; clear h; intro y e h
    refine ge h ?_; clear h; intro ho h
    refine ge h ?_; clear h; intro hs h
    cases h
    subst e
    obtain rfl := isAdd_e ho
    exact concat_ok hs Ba Bb hQ
  | _ => exact nomatch h
end
end MP
end

section -- MpCmp
open PySem PySem.W PyProof.Rows
namespace MP
section
variable {W : Wd} {L : Addr} {ok : Addr → Prop} {s : Shared} {A : Around} {Er : Value → Shared → Prop}

theorem reps_nil {h : Heap} {vs : List Value} (r : Reps W ok h [] vs) : vs = [] := by simpa [Reps] using r

theorem toInts_e {ts : List T} {l : List Int} : toInts ts = some l → ts = l.map .int := by
  induction ts generalizing l with
  | nil => intro e; cases e; rfl
  | cons t ts ih => exact fun e => oi e fun i h1 e => oe e fun l' h2 e => by cases e; rw [h1, ih h2]; rfl
theorem toStrs_e {ts : List T} {l : List (List Nat)} : toStrs ts = some l → ts = l.map .str := by
  induction ts generalizing l with
  | nil => intro e; cases e; rfl
  | cons t ts ih => exact fun e => os e fun i h1 e => oe e fun l' h2 e => by cases e; rw [h1, ih h2]; rfl
theorem toBools_e {ts : List T} {l : List Bool} : toBools ts = some l → ts = l.map .bool := by
  induction ts generalizing l with
  | nil => intro e; cases e; rfl
  | cons t ts ih => exact fun e => oB e fun i h1 e => oe e fun l' h2 e => by cases e; rw [h1, ih h2]; rfl
theorem ints_of {h : Heap} {l : List Int} : ∀ {vs : List Value}, Reps W ok h (l.map .int) vs → IntsAre vs l := by
  induction l with
  | nil => intro vs r; rw [reps_nil r]; exact .nil
  | cons i l ih =>
    intro vs r
    obtain ⟨v, r', rfl, ⟨⟨k, rfl⟩, _⟩, q⟩ := r
    exact .cons _ _ (ih q)
theorem strs_of {h : Heap} {l : List (List Nat)} : ∀ {vs : List Value}, Reps W ok h (l.map .str) vs → StrsAre vs (l.map mkS) := by
  induction l with
  | nil => intro vs r; rw [reps_nil r]; exact .nil
  | cons i l ih =>
    intro vs r
    obtain ⟨v, r', rfl, ⟨⟨k, rfl⟩, _⟩, q⟩ := r
    exact .cons _ _ (ih q)
theorem bools_of {h : Heap} {l : List Bool} : ∀ {vs : List Value}, Reps W ok h (l.map .bool) vs → vs = l.map .bool := by
  induction l with
  | nil => intro vs r; rw [reps_nil r]; rfl
  | cons i l ih =>
    intro vs r
    obtain ⟨v, r', rfl, ⟨rfl, _⟩, q⟩ := r
    rw [ih q]; rfl
theorem ints_are {h : Heap} {ts : List T} {vs : List Value} {l : List Int} (r : Reps W ok h ts vs) (e : toInts ts = some l) : IntsAre vs l := by rw [toInts_e e] at r; exact ints_of r
theorem strs_are {h : Heap} {ts : List T} {vs : List Value} {l : List (List Nat)} (r : Reps W ok h ts vs) (e : toStrs ts = some l) : StrsAre vs (l.map mkS) := by rw [toStrs_e e] at r; exact strs_of r

theorem plain_isList {h : Heap} {a : Addr} {xs : Array Value} (p : h.PlainList a xs) : h.IsList a xs := let ⟨n, e⟩ := p; ⟨_, e, rfl, n, rfl⟩
theorem fit64 {n k : Nat} (h : n + 64 < k) : n < k := Nat.lt_of_le_of_lt (Nat.le_add_right _ _) h
theorem int_beq (i j : Int) : (i == j) = decide (i = j) := rfl

theorem keq_ok {neg : Bool} {ks ls : List (List Nat)} {us xs : List Value} {a c : Addr} {ep ep' : Nat} {b r : Bool} {Q : Value → Shared → Prop} (hu : A.units < cLine) (ha : (a == sysModules) = false) (hc : (c == sysModules) = false)
    (da : s.heap.DictAt (PySem.strKind W.prog W.w) a ((ks.map mkS).zip us) ep) (dc : s.heap.DictAt (PySem.strKind W.prog W.w) c ((ls.map mkS).zip xs) ep') (la : ks.length = us.length) (lc : ls.length = xs.length)
    (hits : ks.length = ls.length → KeqHits A.in1 s ((ls.map mkS).zip xs) ((ks.map mkS).zip us) r) (hb : (ks.length == ls.length && r) = b) (hQ : Q (.bool (cond neg (!b) b)) s) :
    wpAny (model W.prog W.w) A (compareOp (cond neg .NotEq .Eq) (.ref a) (.ref c)) Q Er s := by
  have l1 : ((ks.map mkS).zip us).length = ks.length := by rw [List.length_zip, List.length_map, la, Nat.min_self]
  have l2 : ((ls.map mkS).zip xs).length = ls.length := by rw [List.length_zip, List.length_map, lc, Nat.min_self]
  subst hb
  have hits' : ((ks.map mkS).zip us).length = ((ls.map mkS).zip xs).length → KeqHits A.in1 s ((ls.map mkS).zip xs) ((ks.map mkS).zip us) r := fun q => hits (l1.symm.trans (q.trans l2))
  cases neg with
  | false => exact keq_eq ha hc da.dictOf dc.dictOf hu hits' (by rw [l1, l2]; exact hQ)
  | true => exact keq_ne ha hc da.dictOf dc.dictOf hu hits' (by rw [l1, l2]; exact hQ)

theorem eq_dict_ok {neg : Bool} {ks ls : List (List Nat)} {vs ws : List T} {b : Bool} {va vb : Value} {Q : Value → Shared → Prop} (hu : A.units + 64 < cLine) (h : dEqs ks vs ls ws = some b)
    (Ba : Body W ok s.heap (.dict ks vs) va) (Bb : Body W ok s.heap (.dict ls ws) vb) (hQ : Q (.bool (cond neg (!b) b)) s) :
    wpAny (model W.prog W.w) A (compareOp (cond neg .NotEq .Eq) va vb) Q Er s := by
  obtain ⟨a, us, ep, rfl, ha, da, la, ra⟩ := Ba
  obtain ⟨c, xs, ep', rfl, hc, dc, lc, rc⟩ := Bb
  have hu' : A.units < cLine := fit64 hu
  cases ks with
  | nil =>
    cases h
    refine keq_ok (r := true) hu' ha hc da dc la lc (fun _ => .nil) ?_ hQ
    cases ls <;> rfl
  | cons k kr =>
    cases ls with
    | nil => cases h; exact keq_ok (r := true) hu' ha hc da dc la lc (fun q => nomatch q) rfl hQ
    | cons l lr =>
      refine ge h ?_; clear h; intro h1 h
      refine o1 h ?_; clear h; intro v h2 h
      refine o1 h ?_; clear h; intro w h3 h
      refine oi h ?_; clear h; intro i h4 h
      refine oi h ?_; clear h; intro j h5 h
      cases h
      obtain ⟨h1, h1'⟩ := Bool.and_eq_true_iff.mp h1
      obtain rfl := isE h1
      obtain rfl := isE h1'
      subst h2 h3 h4 h5
      obtain ⟨_, _, rfl, ⟨⟨k1, rfl⟩, _⟩, q⟩ := ra
      obtain ⟨_, _, rfl, ⟨⟨k2, rfl⟩, _⟩, q2⟩ := rc
      obtain rfl := reps_nil q
      obtain rfl := reps_nil q2
      rw [sEq_eq] at hQ
      by_cases e : k = l
      · subst e
        have hz : SeqAt.EqAt A.in1 s (.int i k1) (.int j k2) (decide (i = j)) := SeqAt.EqAt.int_int i k1 j k2
        refine keq_ok (r := decide (i = j) && true) hu' ha hc da dc la lc (fun _ => .hit (y := .int j k2) (by simp [valueAt]) hz .nil) ?_ hQ
        rw [decide_eq_true rfl, Bool.and_true, Bool.true_and]; rfl
      · have ne : ¬ mkS l = mkS k := fun q => e (mkS_inj.1 q).symm
        refine keq_ok (r := false) hu' ha hc da dc la lc (fun _ => .miss (by simp only [List.map_cons, List.zip_cons_cons, valueAt, List.find?, decide_eq_false ne]; rfl)) ?_ hQ
        rw [decide_eq_false e]; rfl

theorem eq_lists_ok {neg : Bool} {x y : List T} {b : Bool} {va vb : Value} {Q : Value → Shared → Prop} (hu : A.units + 64 < cLine) (h : eqL x y = some b)
    (Ba : Body W ok s.heap (.list x) va) (Bb : Body W ok s.heap (.list y) vb) (hQ : Q (.bool (cond neg (!b) b)) s) :
    wpAny (model W.prog W.w) A (compareOp (cond neg .NotEq .Eq) va vb) Q Er s := by
  obtain ⟨l, vs, rfl, hl, ra⟩ := Ba
  obtain ⟨m, ws, rfl, hm, rb⟩ := Bb
  have hl' := plain_isList hl
  have hm' := plain_isList hm
  have hu' : A.units < cLine := fit64 hu
  have far : vs.toArray.size ≠ ws.toArray.size → b = false → wpAny (model W.prog W.w) A (compareOp (cond neg .NotEq .Eq) (.ref l) (.ref m)) Q Er s := by
    intro hne e
    subst e
    cases neg with
    | false => exact EqBoolInt.of_rc (SeqAt.RcAt.lists_lengths hl' hm' (bne_iff_ne.mpr hne) hu') hQ
    | true => exact EqBoolInt.of_rcne (SeqAt.RcNeAt.lists_lengths hl' hm' (bne_iff_ne.mpr hne) hu') hQ
  unfold eqL at h
  cases e1 : toInts x with
  | none =>
    rw [e1] at h
    refine ge h fun e h => far ?_ (Option.some.inj h).symm
    rw [isE e] at rb
    rw [reps_nil rb]
    cases x with
    | nil => exact nomatch e1
    | cons t x =>
      obtain ⟨v, r', rfl, _⟩ := ra
      exact fun q => nomatch q
  | some i =>
    rw [e1] at h
    cases e2 : toInts y with
    | none =>
      rw [e2] at h
      refine ge h fun e h => far ?_ (Option.some.inj h).symm
      rw [isE e] at ra
      rw [reps_nil ra]
      cases y with
      | nil => exact nomatch e2
      | cons t y =>
        obtain ⟨v, r', rfl, _⟩ := rb
        exact fun q => nomatch q
    | some j =>
      rw [e2] at h
      cases h
      rw [iEqs_eq] at hQ
      cases neg with
      | false => exact eq_intsK hl' (ints_are ra e1) hm' (ints_are rb e2) hu hQ
      | true => exact ne_intsK hl' (ints_are ra e1) hm' (ints_are rb e2) hu hQ

theorem int_bool_beq (i : Int) (j : Bool) : (i == (if j = true then 1 else 0)) = decide (i = b2i' j) := by cases j <;> rfl
theorem str_beq (x y : List Nat) : (mkS x == mkS y) = sEq x y := by rw [Bool.eq_iff_iff, sEq_iff, beq_iff_eq, mkS_inj]
theorem eq_ok {neg : Bool} {a c : T} {b : Bool} {va vb : Value} {Q : Value → Shared → Prop} (hu : A.units + 64 < cLine) (h : eqT gF a c = some b)
    (Ba : Body W ok s.heap a va) (Bb : Body W ok s.heap c vb) (hQ : Q (.bool (cond neg (!b) b)) s) :
    wpAny (model W.prog W.w) A (compareOp (cond neg .NotEq .Eq) va vb) Q Er s := by
  cases a with
  | int x =>
    obtain ⟨k, rfl⟩ := Ba
    cases c with
    | int y =>
      cases h
      obtain ⟨l, rfl⟩ := Bb
      cases neg with
      | false => exact eq_int hQ
      | true => exact ne_int hQ
    | bool y =>
      cases h
      obtain rfl := Bb
      rw [← int_bool_beq] at hQ
      cases neg with
      | false => exact EqBoolInt.eq_int_bool hQ
      | true => exact EqBoolInt.ne_int_bool hQ
    | _ => exact nomatch h
  | str x =>
    refine os h ?_; clear h; intro y e h
    cases h
    subst e
    obtain ⟨k, rfl⟩ := Ba
    obtain ⟨l, rfl⟩ := Bb
    rw [← str_beq] at hQ
    cases neg with
    | false => exact EqBoolInt.of_rc (SeqAt.RcAt.str_str _ _ _ _) hQ
    | true => exact EqBoolInt.of_rcne (SeqAt.RcNeAt.str_str _ _ _ _) hQ
  | bool x =>
    refine oB h ?_; clear h; intro y e h
    cases h
    subst e
    obtain rfl := Ba
    obtain rfl := Bb
    cases neg with
    | false => exact eq_bool hQ
    | true => exact ne_bool hQ
  | list x => exact ol h fun y e h => by subst e; exact eq_lists_ok hu h Ba Bb hQ
  | dict ks vs => exact od h fun q e h => by subst e; exact eq_dict_ok hu h Ba Bb hQ
  | _ => exact nomatch h

theorem bool_beq (k d : Bool) : ((Value.bool k) == (Value.bool d)) = (k == d) := by cases k <;> cases d <;> rfl
theorem isT_ok {neg : Bool} {a c : T} {b : Bool} {va vb : Value} {Q : Value → Shared → Prop} (h : isT a c = some b)
    (Ba : Body W ok s.heap a va) (Bb : Body W ok s.heap c vb) (hQ : Q (.bool (cond neg (!b) b)) s) :
    wpAny (model W.prog W.w) A (compareOp (cond neg .IsNot .Is) va vb) Q Er s := by
  refine oB h ?_; clear h; intro d e h
  subst e
  obtain rfl := Bb
  cases a with
  | bool k =>
    cases h
    obtain rfl := Ba
    rw [← bool_beq] at hQ
    cases neg with
    | false => exact wpAny_is_plain (by rfl) hQ
    | true => exact wpAny_isNot_plain (by rfl) hQ
  | int i =>
    cases h
    obtain ⟨k', rfl⟩ := Ba
    cases neg with
    | false => exact wpAny_is_other (by rfl) (by intro q; cases q) hQ
    | true => exact wpAny_isNot_other (by rfl) (by intro q; cases q) hQ
  | _ => exact nomatch h

theorem eqg_bool (a b : Bool) : MeetsSeq.EqGives (.bool a) (.bool b) (a == b) := fun prog w A E s Q h => SeqAt.EqAt.bool_bool a b prog w E Q h

theorem lt_ok {a c : T} {b : Bool} {va vb : Value} {Q : Value → Shared → Prop} (h : ltT gF a c = some b)
    (Ba : Body W ok s.heap a va) (Bb : Body W ok s.heap c vb) (hQ : ∀ k, Q (.bool b) { s with toks := k }) :
    wpAny (model W.prog W.w) A (compareOp .Lt va vb) Q Er s ∧ wpAny (model W.prog W.w) A (compareOp .Gt vb va) Q Er s := by
  have hQ0 : Q (.bool b) s := hQ s.toks
  cases a with
  | int x =>
    refine oi h ?_; clear h; intro y e h
    cases h
    subst e
    obtain ⟨k, rfl⟩ := Ba
    obtain ⟨l, rfl⟩ := Bb
    exact ⟨lt_int hQ0, gt_int hQ0⟩
  | str x =>
    refine os h ?_; clear h; intro y e h
    cases h
    subst e
    obtain ⟨k, rfl⟩ := Ba
    obtain ⟨l, rfl⟩ := Bb
    rw [sLt_eq] at hQ0
    exact ⟨P.lt_str hQ0, P.gt_str hQ0⟩
  | _ => exact nomatch h

theorem in_ok {a c : T} {b : Bool} {va vb : Value} {Q : Value → Shared → Prop} (h : inT gF a c = some b)
    (Ba : Body W ok s.heap a va) (Bb : Body W ok s.heap c vb) (hQ : Q (.bool b) s) :
    wpAny (model W.prog W.w) A (compareOp .In va vb) Q Er s := by
  cases a with
  | str y =>
    refine os h ?_; clear h; intro x e h
    cases h
    subst e
    obtain ⟨k, rfl⟩ := Ba
    obtain ⟨l, rfl⟩ := Bb
    refine P.in_str ?_
    rw [mkS_len]; exact hQ
  | bool b' =>
    refine ol h ?_; clear h; intro xs e h
    refine oe h ?_; clear h; intro l e1 h
    cases h
    subst e
    obtain rfl := Ba
    obtain ⟨m, ws, rfl, hm, rb⟩ := Bb
    rw [toBools_e e1] at rb
    obtain rfl := bools_of rb
    refine SeqInW.in_listW (fun v => match v with | .bool k => k == b' | _ => false) (fun y hy => ?_) (plain_isList hm) ?_
    · obtain ⟨k, _, rfl⟩ := List.mem_map.mp (List.mem_toArray.mp hy)
      exact eqg_bool k b'
    · rw [List.any_toArray, List.any_map]; exact hQ
  | _ => exact nomatch h

theorem cmp_ok {op : CmpOp} {a c : T} {b : Bool} {va vb : Value} {Q : Value → Shared → Prop} (hu : A.units + 64 < cLine) (h : cmpT gF op a c = some b)
    (Ba : Body W ok s.heap a va) (Bb : Body W ok s.heap c vb) (hQ : ∀ k, Q (.bool b) { s with toks := k }) :
    wpAny (model W.prog W.w) A (compareOp op va vb) Q Er s := by
  have hQ0 : Q (.bool b) s := hQ s.toks
  cases op with
  | Eq => exact eq_ok (neg := false) hu h Ba Bb hQ0
  | NotEq =>
    refine oe h ?_; clear h; intro x e h
    cases h
    exact eq_ok (neg := true) hu e Ba Bb hQ0
  | Lt => exact (lt_ok h Ba Bb hQ).1
  | Gt => exact (lt_ok h Bb Ba hQ).2
  | GtE =>
    refine oi h ?_; clear h; intro x e h
    refine oi h ?_; clear h; intro y e' h
    cases h
    subst e e'
    obtain ⟨k, rfl⟩ := Ba
    obtain ⟨l, rfl⟩ := Bb
    exact ge_int hQ0
  | In => exact in_ok h Ba Bb hQ0
  | NotIn =>
    refine os h ?_; clear h; intro x e h
    refine os h ?_; clear h; intro y e' h
    cases h
    subst e e'
    obtain ⟨k, rfl⟩ := Ba
    obtain ⟨l, rfl⟩ := Bb
    refine P.notIn_str ?_
    rw [mkS_len]; exact hQ0
  | Is => exact isT_ok (neg := false) h Ba Bb hQ0
  | IsNot =>
    refine oe h ?_; clear h; intro x e h
    cases h
    exact isT_ok (neg := true) e Ba Bb hQ0
  | _ => exact nomatch h

theorem isEmpty_len (x : List Nat) : (((mkS x).length : Int) != 0) = !x.isEmpty := by rw [mkS_len]; cases x <;> rfl
theorem truth_ok {t : T} {b : Bool} {v : Value} {Q : Bool → Shared → Prop} (h : truthT gF t = some b) (B : Body W ok s.heap t v) (hQ : ∀ k, Q b { s with toks := k }) :
    wpAny (model W.prog W.w) A (truthy v) Q Er s := by
  cases t with
  | bool x => cases h; obtain rfl := B; exact wpAny_truthy_bool (hQ s.toks)
  | str x =>
    refine ge h ?_; clear h; intro hs h
    cases h
    obtain ⟨k, rfl⟩ := B
    have := lenOk_le hs
    exact P.truthy_str (by rw [mkS_len]; omega) (isEmpty_len x ▸ hQ _)
  | _ => exact nomatch h
end
end MP
end

section -- MpIdx
open PySem PySem.W PyProof.Rows
namespace MP
section
variable {W : Wd} {L : Addr} {ok : Addr → Prop} {s : Shared} {A : Around} {Er : Value → Shared → Prop}

theorem place_lt {k : Int} {n j : Nat} (h : place k n = some j) : j < n ∧ ((0 ≤ k ∧ k.toNat = j) ∨ (k < 0 ∧ -(n : Int) ≤ k ∧ (k + n).toNat = j)) := by
  unfold place at h
  cases k with
  | ofNat i =>
    dsimp only at h
    split at h
    · rename_i q
      cases h
      rw [Nat.blt_eq] at q
      exact ⟨q, .inl ⟨Int.natCast_nonneg _, rfl⟩⟩
    · first | exact nomatch h | cases h
  | negSucc i =>
    dsimp only at h
    split at h
    · rename_i q
      cases h
      rw [Nat.blt_eq] at q
      refine ⟨by omega, .inr ⟨Int.negSucc_lt_zero _, by omega, by omega⟩⟩
    · first | exact nomatch h | cases h

theorem reps_get {h : Heap} : ∀ {ts : List T} {vs : List Value} {j : Nat} {t : T}, Reps W ok h ts vs → ts[j]? = some t → ∃ v, vs[j]? = some v ∧ Rep W ok h t v
  | [], _, j, t, _, e => by simp at e
  | u :: ts, vs, j, t, r, e => by
    obtain ⟨v, r', rfl, x, q⟩ := reps_cons r
    cases j with
    | zero => simp at e; subst e; exact ⟨v, by simp, x⟩
    | succ j => simpa using reps_get q (by simpa using e)

theorem zip_find (k : List Nat) {h : Heap} : ∀ {ks : List (List Nat)} {ts : List T} {vs : List Value} {t : T}, ks.length = vs.length → Reps W ok h ts vs → lookS ks ts k = some t →
    ∃ v, valueAt ((ks.map mkS).zip vs) (mkS k) = some v ∧ Rep W ok h t v
  | [], _, _, _, _, _, e => by simp [lookS] at e
  | x :: ks, [], vs, t, l, r, e => by simp [lookS] at e
  | x :: ks, u :: ts, vs, t, l, r, e => by
    obtain ⟨v, r', rfl, y, q⟩ := reps_cons r
    simp only [lookS] at e
    cases hx : sEq x k with
    | true =>
      rw [hx] at e; cases e
      rw [sEq_iff] at hx; subst hx
      exact ⟨v, by simp [valueAt], y⟩
    | false =>
      rw [hx] at e
      have ne : mkS x ≠ mkS k := fun q => by rw [mkS_inj] at q; subst q; rw [(sEq_iff x x).2 rfl] at hx; cases hx
      obtain ⟨v', e', y'⟩ := zip_find k (by simpa using l) q e
      refine ⟨v', ?_, y'⟩
      simpa [valueAt, ne] using e'
theorem zip_find_none (k : List Nat) {h : Heap} : ∀ {ks : List (List Nat)} {ts : List T} {vs : List Value}, ks.length = vs.length → Reps W ok h ts vs → lookS ks ts k = none →
    valueAt ((ks.map mkS).zip vs) (mkS k) = none
  | [], _, _, _, _, _ => by simp [valueAt]
  | x :: ks, [], vs, l, r, e => by rw [reps_nil r] at l; simp at l
  | x :: ks, u :: ts, vs, l, r, e => by
    obtain ⟨v, r', rfl, y, q⟩ := reps_cons r
    simp only [lookS] at e
    cases hx : sEq x k with
    | true => rw [hx] at e; cases e
    | false =>
      rw [hx] at e
      have ne : mkS x ≠ mkS k := fun q => by rw [mkS_inj] at q; subst q; rw [(sEq_iff x x).2 rfl] at hx; cases hx
      simpa [valueAt, ne] using zip_find_none k (by simpa using l) q e

theorem Res.of_rep {t : T} {v : Value} {k : Nat} (r : Rep W ok s.heap t v) : Res W L ok s false t v { s with toks := k } := ⟨Grown.refl.gl, ⟨rfl, rfl⟩, r⟩

/-- an item -/
theorem idx_ok {a i : T} {r : T × Bool} {va vi : Value} {value slice : PySem.Expr} {Q : Value → Shared → Prop} (h : subT gF a i = some r) (Ba : Body W ok s.heap a va) (Bi : Body W ok s.heap i vi)
    (hs : ∀ o j, subscripted slice false o j = operate [o, j] (getItem o j)) (hQ : ∀ v s', Res W L ok s r.2 r.1 v s' → Q v s') :
    wpAny (model W.prog W.w) A (subscriptTail value slice va vi) Q Er s := by
  refine oe h ?_; clear h; intro t h h'
  cases h'
  cases a with
  | list xs =>
    refine oi h ?_; clear h; intro k e h
    refine ge h ?_; clear h; intro hl h
    refine oe h ?_; clear h; intro j hj h
    subst e
    obtain ⟨l, vs, rfl, pl, ra⟩ := Ba
    obtain ⟨u, rfl⟩ := Bi
    obtain ⟨v, e, r⟩ := reps_get ra h
    have PL := plain_isList pl
    have hle := lenOk_le hl
    have hn := reps_len ra
    obtain ⟨hlt, q⟩ := place_lt hj
    refine tail_any PL.typeIs slot_list_getitem.lookup ?_ (hs _ _)
    rcases q with ⟨h0, rfl⟩ | ⟨h0, h1, rfl⟩
    · exact wpAny_getItem_list PL h0 (by omega) (by simpa using e) (hQ _ _ (.of_rep (k := s.toks) r))
    · refine wpAny_getItem_list_neg PL h0 (by simpa [hn] using h1) (by omega) ?_ (hQ _ _ (.of_rep (k := s.toks) r))
      rw [List.size_toArray, ← hn]
      simpa using e
  | str x =>
    refine oi h ?_; clear h; intro k e h
    refine ge h ?_; clear h; intro hl h
    refine on h ?_; clear h; intro n e' h
    refine oe h ?_; clear h; intro c hc h
    cases h
    subst e e'
    obtain ⟨k1, rfl⟩ := Ba
    obtain ⟨u, rfl⟩ := Bi
    have hle : x.length ≤ 1048576 := lenOk_le hl
    have hlt := (List.getElem?_eq_some_iff.mp hc).1
    refine tail_any (typeIs_str s _ _) PySem.F.slot_str_getitem.lookup ?_ (hs _ _)
    refine P.getItem_str (c := c) ?_ ?_ (hQ _ _ (.str .refl ⟨rfl, rfl⟩))
    · simp only [Bool.or_eq_false_iff, decide_eq_false_iff_not, Int.ofNat_eq_natCast]; omega
    · exact StrLaws.at_nonneg (Int.natCast_nonneg _) (by simpa [mkS] using hc)
  | dict ks ts =>
    refine os h ?_; clear h; intro k e h
    subst e
    obtain ⟨d, vs, ep, rfl, hsys, da, la, ra⟩ := Ba
    obtain ⟨u, rfl⟩ := Bi
    obtain ⟨v, e, r⟩ := zip_find k la ra h
    have hm := da.dictOf.mapOf
    exact tail_any hm.typeIs slot_dict_getitem.lookup (wpAny_getItem_of (strKind_is _ _ _ _) hm e (hQ _ _ (.of_rep r))) (hs _ _)
  | _ => exact nomatch h

theorem cutH_e {α : Type} {xs ys : List α} {hi : Option Int} (h : cutH xs hi = some ys) : ys = xs.take (hi.elim xs.length (clipAt xs.length)) ∧ hi.elim xs.length (clipAt xs.length) ≤ xs.length := by
  cases hi with
  | none => cases h; exact ⟨List.take_length.symm, Nat.le_refl _⟩
  | some i =>
    refine on h ?_; clear h; intro n e h
    cases h
    subst e
    show _ = xs.take (clipAt xs.length (n : Int)) ∧ clipAt xs.length (n : Int) ≤ _
    rw [clipAt_nat, W.kmk_take_min]
    exact ⟨rfl, Nat.min_le_right _ _⟩
theorem drop_min {α : Type} {ys : List α} {n : Nat} (a : Nat) (h : ys.length ≤ n) : ys.drop a = ys.drop (min a n) := by
  rw [← W.kmk_drop_min ys a, ← W.kmk_drop_min ys (min a n), Nat.min_assoc, Nat.min_eq_right h]
theorem cutL_e {α : Type} {xs ys : List α} {lo hi : Option Int} (h : cutL xs lo hi = some ys) : hi.elim xs.length (clipAt xs.length) ≤ xs.length ∧ ys = (xs.drop (lo.elim 0 (clipAt xs.length))).take (hi.elim xs.length (clipAt xs.length) - lo.elim 0 (clipAt xs.length)) := by
  refine oe h ?_; clear h; intro zs hz h
  obtain ⟨e, hb⟩ := cutH_e hz
  refine ⟨hb, ?_⟩
  rw [← List.drop_take, ← e]
  cases lo with
  | none => exact (Option.some.inj h).symm
  | some i =>
    refine on h ?_; clear h; intro n e' h
    cases h
    subst e'
    show _ = zs.drop (clipAt xs.length (n : Int))
    rw [clipAt_nat]
    exact drop_min n (by rw [e]; exact List.length_take_le' _ _)
theorem picked_str {xs ys : List Nat} {l u : Option (Int × Tok)} (h : cutL xs (l.map (·.1)) (u.map (·.1)) = some ys) : (slicePicked (mkS xs) l u none).filterMap ((mkS xs).cps[·]?) = ys ∧ ((slicePicked (mkS xs) l u none).length = xs.length → ys = xs) ∧ ys.length ≤ xs.length := by
  obtain ⟨h1, h2⟩ := cutL_e h
  have e : slicePicked (mkS xs) l u none = (List.range ((u.map (·.1)).elim xs.length (clipAt xs.length) - (l.map (·.1)).elim 0 (clipAt xs.length))).map ((l.map (·.1)).elim 0 (clipAt xs.length) + ·) := by
    show sliceRange (sliceBounds (l.map (·.1)) (u.map (·.1)) none (mkS xs).length).1 (sliceBounds (l.map (·.1)) (u.map (·.1)) none (mkS xs).length).2.1 (sliceBounds (l.map (·.1)) (u.map (·.1)) none (mkS xs).length).2.2 = _
    rw [mkS_len, sliceBounds_plain]
    exact sliceRange_one _ _
  rw [e, pick_run, h2]
  refine ⟨rfl, fun q => ?_, Nat.le_trans (List.length_take_le' _ _) (by rw [List.length_drop]; exact Nat.sub_le _ _)⟩
  rw [List.length_map, List.length_range] at q
  have ha : (l.map (·.1)).elim 0 (clipAt xs.length) = 0 ∨ xs.length = 0 := by omega
  rcases ha with ha | ha
  · rw [ha] at q ⊢
    rw [q]; exact List.take_length
  · rw [List.eq_nil_of_length_eq_zero ha]; simp
end
end MP
end

section -- MpSlc
open PySem PySem.W PyProof.Rows
namespace MP
section
variable {W : Wd} {L : Addr} {ok : Addr → Prop} {s : Shared} {A : Around} {Er : Value → Shared → Prop}

noncomputable def PartV (lo : Option Int) (v : Value) : Prop := match lo with
  | none => v = .none
  | some i => ∃ k, v = .int i k
theorem PartV.is {lo : Option Int} {v : Value} (p : PartV lo v) : IsPart v lo := by
  cases lo with
  | none => cases p; exact .none
  | some i => obtain ⟨k, rfl⟩ := p; exact .int i k
theorem PartV.tok {lo : Option Int} {v : Value} (p : PartV lo v) : ∃ l : Option (Int × Tok), partValue l = v ∧ l.map (·.1) = lo := by
  cases lo with
  | none => cases p; exact ⟨none, rfl, rfl⟩
  | some i => obtain ⟨k, rfl⟩ := p; exact ⟨some (i, k), rfl, rfl⟩

theorem reps_take {h : Heap} : ∀ {ts : List T} {vs : List Value} (n : Nat), Reps W ok h ts vs → Reps W ok h (ts.take n) (vs.take n)
  | _, _, 0, _ => by simp [Reps]
  | [], vs, n + 1, r => by rw [reps_nil r]; simp [Reps]
  | t :: ts, vs, n + 1, r => by
    obtain ⟨v, r', rfl, x, q⟩ := reps_cons r
    simp only [List.take_succ_cons, Reps]
    exact ⟨v, _, rfl, x, reps_take n q⟩
theorem reps_drop {h : Heap} : ∀ {ts : List T} {vs : List Value} (n : Nat), Reps W ok h ts vs → Reps W ok h (ts.drop n) (vs.drop n)
  | _, _, 0, r => by simpa using r
  | [], vs, n + 1, r => by rw [reps_nil r]; simp [Reps]
  | t :: ts, vs, n + 1, r => by
    obtain ⟨v, r', rfl, x, q⟩ := reps_cons r
    simpa using reps_drop n q
theorem reps_rev {h : Heap} : ∀ {ts : List T} {vs : List Value}, Reps W ok h ts vs → Reps W ok h ts.reverse vs.reverse
  | [], vs, r => by rw [reps_nil r]; simp [Reps]
  | t :: ts, vs, r => by
    obtain ⟨v, r', rfl, x, q⟩ := reps_cons r
    simp only [List.reverse_cons]
    exact reps_append (reps_rev q) (by simp only [Reps]; exact ⟨v, [], rfl, x, rfl⟩)

/-- a new list -/
theorem Res.newList {ts : List T} {vs : List Value} {k : Nat} (r : Reps W ok s.heap ts vs) :
    Res W L ok s true (.list ts) (.ref s.heap.objs.size) { s with heap := s.heap.push { cls := .type "list", data := .seq vs.toArray }, toks := k } := by
  refine ⟨(Grown.push _).gl, ⟨rfl, rfl⟩, s.heap.objs.size, rfl, (by intro g q; cases q), plainNoCell ⟨0, Heap.get?_push_size _ rfl⟩, get?_big (Nat.le_refl _), ?_⟩
  exact ⟨_, _, rfl, ⟨0, Heap.get?_push_size _ rfl⟩, reps_tr (Grown.trNew (.push _) (get?_big (Nat.le_refl _))) r⟩

theorem slice_ok {a : T} {lo hi : Option Int} {r : T × Bool} {va vl vh : Value} {sl : Addr} {value slice : PySem.Expr} {Q : Value → Shared → Prop} (h : sliceT gF a lo hi = some r) (Ba : Body W ok s.heap a va)
    (pl : PartV lo vl) (ph : PartV hi vh) (hsl : s.heap.get? sl = some { cls := .type "slice", data := .fields #[vl, vh, .none] })
    (hs : ∀ o j, subscripted slice false o j = operate [j, o] (getItem o j)) (hQ : ∀ v s', Res W L ok s r.2 r.1 v s' → Q v s') :
    wpAny (model W.prog W.w) A (subscriptTail value slice va (.ref sl)) Q Er s := by
  cases a with
  | list xs =>
    refine ge h ?_; clear h; intro hl h
    refine oe h ?_; clear h; intro ys hc h
    cases h
    obtain ⟨l, vs, rfl, p, ra⟩ := Ba
    have PL := plain_isList p
    have hle := lenOk_le hl
    have hn := reps_len ra
    refine tail_any PL.typeIs slot_list_getitem.lookup ?_ (hs _ _)
    refine wpAny_getItem_list_slice PL ⟨_, hsl, rfl, rfl⟩ pl.is ph.is IsPart.none (by intro q; cases q) ?_ (by rw [List.size_toArray, ← hn, sizeLine_v]; exact Nat.le_trans hle (by decide))
    rw [slicePick_plain, show vs.toArray.size = xs.length from List.size_toArray.trans hn.symm]
    rw [(cutL_e hc).2] at hQ
    exact hQ _ _ (Res.newList (k := s.toks) (reps_take _ (reps_drop _ ra)))
  | str xs =>
    refine ge h ?_; clear h; intro hl h
    refine oe h ?_; clear h; intro ys hc h
    cases h
    obtain ⟨k, rfl⟩ := Ba
    have hle : xs.length ≤ 1048576 := lenOk_le hl
    obtain ⟨l, rfl, rfl⟩ := pl.tok
    obtain ⟨u, rfl, rfl⟩ := ph.tok
    refine tail_any (typeIs_str s _ _) PySem.F.slot_str_getitem.lookup ?_ (hs _ _)
    refine wpAny_getItem_str_slice (l := l) (u := u) (st := none) ⟨_, hsl, rfl, rfl⟩ (by rfl) ?_
    obtain ⟨e1, e2, e3⟩ := picked_str hc
    unfold sliceMade
    split
    · rename_i hfull
      simp only [Bool.and_eq_true, beq_iff_eq, mkS_len] at hfull
      rw [e2 hfull.2] at hQ
      exact hQ _ _ (.str .refl ⟨rfl, rfl⟩)
    · rw [e1]
      refine ⟨?_, hQ _ _ (.str .refl ⟨rfl, rfl⟩)⟩
      show (mkS ys).length ≤ _
      rw [mkS_len, sizeLine_v]
      exact Nat.le_trans e3 (Nat.le_trans hle (by decide))
  | _ => exact nomatch h

theorem rev_ok {a : T} {r : T × Bool} {va : Value} {k : Nat} {sl : Addr} {value slice : PySem.Expr} {Q : Value → Shared → Prop} (h : revT a = some r) (Ba : Body W ok s.heap a va)
    (hsl : s.heap.get? sl = some { cls := .type "slice", data := .fields #[.none, .none, .int (-1) k] })
    (hs : ∀ o j, subscripted slice false o j = operate [o, j] (getItem o j)) (hQ : ∀ v s', Res W L ok s r.2 r.1 v s' → Q v s') :
    wpAny (model W.prog W.w) A (subscriptTail value slice va (.ref sl)) Q Er s := by
  refine ol h ?_; clear h; intro xs e h
  refine ge h ?_; clear h; intro hl h
  cases h
  subst e
  obtain ⟨l, vs, rfl, p, ra⟩ := Ba
  have PL := plain_isList p
  have hle := lenOk_le hl
  have hn := reps_len ra
  refine tail_any PL.typeIs slot_list_getitem.lookup ?_ (hs _ _)
  refine wpAny_getItem_list_slice PL ⟨_, hsl, rfl, rfl⟩ IsPart.none IsPart.none (IsPart.int (-1) k) (by intro q; cases q) ?_ (by rw [List.size_toArray, ← hn, sizeLine_v]; exact Nat.le_trans hle (by decide))
  rw [krv_pick]
  exact hQ _ _ (Res.newList (k := s.toks) (reps_rev ra))
end
end MP
end

section -- MpBi
open PySem PySem.W PyProof.Rows
namespace MP
section
variable {W : Wd} {L : Addr} {ok : Addr → Prop} {s : Shared} {A : Around} {Er : Value → Shared → Prop}

noncomputable def biVal : BI → Value
  | .len => .builtin "len"
  | .range => .type "range"
  | .sorted => .builtin "sorted"
  | .max => .builtin "max"
  | .sum => .builtin "sum"
  | .abs => .builtin "abs"
  | .chr => .builtin "chr"
  | .list => .type "list"

theorem ints_items {vs : List Value} {l : List Int} (h : IntsAre vs l) : ∃ xs : Array (Int × Tok), vs.toArray = intItems xs ∧ xs.toList.map (·.1) = l := by
  induction h with
  | nil => exact ⟨#[], by simp [intItems], rfl⟩
  | cons n t _ ih =>
    obtain ⟨xs, e1, e2⟩ := ih
    refine ⟨((n, t) :: xs.toList).toArray, ?_, by simp [e2]⟩
    have e3 := congrArg Array.toList e1
    simp only [intItems] at e3 ⊢
    apply Array.toList_inj.mp
    simp at e3 ⊢
    exact e3

theorem maxI_spec : ∀ (l : List Int) (x : Int), maxI x l ∈ x :: l ∧ ∀ a ∈ x :: l, a ≤ maxI x l
  | [], x => by simp [maxI]
  | y :: r, x => by
    unfold maxI
    split
    · rename_i h
      have h := of_decide_eq_true h
      obtain ⟨h1, h2⟩ := maxI_spec r y
      refine ⟨List.mem_cons_of_mem _ h1, fun a ha => ?_⟩
      rcases List.mem_cons.mp ha with rfl | ha
      · exact Int.le_trans (Int.le_of_lt h) (h2 y (.head _))
      · exact h2 a ha
    · rename_i h
      have h := of_decide_eq_false h
      obtain ⟨h1, h2⟩ := maxI_spec r x
      refine ⟨?_, fun a ha => ?_⟩
      · rcases List.mem_cons.mp h1 with q | q
        · rw [q]; exact .head _
        · exact List.mem_cons_of_mem _ (List.mem_cons_of_mem _ q)
      · rcases List.mem_cons.mp ha with rfl | ha
        · exact h2 _ (.head _)
        · rcases List.mem_cons.mp ha with rfl | ha
          · have := h2 x (.head _); omega
          · exact h2 a (List.mem_cons_of_mem _ ha)
theorem sumI_eq : ∀ l : List Int, sumI l = l.sum
  | [] => rfl
  | x :: r => by simp [sumI, sumI_eq r]

theorem insI_perm (x : Int) : ∀ l, (insI x l).Perm (x :: l)
  | [] => .refl _
  | y :: r => by
    unfold insI
    split
    · exact .refl _
    · exact ((insI_perm x r).cons y).trans (.swap x y r)
theorem sortI_perm : ∀ l, (sortI l).Perm l
  | [] => .refl _
  | x :: r => (insI_perm x _).trans ((sortI_perm r).cons x)
theorem insI_sorted (x : Int) : ∀ l, l.Pairwise (· ≤ ·) → (insI x l).Pairwise (· ≤ ·)
  | [], _ => by simp [insI]
  | y :: r, h => by
    unfold insI
    split
    · rename_i q
      have q := of_decide_eq_true q
      refine .cons (fun z hz => ?_) h
      rcases List.mem_cons.mp hz with rfl | hz
      · exact q
      · exact Int.le_trans q (List.rel_of_pairwise_cons h hz)
    · rename_i q
      have q := of_decide_eq_false q
      refine .cons (fun z hz => ?_) (insI_sorted x r (List.Pairwise.of_cons h))
      rcases List.mem_cons.mp ((insI_perm x r).mem_iff.mp hz) with rfl | hz
      · omega
      · exact List.rel_of_pairwise_cons h hz
theorem sortI_sorted : ∀ l, (sortI l).Pairwise (· ≤ ·)
  | [] => .nil
  | x :: r => insI_sorted x _ (sortI_sorted r)
theorem sorted_unique {l l' : List Int} (p : l.Perm l') (h : l.Pairwise (· ≤ ·)) (h' : l'.Pairwise (· ≤ ·)) : l = l' :=
  p.eq_of_pairwise (fun a b _ _ h1 h2 => Int.le_antisymm h1 h2) h h'

theorem ints_reps {h : Heap} {vs : List Value} {l : List Int} (x : IntsAre vs l) : Reps W ok h (l.map .int) vs := by
  induction x with
  | nil => simp [Reps]
  | cons n t _ ih =>
    simp only [List.map_cons, Reps]
    exact ⟨_, _, rfl, ⟨⟨t, rfl⟩, okv_of fun a e => by cases e⟩, ih⟩

theorem chars_reps {h : Heap} : ∀ {vs : List Value} {l : List Nat}, CarriedAll vs ((l.map fun n => (⟨#[n]⟩ : Str)).map .str) → Reps W ok h (charsT l) vs
  | vs, [], x => by cases x; simp [charsT, Reps]
  | vs, c :: r, x => by
    cases x with
    | cons a b =>
      simp only [charsT, List.map_cons, Reps]
      cases a
      exact ⟨_, _, rfl, ⟨⟨_, rfl⟩, okv_of fun a e => by cases e⟩, chars_reps b⟩

theorem sLt_lt {a b : List Nat} : sLt a b = true ↔ a < b := by rw [sLt_eq]; simp
theorem ltCps_eq : ∀ a b : List Nat, PySem.Spec.ltCps a b = sLt a b
  | [], [] => rfl
  | [], _ :: _ => rfl
  | _ :: _, [] => rfl
  | a :: r, b :: t => by
    simp only [PySem.Spec.ltCps, sLt]
    rw [ltCps_eq r t]
    have h1 : Nat.blt a b = decide (a < b) := by rw [Bool.eq_iff_iff, Nat.blt_eq]; simp
    have h2 : Nat.beq a b = (a == b) := by rw [Bool.eq_iff_iff, Nat.beq_eq]; simp
    rw [h1, h2]
    cases decide (a < b) <;> cases (a == b) <;> rfl

noncomputable def SortedS (l : List (List Nat)) : Prop := l.Pairwise fun a b => sLt b a = false
theorem sLt_irrefl (a : List Nat) : sLt a a = false := by
  rw [sLt_eq]; simp [List.lt_irrefl]
theorem sLt_trans {a b c : List Nat} (h1 : sLt a b = false) (h2 : sLt b c = false) : sLt a c = false := by
  rw [sLt_eq, decide_eq_false_iff_not] at *
  rw [List.not_lt] at *
  exact List.le_trans h2 h1
theorem sLt_antisymm {a b : List Nat} (h1 : sLt a b = false) (h2 : sLt b a = false) : a = b := by
  rw [sLt_eq, decide_eq_false_iff_not, List.not_lt] at *
  exact List.le_antisymm h2 h1
theorem rising_pairwise : ∀ (l : List (List Nat)) (p : List Nat), PyProof.Rows.risingS (mkS p) (l.map mkS) = true → SortedS (p :: l)
  | [], p, _ => by simp [SortedS]
  | x :: r, p, h => by
    simp only [List.map_cons, PyProof.Rows.risingS, Bool.and_eq_true, Bool.not_eq_true', mkS_cps, ltCps_eq] at h
    have ih := rising_pairwise r x h.2
    refine .cons (fun y hy => ?_) ih
    rcases List.mem_cons.mp hy with rfl | hy
    · exact h.1
    · exact sLt_trans (List.rel_of_pairwise_cons ih hy) h.1
theorem insS_perm (x : List Nat) : ∀ l, (insS x l).Perm (x :: l)
  | [] => .refl _
  | y :: r => by
    unfold insS
    split
    · exact ((insS_perm x r).cons y).trans (.swap x y r)
    · exact .refl _
theorem sortS_perm : ∀ l, (sortS l).Perm l
  | [] => .refl _
  | x :: r => (insS_perm x _).trans ((sortS_perm r).cons x)
theorem insS_sorted (x : List Nat) : ∀ l, SortedS l → SortedS (insS x l)
  | [], _ => by simp [insS, SortedS]
  | y :: r, h => by
    unfold insS
    split
    · rename_i q
      refine .cons (fun z hz => ?_) (insS_sorted x r (List.Pairwise.of_cons h))
      rcases List.mem_cons.mp ((insS_perm x r).mem_iff.mp hz) with rfl | hz
      · rw [sLt_eq] at q ⊢
        have q := of_decide_eq_true q
        rw [decide_eq_false_iff_not]
        exact fun k => List.lt_irrefl _ (List.lt_trans q k)
      · exact List.rel_of_pairwise_cons h hz
    · rename_i q
      refine .cons (fun z hz => ?_) h
      rcases List.mem_cons.mp hz with rfl | hz
      · exact q
      · exact sLt_trans (List.rel_of_pairwise_cons h hz) q
theorem sortS_sorted : ∀ l, SortedS (sortS l)
  | [] => .nil
  | x :: r => insS_sorted x _ (sortS_sorted r)
theorem sortedS_unique {l l' : List (List Nat)} (p : l.Perm l') (h : SortedS l) (h' : SortedS l') : l = l' :=
  p.eq_of_pairwise (fun a b _ _ h1 h2 => sLt_antisymm h2 h1) h h'

theorem strs_reps {h : Heap} {vs : List Value} {l : List (List Nat)} : ∀ {ss : List Str}, StrsAre vs ss → ss = l.map mkS → Reps W ok h (l.map .str) vs := by
  induction l generalizing vs with
  | nil => intro ss x e; subst e; cases x; simp [Reps]
  | cons a r ih =>
    intro ss x e
    subst e
    cases x with
    | cons y t x =>
      simp only [List.map_cons, Reps]
      exact ⟨_, _, rfl, ⟨⟨t, rfl⟩, okv_of fun a e => by cases e⟩, ih x rfl⟩

theorem mkS_toList (x : Str) : mkS x.cps.toList = x := by cases x; simp [mkS]

theorem Res.fresh {s' : Shared} {ts : List T} {vs : List Value} {a : Addr} (g : Grown s.heap s'.heap) (al : Alike s s') (ha : s.heap.get? a = none) (p : s'.heap.PlainList a vs.toArray)
    (r : Reps W (fun b => ok b ∧ b ≠ a) s'.heap ts vs) : Res W L ok s true (.list ts) (.ref a) s' := by
  refine ⟨g.gl, al, a, rfl, (by intro g q; cases q), plainNoCell p, ha, ?_⟩
  simp only [Body]
  exact ⟨_, _, rfl, p, r⟩

theorem bodies_one {h : Heap} {t : T} {vs : List Value} (x : Bodies W ok h [t] vs) : ∃ v, vs = [v] ∧ Body W ok h t v := by
  cases x with
  | cons a b => cases b; exact ⟨_, rfl, a⟩
theorem bodies_two {h : Heap} {t u : T} {vs : List Value} (x : Bodies W ok h [t, u] vs) : ∃ v w, vs = [v, w] ∧ Body W ok h t v ∧ Body W ok h u w := by
  cases x with
  | cons a b => obtain ⟨w, rfl, c⟩ := bodies_one b; exact ⟨_, _, rfl, a, c⟩
theorem bodies_three {h : Heap} {t u z : T} {vs : List Value} (x : Bodies W ok h [t, u, z] vs) : ∃ v w y, vs = [v, w, y] ∧ Body W ok h t v ∧ Body W ok h u w ∧ Body W ok h z y := by
  cases x with
  | cons a b => obtain ⟨w, y, rfl, c, d⟩ := bodies_two b; exact ⟨_, _, _, rfl, a, c, d⟩

theorem max_is {ys : Array (Int × Tok)} {x : Int} {l : List Int} (e3 : ys.toList.map (·.1) = x :: l) : numAt ys (argBest (fun i j => decide (numAt ys i > numAt ys j)) (ys.size - 1)) = maxI x l := by
  have hlen : ys.size = (x :: l).length := by rw [← e3]; simp
  obtain ⟨h1, h2⟩ := argBest_gt (numAt ys) (ys.size - 1)
  obtain ⟨m1, m2⟩ := maxI_spec l x
  have hp : 1 ≤ ys.size := by rw [hlen]; exact Nat.succ_le_succ (Nat.zero_le _)
  apply Int.le_antisymm
  · refine m2 _ ?_
    rw [numAt_eq, e3]
    exact PySem.getD_mem (by rw [← hlen]; exact Nat.lt_of_le_of_lt h1 (Nat.sub_lt hp Nat.one_pos))
  · obtain ⟨j, hj, e5⟩ := mem_getD m1
    rw [← e5, ← e3, ← numAt_eq]
    exact h2 j (Nat.le_sub_one_of_lt (by rw [hlen]; exact hj))
theorem abs_is (i : Int) : (if i < 0 then -i else i) = absI i := by
  cases i with
  | ofNat n => exact if_neg (Int.not_lt.mpr (Int.natCast_nonneg n))
  | negSucc n => exact if_pos (Int.negSucc_lt_zero n)
theorem strs_back (ss : List Str) : ss = (ss.map fun x => x.cps.toList).map mkS := by
  rw [List.map_map]
  exact (List.map_id ss).symm.trans (List.map_congr_left fun x _ => (mkS_toList x).symm)
theorem strs_fwd (l : List (List Nat)) : (l.map mkS).map (fun x : Str => x.cps.toList) = l := by
  rw [List.map_map]
  exact (List.map_congr_left fun x _ => mkS_cps x).trans (List.map_id l)
theorem sorted_is {l : List (List Nat)} {ss : List Str} (x2 : ss.Perm (l.map mkS)) (x3 : sortedS ss = true) : ss = (sortS l).map mkS := by
  have e3 := strs_back ss
  have perm : (ss.map fun x => x.cps.toList).Perm l := strs_fwd l ▸ x2.map fun x => x.cps.toList
  have srt : SortedS (ss.map fun x => x.cps.toList) := by
    rw [e3] at x3
    cases hs : ss.map fun x => x.cps.toList with
    | nil => exact .nil
    | cons a r =>
      rw [hs] at x3
      exact rising_pairwise r a x3
  rw [e3, sortedS_unique (perm.trans (sortS_perm l).symm) srt (sortS_sorted l)]

theorem one_of {h : Heap} {ts : List T} {t : T} {vs : List Value} (Bs : Bodies W ok h ts vs) (e : ts = [t]) : ∃ v, vs = [v] ∧ Body W ok h t v := by subst e; exact bodies_one Bs
theorem two_of {h : Heap} {ts : List T} {t u : T} {vs : List Value} (Bs : Bodies W ok h ts vs) (e : ts = [t, u]) : ∃ v w, vs = [v, w] ∧ Body W ok h t v ∧ Body W ok h u w := by subst e; exact bodies_two Bs
theorem three_of {h : Heap} {ts : List T} {t u z : T} {vs : List Value} (Bs : Bodies W ok h ts vs) (e : ts = [t, u, z]) : ∃ v w y, vs = [v, w, y] ∧ Body W ok h t v ∧ Body W ok h u w ∧ Body W ok h z y := by subst e; exact bodies_three Bs

theorem len_ok {t : T} {v : Value} {r : T × Bool} {Q : Value → Shared → Prop} (h : lenT gF t = some r) (B : Body W ok s.heap t v) (hQ : ∀ v s', Res W L ok s r.2 r.1 v s' → Q v s') :
    wpAny (model W.prog W.w) A (call (.builtin "len") [v]) Q Er s := by
  cases t with
  | list xs =>
    refine ge h ?_; clear h; intro hl h
    cases h
    obtain ⟨l, vs, rfl, p, r⟩ := B
    have hle := lenOk_le hl
    have hn := reps_len r
    refine Calls.call_len_list (plain_isList p) (by rw [List.size_toArray, ← hn]; omega) ?_
    rw [List.size_toArray, ← hn]
    exact hQ _ _ (.int .refl ⟨rfl, rfl⟩)
  | str x =>
    refine ge h ?_; clear h; intro hl h
    cases h
    obtain ⟨k, rfl⟩ := B
    have hle : x.length ≤ 1048576 := lenOk_le hl
    refine call_len_gives (typeIs_str s _ _) PySem.F.slot_str_len PySem.F.entry_str_len (PySem.F.args_str_len_1 _) (gives_str_len _ _) (by rw [mkS_len]; omega) (by rw [mkS_len]; omega) ?_
    rw [mkS_len]
    exact hQ _ _ (.int .refl ⟨rfl, rfl⟩)
  | _ => exact nomatch h
theorem Res.range {a b : Int} {v : Value} {s' : Shared} (hf : ∀ a, s.heap.get? a = none → ok a) (g : Grown s.heap s'.heap) (al : Alike s s') (e : v = .ref s.heap.objs.size) (r : ∃ t u k, IsRange s'.heap s.heap.objs.size a b 1 t u k) : Res W L ok s false (.range a b) v s' := by
  subst e
  obtain ⟨t, u, k, r⟩ := r
  exact ⟨g.gl, al, ⟨_, _, _, _, rfl, r⟩, okv_of fun a e => by cases e; exact hf _ (get?_big (Nat.le_refl _))⟩
theorem range_ok {ts : List T} {vs : List Value} {r : T × Bool} {Q : Value → Shared → Prop} (hf : ∀ a, s.heap.get? a = none → ok a) (h : rangeB ts = some r) (Bs : Bodies W ok s.heap ts vs) (hQ : ∀ v s', Res W L ok s r.2 r.1 v s' → Q v s') :
    wpAny (model W.prog W.w) A (call (.type "range") vs) Q Er s := by
  cases Bs with
  | nil => exact nomatch h
  | cons B Bs =>
    refine oi h ?_; clear h; intro i e h
    subst e
    obtain ⟨k, rfl⟩ := B
    cases Bs with
    | nil =>
      refine ge h ?_; clear h; intro _ h
      cases h
      exact call_range_1 (hQ _ _ (.range hf (.push _) ⟨rfl, rfl⟩ rfl ⟨_, _, _, IsRange.new ..⟩))
    | cons C Bs =>
      refine ge h ?_; clear h; intro e' h
      refine oi h ?_; clear h; intro j e h
      refine ge h ?_; clear h; intro _ h
      cases h
      subst e
      rw [isE e'] at Bs
      obtain ⟨k', rfl⟩ := C
      cases Bs
      exact call_range_2 (hQ _ _ (.range hf (.push _) ⟨rfl, rfl⟩ rfl ⟨_, _, _, IsRange.new ..⟩))
theorem sort_ok {xs : List T} {v : Value} {r : T × Bool} {Q : Value → Shared → Prop} (h : sortT gF xs = some r) (B : Body W ok s.heap (.list xs) v) (hQ : ∀ v s', Res W L ok s r.2 r.1 v s' → Q v s') :
    wpAny (model W.prog W.w) A (call (.builtin "sorted") [v]) Q Er s := by
  refine ge h ?_; clear h; intro hl h
  obtain ⟨l, vs, rfl, p, ra⟩ := B
  have h64 : vs.length < 64 := by rw [← reps_len ra]; exact Nat.lt_of_le_of_lt (Nat.le_of_ble_eq_true hl) (by decide)
  have old : ∀ out, Grown s.heap (sortedAll s.heap vs out) := fun out => ⟨fun a o e => sortedAll_old e⟩
  have nw1 : s.heap.get? (s.heap.objs.size + 1) = none := get?_big (Nat.le_succ _)
  cases e1 : toInts xs with
  | some l' =>
    rw [e1] at h
    cases h
    refine sorted_ints (plain_isList p) (ints_are ra e1) h64 fun out ns' x1 x2 x3 => ?_
    obtain ⟨e, he⟩ := sortedAll_at s.heap vs out
    rw [sorted_unique (x2.trans (sortI_perm l').symm) x3 (sortI_sorted l')] at x1
    exact hQ _ _ (Res.fresh (vs := out.toList) (old out) ⟨rfl, rfl⟩ nw1 ⟨e, he⟩ (ints_reps x1))
  | none =>
    rw [e1] at h
    refine oe h ?_; clear h; intro l' e1 h
    refine ge h ?_; clear h; intro _ h
    cases h
    refine sorted_strs (plain_isList p) (strs_are ra e1) h64 fun out ss' x1 x2 x3 => ?_
    obtain ⟨e, he⟩ := sortedAll_at s.heap vs out
    exact hQ _ _ (Res.fresh (vs := out.toList) (old out) ⟨rfl, rfl⟩ nw1 ⟨e, he⟩ (strs_reps x1 (sorted_is x2 x3)))
theorem max_ok {xs : List T} {v : Value} {r : T × Bool} {Q : Value → Shared → Prop} (hh : A.handled = none) (h : maxT xs = some r) (B : Body W ok s.heap (.list xs) v) (hQ : ∀ v s', Res W L ok s r.2 r.1 v s' → Q v s') :
    wpAny (model W.prog W.w) A (call (.builtin "max") [v]) Q Er s := by
  refine oe h ?_; clear h; intro l e1 h
  cases l with
  | nil => exact nomatch h
  | cons x l =>
    cases h
    obtain ⟨l', vs, rfl, p, ra⟩ := B
    obtain ⟨ys, e2, e3⟩ := ints_items (ints_are ra e1)
    have hp := plain_isList p
    rw [e2] at hp
    refine max_intList hh hp (by rw [← Array.length_toList, ← List.length_map (as := ys.toList) (·.1), e3]; exact Nat.succ_pos _) fun v h' tk hv hk => ?_
    obtain ⟨t', rfl⟩ := intItems_at hv
    rw [max_is e3]
    exact hQ _ _ (.int ⟨hk⟩ ⟨rfl, rfl⟩)

theorem bi_ok {b : BI} {ts : List T} {vs : List Value} {r : T × Bool} {Q : Value → Shared → Prop} (hh : A.handled = none) (hns : ∃ L' m, s.heap.Ns L' m) (hf : ∀ a, s.heap.get? a = none → ok a)
    (h : biT gF b ts = some r) (Bs : Bodies W ok s.heap ts vs) (hQ : ∀ v s', Res W L ok s r.2 r.1 v s' → Q v s') :
    wpAny (model W.prog W.w) A (call (biVal b) vs) Q Er s := by
  cases b with
  | range => exact range_ok hf h Bs hQ
  | len =>
    refine o1 h ?_; clear h; intro t e h
    obtain ⟨v, rfl, B⟩ := one_of Bs e
    exact len_ok h B hQ
  | sorted =>
    refine o1 h ?_; clear h; intro t e h
    refine ol h ?_; clear h; intro xs e' h
    subst e'
    obtain ⟨v, rfl, B⟩ := one_of Bs e
    exact sort_ok h B hQ
  | max =>
    refine o1 h ?_; clear h; intro t e h
    refine ol h ?_; clear h; intro xs e' h
    subst e'
    obtain ⟨v, rfl, B⟩ := one_of Bs e
    exact max_ok hh h B hQ
  | sum =>
    refine o1 h ?_; clear h; intro t e h
    refine ol h ?_; clear h; intro xs e' h
    refine oe h ?_; clear h; intro l e1 h
    cases h
    subst e'
    obtain ⟨v, rfl, l', vs, rfl, p, ra⟩ := one_of Bs e
    obtain ⟨ys, e2, e3⟩ := ints_items (ints_are ra e1)
    have hp := plain_isList p
    rw [e2] at hp
    refine sum_intListG hh hp fun h' tk t' hk => ?_
    rw [preSum_eq, List.take_of_length_le (by simp), e3, ← sumI_eq]
    exact hQ _ _ (.int ⟨hk⟩ ⟨rfl, rfl⟩)
  | abs =>
    refine o1 h ?_; clear h; intro t e h
    refine oi h ?_; clear h; intro i e' h
    cases h
    subst e'
    obtain ⟨v, rfl, k, rfl⟩ := one_of Bs e
    refine call_abs_int fun u tk => ?_
    rw [abs_is]
    exact hQ _ _ (.int .refl ⟨rfl, rfl⟩)
  | chr =>
    refine o1 h ?_; clear h; intro t e h
    refine oi h ?_; clear h; intro i e' h
    refine on h ?_; clear h; intro c e2 h
    refine ge h ?_; clear h; intro hc h
    cases h
    subst e' e2
    have hc : c ≤ 55295 := Nat.le_of_ble_eq_true hc
    obtain ⟨v, rfl, k, rfl⟩ := one_of Bs e
    exact P.chr_of_int (by simp only [Bool.or_eq_false_iff, decide_eq_false_iff_not, Int.ofNat_eq_natCast]; omega) (hQ _ _ (.str .refl ⟨rfl, rfl⟩))
  | list =>
    refine o1 h ?_; clear h; intro t e h
    refine os h ?_; clear h; intro x e' h
    refine ge h ?_; clear h; intro hl h
    cases h
    subst e'
    have hle : x.length ≤ 1000 := Nat.le_of_ble_eq_true hl
    obtain ⟨v, rfl, k, rfl⟩ := one_of Bs e
    obtain ⟨L', m, hL⟩ := hns
    refine list_strD (h₀ := {}) (L := L') (m := m) (news := []) (hsz := by rw [mkS_len, sizeLine_v]; omega) hh ⟨hL, fun b o e => by simp [Heap.get?] at e, Nat.zero_le _⟩ (fun p hp => by cases hp) fun h' tk ys _ _ hk _ _ hp hc => ?_
    refine hQ _ _ (Res.fresh (vs := ys) ⟨hk⟩ ⟨rfl, rfl⟩ (get?_big (Nat.le_refl _)) hp.1 ?_)
    have : signs (mkS x) = x.map fun n => (⟨#[n]⟩ : Str) := by simp [signs, mkS]
    rw [this] at hc
    exact chars_reps hc
end
end MP
end

section -- MpMeth
open PySem PySem.W PyProof.Rows
open PySem.Builtin
set_option maxRecDepth 100000
namespace MP

noncomputable def meStr : ME → Str
  | .append => "append"
  | .pop => "pop"
  | .index => "index"
  | .get => "get"
  | .join => "join"
  | .split => "split"
  | .startswith => "startswith"
  | .endswith => "endswith"
  | .find => "find"

noncomputable def gdS (b : Bool) (s : String) : Option String := match b with
  | true => some s
  | false => none
theorem gdS_inv {b : Bool} {s t : String} (h : gdS b s = some t) : b = true ∧ s = t := by
  cases b with
  | true => exact ⟨rfl, Option.some.inj h⟩
  | false => exact nomatch h
noncomputable def meK : ME → Nat → Option String
  | .append, k => gdS (Nat.beq k 1) "list.append"
  | .pop, k => gdS (Nat.beq k 1) "list.pop"
  | .index, k => match Nat.beq k 1 with
    | true => some "list.index"
    | false => gdS (Nat.beq k 2) "str.index"
  | .get, k => gdS (Nat.beq k 3) "dict.get"
  | .join, k => gdS (Nat.beq k 2) "str.join"
  | .split, k => gdS (Nat.beq k 2) "str.split"
  | .startswith, k => gdS (Nat.beq k 2) "str.startswith"
  | .endswith, k => gdS (Nat.beq k 2) "str.endswith"
  | .find, k => gdS (Nat.beq k 2) "str.find"
noncomputable def meId (m : ME) (t : T) : Option String := meK m (kindT t)
theorem meId_kind (m : ME) {t u : T} (h : kindT t = kindT u) : meId m t = meId m u := congrArg (meK m) h
theorem kind1 {t : T} (h : Nat.beq (kindT t) 1 = true) : ∃ xs, t = .list xs := by
  cases t <;> first | exact ⟨_, rfl⟩ | exact nomatch h
theorem kind2 {t : T} (h : Nat.beq (kindT t) 2 = true) : ∃ xs, t = .str xs := by
  cases t <;> first | exact ⟨_, rfl⟩ | exact nomatch h
theorem kind3 {t : T} (h : Nat.beq (kindT t) 3 = true) : ∃ ks vs, t = .dict ks vs := by
  cases t <;> first | exact ⟨_, _, rfl⟩ | exact nomatch h

/-! texts -/
theorem mkS_join (sep : List Nat) : ∀ l : List (List Nat), Str.join (mkS sep) (l.map mkS) = mkS (joinS sep l)
  | [] => rfl
  | [x] => rfl
  | x :: y :: r => by
    have ih := mkS_join sep (y :: r)
    simp only [List.map_cons] at ih ⊢
    simp only [Str.join, joinS]
    rw [ih, mkS_append, mkS_append]

theorem replC_append (c : Nat) (z : List Nat) : ∀ a b : List Nat, replC c z (a ++ b) = replC c z a ++ replC c z b
  | [], b => rfl
  | x :: r, b => by
    simp only [List.cons_append, replC]
    split
    · rw [replC_append c z r b, List.append_assoc]
    · rw [replC_append c z r b]; rfl
theorem replC_free (c : Nat) (z : List Nat) : ∀ a : List Nat, c ∉ a → replC c z a = a
  | [], _ => rfl
  | x :: r, h => by
    simp only [replC]
    split
    · rename_i q
      exact absurd (Nat.eq_of_beq_eq_true q) (fun e => h (by rw [e]; exact .head _))
    · rw [replC_free c z r fun q => h (.tail _ q)]
theorem replC_join (c : Nat) (z : List Nat) : ∀ l : List (List Nat), (∀ p ∈ l, c ∉ p) → replC c z (joinS [c] l) = joinS z l
  | [], _ => rfl
  | [x], h => replC_free c z x (h x (.head _))
  | x :: y :: r, h => by
    have ih := replC_join c z (y :: r) fun p q => h p (.tail _ q)
    simp only [joinS] at ih ⊢
    rw [replC_append, replC_append, ih, replC_free c z x (h x (.head _))]
    simp [replC]
theorem str_of (x : Str) : mkS x.cps.toList = x := mkS_toList x
theorem txt_replace (c : Nat) (z s : List Nat) : Txt.replace (mkS s) (mkS [c]) (mkS z) = mkS (replC c z s) := by
  have e : mkS [c] = ⟨#[c]⟩ := rfl
  rw [e, StrLaws.replace_one]
  have hf := StrLaws.split_free (mkS s) c
  have hj := StrLaws.join_split (mkS s) ⟨#[c]⟩
  have hm : Txt.split (mkS s) ⟨#[c]⟩ = ((Txt.split (mkS s) ⟨#[c]⟩).map fun x => x.cps.toList).map mkS := by
    rw [List.map_map]
    conv => lhs; rw [← List.map_id (Txt.split (mkS s) ⟨#[c]⟩)]
    exact List.map_congr_left fun x _ => (mkS_toList x).symm
  generalize hl : (Txt.split (mkS s) ⟨#[c]⟩).map (fun x => x.cps.toList) = l at hm
  have hf' : ∀ p ∈ l, c ∉ p := by
    rw [← hl]
    intro p hp
    obtain ⟨x, hx, rfl⟩ := List.mem_map.mp hp
    exact hf x hx
  rw [hm] at hj ⊢
  rw [mkS_join]
  rw [← e, mkS_join, mkS_inj] at hj
  rw [← hj, replC_join c z l hf']

theorem find_spec {α : Type} {p : α → Bool} : ∀ {l : List α} {n : Nat}, findBy p l = some n → (∃ y, l[n]? = some y ∧ p y = true) ∧ ∀ k y, k < n → l[k]? = some y → p y = false
  | [], n, h => nomatch h
  | x :: r, n, h => by
    unfold findBy at h
    cases q : p x with
    | true =>
      rw [q] at h
      cases h
      exact ⟨⟨x, rfl, q⟩, fun k y hk => absurd hk (Nat.not_lt_zero _)⟩
    | false =>
      rw [q] at h
      refine oe h ?_; clear h; intro m e h
      cases h
      obtain ⟨h1, h2⟩ := find_spec e
      refine ⟨h1, fun k y hk hy => ?_⟩
      cases k with
      | zero => cases hy; exact q
      | succ k => exact h2 k y (Nat.lt_of_succ_lt_succ hk) hy

theorem occ_one {s : List Nat} {c n : Nat} (h : findC c s = some n) : ∃ r, Builtin.Str.occurrences (mkS s) (mkS [c]) 0 (mkS s).length 1 = n :: r := by
  obtain ⟨⟨y, h1, hy⟩, h2⟩ := find_spec h
  obtain rfl := Nat.eq_of_beq_eq_true hy
  have at_iff : ∀ i, StrLaws.At (mkS s) (mkS [y]) (mkS s).length i ↔ s[i]? = some y := fun i => by
    have := StrLaws.subAt_one (mkS s) y i
    rw [mkS_cps] at this
    exact this
  rcases StrLaws.occ_head (mkS s) (mkS [y]) 1 (Nat.le_refl _) with ⟨_, q⟩ | ⟨i, r, q1, q2, q3⟩
  · exact absurd ((at_iff n).2 h1) (q n)
  · have : i = n := by
      rcases Nat.lt_trichotomy i n with q | q | q
      · exact absurd (h2 i y q ((at_iff i).1 q2)) (by rw [hy]; exact Bool.noConfusion)
      · exact q
      · exact absurd ((at_iff n).2 h1) (q3 n q)
    exact ⟨r, this ▸ q1⟩

theorem gives_find4 (x y : Str) (i j : Nat) (t u a b : Tok) (hj : j ≤ x.length) : Gives (Builtin.«str.find» ⟨[.str x t, .str y u, .int (i : Int) a, .int (j : Int) b], []⟩)
    (.int (match Builtin.Str.occurrences x y i j 1 with | k :: _ => (k : Int) | [] => -1)) := by
  have e1 : (max 0 (if (i : Int) < 0 then (i : Int) + x.length else (i : Int))).toNat = i := by
    rw [if_neg (by omega)]; omega
  have e2 : min (max 0 (if (j : Int) < 0 then (j : Int) + x.length else (j : Int))).toNat x.length = j := by
    rw [if_neg (by omega)]; omega
  show Gives (match Builtin.Str.occurrences x y ((max 0 (if (i : Int) < 0 then (i : Int) + x.length else (i : Int))).toNat) (min (max 0 (if (j : Int) < 0 then (j : Int) + x.length else (j : Int))).toNat x.length) 1 with | k :: _ => retInt k | [] => (do rule "str.find.not-found"; retInt (-1))) _
  rw [e1, e2]
  cases Builtin.Str.occurrences x y i j 1 with
  | nil => exact .rule (.of_eq rfl)
  | cons k _ => exact .of_eq rfl

section
variable {W : Wd} {L : Addr} {ok : Addr → Prop} {s : Shared} {A : Around} {Er : Value → Shared → Prop}

theorem get_ok {M : Model} {m : ME} {t : T} {v : Value} {id : String} {pl : Sem Bool} {Q : Value × List Value → Shared → Prop} (h : meId m t = some id) (B : Body W ok s.heap t v) (hQ : Q (.builtin id, [v]) s) :
    wpAny M A (getMethod v (meStr m) pl) Q Er s := by
  cases m with
  | append =>
    obtain ⟨k, rfl⟩ := gdS_inv h
    obtain ⟨xs, rfl⟩ := kind1 k
    obtain ⟨a, vs, rfl, p, _⟩ := B
    exact getMethod_builtin (plain_isList p).typeIs PySem.F.plainAttrs_list PySem.F.slot_list_append PySem.F.type_list_append (fun a e => by cases e; obtain ⟨n, q⟩ := p; exact ⟨_, q, rfl⟩) hQ
  | pop =>
    obtain ⟨k, rfl⟩ := gdS_inv h
    obtain ⟨xs, rfl⟩ := kind1 k
    obtain ⟨a, vs, rfl, p, _⟩ := B
    exact getMethod_builtin (plain_isList p).typeIs PySem.F.plainAttrs_list PySem.F.slot_list_pop PySem.F.type_list_pop (fun a e => by cases e; obtain ⟨n, q⟩ := p; exact ⟨_, q, rfl⟩) hQ
  | index =>
    cases hk : Nat.beq (kindT t) 1 with
    | true =>
      obtain ⟨xs, rfl⟩ := kind1 hk
      cases h
      obtain ⟨a, vs, rfl, p, _⟩ := B
      exact getMethod_builtin (plain_isList p).typeIs PySem.F.plainAttrs_list PySem.F.slot_list_index PySem.F.type_list_index (fun a e => by cases e; obtain ⟨n, q⟩ := p; exact ⟨_, q, rfl⟩) hQ
    | false =>
      have h' : gdS (Nat.beq (kindT t) 2) "str.index" = some id := by
        have h0 : (match Nat.beq (kindT t) 1 with | true => some "list.index" | false => gdS (Nat.beq (kindT t) 2) "str.index") = some id := h
        rw [hk] at h0; exact h0
      obtain ⟨k, rfl⟩ := gdS_inv h'
      obtain ⟨xs, rfl⟩ := kind2 k
      obtain ⟨k, rfl⟩ := B
      exact GM.index hQ
  | get =>
    obtain ⟨k, rfl⟩ := gdS_inv h
    obtain ⟨ks, us, rfl⟩ := kind3 k
    obtain ⟨a, vs, ep, rfl, _, d, _⟩ := B
    refine getMethod_builtin d.dictOf.typeIs PySem.F.plainAttrs_dict PySem.F.slot_dict_get PySem.F.type_dict_get (fun a e => ?_) hQ
    cases e
    obtain ⟨o, es, q, x, _⟩ := d
    exact ⟨o, q, x.2.1⟩
  | join =>
    obtain ⟨k, rfl⟩ := gdS_inv h
    obtain ⟨xs, rfl⟩ := kind2 k
    obtain ⟨k, rfl⟩ := B
    exact GM.join hQ
  | split =>
    obtain ⟨k, rfl⟩ := gdS_inv h
    obtain ⟨xs, rfl⟩ := kind2 k
    obtain ⟨k, rfl⟩ := B
    exact GM.split hQ
  | startswith =>
    obtain ⟨k, rfl⟩ := gdS_inv h
    obtain ⟨xs, rfl⟩ := kind2 k
    obtain ⟨k, rfl⟩ := B
    exact GM.startswith hQ
  | endswith =>
    obtain ⟨k, rfl⟩ := gdS_inv h
    obtain ⟨xs, rfl⟩ := kind2 k
    obtain ⟨k, rfl⟩ := B
    exact GM.endswith hQ
  | find =>
    obtain ⟨k, rfl⟩ := gdS_inv h
    obtain ⟨xs, rfl⟩ := kind2 k
    obtain ⟨k, rfl⟩ := B
    exact GM.find hQ

theorem sum_le_join (sep : List Nat) : ∀ l : List (List Nat), (l.map List.length).sum ≤ (joinS sep l).length
  | [] => Nat.le_refl _
  | [x] => by simp [joinS]
  | x :: y :: r => by
    have ih := sum_le_join sep (y :: r)
    simp only [List.map_cons, List.sum_cons, joinS, List.length_append] at ih ⊢
    omega

/-- all that stands but the frame's table -/
noncomputable def others (h : Heap) (L : Addr) : List (Addr × Obj) := (List.range h.objs.size).filterMap fun a => match h.get? a with | some o => if a = L then none else some (a, o) | none => none
theorem others_news (h : Heap) (L : Addr) : News {} L h (others h L) := by
  intro p hp
  obtain ⟨a, _, e⟩ := List.mem_filterMap.mp hp
  split at e
  · rename_i o q
    split at e
    · first | exact nomatch e | cases e
    · rename_i n
      cases e
      exact ⟨q, n, by simp [Heap.get?]⟩
  · first | exact nomatch e | cases e
theorem others_mem {h : Heap} {L a : Addr} {o : Obj} (e : h.get? a = some o) (n : a ≠ L) : (a, o) ∈ others h L := by
  refine List.mem_filterMap.mpr ⟨a, List.mem_range.mpr (Heap.lt_size e), ?_⟩
  rw [e]
  simp [n]

theorem vals_reps {h : Heap} : ∀ {l : List (Str × Tok)}, Reps W ok h (l.map fun p => .str p.1.cps.toList) (strValues l)
  | [] => by simp [strValues, Reps]
  | p :: r => by
    simp only [List.map_cons, strValues, Reps]
    exact ⟨_, _, rfl, ⟨⟨p.2, by rw [mkS_toList]⟩, okv_of fun a e => by cases e⟩, vals_reps⟩

theorem reps_at {h : Heap} : ∀ {ts : List T} {vs : List Value} {j : Nat} {v : Value}, Reps W ok h ts vs → vs[j]? = some v → ∃ t, ts[j]? = some t ∧ Rep W ok h t v
  | [], vs, j, v, r, e => by rw [reps_nil r] at e; simp at e
  | t :: ts, vs, j, v, r, e => by
    obtain ⟨v', r', rfl, x, q⟩ := reps_cons r
    cases j with
    | zero => simp at e; subst e; exact ⟨t, by simp, x⟩
    | succ j => simpa using reps_at q (by simpa using e)

theorem index_ok {a : Addr} {us : List Value} {n : Nat} {ts : List T} {j : Nat} {x : Value} {r : T × Bool} {Q : Value → Shared → Prop} (f : Value → Bool) (p : T → Bool) (ho : s.heap.get? a = some { cls := .type "list", data := .seq us.toArray n })
    (ra : Reps W ok s.heap ts us) (he : ∀ u v, u ∈ ts → Body W ok s.heap u v → MeetsSeq.EqGives v x (f v) ∧ f v = p u) (hf : findBy p ts = some j) (h : gt (lenOk j) (some (T.int j, false)) = some r)
    (hQ : ∀ v s', Res W L ok s r.2 r.1 v s' → Q v s') :
    wpAny (model W.prog W.w) A (call (.builtin "list.index") [.ref a, x]) Q Er s := by
  refine ge h ?_; clear h; intro hl h
  cases h
  obtain ⟨⟨t, h1, ht⟩, h2⟩ := find_spec hf
  have get : ∀ {k v}, us[k]? = some v → ∃ u, ts[k]? = some u ∧ MeetsSeq.EqGives v x (f v) ∧ f v = p u := fun {k v} e => by
    obtain ⟨u, e, r⟩ := reps_at ra e
    exact ⟨u, e, he u v (List.mem_of_getElem? e) r.1⟩
  have hj : j < us.length := reps_len ra ▸ (List.getElem?_eq_some_iff.mp h1).1
  have hle := lenOk_le hl
  refine call_meets PySem.F.slot_list_index ⟨_, ho, rfl⟩ PySem.F.entry_list_index (PySem.F.args_list_index_2 _ _) (MeetsSeq.list_index a us.toArray n x f ?_ j (by rw [List.size_toArray]; exact hj) (by omega) ?_ ?_) ⟨ho, hQ _ _ (.int .refl ⟨rfl, rfl⟩)⟩
  · intro y hy
    obtain ⟨k, e⟩ := List.getElem?_of_mem (List.mem_toArray.mp hy)
    obtain ⟨u, _, B, _⟩ := get e
    exact B
  · obtain ⟨u, e2, _, B⟩ := get (List.getElem?_eq_getElem hj)
    rw [h1] at e2; cases e2
    exact B.trans ht
  · intro m hm hmj
    obtain ⟨u, e2, _, B⟩ := get (List.getElem?_eq_getElem (by rwa [List.size_toArray] at hm))
    exact B.trans (h2 m u hmj e2)
theorem find_map {α β : Type} {p : β → Bool} (g : α → β) {q : α → Bool} (h : ∀ x, p (g x) = q x) : ∀ l : List α, findBy p (l.map g) = findBy q l
  | [] => rfl
  | x :: r => by
    show (match p (g x) with | true => _ | false => _) = (match q x with | true => _ | false => _)
    rw [h, find_map g h r]

theorem indexT_ok {t u : T} {v w : Value} {r : T × Bool} {Q : Value → Shared → Prop} (h : indexT gF t u = some r) (B : Body W ok s.heap t v) (C : Body W ok s.heap u w) (hQ : ∀ v s', Res W L ok s r.2 r.1 v s' → Q v s') :
    ∃ id, meId .index t = some id ∧ wpAny (model W.prog W.w) A (call (.builtin id) [v, w]) Q Er s := by
  cases t with
  | list xs =>
    obtain ⟨a, us, rfl, ⟨n, p⟩, ra⟩ := B
    cases u with
    | int i =>
      obtain ⟨k, rfl⟩ := C
      refine oe h ?_; clear h; intro l e1 h
      refine oe h ?_; clear h; intro j e2 h
      obtain rfl := toInts_e e1
      refine ⟨_, rfl, index_ok (fun y => match y with | .int z _ => z == i | _ => false) (fun t => match asInt t with | some z => z == i | none => false) p ra (fun u v hu B => ?_) ?_ h hQ⟩
      · obtain ⟨z, _, rfl⟩ := List.mem_map.mp hu
        obtain ⟨q, rfl⟩ := B
        exact ⟨MeetsSeq.EqGives.int z i q k, rfl⟩
      · rw [find_map T.int fun z => rfl]; exact e2
    | str i =>
      obtain ⟨k, rfl⟩ := C
      refine oe h ?_; clear h; intro l e1 h
      refine ge h ?_; clear h; intro _ h
      refine oe h ?_; clear h; intro j e2 h
      obtain rfl := toStrs_e e1
      refine ⟨_, rfl, index_ok (fun y => match y with | .str z _ => z.cps.toList == (mkS i).cps.toList | _ => false) (fun t => match asStr t with | some z => z == i | none => false) p ra (fun u v hu B => ?_) ?_ h hQ⟩
      · obtain ⟨z, _, rfl⟩ := List.mem_map.mp hu
        obtain ⟨q, rfl⟩ := B
        exact ⟨SeqRoads2.EqGives.str (mkS z) (mkS i) q k, rfl⟩
      · rw [find_map T.str fun z => show (z == i) = sEq z i by rw [Bool.eq_iff_iff, sEq_iff, beq_iff_eq]]; exact e2
    | _ => exact nomatch h
  | str x =>
    refine os h ?_; clear h; intro y e h
    refine o1 h ?_; clear h; intro c e' h
    refine ge h ?_; clear h; intro _ h
    refine oe h ?_; clear h; intro j e2 h
    cases h
    subst e e'
    obtain ⟨k, rfl⟩ := B
    obtain ⟨k', rfl⟩ := C
    obtain ⟨q, e⟩ := occ_one e2
    exact ⟨_, rfl, SC.index e (hQ _ _ (.int .refl ⟨rfl, rfl⟩))⟩
  | _ => exact nomatch h

theorem getT_ok {t k d : T} {v w z : Value} {r : T × Bool} {Q : Value → Shared → Prop} (h : getT gF t k d = some r) (B : Body W ok s.heap t v) (C : Body W ok s.heap k w) (D : Body W ok s.heap d z) (hQ : ∀ v s', Res W L ok s r.2 r.1 v s' → Q v s') :
    ∃ id, meId .get t = some id ∧ wpAny (model W.prog W.w) A (call (.builtin id) [v, w, z]) Q Er s := by
  refine od h ?_; clear h; intro q e h
  refine os h ?_; clear h; intro k e1 h
  refine oi h ?_; clear h; intro d e2 h
  refine ge h ?_; clear h; intro _ h
  obtain ⟨ks, us⟩ := q
  subst e e1 e2
  obtain ⟨a, ws, ep, rfl, hsys, da, la, ra⟩ := B
  obtain ⟨k', rfl⟩ := C
  obtain ⟨k'', rfl⟩ := D
  have hm := da.dictOf.mapOf
  refine ⟨_, rfl, call_meetsIn PySem.F.slot_dict_get hm.typeIs PySem.F.entry_dict_get (PySem.F.args_dict_get_3 _ _ _) (meets_dict_get_default (PySem.strKind W.prog W.w) a (strKind_is _ _ _ _) hsys _) ⟨_, hm, ?_⟩⟩
  cases e : lookS ks us k with
  | some t' =>
    rw [e] at h
    cases h
    obtain ⟨w', e2, r'⟩ := zip_find k la ra e
    rw [e2]
    exact hQ _ _ (.of_rep r')
  | none =>
    rw [e] at h
    cases h
    rw [zip_find_none k la ra e]
    exact hQ _ _ (.int .refl ⟨rfl, rfl⟩)

theorem joinT_ok {t u : T} {v w : Value} {r : T × Bool} {Q : Value → Shared → Prop} (h : joinT gF t u = some r) (B : Body W ok s.heap t v) (C : Body W ok s.heap u w) (hQ : ∀ v s', Res W L ok s r.2 r.1 v s' → Q v s') :
    ∃ id, meId .join t = some id ∧ wpAny (model W.prog W.w) A (call (.builtin id) [v, w]) Q Er s := by
  refine os h ?_; clear h; intro sep e h
  refine ol h ?_; clear h; intro xs e1 h
  refine oe h ?_; clear h; intro l e2 h
  refine ge h ?_; clear h; intro hl h
  cases h
  subst e e1
  obtain ⟨k, rfl⟩ := B
  obtain ⟨a, us, rfl, p, ra⟩ := C
  obtain ⟨h1, h2⟩ := Bool.and_eq_true_iff.mp hl
  have h1 := lenOk_le h1
  have h2 := lenOk_le h2
  have h3 := sum_le_join sep l
  have h4 : ((l.map mkS).map (·.length)).sum = (l.map List.length).sum := by rw [List.map_map]; congr 1
  refine ⟨_, rfl, join_list (plain_isList p) (strs_are ra e2) (by rw [h4, List.length_map, mkS_len]; omega) fun t' k' => ?_⟩
  simp only [Txt.join, StrLaws.glued_eq_join, mkS_join]
  exact hQ _ _ (.str .refl ⟨rfl, rfl⟩)

theorem splitT_ok {t u : T} {v w : Value} {r : T × Bool} {Q : Value → Shared → Prop} (hns : ∃ mm, s.heap.Ns L mm) (hL : ¬ ok L) (h : splitT gF t u = some r) (B : Body W ok s.heap t v) (C : Body W ok s.heap u w) (hQ : ∀ v s', Res W L ok s r.2 r.1 v s' → Q v s') :
    ∃ id, meId .split t = some id ∧ wpAny (model W.prog W.w) A (call (.builtin id) [v, w]) Q Er s := by
  refine os h ?_; clear h; intro x e h
  refine os h ?_; clear h; intro sep e1 h
  refine ge h ?_; clear h; intro hl h
  cases h
  subst e e1
  obtain ⟨k, rfl⟩ := B
  obtain ⟨k', rfl⟩ := C
  obtain ⟨hl, h0⟩ := Bool.and_eq_true_iff.mp hl
  have hle : x.length ≤ 1048576 := lenOk_le hl
  obtain ⟨mm, hns⟩ := hns
  refine ⟨_, rfl, splitN1 (h₀ := {}) (L := L) (m := mm) (news := others s.heap L) ⟨hns, fun b o e => by simp [Heap.get?] at e, Nat.zero_le _⟩ (others_news _ _) (by rw [mkS_len]; cases sep with | nil => exact nomatch h0 | cons a r => rfl) (fun l h' k2 e1 F N => ?_) (by rw [mkS_len, sizeLine_v]; omega)⟩
  have hnew : s.heap.get? s.heap.objs.size = none := get?_big (Nat.le_refl _)
  have g : GrownL L s.heap h' := ⟨fun a o n e => (N (a, o) (List.mem_cons_of_mem _ (others_mem e n))).1, fun m' hm' => by rw [ns_unique hm' hns]; exact F.ns⟩
  have hp := (N _ (List.mem_cons_self ..)).1
  refine hQ _ _ ⟨g, ⟨rfl, rfl⟩, s.heap.objs.size, rfl, (by intro g q; cases q), plainNoCell ⟨0, hp⟩, hnew, _, _, rfl, ⟨0, hp⟩, ?_⟩
  rw [← e1, List.map_map]
  exact vals_reps

theorem findT_ok {t x i j : T} {v v1 v2 v3 : Value} {r : T × Bool} {Q : Value → Shared → Prop} (h : findT gF t x i j = some r) (B : Body W ok s.heap t v) (C : Body W ok s.heap x v1) (D : Body W ok s.heap i v2) (G : Body W ok s.heap j v3) (hQ : ∀ v s', Res W L ok s r.2 r.1 v s' → Q v s') :
    ∃ id, meId .find t = some id ∧ wpAny (model W.prog W.w) A (call (.builtin id) [v, v1, v2, v3]) Q Er s := by
  refine os h ?_; clear h; intro x e h
  refine os h ?_; clear h; intro y e1 h
  refine oi h ?_; clear h; intro a e2 h
  refine on h ?_; clear h; intro i e3 h
  refine oi h ?_; clear h; intro b e4 h
  refine on h ?_; clear h; intro j e5 h
  refine ge h ?_; clear h; intro hl h
  cases h
  subst e e1 e2 e3 e4 e5
  obtain ⟨k, rfl⟩ := B
  obtain ⟨k1, rfl⟩ := C
  obtain ⟨k2, rfl⟩ := D
  obtain ⟨k3, rfl⟩ := G
  have hl : j ≤ x.length := Nat.le_of_ble_eq_true hl
  exact ⟨_, rfl, call_gives PySem.F.slot_str_find (typeIs_str _ _ _) PySem.F.entry_str_find (PySem.F.args_str_find_4 _ _ _ _) (gives_find4 _ _ i j k k1 k2 k3 (by rw [mkS_len]; exact hl)) (hQ _ _ (.int .refl ⟨rfl, rfl⟩))⟩

theorem meth_ok {m : ME} {t : T} {r : T × Bool} {ts : List T} {v : Value} {vs : List Value} {Q : Value → Shared → Prop} (hns : ∃ mm, s.heap.Ns L mm) (hL : ¬ ok L)
    (h : methT gF m t ts = some r) (B : Body W ok s.heap t v) (Bs : Bodies W ok s.heap ts vs) (hQ : ∀ v s', Res W L ok s r.2 r.1 v s' → Q v s') :
    ∃ id, meId m t = some id ∧ wpAny (model W.prog W.w) A (call (.builtin id) (v :: vs)) Q Er s := by
  cases m with
  | append => exact nomatch h
  | pop => exact nomatch h
  | index =>
    refine o1 h ?_; clear h; intro u e h
    obtain ⟨w, rfl, C⟩ := one_of Bs e
    exact indexT_ok h B C hQ
  | get =>
    refine o2 h ?_; clear h; intro u e h
    obtain ⟨w, z, rfl, C, D⟩ := two_of Bs e
    exact getT_ok h B C D hQ
  | join =>
    refine o1 h ?_; clear h; intro u e h
    obtain ⟨w, rfl, C⟩ := one_of Bs e
    exact joinT_ok h B C hQ
  | split =>
    refine o1 h ?_; clear h; intro u e h
    obtain ⟨w, rfl, C⟩ := one_of Bs e
    exact splitT_ok hns hL h B C hQ
  | startswith =>
    refine o1 h ?_; clear h; intro u e h
    obtain ⟨w, rfl, C⟩ := one_of Bs e
    refine os h ?_; clear h; intro x e1 h
    refine os h ?_; clear h; intro y e2 h
    cases h
    subst e1 e2
    obtain ⟨k, rfl⟩ := B
    obtain ⟨k', rfl⟩ := C
    exact ⟨_, rfl, SC.startswith (hQ _ _ (.bool .refl ⟨rfl, rfl⟩))⟩
  | endswith =>
    refine o1 h ?_; clear h; intro u e h
    obtain ⟨w, rfl, C⟩ := one_of Bs e
    refine os h ?_; clear h; intro x e1 h
    refine os h ?_; clear h; intro y e2 h
    cases h
    subst e1 e2
    obtain ⟨k, rfl⟩ := B
    obtain ⟨k', rfl⟩ := C
    exact ⟨_, rfl, SC.endswith (hQ _ _ (.bool .refl ⟨rfl, rfl⟩))⟩
  | find =>
    refine o3 h ?_; clear h; intro u e h
    obtain ⟨v1, v2, v3, rfl, C, D, G⟩ := three_of Bs e
    exact findT_ok h B C D G hQ
end
section
variable {W : Wd} {H : Addr → Prop} {sc : List (Str × NameKind)} {env : Env} {vm : Nat → Option Value} {st : St} {s : Shared} {A : Around} {Er : Value → Shared → Prop}

theorem repl_ok {c : Nat} {z x : List Nat} {k u v : Tok} {Q : Value → Shared → Prop} {ok : Addr → Prop} {L : Addr} (hu : u ≠ 0) (hv : v ≠ 0) (huv : u ≠ v) (hl : lenOk x.length = true) (hz : Nat.ble z.length 14 = true) (hc : sEq [c] z = false)
    (hQ : ∀ v s', Res W L ok s false (.str (replC c z x)) v s' → Q v s') :
    wpAny (model W.prog W.w) A (call (.builtin "str.replace") [.str (mkS x) k, .str (mkS [c]) u, .str (mkS z) v]) Q Er s := by
  have h1 := lenOk_le hl
  have h2 := Nat.le_of_ble_eq_true hz
  refine SC.replace hu hv huv ((str_beq _ _).trans hc) ?_ fun t' k' => ?_
  · rw [mkS_len, mkS_len]
    have : (x.length + 1) * z.length ≤ (x.length + 1) * 14 := Nat.mul_le_mul_left _ h2
    omega
  · rw [txt_replace]
    exact hQ _ _ (.str .refl ⟨rfl, rfl⟩)

/-- a list changes in place -/
theorem list_change (R : Rel W H sc env vm st s.heap) {i : Nat} {xs ys : List T} {a : Addr} {ws : List Value} {h' : Heap} (e : st.get i = some (.list xs, true)) (hv : vm i = some (.ref a)) (hs : Heap.SameBut a s.heap h')
    (hp : h'.PlainList a ws.toArray) (r : Reps W (Ok H sc env vm st) s.heap ys ws) :
    Rel W H sc env vm (st.set i (.list ys) true) h' ∧ Stp (Pv sc env vm st) s.heap (Pv sc env vm (st.set i (.list ys) true)) h' ∧ Tr (Ok H sc env vm st) s.heap (Ok H sc env vm (st.set i (.list ys) true)) h' := by
  have pa : Pv sc env vm st a := .inr (.inr ⟨i, _, e, hv⟩)
  have tr : Tr (Ok H sc env vm st) s.heap (Ok H sc env vm st) h' := fun b o k q => ⟨k, (hs.2 b fun ea => k.1 (ea ▸ pa)).trans q⟩
  obtain ⟨R', S', pv⟩ := R.mutate (t' := .list ys) e hv hs (by intro g q; cases q) (plainNoCell hp) ⟨_, _, rfl, hp, reps_tr tr r⟩
  exact ⟨R', S', S'.tr H⟩

theorem reps_set {ok : Addr → Prop} {h : Heap} : ∀ {ts : List T} {vs : List Value} {t : T} {v : Value} (j : Nat), Reps W ok h ts vs → Rep W ok h t v → Reps W ok h (ts.set j t) (vs.set j v)
  | [], vs, t, v, j, r, x => by rw [reps_nil r]; simp [Reps]
  | u :: ts, vs, t, v, j, r, x => by
    obtain ⟨v', r', rfl, y, q⟩ := reps_cons r
    cases j with
    | zero => simp only [List.set_cons_zero, Reps]; exact ⟨v, r', rfl, x, q⟩
    | succ j => simp only [List.set_cons_succ, Reps]; exact ⟨v', _, rfl, y, reps_set j q x⟩
theorem reps_erase {ok : Addr → Prop} {h : Heap} : ∀ {ts : List T} {vs : List Value} (j : Nat), Reps W ok h ts vs → Reps W ok h (ts.eraseIdx j) (vs.eraseIdx j)
  | [], vs, j, r => by rw [reps_nil r]; simp [Reps]
  | u :: ts, vs, j, r => by
    obtain ⟨v', r', rfl, y, q⟩ := reps_cons r
    cases j with
    | zero => simpa using q
    | succ j => simp only [List.eraseIdx_cons_succ, Reps]; exact ⟨v', _, rfl, y, reps_erase j q⟩

theorem erase_arr (us : List Value) (j : Nat) : us.toArray.eraseIdxIfInBounds j = (us.eraseIdx j).toArray := by
  rw [List.eraseIdxIfInBounds_toArray]

theorem plain_seq {h : Heap} {a : Addr} {xs ws : Array Value} {n : Nat} {f : Array Value → Array Value} (p : h.get? a = some { cls := .type "list", data := .seq xs n }) (hf : f xs = ws) : (h.update a (Obj.mapSeq f)).PlainList a ws := by
  refine ⟨if ws.size == xs.size then n else n + 1, ?_⟩
  rw [Heap.get?_update_self _ p rfl]
  simp only [Obj.mapSeq, hf]

theorem seqIndex_place {k : Int} {n j : Nat} (h : place k n = some j) : seqIndex? k n = some j := by
  obtain ⟨hlt, q⟩ := place_lt h
  unfold seqIndex?
  rcases q with ⟨h0, rfl⟩ | ⟨h0, h1, rfl⟩
  · simp; omega
  · simp; omega

theorem listFits_of {k : Int} {n j : Nat} (h : place k n = some j) (hn : n ≤ 1048576) : Builtin.List.listFitsIndex k = true := by
  obtain ⟨hlt, q⟩ := place_lt h
  unfold Builtin.List.listFitsIndex
  rw [Bool.and_eq_true]
  exact ⟨decide_eq_true (by omega), decide_eq_true (by omega)⟩

theorem append_ok (R : Rel W H sc env vm st s.heap) {i : Nat} {xs : List T} {u : T} {v w : Value} {Q : Value → Shared → Prop} (e : st.get i = some (.list xs, true)) (hv : vm i = some v)
    (x : Rep W (Ok H sc env vm st) s.heap u w) (hl : lenOk xs.length = true)
    (hQ : ∀ v' s', Rel W H sc env vm (st.set i (.list (xs ++ [u])) true) s'.heap → Stp (Pv sc env vm st) s.heap (Pv sc env vm (st.set i (.list (xs ++ [u])) true)) s'.heap → Alike s s' → Rep W (Ok H sc env vm (st.set i (.list (xs ++ [u])) true)) s'.heap .none v' → Q v' s') :
    wpAny (model W.prog W.w) A (call (.builtin "list.append") [v, w]) Q Er s := by
  obtain ⟨v', q, B, _⟩ := R.vals i _ _ e
  rw [hv] at q; cases q
  obtain ⟨a, us, rfl, ⟨n, p⟩, ra⟩ := B
  have hle := lenOk_le hl
  refine wpAny_list_append_plain ⟨n, p⟩ (fun h' hp hs => ?_) (by rw [List.size_toArray, ← reps_len ra, sizeLine_v]; omega)
  have hp' : h'.PlainList a (us ++ [w]).toArray := by simpa using hp
  obtain ⟨R', S', _⟩ := list_change R e hv hs hp' (reps_append (us := [u]) ra ⟨w, [], rfl, x, rfl⟩)
  exact hQ _ _ R' S' ⟨rfl, rfl⟩ ⟨rfl, okv_of fun a e => nomatch e⟩
theorem last_at {α : Type} {xs : List α} {t : α} (h : xs.getLast? = some t) : xs[xs.length - 1]? = some t ∧ xs.dropLast = xs.eraseIdx (xs.length - 1) := by
  refine ⟨by rw [← List.getLast?_eq_getElem?]; exact h, ?_⟩
  rw [List.dropLast_eq_take, List.eraseIdx_eq_take_drop_succ, List.drop_of_length_le (by omega), List.append_nil]
theorem mut_ok (R : Rel W H sc env vm st s.heap) {i : Nat} {xs ys ts : List T} {t : T} {v : Value} {vs : List Value} {m : ME} {Q : Value → Shared → Prop} (e : st.get i = some (.list xs, true)) (hv : vm i = some v)
    (r : Reps W (Ok H sc env vm st) s.heap ts vs) (hm : mutT m xs ts = some (ys, t))
    (hQ : ∀ v' s', Rel W H sc env vm (st.set i (.list ys) true) s'.heap → Stp (Pv sc env vm st) s.heap (Pv sc env vm (st.set i (.list ys) true)) s'.heap → Alike s s' → Rep W (Ok H sc env vm (st.set i (.list ys) true)) s'.heap t v' → Q v' s') :
    ∃ id, meId m (.list xs) = some id ∧ wpAny (model W.prog W.w) A (call (.builtin id) (v :: vs)) Q Er s := by
  cases m with
  | append =>
    refine o1 hm ?_; clear hm; intro u eu hm
    refine ge hm ?_; clear hm; intro hl hm
    cases hm
    subst eu
    obtain ⟨w, r', rfl, x, q⟩ := r
    obtain rfl := reps_nil q
    exact ⟨_, rfl, append_ok R e hv x hl hQ⟩
  | pop =>
    refine ge hm ?_; clear hm; intro hl hm
    obtain ⟨v', q, B, _⟩ := R.vals i _ _ e
    rw [hv] at q; cases q
    obtain ⟨a, us, rfl, ⟨n, p⟩, ra⟩ := B
    have hn := reps_len ra
    have hle : us.toArray.size ≤ sizeLine := by rw [List.size_toArray, ← hn, sizeLine_v]; exact Nat.le_trans (lenOk_le hl) (by decide)
    have fin : ∀ j w, Reps W (Ok H sc env vm st) s.heap (xs.eraseIdx j) (us.eraseIdx j) → ys = xs.eraseIdx j → Rep W (Ok H sc env vm st) s.heap t w → Q w { s with heap := s.heap.update a (Obj.mapSeq fun xs => xs.eraseIdxIfInBounds j) } := by
      intro j w rr ey x
      subst ey
      obtain ⟨R', S', tr⟩ := list_change R e hv (Heap.SameBut.update ..) (plain_seq (f := fun xs => xs.eraseIdxIfInBounds j) p (erase_arr us j)) rr
      exact hQ _ _ R' S' ⟨rfl, rfl⟩ (rep_tr tr x)
    cases ts with
    | nil =>
      refine oe hm ?_; clear hm; intro u hu hm
      cases hm
      obtain rfl := reps_nil r
      obtain ⟨hu, el⟩ := last_at hu
      obtain ⟨w, ew, x⟩ := reps_get ra hu
      have es : us.toArray.size - 1 = xs.length - 1 := by rw [List.size_toArray, hn]
      refine ⟨_, rfl, call_meets PySem.F.slot_list_pop ⟨_, p, rfl⟩ PySem.F.entry_list_pop (PySem.F.args_list_pop_1 _) (MeetsSeq.list_pop_last a us.toArray n w (by rw [es]; simpa using ew) hle) ⟨p, ?_⟩⟩
      exact fin _ w (reps_erase _ ra) (by rw [es]; exact el) x
    | cons u r' =>
      refine ge hm ?_; clear hm; intro e1 hm
      refine oi hm ?_; clear hm; intro k e2 hm
      refine oe hm ?_; clear hm; intro j hj hm
      refine oe hm ?_; clear hm; intro t' hu hm
      cases hm
      obtain rfl := isE e1
      subst e2
      obtain ⟨w', r', rfl, ⟨⟨kt, rfl⟩, _⟩, q⟩ := r
      obtain rfl := reps_nil q
      obtain ⟨w, ew, x⟩ := reps_get ra hu
      exact ⟨_, rfl, call_meets PySem.F.slot_list_pop ⟨_, p, rfl⟩ PySem.F.entry_list_pop (PySem.F.args_list_pop_2 _ _) (MeetsSeq.list_pop_at a us.toArray n k kt j w (listFits_of hj (lenOk_le hl)) (by rw [List.size_toArray, ← hn]; exact seqIndex_place hj) (by simpa using ew) hle) ⟨p, fin j w (reps_erase _ ra) rfl x⟩⟩
  | _ => exact nomatch hm
end
end MP
end

section -- MpMut
open PySem PySem.W PyProof.Rows
namespace MP

section
variable {W : Wd} {L : Addr} {ok : Addr → Prop} {s : Shared} {A : Around} {Er : Value → Shared → Prop}

theorem iop_ok {o : Operator} {a b : T} {r : T × Bool} {va vb : Value} {Q : Value → Shared → Prop} (ho : (o == .Add || o == .Sub || o == .Mult) = true) (h : binT gF o a b = some r) (hn : r.2 = false) (Ba : Body W ok s.heap a va) (Bb : Body W ok s.heap b vb)
    (hQ : ∀ v s', Res W L ok s false r.1 v s' → Q v s') : wpAny (model W.prog W.w) A (inplaceOp o va vb) Q Er s := by
  cases a with
  | int x =>
    refine oi h ?_; clear h; intro y e h
    subst e
    obtain ⟨k, rfl⟩ := Ba
    obtain ⟨l, rfl⟩ := Bb
    cases o with
    | Add => cases h; exact P.iadd_int (hQ _ _ (.int .refl ⟨rfl, rfl⟩))
    | Sub => cases h; exact P.isub_int (hQ _ _ (.int .refl ⟨rfl, rfl⟩))
    | Mult =>
      refine ge h ?_; clear h; intro hs h
      cases h
      have h1 := small_lt (Bool.and_eq_true_iff.mp hs).1
      exact P.imul_int (hm := IntMulOk.of_left (intBits_le_64 (Int.lt_trans (by decide) h1.1) (Int.lt_trans h1.2 (by decide)))) (hQ _ _ (.int .refl ⟨rfl, rfl⟩))
    | _ => exact nomatch ho
  | bool x =>
    refine oB h ?_; clear h; intro y e h
    refine ge h ?_; clear h; intro ho h
    cases h
    subst e
    obtain rfl := isSub_e ho
    obtain rfl := Ba
    obtain rfl := Bb
    exact isub_bool (hQ _ _ (sub_bools x y ▸ .int .refl ⟨rfl, rfl⟩))
  | str x =>
    refine os h ?_; clear h; intro y e h
    refine ge h ?_; clear h; intro ho h
    refine ge h ?_; clear h; intro hs h
    cases h
    subst e
    obtain rfl := isAdd_e ho
    obtain ⟨k, rfl⟩ := Ba
    obtain ⟨l, rfl⟩ := Bb
    have := lenOk_le hs
    exact PyProof.Rows.iadd_str (fun t' tk => hQ _ _ (mkS_append x y ▸ .str .refl ⟨rfl, rfl⟩)) (by rw [mkS_len, mkS_len, sizeLine_v]; exact Nat.le_trans this (by decide))
  | list x => exact ol h fun y e h => ge h fun ho h => ge h fun hs h => by cases h; exact nomatch hn
  | _ => exact nomatch h

theorem wpAny_inplaceOp_iconcat {M : Model} {a b : Value} {T id : String} {Q : Value → Shared → Prop} (ha : s.TypeIs a T) (hb : s.TypeIs b T)
    (hi : typeLookup (.type T) (dunderI "add") = pure (some (.builtin id))) (hs : isSeqSlot (some (.builtin id)) = true) (hfill : fillsNumberSlot (.type T) "add" = pure false)
    (hc : wpAny M A (call (.builtin id) [a, b]) Q Er s) : wpAny M A (inplaceOp .Add a b) Q Er s := by
  unfold inplaceOp
  refine wpAny_holding ?_
  have hfi : fillsInplaceSlot (.type T) "add" (Operator.Add == .Add) = pure false := by
    unfold fillsInplaceSlot
    show (typeLookup (.type T) (dunderI "add") >>= fun fi => pure (fi.isSome && !isSeqSlot fi)) = pure false
    rw [hi]
    simp only [pure_bind, hs]
    rfl
  have hsi : seqSlot? (.type T) (dunderI "add") = pure (some (.builtin id)) := PySem.seqSlot_of hi hs
  refine wpAny_bind (wpAny_typeOf ha (wpAny_bind (wpAny_of_eq hfi ?_)))
  show wpAny M A (if false = true then _ else _) Q Er s
  rw [if_neg Bool.false_ne_true]
  refine wpAny_bind (wpAny_binaryOp1_none (nm := "add") ha hb hfill ?_)
  refine wpAny_bind (wpAny_of_eq hsi ?_)
  exact wpAny_bind (wpAny_rule hc)
end

section
variable {W : Wd} {H : Addr → Prop} {sc : List (Str × NameKind)} {env : Env} {vm : Nat → Option Value} {st : St} {s : Shared} {A : Around} {Er : Value → Shared → Prop}

/-- a list is added to the frame's own list, in place -/
theorem liadd_ok (R : Rel W H sc env vm st s.heap) {i : Nat} {xs ys : List T} {v vb : Value} {Q : Value → Shared → Prop} (e : st.get i = some (.list xs, true)) (hv : vm i = some v)
    (Bb : Body W (Ok H sc env vm st) s.heap (.list ys) vb) (hl : lenOk (xs.length + ys.length) = true)
    (hQ : ∀ s', Rel W H sc env vm (st.set i (.list (xs ++ ys)) true) s'.heap → Stp (Pv sc env vm st) s.heap (Pv sc env vm (st.set i (.list (xs ++ ys)) true)) s'.heap → Alike s s' → Q v s') :
    wpAny (model W.prog W.w) A (inplaceOp .Add v vb) Q Er s := by
  obtain ⟨v', q, B, _⟩ := R.vals i _ _ e
  rw [hv] at q; cases q
  obtain ⟨a, us, rfl, ⟨n, p⟩, ra⟩ := B
  obtain ⟨b, ws, rfl, ⟨n', p'⟩, rb⟩ := Bb
  have hle := lenOk_le hl
  have h1 := reps_len ra
  have h2 := reps_len rb
  refine wpAny_inplaceOp_iconcat (T := "list") ⟨_, p, rfl⟩ ⟨_, p', rfl⟩ PySem.F.slot_list_iadd.lookup (by decide +kernel) noFill_list_add ?_
  refine call_meets PySem.F.slot_list_iadd ⟨_, p, rfl⟩ PySem.F.entry_list_iadd (PySem.F.args_list_iadd_2 _ _) (AutoSeq1.list___iadd___list_list_0 a us.toArray n b ws.toArray n' ?_ (by rw [List.size_toArray, ← h1, sizeLine_v]; omega) (by rw [List.size_toArray, List.size_toArray, ← h1, ← h2, sizeLine_v]; omega)) ⟨p, p', ?_⟩
  · intro q
    rw [Bool.and_eq_true] at q
    have := of_decide_eq_true q.2
    rw [List.size_toArray, List.size_toArray, ← h1, ← h2, sizeLine_v] at this
    omega
  · have hp' : (s.heap.update a (Obj.mapSeq fun x => x ++ ws.toArray)).PlainList a (us ++ ws).toArray := plain_seq p (by simp)
    obtain ⟨R', S', _⟩ := list_change R e hv (Heap.SameBut.update ..) hp' (reps_append ra rb)
    exact hQ _ R' S' ⟨rfl, rfl⟩

theorem del_ok (R : Rel W H sc env vm st s.heap) {i : Nat} {xs : List T} {v : Value} {k : Int} {kt : Tok} {j : Nat} {Q : Unit → Shared → Prop} (e : st.get i = some (.list xs, true)) (hv : vm i = some v)
    (hl : lenOk xs.length = true) (hj : place k xs.length = some j)
    (hQ : ∀ s', Rel W H sc env vm (st.set i (.list (xs.eraseIdx j)) true) s'.heap → Stp (Pv sc env vm st) s.heap (Pv sc env vm (st.set i (.list (xs.eraseIdx j)) true)) s'.heap → Alike s s' → Q () s') :
    wpAny (model W.prog W.w) A (delItem v (.int k kt)) Q Er s := by
  obtain ⟨v', q, B, _⟩ := R.vals i _ _ e
  rw [hv] at q; cases q
  obtain ⟨a, us, rfl, p, ra⟩ := B
  have hle := lenOk_le hl
  have h1 := reps_len ra
  refine wpAny_delItem_plain p (listFits_of hj hle) (by rw [List.size_toArray, ← h1]; exact seqIndex_place hj) (fun h' hp hs => ?_) (by rw [List.size_toArray, ← h1, sizeLine_v]; omega)
  rw [erase_arr] at hp
  obtain ⟨R', S', _⟩ := list_change R e hv hs hp (reps_erase j ra)
  exact hQ _ R' S' ⟨rfl, rfl⟩

theorem lset_ok (R : Rel W H sc env vm st s.heap) {i : Nat} {xs : List T} {v vn : Value} {t : T} {j : Nat} {kt : Tok} {Q : Unit → Shared → Prop} (e : st.get i = some (.list xs, true)) (hv : vm i = some v)
    (hl : lenOk xs.length = true) (hj : j < xs.length) (r : Rep W (Ok H sc env vm st) s.heap t vn)
    (hQ : ∀ s', Rel W H sc env vm (st.set i (.list (xs.set j t)) true) s'.heap → Stp (Pv sc env vm st) s.heap (Pv sc env vm (st.set i (.list (xs.set j t)) true)) s'.heap → Alike s s' → Q () s') :
    wpAny (model W.prog W.w) A (setItem v (.int (j : Int) kt) vn) Q Er s := by
  obtain ⟨v', q, B, _⟩ := R.vals i _ _ e
  rw [hv] at q; cases q
  obtain ⟨a, us, rfl, ⟨n, p⟩, ra⟩ := B
  have hle := lenOk_le hl
  have h1 := reps_len ra
  refine ki_setAt (n := n) p (by omega) (by omega) (by rw [List.size_toArray]; omega) ?_
  have hp' : (s.heap.update a (Obj.mapSeq (·.setIfInBounds (j : Int).toNat vn))).PlainList a (us.set j vn).toArray := plain_seq p (by simp)
  obtain ⟨R', S', _⟩ := list_change R e hv (Heap.SameBut.update ..) hp' (reps_set j ra r)
  exact hQ _ R' S' ⟨rfl, rfl⟩

/-! a dict changes -/
noncomputable def putV : List (List Nat) → List Value → List Nat → Value → List Value
  | k :: ks, v :: vs, x, t => match sEq k x with
    | true => t :: vs
    | false => v :: putV ks vs x t
  | _, _, _, t => [t]

theorem putV_reps {ok : Addr → Prop} {h : Heap} (x : List Nat) {t : T} {v : Value} (r : Rep W ok h t v) : ∀ {ks : List (List Nat)} {ts : List T} {vs : List Value}, ks.length = vs.length → Reps W ok h ts vs → Reps W ok h (putS ks ts x t).2 (putV ks vs x v) ∧ (putS ks ts x t).1.length = (putV ks vs x v).length
  | [], ts, vs, l, q => by simp only [putS, putV, Reps]; exact ⟨⟨v, [], rfl, r, rfl⟩, rfl⟩
  | k :: ks, [], vs, l, q => by rw [reps_nil q] at l; cases l
  | k :: ks, u :: ts, vs, l, q => by
    obtain ⟨w, r', rfl, y, q'⟩ := reps_cons q
    have l' : ks.length = r'.length := by simpa using l
    simp only [putS, putV]
    cases sEq k x with
    | true =>
      simp only [Reps]
      exact ⟨⟨v, r', rfl, r, q'⟩, by simpa using l'⟩
    | false =>
      obtain ⟨h1, h2⟩ := putV_reps x r l' q'
      simp only [Reps]
      exact ⟨⟨w, _, rfl, y, h1⟩, by simpa using h2⟩

theorem map_same (kvs : List (Str × Value)) (k : Str) (v : Value) (hn : k ∉ kvs.map (·.1)) : (kvs.map fun kv => if kv.1 = k then (kv.1, v) else kv) = kvs := by
  conv => rhs; rw [← List.map_id kvs]
  refine List.map_congr_left fun kv hkv => ?_
  rw [if_neg]
  · rfl
  · intro e
    exact hn (List.mem_map.mpr ⟨kv, hkv, e⟩)

theorem put_stored (x : List Nat) (v : Value) {t : T} : ∀ {ks : List (List Nat)} {ts : List T} {vs : List Value}, ks.length = vs.length → ts.length = vs.length → (((ks.map mkS).zip vs).map (·.1)).Nodup →
    stored ((ks.map mkS).zip vs) (mkS x) v = ((putS ks ts x t).1.map mkS).zip (putV ks vs x v)
  | [], ts, vs, l, _, _ => by simp [stored, putS, putV]
  | k :: ks, ts, [], l, _, _ => by simp at l
  | k :: ks, [], w :: vs, _, l, _ => by simp at l
  | k :: ks, u :: ts, w :: vs, l, l2, nd => by
    simp only [List.map_cons, List.zip_cons_cons, List.nodup_cons] at nd
    simp only [putS, putV, List.map_cons, List.zip_cons_cons]
    cases hx : sEq k x with
    | true =>
      rw [sEq_iff] at hx
      subst hx
      have e : stored ((mkS k, w) :: (ks.map mkS).zip vs) (mkS k) v = (mkS k, v) :: (ks.map mkS).zip vs := by
        unfold stored
        rw [if_pos (by simp)]
        simp only [List.map_cons, if_true]
        rw [map_same _ _ _ nd.1]
      rw [e]
      rfl
    | false =>
      have ne : mkS k ≠ mkS x := fun q => by rw [mkS_inj] at q; subst q; rw [(sEq_iff k k).2 rfl] at hx; cases hx
      have ih := put_stored x v (t := t) (ks := ks) (ts := ts) (vs := vs) (by simpa using l) (by simpa using l2) nd.2
      have e : stored ((mkS k, w) :: (ks.map mkS).zip vs) (mkS x) v = (mkS k, w) :: stored ((ks.map mkS).zip vs) (mkS x) v := by
        unfold stored
        simp only [List.any_cons, ne, decide_false, Bool.false_or, List.map_cons, if_false]
        split <;> simp
      rw [e, ih]
      rfl

theorem dset_ok (R : Rel W H sc env vm st s.heap) {i : Nat} {ks : List (List Nat)} {ts : List T} {v vn : Value} {t : T} {x : List Nat} {kt : Tok} {Q : Unit → Shared → Prop} (e : st.get i = some (.dict ks ts, true)) (hv : vm i = some v)
    (hl : lenOk ks.length = true) (r : Rep W (Ok H sc env vm st) s.heap t vn)
    (hQ : ∀ s', Rel W H sc env vm (st.set i (.dict (putS ks ts x t).1 (putS ks ts x t).2) true) s'.heap → Stp (Pv sc env vm st) s.heap (Pv sc env vm (st.set i (.dict (putS ks ts x t).1 (putS ks ts x t).2) true)) s'.heap → Alike s s' → Q () s') :
    wpAny (model W.prog W.w) A (setItem v (.str (mkS x) kt) vn) Q Er s := by
  obtain ⟨v', q, B, _⟩ := R.vals i _ _ e
  rw [hv] at q; cases q
  obtain ⟨a, us, ep, rfl, hsys, da, la, ra⟩ := B
  have hle := lenOk_le hl
  have h1 := reps_len ra
  have hlen : ((ks.map mkS).zip us).length = ks.length := by rw [List.length_zip, List.length_map, la, Nat.min_self]
  have nd : (((ks.map mkS).zip us).map (·.1)).Nodup := by obtain ⟨_, _, _, _, _, _, _, nd⟩ := da; exact nd
  refine wpAny_setItem_pairs (strKind_is _ _ _ _) da.dictOf (fun h' hd hs => ?_) (by rw [hlen, sizeLine_v]; omega)
  rw [put_stored x vn (t := t) la h1 nd] at hd
  have pa : Pv sc env vm st a := .inr (.inr ⟨i, _, e, hv⟩)
  have tr : Tr (Ok H sc env vm st) s.heap (Ok H sc env vm st) h' := fun b o k q => ⟨k, (hs.2 b fun ea => k.1 (ea ▸ pa)).trans q⟩
  obtain ⟨p1, p2⟩ := putV_reps x r la ra
  obtain ⟨o, es, ep', hd⟩ := hd
  have hcell : ∀ c, ¬ h'.IsCell a c := fun c ⟨o', e1, e2⟩ => by rw [hd.1] at e1; cases e1; rw [hd.2.2.1] at e2; cases e2
  obtain ⟨R', S', _⟩ := R.mutate (t' := .dict (putS ks ts x t).1 (putS ks ts x t).2) e hv hs (by intro g q; cases q) hcell ⟨a, _, ep', rfl, hsys, ⟨o, es, hd⟩, p2, reps_tr tr p1⟩
  exact hQ _ R' S' ⟨rfl, rfl⟩
end
end MP
end

section -- MpTr
open PySem PySem.W PyProof.Rows
namespace MP

noncomputable abbrev Sc := List (Str × NameKind)
noncomputable def isV (sc : Sc) (x : Str) : Bool := match sc.lookup x with
  | some .local => true
  | some .cell => true
  | some .free => true
  | _ => false
noncomputable def isW (sc : Sc) (x : Str) : Bool := match sc.lookup x with
  | some .local => true
  | some .cell => true
  | _ => false
noncomputable def isL (sc : Sc) (x : Str) : Bool := match sc.lookup x with
  | some .local => true
  | _ => false
noncomputable def isC (sc : Sc) (x : Str) : Bool := match sc.lookup x with
  | some .cell => true
  | some .free => true
  | _ => false
noncomputable def isF (sc : Sc) (x : Str) : Bool := match sc.lookup x with
  | some .free => true
  | _ => false
noncomputable def isG (sc : Sc) (x : Str) : Bool := match sc.lookup x with
  | some .globalImplicit => true
  | _ => false
noncomputable def biStr : BI → Str
  | .len => "len"
  | .range => "range"
  | .sorted => "sorted"
  | .max => "max"
  | .sum => "sum"
  | .abs => "abs"
  | .chr => "chr"
  | .list => "list"
noncomputable def opOf : Bool → BoolOp
  | true => .And
  | false => .Or
noncomputable def nodupB : List Str → Bool
  | [] => true
  | x :: r => !(r.any (· == x)) && nodupB r

/-! what is read off the model's term: places, parts -/
noncomputable def dP : Pos := ⟨0, 0, 0, 0⟩
noncomputable def dE : PySem.Expr := .Name ⟨#[]⟩ dP
noncomputable def posE : PySem.Expr → Pos
  | .BoolOp _ _ p => p
  | .BinOp _ _ _ p => p
  | .UnaryOp _ _ p => p
  | .IfExp _ _ _ p => p
  | .Dict _ _ p => p
  | .ListComp _ _ _ p => p
  | .Compare _ _ _ p => p
  | .Call _ _ _ p => p
  | .Constant _ _ p => p
  | .Attribute _ _ p => p
  | .Subscript _ _ p => p
  | .Name _ p => p
  | .List _ p => p
  | .Tuple _ _ p => p
  | .Slice _ _ _ p => p
  | _ => dP
noncomputable def kidsE : PySem.Expr → List PySem.Expr
  | .BoolOp _ vs _ => vs
  | .BinOp l _ r _ => [l, r]
  | .UnaryOp _ x _ => [x]
  | .IfExp t x y _ => [t, x, y]
  | .Dict ks vs _ => ks.filterMap id ++ vs
  | .ListComp elt _ _ _ => [elt]
  | .Compare l _ rs _ => l :: rs
  | .Call f xs _ _ => f :: xs
  | .Attribute v _ _ => [v]
  | .Subscript v s _ => [v, s]
  | .List xs _ => xs
  | .Tuple xs _ _ => xs
  | .Slice l u st _ => [l.getD dE, u.getD dE, st.getD dE]
  | _ => []
noncomputable def numE : PySem.Expr → Nat
  | .Constant _ k _ => k
  | .Tuple _ k _ => k
  | _ => 0
noncomputable def gensE : PySem.Expr → List Comprehension
  | .ListComp _ gs _ _ => gs
  | _ => []
noncomputable def dSc : Scope := { kind := .function, names := [], isGenerator := false, isCoroutine := false }
noncomputable def scopeE : PySem.Expr → Scope
  | .ListComp _ _ sc _ => sc
  | _ => dSc
noncomputable def kid (p : PySem.Expr) (i : Nat) : PySem.Expr := (kidsE p).getD i dE
noncomputable def dC : Comprehension := ⟨dE, dE, [], 0⟩

noncomputable def plainBase : PySem.Expr → Bool
  | .Name .. => true
  | .Constant .. => true
  | _ => false
noncomputable def isComp : PySem.Expr → Bool
  | .ListComp .. => true
  | _ => false
noncomputable def isSlice : PySem.Expr → Bool
  | .Slice .. => true
  | _ => false
/-- an operand of a method: a name or a text -/
noncomputable def plainO : E → Bool
  | .var _ => true
  | .glob _ => true
  | .str _ => true
  | .int _ => false
  | .bool _ => false
  | .neg _ => false
  | .bin _ _ _ => false
  | .cmp _ _ => false
  | .andor _ _ _ => false
  | .ite _ _ _ => false
  | .sub _ _ => false
  | .slc _ _ _ => false
  | .rev _ => false
  | .list _ => false
  | .tup _ => false
  | .dict0 => false
  | .dict1 _ _ => false
  | .call _ _ => false
  | .bi _ _ => false
  | .meth _ _ _ => false
  | .repl _ _ _ => false
  | .comp _ _ _ _ _ => false

section
variable (nm : Nat → Str)
/-- the names of a comprehension's own table -/
noncomputable def trSub (sc ns : Sc) (cap : List Nat) (kind : ScopeKind) : Bool :=
  kind == .function && nodupB (ns.map (·.1))
    && ns.all (fun x => match x.2 with | .free => isC sc x.1 && cap.any (fun i => nm i == x.1) | .local => true | .cell => true | .globalImplicit => true | _ => false)
    && cap.all fun i => isF ns (nm i)
/-! what it says that a mini term is the model's term -/
noncomputable def PNm (sc : Sc) (x : Nat) (p : PySem.Expr) : Prop := ∃ q, p = .Name (nm x) q ∧ isW sc (nm x) = true
noncomputable def PNms (sc : Sc) : List Nat → List PySem.Expr → Prop
  | [], ps => ps = []
  | x :: xs, ps => ∃ p r, ps = p :: r ∧ PNm nm sc x p ∧ PNms sc xs r
noncomputable def PTg (sc : Sc) : Tg → PySem.Expr → Prop
  | .name x, p => PNm nm sc x p
  | .tup xs, p => ∃ es k q, p = .Tuple es k q ∧ PNms nm sc xs es
mutual
noncomputable def PE (sc : Sc) : E → PySem.Expr → Prop
  | .int i, p => ∃ k q, p = .Constant (.int i) k q
  | .str s, p => ∃ k q, p = .Constant (.str (mkS s)) k q
  | .bool b, p => ∃ k q, p = .Constant (.bool b) k q
  | .var x, p => ∃ q, p = .Name (nm x) q ∧ isV sc (nm x) = true ∧ (nm x == "__debug__") = false ∧ (nm x == "__classdict__") = false
  | .glob g, p => ∃ q, p = .Name (nm g) q ∧ isG sc (nm g) = true ∧ (nm g == "__debug__") = false
  | .neg i, p => ∃ k q r, p = .UnaryOp .USub (.Constant (.int i) k q) r
  | .bin o a b, p => ∃ l r q, p = .BinOp l o r q ∧ PE sc a l ∧ PE sc b r
  | .cmp a r, p => ∃ l ops rs q, p = .Compare l ops rs q ∧ PE sc a l ∧ PCs sc r ops rs
  | .andor i a r, p => ∃ x xs q, p = .BoolOp (opOf i) (x :: xs) q ∧ PE sc a x ∧ PEs sc r xs
  | .ite c a b, p => ∃ t x y q, p = .IfExp t x y q ∧ PE sc c t ∧ PE sc a x ∧ PE sc b y
  | .sub a i, p => ∃ v s q, p = .Subscript v s q ∧ isSlice s = false ∧ PE sc a v ∧ PE sc i s
  | .slc a lo hi, p => ∃ v l u q r, p = .Subscript v (.Slice l u none q) r ∧ PE sc a v ∧ PO sc lo l ∧ PO sc hi u
  | .rev a, p => ∃ v k q1 q2 q3 q, p = .Subscript v (.Slice none none (some (.UnaryOp .USub (.Constant (.int 1) k q1) q2)) q3) q ∧ PE sc a v
  | .list es, p => ∃ xs q, p = .List xs q ∧ PEs sc es xs
  | .tup es, p => ∃ xs k q, p = .Tuple xs k q ∧ PEs sc es xs
  | .dict0, p => ∃ q, p = .Dict [] [] q
  | .dict1 k v, p => ∃ a b q, p = .Dict [some a] [b] q ∧ PE sc k a ∧ PE sc v b
  | .call f args, p => ∃ n q xs r, p = .Call (.Name n q) xs [] r ∧ PE sc f (.Name n q) ∧ PEs sc args xs
  | .bi b args, p => ∃ q xs r, p = .Call (.Name (biStr b) q) xs [] r ∧ isG sc (biStr b) = true ∧ PEs sc args xs
  | .meth m o args, p => ∃ v apos xs pos, p = .Call (.Attribute v (meStr m) apos) xs [] pos ∧ (apos.endLine == pos.line) = true ∧ Nat.ble xs.length 5 = true ∧ PE sc o v ∧ PEs sc args xs ∧ plainBase v = true
  | .repl o c z, p => ∃ v apos k1 q1 k2 q2 pos, p = .Call (.Attribute v "replace" apos) [.Constant (.str (mkS [c])) k1 q1, .Constant (.str (mkS z)) k2 q2] [] pos ∧ (apos.endLine == pos.line) = true ∧ PE sc o v ∧ plainBase v = true
  | .comp tg iter ifs rest cap, p => ∃ elt t it fs gs scope q, p = .ListComp elt (⟨t, it, fs, 0⟩ :: gs) scope q ∧ trSub nm sc scope.names cap scope.kind = true ∧ PTg nm scope.names tg t ∧ PE sc iter it ∧ PEs scope.names ifs fs ∧ PG scope.names rest gs elt
noncomputable def PO (sc : Sc) : Oe → Option PySem.Expr → Prop
  | .none, p => p = Option.none
  | .some e, p => ∃ q, p = Option.some q ∧ PE sc e q
noncomputable def PEs (sc : Sc) : Es → List PySem.Expr → Prop
  | .nil, ps => ps = []
  | .cons e es, ps => ∃ q qs, ps = q :: qs ∧ PE sc e q ∧ PEs sc es qs
noncomputable def PCs (sc : Sc) : Cs → List CmpOp → List PySem.Expr → Prop
  | .one op e, ops, ps => ∃ q, ops = [op] ∧ ps = [q] ∧ PE sc e q
  | .cons op e r, ops, ps => ∃ q ops' qs, ops = op :: ops' ∧ ps = q :: qs ∧ PE sc e q ∧ PCs sc r ops' qs
noncomputable def PG (sc : Sc) : Gs → List Comprehension → PySem.Expr → Prop
  | .nil e, gs, elt => gs = [] ∧ PE sc e elt
  | .cons tg iter ifs rest, gs, elt => ∃ t it fs gs', gs = ⟨t, it, fs, 0⟩ :: gs' ∧ PTg nm sc tg t ∧ PE sc iter it ∧ PEs sc ifs fs ∧ PG sc rest gs' elt
end
end

section
variable (nm : Nat → Str)
/-! a mini term, printed on the places of a model's term -/
noncomputable def toNm (x : Nat) (p : PySem.Expr) : PySem.Expr := .Name (nm x) (posE p)
noncomputable def toNms : List Nat → List PySem.Expr → List PySem.Expr
  | [], _ => []
  | x :: xs, ps => toNm nm x (ps.headD dE) :: toNms xs ps.tail
noncomputable def toTg : Tg → PySem.Expr → PySem.Expr
  | .name x, p => toNm nm x p
  | .tup xs, p => .Tuple (toNms nm xs (kidsE p)) (numE p) (posE p)
noncomputable def opsC : Cs → List CmpOp
  | .one op _ => [op]
  | .cons op _ r => op :: opsC r
mutual
noncomputable def toE : E → PySem.Expr → PySem.Expr
  | .int i, p => .Constant (.int i) (numE p) (posE p)
  | .str s, p => .Constant (.str (mkS s)) (numE p) (posE p)
  | .bool b, p => .Constant (.bool b) (numE p) (posE p)
  | .var x, p => .Name (nm x) (posE p)
  | .glob g, p => .Name (nm g) (posE p)
  | .neg i, p => .UnaryOp .USub (.Constant (.int i) (numE (kid p 0)) (posE (kid p 0))) (posE p)
  | .bin o a b, p => .BinOp (toE a (kid p 0)) o (toE b (kid p 1)) (posE p)
  | .cmp a r, p => .Compare (toE a (kid p 0)) (opsC r) (toCs r (kidsE p).tail) (posE p)
  | .andor i a r, p => .BoolOp (opOf i) (toE a (kid p 0) :: toEs r (kidsE p).tail) (posE p)
  | .ite c a b, p => .IfExp (toE c (kid p 0)) (toE a (kid p 1)) (toE b (kid p 2)) (posE p)
  | .sub a i, p => .Subscript (toE a (kid p 0)) (toE i (kid p 1)) (posE p)
  | .slc a lo hi, p => .Subscript (toE a (kid p 0)) (.Slice (toO lo (kid (kid p 1) 0)) (toO hi (kid (kid p 1) 1)) none (posE (kid p 1))) (posE p)
  | .rev a, p => .Subscript (toE a (kid p 0)) (.Slice none none (some (.UnaryOp .USub (.Constant (.int 1) (numE (kid (kid (kid p 1) 2) 0)) (posE (kid (kid (kid p 1) 2) 0))) (posE (kid (kid p 1) 2)))) (posE (kid p 1))) (posE p)
  | .list es, p => .List (toEs es (kidsE p)) (posE p)
  | .tup es, p => .Tuple (toEs es (kidsE p)) (numE p) (posE p)
  | .dict0, p => .Dict [] [] (posE p)
  | .dict1 k v, p => .Dict [some (toE k (kid p 0))] [toE v (kid p 1)] (posE p)
  | .call f args, p => .Call (toE f (kid p 0)) (toEs args (kidsE p).tail) [] (posE p)
  | .bi b args, p => .Call (.Name (biStr b) (posE (kid p 0))) (toEs args (kidsE p).tail) [] (posE p)
  | .meth m o args, p => .Call (.Attribute (toE o (kid (kid p 0) 0)) (meStr m) (posE (kid p 0))) (toEs args (kidsE p).tail) [] (posE p)
  | .repl o c z, p => .Call (.Attribute (toE o (kid (kid p 0) 0)) "replace" (posE (kid p 0))) [.Constant (.str (mkS [c])) (numE (kid p 1)) (posE (kid p 1)), .Constant (.str (mkS z)) (numE (kid p 2)) (posE (kid p 2))] [] (posE p)
  | .comp tg iter ifs rest cap, p => .ListComp (toElt rest (kid p 0)) (⟨toTg nm tg ((gensE p).headD dC).target, toE iter ((gensE p).headD dC).iter, toEs ifs ((gensE p).headD dC).ifs, 0⟩ :: toGs rest (gensE p).tail) (scopeE p) (posE p)
noncomputable def toO : Oe → PySem.Expr → Option PySem.Expr
  | .none, _ => Option.none
  | .some e, p => Option.some (toE e p)
noncomputable def toEs : Es → List PySem.Expr → List PySem.Expr
  | .nil, _ => []
  | .cons e es, ps => toE e (ps.headD dE) :: toEs es ps.tail
noncomputable def toCs : Cs → List PySem.Expr → List PySem.Expr
  | .one _ e, ps => [toE e (ps.headD dE)]
  | .cons _ e r, ps => toE e (ps.headD dE) :: toCs r ps.tail
noncomputable def toElt : Gs → PySem.Expr → PySem.Expr
  | .nil e, elt => toE e elt
  | .cons _ _ _ rest, elt => toElt rest elt
noncomputable def toGs : Gs → List Comprehension → List Comprehension
  | .nil _, _ => []
  | .cons tg iter ifs rest, gs => ⟨toTg nm tg (gs.headD dC).target, toE iter (gs.headD dC).iter, toEs ifs (gs.headD dC).ifs, 0⟩ :: toGs rest gs.tail
end
noncomputable def isName : E → Bool
  | .var _ => true
  | .glob _ => true
  | .int _ => false
  | .str _ => false
  | .bool _ => false
  | .neg _ => false
  | .bin _ _ _ => false
  | .cmp _ _ => false
  | .andor _ _ _ => false
  | .ite _ _ _ => false
  | .sub _ _ => false
  | .slc _ _ _ => false
  | .rev _ => false
  | .list _ => false
  | .tup _ => false
  | .dict0 => false
  | .dict1 _ _ => false
  | .call _ _ => false
  | .bi _ _ => false
  | .meth _ _ _ => false
  | .repl _ _ _ => false
  | .comp _ _ _ _ _ => false
noncomputable def wfTg (sc : Sc) : Tg → Bool
  | .name x => isW sc (nm x)
  | .tup xs => xs.all fun x => isW sc (nm x)
mutual
noncomputable def wfE (sc : Sc) : E → PySem.Expr → Bool
  | .int _, _ => true
  | .str _, _ => true
  | .bool _, _ => true
  | .neg _, _ => true
  | .dict0, _ => true
  | .var x, _ => isV sc (nm x) && !(nm x == "__debug__") && !(nm x == "__classdict__")
  | .glob g, _ => isG sc (nm g) && !(nm g == "__debug__")
  | .bin _ a b, p => wfE sc a (kid p 0) && wfE sc b (kid p 1)
  | .cmp a r, p => wfE sc a (kid p 0) && wfCs sc r (kidsE p).tail
  | .andor _ a r, p => wfE sc a (kid p 0) && wfEs sc r (kidsE p).tail
  | .ite c a b, p => wfE sc c (kid p 0) && wfE sc a (kid p 1) && wfE sc b (kid p 2)
  | .sub a i, p => wfE sc a (kid p 0) && wfE sc i (kid p 1)
  | .slc a lo hi, p => wfE sc a (kid p 0) && wfO sc lo (kid (kid p 1) 0) && wfO sc hi (kid (kid p 1) 1)
  | .rev a, p => wfE sc a (kid p 0)
  | .list es, p => wfEs sc es (kidsE p)
  | .tup es, p => wfEs sc es (kidsE p)
  | .dict1 k v, p => wfE sc k (kid p 0) && wfE sc v (kid p 1)
  | .call f args, p => isName f && wfE sc f (kid p 0) && wfEs sc args (kidsE p).tail
  | .bi b args, p => isG sc (biStr b) && wfEs sc args (kidsE p).tail
  | .meth _ o args, p => ((posE (kid p 0)).endLine == (posE p).line) && Nat.ble (kidsE p).tail.length 5 && wfE sc o (kid (kid p 0) 0) && wfEs sc args (kidsE p).tail && plainO o
  | .repl o _ _, p => ((posE (kid p 0)).endLine == (posE p).line) && wfE sc o (kid (kid p 0) 0) && plainO o
  | .comp tg iter ifs rest cap, p => trSub nm sc (scopeE p).names cap (scopeE p).kind && wfTg nm (scopeE p).names tg && wfE sc iter ((gensE p).headD dC).iter && wfEs (scopeE p).names ifs ((gensE p).headD dC).ifs && wfG (scopeE p).names rest (gensE p).tail (kid p 0)
noncomputable def wfO (sc : Sc) : Oe → PySem.Expr → Bool
  | .none, _ => true
  | .some e, p => wfE sc e p
noncomputable def wfEs (sc : Sc) : Es → List PySem.Expr → Bool
  | .nil, _ => true
  | .cons e es, ps => wfE sc e (ps.headD dE) && wfEs sc es ps.tail
noncomputable def wfCs (sc : Sc) : Cs → List PySem.Expr → Bool
  | .one _ e, ps => wfE sc e (ps.headD dE)
  | .cons _ e r, ps => wfE sc e (ps.headD dE) && wfCs sc r ps.tail
noncomputable def wfG (sc : Sc) : Gs → List Comprehension → PySem.Expr → Bool
  | .nil e, _, elt => wfE sc e elt
  | .cons tg iter ifs rest, gs, elt => wfTg nm sc tg && wfE sc iter (gs.headD dC).iter && wfEs sc ifs (gs.headD dC).ifs && wfG sc rest gs.tail elt
end
variable {nm}
theorem PNm_of {sc : Sc} {x : Nat} {p : PySem.Expr} (h : toNm nm x p = p) (w : isW sc (nm x) = true) : PNm nm sc x p := ⟨posE p, h.symm, w⟩
theorem PNms_of {sc : Sc} : ∀ {xs : List Nat} {ps : List PySem.Expr}, toNms nm xs ps = ps → (xs.all fun x => isW sc (nm x)) = true → PNms nm sc xs ps
  | [], ps, h, _ => h.symm
  | x :: xs, ps, h, w => by
    rw [List.all_cons, Bool.and_eq_true] at w
    have h0 : toNm nm x (ps.headD dE) = ps.headD dE := congrArg (·.headD dE) h
    have h1 : toNms nm xs ps.tail = ps.tail := congrArg List.tail h
    exact ⟨ps.headD dE, ps.tail, h.symm.trans (by show _ :: _ = _; rw [h0, h1]), PNm_of h0 w.1, PNms_of h1 w.2⟩
theorem PTg_of {sc : Sc} {tg : Tg} {p : PySem.Expr} (h : toTg nm tg p = p) (w : wfTg nm sc tg = true) : PTg nm sc tg p := by
  cases tg with
  | name x => exact PNm_of h w
  | tup xs =>
    have h0 : toNms nm xs (kidsE p) = kidsE p := congrArg kidsE h
    exact ⟨kidsE p, numE p, posE p, h.symm.trans (by show PySem.Expr.Tuple _ _ _ = _; rw [h0]), PNms_of h0 w⟩
end

theorem and2 {a b : Bool} (h : (a && b) = true) : a = true ∧ b = true := (Bool.and_eq_true a b ▸ h)
theorem notT {a : Bool} (h : (!a) = true) : a = false := by cases a with
  | true => exact nomatch h
  | false => rfl
section
variable {nm : Nat → Str}
theorem toE_notSlice : ∀ (e : E) (p : PySem.Expr), isSlice (toE nm e p) = false := by
  intro e p
  cases e <;> rfl
theorem toE_plain : ∀ (e : E) (p : PySem.Expr), plainO e = true → plainBase (toE nm e p) = true := by
  intro e p h
  cases e <;> first | rfl | exact nomatch h
mutual
theorem PE_of : ∀ (e : E) (sc : Sc) (p : PySem.Expr), toE nm e p = p → wfE nm sc e p = true → PE nm sc e p
  | .int i, sc, p, h, w => ⟨_, _, h.symm⟩
  | .str s, sc, p, h, w => ⟨_, _, h.symm⟩
  | .bool b, sc, p, h, w => ⟨_, _, h.symm⟩
  | .var x, sc, p, h, w => ⟨_, h.symm, (and2 (and2 w).1).1, notT (and2 (and2 w).1).2, notT (and2 w).2⟩
  | .glob g, sc, p, h, w => ⟨_, h.symm, (and2 w).1, notT (and2 w).2⟩
  | .neg i, sc, p, h, w => ⟨_, _, _, h.symm⟩
  | .bin o a b, sc, p, h, w => by
    have h0 : toE nm a (kid p 0) = kid p 0 := congrArg (kid · 0) h
    have h1 : toE nm b (kid p 1) = kid p 1 := congrArg (kid · 1) h
    exact ⟨kid p 0, kid p 1, posE p, h.symm.trans (by show PySem.Expr.BinOp _ _ _ _ = _; rw [h0, h1]), PE_of a sc _ h0 (and2 w).1, PE_of b sc _ h1 (and2 w).2⟩
  | .cmp a r, sc, p, h, w => by
    have h0 : toE nm a (kid p 0) = kid p 0 := congrArg (kid · 0) h
    have h1 : toCs nm r (kidsE p).tail = (kidsE p).tail := congrArg (fun p => (kidsE p).tail) h
    exact ⟨kid p 0, opsC r, (kidsE p).tail, posE p, h.symm.trans (by show PySem.Expr.Compare _ _ _ _ = _; rw [h0, h1]), PE_of a sc _ h0 (and2 w).1, PCs_of r sc _ h1 (and2 w).2⟩
  | .andor i a r, sc, p, h, w => by
    have h0 : toE nm a (kid p 0) = kid p 0 := congrArg (kid · 0) h
    have h1 : toEs nm r (kidsE p).tail = (kidsE p).tail := congrArg (fun p => (kidsE p).tail) h
    exact ⟨kid p 0, (kidsE p).tail, posE p, h.symm.trans (by show PySem.Expr.BoolOp _ _ _ = _; rw [h0, h1]), PE_of a sc _ h0 (and2 w).1, PEs_of r sc _ h1 (and2 w).2⟩
  | .ite c a b, sc, p, h, w => by
    have h0 : toE nm c (kid p 0) = kid p 0 := congrArg (kid · 0) h
    have h1 : toE nm a (kid p 1) = kid p 1 := congrArg (kid · 1) h
    have h2 : toE nm b (kid p 2) = kid p 2 := congrArg (kid · 2) h
    exact ⟨kid p 0, kid p 1, kid p 2, posE p, h.symm.trans (by show PySem.Expr.IfExp _ _ _ _ = _; rw [h0, h1, h2]), PE_of c sc _ h0 (and2 (and2 w).1).1, PE_of a sc _ h1 (and2 (and2 w).1).2, PE_of b sc _ h2 (and2 w).2⟩
  | .sub a i, sc, p, h, w => by
    have h0 : toE nm a (kid p 0) = kid p 0 := congrArg (kid · 0) h
    have h1 : toE nm i (kid p 1) = kid p 1 := congrArg (kid · 1) h
    exact ⟨kid p 0, kid p 1, posE p, h.symm.trans (by show PySem.Expr.Subscript _ _ _ = _; rw [h0, h1]), h1 ▸ toE_notSlice i _, PE_of a sc _ h0 (and2 w).1, PE_of i sc _ h1 (and2 w).2⟩
  | .slc a lo hi, sc, p, h, w => by
    have h0 : toE nm a (kid p 0) = kid p 0 := congrArg (kid · 0) h
    have h1 : (toO nm lo (kid (kid p 1) 0)).getD dE = kid (kid p 1) 0 := congrArg (fun p => kid (kid p 1) 0) h
    have h2 : (toO nm hi (kid (kid p 1) 1)).getD dE = kid (kid p 1) 1 := congrArg (fun p => kid (kid p 1) 1) h
    exact ⟨kid p 0, _, _, _, posE p, h.symm.trans (by show PySem.Expr.Subscript _ _ _ = _; rw [h0]), PE_of a sc _ h0 (and2 (and2 w).1).1, PO_of lo sc _ h1 (and2 (and2 w).1).2, PO_of hi sc _ h2 (and2 w).2⟩
  | .rev a, sc, p, h, w => by
    have h0 : toE nm a (kid p 0) = kid p 0 := congrArg (kid · 0) h
    exact ⟨kid p 0, _, _, _, _, posE p, h.symm.trans (by show PySem.Expr.Subscript _ _ _ = _; rw [h0]), PE_of a sc _ h0 w⟩
  | .list es, sc, p, h, w => by
    have h1 : toEs nm es (kidsE p) = kidsE p := congrArg kidsE h
    exact ⟨kidsE p, posE p, h.symm.trans (by show PySem.Expr.List _ _ = _; rw [h1]), PEs_of es sc _ h1 w⟩
  | .tup es, sc, p, h, w => by
    have h1 : toEs nm es (kidsE p) = kidsE p := congrArg kidsE h
    exact ⟨kidsE p, numE p, posE p, h.symm.trans (by show PySem.Expr.Tuple _ _ _ = _; rw [h1]), PEs_of es sc _ h1 w⟩
  | .dict0, sc, p, h, w => ⟨_, h.symm⟩
  | .dict1 k v, sc, p, h, w => by
    have h0 : toE nm k (kid p 0) = kid p 0 := congrArg (kid · 0) h
    have h1 : toE nm v (kid p 1) = kid p 1 := congrArg (kid · 1) h
    exact ⟨kid p 0, kid p 1, posE p, h.symm.trans (by show PySem.Expr.Dict _ _ _ = _; rw [h0, h1]), PE_of k sc _ h0 (and2 w).1, PE_of v sc _ h1 (and2 w).2⟩
  | .call f args, sc, p, h, w => by
    have h0 : toE nm f (kid p 0) = kid p 0 := congrArg (kid · 0) h
    have h1 : toEs nm args (kidsE p).tail = (kidsE p).tail := congrArg (fun p => (kidsE p).tail) h
    have P0 := PE_of f sc _ h0 (and2 (and2 w).1).2
    have hn := (and2 (and2 w).1).1
    have e : p = .Call (kid p 0) (kidsE p).tail [] (posE p) := h.symm.trans (by show PySem.Expr.Call _ _ _ _ = _; rw [h0, h1])
    have key : ∃ n q, kid p 0 = .Name n q := by
      cases f with
      | var x => exact ⟨_, _, h0.symm⟩
      | glob g => exact ⟨_, _, h0.symm⟩
      | _ => exact nomatch hn
    obtain ⟨n, q, k⟩ := key
    rw [k] at P0 e
    exact ⟨n, q, _, _, e, P0, PEs_of args sc _ h1 (and2 w).2⟩
  | .bi b args, sc, p, h, w => by
    have h1 : toEs nm args (kidsE p).tail = (kidsE p).tail := congrArg (fun p => (kidsE p).tail) h
    exact ⟨_, _, posE p, h.symm.trans (by show PySem.Expr.Call _ _ _ _ = _; rw [h1]), (and2 w).1, PEs_of args sc _ h1 (and2 w).2⟩
  | .meth m o args, sc, p, h, w => by
    have h0 : toE nm o (kid (kid p 0) 0) = kid (kid p 0) 0 := congrArg (fun p => kid (kid p 0) 0) h
    have h1 : toEs nm args (kidsE p).tail = (kidsE p).tail := congrArg (fun p => (kidsE p).tail) h
    exact ⟨_, _, _, posE p, h.symm.trans (by show PySem.Expr.Call _ _ _ _ = _; rw [h0, h1]), (and2 (and2 (and2 (and2 w).1).1).1).1, (and2 (and2 (and2 (and2 w).1).1).1).2, PE_of o sc _ h0 (and2 (and2 (and2 w).1).1).2, PEs_of args sc _ h1 (and2 (and2 w).1).2, h0 ▸ toE_plain o _ (and2 w).2⟩
  | .repl o c z, sc, p, h, w => by
    have h0 : toE nm o (kid (kid p 0) 0) = kid (kid p 0) 0 := congrArg (fun p => kid (kid p 0) 0) h
    exact ⟨_, _, _, _, _, _, posE p, h.symm.trans (by show PySem.Expr.Call _ _ _ _ = _; rw [h0]), (and2 (and2 w).1).1, PE_of o sc _ h0 (and2 (and2 w).1).2, h0 ▸ toE_plain o _ (and2 w).2⟩
  | .comp tg iter ifs rest cap, sc, p, h, w => by
    have h0 : toElt nm rest (kid p 0) = kid p 0 := congrArg (kid · 0) h
    have h1 : toTg nm tg ((gensE p).headD dC).target = ((gensE p).headD dC).target := congrArg (fun p => ((gensE p).headD dC).target) h
    have h2 : toE nm iter ((gensE p).headD dC).iter = ((gensE p).headD dC).iter := congrArg (fun p => ((gensE p).headD dC).iter) h
    have h3 : toEs nm ifs ((gensE p).headD dC).ifs = ((gensE p).headD dC).ifs := congrArg (fun p => ((gensE p).headD dC).ifs) h
    have h4 : toGs nm rest (gensE p).tail = (gensE p).tail := congrArg (fun p => (gensE p).tail) h
    exact ⟨_, _, _, _, _, scopeE p, posE p, h.symm.trans (by show PySem.Expr.ListComp _ _ _ _ = _; rw [h0, h1, h2, h3, h4]), (and2 (and2 (and2 (and2 w).1).1).1).1, PTg_of h1 (and2 (and2 (and2 (and2 w).1).1).1).2, PE_of iter sc _ h2 (and2 (and2 (and2 w).1).1).2, PEs_of ifs _ _ h3 (and2 (and2 w).1).2, PG_of rest _ _ _ h4 h0 (and2 w).2⟩
theorem PO_of : ∀ (o : Oe) (sc : Sc) (p : PySem.Expr), (toO nm o p).getD dE = p → wfO nm sc o p = true → PO nm sc o (toO nm o p)
  | .none, sc, p, h, w => rfl
  | .some e, sc, p, h, w => by
    have h : toE nm e p = p := h
    exact ⟨toE nm e p, rfl, h.symm ▸ PE_of e sc p h w⟩
theorem PEs_of : ∀ (es : Es) (sc : Sc) (ps : List PySem.Expr), toEs nm es ps = ps → wfEs nm sc es ps = true → PEs nm sc es ps
  | .nil, sc, ps, h, w => h.symm
  | .cons e es, sc, ps, h, w => by
    have h0 : toE nm e (ps.headD dE) = ps.headD dE := congrArg (·.headD dE) h
    have h1 : toEs nm es ps.tail = ps.tail := congrArg List.tail h
    exact ⟨ps.headD dE, ps.tail, h.symm.trans (by show _ :: _ = _; rw [h0, h1]), PE_of e sc _ h0 (and2 w).1, PEs_of es sc _ h1 (and2 w).2⟩
theorem PCs_of : ∀ (r : Cs) (sc : Sc) (ps : List PySem.Expr), toCs nm r ps = ps → wfCs nm sc r ps = true → PCs nm sc r (opsC r) ps
  | .one op e, sc, ps, h, w => by
    have h0 : toE nm e (ps.headD dE) = ps.headD dE := congrArg (·.headD dE) h
    exact ⟨ps.headD dE, rfl, h.symm.trans (by show [_] = _; rw [h0]), PE_of e sc _ h0 w⟩
  | .cons op e r, sc, ps, h, w => by
    have h0 : toE nm e (ps.headD dE) = ps.headD dE := congrArg (·.headD dE) h
    have h1 : toCs nm r ps.tail = ps.tail := congrArg List.tail h
    exact ⟨ps.headD dE, opsC r, ps.tail, rfl, h.symm.trans (by show _ :: _ = _; rw [h0, h1]), PE_of e sc _ h0 (and2 w).1, PCs_of r sc _ h1 (and2 w).2⟩
theorem PG_of : ∀ (rest : Gs) (sc : Sc) (gs : List Comprehension) (elt : PySem.Expr), toGs nm rest gs = gs → toElt nm rest elt = elt → wfG nm sc rest gs elt = true → PG nm sc rest gs elt
  | .nil e, sc, gs, elt, h, h', w => ⟨h.symm, PE_of e sc _ h' w⟩
  | .cons tg iter ifs rest, sc, gs, elt, h, h', w => by
    have h1 : toTg nm tg (gs.headD dC).target = (gs.headD dC).target := congrArg (fun gs => (gs.headD dC).target) h
    have h2 : toE nm iter (gs.headD dC).iter = (gs.headD dC).iter := congrArg (fun gs => (gs.headD dC).iter) h
    have h3 : toEs nm ifs (gs.headD dC).ifs = (gs.headD dC).ifs := congrArg (fun gs => (gs.headD dC).ifs) h
    have h4 : toGs nm rest gs.tail = gs.tail := congrArg List.tail h
    exact ⟨_, _, _, _, h.symm.trans (by show _ :: _ = _; rw [h1, h2, h3, h4]), PTg_of h1 (and2 (and2 (and2 w).1).1).1, PE_of iter sc _ h2 (and2 (and2 (and2 w).1).1).2, PEs_of ifs sc _ h3 (and2 (and2 w).1).2, PG_of rest sc _ _ h4 h' (and2 w).2⟩
end
end

/-- names that are stored at once -/
noncomputable def sameLine (sc : Sc) (ts : List PySem.Expr) : Bool := ts.all fun
  | .Name n pos => isL sc n && pos.line == ((ts.head?.map (·.pos.line)).getD 0)
  | _ => false
noncomputable def kidS : PySem.Stmt → Nat → PySem.Expr
  | .Assign ts v _, i => match i with
    | 0 => ts.headD dE
    | _ => v
  | .AugAssign t _ v _, i => match i with
    | 0 => t
    | _ => v
  | .Expr v _, _ => v
  | .If t _ _ _, _ => t
  | .While t _ _ _, _ => t
  | .For t it _ _ _, i => match i with
    | 0 => t
    | _ => it
  | .Return v _, _ => v.getD dE
  | .Delete ts _, _ => ts.headD dE
  | .Assert t _ _, _ => t
  | _, _ => dE
noncomputable def bodyS : PySem.Stmt → Nat → List PySem.Stmt
  | .If _ x y _, i => match i with
    | 0 => x
    | _ => y
  | .While _ x _ _, _ => x
  | .For _ _ x _ _, _ => x
  | .Try x _ _ _ _, _ => x
  | _, _ => []
noncomputable def handS : PySem.Stmt → List ExceptHandler
  | .Try _ h _ _ _ => h
  | _ => []
noncomputable def posS : PySem.Stmt → Pos
  | .Assign _ _ p => p
  | .AugAssign _ _ _ p => p
  | .Expr _ p => p
  | .If _ _ _ p => p
  | .While _ _ _ p => p
  | .For _ _ _ _ p => p
  | .Return _ p => p
  | .Delete _ p => p
  | .Assert _ _ p => p
  | .Try _ _ _ _ p => p
  | _ => dP
section
variable (nm : Nat → Str)
noncomputable def tupOk (sc : Sc) (xs : List Nat) (ts vs : List PySem.Expr) : Bool := sameLine sc ts && nodupB (xs.map nm) && (Nat.beq xs.length 2 || Nat.beq xs.length 3) && Nat.beq vs.length xs.length && ((vs.all (foldedForSure 8)) || !(vs.all (constantsAlone 8)))
noncomputable def opOk (o : Operator) : Bool := o == .Add || o == .Sub || o == .Mult
mutual
noncomputable def PS (sc : Sc) : S → PySem.Stmt → Prop
  | .assign x e, p => ∃ q v pos, p = .Assign [.Name (nm x) q] v pos ∧ isW sc (nm x) = true ∧ PE nm sc e v
  | .assignTup xs es, p => ∃ ts k q vs k' q' pos, p = .Assign [.Tuple ts k q] (.Tuple vs k' q') pos ∧ PNms nm sc xs ts ∧ PEs nm sc es vs ∧ tupOk nm sc xs ts vs = true
  | .assignNew x y, p => ∃ pa pb k1 p1 q1 q2 k2 q3 pos, p = .Assign [.Tuple [.Name (nm x) pa, .Name (nm y) pb] k1 p1] (.Tuple [.List [] q1, .List [] q2] k2 q3) pos ∧ isL sc (nm x) = true ∧ isL sc (nm y) = true ∧ (nm x == nm y) = false ∧ (pa.line == pb.line) = true
  | .setItem x i e, p => ∃ q k r v pos, p = .Assign [.Subscript (.Name (nm x) q) k r] v pos ∧ PE nm sc (.var x) (.Name (nm x) q) ∧ PE nm sc i k ∧ PE nm sc e v
  | .aug x o e, p => ∃ q v pos, p = .AugAssign (.Name (nm x) q) o v pos ∧ isL sc (nm x) = true ∧ (nm x == "__classdict__") = false ∧ opOk o = true ∧ PE nm sc e v
  | .augc x o e, p => ∃ q v pos, p = .AugAssign (.Name (nm x) q) o v pos ∧ isW sc (nm x) = true ∧ (nm x == "__classdict__") = false ∧ opOk o = true ∧ PE nm sc e v
  | .augItem x i e, p => ∃ q k r v pos, p = .AugAssign (.Subscript (.Name (nm x) q) k r) .Add v pos ∧ PE nm sc (.var x) (.Name (nm x) q) ∧ isSlice k = false ∧ PE nm sc i k ∧ PE nm sc e v
  | .expr e, p => ∃ v pos, p = .Expr v pos ∧ isComp v = false ∧ PE nm sc e v
  | .iff c a b, p => ∃ t x y pos, p = .If t x y pos ∧ PE nm sc c t ∧ PSs sc a x ∧ PSs sc b y
  | .whil _ c b, p => ∃ t x pos, p = .While t x [] pos ∧ PE nm sc c t ∧ PSs sc b x
  | .for x it b, p => ∃ q i body pos, p = .For (.Name (nm x) q) i body [] pos ∧ isW sc (nm x) = true ∧ PE nm sc it i ∧ PSs sc b body
  | .ret e, p => ∃ v pos, p = .Return (some v) pos ∧ PE nm sc e v
  | .del x i, p => ∃ q k r pos, p = .Delete [.Subscript (.Name (nm x) q) k r] pos ∧ PE nm sc (.var x) (.Name (nm x) q) ∧ PE nm sc i k
  | .asrt e, p => ∃ t pos, p = .Assert t none pos ∧ PE nm sc e t
  | .tri b, p => ∃ body h hs pos, p = .Try body (h :: hs) [] [] pos ∧ PSs sc b body
noncomputable def PSs (sc : Sc) : Ss → List PySem.Stmt → Prop
  | .nil, ps => ps = []
  | .cons s r, ps => ∃ q qs, ps = q :: qs ∧ PS sc s q ∧ PSs sc r qs
end
noncomputable def dS : PySem.Stmt := .Pass dP
mutual
noncomputable def toS : S → PySem.Stmt → PySem.Stmt
  | .assign x e, p => .Assign [toNm nm x (kidS p 0)] (toE nm e (kidS p 1)) (posS p)
  | .assignTup xs es, p => .Assign [.Tuple (toNms nm xs (kidsE (kidS p 0))) (numE (kidS p 0)) (posE (kidS p 0))] (.Tuple (toEs nm es (kidsE (kidS p 1))) (numE (kidS p 1)) (posE (kidS p 1))) (posS p)
  | .assignNew x y, p => .Assign [.Tuple [toNm nm x (kid (kidS p 0) 0), toNm nm y (kid (kidS p 0) 1)] (numE (kidS p 0)) (posE (kidS p 0))] (.Tuple [.List [] (posE (kid (kidS p 1) 0)), .List [] (posE (kid (kidS p 1) 1))] (numE (kidS p 1)) (posE (kidS p 1))) (posS p)
  | .setItem x i e, p => .Assign [.Subscript (toNm nm x (kid (kidS p 0) 0)) (toE nm i (kid (kidS p 0) 1)) (posE (kidS p 0))] (toE nm e (kidS p 1)) (posS p)
  | .aug x o e, p => .AugAssign (toNm nm x (kidS p 0)) o (toE nm e (kidS p 1)) (posS p)
  | .augc x o e, p => .AugAssign (toNm nm x (kidS p 0)) o (toE nm e (kidS p 1)) (posS p)
  | .augItem x i e, p => .AugAssign (.Subscript (toNm nm x (kid (kidS p 0) 0)) (toE nm i (kid (kidS p 0) 1)) (posE (kidS p 0))) .Add (toE nm e (kidS p 1)) (posS p)
  | .expr e, p => .Expr (toE nm e (kidS p 0)) (posS p)
  | .iff c a b, p => .If (toE nm c (kidS p 0)) (toSs a (bodyS p 0)) (toSs b (bodyS p 1)) (posS p)
  | .whil _ c b, p => .While (toE nm c (kidS p 0)) (toSs b (bodyS p 0)) [] (posS p)
  | .for x it b, p => .For (toNm nm x (kidS p 0)) (toE nm it (kidS p 1)) (toSs b (bodyS p 0)) [] (posS p)
  | .ret e, p => .Return (some (toE nm e (kidS p 0))) (posS p)
  | .del x i, p => .Delete [.Subscript (toNm nm x (kid (kidS p 0) 0)) (toE nm i (kid (kidS p 0) 1)) (posE (kidS p 0))] (posS p)
  | .asrt e, p => .Assert (toE nm e (kidS p 0)) none (posS p)
  | .tri b, p => .Try (toSs b (bodyS p 0)) (handS p) [] [] (posS p)
noncomputable def toSs : Ss → List PySem.Stmt → List PySem.Stmt
  | .nil, _ => []
  | .cons s r, ps => toS s (ps.headD dS) :: toSs r ps.tail
end
noncomputable def notCompE : E → Bool
  | .comp _ _ _ _ _ => false
  | .meth _ _ _ => true
  | .call _ _ => true
  | .bi _ _ => true
  | _ => false
mutual
noncomputable def wfS (sc : Sc) : S → PySem.Stmt → Bool
  | .assign x e, p => isW sc (nm x) && wfE nm sc e (kidS p 1)
  | .assignTup xs es, p => (xs.all fun x => isW sc (nm x)) && wfEs nm sc es (kidsE (kidS p 1)) && tupOk nm sc xs (kidsE (kidS p 0)) (kidsE (kidS p 1))
  | .assignNew x y, p => isL sc (nm x) && isL sc (nm y) && !(nm x == nm y) && ((posE (kid (kidS p 0) 0)).line == (posE (kid (kidS p 0) 1)).line)
  | .setItem x i e, p => wfE nm sc (.var x) dE && wfE nm sc i (kid (kidS p 0) 1) && wfE nm sc e (kidS p 1)
  | .aug x o e, p => isL sc (nm x) && !(nm x == "__classdict__") && opOk o && wfE nm sc e (kidS p 1)
  | .augc x o e, p => isW sc (nm x) && !(nm x == "__classdict__") && opOk o && wfE nm sc e (kidS p 1)
  | .augItem x i e, p => wfE nm sc (.var x) dE && wfE nm sc i (kid (kidS p 0) 1) && wfE nm sc e (kidS p 1)
  | .expr e, p => notCompE e && wfE nm sc e (kidS p 0)
  | .iff c a b, p => wfE nm sc c (kidS p 0) && wfSs sc a (bodyS p 0) && wfSs sc b (bodyS p 1)
  | .whil _ c b, p => wfE nm sc c (kidS p 0) && wfSs sc b (bodyS p 0)
  | .for x it b, p => isW sc (nm x) && wfE nm sc it (kidS p 1) && wfSs sc b (bodyS p 0)
  | .ret e, p => wfE nm sc e (kidS p 0)
  | .del x i, p => wfE nm sc (.var x) dE && wfE nm sc i (kid (kidS p 0) 1)
  | .asrt e, p => wfE nm sc e (kidS p 0)
  | .tri b, p => !(handS p).isEmpty && wfSs sc b (bodyS p 0)
noncomputable def wfSs (sc : Sc) : Ss → List PySem.Stmt → Bool
  | .nil, _ => true
  | .cons s r, ps => wfS sc s (ps.headD dS) && wfSs sc r ps.tail
end
end

section
variable {nm : Nat → Str}
theorem toE_notComp : ∀ (e : E) (p : PySem.Expr), notCompE e = true → isComp (toE nm e p) = false := by
  intro e p h
  cases e <;> first | rfl | exact nomatch h
theorem varP_of {sc : Sc} {x : Nat} (q : Pos) (w : wfE nm sc (.var x) dE = true) : PE nm sc (.var x) (.Name (nm x) q) := PE_of (.var x) sc (.Name (nm x) q) rfl w
mutual
theorem PS_of : ∀ (s : MP.S) (sc : Sc) (p : PySem.Stmt), toS nm s p = p → wfS nm sc s p = true → PS nm sc s p
  | .assign x e, sc, p, h, w => by
    have h1 : toE nm e (kidS p 1) = kidS p 1 := congrArg (kidS · 1) h
    exact ⟨_, kidS p 1, posS p, h.symm.trans (by show PySem.Stmt.Assign _ _ _ = _; rw [h1]; rfl), (and2 w).1, PE_of e sc _ h1 (and2 w).2⟩
  | .assignTup xs es, sc, p, h, w => by
    have h0 : toNms nm xs (kidsE (kidS p 0)) = kidsE (kidS p 0) := congrArg (fun p => kidsE (kidS p 0)) h
    have h1 : toEs nm es (kidsE (kidS p 1)) = kidsE (kidS p 1) := congrArg (fun p => kidsE (kidS p 1)) h
    exact ⟨_, _, _, _, _, _, posS p, h.symm.trans (by show PySem.Stmt.Assign _ _ _ = _; rw [h0, h1]), PNms_of h0 (and2 (and2 w).1).1, PEs_of es sc _ h1 (and2 (and2 w).1).2, (and2 w).2⟩
  | .assignNew x y, sc, p, h, w => ⟨_, _, _, _, _, _, _, _, posS p, h.symm, (and2 (and2 (and2 w).1).1).1, (and2 (and2 (and2 w).1).1).2, notT (and2 (and2 w).1).2, (and2 w).2⟩
  | .setItem x i e, sc, p, h, w => by
    have h0 : toE nm i (kid (kidS p 0) 1) = kid (kidS p 0) 1 := congrArg (fun p => kid (kidS p 0) 1) h
    have h1 : toE nm e (kidS p 1) = kidS p 1 := congrArg (kidS · 1) h
    exact ⟨_, _, _, _, posS p, h.symm.trans (by show PySem.Stmt.Assign _ _ _ = _; rw [h0, h1]; rfl), varP_of _ (and2 (and2 w).1).1, PE_of i sc _ h0 (and2 (and2 w).1).2, PE_of e sc _ h1 (and2 w).2⟩
  | .aug x o e, sc, p, h, w => by
    have h1 : toE nm e (kidS p 1) = kidS p 1 := congrArg (kidS · 1) h
    exact ⟨_, _, posS p, h.symm.trans (by show PySem.Stmt.AugAssign _ _ _ _ = _; rw [h1]; rfl), (and2 (and2 (and2 w).1).1).1, notT (and2 (and2 (and2 w).1).1).2, (and2 (and2 w).1).2, PE_of e sc _ h1 (and2 w).2⟩
  | .augc x o e, sc, p, h, w => by
    have h1 : toE nm e (kidS p 1) = kidS p 1 := congrArg (kidS · 1) h
    exact ⟨_, _, posS p, h.symm.trans (by show PySem.Stmt.AugAssign _ _ _ _ = _; rw [h1]; rfl), (and2 (and2 (and2 w).1).1).1, notT (and2 (and2 (and2 w).1).1).2, (and2 (and2 w).1).2, PE_of e sc _ h1 (and2 w).2⟩
  | .augItem x i e, sc, p, h, w => by
    have h0 : toE nm i (kid (kidS p 0) 1) = kid (kidS p 0) 1 := congrArg (fun p => kid (kidS p 0) 1) h
    have h1 : toE nm e (kidS p 1) = kidS p 1 := congrArg (kidS · 1) h
    exact ⟨_, _, _, _, posS p, h.symm.trans (by show PySem.Stmt.AugAssign _ _ _ _ = _; rw [h0, h1]; rfl), varP_of _ (and2 (and2 w).1).1, h0 ▸ toE_notSlice i _, PE_of i sc _ h0 (and2 (and2 w).1).2, PE_of e sc _ h1 (and2 w).2⟩
  | .expr e, sc, p, h, w => by
    have h1 : toE nm e (kidS p 0) = kidS p 0 := congrArg (kidS · 0) h
    exact ⟨_, posS p, h.symm.trans (by show PySem.Stmt.Expr _ _ = _; rw [h1]), h1 ▸ toE_notComp e _ (and2 w).1, PE_of e sc _ h1 (and2 w).2⟩
  | .iff c a b, sc, p, h, w => by
    have h0 : toE nm c (kidS p 0) = kidS p 0 := congrArg (kidS · 0) h
    have h1 : toSs nm a (bodyS p 0) = bodyS p 0 := congrArg (bodyS · 0) h
    have h2 : toSs nm b (bodyS p 1) = bodyS p 1 := congrArg (bodyS · 1) h
    exact ⟨_, _, _, posS p, h.symm.trans (by show PySem.Stmt.If _ _ _ _ = _; rw [h0, h1, h2]), PE_of c sc _ h0 (and2 (and2 w).1).1, PSs_of a sc _ h1 (and2 (and2 w).1).2, PSs_of b sc _ h2 (and2 w).2⟩
  | .whil n c b, sc, p, h, w => by
    have h0 : toE nm c (kidS p 0) = kidS p 0 := congrArg (kidS · 0) h
    have h1 : toSs nm b (bodyS p 0) = bodyS p 0 := congrArg (bodyS · 0) h
    exact ⟨_, _, posS p, h.symm.trans (by show PySem.Stmt.While _ _ _ _ = _; rw [h0, h1]), PE_of c sc _ h0 (and2 w).1, PSs_of b sc _ h1 (and2 w).2⟩
  | .for x it b, sc, p, h, w => by
    have h0 : toE nm it (kidS p 1) = kidS p 1 := congrArg (kidS · 1) h
    have h1 : toSs nm b (bodyS p 0) = bodyS p 0 := congrArg (bodyS · 0) h
    exact ⟨_, _, _, posS p, h.symm.trans (by show PySem.Stmt.For _ _ _ _ _ = _; rw [h0, h1]; rfl), (and2 (and2 w).1).1, PE_of it sc _ h0 (and2 (and2 w).1).2, PSs_of b sc _ h1 (and2 w).2⟩
  | .ret e, sc, p, h, w => by
    have h1 : toE nm e (kidS p 0) = kidS p 0 := congrArg (kidS · 0) h
    exact ⟨_, posS p, h.symm.trans (by show PySem.Stmt.Return _ _ = _; rw [h1]), PE_of e sc _ h1 w⟩
  | .del x i, sc, p, h, w => by
    have h0 : toE nm i (kid (kidS p 0) 1) = kid (kidS p 0) 1 := congrArg (fun p => kid (kidS p 0) 1) h
    exact ⟨_, _, _, posS p, h.symm.trans (by show PySem.Stmt.Delete _ _ = _; rw [h0]; rfl), varP_of _ (and2 w).1, PE_of i sc _ h0 (and2 w).2⟩
  | .asrt e, sc, p, h, w => by
    have h1 : toE nm e (kidS p 0) = kidS p 0 := congrArg (kidS · 0) h
    exact ⟨_, posS p, h.symm.trans (by show PySem.Stmt.Assert _ _ _ = _; rw [h1]), PE_of e sc _ h1 w⟩
  | .tri b, sc, p, h, w => by
    have h1 : toSs nm b (bodyS p 0) = bodyS p 0 := congrArg (bodyS · 0) h
    have hh := notT (and2 w).1
    cases e : handS p with
    | nil => rw [e] at hh; exact nomatch hh
    | cons a r => exact ⟨_, a, r, posS p, h.symm.trans (by show PySem.Stmt.Try _ _ _ _ _ = _; rw [h1, e]), PSs_of b sc _ h1 (and2 w).2⟩
theorem PSs_of : ∀ (s : Ss) (sc : Sc) (ps : List PySem.Stmt), toSs nm s ps = ps → wfSs nm sc s ps = true → PSs nm sc s ps
  | .nil, sc, ps, h, w => h.symm
  | .cons s r, sc, ps, h, w => by
    have h0 : toS nm s (ps.headD dS) = ps.headD dS := congrArg (·.headD dS) h
    have h1 : toSs nm r ps.tail = ps.tail := congrArg List.tail h
    exact ⟨ps.headD dS, ps.tail, h.symm.trans (by show _ :: _ = _; rw [h0, h1]), PS_of s sc _ h0 (and2 w).1, PSs_of r sc _ h1 (and2 w).2⟩
end
/-- the terms that stand for themselves in the model's calls, stores and loops -/
noncomputable def okX : PySem.Expr → Bool
  | .BoolOp .. => true
  | .BinOp .. => true
  | .UnaryOp .. => true
  | .IfExp .. => true
  | .Dict .. => true
  | .ListComp .. => true
  | .Compare .. => true
  | .Call .. => true
  | .Constant .. => true
  | .Subscript .. => true
  | .Name .. => true
  | .List .. => true
  | .Tuple .. => true
  | _ => false
theorem okX_of : ∀ {e : E} {sc : Sc} {p : PySem.Expr}, PE nm sc e p → okX p = true := by
  intro e sc p h
  cases e with
  | int i => obtain ⟨_, _, rfl⟩ := h; rfl
  | str i => obtain ⟨_, _, rfl⟩ := h; rfl
  | bool i => obtain ⟨_, _, rfl⟩ := h; rfl
  | var i => obtain ⟨_, rfl, _⟩ := h; rfl
  | glob i => obtain ⟨_, rfl, _⟩ := h; rfl
  | neg i => obtain ⟨_, _, _, rfl⟩ := h; rfl
  | bin o a b => obtain ⟨_, _, _, rfl, _⟩ := h; rfl
  | cmp a r => obtain ⟨_, _, _, _, rfl, _⟩ := h; rfl
  | andor i a r => obtain ⟨_, _, _, rfl, _⟩ := h; rfl
  | ite c a b => obtain ⟨_, _, _, _, rfl, _⟩ := h; rfl
  | sub a i => obtain ⟨_, _, _, rfl, _⟩ := h; rfl
  | slc a lo hi => obtain ⟨_, _, _, _, _, rfl, _⟩ := h; rfl
  | rev a => obtain ⟨_, _, _, _, _, _, rfl, _⟩ := h; rfl
  | list es => obtain ⟨_, _, rfl, _⟩ := h; rfl
  | tup es => obtain ⟨_, _, _, rfl, _⟩ := h; rfl
  | dict0 => obtain ⟨_, rfl⟩ := h; rfl
  | dict1 k v => obtain ⟨_, _, _, rfl, _⟩ := h; rfl
  | call f args => obtain ⟨_, _, _, _, rfl, _⟩ := h; rfl
  | bi b args => obtain ⟨_, _, _, rfl, _⟩ := h; rfl
  | meth m o args => obtain ⟨_, _, _, _, rfl, _⟩ := h; rfl
  | repl o c z => obtain ⟨_, _, _, _, _, _, _, rfl, _⟩ := h; rfl
  | comp tg iter ifs rest cap => obtain ⟨_, _, _, _, _, _, _, rfl, _⟩ := h; rfl
end

end MP
end

section -- MpItems
open PySem PySem.W PyProof.Rows
namespace MP

structure Iter (W : Wd) (A : Around) (ok : Addr → Prop) (h : Heap) (I : Addr) (items : List T) (fp : List Addr) (P : Nat → Value → Prop) (St : Nat → Heap → Prop) : Prop where
  walks : Walks W.prog W.w A I fp [I] items.length P St
  vals : ∀ j x u, P j u → items[j]? = some x → Rep W ok h x u
  fpok : ∀ b ∈ fp, b = I ∨ (ok b ∧ ∃ o, h.get? b = some o)
  lets : (∀ i h, St i h → ∃ l j, h.IsListIter I l j) ∨ ∀ x ∈ items, (∀ ts, x ≠ .list ts) ∧ ∀ ts, x ≠ .tuple ts
  size : items.length ≤ sizeLine
  live : ∀ i h, St i h → ∀ b ∈ fp, ∃ o, h.get? b = some o
  ncell : ∀ i h, St i h → ∀ c, ¬ h.IsCell I c

theorem rangeT_len : ∀ (n : Nat) (a : Int), (rangeT a n).length = n
  | 0, _ => rfl
  | n + 1, a => by simp [rangeT, rangeT_len n]
theorem rangeT_get : ∀ (n : Nat) (a : Int) (j : Nat) (x : T), (rangeT a n)[j]? = some x → x = .int (a + (j : Int))
  | 0, _, _, _, e => by simp [rangeT] at e
  | n + 1, a, 0, x, e => by simp [rangeT] at e; simp [← e]
  | n + 1, a, j + 1, x, e => by
    simp only [rangeT, List.getElem?_cons_succ] at e
    rw [rangeT_get n (a + 1) j x e]
    congr 1
    omega

theorem Iter.mono {W : Wd} {A : Around} {ok ok' : Addr → Prop} {h : Heap} {I : Addr} {items : List T} {fp : List Addr} {P : Nat → Value → Prop} {St : Nat → Heap → Prop} (It : Iter W A ok h I items fp P St) (tr : Tr ok h ok' h) : Iter W A ok' h I items fp P St :=
  ⟨It.walks, fun j x u hp hx => rep_tr tr (It.vals j x u hp hx), fun b hb => (It.fpok b hb).imp id fun ⟨k, o, e⟩ => ⟨(tr b o k e).1, o, e⟩, It.lets, It.size, It.live, It.ncell⟩

section
variable {W : Wd} {ok : Addr → Prop} {s : Shared} {A : Around} {Er : Value → Shared → Prop}
noncomputable def Tops (t : T) : Prop := (∀ ts, t ≠ .list ts) ∧ ∀ ts, t ≠ .tuple ts
noncomputable def Flds (I : Addr) (h : Heap) : Prop := ∃ o f, h.get? I = some o ∧ o.data = .fields f
theorem Flds.ncell {I : Addr} {h : Heap} (x : Flds I h) (c : Option Value) : ¬ h.IsCell I c := fun ⟨o, e1, e2⟩ => by
  obtain ⟨o', f, q1, q2⟩ := x
  rw [q1] at e1; cases e1
  rw [q2] at e2; cases e2
theorem Iter.mk1 {h : Heap} {I : Addr} {items : List T} {P : Nat → Value → Prop} {St : Nat → Heap → Prop} (w : Walks W.prog W.w A I [I] [I] items.length P St) (v : ∀ j x u, P j u → items[j]? = some x → Rep W ok h x u)
    (n : ∀ x ∈ items, Tops x) (z : items.length ≤ 1048576) (f : ∀ i h, St i h → Flds I h) : Iter W A ok h I items [I] P St :=
  ⟨w, v, fun b hb => .inl (List.mem_singleton.mp hb), .inr n, sizeLine_v ▸ Nat.le_trans z (by decide), fun i h st b hb => by rw [List.mem_singleton.mp hb]; exact let ⟨o, _, e, _⟩ := f i h st; ⟨o, e⟩, fun i h st => (f i h st).ncell⟩
theorem Iter.mk2 {h : Heap} {I a : Addr} {items : List T} {P : Nat → Value → Prop} {St : Nat → Heap → Prop} (w : Walks W.prog W.w A I [I, a] [I] items.length P St) (v : ∀ j x u, P j u → items[j]? = some x → Rep W ok h x u)
    (n : (∀ i h, St i h → ∃ l j, h.IsListIter I l j) ∨ ∀ x ∈ items, Tops x) (z : items.length ≤ 1048576) (f : ∀ i h, St i h → Flds I h ∧ ∃ o, h.get? a = some o) (ka : ok a) (ha : ∃ o, h.get? a = some o) : Iter W A ok h I items [I, a] P St :=
  ⟨w, v, fun b hb => (List.mem_cons.mp hb).imp id fun hb => by rw [List.mem_singleton.mp hb]; exact ⟨ka, ha⟩, n, sizeLine_v ▸ Nat.le_trans z (by decide), fun i h st b hb => by
    rcases List.mem_cons.mp hb with rfl | hb
    · exact let ⟨⟨o, _, e, _⟩, _⟩ := f i h st; ⟨o, e⟩
    · rw [List.mem_singleton.mp hb]; exact (f i h st).2, fun i h st => (f i h st).1.ncell⟩
theorem tops_str {l : List (List Nat)} : ∀ x ∈ l.map T.str, Tops x := fun y hy => by
  obtain ⟨c, _, rfl⟩ := List.mem_map.mp hy
  exact ⟨fun _ e => (nomatch e), fun _ e => nomatch e⟩
theorem chars_eq (s : List Nat) : charsT s = (s.map fun c => [c]).map T.str := by rw [List.map_map]; rfl
theorem range_size (a b : Int) : Builtin.Range.rangeSize a b 1 = ((b - a).toNat : Int) := by
  unfold Builtin.Range.rangeSize
  by_cases q : a < b
  · rw [if_pos (by decide), if_pos q]; simp; omega
  · rw [if_pos (by decide), if_neg q]; omega
theorem fits_long (x : Int) (h1 : -2097153 ≤ x) (h2 : x ≤ 2097153) : Builtin.Range.rangeFitsLong x = true := by
  unfold Builtin.Range.rangeFitsLong
  rw [Bool.and_eq_true]
  exact ⟨decide_eq_true (by omega), decide_eq_true (by omega)⟩
theorem inRange_e {a : Int} (h : inRange a = true) : 0 ≤ a ∧ a ≤ 1048576 := let ⟨x, y⟩ := Bool.and_eq_true_iff.mp h; ⟨of_decide_eq_true x, of_decide_eq_true y⟩
theorem range_small {a b : Int} (ha : inRange a = true) (hb : inRange b = true) : Builtin.Range.small a b 1 = true := by
  have ha := inRange_e ha
  have hb := inRange_e hb
  unfold Builtin.Range.small
  rw [range_size, fits_long a (by omega) (by omega), fits_long b (by omega) (by omega), fits_long 1 (by decide) (by decide), fits_long _ (by omega) (by omega), if_pos (by decide), fits_long (b + (1 - 1)) (by omega) (by omega), Bool.or_true]
  rfl
theorem iter_str {x : List Nat} {k : Tok} {I : Addr} {cls : String} {h : Heap} (hl : lenOk x.length = true) (w : Walks W.prog W.w A I [I] [I] (mkS x).cps.size (SignAt (mkS x)) (fun i h => h.IsStrIter I cls (mkS x) k i)) :
    Iter W A ok h I (charsT x) [I] (SignAt (mkS x)) (fun i h => h.IsStrIter I cls (mkS x) k i) := by
  have hlen : (charsT x).length = x.length := List.length_map _
  refine .mk1 (by rw [hlen]; exact w) ?_ (chars_eq x ▸ tops_str) (by rw [hlen]; exact lenOk_le hl) fun i h ⟨o, e, _, d⟩ => ⟨o, _, e, d⟩
  rintro j y u ⟨c, u', e, rfl⟩ hy
  have e' : x[j]? = some c := by simpa [mkS] using e
  rw [charsT, List.getElem?_map, e'] at hy
  cases hy
  exact ⟨⟨u', rfl⟩, okv_of fun a e => nomatch e⟩

theorem iter_ok {t : T} {v : Value} {items : List T} {Q : Value → Shared → Prop} (hh : A.handled = none) (h : itemsT gF t = some items) (B : Rep W ok s.heap t v)
    (hQ : ∀ o fp P St, Iter W A ok s.heap s.heap.objs.size items fp P St → St 0 (s.heap.push o) → Q (.ref s.heap.objs.size) { s with heap := s.heap.push o }) :
    wpAny (model W.prog W.w) A (pyIter v) Q Er s := by
  obtain ⟨B, K⟩ := B
  cases t with
  | list xs =>
    refine ge h ?_; clear h; intro hl h
    cases h
    have hb : ∀ a, v = .ref a → ∃ o, s.heap.get? a = some o := fun a e => body_get (e ▸ B) (by intro g q; cases q)
    obtain ⟨a, us, rfl, p, ra⟩ := B
    have pl := plain_isList p
    have hlt : a < s.heap.objs.size := let ⟨_, e, _⟩ := pl; Heap.lt_size e
    have hsz : us.toArray.size = items.length := List.size_toArray.trans (reps_len ra).symm
    refine wpAny_pyIter_list pl (hQ _ [s.heap.objs.size, a] (fun i v => us.toArray[i]? = some v) (fun i h => h.IsListIter s.heap.objs.size a i ∧ h.IsList a us.toArray) (.mk2 (hsz ▸ Walks.list hh s.heap.objs.size a (Nat.ne_of_lt hlt) us.toArray) (fun j x u hp hx => ?_) (.inl fun i h st => ⟨_, _, st.1⟩) (lenOk_le hl)
      (fun i h ⟨⟨o, e, _, d⟩, o', e', _⟩ => ⟨⟨o, _, e, d⟩, o', e'⟩) (okv_at K (by intro g q; cases q)) (hb a rfl)) ⟨⟨_, Heap.get?_push_size _ rfl, rfl, rfl⟩, pl.push _⟩)
    obtain ⟨w', e, r⟩ := reps_get ra hx
    have : us[j]? = some u := by simpa using hp
    rw [this] at e; cases e
    exact r
  | str x =>
    refine ge h ?_; clear h; intro hl h
    cases h
    obtain ⟨k, rfl⟩ := B
    cases ha : (mkS x).cps.all (· < 128) with
    | false => exact wpAny_pyIter_wide ha (hQ _ _ _ _ (iter_str hl (Walks.strWide hh s.heap.objs.size (mkS x) k)) ⟨_, Heap.get?_push_size _ rfl, rfl, rfl⟩)
    | true => exact wpAny_pyIter_ascii ha (hQ _ _ _ _ (iter_str hl (Walks.strAscii hh s.heap.objs.size (mkS x) k)) ⟨_, Heap.get?_push_size _ rfl, rfl, rfl⟩)
  | range a b =>
    refine ge h ?_; clear h; intro hb h
    cases h
    obtain ⟨h1, h2⟩ := Bool.and_eq_true_iff.mp hb
    have hz : (b - a).toNat ≤ 1048576 := by have := inRange_e h1; have := inRange_e h2; omega
    obtain ⟨r, t, u, k, rfl, hr⟩ := B
    refine wpAny_pyIter_range hr (range_small h1 h2) (hQ _ [s.heap.objs.size] (fun i v => ∃ t, v = .int (a + i * 1) t) (fun i h => IsRangeIter h s.heap.objs.size (a + (i : Nat) * 1) (((b - a).toNat : Int) - (i : Nat)) 1) (.mk1 (by rw [rangeT_len]; exact Walks.range hh s.heap.objs.size a 1 (b - a).toNat) ?_ (fun y hy => ?_) (by rw [rangeT_len]; exact hz) fun i h st => ⟨_, _, st, rfl⟩) ?_)
    · rintro j y u ⟨t', rfl⟩ hy
      rw [rangeT_get _ _ _ _ hy, Int.mul_one]
      exact ⟨⟨t', rfl⟩, okv_of fun a e => nomatch e⟩
    · obtain ⟨j, hj⟩ := List.getElem?_of_mem hy
      rw [rangeT_get _ _ _ _ hj]
      exact ⟨fun _ e => (nomatch e), fun _ e => nomatch e⟩
    · rw [range_size, Int.natCast_zero, Int.zero_mul, Int.add_zero, Int.sub_zero]
      exact Heap.get?_push_size _ rfl
  | dict ks ts =>
    refine ge h ?_; clear h; intro hl h
    cases h
    have hb : ∀ a, v = .ref a → ∃ o, s.heap.get? a = some o := fun a e => body_get (e ▸ B) (by intro g q; cases q)
    obtain ⟨a, us, ep, rfl, hsys, da, la, ra⟩ := B
    have hlt : a < s.heap.objs.size := let ⟨_, _, e, _⟩ := da; Heap.lt_size e
    have hlen : ((ks.map mkS).zip us).length = (ks.map T.str).length := by rw [List.length_zip, List.length_map, List.length_map, la, Nat.min_self]
    refine wpAny_pyIter_dict hsys da (hQ _ [s.heap.objs.size, a] (fun i v => ∃ k x, ((ks.map mkS).zip us)[i]? = some (k, x) ∧ (PySem.strKind W.prog W.w).is k v = true) (fun i h => h.IsKeyIter s.heap.objs.size a i ((ks.map mkS).zip us).length ep ∧ h.DictAt (PySem.strKind W.prog W.w) a ((ks.map mkS).zip us) ep)
      (.mk2 (hlen ▸ Walks.dictKeys hh s.heap.objs.size a (Nat.ne_of_lt hlt) ((ks.map mkS).zip us) ep) ?_ (.inr tops_str) (by rw [List.length_map]; exact lenOk_le hl) (fun i h ⟨⟨o, e, _, d⟩, o', _, e', _⟩ => ⟨⟨o, _, e, d⟩, o', e'⟩) (okv_at K (by intro g q; cases q)) (hb a rfl)) ⟨⟨_, Heap.get?_push_size _ rfl, rfl, rfl⟩, da.push _⟩)
    rintro j y u ⟨k, x, e, hk⟩ hy
    have e1 := (List.getElem?_zip_eq_some.mp e).1
    rw [List.getElem?_map] at e1 hy
    refine oe (P := _) (r := k) (o := ks[j]?) (k := fun z => some (mkS z)) (by cases hx : ks[j]? <;> rw [hx] at e1 <;> exact e1) fun z hx e2 => ?_
    rw [hx] at hy
    cases hy
    cases e2
    obtain ⟨t', rfl⟩ := Value.isStrOf_shape hk
    exact ⟨⟨t', rfl⟩, okv_of fun a e => nomatch e⟩
  | _ => exact nomatch h
end
end MP
end

section -- MpSnd
open PySem PySem.W PyProof.Rows
namespace MP

noncomputable def Fit (n : Nat) (A : Around) : Prop := A.handled = none ∧ A.depth + n < 900 ∧ A.units + 3 * n + 200 < cLine

/-- a function of the text does what the pure function says -/
noncomputable def FnOK (W : Wd) (n g : Nat) (fP : List T → Option T) : Prop :=
  ∀ (A : Around) (a : Addr) (H : Addr → Prop) (s : Shared) (ts : List T) (vs : List Value) (r : T) (R : Result → Shared → Prop), W.mg (W.nm g) = some (.ref a) → Fit n A →
    (∀ b o, W.hb.get? b = some o → s.heap.get? b = some o) → 1 ≤ s.toks → (∀ b, H b → ∃ o, s.heap.get? b = some o) → Reps W (fun b => ¬ H b) s.heap ts vs → fP ts = some r →
    (∀ v s', Grown s.heap s'.heap → Alike s s' → 1 ≤ s'.toks → Rep W (fun b => ¬ H b) s'.heap r v → R (.ok (.ret v)) s') →
    codeAny (model W.prog W.w) A (.call (.ref a) ⟨vs, []⟩) R s

structure Cx (W : Wd) (F : FTab) (G : Nat → Option T) (n : Nat) : Prop where
  fns : ∀ g fP, F g = some fP → FnOK W n g fP
  globs : ∀ g t, G g = some t → ∃ v, W.mg (W.nm g) = some v ∧ ∀ ok h', (∀ b o, W.hb.get? b = some o → h'.get? b = some o) → Rep W ok h' t v
  bis : ∀ b, W.mg (biStr b) = none ∧ W.mb (biStr b) = some (biVal b)
  isfun : ∀ g fP a, F g = some fP → W.mg (W.nm g) = some (.ref a) → ∃ o fd, W.hb.get? a = some o ∧ o.data = .func fd

structure Jn (sc : Sc) (env : Env) (vm : Nat → Option Value) (st : St) (s : Shared) (st' : St) (s' : Shared) : Prop where
  stp : Stp (Pv sc env vm st) s.heap (Pv sc env vm st') s'.heap
  alike : Alike s s'
  dom : Dom st st'

section
variable {W : Wd} {H : Addr → Prop} {sc : Sc} {env : Env} {vm : Nat → Option Value} {st st₁ st' : St} {s s₁ s' : Shared} {op : Op} {v : Value}

theorem Jn.refl {k : Nat} : Jn sc env vm st s st { s with toks := k } := ⟨.refl, ⟨rfl, rfl⟩, .refl⟩
theorem Jn.id : Jn sc env vm st s st s := ⟨.refl, ⟨rfl, rfl⟩, .refl⟩
theorem Jn.trans (x : Jn sc env vm st s st₁ s₁) (y : Jn sc env vm st₁ s₁ st' s') : Jn sc env vm st s st' s' := ⟨x.stp.trans y.stp, x.alike.trans y.alike, x.dom.trans y.dom⟩
theorem Jn.grown (g : Grown s.heap s'.heap) (a : Alike s s') : Jn sc env vm st s st s' := ⟨g.stp fun _ p => p, a, .refl⟩
theorem PostE.jn (p : PostE W H sc env vm st s op st' v s') : Jn sc env vm st s st' s' := ⟨p.stp, p.alike, p.dom⟩
theorem PostE.low (p : PostE W H sc env vm st s op st' v s') : Rel W H sc env vm st' s'.heap ∧ OpAt W H sc env vm st' s'.heap op.low v := p.rel.low
theorem PostE.after (j : Jn sc env vm st s st₁ s₁) (p : PostE W H sc env vm st₁ s₁ op st' v s') : PostE W H sc env vm st s op st' v s' := by
  refine ⟨p.rel, j.stp.trans p.stp, j.alike.trans p.alike, p.toks, j.dom.trans p.dom, fun t a h1 h2 => ?_⟩
  rcases p.new t a h1 h2 with q | q
  · exact j.stp.priv a q
  · by_cases k : Pv sc env vm st a
    · exact .inl k
    · refine .inr ?_
      cases e : s.heap.get? a with
      | none => rfl
      | some o => have := j.stp.keep a o k e; rw [q] at this; cases this
theorem PostE.val {t : T} (R : Rel W H sc env vm st s.heap) (r : Rep W (Ok H sc env vm st) s.heap t v) (tk : 1 ≤ s.toks) : PostE W H sc env vm st s (.val t) st v s :=
  ⟨⟨R, r⟩, .refl, .refl, tk, .refl, fun _ _ q => by cases q⟩
theorem rep_atom {ok : Addr → Prop} {h : Heap} {t : T} (B : Body W ok h t v) (ha : ∀ a, v ≠ .ref a) : Rep W ok h t v := ⟨B, okv_of fun a e => absurd e (ha a)⟩
theorem rep_int {ok : Addr → Prop} {h : Heap} {i : Int} {k : Tok} : Rep W ok h (.int i) (.int i k) := rep_atom ⟨k, rfl⟩ (by intro a e; cases e)
theorem rep_str {ok : Addr → Prop} {h : Heap} {x : List Nat} {k : Tok} : Rep W ok h (.str x) (.str (mkS x) k) := rep_atom ⟨k, rfl⟩ (by intro a e; cases e)
theorem rep_bool {ok : Addr → Prop} {h : Heap} {b : Bool} : Rep W ok h (.bool b) (.bool b) := rep_atom rfl (by intro a e; cases e)

theorem Rel.envNs (R : Rel W H sc env vm st s.heap) : ∃ L' m, s.heap.Ns L' m := let ⟨m, n, _⟩ := R.ns; ⟨_, m, n⟩
theorem Rel.notL (R : Rel W H sc env vm st s.heap) : ¬ Ok H sc env vm st env.locals := fun k => k.1 (.inl rfl)
end

/-! what is shown of each kind of term -/
section
variable (W : Wd) (F : FTab) (G : Nat → Option T) (n : Nat) (sc : Sc)

noncomputable def SE (e : E) (p : PySem.Expr) : Prop := ∀ (H : Addr → Prop) (env : Env) (vm : Nat → Option Value) (st : St) (op : Op) (st' : St) (s : Shared) (A : Around) (Er : Value → Shared → Prop) (Q : Value → Shared → Prop),
  Rel W H sc env vm st s.heap → 1 ≤ s.toks → Fit n A → evE gF F G e st = some (op, st') → (∀ v s', PostE W H sc env vm st s op st' v s' → Q v s') → wpAny (model W.prog W.w) A (eval p env) Q Er s

structure PostL (H : Addr → Prop) (env : Env) (vm : Nat → Option Value) (st : St) (s : Shared) (ops : List Op) (st' : St) (vs : List Value) (s' : Shared) : Prop where
  rel : Rel W H sc env vm st' s'.heap
  ops : OpsAt W H sc env vm st' s'.heap ops vs
  jn : Jn sc env vm st s st' s'
  toks : 1 ≤ s'.toks

noncomputable def SEs (es : Es) (ps : List PySem.Expr) : Prop := ∀ (pos : Pos) (H : Addr → Prop) (env : Env) (vm : Nat → Option Value) (st : St) (ops : List Op) (st' : St) (s : Shared) (A : Around) (Er : Value → Shared → Prop) (Q : List Value → Shared → Prop),
  Rel W H sc env vm st s.heap → 1 ≤ s.toks → Fit n A → evEs gF F G es st = some (ops, st') → (∀ vs s', PostL W sc H env vm st s ops st' vs s' → Q vs s') → wpAny (model W.prog W.w) A (spliced (backTo pos (starEach ps env))) Q Er s

structure PostB (H : Addr → Prop) (env : Env) (vm : Nat → Option Value) (st : St) (s : Shared) (st' : St) (s' : Shared) : Prop where
  rel : Rel W H sc env vm st' s'.heap
  jn : Jn sc env vm st s st' s'
  toks : 1 ≤ s'.toks

noncomputable def SB (e : E) (p : PySem.Expr) : Prop := ∀ (H : Addr → Prop) (env : Env) (vm : Nat → Option Value) (st : St) (b : Bool) (st' : St) (s : Shared) (A : Around) (Er : Value → Shared → Prop) (Q : Bool → Shared → Prop),
  Rel W H sc env vm st s.heap → 1 ≤ s.toks → Fit n A → evB gF F G e st = some (b, st') → (∀ s', PostB W sc H env vm st s st' s' → Q b s') → wpAny (model W.prog W.w) A (isTrue p env (eval p env)) Q Er s

noncomputable def SBs (es : Es) (ps : List PySem.Expr) : Prop := ∀ (isAnd : Bool) (H : Addr → Prop) (env : Env) (vm : Nat → Option Value) (st : St) (b : Bool) (st' : St) (s : Shared) (A : Around) (Er : Value → Shared → Prop) (Q : Bool → Shared → Prop),
  Rel W H sc env vm st s.heap → 1 ≤ s.toks → Fit n A → evBs gF F G isAnd es st = some (b, st') → (∀ s', PostB W sc H env vm st s st' s' → Q b s') →
  wpAny (model W.prog W.w) A (allTrue (opOf isAnd) ps env) Q Er s

noncomputable def SC (r : Cs) (ops : List CmpOp) (ps : List PySem.Expr) : Prop := ∀ (pos : Pos) (H : Addr → Prop) (env : Env) (vm : Nat → Option Value) (st : St) (x : Op) (lv : Value) (b : Bool) (st' : St) (s : Shared) (A : Around) (Er : Value → Shared → Prop),
  Rel W H sc env vm st s.heap → 1 ≤ s.toks → Fit n A → OpAt W H sc env vm st s.heap x.low lv → evCs gF F G r x st = some (b, st') →
  (∀ (Q : Value → Shared → Prop), (∀ s', PostB W sc H env vm st s st' s' → Q (.bool b) s') → wpAny (model W.prog W.w) A (compareChain pos lv ops (evalEach ps env)) Q Er s) ∧
  (∀ (Q : Bool → Shared → Prop), (∀ s', PostB W sc H env vm st s st' s' → Q b s') → wpAny (model W.prog W.w) A (testChain pos lv ops (evalEach ps env)) Q Er s)

noncomputable def SO (o : Oe) (p : Option PySem.Expr) : Prop := ∀ (H : Addr → Prop) (env : Env) (vm : Nat → Option Value) (st : St) (l : Option Int) (st' : St) (s : Shared) (A : Around) (Er : Value → Shared → Prop) (Q : Value → Shared → Prop),
  Rel W H sc env vm st s.heap → 1 ≤ s.toks → Fit n A → evO gF F G o st = some (l, st') → (∀ v s', PostB W sc H env vm st s st' s' → PartV l v → Q v s') → wpAny (model W.prog W.w) A (evalPart p env) Q Er s

noncomputable def SBO (es : Es) (ps : List PySem.Expr) : Prop := ∀ (isAnd : Bool) (pos : Pos) (H : Addr → Prop) (env : Env) (vm : Nat → Option Value) (st₀ : St) (s₀ : Shared) (tree : Sem Value) (st st' : St) (op : Op) (x : Op) (s : Shared) (A : Around) (Er : Value → Shared → Prop) (Q : Value → Shared → Prop),
  Fit n A → evBO gF F G isAnd es x st = some (op, st') → wpAny (model W.prog W.w) A tree (fun v s₁ => PostE W H sc env vm st₀ s₀ x st v s₁) Er s →
  (∀ v s', PostE W H sc env vm st₀ s₀ op st' v s' → Q v s') → wpAny (model W.prog W.w) A (boolOp pos (opOf isAnd) (tree :: evalEach ps env)) Q Er s
end

section
variable {W : Wd} {F : FTab} {G : Nat → Option T} {n : Nat} {sc : Sc}

theorem s_int {i : Int} {k : Nat} {pos : Pos} : SE W F G n sc (.int i) (.Constant (.int i) k pos) := by
  intro H env vm st op st' s A Er Q R tk fit e hQ
  cases e
  exact wpAny_Constant_int (hQ _ _ (.after .refl (.val R rep_int (Nat.le_succ_of_le tk))))
theorem s_str {x : List Nat} {k : Nat} {pos : Pos} : SE W F G n sc (.str x) (.Constant (.str (mkS x)) k pos) := by
  intro H env vm st op st' s A Er Q R tk fit e hQ
  cases e
  exact wpAny_Constant_str (hQ _ _ (.after .refl (.val R rep_str (Nat.le_succ_of_le tk))))
theorem s_bool {b : Bool} {k : Nat} {pos : Pos} : SE W F G n sc (.bool b) (.Constant (.bool b) k pos) := by
  intro H env vm st op st' s A Er Q R tk fit e hQ
  cases e
  exact wpAny_Constant_bool (hQ _ _ (.val R rep_bool tk))
theorem s_neg {i : Int} {k : Nat} {p q : Pos} : SE W F G n sc (.neg i) (.UnaryOp .USub (.Constant (.int i) k p) q) := by
  intro H env vm st op st' s A Er Q R tk fit e hQ
  cases e
  exact wpAny_UnaryOp (wpAny_Constant_int (neg_int (hQ _ _ (.after .refl (.val R rep_int (Nat.le_succ_of_le (Nat.le_succ_of_le tk)))))))

theorem isV_of {x : Str} (h : isV sc x = true) : sc.lookup x = some .local ∨ sc.lookup x = some .cell ∨ sc.lookup x = some .free := by
  unfold isV at h
  split at h <;> simp_all
theorem isW_of {x : Str} (h : isW sc x = true) : sc.lookup x = some .local ∨ sc.lookup x = some .cell := by
  unfold isW at h
  split at h <;> simp_all
theorem isL_of {x : Str} (h : isL sc x = true) : sc.lookup x = some .local := by
  unfold isL at h
  split at h <;> simp_all
theorem isG_of {x : Str} (h : isG sc x = true) : sc.lookup x = some .globalImplicit := by
  unfold isG at h
  split at h <;> simp_all

/-- a name is read -/
theorem load_ok {H : Addr → Prop} {env : Env} {vm : Nat → Option Value} {st : St} {s : Shared} {A : Around} {Er : Value → Shared → Prop} {Q : Value → Shared → Prop} {x : Nat} {M : Model}
    (R : Rel W H sc env vm st s.heap) (h : isV sc (W.nm x) = true) (hn : (W.nm x == ("__classdict__" : Str)) = false) {y : T × Bool} (e : st.get x = some y)
    (hQ : ∀ v, vm x = some v → Q v s) : wpAny M A (loadName env (W.nm x)) Q Er s := by
  obtain ⟨t, b⟩ := y
  obtain ⟨v, hv, _⟩ := R.vals x t b e
  rcases isV_of h with q | q | q
  · obtain ⟨m, ns, hm⟩ := R.ns
    exact wpAny_loadName_local R.kind (R.kl _ q) ns (hm x v hv q) (hQ v hv)
  · obtain ⟨c, o, hc, _⟩ := R.cl _ (.inl q)
    exact wpAny_loadName_cell R.kind (R.kc _ q) hc (R.cv x v c hv (.inl q) hc) (hQ v hv)
  · obtain ⟨c, o, hc, _⟩ := R.cl _ (.inr q)
    rcases R.kf _ q with k | k
    · exact wpAny_loadName_cell R.kind k hc (R.cv x v c hv (.inr q) hc) (hQ v hv)
    · exact wpAny_loadName_free R.kind k hc (R.cv x v c hv (.inr q) hc) (hQ v hv) hn

theorem s_var {x : Nat} {pos : Pos} (h : isV sc (W.nm x) = true) (hd : (W.nm x == ("__debug__" : Str)) = false) (hn : (W.nm x == ("__classdict__" : Str)) = false) : SE W F G n sc (.var x) (.Name (W.nm x) pos) := by
  intro H env vm st op st' s A Er Q R tk fit e hQ
  refine oe e ?_; clear e; intro y he e
  cases e
  exact wpAny_Name (load_ok R h hn he fun v hv => hQ _ _ ⟨⟨R, hv, _, he⟩, .refl, .refl, tk, .refl, fun _ _ q => nomatch q⟩) hd

theorem Rel.mgNs {H : Addr → Prop} {env : Env} {vm : Nat → Option Value} {st : St} {h : Heap} (R : Rel W H sc env vm st h) : h.Ns env.globals W.mg ∧ h.Ns env.builtins W.mb := by
  rw [R.glob, R.blt]
  exact ⟨W.T.g.keeps R.base, W.T.b.keeps R.base⟩

theorem s_glob (C : Cx W F G n) {g : Nat} {pos : Pos} (h : isG sc (W.nm g) = true) (hd : (W.nm g == ("__debug__" : Str)) = false) : SE W F G n sc (.glob g) (.Name (W.nm g) pos) := by
  intro H env vm st op st' s A Er Q R tk fit e hQ
  refine oe e ?_; clear e; intro t he e
  cases e
  obtain ⟨v, hv, r⟩ := C.globs g t he
  refine Calls.Name_function_global R.kind (R.kg _ (isG_of h)) ?_ hd
  exact Calls.loadGlobal_global R.mgNs.1 hv (hQ _ _ (.val R (r _ _ R.base) tk))

theorem peekL {H : Addr → Prop} {env : Env} {vm : Nat → Option Value} {st : St} {h : Heap} {op : Op} {v : Value} {t : T} (R : Rel W H sc env vm st h) (x : OpAt W H sc env vm st h op.low v) (e : peek st op = some t) : Body W (Ok H sc env vm st) h t v := peek_ok R x ((peek_low st op).trans e)

theorem s_bin {o : Operator} {a b : E} {l r : PySem.Expr} {pos : Pos} (ha : SE W F G n sc a l) (hb : SE W F G n sc b r) : SE W F G n sc (.bin o a b) (.BinOp l o r pos) := by
  intro H env vm st op st' s A Er Q R tk fit e hQ
  refine ev2_e e ?_; clear e; intro x s y tx ty r h1 h2 h3 h4 h5 e
  subst e
  refine wpAny_BinOp (ha _ _ _ _ _ _ _ _ _ _ R tk fit h1 fun v₁ s₁ P₁ => hb _ _ _ _ _ _ _ _ _ _ P₁.low.1 P₁.toks fit h2 fun v₂ s₂ P₂ => ?_)
  obtain ⟨R₂, o₂⟩ := P₂.low
  exact wpAny_with_toks P₂.toks (bin_ok (L := env.locals) h5 (peekL R₂ (P₁.low.2.step P₂.stp P₂.dom) h3) (peekL R₂ o₂ h4) fun v s' r tk' => hQ _ _ (.after (P₁.jn.trans P₂.jn) (r.post R₂ tk')))

theorem s_cmp {a : E} {r : Cs} {l : PySem.Expr} {ops : List CmpOp} {ps : List PySem.Expr} {pos : Pos} (hm : lastMarks ops ps = false) (ha : SE W F G n sc a l) (hr : SC W F G n sc r ops ps) : SE W F G n sc (.cmp a r) (.Compare l ops ps pos) := by
  intro H env vm st op st' s A Er Q R tk fit e hQ
  refine be e ?_; clear e; intro b st₂ e e'
  refine be e ?_; clear e; intro x st₁ h1 h2
  cases e'
  show wpAny _ A (do compareChain pos (← eval l env) ops (markedEach ops ps (evalEach ps env))) Q Er s
  rw [markedEach_of_false _ _ _ hm]
  refine wpAny_bind (ha _ _ _ _ _ _ _ _ _ _ R tk fit h1 fun v₁ s₁ P₁ => ?_)
  exact (hr pos _ _ _ _ _ _ _ _ _ _ _ P₁.low.1 P₁.toks fit P₁.low.2 h2).1 _ fun s' P => hQ _ _ (.after (P₁.jn.trans P.jn) (.val P.rel rep_bool P.toks))
theorem b_cmp {a : E} {r : Cs} {l : PySem.Expr} {ops : List CmpOp} {ps : List PySem.Expr} {pos : Pos} (hm : lastMarks ops ps = false) (ha : SE W F G n sc a l) (hr : SC W F G n sc r ops ps) : SB W F G n sc (.cmp a r) (.Compare l ops ps pos) := by
  intro H env vm st b st' s A Er Q R tk fit e hQ
  refine be e ?_; clear e; intro x st₁ h1 e
  show wpAny _ A (do testChain pos (← eval l env) ops (markedEach ops ps (evalEach ps env))) Q Er s
  rw [markedEach_of_false _ _ _ hm]
  refine wpAny_bind (ha _ _ _ _ _ _ _ _ _ _ R tk fit h1 fun v₁ s₁ P₁ => ?_)
  exact (hr pos _ _ _ _ _ _ _ _ _ _ _ P₁.low.1 P₁.toks fit P₁.low.2 e).2 _ fun s' P => hQ _ ⟨P.rel, P₁.jn.trans P.jn, P.toks⟩

theorem fit_cmp {A : Around} (f : Fit n A) : A.units + 64 < cLine := by have := f.2.2; omega


/-- one comparison -/
theorem link_ok {o : CmpOp} {e : E} {p : PySem.Expr} (he : SE W F G n sc e p) {H : Addr → Prop} {env : Env} {vm : Nat → Option Value} {st st₁ : St} {s : Shared} {A : Around} {Er : Value → Shared → Prop} {x y : Op} {lv : Value} {tx ty : T} {c : Bool} {Q : Value → Value → Shared → Prop}
    (R : Rel W H sc env vm st s.heap) (tk : 1 ≤ s.toks) (fit : Fit n A) (hx : OpAt W H sc env vm st s.heap x.low lv) (h1 : evE gF F G e st = some (y, st₁)) (h2 : peek st₁ x = some tx) (h3 : peek st₁ y = some ty) (h4 : cmpT gF o tx ty = some c)
    (hQ : ∀ rv s', PostB W sc H env vm st s st₁ s' → OpAt W H sc env vm st₁ s'.heap y.low rv → Q rv (.bool c) s') : wpAny (model W.prog W.w) A (eval p env) (fun rv s₁ => wpAny (model W.prog W.w) A (compareOp o lv rv) (Q rv) Er s₁) Er s := by
  refine he _ _ _ _ _ _ _ _ _ _ R tk fit h1 fun v₁ s₁ P₁ => ?_
  obtain ⟨R₁, o₁⟩ := P₁.low
  exact wpAny_with_toks P₁.toks (cmp_ok (fit_cmp fit) h4 (peekL R₁ (hx.step P₁.stp P₁.dom) h2) (peekL R₁ o₁ h3) fun k tk' => hQ _ _ ⟨R₁, P₁.jn.trans .refl, tk'⟩ o₁)

theorem c_one {o : CmpOp} {e : E} {p : PySem.Expr} (he : SE W F G n sc e p) : SC W F G n sc (.one o e) [o] [p] := by
  intro pos H env vm st x lv b st' s A Er R tk fit hx h
  refine evLast_e h ?_; clear h; intro y tx ty h1 h2 h3 h4
  exact ⟨fun Q hQ => chain_last (link_ok he R tk fit hx h1 h2 h3 h4 fun rv s' P _ => hQ s' P), fun Q hQ => test_last (link_ok he R tk fit hx h1 h2 h3 h4 fun rv s' P _ => wpAny_truthy_bool (hQ s' P))⟩

theorem c_cons {o o' : CmpOp} {ops : List CmpOp} {e : E} {r : Cs} {p p' : PySem.Expr} {ps : List PySem.Expr} (he : SE W F G n sc e p) (hr : SC W F G n sc r (o' :: ops) (p' :: ps)) : SC W F G n sc (.cons o e r) (o :: o' :: ops) (p :: p' :: ps) := by
  intro pos H env vm st x lv b st' s A Er R tk fit hx h
  refine evLink_e h ?_; clear h; intro y s₁ tx ty c h1 h2 h3 h4 h
  have key := fun (Q : Value → Value → Shared → Prop) => link_ok (Q := Q) (Er := Er) he R tk fit hx h1 h2 h3 h4
  rcases h with ⟨rfl, h⟩ | ⟨rfl, rfl, rfl⟩
  · have low2 : y.low.low = y.low := by cases y <;> rfl
    have fwd := fun rv s' (P : PostB W sc H env vm st s s₁ s') (oy : OpAt W H sc env vm s₁ s'.heap y.low rv) => hr pos H env vm s₁ y.low rv b st' s' A Er P.rel P.toks fit (by rw [low2]; exact oy) h
    exact ⟨fun Q hQ => chain_link (key _ fun rv s' P oy => wpAny_truthy_bool ((fwd rv s' P oy).1 _ fun s'' P' => hQ _ ⟨P'.rel, P.jn.trans P'.jn, P'.toks⟩)), fun Q hQ => test_link (key _ fun rv s' P oy => wpAny_truthy_bool ((fwd rv s' P oy).2 _ fun s'' P' => hQ _ ⟨P'.rel, P.jn.trans P'.jn, P'.toks⟩))⟩
  · exact ⟨fun Q hQ => chain_link (key _ fun rv s' P oy => wpAny_truthy_bool (hQ _ P)), fun Q hQ => test_link (key _ fun rv s' P oy => wpAny_truthy_bool (hQ _ P))⟩
end
end MP
end

section -- MpSnd2
open PySem PySem.W PyProof.Rows
namespace MP
section
variable {W : Wd} {F : FTab} {G : Nat → Option T} {n : Nat} {sc : Sc}

/-! and, or -/
theorem boolOp_cons (pos : Pos) (op : BoolOp) (x r : Sem Value) (rest : List (Sem Value)) : boolOp pos op (x :: r :: rest) = (do
    let v ← x
    standAt pos
    let t ← holding [v] (truthy v)
    match op, t with
    | .And, false | .Or, true => pure v
    | _, _ => boolOp pos op (r :: rest)) := rfl
theorem allTrue_cons (op : BoolOp) (x : PySem.Expr) (rest : List PySem.Expr) (env : Env) : allTrue op (x :: rest) env = (do
    match op, ← isTrue x env (eval x env) with
    | .And, false => pure false
    | .Or, true => pure true
    | _, _ => allTrue op rest env) := rfl
theorem bo_nil {ps : List PySem.Expr} (hp : ps = []) : SBO W F G n sc .nil ps := by
  subst hp
  intro isAnd pos H env vm st₀ s₀ tree st st' op x s A Er Q fit e ht hQ
  refine oe e ?_; clear e; intro t h1 e
  refine oB e ?_; clear e; intro b h2 e
  cases e
  subst h2
  refine wpAny_mono ht (fun v s₁ P => hQ _ _ ?_) fun _ _ e => e
  obtain ⟨R, o⟩ := P.low
  obtain rfl := peekL R o h1
  exact .after P.jn (.val R rep_bool P.toks)
theorem bo_cons {e : E} {es : Es} {p : PySem.Expr} {ps : List PySem.Expr} (he : SE W F G n sc e p) (hs : SBO W F G n sc es ps) : SBO W F G n sc (.cons e es) (p :: ps) := by
  intro isAnd pos H env vm st₀ s₀ tree st st' op x s A Er Q fit h ht hQ
  refine oe h ?_; clear h; intro t h1 h
  refine oB h ?_; clear h; intro b h2 h
  subst h2
  rw [show evalEach (p :: ps) env = eval p env :: evalEach ps env from rfl, boolOp_cons]
  refine wpAny_bind (wpAny_mono ht (fun v s₁ P => ?_) fun _ _ e => e)
  obtain rfl := peekL P.low.1 P.low.2 h1
  refine wpAny_bind (wpAny_standAt (wpAny_bind (wpAny_holding (wpAny_truthy_bool ?_))))
  have stop : some (Op.val (.bool b), st) = some (op, st') → wpAny (model W.prog W.w) A (pure (.bool b)) Q Er s₁ := fun h => by
    cases h
    exact wpAny_pure (hQ _ _ (.after P.jn (.val P.low.1 rep_bool P.toks)))
  have go : bn (evE gF F G e st) (evBO gF F G isAnd es) = some (op, st') → wpAny (model W.prog W.w) A (boolOp pos (opOf isAnd) (eval p env :: evalEach ps env)) Q Er s₁ := fun h => by
    refine be h ?_; clear h; intro y st₁ h2 h
    exact hs isAnd pos H env vm st₀ s₀ (eval p env) st₁ st' op y s₁ A Er Q fit h (he _ _ _ _ _ _ _ _ _ _ P.low.1 P.toks fit h2 fun v₂ s₂ P₂ => .after P.jn P₂) hQ
  cases isAnd <;> cases b
  · exact go h
  · exact stop h
  · exact stop h
  · exact go h

theorem s_andor {i : Bool} {a : E} {es : Es} {x : PySem.Expr} {xs : List PySem.Expr} {pos : Pos} (ha : SE W F G n sc a x) (hs : SBO W F G n sc es xs) :
    SE W F G n sc (.andor i a es) (.BoolOp (opOf i) (x :: xs) pos) := by
  intro H env vm st op st' s A Er Q R tk fit e hQ
  refine be e ?_; clear e; intro y st₁ h1 e
  exact hs i pos H env vm st s (eval x env) st₁ st' op y s A Er Q fit e (ha _ _ _ _ _ _ _ _ _ _ R tk fit h1 fun v s' P => P) hQ

theorem bs_nil {ps : List PySem.Expr} (hp : ps = []) : SBs W F G n sc .nil ps := by
  subst hp
  intro isAnd H env vm st b st' s A Er Q R tk fit e hQ
  cases e
  cases isAnd with
  | true => exact wpAny_pure (hQ s ⟨R, .id, tk⟩)
  | false => exact wpAny_pure (hQ s ⟨R, .id, tk⟩)
theorem bs_cons {e : E} {es : Es} {p : PySem.Expr} {ps : List PySem.Expr} (he : SB W F G n sc e p) (hs : SBs W F G n sc es ps) : SBs W F G n sc (.cons e es) (p :: ps) := by
  intro isAnd H env vm st b st' s A Er Q R tk fit h hQ
  refine be h ?_; clear h; intro c st₁ h1 h
  rw [allTrue_cons]
  refine wpAny_bind (he _ _ _ _ _ _ _ _ _ _ R tk fit h1 fun s₁ P => ?_)
  have stop : some (c, st₁) = some (b, st') → wpAny (model W.prog W.w) A (pure c) Q Er s₁ := fun h => by
    cases h
    exact wpAny_pure (hQ _ P)
  have go : evBs gF F G isAnd es st₁ = some (b, st') → wpAny (model W.prog W.w) A (allTrue (opOf isAnd) ps env) Q Er s₁ := fun h =>
    hs isAnd H env vm st₁ b st' s₁ A Er Q P.rel P.toks fit h fun s' P' => hQ _ ⟨P'.rel, P.jn.trans P'.jn, P'.toks⟩
  cases isAnd <;> cases c
  · exact go h
  · exact stop h
  · exact stop h
  · exact go h
theorem b_andor {i : Bool} {a : E} {es : Es} {x : PySem.Expr} {xs : List PySem.Expr} {pos : Pos} (ha : SB W F G n sc a x) (hs : SBs W F G n sc es xs) :
    SB W F G n sc (.andor i a es) (.BoolOp (opOf i) (x :: xs) pos) := by
  intro H env vm st b st' s A Er Q R tk fit h hQ
  exact bs_cons ha hs i H env vm st b st' s A Er Q R tk fit h hQ

theorem s_ite {c a b : E} {t x y : PySem.Expr} {pos : Pos} (hc : SB W F G n sc c t) (ha : SE W F G n sc a x) (hb : SE W F G n sc b y) : SE W F G n sc (.ite c a b) (.IfExp t x y pos) := by
  intro H env vm st op st' s A Er Q R tk fit e hQ
  refine be e ?_; clear e; intro b st₁ h1 e
  refine wpAny_IfExp (hc _ _ _ _ _ _ _ _ _ _ R tk fit h1 fun s₁ P => ?_)
  cases b with
  | true => exact ha _ _ _ _ _ _ _ _ _ _ P.rel P.toks fit e fun v s' P' => hQ _ _ (.after P.jn P')
  | false => exact hb _ _ _ _ _ _ _ _ _ _ P.rel P.toks fit e fun v s' P' => hQ _ _ (.after P.jn P')

/-! items and slices -/
theorem subscripted_plain {p : PySem.Expr} (h : isSlice p = false) (o j : Value) : subscripted p false o j = operate [o, j] (getItem o j) := by
  cases p <;> first | rfl | exact nomatch h

theorem s_sub {a i : E} {v k : PySem.Expr} {pos : Pos} (hk : isSlice k = false) (ha : SE W F G n sc a v) (hi : SE W F G n sc i k) : SE W F G n sc (.sub a i) (.Subscript v k pos) := by
  intro H env vm st op st' s A Er Q R tk fit e hQ
  refine ev2_e e ?_; clear e; intro x s y tx ty r h1 h2 h3 h4 h5 e
  subst e
  refine Subscript_ (ha _ _ _ _ _ _ _ _ _ _ R tk fit h1 fun v₁ s₁ P₁ => hi _ _ _ _ _ _ _ _ _ _ P₁.low.1 P₁.toks fit h2 fun v₂ s₂ P₂ => ?_)
  obtain ⟨R₂, o₂⟩ := P₂.low
  exact wpAny_with_toks P₂.toks (idx_ok (L := env.locals) h5 (peekL R₂ (P₁.low.2.step P₂.stp P₂.dom) h3) (peekL R₂ o₂ h4) (subscripted_plain hk) fun v s' r tk' => hQ _ _ (.after (P₁.jn.trans P₂.jn) (r.post R₂ tk')))

theorem o_none : SO W F G n sc .none none := by
  intro H env vm st l st' s A Er Q R tk fit e hQ
  cases e
  exact wpAny_evalPart_none (hQ _ _ ⟨R, .id, tk⟩ rfl)
theorem o_some {e : E} {p : PySem.Expr} (he : SE W F G n sc e p) : SO W F G n sc (.some e) (some p) := by
  intro H env vm st l st' s A Er Q R tk fit h hQ
  refine evInt_e h ?_; clear h; intro x i h1 h2 _ e
  subst e
  refine wpAny_evalPart_some (he _ _ _ _ _ _ _ _ _ _ R tk fit h1 fun v₁ s₁ P₁ => ?_)
  obtain ⟨R₁, o₁⟩ := P₁.low
  exact hQ _ _ ⟨R₁, P₁.jn, P₁.toks⟩ (peekL R₁ o₁ h2)

theorem body_grown {ok : Addr → Prop} {h h' : Heap} (g : Grown h h') {t : T} {v : Value} (B : Body W ok h t v) : Body W ok h' t v := body_tr g.tr B fun a o _ _ e => g.keep a o e

theorem s_slc {a : E} {lo hi : Oe} {v : PySem.Expr} {l u : Option PySem.Expr} {p pos : Pos} (ha : SE W F G n sc a v) (hl : SO W F G n sc lo l) (hu : SO W F G n sc hi u) :
    SE W F G n sc (.slc a lo hi) (.Subscript v (.Slice l u none p) pos) := by
  intro H env vm st op st' s A Er Q R tk fit e hQ
  refine ev3_e e ?_; clear e; intro x st₁ lv st₂ hv tx r h1 h2 h3 h4 h5 e
  subst e
  refine Subscript_ (ha _ _ _ _ _ _ _ _ _ _ R tk fit h1 fun v₁ s₁ P₁ => wpAny_Slice (hl _ _ _ _ _ _ _ _ _ _ P₁.low.1 P₁.toks fit h2 fun vl s₂ P₂ q₂ => hu _ _ _ _ _ _ _ _ _ _ P₂.rel P₂.toks fit h3 fun vh s₃ P₃ q₃ => wpAny_evalPart_none ?_))
  have j₃ := P₂.jn.trans P₃.jn
  have o₁ := P₁.low.2.step j₃.stp j₃.dom
  have g : Grown s₃.heap (s₃.heap.push { cls := .type "slice", data := .fields #[vl, vh, .none] }) := .push _
  refine wpAny_with_toks (s := { s₃ with heap := s₃.heap.push _ }) P₃.toks (slice_ok (L := env.locals) h5 (body_grown g (peekL P₃.rel o₁ h4)) q₂ q₃ (Heap.get?_push_size _ rfl) (fun o j => rfl) fun v s' r tk' => hQ _ _ ?_)
  exact .after (P₁.jn.trans (j₃.trans (Jn.grown (s' := { s₃ with heap := s₃.heap.push { cls := .type "slice", data := .fields #[vl, vh, .none] } }) g ⟨rfl, rfl⟩))) (r.post (P₃.rel.grow g fun a k => .inl k) tk')

theorem s_rev {a : E} {v : PySem.Expr} {k : Nat} {p q pos r : Pos} (ha : SE W F G n sc a v) :
    SE W F G n sc (.rev a) (.Subscript v (.Slice none none (some (.UnaryOp .USub (.Constant (.int 1) k p) q)) r) pos) := by
  intro H env vm st op st' s A Er Q R tk fit e hQ
  refine ev1_e e ?_; clear e; intro x tx r h1 h4 h5 e
  subst e
  refine Subscript_ (ha _ _ _ _ _ _ _ _ _ _ R tk fit h1 fun v₁ s₁ P₁ => wpAny_Slice (wpAny_evalPart_none (wpAny_evalPart_none (wpAny_evalPart_some (wpAny_UnaryOp (wpAny_Constant_int (neg_int ?_)))))))
  have g : Grown s₁.heap (s₁.heap.push { cls := .type "slice", data := .fields #[.none, .none, .int (-1) (s₁.toks + 1)] }) := .push _
  refine wpAny_with_toks (n := 1) (Nat.le_succ_of_le (Nat.le_succ_of_le P₁.toks)) (rev_ok (L := env.locals) (k := s₁.toks + 1) h5 (body_grown g (peekL P₁.low.1 P₁.low.2 h4)) (Heap.get?_push_size _ rfl) (fun o j => rfl) fun v s' r tk' => hQ _ _ ?_)
  exact .after (P₁.jn.trans (Jn.grown (s' := { s₁ with heap := s₁.heap.push { cls := .type "slice", data := .fields #[.none, .none, .int (-1) (s₁.toks + 1)] }, toks := s₁.toks + 1 + 1 }) g ⟨rfl, rfl⟩)) (r.post (P₁.low.1.grow g fun a k => .inl k) tk')
end
end MP
end

section -- MpSnd3
open PySem PySem.W PyProof.Rows
namespace MP
section
variable {W : Wd} {F : FTab} {G : Nat → Option T} {n : Nat} {sc : Sc}

/-- a hidden object changes; the heap may grow -/
theorem Rel.hiddenTo {Hx H' : Addr → Prop} {env : Env} {vm : Nat → Option Value} {st : St} {h h' : Heap} {D : Addr} (R : Rel W Hx sc env vm st h) (hD : Hx D) (hc : ∀ c, ¬ h.IsCell D c)
    (keep : ∀ c o, c ≠ D → h.get? c = some o → h'.get? c = some o) (hH : ∀ a, H' a → Hx a) (ho : H' D → ∃ o, h'.get? D = some o) (hb : W.hb.get? D = none) : Rel W H' sc env vm st h' := by
  have np : ¬ Pv sc env vm st D := (R.hid D hD).2
  have keepP : ∀ c o, Pv sc env vm st c → h.get? c = some o → h'.get? c = some o := fun c o p e => keep c o (fun q => np (q ▸ p)) e
  have tr : Tr (Ok Hx sc env vm st) h (Ok H' sc env vm st) h' := fun a o k e => ⟨⟨k.1, fun q => k.2 (hH a q)⟩, keep a o (fun q => k.2 (q ▸ hD)) e⟩
  have cell : ∀ c o, h.IsCell c o → h'.IsCell c o := fun c o x => by
    have ne : c ≠ D := fun q => hc o (q ▸ x)
    obtain ⟨oc, e, d⟩ := x
    exact ⟨oc, keep c oc ne e, d⟩
  refine ⟨fun b o e => keep b o (fun q => by subst q; rw [hb] at e; cases e) (R.base b o e), R.kind, R.glob, R.blt, R.kl, R.kc, R.kf, R.kg, ?_, ?_, ?_, R.apart, ?_, ?_, R.one, R.priv, ?_⟩
  · obtain ⟨m, ns, q⟩ := R.ns
    exact ⟨m, ns.at' fun o e => keepP _ o (.inl rfl) e, q⟩
  · intro x hx
    obtain ⟨c, o, e, q⟩ := R.cl x hx
    exact ⟨c, o, e, cell c o q⟩
  · intro i v c e k l
    exact cell _ _ (R.cv i v c e k l)
  · intro i t b e
    obtain ⟨v, q, B, k⟩ := R.vals i t b e
    refine ⟨v, q, body_tr tr B fun a o ea hf e' => ?_, fun hb => okv_tr tr B (k hb)⟩
    subst ea
    cases b with
    | false => exact keep a o (fun q => (okv_at (k rfl) hf).2 (q ▸ hD)) e'
    | true => exact keepP a o (.inr (.inr ⟨i, t, e, q⟩)) e'
  · intro i t e
    obtain ⟨a, q, n, hf, nc⟩ := R.own i t e
    refine ⟨a, q, n, hf, fun v ⟨o, e1, e2⟩ => ?_⟩
    obtain ⟨v', q', B, _⟩ := R.vals i t true e
    rw [q] at q'; cases q'
    obtain ⟨o', e3⟩ := body_get B hf
    have := keepP a o' (.inr (.inr ⟨i, t, e, q⟩)) e3
    rw [e1] at this; cases this
    exact nc v ⟨o, e3, e2⟩
  · intro a k
    by_cases e : a = D
    · subst e; exact ⟨ho k, np⟩
    · obtain ⟨⟨o, q⟩, nn⟩ := R.hid a (hH a k)
      exact ⟨⟨o, keep a o e q⟩, nn⟩
theorem Rel.hidden {Hx : Addr → Prop} {env : Env} {vm : Nat → Option Value} {st : St} {h h' : Heap} {D : Addr} (R : Rel W Hx sc env vm st h) (hD : Hx D) (hc : ∀ c, ¬ h.IsCell D c)
    (keep : ∀ c o, c ≠ D → h.get? c = some o → h'.get? c = some o) (ho : ∃ o, h'.get? D = some o) (hb : W.hb.get? D = none) : Rel W Hx sc env vm st h' := R.hiddenTo hD hc keep (fun _ k => k) (fun _ => ho) hb

/-! operands in a row -/
theorem es_nil {ps : List PySem.Expr} (hp : ps = []) : SEs W F G n sc .nil ps := by
  subst hp
  intro pos H env vm st ops st' s A Er Q R tk fit e hQ
  cases e
  exact Calls.spliced_nil (hQ _ _ ⟨R, .nil, .id, tk⟩)
theorem es_cons {e : E} {es : Es} {p : PySem.Expr} {ps : List PySem.Expr} (hq : ∀ env, starEach (p :: ps) env = (false, eval p env) :: starEach ps env) (he : SE W F G n sc e p) (hs : SEs W F G n sc es ps) : SEs W F G n sc (.cons e es) (p :: ps) := by
  intro pos H env vm st ops st' s A Er Q R tk fit h hQ
  refine be h ?_; clear h; intro x st₁ h1 h
  refine be h ?_; clear h; intro xs st₂ h2 h
  cases h
  rw [hq]
  exact Calls.spliced_cons (x := eval p env) (rest := backTo pos (starEach ps env)) (he _ _ _ _ _ _ _ _ _ _ R tk fit h1 fun v s₁ P => hs pos _ _ _ _ _ _ _ _ _ _ P.low.1 P.toks fit h2 fun vs s₂ P₂ => hQ _ _ ⟨P₂.rel, .cons (P.low.2.step P₂.jn.stp P₂.jn.dom) P₂.ops, P.jn.trans P₂.jn, P₂.toks⟩)

theorem s_list {es : Es} {ps : List PySem.Expr} {pos : Pos} (hs : SEs W F G n sc es ps) : SE W F G n sc (.list es) (.List ps pos) := by
  intro H env vm st op st' s A Er Q R tk fit e hQ
  refine evN_e e ?_; clear e; intro ops st₁ ts r h1 h2 h3 e
  refine ge h3 ?_; clear h3; intro hl h3
  cases h3
  subst e
  refine List_ (hs pos _ _ _ _ _ _ _ _ _ _ R tk fit h1 fun vs s₁ P => ?_)
  obtain ⟨R₂, S₂, D₂, r⟩ := escs_ok P.rel P.ops h2
  exact wpAny_newList (hQ _ _ (.after (P.jn.trans ⟨S₂, .refl, D₂⟩) ((Res.newList (k := s₁.toks) r).post R₂ P.toks))) (by rw [← reps_len r, sizeLine_v]; exact Nat.le_trans (lenOk_le hl) (by decide))

theorem Res.newTuple {L : Addr} {ok : Addr → Prop} {s : Shared} {ts : List T} {vs : List Value} (hf : ∀ a, s.heap.get? a = none → ok a) (r : Reps W ok s.heap ts vs) :
    Res W L ok s false (.tuple ts) (.ref s.heap.objs.size) { s with heap := s.heap.push { cls := .type "tuple", data := .seq vs.toArray } } := by
  refine ⟨(Grown.push _).gl, ⟨rfl, rfl⟩, ?_, okv_of fun a e => by cases e; exact hf _ (get?_big (Nat.le_refl _))⟩
  exact ⟨_, _, rfl, ⟨_, Heap.get?_push_size _ rfl, rfl, 0, rfl⟩, reps_tr (Grown.tr (.push _)) r⟩

theorem s_tup {es : Es} {ps : List PySem.Expr} {k : Nat} {pos : Pos} (hs : SEs W F G n sc es ps) : SE W F G n sc (.tup es) (.Tuple ps k pos) := by
  intro H env vm st op st' s A Er Q R tk fit e hQ
  refine evN_e e ?_; clear e; intro ops st₁ ts r h1 h2 h3 e
  refine ge h3 ?_; clear h3; intro hl h3
  cases h3
  subst e
  refine Tuple_ (hs pos _ _ _ _ _ _ _ _ _ _ R tk fit h1 fun vs s₁ P => ?_)
  obtain ⟨R₂, S₂, D₂, r⟩ := escs_ok P.rel P.ops h2
  exact wpAny_newTuple (hQ _ _ (.after (P.jn.trans ⟨S₂, .refl, D₂⟩) ((Res.newTuple (L := env.locals) (fun a => R₂.okBig) r).post R₂ P.toks))) (by rw [← reps_len r, sizeLine_v]; exact Nat.le_trans (lenOk_le hl) (by decide))

theorem Rel.big {H : Addr → Prop} {env : Env} {vm : Nat → Option Value} {st : St} {h : Heap} (R : Rel W H sc env vm st h) : (h.objs.size == sysModules) = false := by
  have h1 : h.Ns mainGlobals W.mg := W.T.g.keeps R.base
  obtain ⟨o, es, ep, e, _⟩ := h1
  have h2 := Heap.lt_size e
  rw [beq_eq_false_iff_ne]
  intro q
  rw [q] at h2
  exact absurd h2 (by decide)

theorem s_dict0 {pos : Pos} : SE W F G n sc .dict0 (.Dict [] [] pos) := by
  intro H env vm st op st' s A Er Q R tk fit e hQ
  cases e
  refine wpAny_Dict_empty (hQ _ _ (Res.post (nw := true) (t := .dict [] []) R ⟨(Grown.push _).gl, ⟨rfl, rfl⟩, _, rfl, (by intro g q; cases q), ?_, get?_big (Nat.le_refl _), ?_⟩ tk))
  · rintro c ⟨o, e1, e2⟩
    rw [Heap.get?_push_size _ rfl] at e1; cases e1; cases e2
  · exact ⟨_, [], 0, rfl, R.big, ⟨_, #[], Heap.get?_push_size _ rfl, ⟨rfl, rfl, rfl⟩, rfl, (fun _ he => by simp at he), Pairs.nil, List.nodup_nil⟩, rfl, rfl⟩

/-- a new dict of one entry stands where the empty one was laid -/
theorem dict1_ok {H : Addr → Prop} {env : Env} {vm : Nat → Option Value} {st st₃ : St} {s s₂ : Shared} {h' : Heap} {z : List Nat} {t : T} {v₂ : Value} (R : Rel W H sc env vm st s.heap) (tk : 1 ≤ s₂.toks) {k : Nat}
    (R₃ : Rel W (fun b => H b ∨ b = s.heap.objs.size) sc env vm st₃ s₂.heap) (r : Rep W (Ok (fun b => H b ∨ b = s.heap.objs.size) sc env vm st₃) s₂.heap t v₂)
    (j₃ : Jn sc env vm st { s with heap := s.heap.push { cls := .type "dict", data := .dict #[] } } st₃ s₂) (hd : h'.DictOf (PySem.strKind W.prog W.w) s.heap.objs.size [(mkS z, v₂)]) (hs : Heap.SameBut s.heap.objs.size s₂.heap h')
    (ncell2 : ∀ c, ¬ s₂.heap.IsCell s.heap.objs.size c) : PostE W H sc env vm st s (.new (.dict [z] [t])) st₃ (.ref s.heap.objs.size) { s₂ with heap := h', toks := s₂.toks + k } := by
  have hD : s.heap.get? s.heap.objs.size = none := get?_big (Nat.le_refl _)
  have sys := R.big
  generalize s.heap.objs.size = D at *
  have keep : ∀ c o, c ≠ D → s₂.heap.get? c = some o → h'.get? c = some o := fun c o n e => (hs.2 c n).trans e
  obtain ⟨od, es, ep, hd⟩ := hd
  have ncell : ∀ c, ¬ h'.IsCell D c := fun c ⟨o', e1, e2⟩ => by rw [hd.1] at e1; cases e1; rw [hd.2.2.1] at e2; cases e2
  have nb : W.hb.get? D = none := by
    cases e : W.hb.get? D with
    | none => rfl
    | some o => have := R.base D o e; rw [hD] at this; cases this
  have R₄ := R₃.hidden (.inr rfl) ncell2 keep ⟨od, hd.1⟩ nb
  have tr : Tr (Ok (fun b => H b ∨ b = D) sc env vm st₃) s₂.heap (Ok (fun b => H b ∨ b = D) sc env vm st₃) h' := fun c o k e => ⟨k, keep c o (fun q => k.2 (.inr q)) e⟩
  have nH : ¬ H D := fun q => by obtain ⟨⟨o, e⟩, _⟩ := R.hid D q; rw [hD] at e; cases e
  refine ⟨⟨D, rfl, (by intro g q; cases q), ncell, nH, nb, R₄, D, [v₂], ep, rfl, sys, ⟨od, es, hd⟩, rfl, v₂, [], rfl, rep_tr tr r, rfl⟩, ⟨fun c o nn e => ?_, fun c p => ?_⟩, ⟨j₃.alike.gens, j₃.alike.os⟩, Nat.le_trans tk (Nat.le_add_right _ _), j₃.dom, fun _ _ q1 q2 => by cases q1; cases q2; exact .inr hD⟩
  · exact keep c o (fun q => by subst q; rw [hD] at e; cases e) (j₃.stp.keep c o nn (Heap.get?_push_of_some _ e))
  · refine (j₃.stp.priv c p).imp id fun q => ?_
    cases e : s.heap.get? c with
    | none => rfl
    | some o => have := Heap.get?_push_of_some { cls := .type "dict", data := .dict #[] } e; rw [q] at this; cases this
theorem s_dict1 {k v : E} {a b : PySem.Expr} {pos : Pos} (hk : SE W F G n sc k a) (hv : SE W F G n sc v b) : SE W F G n sc (.dict1 k v) (.Dict [some a] [b] pos) := by
  intro H env vm st op st' s A Er Q R tk fit e hQ
  refine evD_e e ?_; clear e; intro x st₁ y st₂ z t h1 h2 h3 h4 _ e
  subst e
  -- the empty dict stands first
  have R₀ : Rel W (fun b => H b ∨ b = s.heap.objs.size) sc env vm st (s.heap.push { cls := .type "dict", data := .dict #[] }) := R.grow (.push _) fun c q => q.imp id fun e => by subst e; exact ⟨get?_big (Nat.le_refl _), _, Heap.get?_push_size _ rfl⟩
  refine wpAny_Dict_pairs (knd := PySem.strKind W.prog W.w) (pairs := [(eval a env, do let x ← eval b env; standAt pos; pure x)]) rfl (by simp) (by simp) ?_
  show wpAny _ A (do let kv ← eval a env; let vv ← holding [kv] (do let x ← eval b env; standAt pos; pure x); return (kv, vv) :: (← holding [kv, vv] (pure []))) _ _ _
  refine wpAny_bind (hk _ _ _ _ _ _ _ _ _ _ R₀ tk fit h1 fun v₁ s₁ P₁ => wpAny_bind (wpAny_holding (wpAny_bind (hv _ _ _ _ _ _ _ _ _ _ P₁.low.1 P₁.toks fit h2 fun v₂ s₂ P₂ => wpAny_bind (wpAny_standAt (wpAny_pure (wpAny_bind (wpAny_holding (wpAny_pure (wpAny_pure ?_))))))))))
  obtain ⟨R₂, o₂⟩ := P₂.low
  obtain ⟨kt, rfl⟩ := peekL R₂ (P₁.low.2.step P₂.stp P₂.dom) h3
  obtain ⟨R₃, S₃, D₃, r⟩ := esc_ok R₂ o₂ ((esc_low _ _).trans h4)
  have j₃ := P₁.jn.trans (P₂.jn.trans ⟨S₃, .refl, D₃⟩)
  obtain ⟨o, es, ep, e, q⟩ := Heap.DictOf.new (knd := PySem.strKind W.prog W.w) s.heap
  have e' := j₃.stp.keep _ o (R₀.hid _ (.inr rfl)).2 e
  exact ⟨[(mkS z, v₂)], ⟨strKind_is _ _ _ _, rfl, trivial⟩, ⟨o, es, ep, e', q⟩, fun h' hd hs => hQ _ _ (dict1_ok R P₂.toks R₃ r j₃ hd hs fun c ⟨o', e1, e2⟩ => by rw [e'] at e1; cases e1; rw [q.2.1] at e2; cases e2)⟩
end
end MP
end

section -- MpSnd4
open PySem PySem.W PyProof.Rows
set_option maxRecDepth 10000
namespace MP
section
variable {W : Wd} {F : FTab} {G : Nat → Option T} {n : Nat} {sc : Sc}

/-- terms with no star before them -/
noncomputable def NoStar (ps : List PySem.Expr) : Prop := ∀ env, (starEach ps env).any (·.1) = false
theorem noStar_nil : NoStar [] := fun env => rfl
theorem noStar_cons {p : PySem.Expr} {ps : List PySem.Expr} (hq : ∀ env, starEach (p :: ps) env = (false, eval p env) :: starEach ps env) (h : NoStar ps) : NoStar (p :: ps) := fun env => by
  rw [hq]; simpa using h env
theorem backTo_any {pos : Pos} {l : List (Bool × Sem Value)} (h : l.any (·.1) = false) : (backTo pos l).any (·.1) = false := by
  induction l with
  | nil => rfl
  | cons a r ih =>
    simp only [List.any_cons, Bool.or_eq_false_iff] at h
    simp only [backTo, List.map_cons, List.any_cons, Bool.or_eq_false_iff]
    exact ⟨h.1, by simpa [backTo] using ih h.2⟩

theorem args_ok {es : Es} {ps : List PySem.Expr} {pos : Pos} {H : Addr → Prop} {env : Env} {vm : Nat → Option Value} {st st' : St} {ops : List Op} {s : Shared} {A : Around} {Er : Value → Shared → Prop} {Q : Args → Shared → Prop} {f : Value}
    (hp : NoStar ps) (hn : es = .nil → ps = []) (hs : SEs W F G n sc es ps) (R : Rel W H sc env vm st s.heap) (tk : 1 ≤ s.toks) (fit : Fit n A) (e : evEs gF F G es st = some (ops, st'))
    (hQ : ∀ vs s', PostL W sc H env vm st s ops st' vs s' → Q ⟨vs, []⟩ s') : wpAny (model W.prog W.w) A (evalArgs f true (backTo pos (starEach ps env)) []) Q Er s := by
  cases hb : backTo pos (starEach ps env) with
  | nil =>
    cases es with
    | nil =>
      cases e
      exact PySem.evalArgs_none (hQ _ _ ⟨R, .nil, .id, tk⟩)
    | cons e' es' =>
      -- no terms, no values
      have := hs pos H env vm st ops st' s A Er (fun vs s' => Q ⟨vs, []⟩ s') R tk fit e hQ
      rw [hb] at this
      have e2 : evalArgs f true [] [] = (do let vs ← spliced []; pure ⟨vs, []⟩) := by
        rfl
      rw [e2]
      exact wpAny_bind (wpAny_mono this (fun _ _ h => wpAny_pure h) fun _ _ h => h)
  | cons a r =>
    have hany := backTo_any (pos := pos) (hp env)
    rw [hb] at hany
    obtain ⟨b, t⟩ := a
    simp only [List.any_cons, Bool.or_eq_false_iff] at hany
    obtain ⟨rfl, _⟩ := hany
    refine Calls.evalArgs_plain ?_
    rw [← hb]
    exact hs pos H env vm st ops st' s A Er _ R tk fit e hQ

theorem s_call (C : Cx W F G n) {f : E} {es : Es} {x : Str} {q pos : Pos} {ps : List PySem.Expr} (hp : NoStar ps) (hn : es = .nil → ps = []) (hf : SE W F G n sc f (.Name x q)) (hs : SEs W F G n sc es ps) :
    SE W F G n sc (.call f es) (.Call (.Name x q) ps [] pos) := by
  intro H env vm st op st' s A Er Q R tk fit e hQ
  refine evCall_e e ?_; clear e; intro fo st₁ g ops st₂ ts fP r h1 h2 h3 h4 h5 h6 e
  subst e
  refine Call_Name rfl (hf _ _ _ _ _ _ _ _ _ _ R tk fit h1 fun v₁ s₁ P₁ => ?_)
  obtain ⟨R₁, o₁⟩ := P₁.low
  obtain ⟨a, rfl, hmg⟩ := peekL R₁ o₁ h2
  obtain ⟨o, fd, ho, hd⟩ := C.isfun g fP a h5 hmg
  refine Calls.callWith_function (o := o) (fd := fd) (args_ok hp hn hs R₁ P₁.toks fit h3 fun vs s₂ P₂ => ?_)
  obtain ⟨R₃, S₃, D₃, r₃⟩ := escs_ok P₂.rel P₂.ops h4
  exact ⟨⟨R₃.base a o ho, hd⟩, wpAny_call (C.fns g fP h5 A a (fun b => Pv sc env vm st' b ∨ H b) s₂ ts vs r _ hmg fit R₃.base P₂.toks (fun b hb => hb.elim R₃.pv_get fun hb => (R₃.hid b hb).1) (reps_tr (fun b o k e => ⟨fun q => q.elim k.1 k.2, e⟩) r₃) h6 fun v s' g' al tk' r' => hQ _ _
    (.after (P₁.jn.trans (P₂.jn.trans (Jn.trans ⟨S₃, .refl, D₃⟩ (Jn.grown g' al)))) (.val (R₃.grow g' fun a k => .inl k) (rep_tr (fun b o k e => ⟨⟨fun q => k (.inl q), fun q => k (.inr q)⟩, e⟩) r') tk')))⟩

theorem call_bi {b : BI} {M : Model} {A : Around} {Er : Value → Shared → Prop} {s : Shared} {pos : Pos} {args : List (Bool × Sem Value)} {Q : Value → Shared → Prop} (hany : args.any (·.1) = false)
    (h : wpAny M A (evalArgs (biVal b) true args []) (fun a s₁ => wpAny M A (call (biVal b) ([] ++ a.pos) a.kw) Q Er s₁) Er s) : wpAny M A (callWith pos (biVal b) [] args []) Q Er s := by
  cases b with
  | range => exact PySem.callWith_type hany h
  | list => exact PySem.callWith_type hany h
  | _ => exact Calls.callWith_builtin hany h
theorem s_bi (C : Cx W F G n) {b : BI} {es : Es} {q pos : Pos} {ps : List PySem.Expr} (hg : isG sc (biStr b) = true) (hp : NoStar ps) (hn : es = .nil → ps = []) (hs : SEs W F G n sc es ps) :
    SE W F G n sc (.bi b es) (.Call (.Name (biStr b) q) ps [] pos) := by
  intro H env vm st op st' s A Er Q R tk fit e hQ
  refine evP_e e ?_; clear e; intro ops ts r h1 h2 h3 e
  subst e
  have hd : (biStr b == ("__debug__" : Str)) = false := by cases b <;> decide
  refine Call_Name rfl (Calls.Name_function_global R.kind (R.kg _ (isG_of hg)) (Calls.loadGlobal_builtin R.mgNs.1 (C.bis b).1 R.mgNs.2 (C.bis b).2 ?_) hd)
  have key := args_ok (pos := pos) (f := biVal b) (Q := fun a s' => wpAny (model W.prog W.w) A (call (biVal b) ([] ++ a.pos) a.kw) Q Er s') (Er := Er) hp hn hs R tk fit h1 fun vs s₁ P =>
    wpAny_with_toks P.toks (bi_ok (L := env.locals) fit.1 P.rel.envNs (fun a => P.rel.okBig) h3 (peeks_ok P.rel P.ops h2) fun v s' r tk' => hQ _ _ (.after P.jn (r.post P.rel tk')))
  exact call_bi (backTo_any (hp env)) key

theorem base_plain {o : PySem.Expr} (h : plainBase o = true) (name : Str) (env : Env) (whole : Sem Value) : attributeBase o name env whole = whole := by
  cases o <;> first | rfl | exact nomatch h

theorem meth_form {o : PySem.Expr} {name : Str} {apos pos : Pos} {ps : List PySem.Expr} {env : Env} (hb : plainBase o = true) (hline : (apos.endLine == pos.line) = true) (hlen : Nat.ble ps.length 5 = true) (hp : NoStar ps) :
    eval (.Call (.Attribute o name apos) ps [] pos) env = (do
      let ov ← eval o env
      standAt apos.atName
      let (f, first) ← holding [ov] (getMethod ov name (do return (← importBound o env).getD true))
      callWith pos f first (backTo pos (starEach ps env)) []) := by
  have hall : (backTo pos (starEach ps env)).all (fun x => !x.1) = true := by
    have := backTo_any (pos := pos) (hp env)
    rw [List.any_eq_false] at this
    rw [List.all_eq_true]
    intro x hx
    simpa using this x hx
  have hf : methodCallForm (ps.length + 0) (backTo pos (starEach ps env)) [] = true := by
    have h5 := Nat.le_of_ble_eq_true hlen
    unfold methodCallForm
    rw [hall]
    simp
    omega
  show (do
    let ov ← attributeBase o name env (eval o env)
    standAt apos.atName
    methodCall o name apos pos env ov (ps.length + 0) (backTo pos (starEach ps env)) []) = _
  rw [base_plain hb]
  unfold methodCall
  rw [hf]
  unfold calleeOf methodCallPos
  simp only [if_true, Bool.not_true, Bool.false_or, hline, pure_bind]

theorem meK_of {m : ME} {t : T} {ts : List T} {r : T × Bool} (h : methT gF m t ts = some r) : ∃ id, meK m (kindT t) = some id := by
  cases m with
  | append => exact nomatch h
  | pop => exact nomatch h
  | index =>
    refine o1 h ?_; clear h; intro u e h
    cases t with
    | list xs => exact ⟨_, rfl⟩
    | str x => exact ⟨_, rfl⟩
    | _ => exact nomatch h
  | get => exact o2 h fun u e h => od h fun q e h => by rw [e]; exact ⟨_, rfl⟩
  | _ => first | exact o1 h fun u e h => os h fun q e h => by rw [e]; exact ⟨_, rfl⟩ | exact o3 h fun u e h => os h fun q e h => by rw [e]; exact ⟨_, rfl⟩

theorem op_has {H : Addr → Prop} {env : Env} {vm : Nat → Option Value} {st : St} {h : Heap} {op : Op} {v : Value} (x : OpAt W H sc env vm st h op v) : ∃ t, peek st op = some t := by
  cases op with
  | val t => exact ⟨t, rfl⟩
  | new t => exact x.elim
  | var i => obtain ⟨_, ⟨t, b⟩, e⟩ := x; exact ⟨t, obI e rfl⟩

theorem doMeth_id {m : ME} {k : Nat} {x : Op} {ops : List Op} {st : St} {r : Op × St} (h : doMeth gF m k x ops st = some r) : ∃ id, meK m k = some id := by
  cases m with
  | append => exact doMut_e h fun i ts s xs ys r _ _ _ e _ _ _ => by rw [e]; exact ⟨_, rfl⟩
  | pop => exact doMut_e h fun i ts s xs ys r _ _ _ e _ _ _ => by rw [e]; exact ⟨_, rfl⟩
  | _ => exact doPure_e h fun t ts r _ e _ q _ _ => by rw [e]; exact meK_of q

theorem s_meth {m : ME} {o : E} {es : Es} {p : PySem.Expr} {apos pos : Pos} {ps : List PySem.Expr} (hb : plainBase p = true) (hline : (apos.endLine == pos.line) = true) (hlen : Nat.ble ps.length 5 = true)
    (hp : NoStar ps) (hn : es = .nil → ps = []) (ho : SE W F G n sc o p) (hs : SEs W F G n sc es ps) : SE W F G n sc (.meth m o es) (.Call (.Attribute p (meStr m) apos) ps [] pos) := by
  intro H env vm st op st' s A Er Q R tk fit e hQ
  refine be e ?_; clear e; intro x st₁ h1 e
  refine be e ?_; clear e; intro ops st₂ h2 e
  obtain ⟨id, hid⟩ := doMeth_id e
  refine MethodCall_ (ho _ _ _ _ _ _ _ _ _ _ R tk fit h1 fun v₁ s₁ P₁ => ?_) (meth_form hb hline hlen hp)
  obtain ⟨R₁, o₁⟩ := P₁.low
  obtain ⟨t₁, ht₁⟩ := op_has o₁
  have hk₁ : opKind st₁ x = kindT t₁ := by unfold opKind; rw [← peek_low, ht₁]
  refine get_ok (t := t₁) (hk₁ ▸ hid) (peek_ok R₁ o₁ ht₁) (Calls.callWith_builtin (backTo_any (hp env)) (args_ok hp hn hs R₁ P₁.toks fit h2 fun vs s₂ P₂ => wpAny_with_toks P₂.toks ?_))
  clear hk₁ ht₁
  generalize opKind st₁ x = k at *
  have o₂ := o₁.step P₂.jn.stp P₂.jn.dom
  cases hm : isMut m with
  | true =>
    unfold doMeth at e
    rw [hm] at e
    refine doMut_e e ?_; clear e; intro i ts st₃ xs ys r e1 h3 h4 hk h5 e2 e3
    subst e1 e2 e3 hk
    obtain ⟨R₃, S₃, D₃, r₃⟩ := escs_ok P₂.rel P₂.ops h3
    obtain ⟨id', hid', hw⟩ := mut_ok (s := s₂) (A := A) (Er := fun e s' => 1 ≤ s'.toks → Er e s') (Q := fun a s' => 1 ≤ s'.toks → Q a s') R₃ h4 o₁.1 r₃ h5 fun v' s' R' S' al r' tk' => hQ _ _ (.after (P₁.jn.trans (P₂.jn.trans (Jn.trans ⟨S₃, .refl, D₃⟩ ⟨S', al, .set _ _ _⟩))) (.val R' r' tk'))
    obtain rfl := Option.some.inj (hid.symm.trans hid')
    exact hw
  | false =>
    unfold doMeth at e
    rw [hm] at e
    refine doPure_e e ?_; clear e; intro tx ts r h3 hk h4 h5 e2 e3
    subst e2 e3 hk
    obtain ⟨id', hid', hw⟩ := meth_ok (L := env.locals) (s := s₂) (A := A) (Er := fun e s' => 1 ≤ s'.toks → Er e s') (Q := fun a s' => 1 ≤ s'.toks → Q a s') (let ⟨mm, ns, _⟩ := P₂.rel.ns; ⟨mm, ns⟩) P₂.rel.notL h5 (peekL P₂.rel o₂ h3) (peeks_ok P₂.rel P₂.ops h4)
      fun v s' r' tk' => hQ _ _ (.after (P₁.jn.trans P₂.jn) (r'.post P₂.rel tk'))
    obtain rfl := Option.some.inj (hid.symm.trans hid')
    exact hw

theorem s_repl {o : E} {c : Nat} {z : List Nat} {p : PySem.Expr} {apos pos q₁ q₂ : Pos} {k₁ k₂ : Nat} (hb : plainBase p = true) (hline : (apos.endLine == pos.line) = true) (ho : SE W F G n sc o p) :
    SE W F G n sc (.repl o c z) (.Call (.Attribute p "replace" apos) [.Constant (.str (mkS [c])) k₁ q₁, .Constant (.str (mkS z)) k₂ q₂] [] pos) := by
  intro H env vm st op st' s A Er Q R tk fit e hQ
  refine ev1_e e ?_; clear e; intro x t r h1 h2 h3 e
  refine os h3 ?_; clear h3; intro y e3 h3
  refine ge h3 ?_; clear h3; intro hl h3
  cases h3
  subst e e3
  simp only [Bool.and_eq_true, Bool.not_eq_true'] at hl
  refine MethodCall_ (ho _ _ _ _ _ _ _ _ _ _ R tk fit h1 fun v₁ s₁ P₁ => ?_) (meth_form hb hline rfl (fun env => rfl))
  obtain ⟨R₁, o₁⟩ := P₁.low
  obtain ⟨k, rfl⟩ := peekL R₁ o₁ h2
  refine GM.replace (Calls.callWith_builtin (backTo_any (l := starEach _ env) rfl) ?_)
  refine Calls.evalArgs_plain (Calls.spliced_cons (wpAny_Constant_str (k := k₁) (pos := q₁) (Calls.spliced_cons (wpAny_Constant_str (k := k₂) (pos := q₂) (Calls.spliced_nil ?_)))))
  have t1 := P₁.toks
  refine wpAny_with_toks (n := 1) (Nat.le_succ_of_le (Nat.le_succ_of_le t1)) (repl_ok (L := env.locals) (ok := Ok H sc env vm st') (s := { s₁ with toks := s₁.toks + 1 + 1 }) (Nat.ne_of_gt t1) (Nat.succ_ne_zero _) (Nat.ne_of_lt (Nat.lt_succ_self _)) hl.1.1.2 hl.1.2 hl.2 fun v s' r tk' => hQ _ _ ?_)
  exact .after (P₁.jn.trans .refl) (r.post (s := { s₁ with toks := s₁.toks + 1 + 1 }) (nw := false) R₁ tk')

/-! truth of what is no comparison -/
theorem b_of_e {e : E} {p : PySem.Expr} (hp : ∀ env whole, isTrue p env whole = (do let v ← whole; standAt p.pos; holding [v] (truthy v))) (he : SE W F G n sc e p)
    (hev : ∀ st, evB gF F G e st = bn (evE gF F G e st) (doTruth gF)) : SB W F G n sc e p := by
  intro H env vm st b st' s A Er Q R tk fit h hQ
  rw [hev] at h
  refine be h ?_; clear h; intro op st₁ h1 h
  refine doTruth_e h ?_; clear h; intro t h2 h3 e
  subst e
  rw [hp]
  refine wpAny_bind (he _ _ _ _ _ _ _ _ _ _ R tk fit h1 fun v s₁ P => wpAny_bind (wpAny_standAt (wpAny_holding ?_)))
  obtain ⟨R₁, o₁⟩ := P.low
  exact wpAny_with_toks P.toks (truth_ok h3 (peekL R₁ o₁ h2) fun k tk' => hQ _ ⟨R₁, P.jn.trans .refl, tk'⟩)
end
end MP
end

section -- MpEnv
open PySem PySem.W PyProof.Rows
namespace MP

/-! the cells of a new frame -/
structure CellsAt (h : Heap) (lo : Nat) (own : Str → Prop) (acc cs : List (Str × Addr)) : Prop where
  at' : ∀ x c, own x → cs.lookup x = some c → lo ≤ c ∧ h.IsCell c none
  other : ∀ x, ¬ own x → cs.lookup x = acc.lookup x
  has : ∀ x, own x → ∃ c, cs.lookup x = some c
  apart : ∀ x y c, own x → own y → cs.lookup x = some c → cs.lookup y = some c → x = y

theorem lookup_cons_self {α : Type} (n : Str) (c : α) (l : List (Str × α)) : List.lookup n ((n, c) :: l) = some c := by simp [List.lookup_cons]
theorem lookup_cons_ne {α : Type} {n x : Str} (c : α) (l : List (Str × α)) (h : x ≠ n) : List.lookup x ((n, c) :: l) = l.lookup x := by
  rw [List.lookup_cons]
  have : (x == n) = false := by simpa using h
  rw [this]

theorem cells_at {lo : Nat} {acc₀ : List (Str × Addr)} : ∀ (names : List (Str × NameKind)) (h : Heap) (own : Str → Prop) (acc : List (Str × Addr)), CellsAt h lo own acc₀ acc → lo ≤ h.objs.size →
    CellsAt (pushCells h names) lo (fun x => own x ∨ (x, .cell) ∈ names) acc₀ (cellsFrom h.objs.size names acc)
  | [], h, own, acc, x, _ => by
    simpa [pushCells, cellsFrom] using x
  | (name, kind) :: r, h, own, acc, x, hlo => by
    unfold pushCells cellsFrom
    split
    · rename_i hk
      have hk : kind = .cell := eq_of_beq hk
      subst hk
      have step : CellsAt (h.push { cls := .type "cell", data := .cell none }) lo (fun y => own y ∨ y = name) acc₀ ((name, h.objs.size) :: acc) := by
        refine ⟨fun y c ho e => ?_, fun y ho => ?_, fun y ho => ?_, fun y z c hy hz e1 e2 => ?_⟩
        · by_cases q : y = name
          · subst q; rw [lookup_cons_self] at e; cases e
            exact ⟨hlo, ⟨_, Heap.get?_push_size _ rfl, rfl⟩⟩
          · rw [lookup_cons_ne _ _ q] at e
            obtain ⟨h1, h2⟩ := x.at' y c (ho.resolve_right q) e
            exact ⟨h1, h2.keeps fun b o e => Heap.get?_push_of_some _ e⟩
        · have q : y ≠ name := fun q => ho (.inr q)
          rw [lookup_cons_ne _ _ q]
          exact x.other y fun o => ho (.inl o)
        · by_cases q : y = name
          · subst q; exact ⟨_, lookup_cons_self _ _ _⟩
          · rw [lookup_cons_ne _ _ q]; exact x.has y (ho.resolve_right q)
        · have big : ∀ w c, own w → acc.lookup w = some c → c ≠ h.objs.size := fun w c ho e q => by
            have := (x.at' w c ho e).2.lt
            exact absurd this (by rw [q]; exact Nat.lt_irrefl _)
          by_cases q : y = name <;> by_cases q' : z = name
          · rw [q, q']
          · subst q; rw [lookup_cons_self] at e1; cases e1
            rw [lookup_cons_ne _ _ q'] at e2
            exact absurd rfl (big z _ (hz.resolve_right q') e2)
          · subst q'; rw [lookup_cons_self] at e2; cases e2
            rw [lookup_cons_ne _ _ q] at e1
            exact absurd rfl (big y _ (hy.resolve_right q) e1)
          · rw [lookup_cons_ne _ _ q] at e1
            rw [lookup_cons_ne _ _ q'] at e2
            exact x.apart y z c (hy.resolve_right q) (hz.resolve_right q') e1 e2
      have := cells_at r _ _ _ step (by rw [Heap.size_push]; omega)
      rw [Heap.size_push] at this
      have e : (fun y => (own y ∨ y = name) ∨ (y, NameKind.cell) ∈ r) = fun y => own y ∨ (y, NameKind.cell) ∈ (name, NameKind.cell) :: r := by
        funext y
        simp only [List.mem_cons, Prod.mk.injEq, and_true, or_assoc]
      rw [e] at this
      exact this
    · rename_i hk
      have := cells_at r h own acc x hlo
      have e : (fun y => own y ∨ (y, NameKind.cell) ∈ r) = fun y => own y ∨ (y, NameKind.cell) ∈ (name, kind) :: r := by
        funext y
        simp only [List.mem_cons, Prod.mk.injEq]
        have : ¬ NameKind.cell = kind := fun q => hk (by rw [← q]; rfl)
        simp [this]
      rw [e] at this
      exact this

theorem cells_new (names : List (Str × NameKind)) (h : Heap) (acc : List (Str × Addr)) : CellsAt (pushCells h names) h.objs.size (fun x => (x, .cell) ∈ names) acc (cellsFrom h.objs.size names acc) := by
  have := cells_at (lo := h.objs.size) (acc₀ := acc) names h (fun _ => False) acc ⟨fun _ _ f => f.elim, fun _ _ => rfl, fun _ f => f.elim, fun _ _ _ f => f.elim⟩ (Nat.le_refl _)
  simpa using this

/-! the cells that a comprehension sees -/
theorem closure_go {env : Env} : ∀ (names : List (Str × NameKind)) (acc : List (Str × Addr)), (∀ x, (x, .free) ∈ names → ∃ c, env.cells.lookup x = some c) →
    ∃ cl, (forIn names acc (fun (p : Str × NameKind) cs => (do
      let (name, kind) := p
      if (kind == .free) = true then do
        let a ← cellOf env name
        pure (ForInStep.yield ((name, a) :: cs))
      else pure (ForInStep.yield cs)) : Str × NameKind → List (Str × Addr) → Sem (ForInStep (List (Str × Addr)))) : Sem (List (Str × Addr))) = pure cl ∧
      ∀ x, ((x, .free) ∈ names → cl.lookup x = env.cells.lookup x) ∧ ((x, .free) ∉ names → cl.lookup x = acc.lookup x)
  | [], acc, _ => ⟨acc, by rw [List.forIn_nil], fun x => ⟨(fun h => nomatch h), (fun _ => rfl)⟩⟩
  | (n, k) :: r, acc, h => by
    rw [List.forIn_cons]
    have hr : ∀ x, (x, .free) ∈ r → ∃ c, env.cells.lookup x = some c := fun x hx => h x (List.mem_cons_of_mem _ hx)
    by_cases hk : k = .free
    · subst hk
      obtain ⟨c, hc⟩ := h n List.mem_cons_self
      obtain ⟨cl, e, q⟩ := closure_go r ((n, c) :: acc) hr
      refine ⟨cl, ?_, fun x => ⟨fun hx => ?_, fun hx => ?_⟩⟩
      · have hcell : cellOf env n = pure c := by unfold cellOf; rw [hc]
        simp only [beq_self_eq_true, if_true, hcell, pure_bind]
        exact e
      · by_cases hx' : (x, NameKind.free) ∈ r
        · exact (q x).1 hx'
        · rw [(q x).2 hx']
          rcases List.mem_cons.mp hx with e' | e'
          · cases e'; rw [lookup_cons_self, hc]
          · exact absurd e' hx'
      · have hx' : (x, NameKind.free) ∉ r := fun w => hx (List.mem_cons_of_mem _ w)
        rw [(q x).2 hx']
        exact lookup_cons_ne _ _ fun w => hx (by rw [w]; exact List.mem_cons_self)
    · have hb : (k == NameKind.free) = false := by simpa using hk
      obtain ⟨cl, e, q⟩ := closure_go r acc hr
      refine ⟨cl, ?_, fun x => ⟨fun hx => ?_, fun hx => ?_⟩⟩
      · simp only [hb, Bool.false_eq_true, if_false, pure_bind]
        exact e
      · rcases List.mem_cons.mp hx with e' | e'
        · cases e'; exact absurd rfl hk
        · exact (q x).1 e'
      · exact (q x).2 fun w => hx (List.mem_cons_of_mem _ w)
theorem closure_at {env : Env} {scope : Scope} (h : ∀ x, (x, .free) ∈ scope.names → ∃ c, env.cells.lookup x = some c) :
    ∃ cl, closureFor scope env = pure cl ∧ ∀ x, ((x, .free) ∈ scope.names → cl.lookup x = env.cells.lookup x) ∧ ((x, .free) ∉ scope.names → cl.lookup x = none) := by
  obtain ⟨cl, e, q⟩ := closure_go scope.names [] h
  refine ⟨cl, ?_, fun x => ⟨(q x).1, fun hx => by rw [(q x).2 hx]; rfl⟩⟩
  unfold closureFor
  simp only [bind_pure]
  exact e

noncomputable def compEnv (scope : Scope) (cells : List (Str × Addr)) (C : Addr) (env : Env) : Env :=
  { scope := relabel scope env, locals := C, globals := env.globals, cells, qual := env.qual, func := none, code := env.code, frame := env.frame, builtins := env.builtins }

theorem newEnv_ok {M : Model} {A : Around} {Er : Value → Shared → Prop} {s : Shared} {scope : Scope} {env : Env} {cl : List (Str × Addr)} {Q : Env → Shared → Prop}
    (hQ : ∀ cenv, { cenv with scope := relabel scope env } = compEnv scope (cellsFrom (s.heap.objs.size + 1) scope.names cl) s.heap.objs.size env → cenv.locals = s.heap.objs.size →
      Q cenv { s with heap := pushCells (s.heap.push { cls := .type "dict", data := .dict #[] }) scope.names }) :
    wpAny M A (newFunctionEnv scope env.globals cl [] env.qual none .none (some env)) Q Er s := by
  simp only [newFunctionEnv, Option.isSome_some, if_true]
  refine wpAny_bind (wpAny_alloc ?_)
  refine wpAny_bind (wpAny_layCells _ (fun name kind cells => by cases hkc : kind == NameKind.cell <;> simp [hkc]) _ _ _ _ ?_)
  rw [show ({ s with heap := s.heap.push { cls := .type "dict", data := .dict #[] } } : Shared).heap.objs.size = s.heap.objs.size + 1 from Heap.size_push ..]
  rw [List.forIn_nil]
  exact wpAny_bind (wpAny_pure (wpAny_pure (hQ _ rfl rfl)))

theorem relabel_lookup {scope : Scope} {env : Env} (x : Str) : (relabel scope env).names.lookup x = (scope.names.lookup x).map fun k => if (k == .free && env.scope.kind == .function && env.kindOf x == some .cell) = true then .cell else k := by
  unfold relabel
  dsimp only
  generalize scope.names = l
  induction l with
  | nil => rfl
  | cons p r ih =>
    obtain ⟨n, k⟩ := p
    rw [List.map_cons]
    by_cases q : x = n
    · subst q
      rw [lookup_cons_self]
      simp only [Option.map_some]
      split <;> simp [List.lookup_cons]
    · rw [lookup_cons_ne _ _ q, ← ih]
      dsimp only
      split
      · rw [lookup_cons_ne _ _ q]
      · rw [lookup_cons_ne _ _ q]
end MP
end

section -- MpStore
open PySem PySem.W PyProof.Rows
namespace MP
section
variable {W : Wd} {H : Addr → Prop} {sc : Sc} {env : Env} {vm : Nat → Option Value} {st st' : St} {s : Shared} {A : Around} {Er : Value → Shared → Prop}

/-- what is left after names are stored -/
structure PostS (W : Wd) (H : Addr → Prop) (sc : Sc) (env : Env) (vm : Nat → Option Value) (st : St) (s : Shared) (vm' : Nat → Option Value) (st' : St) (s' : Shared) : Prop where
  rel : Rel W H sc env vm' st' s'.heap
  stp : Stp (Pv sc env vm st) s.heap (Pv sc env vm' st') s'.heap
  alike : Alike s s'
  toks : s.toks ≤ s'.toks

theorem kind_ok (R : Rel W H sc env vm st s.heap) : (env.scope.kind == .class || (env.scope.kind == .module && env.locals != env.globals)) = false := by
  rw [R.kind]; rfl

/-- a value is stored under a name -/
theorem store_ok {Hx : Addr → Prop} {M : Model} {i : Nat} {t : T} {b : Bool} {v : Value} {Q : Unit → Shared → Prop} (R : Rel W Hx sc env vm st s.heap) (hw : isW sc (W.nm i) = true) (hH : ∀ a, H a → Hx a)
    (hB : Body W (Ok Hx sc env vm st) s.heap t v) (hk : b = false → Okv (Ok Hx sc env vm st) t v)
    (ho : b = true → ∃ a, v = .ref a ∧ Hx a ∧ ¬ H a ∧ (∀ g, t ≠ .fn g) ∧ (∀ c, ¬ s.heap.IsCell a c) ∧ W.hb.get? a = none)
    (hQ : ∀ s', s.toks ≤ s'.toks → Alike s s' → Rel W H sc env (vset vm i v) (st.set i t b) s'.heap →
      (∀ P₀ h₀, Stp P₀ h₀ (Pv sc env vm st) s.heap → (b = true → ∀ a, v = .ref a → P₀ a ∨ h₀.get? a = none) → Stp P₀ h₀ (Pv sc env (vset vm i v) (st.set i t b)) s'.heap) → (∀ a o, ¬ Pv sc env vm st a → s.heap.get? a = some o → s'.heap.get? a = some o) → Q () s') :
    wpAny M A (storeName env (W.nm i) v) Q Er s := by
  rcases isW_of hw with q | q
  · obtain ⟨m, ns, _⟩ := R.ns
    refine wpAny_storeName_local (R.kl _ q) ns (fun h' hn hs => ?_) (kind_ok R)
    obtain ⟨R', S'⟩ := R.bound (H := H) (h' := h') hH hB hk ho (.inr ⟨q, hs, fun m' hm' => by rw [ns_unique hm' ns]; exact hn⟩)
    exact hQ _ (Nat.le_succ _) ⟨rfl, rfl⟩ R' S' fun a o np e => (hs.2 a (fun q => np (.inl q))).trans e
  · obtain ⟨c, o, hc, ic⟩ := R.cl _ (.inl q)
    refine wpAny_storeName_cell R.kind (R.kc _ q) hc ic fun h' hc' hs => ?_
    obtain ⟨R', S'⟩ := R.bound (H := H) (h' := h') hH hB hk ho (.inl ⟨c, hc, q, hc', hs⟩)
    exact hQ _ (Nat.le_refl _) ⟨rfl, rfl⟩ R' S' fun a o np e => (hs.2 a (fun w => np (.inr (.inl ⟨_, q, w ▸ hc⟩)))).trans e

theorem store_val {M : Model} {i : Nat} {t : T} {v : Value} {Q : Unit → Shared → Prop} (R : Rel W H sc env vm st s.heap) (hw : isW sc (W.nm i) = true) (r : Rep W (Ok H sc env vm st) s.heap t v)
    (hQ : ∀ s', PostS W H sc env vm st s (vset vm i v) (st.set i t false) s' → Q () s') : wpAny M A (storeName env (W.nm i) v) Q Er s :=
  store_ok R hw (fun _ k => k) r.1 (fun _ => r.2) (fun q => by cases q) fun s' tk al R' S' _ => hQ _ ⟨R', S' _ _ .refl (fun q => nomatch q), al, tk⟩

theorem setAll_cons {x : Nat} {xs : List Nat} {ts : List T} {st st' : St} {P : Prop} (e : setAll st (x :: xs) ts = some st') (H : ∀ t r, ts = t :: r → setAll (st.set x t false) xs r = some st' → P) : P := by
  cases ts with
  | nil => exact nomatch e
  | cons t r => exact H t r rfl e
theorem setAll_len {xs : List Nat} : ∀ {ts : List T} {st st' : St}, setAll st xs ts = some st' → xs.length = ts.length := by
  induction xs with
  | nil => exact fun e => ge e fun e _ => by rw [isE e]; rfl
  | cons x xs ih => exact fun e => setAll_cons e fun t r q e => by rw [q]; exact congrArg (· + 1) (ih e)

/-- a target that stores under a name -/
noncomputable def Sto (W : Wd) (env : Env) (M : Model) (A : Around) (Er : Value → Shared → Prop) (i : Nat) (f : Value → Sem Unit) : Prop := ∀ v Q s, wpAny M A (storeName env (W.nm i) v) Q Er s → wpAny M A (f v) Q Er s
inductive Stos (W : Wd) (env : Env) (M : Model) (A : Around) (Er : Value → Shared → Prop) : List Nat → List (Value → Sem Unit) → Prop
  | nil : Stos W env M A Er [] []
  | cons {i f is fs} : Sto W env M A Er i f → Stos W env M A Er is fs → Stos W env M A Er (i :: is) (f :: fs)
theorem Stos.length {M : Model} {xs : List Nat} {fs : List (Value → Sem Unit)} (h : Stos W env M A Er xs fs) : fs.length = xs.length := by
  induction h with
  | nil => rfl
  | cons _ _ ih => exact congrArg (· + 1) ih
theorem Stos.map {M : Model} {f : Nat → Value → Sem Unit} (h : ∀ i, Sto W env M A Er i (f i)) : ∀ xs : List Nat, Stos W env M A Er xs (xs.map f)
  | [] => .nil
  | x :: xs => .cons (h x) (Stos.map h xs)

/-- names are stored in order -/
theorem stores_ok {M : Model} {xs : List Nat} {fs : List (Value → Sem Unit)} (hT : Stos W env M A Er xs fs) : ∀ {ts : List T} {vs : List Value} {vm : Nat → Option Value} {st : St} {s : Shared} {Q : Unit → Shared → Prop}, Rel W H sc env vm st s.heap → (∀ x ∈ xs, isW sc (W.nm x) = true) → Reps W (Ok H sc env vm st) s.heap ts vs → setAll st xs ts = some st' →
    (∀ vm' s', PostS W H sc env vm st s vm' st' s' → (∀ i, i ∉ xs → vm' i = vm i) → Q () s') → wpAny M A (assignInOrder fs vs) Q Er s := by
  induction hT with
  | nil =>
    intro ts vs vm st s Q R _ r e hQ
    refine ge e ?_; clear e; intro e e'
    cases e'
    rw [isE e] at r
    rw [reps_nil r]
    exact assignInOrder_nil (hQ vm s ⟨R, .refl, .refl, Nat.le_refl _⟩ fun _ _ => rfl)
  | cons hf _ ih =>
    intro ts vs vm st s Q R hw r e hQ
    refine setAll_cons e ?_; clear e; intro t r' q e
    subst q
    obtain ⟨v, r', rfl, y, q⟩ := r
    refine assignInOrder_cons (hf _ _ _ (store_val R (hw _ List.mem_cons_self) y fun s₁ P => ?_))
    refine ih P.rel (fun z hz => hw z (List.mem_cons_of_mem _ hz)) (reps_tr (P.stp.tr H) q) e fun vm' s' P' hv => hQ vm' s' ⟨P'.rel, P.stp.trans P'.stp, P.alike.trans P'.alike, Nat.le_trans P.toks P'.toks⟩ fun i hi => ?_
    rw [hv i fun k => hi (List.mem_cons_of_mem _ k)]
    exact if_neg fun q => hi (by rw [← q]; exact List.mem_cons_self)

theorem nms_of {nm : Nat → Str} : ∀ {xs : List Nat} {ps : List PySem.Expr}, PNms nm sc xs ps → (∀ x ∈ xs, isW sc (nm x) = true) ∧ ps.length = xs.length
  | [], ps, h => by cases h; exact ⟨fun _ h => (nomatch h), rfl⟩
  | x :: xs, ps, h => by
    obtain ⟨p, r, rfl, ⟨q, rfl, h1⟩, h2⟩ := h
    obtain ⟨i1, i2⟩ := nms_of h2
    refine ⟨fun z hz => ?_, congrArg (· + 1) i2⟩
    rcases List.mem_cons.mp hz with rfl | hz
    · exact h1
    · exact i1 z hz
theorem each_of : ∀ {xs : List Nat} {ps : List PySem.Expr}, PNms W.nm sc xs ps → Stos W env (model W.prog W.w) A Er xs ((assignEach ps env).map (·.2)) ∧ (assignEach ps env).all (fun x => !x.1) = true
  | [], ps, h => by cases h; exact ⟨.nil, rfl⟩
  | x :: xs, ps, h => by
    obtain ⟨p, r, rfl, ⟨q, rfl, h1⟩, h2⟩ := h
    obtain ⟨i1, i2⟩ := each_of h2
    exact ⟨.cons (fun v Q s h => wpAny_assign_Name h) i1, i2⟩

theorem fresh_not {x i : Nat} (hf : freshX st x = true) (hi : (st.get i).isSome = true) : x ≠ i := fun q => by
  subst q
  unfold freshX at hf
  cases e : st.get x with
  | none => rw [e] at hi; exact nomatch hi
  | some y => rw [e] at hf; exact nomatch hf
/-- a target takes an item -/
theorem bind_ok {tg : Tg} {p : PySem.Expr} {t : T} {v : Value} {Q : Unit → Shared → Prop} (ht : PTg W.nm sc tg p) (hh : A.handled = none) (R : Rel W H sc env vm st s.heap) (r : Rep W (Ok H sc env vm st) s.heap t v) (e : bindT tg t st = some st')
    (hQ : ∀ vm' s', PostS W H sc env vm st s vm' st' s' → (∀ i, freshT tg st = true → (st.get i).isSome = true → vm' i = vm i) → Q () s') : wpAny (model W.prog W.w) A (assign p env v) Q Er s := by
  cases tg with
  | name x =>
    obtain ⟨q, rfl, ht⟩ := ht
    cases e
    exact wpAny_assign_Name (store_val R ht r fun s' P => hQ _ _ P fun i hf hi => if_neg (fresh_not hf hi))
  | tup xs =>
    obtain ⟨es, k, pos, rfl, ht⟩ := ht
    have hw := (nms_of ht).1
    obtain ⟨hT, hstar⟩ := each_of (env := env) (A := A) (Er := Er) ht
    have hstar : (assignEach es env).findIdx? (·.1) = none := List.findIdx?_eq_none_iff.mpr fun a ha => by simpa using List.all_eq_true.mp hstar a ha
    have hl : (assignEach es env).length = xs.length := (List.length_map _).symm.trans hT.length
    -- the names, one by one
    have go : ∀ (ts : List T) (us : List Value) (h₁ : Heap), Heap.ExtBut s.heap.objs.size s.heap h₁ → Reps W (Ok H sc env vm st) s.heap ts us → setAll st xs ts = some st' →
        wpAny (model W.prog W.w) A (assignInOrder ((assignEach es env).map (·.2)) us) Q Er { s with heap := h₁ } := by
      intro ts us h₁ he ru e
      have g : Grown s.heap h₁ := ⟨fun a o q => he a o (fun w => by subst w; exact absurd (Heap.lt_size q) (Nat.lt_irrefl _)) q⟩
      exact stores_ok hT (s := { s with heap := h₁ }) (R.grow g fun a k => .inl k) hw (reps_tr (Grown.tr g) ru) e fun vm' s' P hv => hQ vm' s' ⟨P.rel, (g.stp fun _ p => p).trans P.stp, Alike.trans (s₁ := { s with heap := h₁ }) ⟨rfl, rfl⟩ P.alike, P.toks⟩ fun i hf hi =>
        hv i fun hm => fresh_not (List.all_eq_true.mp hf i hm) hi rfl
    have hlen : ∀ {ts : List T} {us : List Value}, setAll st xs ts = some st' → Reps W (Ok H sc env vm st) s.heap ts us → (assignEach es env).length = us.toArray.size := by
      intro ts us e ru
      rw [hl, List.size_toArray, ← reps_len ru, setAll_len e]
    obtain ⟨B, K⟩ := r
    cases t with
    | list ts =>
      obtain ⟨a, us, rfl, pl, ru⟩ := B
      rw [assign_Tuple]
      refine wpAny_bind (wpAny_standAt ?_)
      unfold unpack
      rw [hlen e ru, hstar]
      exact wpAny_bind (wpAny_holding (kun_itemsOf hh (plain_isList pl) fun h₁ he => go ts us h₁ he ru e))
    | tuple ts =>
      obtain ⟨a, us, rfl, pl, ru⟩ := B
      exact assign_Tuple_tuple hh pl (hlen e ru) hstar fun h₁ he => go ts us h₁ he ru e
    | _ => exact nomatch e
end
end MP
end

section -- MpG
open PySem
namespace MP
/-! the guards of a run over abstract signs -/
noncomputable def isRow (s : List Nat) : Bool := s.all (fun c => Nat.blt c 5) && Nat.ble s.length 1000
noncomputable def nmC (c : Nat) : Bool := Nat.ble 10 c && Nat.blt c 15
noncomputable def isNm (s : List Nat) : Bool := match s with
  | [] => false
  | c :: r => r.isEmpty && nmC c
noncomputable def gA : Gd := ⟨fun n => Nat.ble n 2000, isRow, isNm, fun x y => (isRow x && isRow y) || (isNm x && isNm y), fun s => s.all (· == 46), false⟩
@[simp] theorem gA_row {s : List Nat} : gA.row s = isRow s := rfl
@[simp] theorem gA_len {n : Nat} : gA.len n = Nat.ble n 2000 := rfl
end MP
end

section -- MpMap
open PySem
namespace MP

section
variable (f : Nat → List Nat)
noncomputable def fl (s : List Nat) : List Nat := s.flatMap f
mutual
noncomputable def mapT : T → T
  | .none => .none
  | .bool b => .bool b
  | .int i => .int i
  | .str s => .str (fl f s)
  | .fn g => .fn g
  | .list xs => .list (mapTs xs)
  | .tuple xs => .tuple (mapTs xs)
  | .dict ks vs => .dict (ks.map (fl f)) (mapTs vs)
  | .range a b => .range a b
noncomputable def mapTs : List T → List T
  | [] => []
  | x :: xs => mapT x :: mapTs xs
end
end
mutual
noncomputable def goodT : T → Prop
  | .list xs => goodTs xs
  | .tuple xs => goodTs xs
  | .dict ks vs => ks.all isRow = true ∧ goodTs vs
  | _ => True
noncomputable def goodTs : List T → Prop
  | [] => True
  | x :: xs => goodT x ∧ goodTs xs
end

/-- what is asked of the signs' texts -/
structure Sg (f : Nat → List Nat) : Prop where
  row : ∀ c, c < 5 → ∃ d, f c = [d]
  inj : ∀ c d, c < 5 → d < 5 → f c = f d → c = d
  ord : ∀ c d, 10 ≤ c → c < 15 → 10 ≤ d → d < 15 → sLt (f c) (f d) = Nat.blt c d
  len : ∀ c, (f c).length ≤ 10
  dot : f 46 = [46]

section
variable {f : Nat → List Nat}
theorem mapTs_eq : ∀ xs : List T, mapTs f xs = xs.map (mapT f)
  | [] => by simp [mapTs]
  | x :: xs => by simp [mapTs, mapTs_eq xs]
theorem mapTs_append (a b : List T) : mapTs f (a ++ b) = mapTs f a ++ mapTs f b := by simp [mapTs_eq]
theorem mapTs_len (a : List T) : (mapTs f a).length = a.length := by simp [mapTs_eq]
theorem goodTs_iff : ∀ xs : List T, goodTs xs ↔ ∀ x ∈ xs, goodT x
  | [] => by simp [goodTs]
  | x :: xs => by simp [goodTs, goodTs_iff xs]
theorem goodTs_append {a b : List T} (h : goodTs a) (k : goodTs b) : goodTs (a ++ b) := by
  rw [goodTs_iff] at *
  intro x hx
  rcases List.mem_append.mp hx with q | q
  · exact h x q
  · exact k x q
theorem fl_append (a b : List Nat) : fl f (a ++ b) = fl f a ++ fl f b := by simp [fl]
theorem fl_cons (c : Nat) (s : List Nat) : fl f (c :: s) = f c ++ fl f s := by simp [fl]
theorem fl_nil : fl f [] = [] := rfl
theorem fl_len (S : Sg f) : ∀ s : List Nat, (fl f s).length ≤ 10 * s.length
  | [] => by simp [fl]
  | c :: s => by
    rw [fl_cons, List.length_append, List.length_cons]
    have := S.len c
    have := fl_len S s
    omega
theorem lenOk_of {n : Nat} (h : n ≤ 1048576) : lenOk n = true := Nat.ble_eq_true_of_le h

theorem isRow_of {s : List Nat} (h : isRow s = true) : (∀ c ∈ s, c < 5) ∧ s.length ≤ 1000 := by
  unfold isRow at h
  rw [Bool.and_eq_true, List.all_eq_true] at h
  refine ⟨fun c hc => ?_, Nat.le_of_ble_eq_true h.2⟩
  have := h.1 c hc
  rwa [Nat.blt_eq] at this
theorem isRow_mk {s : List Nat} (h : ∀ c ∈ s, c < 5) (l : s.length ≤ 1000) : isRow s = true := by
  unfold isRow
  rw [Bool.and_eq_true, List.all_eq_true]
  refine ⟨fun c hc => ?_, Nat.ble_eq_true_of_le l⟩
  rw [Nat.blt_eq]; exact h c hc
/-- a row sign's sign -/
noncomputable def hd (f : Nat → List Nat) (c : Nat) : Nat := (f c).headD 0
theorem fl_row (S : Sg f) : ∀ {s : List Nat}, (∀ c ∈ s, c < 5) → fl f s = s.map (hd f)
  | [], _ => rfl
  | c :: s, h => by
    obtain ⟨d, e⟩ := S.row c (h c List.mem_cons_self)
    rw [fl_cons, fl_row S fun x hx => h x (List.mem_cons_of_mem _ hx), e, List.map_cons]
    simp [hd, e]
theorem hd_inj (S : Sg f) {c d : Nat} (hc : c < 5) (hd' : d < 5) (h : hd f c = hd f d) : c = d := by
  obtain ⟨x, e⟩ := S.row c hc
  obtain ⟨y, e'⟩ := S.row d hd'
  refine S.inj c d hc hd' ?_
  simp [hd, e, e'] at h
  rw [e, e', h]
theorem fl_row_inj (S : Sg f) : ∀ {s t : List Nat}, (∀ c ∈ s, c < 5) → (∀ c ∈ t, c < 5) → s.map (hd f) = t.map (hd f) → s = t
  | [], [], _, _, _ => rfl
  | [], _ :: _, _, _, e => by simp at e
  | _ :: _, [], _, _, e => by simp at e
  | c :: s, d :: t, h, k, e => by
    simp only [List.map_cons, List.cons.injEq] at e
    rw [hd_inj S (h c List.mem_cons_self) (k d List.mem_cons_self) e.1, fl_row_inj S (fun x hx => h x (List.mem_cons_of_mem _ hx)) (fun x hx => k x (List.mem_cons_of_mem _ hx)) e.2]
theorem sEq_row (S : Sg f) {s t : List Nat} (h : isRow s = true) (k : isRow t = true) : sEq (fl f s) (fl f t) = sEq s t := by
  have hs := (isRow_of h).1
  have ht := (isRow_of k).1
  rw [fl_row S hs, fl_row S ht, Bool.eq_iff_iff, sEq_iff, sEq_iff]
  exact ⟨fl_row_inj S hs ht, fun e => by rw [e]⟩
theorem nmC_of {c : Nat} (h : nmC c = true) : 10 ≤ c ∧ c < 15 := let ⟨x, y⟩ := Bool.and_eq_true_iff.mp h; ⟨Nat.le_of_ble_eq_true x, Nat.le_of_ble_eq_true y⟩
theorem isNm_of {s : List Nat} (h : isNm s = true) : ∃ c, s = [c] ∧ 10 ≤ c ∧ c < 15 := by
  cases s with
  | nil => exact nomatch h
  | cons c r => exact let ⟨x, y⟩ := Bool.and_eq_true_iff.mp h; ⟨c, by rw [isE x], nmC_of y⟩
theorem fl_one (c : Nat) : fl f [c] = f c := by simp [fl]
theorem sLt_nm (S : Sg f) {s t : List Nat} (h : isNm s = true) (k : isNm t = true) : sLt (fl f s) (fl f t) = sLt s t := by
  obtain ⟨c, rfl, h1, h2⟩ := isNm_of h
  obtain ⟨d, rfl, k1, k2⟩ := isNm_of k
  rw [fl_one, fl_one, S.ord c d h1 h2 k1 k2]
  simp only [sLt]
  cases q : Nat.blt c d with
  | true => rfl
  | false =>
    dsimp only
    cases Nat.beq c d <;> rfl
theorem sEq_nm (S : Sg f) {s t : List Nat} (h : isNm s = true) (k : isNm t = true) : sEq (fl f s) (fl f t) = sEq s t := by
  rw [Bool.eq_iff_iff, sEq_iff, sEq_iff]
  refine ⟨fun e => ?_, fun e => by rw [e]⟩
  have h1 := sLt_nm S h k
  have h2 := sLt_nm S k h
  rw [e] at h1 h2
  exact sLt_antisymm (h1.symm.trans (sLt_irrefl _)) (h2.symm.trans (sLt_irrefl _))

theorem asInt_map (t : T) : asInt (mapT f t) = asInt t := by cases t <;> rfl
theorem asBool_map (t : T) : asBool (mapT f t) = asBool t := by cases t <;> rfl
theorem asStr_map (t : T) : asStr (mapT f t) = (asStr t).map (fl f) := by cases t <;> rfl
theorem toInts_map : ∀ xs : List T, toInts (mapTs f xs) = toInts xs
  | [] => rfl
  | x :: xs => by
    show ob (asInt (mapT f x)) _ = ob (asInt x) _
    rw [asInt_map]
    show ob _ (fun i => ob (toInts (mapTs f xs)) _) = _
    rw [toInts_map xs]
theorem toBools_map : ∀ xs : List T, toBools (mapTs f xs) = toBools xs
  | [] => rfl
  | x :: xs => by
    show ob (asBool (mapT f x)) _ = ob (asBool x) _
    rw [asBool_map]
    show ob _ (fun i => ob (toBools (mapTs f xs)) _) = _
    rw [toBools_map xs]
theorem toStrs_map : ∀ xs : List T, toStrs (mapTs f xs) = (toStrs xs).map (List.map (fl f))
  | [] => rfl
  | x :: xs => by
    show ob (asStr (mapT f x)) (fun i => ob (toStrs (mapTs f xs)) _) = Option.map _ (ob (asStr x) _)
    rw [asStr_map, toStrs_map xs]
    cases asStr x with
    | none => rfl
    | some s => cases toStrs xs <;> rfl

/-! operations -/
/-- what an operation on the letters gives is what it gives on the texts -/
noncomputable def Mp (f : Nat → List Nat) (r : T × Bool) (o : Option (T × Bool)) : Prop := o = some (mapT f r.1, r.2) ∧ goodT r.1
theorem Mp.int {i : Int} {b : Bool} {o : Option (T × Bool)} (e : o = some (.int i, b)) : Mp f (.int i, b) o := ⟨e, trivial⟩
theorem binI_int {o : Operator} {x y : Int} {r : T × Bool} (h : binI o x y = some r) : ∃ i b, r = (.int i, b) := by
  cases o with
  | Add => cases h; exact ⟨_, _, rfl⟩
  | Sub => cases h; exact ⟨_, _, rfl⟩
  | Mult => exact ge h fun _ h => by cases h; exact ⟨_, _, rfl⟩
  | FloorDiv => exact ge h fun _ h => by cases h; exact ⟨_, _, rfl⟩
  | Mod => exact ge h fun _ h => by cases h; exact ⟨_, _, rfl⟩
  | Pow => exact ge h fun _ h => by cases h; exact ⟨_, _, rfl⟩
  | _ => exact nomatch h
theorem len_ok2 (S : Sg f) {s : List Nat} {k : Nat} (h : s.length + k ≤ 2000) : (fl f s).length ≤ 20000 := Nat.le_trans (fl_len S s) (Nat.mul_le_mul_left 10 (Nat.le_trans (Nat.le_add_right _ _) h))
theorem bin_map (S : Sg f) {o : Operator} {a b : T} {r : T × Bool} (h : binT gA o a b = some r) (ga : goodT a) (gb : goodT b) : Mp f r (binT gF o (mapT f a) (mapT f b)) := by
  cases a with
  | int x =>
    refine oi h ?_; intro y e h
    subst e
    obtain ⟨i, c, rfl⟩ := binI_int h
    exact .int h
  | bool x =>
    refine oB h ?_; clear h; intro y e h
    refine ge h ?_; clear h; intro ho h
    cases h
    subst e
    exact .int (gtI ho rfl)
  | str x =>
    refine os h ?_; clear h; intro y e h
    refine ge h ?_; clear h; intro ho h
    refine ge h ?_; clear h; intro hl h
    cases h
    subst e
    have hl : x.length + y.length ≤ 2000 := Nat.le_of_ble_eq_true hl
    have h1 := len_ok2 S hl
    have h2 := len_ok2 S (Nat.add_comm .. ▸ hl)
    exact ⟨gtI ho (gtI (lenOk_of (Nat.le_trans (Nat.add_le_add h1 h2) (by decide))) (by rw [← fl_append]; rfl)), trivial⟩
  | list x =>
    refine ol h ?_; clear h; intro y e h
    refine ge h ?_; clear h; intro ho h
    refine ge h ?_; clear h; intro hl h
    cases h
    subst e
    refine ⟨gtI ho (gtI (by rw [mapTs_len, mapTs_len]; exact hl) ?_), goodTs_append ga gb⟩
    rw [← mapTs_append]; rfl
  | _ => exact nomatch h

theorem dEq_map (S : Sg f) {ks ls : List (List Nat)} {vs ws : List T} {x : Bool} (h : dEqs ks vs ls ws = some x) (hk : ks.all isRow = true) (hl : ls.all isRow = true) : dEqs (ks.map (fl f)) (mapTs f vs) (ls.map (fl f)) (mapTs f ws) = some x := by
  cases ks with
  | nil => cases h; cases ls <;> rfl
  | cons k kr => cases ls with
    | nil => exact h
    | cons l lr =>
      refine ge h ?_; clear h; intro h1 h
      refine o1 h ?_; clear h; intro v h2 h
      refine o1 h ?_; clear h; intro w h3 h
      refine oi h ?_; clear h; intro i h4 h
      refine oi h ?_; clear h; intro j h5 h
      cases h
      obtain ⟨h1, h1'⟩ := Bool.and_eq_true_iff.mp h1
      obtain rfl := isE h1
      obtain rfl := isE h1'
      subst h2 h3 h4 h5
      rw [← sEq_row S (by simpa using hk) (by simpa using hl)]
      rfl
theorem eqL_map {x y : List T} {c : Bool} (h : eqL x y = some c) : eqL (mapTs f x) (mapTs f y) = some c := by
  have e : ∀ l : List T, (mapTs f l).isEmpty = l.isEmpty := fun l => by cases l <;> rfl
  unfold eqL at *
  rw [toInts_map, toInts_map, e, e]
  exact h
theorem eq_map (S : Sg f) {a b : T} {x : Bool} (h : eqT gA a b = some x) (ga : goodT a) (gb : goodT b) : eqT gF (mapT f a) (mapT f b) = some x := by
  cases a with
  | int i => cases b <;> first | exact h | exact nomatch h
  | bool i => cases b <;> first | exact h | exact nomatch h
  | str s =>
    refine os h ?_; clear h; intro t e h
    refine ge h ?_; clear h; intro hg h
    subst e
    refine Eq.trans ?_ h
    show some (sEq (fl f s) (fl f t)) = some (sEq s t)
    rcases Bool.or_eq_true_iff.mp hg with q | q
    · exact congrArg some (sEq_row S (Bool.and_eq_true_iff.mp q).1 (Bool.and_eq_true_iff.mp q).2)
    · exact congrArg some (sEq_nm S (Bool.and_eq_true_iff.mp q).1 (Bool.and_eq_true_iff.mp q).2)
  | list xs => exact ol h fun ys e h => by subst e; exact eqL_map h
  | dict ks vs => exact od h fun q e h => by subst e; exact dEq_map S h ga.1 gb.1
  | _ => exact nomatch h
end
end MP
end

section -- MpMap2
open PySem
namespace MP
section
variable {f : Nat → List Nat}
theorem lt_map {a b : T} {x : Bool} (h : ltT gA a b = some x) : ltT gF (mapT f a) (mapT f b) = some x := by
  cases a with
  | int i => exact oi h fun y e h => by subst e; exact h
  | str s => exact os h fun y e h => nomatch h
  | _ => exact nomatch h
theorem is_map {a b : T} {x : Bool} (h : isT a b = some x) : isT (mapT f a) (mapT f b) = some x := by
  refine oB h ?_; clear h; intro d e h
  subst e
  cases a with
  | bool k => exact h
  | int i => exact h
  | _ => exact nomatch h
theorem cmp_map (S : Sg f) {op : CmpOp} {a b : T} {x : Bool} (h : cmpT gA op a b = some x) (ga : goodT a) (gb : goodT b) : cmpT gF op (mapT f a) (mapT f b) = some x := by
  cases op with
  | Eq => exact eq_map S h ga gb
  | NotEq => exact oe h fun y e h => obI (eq_map S e ga gb) h
  | Lt => exact lt_map h
  | Gt => exact lt_map h
  | GtE => exact oi h fun x e h => oi h fun y e' h => by subst e e'; exact h
  | In =>
    cases a with
    | str s => exact os h fun y e h => nomatch h
    | bool k => exact ol h fun xs e h => by subst e; exact oe h fun l e h => obI ((toBools_map xs).trans e) h
    | _ => exact nomatch h
  | NotIn => exact os h fun x e h => os h fun y e' h => nomatch h
  | Is => exact is_map h
  | IsNot => exact oe h fun y e h => obI (is_map e) h
  | _ => exact nomatch h

theorem truth_map {t : T} {b : Bool} (h : truthT gA t = some b) : truthT gF (mapT f t) = some b := by
  cases t <;> first | exact h | exact nomatch h

theorem get_mapTs (xs : List T) (j : Nat) : (mapTs f xs)[j]? = (xs[j]?).map (mapT f) := by rw [mapTs_eq, List.getElem?_map]
theorem good_get {xs : List T} {j : Nat} {t : T} (g : goodTs xs) (e : xs[j]? = some t) : goodT t := (goodTs_iff xs).1 g t (List.mem_of_getElem? e)

theorem look_map (S : Sg f) {k : List Nat} (hk : isRow k = true) : ∀ {ks : List (List Nat)} {vs : List T}, ks.all isRow = true → lookS (ks.map (fl f)) (mapTs f vs) (fl f k) = (lookS ks vs k).map (mapT f)
  | [], vs, _ => by cases vs <;> rfl
  | x :: ks, [], _ => rfl
  | x :: ks, v :: vs, h => by
    rw [List.all_cons, Bool.and_eq_true] at h
    show (match sEq (fl f x) (fl f k) with | true => some (mapT f v) | false => lookS (ks.map (fl f)) (mapTs f vs) (fl f k)) = Option.map _ (match sEq x k with | true => some v | false => lookS ks vs k)
    rw [sEq_row S h.1 hk, look_map S hk h.2]
    cases sEq x k <;> rfl
theorem look_good {k : List Nat} : ∀ {ks : List (List Nat)} {vs : List T} {t : T}, goodTs vs → lookS ks vs k = some t → goodT t
  | [], vs, t, _, e => by cases vs <;> exact nomatch e
  | x :: ks, [], t, _, e => nomatch e
  | x :: ks, v :: vs, t, g, e => by
    unfold lookS at e
    cases q : sEq x k with
    | true => rw [q] at e; cases e; exact g.1
    | false => rw [q] at e; exact look_good g.2 e
theorem row_len (S : Sg f) {s : List Nat} (h : isRow s = true) : (fl f s).length = s.length := by
  rw [fl_row S (isRow_of h).1, List.length_map]
theorem row_one (S : Sg f) {c : Nat} (h : c < 5) : fl f [c] = [hd f c] := by
  rw [fl_row S (by simpa using h)]; rfl

theorem sub_map (S : Sg f) {a i : T} {r : T × Bool} (h : subT gA a i = some r) (ga : goodT a) : Mp f r (subT gF (mapT f a) (mapT f i)) := by
  refine oe h ?_; clear h; intro t h e
  cases e
  have key : idxT gF (mapT f a) (mapT f i) = some (mapT f t) ∧ goodT t := by
    cases a with
    | list xs =>
      refine oi h ?_; clear h; intro k e h
      refine ge h ?_; clear h; intro hl h
      refine oe h ?_; clear h; intro j hj h
      subst e
      exact ⟨gtI (by rw [mapTs_len]; exact hl) (obI (by rw [mapTs_len]; exact hj) (by rw [get_mapTs, h]; rfl)), good_get ga h⟩
    | str s =>
      refine oi h ?_; clear h; intro k e h
      refine ge h ?_; clear h; intro hl h
      refine on h ?_; clear h; intro n e' h
      refine oe h ?_; clear h; intro c hc h
      cases h
      subst e e'
      obtain ⟨hr, hl⟩ := Bool.and_eq_true_iff.mp hl
      have hm := (isRow_of hr).1
      refine ⟨gtI (show lenOk (fl f s).length = true by rw [row_len S hr]; exact hl) (obI rfl (obI (x := hd f c) (by rw [fl_row S hm, List.getElem?_map, hc]; rfl) ?_)), trivial⟩
      rw [← row_one S (hm c (List.mem_of_getElem? hc))]; rfl
    | dict ks vs =>
      refine os h ?_; clear h; intro k e h
      refine ge h ?_; clear h; intro hr h
      subst e
      exact ⟨(look_map S hr ga.1).trans (by rw [h]; rfl), look_good ga.2 h⟩
    | _ => exact nomatch h
  exact ⟨obI key.1 rfl, key.2⟩

theorem cutH_map {α β : Type} (g : α → β) {xs : List α} {hi : Option Int} {ys : List α} (h : cutH xs hi = some ys) : cutH (xs.map g) hi = some (ys.map g) ∧ ∀ y ∈ ys, y ∈ xs := by
  cases hi with
  | none => cases h; exact ⟨rfl, fun _ q => q⟩
  | some b => exact oe h fun n e h => by cases h; exact ⟨obI e (by rw [List.map_take]), fun y hy => List.mem_of_mem_take hy⟩
theorem cutL_map {α β : Type} (g : α → β) {xs : List α} {lo hi : Option Int} {ys : List α} (h : cutL xs lo hi = some ys) : cutL (xs.map g) lo hi = some (ys.map g) ∧ ∀ y ∈ ys, y ∈ xs := by
  refine oe h ?_; clear h; intro zs h1 h
  obtain ⟨e1, m1⟩ := cutH_map g h1
  cases lo with
  | none => cases h; exact ⟨obI e1 rfl, m1⟩
  | some b => exact oe h fun n e h => by cases h; exact ⟨obI e1 (obI e (by rw [List.map_drop])), fun y hy => m1 y (List.mem_of_mem_drop hy)⟩

theorem slice_map (S : Sg f) {a : T} {lo hi : Option Int} {r : T × Bool} (h : sliceT gA a lo hi = some r) (ga : goodT a) : Mp f r (sliceT gF (mapT f a) lo hi) := by
  cases a with
  | list xs =>
    refine ge h ?_; clear h; intro hl h
    refine oe h ?_; clear h; intro ys hy h
    cases h
    obtain ⟨e, m⟩ := cutL_map (mapT f) hy
    rw [← mapTs_eq, ← mapTs_eq] at e
    exact ⟨gtI (by rw [mapTs_len]; exact hl) (obI e rfl), (goodTs_iff ys).2 fun x hx => (goodTs_iff xs).1 ga x (m x hx)⟩
  | str s =>
    refine ge h ?_; clear h; intro hl h
    refine oe h ?_; clear h; intro ys hy h
    cases h
    obtain ⟨hr, hl⟩ := Bool.and_eq_true_iff.mp hl
    have hm := (isRow_of hr).1
    obtain ⟨e, m⟩ := cutL_map (hd f) hy
    rw [← fl_row S hm, ← fl_row S fun c hc => hm c (m c hc)] at e
    exact ⟨gtI (show lenOk (fl f s).length = true by rw [row_len S hr]; exact hl) (obI e rfl), trivial⟩
  | _ => exact nomatch h

theorem rev_map {a : T} {r : T × Bool} (h : revT a = some r) (ga : goodT a) : Mp f r (revT (mapT f a)) := by
  refine ol h ?_; clear h; intro xs e h
  refine ge h ?_; clear h; intro hl h
  cases h
  subst e
  refine ⟨gtI (by rw [mapTs_len]; exact hl) ?_, (goodTs_iff _).2 fun x hx => (goodTs_iff xs).1 ga x (List.mem_reverse.mp hx)⟩
  rw [mapTs_eq, ← List.map_reverse, ← mapTs_eq]; rfl

theorem insS_map (S : Sg f) {x : List Nat} (hx : isNm x = true) : ∀ {l : List (List Nat)}, l.all isNm = true → insS (fl f x) (l.map (fl f)) = (insS x l).map (fl f)
  | [], _ => rfl
  | y :: r, h => by
    rw [List.all_cons, Bool.and_eq_true] at h
    simp only [List.map_cons, insS]
    rw [sLt_nm S h.1 hx]
    split
    · rw [insS_map S hx h.2]; rfl
    · rfl
theorem insS_all {x : List Nat} (hx : isNm x = true) : ∀ {l : List (List Nat)}, l.all isNm = true → (insS x l).all isNm = true
  | [], _ => by simp [insS, hx]
  | y :: r, h => by
    rw [List.all_cons, Bool.and_eq_true] at h
    simp only [insS]
    split
    · rw [List.all_cons, Bool.and_eq_true]; exact ⟨h.1, insS_all hx h.2⟩
    · rw [List.all_cons, List.all_cons]; simp [hx, h.1, h.2]
theorem sortS_all : ∀ {l : List (List Nat)}, l.all isNm = true → (sortS l).all isNm = true
  | [], _ => rfl
  | x :: r, h => by
    rw [List.all_cons, Bool.and_eq_true] at h
    exact insS_all h.1 (sortS_all h.2)
theorem sortS_map (S : Sg f) : ∀ {l : List (List Nat)}, l.all isNm = true → sortS (l.map (fl f)) = (sortS l).map (fl f)
  | [], _ => rfl
  | x :: r, h => by
    rw [List.all_cons, Bool.and_eq_true] at h
    simp only [List.map_cons, sortS]
    rw [sortS_map S h.2, insS_map S h.1 (sortS_all h.2)]

theorem map_str (l : List (List Nat)) : mapTs f (l.map .str) = (l.map (fl f)).map .str := by
  rw [mapTs_eq]; simp [mapT]
theorem map_int (l : List Int) : mapTs f (l.map .int) = l.map .int := by
  rw [mapTs_eq]; simp [mapT]
theorem good_str (l : List (List Nat)) : goodTs (l.map .str) := by
  rw [goodTs_iff]
  intro x hx
  obtain ⟨s, _, rfl⟩ := List.mem_map.mp hx
  trivial
theorem good_int (l : List Int) : goodTs (l.map .int) := by
  rw [goodTs_iff]
  intro x hx
  obtain ⟨s, _, rfl⟩ := List.mem_map.mp hx
  trivial

theorem len_map (S : Sg f) {t : T} {r : T × Bool} (h : lenT gA t = some r) : Mp f r (lenT gF (mapT f t)) := by
  cases t with
  | list xs =>
    refine ge h ?_; clear h; intro hl h
    cases h
    exact .int (gtI (by rw [mapTs_len]; exact hl) (by rw [mapTs_len]))
  | str s =>
    refine ge h ?_; clear h; intro hl h
    cases h
    obtain ⟨hr, hl⟩ := Bool.and_eq_true_iff.mp hl
    exact .int (gtI (show lenOk (fl f s).length = true by rw [row_len S hr]; exact hl) (by rw [row_len S hr]))
  | _ => exact nomatch h
theorem range_map {ts : List T} {r : T × Bool} (h : rangeB ts = some r) : Mp f r (rangeB (mapTs f ts)) := by
  cases ts with
  | nil => exact nomatch h
  | cons t ts =>
    refine oi h ?_; intro a e h
    subst e
    cases ts with
    | nil => exact ge h fun _ h' => by cases h'; exact ⟨h, trivial⟩
    | cons u us =>
      refine ge h ?_; intro e h1
      refine oi h1 ?_; intro b e' h2
      subst e'
      rw [isE e] at *
      exact ge h2 fun _ h' => by cases h'; exact ⟨h, trivial⟩
theorem sort_map (S : Sg f) {xs : List T} {r : T × Bool} (h : sortT gA xs = some r) : Mp f r (sortT gF (mapTs f xs)) := by
  refine ge h ?_; clear h; intro hl h
  have hl' : Nat.ble (mapTs f xs).length 60 = true := by rw [mapTs_len]; exact hl
  unfold Mp sortT
  rw [hl', toInts_map, toStrs_map]
  cases e : toInts xs with
  | some l =>
    rw [e] at h
    cases h
    exact ⟨by show some (T.list _, true) = some (T.list (mapTs f _), true); rw [map_int], good_int _⟩
  | none =>
    rw [e] at h
    refine oe h ?_; clear h; intro l e' h
    refine ge h ?_; clear h; intro hn h
    cases h
    rw [e']
    refine ⟨Eq.trans (b := some (T.list ((sortS (l.map (fl f))).map .str), true)) (gtI (b := (l.map (fl f)).all gF.nm) (List.all_eq_true.mpr fun _ _ => rfl) rfl) ?_, good_str _⟩
    rw [sortS_map S hn, ← map_str]; rfl
theorem max_map {xs : List T} {r : T × Bool} (h : maxT xs = some r) : Mp f r (maxT (mapTs f xs)) := by
  refine oe h ?_; clear h; intro l e h
  cases l with
  | nil => exact nomatch h
  | cons x l => cases h; exact .int (obI ((toInts_map xs).trans e) rfl)
theorem sum_map {xs : List T} {r : T × Bool} (h : ob (toInts xs) (fun l => some (T.int (sumI l), false)) = some r) : Mp f r (ob (toInts (mapTs f xs)) fun l => some (T.int (sumI l), false)) :=
  oe h fun l e h' => by cases h'; exact .int (obI ((toInts_map xs).trans e) rfl)
theorem bi_map (S : Sg f) {b : BI} {ts : List T} {r : T × Bool} (h : biT gA b ts = some r) : Mp f r (biT gF b (mapTs f ts)) := by
  have one : ∀ {k k' : T → Option (T × Bool)}, ob (one? ts) k = some r → (∀ t, k t = some r → Mp f r (k' (mapT f t))) → Mp f r (ob (one? (mapTs f ts)) k') := fun h H => o1 h fun t e h => by
    subst e; exact H t h
  cases b with
  | range => exact range_map h
  | len => exact one h fun t h => len_map S h
  | sorted => exact one h fun t h => ol h fun xs e h => by subst e; exact sort_map S h
  | max => exact one h fun t h => ol h fun xs e h => by subst e; exact max_map h
  | sum => exact one h fun t h => ol h fun xs e h => by subst e; exact sum_map h
  | abs => exact one h fun t h => oi h fun i e h' => by subst e; cases h'; exact .int rfl
  | chr => exact one h fun t h => oi h fun i e h => on h fun c e h => nomatch h
  | list => exact one h fun t h => os h fun i e h => nomatch h

theorem findBy_map {α β : Type} (g : α → β) {p : β → Bool} {q : α → Bool} {P : α → Prop} (h : ∀ x, P x → p (g x) = q x) : ∀ {l : List α}, (∀ x ∈ l, P x) → findBy p (l.map g) = findBy q l
  | [], _ => rfl
  | y :: r, hl => by
    show (match p (g y) with | true => _ | false => _) = (match q y with | true => _ | false => _)
    rw [h y (hl y List.mem_cons_self), findBy_map g h fun x hx => hl x (List.mem_cons_of_mem _ hx)]
theorem joinS_map (sep : List Nat) : ∀ l : List (List Nat), joinS (fl f sep) (l.map (fl f)) = fl f (joinS sep l)
  | [] => rfl
  | [x] => rfl
  | x :: y :: r => by
    have ih := joinS_map sep (y :: r)
    simp only [List.map_cons, joinS] at ih ⊢
    rw [ih, fl_append, fl_append]

theorem index_map (S : Sg f) {t u : T} {r : T × Bool} (h : indexT gA t u = some r) : Mp f r (indexT gF (mapT f t) (mapT f u)) := by
  have at' : ∀ {o : Option Nat} {r : T × Bool}, numAt? o = some r → ∃ i b, r = (.int i, b) := fun h => oe h fun n _ h => ge h fun _ h => by cases h; exact ⟨_, _, rfl⟩
  cases t with
  | list xs =>
    cases u with
    | int i =>
        refine oe h ?_; clear h; intro l e h
        obtain ⟨j, b, rfl⟩ := at' h
        exact .int (obI ((toInts_map xs).trans e) h)
    | str s =>
        refine oe h ?_; clear h; intro l e h
        refine ge h ?_; clear h; intro hn h
        obtain ⟨j, b, rfl⟩ := at' h
        obtain ⟨h1, h2⟩ := Bool.and_eq_true_iff.mp hn
        refine .int (obI (x := l.map (fl f)) (by rw [toStrs_map, e]; rfl) (gtI (by simp [gF]) ?_))
        have : findS (fl f s) (l.map (fl f)) = findS s l := findBy_map (fl f) (p := fun y => sEq y (fl f s)) (q := fun y => sEq y s) (P := fun x => isNm x = true) (fun x hx => sEq_nm S hx h2) (List.all_eq_true.mp h1)
        rw [this]; exact h
    | _ => exact nomatch h
  | str s => exact os h fun x e h => o1 h fun c e h => nomatch h
  | _ => exact nomatch h
theorem join_map (S : Sg f) {t u : T} {r : T × Bool} (h : joinT gA t u = some r) : Mp f r (joinT gF (mapT f t) (mapT f u)) := by
  refine os h ?_; clear h; intro sep e h
  refine ol h ?_; clear h; intro xs e' h
  refine oe h ?_; clear h; intro l e2 h
  refine ge h ?_; clear h; intro hl h
  cases h
  subst e e'
  obtain ⟨h1, h2⟩ := Bool.and_eq_true_iff.mp hl
  have h1 : (joinS sep l).length ≤ 2000 := Nat.le_of_ble_eq_true h1
  have h2 : l.length * sep.length ≤ 2000 := Nat.le_of_ble_eq_true h2
  refine ⟨obI (x := fl f sep) rfl (obI (x := mapTs f xs) rfl (obI (x := l.map (fl f)) (by rw [toStrs_map, e2]; rfl) (gtI (Bool.and_eq_true_iff.mpr ⟨?_, ?_⟩) (by rw [joinS_map]; rfl)))), trivial⟩
  · rw [joinS_map]
    exact lenOk_of (Nat.le_trans (fl_len S _) (Nat.le_trans (Nat.mul_le_mul_left 10 h1) (by decide)))
  · refine lenOk_of (Nat.le_trans (m := 10 * (l.length * sep.length)) ?_ (Nat.le_trans (Nat.mul_le_mul_left 10 h2) (by decide)))
    rw [List.length_map, Nat.mul_left_comm]
    exact Nat.mul_le_mul_left _ (fl_len S sep)
theorem meth_map (S : Sg f) {m : ME} {t : T} {ts : List T} {r : T × Bool} (h : methT gA m t ts = some r) (gt : goodT t) : Mp f r (methT gF m (mapT f t) (mapTs f ts)) := by
  cases m with
  | append => exact nomatch h
  | pop => exact nomatch h
  | index => exact o1 h fun u e h => by subst e; exact index_map S h
  | get =>
      refine o2 h ?_; clear h; intro u e h
      subst e
      refine od h ?_; clear h; intro q e h
      refine os h ?_; clear h; intro k e1 h
      refine oi h ?_; clear h; intro d e2 h
      refine ge h ?_; clear h; intro hr h
      obtain ⟨u1, u2⟩ := u
      simp only at e1 e2
      subst e e1 e2
      show Mp f r (match lookS (q.1.map (fl f)) (mapTs f q.2) (fl f k) with | some t => some (t, false) | none => some (.int d, false))
      rw [look_map S hr gt.1]
      cases e : lookS q.1 q.2 k with
      | some t' => rw [e] at h; cases h; exact ⟨rfl, look_good gt.2 e⟩
      | none => rw [e] at h; cases h; exact ⟨rfl, trivial⟩
  | join => exact o1 h fun u e h => by subst e; exact join_map S h
  | split => exact o1 h fun u e h => os h fun _ _ h => os h fun _ _ h => nomatch h
  | startswith => exact o1 h fun u e h => os h fun _ _ h => os h fun _ _ h => nomatch h
  | endswith => exact o1 h fun u e h => os h fun _ _ h => os h fun _ _ h => nomatch h
  | find => exact o3 h fun u e h => os h fun _ _ h => os h fun _ _ h => oi h fun _ _ h => on h fun _ _ h => oi h fun _ _ h => on h fun _ _ h => nomatch h

theorem chars_row (S : Sg f) : ∀ {s : List Nat}, (∀ c ∈ s, c < 5) → charsT (s.map (hd f)) = mapTs f (charsT s)
  | [], _ => rfl
  | c :: s, h => by
    have ih := chars_row S fun x hx => h x (List.mem_cons_of_mem _ hx)
    simp only [charsT] at ih ⊢
    simp only [List.map_cons, mapTs, mapT]
    rw [ih, row_one S (h c List.mem_cons_self)]

theorem rangeT_map : ∀ (n : Nat) (a : Int), mapTs f (rangeT a n) = rangeT a n ∧ goodTs (rangeT a n)
  | 0, a => ⟨rfl, trivial⟩
  | n + 1, a => ⟨congrArg (T.int a :: ·) (rangeT_map n _).1, trivial, (rangeT_map n _).2⟩
theorem items_map (S : Sg f) {t : T} {xs : List T} (h : itemsT gA t = some xs) (g : goodT t) : itemsT gF (mapT f t) = some (mapTs f xs) ∧ goodTs xs := by
  cases t with
  | str s =>
    refine ge h ?_; clear h; intro hl h
    cases h
    obtain ⟨hr, hl⟩ := Bool.and_eq_true_iff.mp hl
    have hm := (isRow_of hr).1
    refine ⟨gtI (show lenOk (fl f s).length = true by rw [row_len S hr]; exact hl) (by rw [fl_row S hm, chars_row S hm]), (goodTs_iff _).2 fun x hx => ?_⟩
    obtain ⟨c, _, rfl⟩ := List.mem_map.mp hx
    trivial
  | list ys =>
    refine ge h ?_; clear h; intro hl h
    cases h
    exact ⟨gtI (by rw [mapTs_len]; exact hl) rfl, g⟩
  | range a b =>
    refine ge h ?_; clear h; intro hl h
    cases h
    rw [(rangeT_map _ _).1]
    exact ⟨gtI hl rfl, (rangeT_map (f := f) _ _).2⟩
  | dict ks vs =>
    refine ge h ?_; clear h; intro hl h
    cases h
    exact ⟨gtI (by rw [List.length_map]; exact hl) (by rw [map_str]), good_str _⟩
  | _ => exact nomatch h

theorem erase_map {α β : Type} (g : α → β) : ∀ (xs : List α) (j : Nat), (xs.map g).eraseIdx j = (xs.eraseIdx j).map g
  | [], _ => rfl
  | _ :: _, 0 => rfl
  | x :: xs, j + 1 => by simp [erase_map g xs j]
theorem mut_map {m : ME} {xs ts : List T} {r : List T × T} (h : mutT m xs ts = some r) (g : goodTs xs) (gt : goodTs ts) : mutT m (mapTs f xs) (mapTs f ts) = some (mapTs f r.1, mapT f r.2) ∧ goodTs r.1 ∧ goodT r.2 := by
  cases m with
  | append =>
    refine o1 h ?_; clear h; intro u e h
    refine ge h ?_; clear h; intro hl h
    cases h
    subst e
    refine ⟨gtI (by rw [mapTs_len]; exact hl) (by rw [mapTs_append]; rfl), goodTs_append g gt, trivial⟩
  | pop =>
    refine ge h ?_; clear h; intro hl h
    have hl' : lenOk (mapTs f xs).length = true := by rw [mapTs_len]; exact hl
    cases ts with
    | nil =>
      refine oe h ?_; clear h; intro u hu h
      cases h
      exact ⟨gtI hl' (obI (x := mapT f u) (by rw [mapTs_eq, List.getLast?_map, hu]; rfl) (by rw [mapTs_eq, mapTs_eq, List.map_dropLast])), (goodTs_iff _).2 fun x hx => (goodTs_iff xs).1 g x (List.dropLast_subset _ hx), (goodTs_iff xs).1 g _ (List.mem_of_getLast? hu)⟩
    | cons u us =>
      refine ge h ?_; clear h; intro e1 h
      refine oi h ?_; clear h; intro k e2 h
      refine oe h ?_; clear h; intro j hj h
      refine oe h ?_; clear h; intro t' hu h
      cases h
      obtain rfl := isE e1
      subst e2
      exact ⟨gtI hl' (obI (x := j) (by rw [mapTs_len]; exact hj) (obI (x := mapT f t') (by rw [get_mapTs, hu]; rfl) (by rw [mapTs_eq, mapTs_eq, erase_map]))), (goodTs_iff _).2 fun x hx => (goodTs_iff xs).1 g x (List.mem_of_mem_eraseIdx hx), good_get g hu⟩
  | _ => exact nomatch h
end
end MP
end

section -- MpSim
open PySem
namespace MP
section
variable (f : Nat → List Nat)
noncomputable def mapOp : Op → Op
  | .val t => .val (mapT f t)
  | .new t => .new (mapT f t)
  | .var i => .var i
noncomputable def mapSt (st : St) : St := st.map fun x => (x.1, mapT f x.2.1, x.2.2)
noncomputable def mapFl : Fl → Fl
  | .next => .next
  | .ret t => .ret (mapT f t)
end
noncomputable def goodOp : Op → Prop
  | .val t => goodT t
  | .new t => goodT t
  | .var _ => True
noncomputable def goodSt (st : St) : Prop := ∀ x ∈ st, goodT x.2.1
noncomputable def goodFl : Fl → Prop
  | .next => True
  | .ret t => goodT t

section
variable {f : Nat → List Nat}
theorem get_map : ∀ (st : St) (i : Nat), (mapSt f st).get i = (st.get i).map fun x => (mapT f x.1, x.2)
  | [], i => rfl
  | (j, t, b) :: r, i => by
    have ih := get_map r i
    simp only [mapSt, List.map_cons, St.get_nil, St.get_cons] at ih ⊢
    cases Nat.beq j i with
    | true => rfl
    | false => exact ih
theorem set_map : ∀ (st : St) (i : Nat) (t : T) (b : Bool), St.set (mapSt f st) i (mapT f t) b = mapSt f (St.set st i t b)
  | [], i, t, b => rfl
  | (j, u, c) :: r, i, t, b => by
    have ih := set_map r i t b
    simp only [mapSt, List.map_cons, St.set_nil, St.set_cons] at ih ⊢
    cases Nat.beq j i with
    | true => rfl
    | false => simp only [List.map_cons, ih]
theorem good_at : ∀ {st : St} {i : Nat} {p : T × Bool}, goodSt st → st.get i = some p → goodT p.1
  | [], i, p, _, e => nomatch e
  | (j, u) :: r, i, p, g, e => by
    rw [St.get_cons] at e
    cases q : Nat.beq j i with
    | true => rw [q] at e; cases e; exact g _ List.mem_cons_self
    | false => rw [q] at e; exact good_at (fun x hx => g x (List.mem_cons_of_mem _ hx)) e
theorem good_cons {j : Nat} {p : T × Bool} {r : St} (h : goodT p.1) (g : goodSt r) : goodSt ((j, p) :: r) := fun x hx => (List.mem_cons.mp hx).elim (fun e => by subst e; exact h) (g x)
theorem good_set : ∀ {st : St} {i : Nat} {t : T} {b : Bool}, goodSt st → goodT t → goodSt (st.set i t b)
  | [], i, t, b, g, k => good_cons k g
  | (j, u) :: r, i, t, b, g, k => by
    have h1 := g _ List.mem_cons_self
    have h2 : goodSt r := fun x hx => g x (List.mem_cons_of_mem _ hx)
    rw [St.set_cons]
    cases Nat.beq j i with
    | true => exact good_cons k h2
    | false => exact good_cons h1 (good_set h2 k)
theorem getM {st : St} {i : Nat} {p : T × Bool} (e : st.get i = some p) : (mapSt f st).get i = some (mapT f p.1, p.2) := by rw [get_map, e]; rfl
theorem peekM {st : St} {o : Op} {t : T} (g : goodSt st) (k : goodOp o) (e : peek st o = some t) : peek (mapSt f st) (mapOp f o) = some (mapT f t) ∧ goodT t := by
  cases o with
  | val u => cases e; exact ⟨rfl, k⟩
  | new u => cases e; exact ⟨rfl, k⟩
  | var i => exact oe e fun p h e => by cases e; exact ⟨obI (getM h) rfl, good_at g h⟩
theorem escM {st st' : St} {o : Op} {t : T} (g : goodSt st) (k : goodOp o) (e : esc st o = some (t, st')) : esc (mapSt f st) (mapOp f o) = some (mapT f t, mapSt f st') ∧ goodT t ∧ goodSt st' := by
  cases o with
  | val u => cases e; exact ⟨rfl, k, g⟩
  | new u => cases e; exact ⟨rfl, k, g⟩
  | var i =>
    refine oe e ?_; clear e; intro p h e
    have h1 := good_at g h
    have h2 := getM (f := f) h
    obtain ⟨u, b⟩ := p
    cases b with
    | true => cases e; exact ⟨obI h2 (by rw [← set_map]), h1, good_set g h1⟩
    | false => cases e; exact ⟨obI h2 rfl, h1, g⟩
noncomputable def goodOps (ops : List Op) : Prop := ∀ o ∈ ops, goodOp o
theorem goodOps_cons {o : Op} {r : List Op} (k : goodOps (o :: r)) : goodOp o ∧ goodOps r := ⟨k o List.mem_cons_self, fun x hx => k x (List.mem_cons_of_mem _ hx)⟩
theorem peeksM : ∀ {st : St} {ops : List Op} {ts : List T}, goodSt st → goodOps ops → peeks st ops = some ts → peeks (mapSt f st) (ops.map (mapOp f)) = some (mapTs f ts)
  | st, [], ts, g, k, e => by cases e; rfl
  | st, o :: r, ts, g, k, e => oe e fun t h1 e => oe e fun us h2 e => by
    cases e
    obtain ⟨k1, k2⟩ := goodOps_cons k
    exact obI (peekM g k1 h1).1 (obI (peeksM g k2 h2) rfl)
theorem escsM : ∀ {st st' : St} {ops : List Op} {ts : List T}, goodSt st → goodOps ops → escs st ops = some (ts, st') → escs (mapSt f st) (ops.map (mapOp f)) = some (mapTs f ts, mapSt f st') ∧ goodTs ts ∧ goodSt st'
  | st, st', [], ts, g, k, e => by cases e; exact ⟨rfl, trivial, g⟩
  | st, st', o :: r, ts, g, k, e => be e fun t st₁ h1 e => be e fun us st₂ h2 e => by
    cases e
    obtain ⟨k1, k2⟩ := goodOps_cons k
    obtain ⟨e0, g0, gs⟩ := escM (f := f) g k1 h1
    obtain ⟨e1, g1, gs1⟩ := escsM gs k2 h2
    exact ⟨bnI e0 (bnI e1 rfl), ⟨g0, g1⟩, gs1⟩
theorem setAllM {xs : List Nat} : ∀ {ts : List T} {st st' : St}, goodSt st → goodTs ts → setAll st xs ts = some st' → setAll (mapSt f st) xs (mapTs f ts) = some (mapSt f st') ∧ goodSt st' := by
  induction xs with
  | nil => exact fun g k e => ge e fun q e => by cases e; rw [isE q]; exact ⟨rfl, g⟩
  | cons x xs ih =>
      intro ts st st' g k e
      refine setAll_cons e ?_; clear e; intro t r q e
      subst q
      show setAll (St.set (mapSt f _) x (mapT f t) false) xs (mapTs f r) = _ ∧ _
      rw [set_map]
      exact ih (good_set g k.1) k.2 e
theorem bindTM {tg : Tg} {t : T} {st st' : St} (g : goodSt st) (k : goodT t) (e : bindT tg t st = some st') : bindT tg (mapT f t) (mapSt f st) = some (mapSt f st') ∧ goodSt st' := by
  cases tg with
  | name x => cases e; exact ⟨congrArg some (set_map st x t false), good_set g k⟩
  | tup xs => cases t with
    | list ts => exact setAllM g k e
    | tuple ts => exact setAllM g k e
    | _ => exact nomatch e
theorem fresh_map (tg : Tg) (st : St) : freshT tg (mapSt f st) = freshT tg st := by
  have h : freshX (mapSt f st) = freshX st := by
    funext x
    unfold freshX
    rw [get_map]
    cases st.get x <;> rfl
  cases tg with
  | name x => exact congrFun h x
  | tup xs => show xs.all (freshX _) = _; rw [h]; rfl
theorem captM : ∀ {cap : List Nat} {st inner st' : St}, goodSt st → capt st cap = some (inner, st') → capt (mapSt f st) cap = some (mapSt f inner, mapSt f st') ∧ goodSt inner ∧ goodSt st'
  | [], st, inner, st', g, e => by cases e; exact ⟨rfl, (fun x hx => nomatch hx), g⟩
  | x :: xs, st, inner, st', g, e => be e fun t st₁ h1 e => be e fun inner' st₂ h2 e => by
    cases e
    obtain ⟨e0, g0, gs⟩ := escM (f := f) (o := .var x) g trivial h1
    obtain ⟨e1, g1, gs1⟩ := captM gs h2
    exact ⟨bnI e0 (bnI e1 rfl), good_cons g0 g1, gs1⟩
theorem mapCatM {p q : T → Option (List T)} (h : ∀ t a, goodT t → p t = some a → q (mapT f t) = some (mapTs f a) ∧ goodTs a) : ∀ {items out : List T}, goodTs items → mapCat p items = some out → mapCat q (mapTs f items) = some (mapTs f out) ∧ goodTs out
  | [], out, g, e => by cases e; exact ⟨rfl, trivial⟩
  | t :: r, out, g, e => oe e fun a h1 e => oe e fun b h2 e => by
    cases e
    obtain ⟨e1, g1⟩ := h t a g.1 h1
    obtain ⟨e2, g2⟩ := mapCatM h g.2 h2
    exact ⟨obI e1 (obI e2 (by rw [mapTs_append])), goodTs_append g1 g2⟩
theorem kind_map (t : T) : kindT (mapT f t) = kindT t := by cases t <;> rfl
theorem peek_map (st : St) (o : Op) : peek (mapSt f st) (mapOp f o) = (peek st o).map (mapT f) := by
  cases o with
  | val t => rfl
  | new t => rfl
  | var i =>
    show ob ((mapSt f st).get i) _ = Option.map _ (ob (st.get i) _)
    rw [get_map]
    cases st.get i <;> rfl
theorem opKind_map (st : St) (o : Op) : opKind (mapSt f st) (mapOp f o) = opKind st o := by
  unfold opKind
  rw [peek_map]
  cases peek st o with
  | none => rfl
  | some t => exact kind_map t
theorem mkOp_map (r : T × Bool) : mapOp f (mkOp r.1 r.2) = mkOp (mapT f r.1) r.2 := by
  obtain ⟨t, b⟩ := r
  cases b <;> rfl
theorem mkOp_good {r : T × Bool} (g : goodT r.1) : goodOp (mkOp r.1 r.2) := by
  obtain ⟨t, b⟩ := r
  cases b <;> exact g
theorem low_map (o : Op) : mapOp f o.low = (mapOp f o).low := by cases o <;> rfl
theorem low_good {o : Op} (g : goodOp o) : goodOp o.low := by cases o <;> exact g
theorem ownM {st : St} {i : Nat} {t : T} (g : goodSt st) (h : own st i = some t) : own (mapSt f st) i = some (mapT f t) ∧ goodT t :=
  let e := own_e h; ⟨obI (getM e) rfl, good_at g e⟩
theorem shrM {st : St} {i : Nat} {t : T} (g : goodSt st) (h : shr st i = some t) : shr (mapSt f st) i = some (mapT f t) ∧ goodT t :=
  let e := shr_e h; ⟨obI (getM e) rfl, good_at g e⟩

noncomputable def FRel (f : Nat → List Nat) (F₁ F₂ : FTab) : Prop := ∀ g fP ts r, F₁ g = some fP → fP ts = some r → goodTs ts → ∃ fP', F₂ g = some fP' ∧ fP' (mapTs f ts) = some (mapT f r) ∧ goodT r

/-! one run goes over into the other -/
noncomputable def Go (f : Nat → List Nat) {α : Type} (m : α → α) (gd : α → Prop) (p q : Ev α) : Prop := ∀ st x st', goodSt st → p st = some (x, st') → q (mapSt f st) = some (m x, mapSt f st') ∧ gd x ∧ goodSt st'
noncomputable abbrev GoE (f : Nat → List Nat) (p q : Ev Op) : Prop := Go f (mapOp f) goodOp p q
noncomputable abbrev GoN (f : Nat → List Nat) (p q : Ev (List Op)) : Prop := Go f (List.map (mapOp f)) goodOps p q
noncomputable abbrev GoB (f : Nat → List Nat) (p q : Ev Bool) : Prop := Go f id (fun _ => True) p q
noncomputable abbrev GoO (f : Nat → List Nat) (p q : Ev (Option Int)) : Prop := Go f id (fun _ => True) p q
noncomputable abbrev GoS (f : Nat → List Nat) (p q : Ev Fl) : Prop := Go f (mapFl f) goodFl p q
noncomputable def GoI (f : Nat → List Nat) (p q : St → Option Bool) : Prop := ∀ st b, goodSt st → p st = some b → q (mapSt f st) = some b
noncomputable def GoG (f : Nat → List Nat) (p q : St → Option (List T)) : Prop := ∀ st ts, goodSt st → p st = some ts → q (mapSt f st) = some (mapTs f ts) ∧ goodTs ts
noncomputable def GoC (f : Nat → List Nat) (p q : Op → Ev Bool) : Prop := ∀ x, goodOp x → GoB f (p x) (q (mapOp f x))
noncomputable def GoBO (f : Nat → List Nat) (p q : Op → Ev Op) : Prop := ∀ x, goodOp x → GoE f (p x) (q (mapOp f x))

variable {p p' q q' : Ev Op} {l l' u u' : Ev (Option Int)} {ps ps' : Ev (List Op)} {F₁ F₂ : FTab}
/-- the result of an operation, an operand -/
theorem go_res {r : T × Bool} {st' : St} {o : Option (T × Bool)} (h : Mp f r o) (g : goodSt st') : ob o (fun r => some (mkOp r.1 r.2, mapSt f st')) = some (mapOp f (mkOp r.1 r.2), mapSt f st') ∧ goodOp (mkOp r.1 r.2) ∧ goodSt st' :=
  ⟨obI h.1 (by rw [mkOp_map]), mkOp_good h.2, g⟩
theorem go_var (x : Nat) : GoE f (evVar x) (evVar x) := fun st op st' g h => var_e h fun y e1 e2 e3 => by subst e2 e3; exact ⟨obI (getM e1) rfl, trivial, g⟩
theorem go_ev1 {k k' : T → Option (T × Bool)} (hp : GoE f p p') (hk : ∀ t r, goodT t → k t = some r → Mp f r (k' (mapT f t))) : GoE f (ev1 p k) (ev1 p' k') := fun st op st' g h => ev1_e h fun x t r h1 h2 h3 e => by
  subst e
  obtain ⟨e1, k1, g1⟩ := hp st x st' g h1
  obtain ⟨e2, g2⟩ := peekM (f := f) g1 k1 h2
  obtain ⟨e3, r3⟩ := go_res (hk t r g2 h3) g1
  exact ⟨bnI e1 (obI e2 e3), r3⟩
theorem go_ev2 {k k' : T → T → Option (T × Bool)} (hp : GoE f p p') (hq : GoE f q q') (hk : ∀ t u r, goodT t → goodT u → k t u = some r → Mp f r (k' (mapT f t) (mapT f u))) : GoE f (ev2 p q k) (ev2 p' q' k') := fun st op st' g h => ev2_e h fun x s y t u r h1 h2 h3 h4 h5 e => by
  subst e
  obtain ⟨e1, k1, g1⟩ := hp st x s g h1
  obtain ⟨e2, k2, g2⟩ := hq s y st' g1 h2
  obtain ⟨e3, g3⟩ := peekM (f := f) g2 k1 h3
  obtain ⟨e4, g4⟩ := peekM (f := f) g2 k2 h4
  obtain ⟨e5, r5⟩ := go_res (hk t u r g3 g4 h5) g2
  exact ⟨bnI e1 (bnI e2 (obI e3 (obI e4 e5))), r5⟩
theorem go_ev3 {k k' : T → Option Int → Option Int → Option (T × Bool)} (hp : GoE f p p') (hl : GoO f l l') (hu : GoO f u u') (hk : ∀ t a b r, goodT t → k t a b = some r → Mp f r (k' (mapT f t) a b)) : GoE f (ev3 p l u k) (ev3 p' l' u' k') := fun st op st' g h => ev3_e h fun x s lo s2 hi t r h1 h2 h3 h4 h5 e => by
  subst e
  obtain ⟨e1, k1, g1⟩ := hp st x s g h1
  obtain ⟨e2, _, g2⟩ := hl s lo s2 g1 h2
  obtain ⟨e3, _, g3⟩ := hu s2 hi st' g2 h3
  obtain ⟨e4, g4⟩ := peekM (f := f) g3 k1 h4
  obtain ⟨e5, r5⟩ := go_res (hk t lo hi r g4 h5) g3
  exact ⟨bnI e1 (bnI e2 (bnI e3 (obI e4 e5))), r5⟩
theorem go_evN {k k' : List T → Option (T × Bool)} (hp : GoN f ps ps') (hk : ∀ ts r, goodTs ts → k ts = some r → Mp f r (k' (mapTs f ts))) : GoE f (evN ps k) (evN ps' k') := fun st op st' g h => evN_e h fun ops s ts r h1 h2 h3 e => by
  subst e
  obtain ⟨e1, k1, g1⟩ := hp st ops s g h1
  obtain ⟨e2, k2, g2⟩ := escsM (f := f) g1 k1 h2
  obtain ⟨e3, r3⟩ := go_res (hk ts r k2 h3) g2
  exact ⟨bnI e1 (bnI e2 e3), r3⟩
theorem go_evP {k k' : List T → Option (T × Bool)} (hp : GoN f ps ps') (hk : ∀ ts r, k ts = some r → Mp f r (k' (mapTs f ts))) : GoE f (evP ps k) (evP ps' k') := fun st op st' g h => evP_e h fun ops ts r h1 h2 h3 e => by
  subst e
  obtain ⟨e1, k1, g1⟩ := hp st ops st' g h1
  obtain ⟨e3, r3⟩ := go_res (hk ts r h3) g1
  exact ⟨bnI e1 (obI (peeksM g1 k1 h2) e3), r3⟩
theorem go_evD (hp : GoE f p p') (hq : GoE f q q') : GoE f (evD gA p q) (evD gF p' q') := fun st op st' g h => evD_e h fun x s y s2 z t h1 h2 h3 h4 h5 e => by
  subst e
  obtain ⟨e1, k1, g1⟩ := hp st x s g h1
  obtain ⟨e2, k2, g2⟩ := hq s y s2 g1 h2
  obtain ⟨e3, _⟩ := peekM (f := f) g2 k1 h3
  obtain ⟨e4, k4, g4⟩ := escM (f := f) g2 k2 h4
  exact ⟨bnI e1 (bnI e2 (obI e3 (bnI e4 rfl))), ⟨by rw [List.all_cons, List.all_nil, Bool.and_true]; exact h5, k4, trivial⟩, g4⟩
theorem go_call (hF : FRel f F₁ F₂) (hp : GoE f p p') (hq : GoN f ps ps') : GoE f (evCall F₁ p ps) (evCall F₂ p' ps') := fun st op st' g h => evCall_e h fun fo s n ops s2 ts fP r h1 h2 h3 h4 h5 h6 e => by
  subst e
  obtain ⟨e1, k1, g1⟩ := hp st fo s g h1
  obtain ⟨e2, _⟩ := peekM (f := f) g1 k1 h2
  obtain ⟨e3, k3, g3⟩ := hq s ops s2 g1 h3
  obtain ⟨e4, k4, g4⟩ := escsM (f := f) g3 k3 h4
  obtain ⟨fP', e5, e6, k6⟩ := hF n fP ts r h5 h6 k4
  exact ⟨bnI e1 (obI (obI e2 rfl) (bnI e3 (bnI e4 (obI e5 (obI e6 rfl))))), k6, g4⟩
theorem doMethM (S : Sg f) {m : ME} {k : Nat} {x : Op} {ops : List Op} (gx : goodOp x) (go : goodOps ops) : GoE f (doMeth gA m k x ops) (doMeth gF m k (mapOp f x) (ops.map (mapOp f))) := fun st op st' g h => by
  unfold doMeth at h ⊢
  cases hm : isMut m with
  | true =>
    rw [hm] at h
    refine doMut_e h ?_; clear h; intro i ts s xs ys r e1 h3 h4 hk h5 e2 e3
    subst e1 e2 e3 hk
    obtain ⟨q1, k1, g1⟩ := escsM (f := f) g go h3
    obtain ⟨q3, k3, k4⟩ := mut_map (f := f) h5 (good_at g1 h4) k1
    exact ⟨bnI q1 (obI (x := .list (mapTs f xs)) (obI (getM h4) rfl) (obI (x := mapTs f xs) rfl (obI q3 (by rw [← set_map]; rfl)))), k4, good_set g1 k3⟩
  | false =>
    rw [hm] at h
    refine doPure_e h ?_; clear h; intro tx ts r h3 hk h4 h5 e2 e3
    subst e2 e3
    obtain ⟨q1, k1⟩ := peekM (f := f) g gx h3
    obtain ⟨q5, r5⟩ := go_res (meth_map S h5 k1) g
    exact ⟨obI q1 (gtI (by rw [kind_map, hk]; exact Nat.beq_refl _) (obI (peeksM g go h4) q5)), r5⟩
theorem go_meth (S : Sg f) {m : ME} (hp : GoE f p p') (hq : GoN f ps ps') : GoE f (evMeth gA m p ps) (evMeth gF m p' ps') := fun st op st' g h => be h fun x s h1 h => be h fun ops s2 h2 h => by
  obtain ⟨e1, k1, g1⟩ := hp st x s g h1
  obtain ⟨e2, k2, g2⟩ := hq s ops s2 g1 h2
  obtain ⟨e3, r3⟩ := doMethM S k1 k2 s2 op st' g2 h
  exact ⟨bnI e1 (bnI e2 (by rw [opKind_map]; exact e3)), r3⟩
theorem go_truth (hp : GoE f p p') : GoB f (fun st => bn (p st) (doTruth gA)) (fun st => bn (p' st) (doTruth gF)) := fun st b st' g h => be h fun x s h1 h => doTruth_e h fun t h2 h3 e => by
  subst e
  obtain ⟨e1, k1, g1⟩ := hp st x st' g h1
  exact ⟨bnI e1 (obI (peekM g1 k1 h2).1 (obI (truth_map h3) rfl)), trivial, g1⟩
theorem turnM {tg : Tg} {inner : St} {fi fi' : St → Option Bool} {r r' : St → Option (List T)} (hi : GoI f fi fi') (hr : GoG f r r') (g : goodSt inner) (t : T) (a : List T) (k : goodT t) (h : turn tg inner fi r t = some a) : turn tg (mapSt f inner) fi' r' (mapT f t) = some (mapTs f a) ∧ goodTs a :=
  oe h fun inn h1 h => oe h fun b h2 h => by
    obtain ⟨e1, g1⟩ := bindTM (f := f) g k h1
    cases b with
    | true => exact let ⟨e3, g3⟩ := hr inn a g1 h; ⟨obI e1 (obI (hi inn true g1 h2) e3), g3⟩
    | false => cases h; exact ⟨obI e1 (obI (hi inn false g1 h2) rfl), trivial⟩
theorem go_comp (S : Sg f) {tg : Tg} {cap : List Nat} {fi fi' : St → Option Bool} {r r' : St → Option (List T)} (hp : GoE f p p') (hi : GoI f fi fi') (hr : GoG f r r') : GoE f (evComp gA tg p fi r cap) (evComp gF tg p' fi' r' cap) := fun st op st' g h => be h fun x s h1 h => be h fun t s2 h2 h => oe h fun items h3 h => be h fun inner s3 h4 h => ge h fun h5 h => oe h fun out h6 h => ge h fun h7 h => by
  cases h
  obtain ⟨e1, k1, g1⟩ := hp st x s g h1
  obtain ⟨e2, k2, g2⟩ := escM (f := f) g1 k1 h2
  obtain ⟨e3, k3⟩ := items_map S h3 k2
  obtain ⟨e4, g4, g5⟩ := captM (f := f) g2 h4
  obtain ⟨e6, k6⟩ := mapCatM (turnM hi hr g4) k3 h6
  exact ⟨bnI e1 (bnI e2 (obI e3 (bnI e4 (gtI ((fresh_map tg inner).trans h5) (obI e6 (gtI (by rw [mapTs_len]; exact h7) rfl)))))), k6, g5⟩
theorem go_gc (S : Sg f) {tg : Tg} {fi fi' : St → Option Bool} {r r' : St → Option (List T)} (hp : GoE f p p') (hi : GoI f fi fi') (hr : GoG f r r') : GoG f (evGc gA tg p fi r) (evGc gF tg p' fi' r') := fun st out g h => be h fun x s h1 h => be h fun t s2 h2 h => oe h fun items h3 h => ge h fun h5 h => by
  obtain ⟨e1, k1, g1⟩ := hp st x s g h1
  obtain ⟨e2, k2, g2⟩ := escM (f := f) g1 k1 h2
  obtain ⟨e3, k3⟩ := items_map S h3 k2
  obtain ⟨e6, k6⟩ := mapCatM (turnM hi hr g) k3 h
  exact ⟨bnI e1 (bnI e2 (obI e3 (gtI ((fresh_map tg st).trans h5) e6))), k6⟩
theorem go_int (hp : GoE f p p') : GoO f (evInt p) (evInt p') := fun st lo st' g h => evInt_e h fun x i h1 h2 h3 e => by
  subst e
  obtain ⟨e1, k1, g1⟩ := hp st x st' g h1
  exact ⟨bnI e1 (obI (peekM g1 k1 h2).1 (gtI h3 rfl)), trivial, g1⟩
theorem go_link (S : Sg f) {o : CmpOp} {k k' : Op → Ev Bool} (hp : GoE f p p') (hk : GoC f k k') : GoC f (evLink gA o p · k) (evLink gF o p' · k') := fun x kx st c st' g h => evLink_e h fun y s t u b h1 h2 h3 h4 h => by
  obtain ⟨e1, k1, g1⟩ := hp st y s g h1
  obtain ⟨e2, k2⟩ := peekM (f := f) g1 kx h2
  obtain ⟨e3, k3⟩ := peekM (f := f) g1 k1 h3
  have e4 := cmp_map S h4 k2 k3
  rcases h with ⟨rfl, h⟩ | ⟨rfl, rfl, rfl⟩
  · obtain ⟨e5, r5⟩ := hk y.low (low_good k1) s c st' g1 h
    exact ⟨bnI e1 (obI e2 (obI e3 (obI e4 (by rw [low_map] at e5; exact e5)))), r5⟩
  · exact ⟨bnI e1 (obI e2 (obI e3 (obI e4 rfl))), trivial, g1⟩
theorem go_last (S : Sg f) {o : CmpOp} (hp : GoE f p p') : GoC f (evLast gA o p) (evLast gF o p') := fun x kx st c st' g h => evLast_e h fun y t u h1 h2 h3 h4 => by
  obtain ⟨e1, k1, g1⟩ := hp st y st' g h1
  obtain ⟨e2, k2⟩ := peekM (f := f) g1 kx h2
  obtain ⟨e3, k3⟩ := peekM (f := f) g1 k1 h3
  exact ⟨bnI e1 (obI e2 (obI e3 (obI (cmp_map S h4 k2 k3) rfl))), trivial, g1⟩
theorem go_on {i b : Bool} {k k' : Ev Bool} (hk : GoB f k k') : GoB f (goOn i b k) (goOn i b k') := fun st c st' g h => by
  unfold goOn at *
  cases q : b == i with
  | true => rw [q] at h; exact hk st c st' g h
  | false => rw [q] at h; cases h; exact ⟨rfl, trivial, g⟩
theorem go_bn {α β : Type} {m : α → α} {gd : α → Prop} {m' : β → β} {gd' : β → Prop} {p p' : Ev α} {k k' : α → Ev β} (hp : Go f m gd p p') (hk : ∀ x, gd x → Go f m' gd' (k x) (k' (m x))) : Go f m' gd' (fun st => bn (p st) k) (fun st => bn (p' st) k') := fun st y st' g h => be h fun x s h1 h =>
  let ⟨e1, k1, g1⟩ := hp st x s g h1
  let ⟨e2, r2⟩ := hk x k1 s y st' g1 h
  ⟨bnI e1 e2, r2⟩
end
end MP
end

section -- MpSim2
open PySem
namespace MP
section
variable {f : Nat → List Nat} {F₁ F₂ : FTab} {G : Nat → Option T}
theorem fl_dots (S : Sg f) : ∀ {s : List Nat}, s.all (· == 46) = true → fl f s = s
  | [], _ => rfl
  | c :: s, h => by
    rw [List.all_cons, Bool.and_eq_true] at h
    obtain rfl := eq_of_beq h.1
    rw [fl_cons, S.dot, fl_dots S h.2]
    rfl
theorem esN {p p' : Ev Op} {q q' : Ev (List Op)} (hp : GoE f p p') (hq : GoN f q q') : GoN f (fun st => bn (p st) fun x st₁ => bn (q st₁) fun xs st₂ => some (x.low :: xs, st₂)) (fun st => bn (p' st) fun x st₁ => bn (q' st₁) fun xs st₂ => some (x.low :: xs, st₂)) := fun st ops st' g h => be h fun x s h1 h => be h fun xs s2 h2 h => by
  cases h
  obtain ⟨e1, k1, g1⟩ := hp st x s g h1
  obtain ⟨e2, k2, g2⟩ := hq s xs st' g1 h2
  exact ⟨bnI e1 (bnI e2 (by rw [← low_map]; rfl)), fun o ho => (List.mem_cons.mp ho).elim (fun e => by rw [e]; exact low_good k1) (k2 o), g2⟩
theorem list_map (ts : List T) (r : T × Bool) (k : goodTs ts) (h : listT ts = some r) : Mp f r (listT (mapTs f ts)) := ge h fun hl h => by cases h; exact ⟨gtI (by rw [mapTs_len]; exact hl) rfl, k⟩
theorem tup_map (ts : List T) (r : T × Bool) (k : goodTs ts) (h : tupT ts = some r) : Mp f r (tupT (mapTs f ts)) := ge h fun hl h => by cases h; exact ⟨gtI (by rw [mapTs_len]; exact hl) rfl, k⟩
theorem bool_at {x : Op} {st : St} {t : T} {b : Bool} (g : goodSt st) (k : goodOp x) (h1 : peek st x = some t) (h2 : t = .bool b) : peek (mapSt f st) (mapOp f x) = some (.bool b) := by
  subst h2
  exact (peekM g k h1).1
theorem no_repl {p : Ev Op} {c : Nat} {z : List Nat} {st st' : St} {op : Op} {P : Prop} (h : ev1 p (replT gA c z) st = some (op, st')) : P := ev1_e h fun x t r _ _ h3 _ => os h3 fun s _ h3 => nomatch h3

variable (S : Sg f) (hF : FRel f F₁ F₂) (hG : ∀ g t, G g = some t → mapT f t = t ∧ goodT t)
include S hF hG
mutual
theorem sim_E : ∀ e : E, GoE f (evE gA F₁ G e) (evE gF F₂ G e)
  | .int i => fun st op st' g h => by cases h; exact ⟨rfl, trivial, g⟩
  | .str s => fun st op st' g h => ge h fun hl h => by cases h; exact ⟨congrArg (fun s => some (Op.val (.str s), mapSt f st)) (fl_dots S hl).symm, trivial, g⟩
  | .bool b => fun st op st' g h => by cases h; exact ⟨rfl, trivial, g⟩
  | .var x => fun st op st' g h => go_var x st op st' g h
  | .glob n => fun st op st' g h => oe h fun t e h => by
    cases h
    obtain ⟨e1, g1⟩ := hG n t e
    exact ⟨obI e (congrArg (fun t => some (Op.val t, mapSt f st)) e1.symm), g1, g⟩
  | .neg i => fun st op st' g h => by cases h; exact ⟨rfl, trivial, g⟩
  | .bin o a b => fun st op st' g h => go_ev2 (sim_E a) (sim_E b) (fun t u r kt ku h => bin_map S h kt ku) st op st' g h
  | .cmp a r => fun st op st' g h => be h fun b s h1 h => by
    cases h
    exact let ⟨e1, _, g1⟩ := go_bn (sim_E a) (sim_C r) st b st' g h1; ⟨bnI e1 rfl, trivial, g1⟩
  | .andor i a r => fun st op st' g h => go_bn (sim_E a) (sim_BO r i) st op st' g h
  | .ite c a b => fun st op st' g h => go_bn (sim_B c) (k := fun x st₁ => match x with | true => evE gA F₁ G a st₁ | false => evE gA F₁ G b st₁) (k' := fun x st₁ => match x with | true => evE gF F₂ G a st₁ | false => evE gF F₂ G b st₁) (fun x _ => match x with | true => sim_E a | false => sim_E b) st op st' g h
  | .sub a i => fun st op st' g h => go_ev2 (sim_E a) (sim_E i) (fun t u r kt _ h => sub_map S h kt) st op st' g h
  | .slc a lo hi => fun st op st' g h => go_ev3 (sim_E a) (sim_O lo) (sim_O hi) (fun t a b r kt h => slice_map S h kt) st op st' g h
  | .rev a => fun st op st' g h => go_ev1 (sim_E a) (fun t r kt h => rev_map h kt) st op st' g h
  | .list es => fun st op st' g h => go_evN (sim_Es es) list_map st op st' g h
  | .tup es => fun st op st' g h => go_evN (sim_Es es) tup_map st op st' g h
  | .dict0 => fun st op st' g h => by cases h; exact ⟨rfl, ⟨rfl, trivial⟩, g⟩
  | .dict1 k v => fun st op st' g h => go_evD (sim_E k) (sim_E v) st op st' g h
  | .call n args => fun st op st' g h => go_call hF (sim_E n) (sim_Es args) st op st' g h
  | .bi b args => fun st op st' g h => go_evP (sim_Es args) (fun ts r h => bi_map S h) st op st' g h
  | .meth m o args => fun st op st' g h => go_meth S (sim_E o) (sim_Es args) st op st' g h
  | .repl o c z => fun st op st' g h => no_repl h
  | .comp tg iter ifs rest cap => fun st op st' g h => go_comp S (sim_E iter) (sim_If ifs) (sim_G rest) st op st' g h
theorem sim_O : ∀ o : Oe, GoO f (evO gA F₁ G o) (evO gF F₂ G o)
  | .none => fun st lo st' g h => by cases h; exact ⟨rfl, trivial, g⟩
  | .some e => fun st lo st' g h => go_int (sim_E e) st lo st' g h
theorem sim_Es : ∀ es : Es, GoN f (evEs gA F₁ G es) (evEs gF F₂ G es)
  | .nil => fun st ops st' g h => by cases h; exact ⟨rfl, (fun o ho => nomatch ho), g⟩
  | .cons e es => fun st ops st' g h => esN (sim_E e) (sim_Es es) st ops st' g h
theorem sim_C : ∀ r : Cs, GoC f (evCs gA F₁ G r) (evCs gF F₂ G r)
  | .one op e => fun x kx st b st' g h => go_last S (sim_E e) x kx st b st' g h
  | .cons op e r => fun x kx st b st' g h => go_link S (sim_E e) (sim_C r) x kx st b st' g h
theorem sim_BO : ∀ (es : Es) (i : Bool), GoBO f (evBO gA F₁ G i es) (evBO gF F₂ G i es)
  | .nil, i => fun x kx st op st' g h => oe h fun t h1 h => oB h fun b h2 h => by
    cases h
    exact ⟨obI (bool_at g kx h1 h2) rfl, trivial, g⟩
  | .cons e r, i => fun x kx st op st' g h => oe h fun t h1 h => oB h fun b h2 h => by
    have e1 := bool_at (f := f) g kx h1 h2
    cases q : b == i with
    | true =>
      rw [q] at h
      obtain ⟨e2, r2⟩ := go_bn (sim_E e) (sim_BO r i) st op st' g h
      exact ⟨obI e1 (by show (match b == i with | true => _ | false => _) = _; rw [q]; exact e2), r2⟩
    | false =>
      rw [q] at h
      cases h
      exact ⟨obI e1 (by show (match b == i with | true => _ | false => _) = _; rw [q]; rfl), trivial, g⟩
theorem sim_B : ∀ e : E, GoB f (evB gA F₁ G e) (evB gF F₂ G e)
  | .cmp a r => fun st b st' g h => go_bn (sim_E a) (sim_C r) st b st' g h
  | .andor i a r => fun st b st' g h => go_bn (m' := id) (gd' := fun _ => True) (k := fun b st₁ => goOn i b (evBs gA F₁ G i r) st₁) (k' := fun b st₁ => goOn i b (evBs gF F₂ G i r) st₁) (sim_B a) (fun b _ => go_on (sim_Bs r i)) st b st' g h
  | .var x => fun st b st' g h => go_truth (go_var x) st b st' g h
  | .call n args => fun st b st' g h => go_truth (go_call hF (sim_E n) (sim_Es args)) st b st' g h
  | .meth m o args => fun st b st' g h => go_truth (go_meth S (sim_E o) (sim_Es args)) st b st' g h
  | .int _ => fun _ _ _ _ h => nomatch h
  | .str _ => fun _ _ _ _ h => nomatch h
  | .bool _ => fun _ _ _ _ h => nomatch h
  | .glob _ => fun _ _ _ _ h => nomatch h
  | .neg _ => fun _ _ _ _ h => nomatch h
  | .bin .. => fun _ _ _ _ h => nomatch h
  | .ite .. => fun _ _ _ _ h => nomatch h
  | .sub .. => fun _ _ _ _ h => nomatch h
  | .slc .. => fun _ _ _ _ h => nomatch h
  | .rev _ => fun _ _ _ _ h => nomatch h
  | .list _ => fun _ _ _ _ h => nomatch h
  | .tup _ => fun _ _ _ _ h => nomatch h
  | .dict0 => fun _ _ _ _ h => nomatch h
  | .dict1 .. => fun _ _ _ _ h => nomatch h
  | .bi .. => fun _ _ _ _ h => nomatch h
  | .repl .. => fun _ _ _ _ h => nomatch h
  | .comp .. => fun _ _ _ _ h => nomatch h
theorem sim_Bs : ∀ (es : Es) (i : Bool), GoB f (evBs gA F₁ G i es) (evBs gF F₂ G i es)
  | .nil, i => fun st b st' g h => by cases h; exact ⟨rfl, trivial, g⟩
  | .cons e r, i => fun st b st' g h => go_bn (m' := id) (gd' := fun _ => True) (k := fun b st₁ => goOn i b (evBs gA F₁ G i r) st₁) (k' := fun b st₁ => goOn i b (evBs gF F₂ G i r) st₁) (sim_B e) (fun b _ => go_on (sim_Bs r i)) st b st' g h
theorem sim_If : ∀ es : Es, GoI f (evIf gA F₁ G es) (evIf gF F₂ G es)
  | .nil => fun st b g h => h
  | .cons e .nil => fun st b g h => be h fun c s h1 h => by
    cases h
    exact bnI (sim_B e st b s g h1).1 rfl
  | .cons _ (.cons _ _) => fun st b g h => nomatch h
theorem sim_G : ∀ rest : Gs, GoG f (evG gA F₁ G rest) (evG gF F₂ G rest)
  | .nil e => fun st ts g h => be h fun x s h1 h => be h fun t s2 h2 h => by
    cases h
    obtain ⟨e1, k1, g1⟩ := sim_E e st x s g h1
    obtain ⟨e2, k2, g2⟩ := escM (f := f) g1 k1 h2
    exact ⟨bnI e1 (bnI e2 rfl), k2, trivial⟩
  | .cons tg iter ifs rest => fun st ts g h => go_gc S (sim_E iter) (sim_If ifs) (sim_G rest) st ts g h
end
end
end MP
end

section -- MpSim3
open PySem
namespace MP
section
variable {f : Nat → List Nat} {F₁ F₂ : FTab} {G : Nat → Option T}

theorem putS_map (S : Sg f) {k : List Nat} (hk : isRow k = true) (t : T) : ∀ {ks : List (List Nat)} {vs : List T}, ks.all isRow = true →
    putS (ks.map (fl f)) (mapTs f vs) (fl f k) (mapT f t) = ((putS ks vs k t).1.map (fl f), mapTs f (putS ks vs k t).2)
  | [], vs, _ => by cases vs <;> rfl
  | x :: ks, [], _ => rfl
  | x :: ks, v :: vs, h => by
    rw [List.all_cons, Bool.and_eq_true] at h
    have ih := putS_map S hk t (ks := ks) (vs := vs) h.2
    simp only [List.map_cons, mapTs, putS, sEq_row S h.1 hk, ih]
    cases sEq x k <;> rfl
theorem putS_good {k : List Nat} (hk : isRow k = true) {t : T} (g : goodT t) : ∀ {ks : List (List Nat)} {vs : List T}, ks.all isRow = true → goodTs vs →
    (putS ks vs k t).1.all isRow = true ∧ goodTs (putS ks vs k t).2
  | [], vs, _, _ => by cases vs <;> exact ⟨Bool.and_eq_true_iff.mpr ⟨hk, rfl⟩, g, trivial⟩
  | x :: ks, [], _, _ => ⟨Bool.and_eq_true_iff.mpr ⟨hk, rfl⟩, g, trivial⟩
  | x :: ks, v :: vs, h, gv => by
    obtain ⟨h1, h2⟩ := Bool.and_eq_true_iff.mp h
    obtain ⟨i1, i2⟩ := putS_good hk g h2 gv.2
    unfold putS
    cases sEq x k with
    | true => exact ⟨h, g, gv.2⟩
    | false => exact ⟨Bool.and_eq_true_iff.mpr ⟨h1, i1⟩, gv.1, i2⟩

/-! statements -/
variable {p p' i i' : Ev Op} {c c' : Ev Bool} {a a' b b' : Ev Fl}
theorem go_thn {o : Option (Fl × St)} {o' : Option (Fl × St)} {k k' : Ev Fl} (ho : ∀ fl s, o = some (fl, s) → o' = some (mapFl f fl, mapSt f s) ∧ goodFl fl ∧ goodSt s) (hk : GoS f k k') {fl : Fl} {st' : St} (h : thn o k = some (fl, st')) :
    thn o' k' = some (mapFl f fl, mapSt f st') ∧ goodFl fl ∧ goodSt st' := thn_e h (fun s h1 h2 => by
    obtain ⟨e1, _, g1⟩ := ho _ _ h1
    obtain ⟨e2, r2⟩ := hk s fl st' g1 h2
    exact ⟨bnI e1 e2, r2⟩) fun t h1 e => by
    subst e
    obtain ⟨e1, r1⟩ := ho _ _ h1
    exact ⟨bnI e1 rfl, r1⟩
theorem go_for (hb : GoS f b b') (x : Nat) : ∀ (items : List T), goodTs items → GoS f (evFor b x items) (evFor b' x (mapTs f items))
  | [], gi => fun st fl st' g h => by cases h; exact ⟨rfl, trivial, g⟩
  | t :: ts, gi => fun st fl st' g h => go_thn (k' := evFor b' x (mapTs f ts)) (fun fl s h1 => by
    rw [set_map]
    exact hb _ fl s (good_set g gi.1) h1) (go_for hb x ts gi.2) h
theorem go_while (hc : GoB f c c') (hb : GoS f b b') : ∀ n : Nat, GoS f (evWhile c b n) (evWhile c' b' n)
  | 0 => fun st fl st' g h => nomatch h
  | n + 1 => fun st fl st' g h => be h fun x s h1 h => by
    obtain ⟨e1, _, g1⟩ := hc st x s g h1
    cases x with
    | true => exact let ⟨e2, r2⟩ := go_thn (hb s · · g1 ·) (go_while hc hb n) h; ⟨bnI e1 e2, r2⟩
    | false => cases h; exact ⟨bnI e1 rfl, trivial, g1⟩
theorem go_asg (x : Nat) (o : Op) (k : goodOp o) : GoS f (asg x o) (asg x (mapOp f o)) := fun st fl st' g h => by
  cases o with
  | new t => cases h; exact ⟨by rw [← set_map]; rfl, trivial, good_set g k⟩
  | val t => cases h; exact ⟨by rw [← set_map]; rfl, trivial, good_set g k⟩
  | var i =>
      refine be h ?_; clear h; intro t s h1 h
      cases h
      obtain ⟨e1, k1, g1⟩ := escM (f := f) g k h1
      exact ⟨bnI e1 (by rw [← set_map]; rfl), trivial, good_set g1 k1⟩
theorem go_augS (S : Sg f) (x : Nat) (o : Operator) {t u : T} (kt : goodT t) (ku : goodT u) : GoS f (augS gA x o t u) (augS gF x o (mapT f t) (mapT f u)) := fun st fl st' g h => oe h fun r h1 h => ge h fun h2 h => by
  cases h
  obtain ⟨e1, k1⟩ := bin_map S h1 kt ku
  exact ⟨obI e1 (gtI h2 (by rw [← set_map]; rfl)), trivial, good_set g k1⟩
theorem go_augL (x : Nat) (o : Operator) {t u : T} (kt : goodT t) (ku : goodT u) : GoS f (augL x o t u) (augL x o (mapT f t) (mapT f u)) := fun st fl st' g h => ol h fun xs e1 h => ge h fun h1 h => ol h fun ys e2 h => ge h fun h2 h => by
  cases h
  subst e1 e2
  refine ⟨obI (x := mapTs f xs) rfl (gtI h1 (obI (x := mapTs f ys) rfl (gtI (by rw [mapTs_len, mapTs_len]; exact h2) ?_))), trivial, good_set (t := .list (xs ++ ys)) g (goodTs_append kt ku)⟩
  rw [← set_map]
  show some (Fl.next, St.set (mapSt f st) x (.list (mapTs f xs ++ mapTs f ys)) true) = some (Fl.next, St.set (mapSt f st) x (.list (mapTs f (xs ++ ys))) true)
  rw [mapTs_append]
theorem go_aug (S : Sg f) (x : Nat) (o : Operator) (hp : GoE f p p') : GoS f (evAug gA x o p) (evAug gF x o p') := fun st fl st' g h => be h fun _ _ h0 h => be h fun v s h1 h => oe h fun u h2 h => oe h fun q h3 h => by
  obtain ⟨e0, _, _⟩ := go_var x st _ _ g h0
  obtain ⟨e1, k1, g1⟩ := hp st v s g h1
  obtain ⟨e2, k2⟩ := peekM (f := f) g1 k1 h2
  have e3 := getM (f := f) h3
  have k3 := good_at g1 h3
  obtain ⟨t, b⟩ := q
  cases b with
  | true => exact let ⟨e4, r4⟩ := go_augL (f := f) x o k3 k2 s fl st' g1 h; ⟨bnI e0 (bnI e1 (obI e2 (obI e3 e4))), r4⟩
  | false => exact let ⟨e4, r4⟩ := go_augS S x o k3 k2 s fl st' g1 h; ⟨bnI e0 (bnI e1 (obI e2 (obI e3 e4))), r4⟩
theorem go_augc (S : Sg f) (x : Nat) (o : Operator) (hp : GoE f p p') : GoS f (evAugc gA x o p) (evAugc gF x o p') := fun st fl st' g h => be h fun _ _ h0 h => be h fun v s h1 h => oe h fun u h2 h => oe h fun t h3 h => by
  obtain ⟨e0, _, _⟩ := go_var x st _ _ g h0
  obtain ⟨e1, k1, g1⟩ := hp st v s g h1
  obtain ⟨e2, k2⟩ := peekM (f := f) g1 k1 h2
  obtain ⟨e3, k3⟩ := shrM (f := f) g1 h3
  obtain ⟨e4, r4⟩ := go_augS S x o k3 k2 s fl st' g1 h
  exact ⟨bnI e0 (bnI e1 (obI e2 (obI e3 e4))), r4⟩
theorem go_set (S : Sg f) (x : Nat) (hi : GoE f i i') (hp : GoE f p p') : GoS f (evSet gA x i p) (evSet gF x i' p') := fun st fl st' g h => be h fun v s h1 h => be h fun t s2 h2 h => be h fun _ _ h0 h => var_e h0 fun _ _ _ q => by
  subst q
  refine be h ?_; clear h; intro k s3 h3 h
  refine oe h ?_; clear h; intro kt h4 h
  refine os h ?_; clear h; intro z e4 h
  refine oe h ?_; clear h; intro d h5 h
  refine od h ?_; clear h; intro q e5 h
  refine ge h ?_; clear h; intro h6 h
  cases h
  subst e4 e5
  obtain ⟨h6, h7⟩ := Bool.and_eq_true_iff.mp h6
  obtain ⟨e1, k1, g1⟩ := hp st v s g h1
  obtain ⟨e2, k2, g2⟩ := escM (f := f) g1 k1 h2
  obtain ⟨e0, _, _⟩ := go_var x _ _ _ g2 h0
  obtain ⟨e3, k3, g3⟩ := hi _ k s3 g2 h3
  obtain ⟨e4, _⟩ := peekM (f := f) g3 k3 h4
  obtain ⟨e5, k5⟩ := ownM (f := f) g3 h5
  have e8 := putS_map S h7 t (vs := q.2) k5.1
  refine ⟨bnI e1 (bnI e2 (bnI e0 (bnI e3 (obI e4 (obI (x := fl f z) rfl (obI e5 (obI (x := (q.1.map (fl f), mapTs f q.2)) rfl (gtI (by rw [List.length_map, h6]; rfl) ?_)))))))), trivial, good_set (t := .dict _ _) g3 (putS_good h7 k2 k5.1 k5.2)⟩
  rw [← set_map, e8]; rfl
theorem go_augI (x : Nat) (hi : GoE f i i') (hp : GoE f p p') : GoS f (evAugI x i p) (evAugI x i' p') := fun st fl st' g h => be h fun _ _ h0 h => be h fun k s h1 h => oe h fun kt h2 h => oi h fun j e2 h => on h fun n en h => oe h fun d h3 h => ol h fun xs e3 h => ge h fun h4 h => oe h fun ot h5 h => oi h fun old e5 h => be h fun v s2 h6 h => oe h fun tv h7 h => oi h fun m e7 h => oe h fun d2 h8 h => ol h fun ys e8 h => ge h fun h9 h => by
  cases h
  subst e2 en e3 e5 e7 e8
  obtain ⟨e0, _, _⟩ := go_var x st _ _ g h0
  obtain ⟨e1, k1, g1⟩ := hi st k s g h1
  obtain ⟨e2, _⟩ := peekM (f := f) g1 k1 h2
  obtain ⟨e3, _⟩ := ownM (f := f) g1 h3
  obtain ⟨e6, k6, g6⟩ := hp s v s2 g1 h6
  obtain ⟨e7, _⟩ := peekM (f := f) g6 k6 h7
  obtain ⟨e8, k8⟩ := ownM (f := f) g6 h8
  refine ⟨bnI e0 (bnI e1 (obI e2 (obI (x := Int.ofNat n) rfl (obI (x := n) rfl (obI e3 (obI (x := mapTs f xs) rfl (gtI (by rw [mapTs_len]; exact h4) (obI (x := T.int old) (by rw [get_mapTs, h5]; rfl) (obI (x := old) rfl (bnI e6 (obI e7 (obI (x := m) rfl (obI e8 (obI (x := mapTs f ys) rfl (gtI (by rw [mapTs_len]; exact h9) ?_))))))))))))))), trivial, good_set (t := .list _) g6 ((goodTs_iff _).2 fun y hy => ?_)⟩
  · rw [← set_map]
    show _ = some (Fl.next, St.set (mapSt f s2) x (.list (mapTs f (ys.set n (.int (old + m))))) true)
    rw [mapTs_eq, mapTs_eq, List.map_set]; rfl
  · rcases List.mem_or_eq_of_mem_set hy with hy | hy
    · exact (goodTs_iff ys).1 k8 y hy
    · rw [hy]; trivial
theorem go_del (x : Nat) (hi : GoE f i i') : GoS f (evDel x i) (evDel x i') := fun st fl st' g h => be h fun _ _ h0 h => be h fun k s h1 h => oe h fun kt h2 h => oi h fun j e2 h => oe h fun d h3 h => ol h fun xs e3 h => ge h fun h4 h => oe h fun q h5 h => by
  cases h
  subst e2 e3
  obtain ⟨e0, _, _⟩ := go_var x st _ _ g h0
  obtain ⟨e1, k1, g1⟩ := hi st k s g h1
  obtain ⟨e2, _⟩ := peekM (f := f) g1 k1 h2
  obtain ⟨e3, k3⟩ := ownM (f := f) g1 h3
  refine ⟨bnI e0 (bnI e1 (obI e2 (obI (x := j) rfl (obI e3 (obI (x := mapTs f xs) rfl (gtI (by rw [mapTs_len]; exact h4) (obI (x := q) (by rw [mapTs_len]; exact h5) ?_))))))), trivial, good_set (t := .list _) g1 ((goodTs_iff _).2 fun y hy => (goodTs_iff xs).1 k3 y (List.mem_of_mem_eraseIdx hy))⟩
  rw [← set_map]
  show _ = some (Fl.next, St.set (mapSt f s) x (.list (mapTs f (xs.eraseIdx q))) true)
  rw [mapTs_eq, mapTs_eq, erase_map]

variable (S : Sg f) (hF : FRel f F₁ F₂) (hG : ∀ g t, G g = some t → mapT f t = t ∧ goodT t)
include S hF hG
mutual
theorem sim_S : ∀ s : MP.S, GoS f (evS gA F₁ G s) (evS gF F₂ G s)
  | .assign x e => fun st fl st' g h => go_bn (sim_E S hF hG e) (fun o k => go_asg x o k) st fl st' g h
  | .assignTup xs es => fun st fl st' g h => be h fun ops s h1 h => be h fun ts s2 h2 h => oe h fun s3 h3 h => by
    cases h
    obtain ⟨e1, k1, g1⟩ := sim_Es S hF hG es st ops s g h1
    obtain ⟨e2, k2, g2⟩ := escsM (f := f) g1 k1 h2
    obtain ⟨e3, g3⟩ := setAllM (f := f) g2 k2 h3
    exact ⟨bnI e1 (bnI e2 (obI e3 rfl)), trivial, g3⟩
  | .assignNew x y => fun st fl st' g h => by
    cases h
    refine ⟨?_, trivial, good_set (t := .list []) (good_set (t := .list []) g trivial) trivial⟩
    rw [← set_map, ← set_map]; rfl
  | .setItem x i e => fun st fl st' g h => go_set S x (sim_E S hF hG i) (sim_E S hF hG e) st fl st' g h
  | .aug x o e => fun st fl st' g h => go_aug S x o (sim_E S hF hG e) st fl st' g h
  | .augc x o e => fun st fl st' g h => go_augc S x o (sim_E S hF hG e) st fl st' g h
  | .augItem x i e => fun st fl st' g h => go_augI x (sim_E S hF hG i) (sim_E S hF hG e) st fl st' g h
  | .expr e => fun st fl st' g h => be h fun o s h1 h => by
    cases h
    exact let ⟨e1, _, g1⟩ := sim_E S hF hG e st o _ g h1; ⟨bnI e1 rfl, trivial, g1⟩
  | .iff c a b => fun st fl st' g h => be h fun x s h1 h => by
    obtain ⟨e1, _, g1⟩ := sim_B S hF hG c st x s g h1
    cases x with
    | true => exact let ⟨e2, r2⟩ := sim_Ss a s fl st' g1 h; ⟨bnI e1 e2, r2⟩
    | false => exact let ⟨e2, r2⟩ := sim_Ss b s fl st' g1 h; ⟨bnI e1 e2, r2⟩
  | .whil n c b => fun st fl st' g h => go_while (sim_B S hF hG c) (sim_Ss b) n st fl st' g h
  | .for x it b => fun st fl st' g h => be h fun o s h1 h => be h fun t s2 h2 h => oe h fun items h3 h => by
    obtain ⟨e1, k1, g1⟩ := sim_E S hF hG it st o s g h1
    obtain ⟨e2, k2, g2⟩ := escM (f := f) g1 k1 h2
    obtain ⟨e3, k3⟩ := items_map S h3 k2
    obtain ⟨e4, r4⟩ := go_for (sim_Ss b) x items k3 s2 fl st' g2 h
    exact ⟨bnI e1 (bnI e2 (obI e3 e4)), r4⟩
  | .ret e => fun st fl st' g h => be h fun o s h1 h => be h fun t s2 h2 h => by
    cases h
    obtain ⟨e1, k1, g1⟩ := sim_E S hF hG e st o s g h1
    obtain ⟨e2, k2, g2⟩ := escM (f := f) g1 k1 h2
    exact ⟨bnI e1 (bnI e2 rfl), k2, g2⟩
  | .del x i => fun st fl st' g h => go_del x (sim_E S hF hG i) st fl st' g h
  | .asrt e => fun st fl st' g h => be h fun b s h1 h => ge h fun h2 h => by
    cases h
    exact let ⟨e1, _, g1⟩ := sim_B S hF hG e st b _ g h1; ⟨bnI e1 (gtI h2 rfl), trivial, g1⟩
  | .tri b => fun st fl st' g h => sim_Ss b st fl st' g h
theorem sim_Ss : ∀ s : Ss, GoS f (evSs gA F₁ G s) (evSs gF F₂ G s)
  | .nil => fun st fl st' g h => by cases h; exact ⟨rfl, trivial, g⟩
  | .cons s r => fun st fl st' g h => go_thn (sim_S s st · · g ·) (sim_Ss r) h
end
theorem sim_fun {ps : List Nat} {body : Ss} {ts : List T} {t : T} (g : goodTs ts) (h : runF gA F₁ G ps body ts = some t) :
    runF gF F₂ G ps body (mapTs f ts) = some (mapT f t) ∧ goodT t := oe h fun st h1 h => be h fun fl s h2 h => by
  cases fl with
  | next => exact nomatch h
  | ret u =>
    cases h
    obtain ⟨e1, g1⟩ := setAllM (f := f) (st := []) (fun x hx => nomatch hx) g h1
    obtain ⟨e2, k2, g2⟩ := sim_Ss S hF hG body st _ s g1 h2
    exact ⟨obI e1 (bnI e2 rfl), k2⟩
end
end MP
end

section -- MpWalk
open PySem
namespace MP
/-! what the evaluator does at each form, by rfl -/
section
variable (g : Gd) (F : FTab) (G : Nat → Option T)
@[simp] theorem w_evE0 (i : Int) (st : St) : evE g F G (.int i) st = some (.val (.int i), st) := rfl
@[simp] theorem w_evE1 (s : List Nat) (st : St) : evE g F G (.str s) st = gt (g.lit s) (some (.val (.str s), st)) := rfl
@[simp] theorem w_evE2 (b : Bool) (st : St) : evE g F G (.bool b) st = some (.val (.bool b), st) := rfl
@[simp] theorem w_evE3 (x : Nat) (st : St) : evE g F G (.var x) st = evVar x st := rfl
@[simp] theorem w_evE4 (n : Nat) (st : St) : evE g F G (.glob n) st = ob (G n) fun t => some (.val t, st) := rfl
@[simp] theorem w_evE5 (i : Int) (st : St) : evE g F G (.neg i) st = some (.val (.int (-i)), st) := rfl
@[simp] theorem w_evE6 (o : Operator) (a : E) (b : E) (st : St) : evE g F G (.bin o a b) st = ev2 (evE g F G a) (evE g F G b) (binT g o) st := rfl
@[simp] theorem w_evE7 (a : E) (r : Cs) (st : St) : evE g F G (.cmp a r) st = bn (bn (evE g F G a st) (evCs g F G r)) fun b st₁ => some (.val (.bool b), st₁) := rfl
@[simp] theorem w_evE8 (isAnd : Bool) (a : E) (r : Es) (st : St) : evE g F G (.andor isAnd a r) st = bn (evE g F G a st) (evBO g F G isAnd r) := rfl
@[simp] theorem w_evE9 (c : E) (a : E) (b : E) (st : St) : evE g F G (.ite c a b) st = bn (evB g F G c st) fun x st₁ => match x with
    | true => evE g F G a st₁
    | false => evE g F G b st₁ := rfl
@[simp] theorem w_evE10 (a : E) (i : E) (st : St) : evE g F G (.sub a i) st = ev2 (evE g F G a) (evE g F G i) (subT g) st := rfl
@[simp] theorem w_evE11 (a : E) (lo : Oe) (hi : Oe) (st : St) : evE g F G (.slc a lo hi) st = ev3 (evE g F G a) (evO g F G lo) (evO g F G hi) (sliceT g) st := rfl
@[simp] theorem w_evE12 (a : E) (st : St) : evE g F G (.rev a) st = ev1 (evE g F G a) revT st := rfl
@[simp] theorem w_evE13 (es : Es) (st : St) : evE g F G (.list es) st = evN (evEs g F G es) listT st := rfl
@[simp] theorem w_evE14 (es : Es) (st : St) : evE g F G (.tup es) st = evN (evEs g F G es) tupT st := rfl
@[simp] theorem w_evE15 (st : St) : evE g F G .dict0 st = some (.new (.dict [] []), st) := rfl
@[simp] theorem w_evE16 (k : E) (v : E) (st : St) : evE g F G (.dict1 k v) st = evD g (evE g F G k) (evE g F G v) st := rfl
@[simp] theorem w_evE17 (f : E) (args : Es) (st : St) : evE g F G (.call f args) st = evCall F (evE g F G f) (evEs g F G args) st := rfl
@[simp] theorem w_evE18 (b : BI) (args : Es) (st : St) : evE g F G (.bi b args) st = evP (evEs g F G args) (biT g b) st := rfl
@[simp] theorem w_evE19 (m : ME) (o : E) (args : Es) (st : St) : evE g F G (.meth m o args) st = evMeth g m (evE g F G o) (evEs g F G args) st := rfl
@[simp] theorem w_evE20 (o : E) (c : Nat) (z : List Nat) (st : St) : evE g F G (.repl o c z) st = ev1 (evE g F G o) (replT g c z) st := rfl
@[simp] theorem w_evE21 (tg : Tg) (iter : E) (ifs : Es) (rest : Gs) (cap : List Nat) (st : St) : evE g F G (.comp tg iter ifs rest cap) st = evComp g tg (evE g F G iter) (evIf g F G ifs) (evG g F G rest) cap st := rfl
@[simp] theorem w_evO0 (st : St) : evO g F G .none st = some (none, st) := rfl
@[simp] theorem w_evO1 (e : E) (st : St) : evO g F G (.some e) st = evInt (evE g F G e) st := rfl
@[simp] theorem w_evEs0 (st : St) : evEs g F G .nil st = some ([], st) := rfl
@[simp] theorem w_evEs1 (e : E) (es : Es) (st : St) : evEs g F G (.cons e es) st = bn (evE g F G e st) fun x st₁ => bn (evEs g F G es st₁) fun xs st₂ => some (x.low :: xs, st₂) := rfl
@[simp] theorem w_evCs0 (op : CmpOp) (e : E) (x : Op) (st : St) : evCs g F G (.one op e) x st = evLast g op (evE g F G e) x st := rfl
@[simp] theorem w_evCs1 (op : CmpOp) (e : E) (r : Cs) (x : Op) (st : St) : evCs g F G (.cons op e r) x st = evLink g op (evE g F G e) x (evCs g F G r) st := rfl
@[simp] theorem w_evBO0 (isAnd : Bool) (x : Op) (st : St) : evBO g F G isAnd .nil x st = ob (peek st x) fun t => ob (asBool t) fun b => some (.val (.bool b), st) := rfl
@[simp] theorem w_evBO1 (isAnd : Bool) (e : E) (r : Es) (x : Op) (st : St) : evBO g F G isAnd (.cons e r) x st = ob (peek st x) fun t => ob (asBool t) fun b => match b == isAnd with
    | true => bn (evE g F G e st) (evBO g F G isAnd r)
    | false => some (.val (.bool b), st) := rfl
@[simp] theorem w_evB0 (a : E) (r : Cs) (st : St) : evB g F G (.cmp a r) st = bn (evE g F G a st) (evCs g F G r) := rfl
@[simp] theorem w_evB1 (isAnd : Bool) (a : E) (r : Es) (st : St) : evB g F G (.andor isAnd a r) st = bn (evB g F G a st) fun b st₁ => goOn isAnd b (evBs g F G isAnd r) st₁ := rfl
@[simp] theorem w_evB2 (x : Nat) (st : St) : evB g F G (.var x) st = bn (evVar x st) (doTruth g) := rfl
@[simp] theorem w_evB3 (f : E) (args : Es) (st : St) : evB g F G (.call f args) st = bn (evCall F (evE g F G f) (evEs g F G args) st) (doTruth g) := rfl
@[simp] theorem w_evB4 (m : ME) (o : E) (args : Es) (st : St) : evB g F G (.meth m o args) st = bn (evMeth g m (evE g F G o) (evEs g F G args) st) (doTruth g) := rfl
@[simp] theorem w_evBs0 (isAnd : Bool) (st : St) : evBs g F G isAnd .nil st = some (isAnd, st) := rfl
@[simp] theorem w_evBs1 (isAnd : Bool) (e : E) (r : Es) (st : St) : evBs g F G isAnd (.cons e r) st = bn (evB g F G e st) fun b st₁ => goOn isAnd b (evBs g F G isAnd r) st₁ := rfl
@[simp] theorem w_evIf0 (st : St) : evIf g F G .nil st = some true := rfl
@[simp] theorem w_evIf1 (e : E) (st : St) : evIf g F G (.cons e .nil) st = bn (evB g F G e st) fun b _ => some b := rfl
@[simp] theorem w_evG0 (elt : E) (st : St) : evG g F G (.nil elt) st = bn (evE g F G elt st) fun x st₁ => bn (esc st₁ x) fun t _ => some [t] := rfl
@[simp] theorem w_evG1 (tg : Tg) (iter : E) (ifs : Es) (rest : Gs) (st : St) : evG g F G (.cons tg iter ifs rest) st = evGc g tg (evE g F G iter) (evIf g F G ifs) (evG g F G rest) st := rfl
@[simp] theorem w_evS0 (x : Nat) (e : E) (st : St) : evS g F G (.assign x e) st = bn (evE g F G e st) (asg x) := rfl
@[simp] theorem w_evS1 (xs : List Nat) (es : Es) (st : St) : evS g F G (.assignTup xs es) st = bn (evEs g F G es st) fun ops st₁ => bn (escs st₁ ops) fun ts st₂ => ob (setAll st₂ xs ts) fun st₃ => some (.next, st₃) := rfl
@[simp] theorem w_evS2 (x : Nat) (y : Nat) (st : St) : evS g F G (.assignNew x y) st = some (.next, (st.set x (.list []) true).set y (.list []) true) := rfl
@[simp] theorem w_evS3 (x : Nat) (i : E) (e : E) (st : St) : evS g F G (.setItem x i e) st = evSet g x (evE g F G i) (evE g F G e) st := rfl
@[simp] theorem w_evS4 (x : Nat) (o : Operator) (e : E) (st : St) : evS g F G (.aug x o e) st = evAug g x o (evE g F G e) st := rfl
@[simp] theorem w_evS5 (x : Nat) (o : Operator) (e : E) (st : St) : evS g F G (.augc x o e) st = evAugc g x o (evE g F G e) st := rfl
@[simp] theorem w_evS6 (x : Nat) (i : E) (e : E) (st : St) : evS g F G (.augItem x i e) st = evAugI x (evE g F G i) (evE g F G e) st := rfl
@[simp] theorem w_evS7 (e : E) (st : St) : evS g F G (.expr e) st = bn (evE g F G e st) fun _ st₁ => some (.next, st₁) := rfl
@[simp] theorem w_evS8 (c : E) (a : Ss) (b : Ss) (st : St) : evS g F G (.iff c a b) st = evIff (evB g F G c) (evSs g F G a) (evSs g F G b) st := rfl
@[simp] theorem w_evS9 (n : Nat) (c : E) (b : Ss) (st : St) : evS g F G (.whil n c b) st = evWhile (evB g F G c) (evSs g F G b) n st := rfl
@[simp] theorem w_evS10 (x : Nat) (it : E) (b : Ss) (st : St) : evS g F G (.for x it b) st = evForE g x (evE g F G it) (evSs g F G b) st := rfl
@[simp] theorem w_evS11 (e : E) (st : St) : evS g F G (.ret e) st = bn (evE g F G e st) fun o st₁ => bn (esc st₁ o) fun t st₂ => some (.ret t, st₂) := rfl
@[simp] theorem w_evS12 (x : Nat) (i : E) (st : St) : evS g F G (.del x i) st = evDel x (evE g F G i) st := rfl
@[simp] theorem w_evS13 (e : E) (st : St) : evS g F G (.asrt e) st = bn (evB g F G e st) fun b st₁ => gt b (some (.next, st₁)) := rfl
@[simp] theorem w_evS14 (b : Ss) (st : St) : evS g F G (.tri b) st = evSs g F G b st := rfl
@[simp] theorem w_evSs0 (st : St) : evSs g F G .nil st = some (.next, st) := rfl
@[simp] theorem w_evSs1 (s : S) (r : Ss) (st : St) : evSs g F G (.cons s r) st = thn (evS g F G s st) (evSs g F G r) := rfl
@[simp] theorem w_evVar (x : Nat) (st : St) : evVar x st = ob (st.get x) fun _ => some (.var x, st) := rfl
@[simp] theorem w_ev1 (p : Ev Op) (f : T → Option (T × Bool)) (st : St) : ev1 p f st = bn (p st) fun x st₁ => ob (peek st₁ x) fun t => ob (f t) fun r => some (mkOp r.1 r.2, st₁) := rfl
@[simp] theorem w_ev2 (p q : Ev Op) (f : T → T → Option (T × Bool)) (st : St) : ev2 p q f st = bn (p st) fun x st₁ => bn (q st₁) fun y st₂ => ob (peek st₂ x) fun t => ob (peek st₂ y) fun u => ob (f t u) fun r => some (mkOp r.1 r.2, st₂) := rfl
@[simp] theorem w_ev3 (p : Ev Op) (l u : Ev (Option Int)) (f : T → Option Int → Option Int → Option (T × Bool)) (st : St) : ev3 p l u f st = bn (p st) fun x st₁ => bn (l st₁) fun lo st₂ => bn (u st₂) fun hi st₃ => ob (peek st₃ x) fun t => ob (f t lo hi) fun r => some (mkOp r.1 r.2, st₃) := rfl
@[simp] theorem w_evN (p : Ev (List Op)) (f : List T → Option (T × Bool)) (st : St) : evN p f st = bn (p st) fun ops st₁ => bn (escs st₁ ops) fun ts st₂ => ob (f ts) fun r => some (mkOp r.1 r.2, st₂) := rfl
@[simp] theorem w_evP (p : Ev (List Op)) (f : List T → Option (T × Bool)) (st : St) : evP p f st = bn (p st) fun ops st₁ => ob (peeks st₁ ops) fun ts => ob (f ts) fun r => some (mkOp r.1 r.2, st₁) := rfl
@[simp] theorem w_evD (p q : Ev Op) (st : St) : evD g p q st = bn (p st) fun x st₁ => bn (q st₁) fun y st₂ => ob (peek st₂ x) fun k => ob (asStr k) fun s => bn (esc st₂ y) fun t st₃ => gt (g.row s) (some (.new (.dict [s] [t]), st₃)) := rfl
@[simp] theorem w_evCall (F : FTab) (p : Ev Op) (q : Ev (List Op)) (st : St) : evCall F p q st = bn (p st) fun fo st₁ => ob (opFn st₁ fo) fun n => bn (q st₁) fun ops st₂ => doCall F n ops st₂ := rfl
@[simp] theorem w_evMeth (m : ME) (p : Ev Op) (q : Ev (List Op)) (st : St) : evMeth g m p q st = bn (p st) fun x st₁ => bn (q st₁) fun ops st₂ => doMeth g m (opKind st₁ x) x ops st₂ := rfl
@[simp] theorem w_evComp (tg : Tg) (p : Ev Op) (fi : St → Option Bool) (rest : St → Option (List T)) (cap : List Nat) (st : St) : evComp g tg p fi rest cap st = bn (p st) fun x st₁ => bn (esc st₁ x) fun t st₂ => ob (itemsT g t) fun items =>
  bn (capt st₂ cap) fun inner st₃ => gt (freshT tg inner) (ob (mapCat (turn tg inner fi rest) items) fun out => gt (lenOk out.length) (some (.new (.list out), st₃))) := rfl
@[simp] theorem w_evGc (tg : Tg) (p : Ev Op) (fi : St → Option Bool) (rest : St → Option (List T)) (st : St) : evGc g tg p fi rest st = bn (p st) fun x st₁ => bn (esc st₁ x) fun t _ => ob (itemsT g t) fun items =>
  gt (freshT tg st) (mapCat (turn tg st fi rest) items) := rfl
@[simp] theorem w_evInt (p : Ev Op) (st : St) : evInt p st = bn (p st) fun x st₁ => ob (peek st₁ x) fun t => ob (asInt t) fun i => gt (small i) (some (some i, st₁)) := rfl
@[simp] theorem w_evLink (op : CmpOp) (p : Ev Op) (x : Op) (k : Op → Ev Bool) (st : St) : evLink g op p x k st = bn (p st) fun y st₁ => ob (peek st₁ x) fun t => ob (peek st₁ y) fun u => ob (cmpT g op t u) fun b => match b with
  | true => k y.low st₁
  | false => some (false, st₁) := rfl
@[simp] theorem w_evLast (op : CmpOp) (p : Ev Op) (x : Op) (st : St) : evLast g op p x st = bn (p st) fun y st₁ => ob (peek st₁ x) fun t => ob (peek st₁ y) fun u => ob (cmpT g op t u) fun b => some (b, st₁) := rfl
@[simp] theorem w_goOn (isAnd : Bool) (b : Bool) (k : Ev Bool) (st : St) : goOn isAnd b k st = match b == isAnd with
  | true => k st
  | false => some (b, st) := rfl
@[simp] theorem w_augS (x : Nat) (o : Operator) (t tv : T) (st : St) : augS g x o t tv st = ob (binT g o t tv) fun r => gt (!r.2) (some (.next, st.set x r.1 false)) := rfl
@[simp] theorem w_augL (x : Nat) (o : Operator) (t tv : T) (st : St) : augL x o t tv st = ob (asList t) fun a => gt (isAdd o) (ob (asList tv) fun b => gt (lenOk (a.length + b.length)) (some (.next, st.set x (.list (a ++ b)) true))) := rfl
@[simp] theorem w_evAug (x : Nat) (o : Operator) (p : Ev Op) (st : St) : evAug g x o p st = bn (evVar x st) fun _ _ => bn (p st) fun v st₁ => ob (peek st₁ v) fun tv => ob (st₁.get x) fun q => match q.2 with
  | true => augL x o q.1 tv st₁
  | false => augS g x o q.1 tv st₁ := rfl
@[simp] theorem w_evAugc (x : Nat) (o : Operator) (p : Ev Op) (st : St) : evAugc g x o p st = bn (evVar x st) fun _ _ => bn (p st) fun v st₁ => ob (peek st₁ v) fun tv => ob (shr st₁ x) fun t => augS g x o t tv st₁ := rfl
@[simp] theorem w_evSet (x : Nat) (i p : Ev Op) (st : St) : evSet g x i p st = bn (p st) fun v st₁ => bn (esc st₁ v) fun t st₂ => bn (evVar x st₂) fun _ _ => bn (i st₂) fun k st₃ => ob (peek st₃ k) fun kt => ob (asStr kt) fun s =>
  ob (own st₃ x) fun d => ob (asDict d) fun q => gt (lenOk q.1.length && g.row s) (some (.next, st₃.set x (.dict (putS q.1 q.2 s t).1 (putS q.1 q.2 s t).2) true)) := rfl
@[simp] theorem w_evAugI (x : Nat) (i p : Ev Op) (st : St) : evAugI x i p st = bn (evVar x st) fun _ _ => bn (i st) fun k st₁ => ob (peek st₁ k) fun kt => ob (asInt kt) fun j => ob (nat? j) fun j =>
  ob (own st₁ x) fun d => ob (asList d) fun xs => gt (lenOk xs.length) (ob xs[j]? fun ot => ob (asInt ot) fun old =>
  bn (p st₁) fun v st₂ => ob (peek st₂ v) fun tv => ob (asInt tv) fun n => ob (own st₂ x) fun d => ob (asList d) fun ys => gt (Nat.blt j ys.length && lenOk ys.length) (some (.next, st₂.set x (.list (ys.set j (.int (old + n)))) true))) := rfl
@[simp] theorem w_evDel (x : Nat) (i : Ev Op) (st : St) : evDel x i st = bn (evVar x st) fun _ _ => bn (i st) fun k st₁ => ob (peek st₁ k) fun kt => ob (asInt kt) fun j =>
  ob (own st₁ x) fun d => ob (asList d) fun xs => gt (lenOk xs.length) (ob (place j xs.length) fun q => some (.next, st₁.set x (.list (xs.eraseIdx q)) true)) := rfl
@[simp] theorem w_evIff (c : Ev Bool) (a b : Ev Fl) (st : St) : evIff c a b st = bn (c st) fun x st₁ => match x with
  | true => a st₁
  | false => b st₁ := rfl
@[simp] theorem w_evForE (x : Nat) (p : Ev Op) (b : Ev Fl) (st : St) : evForE g x p b st = bn (p st) fun o st₁ => bn (esc st₁ o) fun t st₂ => ob (itemsT g t) fun items => evFor b x items st₂ := rfl
@[simp] theorem w_binT_int (o : Operator) (x y : Int) : binT g o (.int x) (.int y) = binI o x y := rfl
@[simp] theorem w_binT_bool (o : Operator) (x y : Bool) : binT g o (.bool x) (.bool y) = gt (isSub o) (some (.int (b2i' x - b2i' y), false)) := rfl
@[simp] theorem w_binT_str (o : Operator) (x y : List Nat) : binT g o (.str x) (.str y) = gt (isAdd o) (gt (g.len (x.length + y.length)) (some (.str (x ++ y), false))) := rfl
@[simp] theorem w_binT_list (o : Operator) (x y : List T) : binT g o (.list x) (.list y) = gt (isAdd o) (gt (lenOk (x.length + y.length)) (some (.list (x ++ y), true))) := rfl
@[simp] theorem w_isSub : isSub .Sub = true := rfl
@[simp] theorem w_isAdd : isAdd .Add = true := rfl
@[simp] theorem w_binI_add (a b : Int) : binI .Add a b = some (.int (a + b), false) := rfl
@[simp] theorem w_binI_sub (a b : Int) : binI .Sub a b = some (.int (a - b), false) := rfl
@[simp] theorem w_binI_mult (a b : Int) : binI .Mult a b = gt (small a && small b) (some (.int (a * b), false)) := rfl
@[simp] theorem w_binI_div (a b : Int) : binI .FloorDiv a b = gt (small a && small b && !decide (b = 0)) (some (.int (a.fdiv b), false)) := rfl
@[simp] theorem w_binI_mod (a b : Int) : binI .Mod a b = gt (!decide (b = 0)) (some (.int (a.fmod b), false)) := rfl
@[simp] theorem w_binI_pow (a b : Int) : binI .Pow a b = gt (decide (a = 10) && decide (b = 6)) (some (.int 1000000, false)) := rfl
@[simp] theorem w_eqT_int (x y : Int) : eqT g (.int x) (.int y) = some (decide (x = y)) := rfl
@[simp] theorem w_eqT_int_bool (x : Int) (y : Bool) : eqT g (.int x) (.bool y) = some (decide (x = b2i' y)) := rfl
@[simp] theorem w_eqT_str (x y : List Nat) : eqT g (.str x) (.str y) = gt (g.cmp x y) (some (sEq x y)) := rfl
@[simp] theorem w_eqT_bool (x y : Bool) : eqT g (.bool x) (.bool y) = some (x == y) := rfl
@[simp] theorem w_eqT_list (x y : List T) : eqT g (.list x) (.list y) = eqL x y := rfl
@[simp] theorem w_eqT_dict (ks ls : List (List Nat)) (vs ws : List T) : eqT g (.dict ks vs) (.dict ls ws) = dEqs ks vs ls ws := rfl
@[simp] theorem w_cmpT_eq (a b : T) : cmpT g .Eq a b = eqT g a b := rfl
@[simp] theorem w_cmpT_ne (a b : T) : cmpT g .NotEq a b = ob (eqT g a b) fun x => some (!x) := rfl
@[simp] theorem w_cmpT_lt (a b : T) : cmpT g .Lt a b = ltT g a b := rfl
@[simp] theorem w_cmpT_gt (a b : T) : cmpT g .Gt a b = ltT g b a := rfl
@[simp] theorem w_cmpT_ge (a b : T) : cmpT g .GtE a b = ob (asInt a) fun x => ob (asInt b) fun y => some (decide (y ≤ x)) := rfl
@[simp] theorem w_cmpT_in (a b : T) : cmpT g .In a b = inT g a b := rfl
@[simp] theorem w_cmpT_nin (a b : T) : cmpT g .NotIn a b = ob (asStr a) fun y => ob (asStr b) fun x => gt g.free (some (!sIn y x)) := rfl
@[simp] theorem w_cmpT_is (a b : T) : cmpT g .Is a b = isT a b := rfl
@[simp] theorem w_cmpT_isn (a b : T) : cmpT g .IsNot a b = ob (isT a b) fun x => some (!x) := rfl
@[simp] theorem w_ltT_int (x y : Int) : ltT g (.int x) (.int y) = some (decide (x < y)) := rfl
@[simp] theorem w_ltT_str (x y : List Nat) : ltT g (.str x) (.str y) = gt g.free (some (sLt x y)) := rfl
@[simp] theorem w_inT_str (x y : List Nat) : inT g (.str y) (.str x) = gt g.free (some (sIn y x)) := rfl
@[simp] theorem w_inT_bool (x : Bool) (y : List T) : inT g (.bool x) (.list y) = ob (toBools y) fun l => some (l.any (· == x)) := rfl
@[simp] theorem w_isT_bool (x y : Bool) : isT (.bool x) (.bool y) = some (x == y) := rfl
@[simp] theorem w_isT_int (x : Int) (y : Bool) : isT (.int x) (.bool y) = some false := rfl
@[simp] theorem w_truthT_bool (b : Bool) : truthT g (.bool b) = some b := rfl
@[simp] theorem w_truthT_str (s : List Nat) : truthT g (.str s) = gt (g.free && lenOk s.length) (some (!s.isEmpty)) := rfl
@[simp] theorem w_subT (a i : T) : subT g a i = ob (idxT g a i) fun t => some (t, false) := rfl
@[simp] theorem w_idxT_list (xs : List T) (i : T) : idxT g (.list xs) i = ob (asInt i) fun k => gt (lenOk xs.length) (ob (place k xs.length) fun j => xs[j]?) := rfl
@[simp] theorem w_idxT_str (s : List Nat) (i : T) : idxT g (.str s) i = ob (asInt i) fun k => gt (g.row s && lenOk s.length) (ob (nat? k) fun n => ob s[n]? fun c => some (.str [c])) := rfl
@[simp] theorem w_idxT_dict (ks : List (List Nat)) (vs : List T) (i : T) : idxT g (.dict ks vs) i = ob (asStr i) fun k => gt (g.row k) (lookS ks vs k) := rfl
@[simp] theorem w_sliceT_str (xs : List Nat) (lo hi : Option Int) : sliceT g (.str xs) lo hi = gt (g.row xs && lenOk xs.length) (ob (cutL xs lo hi) fun ys => some (.str ys, false)) := rfl
@[simp] theorem w_sliceT_list (xs : List T) (lo hi : Option Int) : sliceT g (.list xs) lo hi = gt (lenOk xs.length) (ob (cutL xs lo hi) fun ys => some (.list ys, true)) := rfl
@[simp] theorem w_lenT_list (xs : List T) : lenT g (.list xs) = gt (lenOk xs.length) (some (.int xs.length, false)) := rfl
@[simp] theorem w_lenT_str (s : List Nat) : lenT g (.str s) = gt (g.row s && lenOk s.length) (some (.int s.length, false)) := rfl
@[simp] theorem w_rangeB1 (a : Int) : rangeB [.int a] = gt (inRange a) (some (.range 0 a, false)) := rfl
@[simp] theorem w_rangeB2 (a b : Int) : rangeB [.int a, .int b] = gt (inRange a && inRange b) (some (.range a b, false)) := rfl
@[simp] theorem w_biT_range (ts : List T) : biT g .range ts = rangeB ts := rfl
@[simp] theorem w_biT_len (ts : List T) : biT g .len ts = ob (one? ts) (lenT g) := rfl
@[simp] theorem w_biT_chr (ts : List T) : biT g .chr ts = ob (one? ts) fun t => ob (asInt t) fun i => ob (nat? i) fun c => gt (g.free && Nat.ble c 55295) (some (.str [c], false)) := rfl
@[simp] theorem w_biT_list (ts : List T) : biT g .list ts = ob (one? ts) fun t => ob (asStr t) fun s => gt (g.free && Nat.ble s.length 1000) (some (.list (s.map fun c => .str [c]), true)) := rfl
@[simp] theorem w_biT_sorted (ts : List T) : biT g .sorted ts = ob (one? ts) fun t => ob (asList t) fun xs => sortT g xs := rfl
@[simp] theorem w_indexT_str (s : List Nat) (u : T) : indexT g (.str s) u = ob (asStr u) fun x => ob (one? x) fun c => gt (g.free && lenOk s.length) (ob (findC c s) fun n => some (.int n, false)) := rfl
@[simp] theorem w_methT_index (t : T) (ts : List T) : methT g .index t ts = ob (one? ts) fun u => indexT g t u := rfl
@[simp] theorem w_methT_get (t : T) (ts : List T) : methT g .get t ts = ob (two? ts) fun q => getT g t q.1 q.2 := rfl
@[simp] theorem w_methT_join (t : T) (ts : List T) : methT g .join t ts = ob (one? ts) fun u => joinT g t u := rfl
@[simp] theorem w_methT_split (t : T) (ts : List T) : methT g .split t ts = ob (one? ts) fun u => splitT g t u := rfl
@[simp] theorem w_methT_sw (t : T) (ts : List T) : methT g .startswith t ts = ob (one? ts) fun u => withT g Txt.startswith t u := rfl
@[simp] theorem w_methT_ew (t : T) (ts : List T) : methT g .endswith t ts = ob (one? ts) fun u => withT g Txt.endswith t u := rfl
@[simp] theorem w_methT_find (t : T) (ts : List T) : methT g .find t ts = ob (three? ts) fun q => findT g t q.1 q.2.1 q.2.2 := rfl
@[simp] theorem w_joinT_str (s : List Nat) (xs : List T) : joinT g (.str s) (.list xs) = ob (toStrs xs) fun l => gt (g.len (joinS s l).length && g.len (l.length * s.length)) (some (.str (joinS s l), false)) := rfl
@[simp] theorem w_splitT_str (s x : List Nat) : splitT g (.str s) (.str x) = gt (g.free && lenOk s.length && !x.isEmpty) (some (.list ((Txt.split (mkS s) (mkS x)).map fun x => .str x.cps.toList), true)) := rfl
@[simp] theorem w_withT_str (p : Str → Str → Bool) (s x : List Nat) : withT g p (.str s) (.str x) = gt g.free (some (.bool (p (mkS s) (mkS x)), false)) := rfl
@[simp] theorem w_findT_str (s x : List Nat) (i j : Int) : findT g (.str s) (.str x) (.int i) (.int j) = ob (nat? i) fun i => ob (nat? j) fun j => gt (g.free && Nat.ble j s.length) (some (.int (sFind s x i j), false)) := rfl
@[simp] theorem w_getT_str (ks : List (List Nat)) (vs : List T) (k : List Nat) (d : Int) : getT g (.dict ks vs) (.str k) (.int d) = gt (g.row k) (match lookS ks vs k with | some t => some (t, false) | none => some (.int d, false)) := rfl
@[simp] theorem w_replT_str (c : Nat) (z s : List Nat) : replT g c z (.str s) = gt (g.free && lenOk s.length && Nat.ble z.length 14 && !sEq [c] z) (some (.str (replC c z s), false)) := rfl
@[simp] theorem w_itemsT_list (xs : List T) : itemsT g (.list xs) = gt (lenOk xs.length) (some xs) := rfl
@[simp] theorem w_itemsT_str (s : List Nat) : itemsT g (.str s) = gt (g.row s && lenOk s.length) (some (charsT s)) := rfl
@[simp] theorem w_itemsT_range (a b : Int) : itemsT g (.range a b) = gt (inRange a && inRange b) (some (rangeT a (b - a).toNat)) := rfl
@[simp] theorem w_itemsT_dict (ks : List (List Nat)) (vs : List T) : itemsT g (.dict ks vs) = gt (lenOk ks.length) (some (ks.map .str)) := rfl
@[simp] theorem w_mutT_append (xs ts : List T) : mutT .append xs ts = ob (one? ts) fun t => gt (lenOk xs.length) (some (xs ++ [t], .none)) := rfl
@[simp] theorem w_mutT_pop0 (xs : List T) : mutT .pop xs [] = gt (lenOk xs.length) (ob xs.getLast? fun t => some (xs.dropLast, t)) := rfl
@[simp] theorem w_mutT_pop1 (xs : List T) (k : Int) : mutT .pop xs [.int k] = gt (lenOk xs.length) (ob (place k xs.length) fun j => ob xs[j]? fun t => some (xs.eraseIdx j, t)) := rfl
@[simp] theorem w_listT (ts : List T) : listT ts = gt (lenOk ts.length) (some (.list ts, true)) := rfl
@[simp] theorem w_tupT (ts : List T) : tupT ts = gt (lenOk ts.length) (some (.tuple ts, false)) := rfl
@[simp] theorem w_doCall (n : Nat) (ops : List Op) (st : St) : doCall F n ops st = bn (escs st ops) fun ts st₁ => ob (F n) fun fP => ob (fP ts) fun r => some (.val r, st₁) := rfl
@[simp] theorem w_opFn (st : St) (x : Op) : opFn st x = ob (peek st x) asFn := rfl
@[simp] theorem w_own (st : St) (i : Nat) : own st i = ob (st.get i) fun p => gt p.2 (some p.1) := rfl
@[simp] theorem w_shr (st : St) (i : Nat) : shr st i = ob (st.get i) fun p => gt (!p.2) (some p.1) := rfl
@[simp] theorem w_doMut (m : ME) (k i : Nat) (ops : List Op) (st : St) : doMut m k (.var i) ops st = bn (escs st ops) fun ts st₁ => ob (own st₁ i) fun t => ob (asList t) fun xs => gt (Nat.beq k 1) (ob (mutT m xs ts) fun r => some (.val r.2, st₁.set i (.list r.1) true)) := rfl
@[simp] theorem w_doPure (m : ME) (k : Nat) (x : Op) (ops : List Op) (st : St) : doPure g m k x ops st = ob (peek st x) fun tx => gt (Nat.beq k (kindT tx)) (ob (peeks st ops) fun ts => ob (methT g m tx ts) fun r => some (mkOp r.1 r.2, st)) := rfl
@[simp] theorem w_doTruth (x : Op) (st : St) : doTruth g x st = ob (peek st x) fun t => ob (truthT g t) fun b => some (b, st) := rfl
@[simp] theorem w_doMeth_pop (k : Nat) (x : Op) (ops : List Op) (st : St) : doMeth g .pop k x ops st = doMut .pop k x ops st := rfl
@[simp] theorem w_doMeth_append (k : Nat) (x : Op) (ops : List Op) (st : St) : doMeth g .append k x ops st = doMut .append k x ops st := rfl
@[simp] theorem w_doMeth_index (k : Nat) (x : Op) (ops : List Op) (st : St) : doMeth g .index k x ops st = doPure g .index k x ops st := rfl
@[simp] theorem w_doMeth_get (k : Nat) (x : Op) (ops : List Op) (st : St) : doMeth g .get k x ops st = doPure g .get k x ops st := rfl
@[simp] theorem w_doMeth_join (k : Nat) (x : Op) (ops : List Op) (st : St) : doMeth g .join k x ops st = doPure g .join k x ops st := rfl
@[simp] theorem w_doMeth_split (k : Nat) (x : Op) (ops : List Op) (st : St) : doMeth g .split k x ops st = doPure g .split k x ops st := rfl
@[simp] theorem w_doMeth_sw (k : Nat) (x : Op) (ops : List Op) (st : St) : doMeth g .startswith k x ops st = doPure g .startswith k x ops st := rfl
@[simp] theorem w_doMeth_ew (k : Nat) (x : Op) (ops : List Op) (st : St) : doMeth g .endswith k x ops st = doPure g .endswith k x ops st := rfl
@[simp] theorem w_doMeth_find (k : Nat) (x : Op) (ops : List Op) (st : St) : doMeth g .find k x ops st = doPure g .find k x ops st := rfl
@[simp] theorem w_kind_list (xs : List T) : kindT (.list xs) = 1 := rfl
@[simp] theorem w_kind_str (xs : List Nat) : kindT (.str xs) = 2 := rfl
@[simp] theorem w_kind_dict (ks : List (List Nat)) (vs : List T) : kindT (.dict ks vs) = 3 := rfl
@[simp] theorem w_peek_val (st : St) (t : T) : peek st (.val t) = some t := rfl
@[simp] theorem w_peek_new (st : St) (t : T) : peek st (.new t) = some t := rfl
@[simp] theorem w_peek_var (st : St) (i : Nat) : peek st (.var i) = ob (st.get i) fun p => some p.1 := rfl
@[simp] theorem w_esc_val (st : St) (t : T) : esc st (.val t) = some (t, st) := rfl
@[simp] theorem w_esc_new (st : St) (t : T) : esc st (.new t) = some (t, st) := rfl
@[simp] theorem w_esc_var (st : St) (i : Nat) : esc st (.var i) = ob (st.get i) fun p => match p.2 with | true => some (p.1, st.set i p.1 false) | false => some (p.1, st) := rfl
@[simp] theorem w_peeks0 (st : St) : peeks st [] = some [] := rfl
@[simp] theorem w_peeks1 (st : St) (o : Op) (r : List Op) : peeks st (o :: r) = ob (peek st o) fun t => ob (peeks st r) fun ts => some (t :: ts) := rfl
@[simp] theorem w_escs0 (st : St) : escs st [] = some ([], st) := rfl
@[simp] theorem w_escs1 (st : St) (o : Op) (r : List Op) : escs st (o :: r) = bn (esc st o) fun t st₁ => bn (escs st₁ r) fun ts st₂ => some (t :: ts, st₂) := rfl
@[simp] theorem w_low_val (t : T) : Op.low (.val t) = .val t := rfl
@[simp] theorem w_low_new (t : T) : Op.low (.new t) = .val t := rfl
@[simp] theorem w_low_var (i : Nat) : Op.low (.var i) = .var i := rfl
@[simp] theorem w_mk_true (t : T) : mkOp t true = .new t := rfl
@[simp] theorem w_mk_false (t : T) : mkOp t false = .val t := rfl
@[simp] theorem w_asg_new (x : Nat) (t : T) (st : St) : asg x (.new t) st = some (.next, st.set x t true) := rfl
@[simp] theorem w_asg_val (x : Nat) (t : T) (st : St) : asg x (.val t) st = some (.next, st.set x t false) := rfl
@[simp] theorem w_asg_var (x i : Nat) (st : St) : asg x (.var i) st = bn (esc st (.var i)) fun t st₁ => some (.next, st₁.set x t false) := rfl
@[simp] theorem w_setAll0 (st : St) : setAll st [] [] = some st := rfl
@[simp] theorem w_setAll1 (st : St) (x : Nat) (xs : List Nat) (t : T) (ts : List T) : setAll st (x :: xs) (t :: ts) = setAll (st.set x t false) xs ts := rfl
@[simp] theorem w_bindT_name (x : Nat) (t : T) (st : St) : bindT (.name x) t st = some (st.set x t false) := rfl
@[simp] theorem w_runF (ps : List Nat) (body : Ss) (ts : List T) : runF g F G ps body ts = ob (setAll [] ps ts) fun st => bn (evSs g F G body st) fun f _ => match f with | .ret t => some t | .next => none := rfl
end
end MP
end

section -- MpComp
open PySem PySem.W PyProof.Rows
namespace MP
noncomputable def emitL (elt : PySem.Expr) (acc : Value) (env : Env) : Sem Unit := do let _ ← call (.builtin "list.append") [acc, ← eval elt env]
noncomputable def emitN (iter : PySem.Expr) (e : PySem.Expr) (d : Nat) (acc : Value) (env : Env) : Sem Unit := do
  let x ← eval iter env
  standAt iter.pos
  let x ← foldedSetIterable iter env x
  let _ ← runOwn (.compStart e (d + 1) (← holding [x] (pyIter x)) acc env) env
noncomputable def turnD (iter target : PySem.Expr) (fs : List PySem.Expr) (emit : Sem Unit) (e : PySem.Expr) (d : Nat) (it acc : Value) (env : Env) : Sem Fin := do
      standAt iter.pos
      match ← pyNext it with
      | none => pure (.done .next)
      | some v =>
        letOwnedTupleGo target it v
        assign target env v
        let mut ok := true
        for c in fs do
          if ok then ok ← isTrue c env (eval c env)
        if ok then
          emit
        again (.compLoop e d it acc env)

theorem compTurn_last {elt : PySem.Expr} {gens : List Comprehension} {scope : Scope} {pos : Pos} {d : Nat} {target iter : PySem.Expr} {fs : List PySem.Expr} (hg : gens[d]? = some ⟨target, iter, fs, 0⟩) (hn : gens[d + 1]? = none) (it acc : Value) (env : Env) :
    compTurn (.ListComp elt gens scope pos) d it acc env = turnD iter target fs (emitL elt acc env) (.ListComp elt gens scope pos) d it acc env := by
  unfold compTurn turnD emitL
  simp only [hg, hn]
  rfl
theorem compTurn_more {elt : PySem.Expr} {gens : List Comprehension} {scope : Scope} {pos : Pos} {d : Nat} {target iter target' iter' : PySem.Expr} {fs fs' : List PySem.Expr} (hg : gens[d]? = some ⟨target, iter, fs, 0⟩) (hn : gens[d + 1]? = some ⟨target', iter', fs', 0⟩) (it acc : Value) (env : Env) :
    compTurn (.ListComp elt gens scope pos) d it acc env = turnD iter target fs (emitN iter' (.ListComp elt gens scope pos) d acc env) (.ListComp elt gens scope pos) d it acc env := by
  unfold compTurn turnD emitN
  simp only [hg, hn]
  simp
  rfl

noncomputable def emit (gs : List Comprehension) (elt e : PySem.Expr) (d : Nat) (acc : Value) (env : Env) : Sem Unit :=
  match gs with
  | [] => emitL elt acc env
  | g :: _ => emitN g.iter e d acc env
noncomputable def Sync (gs : List Comprehension) : Prop := ∀ g ∈ gs, g.is_async = 0
theorem compTurn_emit {elt : PySem.Expr} {gens gs : List Comprehension} {scope : Scope} {pos : Pos} {d : Nat} {target iter : PySem.Expr} {fs : List PySem.Expr} (hg : gens.drop d = ⟨target, iter, fs, 0⟩ :: gs) (hz : Sync gs) (it acc : Value) (env : Env) :
    compTurn (.ListComp elt gens scope pos) d it acc env = turnD iter target fs (emit gs elt (.ListComp elt gens scope pos) d acc env) (.ListComp elt gens scope pos) d it acc env := by
  have h1 : gens[d]? = some ⟨target, iter, fs, 0⟩ := by
    have := congrArg (·[0]?) hg
    simpa using this
  have h2 : gens[d + 1]? = gs[0]? := by
    have := congrArg (·[1]?) hg
    simpa using this
  cases gs with
  | nil => exact compTurn_last h1 (by simpa using h2) it acc env
  | cons g gs =>
    have := hz g List.mem_cons_self
    obtain ⟨t', i', f', z⟩ := g
    dsimp only at this
    subst this
    exact compTurn_more h1 (by simpa using h2) it acc env

section
variable {M : Model} {A : Around} {Er : Value → Shared → Prop} {s : Shared}
theorem turnD_rule {iter target : PySem.Expr} {fs : List PySem.Expr} {em : Sem Unit} {e : PySem.Expr} {d : Nat} {it acc : Value} {env : Env} {Q : Fin → Shared → Prop}
    (h : wpAny M A (pyNext it) (fun r s₁ => match r with
      | none => Q (.done .next) s₁
      | some v => wpAny M A (letOwnedTupleGo target it v) (fun _ s₁' => wpAny M A (assign target env v) (fun _ s₂ =>
          wpAny M A (forIn fs true fun c r => if r = true then do let ok ← isTrue c env (eval c env); pure (ForInStep.yield ok) else pure (ForInStep.yield r)) (fun ok s₃ =>
            if ok = true then wpAny M A em (fun _ s₄ => Q (.again (.compLoop e d it acc env)) s₄) Er s₃ else Q (.again (.compLoop e d it acc env)) s₃) Er s₂) Er s₁') Er s₁) Er s) :
    wpAny M A (turnD iter target fs em e d it acc env) Q Er s := by
  unfold turnD
  refine wpAny_bind (wpAny_standAt (wpAny_bind (wpAny_mono h (fun r s₁ h₁ => ?_) fun _ _ h' => h')))
  cases r with
  | none => exact wpAny_pure h₁
  | some v =>
    refine wpAny_bind (wpAny_mono h₁ (fun _ s₁' h₁' => ?_) fun _ _ h' => h')
    refine wpAny_bind (wpAny_mono h₁' (fun _ s₂ h₂ => wpAny_bind (wpAny_mono h₂ (fun ok s₃ h₃ => ?_) fun _ _ h' => h')) fun _ _ h' => h')
    cases ok with
    | false => exact wpAny_pure h₃
    | true => exact wpAny_bind (wpAny_mono h₃ (fun _ s₄ h₄ => wpAny_pure h₄) fun _ _ h' => h')
end

theorem compStart_at {W : Wd} {A : Around} {R : Result → Shared → Prop} {s : Shared} {elt : PySem.Expr} {gens gs : List Comprehension} {scope : Scope} {pos : Pos} {d : Nat} {target iter : PySem.Expr} {fs : List PySem.Expr} {it acc : Value} {env : Env} (hg : gens.drop d = ⟨target, iter, fs, 0⟩ :: gs)
    (h0 : codeAny (model W.prog W.w) A (.compLoop (.ListComp elt gens scope pos) d it acc env) R s)
    (h : wpAny (model W.prog W.w) A (pyIter it) (fun it' s' => codeAny (model W.prog W.w) A (.compLoop (.ListComp elt gens scope pos) d it' acc env) R s')
      (notedBy (model W.prog W.w) A env fun x s' => R (.error x) s') s) :
    codeAny (model W.prog W.w) A (.compStart (.ListComp elt gens scope pos) d it acc env) R s := by
  have h1 : gens[d]? = some ⟨target, iter, fs, 0⟩ := by
    have := congrArg (·[0]?) hg
    simpa using this
  refine codeAny_of_tree ?_
  show wpAny _ A ((compStart (.ListComp elt gens scope pos) d it acc env).onRaise (fun x => do noteFrame x env; standAt theWindowsPlace)) _ _ s
  refine wpAny_notedAt ?_
  unfold compStart
  simp only [clausesOf, h1]
  show wpAny _ _ (ask >>= _) _ _ s
  refine wpAny_bind (wpAny_askSetting (wpAny_ite ?_))
  split
  · first
      | exact wpAny_bind (wpAny_pure (wpAny_pure (And.intro rfl h0)))
      | exact wpAny_pure (And.intro rfl h0)
  · first
      | exact wpAny_bind (wpAny_rule (wpAny_bind (wpAny_standAt (wpAny_bind (wpAny_mono h (fun it' s' h' => wpAny_pure (And.intro rfl h')) fun _ _ x => x)))))
      | (refine wpAny_bind (wpAny_rule ?_); show wpAny _ _ (standAt iter.pos >>= _) _ _ s; exact wpAny_bind (wpAny_standAt (wpAny_bind (wpAny_mono h (fun it' s' h' => wpAny_pure (And.intro rfl h')) fun _ _ x => x))))

/-! frames that own nothing -/
noncomputable def Flat (st : St) : Prop := ∀ i t, st.get i ≠ some (t, true)
noncomputable def PiF (sc : Sc) (env : Env) (a : Addr) : Prop := a = env.locals ∨ ∃ x, sc.lookup x = some .cell ∧ env.cells.lookup x = some a
noncomputable def OkF (H : Addr → Prop) (sc : Sc) (env : Env) (a : Addr) : Prop := ¬ PiF sc env a ∧ ¬ H a
noncomputable def cutV (vm : Nat → Option Value) (st : St) : Nat → Option Value := fun i => if (st.get i).isSome = true then vm i else none

section
variable {W : Wd} {H : Addr → Prop} {sc : Sc} {env : Env} {vm vm' : Nat → Option Value} {st st' : St} {h h' : Heap}
theorem piF_pv {a : Addr} (p : PiF sc env a) : Pv sc env vm st a := p.elim .inl fun q => .inr (.inl q)
theorem pv_flat (hf : Flat st) {a : Addr} : Pv sc env vm st a ↔ PiF sc env a := by
  refine ⟨fun p => ?_, piF_pv⟩
  rcases p with p | p | ⟨i, t, e, _⟩
  · exact .inl p
  · exact .inr p
  · exact absurd e (hf i t)
theorem ok_flat (hf : Flat st) : Ok H sc env vm st = OkF H sc env := by
  funext a
  unfold Ok OkF
  rw [show Pv sc env vm st a = PiF sc env a from propext (pv_flat hf)]
theorem ok_okF {a : Addr} (k : Ok H sc env vm st a) : OkF H sc env a := ⟨fun p => k.1 (piF_pv p), k.2⟩
theorem flat_nil : Flat [] := fun i t e => nomatch e
theorem flat_set (hf : Flat st) (i : Nat) (t : T) : Flat (st.set i t false) := fun j u e => by
  rw [St.get_set] at e
  split at e
  · exact nomatch e
  · exact hf j u e
theorem setAll_ind {p : St → Prop} (hs : ∀ st x t, p st → p (st.set x t false)) {xs : List Nat} : ∀ {ts : List T} {st st' : St}, p st → setAll st xs ts = some st' → p st' := by
  induction xs with
  | nil => exact fun k e => ge e fun _ e => Option.some.inj e ▸ k
  | cons x xs ih => exact fun k e => setAll_cons e fun t r _ e => ih (hs _ _ _ k) e
theorem bindT_ind {p : St → Prop} (hs : ∀ st x t, p st → p (st.set x t false)) {tg : Tg} {t : T} (k : p st) (e : bindT tg t st = some st') : p st' := by
  cases tg with
  | name x => cases e; exact hs _ _ _ k
  | tup xs => cases t with
    | list ts => exact setAll_ind hs k e
    | tuple ts => exact setAll_ind hs k e
    | _ => exact nomatch e
theorem flat_setAll {xs : List Nat} {ts : List T} (hf : Flat st) (e : setAll st xs ts = some st') : Flat st' := setAll_ind (p := Flat) (fun _ x t k => flat_set k x t) hf e
theorem flat_bind {tg : Tg} {t : T} (hf : Flat st) (e : bindT tg t st = some st') : Flat st' := bindT_ind (p := Flat) (fun _ x t k => flat_set k x t) hf e
theorem cutV_cut : cutV (cutV vm st) st = cutV vm st := by
  funext i
  unfold cutV
  split <;> rfl

/-- back to an earlier frame -/
theorem Rel.again (R : Rel W H sc env vm st h) (hf : Flat st) (R' : Rel W H sc env vm' st' h') (keep : ∀ a o, ¬ PiF sc env a → ¬ H a → h.get? a = some o → h'.get? a = some o)
    (hv : ∀ i, (st.get i).isSome = true → vm' i = vm i) : Rel W H sc env (cutV vm st) st h' := by
  have pv : ∀ {vm : Nat → Option Value} {a}, Pv sc env vm st a ↔ PiF sc env a := pv_flat hf
  have cut : ∀ i v, cutV vm st i = some v → vm' i = some v := fun i v e => by
    unfold cutV at e
    split at e
    · rename_i q; rw [hv i q]; exact e
    · first | exact nomatch e | cases e
  have tr : Tr (Ok H sc env vm st) h (Ok H sc env (cutV vm st) st) h' := fun a o k e => by
    have k' := ok_okF k
    exact ⟨⟨fun p => k'.1 (pv.1 p), k'.2⟩, keep a o k'.1 k'.2 e⟩
  refine ⟨R'.base, R'.kind, R'.glob, R'.blt, R'.kl, R'.kc, R'.kf, R'.kg, ?_, R'.cl, fun i v c e => R'.cv i v c (cut i v e), R'.apart, ?_, fun i t e => absurd e (hf i t), fun i j a t u e => absurd e (hf i t), fun a p => R.priv a (pv.2 (pv.1 p)), fun a k => ⟨(R'.hid a k).1, fun p => (R.hid a k).2 (pv.2 (pv.1 p))⟩⟩
  · obtain ⟨m, ns, q⟩ := R'.ns
    exact ⟨m, ns, fun i v e => q i v (cut i v e)⟩
  · intro i t b e
    obtain ⟨v, q, B, k⟩ := R.vals i t b e
    have hb : b = false := by cases b with
      | false => rfl
      | true => exact absurd e (hf i t)
    subst hb
    have r := rep_tr tr (⟨B, k rfl⟩ : Rep W (Ok H sc env vm st) h t v)
    refine ⟨v, ?_, r.1, fun _ => r.2⟩
    unfold cutV
    rw [e]
    exact q
end

section
variable (W : Wd) (F : FTab) (G : Nat → Option T) (n : Nat) (sc : Sc)

/-- the tests of a comprehension -/
noncomputable def SF (ifs : Es) (fs : List PySem.Expr) : Prop := ∀ (H : Addr → Prop) (env : Env) (vm : Nat → Option Value) (st : St) (b : Bool) (s : Shared) (A : Around) (Er : Value → Shared → Prop) (Q : Bool → Shared → Prop),
  Rel W H sc env vm st s.heap → Flat st → 1 ≤ s.toks → Fit n A → evIf gF F G ifs st = some b →
  (∀ s', Rel W H sc env (cutV vm st) st s'.heap → (∀ a o, ¬ PiF sc env a → s.heap.get? a = some o → s'.heap.get? a = some o) → Alike s s' → 1 ≤ s'.toks → Q b s') →
  wpAny (model W.prog W.w) A (forIn fs true fun c r => if r = true then do let ok ← isTrue c env (eval c env); pure (ForInStep.yield ok) else pure (ForInStep.yield r)) Q Er s

structure PostG (H : Addr → Prop) (env : Env) (vm : Nat → Option Value) (st : St) (D : Addr) (s : Shared) (outs : List T) (s' : Shared) (accv : List Value) : Prop where
  rel : Rel W H sc env (cutV vm st) st s'.heap
  plain : s'.heap.PlainList D accv.toArray
  reps : Reps W (OkF H sc env) s'.heap outs accv
  keep : ∀ a o, ¬ PiF sc env a → a ≠ D → s.heap.get? a = some o → s'.heap.get? a = some o
  alike : Alike s s'
  toks : 1 ≤ s'.toks

noncomputable def SG (rest : Gs) (gs : List Comprehension) (elt : PySem.Expr) : Prop := ∀ (gens : List Comprehension) (scope : Scope) (pos : Pos) (d : Nat), gens.drop (d + 1) = gs →
  ∀ (H : Addr → Prop) (env : Env) (vm : Nat → Option Value) (st : St) (D : Addr) (accv : List Value) (outs new : List T) (s : Shared) (A : Around) (Er : Value → Shared → Prop) (Q : Unit → Shared → Prop),
  Rel W H sc env vm st s.heap → Flat st → H D → W.hb.get? D = none → 1 ≤ s.toks → Fit n A → s.heap.PlainList D accv.toArray → Reps W (OkF H sc env) s.heap outs accv → evG gF F G rest st = some new → lenOk (outs.length + new.length) = true →
  (∀ s' accv', PostG W sc H env vm st D s (outs ++ new) s' accv' → Q () s') → wpAny (model W.prog W.w) A (emit gs elt (.ListComp elt gens scope pos) d (.ref D) env) Q Er s
end

section
variable {W : Wd} {F : FTab} {G : Nat → Option T} {n : Nat} {sc : Sc}

theorem f_nil {fs : List PySem.Expr} (hp : fs = []) : SF W F G n sc .nil fs := by
  subst hp
  intro H env vm st b s A Er Q R hf tk fit e hQ
  cases e
  exact wpAny_tests_nil (hQ s (R.again hf R (fun _ _ _ _ e => e) fun _ _ => rfl) (fun _ _ _ e => e) .refl tk)
theorem f_one {e : E} {p : PySem.Expr} (he : SB W F G n sc e p) : SF W F G n sc (.cons e .nil) [p] := by
  intro H env vm st b s A Er Q R hf tk fit h hQ
  refine be h ?_; clear h; intro b' st' h1 h
  cases h
  refine wpAny_tests_one (he _ _ _ _ _ _ _ _ _ _ R tk fit h1 fun s' P => ?_)
  have keep : ∀ a o, ¬ PiF sc env a → s.heap.get? a = some o → s'.heap.get? a = some o := fun a o k e => P.jn.stp.keep a o (fun p => k ((pv_flat hf).1 p)) e
  exact hQ s' (R.again hf P.rel (fun a o k _ e => keep a o k e) fun _ _ => rfl) keep P.jn.alike P.toks

theorem g_nil {e : E} {elt : PySem.Expr} (he : SE W F G n sc e elt) : SG W F G n sc (.nil e) [] elt := by
  intro gens scope pos d hg H env vm st D accv outs new s A Er Q R hf hD hb tk fit pl r h hlen hQ
  refine be h ?_; clear h; intro x st₁ h1 h
  refine be h ?_; clear h; intro t st₂ h2 h
  cases h
  show wpAny _ A (do let _ ← call (.builtin "list.append") [.ref D, ← eval elt env]) Q Er s
  refine wpAny_bind (he _ _ _ _ _ _ _ _ _ _ R tk fit h1 fun v s₁ P => ?_)
  obtain ⟨R₁, o₁⟩ := P.low
  obtain ⟨R₂, S₂, D₂, rt⟩ := esc_ok R₁ o₁ ((esc_low _ _).trans h2)
  have keep : ∀ a o, ¬ PiF sc env a → s.heap.get? a = some o → s₁.heap.get? a = some o := fun a o k e => (P.stp.trans S₂).keep a o (fun p => k ((pv_flat hf).1 p)) e
  have pl₁ : s₁.heap.PlainList D accv.toArray := Heap.PlainList.at'' pl fun o e => keep D o (fun p => (R.hid D hD).2 (piF_pv p)) e
  have hsz : accv.toArray.size ≤ 1048576 := by rw [List.size_toArray, ← reps_len r]; exact Nat.le_trans (Nat.le_add_right _ _) (lenOk_le hlen)
  refine wpAny_bind (wpAny_list_append_plain pl₁ (fun h' hp hs => wpAny_pure ?_) (by rw [sizeLine_v]; omega))
  have keep2 : ∀ c o, c ≠ D → s₁.heap.get? c = some o → h'.get? c = some o := fun c o n e => (hs.2 c n).trans e
  have R₄ := (R.again hf R₂ (fun a o k _ e => keep a o k e) fun _ _ => rfl).hidden hD (plainNoCell pl₁) keep2 (let ⟨n, e⟩ := hp; ⟨_, e⟩) hb
  refine hQ _ (accv ++ [v]) ⟨R₄, by simpa using hp, ?_, fun a o k nD e => keep2 a o nD (keep a o k e), ⟨P.alike.gens, P.alike.os⟩, P.toks⟩
  exact reps_append (reps_tr (fun a o k e => ⟨k, keep2 a o (fun q => k.2 (q ▸ hD)) (keep a o k.1 e)⟩) r) ⟨v, [], rfl, rep_tr (fun a o k e => ⟨ok_okF k, keep2 a o (fun q => (ok_okF k).2 (q ▸ hD)) e⟩) rt, rfl⟩

theorem bindT_tup {xs : List Nat} {t : T} {st st' : St} (e : bindT (.tup xs) t st = some st') : (∃ ts, t = .list ts) ∨ ∃ ts, t = .tuple ts := by
  cases t with
  | list ts => exact .inl ⟨_, rfl⟩
  | tuple ts => exact .inr ⟨_, rfl⟩
  | _ => exact nomatch e

/-- what one item gives -/
noncomputable def itemF (F : FTab) (G : Nat → Option T) (tg : Tg) (ifs : Es) (rest : Gs) (st : St) (it : T) : Option (List T) := turn tg st (evIf gF F G ifs) (evG gF F G rest) it

theorem mapCat_cons {f : T → Option (List T)} {t : T} {r : List T} {out : List T} (h : mapCat f (t :: r) = some out) : ∃ a b, f t = some a ∧ mapCat f r = some b ∧ out = a ++ b :=
  oe h fun a h1 h => oe h fun b h2 h => ⟨a, b, h1, h2, (Option.some.inj h).symm⟩

theorem bind_keeps {tg : Tg} {t : T} {st inn : St} (hb : bindT tg t st = some inn) (j : Nat) (hj : (st.get j).isSome = true) : (inn.get j).isSome = true :=
  bindT_ind (p := fun st => (st.get j).isSome = true) (fun st i t k => by
    rw [St.get_set]; split
    · rfl
    · exact k) hj hb

theorem let_ok {tg : Tg} {target : PySem.Expr} (ht : PTg W.nm sc tg target) {x : T} {v : Value} {A : Around} {I : Addr} {ok : Addr → Prop} {h : Heap} {s : Shared} {st inn : St} (B : Body W ok h x v) (hb : bindT tg x st = some inn) (hl : (∃ l j, s.heap.IsListIter I l j) ∨ Tops x) {Q : Unit → Shared → Prop} {Er : Value → Shared → Prop} (hq : Q () s) :
    wpAny (model W.prog W.w) A (letOwnedTupleGo target (.ref I) v) Q Er s := by
  cases tg with
  | name y =>
    obtain ⟨q, rfl, ht⟩ := ht
    exact wpAny_pure hq
  | tup xs =>
    obtain ⟨es, k, pos', rfl, ht⟩ := ht
    rcases hl with ⟨l, j, hli⟩ | ⟨h1, h2⟩
    · have : ∃ a, v = .ref a := by rcases bindT_tup hb with ⟨ts, rfl⟩ | ⟨ts, rfl⟩ <;> exact let ⟨a, _, e, _⟩ := B; ⟨a, e⟩
      obtain ⟨a, rfl⟩ := this
      exact wpAny_letOwnedTupleGo_listiter hli hq
    · rcases bindT_tup hb with ⟨ts, e⟩ | ⟨ts, e⟩
      · exact absurd e (h1 ts)
      · exact absurd e (h2 ts)

theorem loop_ok {gens gs : List Comprehension} {scope : Scope} {pos : Pos} {d : Nat} {elt target it : PySem.Expr} {fs : List PySem.Expr} {tg : Tg} {ifs : Es} {rest : Gs} (hg : gens.drop d = ⟨target, it, fs, 0⟩ :: gs) (hz : Sync gs)
    (ht : PTg W.nm sc tg target) (hfs : SF W F G n sc ifs fs) (hr : SG W F G n sc rest gs elt)
    {H : Addr → Prop} {env : Env} {vm : Nat → Option Value} {st : St} {I D : Addr} {accv : List Value} {outs items new : List T} {s : Shared} {A : Around} {R : Result → Shared → Prop} {fp : List Addr} {P : Nat → Value → Prop} {Sx : Nat → Heap → Prop} {h₀ : Heap}
    (R₀ : Rel W H sc env vm st s.heap) (hf : Flat st) (hfr : freshT tg st = true) (hI : H I) (hD : H D) (hID : I ≠ D) (bI : W.hb.get? I = none) (bD : W.hb.get? D = none) (tk : 1 ≤ s.toks) (fit : Fit n A)
    (It : Iter W A (OkF H sc env) h₀ I items fp P Sx) (st₀ : Sx 0 s.heap) (keep₀ : ∀ a o, OkF H sc env a → h₀.get? a = some o → s.heap.get? a = some o)
    (pl : s.heap.PlainList D accv.toArray) (r : Reps W (OkF H sc env) s.heap outs accv) (h : mapCat (itemF F G tg ifs rest st) items = some new) (hlen : lenOk (outs.length + new.length) = true)
    (hR : ∀ s' accv', Rel W (fun a => H a ∧ a ≠ I) sc env (cutV vm st) st s'.heap → s'.heap.PlainList D accv'.toArray → Reps W (OkF H sc env) s'.heap (outs ++ new) accv' → (∀ a o, ¬ PiF sc env a → a ≠ D → a ≠ I → s.heap.get? a = some o → s'.heap.get? a = some o) →
      Alike s s' → 1 ≤ s'.toks → R (.ok .next) s') :
    codeAny (model W.prog W.w) A (.compLoop (.ListComp elt gens scope pos) d (.ref I) (.ref D) env) R s := by
  have hgs : gens.drop (d + 1) = gs := by
    have := congrArg (List.drop 1) hg
    simpa [List.drop_drop] using this
  have npI : ¬ PiF sc env I := fun p => (R₀.hid I hI).2 (piF_pv p)
  have npD : ¬ PiF sc env D := fun p => (R₀.hid D hD).2 (piF_pv p)
  refine codeAny_loop rfl (fun k s' => ∃ i accv' done rem, k = items.length + 1 - i ∧ i ≤ items.length ∧ Sx i s'.heap ∧ Rel W H sc env (cutV vm st) st s'.heap ∧ s'.heap.PlainList D accv'.toArray ∧ Reps W (OkF H sc env) s'.heap (outs ++ done) accv' ∧
      mapCat (itemF F G tg ifs rest st) (items.drop i) = some rem ∧ new = done ++ rem ∧ (∀ a o, ¬ PiF sc env a → a ≠ D → a ≠ I → s.heap.get? a = some o → s'.heap.get? a = some o) ∧ Alike s s' ∧ 1 ≤ s'.toks) ?_ (items.length + 1)
    ⟨0, accv, [], new, rfl, Nat.zero_le _, st₀, R₀.again hf R₀ (fun _ _ _ _ e => e) fun _ _ => rfl, pl, by simpa using r, by simpa using h, rfl, fun _ _ _ _ _ e => e, .refl, tk⟩
  rintro k s₁ ⟨i, accv₁, done, rem, rfl, hi, hst, R₁, pl₁, r₁, hm, hnew, keep₁, al₁, tk₁⟩
  show wpAny _ A ((compTurn (.ListComp elt gens scope pos) d (.ref I) (.ref D) env).onRaise (fun x => do noteFrame x env; theTreesLotGoes x)) _ _ s₁
  refine wpAny_noted ?_
  rw [compTurn_emit hg hz]
  refine turnD_rule ?_
  have pvf : ∀ {vm : Nat → Option Value} {a}, Pv sc env vm st a ↔ PiF sc env a := pv_flat hf
  rcases Nat.lt_or_ge i items.length with hlt | hge
  · -- one more item
    have hdrop : items.drop i = items[i] :: items.drop (i + 1) := by simp [hlt]
    rw [hdrop] at hm
    obtain ⟨a₁, b₁, hm1, hm2, hrem⟩ := mapCat_cons hm
    refine wpAny_with_toks tk₁ (It.walks.item i s₁ _ _ hlt hst fun v h₁ tk₂ hPv hst₂ hk₂ htk₂ => ?_)
    dsimp only at htk₂ ⊢
    have kI : ∀ c o, c ≠ I → s₁.heap.get? c = some o → h₁.get? c = some o := fun c o nI e => hk₂ c o (by simpa using nI) e
    have R₂ : Rel W H sc env (cutV vm st) st h₁ := R₁.hidden hI (It.ncell i _ hst) kI (It.live _ _ hst₂ I (It.walks.sub I (List.mem_singleton.mpr rfl))) bI
    have rv : Rep W (OkF H sc env) h₁ items[i] v := rep_tr (fun a o k e => ⟨k, kI a o (fun q => k.2 (q ▸ hI)) (keep₁ a o k.1 (fun q => k.2 (q ▸ hD)) (fun q => k.2 (q ▸ hI)) (keep₀ a o k e))⟩) (It.vals i items[i] v hPv (by simp [hlt]))
    refine oe hm1 ?_; clear hm1; intro inn hbind hm1
    refine oe hm1 ?_; clear hm1; intro yes hif hm1
    refine let_ok ht (s := { s₁ with heap := h₁, toks := tk₂ }) rv.1 hbind (It.lets.imp (fun hl => hl _ _ hst₂) fun hl => hl items[i] (by simp)) ?_
    have rv' : Rep W (Ok H sc env (cutV vm st) st) h₁ items[i] v := by rw [ok_flat hf]; exact rv
    refine bind_ok (s := { s₁ with heap := h₁, toks := tk₂ }) ht fit.1 R₂ rv' hbind fun vm₃ s₃ P₃ hag => ?_
    have hfi : Flat inn := flat_bind hf hbind
    have keep₃ : ∀ a o, ¬ PiF sc env a → h₁.get? a = some o → s₃.heap.get? a = some o := fun a o k e => P₃.stp.keep a o (fun p => k (pvf.1 p)) e
    have tk₃ : 1 ≤ s₃.toks := Nat.le_trans htk₂ P₃.toks
    -- back to the turn's start
    have back : ∀ (s₄ : Shared) (vm₄ : Nat → Option Value) (accv₄ : List Value) (out : List T), Rel W H sc env vm₄ inn s₄.heap → (∀ j, (inn.get j).isSome = true → vm₄ j = vm₃ j) → (∀ a o, ¬ PiF sc env a → a ≠ D → s₃.heap.get? a = some o → s₄.heap.get? a = some o) →
        s₄.heap.PlainList D accv₄.toArray → Reps W (OkF H sc env) s₄.heap (outs ++ (done ++ out)) accv₄ → Alike s₃ s₄ → 1 ≤ s₄.toks → out = a₁ →
        ∃ m, m < items.length + 1 - i ∧ ∃ i accv' done rem, m = items.length + 1 - i ∧ i ≤ items.length ∧ Sx i s₄.heap ∧ Rel W H sc env (cutV vm st) st s₄.heap ∧ s₄.heap.PlainList D accv'.toArray ∧ Reps W (OkF H sc env) s₄.heap (outs ++ done) accv' ∧
          mapCat (itemF F G tg ifs rest st) (items.drop i) = some rem ∧ new = done ++ rem ∧ (∀ a o, ¬ PiF sc env a → a ≠ D → a ≠ I → s.heap.get? a = some o → s₄.heap.get? a = some o) ∧ Alike s s₄ ∧ 1 ≤ s₄.toks := by
      intro s₄ vm₄ accv₄ out R₄ hag₄ keep₄ pl₄ r₄ al₄ tk₄ hout
      subst hout
      refine ⟨items.length + 1 - (i + 1), by omega, i + 1, accv₄, done ++ out, b₁, rfl, hlt, ?_, ?_, pl₄, r₄, hm2, by rw [hnew, hrem, List.append_assoc], ?_, ?_, tk₄⟩
      · refine It.walks.frame _ h₁ _ hst₂ fun b hb o e => ?_
        rcases It.fpok b hb with rfl | ⟨k, _⟩
        · exact keep₄ b o npI hID (keep₃ b o npI e)
        · exact keep₄ b o k.1 (fun q => k.2 (q ▸ hD)) (keep₃ b o k.1 e)
      · have := R₂.again hf R₄ (fun a o k k2 e => keep₄ a o k (fun q => k2 (q ▸ hD)) (keep₃ a o k e)) fun j hj => ?_
        · rw [cutV_cut] at this; exact this
        · have hin : (inn.get j).isSome = true := by
            exact bind_keeps hbind j hj
          rw [hag₄ j hin, hag j hfr hj]
      · exact fun a o k nD nI e => keep₄ a o k nD (keep₃ a o k (kI a o nI (keep₁ a o k nD nI e)))
      · exact al₁.trans (Alike.trans (s₁ := { s₁ with heap := h₁, toks := tk₂ }) ⟨rfl, rfl⟩ (P₃.alike.trans al₄))
    have plF : s₃.heap.PlainList D accv₁.toArray := Heap.PlainList.at'' pl₁ fun o e => keep₃ D o npD (kI D o (Ne.symm hID) e)
    have rF : Reps W (OkF H sc env) s₃.heap (outs ++ done) accv₁ := reps_tr (fun a o k e => ⟨k, keep₃ a o k.1 (kI a o (fun q => k.2 (q ▸ hI)) e)⟩) r₁
    have hle := lenOk_le hlen
    refine hfs _ _ _ _ _ s₃ A _ _ P₃.rel hfi tk₃ fit hif fun s₄ R₄ keep₄ al₄ tk₄ => ?_
    have pl₄ : s₄.heap.PlainList D accv₁.toArray := Heap.PlainList.at'' plF fun o e => keep₄ D o npD e
    have r₄ : Reps W (OkF H sc env) s₄.heap (outs ++ done) accv₁ := reps_tr (fun a o k e => ⟨k, keep₄ a o k.1 e⟩) rF
    cases yes with
    | true =>
      refine hr gens scope pos d hgs H env (cutV vm₃ inn) inn D accv₁ (outs ++ done) a₁ s₄ A _ _ R₄ hfi hD bD tk₄ fit pl₄ r₄ hm1 (Nat.ble_eq_true_of_le ?_) fun s₅ accv₅ P₅ => ?_
      · have : new.length = done.length + (a₁.length + b₁.length) := by rw [hnew, hrem]; simp
        rw [List.length_append]
        omega
      · exact ⟨rfl, back s₅ _ accv₅ a₁ P₅.rel (fun j hj => (if_pos hj).trans (if_pos hj)) (fun a o k nD e => P₅.keep a o k nD (keep₄ a o k e)) P₅.plain (by rw [← List.append_assoc]; exact P₅.reps) (al₄.trans P₅.alike) P₅.toks rfl⟩
    | false =>
      cases hm1
      exact ⟨rfl, back s₄ _ accv₁ [] R₄ (fun j hj => if_pos hj) (fun a o k nD e => keep₄ a o k e) pl₄ (by rw [List.append_nil]; exact r₄) al₄ tk₄ rfl⟩
  · -- the end
    have hi' : i = items.length := by omega
    subst hi'
    have hrem : rem = [] := by
      rw [List.drop_length] at hm
      simpa [mapCat] using hm.symm
    subst hrem
    refine wpAny_with_toks tk₁ (It.walks.done s₁ _ _ hst fun h₁ tk₂ hk₂ htk₂ => ?_)
    dsimp only at htk₂ ⊢
    have kI : ∀ c o, c ≠ I → s₁.heap.get? c = some o → h₁.get? c = some o := fun c o nI e => hk₂ c o (by simpa using nI) e
    have R₂ : Rel W (fun a => H a ∧ a ≠ I) sc env (cutV vm st) st h₁ := R₁.hiddenTo hI (It.ncell _ _ hst) kI (fun a k => k.1) (fun k => absurd rfl k.2) bI
    rw [List.append_nil] at hnew
    subst hnew
    exact hR _ accv₁ R₂ (Heap.PlainList.at'' pl₁ fun o e => kI D o (Ne.symm hID) e) (reps_tr (fun a o k e => ⟨k, kI a o (fun q => k.2 (q ▸ hI)) e⟩) r₁) (fun a o k nD nI e => kI a o nI (keep₁ a o k nD nI e)) ⟨al₁.gens, al₁.os⟩ htk₂
end
end MP
end

section -- MpComp2
open PySem PySem.W PyProof.Rows
namespace MP
section
variable {W : Wd} {F : FTab} {G : Nat → Option T} {n : Nat} {sc : Sc}

theorem g_cons {tg : Tg} {iter : E} {ifs : Es} {rest : Gs} {target it elt : PySem.Expr} {fs : List PySem.Expr} {gs : List Comprehension} (hz : Sync gs) (ht : PTg W.nm sc tg target) (hfold : ∀ env x, foldedSetIterable it env x = pure x)
    (hi : SE W F G n sc iter it) (hfs : SF W F G n sc ifs fs) (hr : SG W F G n sc rest gs elt) : SG W F G n sc (.cons tg iter ifs rest) (⟨target, it, fs, 0⟩ :: gs) elt := by
  intro gens scope pos d hg H env vm st D accv outs new s A Er Q R hf hD hb tk fit pl r h hlen hQ
  refine be h ?_; clear h; intro x st₁ h1 h
  refine be h ?_; clear h; intro u st₂ h2 h
  refine oe h ?_; clear h; intro items h3 h
  refine ge h ?_; clear h; intro hfr h
  change mapCat (itemF F G tg ifs rest st) items = some new at h
  show wpAny _ A (do
    let x ← eval it env
    standAt it.pos
    let x ← foldedSetIterable it env x
    let _ ← runOwn (.compStart (.ListComp elt gens scope pos) (d + 1) (← holding [x] (pyIter x)) (.ref D) env) env) Q Er s
  refine wpAny_bind (hi _ _ _ _ _ _ _ _ _ _ R tk fit h1 fun v s₁ P => wpAny_bind (wpAny_standAt ?_))
  rw [hfold]
  refine wpAny_bind (wpAny_pure ?_)
  obtain ⟨R₁, o₁⟩ := P.low
  obtain ⟨R₂, S₂, D₂, rt⟩ := esc_ok R₁ o₁ ((esc_low _ _).trans h2)
  have S := P.stp.trans S₂
  have keep : ∀ a o, ¬ PiF sc env a → s.heap.get? a = some o → s₁.heap.get? a = some o := fun a o k e => S.keep a o (fun p => k ((pv_flat hf).1 p)) e
  have npD : ¬ PiF sc env D := fun p => (R.hid D hD).2 (piF_pv p)
  have R₃ := R.again hf R₂ (fun a o k _ e => keep a o k e) fun _ _ => rfl
  have pl₁ : s₁.heap.PlainList D accv.toArray := Heap.PlainList.at'' pl fun o e => keep D o npD e
  have hI : s₁.heap.get? s₁.heap.objs.size = none := get?_big (Nat.le_refl _)
  have hID : s₁.heap.objs.size ≠ D := fun q => by obtain ⟨_, e⟩ := pl₁; rw [← q, hI] at e; cases e
  have nHI : ¬ H s₁.heap.objs.size := fun k => by obtain ⟨⟨o, e⟩, _⟩ := R₃.hid _ k; rw [hI] at e; cases e
  have bI : W.hb.get? s₁.heap.objs.size = none := by
    cases e : W.hb.get? s₁.heap.objs.size with
    | none => rfl
    | some o => have := R₃.base _ o e; rw [hI] at this; cases this
  have trI : Tr (Ok H sc env vm st₂) s₁.heap (OkF (fun a => H a ∨ a = s₁.heap.objs.size) sc env) s₁.heap := fun a o k e =>
    ⟨⟨fun p => k.1 (piF_pv p), fun q => q.elim k.2 fun q => by subst q; rw [hI] at e; cases e⟩, e⟩
  refine wpAny_bind (wpAny_holding (iter_ok (ok := OkF (fun a => H a ∨ a = s₁.heap.objs.size) sc env) fit.1 h3 (rep_tr trI rt) fun o fp Px Sx It st₀ => ?_))
  have g : Grown s₁.heap (s₁.heap.push o) := .push o
  have hIo : ∃ o', (s₁.heap.push o).get? s₁.heap.objs.size = some o' := It.live 0 _ st₀ _ (It.walks.sub _ (List.mem_singleton.mpr rfl))
  have R₄ : Rel W (fun a => H a ∨ a = s₁.heap.objs.size) sc env (cutV vm st) st (s₁.heap.push o) := R₃.grow g fun a k => k.imp id fun e => by subst e; exact ⟨hI, hIo⟩
  have loop : codeAny (model W.prog W.w) A (.compLoop (.ListComp elt gens scope pos) (d + 1) (.ref s₁.heap.objs.size) (.ref D) env)
      (fun r s' => match r with | .ok f => wpAny (model W.prog W.w) A (pure ()) Q Er s' | .error e => cameBackBy (model W.prog W.w) A env Er e s') { s₁ with heap := s₁.heap.push o } := by
    refine loop_ok (gs := gs) (target := target) (it := it) (fs := fs) (s := { s₁ with heap := s₁.heap.push o }) hg hz ht hfs hr R₄ hf hfr (.inr rfl) (.inl hD) hID bI hb P.toks fit It st₀ (fun a o' k e => g.keep a o' e) (Heap.PlainList.at'' pl₁ fun o' e => g.keep D o' e)
      (reps_tr (fun a o' k e => ⟨⟨k.1, fun q => q.elim k.2 fun q => by subst q; have := keep _ o' k.1 e; rw [hI] at this; cases this⟩, g.keep a o' (keep a o' k.1 e)⟩) r) h hlen fun s' accv' R' pl' r' keep' al' tk' => wpAny_pure (hQ s' accv' ?_)
    rw [cutV_cut] at R'
    refine ⟨R'.unhide fun a k => ⟨.inl k, fun q => nHI (q ▸ k)⟩, pl', reps_tr (fun a o' k e => ⟨⟨k.1, fun q => k.2 (.inl q)⟩, e⟩) r', fun a o' k nD e => ?_, ⟨al'.gens.trans P.alike.gens, al'.os.trans P.alike.os⟩, tk'⟩
    have e1 := keep a o' k e
    exact keep' a o' k nD (fun q => by subst q; rw [hI] at e1; cases e1) (g.keep a o' e1)
  refine wpAny_bind (wpAny_runOwn (h := none) ?_)
  refine compStart_at (gs := gs) (target := target) (iter := it) (fs := fs) hg ?_ (It.walks.self 0 _ _ _ st₀ ?_)
  · exact codeAny_mono loop fun r s' hr => by cases r <;> exact hr
  · exact codeAny_mono loop fun r s' hr => by cases r <;> exact hr

/-! the frame of a comprehension -/
theorem nodup_lookup : ∀ {ns : Sc}, nodupB (ns.map (·.1)) = true → ∀ x k, (x, k) ∈ ns → ns.lookup x = some k
  | [], _, x, k, h => nomatch h
  | (y, j) :: r, hn, x, k, h => by
    simp only [List.map_cons, nodupB, Bool.and_eq_true, Bool.not_eq_true'] at hn
    rcases List.mem_cons.mp h with e | h'
    · cases e; exact lookup_cons_self _ _ _
    · have ne : x ≠ y := fun q => by
        subst q
        have := hn.1
        rw [List.any_eq_false] at this
        exact this x (List.mem_map.mpr ⟨(x, k), h', rfl⟩) (beq_self_eq_true x)
      rw [lookup_cons_ne _ _ ne]
      exact nodup_lookup hn.2 x k h'

structure Sub (nm : Nat → Str) (sc ns : Sc) (cap : List Nat) (kind : ScopeKind) : Prop where
  kind : kind = .function
  nodup : nodupB (ns.map (·.1)) = true
  free : ∀ x, (x, .free) ∈ ns → (sc.lookup x = some .cell ∨ sc.lookup x = some .free) ∧ ∃ i ∈ cap, nm i = x
  caps : ∀ i ∈ cap, ns.lookup (nm i) = some .free
theorem isC_of {sc : Sc} {x : Str} (h : isC sc x = true) : sc.lookup x = some .cell ∨ sc.lookup x = some .free := by
  unfold isC at h
  split at h <;> simp_all
theorem isF_of {sc : Sc} {x : Str} (h : isF sc x = true) : sc.lookup x = some .free := by
  unfold isF at h
  split at h <;> simp_all
theorem sub_of {nm : Nat → Str} {sc ns : Sc} {cap : List Nat} {kind : ScopeKind} (h : trSub nm sc ns cap kind = true) : Sub nm sc ns cap kind := by
  unfold trSub at h
  simp only [Bool.and_eq_true] at h
  obtain ⟨⟨⟨h1, h2⟩, h3⟩, h4⟩ := h
  refine ⟨eq_of_beq h1, h2, fun x hx => ?_, fun i hi => ?_⟩
  · have := (List.all_eq_true.mp h3) _ hx
    dsimp only at this
    rw [Bool.and_eq_true, List.any_eq_true] at this
    obtain ⟨q1, i, hi, e⟩ := this
    exact ⟨isC_of q1, i, hi, eq_of_beq e⟩
  · exact isF_of ((List.all_eq_true.mp h4) i hi)

theorem capt_ok {H : Addr → Prop} {env : Env} {vm : Nat → Option Value} {h : Heap} : ∀ {cap : List Nat} {st inner st' : St}, Rel W H sc env vm st h → capt st cap = some (inner, st') →
    Rel W H sc env vm st' h ∧ Stp (Pv sc env vm st) h (Pv sc env vm st') h ∧ Dom st st' ∧ Flat inner ∧ ∀ i t b, inner.get i = some (t, b) → i ∈ cap ∧ ∃ v, vm i = some v ∧ Rep W (Ok H sc env vm st') h t v
  | [], st, inner, st', R, e => by
    cases e
    exact ⟨R, .refl, .refl, flat_nil, fun i t b e => nomatch e⟩
  | x :: xs, st, inner, st', R, e => by
    refine be e ?_; clear e; intro t st₁ h1 e
    refine be e ?_; clear e; intro inner' st₂ h2 e
    cases e
    obtain ⟨⟨t', b'⟩, hx⟩ : ∃ y, st.get x = some y := oe h1 fun y e _ => ⟨y, e⟩
    obtain ⟨v, hv, _⟩ := R.vals x t' b' hx
    obtain ⟨R₁, S₁, D₁, r₁⟩ := esc_ok R (op := .var x) (v := v) ⟨hv, _, hx⟩ h1
    obtain ⟨R₂, S₂, D₂, f₂, c₂⟩ := capt_ok R₁ h2
    have key : ∀ i u b, St.get ((x, t, false) :: inner') i = some (u, b) → (i = x ∧ u = t ∧ b = false) ∨ inner'.get i = some (u, b) := fun i u b e => by
      rw [St.get_cons] at e
      cases q : Nat.beq x i with
      | true => rw [q] at e; cases e; exact .inl ⟨(Nat.eq_of_beq_eq_true q).symm, rfl, rfl⟩
      | false => rw [q] at e; exact .inr e
    refine ⟨R₂, S₁.trans S₂, D₁.trans D₂, fun i u e => ?_, fun i u b e => ?_⟩
    · rcases key i u true e with ⟨_, _, q⟩ | e
      · exact nomatch q
      · exact f₂ i u e
    · rcases key i u b e with ⟨rfl, rfl, _⟩ | e
      · exact ⟨List.mem_cons_self, v, hv, rep_tr (S₂.tr H) r₁⟩
      · exact let ⟨m1, m2⟩ := c₂ i u b e; ⟨List.mem_cons_of_mem _ m1, m2⟩

/-- the frame of a comprehension stands -/
theorem inner_rel {H Hin : Addr → Prop} {env : Env} {vm : Nat → Option Value} {st inner : St} {h h' : Heap} {scope : Scope} {cap : List Nat} {cells cl : List (Str × Addr)} {C : Addr}
    (R : Rel W H sc env vm st h) (hs : Sub W.nm sc scope.names cap scope.kind) (g : Grown h h') (hC : h.get? C = none) (nsC : ∃ m, h'.Ns C m)
    (hcl : ∀ x, ((x, .free) ∈ scope.names → cl.lookup x = env.cells.lookup x) ∧ ((x, .free) ∉ scope.names → cl.lookup x = none))
    (cs : CellsAt h' h.objs.size (fun x => (x, .cell) ∈ scope.names) cl cells) (hCc : ∀ x c, (x, .cell) ∈ scope.names → cells.lookup x = some c → c ≠ C)
    (hin : ∀ a, Hin a → (∃ o, h'.get? a = some o) ∧ a ≠ C ∧ ∀ x, (x, .cell) ∈ scope.names → cells.lookup x ≠ some a) (hin2 : ∀ a, Hin a → Pv sc env vm st a ∨ H a ∨ h.get? a = none)
    (hf : Flat inner) (hi : ∀ i t b, inner.get i = some (t, b) → i ∈ cap ∧ ∃ v, vm i = some v ∧ Rep W (Ok H sc env vm st) h t v) :
    Rel W Hin scope.names (compEnv scope cells C env) (cutV vm inner) inner h' := by
  have find : ∀ x k, scope.names.lookup x = some k → (x, k) ∈ scope.names := fun x k e => mem_of_lookup e
  have own : ∀ x c, (x, .cell) ∈ scope.names → cells.lookup x = some c → h.get? c = none ∧ h'.IsCell c none := fun x c hx e => by
    obtain ⟨h1, h2⟩ := cs.at' x c hx e
    exact ⟨get?_big h1, h2⟩
  have piN : ∀ a, PiF scope.names (compEnv scope cells C env) a → h.get? a = none := by
    rintro a (p | ⟨x, p, q⟩)
    · rw [p]; exact hC
    · exact (own x a (find x _ p) q).1
  have notc : ∀ x, scope.names.lookup x = some .free → (x, NameKind.cell) ∉ scope.names := fun x e q => by
    rw [nodup_lookup hs.nodup x _ q] at e; cases e
  have fre : ∀ x, scope.names.lookup x = some .free → ∃ c o, cells.lookup x = some c ∧ env.cells.lookup x = some c ∧ h.IsCell c o := fun x e => by
    have hm := find x _ e
    obtain ⟨c, o, e1, e2⟩ := R.cl x (hs.free x hm).1
    exact ⟨c, o, by rw [cs.other x (notc x e), (hcl x).1 hm, e1], e1, e2⟩
  have nf : ∀ i, (inner.get i).isSome = true → scope.names.lookup (W.nm i) = some .free := fun i hs' => by
    obtain ⟨⟨t, b⟩, e⟩ := Option.isSome_iff_exists.mp hs'
    exact hs.caps i (hi i t b e).1
  have tr : Tr (Ok H sc env vm st) h (OkF Hin scope.names (compEnv scope cells C env)) h' := fun a o k e =>
    ⟨⟨fun p => (by rw [piN a p] at e; cases e), fun q => (hin2 a q).elim k.1 fun q => q.elim k.2 fun q => (by rw [q] at e; cases e)⟩, g.keep a o e⟩
  have kindOf : ∀ x, (compEnv scope cells C env).kindOf x = (scope.names.lookup x).map fun k => if (k == .free && env.scope.kind == .function && env.kindOf x == some .cell) = true then .cell else k := fun x => relabel_lookup x
  refine ⟨fun b o e => g.keep b o (R.base b o e), hs.kind, R.glob, R.blt, fun x e => ?_, fun x e => ?_, fun x e => ?_, fun x e => ?_, ?_, ?_, ?_, ?_, ?_, fun i t e => absurd e (hf i t), fun i j a t u e => absurd e (hf i t), ?_, ?_⟩
  · rw [kindOf, e]; rfl
  · rw [kindOf, e]; rfl
  · rw [kindOf, e]
    simp only [Option.map_some]
    split
    · exact .inl rfl
    · exact .inr rfl
  · rw [kindOf, e]; rfl
  · obtain ⟨m, ns⟩ := nsC
    refine ⟨m, ns, fun i v e l => ?_⟩
    unfold cutV at e
    split at e
    · rename_i q; rw [nf i q] at l; cases l
    · first | exact nomatch e | cases e
  · rintro x (e | e)
    · obtain ⟨c, q⟩ := cs.has x (find x _ e)
      exact ⟨c, none, q, (own x c (find x _ e) q).2⟩
    · obtain ⟨c, o, e1, _, e2⟩ := fre x e
      exact ⟨c, o, e1, e2.keeps g.keep⟩
  · intro i v c e k l
    unfold cutV at e
    split at e
    · rename_i q
      have q' := nf i q
      obtain ⟨c', o, e1, e2, _⟩ := fre _ q'
      have l' : cells.lookup (W.nm i) = some c := l
      rw [e1] at l'; cases l'
      exact (R.cv i v c e (hs.free _ (find _ _ q')).1 e2).keeps g.keep
    · first | exact nomatch e | cases e
  · intro x y c hx hy e1 e2
    have e1 : cells.lookup x = some c := e1
    have e2 : cells.lookup y = some c := e2
    rcases hy with hy | hy
    · exact cs.apart x y c (find x _ hx) (find y _ hy) e1 e2
    · obtain ⟨c', o, q1, _, q3⟩ := fre y hy
      rw [e2] at q1; cases q1
      have := (own x c (find x _ hx) e1).1
      obtain ⟨oc, q, _⟩ := q3
      rw [this] at q; cases q
  · intro i t b e
    obtain ⟨_, v, hv, r⟩ := hi i t b e
    have r' := rep_tr tr r
    rw [← ok_flat (vm := cutV vm inner) hf] at r'
    refine ⟨v, ?_, r'.1, fun _ => r'.2⟩
    unfold cutV
    rw [e]
    exact hv
  · intro a p
    have := piN a ((pv_flat hf).1 p)
    cases e : W.hb.get? a with
    | none => rfl
    | some o => have := R.base a o e; rw [piN a ((pv_flat hf).1 p)] at this; cases this
  · intro a k
    obtain ⟨h1, h2, h3⟩ := hin a k
    refine ⟨h1, fun p => ?_⟩
    rcases (pv_flat hf).1 p with q | ⟨x, q1, q2⟩
    · exact h2 q
    · exact h3 x (find x _ q1) q2
end
end MP
end

section -- MpComp3
open PySem PySem.W PyProof.Rows
namespace MP
section
variable {W : Wd} {F : FTab} {G : Nat → Option T} {n : Nat} {sc : Sc}

structure CompEnd (W : Wd) (H : Addr → Prop) (sc : Sc) (env : Env) (vm : Nat → Option Value) (st st' : St) (out : List T) (s s' : Shared) (D C : Addr) : Prop where
  rel : Rel W (fun a => H a ∨ a = D ∨ a = C) sc env vm st' s'.heap
  body : Body W (Ok (fun a => H a ∨ a = D ∨ a = C) sc env vm st') s'.heap (.list out) (.ref D)
  nsC : ∃ m, s'.heap.Ns C m
  ne : D ≠ C
  newD : Pv sc env vm st D ∨ s.heap.get? D = none
  newC : Pv sc env vm st C ∨ s.heap.get? C = none
  bD : W.hb.get? D = none
  bC : W.hb.get? C = none
  nD : ¬ H D
  nC : ¬ H C
  cellD : ∀ c, ¬ s'.heap.IsCell D c
  jn : Jn sc env vm st s st' s'
  toks : 1 ≤ s'.toks

noncomputable def useK (M : Model) (A : Around) (Er : Value → Shared → Prop) (use : Option (Value → Sem Unit)) (Q : Value → Shared → Prop) (D C : Addr) (s' : Shared) : Prop :=
  match use with
  | none => ∀ h', Heap.SameBut C s'.heap h' → Q (.ref D) { s' with heap := h' }
  | some u => wpAny M A (u (.ref D)) (fun _ s'' => ∃ m, s''.heap.Ns C m ∧ ∀ h', Heap.SameBut C s''.heap h' → Q .none { s'' with heap := h' }) Er s'

theorem ns_nocell {h : Heap} {C : Addr} {m : Str → Option Value} (x : h.Ns C m) (c : Option Value) : ¬ h.IsCell C c := fun ⟨o, e1, e2⟩ => by
  obtain ⟨o', es, ep, q1, q2, _⟩ := x
  rw [q1] at e1; cases e1; rw [q2] at e2; cases e2

theorem comp_core {tg : Tg} {iter : E} {ifs : Es} {rest : Gs} {cap : List Nat} {target it elt : PySem.Expr} {fs : List PySem.Expr} {gs : List Comprehension} {scope : Scope} {pos p : Pos} (hs : Sub W.nm sc scope.names cap scope.kind) (hz : Sync gs)
    (ht : PTg W.nm scope.names tg target) (hfold : ∀ env x, foldedSetIterable it env x = pure x) (hi : SE W F G n sc iter it) (hfs : SF W F G n scope.names ifs fs) (hr : SG W F G n scope.names rest gs elt)
    {H : Addr → Prop} {env : Env} {vm : Nat → Option Value} {st st' : St} {op : Op} {s : Shared} {A : Around} {Er : Value → Shared → Prop} (R : Rel W H sc env vm st s.heap) (tk : 1 ≤ s.toks) (fit : Fit n A) (e : evE gF F G (.comp tg iter ifs rest cap) st = some (op, st')) :
    ∃ out, op = .new (.list out) ∧ ∀ (use : Option (Value → Sem Unit)) (Q : Value → Shared → Prop), (∀ s' D C, CompEnd W H sc env vm st st' out s s' D C → useK (model W.prog W.w) A Er use Q D C s') →
      wpAny (model W.prog W.w) A (comprehension (.ListComp elt (⟨target, it, fs, 0⟩ :: gs) scope pos) scope env p (newList []) false (eval it env) use) Q Er s := by
  refine be e ?_; clear e; intro x st₁ h1 e
  refine be e ?_; clear e; intro t st₂ h2 e
  refine oe e ?_; clear e; intro items h3 e
  refine be e ?_; clear e; intro inner st₃ h4 e
  refine ge e ?_; clear e; intro hfr e
  refine oe e ?_; clear e; intro out h5 e
  refine ge e ?_; clear e; intro hl e
  cases e
  change mapCat (itemF F G tg ifs rest inner) items = some out at h5
  refine ⟨out, rfl, fun use Q hK => ?_⟩
  have hcells : ∀ x, (x, .free) ∈ scope.names → ∃ c, env.cells.lookup x = some c := fun x hx => by
    obtain ⟨c, o, e, _⟩ := R.cl x (hs.free x hx).1
    exact ⟨c, e⟩
  obtain ⟨cl, hclos, hcl⟩ := closure_at (env := env) (scope := scope) hcells
  refine wpAny_comprehension_free rfl (hfold env) hclos hs.kind (fun x hx hx' => nodup_lookup hs.nodup x.1 _ (by rw [← hx']; exact hx)) ?_
  refine hi _ _ _ _ _ _ _ _ _ _ R tk fit h1 fun v s₁ P => ?_
  obtain ⟨R₁, o₁⟩ := P.low
  obtain ⟨R₂, S₂, D₂, rt⟩ := esc_ok R₁ o₁ ((esc_low _ _).trans h2)
  obtain ⟨R₃, S₃, D₃, fl, hc⟩ := capt_ok R₂ h4
  have rt₃ := rep_tr (S₃.tr H) rt
  refine iter_ok fit.1 h3 rt₃ fun o fp Px Sx It st₀ => ?_
  refine wpAny_newList ?_ (Nat.zero_le _)
  refine newEnv_ok fun cenv hcenv hloc => ?_
  -- the new places
  dsimp only at hcenv hloc ⊢
  have hI : s₁.heap.get? s₁.heap.objs.size = none := get?_big (Nat.le_refl _)
  generalize eh₁ : s₁.heap.push o = h₁ at hcenv hloc st₀ ⊢
  have sz₁ : h₁.objs.size = s₁.heap.objs.size + 1 := by rw [← eh₁, Heap.size_push]
  have g₁ : Grown s₁.heap h₁ := by rw [← eh₁]; exact .push o
  have hD : s₁.heap.get? h₁.objs.size = none := get?_big (by rw [sz₁]; exact Nat.le_succ _)
  generalize eh₂ : h₁.push { cls := .type "list", data := .seq ([] : List Value).toArray } = h₂ at hcenv hloc ⊢
  have sz₂ : h₂.objs.size = s₁.heap.objs.size + 2 := by rw [← eh₂, Heap.size_push, sz₁]
  have g₂ : Grown h₁ h₂ := by rw [← eh₂]; exact .push _
  have hC : s₁.heap.get? h₂.objs.size = none := get?_big (by rw [sz₂]; exact Nat.le_add_right _ _)
  have sz₃ : (h₂.push { cls := .type "dict", data := .dict #[] }).objs.size = h₂.objs.size + 1 := Heap.size_push ..
  have cs := cells_new scope.names (h₂.push { cls := .type "dict", data := .dict #[] }) cl
  rw [sz₃] at cs
  have g₃ : Grown h₂ (pushCells (h₂.push { cls := .type "dict", data := .dict #[] }) scope.names) := ⟨fun a o e => pushCells_keeps _ _ a o (Heap.get?_push_of_some _ e)⟩
  have nsC : ∃ m, (pushCells (h₂.push { cls := .type "dict", data := .dict #[] }) scope.names).Ns h₂.objs.size m := ⟨_, (Heap.Ns.new h₂ (.type "dict")).keeps (pushCells_keeps _ _)⟩
  have plD : (pushCells (h₂.push { cls := .type "dict", data := .dict #[] }) scope.names).PlainList h₁.objs.size ([] : List Value).toArray := ⟨0, g₃.keep _ _ (by rw [← eh₂]; exact Heap.get?_push_size _ rfl)⟩
  generalize eh₃ : pushCells (h₂.push { cls := .type "dict", data := .dict #[] }) scope.names = h₃ at cs g₃ nsC plD ⊢
  generalize ecs : cellsFrom (h₂.objs.size + 1) scope.names cl = cells at cs hcenv
  have g : Grown s₁.heap h₃ := g₁.trans (g₂.trans g₃)
  have cs' : CellsAt h₃ s₁.heap.objs.size (fun x => (x, .cell) ∈ scope.names) cl cells := ⟨fun x c hx e => by obtain ⟨q1, q2⟩ := cs.at' x c hx e; exact ⟨Nat.le_trans (by omega) q1, q2⟩, cs.other, cs.has, cs.apart⟩
  have big : ∀ x c, (x, NameKind.cell) ∈ scope.names → cells.lookup x = some c → h₂.objs.size + 1 ≤ c := fun x c hx e => (cs.at' x c hx e).1
  have le2 : s₁.heap.objs.size ≤ h₂.objs.size := by omega
  have ltI : s₁.heap.objs.size < h₂.objs.size := by omega
  have ltD : h₁.objs.size < h₂.objs.size := by omega
  have ltID : s₁.heap.objs.size < h₁.objs.size := by omega
  have hin : ∀ a, ((Pv sc env vm st' a ∨ H a) ∨ a = s₁.heap.objs.size ∨ a = h₁.objs.size) → (∃ o, h₃.get? a = some o) ∧ a ≠ h₂.objs.size ∧ ∀ x, (x, NameKind.cell) ∈ scope.names → cells.lookup x ≠ some a := by
    intro a ha
    have old : ∀ o, s₁.heap.get? a = some o → (∃ o, h₃.get? a = some o) ∧ a ≠ h₂.objs.size ∧ ∀ x, (x, NameKind.cell) ∈ scope.names → cells.lookup x ≠ some a := fun o e => by
      have lt := Heap.lt_size e
      have lt2 : a < h₂.objs.size := Nat.lt_of_lt_of_le lt le2
      exact ⟨⟨o, g.keep a o e⟩, Nat.ne_of_lt lt2, fun x hx q => absurd (big x a hx q) (Nat.not_le.mpr (Nat.lt_succ_of_lt lt2))⟩
    rcases ha with (q | q) | q | q
    · obtain ⟨o, e⟩ := R₃.pv_get q; exact old o e
    · obtain ⟨⟨o, e⟩, _⟩ := R₃.hid a q; exact old o e
    · have lt2 : a < h₂.objs.size := by rw [q]; exact ltI
      refine ⟨?_, Nat.ne_of_lt lt2, fun x hx w => absurd (big x a hx w) (Nat.not_le.mpr (Nat.lt_succ_of_lt lt2))⟩
      obtain ⟨o', e⟩ := It.live 0 _ st₀ _ (It.walks.sub _ (List.mem_singleton.mpr rfl))
      rw [q]; exact ⟨o', (g₂.trans g₃).keep _ o' e⟩
    · have lt2 : a < h₂.objs.size := by rw [q]; exact ltD
      refine ⟨?_, Nat.ne_of_lt lt2, fun x hx w => absurd (big x a hx w) (Nat.not_le.mpr (Nat.lt_succ_of_lt lt2))⟩
      obtain ⟨n', e⟩ := plD
      rw [q]; exact ⟨_, e⟩
  have hin2 : ∀ a, ((Pv sc env vm st' a ∨ H a) ∨ a = s₁.heap.objs.size ∨ a = h₁.objs.size) → Pv sc env vm st' a ∨ H a ∨ s₁.heap.get? a = none := by
    rintro a ((q | q) | q | q)
    · exact .inl q
    · exact .inr (.inl q)
    · rw [q]; exact .inr (.inr hI)
    · rw [q]; exact .inr (.inr hD)
  have Ri := inner_rel (Hin := fun a => (Pv sc env vm st' a ∨ H a) ∨ a = s₁.heap.objs.size ∨ a = h₁.objs.size) R₃ hs g hC nsC hcl cs' (fun x c hx e => Nat.ne_of_gt (Nat.lt_of_lt_of_le (Nat.lt_succ_self _) (big x c hx e))) hin hin2 fl hc
  have piN : ∀ a, PiF scope.names (compEnv scope cells h₂.objs.size env) a → s₁.heap.get? a = none := by
    rintro a (q | ⟨x, q1, q2⟩)
    · rw [q]; exact hC
    · exact get?_big (cs'.at' x a (mem_of_lookup q1) q2).1
  have tr : Tr (Ok H sc env vm st') s₁.heap (OkF (fun a => (Pv sc env vm st' a ∨ H a) ∨ a = s₁.heap.objs.size ∨ a = h₁.objs.size) scope.names (compEnv scope cells h₂.objs.size env)) s₁.heap := fun a o k e =>
    ⟨⟨fun q => (by rw [piN a q] at e; cases e), fun q => (hin2 a q).elim k.1 fun q => q.elim k.2 fun q => (by rw [q] at e; cases e)⟩, e⟩
  have bnone : ∀ a, s₁.heap.get? a = none → W.hb.get? a = none := fun a q => by
    cases e : W.hb.get? a with
    | none => rfl
    | some o => have := R₃.base a o e; rw [q] at this; cases this
  have Hnone : ∀ a, s₁.heap.get? a = none → ¬ H a := fun a q k => by obtain ⟨⟨o, e⟩, _⟩ := R₃.hid a k; rw [q] at e; cases e
  have newOf : ∀ a, s₁.heap.get? a = none → Pv sc env vm st a ∨ s.heap.get? a = none := fun a q => by
    by_cases k : Pv sc env vm st a
    · exact .inl k
    · refine .inr ?_
      cases e : s.heap.get? a with
      | none => rfl
      | some o => have := P.stp.keep a o k e; rw [q] at this; cases this
  have st₃' : Sx 0 h₃ := It.walks.frame 0 h₁ h₃ st₀ fun b hb o e => (g₂.trans g₃).keep b o e
  have loop : codeAny (model W.prog W.w) A (.compLoop (.ListComp elt (⟨target, it, fs, 0⟩ :: gs) scope pos) 0 (.ref s₁.heap.objs.size) (.ref h₁.objs.size) (compEnv scope cells h₂.objs.size env))
      (compPost (model W.prog W.w) A Er use Q (.ref h₁.objs.size) h₂.objs.size) { s₁ with heap := h₃ } := by
    refine loop_ok (gs := gs) (target := target) (it := it) (fs := fs) (s := { s₁ with heap := h₃ }) (outs := []) rfl hz ht hfs hr Ri fl hfr (.inr (.inl rfl)) (.inr (.inr rfl)) (Nat.ne_of_lt ltID) (bnone _ hI) (bnone _ hD) P.toks fit (It.mono tr) st₃' (fun a o k e => g.keep a o e) plD rfl h5 (by simpa using hl) fun s' accv' R' pl' r' keep' al' tk' => ?_
    have gr : Grown s₁.heap s'.heap := ⟨fun a o e => keep' a o (fun q => by rw [piN a q] at e; cases e) (fun q => by subst q; rw [hD] at e; cases e) (fun q => by subst q; rw [hI] at e; cases e) (g.keep a o e)⟩
    obtain ⟨mC, nC, _⟩ := R'.ns
    have nC : s'.heap.Ns h₂.objs.size mC := nC
    have endd : CompEnd W H sc env vm st st' out s s' h₁.objs.size h₂.objs.size := by
      refine ⟨R₃.grow gr fun a k => ?_, ?_, ⟨mC, nC⟩, Nat.ne_of_lt ltD, newOf _ hD, newOf _ hC, bnone _ hD, bnone _ hC, Hnone _ hD, Hnone _ hC, plainNoCell pl', P.jn.trans (Jn.trans ⟨S₂, .refl, D₂⟩ (Jn.trans ⟨S₃, .refl, D₃⟩ (Jn.grown gr ⟨al'.gens, al'.os⟩))), tk'⟩
      · rcases k with k | k | k
        · exact .inl k
        · rw [k]; obtain ⟨n', e⟩ := pl'; exact .inr ⟨hD, _, e⟩
        · rw [k]; obtain ⟨o', _, _, e, _⟩ := nC; exact .inr ⟨hC, _, e⟩
      · have trB : Tr (OkF (fun a => (Pv sc env vm st' a ∨ H a) ∨ a = s₁.heap.objs.size ∨ a = h₁.objs.size) scope.names (compEnv scope cells h₂.objs.size env)) s'.heap (Ok (fun a => H a ∨ a = h₁.objs.size ∨ a = h₂.objs.size) sc env vm st') s'.heap := by
          intro a o k e
          refine ⟨⟨fun q => k.2 (.inl (.inl q)), ?_⟩, e⟩
          rintro (q | q | q)
          · exact k.2 (.inl (.inr q))
          · exact k.2 (.inr (.inr q))
          · exact k.1 (.inl q)
        exact ⟨_, accv', rfl, pl', reps_tr trB (by simpa using r')⟩
    have hk := hK s' _ _ endd
    cases use with
    | none => exact ⟨mC, nC, fun h' hs' => hk h' hs'⟩
    | some u => exact hk
  rw [hcenv, hloc]
  exact compStart_at (gs := gs) (target := target) (iter := it) (fs := fs) rfl loop (It.walks.self 0 _ _ _ st₃' loop)

theorem s_comp {tg : Tg} {iter : E} {ifs : Es} {rest : Gs} {cap : List Nat} {target it elt : PySem.Expr} {fs : List PySem.Expr} {gs : List Comprehension} {scope : Scope} {pos : Pos} (hs : Sub W.nm sc scope.names cap scope.kind) (hz : Sync gs)
    (ht : PTg W.nm scope.names tg target) (hfold : ∀ env x, foldedSetIterable it env x = pure x) (hi : SE W F G n sc iter it) (hfs : SF W F G n scope.names ifs fs) (hr : SG W F G n scope.names rest gs elt) :
    SE W F G n sc (.comp tg iter ifs rest cap) (.ListComp elt (⟨target, it, fs, 0⟩ :: gs) scope pos) := by
  intro H env vm st op st' s A Er Q R tk fit e hQ
  obtain ⟨out, rfl, core⟩ := comp_core (elt := elt) (gs := gs) (pos := pos) (p := firstIterPos (⟨target, it, fs, 0⟩ :: gs) pos) (Er := Er) hs hz ht hfold hi hfs hr R tk fit e
  rw [eval_ListComp]
  refine core none Q fun s' D C x h' hs' => hQ _ _ ?_
  have keep : ∀ c o, c ≠ C → s'.heap.get? c = some o → h'.get? c = some o := fun c o n e => (hs'.2 c n).trans e
  obtain ⟨mC, nC⟩ := x.nsC
  have R' : Rel W (fun a => H a ∨ a = D) sc env vm st' h' := x.rel.hiddenTo (.inr (.inr rfl)) (ns_nocell nC) keep (fun a k => k.imp id .inl) (fun k => k.elim (fun q => absurd q x.nC) fun q => absurd q.symm x.ne) x.bC
  refine ⟨⟨D, rfl, (by intro g q; cases q), ?_, x.nD, x.bD, R', ?_⟩, ⟨fun a o np e => ?_, x.jn.stp.priv⟩, ⟨x.jn.alike.gens, x.jn.alike.os⟩, x.toks, x.jn.dom, fun t a q1 q2 => by cases q2; exact x.newD⟩
  · rintro c ⟨o, e1, e2⟩
    obtain ⟨o', e3⟩ := body_get x.body (by intro g q; cases q)
    have := keep D o' x.ne e3
    rw [e1] at this; cases this
    exact x.cellD c ⟨o, e3, e2⟩
  · exact body_tr (fun a o k e => ⟨⟨k.1, fun q => k.2 (q.imp id .inl)⟩, keep a o (fun q => k.2 (.inr (.inr q))) e⟩) x.body fun a o q _ e => by cases q; exact keep D o x.ne e
  · have e' := x.jn.stp.keep a o np e
    by_cases q : a = C
    · subst q
      rcases x.newC with q | q
      · exact absurd q np
      · rw [q] at e; cases e
    · exact keep a o q e'
end
end MP
end

section -- MpAll
open PySem PySem.W PyProof.Rows
namespace MP
section
variable {W : Wd} {F : FTab} {G : Nat → Option T} {n : Nat}

theorem fold_of {nm : Nat → Str} {sc : Sc} {e : E} {p : PySem.Expr} (h : PE nm sc e p) (env : Env) (x : Value) : foldedSetIterable p env x = pure x := by
  have k := okX_of h
  cases p <;> first | rfl | exact nomatch k
theorem star_of {nm : Nat → Str} {sc : Sc} {e : E} {p : PySem.Expr} (h : PE nm sc e p) (ps : List PySem.Expr) (env : Env) : starEach (p :: ps) env = (false, eval p env) :: starEach ps env := by
  have k := okX_of h
  cases p <;> first | rfl | exact nomatch k
theorem mark_of {nm : Nat → Str} {sc : Sc} {e : E} {p : PySem.Expr} (h : PE nm sc e p) (op : CmpOp) : behindInMarks op p = false := by
  have k := okX_of h
  cases p <;> first | rfl | exact nomatch k
theorem PCs_ne {nm : Nat → Str} {sc : Sc} : ∀ {r : Cs} {ops : List CmpOp} {ps : List PySem.Expr}, PCs nm sc r ops ps → ∃ o os q qs, ops = o :: os ∧ ps = q :: qs
  | .one op e, ops, ps, h => by obtain ⟨q, rfl, rfl, _⟩ := h; exact ⟨_, _, _, _, rfl, rfl⟩
  | .cons op e r, ops, ps, h => by obtain ⟨q, os, qs, rfl, rfl, _⟩ := h; exact ⟨_, _, _, _, rfl, rfl⟩
theorem marks_of {nm : Nat → Str} {sc : Sc} : ∀ {r : Cs} {ops : List CmpOp} {ps : List PySem.Expr}, PCs nm sc r ops ps → lastMarks ops ps = false
  | .one op e, ops, ps, h => by
    obtain ⟨q, rfl, rfl, h⟩ := h
    exact mark_of h _
  | .cons op e r, ops, ps, h => by
    obtain ⟨q, ops', qs, rfl, rfl, _, h⟩ := h
    have := marks_of h
    obtain ⟨o, os, q', qs', rfl, rfl⟩ := PCs_ne h
    simpa [lastMarks] using this
theorem noStar_of {nm : Nat → Str} {sc : Sc} : ∀ {es : Es} {ps : List PySem.Expr}, PEs nm sc es ps → NoStar ps ∧ (es = .nil → ps = [])
  | .nil, ps, h => by
    have h : ps = [] := h
    subst h
    exact ⟨noStar_nil, fun _ => rfl⟩
  | .cons e es, ps, h => by
    obtain ⟨q, qs, rfl, h1, h2⟩ := h
    exact ⟨noStar_cons (fun env => star_of h1 _ env) (noStar_of h2).1, fun q => by cases q⟩
theorem sync_of {nm : Nat → Str} {sc : Sc} : ∀ {rest : Gs} {gs : List Comprehension} {elt : PySem.Expr}, PG nm sc rest gs elt → Sync gs
  | .nil e, gs, elt, h => by
    obtain ⟨rfl, _⟩ := h
    intro g hg; exact nomatch hg
  | .cons tg iter ifs rest, gs, elt, h => by
    obtain ⟨t, it, fs, gs', rfl, _, _, _, h⟩ := h
    intro g hg
    rcases List.mem_cons.mp hg with rfl | hg
    · rfl
    · exact sync_of h g hg

theorem b_none {sc : Sc} {e : E} {p : PySem.Expr} (h : ∀ st, evB gF F G e st = none) : SB W F G n sc e p := by
  intro H env vm st b st' s A Er Q R tk fit e hQ
  rw [h] at e
  exact nomatch e

theorem tr_f {sc : Sc} {ifs : Es} {fs : List PySem.Expr} (h : PEs W.nm sc ifs fs) (hb : ∀ e p, ifs = .cons e .nil → PE W.nm sc e p → SB W F G n sc e p) : SF W F G n sc ifs fs := by
  cases ifs with
  | nil => exact f_nil ((noStar_of h).2 rfl)
  | cons e es =>
    cases es with
    | nil =>
      obtain ⟨q, qs, rfl, h1, h2⟩ := h
      have h2 : qs = [] := h2
      subst h2
      exact f_one (hb _ _ rfl h1)
    | cons e' es' =>
      intro H env vm st b s A Er Q R hf tk fit e hQ
      exact nomatch e

variable (C : Cx W F G n)
include C
mutual
theorem snd_E : ∀ (e : E) (sc : Sc) (p : PySem.Expr), PE W.nm sc e p → SE W F G n sc e p
  | .int i, sc, p, h => by obtain ⟨k, q, rfl⟩ := h; exact s_int
  | .str x, sc, p, h => by obtain ⟨k, q, rfl⟩ := h; exact s_str
  | .bool b, sc, p, h => by obtain ⟨k, q, rfl⟩ := h; exact s_bool
  | .var x, sc, p, h => by obtain ⟨q, rfl, h1, h2, h3⟩ := h; exact s_var h1 h2 h3
  | .glob g, sc, p, h => by obtain ⟨q, rfl, h1, h2⟩ := h; exact s_glob C h1 h2
  | .neg i, sc, p, h => by obtain ⟨k, q, r, rfl⟩ := h; exact s_neg
  | .bin o a b, sc, p, h => by obtain ⟨l, r, q, rfl, h1, h2⟩ := h; exact s_bin (snd_E a sc _ h1) (snd_E b sc _ h2)
  | .cmp a r, sc, p, h => by obtain ⟨l, ops, rs, q, rfl, h1, h2⟩ := h; exact s_cmp (marks_of h2) (snd_E a sc _ h1) (snd_C r sc _ _ h2)
  | .andor i a r, sc, p, h => by obtain ⟨x, xs, q, rfl, h1, h2⟩ := h; exact s_andor (snd_E a sc _ h1) (snd_BO r sc _ h2)
  | .ite c a b, sc, p, h => by obtain ⟨t, x, y, q, rfl, h1, h2, h3⟩ := h; exact s_ite (snd_B c sc _ h1) (snd_E a sc _ h2) (snd_E b sc _ h3)
  | .sub a i, sc, p, h => by obtain ⟨v, s, q, rfl, h0, h1, h2⟩ := h; exact s_sub h0 (snd_E a sc _ h1) (snd_E i sc _ h2)
  | .slc a lo hi, sc, p, h => by obtain ⟨v, l, u, q, r, rfl, h1, h2, h3⟩ := h; exact s_slc (snd_E a sc _ h1) (snd_O lo sc _ h2) (snd_O hi sc _ h3)
  | .rev a, sc, p, h => by obtain ⟨v, k, q1, q2, q3, q, rfl, h1⟩ := h; exact s_rev (snd_E a sc _ h1)
  | .list es, sc, p, h => by obtain ⟨xs, q, rfl, h1⟩ := h; exact s_list (snd_Es es sc _ h1)
  | .tup es, sc, p, h => by obtain ⟨xs, k, q, rfl, h1⟩ := h; exact s_tup (snd_Es es sc _ h1)
  | .dict0, sc, p, h => by obtain ⟨q, rfl⟩ := h; exact s_dict0
  | .dict1 k v, sc, p, h => by obtain ⟨a, b, q, rfl, h1, h2⟩ := h; exact s_dict1 (snd_E k sc _ h1) (snd_E v sc _ h2)
  | .call f args, sc, p, h => by obtain ⟨n, q, xs, r, rfl, h1, h2⟩ := h; exact s_call C (noStar_of h2).1 (noStar_of h2).2 (snd_E f sc _ h1) (snd_Es args sc _ h2)
  | .bi b args, sc, p, h => by obtain ⟨q, xs, r, rfl, h1, h2⟩ := h; exact s_bi C h1 (noStar_of h2).1 (noStar_of h2).2 (snd_Es args sc _ h2)
  | .meth m o args, sc, p, h => by obtain ⟨v, apos, xs, pos, rfl, h1, h2, h3, h4, h5⟩ := h; exact s_meth h5 h1 h2 (noStar_of h4).1 (noStar_of h4).2 (snd_E o sc _ h3) (snd_Es args sc _ h4)
  | .repl o c z, sc, p, h => by obtain ⟨v, apos, k1, q1, k2, q2, pos, rfl, h1, h2, h3⟩ := h; exact s_repl h3 h1 (snd_E o sc _ h2)
  | .comp tg iter ifs rest cap, sc, p, h => by obtain ⟨elt, t, it, fs, gs, scope, q, rfl, h1, h2, h3, h4, h5⟩ := h; exact s_comp (sub_of h1) (sync_of h5) h2 (fold_of h3) (snd_E iter sc _ h3) (snd_F ifs _ _ h4) (snd_G rest _ _ _ h5)
theorem snd_B : ∀ (e : E) (sc : Sc) (p : PySem.Expr), PE W.nm sc e p → SB W F G n sc e p
  | .cmp a r, sc, p, h => by obtain ⟨l, ops, rs, q, rfl, h1, h2⟩ := h; exact b_cmp (marks_of h2) (snd_E a sc _ h1) (snd_C r sc _ _ h2)
  | .andor i a r, sc, p, h => by obtain ⟨x, xs, q, rfl, h1, h2⟩ := h; exact b_andor (snd_B a sc _ h1) (snd_Bs r sc _ h2)
  | .var x, sc, p, h => by
    obtain ⟨q, rfl, h1, h2, h3⟩ := h
    exact b_of_e (fun env whole => rfl) (s_var h1 h2 h3) fun st => rfl
  | .call f args, sc, p, h => by
    obtain ⟨n, q, xs, r, rfl, h1, h2⟩ := h
    exact b_of_e (fun env whole => rfl) (s_call C (noStar_of h2).1 (noStar_of h2).2 (snd_E f sc _ h1) (snd_Es args sc _ h2)) fun st => rfl
  | .meth m o args, sc, p, h => by
    obtain ⟨v, apos, xs, pos, rfl, h1, h2, h3, h4, h5⟩ := h
    exact b_of_e (fun env whole => rfl) (s_meth h5 h1 h2 (noStar_of h4).1 (noStar_of h4).2 (snd_E o sc _ h3) (snd_Es args sc _ h4)) fun st => rfl
  | .int _, _, _, _ => b_none fun _ => rfl
  | .str _, _, _, _ => b_none fun _ => rfl
  | .bool _, _, _, _ => b_none fun _ => rfl
  | .glob _, _, _, _ => b_none fun _ => rfl
  | .neg _, _, _, _ => b_none fun _ => rfl
  | .bin .., _, _, _ => b_none fun _ => rfl
  | .ite .., _, _, _ => b_none fun _ => rfl
  | .sub .., _, _, _ => b_none fun _ => rfl
  | .slc .., _, _, _ => b_none fun _ => rfl
  | .rev _, _, _, _ => b_none fun _ => rfl
  | .list _, _, _, _ => b_none fun _ => rfl
  | .tup _, _, _, _ => b_none fun _ => rfl
  | .dict0, _, _, _ => b_none fun _ => rfl
  | .dict1 .., _, _, _ => b_none fun _ => rfl
  | .bi .., _, _, _ => b_none fun _ => rfl
  | .repl .., _, _, _ => b_none fun _ => rfl
  | .comp .., _, _, _ => b_none fun _ => rfl
theorem snd_O : ∀ (o : Oe) (sc : Sc) (p : Option PySem.Expr), PO W.nm sc o p → SO W F G n sc o p
  | .none, sc, p, h => by
    have h : p = none := h
    subst h; exact o_none
  | .some e, sc, p, h => by obtain ⟨q, rfl, h⟩ := h; exact o_some (snd_E e sc _ h)
theorem snd_Es : ∀ (es : Es) (sc : Sc) (ps : List PySem.Expr), PEs W.nm sc es ps → SEs W F G n sc es ps
  | .nil, sc, ps, h => es_nil ((noStar_of h).2 rfl)
  | .cons e es, sc, ps, h => by obtain ⟨q, qs, rfl, h1, h2⟩ := h; exact es_cons (fun env => star_of h1 _ env) (snd_E e sc _ h1) (snd_Es es sc _ h2)
theorem snd_Bs : ∀ (es : Es) (sc : Sc) (ps : List PySem.Expr), PEs W.nm sc es ps → SBs W F G n sc es ps
  | .nil, sc, ps, h => bs_nil ((noStar_of h).2 rfl)
  | .cons e es, sc, ps, h => by obtain ⟨q, qs, rfl, h1, h2⟩ := h; exact bs_cons (snd_B e sc _ h1) (snd_Bs es sc _ h2)
theorem snd_BO : ∀ (es : Es) (sc : Sc) (ps : List PySem.Expr), PEs W.nm sc es ps → SBO W F G n sc es ps
  | .nil, sc, ps, h => bo_nil ((noStar_of h).2 rfl)
  | .cons e es, sc, ps, h => by obtain ⟨q, qs, rfl, h1, h2⟩ := h; exact bo_cons (snd_E e sc _ h1) (snd_BO es sc _ h2)
theorem snd_F : ∀ (es : Es) (sc : Sc) (ps : List PySem.Expr), PEs W.nm sc es ps → SF W F G n sc es ps
  | .nil, sc, ps, h => f_nil ((noStar_of h).2 rfl)
  | .cons e .nil, sc, ps, h => tr_f h fun e' p q h' => by cases q; exact snd_B e sc p h'
  | .cons e (.cons e' es), sc, ps, h => tr_f h fun _ _ q => by cases q
theorem snd_C : ∀ (r : Cs) (sc : Sc) (ops : List CmpOp) (ps : List PySem.Expr), PCs W.nm sc r ops ps → SC W F G n sc r ops ps
  | .one op e, sc, ops, ps, h => by obtain ⟨q, rfl, rfl, h⟩ := h; exact c_one (snd_E e sc _ h)
  | .cons op e r, sc, ops, ps, h => by
    obtain ⟨q, ops', qs, rfl, rfl, h1, h2⟩ := h
    have k := snd_C r sc _ _ h2
    obtain ⟨o, os, q', qs', rfl, rfl⟩ := PCs_ne h2
    exact c_cons (snd_E e sc _ h1) k
theorem snd_G : ∀ (rest : Gs) (sc : Sc) (gs : List Comprehension) (elt : PySem.Expr), PG W.nm sc rest gs elt → SG W F G n sc rest gs elt
  | .nil e, sc, gs, elt, h => by obtain ⟨rfl, h⟩ := h; exact g_nil (snd_E e sc _ h)
  | .cons tg iter ifs rest, sc, gs, elt, h => by obtain ⟨t, it, fs, gs', rfl, h1, h2, h3, h4⟩ := h; exact g_cons (sync_of h4) h1 (fold_of h2) (snd_E iter sc _ h2) (snd_F ifs sc _ h3) (snd_G rest sc _ _ h4)
end
end
end MP
end

section -- MpStm
open PySem PySem.W PyProof.Rows
namespace MP

noncomputable def FlowOk (W : Wd) (H : Addr → Prop) (sc : Sc) (env : Env) (vm : Nat → Option Value) (st : St) (h : Heap) : Fl → Flow → Prop
  | .next, f => f = .next
  | .ret t, f => ∃ v, f = .ret v ∧ Rep W (Ok H sc env vm st) h t v

structure PostT (W : Wd) (H : Addr → Prop) (sc : Sc) (env : Env) (vm : Nat → Option Value) (st : St) (s : Shared) (fl : Fl) (vm' : Nat → Option Value) (st' : St) (f : Flow) (s' : Shared) : Prop where
  rel : Rel W H sc env vm' st' s'.heap
  stp : Stp (Pv sc env vm st) s.heap (Pv sc env vm' st') s'.heap
  alike : Alike s s'
  toks : 1 ≤ s'.toks
  flow : FlowOk W H sc env vm' st' s'.heap fl f

section
variable {W : Wd} {H : Addr → Prop} {sc : Sc} {env : Env} {vm vm₁ vm' : Nat → Option Value} {st st₁ st' : St} {s s₁ s' : Shared} {fl : Fl} {f : Flow}
theorem PostT.after (S : Stp (Pv sc env vm st) s.heap (Pv sc env vm₁ st₁) s₁.heap) (a : Alike s s₁) (p : PostT W H sc env vm₁ st₁ s₁ fl vm' st' f s') : PostT W H sc env vm st s fl vm' st' f s' :=
  ⟨p.rel, S.trans p.stp, a.trans p.alike, p.toks, p.flow⟩
theorem PostT.of (R : Rel W H sc env vm' st' s'.heap) (S : Stp (Pv sc env vm st) s.heap (Pv sc env vm' st') s'.heap) (a : Alike s s') (tk : 1 ≤ s'.toks) : PostT W H sc env vm st s .next vm' st' .next s' := ⟨R, S, a, tk, rfl⟩
end

section
variable (W : Wd) (F : FTab) (G : Nat → Option T) (n : Nat) (sc : Sc)
noncomputable def ST (x : S) (p : PySem.Stmt) : Prop := ∀ (H : Addr → Prop) (env : Env) (vm : Nat → Option Value) (st : St) (fl : Fl) (st' : St) (s : Shared) (A : Around) (Er : Value → Shared → Prop) (Q : Flow → Shared → Prop),
  Rel W H sc env vm st s.heap → 1 ≤ s.toks → Fit n A → evS gF F G x st = some (fl, st') → (∀ vm' f s', PostT W H sc env vm st s fl vm' st' f s' → Q f s') → wpAny (model W.prog W.w) A (exec p env) Q Er s
noncomputable def STs (x : Ss) (ps : List PySem.Stmt) : Prop := ∀ (H : Addr → Prop) (env : Env) (vm : Nat → Option Value) (st : St) (fl : Fl) (st' : St) (s : Shared) (A : Around) (Er : Value → Shared → Prop) (Q : Flow → Shared → Prop),
  Rel W H sc env vm st s.heap → 1 ≤ s.toks → Fit n A → evSs gF F G x st = some (fl, st') → (∀ vm' f s', PostT W H sc env vm st s fl vm' st' f s' → Q f s') → wpAny (model W.prog W.w) A (execs ps env) Q Er s
end

section
variable {W : Wd} {F : FTab} {G : Nat → Option T} {n : Nat} {sc : Sc}

theorem ts_nil {ps : List PySem.Stmt} (hp : ps = []) : STs W F G n sc .nil ps := by
  subst hp
  intro H env vm st fl st' s A Er Q R tk fit e hQ
  cases e
  exact wpAny_execs_nil (hQ vm _ _ (.of R .refl .refl tk))
theorem ts_cons {x : S} {xs : Ss} {p : PySem.Stmt} {ps : List PySem.Stmt} (hx : ST W F G n sc x p) (hs : STs W F G n sc xs ps) : STs W F G n sc (.cons x xs) (p :: ps) := by
  intro H env vm st fl st' s A Er Q R tk fit e hQ
  refine thn_e e ?_ ?_ <;> clear e
  · intro st₁ h1 h2
    refine wpAny_execs_cons (hx _ _ _ _ _ _ _ _ _ _ R tk fit h1 fun vm₁ f s₁ P => ?_)
    obtain rfl := P.flow
    exact hs _ _ _ _ _ _ _ _ _ _ P.rel P.toks fit h2 fun vm' f s' P' => hQ vm' f s' (.after P.stp P.alike P')
  · intro t h1 e
    subst e
    refine wpAny_execs_cons (hx _ _ _ _ _ _ _ _ _ _ R tk fit h1 fun vm₁ f s₁ P => ?_)
    obtain ⟨v, rfl, r⟩ := P.flow
    exact hQ vm₁ _ _ P

/-- an operand is stored under a name -/
theorem keep_ok {M : Model} {H : Addr → Prop} {env : Env} {vm : Nat → Option Value} {st st₁ st' : St} {s s₁ : Shared} {A : Around} {Er : Value → Shared → Prop} {Q : Unit → Shared → Prop} {op : Op} {v : Value} {x : Nat} {fl : Fl} (P : PostE W H sc env vm st s op st₁ v s₁) (hw : isW sc (W.nm x) = true)
    (e : asg x op st₁ = some (fl, st'))
    (hQ : ∀ vm' s', PostT W H sc env vm st s fl vm' st' .next s' → Q () s') : wpAny M A (storeName env (W.nm x) v) Q Er s₁ := by
  cases op with
  | new t =>
    cases e
    obtain ⟨a, rfl, hf, nc, nH, hb, R₁, B⟩ := P.rel
    exact store_ok (H := H) (b := true) R₁ hw (fun _ k => .inl k) B (fun q => nomatch q) (fun _ => ⟨a, rfl, .inr rfl, nH, hf, nc, hb⟩) fun s' tk' al R' S' _ => hQ _ _ (.of R' (S' _ _ P.stp fun _ a' e => P.new t a' rfl e) (P.alike.trans al) (Nat.le_trans P.toks tk'))
  | val t =>
    cases e
    obtain ⟨R₁, o₁⟩ := P.low
    exact store_val R₁ hw o₁ fun s' P' => hQ _ _ (.of P'.rel (P.stp.trans P'.stp) (P.alike.trans P'.alike) (Nat.le_trans P.toks P'.toks))
  | var i =>
    refine be e ?_; clear e; intro t st₂ h2 e
    cases e
    obtain ⟨R₁, o₁⟩ := P.low
    obtain ⟨R₂, S₂, D₂, r⟩ := esc_ok R₁ o₁ h2
    exact store_val R₂ hw r fun s' P' => hQ _ _ (.of P'.rel (P.stp.trans (S₂.trans P'.stp)) (P.alike.trans P'.alike) (Nat.le_trans P.toks P'.toks))

theorem swaps_none {nm : Nat → Str} {e : E} {v : PySem.Expr} (h : PE nm sc e v) (hc : isComp v = false) (tg : Option PySem.Expr) (l : Nat) (env : Env) : swapsWith v tg l env = pure false := by
  have k := okX_of h
  cases v <;> first | rfl | exact Bool.noConfusion k | exact Bool.noConfusion hc

theorem t_assignC (C : Cx W F G n) {x : Nat} {tg : Tg} {iter : E} {ifs : Es} {rest : Gs} {cap : List Nat} {elt target it : PySem.Expr} {fs : List PySem.Expr} {gs : List Comprehension} {scope : Scope} {q cpos pos : Pos} (hw : isW sc (W.nm x) = true) (p1 : trSub W.nm sc scope.names cap scope.kind = true) (p2 : PTg W.nm scope.names tg target) (p3 : PE W.nm sc iter it) (p4 : PEs W.nm scope.names ifs fs) (p5 : PG W.nm scope.names rest gs elt)
    {H : Addr → Prop} {env : Env} {vm : Nat → Option Value} {st st₁ st' : St} {op : Op} {fl : Fl} {s : Shared} {A : Around} {Er : Value → Shared → Prop} {Q : Flow → Shared → Prop} (R : Rel W H sc env vm st s.heap) (tk : 1 ≤ s.toks) (fit : Fit n A) (h1 : evE gF F G (.comp tg iter ifs rest cap) st = some (op, st₁)) (h2 : asg x op st₁ = some (fl, st'))
    (hsw : swapsWith (.ListComp elt (⟨target, it, fs, 0⟩ :: gs) scope cpos) (some (.Name (W.nm x) q)) pos.line env = pure true) (hQ : ∀ vm' f s', PostT W H sc env vm st s fl vm' st' f s' → Q f s') :
    wpAny (model W.prog W.w) A (exec (.Assign [.Name (W.nm x) q] (.ListComp elt (⟨target, it, fs, 0⟩ :: gs) scope cpos) pos) env) Q Er s := by
  rw [exec_Assign_Name_used _ _ _ _ hsw]
  refine wpAny_bind (wpAny_standAt (wpAny_bind ?_))
  show wpAny _ A (do let _ ← comprehension (.ListComp elt (⟨target, it, fs, 0⟩ :: gs) scope cpos) scope env (firstIterPos (⟨target, it, fs, 0⟩ :: gs) cpos) (newList []) false (eval it env) (some (assign (.Name (W.nm x) q) env))) _ _ s
  obtain ⟨out, hop, core⟩ := comp_core (elt := elt) (gs := gs) (pos := cpos) (p := firstIterPos (⟨target, it, fs, 0⟩ :: gs) cpos) (Er := Er) (sub_of p1) (sync_of p5) p2 (fold_of p3) (snd_E C iter sc _ p3) (snd_F C ifs _ _ p4) (snd_G C rest _ _ _ p5) R tk fit h1
  subst hop
  cases h2
  refine wpAny_bind (core _ _ fun s₁ D Ca x₁ => ?_)
  show wpAny _ A (assign (.Name (W.nm x) q) env (.ref D)) _ _ s₁
  -- the frame's own place stays hidden till the end
  refine wpAny_assign_Name (store_ok (H := fun a => H a ∨ a = Ca) (b := true) x₁.rel hw (fun a k => k.imp id .inr) x₁.body (fun q => nomatch q) (fun _ => ⟨D, rfl, .inr (.inl rfl), fun k => k.elim x₁.nD x₁.ne, (by intro g q; cases q), x₁.cellD, x₁.bD⟩) fun s₂ tk₂ al₂ R₂ S₂ K₂ => ?_)
  obtain ⟨mC, nC⟩ := x₁.nsC
  have npC : ¬ Pv sc env vm st₁ Ca := (x₁.rel.hid Ca (.inr (.inr rfl))).2
  have nC₂ : s₂.heap.Ns Ca mC := nC.at' fun o e => K₂ Ca o npC e
  refine ⟨mC, nC₂, fun h' hs' => wpAny_pure (wpAny_pure (hQ (vset vm x (.ref D)) _ _ ?_))⟩
  have S := S₂ _ _ x₁.jn.stp fun _ a e => by cases e; exact x₁.newD
  have keep : ∀ c o, c ≠ Ca → s₂.heap.get? c = some o → h'.get? c = some o := fun c o n e => (hs'.2 c n).trans e
  have R' := R₂.hiddenTo (.inr rfl) (ns_nocell nC₂) keep (fun a k => .inl k) (fun k => absurd k x₁.nC) x₁.bC
  refine .of R' ⟨fun a o np e => keep a o (fun w => ?_) (S.keep a o np e), S.priv⟩ ⟨(x₁.jn.alike.trans al₂).gens, (x₁.jn.alike.trans al₂).os⟩ (Nat.le_trans x₁.toks tk₂)
  subst w
  rcases x₁.newC with w | w
  · exact absurd w np
  · rw [w] at e; cases e

theorem comp_of {nm : Nat → Str} {e : E} {v : PySem.Expr} (h : PE nm sc e v) (hc : isComp v = true) : ∃ tg iter ifs rest cap, e = .comp tg iter ifs rest cap := by
  cases e with
  | comp tg iter ifs rest cap => exact ⟨_, _, _, _, _, rfl⟩
  | int i => obtain ⟨_, _, rfl⟩ := h; exact nomatch hc
  | str i => obtain ⟨_, _, rfl⟩ := h; exact nomatch hc
  | bool i => obtain ⟨_, _, rfl⟩ := h; exact nomatch hc
  | var i => obtain ⟨_, rfl, _⟩ := h; exact nomatch hc
  | glob i => obtain ⟨_, rfl, _⟩ := h; exact nomatch hc
  | neg i => obtain ⟨_, _, _, rfl⟩ := h; exact nomatch hc
  | bin o a b => obtain ⟨_, _, _, rfl, _⟩ := h; exact nomatch hc
  | cmp a r => obtain ⟨_, _, _, _, rfl, _⟩ := h; exact nomatch hc
  | andor i a r => obtain ⟨_, _, _, rfl, _⟩ := h; exact nomatch hc
  | ite c a b => obtain ⟨_, _, _, _, rfl, _⟩ := h; exact nomatch hc
  | sub a i => obtain ⟨_, _, _, rfl, _⟩ := h; exact nomatch hc
  | slc a lo hi => obtain ⟨_, _, _, _, _, rfl, _⟩ := h; exact nomatch hc
  | rev a => obtain ⟨_, _, _, _, _, _, rfl, _⟩ := h; exact nomatch hc
  | list es => obtain ⟨_, _, rfl, _⟩ := h; exact nomatch hc
  | tup es => obtain ⟨_, _, _, rfl, _⟩ := h; exact nomatch hc
  | dict0 => obtain ⟨_, rfl⟩ := h; exact nomatch hc
  | dict1 k v => obtain ⟨_, _, _, rfl, _⟩ := h; exact nomatch hc
  | call f args => obtain ⟨_, _, _, _, rfl, _⟩ := h; exact nomatch hc
  | bi b args => obtain ⟨_, _, _, rfl, _⟩ := h; exact nomatch hc
  | meth m o args => obtain ⟨_, _, _, _, rfl, _⟩ := h; exact nomatch hc
  | repl o c z => obtain ⟨_, _, _, _, _, _, _, rfl, _⟩ := h; exact nomatch hc

theorem t_assign (C : Cx W F G n) {x : Nat} {e : E} {v : PySem.Expr} {q pos : Pos} (hw : isW sc (W.nm x) = true) (h : PE W.nm sc e v) : ST W F G n sc (.assign x e) (.Assign [.Name (W.nm x) q] v pos) := by
  intro H env vm st fl st' s A Er Q R tk fit he hQ
  refine be he ?_; clear he; intro op st₁ h1 h2
  have plain : swapsWith v (some (.Name (W.nm x) q)) pos.line env = pure false → wpAny (model W.prog W.w) A (exec (.Assign [.Name (W.nm x) q] v pos) env) Q Er s := fun hs =>
    wpAny_Assign_Name (snd_E C e sc v h _ _ _ _ _ _ _ _ _ _ R tk fit h1 fun v₁ s₁ P => keep_ok P hw h2 fun vm' s' P' => hQ vm' _ _ P') hs
  cases hc : isComp v with
  | false => exact plain (swaps_none h hc _ _ _)
  | true =>
    obtain ⟨tg, iter, ifs, rest, cap, rfl⟩ := comp_of h hc
    obtain ⟨elt, target, it, fs, gs, scope, cpos, rfl, p1, p2, p3, p4, p5⟩ := h
    have hsw : ∃ b, swapsWith (.ListComp elt (⟨target, it, fs, 0⟩ :: gs) scope cpos) (some (.Name (W.nm x) q)) pos.line env = pure b := ⟨_, rfl⟩
    obtain ⟨b, hsw⟩ := hsw
    cases b with
    | false => exact plain hsw
    | true => exact t_assignC C hw p1 p2 p3 p4 p5 R tk fit h1 h2 hsw hQ
end
end MP
end

section -- MpStm2
open PySem PySem.W PyProof.Rows
namespace MP
section
variable {W : Wd} {F : FTab} {G : Nat → Option T} {n : Nat} {sc : Sc}

theorem var_name {x : Nat} {nn : Str} {q : Pos} (h : PE W.nm sc (.var x) (.Name nn q)) : nn = W.nm x ∧ isV sc (W.nm x) = true ∧ (W.nm x == ("__debug__" : Str)) = false ∧ (W.nm x == ("__classdict__" : Str)) = false := by
  obtain ⟨q', e, h1, h2, h3⟩ := h
  cases e
  exact ⟨rfl, h1, h2, h3⟩
theorem t_expr (C : Cx W F G n) {e : E} {v : PySem.Expr} {pos : Pos} (hc : isComp v = false) (h : PE W.nm sc e v) : ST W F G n sc (.expr e) (.Expr v pos) := by
  intro H env vm st fl st' s A Er Q R tk fit he hQ
  refine be he ?_; clear he; intro op st₁ h1 he
  cases he
  exact wpAny_Expr_any (snd_E C e sc v h _ _ _ _ _ _ _ _ _ _ R tk fit h1 fun v₁ s₁ P => hQ vm _ _ (.of P.low.1 P.stp P.alike P.toks)) (by unfold interactive; rw [R.kind]; rfl) (swaps_none h hc _ _ _)

theorem t_ret (C : Cx W F G n) {e : E} {v : PySem.Expr} {pos : Pos} (h : PE W.nm sc e v) : ST W F G n sc (.ret e) (.Return (some v) pos) := by
  intro H env vm st fl st' s A Er Q R tk fit he hQ
  refine be he ?_; clear he; intro op st₁ h1 he
  refine be he ?_; clear he; intro t st₂ h2 he
  cases he
  refine wpAny_Return_some (snd_E C e sc v h _ _ _ _ _ _ _ _ _ _ R tk fit h1 fun v₁ s₁ P => ?_)
  obtain ⟨R₁, o₁⟩ := P.low
  obtain ⟨R₂, S₂, D₂, r⟩ := esc_ok R₁ o₁ ((esc_low _ _).trans h2)
  exact hQ vm _ _ ⟨R₂, P.stp.trans S₂, P.alike, P.toks, v₁, rfl, r⟩

theorem t_asrt (C : Cx W F G n) {e : E} {v : PySem.Expr} {pos : Pos} (h : PE W.nm sc e v) : ST W F G n sc (.asrt e) (.Assert v none pos) := by
  intro H env vm st fl st' s A Er Q R tk fit he hQ
  refine be he ?_; clear he; intro b st₁ h1 he
  refine ge he ?_; clear he; intro hb he
  cases he
  exact wpAny_Assert_holds (snd_B C e sc v h _ _ _ _ _ _ _ _ _ _ R tk fit h1 fun s₁ P => ⟨hb, hQ vm _ _ (.of P.rel P.jn.stp P.jn.alike P.toks)⟩)

theorem t_if (C : Cx W F G n) {c : E} {a b : Ss} {v : PySem.Expr} {x y : List PySem.Stmt} {pos : Pos} (h : PE W.nm sc c v) (ha : STs W F G n sc a x) (hb : STs W F G n sc b y) : ST W F G n sc (.iff c a b) (.If v x y pos) := by
  intro H env vm st fl st' s A Er Q R tk fit he hQ
  refine be he ?_; clear he; intro b st₁ h1 he
  refine wpAny_If (snd_B C c sc v h _ _ _ _ _ _ _ _ _ _ R tk fit h1 fun s₁ P => ?_)
  cases b with
  | true => exact ha _ _ _ _ _ _ _ _ _ _ P.rel P.toks fit he fun vm' f s' P' => hQ vm' _ _ (.after P.jn.stp P.jn.alike P')
  | false => exact hb _ _ _ _ _ _ _ _ _ _ P.rel P.toks fit he fun vm' f s' P' => hQ vm' _ _ (.after P.jn.stp P.jn.alike P')

theorem t_tri {b : Ss} {x : List PySem.Stmt} {h₀ : ExceptHandler} {hs : List ExceptHandler} {pos : Pos} (hb : STs W F G n sc b x) : ST W F G n sc (.tri b) (.Try x (h₀ :: hs) [] [] pos) := by
  intro H env vm st fl st' s A Er Q R tk fit he hQ
  refine wpAny_Try_except (hb _ _ _ _ _ _ _ _ _ _ R tk fit he fun vm' f s' P => ?_)
  cases f with
  | next => exact wpAny_execs_nil (hQ vm' _ _ P)
  | brk => exact hQ vm' _ _ P
  | cont => exact hQ vm' _ _ P
  | ret v => exact hQ vm' _ _ P

theorem t_del (C : Cx W F G n) {x : Nat} {i : E} {nn : Str} {q : Pos} {k : PySem.Expr} {p pos : Pos} (hx : PE W.nm sc (.var x) (.Name nn q)) (hi : PE W.nm sc i k) : ST W F G n sc (.del x i) (.Delete [.Subscript (.Name nn q) k p] pos) := by
  intro H env vm st fl st' s A Er Q R tk fit he hQ
  obtain ⟨rfl, hv, hd, hn⟩ := var_name hx
  refine be he ?_; clear he; intro _ _ hr he
  refine var_e hr ?_; clear hr; intro y hy e1 e2
  subst e1 e2
  refine be he ?_; clear he; intro ko st₁ h1 he
  refine oe he ?_; clear he; intro kt h2 he
  refine oi he ?_; clear he; intro j e2 he
  refine oe he ?_; clear he; intro d h3 he
  refine ol he ?_; clear he; intro xs e3 he
  refine ge he ?_; clear he; intro hl he
  refine oe he ?_; clear he; intro z hz he
  cases he
  subst e2 e3
  refine wpAny_Delete (wpAny_deleteEach_cons (wpAny_delete_Subscript (wpAny_Name (load_ok R hv hn hy fun v hv' => snd_E C i sc k hi _ _ _ _ _ _ _ _ _ _ R tk fit h1 fun v₁ s₁ P => ?_) hd)))
  obtain ⟨R₁, o₁⟩ := P.low
  obtain ⟨kt, rfl⟩ := peekL R₁ o₁ h2
  exact wpAny_with_toks P.toks (del_ok R₁ (own_e h3) hv' hl hz fun s' R' S' al tk' => wpAny_deleteEach_nil (hQ vm _ _ (.of R' (P.stp.trans S') (P.alike.trans al) tk')))

theorem swaps_sub {v o i : PySem.Expr} {p : Pos} {l : Nat} {env : Env} : swapsWith v (some (.Subscript o i p)) l env = pure false := by
  cases v <;> rfl

theorem t_setItem (C : Cx W F G n) {x : Nat} {i e : E} {nn : Str} {q : Pos} {k v : PySem.Expr} {p pos : Pos} (hx : PE W.nm sc (.var x) (.Name nn q)) (hi : PE W.nm sc i k) (hv : PE W.nm sc e v) :
    ST W F G n sc (.setItem x i e) (.Assign [.Subscript (.Name nn q) k p] v pos) := by
  intro H env vm st fl st' s A Er Q R tk fit he hQ
  obtain ⟨rfl, hV, hd, hn⟩ := var_name hx
  refine be he ?_; clear he; intro vo st₁ h1 he
  refine be he ?_; clear he; intro t st₂ h2 he
  refine be he ?_; clear he; intro _ _ hr he
  refine var_e hr ?_; clear hr; intro y hy e1 e2
  subst e1 e2
  refine be he ?_; clear he; intro ko st₃ h3 he
  refine oe he ?_; clear he; intro kt h4 he
  refine os he ?_; clear he; intro z e4 he
  refine oe he ?_; clear he; intro d h5 he
  refine od he ?_; clear he; intro w e5 he
  refine ge he ?_; clear he; intro hl he
  cases he
  subst e4 e5
  refine wpAny_Assign_Subscript (snd_E C e sc v hv _ _ _ _ _ _ _ _ _ _ R tk fit h1 fun v₁ s₁ P₁ => ?_) swaps_sub
  obtain ⟨R₁, o₁⟩ := P₁.low
  obtain ⟨R₂, S₂, D₂, r⟩ := esc_ok R₁ o₁ ((esc_low _ _).trans h2)
  refine wpAny_Name (load_ok R₂ hV hn hy fun v hv' => snd_E C i sc k hi _ _ _ _ _ _ _ _ _ _ R₂ P₁.toks fit h3 fun v₃ s₃ P₃ => ?_) hd
  obtain ⟨R₃, o₃⟩ := P₃.low
  obtain ⟨kt, rfl⟩ := peekL R₃ o₃ h4
  exact wpAny_with_toks P₃.toks (dset_ok R₃ (own_e h5) hv' (Bool.and_eq_true_iff.mp hl).1 (rep_tr (P₃.stp.tr H) r) fun s' R' S' al tk' => hQ vm _ _ (.of R' (P₁.stp.trans (S₂.trans (P₃.stp.trans S'))) (P₁.alike.trans (P₃.alike.trans al)) tk'))

theorem augStore_plain {i : PySem.Expr} (h : isSlice i = false) (ov iv new : Value) : augStore i ov iv new = (do holding [new, ov, iv] (setItem ov iv new); release [new, ov, iv] []; pure .next) := by
  cases i <;> first | rfl | exact nomatch h

theorem old_at {H : Addr → Prop} {env : Env} {vm : Nat → Option Value} {st : St} {h : Heap} (R : Rel W H sc env vm st h) {x : Nat} {t : T} {b : Bool} {v : Value} (e : st.get x = some (t, b)) (hv : vm x = some v) : Body W (Ok H sc env vm st) h t v := by
  obtain ⟨v', q, B, _⟩ := R.vals x t b e
  rw [hv] at q; cases q
  exact B

theorem t_augItem (C : Cx W F G n) {x : Nat} {i e : E} {nn : Str} {q : Pos} {k v : PySem.Expr} {p pos : Pos} (hx : PE W.nm sc (.var x) (.Name nn q)) (hs : isSlice k = false) (hi : PE W.nm sc i k) (hv : PE W.nm sc e v) :
    ST W F G n sc (.augItem x i e) (.AugAssign (.Subscript (.Name nn q) k p) .Add v pos) := by
  intro H env vm st fl st' s A Er Q R tk fit he hQ
  obtain ⟨rfl, hV, hd, hn⟩ := var_name hx
  refine be he ?_; clear he; intro _ _ hr he
  refine var_e hr ?_; clear hr; intro y hy e1 e2
  subst e1 e2
  refine be he ?_; clear he; intro ko st₁ h1 he
  refine oe he ?_; clear he; intro kt h2 he
  refine oi he ?_; clear he; intro j e2 he
  refine on he ?_; clear he; intro j' e2' he
  refine oe he ?_; clear he; intro d h3 he
  refine ol he ?_; clear he; intro xs e3 he
  refine ge he ?_; clear he; intro hl he
  refine oe he ?_; clear he; intro ot h4 he
  refine oi he ?_; clear he; intro old e4 he
  refine be he ?_; clear he; intro vo st₂ h5 he
  refine oe he ?_; clear he; intro tv h6 he
  refine oi he ?_; clear he; intro m e6 he
  refine oe he ?_; clear he; intro d' h7 he
  refine ol he ?_; clear he; intro ys e7 he
  refine ge he ?_; clear he; intro hj he
  cases he
  subst e2 e2' e3 e4 e6 e7
  obtain ⟨hj1, hj2⟩ := Bool.and_eq_true_iff.mp hj
  have hj1 : j' < ys.length := Nat.le_of_ble_eq_true hj1
  refine wpAny_AugAssign_Subscript_any (wpAny_Name (load_ok R hV hn hy fun lv hv' => snd_E C i sc k hi _ _ _ _ _ _ _ _ _ _ R tk fit h1 fun v₁ s₁ P₁ => ?_) hd) (augStore_plain hs)
  obtain ⟨R₁, o₁⟩ := P₁.low
  obtain ⟨kt, rfl⟩ := peekL R₁ o₁ h2
  -- the item that stands there
  obtain ⟨a, us, rfl, pl, ra⟩ := old_at R₁ (own_e h3) hv'
  obtain ⟨w, e1, ⟨ot, rfl⟩, _⟩ := reps_get ra h4
  have hjx : j' < 2 ^ 63 := Nat.lt_of_lt_of_le (List.getElem?_eq_some_iff.mp h4).1 (Nat.le_trans (lenOk_le hl) (by decide))
  refine wpAny_getItem_list (plain_isList pl) (Int.natCast_nonneg _) (by show (Int.ofNat j') < 2 ^ 63; simp only [Int.ofNat_eq_natCast]; omega) (by simpa using e1) ?_
  refine snd_E C e sc v hv _ _ _ _ _ _ _ _ _ _ R₁ P₁.toks fit h5 fun v₂ s₂ P₂ => ?_
  obtain ⟨R₂, o₂⟩ := P₂.low
  obtain ⟨nt, rfl⟩ := peekL R₂ o₂ h6
  exact P.iadd_int (wpAny_with_toks (n := 1) (Nat.le_succ_of_le P₂.toks) (lset_ok (s := { s₂ with toks := s₂.toks + 1 }) R₂ (own_e h7) hv' hj2 hj1 rep_int fun s' R' S' al tk' => hQ vm _ _ (.of R' (P₁.stp.trans (P₂.stp.trans S')) (P₁.alike.trans (P₂.alike.trans ⟨al.gens, al.os⟩)) tk')))

/-- a name takes the sum, a new value -/
theorem augS_ok {H : Addr → Prop} {env : Env} {vm : Nat → Option Value} {st st₁ st' : St} {fl : Fl} {s s₁ : Shared} {A : Around} {Er : Value → Shared → Prop} {Q : Flow → Shared → Prop} {x : Nat} {o : Operator} {t tv : T} {vo : Op} {lv v₁ : Value} (hw : isW sc (W.nm x) = true) (ho : (o == .Add || o == .Sub || o == .Mult) = true)
    (P₁ : PostE W H sc env vm st s vo st₁ v₁ s₁) (h2 : peek st₁ vo = some tv) (h3 : st₁.get x = some (t, false)) (hv' : vm x = some lv) (h4 : augS gF x o t tv st₁ = some (fl, st')) (hQ : ∀ vm' f s', PostT W H sc env vm st s fl vm' st' f s' → Q f s') :
    wpAny (model W.prog W.w) A (inplaceOp o lv v₁) (fun v' s' => wpAny (model W.prog W.w) A (storeName env (W.nm x) v') (fun _ s'' => Q .next s'') Er s') Er s₁ := by
  refine oe h4 ?_; clear h4; intro r h4 e
  refine ge e ?_; clear e; intro h5 e
  cases e
  obtain ⟨R₁, o₁⟩ := P₁.low
  refine wpAny_with_toks P₁.toks (iop_ok (L := env.locals) ho h4 (by simpa using h5) (old_at R₁ h3 hv') (peekL R₁ o₁ h2) fun v' s' res tk' => ?_)
  have Pp := res.post R₁ tk'
  obtain ⟨R₂, r₂⟩ := Pp.rel
  exact store_val R₂ hw r₂ fun s'' P'' => hQ _ _ _ (.of P''.rel (P₁.stp.trans (Pp.stp.trans P''.stp)) (P₁.alike.trans (Pp.alike.trans P''.alike)) (Nat.le_trans tk' P''.toks))

/-- names that hold what may not change -/
theorem t_augc (C : Cx W F G n) {x : Nat} {o : Operator} {e : E} {q pos : Pos} {v : PySem.Expr} (hV : isV sc (W.nm x) = true) (hw : isW sc (W.nm x) = true) (hn : (W.nm x == ("__classdict__" : Str)) = false) (ho : (o == .Add || o == .Sub || o == .Mult) = true) (hv : PE W.nm sc e v) :
    ST W F G n sc (.augc x o e) (.AugAssign (.Name (W.nm x) q) o v pos) := by
  intro H env vm st fl st' s A Er Q R tk fit he hQ
  refine be he ?_; clear he; intro _ _ hr he
  refine var_e hr ?_; clear hr; intro y hy e1 e2
  subst e1 e2
  refine be he ?_; clear he; intro vo st₁ h1 he
  refine oe he ?_; clear he; intro tv h2 he
  refine oe he ?_; clear he; intro t h3 he
  exact wpAny_AugAssign_Name (load_ok R hV hn hy fun lv hv' => snd_E C e sc v hv _ _ _ _ _ _ _ _ _ _ R tk fit h1 fun v₁ s₁ P₁ => augS_ok hw ho P₁ h2 (shr_e h3) hv' he hQ)

theorem t_aug (C : Cx W F G n) {x : Nat} {o : Operator} {e : E} {q pos : Pos} {v : PySem.Expr} (hL : isL sc (W.nm x) = true) (hn : (W.nm x == ("__classdict__" : Str)) = false) (ho : (o == .Add || o == .Sub || o == .Mult) = true) (hv : PE W.nm sc e v) :
    ST W F G n sc (.aug x o e) (.AugAssign (.Name (W.nm x) q) o v pos) := by
  intro H env vm st fl st' s A Er Q R tk fit he hQ
  have hl := isL_of hL
  have hV : isV sc (W.nm x) = true := by unfold isV; rw [hl]
  have hw : isW sc (W.nm x) = true := by unfold isW; rw [hl]
  refine be he ?_; clear he; intro _ _ hr he
  refine var_e hr ?_; clear hr; intro y hy e1 e2
  subst e1 e2
  refine be he ?_; clear he; intro vo st₁ h1 he
  refine oe he ?_; clear he; intro tv h2 he
  refine oe he ?_; clear he; intro p h3 he
  refine wpAny_AugAssign_Name (load_ok R hV hn hy fun lv hv' => snd_E C e sc v hv _ _ _ _ _ _ _ _ _ _ R tk fit h1 fun v₁ s₁ P₁ => ?_)
  obtain ⟨t, b⟩ := p
  cases b with
  | false => exact augS_ok hw ho P₁ h2 h3 hv' he hQ
  | true =>
    refine ol he ?_; clear he; intro xs e1 he
    refine ge he ?_; clear he; intro eo he
    refine ol he ?_; clear he; intro ys e2 he
    refine ge he ?_; clear he; intro hlen he
    cases he
    obtain rfl := isAdd_e eo
    subst e2
    have h3 : st₁.get x = some (.list xs, true) := by rw [h3]; exact congrArg (fun t => some (t, true)) e1
    obtain ⟨R₁, o₁⟩ := P₁.low
    refine wpAny_with_toks P₁.toks (liadd_ok R₁ h3 hv' (peekL R₁ o₁ h2) hlen fun s' R' S' al tk' => ?_)
    obtain ⟨m, ns, hm⟩ := R'.ns
    refine wpAny_storeName_local (R'.kl _ hl) ns (fun h' hn' hs' => ?_) (kind_ok R')
    have em : (fun z => if z = W.nm x then some lv else m z) = m := by
      funext z
      by_cases w : z = W.nm x
      · rw [if_pos w, w, hm x lv hv' hl]
      · rw [if_neg w]
    rw [em] at hn'
    have g : GrownL env.locals s'.heap h' := ⟨fun a o n e => (hs'.2 a n).trans e, fun m' hm' => by rw [ns_unique hm' ns]; exact hn'⟩
    exact hQ vm _ _ (.of (R'.growL g fun a k => .inl k) (P₁.stp.trans (S'.trans (g.stp (.inl rfl) fun _ p => p))) ⟨(P₁.alike.trans al).gens, (P₁.alike.trans al).os⟩ (Nat.le_succ_of_le tk'))
end
end MP
end

section -- MpStm3
open PySem PySem.W PyProof.Rows
namespace MP
section
variable {W : Wd} {F : FTab} {G : Nat → Option T} {n : Nat} {sc : Sc}

theorem PostT.back {H : Addr → Prop} {env : Env} {vm vm₁ vm' : Nat → Option Value} {st st₁ st' : St} {s s₁ s' : Shared} {fl : Fl} {f : Flow} (S : Stp (Pv sc env vm st) s.heap (Pv sc env vm₁ st₁) s₁.heap) (a : Alike s s₁) (p : PostT W H sc env vm₁ st₁ s₁ fl vm' st' f s') : PostT W H sc env vm st s fl vm' st' f s' :=
  ⟨p.rel, S.trans p.stp, a.trans p.alike, p.toks, p.flow⟩
/-- a loop's body: on to the next turn, or out of the loop -/
theorem body_ok {b : Ss} {body : List PySem.Stmt} (hb : STs W F G n sc b body) {H : Addr → Prop} {env : Env} {vm : Nat → Option Value} {st : St} {fl : Fl} {st' : St} {s : Shared} {A : Around} {Er : Value → Shared → Prop} {Q : Flow → Shared → Prop} {k : St → Option (Fl × St)} (R : Rel W H sc env vm st s.heap) (tk : 1 ≤ s.toks) (fit : Fit n A)
    (e : thn (evSs gF F G b st) k = some (fl, st')) (hn : ∀ vm₁ st₁ s₁, PostT W H sc env vm st s .next vm₁ st₁ .next s₁ → k st₁ = some (fl, st') → Q .next s₁) (hr : ∀ vm₁ v s₁, PostT W H sc env vm st s fl vm₁ st' (.ret v) s₁ → Q (.ret v) s₁) :
    wpAny (model W.prog W.w) A (execs body env) Q Er s := by
  refine thn_e e ?_ ?_ <;> clear e
  · intro st₁ h1 h2
    refine hb _ _ _ _ _ _ _ _ _ _ R tk fit h1 fun vm₁ f s₁ P => ?_
    obtain rfl := P.flow
    exact hn vm₁ st₁ s₁ P h2
  · intro t h1 e
    subst e
    refine hb _ _ _ _ _ _ _ _ _ _ R tk fit h1 fun vm₁ f s₁ P => ?_
    obtain ⟨v, rfl, r⟩ := P.flow
    exact hr vm₁ v s₁ P
theorem t_while (C : Cx W F G n) {k : Nat} {c : E} {b : Ss} {v : PySem.Expr} {body : List PySem.Stmt} {pos : Pos} (h : PE W.nm sc c v) (hb : STs W F G n sc b body) : ST W F G n sc (.whil k c b) (.While v body [] pos) := by
  intro H env vm st fl st' s A Er Q R tk fit he hQ
  refine wpAny_While (codeAny_whileLoop (fun m s₁ => ∃ vm₁ st₁, Rel W H sc env vm₁ st₁ s₁.heap ∧ Stp (Pv sc env vm st) s.heap (Pv sc env vm₁ st₁) s₁.heap ∧ Alike s s₁ ∧ 1 ≤ s₁.toks ∧ evWhile (evB gF F G c) (evSs gF F G b) m st₁ = some (fl, st')) ?_ k
    ⟨vm, st, R, .refl, .refl, tk, he⟩)
  rintro m s₁ ⟨vm₁, st₁, R₁, S₁, al₁, tk₁, e⟩
  cases m with
  | zero => exact nomatch e
  | succ m =>
    refine be e ?_; clear e; intro x st₂ h1 e
    refine snd_B C c sc v h _ _ _ _ _ _ _ _ _ _ R₁ tk₁ fit h1 fun s₂ P => ?_
    cases x with
    | true =>
      refine body_ok hb P.rel P.toks fit e (fun vm₃ st₃ s₃ P₃ e => ?_) fun vm₃ v s₃ P₃ => hQ vm₃ _ _ (.back (S₁.trans P.jn.stp) (al₁.trans P.jn.alike) P₃)
      exact ⟨m, Nat.lt_succ_self _, vm₃, st₃, P₃.rel, S₁.trans (P.jn.stp.trans P₃.stp), al₁.trans (P.jn.alike.trans P₃.alike), P₃.toks, e⟩
    | false =>
      cases e
      exact wpAny_execs_nil (hQ vm₁ _ _ (.of P.rel (S₁.trans P.jn.stp) (al₁.trans P.jn.alike) P.toks))

theorem t_for (C : Cx W F G n) {x : Nat} {it : E} {b : Ss} {v : PySem.Expr} {body : List PySem.Stmt} {q pos : Pos} (hw : isW sc (W.nm x) = true) (h : PE W.nm sc it v) (hb : STs W F G n sc b body) : ST W F G n sc (.for x it b) (.For (.Name (W.nm x) q) v body [] pos) := by
  intro H env vm st fl st' s A Er Q R tk fit he hQ
  refine be he ?_; clear he; intro o st₁ h1 he
  refine be he ?_; clear he; intro t st₂ h2 he
  refine oe he ?_; clear he; intro items h3 he
  refine wpAny_For (snd_E C it sc v h _ _ _ _ _ _ _ _ _ _ R tk fit h1 fun v₁ s₁ P => ?_) (fold_of h env)
  obtain ⟨R₁, o₁⟩ := P.low
  obtain ⟨R₂, S₂, D₂, rt⟩ := esc_ok R₁ o₁ ((esc_low _ _).trans h2)
  have hI : s₁.heap.get? s₁.heap.objs.size = none := get?_big (Nat.le_refl _)
  have nHI : ¬ H s₁.heap.objs.size := fun k => by obtain ⟨⟨o, e⟩, _⟩ := R₂.hid _ k; rw [hI] at e; cases e
  have bI : W.hb.get? s₁.heap.objs.size = none := by
    cases e : W.hb.get? s₁.heap.objs.size with
    | none => rfl
    | some o => have := R₂.base _ o e; rw [hI] at this; cases this
  have trI : Tr (Ok H sc env vm st₂) s₁.heap (Ok (fun a => H a ∨ a = s₁.heap.objs.size) sc env vm st₂) s₁.heap := fun a o k e =>
    ⟨⟨k.1, fun q => q.elim k.2 fun q => by subst q; rw [hI] at e; cases e⟩, e⟩
  refine iter_ok (ok := Ok (fun a => H a ∨ a = s₁.heap.objs.size) sc env vm st₂) fit.1 h3 (rep_tr trI rt) fun o fp Px Sx It st₀ => ?_
  have g : Grown s₁.heap (s₁.heap.push o) := .push o
  have hIo : ∃ o', (s₁.heap.push o).get? s₁.heap.objs.size = some o' := It.live 0 _ st₀ _ (It.walks.sub _ (List.mem_singleton.mpr rfl))
  have R₃ : Rel W (fun a => H a ∨ a = s₁.heap.objs.size) sc env vm st₂ (s₁.heap.push o) := R₂.grow g fun a k => k.imp id fun e => by subst e; exact ⟨hI, hIo⟩
  refine codeAny_forLoop (fun k s' => ∃ i vm' st'', k = items.length + 1 - i ∧ i ≤ items.length ∧ Sx i s'.heap ∧ Rel W (fun a => H a ∨ a = s₁.heap.objs.size) sc env vm' st'' s'.heap ∧ Stp (Pv sc env vm st₂) s₁.heap (Pv sc env vm' st'') s'.heap ∧
    Alike s₁ s' ∧ 1 ≤ s'.toks ∧ evFor (evSs gF F G b) x (items.drop i) st'' = some (fl, st')) ?_ (items.length + 1)
    ⟨0, vm, st₂, rfl, Nat.zero_le _, st₀, R₃, g.stp fun _ p => p, ⟨rfl, rfl⟩, P.toks, he⟩
  rintro k s₂ ⟨i, vm₂, st₃, rfl, hi, hst, R₄, S₄, al₄, tk₄, ef⟩
  rcases Nat.lt_or_ge i items.length with hlt | hge
  · have hdrop : items.drop i = items[i] :: items.drop (i + 1) := by simp [hlt]
    rw [hdrop] at ef
    refine wpAny_with_toks tk₄ (It.walks.item i s₂ _ _ hlt hst fun u h₁ tk₅ hPv hst₅ hk₅ htk₅ => ?_)
    dsimp only at htk₅ ⊢
    have kI : ∀ c o, c ≠ s₁.heap.objs.size → s₂.heap.get? c = some o → h₁.get? c = some o := fun c o nI e => hk₅ c o (by simpa using nI) e
    have R₅ : Rel W (fun a => H a ∨ a = s₁.heap.objs.size) sc env vm₂ st₃ h₁ := R₄.hidden (.inr rfl) (It.ncell i _ hst) kI (It.live _ _ hst₅ _ (It.walks.sub _ (List.mem_singleton.mpr rfl))) bI
    have S₅ : Stp (Pv sc env vm st₂) s₁.heap (Pv sc env vm₂ st₃) h₁ := ⟨fun a o np e => kI a o (fun q => by subst q; rw [hI] at e; cases e) (S₄.keep a o np e), S₄.priv⟩
    have ru : Rep W (Ok (fun a => H a ∨ a = s₁.heap.objs.size) sc env vm₂ st₃) h₁ items[i] u := rep_tr (S₅.tr _) (It.vals i items[i] u hPv (by simp [hlt]))
    have fpk : ∀ (vm₇ : Nat → Option Value) (st₇ : St) (h₇ : Heap), Stp (Pv sc env vm₂ st₃) h₁ (Pv sc env vm₇ st₇) h₇ → Sx (i + 1) h₇ := fun vm₇ st₇ h₇ S₇ => by
      refine It.walks.frame _ h₁ _ hst₅ fun b hb o e => ?_
      rcases It.fpok b hb with rfl | ⟨k, o', e'⟩
      · exact S₇.keep _ o (R₅.hid _ (.inr rfl)).2 e
      · exact S₇.keep b o (fun p => (S₅.priv b p).elim k.1 fun q => by rw [e'] at q; cases q) e
    refine wpAny_assign_Name (store_val (s := { s₂ with heap := h₁, toks := tk₅ }) R₅ hw ru fun s₆ P₆ => ?_)
    have tk₆ : 1 ≤ s₆.toks := Nat.le_trans htk₅ P₆.toks
    have al₆ : Alike s₁ s₆ := al₄.trans (Alike.trans (s₁ := { s₂ with heap := h₁, toks := tk₅ }) ⟨rfl, rfl⟩ P₆.alike)
    refine body_ok hb P₆.rel tk₆ fit ef (fun vm₇ st₇ s₇ P₇ ef => ?_) fun vm₇ z s₇ P₇ => hQ vm₇ _ _ ?_
    · exact ⟨items.length + 1 - (i + 1), by omega, i + 1, vm₇, st₇, rfl, hlt, fpk _ _ _ (P₆.stp.trans P₇.stp), P₇.rel, S₅.trans (P₆.stp.trans P₇.stp), al₆.trans P₇.alike, P₇.toks, ef⟩
    · refine ⟨P₇.rel.unhide fun a k => .inl k, P.stp.trans (S₂.trans (S₅.trans (P₆.stp.trans P₇.stp))), P.alike.trans (al₆.trans P₇.alike), P₇.toks, ?_⟩
      cases fl with
      | next => exact nomatch P₇.flow
      | ret w => obtain ⟨z', e, r⟩ := P₇.flow; exact ⟨z', e, rep_tr (fun a o k e => ⟨⟨k.1, fun q => k.2 (.inl q)⟩, e⟩) r⟩
  · have hi' : i = items.length := by omega
    subst hi'
    rw [List.drop_length] at ef
    cases ef
    refine wpAny_with_toks tk₄ (It.walks.done s₂ _ _ hst fun h₁ tk₅ hk₅ htk₅ => ?_)
    dsimp only at htk₅ ⊢
    have kI : ∀ c o, c ≠ s₁.heap.objs.size → s₂.heap.get? c = some o → h₁.get? c = some o := fun c o nI e => hk₅ c o (by simpa using nI) e
    have R₅ : Rel W H sc env vm₂ st' h₁ := R₄.hiddenTo (.inr rfl) (It.ncell _ _ hst) kI (fun a k => .inl k) (fun k => absurd k nHI) bI
    have S₅ : Stp (Pv sc env vm st₂) s₁.heap (Pv sc env vm₂ st') h₁ := ⟨fun a o np e => kI a o (fun q => by subst q; rw [hI] at e; cases e) (S₄.keep a o np e), S₄.priv⟩
    exact wpAny_execs_nil (hQ vm₂ _ _ (.of R₅ (P.stp.trans (S₂.trans S₅)) ⟨(P.alike.trans al₄).gens, (P.alike.trans al₄).os⟩ htk₅))

/-! several names at once -/
theorem pv_get {env : Env} {vm : Nat → Option Value} {st st' : St} (e : ∀ i, st'.get i = st.get i) : Pv sc env vm st' = Pv sc env vm st := by
  funext a
  unfold Pv
  simp only [e]

theorem rel_get {H : Addr → Prop} {env : Env} {vm : Nat → Option Value} {st st' : St} {h : Heap} (R : Rel W H sc env vm st h) (e : ∀ i, st'.get i = st.get i) : Rel W H sc env vm st' h := by
  have pv : Pv sc env vm st' = Pv sc env vm st := pv_get e
  have ok : Ok H sc env vm st' = Ok H sc env vm st := by
    funext a
    unfold Ok
    rw [pv]
  exact { R with
    vals := fun i t b q => by rw [ok]; exact R.vals i t b (by rw [← e]; exact q)
    own := fun i t q => R.own i t (by rw [← e]; exact q)
    one := fun i j a t u q1 q2 => R.one i j a t u (by rw [← e]; exact q1) (by rw [← e]; exact q2)
    priv := fun a p => R.priv a (by rw [← pv]; exact p)
    hid := fun a k => by rw [pv]; exact R.hid a k }
noncomputable def Eqv (st st' : St) : Prop := ∀ i, st'.get i = st.get i
theorem Eqv.set {a b : St} (h : Eqv a b) (x : Nat) (t : T) (c : Bool) : Eqv (a.set x t c) (b.set x t c) := fun i => by rw [St.get_set, St.get_set, h i]
theorem set_comm (st : St) {x y : Nat} (h : x ≠ y) (t u : T) (b c : Bool) : Eqv ((st.set x t b).set y u c) ((st.set y u c).set x t b) := fun i => by
  rw [St.get_set, St.get_set, St.get_set, St.get_set]
  by_cases q : x = i
  · rw [if_pos q, if_pos q, if_neg fun w => h (q.trans w.symm)]
  · rw [if_neg q, if_neg q]
theorem setAll_front {x : Nat} {t : T} {xs : List Nat} : ∀ {ts : List T} {st a s₁ : St}, x ∉ xs → Eqv (st.set x t false) a → setAll a xs ts = some s₁ → ∃ s₀, setAll st xs ts = some s₀ ∧ Eqv (s₀.set x t false) s₁ := by
  induction xs with
  | nil => exact fun {ts st a s₁} _ h e => ge e fun q e => ⟨st, by rw [isE q]; rfl, Option.some.inj e ▸ h⟩
  | cons y ys ih =>
    intro ts st a s₁ hx h e
    refine setAll_cons e ?_; clear e; intro u us q e
    subst q
    exact ih (fun k => hx (List.mem_cons_of_mem _ k)) (fun i => ((h.set y u false) i).trans (set_comm st (fun q => hx (by rw [q]; exact List.mem_cons_self)) t u false false i).symm) e
theorem setAll_snoc {x : Nat} {t : T} {xs : List Nat} : ∀ {ts : List T} {st s : St}, setAll st xs ts = some s → setAll st (xs ++ [x]) (ts ++ [t]) = some (s.set x t false) := by
  induction xs with
  | nil => exact fun {ts st s} e => ge e fun q e => by rw [isE q, ← Option.some.inj e]; rfl
  | cons y ys ih =>
    intro ts st s e
    refine setAll_cons e ?_; clear e; intro u us q e
    subst q
    exact ih e
theorem setAll_rev {xs : List Nat} : ∀ {ts : List T} {st st' : St}, xs.Nodup → setAll st xs ts = some st' → ∃ st'', setAll st xs.reverse ts.reverse = some st'' ∧ Eqv st' st'' := by
  induction xs with
  | nil => exact fun {ts st st'} _ e => ge e fun q e => ⟨st, by rw [isE q]; rfl, Option.some.inj e ▸ fun _ => rfl⟩
  | cons x xs ih =>
    intro ts st st' hn e
    refine setAll_cons e ?_; clear e; intro t us q e
    subst q
    rw [List.nodup_cons] at hn
    obtain ⟨s₀, e₀, g₀⟩ := setAll_front hn.1 (fun _ => rfl) e
    obtain ⟨s₁, e₁, g₁⟩ := ih hn.2 e₀
    refine ⟨s₁.set x t false, ?_, fun i => ((g₁.set x t false) i).trans (g₀ i).symm⟩
    rw [List.reverse_cons, List.reverse_cons]
    exact setAll_snoc e₁
end
end MP
end

section -- MpStm4
open PySem PySem.W PyProof.Rows
namespace MP
section
variable {W : Wd} {F : FTab} {G : Nat → Option T} {n : Nat} {sc : Sc}

theorem nodupB_of : ∀ {l : List Str}, nodupB l = true → l.Nodup
  | [], _ => List.nodup_nil
  | x :: r, h => by
    simp only [nodupB, Bool.and_eq_true, Bool.not_eq_true'] at h
    refine List.nodup_cons.mpr ⟨fun hm => ?_, nodupB_of h.2⟩
    have := h.1
    rw [List.any_eq_false] at this
    exact this x hm (beq_self_eq_true x)
theorem nodup_of_map {f : Nat → Str} : ∀ {l : List Nat}, (l.map f).Nodup → l.Nodup
  | [], _ => List.nodup_nil
  | x :: r, h => by
    rw [List.map_cons, List.nodup_cons] at h
    exact List.nodup_cons.mpr ⟨fun q => h.1 (List.mem_map.mpr ⟨x, q, rfl⟩), nodup_of_map h.2⟩
theorem eraseDups_nodup : ∀ {l : List Str}, l.Nodup → l.eraseDups = l
  | [], _ => by simp
  | x :: r, h => by
    rw [List.nodup_cons] at h
    rw [List.eraseDups_cons]
    have : r.filter (fun b => !(b == x)) = r := by
      rw [List.filter_eq_self]
      intro a ha
      have : a ≠ x := fun q => h.1 (q ▸ ha)
      simpa using this
    rw [this, eraseDups_nodup h.2]

theorem star_none {nm : Nat → Str} : ∀ {es : Es} {vs : List PySem.Expr}, PEs nm sc es vs → (vs.any fun | .Starred .. => true | _ => false) = false
  | .nil, vs, h => by
    have h : vs = [] := h
    subst h; rfl
  | .cons e es, vs, h => by
    obtain ⟨p, ps, rfl, h1, h2⟩ := h
    rw [List.any_cons, Bool.or_eq_false_iff]
    have k := okX_of h1
    exact ⟨by cases p <;> first | rfl | exact Bool.noConfusion k, star_none h2⟩

theorem names_all {nm : Nat → Str} {env : Env} {line : Nat} : ∀ {xs : List Nat} {ts : List PySem.Expr}, PNms nm sc xs ts → (ts.all fun | .Name n pos => isL sc n && pos.line == line | _ => false) = true → (∀ x, sc.lookup x = some .local → env.kindOf x = some .local) →
    (ts.filterMap fun | .Name id pos => if env.kindOf id == some .local && pos.line == line then some id else none | _ => none) = xs.map nm
  | [], ts, h, _, _ => by
    have h : ts = [] := h
    subst h; rfl
  | x :: xs, ts, h, ha, hk => by
    obtain ⟨t, r, rfl, ⟨q, rfl, _⟩, h2⟩ := h
    rw [List.all_cons, Bool.and_eq_true] at ha
    have ha1 := ha.1
    dsimp only at ha1
    rw [Bool.and_eq_true] at ha1
    have hl := hk _ (isL_of ha1.1)
    have ih := names_all (env := env) (line := line) h2 ha.2 hk
    rw [List.filterMap_cons]
    simp only [hl, beq_self_eq_true, Bool.true_and, ha1.2, if_true, List.map_cons]
    rw [ih]

theorem swapped_of {nm : Nat → Str} {env : Env} {xs : List Nat} {es : Es} {ts vs : List PySem.Expr} {k k' : Nat} {p q : Pos} (hT : PNms nm sc xs ts) (hS : PEs nm sc es vs) (hL : sameLine sc ts = true) (hd : nodupB (xs.map nm) = true)
    (h23 : (Nat.beq xs.length 2 || Nat.beq xs.length 3) = true) (hv : Nat.beq vs.length xs.length = true) (hf : ((vs.all (foldedForSure 8)) || !(vs.all (constantsAlone 8))) = true) (hb : env.scope.kind = .function) (hk : ∀ x, sc.lookup x = some .local → env.kindOf x = some .local) :
    (vs.all (foldedForSure 8) = true ∧ swappedStores [.Tuple ts k p] (.Tuple vs k' q) env = pure none) ∨ swappedStores [.Tuple ts k p] (.Tuple vs k' q) env = pure (some (xs.map nm)) := by
  have hlen : ts.length = xs.length := (nms_of hT).2
  have hvl := Nat.eq_of_beq_eq_true hv
  have h1 : (ts.length == 2 || ts.length == 3) = true := by
    rw [hlen]
    simpa using h23
  have hbk : env.blockKind = .function := by unfold Env.blockKind; rw [hb]; rfl
  have hn := names_all (env := env) (line := (ts.head?.map (fun t => t.pos.line)).getD 0) hT (by unfold sameLine at hL; exact hL) hk
  have h2 : ¬ (!(ts.length == 2 || ts.length == 3) || vs.length != ts.length || env.blockKind != .function) = true := by
    rw [h1, hvl, hlen, hbk]
    simp
  have h3 : ¬ (vs.any fun | .Starred .. => true | _ => false) = true := by rw [star_none hS]; decide
  have h4 : ¬ (((ts.filterMap fun | .Name id pos => if env.kindOf id == some .local && pos.line == (ts.head?.map (fun t => t.pos.line)).getD 0 then some id else none | _ => none).length != ts.length ||
      (ts.filterMap fun | .Name id pos => if env.kindOf id == some .local && pos.line == (ts.head?.map (fun t => t.pos.line)).getD 0 then some id else none | _ => none).eraseDups.length !=
      (ts.filterMap fun | .Name id pos => if env.kindOf id == some .local && pos.line == (ts.head?.map (fun t => t.pos.line)).getD 0 then some id else none | _ => none).length) = true) := by
    rw [hn, eraseDups_nodup (nodupB_of hd), List.length_map, hlen]
    simp
  cases hv8 : vs.all (foldedForSure 8) with
  | true =>
    left
    exact ⟨rfl, (if_neg h2).trans ((if_neg h3).trans ((if_neg h4).trans (if_pos hv8)))⟩
  | false =>
    right
    rw [hv8] at hf
    simp only [Bool.false_or, Bool.not_eq_true'] at hf
    refine (if_neg h2).trans ((if_neg h3).trans ((if_neg h4).trans ((if_neg (by rw [hv8]; decide)).trans ((if_neg (by rw [hf]; decide)).trans ?_))))
    exact congrArg (fun l => (pure (some l) : Sem (Option (List Str)))) hn

theorem t_assignTup (C : Cx W F G n) {xs : List Nat} {es : Es} {ts vs : List PySem.Expr} {k k' : Nat} {p q pos : Pos} (hT : PNms W.nm sc xs ts) (hS : PEs W.nm sc es vs) (hL : sameLine sc ts = true) (hd : nodupB (xs.map W.nm) = true)
    (h23 : (Nat.beq xs.length 2 || Nat.beq xs.length 3) = true) (hv : Nat.beq vs.length xs.length = true) (hf : ((vs.all (foldedForSure 8)) || !(vs.all (constantsAlone 8))) = true) : ST W F G n sc (.assignTup xs es) (.Assign [.Tuple ts k p] (.Tuple vs k' q) pos) := by
  intro H env vm st fl st' s A Er Q R tk fit he hQ
  refine be he ?_; clear he; intro ops st₁ h1 he
  refine be he ?_; clear he; intro tv st₂ h2 he
  refine oe he ?_; clear he; intro st₃ h3 he
  cases he
  have hxs : xs.length ≤ 3 := by
    rw [Bool.or_eq_true] at h23
    rcases h23 with w | w <;> (have := Nat.eq_of_beq_eq_true w; omega)
  -- the tuple is made
  have made : ∀ (Q' : Value → Shared → Prop), (∀ vs₁ s₁, Rel W H sc env vm st₂ (s₁.heap.push { cls := .type "tuple", data := .seq vs₁.toArray }) → Stp (Pv sc env vm st) s.heap (Pv sc env vm st₂) (s₁.heap.push { cls := .type "tuple", data := .seq vs₁.toArray }) → Alike s s₁ → 1 ≤ s₁.toks →
      Reps W (Ok H sc env vm st₂) (s₁.heap.push { cls := .type "tuple", data := .seq vs₁.toArray }) tv vs₁ → Rep W (Ok H sc env vm st₂) (s₁.heap.push { cls := .type "tuple", data := .seq vs₁.toArray }) (.tuple tv) (.ref s₁.heap.objs.size) →
      Q' (.ref s₁.heap.objs.size) { s₁ with heap := s₁.heap.push { cls := .type "tuple", data := .seq vs₁.toArray } }) → wpAny (model W.prog W.w) A (eval (.Tuple vs k' q) env) Q' Er s := by
    intro Q' hQ'
    refine Tuple_ (snd_Es C es sc vs hS q _ _ _ _ _ _ _ _ _ _ R tk fit h1 fun vs₁ s₁ P => ?_)
    obtain ⟨R₂, S₂, D₂, r⟩ := escs_ok P.rel P.ops h2
    have hl := setAll_len h3
    have hr := reps_len r
    refine wpAny_newTuple (hQ' vs₁ s₁ (R₂.grow (.push _) fun a k => .inl k) ((P.jn.stp.trans S₂).trans ((Grown.push _).stp fun _ p => p)) P.jn.alike P.toks (reps_tr (Grown.tr (.push _)) r) ?_) (by rw [sizeLine_v]; omega)
    have := (Res.newTuple (L := env.locals) (fun a => R₂.okBig) r).2.2
    exact this
  have hh := fit.1
  rcases swapped_of (k := k) (k' := k') (p := p) (q := q) hT hS hL hd h23 hv hf R.kind R.kl with ⟨_, hw⟩ | hw
  · refine Assign_Tuple (made _ fun vs₁ s₁ R₁ S₁ al tk₁ rs r => ?_) rfl hw
    refine bind_ok (tg := .tup xs) (s := { s₁ with heap := s₁.heap.push { cls := .type "tuple", data := .seq vs₁.toArray } }) ⟨_, _, _, rfl, hT⟩ hh R₁ r h3 fun vm' s' P hag => ?_
    exact hQ vm' _ _ (.of P.rel (S₁.trans P.stp) ⟨P.alike.gens.trans al.gens, P.alike.os.trans al.os⟩ (Nat.le_trans tk₁ P.toks))
  · refine Assign_Tuple_swapped (names := xs.map W.nm) (made _ fun vs₁ s₁ R₁ S₁ al tk₁ rs r => ?_) rfl hw
    have hlen : (xs.map W.nm).length = vs₁.toArray.size := by rw [List.length_map, List.size_toArray, ← reps_len rs, setAll_len h3]
    rw [hlen]
    refine unpackItems_tuple (s := { s₁ with heap := s₁.heap.push { cls := .type "tuple", data := .seq vs₁.toArray } }) hh ⟨_, Heap.get?_push_size _ rfl, rfl, 0, rfl⟩ fun h₂ he₂ => ?_
    have g : Grown (s₁.heap.push { cls := .type "tuple", data := .seq vs₁.toArray }) h₂ := ⟨fun a o q => he₂ a o (fun w => by subst w; exact absurd (Heap.lt_size q) (Nat.lt_irrefl _)) q⟩
    have R₂ := R₁.grow (H' := H) g fun a k => .inl k
    have hxn : xs.Nodup := by
      have := nodupB_of hd
      exact nodup_of_map this
    obtain ⟨st'', e'', g''⟩ := setAll_rev hxn h3
    have em : ((xs.map W.nm).reverse.map fun n => bindName env n) = xs.reverse.map fun i => bindName env (W.nm i) := by
      rw [← List.map_reverse, List.map_map]; rfl
    rw [em]
    have hwx := (nms_of hT).1
    refine stores_ok (Stos.map (f := fun i => bindName env (W.nm i)) (fun i v Q s h => wpAny_bindName h) _) (s := { s₁ with heap := h₂ }) R₂ (fun x hx => hwx x (List.mem_reverse.mp hx)) (by simpa using reps_rev (reps_tr (Grown.tr g) rs)) e'' fun vm' s' P hag => ?_
    have R₃ := rel_get (st' := st') P.rel fun i => (g'' i).symm
    have S₃ := P.stp
    rw [← pv_get (st := st'') (st' := st') fun i => (g'' i).symm] at S₃
    exact hQ vm' _ _ (.of R₃ (S₁.trans ((g.stp fun _ p => p).trans S₃)) ⟨P.alike.gens.trans al.gens, P.alike.os.trans al.os⟩ (Nat.le_trans tk₁ P.toks))
end
end MP
end

section -- MpStm5
open PySem PySem.W PyProof.Rows
namespace MP
section
variable {W : Wd} {F : FTab} {G : Nat → Option T} {n : Nat} {sc : Sc}

theorem t_assignNew {x y : Nat} {pa pb p1 q1 q2 q3 pos : Pos} {k1 k2 : Nat} (hx : isL sc (W.nm x) = true) (hy : isL sc (W.nm y) = true) (hxy : W.nm x ≠ W.nm y) (hl : pa.line = pb.line) :
    ST W F G n sc (.assignNew x y) (.Assign [.Tuple [.Name (W.nm x) pa, .Name (W.nm y) pb] k1 p1] (.Tuple [.List [] q1, .List [] q2] k2 q3) pos) := by
  intro H env vm st fl st' s A Er Q R tk fit he hQ
  cases he
  have wx : isW sc (W.nm x) = true := by unfold isW; rw [isL_of hx]
  have wy : isW sc (W.nm y) = true := by unfold isW; rw [isL_of hy]
  have hw : swappedStores [.Tuple [.Name (W.nm x) pa, .Name (W.nm y) pb] k1 p1] (.Tuple [.List [] q1, .List [] q2] k2 q3) env = pure (some ([x, y].map W.nm)) := by
    have hnx : nodupB ([x, y].map W.nm) = true := by
      simp [nodupB]
      exact fun q => hxy q.symm
    rcases swapped_of (nm := W.nm) (sc := sc) (env := env) (xs := [x, y]) (es := .cons (.list .nil) (.cons (.list .nil) .nil)) (ts := [.Name (W.nm x) pa, .Name (W.nm y) pb]) (vs := [.List [] q1, .List [] q2]) (k := k1) (k' := k2) (p := p1) (q := q3)
      ⟨_, _, rfl, ⟨_, rfl, wx⟩, _, _, rfl, ⟨_, rfl, wy⟩, rfl⟩ ⟨_, _, rfl, ⟨_, _, rfl, rfl⟩, _, _, rfl, ⟨_, _, rfl, rfl⟩, rfl⟩ (by simp [sameLine, hx, hy, hl]; exact hl.symm) hnx rfl rfl rfl R.kind R.kl with w | w
    · exact absurd w.1 Bool.false_ne_true
    · exact w
  have hh := fit.1
  refine Assign_Tuple_swapped (names := [x, y].map W.nm) (Tuple_ ?_) rfl hw
  refine Calls.spliced_cons (x := eval (.List [] q1) env) (rest := [(false, eval (.List [] q2) env)]) (List_ (Calls.spliced_nil (wpAny_newList ?_ (Nat.zero_le _))))
  refine Calls.spliced_cons (x := eval (.List [] q2) env) (rest := []) (List_ (Calls.spliced_nil (wpAny_newList (Calls.spliced_nil (wpAny_newTuple ?_ (by rw [sizeLine_v]; simp))) (Nat.zero_le _))))
  dsimp only
  have hD1 : s.heap.get? s.heap.objs.size = none := get?_big (Nat.le_refl _)
  generalize eh₁ : s.heap.push { cls := .type "list", data := .seq ([] : List Value).toArray } = h₁
  have sz₁ : h₁.objs.size = s.heap.objs.size + 1 := by rw [← eh₁, Heap.size_push]
  have g₁ : Grown s.heap h₁ := by rw [← eh₁]; exact .push _
  have pl1 : h₁.PlainList s.heap.objs.size ([] : List Value).toArray := ⟨0, by rw [← eh₁]; exact Heap.get?_push_size _ rfl⟩
  have hD2 : s.heap.get? h₁.objs.size = none := get?_big (by rw [sz₁]; exact Nat.le_succ _)
  generalize eh₂ : h₁.push { cls := .type "list", data := .seq ([] : List Value).toArray } = h₂
  have g₂ : Grown h₁ h₂ := by rw [← eh₂]; exact .push _
  have pl2 : h₂.PlainList h₁.objs.size ([] : List Value).toArray := ⟨0, by rw [← eh₂]; exact Heap.get?_push_size _ rfl⟩
  have ne12 : s.heap.objs.size ≠ h₁.objs.size := by rw [sz₁]; exact Nat.ne_of_lt (Nat.lt_succ_self _)
  have two : ([x, y].map W.nm).length = ([Value.ref s.heap.objs.size, Value.ref h₁.objs.size] : List Value).toArray.size := rfl
  rw [two]
  refine unpackItems_tuple (s := { s with heap := h₂.push { cls := .type "tuple", data := .seq [Value.ref s.heap.objs.size, Value.ref h₁.objs.size].toArray } }) hh ⟨_, Heap.get?_push_size _ rfl, rfl, 0, rfl⟩ fun h₄ he₄ => ?_
  have g₄ : Grown h₂ h₄ := ⟨fun a o q => he₄ a o (fun w => by
    have e := Heap.get?_push_of_some { cls := .type "tuple", data := .seq [Value.ref s.heap.objs.size, Value.ref h₁.objs.size].toArray } q
    subst w; exact absurd (Heap.lt_size e) (Nat.lt_irrefl _)) (Heap.get?_push_of_some _ q)⟩
  have g : Grown s.heap h₄ := g₁.trans (g₂.trans g₄)
  have p1' : h₄.PlainList s.heap.objs.size ([] : List Value).toArray := Heap.PlainList.at'' pl1 fun o e => (g₂.trans g₄).keep _ o e
  have p2' : h₄.PlainList h₁.objs.size ([] : List Value).toArray := Heap.PlainList.at'' pl2 fun o e => g₄.keep _ o e
  have bnone : ∀ a, s.heap.get? a = none → W.hb.get? a = none := fun a q => by
    cases e : W.hb.get? a with
    | none => rfl
    | some o => have := R.base a o e; rw [q] at this; cases this
  have Hnone : ∀ a, s.heap.get? a = none → ¬ H a := fun a q k => by obtain ⟨⟨o, e⟩, _⟩ := R.hid a k; rw [q] at e; cases e
  have R₁ : Rel W (fun a => (H a ∨ a = s.heap.objs.size) ∨ a = h₁.objs.size) sc env vm st h₄ := R.grow g fun a k => by
    rcases k with (k | k) | k
    · exact .inl k
    · rw [k]; obtain ⟨n', e⟩ := p1'; exact .inr ⟨hD1, _, e⟩
    · rw [k]; obtain ⟨n', e⟩ := p2'; exact .inr ⟨hD2, _, e⟩
  show wpAny _ A (assignInOrder [bindName env (W.nm y), bindName env (W.nm x)] [.ref h₁.objs.size, .ref s.heap.objs.size]) _ _ _
  have B2 : Body W (Ok (fun a => (H a ∨ a = s.heap.objs.size) ∨ a = h₁.objs.size) sc env vm st) h₄ (.list []) (.ref h₁.objs.size) := ⟨_, [], rfl, p2', rfl⟩
  refine assignInOrder_cons (wpAny_bindName (store_ok (s := { s with heap := h₄ }) (H := fun a => H a ∨ a = s.heap.objs.size) (b := true) R₁ wy (fun a k => .inl k) B2 (fun q => by cases q) (fun _ => ⟨_, rfl, .inr rfl, ?_, (by intro g q; cases q), plainNoCell p2', bnone _ hD2⟩) fun s₅ tk₅ al₅ R₅ S₅ K₅ => ?_))
  · rintro (k | k)
    · exact Hnone _ hD2 k
    · exact ne12 k.symm
  · have p1'' : s₅.heap.PlainList s.heap.objs.size ([] : List Value).toArray := Heap.PlainList.at'' p1' fun o e => K₅ _ o (R₁.hid _ (.inl (.inr rfl))).2 e
    have B1 : Body W (Ok (fun a => H a ∨ a = s.heap.objs.size) sc env (vset vm y (.ref h₁.objs.size)) (st.set y (.list []) true)) s₅.heap (.list []) (.ref s.heap.objs.size) := ⟨_, [], rfl, p1'', rfl⟩
    refine assignInOrder_cons (wpAny_bindName (store_ok (H := H) (b := true) R₅ wx (fun a k => .inl k) B1 (fun q => by cases q) (fun _ => ⟨_, rfl, .inr rfl, Hnone _ hD1, (by intro g q; cases q), plainNoCell p1'', bnone _ hD1⟩) fun s₆ tk₆ al₆ R₆ S₆ K₆ => assignInOrder_nil ?_))
    have ne : x ≠ y := fun q => hxy (by rw [q])
    have eg := set_comm st (Ne.symm ne) (.list []) (.list []) true true
    have R₇ := rel_get (st' := (st.set x (.list []) true).set y (.list []) true) R₆ eg
    have S₇ := S₆ _ _ (S₅ _ _ (g.stp (P := Pv sc env vm st) (P' := Pv sc env vm st) fun _ p => p) fun _ a e => by cases e; exact .inr hD2) fun _ a e => by cases e; exact .inr hD1
    rw [← pv_get (st := (st.set y (.list []) true).set x (.list []) true) (st' := (st.set x (.list []) true).set y (.list []) true) eg] at S₇
    refine hQ _ _ _ (.of R₇ S₇ ⟨al₆.gens.trans al₅.gens, al₆.os.trans al₅.os⟩ (Nat.le_trans tk (Nat.le_trans tk₅ tk₆)))

variable (C : Cx W F G n)
include C
mutual
theorem snd_S : ∀ (x : S) (p : PySem.Stmt), PS W.nm sc x p → ST W F G n sc x p
  | .assign x e, p, h => by obtain ⟨q, v, pos, rfl, h1, h2⟩ := h; exact t_assign C h1 h2
  | .assignTup xs es, p, h => by
    obtain ⟨ts, k, q, vs, k', q', pos, rfl, h1, h2, h3⟩ := h
    exact t_assignTup C h1 h2 (and2 (and2 (and2 (and2 h3).1).1).1).1 (and2 (and2 (and2 (and2 h3).1).1).1).2 (and2 (and2 (and2 h3).1).1).2 (and2 (and2 h3).1).2 (and2 h3).2
  | .assignNew x y, p, h => by
    obtain ⟨pa, pb, k1, p1, q1, q2, k2, q3, pos, rfl, h1, h2, h3, h4⟩ := h
    exact t_assignNew h1 h2 (beq_eq_false_iff_ne.mp h3) (eq_of_beq h4)
  | .setItem x i e, p, h => by obtain ⟨q, k, r, v, pos, rfl, h1, h2, h3⟩ := h; exact t_setItem C h1 h2 h3
  | .aug x o e, p, h => by obtain ⟨q, v, pos, rfl, h1, h2, h3, h4⟩ := h; exact t_aug C h1 h2 h3 h4
  | .augc x o e, p, h => by
    obtain ⟨q, v, pos, rfl, h1, h2, h3, h4⟩ := h
    have hV : isV sc (W.nm x) = true := by
      have hw := isW_of h1
      unfold isV
      rcases hw with w | w <;> rw [w]
    exact t_augc C hV h1 h2 h3 h4
  | .augItem x i e, p, h => by obtain ⟨q, k, r, v, pos, rfl, h1, h2, h3, h4⟩ := h; exact t_augItem C h1 h2 h3 h4
  | .expr e, p, h => by obtain ⟨v, pos, rfl, h1, h2⟩ := h; exact t_expr C h1 h2
  | .iff c a b, p, h => by obtain ⟨t, x, y, pos, rfl, h1, h2, h3⟩ := h; exact t_if C h1 (snd_Ss a _ h2) (snd_Ss b _ h3)
  | .whil k c b, p, h => by obtain ⟨t, x, pos, rfl, h1, h2⟩ := h; exact t_while C h1 (snd_Ss b _ h2)
  | .for x it b, p, h => by obtain ⟨q, i, body, pos, rfl, h1, h2, h3⟩ := h; exact t_for C h1 h2 (snd_Ss b _ h3)
  | .ret e, p, h => by obtain ⟨v, pos, rfl, h1⟩ := h; exact t_ret C h1
  | .del x i, p, h => by obtain ⟨q, k, r, pos, rfl, h1, h2⟩ := h; exact t_del C h1 h2
  | .asrt e, p, h => by obtain ⟨t, pos, rfl, h1⟩ := h; exact t_asrt C h1
  | .tri b, p, h => by obtain ⟨body, hd, hs, pos, rfl, h1⟩ := h; exact t_tri (snd_Ss b _ h1)
theorem snd_Ss : ∀ (x : Ss) (ps : List PySem.Stmt), PSs W.nm sc x ps → STs W F G n sc x ps
  | .nil, ps, h => ts_nil h
  | .cons s r, ps, h => by obtain ⟨q, qs, rfl, h1, h2⟩ := h; exact ts_cons (snd_S s _ h1) (snd_Ss r _ h2)
end
end
end MP
end

section -- MpFn
open PySem PySem.W PyProof.Rows
namespace MP

theorem call_cells {prog : Program} {w : World} {A : Around} {s : Shared} {R : Result → Shared → Prop} {a : Addr} {o : Obj} {fd : FuncData} {body : List Stmt} {vals : List Value} {binds : List (Str × Value)} (tk : 1 ≤ s.toks)
    (hroom : A.depth < recursionLimit) (ho : s.heap.get? a = some o) (hdata : o.data = .func fd) (hlim : s.heap.NoLimit) (hcd : s.heap.CodeRec fd.code fd.qualname)
    (hbody : fd.body = .stmts body) (hbind : bindArgs fd ⟨vals, []⟩ = pure binds) (hclo : fd.closure = [])
    (hkind : ∀ x ∈ binds, fd.scope.names.lookup x.1 = some .local ∨ (fd.scope.names.lookup x.1 = some .cell ∧ ((cellsFrom (s.heap.objs.size + 1) fd.scope.names []).lookup x.1).isSome = true))
    (h : ∀ s₁, 1 ≤ s₁.toks → InCallC s (callEnvC fd s.heap.objs.size a).locals (bindL (callEnvC fd s.heap.objs.size a).kindOf binds fun _ => none) (callEnvC fd s.heap.objs.size a).cells
        (bindC (callEnvC fd s.heap.objs.size a).kindOf binds fun _ => none) s₁ →
      wpAny (model prog w) (A.deeper (callEnvC fd s.heap.objs.size a)) (execs body (callEnvC fd s.heap.objs.size a)) (fun f s' => R (.ok (.ret (match f with | .ret v => v | _ => .none))) s')
        (fun e s' => wpAny (model prog w) (A.deeper (callEnvC fd s.heap.objs.size a)) (leaving (callEnvC fd s.heap.objs.size a) e) (fun _ s'' => R (.error e) s'') (fun e' s'' => R (.error e') s'') s') s₁)
    (hco : fd.scope.isCoroutine = false) (hgen : fd.scope.isGenerator = false) (hk : fd.scope.kind = .function) :
    codeAny (model prog w) A (.call (.ref a) ⟨vals, []⟩) R s := by
  refine codeAny_call_function hroom ho hdata hco hgen hbody hcd ?_
  rw [hbind, hclo]
  refine wpAny_pure (wpAny_with_toks (n := 1) tk (wpAny_newFunctionEnv_cells hk hkind fun env he s' x tk' => ?_))
  subst he
  exact ⟨hlim.keeps x.toInCall.keep, codeAny_func (h s' tk' x)⟩

theorem bindL_other {k : Str → Option NameKind} : ∀ {binds : List (Str × Value)} {m : Str → Option Value} {x : Str}, x ∉ binds.map (·.1) → bindL k binds m x = m x
  | [], m, x, _ => rfl
  | (n, v) :: r, m, x, h => by
    unfold bindL
    rw [bindL_other fun q => h (List.mem_cons_of_mem _ q)]
    split
    · exact if_neg fun q => h (by rw [q]; exact List.mem_cons_self)
    · rfl
theorem bindL_get {k : Str → Option NameKind} : ∀ {binds : List (Str × Value)} {m : Str → Option Value} {x : Str} {v : Value}, (binds.map (·.1)).Nodup → (x, v) ∈ binds → k x = some .local → bindL k binds m x = some v
  | [], m, x, v, _, h, _ => nomatch h
  | (n, u) :: r, m, x, v, hn, h, hk => by
    rw [List.map_cons, List.nodup_cons] at hn
    unfold bindL
    rcases List.mem_cons.mp h with e | h'
    · cases e
      rw [bindL_other hn.1, if_pos hk, if_pos rfl]
    · exact bindL_get hn.2 h' hk
theorem bindC_other {k : Str → Option NameKind} : ∀ {binds : List (Str × Value)} {m : Str → Option Value} {x : Str}, x ∉ binds.map (·.1) → bindC k binds m x = m x
  | [], m, x, _ => rfl
  | (n, v) :: r, m, x, h => by
    unfold bindC
    rw [bindC_other fun q => h (List.mem_cons_of_mem _ q)]
    split
    · rfl
    · exact if_neg fun q => h (by rw [q]; exact List.mem_cons_self)
theorem bindC_get {k : Str → Option NameKind} : ∀ {binds : List (Str × Value)} {m : Str → Option Value} {x : Str} {v : Value}, (binds.map (·.1)).Nodup → (x, v) ∈ binds → k x ≠ some .local → bindC k binds m x = some v
  | [], m, x, v, _, h, _ => nomatch h
  | (n, u) :: r, m, x, v, hn, h, hk => by
    rw [List.map_cons, List.nodup_cons] at hn
    unfold bindC
    rcases List.mem_cons.mp h with e | h'
    · cases e
      rw [bindC_other hn.1, if_neg hk, if_pos rfl]
    · exact bindC_get hn.2 h' hk

/-- the record of a function of the text, looked at -/
noncomputable def recOk (nm : Nat → Str) (ps : List Nat) (b : Ss) (d : DefRec) : Bool :=
  nodupB (ps.map nm) && wfSs nm d.scope.names b d.body && ps.all (fun x => isW d.scope.names (nm x)) && nodupB (d.scope.names.map (·.1)) && d.scope.names.all (fun x => !(x.2 == .free)) && d.scope.kind == .function && !d.scope.isGenerator && !d.scope.isCoroutine
/-- the names take the values in order -/
noncomputable def BindOK (nm : Nat → Str) (ps : List Nat) (d : DefRec) : Prop := ∀ (pm code doc : Value) (vs : List Value), vs.length = ps.length → bindArgs (Calls.docDef d.name d.params d.body d.scope pm code doc) ⟨vs, []⟩ = pure ((ps.map nm).zip vs)

section
variable {W : Wd} {F : FTab} {G : Nat → Option T} {n : Nat}

/-- what the names hold at first -/
theorem start_vals {ok : Addr → Prop} {h : Heap} {xs : List Nat} : ∀ {ts : List T} {vs : List Value} {st st' : St}, Reps W ok h ts vs → setAll st xs ts = some st' → ∀ i t c, st'.get i = some (t, c) → st.get i = some (t, c) ∨ ∃ v, (W.nm i, v) ∈ (xs.map W.nm).zip vs ∧ Rep W ok h t v := by
  induction xs with
  | nil => exact fun _ e i t c q => ge e fun _ e => .inl (Option.some.inj e ▸ q)
  | cons x xs ih =>
    intro ts vs st st' r e i t c q
    refine setAll_cons e ?_; clear e; intro u us k e
    subst k
    obtain ⟨v, vs, rfl, y, r⟩ := r
    rcases ih r e i t c q with q | ⟨w, m, y⟩
    · rw [St.get_set] at q
      by_cases k : x = i
      · rw [if_pos k] at q
        cases q
        exact .inr ⟨v, by rw [← k]; exact List.mem_cons_self, y⟩
      · rw [if_neg k] at q
        exact .inl q
    · exact .inr ⟨w, List.mem_cons_of_mem _ m, y⟩
theorem lookup_of {l : List (Str × Value)} (hn : (l.map (·.1)).Nodup) {x : Str} {v : Value} (h : (x, v) ∈ l) : l.lookup x = some v := by
  induction l with
  | nil => exact nomatch h
  | cons p r ih =>
    obtain ⟨y, u⟩ := p
    rw [List.map_cons, List.nodup_cons] at hn
    rcases List.mem_cons.mp h with e | h'
    · cases e; exact lookup_cons_self _ _ _
    · rw [lookup_cons_ne _ _ fun q => hn.1 (by rw [← q]; exact List.mem_map.mpr ⟨(x, v), h', rfl⟩)]
      exact ih hn.2 h'

theorem fn_ok (C : Cx W F G n) {g : Nat} {ps : List Nat} {b : Ss} {d : DefRec} (hd : d ∈ recsOf W.p) (hname : d.name = W.nm g) (h : recOk W.nm ps b d = true) (heq : toSs W.nm b d.body = d.body) (hbd : BindOK W.nm ps d) : FnOK W (n + 1) g (runF gF F G ps b) := by
  unfold recOk at h
  simp only [Bool.and_eq_true, Bool.not_eq_true'] at h
  obtain ⟨⟨⟨⟨⟨⟨⟨hpar, htr⟩, hw⟩, hnd⟩, hfree⟩, hkind⟩, hgen⟩, hco⟩ := h
  have hkind := eq_of_beq hkind
  have hbodyS : STs W F G n d.scope.names b d.body := snd_Ss C b d.body (PSs_of b _ _ heq htr)
  intro A a H s ts vs r R hmg fit base tk hH rs hr hR
  refine oe hr ?_; clear hr; intro st hst hr
  refine be hr ?_; clear hr; intro fl st' hev hr
  cases fl with
  | next => exact nomatch hr
  | ret t =>
  cases hr
  obtain ⟨a', o, pm, code, doc, e1, e2, e3, e4⟩ := W.T.fn d hd
  rw [hname, hmg] at e1
  cases e1
  have fit' : ∀ env, Fit n (A.deeper env) := fun env => by
    obtain ⟨f1, f2, f3⟩ := fit
    refine ⟨f1, ?_, ?_⟩
    · show A.depth + 1 + n < 900; omega
    · show A.units + 3 + 3 * n + 200 < cLine; omega
  have hroom : A.depth < recursionLimit := by
    have := fit.2.1
    have e : recursionLimit = 1000 := rfl
    omega
  have hvl : vs.length = ps.length := (reps_len rs).symm.trans (setAll_len hst).symm
  have hmap : ((ps.map W.nm).zip vs).map (·.1) = ps.map W.nm := List.map_fst_zip (by rw [List.length_map, hvl]; exact Nat.le_refl _)
  have hb := hbd pm code doc vs hvl
  have hbn : (((ps.map W.nm).zip vs).map (·.1)).Nodup := by rw [hmap]; exact nodupB_of hpar
  have hbw : ∀ x ∈ (ps.map W.nm).zip vs, isW d.scope.names x.1 = true := fun x hx => by
    have hx := (List.of_mem_zip hx).1
    obtain ⟨i, hi, e⟩ := List.mem_map.mp hx
    rw [← e]; exact List.all_eq_true.mp hw i hi
  have hf : Flat st := flat_setAll flat_nil hst
  have hv : ∀ i t c, st.get i = some (t, c) → ∃ v, (W.nm i, v) ∈ (ps.map W.nm).zip vs ∧ Rep W (fun b => ¬ H b) s.heap t v := fun i t c q => (start_vals rs hst i t c q).resolve_left fun q => nomatch q
  generalize (ps.map W.nm).zip vs = binds at hb hbn hbw hv
  have hcell : ∀ x, d.scope.names.lookup x = some .cell → ((cellsFrom (s.heap.objs.size + 1) d.scope.names []).lookup x).isSome = true := fun x hx => by
    have cs := cells_new d.scope.names (s.heap.push { cls := .type "frame", data := .dict #[] }) []
    rw [Heap.size_push] at cs
    obtain ⟨c, e⟩ := cs.has x (mem_of_lookup hx)
    rw [e]; rfl
  refine call_cells (o := o) (fd := Calls.docDef d.name d.params d.body d.scope pm code doc) (body := d.body) (binds := binds) tk hroom (base a o e2) e3 (W.T.nolimit.keeps base) (e4.keeps base) rfl hb rfl
    (fun x hx => (isW_of (hbw x hx)).imp id fun w => ⟨w, hcell _ w⟩) (fun s₁ tk₁ X => ?_) hco hgen hkind
  generalize hE : callEnvC (Calls.docDef d.name d.params d.body d.scope pm code doc) s.heap.objs.size a = env at *
  have henv : env = newEnv d.scope s.heap.objs.size mainGlobals (cellsFrom (s.heap.objs.size + 1) d.scope.names []) (d.name ++ ".<locals>.") (some a) code none builtinsNs := by rw [← hE]; rfl
  have hloc : env.locals = s.heap.objs.size := by rw [henv]; rfl
  have hko : ∀ x, env.kindOf x = d.scope.names.lookup x := fun x => by rw [henv]; rfl
  have hcells : env.cells = cellsFrom (s.heap.objs.size + 1) d.scope.names [] := by rw [henv]; rfl
  have pold : ∀ a, PiF d.scope.names env a → s.heap.get? a = none := by
    rintro a (p | ⟨x, _, p⟩)
    · rw [p, hloc]; exact get?_big (Nat.le_refl _)
    · have := X.above x a (mem_of_lookup p)
      rw [hloc] at this
      exact get?_big (Nat.le_of_lt this)
  have nofree : ∀ x, d.scope.names.lookup x ≠ some .free := fun x e => by
    have := (List.all_eq_true.mp hfree) _ (mem_of_lookup e)
    simp at this
  obtain ⟨hh, htk, hsame⟩ := X.toInCall.same
  have keep := X.toInCall.keep
  have hb0 : ∀ a, s.heap.get? a = none → W.hb.get? a = none := fun a q => by
    cases e : W.hb.get? a with
    | none => rfl
    | some o => have := base a o e; rw [q] at this; cases this
  have R₀ : Rel W H d.scope.names env (fun i => binds.lookup (W.nm i)) st s₁.heap := by
    refine ⟨fun b o e => keep b o (base b o e), by rw [henv]; exact hkind, by rw [henv]; rfl, by rw [henv]; rfl, fun x e => by rw [hko, e], fun x e => by rw [hko, e], fun x e => absurd e (nofree x), fun x e => by rw [hko, e], ?_, ?_, ?_, ?_, ?_, fun i t e => absurd e (hf i t), fun i j a t u e => absurd e (hf i t), ?_, ?_⟩
    · exact ⟨_, X.toInCall.ns, fun i v e l => bindL_get hbn (mem_of_lookup e) (by rw [hko]; exact l)⟩
    · rintro x (e | e)
      · obtain ⟨c, hc⟩ := Option.isSome_iff_exists.mp (hcell x e)
        rw [← hcells] at hc
        exact ⟨c, _, hc, X.cell x c hc⟩
      · exact absurd e (nofree x)
    · rintro i v c e (l | l) hc
      · have := X.cell _ c hc
        rw [bindC_get hbn (mem_of_lookup e) (by rw [hko, l]; decide)] at this
        exact this
      · exact absurd l (nofree _)
    · rintro x y c hx (hy | hy) e1 e2
      · exact name_of_addr X.apart (mem_of_lookup e1) (mem_of_lookup e2)
      · exact absurd hy (nofree y)
    · intro i t c e
      obtain ⟨v, hm, rv⟩ := hv i t c e
      have rv' := rep_tr (fun a o k e => ⟨⟨fun p => (by rw [pold a ((pv_flat hf).1 p)] at e; cases e), k⟩, keep a o e⟩ : Tr (fun b => ¬ H b) s.heap (Ok H d.scope.names env (fun i => binds.lookup (W.nm i)) st) s₁.heap) rv
      exact ⟨v, lookup_of hbn hm, rv'.1, fun _ => rv'.2⟩
    · exact fun a p => hb0 a (pold a ((pv_flat hf).1 p))
    · intro a k
      obtain ⟨o, e⟩ := hH a k
      exact ⟨⟨o, keep a o e⟩, fun p => by rw [pold a ((pv_flat hf).1 p)] at e; cases e⟩
  refine hbodyS H env _ st _ st' s₁ _ _ _ R₀ tk₁ (fit' env) hev fun vm' f s' P => ?_
  obtain ⟨v, rfl, rv⟩ := P.flow
  refine hR v s' ⟨fun a o e => P.stp.keep a o (fun p => by rw [pold a ((pv_flat hf).1 p)] at e; cases e) (keep a o e)⟩ ?_ P.toks (rep_tr (fun a o k e => ⟨k.2, e⟩) rv)
  exact ⟨P.alike.gens.trans (by rw [hsame]), P.alike.os.trans (by rw [hsame])⟩
end
end MP
end

section -- MpWorld
open PySem PySem.W PyProof.Rows
namespace MP

/-- the names by their numbers; a number behind the list gets a name of no text -/
noncomputable def nmL (l : List Str) (i : Nat) : Str := match l[i]? with
  | some x => x
  | none => ⟨#[i + 1000000]⟩
noncomputable def nmOk (l : List Str) : Bool := nodupB l && l.all fun x => x.cps.all fun c => Nat.blt c 1000000

theorem nm_inj {l : List Str} (h : nmOk l = true) : ∀ i j, nmL l i = nmL l j → i = j := by
  unfold nmOk at h
  rw [Bool.and_eq_true] at h
  have nd := nodupB_of h.1
  have far : ∀ i j (x : Str), l[i]? = some x → x ≠ ⟨#[j + 1000000]⟩ := fun i j x e q => by
    have := (List.all_eq_true.mp h.2) x (List.mem_of_getElem? e)
    subst q
    simp at this
    omega
  intro i j e
  unfold nmL at e
  split at e
  · rename_i x hx
    split at e
    · rename_i y hy
      subst e
      have hi : i < l.length := by
        rcases Nat.lt_or_ge i l.length with q | q
        · exact q
        · rw [List.getElem?_eq_none q] at hx; cases hx
      have hj : j < l.length := by
        rcases Nat.lt_or_ge j l.length with q | q
        · exact q
        · rw [List.getElem?_eq_none q] at hy; cases hy
      rw [List.getElem?_eq_getElem hi] at hx
      rw [List.getElem?_eq_getElem hj] at hy
      have hne : l[i] = l[j] := (Option.some.inj hx).trans (Option.some.inj hy).symm
      have pw := List.pairwise_iff_getElem.mp nd
      rcases Nat.lt_trichotomy i j with q | q | q
      · exact absurd hne (pw i j hi hj q)
      · exact q
      · exact absurd hne.symm (pw j i hj hi q)
    · exact absurd e (far i j _ hx)
  · split at e
    · rename_i y hy
      exact absurd e.symm (far j i _ hy)
    · have := congrArg (fun s : Str => s.cps.toList) e
      simp at this
      exact this

noncomputable def names : List Str := nmTab.map Str.ofString
theorem names_ok : nmOk names = true := by decide +kernel

/-- the record of a function of the text -/
noncomputable def recAt (p : Program) (g : Nat) : Option DefRec := (recsOf p).find? fun d => d.name == nmL names g
noncomputable def bodyOf (g : Nat) : Ss := match bodies g with
  | some q => q.2
  | none => .nil
noncomputable def parsOf (g : Nat) : List Nat := match bodies g with
  | some q => q.1
  | none => []
/-- what must be so of the program's top -/
noncomputable def recOkAt (p : Program) (g : Nat) : Bool := Nat.ble 1 (parsOf g).length && Nat.ble (parsOf g).length 2 && match recAt p g with
  | some d => recOk (nmL names) (parsOf g) (bodyOf g) d
  | none => false
noncomputable def biOk (p : Program) (loose : List Str) (x : Str) : Bool := !(startupNames.contains x) && !(loose.contains x) && !(((recsOf p).map (·.name)).contains x) && !(((litsOf p).map (·.1)).contains x) && !(((clssOf p loose).map (·.name)).contains x)
noncomputable def dotsOk (p : Program) : Bool := match valOf p (nmL names 17) with
  | some (.str x) => x == mkS [46, 46, 46]
  | _ => false
noncomputable def topOk (p : Program) (loose : List Str) : Bool :=
  (List.range 17).all (recOkAt p) && ([BI.len, .range, .sorted, .max, .sum, .abs, .chr, .list].all fun b => biOk p loose (biStr b)) && dotsOk p

/-- the functions' texts, printed anew; their names take the values in order -/
noncomputable def bodyEq (p : Program) : Prop := (List.range 17).map (fun g => (recAt p g).map (·.body)) = (List.range 17).map (fun g => (recAt p g).map fun d => toSs (nmL names) (bodyOf g) d.body)
noncomputable def bindEq (p : Program) : Prop := ∀ (pm code doc v w : Value), (List.range 17).map (fun g => (recAt p g).map fun d => bindArgs (Calls.docDef d.name d.params d.body d.scope pm code doc) ⟨[v, w].take (parsOf g).length, []⟩) = (List.range 17).map (fun g => (recAt p g).map fun _ => pure (((parsOf g).map (nmL names)).zip ([v, w].take (parsOf g).length)))
noncomputable def TopOK (p : Program) (loose : List Str) : Prop := topOk p loose = true ∧ bodyEq p ∧ bindEq p

theorem boots (b : BI) : bootBuiltins (biStr b) = some (biVal b) := by
  cases b <;> decide +kernel

theorem not_mem_of {l : List Str} {x : Str} (h : l.contains x = false) : x ∉ l := fun q => by
  rw [List.contains_iff_mem.mpr q] at h; cases h

section
variable {prog : Program} {w : World} {mg mb : Str → Option Value} {p : Program} {loose : List Str} {mean : ExcName → Option Value} {hb : Heap}

noncomputable def world (prog : Program) (w : World) (T : Top p loose mean mg mb hb) : Wd :=
  { prog, w, mg, mb, p, loose, mean, hb, T, nm := nmL names, inj := nm_inj names_ok }

theorem bodies_lt {g : Nat} {x : List Nat × Ss} (h : bodies g = some x) : g < 17 := by
  exact (List.getElem?_eq_some_iff.mp h).1

theorem at_range {α : Type} {f h : Nat → α} {n g : Nat} (e : (List.range n).map f = (List.range n).map h) (k : g < n) : f g = h g := List.map_inj_left.mp e g (List.mem_range.mpr k)
theorem two_vals {n : Nat} {vs : List Value} (h1 : 1 ≤ n) (h2 : n ≤ 2) (e : vs.length = n) : ∃ v w, vs = [v, w].take n := by
  subst e
  cases vs with
  | nil => exact absurd h1 (Nat.not_succ_le_zero 0)
  | cons v r => cases r with
    | nil => exact ⟨v, v, rfl⟩
    | cons w r => cases r with
      | nil => exact ⟨v, w, rfl⟩
      | cons x r => exact absurd (Nat.le_of_succ_le_succ (Nat.le_of_succ_le_succ h2)) (Nat.not_succ_le_zero _)
theorem rec_at (h : TopOK p loose) {g : Nat} {q : List Nat × Ss} (e : bodies g = some q) : ∃ d ∈ recsOf p, d.name = nmL names g ∧ recOk (nmL names) q.1 q.2 d = true ∧ toSs (nmL names) q.2 d.body = d.body ∧ BindOK (nmL names) q.1 d := by
  obtain ⟨h, h1, h2⟩ := h
  have hg := bodies_lt e
  have h := List.all_eq_true.mp (Bool.and_eq_true_iff.mp (Bool.and_eq_true_iff.mp h).1).1 g (List.mem_range.mpr hg)
  have h1 := at_range h1 hg
  have h2 := fun pm code doc v w => at_range (h2 pm code doc v w) hg
  have eb : bodyOf g = q.2 := by unfold bodyOf; rw [e]
  have ep : parsOf g = q.1 := by unfold parsOf; rw [e]
  unfold recOkAt at h
  rw [eb, ep] at h
  rw [eb] at h1
  rw [ep] at h2
  obtain ⟨h, h3⟩ := Bool.and_eq_true_iff.mp h
  obtain ⟨k1, k2⟩ := Bool.and_eq_true_iff.mp h
  cases hr : recAt p g with
  | none => rw [hr] at h3; exact nomatch h3
  | some d =>
    rw [hr] at h3 h1 h2
    refine ⟨d, List.mem_of_find?_eq_some hr, eq_of_beq (List.find?_some (p := fun d : DefRec => d.name == nmL names g) hr), h3, (Option.some.inj h1).symm, fun pm code doc vs hl => ?_⟩
    obtain ⟨v, w, rfl⟩ := two_vals (Nat.le_of_ble_eq_true k1) (Nat.le_of_ble_eq_true k2) hl
    exact Option.some.inj (h2 pm code doc v w)

theorem bodies_some {g : Nat} (h : g < 17) : ∃ x, bodies g = some x := ⟨_, List.getElem?_eq_getElem (l := bodyTab) h⟩
theorem glob_ok (T : Top p loose mean mg mb hb) (h : TopOK p loose) {g : Nat} {t : MP.T} (e : constG g = some t) : ∃ v, mg (nmL names g) = some v ∧ ∀ ok h', (∀ b o, hb.get? b = some o → h'.get? b = some o) → Rep (world prog w T) ok h' t v := by
  rcases constG_e e with ⟨rfl, rfl⟩ | ⟨hg, rfl⟩
  · have h3 := (Bool.and_eq_true_iff.mp h.1).2
    unfold dotsOk at h3
    split at h3
    · rename_i x hx
      obtain ⟨v, hv, hr⟩ := T.const _ _ hx
      obtain ⟨t, rfl, _⟩ := reads_str_inv (hr {})
      obtain rfl := eq_of_beq h3
      exact ⟨_, hv, fun ok h' _ => rep_str⟩
    · exact nomatch h3
  · obtain ⟨q, hb'⟩ := bodies_some hg
    obtain ⟨d, hd, hn, _⟩ := rec_at h hb'
    obtain ⟨a, o, pm, code, doc, e1, _⟩ := T.fn d hd
    rw [hn] at e1
    exact ⟨_, e1, fun ok h' _ => ⟨⟨a, rfl, e1⟩, okv_fn⟩⟩
theorem bi_free (T : Top p loose mean mg mb hb) (h : TopOK p loose) (b : BI) : mg (biStr b) = none ∧ mb (biStr b) = some (biVal b) := by
  have h2 := List.all_eq_true.mp (Bool.and_eq_true_iff.mp (Bool.and_eq_true_iff.mp h.1).1).2 b (by cases b <;> simp)
  unfold biOk at h2
  simp only [Bool.and_eq_true, Bool.not_eq_true'] at h2
  refine ⟨T.free _ (not_mem_of h2.1.1.1.1) (not_mem_of h2.1.1.1.2) (not_mem_of h2.1.1.2) (not_mem_of h2.1.2) (not_mem_of h2.2), ?_⟩
  rw [T.builtins _ (by cases b <;> decide)]
  exact boots b
theorem cx (T : Top p loose mean mg mb hb) (h : TopOK p loose) : ∀ k, Cx (world prog w T) (FF k) constG k := by
  have hfun : ∀ k g fP a, FF k g = some fP → mg (nmL names g) = some (.ref a) → ∃ o fd, hb.get? a = some o ∧ o.data = .func fd := by
    intro k g fP a e hm
    cases k with
    | zero => exact nomatch e
    | succ k =>
      refine oe e ?_; clear e; intro q hb' e
      obtain ⟨d, hd, hn, _⟩ := rec_at h hb'
      obtain ⟨a', o, pm, code, doc, e1, e2, e3, _⟩ := T.fn d hd
      rw [hn, hm] at e1
      cases e1
      exact ⟨o, _, e2, e3⟩
  intro k
  induction k with
  | zero => exact ⟨fun g fP e => (nomatch e), fun g t e => glob_ok T h e, bi_free T h, hfun 0⟩
  | succ k ih =>
    refine ⟨fun g fP e => ?_, fun g t e => glob_ok T h e, bi_free T h, hfun (k + 1)⟩
    refine oe e ?_; clear e; intro q hb' e
    cases e
    obtain ⟨d, hd, hn, h1, h2, h3⟩ := rec_at h hb'
    exact fn_ok ih hd hn h1 h2 h3

/-- the law's call, when its plain meaning is True -/
theorem law_go {s : Shared} {Er : Value → Shared → Prop} {Q : Value → Shared → Prop} (Tp : Top p loose mean mg mb s.heap) (h : TopOK p loose) {fa a : Addr} {vs : List Value} {ns : List Int} {n' : Nat} (hmg : mg (nmL names 16) = some (.ref fa))
    (ho : s.heap.get? a = some { cls := .type "list", data := .seq vs.toArray n' }) (hI : IntsAre vs ns) (htk : 1 ≤ s.toks) {fP : List T → Option MP.T} (hf : FF 3 16 = some fP) (hplain : fP [.list (ns.map .int)] = some (.bool true))
    (hQ : ∀ s', Grown s.heap s'.heap → Alike s s' → Q (.bool true) s') : wpAny (model prog w) callerA (call (.ref fa) [.ref a]) Q Er s := by
  have C := (cx (prog := prog) (w := w) Tp h 3).fns 16 fP hf
  refine wpAny_call (C callerA fa (fun _ => False) s _ _ _ _ hmg ⟨rfl, by decide, by decide⟩ (fun _ _ e => e) htk (fun _ k => k.elim) ?_ hplain fun v s' g al tk r => ?_)
  · exact ⟨_, [], rfl, ⟨⟨a, vs, rfl, ⟨_, ho⟩, ints_reps hI⟩, okv_of fun _ _ k => k⟩, rfl⟩
  · obtain rfl := r.1
    exact hQ s' g al
end
end MP
end

section -- MpColl
open PySem
namespace MP
/-- the order of two texts as a number -/
noncomputable def collI (a b : List Nat) : Int := b2i' (sLt b a) - b2i' (sLt a b)
theorem coll_run (F : FTab) (a b : List Nat) : runF gF F constG p_strcoll b_strcoll [.str a, .str b] = some (.int (collI a b)) := by
  simp [p_strcoll, b_strcoll, St.set_nil, St.set_cons, St.get_nil, St.get_cons, collI]
end MP
end

section -- MpEll
open PySem
namespace MP
/-- the loop of the ellipsis match -/
noncomputable def ellLoop (g : List Nat) (e : Nat) : List (List Nat) → Int → Bool
  | [], _ => true
  | w :: r, .ofNat s => match sFind g w s e with
    | .ofNat k => ellLoop g e r (.ofNat (k + w.length))
    | .negSucc _ => false
  | _, _ => false
noncomputable def p_dots : List Nat := [46, 46, 46]
/-- no dots: plain equality -/
theorem ell_plain (F : FTab) (w g : List Nat) (h : sIn [46, 46, 46] w = false) : runF gF F constG p_ellipsis_match b_ellipsis_match [.str w, .str g] = some (.bool (sEq w g)) := by
  simp [p_ellipsis_match, b_ellipsis_match, St.set_nil, St.set_cons, St.get_nil, St.get_cons, constG, h]
noncomputable def lpB : Ss := (.cons (.assign 24 (.meth .find (.var 21) (.cons (.var 22) (.cons (.var 24) (.cons (.var 25) .nil))))) (.cons (.iff (.cmp (.var 24) (.one .Lt (.int 0))) (.cons (.ret (.bool false)) .nil) .nil) (.cons (.aug 24 .Add (.bi .len (.cons (.var 22) .nil))) .nil)))
noncomputable def stL (w g : List Nat) (ws : List T) (s : Int) (e : Int) (x : List Nat) : St := [(20, .str w, false), (21, .str g, false), (23, .list ws, false), (24, .int s, false), (25, .int e, false), (22, .str x, false)]
theorem meth_find (g y : List Nat) (i j : Nat) (h : Nat.ble j g.length = true) : methT gF .find (.str g) [.str y, .int (i : Int), .int (j : Int)] = some (.int (sFind g y i j), false) := by
  show (match Nat.ble j g.length with | true => some (T.int (sFind g y i j), false) | false => none) = _
  rw [h]
theorem lp_step (F : FTab) (w g : List Nat) (ws : List T) (s e : Nat) (x y : List Nat) (he : e ≤ g.length) (hy : lenOk y.length = true) :
    evSs gF F constG lpB ((stL w g ws s e x).set 22 (.str y) false) = match sFind g y s e with
      | .ofNat k => some (.next, stL w g ws (Int.ofNat (k + y.length)) e y)
      | .negSucc k => some (.ret (.bool false), stL w g ws (.negSucc k) e y) := by
  have h : Nat.ble e g.length = true := by simpa using he
  cases hk : sFind g y s e with
  | ofNat k =>
    have hd : decide ((k : Int) < 0) = false := decide_eq_false (by omega)
    simp [hd, stL, lpB, St.set_nil, St.set_cons, St.get_nil, St.get_cons, opKind, meth_find, h, hk, hy]
  | negSucc k => simp [stL, lpB, St.set_nil, St.set_cons, St.get_nil, St.get_cons, opKind, meth_find, h, hk, hy]
noncomputable def isRetF : Option (Fl × St) → Bool → Prop
  | some (.next, _), b => b = true
  | some (.ret (.bool false), _), b => b = false
  | _, _ => False
theorem lp_all (F : FTab) (w g : List Nat) (ws : List T) (e : Nat) (he : e ≤ g.length) : ∀ (ps : List (List Nat)) (s : Nat) (x : List Nat), (∀ p ∈ ps, lenOk p.length = true) →
    isRetF (evFor (fun t => evSs gF F constG lpB t) 22 (ps.map .str) (stL w g ws s e x)) (ellLoop g e ps (.ofNat s))
  | [], s, x, h => by simp [evFor, ellLoop, isRetF]
  | y :: ps, s, x, h => by
    have h1 := lp_step F w g ws s e x y he (h y (by simp))
    simp only [List.map_cons, evFor, h1, ellLoop]
    cases hk : sFind g y s e with
    | ofNat k => exact lp_all F w g ws e he ps (k + y.length) y (fun p hp => h p (by simp [hp]))
    | negSucc k => simp [isRetF]
end MP
end

section -- MpEll2
open PySem
namespace MP
noncomputable def swT (g a : List Nat) : Bool := Txt.startswith (mkS g) (mkS a)
noncomputable def ewT (g b : List Nat) : Bool := Txt.endswith (mkS g) (mkS b)
noncomputable def piecesS (w : List Nat) : List (List Nat) := (Txt.split (mkS w) (mkS [46, 46, 46])).map (·.cps.toList)
theorem split_step (F : FTab) (w g : List Nat) (a b : List Nat) (mid : List (List Nat)) (hw : lenOk w.length = true)
    (hs : piecesS w = a :: (mid ++ [b])) :
    methT gF .split (.str w) [.str [46, 46, 46]] = some (.list ((a :: (mid ++ [b])).map .str), true) := by
  rw [← hs]
  simp [hw, piecesS]
end MP
end

section -- MpEll3
open PySem
namespace MP
theorem dropLast_map (a : List Nat) (mid : List (List Nat)) (b : List Nat) : ((a :: (mid ++ [b])).map T.str).eraseIdx (mid.length + 1) = (a :: mid).map T.str := by
  simp [List.eraseIdx_append_of_length_le]
theorem ends_len (a b : List Nat) (mid : List (List Nat)) : ((a :: (mid ++ [b])).map T.str).length = mid.length + 2 := by simp
theorem idx_last (a b : List Nat) (mid : List (List Nat)) (hl : lenOk (mid.length + 2) = true) : idxT gF (.list ((a :: (mid ++ [b])).map T.str)) (.int (-1)) = some (.str b) :=
  gtI (by rw [ends_len]; exact hl) (obI (x := mid.length + 1) (by rw [ends_len]; rfl) (by simp))
theorem idx_first (a b : List Nat) (mid : List (List Nat)) (hl : lenOk (mid.length + 2) = true) : idxT gF (.list ((a :: (mid ++ [b])).map T.str)) (.int 0) = some (.str a) :=
  gtI (by rw [ends_len]; exact hl) (obI (x := 0) (by rw [ends_len]; rfl) rfl)
end MP
end

section -- MpEll4
open PySem
namespace MP
/-- the head of the ellipsis match: up to the first piece -/
noncomputable def afterTurn (F : FTab) (w g : List Nat) (ws : List T) (x : List Nat) (e : Nat) (s : Nat) : Option (Fl × St) :=
  evFor (fun t => evSs gF F constG lpB t) 22 ws (stL w g ws s e x)
noncomputable def bEll (lp : Ss) : Ss := (.cons 
  (.iff (.cmp (.glob 17) (.one .NotIn (.var 20))) (.cons (.ret (.cmp (.var 20) (.one .Eq (.var 21)))) .nil) .nil) (.cons 
  (.assign 23 (.meth .split (.var 20) (.cons (.glob 17) .nil))) (.cons 
  (.asrt (.cmp (.bi .len (.cons (.var 23) .nil)) (.one .GtE (.int 2)))) (.cons 
  (.assignTup [24, 25] (.cons (.int 0) (.cons (.bi .len (.cons (.var 21) .nil)) .nil))) (.cons 
  (.assign 22 (.sub (.var 23) (.int 0))) (.cons 
  (.iff (.var 22) (.cons (.iff (.meth .startswith (.var 21) (.cons (.var 22) .nil)) (.cons (.assign 24 (.bi .len (.cons (.var 22) .nil))) (.cons (.del 23 (.int 0)) .nil)) (.cons (.ret (.bool false)) .nil)) .nil) .nil) (.cons 
  (.assign 22 (.sub (.var 23) (.neg 1))) (.cons 
  (.iff (.var 22) (.cons (.iff (.meth .endswith (.var 21) (.cons (.var 22) .nil)) (.cons (.aug 25 .Sub (.bi .len (.cons (.var 22) .nil))) (.cons (.del 23 (.neg 1)) .nil)) (.cons (.ret (.bool false)) .nil)) .nil) .nil) (.cons 
  (.iff (.cmp (.var 24) (.one .Gt (.var 25))) (.cons (.ret (.bool false)) .nil) .nil) (.cons 
  (.for 22 (.var 23) lp) (.cons 
  (.ret (.bool true)) .nil)))))))))))
theorem bEll_eq : b_ellipsis_match = bEll lpB := rfl
theorem sets_empty_both (F : FTab) (w g : List Nat) (mid : List (List Nat)) (hw : lenOk w.length = true) (hg : lenOk g.length = true) (hd : sIn [46, 46, 46] w = true)
    (hs : piecesS w = [] :: (mid ++ [[]])) (hl : lenOk (mid.length + 2) = true) (h : ∀ p ∈ mid, lenOk p.length = true) :
    runF gF F constG p_ellipsis_match b_ellipsis_match [.str w, .str g] = some (.bool (ellLoop g g.length ([] :: (mid ++ [[]])) (.ofNat 0))) := by
  have h1 := split_step F w g [] [] mid hw hs
  have h2 := idx_first [] [] mid hl
  have h3 := idx_last [] [] mid hl
  generalize hL : ([] :: (mid ++ [[]]) : List (List Nat)).map T.str = L at h1 h2 h3
  have hlen : L.length = mid.length + 2 := by rw [← hL]; simp
  have hge : decide ((2 : Int) ≤ (mid.length : Int) + 2) = true := decide_eq_true (by omega)
  have hgt : decide ((g.length : Int) < 0) = false := decide_eq_false (by omega)
  have hz : lenOk 0 = true := rfl
  have hgt2 : decide ((g.length : Int) < ((0:Nat):Int)) = false := decide_eq_false (by omega)
  rw [bEll_eq]
  simp [-w_methT_split, -w_idxT_list, hz, hge, hgt, p_ellipsis_match, bEll, St.set_nil, St.set_cons, St.get_nil, St.get_cons, opKind, h1, h2, h3, hg, hd, hlen, hl, constG]
  have h9 := lp_all F w g L g.length (Nat.le_refl _) ([] :: (mid ++ [[]])) 0 [] (by
    intro p hp
    simp only [List.mem_cons, List.mem_append, List.not_mem_nil, or_false] at hp
    rcases hp with hp | hp | hp
    · subst hp; rfl
    · exact h p hp
    · subst hp; rfl)
  rw [hL] at h9
  simp only [stL] at h9
  revert h9
  generalize evFor (fun t => evSs gF F constG lpB t) 22 L _ = R
  intro h9
  match R, h9 with
  | some (.next, _), h9 => simp only [isRetF] at h9; simpa using h9
  | some (.ret (.bool false), _), h9 => simp only [isRetF] at h9; simpa using h9
end MP
end

section -- MpEll5
open PySem
namespace MP
theorem meth_sw (g a : List Nat) : methT gF .startswith (.str g) [.str a] = some (.bool (Txt.startswith (mkS g) (mkS a)), false) := rfl
theorem meth_ew (g a : List Nat) : methT gF .endswith (.str g) [.str a] = some (.bool (Txt.endswith (mkS g) (mkS a)), false) := rfl
theorem sets_two (F : FTab) (w g : List Nat) (a b : List Nat) (ha : a ≠ []) (hb : b ≠ []) (hw : lenOk w.length = true) (hg : lenOk g.length = true) (hla : lenOk a.length = true) (hlb : lenOk b.length = true) (hd : sIn [46, 46, 46] w = true)
    (hs : piecesS w = [a, b]) :
    runF gF F constG p_ellipsis_match b_ellipsis_match [.str w, .str g] = some (.bool (swT g a && (ewT g b && decide ((a.length : Int) ≤ (g.length : Int) - b.length)))) := by
  have h1 := split_step F w g a b [] hw hs
  have l0 : lenOk 0 = true := rfl
  have l1 : lenOk 1 = true := rfl
  have l2 : lenOk 2 = true := rfl
  have ea : a.isEmpty = false := by cases a <;> simp_all
  have eb : b.isEmpty = false := by cases b <;> simp_all
  simp only [List.nil_append, List.map_cons, List.map_nil] at h1
  have i1 : idxT gF (.list [.str a, .str b]) (.int 0) = some (.str a) := rfl
  have i2 : idxT gF (.list [.str b]) (.int (-1)) = some (.str b) := rfl
  have p1 : place 0 2 = some 0 := rfl
  have p2 : place (-1) 1 = some 0 := rfl
  rw [bEll_eq]
  have hq : decide ((g.length : Int) - b.length < a.length) = !decide ((a.length : Int) ≤ (g.length : Int) - b.length) := by
    by_cases k : (a.length : Int) ≤ (g.length : Int) - b.length
    · rw [decide_eq_true k, decide_eq_false (by omega)]; rfl
    · rw [decide_eq_false k, decide_eq_true (by omega)]; rfl
  cases hsw : Txt.startswith (mkS g) (mkS a) <;> cases hew : Txt.endswith (mkS g) (mkS b) <;> cases hle : decide ((a.length : Int) ≤ (g.length : Int) - b.length) <;>
  simp [-w_methT_split, swT, ewT, hsw, hew, hle, hq, l0, l1, l2, ea, eb, i1, i2, p1, p2, p_ellipsis_match, bEll, St.set_nil, St.set_cons, St.get_nil, St.get_cons, meth_sw, meth_ew, opKind, h1, hg, hd, hla, hlb, constG, evFor]
end MP
end

section -- MpAbs
open PySem
namespace MP
noncomputable def nmsL : List Nat → Bool
  | [] => true
  | c :: r => match nmC c with
    | true => nmsL r
    | false => false
/-- a text of dots and names, dots at both ends: the names -/
noncomputable def pcs : List Nat → Option (List Nat)
  | 46 :: 46 :: 46 :: r => match r with
    | [] => some []
    | a :: t => match nmC a with
      | true => match pcs t with
        | some l => some (a :: l)
        | none => none
      | false => none
  | _ => none
noncomputable def subsq : List Nat → List Nat → Bool
  | [], _ => true
  | _ :: _, [] => false
  | a :: r, c :: g => match Nat.beq a c with
    | true => subsq r g
    | false => subsq (a :: r) g
noncomputable def preq : List Nat → List Nat → Option Bool
  | [], [] => some true
  | [], _ :: _ => some false
  | a :: r, c :: g => match Nat.beq a c with
    | true => preq r g
    | false => none
  | _ :: _, [] => none
noncomputable def headIs (a : Nat) : List Nat → Bool
  | [] => false
  | c :: _ => Nat.beq a c
noncomputable def lastIs (a : Nat) : List Nat → Bool
  | [] => false
  | [c] => Nat.beq a c
  | _ :: c :: r => lastIs a (c :: r)
noncomputable def ellT (w g : List Nat) : Option Bool :=
  match nmsL g && Nat.ble g.length 100 && Nat.ble w.length 100 with
  | false => none
  | true => match nmsL w with
    | true => preq w g
    | false => match w with
      | [a, 46, 46, 46, b] => match nmC a && nmC b with
        | true => match g with
          | [] => none
          | _ => some (headIs a g && lastIs b g && Nat.blt 1 g.length)
        | false => none
      | _ => match pcs w with
        | some l => some (subsq l g)
        | none => none
noncomputable def gell (ts : List T) : Option T := ob (two? ts) fun p => ob (asStr p.1) fun w => ob (asStr p.2) fun g => ob (ellT w g) fun b => some (.bool b)
noncomputable def ssDrop : Nat → Ss → Ss
  | 0, s => s
  | n + 1, .cons _ r => ssDrop n r
  | _, .nil => .nil
noncomputable def ssTake : Nat → Ss → Ss
  | 0, _ => .nil
  | n + 1, .cons s r => .cons s (ssTake n r)
  | _, .nil => .nil
noncomputable def gstr (ts : List T) : Option T := ob (two? ts) fun p => ob (asStr p.1) fun x => ob (asStr p.2) fun y => gt (isNm x && isNm y) (some (.int (b2i' (sLt y x) - b2i' (sLt x y))))
/-! the ways, directly: a list of rows with their numbers -/
noncomputable abbrev WD := List (List Nat × Int)
noncomputable def ksOf (D : WD) : List (List Nat) := D.map fun p => p.1
noncomputable def vsOf (D : WD) : List T := D.map fun p => .int p.2
noncomputable def bump : WD → List Nat → Int → WD
  | [], k, n => [(k, 0 + n)]
  | p :: r, k, n => match sEq p.1 k with
    | true => (p.1, p.2 + n) :: r
    | false => p :: bump r k n
noncomputable def look : WD → List Nat → Option Int
  | [], _ => none
  | p :: r, k => match sEq p.1 k with
    | true => some p.2
    | false => look r k
noncomputable def hit (B x y : Nat) : Bool := Nat.beq (Nat.mod (Nat.shiftRight B (Nat.add (Nat.mul 5 x) y)) 2) 1
noncomputable def bumpIf (B x y : Nat) (A : WD) (k : List Nat) (n : Int) : WD := match hit B x y with
  | true => bump A k n
  | false => A
noncomputable def wswap (B : Nat) (line : List Nat) (n : Int) (A : WD) : WD := match line with
  | [a, b, c, d, e] => bumpIf B d e (bumpIf B c d (bumpIf B b c (bumpIf B a b A [b, a, c, d, e] n) [a, c, b, d, e] n) [a, b, d, c, e] n) [a, b, c, e, d] n
  | _ => A
noncomputable def wLines (B : Nat) (W : WD) : List (List Nat) → WD → Option WD
  | [], A => some A
  | l :: r, A => ob (look W l) fun n => wLines B W r (wswap B l n A)
noncomputable def wTurns (B : Nat) : Nat → WD → Option WD
  | 0, _ => some []
  | m + 1, W => gt (Nat.ble W.length 100) (ob (wLines B W (ksOf W) []) fun A => match A with
    | [] => some W
    | p :: r => wTurns B m (p :: r))
noncomputable def five : List Nat := [0, 1, 2, 3, 4]
noncomputable def bitAt (ks : List (List Nat)) (vs : List T) (x y : Nat) : Nat := match ob (lookS ks vs [x, y]) asInt with
  | some v => (match decide (v = 1) with
    | true => Nat.shiftLeft 1 (Nat.add (Nat.mul 5 x) y)
    | false => 0)
  | none => 0
noncomputable def bitsOf (ks : List (List Nat)) (vs : List T) : Nat := five.foldl (fun s x => five.foldl (fun s y => Nat.add s (bitAt ks vs x y)) s) 0
noncomputable def chkAt (ks : List (List Nat)) (vs : List T) (B x y : Nat) : Bool := match ob (lookS ks vs [x, y]) asInt with
  | some v => decide (v = 1) == hit B x y
  | none => false
noncomputable def chkBits (ks : List (List Nat)) (vs : List T) (B : Nat) : Bool := five.all fun x => five.all fun y => chkAt ks vs B x y
noncomputable def okLb (l : List Nat) : Bool := Nat.beq l.length 5 && l.all fun c => Nat.blt c 5
noncomputable def waysAt (row : List Nat) (ks : List (List Nat)) (vs : List T) (B : Nat) : Option T := gt (okLb row && chkBits ks vs B) (ob (wTurns B 11 [(row, 1)]) fun D => some (.dict (ksOf D) (vsOf D)))
noncomputable def gways (ts : List T) : Option T := ob (two? ts) fun p => ob (asStr p.1) fun row => ob (asDict p.2) fun q => waysAt row q.1 q.2 (bitsOf q.1 q.2)
noncomputable def F1 : Nat → FTab
  | 0 => fun _ => none
  | n + 1 => fun g => match Nat.beq g 0 with
    | true => some gstr
    | false => match Nat.beq g 1 with
      | true => some gell
      | false => match Nat.beq g 9 with
        | true => some gways
        | false => ob (bodies g) fun q => some (runF gA (F1 n) constG q.1 q.2)
/-- the frame behind the eleventh statement; the names that the rest of the law does not look at hold letters -/
noncomputable def st0 (a27 a28 a31 a75 a73 a72 a74 a29 : T) (l : List Nat) : St :=
  [(27, a27, false), (28, a28, false), (31, a31, false), (75, a75, false), (73, a73, false), (72, a72, false), (74, a74, true), (33, .str [0, 1, 2, 3, 4], false), (29, a29, false), (58, .list (l.map fun r => .str [10 + r]), true), (59, .str (l.map (10 + ·)), false)]
end MP
end

section -- MpTok
open PySem
namespace MP
/-- a text stands at a place -/
noncomputable def AtL (x y : List Nat) (i : Nat) : Prop := i ≤ x.length ∧ y <+: x.drop i
theorem at_iff (x y : List Nat) (i : Nat) : StrLaws.At (mkS x) (mkS y) (mkS x).length i ↔ AtL x y i := by
  unfold StrLaws.At AtL
  rw [StrLaws.subAt_eq, mkS_len, mkS_len, mkS_cps, mkS_cps, beq_iff_eq]
  constructor
  · rintro ⟨h1, h2⟩
    refine ⟨by omega, ?_⟩
    rw [← h2]
    exact List.take_prefix _ _
  · rintro ⟨h1, h2⟩
    have h3 := h2.length_le
    rw [List.length_drop] at h3
    refine ⟨?_, (List.prefix_iff_eq_take.mp h2).symm⟩
    cases y with
    | nil => simpa using h1
    | cons c r => simp only [List.length_cons] at h3 ⊢; omega
theorem sFind_eq (x y : List Nat) (s : Nat) : (sFind x y s x.length = -1 ∧ ∀ i, s ≤ i → ¬ AtL x y i) ∨ ∃ i : Nat, sFind x y s x.length = i ∧ s ≤ i ∧ AtL x y i ∧ ∀ k, s ≤ k → k < i → ¬ AtL x y k := by
  have hl : (mkS x).length = x.length := mkS_len x
  rcases StrLaws.occ_head_from (mkS x) (mkS y) s 1 (Nat.le_refl 1) with ⟨h0, hn⟩ | ⟨i, r, h0, h1, h2, h3⟩
  · refine .inl ⟨?_, fun i hi hA => hn i hi ((at_iff x y i).mpr hA)⟩
    unfold sFind
    rw [hl] at h0
    rw [h0]
  · refine .inr ⟨i, ?_, h1, (at_iff x y i).mp h2, fun k hk hk' hA => h3 k hk hk' ((at_iff x y k).mpr hA)⟩
    unfold sFind
    rw [hl] at h0
    rw [h0]
theorem sFind_none {x y : List Nat} {s : Nat} (h : ∀ i, s ≤ i → ¬ AtL x y i) : sFind x y s x.length = -1 := by
  rcases sFind_eq x y s with ⟨h0, _⟩ | ⟨i, h0, h1, h2, _⟩
  · exact h0
  · exact absurd h2 (h i h1)
theorem sFind_here {x y : List Nat} {s : Nat} (h : AtL x y s) : sFind x y s x.length = (s : Int) := by
  rcases sFind_eq x y s with ⟨_, h1⟩ | ⟨i, h0, h1, h2, h3⟩
  · exact absurd h (h1 s (Nat.le_refl _))
  · have : i = s := by
      rcases Nat.lt_or_ge s i with q | q
      · exact absurd h (h3 s (Nat.le_refl _) q)
      · omega
    rw [h0, this]
theorem sFind_skip {x y : List Nat} {s t : Nat} (hst : s ≤ t) (h : ∀ k, s ≤ k → k < t → ¬ AtL x y k) : sFind x y s x.length = sFind x y t x.length := by
  rcases sFind_eq x y t with ⟨h0, h1⟩ | ⟨i, h0, h1, h2, h3⟩
  · rw [h0]
    refine sFind_none fun i hi hA => ?_
    rcases Nat.lt_or_ge i t with q | q
    · exact h i hi q hA
    · exact h1 i q hA
  · rcases sFind_eq x y s with ⟨k0, k1⟩ | ⟨j, k0, k1, k2, k3⟩
    · exact absurd h2 (k1 i (by omega))
    · rw [h0, k0]
      have : j = i := by
        rcases Nat.lt_trichotomy j i with q | q | q
        · rcases Nat.lt_or_ge j t with q' | q'
          · exact absurd k2 (h j k1 q')
          · exact absurd k2 (h3 j q' q)
        · exact q
        · exact absurd h2 (k3 i (by omega) q)
      rw [this]
theorem sIn_iff (y x : List Nat) : sIn y x = true ↔ ∃ i, AtL x y i := by
  unfold sIn
  have hl : (mkS x).length = x.length := mkS_len x
  have := StrLaws.found_iff (mkS x) (mkS y)
  rw [hl] at this
  rw [this]
  constructor
  · rintro ⟨i, h⟩
    exact ⟨i, (at_iff x y i).mp ⟨by rw [hl]; exact h.1, h.2⟩⟩
  · rintro ⟨i, h⟩
    have := (at_iff x y i).mpr h
    exact ⟨i, by have := this.1; rw [hl] at this; exact this, this.2⟩
theorem swT_iff (g a : List Nat) : swT g a = true ↔ a <+: g := by
  unfold swT Txt.startswith
  rw [Bool.and_eq_true, decide_eq_true_eq]
  have := at_iff g a 0
  unfold StrLaws.At at this
  rw [this]
  unfold AtL
  simp
theorem ewT_iff (g a : List Nat) : ewT g a = true ↔ a <:+ g := by
  unfold ewT Txt.endswith
  rw [Bool.and_eq_true, decide_eq_true_eq, StrLaws.subAt_eq, mkS_len, mkS_len, mkS_cps, mkS_cps, beq_iff_eq]
  constructor
  · rintro ⟨h1, h2⟩
    have h3 : (g.drop (g.length - a.length)).take a.length = g.drop (g.length - a.length) := List.take_of_length_le (by rw [List.length_drop]; omega)
    rw [h3] at h2
    rw [← h2]
    exact List.drop_suffix _ _
  · intro h
    have h1 := h.length_le
    refine ⟨by omega, ?_⟩
    have h2 := List.suffix_iff_eq_drop.mp h
    rw [← h2]
    exact List.take_of_length_le (Nat.le_refl _)
end MP
end

section -- MpTok2
open PySem
namespace MP
/-- what is asked of the names' texts -/
structure Tok (f : Nat → List Nat) : Prop where
  tok : ∀ c, nmC c = true → ∃ h t, f c = h :: t ∧ ∀ d h' t', nmC d = true → f d = h' :: t' → h' ∉ t
  pre : ∀ c d, nmC c = true → nmC d = true → f c <+: f d → c = d
  suf : ∀ c d, nmC c = true → nmC d = true → f c <:+ f d → c = d
  dot : ∀ c, nmC c = true → 46 ∉ f c
section
variable {f : Nat → List Nat}
theorem Tok.ne (K : Tok f) {c : Nat} (h : nmC c = true) : f c ≠ [] := by
  obtain ⟨a, t, e, _⟩ := K.tok c h
  rw [e]; simp
theorem Tok.pos (K : Tok f) {c : Nat} (h : nmC c = true) : 1 ≤ (f c).length := by
  obtain ⟨a, t, e, _⟩ := K.tok c h
  rw [e]; simp
/-- a name that is met within a token is that token -/
theorem tok_at (K : Tok f) {a c : Nat} (ha : nmC a = true) (hc : nmC c = true) {R : List Nat} {j : Nat} (hj : j < (f c).length) (h : f a <+: (f c ++ R).drop j) : j = 0 ∧ a = c := by
  obtain ⟨x, s, ea, _⟩ := K.tok a ha
  obtain ⟨y, t, ec, k⟩ := K.tok c hc
  cases j with
  | zero =>
    refine ⟨rfl, ?_⟩
    rw [List.drop_zero] at h
    rcases List.prefix_or_prefix_of_prefix h (List.prefix_append (f c) R) with q | q
    · exact K.pre a c ha hc q
    · exact (K.pre c a hc ha q).symm
  | succ j =>
    exfalso
    rw [ec, List.length_cons] at hj
    have hj' : j < t.length := by omega
    rw [ec, ea, List.cons_append, List.drop_succ_cons, List.drop_append_of_le_length (by omega), List.drop_eq_getElem_cons hj', List.cons_append, List.cons_prefix_cons] at h
    exact k a x s ha ea (h.1 ▸ List.getElem_mem hj')
theorem nmsL_cons {c : Nat} {r : List Nat} (h : nmsL (c :: r) = true) : nmC c = true ∧ nmsL r = true := by
  unfold nmsL at h
  split at h
  · rename_i q; exact ⟨q, h⟩
  · first | exact nomatch h | cases h
theorem nmsL_mem : ∀ {l : List Nat}, nmsL l = true → ∀ c ∈ l, nmC c = true
  | [], _, c, hc => nomatch hc
  | x :: r, h, c, hc => by
    rcases List.mem_cons.mp hc with rfl | hc
    · exact (nmsL_cons h).1
    · exact nmsL_mem (nmsL_cons h).2 c hc
theorem atL_split {P Q y : List Nat} {i : Nat} (h : P.length ≤ i) (hA : AtL (P ++ Q) y i) : y <+: Q.drop (i - P.length) ∧ i - P.length ≤ Q.length := by
  obtain ⟨h1, h2⟩ := hA
  rw [List.length_append] at h1
  refine ⟨?_, by omega⟩
  rw [List.drop_append, List.drop_eq_nil_of_le h, List.nil_append] at h2
  exact h2
theorem atL_of {P Q y : List Nat} (h : y <+: Q) : AtL (P ++ Q) y P.length := by
  refine ⟨by simp, ?_⟩
  rw [List.drop_left]
  exact h
/-- the loop of the ellipsis match over names = the subsequence test -/
theorem loop_names (K : Tok f) (rest : List (List Nat)) : ∀ (g g1 l : List Nat), nmsL l = true → nmsL g = true →
    (∀ s : Nat, s ≤ (fl f (g1 ++ g)).length → ellLoop (fl f (g1 ++ g)) (fl f (g1 ++ g)).length rest (.ofNat s) = true) →
    ellLoop (fl f (g1 ++ g)) (fl f (g1 ++ g)).length (l.map f ++ rest) (.ofNat (fl f g1).length) = subsq l g
  | g, g1, [], hl, hg, hr => by
    simp only [List.map_nil, List.nil_append, subsq]
    refine hr _ ?_
    rw [fl_append, List.length_append]; omega
  | [], g1, a :: r, hl, hg, hr => by
    have ha := (nmsL_cons hl).1
    have hn : sFind (fl f (g1 ++ [])) (f a) (fl f g1).length (fl f (g1 ++ [])).length = -1 := by
      refine sFind_none fun i hi hA => ?_
      rw [List.append_nil] at hA
      have h1 := hA.1
      have h2 := hA.2.length_le
      have h3 := K.pos ha
      rw [List.length_drop] at h2
      omega
    simp only [List.map_cons, List.cons_append, ellLoop, subsq]
    have e : Int.ofNat (fl f g1).length = ((fl f g1).length : Int) := rfl
    rw [hn]
    rfl
  | c :: g, g1, a :: r, hl, hg, hr => by
    have ha := (nmsL_cons hl).1
    have hc := (nmsL_cons hg).1
    have eA : g1 ++ c :: g = (g1 ++ [c]) ++ g := by simp
    have eF : fl f (g1 ++ c :: g) = fl f g1 ++ (f c ++ fl f g) := by rw [fl_append, fl_cons]
    have eL : (fl f (g1 ++ [c])).length = (fl f g1).length + (f c).length := by rw [fl_append, fl_one, List.length_append]
    simp only [subsq]
    cases hq : Nat.beq a c with
    | true =>
      have hac : a = c := Nat.eq_of_beq_eq_true hq
      subst hac
      have hA : AtL (fl f (g1 ++ a :: g)) (f a) (fl f g1).length := by
        rw [eF]
        exact atL_of (List.prefix_append _ _)
      have h1 := sFind_here hA
      simp only [List.map_cons, List.cons_append, ellLoop]
      rw [h1]
      have ih := loop_names K rest g (g1 ++ [a]) r (nmsL_cons hl).2 (nmsL_cons hg).2 (by rw [← eA]; exact hr)
      rw [← eA, eL] at ih
      exact ih
    | false =>
      have hac : a ≠ c := fun e => by rw [e, Nat.beq_refl] at hq; cases hq
      have ih := loop_names K rest g (g1 ++ [c]) (a :: r) hl (nmsL_cons hg).2 (by rw [← eA]; exact hr)
      rw [← eA, eL] at ih
      have hs : sFind (fl f (g1 ++ c :: g)) (f a) (fl f g1).length (fl f (g1 ++ c :: g)).length = sFind (fl f (g1 ++ c :: g)) (f a) ((fl f g1).length + (f c).length) (fl f (g1 ++ c :: g)).length := by
        refine sFind_skip (Nat.le_add_right _ _) fun k h1 h2 hA => ?_
        rw [eF] at hA
        obtain ⟨h3, _⟩ := atL_split h1 hA
        exact hac (tok_at K ha hc (by omega) h3).2
      simp only [List.map_cons, List.cons_append, ellLoop] at ih ⊢
      rw [hs]
      exact ih
end
end MP
end

section -- MpTok3
open PySem
namespace MP
noncomputable def dots3 : List Nat := [46, 46, 46]
theorem atL_get {X : List Nat} {k : Nat} (h : AtL X dots3 k) : X[k]? = some 46 := by
  obtain ⟨h1, t, ht⟩ := h
  have e : X[k]? = (X.drop k)[0]? := by rw [List.getElem?_drop]; rfl
  rw [e, ← ht]
  rfl
theorem no_dot_at {pre p q : List Nat} (hp : 46 ∉ p) {k : Nat} (h1 : pre.length ≤ k) (h2 : k < pre.length + p.length) : ¬ AtL (pre ++ (p ++ q)) dots3 k := by
  intro h
  have e := atL_get h
  rw [List.getElem?_append_right h1, List.getElem?_append_left (by omega)] at e
  exact hp (List.mem_of_getElem? e)
theorem sub_mk (X : List Nat) (i j : Nat) : (Builtin.Str.strSub (mkS X) i j).cps.toList = (X.drop i).take (j - i) := by
  rw [StrLaws.strSub_toList, mkS_cps]
theorem parts_of : ∀ (ps : List (List Nat)) (pre : List Nat) (cuts : List Nat) (fe : Nat), ps ≠ [] → (∀ p ∈ ps, 46 ∉ p) →
    StrLaws.ChainG (mkS (pre ++ joinS dots3 ps)) (mkS dots3) (mkS (pre ++ joinS dots3 ps)).length pre.length cuts fe →
    (∀ k, fe ≤ k → ¬ StrLaws.At (mkS (pre ++ joinS dots3 ps)) (mkS dots3) (mkS (pre ++ joinS dots3 ps)).length k) →
    (StrLaws.partsFrom (mkS (pre ++ joinS dots3 ps)) 3 pre.length cuts).map (·.cps.toList) = ps
  | [], _, _, _, h, _, _, _ => absurd rfl h
  | [p], pre, cuts, fe, _, hp, hc, hn => by
    have hp := hp p List.mem_cons_self
    simp only [joinS] at hc hn ⊢
    cases cuts with
    | nil =>
      simp only [StrLaws.partsFrom, List.map_cons, List.map_nil, sub_mk, mkS_len]
      rw [List.drop_left, List.length_append, Nat.add_sub_cancel_left, List.take_length]
    | cons c r =>
      exfalso
      obtain ⟨h1, h2, _⟩ := hc
      have h2 := (at_iff _ _ _).mp h2
      have e := atL_get h2
      rw [List.getElem?_append_right h1] at e
      exact hp (List.mem_of_getElem? e)
  | p :: q :: r, pre, cuts, fe, _, hp, hc, hn => by
    have hp0 := hp p List.mem_cons_self
    have eX : pre ++ joinS dots3 (p :: q :: r) = (pre ++ p) ++ (dots3 ++ joinS dots3 (q :: r)) := by simp [joinS, List.append_assoc]
    have eX2 : pre ++ joinS dots3 (p :: q :: r) = pre ++ (p ++ (dots3 ++ joinS dots3 (q :: r))) := by simp [joinS, List.append_assoc]
    have eX3 : pre ++ joinS dots3 (p :: q :: r) = (pre ++ p ++ dots3) ++ joinS dots3 (q :: r) := by simp [joinS, List.append_assoc]
    have hA : AtL (pre ++ joinS dots3 (p :: q :: r)) dots3 (pre.length + p.length) := by
      have := atL_of (P := pre ++ p) (Q := dots3 ++ joinS dots3 (q :: r)) (y := dots3) (List.prefix_append _ _)
      rw [← eX, List.length_append] at this
      exact this
    have hno : ∀ k, pre.length ≤ k → k < pre.length + p.length → ¬ AtL (pre ++ joinS dots3 (p :: q :: r)) dots3 k := fun k h1 h2 => by
      rw [eX2]; exact no_dot_at hp0 h1 h2
    cases cuts with
    | nil =>
      exfalso
      have e : fe = pre.length := hc
      exact hn (pre.length + p.length) (by omega) ((at_iff _ _ _).mpr hA)
    | cons c cs =>
      obtain ⟨h1, h2, h3, h4⟩ := hc
      have h2 := (at_iff _ _ _).mp h2
      have ec : c = pre.length + p.length := by
        rcases Nat.lt_trichotomy c (pre.length + p.length) with k | k | k
        · exact absurd h2 (hno c h1 k)
        · exact k
        · exact absurd ((at_iff _ _ _).mpr hA) (h3 _ (Nat.le_add_right _ _) k)
      subst ec
      have el : (mkS dots3).length = 3 := rfl
      have e3 : (pre ++ p ++ dots3).length = pre.length + p.length + 3 := by simp [dots3]; omega
      have ih := parts_of (q :: r) (pre ++ p ++ dots3) cs fe (by simp) (fun x hx => hp x (List.mem_cons_of_mem _ hx)) (by rw [← eX3, e3]; rw [el] at h4; exact h4) (by rw [← eX3]; exact hn)
      rw [← eX3, e3] at ih
      simp only [StrLaws.partsFrom, List.map_cons, ih, sub_mk]
      rw [eX2, List.drop_left, Nat.add_sub_cancel_left, List.take_left]
theorem join_has (p q : List Nat) (r : List (List Nat)) : AtL (joinS dots3 (p :: q :: r)) dots3 p.length := by
  have e : joinS dots3 (p :: q :: r) = p ++ (dots3 ++ joinS dots3 (q :: r)) := by simp [joinS, List.append_assoc]
  rw [e]
  exact atL_of (List.prefix_append _ _)
theorem pieces_join {p q : List Nat} {r : List (List Nat)} (hp : ∀ x ∈ p :: q :: r, 46 ∉ x) : piecesS (joinS dots3 (p :: q :: r)) = p :: q :: r := by
  obtain ⟨fe, h1, h2⟩ := StrLaws.occ_tight (mkS (joinS dots3 (p :: q :: r))) (mkS dots3) (by rw [mkS_len]; exact Nat.le_of_ble_eq_true rfl)
  have h3 := parts_of (p :: q :: r) [] _ fe (by simp) hp (by rw [List.nil_append]; exact h1) (by rw [List.nil_append]; exact h2)
  rw [List.nil_append] at h3
  have hA := join_has p q r
  unfold piecesS Txt.split
  have hd : mkS [46, 46, 46] = mkS dots3 := rfl
  rw [hd]
  have k1 : (decide ((mkS (joinS dots3 (p :: q :: r))).length < (mkS dots3).length)) = false := by
    refine decide_eq_false ?_
    rw [mkS_len, mkS_len]
    have k2 := hA.1
    have k3 := hA.2.length_le
    rw [List.length_drop] at k3
    omega
  have k2 : (decide (Builtin.Str.strKind (mkS (joinS dots3 (p :: q :: r))) < Builtin.Str.strKind (mkS dots3))) = false := by
    refine decide_eq_false ?_
    have : Builtin.Str.strKind (mkS dots3) = 1 := by simp [Builtin.Str.strKind, mkS, dots3]
    rw [this]
    unfold Builtin.Str.strKind
    split
    · omega
    · split <;> omega
  have k3 : (Builtin.Str.occurrences (mkS (joinS dots3 (p :: q :: r))) (mkS dots3) 0 (mkS (joinS dots3 (p :: q :: r))).length ((mkS (joinS dots3 (p :: q :: r))).length + 1)).isEmpty = false := by
    cases ho : Builtin.Str.occurrences (mkS (joinS dots3 (p :: q :: r))) (mkS dots3) 0 (mkS (joinS dots3 (p :: q :: r))).length ((mkS (joinS dots3 (p :: q :: r))).length + 1) with
    | nil =>
      rw [ho] at h1
      have e : fe = 0 := h1
      exact absurd ((at_iff _ _ _).mpr hA) (h2 _ (by omega))
    | cons a b => rfl
  rw [k1, k2, k3, StrLaws.partsBetween_eq]
  have el : (mkS dots3).length = 3 := rfl
  rw [el]
  exact h3
end MP
end

section -- MpTok4
open PySem
namespace MP
section
variable {f : Nat → List Nat}
theorem join_cons (p : List Nat) : ∀ (q : List (List Nat)), q ≠ [] → joinS dots3 (p :: q) = p ++ dots3 ++ joinS dots3 q
  | [], h => absurd rfl h
  | _ :: _, _ => rfl
theorem fl_d3 (S : Sg f) (r : List Nat) : fl f (46 :: 46 :: 46 :: r) = dots3 ++ fl f r := by
  simp [fl_cons, S.dot, dots3]
theorem fl_no_dot (K : Tok f) : ∀ {l : List Nat}, nmsL l = true → 46 ∉ fl f l
  | [], _ => by simp [fl]
  | c :: r, h => by
    rw [fl_cons, List.mem_append]
    rintro (q | q)
    · exact K.dot c (nmsL_cons h).1 q
    · exact fl_no_dot K (nmsL_cons h).2 q
theorem pcs_ok (S : Sg f) : ∀ (w l : List Nat), pcs w = some l → nmsL l = true ∧ fl f w = joinS dots3 ([] :: (l.map f ++ [[]])) ∧ l.length ≤ w.length := by
  intro w
  fun_induction pcs w with
  | case1 => intro l h; cases h; refine ⟨rfl, ?_, Nat.zero_le _⟩; simp [fl_d3 S, fl_nil, joinS]
  | case2 a t ha l hl ih =>
    intro l' h
    cases h
    obtain ⟨h1, h2, h3⟩ := ih l hl
    refine ⟨?_, ?_, ?_⟩
    · unfold nmsL; rw [ha]; exact h1
    · rw [fl_d3 S, fl_cons, h2, List.map_cons, join_cons _ _ (by simp), List.cons_append, join_cons [] _ (by simp), join_cons (f a) _ (by simp)]
      simp
    · simp only [List.length_cons]; omega
  | case3 => intro l h; cases h
  | case4 => intro l h; cases h
  | case5 => intro l h; cases h
theorem preq_ok : ∀ (w g : List Nat) (b : Bool), preq w g = some b → (b = true ∧ w = g) ∨ (b = false ∧ ∃ c r, g = w ++ c :: r)
  | [], [], b, h => by simp only [preq] at h; cases h; exact .inl ⟨rfl, rfl⟩
  | [], c :: r, b, h => by simp only [preq] at h; cases h; exact .inr ⟨rfl, c, r, rfl⟩
  | a :: w, c :: g, b, h => by
    simp only [preq] at h
    split at h
    · rename_i q
      have e := Nat.eq_of_beq_eq_true q
      subst e
      rcases preq_ok w g b h with ⟨h1, h2⟩ | ⟨h1, x, r, h2⟩
      · exact .inl ⟨h1, by rw [h2]⟩
      · exact .inr ⟨h1, x, r, by rw [h2, List.cons_append]⟩
    · first | exact nomatch h | cases h
  | _ :: _, [], b, h => by simp only [preq] at h; cases h
theorem lastIs_ok {b c : Nat} : ∀ (g : List Nat), lastIs b (g ++ [c]) = Nat.beq b c
  | [] => rfl
  | [x] => rfl
  | x :: y :: r => by
    have := lastIs_ok (b := b) (c := c) (y :: r)
    simp only [List.cons_append, lastIs] at this ⊢
    exact this
theorem beq_iff (a c : Nat) : Nat.beq a c = true ↔ a = c := ⟨Nat.eq_of_beq_eq_true, fun e => by rw [e]; exact Nat.beq_refl c⟩
theorem ell_ok (S : Sg f) (K : Tok f) (F : FTab) {w g : List Nat} {b : Bool} (h : ellT w g = some b) :
    runF gF F constG p_ellipsis_match b_ellipsis_match [.str (fl f w), .str (fl f g)] = some (.bool b) := by
  unfold ellT at h
  split at h
  · first | exact nomatch h | cases h
  · rename_i hgd
    rw [Bool.and_eq_true, Bool.and_eq_true] at hgd
    obtain ⟨⟨hg, hgl⟩, hwl⟩ := hgd
    have hgl := Nat.le_of_ble_eq_true hgl
    have hwl := Nat.le_of_ble_eq_true hwl
    have lg := fl_len S g
    have lw := fl_len S w
    have okg : lenOk (fl f g).length = true := lenOk_of (by omega)
    have okw : lenOk (fl f w).length = true := lenOk_of (by omega)
    have lf : ∀ c, lenOk (f c).length = true := fun c => lenOk_of (by have := S.len c; omega)
    split at h
    · rename_i hw
      have hs : sIn [46, 46, 46] (fl f w) = false := by
        rw [Bool.eq_false_iff]
        intro q
        obtain ⟨i, hA⟩ := (sIn_iff _ _).mp q
        exact fl_no_dot K hw (List.mem_of_getElem? (atL_get hA))
      rw [ell_plain F _ _ hs]
      rcases preq_ok w g b h with ⟨rfl, rfl⟩ | ⟨rfl, c, r, rfl⟩
      · rw [(sEq_iff _ _).mpr rfl]
      · have hc : nmC c = true := nmsL_mem hg c (by simp)
        have : sEq (fl f w) (fl f (w ++ c :: r)) = false := by
          rw [Bool.eq_false_iff]
          intro q
          have e := congrArg List.length ((sEq_iff _ _).mp q)
          rw [fl_append, fl_cons, List.length_append, List.length_append] at e
          have := K.pos hc
          omega
        rw [this]
    · rename_i hw
      split at h
      · rename_i a' b' _
        split at h
        · rename_i hab
          rw [Bool.and_eq_true] at hab
          obtain ⟨ha, hb⟩ := hab
          split at h
          · first | exact nomatch h | cases h
          · rename_i hne
            cases h
            have e : fl f [a', 46, 46, 46, b'] = joinS dots3 [f a', f b'] := by
              rw [fl_cons, fl_d3 S, fl_one]; simp [joinS]
            have hp : piecesS (fl f [a', 46, 46, 46, b']) = [f a', f b'] := by
              rw [e]
              refine pieces_join fun x hx => ?_
              simp only [List.mem_cons, List.not_mem_nil, or_false] at hx
              rcases hx with rfl | rfl
              · exact K.dot _ ha
              · exact K.dot _ hb
            have hs : sIn [46, 46, 46] (fl f [a', 46, 46, 46, b']) = true := by
              rw [sIn_iff, e]
              exact ⟨_, join_has (f a') (f b') []⟩
            rw [sets_two F _ _ (f a') (f b') (K.ne ha) (K.ne hb) okw okg (lf _) (lf _) hs hp]
            congr 2
            cases g with
            | nil => exact absurd rfl hne
            | cons c g' =>
              have hc := (nmsL_cons hg).1
              have h1 : swT (fl f (c :: g')) (f a') = headIs a' (c :: g') := by
                rw [Bool.eq_iff_iff, swT_iff, fl_cons]
                show _ ↔ Nat.beq a' c = true
                rw [beq_iff]
                constructor
                · intro q; exact (tok_at K ha hc (j := 0) (K.pos hc) q).2
                · rintro rfl; exact List.prefix_append _ _
              obtain ⟨g2, d, eg⟩ : ∃ g2 d, c :: g' = g2 ++ [d] := ⟨_, _, (List.dropLast_concat_getLast (by simp)).symm⟩
              have hd : nmC d = true := nmsL_mem hg d (by rw [eg]; simp)
              have h2 : ewT (fl f (c :: g')) (f b') = lastIs b' (c :: g') := by
                rw [eg, lastIs_ok, Bool.eq_iff_iff, ewT_iff, fl_append, fl_one, beq_iff]
                constructor
                · intro q
                  rcases List.suffix_or_suffix_of_suffix q (List.suffix_append (fl f g2) (f d)) with k | k
                  · exact K.suf _ _ hb hd k
                  · exact (K.suf _ _ hd hb k).symm
                · rintro rfl; exact List.suffix_append _ _
              rw [h1, h2]
              cases q1 : headIs a' (c :: g') with
              | false => rfl
              | true =>
                cases q2 : lastIs b' (c :: g') with
                | false => rfl
                | true =>
                  have e1 : a' = c := (beq_iff _ _).mp q1
                  rw [eg, lastIs_ok, beq_iff] at q2
                  subst e1; subst q2
                  simp only [Bool.true_and]
                  cases g' with
                  | nil =>
                    have : b' = a' := by
                      have := congrArg List.getLast? eg
                      simpa using this.symm
                    subst this
                    have := K.pos ha
                    rw [decide_eq_false (by rw [fl_one]; omega)]
                    rfl
                  | cons x r =>
                    have l1 : g2.length = (x :: r).length := by
                      have := congrArg List.length eg
                      simp only [List.length_append, List.length_cons, List.length_nil] at this
                      simp only [List.length_cons]; omega
                    cases g2 with
                    | nil => simp at l1
                    | cons y s =>
                      have : y = a' := by
                        have := congrArg List.head? eg
                        simpa using this.symm
                      subst this
                      have l2 : (fl f (y :: x :: r)).length = (f y).length + (fl f s).length + (f b').length := by
                        rw [eg]; simp [fl_cons, fl_append, fl_nil]; omega
                      rw [decide_eq_true (by omega)]
                      simp [Nat.blt]
        · first | exact nomatch h | cases h
      · split at h
        · rename_i l hl
          cases h
          obtain ⟨h1, h2, h3⟩ := pcs_ok S w l hl
          have hdf : ∀ x ∈ ([] : List Nat) :: (l.map f ++ [[]]), 46 ∉ x := by
            intro x hx
            simp only [List.mem_cons, List.mem_append, List.mem_map, List.not_mem_nil, or_false] at hx
            rcases hx with rfl | ⟨c, hc, rfl⟩ | rfl
            · simp
            · exact K.dot c (nmsL_mem h1 c hc)
            · simp
          have hp : piecesS (fl f w) = [] :: (l.map f ++ [[]]) := by
            rw [h2]
            cases hq : l.map f ++ [[]] with
            | nil => simp at hq
            | cons q r => rw [hq] at hdf; exact pieces_join hdf
          have hs : sIn [46, 46, 46] (fl f w) = true := by
            rw [sIn_iff, h2]
            cases hq : l.map f ++ [[]] with
            | nil => simp at hq
            | cons q r => exact ⟨_, join_has [] q r⟩
          rw [sets_empty_both F (fl f w) (fl f g) (l.map f) okw okg hs hp (lenOk_of (by rw [List.length_map]; omega)) (by
            intro p hp
            obtain ⟨c, _, rfl⟩ := List.mem_map.mp hp
            exact lf c)]
          congr 2
          have e0 : AtL (fl f g) [] 0 := ⟨Nat.zero_le _, List.nil_prefix⟩
          have e1 := sFind_here e0
          have lp := loop_names K [[]] g [] l h1 hg (by
            intro s hs
            have e2 : AtL (fl f ([] ++ g)) [] s := ⟨hs, List.nil_prefix⟩
            have e3 := sFind_here e2
            simp only [ellLoop]
            rw [e3])
          rw [List.nil_append] at lp
          simp only [ellLoop]
          rw [e1]
          exact lp
        · first | exact nomatch h | cases h
end
end MP
end

section -- MpWays
open PySem
namespace MP
/-! the walk of the ways in the guarded evaluator -/
noncomputable def wBodyK : Ss := .cons (.iff (.cmp (.sub (.var 34) (.slc (.var 38) (.some (.var 29)) (.some (.bin .Add (.var 29) (.int 2))))) (.one .Eq (.int 1))) (.cons (.assign 39 (.bin .Add (.bin .Add (.bin .Add (.slc (.var 38) .none (.some (.var 29))) (.sub (.var 38) (.bin .Add (.var 29) (.int 1)))) (.sub (.var 38) (.var 29))) (.slc (.var 38) (.some (.bin .Add (.var 29) (.int 2))) .none))) (.cons (.setItem 37 (.var 39) (.bin .Add (.meth .get (.var 37) (.cons (.var 39) (.cons (.int 0) .nil))) (.sub (.var 36) (.var 38)))) .nil)) .nil) .nil
noncomputable def wBodyL : Ss := .cons (.for 29 (.bi .range (.cons (.int 4) .nil)) wBodyK) .nil
noncomputable def wBodyT : Ss := .cons (.assign 37 .dict0) (.cons (.for 38 (.var 36) wBodyL) (.cons (.iff (.cmp (.var 37) (.one .Eq .dict0)) (.cons (.ret (.var 36)) .nil) .nil) (.cons (.assign 36 (.var 37)) .nil)))
theorem b_ways_eq : b_law_ways = .cons (.assign 36 (.dict1 (.var 33) (.int 1))) (.cons (.for 35 (.bi .range (.cons (.int 11) .nil)) wBodyT) (.cons (.ret .dict0) .nil)) := rfl
noncomputable def mvL : Option (List Nat) → St
  | none => []
  | some m => [(39, .str m, false)]
noncomputable def stX (row : List Nat) (tk : List (List Nat)) (tv : List T) (W : WD) (tn : T) (A : WD) (line : List Nat) (v : T) (mv : Option (List Nat)) : St :=
  [(33, .str row, false), (34, .dict tk tv, false), (36, .dict (ksOf W) (vsOf W), false), (35, tn, false), (37, .dict (ksOf A) (vsOf A), true), (38, .str line, false), (29, v, false)] ++ mvL mv
theorem look_lookS (D : WD) (k : List Nat) : lookS (ksOf D) (vsOf D) k = (look D k).map .int := by
  induction D with
  | nil => rfl
  | cons p r ih =>
    simp only [ksOf, vsOf, List.map_cons, lookS, look] at ih ⊢
    cases sEq p.1 k with
    | true => rfl
    | false => exact ih
theorem bump_putS (D : WD) (k : List Nat) (n : Int) : putS (ksOf D) (vsOf D) k (.int ((look D k).getD 0 + n)) = (ksOf (bump D k n), vsOf (bump D k n)) := by
  induction D with
  | nil => rfl
  | cons p r ih =>
    simp only [ksOf, vsOf, List.map_cons, putS, look, bump] at ih ⊢
    cases sEq p.1 k with
    | true => rfl
    | false => simp only [ih, List.map_cons]
theorem bump_len (D : WD) (k : List Nat) (n : Int) : (bump D k n).length ≤ D.length + 1 := by
  induction D with
  | nil => simp [bump]
  | cons p r ih =>
    simp only [bump]
    cases sEq p.1 k with
    | true => simp
    | false => simp only [List.length_cons]; omega
theorem ks_len (D : WD) : (ksOf D).length = D.length := by simp [ksOf]
theorem get_meth {A : WD} {k : List Nat} (hk : isRow k = true) : methT gA .get (.dict (ksOf A) (vsOf A)) [.str k, .int 0] = some (.int ((look A k).getD 0), false) := by
  refine gtI hk ?_
  rw [look_lookS]
  cases look A k <;> rfl
section
variable (F : FTab) (row : List Nat) (tk : List (List Nat)) (tv : List T) (W : WD) (tn : T) (A : WD) (line : List Nat)
theorem wk_no (k k2 : Int) (xy : List Nat) (v : Int) (mv : Option (List Nat)) (hk : small k = true) (hk2 : small k2 = true) (a2 : binT gA .Add (.int k) (.int 2) = some (.int k2, false))
    (s1 : sliceT gA (.str line) (some k) (some k2) = some (.str xy, false)) (i1 : idxT gA (.dict tk tv) (.str xy) = some (.int v)) (hv : decide (v = 1) = false) :
    evSs gA F constG wBodyK (stX row tk tv W tn A line (.int k) mv) = some (.next, stX row tk tv W tn A line (.int k) mv) := by
  have e1 : cmpT gA .Eq (.int v) (.int 1) = some false := by
    show some (decide (v = 1)) = _
    rw [hv]
  cases mv <;>
  simp [-w_binT_int, -w_binT_str, -w_sliceT_str, -w_idxT_dict, -w_idxT_str, -w_methT_get, -w_cmpT_eq, wBodyK, stX, mvL, St.get_nil, St.get_cons, St.set_nil, St.set_cons, hk, hk2, a2, s1, i1, e1]
theorem wk_yes (k k1 k2 n : Int) (xy p q m py pyx : List Nat) (x y : Nat) (mv : Option (List Nat)) (hk : small k = true) (hk2 : small k2 = true) (a2 : binT gA .Add (.int k) (.int 2) = some (.int k2, false)) (a1 : binT gA .Add (.int k) (.int 1) = some (.int k1, false))
    (s1 : sliceT gA (.str line) (some k) (some k2) = some (.str xy, false)) (i1 : idxT gA (.dict tk tv) (.str xy) = some (.int 1))
    (s2 : sliceT gA (.str line) none (some k) = some (.str p, false)) (x1 : idxT gA (.str line) (.int k1) = some (.str [y])) (x0 : idxT gA (.str line) (.int k) = some (.str [x])) (s3 : sliceT gA (.str line) (some k2) none = some (.str q, false))
    (b1 : binT gA .Add (.str p) (.str [y]) = some (.str py, false)) (b2 : binT gA .Add (.str py) (.str [x]) = some (.str pyx, false)) (b3 : binT gA .Add (.str pyx) (.str q) = some (.str m, false))
    (hm : isRow m = true) (hn : idxT gA (.dict (ksOf W) (vsOf W)) (.str line) = some (.int n)) (hl : lenOk A.length = true) :
    evSs gA F constG wBodyK (stX row tk tv W tn A line (.int k) mv) = some (.next, stX row tk tv W tn (bump A m n) line (.int k) (some m)) := by
  have e1 : cmpT gA .Eq (.int 1) (.int 1) = some true := rfl
  have g1 := get_meth (A := A) hm
  have b4 : binT gA .Add (.int ((look A m).getD 0)) (.int n) = some (.int ((look A m).getD 0 + n), false) := rfl
  have pp := bump_putS A m n
  have kl : lenOk (ksOf A).length = true := by rw [ks_len]; exact hl
  cases mv <;>
  simp [-w_binT_int, -w_binT_str, -w_sliceT_str, -w_idxT_dict, -w_idxT_str, -w_methT_get, -w_cmpT_eq, wBodyK, stX, mvL, St.get_nil, St.get_cons, St.set_nil, St.set_cons, opKind, hk, hk2, a2, a1, s1, i1, e1, s2, x1, x0, s3, b1, b2, b3, b4, hm, hn, g1, kl, pp]
end
end MP
end

section -- MpWays2
open PySem
namespace MP
noncomputable def okLine (l : List Nat) : Prop := ∃ a b c d e, l = [a, b, c, d, e] ∧ a < 5 ∧ b < 5 ∧ c < 5 ∧ d < 5 ∧ e < 5
theorem row_of {l : List Nat} (h : ∀ c ∈ l, c < 5) (hl : l.length ≤ 5) : isRow l = true := isRow_mk h (by omega)
theorem isRow5 {a b c d e : Nat} (ha : a < 5) (hb : b < 5) (hc : c < 5) (hd : d < 5) (he : e < 5) : isRow [a, b, c, d, e] = true := row_of (by
  intro x hx
  simp only [List.mem_cons, List.not_mem_nil, or_false] at hx
  rcases hx with rfl | rfl | rfl | rfl | rfl <;> assumption) (by simp)
theorem isRow2 {a b : Nat} (ha : a < 5) (hb : b < 5) : isRow [a, b] = true := row_of (by
  intro x hx
  simp only [List.mem_cons, List.not_mem_nil, or_false] at hx
  rcases hx with rfl | rfl <;> assumption) (by simp)
theorem sl5 {l ys : List Nat} {lo hi : Option Int} (hr : isRow l = true) (hl : lenOk l.length = true) (h : cutL l lo hi = some ys) : sliceT gA (.str l) lo hi = some (.str ys, false) := gtI (Bool.and_eq_true_iff.mpr ⟨hr, hl⟩) (obI h rfl)
theorem ix5 {l : List Nat} {n c : Nat} (hr : isRow l = true) (hl : lenOk l.length = true) (h : l[n]? = some c) : idxT gA (.str l) (.int (Int.ofNat n)) = some (.str [c]) := gtI (Bool.and_eq_true_iff.mpr ⟨hr, hl⟩) (obI rfl (obI h rfl))
theorem bumpIf_len (B x y : Nat) (A : WD) (k : List Nat) (n : Int) : (bumpIf B x y A k n).length ≤ A.length + 1 := by
  unfold bumpIf
  cases hit B x y with
  | true => exact bump_len A k n
  | false => simp
theorem dict_idx {D : WD} {l : List Nat} {n : Int} (hr : isRow l = true) (h : look D l = some n) : idxT gA (.dict (ksOf D) (vsOf D)) (.str l) = some (.int n) := by
  exact gtI hr (by rw [look_lookS, h]; rfl)
section
variable (F : FTab) (row : List Nat) (tk : List (List Nat)) (tv : List T) (W : WD) (tn : T) (B : Nat)
  (hB : ∀ x y, x < 5 → y < 5 → ∃ v, lookS tk tv [x, y] = some (.int v) ∧ decide (v = 1) = hit B x y)
include hB
theorem told_idx {x y : Nat} (hx : x < 5) (hy : y < 5) : ∃ v, idxT gA (.dict tk tv) (.str [x, y]) = some (.int v) ∧ decide (v = 1) = hit B x y := by
  obtain ⟨v, h1, h2⟩ := hB x y hx hy
  exact ⟨v, gtI (isRow2 hx hy) h1, h2⟩
theorem wk0 {a b c d e : Nat} (A : WD) (n : Int) (mv : Option (List Nat)) (ha : a < 5) (hb : b < 5) (hc : c < 5) (hd : d < 5) (he : e < 5) (hn : look W [a, b, c, d, e] = some n) (hl : A.length ≤ 1000) :
    ∃ mv', evSs gA F constG wBodyK (stX row tk tv W tn A [a, b, c, d, e] (.int 0) mv) = some (.next, stX row tk tv W tn (bumpIf B a b A [b, a, c, d, e] n) [a, b, c, d, e] (.int 0) mv') := by
  have hr := isRow5 ha hb hc hd he
  obtain ⟨v, i1, hv⟩ := told_idx tk tv B hB ha hb
  have s1 : sliceT gA (.str [a, b, c, d, e]) (some 0) (some 2) = some (.str [a, b], false) := sl5 hr rfl rfl
  unfold bumpIf
  cases hh : hit B a b with
  | false => exact ⟨mv, wk_no F row tk tv W tn A _ 0 2 [a, b] v mv (by decide) (by decide) rfl s1 i1 (hv.trans hh)⟩
  | true =>
    have : v = 1 := of_decide_eq_true (hv.trans hh)
    subst this
    exact ⟨_, wk_yes F row tk tv W tn A _ 0 1 2 n [a, b] [] [c, d, e] [b, a, c, d, e] [b] [b, a] a b mv (by decide) (by decide) rfl rfl s1 i1
      (sl5 hr rfl rfl) (ix5 hr rfl rfl) (ix5 hr rfl rfl) (sl5 hr rfl rfl) rfl rfl rfl (isRow5 hb ha hc hd he) (dict_idx hr hn) (lenOk_of (by omega))⟩
theorem wk1 {a b c d e : Nat} (A : WD) (n : Int) (mv : Option (List Nat)) (ha : a < 5) (hb : b < 5) (hc : c < 5) (hd : d < 5) (he : e < 5) (hn : look W [a, b, c, d, e] = some n) (hl : A.length ≤ 1000) :
    ∃ mv', evSs gA F constG wBodyK (stX row tk tv W tn A [a, b, c, d, e] (.int 1) mv) = some (.next, stX row tk tv W tn (bumpIf B b c A [a, c, b, d, e] n) [a, b, c, d, e] (.int 1) mv') := by
  have hr := isRow5 ha hb hc hd he
  obtain ⟨v, i1, hv⟩ := told_idx tk tv B hB hb hc
  have s1 : sliceT gA (.str [a, b, c, d, e]) (some 1) (some 3) = some (.str [b, c], false) := sl5 hr rfl rfl
  unfold bumpIf
  cases hh : hit B b c with
  | false => exact ⟨mv, wk_no F row tk tv W tn A _ 1 3 [b, c] v mv (by decide) (by decide) rfl s1 i1 (hv.trans hh)⟩
  | true =>
    have : v = 1 := of_decide_eq_true (hv.trans hh)
    subst this
    exact ⟨_, wk_yes F row tk tv W tn A _ 1 2 3 n [b, c] [a] [d, e] [a, c, b, d, e] [a, c] [a, c, b] b c mv (by decide) (by decide) rfl rfl s1 i1
      (sl5 hr rfl rfl) (ix5 hr rfl rfl) (ix5 hr rfl rfl) (sl5 hr rfl rfl) rfl rfl rfl (isRow5 ha hc hb hd he) (dict_idx hr hn) (lenOk_of (by omega))⟩
theorem wk2 {a b c d e : Nat} (A : WD) (n : Int) (mv : Option (List Nat)) (ha : a < 5) (hb : b < 5) (hc : c < 5) (hd : d < 5) (he : e < 5) (hn : look W [a, b, c, d, e] = some n) (hl : A.length ≤ 1000) :
    ∃ mv', evSs gA F constG wBodyK (stX row tk tv W tn A [a, b, c, d, e] (.int 2) mv) = some (.next, stX row tk tv W tn (bumpIf B c d A [a, b, d, c, e] n) [a, b, c, d, e] (.int 2) mv') := by
  have hr := isRow5 ha hb hc hd he
  obtain ⟨v, i1, hv⟩ := told_idx tk tv B hB hc hd
  have s1 : sliceT gA (.str [a, b, c, d, e]) (some 2) (some 4) = some (.str [c, d], false) := sl5 hr rfl rfl
  unfold bumpIf
  cases hh : hit B c d with
  | false => exact ⟨mv, wk_no F row tk tv W tn A _ 2 4 [c, d] v mv (by decide) (by decide) rfl s1 i1 (hv.trans hh)⟩
  | true =>
    have : v = 1 := of_decide_eq_true (hv.trans hh)
    subst this
    exact ⟨_, wk_yes F row tk tv W tn A _ 2 3 4 n [c, d] [a, b] [e] [a, b, d, c, e] [a, b, d] [a, b, d, c] c d mv (by decide) (by decide) rfl rfl s1 i1
      (sl5 hr rfl rfl) (ix5 hr rfl rfl) (ix5 hr rfl rfl) (sl5 hr rfl rfl) rfl rfl rfl (isRow5 ha hb hd hc he) (dict_idx hr hn) (lenOk_of (by omega))⟩
theorem wk3 {a b c d e : Nat} (A : WD) (n : Int) (mv : Option (List Nat)) (ha : a < 5) (hb : b < 5) (hc : c < 5) (hd : d < 5) (he : e < 5) (hn : look W [a, b, c, d, e] = some n) (hl : A.length ≤ 1000) :
    ∃ mv', evSs gA F constG wBodyK (stX row tk tv W tn A [a, b, c, d, e] (.int 3) mv) = some (.next, stX row tk tv W tn (bumpIf B d e A [a, b, c, e, d] n) [a, b, c, d, e] (.int 3) mv') := by
  have hr := isRow5 ha hb hc hd he
  obtain ⟨v, i1, hv⟩ := told_idx tk tv B hB hd he
  have s1 : sliceT gA (.str [a, b, c, d, e]) (some 3) (some 5) = some (.str [d, e], false) := sl5 hr rfl rfl
  unfold bumpIf
  cases hh : hit B d e with
  | false => exact ⟨mv, wk_no F row tk tv W tn A _ 3 5 [d, e] v mv (by decide) (by decide) rfl s1 i1 (hv.trans hh)⟩
  | true =>
    have : v = 1 := of_decide_eq_true (hv.trans hh)
    subst this
    exact ⟨_, wk_yes F row tk tv W tn A _ 3 4 5 n [d, e] [a, b, c] [] [a, b, c, e, d] [a, b, c, e] [a, b, c, e, d] d e mv (by decide) (by decide) rfl rfl s1 i1
      (sl5 hr rfl rfl) (ix5 hr rfl rfl) (ix5 hr rfl rfl) (sl5 hr rfl rfl) rfl rfl rfl (isRow5 ha hb hc he hd) (dict_idx hr hn) (lenOk_of (by omega))⟩
omit hB in
theorem setX (A : WD) (line : List Nat) (v u : T) (mv : Option (List Nat)) : St.set (stX row tk tv W tn A line v mv) 29 u false = stX row tk tv W tn A line u mv := by
  cases mv <;> simp [stX, mvL, St.set_nil, St.set_cons]
theorem wl_run {line : List Nat} (A : WD) (n : Int) (mv : Option (List Nat)) (hL : okLine line) (hn : look W line = some n) (hl : A.length ≤ 900) (st : St) (hst : ∀ v, St.set st 29 v false = stX row tk tv W tn A line v mv) :
    ∃ mv', evSs gA F constG wBodyL st = some (.next, stX row tk tv W tn (wswap B line n A) line (.int 3) mv') := by
  obtain ⟨a, b, c, d, e, rfl, ha, hb, hc, hd, he⟩ := hL
  obtain ⟨m0, e0⟩ := wk0 F row tk tv W tn B hB A n mv ha hb hc hd he hn (by omega)
  have l0 := bumpIf_len B a b A [b, a, c, d, e] n
  obtain ⟨m1, e1⟩ := wk1 F row tk tv W tn B hB (bumpIf B a b A [b, a, c, d, e] n) n m0 ha hb hc hd he hn (by omega)
  have l1 := bumpIf_len B b c (bumpIf B a b A [b, a, c, d, e] n) [a, c, b, d, e] n
  obtain ⟨m2, e2⟩ := wk2 F row tk tv W tn B hB (bumpIf B b c (bumpIf B a b A [b, a, c, d, e] n) [a, c, b, d, e] n) n m1 ha hb hc hd he hn (by omega)
  have l2 := bumpIf_len B c d (bumpIf B b c (bumpIf B a b A [b, a, c, d, e] n) [a, c, b, d, e] n) [a, b, d, c, e] n
  obtain ⟨m3, e3⟩ := wk3 F row tk tv W tn B hB (bumpIf B c d (bumpIf B b c (bumpIf B a b A [b, a, c, d, e] n) [a, c, b, d, e] n) [a, b, d, c, e] n) n m2 ha hb hc hd he hn (by omega)
  refine ⟨m3, ?_⟩
  show thn (evFor (evSs gA F constG wBodyK) 29 [.int 0, .int 1, .int 2, .int 3] st) (evSs gA F constG .nil) = _
  exact thnI (thnI (by rw [hst]; exact e0) (thnI (by rw [setX]; exact e1) (thnI (by rw [setX]; exact e2) (thnI (by rw [setX]; exact e3) rfl)))) rfl
end
end MP
end

section -- MpWays3
open PySem
namespace MP
theorem bump_keys {A : WD} {k : List Nat} {n : Int} (hA : ∀ p ∈ A, okLine p.1) (hk : okLine k) : ∀ p ∈ bump A k n, okLine p.1 := by
  induction A with
  | nil => intro p hp; simp only [bump, List.mem_singleton] at hp; subst hp; exact hk
  | cons q r ih =>
    intro p hp
    simp only [bump] at hp
    cases h : sEq q.1 k with
    | true =>
      rw [h] at hp
      rcases List.mem_cons.mp hp with rfl | hp
      · exact hA q List.mem_cons_self
      · exact hA p (List.mem_cons_of_mem _ hp)
    | false =>
      rw [h] at hp
      rcases List.mem_cons.mp hp with rfl | hp
      · exact hA p List.mem_cons_self
      · exact ih (fun x hx => hA x (List.mem_cons_of_mem _ hx)) p hp
theorem bumpIf_keys {B x y : Nat} {A : WD} {k : List Nat} {n : Int} (hA : ∀ p ∈ A, okLine p.1) (hk : okLine k) : ∀ p ∈ bumpIf B x y A k n, okLine p.1 := by
  unfold bumpIf
  cases hit B x y with
  | true => exact bump_keys hA hk
  | false => exact hA
theorem wswap_keys {B : Nat} {line : List Nat} {n : Int} {A : WD} (hL : okLine line) (hA : ∀ p ∈ A, okLine p.1) : ∀ p ∈ wswap B line n A, okLine p.1 := by
  obtain ⟨a, b, c, d, e, rfl, ha, hb, hc, hd, he⟩ := hL
  exact bumpIf_keys (bumpIf_keys (bumpIf_keys (bumpIf_keys hA ⟨_, _, _, _, _, rfl, hb, ha, hc, hd, he⟩) ⟨_, _, _, _, _, rfl, ha, hc, hb, hd, he⟩) ⟨_, _, _, _, _, rfl, ha, hb, hd, hc, he⟩) ⟨_, _, _, _, _, rfl, ha, hb, hc, he, hd⟩
theorem wswap_len {B : Nat} {line : List Nat} (hL : okLine line) (n : Int) (A : WD) : (wswap B line n A).length ≤ A.length + 4 := by
  obtain ⟨a, b, c, d, e, rfl, _⟩ := hL
  exact Nat.le_trans (bumpIf_len ..) (Nat.succ_le_succ (Nat.le_trans (bumpIf_len ..) (Nat.succ_le_succ (Nat.le_trans (bumpIf_len ..) (Nat.succ_le_succ (bumpIf_len ..))))))
theorem set_set (st : St) (i : Nat) (t u : T) (b c : Bool) : St.set (St.set st i t b) i u c = St.set st i u c := by
  induction st with
  | nil => simp [St.set_nil, St.set_cons]
  | cons p r ih =>
    obtain ⟨j, x⟩ := p
    simp only [St.set_nil, St.set_cons]
    cases h : Nat.beq j i with
    | true => simp [St.set_nil, St.set_cons]
    | false => simp only [St.set_nil, St.set_cons, h, ih]
section
variable (F : FTab) (row : List Nat) (tk : List (List Nat)) (tv : List T) (W : WD) (tn : T) (B : Nat)
noncomputable def Pre (A : WD) (mv : Option (List Nat)) (st : St) : Prop := ∀ line v, St.set (St.set st 38 (.str line) false) 29 v false = stX row tk tv W tn A line v mv
theorem pre_X (A : WD) (line : List Nat) (v : T) (mv : Option (List Nat)) : Pre row tk tv W tn A mv (stX row tk tv W tn A line v mv) := by
  intro l u
  cases mv <;> simp [stX, mvL, St.set_nil, St.set_cons]
theorem lines_run (hB : ∀ x y, x < 5 → y < 5 → ∃ v, lookS tk tv [x, y] = some (.int v) ∧ decide (v = 1) = hit B x y) : ∀ (ls : List (List Nat)) (A A' : WD) (st : St) (mv : Option (List Nat)), (∀ l ∈ ls, okLine l) → (∀ p ∈ A, okLine p.1) → A.length + 4 * ls.length ≤ 900 → Pre row tk tv W tn A mv st → wLines B W ls A = some A' →
    (∀ p ∈ A', okLine p.1) ∧ ∃ st', evFor (evSs gA F constG wBodyL) 38 (ls.map .str) st = some (.next, st') ∧ ((ls = [] ∧ st' = st ∧ A' = A) ∨ ∃ line v mv', st' = stX row tk tv W tn A' line v mv')
  | [], A, A', st, mv, h1, h2, h3, h4, h5 => by
    cases h5
    exact ⟨h2, st, rfl, .inl ⟨rfl, rfl, rfl⟩⟩
  | l :: ls, A, A', st, mv, h1, h2, h3, h4, h5 => by
    refine oe h5 ?_; clear h5; intro n hn h5
    have hL := h1 l List.mem_cons_self
    rw [List.length_cons] at h3
    obtain ⟨m', e1⟩ := wl_run F row tk tv W tn B hB A n mv hL hn (by omega) (St.set st 38 (.str l) false) (h4 l)
    have wl := wswap_len (B := B) hL n A
    obtain ⟨k1, st', e2, k2⟩ := lines_run hB ls (wswap B l n A) A' (stX row tk tv W tn (wswap B l n A) l (.int 3) m') m' (fun x hx => h1 x (List.mem_cons_of_mem _ hx)) (wswap_keys hL h2) (by omega) (pre_X row tk tv W tn _ l (.int 3) m') h5
    refine ⟨k1, st', thnI e1 e2, .inr ?_⟩
    rcases k2 with ⟨_, rfl, rfl⟩ | k2
    · exact ⟨_, _, _, rfl⟩
    · exact k2
noncomputable def dW (D : WD) : T := .dict (ksOf D) (vsOf D)
/-- a frame in which a turn may begin -/
noncomputable def TurnPre (st : St) : Prop := ∃ fl mv st2, St.get (St.set st 37 (.dict [] []) true) 36 = some (dW W, fl) ∧ esc (St.set st 37 (.dict [] []) true) (.var 36) = some (dW W, st2) ∧ Pre row tk tv W tn [] mv st2
noncomputable def stY (A : WD) (line : List Nat) (v : T) (mv : Option (List Nat)) : St :=
  [(33, .str row, false), (34, .dict tk tv, false), (36, dW A, false), (35, tn, false), (37, dW A, false), (38, .str line, false), (29, v, false)] ++ mvL mv
theorem turn_run (hB : ∀ x y, x < 5 → y < 5 → ∃ v, lookS tk tv [x, y] = some (.int v) ∧ decide (v = 1) = hit B x y) (st : St) (A : WD) (hW : W ≠ []) (hk : ∀ p ∈ W, okLine p.1) (hl : W.length ≤ 100) (hp : TurnPre row tk tv W tn st) (hw : wLines B W (ksOf W) [] = some A) :
    (∀ p ∈ A, okLine p.1) ∧ ((A = [] ∧ ∃ st', evSs gA F constG wBodyT st = some (.ret (dW W), st')) ∨ (A ≠ [] ∧ ∃ line v mv, evSs gA F constG wBodyT st = some (.next, stY row tk tv tn A line v mv))) := by
  obtain ⟨fl, mv, st2, g1, g2, g3⟩ := hp
  obtain ⟨k1, st', e1, k2⟩ := lines_run F row tk tv W tn B hB (ksOf W) [] A st2 mv (by
    intro l hl
    obtain ⟨p, hp, rfl⟩ := List.mem_map.mp hl
    exact hk p hp) (fun p hp => nomatch hp) (by rw [ks_len]; simp; omega) g3 hw
  refine ⟨k1, ?_⟩
  have hne : ksOf W ≠ [] := fun q => hW (List.map_eq_nil_iff.mp q)
  rcases k2 with ⟨q, _, _⟩ | ⟨line, v, mv', rfl⟩
  · exact absurd q hne
  · have s2 : evS gA F constG (.for 38 (.var 36) wBodyL) (St.set st 37 (.dict [] []) true) = some (.next, stX row tk tv W tn A line v mv') :=
      bnI (x := Op.var 36) (obI g1 rfl) (bnI g2 (obI (gtI (lenOk_of (show (ksOf W).length ≤ 1048576 by rw [ks_len]; exact Nat.le_trans hl (by decide))) rfl) e1))
    have s1 : evSs gA F constG wBodyT st = thn (evS gA F constG (.for 38 (.var 36) wBodyL) (St.set st 37 (.dict [] []) true)) (evSs gA F constG (.cons (.iff (.cmp (.var 37) (.one .Eq .dict0)) (.cons (.ret (.var 36)) .nil) .nil) (.cons (.assign 36 (.var 37)) .nil))) := rfl
    cases A with
    | nil => exact .inl ⟨rfl, stX row tk tv W tn [] line v mv', s1.trans (thnI s2 (by cases mv' <;> rfl))⟩
    | cons p r => exact .inr ⟨fun q => (nomatch q), line, v, mv', s1.trans (thnI s2 (by cases mv' <;> rfl))⟩
end
section
variable (F : FTab) (row : List Nat) (tk : List (List Nat)) (tv : List T) (B : Nat)
theorem pre_Y (tn : T) (A : WD) (line : List Nat) (v t : T) (mv : Option (List Nat)) : TurnPre row tk tv A t (St.set (stY row tk tv tn A line v mv) 35 t false) := by
  refine ⟨false, mv, _, ?_, rfl, ?_⟩
  · cases mv <;> rfl
  · intro l u
    cases mv <;> (simp [stX, stY, mvL, dW, St.set_nil, St.set_cons]; exact ⟨rfl, rfl⟩)
theorem turns_run (hB : ∀ x y, x < 5 → y < 5 → ∃ v, lookS tk tv [x, y] = some (.int v) ∧ decide (v = 1) = hit B x y) : ∀ (m : Nat) (t : Int) (st : St) (W D : WD), (∀ tn, TurnPre row tk tv W tn (St.set st 35 tn false)) → (∀ p ∈ W, okLine p.1) → W ≠ [] → wTurns B m W = some D →
    ∃ st', evFor (evSs gA F constG wBodyT) 35 (rangeT t m) st = some (.ret (dW D), st') ∨ (evFor (evSs gA F constG wBodyT) 35 (rangeT t m) st = some (.next, st') ∧ D = [])
  | 0, t, st, W, D, hp, hk, hW, hw => by
    cases hw
    exact ⟨st, .inr ⟨rfl, rfl⟩⟩
  | m + 1, t, st, W, D, hp, hk, hW, hw => by
    refine ge hw ?_; clear hw; intro hl hw
    refine oe hw ?_; clear hw; intro A hA hw
    have hl := Nat.le_of_ble_eq_true hl
    obtain ⟨kA, k⟩ := turn_run F row tk tv W (.int t) B hB _ A hW hk hl (hp (.int t)) hA
    rcases k with ⟨rfl, st', e⟩ | ⟨q, line, v, mv, e⟩
    · cases hw
      exact ⟨st', .inl (bnI e rfl)⟩
    · cases A with
      | nil => exact absurd rfl q
      | cons p r =>
        obtain ⟨st', k⟩ := turns_run hB m (t + 1) (stY row tk tv (.int t) (p :: r) line v mv) (p :: r) D (fun tn => pre_Y row tk tv (.int t) (p :: r) line v tn mv) kA q hw
        exact ⟨st', k.imp (thnI e) fun k => ⟨thnI e k.1, k.2⟩⟩
end
theorem okLb_okLine {l : List Nat} (h : okLb l = true) : okLine l := by
  obtain ⟨h1, h2⟩ := Bool.and_eq_true_iff.mp h
  have h2 := List.all_eq_true.mp h2
  have h1 := Nat.eq_of_beq_eq_true h1
  match l, h1 with
  | [a, b, c, d, e], _ => exact ⟨a, b, c, d, e, rfl, Nat.le_of_ble_eq_true (h2 a (by simp)), Nat.le_of_ble_eq_true (h2 b (by simp)), Nat.le_of_ble_eq_true (h2 c (by simp)), Nat.le_of_ble_eq_true (h2 d (by simp)), Nat.le_of_ble_eq_true (h2 e (by simp))⟩
theorem five_mem {x : Nat} (h : x < 5) : x ∈ five := by
  have : x = 0 ∨ x = 1 ∨ x = 2 ∨ x = 3 ∨ x = 4 := by omega
  rcases this with rfl | rfl | rfl | rfl | rfl <;> simp [five]
theorem ways_at (F : FTab) {row : List Nat} {ks : List (List Nat)} {vs : List T} {B : Nat} {r : T} (h : waysAt row ks vs B = some r) : runF gA F constG p_law_ways b_law_ways [.str row, .dict ks vs] = some r := by
  refine ge h ?_; clear h; intro hg h
  refine oe h ?_; clear h; intro D hD h
  cases h
  obtain ⟨h1, h2⟩ := Bool.and_eq_true_iff.mp hg
  have hL := okLb_okLine h1
  have hB : ∀ x y, x < 5 → y < 5 → ∃ v, lookS ks vs [x, y] = some (.int v) ∧ decide (v = 1) = hit B x y := by
    intro x y hx hy
    have k := (List.all_eq_true.mp ((List.all_eq_true.mp h2) x (five_mem hx))) y (five_mem hy)
    unfold chkAt at k
    cases e : ob (lookS ks vs [x, y]) asInt with
    | none => rw [e] at k; exact nomatch k
    | some v =>
      rw [e] at k
      refine oe e ?_; clear e; intro t e1 e2
      exact ⟨v, by rw [e1, asInt_e e2], eq_of_beq k⟩
  have hr : isRow row = true := by
    obtain ⟨a, b, c, d, e, rfl, ha, hb, hc, hd, he⟩ := hL
    exact isRow5 ha hb hc hd he
  obtain ⟨st', k⟩ := turns_run F row ks vs B hB 11 0 [(33, .str row, false), (34, .dict ks vs, false), (36, dW [(row, 1)], true)] [(row, 1)] D (fun tn => ⟨true, none, _, rfl, rfl, fun l u => rfl⟩) (fun p hp => by rw [List.mem_singleton.mp hp]; exact hL) (fun q => nomatch q) hD
  rw [b_ways_eq]
  have s1 : evS gA F constG (.assign 36 (.dict1 (.var 33) (.int 1))) [(33, .str row, false), (34, .dict ks vs, false)] = some (.next, [(33, .str row, false), (34, .dict ks vs, false), (36, dW [(row, 1)], true)]) := bnI (gtI hr rfl) rfl
  refine bnI (x := Fl.ret (dW D)) (s := st') (thnI s1 ?_) rfl
  show thn (evFor (evSs gA F constG wBodyT) 35 (rangeT 0 11) [(33, .str row, false), (34, .dict ks vs, false), (36, dW [(row, 1)], true)]) _ = _
  rcases k with k | ⟨k, rfl⟩
  · exact bnI k rfl
  · exact thnI k rfl
theorem gways_ok (F : FTab) {ts : List T} {r : T} (h : gways ts = some r) : runF gA F constG p_law_ways b_law_ways ts = some r := by
  refine o2 h ?_; clear h; intro p e h
  refine os h ?_; clear h; intro row e1 h
  refine od h ?_; clear h; intro q e2 h
  rw [e, e1, e2]
  exact ways_at F h
end MP
end

section -- MpF1
open PySem
namespace MP
section
variable {f : Nat → List Nat}
theorem constG_map (S : Sg f) : ∀ g t, constG g = some t → mapT f t = t ∧ goodT t := by
  intro g t h
  rcases constG_e h with ⟨rfl, rfl⟩ | ⟨_, rfl⟩
  · exact ⟨congrArg T.str (fl_dots S rfl), trivial⟩
  · exact ⟨rfl, trivial⟩
theorem gstr_ok (S : Sg f) (F : FTab) {ts : List T} {r : T} (h : gstr ts = some r) : runF gF F constG p_strcoll b_strcoll (mapTs f ts) = some (mapT f r) ∧ goodT r := by
  refine o2 h ?_; clear h; intro p e h
  refine os h ?_; clear h; intro x e1 h
  refine os h ?_; clear h; intro y e2 h
  refine ge h ?_; clear h; intro hq h
  cases h
  obtain ⟨q1, q2⟩ := Bool.and_eq_true_iff.mp hq
  obtain ⟨u, v⟩ := p
  subst e e1 e2
  refine ⟨(coll_run F (fl f x) (fl f y)).trans ?_, trivial⟩
  unfold collI
  rw [sLt_nm S q2 q1, sLt_nm S q1 q2]; rfl
theorem gell_ok (S : Sg f) (K : Tok f) (F : FTab) {ts : List T} {r : T} (h : gell ts = some r) : runF gF F constG p_ellipsis_match b_ellipsis_match (mapTs f ts) = some (mapT f r) ∧ goodT r := by
  refine o2 h ?_; clear h; intro p e h
  refine os h ?_; clear h; intro w e1 h
  refine os h ?_; clear h; intro g e2 h
  refine oe h ?_; clear h; intro b hb h
  cases h
  obtain ⟨u, v⟩ := p
  subst e e1 e2
  exact ⟨ell_ok S K F hb, trivial⟩
theorem frel (S : Sg f) (K : Tok f) : ∀ n, FRel f (F1 n) (FF n)
  | 0 => fun g fP ts r h => nomatch h
  | n + 1 => by
    intro g fP ts r h1 h2 hg
    have ih := frel S K n
    unfold F1 at h1
    cases q0 : Nat.beq g 0 with
    | true =>
      rw [q0] at h1
      cases h1
      obtain rfl := Nat.eq_of_beq_eq_true q0
      exact ⟨_, rfl, gstr_ok S (FF n) h2⟩
    | false =>
      rw [q0] at h1
      cases q1 : Nat.beq g 1 with
      | true =>
        rw [q1] at h1
        cases h1
        obtain rfl := Nat.eq_of_beq_eq_true q1
        exact ⟨_, rfl, gell_ok S K (FF n) h2⟩
      | false =>
        rw [q1] at h1
        cases q9 : Nat.beq g 9 with
        | true =>
          rw [q9] at h1
          cases h1
          obtain rfl := Nat.eq_of_beq_eq_true q9
          exact ⟨_, rfl, sim_fun S ih (constG_map S) hg (gways_ok (F1 n) h2)⟩
        | false =>
          rw [q9] at h1
          refine oe h1 ?_; clear h1; intro q hb h1
          cases h1
          exact ⟨_, obI hb rfl, sim_fun S ih (constG_map S) hg h2⟩
end
end MP
end

section -- MpCells
open PySem
namespace MP
noncomputable def bodyC : Ss := .cons (.augItem 28 (.bin .Mod (.var 29) (.int 6)) (.bin .Mod (.sub (.var 27) (.var 29)) (.bin .Pow (.int 10) (.int 6)))) .nil
noncomputable def stC (xs : List T) (cs : List Int) (v : T) : St := [(27, .list xs, false), (28, .list (cs.map .int), true), (29, v, false)]
theorem fmodN (k m : Nat) : Int.fmod (k : Int) (m : Int) = Int.ofNat (k % m) := by
  rw [Int.fmod_eq_emod_of_nonneg _ (by omega)]; rfl
theorem cells_step (F : FTab) (ns cs : List Int) (k : Nat) (n c : Int) (hl : ns.length ≤ 63) (hn : ns[k]? = some n) (hc : cs.length = 6) (hk : cs[k % 6]? = some c) :
    evSs gF F constG bodyC (stC (ns.map .int) cs (.int k)) = some (.next, stC (ns.map .int) (cs.set (k % 6) (c + n.fmod 1000000)) (.int k)) := by
  have h1 : Int.fmod (k : Int) 6 = Int.ofNat (k % 6) := fmodN k 6
  have h2 : lenOk ns.length = true := lenOk_of (by omega)
  have h3 : lenOk 6 = true := rfl
  have h4 : k < ns.length := (List.getElem?_eq_some_iff.mp hn).1
  have h5 : Nat.blt k ns.length = true := by rw [Nat.blt_eq]; exact h4
  have h6 : Nat.blt (k % 6) 6 = true := by rw [Nat.blt_eq]; omega
  have h7 : place (k : Int) ns.length = some k := by
    show (match Nat.blt k ns.length with | true => some k | false => none) = _
    rw [h5]
  simp [bodyC, stC, St.get_nil, St.get_cons, St.set_nil, St.set_cons, h1, h2, h3, h6, h7, hc, hk, hn, -Int.ofNat_eq_natCast]
theorem fmod_lt (n : Int) : 0 ≤ n.fmod 1000000 ∧ n.fmod 1000000 < 1000000 := ⟨Int.fmod_nonneg_of_pos _ (by omega), Int.fmod_lt_of_pos _ (by omega)⟩
theorem cells_loop (F : FTab) (ns : List Int) (hl : ns.length ≤ 63) : ∀ (m k : Nat) (cs : List Int) (st : St), k + m = ns.length → cs.length = 6 → (∀ x ∈ cs, 0 ≤ x ∧ x ≤ 2 + k * 1000000) →
    (∀ v, st.set 29 v false = stC (ns.map .int) cs v) → st.get 28 = some (.list (cs.map .int), true) →
    ∃ (cs' : List Int) (st' : St), evFor (evSs gF F constG bodyC) 29 (rangeT k m) st = some (.next, st') ∧ cs'.length = 6 ∧ (∀ x ∈ cs', 0 ≤ x ∧ x ≤ 64000000) ∧ st'.get 28 = some (.list (cs'.map .int), true)
  | 0, k, cs, st, hk, hc, hb, hs, hg => ⟨cs, st, rfl, hc, fun x hx => by have := hb x hx; omega, hg⟩
  | m + 1, k, cs, st, hk, hc, hb, hs, hg => by
    obtain ⟨n, hn⟩ : ∃ n, ns[k]? = some n := ⟨_, List.getElem?_eq_getElem (by omega)⟩
    obtain ⟨c, hq⟩ : ∃ c, cs[k % 6]? = some c := ⟨_, List.getElem?_eq_getElem (by omega)⟩
    have h1 := cells_step F ns cs k n c hl hn hc hq
    have hf := fmod_lt n
    have hcm := hb c (List.mem_of_getElem? hq)
    obtain ⟨cs', st', e, r⟩ := cells_loop F ns hl m (k + 1) (cs.set (k % 6) (c + n.fmod 1000000)) (stC (ns.map .int) (cs.set (k % 6) (c + n.fmod 1000000)) (.int k)) (by omega) (by simp [hc]) (by
      intro x hx
      rcases List.mem_or_eq_of_mem_set hx with hx | hx
      · have := hb x hx; omega
      · omega) (fun v => by simp [stC, St.set_nil, St.set_cons]) (by simp [stC, St.get_nil, St.get_cons])
    refine ⟨cs', st', ?_, r⟩
    have e2 : (((k + 1 : Nat) : Int)) = (k : Int) + 1 := by omega
    rw [e2] at e
    simp only [rangeT, evFor, hs, h1]
    exact e
theorem cells_ok (F : FTab) (ns : List Int) (hl : ns.length ≤ 63) : ∃ cs : List Int, runF gF F constG p_law_cells b_law_cells [.list (ns.map .int)] = some (.list (cs.map .int)) ∧ cs.length = 6 ∧ ∀ x ∈ cs, 0 ≤ x ∧ x ≤ 64000000 := by
  obtain ⟨cs, st', e, h1, h2, h3⟩ := cells_loop F ns hl ns.length 0 [0, 0, 2, 0, 0, 2] [(27, .list (ns.map .int), false), (28, .list ([0, 0, 2, 0, 0, 2].map .int), true)] (by omega) rfl (by decide) (fun v => by simp [stC, St.set_nil, St.set_cons]) rfl
  refine ⟨cs, ?_, h1, h2⟩
  have l1 : lenOk ns.length = true := lenOk_of (by omega)
  have l6 : lenOk 6 = true := rfl
  have d1 : decide ((ns.length : Int) ≤ 1048576) = true := decide_eq_true (by omega)
  have d0 : decide (0 ≤ (ns.length : Int)) = true := decide_eq_true (by omega)
  have hb : b_law_cells = (.cons (.assign 28 (.list (.cons (.int 0) (.cons (.int 0) (.cons (.int 2) (.cons (.int 0) (.cons (.int 0) (.cons (.int 2) .nil)))))))) (.cons (.for 29 (.bi .range (.cons (.bi .len (.cons (.var 27) .nil)) .nil)) bodyC) (.cons (.ret (.var 28)) .nil))) := rfl
  have d : inRange (ns.length : Int) = true := Bool.and_eq_true_iff.mpr ⟨d0, d1⟩
  have dz : inRange 0 = true := rfl
  rw [hb]
  have e' := e
  simp only [List.map_cons, List.map_nil] at e'
  simp [p_law_cells, St.set_nil, St.set_cons, St.get_nil, St.get_cons, l1, l6, d, dz]
  simp at e'
  exact bnI (x := Fl.ret (.list (cs.map .int))) (s := st'.set 28 (.list (cs.map .int)) false) (thnI e' (by simp [h3])) rfl
end MP
end

section -- MpName
open PySem
namespace MP
noncomputable def base7 : List Nat := [38, 60, 62, 34, 13, 10, 9]
noncomputable def keysOf : Nat → List Nat
  | 0 => [38, 60, 62]
  | 1 => [38, 60, 62, 34, 13, 10, 9]
  | 2 => [38, 62, 34]
  | 3 => [38, 60, 62, 13]
  | _ => [38, 60, 34, 13, 10, 9]
noncomputable def subsOf : Nat → List (Nat × List Nat)
  | 0 => [(38, [38, 97, 109, 112, 59]), (60, [38, 108, 116, 59]), (62, [38, 103, 116, 59])]
  | 1 => [(38, [38, 97, 109, 112, 59]), (60, [38, 108, 116, 59]), (62, [38, 103, 116, 59]), (34, [38, 113, 117, 111, 116, 59]), (13, [38, 35, 49, 51, 59]), (10, [38, 35, 49, 48, 59]), (9, [38, 35, 48, 57, 59])]
  | 2 => [(38, [38, 97, 109, 112, 59]), (62, [38, 103, 116, 59]), (34, [38, 113, 117, 111, 116, 59])]
  | 3 => [(38, [38, 97, 109, 112, 59]), (60, [38, 108, 116, 59]), (62, [38, 103, 116, 59]), (13, [38, 35, 120, 68, 59])]
  | _ => [(38, [38, 97, 109, 112, 59]), (60, [38, 108, 116, 59]), (34, [38, 113, 117, 111, 116, 59]), (9, [38, 35, 120, 57, 59]), (10, [38, 35, 120, 65, 59]), (13, [38, 35, 120, 68, 59])]
/-- a sign's name -/
noncomputable def nm (w x : Nat) : List Nat := match (subsOf w).find? (fun p => Nat.beq p.1 x) with
  | some p => p.2
  | none => [x]
noncomputable def okSign (x : Nat) : Prop := x ∈ base7 ∨ 256 ≤ x
theorem nm_big {w x : Nat} (h : 256 ≤ x) : nm w x = [x] := by
  have hb : ∀ c, c < 256 → Nat.beq c x = false := fun c hc => by
    cases q : Nat.beq c x with
    | true => have := Nat.eq_of_beq_eq_true q; omega
    | false => rfl
  match w with
  | 0 => simp [nm, subsOf, hb]
  | 1 => simp [nm, subsOf, hb]
  | 2 => simp [nm, subsOf, hb]
  | 3 => simp [nm, subsOf, hb]
  | _ + 4 => simp [nm, subsOf, hb]
/-! the spelling -/
noncomputable def chkSp (w s : Nat) : Bool := match runF gF (FF 1) constG p_law_spelled b_law_spelled [.str [s], .int w] with
  | some (.str x) => sEq x (nm w s)
  | _ => false
theorem chkSp_all : (List.range 5).all (fun w => base7.all (chkSp w)) = true := by decide +kernel
theorem sIn_one_false {x : Nat} {t : List Nat} (h : x ∉ t) : sIn [x] t = false := by
  rw [Bool.eq_false_iff]
  intro q
  obtain ⟨i, h1, h2⟩ := (sIn_iff _ _).mp q
  obtain ⟨r, hr⟩ := h2
  exact h (List.mem_of_mem_drop (i := i) (by rw [← hr]; simp))
theorem sIn_one_true {x : Nat} {t : List Nat} (h : x ∈ t) : sIn [x] t = true := by
  rw [sIn_iff]
  obtain ⟨a, b, rfl⟩ := List.append_of_mem h
  exact ⟨a.length, atL_of (by simp)⟩
noncomputable def keyTs : List T := [.str [38, 60, 62], .str [38, 60, 62, 34, 13, 10, 9], .str [38, 62, 34], .str [38, 60, 62, 13], .str [38, 60, 34, 13, 10, 9]]
theorem key_idx : ∀ {w : Nat}, w < 5 → idxT gF (.list keyTs) (.int w) = some (.str (keysOf w))
  | 0, _ => rfl
  | 1, _ => rfl
  | 2, _ => rfl
  | 3, _ => rfl
  | 4, _ => rfl
  | _ + 5, h => absurd h (by omega)
theorem keys_small : (List.range 5).all (fun w => (keysOf w).all fun c => Nat.blt c 256) = true := by decide +kernel
theorem spelled_big (F : FTab) {w x : Nat} (hw : w < 5) (h : 256 ≤ x) : runF gF F constG p_law_spelled b_law_spelled [.str [x], .int w] = some (.str [x]) := by
  have h0 : sIn [x] (keysOf w) = false := sIn_one_false fun q => by
    have := (List.all_eq_true.mp ((List.all_eq_true.mp keys_small) w (List.mem_range.mpr hw))) x q
    rw [Nat.blt_eq] at this
    omega
  have l5 : lenOk 5 = true := rfl
  have hk := key_idx hw
  unfold keyTs at hk
  simp [-w_idxT_list, p_law_spelled, b_law_spelled, St.set_nil, St.set_cons, St.get_nil, St.get_cons, hk, h0, l5]
theorem spelled_ok {w x : Nat} (hw : w < 5) (h : okSign x) : runF gF (FF 1) constG p_law_spelled b_law_spelled [.str [x], .int w] = some (.str (nm w x)) := by
  rcases h with h | h
  · have k := chkSp_all
    rw [List.all_eq_true] at k
    have k := k w (List.mem_range.mpr hw)
    rw [List.all_eq_true] at k
    have k := k x h
    unfold chkSp at k
    split at k
    · rename_i y e
      rw [e, (sEq_iff _ _).mp k]
    · first | exact nomatch k | cases k
  · rw [spelled_big _ hw h, nm_big h]
end MP
end

section -- MpEsc
open PySem
namespace MP
noncomputable def rp (c : Nat) (z : List Nat) : MP.S := .iff (.cmp (.str [c]) (.one .In (.var 26))) (.cons (.assign 26 (.repl (.var 26) c z)) .nil) .nil
noncomputable def escList : List (Nat × List Nat) → Ss
  | [] => .cons (.ret (.var 26)) .nil
  | (c, z) :: r => .cons (rp c z) (escList r)
noncomputable def bEsc : Nat → Ss
  | 0 => b_escape_cdata
  | 1 => b_escape_attrib
  | 2 => b_escape_attrib_html
  | 3 => b_escape_cdata_c14n
  | _ => b_escape_attrib_c14n
theorem bEsc_eq : ∀ w, bEsc w = .cons (.tri (escList (subsOf w))) .nil
  | 0 => rfl
  | 1 => rfl
  | 2 => rfl
  | 3 => rfl
  | _ + 4 => rfl
noncomputable def sub1 (c : Nat) (z : List Nat) (x : Nat) : List Nat := match Nat.beq x c with | true => z | false => [x]
theorem replC_flat (c : Nat) (z : List Nat) : ∀ t, replC c z t = t.flatMap (sub1 c z)
  | [] => rfl
  | x :: r => by
    simp only [replC, List.flatMap_cons, sub1]
    cases Nat.beq x c with
    | true => simp only [replC_flat c z r]
    | false => simp only [replC_flat c z r]; rfl
theorem replC_not {c : Nat} {z : List Nat} : ∀ {t : List Nat}, c ∉ t → replC c z t = t
  | [], _ => rfl
  | x :: r, h => by
    simp only [List.mem_cons, not_or] at h
    have : Nat.beq x c = false := by
      cases q : Nat.beq x c with
      | true => exact absurd (Nat.eq_of_beq_eq_true q).symm h.1
      | false => rfl
    simp only [replC, this, replC_not h.2]
noncomputable def run1 (P : List (Nat × List Nat)) (t : List Nat) : List Nat := P.foldl (fun t p => replC p.1 p.2 t) t
noncomputable def subs (P : List (Nat × List Nat)) (x : Nat) : List Nat := run1 P [x]
theorem run1_flat : ∀ (P : List (Nat × List Nat)) (t : List Nat), run1 P t = t.flatMap (subs P)
  | [], t => by
    show t = t.flatMap (fun x => [x])
    simp
  | (c, z) :: P, t => by
    have e : subs ((c, z) :: P) = fun x => (sub1 c z x).flatMap (subs P) := by
      funext x
      show run1 P (replC c z [x]) = _
      rw [run1_flat P, replC_flat]
      simp
    show run1 P (replC c z t) = _
    rw [run1_flat P, replC_flat, e, List.flatMap_assoc]
theorem rp_ok (F : FTab) (c : Nat) (z t : List Nat) (ht : lenOk t.length = true) (hz : Nat.ble z.length 14 = true) (hc : sEq [c] z = false) :
    evS gF F constG (rp c z) [(26, .str t, false)] = some (.next, [(26, .str (replC c z t), false)]) := by
  by_cases h : c ∈ t
  · have h1 := sIn_one_true h
    simp [rp, St.get_nil, St.get_cons, St.set_nil, St.set_cons, h1, ht, hz, hc]
  · have h1 := sIn_one_false h
    rw [replC_not h]
    simp [rp, St.get_nil, St.get_cons, St.set_nil, St.set_cons, h1, ht, hz, hc]
noncomputable def goodP (P : List (Nat × List Nat)) : Bool := P.all fun p => Nat.ble p.2.length 14 && !sEq [p.1] p.2 && Nat.blt p.1 256
theorem esc_list (F : FTab) : ∀ (P : List (Nat × List Nat)) (t : List Nat), goodP P = true → (∀ k, lenOk (run1 (P.take k) t).length = true) →
    ∃ st, evSs gF F constG (escList P) [(26, .str t, false)] = some (.ret (.str (run1 P t)), st)
  | [], t, hg, hl => ⟨_, by simp [escList, St.get_nil, St.get_cons, run1]; rfl⟩
  | (c, z) :: P, t, hg, hl => by
    simp only [goodP, List.all_cons, Bool.and_eq_true] at hg
    have h0 := hl 0
    simp only [List.take_zero] at h0
    have h1 := rp_ok F c z t h0 hg.1.1.1 (by simpa using hg.1.1.2)
    obtain ⟨st, e⟩ := esc_list F P (replC c z t) hg.2 (fun k => hl (k + 1))
    exact ⟨st, thnI h1 e⟩
theorem subs_big : ∀ (P : List (Nat × List Nat)) {x : Nat}, goodP P = true → 256 ≤ x → subs P x = [x]
  | [], x, _, _ => rfl
  | (c, z) :: P, x, hg, h => by
    simp only [goodP, List.all_cons, Bool.and_eq_true] at hg
    have hc : c < 256 := by have := hg.1.2; rwa [Nat.blt_eq] at this
    have : replC c z [x] = [x] := replC_not (by simp; omega)
    show run1 P (replC c z [x]) = _
    rw [this]
    exact subs_big P hg.2 h
theorem goodP_take {P : List (Nat × List Nat)} (h : goodP P = true) (k : Nat) : goodP (P.take k) = true := by
  unfold goodP at h ⊢
  rw [List.all_eq_true] at h ⊢
  exact fun p hp => h p (List.mem_of_mem_take hp)
theorem goodP_all : (List.range 5).all (fun w => goodP (subsOf w)) = true := by decide +kernel
theorem subs_short : (List.range 5).all (fun w => (List.range 8).all fun k => base7.all fun x => Nat.ble (subs ((subsOf w).take k) x).length 10) = true := by decide +kernel
theorem subs_nm : (List.range 5).all (fun w => base7.all fun x => sEq (subs (subsOf w) x) (nm w x)) = true := by decide +kernel
theorem all_mem {α : Type} {l : List α} {p : α → Bool} (h : l.all p = true) {x : α} (hx : x ∈ l) : p x = true := (List.all_eq_true.mp h) x hx
theorem flat_len {g : Nat → List Nat} {b : Nat} : ∀ {t : List Nat}, (∀ x ∈ t, (g x).length ≤ b) → (t.flatMap g).length ≤ b * t.length
  | [], _ => by simp
  | x :: r, h => by
    have h1 := h x List.mem_cons_self
    have h2 := flat_len (t := r) fun y hy => h y (List.mem_cons_of_mem _ hy)
    rw [List.flatMap_cons, List.length_append, List.length_cons, Nat.mul_succ]
    omega
theorem flat_congr {g k : Nat → List Nat} : ∀ {t : List Nat}, (∀ x ∈ t, g x = k x) → t.flatMap g = t.flatMap k
  | [], _ => rfl
  | x :: r, h => by
    rw [List.flatMap_cons, List.flatMap_cons, h x List.mem_cons_self, flat_congr fun y hy => h y (List.mem_cons_of_mem _ hy)]
theorem subs_len {w k x : Nat} (hw : w < 5) (hx : okSign x) : (subs ((subsOf w).take k) x).length ≤ 10 := by
  have hlen : (subsOf w).length ≤ 7 := by
    have : w = 0 ∨ w = 1 ∨ w = 2 ∨ w = 3 ∨ w = 4 := by omega
    rcases this with rfl | rfl | rfl | rfl | rfl <;> simp [subsOf]
  rcases hx with h | h
  · have hk : (subsOf w).take k = (subsOf w).take (min k 7) := by
      rcases Nat.lt_or_ge k 7 with q | q
      · rw [Nat.min_eq_left (by omega)]
      · rw [Nat.min_eq_right q, List.take_of_length_le (by omega), List.take_of_length_le hlen]
    rw [hk]
    exact Nat.le_of_ble_eq_true (all_mem (all_mem (all_mem subs_short (List.mem_range.mpr hw)) (List.mem_range.mpr (show min k 7 < 8 by omega))) h)
  · rw [subs_big _ (goodP_take (all_mem goodP_all (List.mem_range.mpr hw)) k) h]
    simp
theorem subs_eq {w x : Nat} (hw : w < 5) (hx : okSign x) : subs (subsOf w) x = nm w x := by
  rcases hx with h | h
  · exact (sEq_iff _ _).mp (all_mem (all_mem subs_nm (List.mem_range.mpr hw)) h)
  · rw [subs_big _ (all_mem goodP_all (List.mem_range.mpr hw)) h, nm_big h]
theorem nm_len {w x : Nat} (hw : w < 5) (hx : okSign x) : (nm w x).length ≤ 10 := by
  have h := subs_len (k := 7) hw hx
  have hlen : (subsOf w).length ≤ 7 := by
    have : w = 0 ∨ w = 1 ∨ w = 2 ∨ w = 3 ∨ w = 4 := by omega
    rcases this with rfl | rfl | rfl | rfl | rfl <;> simp [subsOf]
  rw [List.take_of_length_le hlen, subs_eq hw hx] at h
  exact h
theorem escape_ok (F : FTab) {w : Nat} (hw : w < 5) (t : List Nat) (ht : ∀ x ∈ t, okSign x) (hl : t.length ≤ 100) :
    runF gF F constG [26] (bEsc w) [.str t] = some (.str (t.flatMap (nm w))) := by
  obtain ⟨st, e⟩ := esc_list F (subsOf w) t (all_mem goodP_all (List.mem_range.mpr hw)) (fun k => by
    rw [run1_flat]
    have := flat_len (g := subs ((subsOf w).take k)) (b := 10) (t := t) fun x hx => subs_len hw (ht x hx)
    exact lenOk_of (by omega))
  rw [run1_flat, flat_congr fun x hx => subs_eq hw (ht x hx)] at e
  rw [bEsc_eq]
  exact bnI (x := Fl.ret (.str (t.flatMap (nm w)))) (s := st) (bnI e rfl) rfl
end MP
end

section -- MpLaw
open PySem
namespace MP
/-! the law's statements, one by one -/
noncomputable def l0 : MP.S := (.assign 28 (.call (.glob 7) (.cons (.var 27) .nil)))
noncomputable def l1 : MP.S := (.assign 31 (.bin .Mod (.sub (.var 28) (.int 0)) (.int 5)))
noncomputable def l2 : MP.S := (.assign 75 (.bi .chr (.cons (.bin .Add (.int 256) (.bin .Mod (.bin .FloorDiv (.sub (.var 28) (.int 0)) (.int 5)) (.int 55000))) .nil)))
noncomputable def l3 : MP.S := (.assign 73 (.sub (.list (.cons (.glob 2) (.cons (.glob 3) (.cons (.glob 4) (.cons (.glob 5) (.cons (.glob 6) .nil)))))) (.var 31)))
noncomputable def l4 : MP.S := (.assign 72 (.bin .Add (.str [38, 60, 62, 34, 13, 10, 9]) (.var 75)))
noncomputable def l5 : MP.S := (.assign 74 (.bi .list (.cons (.var 72) .nil)))
noncomputable def l6 : MP.S := (.assign 33 (.str []))
noncomputable def l7 : MP.S := (.for 29 (.bi .range (.cons (.int 1) (.cons (.int 6) .nil))) (.cons (.augc 33 .Add (.meth .pop (.var 74) (.cons (.bin .Mod (.sub (.var 28) (.var 29)) (.bi .len (.cons (.var 74) .nil))) .nil))) .nil))
noncomputable def l8 : MP.S := (.assign 58 (.comp (.name 30) (.var 33) .nil (.nil (.call (.glob 8) (.cons (.var 30) (.cons (.var 31) .nil)))) [31]))
noncomputable def l9 : MP.S := (.assign 59 (.call (.var 73) (.cons (.var 33) .nil)))
noncomputable def l10 : MP.S := (.iff (.andor false (.cmp (.var 59) (.one .NotEq (.meth .join (.str []) (.cons (.var 58) .nil)))) (.cons (.cmp (.call (.var 73) (.cons (.bin .Add (.var 72) (.var 72)) .nil)) (.one .NotEq (.meth .join (.str []) (.cons (.comp (.name 30) (.bin .Add (.var 72) (.var 72)) .nil (.nil (.call (.glob 8) (.cons (.var 30) (.cons (.var 31) .nil)))) [31]) .nil)))) .nil)) (.cons (.ret (.bool false)) .nil) .nil)
noncomputable def l14 : MP.S := (.iff (.cmp (.list (.cons (.call (.glob 0) (.cons (.str []) (.cons (.var 59) .nil))) (.cons (.call (.glob 0) (.cons (.var 59) (.cons (.sub (.var 58) (.int 0)) .nil))) (.cons (.call (.glob 0) (.cons (.sub (.var 58) (.int 0)) (.cons (.slc (.var 59) .none (.some (.bi .len (.cons (.sub (.var 58) (.int 0)) .nil)))) .nil))) (.cons (.call (.glob 0) (.cons (.str [90]) (.cons (.str [97]) .nil))) .nil))))) (.one .NotEq (.list (.cons (.neg 1) (.cons (.int 1) (.cons (.int 0) (.cons (.neg 1) .nil))))))) (.cons (.ret (.bool false)) .nil) .nil)
theorem law_split : b_law = .cons l0 (.cons l1 (.cons l2 (.cons l3 (.cons l4 (.cons l5 (.cons l6 (.cons l7 (.cons l8 (.cons l9 (.cons l10 (ssDrop 11 b_law))))))))))) := rfl
theorem law_split2 : ssDrop 14 b_law = .cons l14 (ssDrop 15 b_law) := rfl
theorem ss_take (F : FTab) (G : Nat → Option T) : ∀ (n : Nat) (b : Ss) (st st₁ : St), evSs gF F G (ssTake n b) st = some (.next, st₁) → evSs gF F G b st = evSs gF F G (ssDrop n b) st₁
  | 0, b, st, st₁, h => by cases h; cases b <;> rfl
  | n + 1, .nil, st, st₁, h => by cases h; rfl
  | n + 1, .cons s r, st, st₁, h => thn_e h (fun s₁ h1 h2 => thnI h1 (ss_take F G n r s₁ st₁ h2)) fun t _ e => nomatch e
theorem ss_drop : ∀ (m n : Nat) (b : Ss), ssDrop n (ssDrop m b) = ssDrop (m + n) b
  | 0, n, b => by rw [Nat.zero_add]; cases b <;> rfl
  | m + 1, n, .nil => by
    have : m + 1 + n = (m + n) + 1 := by omega
    rw [this]
    cases n <;> rfl
  | m + 1, n, .cons s r => by
    have : m + 1 + n = (m + n) + 1 := by omega
    rw [this]
    exact ss_drop m n r
end MP
end

section -- MpRow
open PySem
namespace MP
theorem FF2_7 : FF 2 7 = some (runF gF (FF 1) constG p_law_cells b_law_cells) := rfl
theorem FF2_8 : FF 2 8 = some (runF gF (FF 1) constG p_law_spelled b_law_spelled) := rfl
theorem FF2_0 : FF 2 0 = some (runF gF (FF 1) constG p_strcoll b_strcoll) := rfl
theorem FF2_esc : ∀ {w : Nat}, w < 5 → FF 2 (2 + w) = some (runF gF (FF 1) constG [26] (bEsc w))
  | 0, _ => rfl
  | 1, _ => rfl
  | 2, _ => rfl
  | 3, _ => rfl
  | 4, _ => rfl
  | n + 5, h => by omega
noncomputable def every (s : Nat) : List Nat := [38, 60, 62, 34, 13, 10, 9, s]
noncomputable def chars (t : List Nat) : List T := t.map fun c => .str [c]
/-- the frame behind the seventh statement -/
noncomputable def stA (xs : List T) (cs : List Int) (w s : Nat) (sg row : List Nat) : St :=
  [(27, .list xs, false), (28, .list (cs.map .int), false), (31, .int (Int.ofNat w), false), (75, .str [s], false), (73, .fn (2 + w), false), (72, .str (every s), false), (74, .list (chars sg), true), (33, .str row, false)]
theorem fd_eq (a b : Int) (ha : small a = true) (hb : small b = true) (hz : decide (b = 0) = false) : binT gF .FloorDiv (.int a) (.int b) = some (.int (a.fdiv b), false) := by
  exact gtI (by rw [ha, hb, hz]; rfl) rfl
theorem fm_eq (a b : Int) (hz : decide (b = 0) = false) : binT gF .Mod (.int a) (.int b) = some (.int (a.fmod b), false) := gtI (by rw [hz]; rfl) rfl
theorem add_eq (a b : Int) : binT gF .Add (.int a) (.int b) = some (.int (a + b), false) := rfl
theorem fn_idx : ∀ {w : Nat}, w < 5 → idxT gF (.list [T.fn 2, .fn 3, .fn 4, .fn 5, .fn 6]) (.int (Int.ofNat w)) = some (.fn (2 + w))
  | 0, _ => rfl
  | 1, _ => rfl
  | 2, _ => rfl
  | 3, _ => rfl
  | 4, _ => rfl
  | n + 5, h => by omega
theorem chr_eq {s : Nat} (h : s ≤ 55295) : biT gF .chr [.int (Int.ofNat s)] = some (.str [s], false) := by
  exact gtI (b := Nat.ble s 55295) (Nat.ble_eq_true_of_le h) rfl
theorem head_sim (xs : List T) (cs : List Int) (w s : Nat) (c0 i1 i2 i3 : Int) (r : Ss)
    (hf : runF gF (FF 1) constG p_law_cells b_law_cells [.list xs] = some (.list (cs.map .int)))
    (i0 : idxT gF (.list (cs.map .int)) (.int 0) = some (.int c0)) (b5 : binT gF .Mod (.int c0) (.int 5) = some (.int (Int.ofNat w), false))
    (bd : binT gF .FloorDiv (.int c0) (.int 5) = some (.int i1, false)) (bm : binT gF .Mod (.int i1) (.int 55000) = some (.int i2, false))
    (ba : binT gF .Add (.int 256) (.int i2) = some (.int i3, false)) (ec : biT gF .chr [.int i3] = some (.str [s], false))
    (fw : idxT gF (.list [T.fn 2, .fn 3, .fn 4, .fn 5, .fn 6]) (.int (Int.ofNat w)) = some (.fn (2 + w))) :
    evSs gF (FF 2) constG (.cons l0 (.cons l1 (.cons l2 (.cons l3 (.cons l4 (.cons l5 (.cons l6 r))))))) [(27, .list xs, false)] = evSs gF (FF 2) constG r (stA xs cs w s (every s) []) := by
  have g2 : constG 2 = some (.fn 2) := rfl
  have g3 : constG 3 = some (.fn 3) := rfl
  have g4 : constG 4 = some (.fn 4) := rfl
  have g5 : constG 5 = some (.fn 5) := rfl
  have g6 : constG 6 = some (.fn 6) := rfl
  have g7 : constG 7 = some (.fn 7) := rfl
  have el : biT gF .list [.str (every s)] = some (.list (chars (every s)), true) := rfl
  have bs : binT gF .Add (.str [38, 60, 62, 34, 13, 10, 9]) (.str [s]) = some (.str (every s), false) := rfl
  have k5 : lenOk 5 = true := rfl
  simp only [stA]
  simp [-w_runF, -w_binT_int, -w_binT_str, -w_idxT_list, -w_biT_chr, -w_biT_list, l0, l1, l2, l3, MP.l4, MP.l5, MP.l6, FF2_7, hf, St.get_nil, St.get_cons, St.set_nil, St.set_cons, g2, g3, g4, g5, g6, g7, i0, b5, bd, bm, ba, ec, fw, bs, k5, el, -Int.ofNat_eq_natCast]
theorem head_run (xs : List T) (cs : List Int) (hc : cs.length = 6) (hb : ∀ x ∈ cs, 0 ≤ x ∧ x ≤ 64000000)
    (hf : runF gF (FF 1) constG p_law_cells b_law_cells [.list xs] = some (.list (cs.map .int))) :
    ∃ w s : Nat, w < 5 ∧ 256 ≤ s ∧ ∀ r, evSs gF (FF 2) constG (.cons l0 (.cons l1 (.cons l2 (.cons l3 (.cons l4 (.cons l5 (.cons l6 r))))))) [(27, .list xs, false)] = evSs gF (FF 2) constG r (stA xs cs w s (every s) []) := by
  obtain ⟨c, hq⟩ : ∃ c, cs[0]? = some c := ⟨_, List.getElem?_eq_getElem (by omega)⟩
  obtain ⟨h0, h1⟩ := hb c (List.mem_of_getElem? hq)
  obtain ⟨n, rfl⟩ := Int.eq_ofNat_of_zero_le h0
  have sm : small (n : Int) = true := by
    unfold small
    rw [Bool.and_eq_true, decide_eq_true_eq, decide_eq_true_eq]
    omega
  have s5 : small 5 = true := by decide
  have i0 : idxT gF (.list (cs.map .int)) (.int 0) = some (.int n) := by
    exact gtI (by rw [List.length_map, hc]; rfl) (obI (x := 0) (by rw [List.length_map, hc]; rfl) (by rw [List.getElem?_map, hq]; rfl))
  have b5 := fm_eq (n : Int) 5 rfl
  have e5 : Int.fmod (n : Int) 5 = Int.ofNat (n % 5) := fmodN n 5
  rw [e5] at b5
  have bd := fd_eq (n : Int) 5 sm s5 rfl
  have bm := fm_eq (Int.fdiv (n : Int) 5) 55000 rfl
  have ed : Int.fdiv (n : Int) 5 = ((n / 5 : Nat) : Int) := by rw [Int.fdiv_eq_ediv_of_nonneg _ (by omega)]; rfl
  have em : Int.fmod ((n / 5 : Nat) : Int) 55000 = Int.ofNat (n / 5 % 55000) := fmodN (n / 5) 55000
  rw [ed] at bd
  rw [ed, em] at bm
  have hv : n / 5 % 55000 < 55000 := Nat.mod_lt _ (by omega)
  generalize n / 5 % 55000 = v at bm hv
  have ba := add_eq 256 (Int.ofNat v)
  have ea : (256 : Int) + Int.ofNat v = Int.ofNat (256 + v) := by simp
  rw [ea] at ba
  exact ⟨n % 5, 256 + v, Nat.mod_lt _ (by omega), by omega, fun r => head_sim xs cs (n % 5) (256 + v) n _ _ _ r hf i0 b5 bd bm ba (chr_eq (by omega)) (fn_idx (Nat.mod_lt _ (by omega)))⟩
end MP
end

section -- MpRow2
open PySem
namespace MP
noncomputable def bodyR : Ss := .cons (.augc 33 .Add (.meth .pop (.var 74) (.cons (.bin .Mod (.sub (.var 28) (.var 29)) (.bi .len (.cons (.var 74) .nil))) .nil))) .nil
theorem l7_eq : l7 = .for 29 (.bi .range (.cons (.int 1) (.cons (.int 6) .nil))) bodyR := rfl
noncomputable def stR (xs : List T) (cs : List Int) (w s : Nat) (sg row : List Nat) (v : T) : St :=
  [(27, .list xs, false), (28, .list (cs.map .int), false), (31, .int (Int.ofNat w), false), (75, .str [s], false), (73, .fn (2 + w), false), (72, .str (every s), false), (74, .list (chars sg), true), (33, .str row, false), (29, v, false)]
theorem row_sim (F : FTab) (xs : List T) (cs : List Int) (w s : Nat) (sg sg' row row' : List Nat) (k c j : Int) (t : T)
    (i1 : idxT gF (.list (cs.map .int)) (.int k) = some (.int c)) (b1 : biT gF .len [.list (chars sg)] = some (.int sg.length, false)) (b2 : binT gF .Mod (.int c) (.int sg.length) = some (.int j, false))
    (b3 : mutT .pop (chars sg) [.int j] = some (chars sg', t)) (b4 : binT gF .Add (.str row) t = some (.str row', false)) :
    evSs gF F constG bodyR (stR xs cs w s sg row (.int k)) = some (.next, stR xs cs w s sg' row' (.int k)) := by
  simp [-w_binT_int, -w_binT_str, -w_idxT_list, -w_biT_len, -w_mutT_pop1, bodyR, stR, St.get_nil, St.get_cons, St.set_nil, St.set_cons, opKind, i1, b1, b2, b3, b4, -Int.ofNat_eq_natCast]
theorem perm_erase (sg : List Nat) {j : Nat} (hj : j < sg.length) : List.Perm (sg[j] :: sg.eraseIdx j) sg := by
  rw [List.eraseIdx_eq_take_drop_succ]
  refine (List.perm_middle.symm).trans ?_
  rw [List.getElem_cons_drop hj, List.take_append_drop]
theorem place_nat {k n : Nat} (h : k < n) : place (Int.ofNat k) n = some k := by
  show (match Nat.blt k n with | true => some k | false => none) = _
  rw [show Nat.blt k n = true from Nat.ble_eq_true_of_le h]
theorem row_step (F : FTab) (xs : List T) (cs : List Int) (w s : Nat) (sg row : List Nat) (k : Nat) (hc : cs.length = 6) (hb : ∀ x ∈ cs, 0 ≤ x ∧ x ≤ 64000000) (hk : k < 6) (hs : sg ≠ []) (hl : sg.length ≤ 100) (hr : row.length ≤ 100) :
    ∃ x sg', evSs gF F constG bodyR (stR xs cs w s sg row (.int (Int.ofNat k))) = some (.next, stR xs cs w s sg' (row ++ [x]) (.int (Int.ofNat k))) ∧ List.Perm (x :: sg') sg := by
  obtain ⟨c, hq⟩ : ∃ c, cs[k]? = some c := ⟨_, List.getElem?_eq_getElem (by omega)⟩
  obtain ⟨h0, h1⟩ := hb c (List.mem_of_getElem? hq)
  obtain ⟨n, rfl⟩ := Int.eq_ofNat_of_zero_le h0
  have hpos : 0 < sg.length := List.length_pos_iff.mpr hs
  have hj : n % sg.length < sg.length := Nat.mod_lt _ hpos
  have lk : lenOk sg.length = true := lenOk_of (by omega)
  have i1 : idxT gF (.list (cs.map .int)) (.int (Int.ofNat k)) = some (.int n) := by
    exact gtI (by rw [List.length_map, hc]; rfl) (obI (x := k) (by rw [List.length_map, hc]; exact place_nat hk) (by rw [List.getElem?_map, hq]; rfl))
  have b1 : biT gF .len [.list (chars sg)] = some (.int sg.length, false) := by
    have e : (chars sg).length = sg.length := List.length_map _
    exact gtI (b := lenOk (chars sg).length) (by rw [e]; exact lk) (by rw [e])
  have b2 := fm_eq (n : Int) (sg.length : Int) (decide_eq_false (by omega))
  rw [fmodN] at b2
  have b3 : mutT .pop (chars sg) [.int (Int.ofNat (n % sg.length))] = some (chars (sg.eraseIdx (n % sg.length)), .str [sg[n % sg.length]]) := by
    have e : (chars sg).length = sg.length := List.length_map _
    exact gtI (by rw [e]; exact lk) (obI (x := n % sg.length) (by rw [e]; exact place_nat hj) (obI (x := .str [sg[n % sg.length]]) (by rw [chars, List.getElem?_map, List.getElem?_eq_getElem hj]; rfl) (by rw [chars, erase_map]; rfl)))
  have b4 : binT gF .Add (.str row) (.str [sg[n % sg.length]]) = some (.str (row ++ [sg[n % sg.length]]), false) := by
    exact gtI (b := lenOk (row.length + 1)) (lenOk_of (by omega)) rfl
  exact ⟨_, _, row_sim F xs cs w s sg _ row _ _ _ _ _ i1 b1 b2 b3 b4, perm_erase sg hj⟩
theorem row_loop (F : FTab) (xs : List T) (cs : List Int) (w s : Nat) (hc : cs.length = 6) (hb : ∀ x ∈ cs, 0 ≤ x ∧ x ≤ 64000000) : ∀ (m k : Nat) (sg row : List Nat) (v : Int), k + m ≤ 6 → m < sg.length → sg.length ≤ 100 → row.length + m ≤ 100 →
    ∃ (sg' row' : List Nat) (v' : Int), evFor (evSs gF F constG bodyR) 29 (rangeT (Int.ofNat k) m) (stR xs cs w s sg row (.int v)) = some (.next, stR xs cs w s sg' row' (.int v')) ∧ List.Perm (row' ++ sg') (row ++ sg) ∧ row'.length = row.length + m
  | 0, k, sg, row, v, h1, h2, h3, h4 => ⟨sg, row, v, rfl, .refl _, rfl⟩
  | m + 1, k, sg, row, v, h1, h2, h3, h4 => by
    obtain ⟨x, sg1, e, p⟩ := row_step F xs cs w s sg row k hc hb (by omega) (by intro q; rw [q] at h2; simp at h2) h3 (by omega)
    have pl := p.length_eq
    rw [List.length_cons] at pl
    obtain ⟨sg', row', v', e2, p2, l2⟩ := row_loop F xs cs w s hc hb m (k + 1) sg1 (row ++ [x]) (Int.ofNat k) (by omega) (by omega) (by omega) (by rw [List.length_append]; simp only [List.length_cons, List.length_nil]; omega)
    refine ⟨sg', row', v', ?_, p2.trans ?_, by rw [l2, List.length_append]; simp only [List.length_cons, List.length_nil]; omega⟩
    · have e3 : (Int.ofNat k) + 1 = Int.ofNat (k + 1) := rfl
      have e4 : (stR xs cs w s sg row (.int v)).set 29 (.int (Int.ofNat k)) false = stR xs cs w s sg row (.int (Int.ofNat k)) := by simp [stR, St.set_nil, St.set_cons]
      exact thnI (by rw [e4]; exact e) e2
    · rw [List.append_assoc]
      exact List.Perm.append_left row p
theorem row_run (xs : List T) (cs : List Int) (w s : Nat) (hc : cs.length = 6) (hb : ∀ x ∈ cs, 0 ≤ x ∧ x ≤ 64000000) (F : FTab) :
    ∃ (sg row : List Nat) (v : Int), evS gF F constG l7 (stA xs cs w s (every s) []) = some (.next, stR xs cs w s sg row (.int v)) ∧ List.Perm (row ++ sg) (every s) ∧ row.length = 5 := by
  obtain ⟨x, sg1, e, p⟩ := row_step F xs cs w s (every s) [] 1 hc hb (by omega) (by simp [every]) (by simp [every]) (by simp)
  have pl := p.length_eq
  simp only [every, List.length_cons, List.length_nil] at pl
  obtain ⟨sg', row', v', e2, p2, l2⟩ := row_loop F xs cs w s hc hb 4 2 sg1 ([] ++ [x]) (Int.ofNat 1) (by omega) (by omega) (by omega) (by simp)
  refine ⟨sg', row', v', ?_, p2.trans p, l2⟩
  have e4 : (stA xs cs w s (every s) []).set 29 (.int (Int.ofNat 1)) false = stR xs cs w s (every s) [] (.int (Int.ofNat 1)) := by simp [stA, stR, St.set_nil, St.set_cons]
  rw [l7_eq]
  show evFor (evSs gF F constG bodyR) 29 (.int (Int.ofNat 1) :: rangeT (Int.ofNat 2) 4) (stA xs cs w s (every s) []) = _
  exact thnI (by rw [e4]; exact e) e2
end MP
end

section -- MpNames
open PySem
namespace MP
noncomputable def eltN : E := .call (.glob 8) (.cons (.var 30) (.cons (.var 31) .nil))
noncomputable def cmpN (it : E) : E := .comp (.name 30) it .nil (.nil eltN) [31]
noncomputable def innN (w : Nat) : St := [(31, .int (Int.ofNat w), false)]
theorem g8 : constG 8 = some (.fn 8) := rfl
theorem elt_ok {w x : Nat} (hw : w < 5) (hx : okSign x) : evG gF (FF 2) constG (.nil eltN) [(31, .int (Int.ofNat w), false), (30, .str [x], false)] = some [.str (nm w x)] := by
  have h : runF gF (FF 1) constG p_law_spelled b_law_spelled [.str [x], .int (Int.ofNat w)] = some (.str (nm w x)) := spelled_ok hw hx
  simp [-w_runF, eltN, St.get_nil, St.get_cons, St.set_nil, St.set_cons, g8, FF2_8, h, -Int.ofNat_eq_natCast]
noncomputable def catF (w : Nat) : T → Option (List T) := turn (.name 30) (innN w) (evIf gF (FF 2) constG .nil) (evG gF (FF 2) constG (.nil eltN))
theorem cat_one {w x : Nat} (hw : w < 5) (hx : okSign x) : catF w (.str [x]) = some [.str (nm w x)] := by
  unfold catF turn
  exact obI (x := [(31, .int (Int.ofNat w), false), (30, .str [x], false)]) rfl (obI (x := true) rfl (elt_ok hw hx))
theorem cat_names {w : Nat} (hw : w < 5) : ∀ t : List Nat, (∀ x ∈ t, okSign x) → mapCat (catF w) (charsT t) = some (t.map fun x => .str (nm w x))
  | [], _ => rfl
  | x :: r, h => obI (cat_one hw (h x List.mem_cons_self)) (obI (cat_names hw r fun y hy => h y (List.mem_cons_of_mem _ hy)) rfl)
theorem comp_run {w : Nat} (hw : w < 5) {it : E} {st st₁ st₂ : St} {o : Op} {t : List Nat} (h1 : evE gF (FF 2) constG it st = some (o, st₁)) (h2 : esc st₁ o = some (.str t, st₂)) (h3 : st₂.get 31 = some (.int (Int.ofNat w), false))
    (ht : ∀ x ∈ t, okSign x) (hl : t.length ≤ 1000) : evE gF (FF 2) constG (cmpN it) st = some (.new (.list (t.map fun x => .str (nm w x))), st₂) := by
  have hl' : lenOk t.length = true := lenOk_of (Nat.le_trans hl (by decide))
  have h4 : itemsT gF (.str t) = some (charsT t) := gtI (b := true && lenOk t.length) hl' rfl
  have h5 : capt st₂ [31] = some (innN w, st₂) := bnI (x := T.int (Int.ofNat w)) (s := st₂) (obI h3 rfl) rfl
  exact bnI h1 (bnI h2 (obI h4 (bnI h5 (gtI rfl (obI (cat_names hw t ht) (gtI (by rw [List.length_map]; exact hl') rfl))))))
noncomputable def stN (xs : List T) (cs : List Int) (w s : Nat) (sg row : List Nat) (v : T) (ns : List T) (pg : List Nat) : St :=
  [(27, .list xs, false), (28, .list (cs.map .int), false), (31, .int (Int.ofNat w), false), (75, .str [s], false), (73, .fn (2 + w), false), (72, .str (every s), false), (74, .list (chars sg), true), (33, .str row, false), (29, v, false), (58, .list ns, true), (59, .str pg, false)]
theorem l8_eq : l8 = .assign 58 (cmpN (.var 33)) := rfl
theorem every_ok {s : Nat} (hs : 256 ≤ s) : ∀ x ∈ every s, okSign x := by
  intro x hx
  simp only [every, List.mem_cons, List.not_mem_nil, or_false] at hx
  rcases hx with rfl | rfl | rfl | rfl | rfl | rfl | rfl | rfl
  · exact .inl (by simp [base7])
  · exact .inl (by simp [base7])
  · exact .inl (by simp [base7])
  · exact .inl (by simp [base7])
  · exact .inl (by simp [base7])
  · exact .inl (by simp [base7])
  · exact .inl (by simp [base7])
  · exact .inr hs
theorem join_flat (g : Nat → List Nat) : ∀ t : List Nat, joinS [] (t.map g) = t.flatMap g
  | [] => rfl
  | [x] => by simp [joinS]
  | x :: y :: r => by
    have := join_flat g (y :: r)
    simp only [List.map_cons] at this
    simp only [List.map_cons, joinS, this]
    simp
theorem toStrs_names (g : Nat → List Nat) : ∀ t : List Nat, toStrs (t.map fun x => .str (g x)) = some (t.map g)
  | [] => rfl
  | x :: r => obI rfl (obI (toStrs_names g r) rfl)
theorem join_names (g : Nat → List Nat) (t : List Nat) (hl : (t.flatMap g).length ≤ 1000000) : methT gF .join (.str []) [.list (t.map fun x => .str (g x))] = some (.str (t.flatMap g), false) :=
  show ob (toStrs (t.map fun x => .str (g x))) (fun l => gt (lenOk (joinS [] l).length && lenOk (l.length * 0)) (some (T.str (joinS [] l), false))) = _ from
  obI (toStrs_names g t) (gtI (by rw [join_flat]; exact Bool.and_eq_true_iff.mpr ⟨lenOk_of (Nat.le_trans hl (by decide)), rfl⟩) (by rw [join_flat]))
theorem names_run (xs : List T) (cs : List Int) (w s : Nat) (sg row : List Nat) (v : T) (hw : w < 5) (hs : 256 ≤ s) (hr : ∀ x ∈ row, okSign x) (hl : row.length = 5) (r : Ss) :
    evSs gF (FF 2) constG (.cons l8 (.cons l9 (.cons l10 r))) (stR xs cs w s sg row v) = evSs gF (FF 2) constG r (stN xs cs w s sg row v (row.map fun x => .str (nm w x)) (row.flatMap (nm w))) := by
  have c1 := comp_run hw (it := .var 33) (st := stR xs cs w s sg row v) (t := row) rfl rfl rfl hr (by omega)
  have hE := every_ok hs
  have hEE : ∀ x ∈ every s ++ every s, okSign x := fun x hx => by
    rcases List.mem_append.mp hx with q | q <;> exact hE x q
  have le : (every s ++ every s).length = 16 := rfl
  have e1 := escape_ok (FF 1) hw row hr (by omega)
  have e2 := escape_ok (FF 1) hw (every s ++ every s) hEE (by omega)
  have f1 := flat_len (g := nm w) (b := 10) (t := row) fun x hx => nm_len hw (hr x hx)
  have f2 := flat_len (g := nm w) (b := 10) (t := every s ++ every s) fun x hx => nm_len hw (hEE x hx)
  have j1 := join_names (nm w) row (by omega)
  have j2 := join_names (nm w) (every s ++ every s) (by omega)
  have b1 : binT gF .Add (.str (every s)) (.str (every s)) = some (.str (every s ++ every s), false) := rfl
  have q1 : sEq (row.flatMap (nm w)) (row.flatMap (nm w)) = true := (sEq_iff _ _).mpr rfl
  have q2 : sEq ((every s ++ every s).flatMap (nm w)) ((every s ++ every s).flatMap (nm w)) = true := (sEq_iff _ _).mpr rfl
  have c2 := comp_run hw (it := .bin .Add (.var 72) (.var 72)) (st := stN xs cs w s sg row v (row.map fun x => .str (nm w x)) (row.flatMap (nm w))) (t := every s ++ every s) rfl rfl rfl hEE (by omega)
  have ef := FF2_esc hw
  generalize every s ++ every s = EE at *
  have s8 : evS gF (FF 2) constG l8 (stR xs cs w s sg row v) = some (.next, (stR xs cs w s sg row v).set 58 (.list (row.map fun x => .str (nm w x))) true) := bnI c1 rfl
  have s9 : evS gF (FF 2) constG l9 ((stR xs cs w s sg row v).set 58 (.list (row.map fun x => .str (nm w x))) true) = some (.next, stN xs cs w s sg row v (row.map fun x => .str (nm w x)) (row.flatMap (nm w))) := by
    simp [-w_runF, l9, stR, stN, St.get_nil, St.get_cons, St.set_nil, St.set_cons, ef, e1, -Int.ofNat_eq_natCast]
  have a1 : evB gF (FF 2) constG (.cmp (.var 59) (.one .NotEq (.meth .join (.str []) (.cons (.var 58) .nil)))) (stN xs cs w s sg row v (row.map fun x => .str (nm w x)) (row.flatMap (nm w))) = some (false, stN xs cs w s sg row v (row.map fun x => .str (nm w x)) (row.flatMap (nm w))) := by
    simp [-w_methT_join, stN, St.get_nil, St.get_cons, St.set_nil, St.set_cons, opKind, j1, q1, -Int.ofNat_eq_natCast]
  have c3 : evE gF (FF 2) constG (.call (.var 73) (.cons (.bin .Add (.var 72) (.var 72)) .nil)) (stN xs cs w s sg row v (row.map fun x => .str (nm w x)) (row.flatMap (nm w))) = some (.val (.str (EE.flatMap (nm w))), stN xs cs w s sg row v (row.map fun x => .str (nm w x)) (row.flatMap (nm w))) := by
    simp [-w_runF, -w_binT_str, stN, St.get_nil, St.get_cons, St.set_nil, St.set_cons, ef, b1, e2, -Int.ofNat_eq_natCast, -List.flatMap_append]
  generalize hst : stN xs cs w s sg row v (row.map fun x => .str (nm w x)) (row.flatMap (nm w)) = st at *
  have a2 : evB gF (FF 2) constG (.cmp (.call (.var 73) (.cons (.bin .Add (.var 72) (.var 72)) .nil)) (.one .NotEq (.meth .join (.str []) (.cons (cmpN (.bin .Add (.var 72) (.var 72))) .nil)))) st = some (false, st) := by
    generalize E.call (.var 73) (.cons (.bin .Add (.var 72) (.var 72)) .nil) = C at c3
    generalize cmpN (.bin .Add (.var 72) (.var 72)) = D at c2
    simp [-w_methT_join, c2, c3, opKind, j2, q2, -Int.ofNat_eq_natCast, -List.flatMap_append, -List.map_append]
  have s10 : evS gF (FF 2) constG l10 st = some (.next, st) := bnI (bnI a1 (bnI a2 rfl)) rfl
  exact (thnI s8 (thnI s9 (thnI s10 rfl)))
end MP
end

section -- MpFin
open PySem
namespace MP
/-! the names' texts -/
noncomputable def nmAll : List (List Nat) := [[38, 97, 109, 112, 59], [38, 108, 116, 59], [38, 103, 116, 59], [38, 113, 117, 111, 116, 59], [38, 35, 49, 51, 59], [38, 35, 49, 48, 59], [38, 35, 48, 57, 59], [38, 35, 120, 68, 59], [38, 35, 120, 65, 59], [38, 35, 120, 57, 59]]
noncomputable def six : List Nat := [60, 62, 34, 13, 10, 9]
noncomputable def single (h : Nat) : Prop := h ∈ six ∨ 256 ≤ h
noncomputable def IsName (n : List Nat) : Prop := n ∈ nmAll ∨ ∃ h, n = [h] ∧ single h
theorem nm_shape : (List.range 5).all (fun w => base7.all fun x => nmAll.any (sEq (nm w x)) || (sEq (nm w x) [x] && six.any (Nat.beq x))) = true := by decide +kernel
theorem isName_nm {w x : Nat} (hw : w < 5) (hx : okSign x) : IsName (nm w x) := by
  rcases hx with h | h
  · have k := all_mem (all_mem nm_shape (List.mem_range.mpr hw)) h
    rw [Bool.or_eq_true, Bool.and_eq_true, List.any_eq_true, List.any_eq_true] at k
    rcases k with ⟨y, hy, e⟩ | ⟨e, y, hy, e2⟩
    · rw [(sEq_iff _ _).mp e]; exact .inl hy
    · rw [(sEq_iff _ _).mp e, Nat.eq_of_beq_eq_true e2]; exact .inr ⟨_, rfl, .inl hy⟩
  · rw [nm_big h]; exact .inr ⟨_, rfl, .inr h⟩
noncomputable def badTail (c : Nat) : Bool := Nat.beq c 38 || six.any (Nat.beq c) || Nat.ble 256 c || Nat.beq c 46
theorem tails_all : nmAll.all (fun n => match n with | h :: t => Nat.beq h 38 && t.all (fun c => !badTail c) && Nat.blt 1 n.length | [] => false) = true := by decide +kernel
theorem nmAll_shape {n : List Nat} (h : n ∈ nmAll) : ∃ c t, n = 38 :: c :: t ∧ ∀ x ∈ c :: t, badTail x = false := by
  have k := all_mem tails_all h
  split at k
  · rename_i a t
    rw [Bool.and_eq_true, Bool.and_eq_true] at k
    have e := Nat.eq_of_beq_eq_true k.1.1
    subst e
    cases t with
    | nil => have := k.2; simp [Nat.blt] at this
    | cons c t =>
      refine ⟨c, t, rfl, fun x hx => ?_⟩
      have := all_mem k.1.2 hx
      simpa using this
  · first | exact nomatch k | cases k
theorem bad_single {h : Nat} (k : single h) : badTail h = true := by
  unfold badTail
  rcases k with k | k
  · have : six.any (Nat.beq h) = true := by
      rw [List.any_eq_true]; exact ⟨h, k, Nat.beq_refl h⟩
    rw [this]; simp
  · rw [Nat.ble_eq_true_of_le k]; simp
theorem isName_cons {n : List Nat} (h : IsName n) : ∃ a t, n = a :: t ∧ badTail a = true ∧ ∀ x ∈ t, badTail x = false := by
  rcases h with h | ⟨a, rfl, k⟩
  · obtain ⟨c, t, rfl, k⟩ := nmAll_shape h
    exact ⟨_, _, rfl, rfl, k⟩
  · exact ⟨_, _, rfl, bad_single k, fun x hx => nomatch hx⟩
theorem six38 : ¬ single 38 := by
  rintro (h | h)
  · simp [six] at h
  · omega
theorem pre_all : nmAll.all (fun m => nmAll.all fun n => !(m.isPrefixOf n) || sEq m n) = true := by decide +kernel
theorem suf_all : nmAll.all (fun m => nmAll.all fun n => !(m.isSuffixOf n) || sEq m n) = true := by decide +kernel
theorem isName_pre {m n : List Nat} (hm : IsName m) (hn : IsName n) (h : m <+: n) : m = n := by
  rcases hm with hm | ⟨a, rfl, k⟩
  · rcases hn with hn | ⟨b, rfl, k⟩
    · have q := all_mem (all_mem pre_all hm) hn
      have : m.isPrefixOf n = true := List.isPrefixOf_iff_prefix.mpr h
      rw [this] at q
      exact (sEq_iff _ _).mp (by simpa using q)
    · obtain ⟨c, t, rfl, _⟩ := nmAll_shape hm
      have := h.length_le
      simp at this
  · obtain ⟨b, t, rfl, k1, k2⟩ := isName_cons hn
    rw [List.cons_prefix_cons] at h
    have e := h.1
    subst e
    rcases hn with hn | ⟨b, e, k⟩
    · obtain ⟨c, t, e, _⟩ := nmAll_shape hn
      cases e
      exact absurd k six38
    · cases e; rfl
theorem isName_suf {m n : List Nat} (hm : IsName m) (hn : IsName n) (h : m <:+ n) : m = n := by
  rcases hm with hm | ⟨a, rfl, k⟩
  · rcases hn with hn | ⟨b, rfl, k⟩
    · have q := all_mem (all_mem suf_all hm) hn
      have : m.isSuffixOf n = true := List.isSuffixOf_iff_suffix.mpr h
      rw [this] at q
      exact (sEq_iff _ _).mp (by simpa using q)
    · obtain ⟨c, t, rfl, _⟩ := nmAll_shape hm
      have := h.length_le
      simp at this
  · rcases hn with hn | ⟨b, rfl, k2⟩
    · exfalso
      obtain ⟨c, t, rfl, k3⟩ := nmAll_shape hn
      have ha : a ∈ c :: t := by
        obtain ⟨u, hu⟩ := h
        cases u with
        | nil => simp at hu
        | cons x u =>
          rw [List.cons_append] at hu
          have := (List.cons.inj hu).2
          rw [← this]; simp
      have := k3 a ha
      rw [bad_single k] at this
      cases this
    · obtain ⟨u, hu⟩ := h
      cases u with
      | nil => simpa using hu
      | cons x u => have := congrArg List.length hu; simp at this
theorem isName_dot {n : List Nat} (h : IsName n) : 46 ∉ n := by
  rcases h with h | ⟨a, rfl, k⟩
  · obtain ⟨c, t, rfl, k⟩ := nmAll_shape h
    intro q
    rcases List.mem_cons.mp q with q | q
    · first | exact nomatch q | cases q
    · have := k _ q; cases this
  · intro q
    rw [List.mem_singleton] at q
    subst q
    rcases k with k | k
    · simp [six] at k
    · omega
theorem inj_all : (List.range 5).all (fun w => base7.all fun x => base7.all fun y => !(sEq (nm w x) (nm w y)) || Nat.beq x y) = true := by decide +kernel
theorem low_all : (List.range 5).all (fun w => base7.all fun x => (nm w x).all fun c => Nat.blt c 256) = true := by decide +kernel
theorem nm_injT {w x y : Nat} (hw : w < 5) (hx : okSign x) (hy : okSign y) (h : nm w x = nm w y) : x = y := by
  have hwr := List.mem_range.mpr hw
  have big : ∀ {a b : Nat}, a ∈ base7 → 256 ≤ b → nm w a = [b] → False := fun {a b} ha hb e => by
    have k := all_mem (all_mem low_all hwr) ha
    rw [e] at k
    have := all_mem k List.mem_cons_self
    rw [Nat.blt_eq] at this
    omega
  rcases hx with h1 | h1 <;> rcases hy with h2 | h2
  · have k := all_mem (all_mem (all_mem inj_all hwr) h1) h2
    rw [(sEq_iff _ _).mpr h] at k
    exact Nat.eq_of_beq_eq_true (by simpa using k)
  · rw [nm_big h2] at h; exact absurd (big h1 h2 h) id
  · rw [nm_big h1] at h; exact absurd (big h2 h1 h.symm) id
  · rw [nm_big h1, nm_big h2] at h; exact (List.cons.inj h).1
end MP
end

section -- MpFin2
open PySem
namespace MP
/-- the signs' texts: row signs 0..4, names in order 10..14 -/
noncomputable def ff (row : List Nat) (S : List (List Nat)) (c : Nat) : List Nat := if c < 5 then [row.getD c 0] else if 10 ≤ c ∧ c < 15 then S.getD (c - 10) [] else if 100 ≤ c then [c - 100] else [c]
theorem ff_row {row : List Nat} {S : List (List Nat)} {c : Nat} (h : c < 5) : ff row S c = [row.getD c 0] := by
  unfold ff; rw [if_pos h]
theorem ff_nm {row : List Nat} {S : List (List Nat)} {c : Nat} (h : 10 ≤ c) (h2 : c < 15) : ff row S c = S.getD (c - 10) [] := by
  unfold ff; rw [if_neg (by omega), if_pos ⟨h, h2⟩]
theorem ff_lit {row : List Nat} {S : List (List Nat)} (c : Nat) : ff row S (100 + c) = [c] := by
  unfold ff; rw [if_neg (by omega), if_neg (by omega), if_pos (by omega)]
  have : 100 + c - 100 = c := by omega
  rw [this]
theorem fl_lit {row : List Nat} {S : List (List Nat)} : ∀ t : List Nat, fl (ff row S) (t.map (100 + ·)) = t
  | [] => rfl
  | c :: r => by rw [List.map_cons, fl_cons, ff_lit, fl_lit r]; rfl
theorem getD_lt {α : Type} {l : List α} {i : Nat} {d : α} (h : i < l.length) : l.getD i d = l[i] := by
  rw [List.getD_eq_getElem?_getD, List.getElem?_eq_getElem h]; rfl
theorem nmC_iff {c : Nat} : nmC c = true ↔ 10 ≤ c ∧ c < 15 := by
  unfold nmC
  rw [Bool.and_eq_true, Nat.blt_eq]
  exact ⟨fun h => ⟨Nat.le_of_ble_eq_true h.1, h.2⟩, fun h => ⟨Nat.ble_eq_true_of_le h.1, h.2⟩⟩
section
variable {row : List Nat} {S : List (List Nat)}
theorem sg_ff (hl : row.length = 5) (hn : row.Nodup) (hS : S.length = 5) (hs : SortedS S) (hd : S.Nodup) (hlen : ∀ n ∈ S, n.length ≤ 10) : Sg (ff row S) where
  row := fun c hc => ⟨_, ff_row hc⟩
  inj := fun c d hc hd e => by
    rw [ff_row hc, ff_row hd, getD_lt (by omega), getD_lt (by omega)] at e
    exact (List.getElem_inj hn).mp (List.cons.inj e).1
  ord := fun c d h1 h2 h3 h4 => by
    rw [ff_nm h1 h2, ff_nm h3 h4, getD_lt (by omega), getD_lt (by omega)]
    have key : ∀ i j (hi : i < S.length) (hj : j < S.length), i < j → sLt S[j] S[i] = false ∧ sLt S[i] S[j] = true := fun i j hi hj hij => by
      have k1 := (List.pairwise_iff_getElem.mp hs) i j hi hj hij
      refine ⟨k1, ?_⟩
      cases q : sLt S[i] S[j] with
      | true => rfl
      | false =>
        have := (List.getElem_inj hd).mp (sLt_antisymm q k1)
        omega
    rw [Bool.eq_iff_iff, Nat.blt_eq]
    rcases Nat.lt_trichotomy c d with q | q | q
    · rw [(key (c - 10) (d - 10) (by omega) (by omega) (by omega)).2]
      exact ⟨fun _ => q, fun _ => rfl⟩
    · subst q
      rw [sLt_irrefl]
      exact ⟨(fun h => nomatch h), fun h => absurd h (Nat.lt_irrefl _)⟩
    · rw [(key (d - 10) (c - 10) (by omega) (by omega) (by omega)).1]
      exact ⟨(fun h => nomatch h), fun h => by omega⟩
  len := fun c => by
    unfold ff
    split
    · simp
    · split
      · rename_i h
        rw [getD_lt (by omega)]
        exact hlen _ (List.getElem_mem _)
      · split <;> simp
  dot := rfl
theorem tok_ff (hS : S.length = 5) (hd : S.Nodup) (hN : ∀ n ∈ S, IsName n) : Tok (ff row S) := by
  have isn : ∀ c, nmC c = true → IsName (ff row S c) := fun c hc => by
    obtain ⟨h1, h2⟩ := nmC_iff.mp hc
    rw [ff_nm h1 h2, getD_lt (by omega)]
    exact hN _ (List.getElem_mem _)
  have inj : ∀ c d, nmC c = true → nmC d = true → ff row S c = ff row S d → c = d := fun c d hc hd' e => by
    obtain ⟨h1, h2⟩ := nmC_iff.mp hc
    obtain ⟨h3, h4⟩ := nmC_iff.mp hd'
    rw [ff_nm h1 h2, ff_nm h3 h4, getD_lt (by omega), getD_lt (by omega)] at e
    have := (List.getElem_inj hd).mp e
    omega
  refine ⟨fun c hc => ?_, fun c d hc hd' h => inj c d hc hd' (isName_pre (isn c hc) (isn d hd') h), fun c d hc hd' h => inj c d hc hd' (isName_suf (isn c hc) (isn d hd') h), fun c hc => isName_dot (isn c hc)⟩
  obtain ⟨a, t, e, k1, k2⟩ := isName_cons (isn c hc)
  refine ⟨a, t, e, fun d h' t' hd' e' hm => ?_⟩
  obtain ⟨a2, t2, e2, k3, _⟩ := isName_cons (isn d hd')
  rw [e2] at e'
  cases e'
  have := k2 _ hm
  rw [k3] at this
  cases this
/-- the names' places in the order -/
noncomputable def ranks (N S : List (List Nat)) : List Nat := N.map fun n => List.idxOf n S
theorem ranks_lt {N : List (List Nat)} (hS : S.length = 5) (hNS : ∀ n ∈ N, n ∈ S) : ∀ x ∈ ranks N S, x < 5 := by
  intro x hx
  obtain ⟨n, hn, rfl⟩ := List.mem_map.mp hx
  have := List.idxOf_lt_length_of_mem (hNS n hn)
  omega
theorem ranks_get {N : List (List Nat)} (hNS : ∀ n ∈ N, n ∈ S) : ∀ n ∈ N, S.getD (List.idxOf n S) [] = n := by
  intro n hn
  rw [getD_lt (List.idxOf_lt_length_of_mem (hNS n hn)), List.getElem_idxOf]
theorem ranks_nodup {N : List (List Nat)} (hN : N.Nodup) (hNS : ∀ n ∈ N, n ∈ S) : (ranks N S).Nodup := by
  unfold ranks
  have h := ranks_get hNS
  induction N with
  | nil => simp
  | cons n N ih =>
    rw [List.nodup_cons] at hN
    rw [List.map_cons, List.nodup_cons]
    refine ⟨fun q => ?_, ih hN.2 (fun m hm => hNS m (List.mem_cons_of_mem _ hm)) (fun m hm => h m (List.mem_cons_of_mem _ hm))⟩
    obtain ⟨m, hm, e⟩ := List.mem_map.mp q
    have h1 := h m (List.mem_cons_of_mem _ hm)
    have h2 := h n List.mem_cons_self
    rw [e, h2] at h1
    exact hN.1 (h1 ▸ hm)
theorem ff_rank {N : List (List Nat)} (hS : S.length = 5) (hNS : ∀ n ∈ N, n ∈ S) {n : List Nat} (hn : n ∈ N) : ff row S (10 + List.idxOf n S) = n := by
  have := List.idxOf_lt_length_of_mem (hNS n hn)
  rw [ff_nm (by omega) (by omega)]
  have e : 10 + List.idxOf n S - 10 = List.idxOf n S := by omega
  rw [e]
  exact ranks_get hNS n hn
theorem map_names {N : List (List Nat)} (hS : S.length = 5) (hNS : ∀ n ∈ N, n ∈ S) : mapTs (ff row S) ((ranks N S).map fun r => .str [10 + r]) = N.map .str := by
  rw [mapTs_eq]
  unfold ranks
  rw [List.map_map, List.map_map]
  refine List.map_congr_left fun n hn => ?_
  simp only [Function.comp, mapT, fl_one, ff_rank hS hNS hn]
theorem map_page {N : List (List Nat)} (hS : S.length = 5) (hNS : ∀ n ∈ N, n ∈ S) : fl (ff row S) ((ranks N S).map (10 + ·)) = N.flatten := by
  unfold ranks fl
  rw [List.map_map, List.flatMap_def, List.map_map]
  congr 1
  have : N.map (ff row S ∘ ((fun x => 10 + x) ∘ fun n => List.idxOf n S)) = N.map id := by
    refine List.map_congr_left fun n hn => ?_
    simp only [Function.comp, id, ff_rank hS hNS hn]
  rw [this, List.map_id]
theorem map_row (hl : row.length = 5) : fl (ff row S) [0, 1, 2, 3, 4] = row := by
  match row, hl with
  | [a, b, c, d, e], _ => rfl
end
end MP
end

section -- MpL14
open PySem
namespace MP
theorem g0 : constG 0 = some (.fn 0) := rfl
theorem collI_nil {p : List Nat} (h : p ≠ []) : collI [] p = -1 := by
  cases p with
  | nil => exact absurd rfl h
  | cons a r => rfl
theorem sLt_append : ∀ (a : List Nat) {q : List Nat}, q ≠ [] → sLt a (a ++ q) = true
  | [], q, h => by cases q with
    | nil => exact absurd rfl h
    | cons b r => rfl
  | x :: a, q, h => by
    have e : Nat.blt x x = false := by
      rw [Bool.eq_false_iff, Ne, Nat.blt_eq]; exact Nat.lt_irrefl x
    simp only [List.cons_append, sLt, Nat.beq_refl, sLt_append a h, e]
theorem sLt_append' (a : List Nat) {q : List Nat} (h : q ≠ []) : sLt (a ++ q) a = false := by
  have h1 := sLt_lt.mp (sLt_append a h)
  cases e : sLt (a ++ q) a with
  | false => rfl
  | true => exact absurd (List.lt_trans h1 (sLt_lt.mp e)) (List.lt_irrefl _)
theorem collI_page (a : List Nat) {q : List Nat} (h : q ≠ []) : collI (a ++ q) a = 1 := by
  unfold collI
  rw [sLt_append a h, sLt_append' a h]; rfl
theorem collI_self (a : List Nat) : collI a a = 0 := by
  unfold collI
  rw [sLt_irrefl]; rfl
theorem coll_call {e1 e2 : E} {st : St} {x y : Op} {a b : List Nat} (h1 : evE gF (FF 2) constG e1 st = some (x, st)) (h2 : evE gF (FF 2) constG e2 st = some (y, st)) (p1 : esc st x.low = some (.str a, st)) (p2 : esc st y.low = some (.str b, st)) :
    evE gF (FF 2) constG (.call (.glob 0) (.cons e1 (.cons e2 .nil))) st = some (.val (.int (collI a b)), st) := by
  simp [-w_runF, h1, h2, p1, p2, FF2_0, coll_run, g0]
theorem small_nat {n : Nat} (h : n ≤ 1000000) : small (Int.ofNat n) = true := by
  unfold small
  rw [Bool.and_eq_true, decide_eq_true_eq, decide_eq_true_eq]
  have : (Int.ofNat n) = (n : Int) := rfl
  omega
theorem l14_run (st : St) (N : List (List Nat)) (n0 pg q : List Nat) (r : List (List Nat)) (b : Bool) (h58 : st.get 58 = some (.list (N.map .str), b)) (h59 : st.get 59 = some (.str pg, false))
    (hN : N = n0 :: r) (hp : pg = n0 ++ q) (hq : q ≠ []) (hl : N.length ≤ 100) (hpl : pg.length ≤ 1000) : evS gF (FF 2) constG l14 st = some (.next, st) := by
  have hpn : pg ≠ [] := by
    intro e; rw [e] at hp
    exact hq (List.append_eq_nil_iff.mp hp.symm).2
  have hnl : n0.length ≤ 1000 := by
    have := congrArg List.length hp
    rw [List.length_append] at this
    omega
  have k0 : lenOk (N.length) = true := lenOk_of (by omega)
  have k1 : lenOk n0.length = true := lenOk_of (by omega)
  have k2 : lenOk pg.length = true := lenOk_of (by omega)
  have i0 : idxT gF (.list (N.map .str)) (.int 0) = some (.str n0) := by
    subst hN
    exact gtI (by rw [List.length_map]; exact k0) (obI (x := 0) (by rw [List.length_map]; rfl) rfl)
  have c1 : sliceT gF (.str pg) none (some (Int.ofNat n0.length)) = some (.str n0, false) :=
    gtI (b := true && lenOk pg.length) k2 (show some (T.str (pg.take n0.length), false) = _ by rw [hp, List.take_left])
  have v59 : evE gF (FF 2) constG (.var 59) st = some (.var 59, st) := obI h59 rfl
  have x59 : esc st (Op.low (.var 59)) = some (.str pg, st) := by simp [h59]
  have s0 : evE gF (FF 2) constG (.sub (.var 58) (.int 0)) st = some (.val (.str n0), st) := by simp [-w_idxT_list, h58, i0]
  have s1 : small (Int.ofNat n0.length) = true := small_nat (by omega)
  have s3 : evE gF (FF 2) constG (.slc (.var 59) .none (.some (.bi .len (.cons (.sub (.var 58) (.int 0)) .nil)))) st = some (.val (.str n0), st) := by
    have b1 : evE gF (FF 2) constG (.bi .len (.cons (.sub (.var 58) (.int 0)) .nil)) st = some (.val (.int (Int.ofNat n0.length)), st) := by
      generalize E.sub (.var 58) (.int 0) = A at s0
      simp [s0, k1]
    generalize E.bi .len (.cons (.sub (.var 58) (.int 0)) .nil) = A at b1
    generalize Int.ofNat n0.length = i at b1 s1 c1
    have o1 : evO gF (FF 2) constG (.some A) st = some (some i, st) := by
      show evInt (evE gF (FF 2) constG A) st = _
      exact bnI b1 (obI (x := T.int i) rfl (obI (x := i) rfl (gtI s1 rfl)))
    generalize Oe.some A = B at o1
    simp [-w_sliceT_str, o1, c1, h59]
  have e1 := coll_call (e1 := .str []) (e2 := .var 59) rfl v59 rfl x59
  rw [collI_nil hpn] at e1
  have e2 := coll_call v59 s0 x59 rfl
  have : collI pg n0 = 1 := by rw [hp]; exact collI_page n0 hq
  rw [this] at e2
  have e3 := coll_call s0 s3 rfl rfl
  rw [collI_self] at e3
  have e4 : evE gF (FF 2) constG (.call (.glob 0) (.cons (.str [90]) (.cons (.str [97]) .nil))) st = some (.val (.int (-1)), st) := coll_call (a := [90]) (b := [97]) rfl rfl rfl rfl
  have q1 : eqL [.int (-1), .int 1, .int 0, .int (-1)] [.int (-1), .int 1, .int 0, .int (-1)] = some true := by decide
  have l4 : lenOk 4 = true := rfl
  unfold l14
  generalize E.call (.glob 0) (.cons (.str []) (.cons (.var 59) .nil)) = C1 at e1
  generalize E.call (.glob 0) (.cons (.sub (.var 58) (.int 0)) (.cons (.slc (.var 59) .none (.some (.bi .len (.cons (.sub (.var 58) (.int 0)) .nil)))) .nil)) = C3 at e3
  generalize E.call (.glob 0) (.cons (.var 59) (.cons (.sub (.var 58) (.int 0)) .nil)) = C2 at e2
  generalize E.call (.glob 0) (.cons (.str [90]) (.cons (.str [97]) .nil)) = C4 at e4
  simp [e1, e2, e3, e4, l4, q1]
end MP
end

section -- MpPlain
open PySem
namespace MP
noncomputable def eqSS : List (List Nat) → List (List Nat) → Bool
  | [], [] => true
  | a :: r, b :: t => sEq a b && eqSS r t
  | _, _ => false
theorem eqSS_eq : ∀ {a b : List (List Nat)}, eqSS a b = true → a = b
  | [], [], _ => rfl
  | [], _ :: _, h => nomatch h
  | _ :: _, [], h => nomatch h
  | a :: r, b :: t, h => by
    simp only [eqSS, Bool.and_eq_true] at h
    rw [(sEq_iff _ _).mp h.1, eqSS_eq h.2]
noncomputable def okMid (l : List Nat) (st : St) : Bool := match ob (ob (st.get 58) fun p => asList p.1) toStrs with
  | none => false
  | some ss => match ob (shr st 59) asStr with
    | none => false
    | some p => eqSS ss (l.map fun r => [10 + r]) && sEq p (l.map (10 + ·))
noncomputable def retB (o : Option (Fl × St)) : Option Bool := bn o fun f _ => match f with
  | .ret t => asBool t
  | .next => none
noncomputable def absO (a27 a28 a31 a75 a73 a72 a74 a29 : T) (l : List Nat) : Option Bool := bn (evSs gA (F1 2) constG (ssTake 3 (ssDrop 11 b_law)) (st0 a27 a28 a31 a75 a73 a72 a74 a29 l)) fun f st => match f with
  | .next => gt (okMid l st) (retB (evSs gA (F1 2) constG (ssDrop 15 b_law) st))
  | .ret _ => none
noncomputable def absOK (a27 a28 a31 a75 a73 a72 a74 a29 : T) (l : List Nat) : Bool := match absO a27 a28 a31 a75 a73 a72 a74 a29 l with
  | some b => b
  | none => false
theorem absOK_out {a27 a28 a31 a75 a73 a72 a74 a29 : T} {l : List Nat} (h : absOK a27 a28 a31 a75 a73 a72 a74 a29 l = true) : ∃ st b st₂, evSs gA (F1 2) constG (ssTake 3 (ssDrop 11 b_law)) (st0 a27 a28 a31 a75 a73 a72 a74 a29 l) = some (.next, st) ∧ st.get 58 = some (.list (l.map fun r => .str [10 + r]), b) ∧ st.get 59 = some (.str (l.map (10 + ·)), false) ∧ evSs gA (F1 2) constG (ssDrop 15 b_law) st = some (.ret (.bool true), st₂) := by
  have h : absO a27 a28 a31 a75 a73 a72 a74 a29 l = some true := by
    unfold absOK at h
    cases e : absO a27 a28 a31 a75 a73 a72 a74 a29 l with
    | none => rw [e] at h; exact nomatch h
    | some b => rw [e] at h; exact congrArg some h
  unfold absO at h
  generalize ssTake 3 (ssDrop 11 b_law) = B1 at *
  generalize ssDrop 15 b_law = B2 at *
  refine be h ?_; clear h; intro f st h1 h
  cases f with
  | ret t => exact nomatch h
  | next =>
    refine ge h ?_; clear h; intro h2 h
    refine be h ?_; clear h; intro f2 st2 h7 h
    cases f2 with
    | next => exact nomatch h
    | ret t =>
      obtain rfl := asBool_e h
      unfold okMid at h2
      cases e : ob (ob (st.get 58) fun p => asList p.1) toStrs with
      | none => rw [e] at h2; exact nomatch h2
      | some ss =>
        rw [e] at h2
        refine oe e ?_; clear e; intro xs e e2
        refine oe e ?_; clear e; intro q e e1
        obtain ⟨u, b⟩ := q
        obtain rfl := asList_e e1
        cases e3 : ob (shr st 59) asStr with
        | none => rw [e3] at h2; exact nomatch h2
        | some p =>
          rw [e3] at h2
          obtain ⟨k1, k2⟩ := Bool.and_eq_true_iff.mp h2
          refine oe e3 ?_; clear e3; intro u e3 e4
          obtain rfl := asStr_e e4
          refine ⟨st, b, st2, h1, ?_, ?_, h7⟩
          · rw [e, toStrs_e e2, eqSS_eq k1, List.map_map]; rfl
          · rw [shr_e e3, (sEq_iff _ _).mp k2]
theorem good_strs (l : List Nat) (k : Nat → List Nat) : goodTs (l.map fun c => .str (k c)) := by
  rw [goodTs_iff]
  intro y hy
  obtain ⟨r, _, rfl⟩ := List.mem_map.mp hy
  trivial
theorem good_ints (l : List Int) : goodTs (l.map .int) := by
  rw [goodTs_iff]
  intro y hy
  obtain ⟨r, _, rfl⟩ := List.mem_map.mp hy
  trivial
theorem map_ints (f : Nat → List Nat) (l : List Int) : mapTs f (l.map .int) = l.map .int := by
  rw [mapTs_eq, List.map_map]
  exact List.map_congr_left fun x _ => by simp only [Function.comp, mapT]
/-- the letters, for a frame of the law -/
noncomputable def stJ (ns cs : List Int) (w s : Nat) (sg : List Nat) (v : Int) (l : List Nat) : St :=
  st0 (.list (ns.map .int)) (.list (cs.map .int)) (.int (Int.ofNat w)) (.str [100 + s]) (.fn (2 + w)) (.str ((every s).map (100 + ·))) (.list (sg.map fun c => .str [100 + c])) (.int v) l
theorem good_stJ (ns cs : List Int) (w s : Nat) (sg : List Nat) (v : Int) (l : List Nat) : goodSt (stJ ns cs w s sg v l) := by
  intro x hx
  simp only [stJ, st0, List.mem_cons, List.not_mem_nil, or_false] at hx
  rcases hx with rfl | rfl | rfl | rfl | rfl | rfl | rfl | rfl | rfl | rfl | rfl
  · simp only [goodT]; exact good_ints ns
  · simp only [goodT]; exact good_ints cs
  · trivial
  · trivial
  · trivial
  · trivial
  · simp only [goodT]; exact good_strs sg fun c => [100 + c]
  · trivial
  · trivial
  · simp only [goodT]; exact good_strs l fun c => [10 + c]
  · trivial
theorem every_nodup {s : Nat} (hs : 256 ≤ s) : (every s).Nodup := by
  simp [every]
  omega
theorem plain_of (table : ∀ (a27 a28 a31 a75 a73 a72 a74 a29 : T) (l : List Nat), l.length = 5 → (∀ x ∈ l, x < 5) → l.Nodup → absOK a27 a28 a31 a75 a73 a72 a74 a29 l = true) (ns : List Int) (h : ns.length ≤ 63) : ∃ fP, FF 3 16 = some fP ∧ fP [.list (ns.map .int)] = some (.bool true) := by
  refine ⟨runF gF (FF 2) constG p_law b_law, rfl, ?_⟩
  obtain ⟨cs, hf, hc, hb⟩ := cells_ok (FF 1) ns h
  obtain ⟨w, s, hw, hs, e1⟩ := head_run (ns.map .int) cs hc hb hf
  obtain ⟨sg, row, v, e2, perm, hl⟩ := row_run (ns.map .int) cs w s hc hb (FF 2)
  have hnd : (row ++ sg).Nodup := perm.nodup_iff.mpr (every_nodup hs)
  have hrow : row.Nodup := (List.nodup_append.mp hnd).1
  have hok : ∀ x ∈ row, okSign x := fun x hx => every_ok hs x (perm.mem_iff.mp (List.mem_append_left _ hx))
  have e3 := names_run (ns.map .int) cs w s sg row (.int v) hw hs hok hl (ssDrop 11 b_law)
  -- the names
  let N := row.map (nm w)
  let S := sortS N
  have hNl : N.length = 5 := by simp [N, hl]
  have hNn : N.Nodup := by
    have : ∀ t : List Nat, t.Nodup → (∀ x ∈ t, okSign x) → (t.map (nm w)).Nodup := by
      intro t
      induction t with
      | nil => intro _ _; simp
      | cons a r ih =>
        intro hn hk
        rw [List.nodup_cons] at hn
        rw [List.map_cons, List.nodup_cons]
        refine ⟨fun q => ?_, ih hn.2 fun x hx => hk x (List.mem_cons_of_mem _ hx)⟩
        obtain ⟨b, hb, e⟩ := List.mem_map.mp q
        exact hn.1 (nm_injT hw (hk b (List.mem_cons_of_mem _ hb)) (hk a List.mem_cons_self) e ▸ hb)
    exact this row hrow hok
  have hSp : S.Perm N := sortS_perm N
  have hSl : S.length = 5 := by rw [hSp.length_eq, hNl]
  have hSn : S.Nodup := hSp.nodup_iff.mpr hNn
  have hNS : ∀ n ∈ N, n ∈ S := fun n hn => hSp.mem_iff.mpr hn
  have hSN : ∀ n ∈ S, IsName n ∧ n.length ≤ 10 := fun n hn => by
    obtain ⟨x, hx, rfl⟩ := List.mem_map.mp (hSp.mem_iff.mp hn)
    exact ⟨isName_nm hw (hok x hx), nm_len hw (hok x hx)⟩
  have G : Sg (ff row S) := sg_ff hl hrow hSl (sortS_sorted N) hSn fun n hn => (hSN n hn).2
  have K : Tok (ff row S) := tok_ff hSl hSn fun n hn => (hSN n hn).1
  let l := ranks N S
  have hll : l.length = 5 := by simp [l, ranks, hNl]
  obtain ⟨st1, b, st2, a1, a2, a3, a4⟩ := absOK_out (table (.list (ns.map .int)) (.list (cs.map .int)) (.int (Int.ofNat w)) (.str [100 + s]) (.fn (2 + w)) (.str ((every s).map (100 + ·))) (.list (sg.map fun c => .str [100 + c])) (.int v) l hll (ranks_lt hSl hNS) (ranks_nodup hNn hNS))
  have hF := frel G K 2
  have hG := constG_map G
  obtain ⟨m1, _, g1⟩ := sim_Ss G hF hG _ _ _ _ (good_stJ ns cs w s sg v l) a1
  obtain ⟨m2, _, _⟩ := sim_Ss G hF hG _ _ _ _ g1 a4
  simp only [mapFl, mapT] at m1 m2
  have pg : fl (ff row S) (l.map (10 + ·)) = row.flatMap (nm w) := by
    have := map_page (row := row) hSl hNS
    rw [this]; simp [N, List.flatMap_def]
  have nms : mapTs (ff row S) (l.map fun r => .str [10 + r]) = N.map .str := map_names hSl hNS
  have hm0 : mapSt (ff row S) (stJ ns cs w s sg v l) = stN (ns.map .int) cs w s sg row (.int v) (row.map fun x => .str (nm w x)) (row.flatMap (nm w)) := by
    have eN : (N.map T.str) = row.map fun x => .str (nm w x) := by simp [N]
    have e75 : fl (ff row S) [100 + s] = [s] := fl_lit [s]
    have e74 : mapTs (ff row S) (sg.map fun c => .str [100 + c]) = chars sg := by
      rw [mapTs_eq, List.map_map]
      exact List.map_congr_left fun c _ => by
        have : fl (ff row S) [100 + c] = [c] := fl_lit [c]
        simp only [Function.comp, mapT, this]
    simp only [mapSt, stJ, st0, stN, List.map_cons, List.map_nil, mapT, pg, nms, map_row hl, map_ints, e75, e74, fl_lit, eN]
  have m1' : evSs gF (FF 2) constG (ssTake 3 (ssDrop 11 b_law)) (stN (ns.map .int) cs w s sg row (.int v) (row.map fun x => .str (nm w x)) (row.flatMap (nm w))) = some (.next, mapSt (ff row S) st1) := by
    rw [← hm0]; exact m1
  have q58 := getM (f := ff row S) a2
  have q59 := getM (f := ff row S) a3
  simp only [mapT, nms, pg] at q58 q59
  obtain ⟨r0, r', hr⟩ : ∃ r0 r', row = r0 :: r' := by
    cases row with
    | nil => simp at hl
    | cons a t => exact ⟨a, t, rfl⟩
  have hr'l : r' ≠ [] := by
    intro e; rw [hr, e] at hl; simp at hl
  have q14 := l14_run (mapSt (ff row S) st1) N (nm w r0) (row.flatMap (nm w)) (r'.flatMap (nm w)) (r'.map (nm w)) b q58 q59 (by simp [N, hr]) (by rw [hr]; rfl) (by
    cases r' with
    | nil => exact absurd rfl hr'l
    | cons x t =>
      obtain ⟨a, u, e, _⟩ := isName_cons (isName_nm hw (hok x (by rw [hr]; simp)))
      rw [List.flatMap_cons, e]; simp) (by omega) (by
    have := flat_len (g := nm w) (b := 10) (t := row) fun x hx => nm_len hw (hok x hx)
    omega)
  have e4 := ss_take (FF 2) constG 3 (ssDrop 11 b_law) _ _ m1'
  have e5 : ssDrop 3 (ssDrop 11 b_law) = ssDrop 14 b_law := ss_drop 11 3 b_law
  have main : evSs gF (FF 2) constG b_law [(27, .list (ns.map .int), false)] = some (.ret (.bool true), mapSt (ff row S) st2) := by
    rw [law_split, e1]
    refine thnI e2 ?_
    show evSs gF (FF 2) constG (.cons l8 (.cons l9 (.cons l10 (ssDrop 11 b_law)))) _ = _
    rw [e3, e4, e5, law_split2]
    exact thnI q14 m2
  exact obI (x := [(27, .list (ns.map .int), false)]) rfl (bnI main rfl)
end MP
end

section -- MpFast
open PySem
namespace MP
section
variable (g : Gd) (F : FTab) (G : Nat → Option T)
mutual
noncomputable def cE : E → PLift (Ev Op)
  | .int i => ⟨fun st => some (.val (.int i), st)⟩
  | .str s => ⟨fun st => gt (g.lit s) (some (.val (.str s), st))⟩
  | .bool b => ⟨fun st => some (.val (.bool b), st)⟩
  | .var x => ⟨evVar x⟩
  | .glob n => ⟨fun st => ob (G n) fun t => some (.val t, st)⟩
  | .neg i => ⟨fun st => some (.val (.int (-i)), st)⟩
  | .bin o a b => ⟨ev2 (cE a).down (cE b).down (binT g o)⟩
  | .cmp a r => ⟨fun st => bn (bn ((cE a).down st) (cCs r).down) fun b st₁ => some (.val (.bool b), st₁)⟩
  | .andor isAnd a r => ⟨fun st => bn ((cE a).down st) (cBO isAnd r).down⟩
  | .ite c a b => ⟨fun st => bn ((cB c).down st) fun x st₁ => match x with
    | true => (cE a).down st₁
    | false => (cE b).down st₁⟩
  | .sub a i => ⟨ev2 (cE a).down (cE i).down (subT g)⟩
  | .slc a lo hi => ⟨ev3 (cE a).down (cO lo).down (cO hi).down (sliceT g)⟩
  | .rev a => ⟨ev1 (cE a).down revT⟩
  | .list es => ⟨evN (cEs es).down listT⟩
  | .tup es => ⟨evN (cEs es).down tupT⟩
  | .dict0 => ⟨fun st => some (.new (.dict [] []), st)⟩
  | .dict1 k v => ⟨evD g (cE k).down (cE v).down⟩
  | .call f args => ⟨evCall F (cE f).down (cEs args).down⟩
  | .bi b args => ⟨evP (cEs args).down (biT g b)⟩
  | .meth m o args => ⟨evMeth g m (cE o).down (cEs args).down⟩
  | .repl o c z => ⟨ev1 (cE o).down (replT g c z)⟩
  | .comp tg iter ifs rest cap => ⟨evComp g tg (cE iter).down (cIf ifs).down (cG rest).down cap⟩
noncomputable def cO : Oe → PLift (Ev (Option Int))
  | .none => ⟨fun st => some (Option.none, st)⟩
  | .some e => ⟨evInt (cE e).down⟩
noncomputable def cEs : Es → PLift (Ev (List Op))
  | .nil => ⟨fun st => some ([], st)⟩
  | .cons e es => ⟨fun st => bn ((cE e).down st) fun x st₁ => bn ((cEs es).down st₁) fun xs st₂ => some (x.low :: xs, st₂)⟩
noncomputable def cCs : Cs → PLift (Op → Ev Bool)
  | .one op e => ⟨evLast g op (cE e).down⟩
  | .cons op e r => ⟨fun x => evLink g op (cE e).down x (cCs r).down⟩
noncomputable def cBO (isAnd : Bool) : Es → PLift (Op → Ev Op)
  | .nil => ⟨fun x st => ob (peek st x) fun t => ob (asBool t) fun b => some (.val (.bool b), st)⟩
  | .cons e r => ⟨fun x st => ob (peek st x) fun t => ob (asBool t) fun b => match b == isAnd with
    | true => bn ((cE e).down st) (cBO isAnd r).down
    | false => some (.val (.bool b), st)⟩
noncomputable def cB : E → PLift (Ev Bool)
  | .cmp a r => ⟨fun st => bn ((cE a).down st) (cCs r).down⟩
  | .andor isAnd a r => ⟨fun st => bn ((cB a).down st) fun b st₁ => goOn isAnd b (cBs isAnd r).down st₁⟩
  | .var x => ⟨fun st => bn (evVar x st) (doTruth g)⟩
  | .call f args => ⟨fun st => bn (evCall F (cE f).down (cEs args).down st) (doTruth g)⟩
  | .meth m o args => ⟨fun st => bn (evMeth g m (cE o).down (cEs args).down st) (doTruth g)⟩
  | _ => ⟨fun _ => Option.none⟩
noncomputable def cBs (isAnd : Bool) : Es → PLift (Ev Bool)
  | .nil => ⟨fun st => some (isAnd, st)⟩
  | .cons e r => ⟨fun st => bn ((cB e).down st) fun b st₁ => goOn isAnd b (cBs isAnd r).down st₁⟩
noncomputable def cIf : Es → PLift (St → Option Bool)
  | .nil => ⟨fun _ => some true⟩
  | .cons e .nil => ⟨fun st => bn ((cB e).down st) fun b _ => some b⟩
  | .cons _ (.cons _ _) => ⟨fun _ => Option.none⟩
noncomputable def cG : Gs → PLift (St → Option (List T))
  | .nil elt => ⟨fun st => bn ((cE elt).down st) fun x st₁ => bn (esc st₁ x) fun t _ => some [t]⟩
  | .cons tg iter ifs rest => ⟨evGc g tg (cE iter).down (cIf ifs).down (cG rest).down⟩
end
mutual
noncomputable def cS : S → PLift (Ev Fl)
  | .assign x e => ⟨fun st => bn ((cE g F G e).down st) (asg x)⟩
  | .assignTup xs es => ⟨fun st => bn ((cEs g F G es).down st) fun ops st₁ => bn (escs st₁ ops) fun ts st₂ => ob (setAll st₂ xs ts) fun st₃ => some (.next, st₃)⟩
  | .assignNew x y => ⟨fun st => some (.next, (st.set x (.list []) true).set y (.list []) true)⟩
  | .setItem x i e => ⟨evSet g x (cE g F G i).down (cE g F G e).down⟩
  | .aug x o e => ⟨evAug g x o (cE g F G e).down⟩
  | .augc x o e => ⟨evAugc g x o (cE g F G e).down⟩
  | .augItem x i e => ⟨evAugI x (cE g F G i).down (cE g F G e).down⟩
  | .expr e => ⟨fun st => bn ((cE g F G e).down st) fun _ st₁ => some (.next, st₁)⟩
  | .iff c a b => ⟨evIff (cB g F G c).down (cSs a).down (cSs b).down⟩
  | .whil n c b => ⟨evWhile (cB g F G c).down (cSs b).down n⟩
  | .for x it b => ⟨evForE g x (cE g F G it).down (cSs b).down⟩
  | .ret e => ⟨fun st => bn ((cE g F G e).down st) fun o st₁ => bn (esc st₁ o) fun t st₂ => some (.ret t, st₂)⟩
  | .del x i => ⟨evDel x (cE g F G i).down⟩
  | .asrt e => ⟨fun st => bn ((cB g F G e).down st) fun b st₁ => gt b (some (.next, st₁))⟩
  | .tri b => ⟨(cSs b).down⟩
noncomputable def cSs : Ss → PLift (Ev Fl)
  | .nil => ⟨fun st => some (.next, st)⟩
  | .cons s r => ⟨fun st => thn ((cS s).down st) (cSs r).down⟩
end
noncomputable def runC (ps : List Nat) (body : Ss) (ts : List T) : Option T := ob (setAll [] ps ts) fun st => bn ((cSs g F G body).down st) fun f _ => match f with
  | .ret t => some t
  | .next => Option.none
end
noncomputable def F1c : Nat → FTab
  | 0 => fun _ => none
  | n + 1 => fun g => match Nat.beq g 0 with
    | true => some gstr
    | false => match Nat.beq g 1 with
      | true => some gell
      | false => match Nat.beq g 9 with
        | true => some gways
        | false => ob (bodies g) fun q => some (runC gA (F1c n) constG q.1 q.2)
theorem e1 {α γ : Type} (f : α → γ) {a b : α} (h : a = b) : f a = f b := congrArg f h
theorem e2 {α β γ : Type} (f : α → β → γ) {a b : α} {c d : β} (h : a = b) (k : c = d) : f a c = f b d := by cases h; cases k; rfl
theorem e3 {α β δ γ : Type} (f : α → β → δ → γ) {a b : α} {c d : β} {i j : δ} (h : a = b) (k : c = d) (l : i = j) : f a c i = f b d j := by cases h; cases k; cases l; rfl
section
variable (g : Gd) (F : FTab) (G : Nat → Option T)
mutual
theorem cE_eq : ∀ (e : E) (st : St), (cE g F G e).down st = evE g F G e st
  | .int _, _ => rfl
  | .str _, _ => rfl
  | .bool _, _ => rfl
  | .var _, _ => rfl
  | .glob _, _ => rfl
  | .neg _, _ => rfl
  | .bin o a b, st => e2 (fun p q => ev2 p q (binT g o) st) (funext (cE_eq a)) (funext (cE_eq b))
  | .cmp a r, st => e2 (fun (p : Ev Op) (q : Op → Ev Bool) => bn (bn (p st) q) fun b st₁ => some (Op.val (.bool b), st₁)) (funext (cE_eq a)) (funext fun x => funext (cCs_eq r x))
  | .andor isAnd a r, st => e2 (fun (p : Ev Op) (q : Op → Ev Op) => bn (p st) q) (funext (cE_eq a)) (funext fun x => funext (cBO_eq isAnd r x))
  | .ite c a b, st => e3 (fun (c : Ev Bool) (p q : Ev Op) => bn (c st) fun x st₁ => match x with
    | true => p st₁
    | false => q st₁) (funext (cB_eq c)) (funext (cE_eq a)) (funext (cE_eq b))
  | .sub a i, st => e2 (fun p q => ev2 p q (subT g) st) (funext (cE_eq a)) (funext (cE_eq i))
  | .slc a lo hi, st => e3 (fun p q r => ev3 p q r (sliceT g) st) (funext (cE_eq a)) (funext (cO_eq lo)) (funext (cO_eq hi))
  | .rev a, st => e1 (fun p => ev1 p revT st) (funext (cE_eq a))
  | .list es, st => e1 (fun p => evN p listT st) (funext (cEs_eq es))
  | .tup es, st => e1 (fun p => evN p tupT st) (funext (cEs_eq es))
  | .dict0, _ => rfl
  | .dict1 k v, st => e2 (fun p q => evD g p q st) (funext (cE_eq k)) (funext (cE_eq v))
  | .call f args, st => e2 (fun p q => evCall F p q st) (funext (cE_eq f)) (funext (cEs_eq args))
  | .bi b args, st => e1 (fun p => evP p (biT g b) st) (funext (cEs_eq args))
  | .meth m o args, st => e2 (fun p q => evMeth g m p q st) (funext (cE_eq o)) (funext (cEs_eq args))
  | .repl o c z, st => e1 (fun p => ev1 p (replT g c z) st) (funext (cE_eq o))
  | .comp tg iter ifs rest cap, st => e3 (fun p q r => evComp g tg p q r cap st) (funext (cE_eq iter)) (funext (cIf_eq ifs)) (funext (cG_eq rest))
theorem cO_eq : ∀ (e : Oe) (st : St), (cO g F G e).down st = evO g F G e st
  | .none, _ => rfl
  | .some e, st => e1 (fun p => evInt p st) (funext (cE_eq e))
theorem cEs_eq : ∀ (e : Es) (st : St), (cEs g F G e).down st = evEs g F G e st
  | .nil, _ => rfl
  | .cons e es, st => e2 (fun (p : Ev Op) (q : Ev (List Op)) => bn (p st) fun x st₁ => bn (q st₁) fun xs st₂ => some (x.low :: xs, st₂)) (funext (cE_eq e)) (funext (cEs_eq es))
theorem cCs_eq : ∀ (e : Cs) (x : Op) (st : St), (cCs g F G e).down x st = evCs g F G e x st
  | .one op e, x, st => e1 (fun p => evLast g op p x st) (funext (cE_eq e))
  | .cons op e r, x, st => e2 (fun p q => evLink g op p x q st) (funext (cE_eq e)) (funext fun x => funext (cCs_eq r x))
theorem cBO_eq (isAnd : Bool) : ∀ (e : Es) (x : Op) (st : St), (cBO g F G isAnd e).down x st = evBO g F G isAnd e x st
  | .nil, _, _ => rfl
  | .cons e r, x, st => e2 (fun (p : Ev Op) (q : Op → Ev Op) => ob (peek st x) fun t => ob (asBool t) fun b => match b == isAnd with
    | true => bn (p st) q
    | false => some (Op.val (.bool b), st)) (funext (cE_eq e)) (funext fun x => funext (cBO_eq isAnd r x))
theorem cB_eq : ∀ (e : E) (st : St), (cB g F G e).down st = evB g F G e st
  | .cmp a r, st => e2 (fun (p : Ev Op) (q : Op → Ev Bool) => bn (p st) q) (funext (cE_eq a)) (funext fun x => funext (cCs_eq r x))
  | .andor isAnd a r, st => e2 (fun (p q : Ev Bool) => bn (p st) fun b st₁ => goOn isAnd b q st₁) (funext (cB_eq a)) (funext (cBs_eq isAnd r))
  | .var _, _ => rfl
  | .call f args, st => e2 (fun p q => bn (evCall F p q st) (doTruth g)) (funext (cE_eq f)) (funext (cEs_eq args))
  | .meth m o args, st => e2 (fun p q => bn (evMeth g m p q st) (doTruth g)) (funext (cE_eq o)) (funext (cEs_eq args))
  | .int _, _ => rfl
  | .str _, _ => rfl
  | .bool _, _ => rfl
  | .glob _, _ => rfl
  | .neg _, _ => rfl
  | .bin _ _ _, _ => rfl
  | .ite _ _ _, _ => rfl
  | .sub _ _, _ => rfl
  | .slc _ _ _, _ => rfl
  | .rev _, _ => rfl
  | .list _, _ => rfl
  | .tup _, _ => rfl
  | .dict0, _ => rfl
  | .dict1 _ _, _ => rfl
  | .bi _ _, _ => rfl
  | .repl _ _ _, _ => rfl
  | .comp _ _ _ _ _, _ => rfl
theorem cBs_eq (isAnd : Bool) : ∀ (e : Es) (st : St), (cBs g F G isAnd e).down st = evBs g F G isAnd e st
  | .nil, _ => rfl
  | .cons e r, st => e2 (fun (p q : Ev Bool) => bn (p st) fun b st₁ => goOn isAnd b q st₁) (funext (cB_eq e)) (funext (cBs_eq isAnd r))
theorem cIf_eq : ∀ (e : Es) (st : St), (cIf g F G e).down st = evIf g F G e st
  | .nil, _ => rfl
  | .cons e .nil, st => e1 (fun (p : Ev Bool) => bn (p st) fun b _ => some b) (funext (cB_eq e))
  | .cons _ (.cons _ _), _ => rfl
theorem cG_eq : ∀ (e : Gs) (st : St), (cG g F G e).down st = evG g F G e st
  | .nil elt, st => e1 (fun (p : Ev Op) => bn (p st) fun x st₁ => bn (esc st₁ x) fun t _ => some [t]) (funext (cE_eq elt))
  | .cons tg iter ifs rest, st => e3 (fun p q r => evGc g tg p q r st) (funext (cE_eq iter)) (funext (cIf_eq ifs)) (funext (cG_eq rest))
end
mutual
theorem cS_eq : ∀ (e : S) (st : St), (cS g F G e).down st = evS g F G e st
  | .assign x e, st => e1 (fun (p : Ev Op) => bn (p st) (asg x)) (funext (cE_eq g F G e))
  | .assignTup xs es, st => e1 (fun (p : Ev (List Op)) => bn (p st) fun ops st₁ => bn (escs st₁ ops) fun ts st₂ => ob (setAll st₂ xs ts) fun st₃ => some (Fl.next, st₃)) (funext (cEs_eq g F G es))
  | .assignNew _ _, _ => rfl
  | .setItem x i e, st => e2 (fun p q => evSet g x p q st) (funext (cE_eq g F G i)) (funext (cE_eq g F G e))
  | .aug x o e, st => e1 (fun p => evAug g x o p st) (funext (cE_eq g F G e))
  | .augc x o e, st => e1 (fun p => evAugc g x o p st) (funext (cE_eq g F G e))
  | .augItem x i e, st => e2 (fun p q => evAugI x p q st) (funext (cE_eq g F G i)) (funext (cE_eq g F G e))
  | .expr e, st => e1 (fun (p : Ev Op) => bn (p st) fun _ st₁ => some (Fl.next, st₁)) (funext (cE_eq g F G e))
  | .iff c a b, st => e3 (fun p q r => evIff p q r st) (funext (cB_eq g F G c)) (funext (cSs_eq a)) (funext (cSs_eq b))
  | .whil n c b, st => e2 (fun p q => evWhile p q n st) (funext (cB_eq g F G c)) (funext (cSs_eq b))
  | .for x it b, st => e2 (fun p q => evForE g x p q st) (funext (cE_eq g F G it)) (funext (cSs_eq b))
  | .ret e, st => e1 (fun (p : Ev Op) => bn (p st) fun o st₁ => bn (esc st₁ o) fun t st₂ => some (Fl.ret t, st₂)) (funext (cE_eq g F G e))
  | .del x i, st => e1 (fun p => evDel x p st) (funext (cE_eq g F G i))
  | .asrt e, st => e1 (fun (p : Ev Bool) => bn (p st) fun b st₁ => gt b (some (Fl.next, st₁))) (funext (cB_eq g F G e))
  | .tri b, st => cSs_eq b st
theorem cSs_eq : ∀ (e : Ss) (st : St), (cSs g F G e).down st = evSs g F G e st
  | .nil, _ => rfl
  | .cons s r, st => e2 (fun (p q : Ev Fl) => thn (p st) q) (funext (cS_eq s)) (funext (cSs_eq r))
end
theorem runC_eq : runC g F G = runF g F G := funext fun ps => funext fun body => funext fun ts => e1 (fun (p : Ev Fl) => ob (setAll [] ps ts) fun st => bn (p st) fun f _ => match f with
  | .ret t => some t
  | .next => Option.none) (funext (cSs_eq g F G body))
end
theorem F1c_eq : ∀ n, F1c n = F1 n
  | 0 => rfl
  | n + 1 => by unfold F1c F1; rw [runC_eq, F1c_eq n]; try rfl
theorem cSs_is (b : Ss) (st : St) : (cSs gA (F1c 2) constG b).down st = evSs gA (F1 2) constG b st := by rw [cSs_eq, F1c_eq]
noncomputable def absC (a27 a28 a31 a75 a73 a72 a74 a29 : T) (l : List Nat) : Option Bool := bn ((cSs gA (F1c 2) constG (ssTake 3 (ssDrop 11 b_law))).down (st0 a27 a28 a31 a75 a73 a72 a74 a29 l)) fun f st => match f with
  | .next => gt (okMid l st) (retB ((cSs gA (F1c 2) constG (ssDrop 15 b_law)).down st))
  | .ret _ => none
noncomputable def absCK (a27 a28 a31 a75 a73 a72 a74 a29 : T) (l : List Nat) : Bool := match absC a27 a28 a31 a75 a73 a72 a74 a29 l with
  | some b => b
  | none => false
theorem absCK_eq (a27 a28 a31 a75 a73 a72 a74 a29 : T) (l : List Nat) : absCK a27 a28 a31 a75 a73 a72 a74 a29 l = absOK a27 a28 a31 a75 a73 a72 a74 a29 l := by
  have : absC a27 a28 a31 a75 a73 a72 a74 a29 l = absO a27 a28 a31 a75 a73 a72 a74 a29 l := by
    unfold absC absO
    rw [cSs_is]
    exact congrArg (bn _) (funext fun f => funext fun st => by cases f with
      | next => exact congrArg (fun o => gt (okMid l st) (retB o)) (cSs_is _ _)
      | ret _ => rfl)
  unfold absCK absOK
  rw [this]
  try rfl
end MP
end

section -- MpTab
open PySem PyProof.Rows
namespace MP
noncomputable def freshB : List Nat → Bool
  | [] => true
  | a :: r => r.all (fun b => !Nat.beq a b) && freshB r
noncomputable def tabE (a27 a28 a31 a75 a73 a72 a74 a29 : T) (l : List Nat) : Bool := match freshB l with
  | true => absCK a27 a28 a31 a75 a73 a72 a74 a29 l
  | false => true
noncomputable def r5 : List Nat := [0, 1, 2, 3, 4]
noncomputable def tabB (a27 a28 a31 a75 a73 a72 a74 a29 : T) (a b : Nat) : Bool := r5.all fun c => r5.all fun d => r5.all fun e => tabE a27 a28 a31 a75 a73 a72 a74 a29 [a, b, c, d, e]
section
variable (a27 a28 a31 a75 a73 a72 a74 a29 : T)
set_option maxRecDepth 100000
theorem tab_0_1 : tabB a27 a28 a31 a75 a73 a72 a74 a29 0 1 = true := by kernel_rfl
theorem tab_0_2 : tabB a27 a28 a31 a75 a73 a72 a74 a29 0 2 = true := by kernel_rfl
theorem tab_0_3 : tabB a27 a28 a31 a75 a73 a72 a74 a29 0 3 = true := by kernel_rfl
theorem tab_0_4 : tabB a27 a28 a31 a75 a73 a72 a74 a29 0 4 = true := by kernel_rfl
theorem tab_1_0 : tabB a27 a28 a31 a75 a73 a72 a74 a29 1 0 = true := by kernel_rfl
theorem tab_1_2 : tabB a27 a28 a31 a75 a73 a72 a74 a29 1 2 = true := by kernel_rfl
theorem tab_1_3 : tabB a27 a28 a31 a75 a73 a72 a74 a29 1 3 = true := by kernel_rfl
theorem tab_1_4 : tabB a27 a28 a31 a75 a73 a72 a74 a29 1 4 = true := by kernel_rfl
theorem tab_2_0 : tabB a27 a28 a31 a75 a73 a72 a74 a29 2 0 = true := by kernel_rfl
theorem tab_2_1 : tabB a27 a28 a31 a75 a73 a72 a74 a29 2 1 = true := by kernel_rfl
theorem tab_2_3 : tabB a27 a28 a31 a75 a73 a72 a74 a29 2 3 = true := by kernel_rfl
theorem tab_2_4 : tabB a27 a28 a31 a75 a73 a72 a74 a29 2 4 = true := by kernel_rfl
theorem tab_3_0 : tabB a27 a28 a31 a75 a73 a72 a74 a29 3 0 = true := by kernel_rfl
theorem tab_3_1 : tabB a27 a28 a31 a75 a73 a72 a74 a29 3 1 = true := by kernel_rfl
theorem tab_3_2 : tabB a27 a28 a31 a75 a73 a72 a74 a29 3 2 = true := by kernel_rfl
theorem tab_3_4 : tabB a27 a28 a31 a75 a73 a72 a74 a29 3 4 = true := by kernel_rfl
theorem tab_4_0 : tabB a27 a28 a31 a75 a73 a72 a74 a29 4 0 = true := by kernel_rfl
theorem tab_4_1 : tabB a27 a28 a31 a75 a73 a72 a74 a29 4 1 = true := by kernel_rfl
theorem tab_4_2 : tabB a27 a28 a31 a75 a73 a72 a74 a29 4 2 = true := by kernel_rfl
theorem tab_4_3 : tabB a27 a28 a31 a75 a73 a72 a74 a29 4 3 = true := by kernel_rfl
theorem tab_same (a c d e : Nat) : tabE a27 a28 a31 a75 a73 a72 a74 a29 [a, a, c, d, e] = true := by
  have : freshB [a, a, c, d, e] = false := by simp [freshB]
  unfold tabE
  rw [this]
theorem tabB_all {a b c d e : Nat} (h : tabB a27 a28 a31 a75 a73 a72 a74 a29 a b = true) (hc : c < 5) (hd : d < 5) (he : e < 5) : tabE a27 a28 a31 a75 a73 a72 a74 a29 [a, b, c, d, e] = true := by
  have m : ∀ {x : Nat}, x < 5 → x ∈ r5 := fun {x} hx => by
    have : x = 0 ∨ x = 1 ∨ x = 2 ∨ x = 3 ∨ x = 4 := by omega
    rcases this with rfl | rfl | rfl | rfl | rfl <;> simp [r5]
  exact all_mem (all_mem (all_mem h (m hc)) (m hd)) (m he)
theorem freshB_of : ∀ {l : List Nat}, l.Nodup → freshB l = true
  | [], _ => rfl
  | a :: r, h => by
    rw [List.nodup_cons] at h
    rw [freshB, Bool.and_eq_true, List.all_eq_true]
    refine ⟨fun b hb => ?_, freshB_of h.2⟩
    have : Nat.beq a b = false := by
      cases q : Nat.beq a b with
      | true => exact absurd (Nat.eq_of_beq_eq_true q ▸ hb) h.1
      | false => rfl
    rw [this]; rfl
theorem table (l : List Nat) (hl : l.length = 5) (hb : ∀ x ∈ l, x < 5) (hn : l.Nodup) : absOK a27 a28 a31 a75 a73 a72 a74 a29 l = true := by
  match l, hl with
  | [a, b, c, d, e], _ =>
    have ha := hb a (by simp)
    have hb' := hb b (by simp)
    have hc := hb c (by simp)
    have hd := hb d (by simp)
    have he := hb e (by simp)
    have key : tabE a27 a28 a31 a75 a73 a72 a74 a29 [a, b, c, d, e] = true := by
      have ea : a = 0 ∨ a = 1 ∨ a = 2 ∨ a = 3 ∨ a = 4 := by omega
      have eb : b = 0 ∨ b = 1 ∨ b = 2 ∨ b = 3 ∨ b = 4 := by omega
      rcases ea with rfl | rfl | rfl | rfl | rfl <;> rcases eb with rfl | rfl | rfl | rfl | rfl
      · exact tab_same a27 a28 a31 a75 a73 a72 a74 a29 0 c d e
      · exact tabB_all a27 a28 a31 a75 a73 a72 a74 a29 (tab_0_1 a27 a28 a31 a75 a73 a72 a74 a29) hc hd he
      · exact tabB_all a27 a28 a31 a75 a73 a72 a74 a29 (tab_0_2 a27 a28 a31 a75 a73 a72 a74 a29) hc hd he
      · exact tabB_all a27 a28 a31 a75 a73 a72 a74 a29 (tab_0_3 a27 a28 a31 a75 a73 a72 a74 a29) hc hd he
      · exact tabB_all a27 a28 a31 a75 a73 a72 a74 a29 (tab_0_4 a27 a28 a31 a75 a73 a72 a74 a29) hc hd he
      · exact tabB_all a27 a28 a31 a75 a73 a72 a74 a29 (tab_1_0 a27 a28 a31 a75 a73 a72 a74 a29) hc hd he
      · exact tab_same a27 a28 a31 a75 a73 a72 a74 a29 1 c d e
      · exact tabB_all a27 a28 a31 a75 a73 a72 a74 a29 (tab_1_2 a27 a28 a31 a75 a73 a72 a74 a29) hc hd he
      · exact tabB_all a27 a28 a31 a75 a73 a72 a74 a29 (tab_1_3 a27 a28 a31 a75 a73 a72 a74 a29) hc hd he
      · exact tabB_all a27 a28 a31 a75 a73 a72 a74 a29 (tab_1_4 a27 a28 a31 a75 a73 a72 a74 a29) hc hd he
      · exact tabB_all a27 a28 a31 a75 a73 a72 a74 a29 (tab_2_0 a27 a28 a31 a75 a73 a72 a74 a29) hc hd he
      · exact tabB_all a27 a28 a31 a75 a73 a72 a74 a29 (tab_2_1 a27 a28 a31 a75 a73 a72 a74 a29) hc hd he
      · exact tab_same a27 a28 a31 a75 a73 a72 a74 a29 2 c d e
      · exact tabB_all a27 a28 a31 a75 a73 a72 a74 a29 (tab_2_3 a27 a28 a31 a75 a73 a72 a74 a29) hc hd he
      · exact tabB_all a27 a28 a31 a75 a73 a72 a74 a29 (tab_2_4 a27 a28 a31 a75 a73 a72 a74 a29) hc hd he
      · exact tabB_all a27 a28 a31 a75 a73 a72 a74 a29 (tab_3_0 a27 a28 a31 a75 a73 a72 a74 a29) hc hd he
      · exact tabB_all a27 a28 a31 a75 a73 a72 a74 a29 (tab_3_1 a27 a28 a31 a75 a73 a72 a74 a29) hc hd he
      · exact tabB_all a27 a28 a31 a75 a73 a72 a74 a29 (tab_3_2 a27 a28 a31 a75 a73 a72 a74 a29) hc hd he
      · exact tab_same a27 a28 a31 a75 a73 a72 a74 a29 3 c d e
      · exact tabB_all a27 a28 a31 a75 a73 a72 a74 a29 (tab_3_4 a27 a28 a31 a75 a73 a72 a74 a29) hc hd he
      · exact tabB_all a27 a28 a31 a75 a73 a72 a74 a29 (tab_4_0 a27 a28 a31 a75 a73 a72 a74 a29) hc hd he
      · exact tabB_all a27 a28 a31 a75 a73 a72 a74 a29 (tab_4_1 a27 a28 a31 a75 a73 a72 a74 a29) hc hd he
      · exact tabB_all a27 a28 a31 a75 a73 a72 a74 a29 (tab_4_2 a27 a28 a31 a75 a73 a72 a74 a29) hc hd he
      · exact tabB_all a27 a28 a31 a75 a73 a72 a74 a29 (tab_4_3 a27 a28 a31 a75 a73 a72 a74 a29) hc hd he
      · exact tab_same a27 a28 a31 a75 a73 a72 a74 a29 4 c d e
    unfold tabE at key
    rw [freshB_of hn] at key
    exact (absCK_eq a27 a28 a31 a75 a73 a72 a74 a29 [a, b, c, d, e]).symm.trans key
end
theorem plain (ns : List Int) (h : ns.length ≤ 63) : ∃ fP, FF 3 16 = some fP ∧ fP [.list (ns.map .int)] = some (.bool true) := plain_of table ns h
end MP
end

open PySem PySem.W PyProof.Rows PySem.W.X PySem.W.ZRun
namespace MP
/-- the program's statements that the law's run looks at: all but the four that name the modules -/
noncomputable def keepL : List Nat := [1, 3, 4, 6, 7, 8, 9, 10, 11, 13, 14, 15, 16, 17, 18, 19, 20, 21, 22]
noncomputable def viewQ : Program := { PySem.Challenge.pw_xp0016_01 with main := { PySem.Challenge.pw_xp0016_01.main with body := keepL.filterMap fun i => PySem.Challenge.pw_xp0016_01.main.body[i]? } }
noncomputable def obsT (s : Shared) : Bool := Nat.ble 1 s.toks
theorem obsT_toks {s : Shared} (h : obsT s = true) : 1 ≤ s.toks := Nat.le_of_ble_eq_true h
theorem good_true {c : ClaimW} {cl : Str → Option Addr} {mean : ExcName → Option Value} {args : List WData} {s₁ s' : Shared} (hr : ∀ cls, c.raises args cls = false) (hp : c.post args (.bool true) args = true) (g : MP.Grown s₁.heap s'.heap) (al : MP.Alike s₁ s') (hg : s₁.gens = #[]) :
    GoodWG c cl mean args s₁ (.ok (.ret (.bool true))) s' :=
  ⟨.inl ⟨_, .bool true, [], rfl, hr, .bool true, hp, fun _ => ⟨List.nodup_nil, fun _ h => nomatch h⟩⟩, .of_keep g.keep, al.os, .of_eq (al.gens.trans hg)⟩
end MP
set_option maxRecDepth 100000 in
set_option maxHeartbeats 8000000 in
theorem MP.said : OpenLaw.wellSaid PySem.Challenge.rw_xp0016_01 = true := by decide +kernel
set_option maxRecDepth 100000 in
set_option maxHeartbeats 8000000 in
/-- the top's run, at once, by the kernel -/
theorem MP.left : LeftO PySem.Challenge.rw_xp0016_01.row.prog MP.viewQ [] (fun s => xlAt MP.viewQ [] s && PySem.W.recOk (RowW.records PySem.Challenge.rw_xp0016_01.row.toRowW) s) MP.obsT (fun _ => true) 1264 := by
  intro w
  kernel_rfl
set_option maxRecDepth 100000 in
set_option maxHeartbeats 8000000 in
theorem MP.topOK : MP.TopOK MP.viewQ [] := ⟨by decide +kernel, by unfold MP.bodyEq; kernel_rfl, by unfold MP.bindEq; intro pm code doc v w; kernel_rfl⟩
set_option maxRecDepth 100000 in
set_option maxHeartbeats 8000000 in
theorem PySem.Challenge.cw_xp0016_01_holds : PySem.Challenge.rw_xp0016_01.Holds := by
  refine holds_law MP.said fun hsaid => ?_
  refine holds_openX (q := MP.viewQ) (loose := []) (Xt := fun s => xlAt MP.viewQ [] s && PySem.W.recOk (RowW.records PySem.Challenge.rw_xp0016_01.row.toRowW) s) (XP := XL MP.viewQ []) (Yf := MP.obsT) (Ya := fun _ => true) (N := 1264) MP.left (fun s e => xl_of s (Bool.and_eq_true_iff.mp e).1) XL.keeps (by rfl) (by rfl) (by rfl) (fun s e => recFacts_of (Bool.and_eq_true_iff.mp e).2) (by rfl) hsaid (by decide +kernel) ⟨rfl, rfl, rfl, rfl, rfl, by decide +kernel⟩ ?hw ?hc
  case hw => exact ⟨[.list []], by decide +kernel, by decide +kernel⟩
  intro w s₀ s₁ mg mb G y fa o pm cd doc dV kV ho hd hcd hD hmg hg args vals as L hpre hlay hrd hwl hlo
  refine Ground.open G ?_
  intro T B D TE TW
  wrow_args hpre hlay hrd hwl hlo
  have htk := Nat.le_trans (MP.obsT_toks y) (script_toks L rfl)
  rename List Int => ns
  rename Heap.IsList _ _ _ => hL
  rename IntsAre _ _ => hI
  obtain ⟨fP, hf, hplain⟩ := MP.plain ns (by omega)
  refine MP.law_go T MP.topOK hmg (script_obj L hL) hI htk hf hplain fun s' g al => MP.good_true ?_ ?_ g al hg
  · intro cls; rfl
  · wrow_post
