import PyProof.Rows.All
import Wide.All
import OpenK.AllK
import Wide.FinOn
import PySem.Challenge.RW_dn0187_03
set_option Elab.async false
set_option genSizeOfSpec false
set_option linter.all false

noncomputable section
open PySem
namespace Mine

/-- what a variable of the text holds -/
inductive D where
  | py (d : PyData)
  | ws (fs : List PyData)
  | rng (a b c : Int)

inductive Op where
  | add | sub | mul | fdiv | mod
  deriving DecidableEq
inductive Cm where
  | eq | ne | lt | le | gt | ge | isNot | inn | notIn
  deriving DecidableEq
inductive Fn where
  | len | sum | max | min | abs | divmod | sorted | tuple | range
  deriving DecidableEq
inductive Mt where
  | join | rstrip | lstrip | count
  deriving DecidableEq

mutual
inductive Ex where
  | int (i : Int)
  | str (s : Str)
  | bool (b : Bool)
  | var (i : Nat)
  | own (i : Nat)
  | bin (op : Op) (a b : Ex)
  | neg (a : Ex)
  | not (a : Ex)
  | cmp (op : Cm) (a b : Ex)
  | and (a b : Ex)
  | or (a b : Ex)
  | list (es : Exs)
  | tup (es : Exs)
  | comp (i : Nat) (it elt : Ex)
  | compIf (i : Nat) (it c elt : Ex)
  | idx (a b : Ex)
  | slLo (a lo : Ex)
  | slHi (a hi : Ex)
  | slBoth (a lo hi : Ex)
  | rev (a : Ex)
  | attr (a : Ex) (f : Nat)
  | fn (k : Fn) (es : Exs)
  | mt (k : Mt) (a : Ex) (es : Exs)
  | call (k : Nat) (es : Exs)
  | meth (k : Nat) (a : Ex) (es : Exs)
  | atom (k : Nat)
inductive Exs where
  | nil
  | cons (e : Ex) (es : Exs)
end

mutual
inductive St where
  | set (i : Nat) (e : Ex)
  | setO (i : Nat) (e : Ex)
  | set3 (i j k : Nat) (e : Ex)
  | unp (i j : Nat) (e : Ex)
  | put (i : Nat) (a e : Ex)
  | aug (i : Nat) (a : Ex) (op : Op) (e : Ex)
  | app (i : Nat) (e : Ex)
  | pop (i : Nat)
  | setF (i : Nat) (f : Nat) (e : Ex)
  | ite (c : Ex) (a b : Sts)
  | for1 (i : Nat) (it : Ex) (b : Sts)
  | forO2 (i j k : Nat) (b : Sts)
  | whl (n : Nat) (c : Ex) (b : Sts)
  | ret (e : Ex)
  | brk
inductive Sts where
  | nil
  | cons (s : St) (ss : Sts)
end

noncomputable abbrev Loc := Nat → Option D
noncomputable def upd (ρ : Loc) (i : Nat) (d : Option D) : Loc := fun j => if j = i then d else ρ j

/-- a bound on texts and lists -/
noncomputable abbrev lim : Nat := 2 ^ 20

noncomputable def sliceL {α : Type} (xs : List α) (lo hi : Option Int) : List α :=
  (xs.drop (lo.elim 0 (clipAt xs.length))).take (hi.elim xs.length (clipAt xs.length) - lo.elim 0 (clipAt xs.length))
noncomputable def idxL {α : Type} (xs : List α) (i : Int) : Option α :=
  if 0 ≤ i then (if i < 2 ^ 63 then xs[i.toNat]? else none) else if -(xs.length : Int) ≤ i ∧ -(2 ^ 63) ≤ i then xs[(i + xs.length).toNat]? else none

noncomputable def txt (l : List Nat) : Str := ⟨l.toArray⟩
noncomputable def repStr (x : Str) (n : Int) : Str := txt (List.replicate n.toNat x.cps.toList).flatten

noncomputable def intsOf : List PyData → Option (List Int)
  | [] => some []
  | .int i :: r => (intsOf r).map (i :: ·)
  | _ :: _ => none
noncomputable def strsOf : List PyData → Option (List Str)
  | [] => some []
  | .str x :: r => (strsOf r).map (x :: ·)
  | _ :: _ => none

noncomputable def binSem : Op → PyData → PyData → Option PyData
  | .add, .int a, .int b => some (.int (a + b))
  | .add, .str x, .str y => if x.length + y.length ≤ lim then some (.str (x ++ y)) else none
  | .add, .list xs, .list ys => if xs.length + ys.length ≤ lim then some (.list (xs ++ ys)) else none
  | .sub, .int a, .int b => some (.int (a - b))
  | .mul, .int a, .int b => if a.natAbs < 2 ^ 64 ∨ b.natAbs < 2 ^ 64 then some (.int (a * b)) else none
  | .mul, .str x, .int n => if n < 2 ^ 62 ∧ -(2 ^ 62) < n ∧ x.length * n.toNat ≤ lim then some (.str (repStr x n)) else none
  | .mul, .list xs, .int n => if n < 2 ^ 62 ∧ -(2 ^ 62) < n ∧ xs.length * n.toNat ≤ lim then some (.list (List.replicate n.toNat xs).flatten) else none
  | .fdiv, .int a, .int b => if b ≠ 0 ∧ Builtin.divisionGoesByPylong a b = false then some (.int (a.fdiv b)) else none
  | .mod, .int a, .int b => if b ≠ 0 then some (.int (a.fmod b)) else none
  | _, _, _ => none

noncomputable def eqOk (d : PyData) : Bool := d.canLay0 && decide (d.depth ≤ 64)

noncomputable def cmpSem : Cm → PyData → PyData → Option Bool
  | .eq, d, e => if eqOk d && eqOk e then some (PyData.eqv d e) else none
  | .ne, d, e => if eqOk d && eqOk e then some (!PyData.eqv d e) else none
  | .lt, .int a, .int b => some (decide (a < b))
  | .le, .int a, .int b => some (decide (a ≤ b))
  | .gt, .int a, .int b => some (decide (a > b))
  | .ge, .int a, .int b => some (decide (a ≥ b))
  | .isNot, .bool a, .bool b => some (a != b)
  | .inn, .str y, .str x => some (!(Builtin.Str.occurrences x y 0 x.length 1).isEmpty)
  | .notIn, .str y, .str x => some (Builtin.Str.occurrences x y 0 x.length 1).isEmpty
  | _, _, _ => none

noncomputable def rangeL (a b c : Int) : List Int := (List.range (Builtin.Range.rangeSize a b c).toNat).map fun (k : Nat) => a + k * c

noncomputable def itemsOf : D → Option (List PyData)
  | .py (.list xs) => some xs
  | .py (.tuple xs) => some xs
  | .py (.str x) => some (x.cps.toList.map fun c => .str ⟨#[c]⟩)
  | .rng a b c => some ((rangeL a b c).map .int)
  | _ => none

noncomputable def lenSem : List D → Option D
  | [.py (.list xs)] => if xs.length ≤ lim then some (.py (.int xs.length)) else none
  | [.py (.tuple xs)] => if xs.length ≤ lim then some (.py (.int xs.length)) else none
  | [.py (.str x)] => if x.length ≤ lim then some (.py (.int x.length)) else none
  | _ => none
noncomputable def sumSem : List D → Option D
  | [.py (.list xs)] => (intsOf xs).map fun ns => .py (.int ns.sum)
  | _ => none
noncomputable def maxSem : List D → Option D
  | [.py (.list xs)] => (intsOf xs).bind fun ns => ns.max?.map fun m => .py (.int m)
  | [.py (.int a), .py (.int b)] => some (.py (.int (max a b)))
  | _ => none
noncomputable def minSem : List D → Option D
  | [.py (.int a), .py (.int b)] => some (.py (.int (min a b)))
  | _ => none
noncomputable def absSem : List D → Option D
  | [.py (.int a)] => some (.py (.int a.natAbs))
  | _ => none
noncomputable def divmodSem : List D → Option D
  | [.py (.int a), .py (.int b)] => if b ≠ 0 ∧ Builtin.divisionGoesByPylong a b = false then some (.py (.tuple [.int (a.fdiv b), .int (a.fmod b)])) else none
  | _ => none
noncomputable def sortedSem : List D → Option D
  | [.py (.list xs)] => (intsOf xs).bind fun ns => if ns.length < 64 then some (.py (.list ((ns.mergeSort fun a b => decide (a ≤ b)).map .int))) else none
  | _ => none
noncomputable def tupleSem : List D → Option D
  | [.py (.list xs)] => if xs.length ≤ lim then some (.py (.tuple xs)) else none
  | _ => none
noncomputable def rangeSem : List D → Option D
  | [.py (.int b)] => if b.natAbs < 2 ^ 40 then some (.rng 0 b 1) else none
  | [.py (.int a), .py (.int b)] => if b.natAbs < 2 ^ 40 then some (.rng a b 1) else none
  | [.py (.int a), .py (.int b), .py (.int c)] => if a.natAbs < 2 ^ 40 ∧ b.natAbs < 2 ^ 40 ∧ c.natAbs < 2 ^ 40 ∧ c ≠ 0 then some (.rng a b c) else none
  | _ => none
noncomputable def fnSem : Fn → List D → Option D
  | .len => lenSem
  | .sum => sumSem
  | .max => maxSem
  | .min => minSem
  | .abs => absSem
  | .divmod => divmodSem
  | .sorted => sortedSem
  | .tuple => tupleSem
  | .range => rangeSem

noncomputable def mtSem : Mt → PyData → List PyData → Option PyData
  | .join, .str x, [.list ys] => (strsOf ys).bind fun ss => if (ss.map fun y => y.length + x.length).sum ≤ lim then some (.str (Str.join x ss)) else none
  | .rstrip, .str x, [.str y] => if x.length ≤ lim then some (.str (Txt.rstripChars x y)) else none
  | .lstrip, .str x, [.str y] => if x.length ≤ lim then some (.str (Txt.lstripChars x y)) else none
  | .count, .list xs, [.int k] => (intsOf xs).map fun ns => .int (ns.count k : Nat)
  | _, _, _ => none

noncomputable def allPy : List D → Option (List PyData)
  | [] => some []
  | .py d :: r => (allPy r).map (d :: ·)
  | _ :: _ => none

/-- the calls of the text's own -/
structure Calls where
  call : Nat → List D → Option D
  meth : Nat → D → List D → Option D
  atom : Nat → Option D

noncomputable def D.py? : D → Option PyData
  | .py d => some d
  | _ => none
noncomputable def D.bool? : D → Option Bool
  | .py (.bool b) => some b
  | _ => none
noncomputable def D.scalar? : D → Option PyData
  | .py (.int i) => some (.int i)
  | .py (.str x) => some (.str x)
  | .py (.bool b) => some (.bool b)
  | _ => none

noncomputable def compGo (f : D → Option D) : List PyData → Option (List PyData)
  | [] => some []
  | x :: r => (f (.py x)).bind fun d => d.scalar?.bind fun y => (compGo f r).map (y :: ·)
noncomputable def compIfGo (c f : D → Option D) : List PyData → Option (List PyData)
  | [] => some []
  | x :: r => (c (.py x)).bind fun t => t.bool?.bind fun b => if b then (f (.py x)).bind fun d => d.scalar?.bind fun y => (compIfGo c f r).map (y :: ·) else compIfGo c f r

noncomputable def idxSem : PyData → PyData → Option PyData
  | .list xs, .int i => idxL xs i
  | .tuple xs, .int i => idxL xs i
  | .str x, .int i => (idxL x.cps.toList i).map fun c => .str ⟨#[c]⟩
  | _, _ => none
noncomputable def sliceSem (d : PyData) (lo hi : Option Int) : Option PyData := match d with
  | .list xs => if xs.length ≤ lim then some (.list (sliceL xs lo hi)) else none
  | .str x => if x.length ≤ lim then some (.str (txt (sliceL x.cps.toList lo hi))) else none
  | _ => none
noncomputable def intOf : D → Option Int
  | .py (.int i) => some i
  | _ => none

noncomputable def isScalar : PyData → Bool
  | .int _ => true
  | .str _ => true
  | .bool _ => true
  | _ => false

mutual
noncomputable def ev (C : Calls) : Ex → Loc → Option D
  | .int i, _ => some (.py (.int i))
  | .str x, _ => some (.py (.str x))
  | .bool b, _ => some (.py (.bool b))
  | .var i, ρ => ρ i
  | .own i, ρ => ρ i
  | .bin op a b, ρ => (ev C a ρ).bind fun x => (ev C b ρ).bind fun y => x.py?.bind fun x => y.py?.bind fun y => (binSem op x y).map .py
  | .neg a, ρ => (ev C a ρ).bind fun x => (intOf x).map fun i => .py (.int (-i))
  | .not a, ρ => (ev C a ρ).bind fun x => x.bool?.map fun b => .py (.bool (!b))
  | .cmp op a b, ρ => (ev C a ρ).bind fun x => (ev C b ρ).bind fun y => x.py?.bind fun x => y.py?.bind fun y => (cmpSem op x y).map fun b => .py (.bool b)
  | .and a b, ρ => (ev C a ρ).bind fun x => x.bool?.bind fun t => if t then (ev C b ρ).bind fun y => y.bool?.map fun u => .py (.bool u) else some (.py (.bool false))
  | .or a b, ρ => (ev C a ρ).bind fun x => x.bool?.bind fun t => if t then some (.py (.bool true)) else (ev C b ρ).bind fun y => y.bool?.map fun u => .py (.bool u)
  | .list es, ρ => (evs C es ρ).bind fun ds => (allPy ds).map fun xs => .py (.list xs)
  | .tup es, ρ => (evs C es ρ).bind fun ds => (allPy ds).map fun xs => .py (.tuple xs)
  | .comp i it elt, ρ => (ev C it ρ).bind fun d => (itemsOf d).bind fun xs => if xs.length ≤ lim ∧ xs.all isScalar = true then (compGo (fun x => ev C elt (upd ρ i (some x))) xs).map fun ys => .py (.list ys) else none
  | .compIf i it c elt, ρ => (ev C it ρ).bind fun d => (itemsOf d).bind fun xs => if xs.length ≤ lim ∧ xs.all isScalar = true then (compIfGo (fun x => ev C c (upd ρ i (some x))) (fun x => ev C elt (upd ρ i (some x))) xs).map fun ys => .py (.list ys) else none
  | .idx a b, ρ => (ev C a ρ).bind fun x => (ev C b ρ).bind fun y => x.py?.bind fun x => y.py?.bind fun y => (idxSem x y).map .py
  | .slLo a l, ρ => (ev C a ρ).bind fun x => (ev C l ρ).bind fun y => x.py?.bind fun x => (intOf y).bind fun i => (sliceSem x (some i) none).map .py
  | .slHi a h, ρ => (ev C a ρ).bind fun x => (ev C h ρ).bind fun y => x.py?.bind fun x => (intOf y).bind fun j => (sliceSem x none (some j)).map .py
  | .slBoth a l h, ρ => (ev C a ρ).bind fun x => (ev C l ρ).bind fun y => (ev C h ρ).bind fun z => x.py?.bind fun x => (intOf y).bind fun i => (intOf z).bind fun j => (sliceSem x (some i) (some j)).map .py
  | .rev a, ρ => (ev C a ρ).bind fun x => match x with
    | .py (.str x) => if x.length ≤ lim then some (.py (.str (txt x.cps.toList.reverse))) else none
    | _ => none
  | .attr a f, ρ => (ev C a ρ).bind fun x => match x with
    | .ws fs => fs[f]?.map .py
    | _ => none
  | .fn k es, ρ => (evs C es ρ).bind fun ds => fnSem k ds
  | .mt k a es, ρ => (ev C a ρ).bind fun x => (evs C es ρ).bind fun ds => x.py?.bind fun x => (allPy ds).bind fun ys => (mtSem k x ys).map .py
  | .call k es, ρ => (evs C es ρ).bind fun ds => C.call k ds
  | .meth k a es, ρ => (ev C a ρ).bind fun x => (evs C es ρ).bind fun ds => C.meth k x ds
  | .atom k, _ => C.atom k
noncomputable def evs (C : Calls) : Exs → Loc → Option (List D)
  | .nil, _ => some []
  | .cons e es, ρ => (ev C e ρ).bind fun d => (evs C es ρ).map (d :: ·)
end

inductive Fl where
  | next | brk
  | ret (d : D)

noncomputable def loopF (f : Loc → Option (Fl × Loc)) (g : Loc → PyData → Option Loc) : List PyData → Loc → Option (Fl × Loc)
  | [], ρ => some (.next, ρ)
  | x :: r, ρ => (g ρ x).bind fun ρ₁ => (f ρ₁).bind fun p => match p.1 with
    | .next => loopF f g r p.2
    | .brk => some (.next, p.2)
    | .ret d => some (.ret d, p.2)
noncomputable def loopW (c : Loc → Option D) (f : Loc → Option (Fl × Loc)) : Nat → Loc → Option (Fl × Loc)
  | 0, _ => none
  | n + 1, ρ => (c ρ).bind fun t => t.bool?.bind fun b => if b then (f ρ).bind fun p => match p.1 with
      | .next => loopW c f n p.2
      | .brk => some (.next, p.2)
      | .ret d => some (.ret d, p.2)
    else some (.next, ρ)
noncomputable def bind1 (i : Nat) (ρ : Loc) (x : PyData) : Option Loc := some (upd ρ i (some (.py x)))
noncomputable def bind2 (i j : Nat) (ρ : Loc) (x : PyData) : Option Loc := match x with
  | .tuple [a, b] => some (upd (upd ρ i (some (.py a))) j (some (.py b)))
  | _ => none
noncomputable def setL (xs : List PyData) (i : Int) (d : PyData) : Option (List PyData) :=
  if 0 ≤ i ∧ i < xs.length ∧ i < 2 ^ 63 then some (xs.set i.toNat d) else none

mutual
noncomputable def ex (C : Calls) : St → Loc → Option (Fl × Loc)
  | .set i e, ρ => (ev C e ρ).map fun d => (.next, upd ρ i (some d))
  | .setO i e, ρ => (ev C e ρ).bind fun d => match d with
    | .py (.list xs) => some (.next, upd ρ i (some (.py (.list xs))))
    | _ => none
  | .set3 i j k e, ρ => (ev C e ρ).map fun d => (.next, upd (upd (upd ρ i (some d)) j (some d)) k (some d))
  | .unp i j e, ρ => (ev C e ρ).bind fun d => match d with
    | .py (.tuple [a, b]) => some (.next, upd (upd ρ i (some (.py a))) j (some (.py b)))
    | _ => none
  | .put i a e, ρ => (ev C e ρ).bind fun d => (ev C a ρ).bind fun x => match ρ i, x, d with
    | some (.py (.list xs)), .py (.int k), .py d => (setL xs k d).map fun ys => (.next, upd ρ i (some (.py (.list ys))))
    | _, _, _ => none
  | .aug i a op e, ρ => (ev C a ρ).bind fun x => (ev C e ρ).bind fun d => match ρ i, x, d with
    | some (.py (.list xs)), .py (.int k), .py d => (idxL xs k).bind fun o => match o, d with
      | .int o, .int d => (binSem op (.int o) (.int d)).bind fun r => (setL xs k r).map fun ys => (.next, upd ρ i (some (.py (.list ys))))
      | _, _ => none
    | _, _, _ => none
  | .app i e, ρ => (ev C e ρ).bind fun d => match ρ i, d with
    | some (.py (.list xs)), .py d => if xs.length < lim then some (.next, upd ρ i (some (.py (.list (xs ++ [d]))))) else none
    | _, _ => none
  | .pop i, ρ => match ρ i with
    | some (.py (.list xs)) => match xs.getLast? with
      | some (.int _) => if xs.length ≤ lim then some (.next, upd ρ i (some (.py (.list xs.dropLast)))) else none
      | _ => none
    | _ => none
  | .setF i f e, ρ => (ev C e ρ).bind fun d => match ρ i, d with
    | some (.ws fs), .py d => if f = fs.length then some (.next, upd ρ i (some (.ws (fs ++ [d])))) else none
    | _, _ => none
  | .ite c a b, ρ => (ev C c ρ).bind fun t => t.bool?.bind fun t => if t then exs C a ρ else exs C b ρ
  | .for1 i it b, ρ => (ev C it ρ).bind fun d => (itemsOf d).bind fun xs => if xs.length ≤ lim then loopF (exs C b) (bind1 i) xs ρ else none
  | .forO2 i j k b, ρ => match ρ k with
    | some (.py (.list xs)) => if xs.length ≤ lim then loopF (exs C b) (bind2 i j) xs (upd ρ k none) else none
    | _ => none
  | .whl n c b, ρ => loopW (ev C c) (exs C b) n ρ
  | .ret e, ρ => (ev C e ρ).map fun d => (.ret d, ρ)
  | .brk, ρ => some (.brk, ρ)
noncomputable def exs (C : Calls) : Sts → Loc → Option (Fl × Loc)
  | .nil, ρ => some (.next, ρ)
  | .cons s ss, ρ => (ex C s ρ).bind fun p => match p.1 with
    | .next => exs C ss p.2
    | f => some (f, p.2)
end

end Mine
end
noncomputable section
open PySem PyProof.Rows
namespace Mine

/-- the names that a text's IR speaks of -/
structure Tab where
  nm : List Str
  own : List Nat
  fns : List Str
  mts : List Str
  fields : List Str
  atoms : List (Str × Str)

noncomputable def opOf : Op → Operator
  | .add => .Add | .sub => .Sub | .mul => .Mult | .fdiv => .FloorDiv | .mod => .Mod
noncomputable def cmOf : Cm → CmpOp
  | .eq => .Eq | .ne => .NotEq | .lt => .Lt | .le => .LtE | .gt => .Gt | .ge => .GtE | .isNot => .IsNot | .inn => .In | .notIn => .NotIn
noncomputable def Fn.name : Fn → Str
  | .len => Str.ofString "len" | .sum => Str.ofString "sum" | .max => Str.ofString "max" | .min => Str.ofString "min" | .abs => Str.ofString "abs"
  | .divmod => Str.ofString "divmod" | .sorted => Str.ofString "sorted" | .tuple => Str.ofString "tuple" | .range => Str.ofString "range"
noncomputable def Fn.val : Fn → Value
  | .len => .builtin "len" | .sum => .builtin "sum" | .max => .builtin "max" | .min => .builtin "min" | .abs => .builtin "abs"
  | .divmod => .builtin "divmod" | .sorted => .builtin "sorted" | .tuple => .type "tuple" | .range => .type "range"
noncomputable def Mt.name : Mt → Str
  | .join => Str.ofString "join" | .rstrip => Str.ofString "rstrip" | .lstrip => Str.ofString "lstrip" | .count => Str.ofString "count"

noncomputable def Ex.isOwn : Ex → Bool
  | .own _ => true
  | _ => false
noncomputable def Exs.noOwn : Exs → Bool
  | .nil => true
  | .cons e es => !e.isOwn && es.noOwn
noncomputable def Exs.length : Exs → Nat
  | .nil => 0
  | .cons _ es => es.length + 1

noncomputable def okName (x : Str) : Bool := x != (Str.ofString "__debug__") && x != (Str.ofString "__classdict__") && x != (Str.ofString ".0")
noncomputable def varKind (sc : Scope) (x : Str) : Bool := sc.names.lookup x == some .local || sc.names.lookup x == some .cell
noncomputable def glob (sc : Scope) (x : Str) : Bool := sc.names.lookup x == some .globalImplicit && okName x

noncomputable def relabelS (scope sc : Scope) : Scope :=
  { scope with names := scope.names.map fun (n, k) => if (k == .free && sc.kind == .function && sc.names.lookup n == some .cell) then (n, .cell) else (n, k) }
noncomputable def compOk (sc scope : Scope) (x : Str) : Bool :=
  scope.kind == .function && scope.names.lookup x == some .local &&
  scope.names.all fun y => y.2 != .cell && (y.2 != .local || (scope.names.lookup y.1 == some .local && (y.1 == x || y.1 == Str.ofString ".0"))) && (y.2 != .free || (sc.names.lookup y.1 == some .cell && scope.names.lookup y.1 == some .free))

noncomputable def isSet : Expr → Bool
  | .Set .. => true
  | _ => false
noncomputable def isSlice : Expr → Bool
  | .Slice .. => true
  | _ => false
noncomputable def isStar : Expr → Bool
  | .Starred .. => true
  | _ => false
noncomputable def plainBase : Expr → Bool
  | .Call (.Name ..) [] [] _ => false
  | _ => true

noncomputable def Tab.var (T : Tab) (sc : Scope) (i : Nat) (x : Str) : Bool := T.nm[i]? == some x && varKind sc x && okName x

mutual
/-- the text's expression is that of the IR -/
inductive Is (T : Tab) : Scope → Ex → Expr → Prop
  | int {sc i k p} : Is T sc (.int i) (.Constant (.int i) k p)
  | str {sc x k p} : Is T sc (.str x) (.Constant (.str x) k p)
  | bool {sc b k p} : Is T sc (.bool b) (.Constant (.bool b) k p)
  | var {sc i x p} : T.var sc i x = true → T.own.contains i = false → Is T sc (.var i) (.Name x p)
  | own {sc i x p} : T.var sc i x = true → T.own.contains i = true → Is T sc (.own i) (.Name x p)
  | bin {sc op a b l r p o} : opOf op = o → Is T sc a l → Is T sc b r → Is T sc (.bin op a b) (.BinOp l o r p)
  | cmp {sc op a b l r p o} : cmOf op = o → isSet r = false → Is T sc a l → Is T sc b r → Is T sc (.cmp op a b) (.Compare l [o] [r] p)
  | list {sc es xs p} : es.noOwn = true → es.length ≤ 1000 → Iss T sc es xs → Is T sc (.list es) (.List xs p)
  | tup {sc es xs k p} : es.noOwn = true → es.length ≤ 1000 → Iss T sc es xs → Is T sc (.tup es) (.Tuple xs k p)
  | comp {sc i it elt e x px iter scope p} : T.nm[i]? = some x → T.own.contains i = false → isSet iter = false → compOk sc scope x = true → Is T sc it iter → Is T (relabelS scope sc) elt e → Is T sc (.comp i it elt) (.ListComp e [⟨.Name x px, iter, [], 0⟩] scope p)
  | idx {sc a b v s p} : isSlice s = false → Is T sc a v → Is T sc b s → Is T sc (.idx a b) (.Subscript v s p)
  | slHi {sc a l v x q p} : Is T sc a v → Is T sc l x → Is T sc (.slHi a l) (.Subscript v (.Slice none (some x) none q) p)
  | attr {sc a f v n p} : T.fields[f]? = some n → plainBase v = true → Is T sc a v → Is T sc (.attr a f) (.Attribute v n p)
  | fn {sc k es x np xs p} : k.name = x → glob sc x = true → 1 ≤ es.length → Iss T sc es xs → Is T sc (.fn k es) (.Call (.Name x np) xs [] p)
  | call {sc k es x np xs p} : T.fns[k]? = some x → glob sc x = true → es.noOwn = true → es.length ≤ 8 → Iss T sc es xs → Is T sc (.call k es) (.Call (.Name x np) xs [] p)
  | meth {sc k a es o n ap xs pos} : T.mts[k]? = some n → plainBase o = true → a.isOwn = false → es.noOwn = true → ap.endLine = pos.line → es.length ≤ 8 → Is T sc a o → Iss T sc es xs → Is T sc (.meth k a es) (.Call (.Attribute o n ap) xs [] pos)
  | atom {sc k c n cp p} : T.atoms[k]? = some (c, n) → glob sc c = true → Is T sc (.atom k) (.Attribute (.Name c cp) n p)
inductive Iss (T : Tab) : Scope → Exs → List Expr → Prop
  | nil {sc} : Iss T sc .nil []
  | cons {sc e es x xs} : isStar x = false → Is T sc e x → Iss T sc es xs → Iss T sc (.cons e es) (x :: xs)
/-- a test -/
inductive IsT (T : Tab) : Scope → Ex → Expr → Prop
  | cmp {sc op a b l r p o} : cmOf op = o → isSet r = false → Is T sc a l → Is T sc b r → IsT T sc (.cmp op a b) (.Compare l [o] [r] p)
end

/-- a list that is made anew -/
noncomputable def Ex.fresh : Ex → Bool
  | .list _ => true
  | .bin _ _ _ => true
  | .comp _ _ _ => true
  | .compIf _ _ _ _ => true
  | .slLo _ _ => true
  | .slHi _ _ => true
  | .slBoth _ _ _ => true
  | _ => false

noncomputable def noComp : Expr → Bool
  | .ListComp .. | .SetComp .. | .DictComp .. => false
  | _ => true
noncomputable def noDisplay : Expr → Bool
  | .Tuple .. => false
  | _ => true
mutual
/-- the text's statement is that of the IR -/
inductive IsS (T : Tab) (sc : Scope) : St → Stmt → Prop
  | set {i e x p v pos} : T.var sc i x = true → T.own.contains i = false → e.isOwn = false → noComp v = true → Is T sc e v → IsS T sc (.set i e) (.Assign [.Name x p] v pos)
  | setO {i e x p v pos} : T.var sc i x = true → T.own.contains i = true → e.fresh = true → noComp v = true → Is T sc e v → IsS T sc (.setO i e) (.Assign [.Name x p] v pos)
  | set3 {i j k e x y z p q r v pos} : T.var sc i x = true → T.own.contains i = false → T.var sc j y = true → T.own.contains j = false → T.var sc k z = true → T.own.contains k = false → e.isOwn = false → noComp v = true → noDisplay v = true → Is T sc e v →
      IsS T sc (.set3 i j k e) (.Assign [.Name x p, .Name y q, .Name z r] v pos)
  | unp {i j e x y p q k r v pos} : T.var sc i x = true → T.own.contains i = false → T.var sc j y = true → T.own.contains j = false → i ≠ j → e.isOwn = false → noComp v = true → noDisplay v = true → Is T sc e v →
      IsS T sc (.unp i j e) (.Assign [.Tuple [.Name x p, .Name y q] k r] v pos)
  | unpA {i j e x y p q k r a1 b1 c1 d1 e1 f1 g1 t1 pos} : T.var sc i x = true → T.own.contains i = false → T.var sc j y = true → T.own.contains j = false → i ≠ j → e.isOwn = false → p.line = q.line → sc.names.lookup x = some .local → sc.names.lookup y = some .local → x ≠ y →
      Is T sc e (.Tuple [.Attribute a1 b1 c1, .Attribute d1 e1 f1] g1 t1) → IsS T sc (.unp i j e) (.Assign [.Tuple [.Name x p, .Name y q] k r] (.Tuple [.Attribute a1 b1 c1, .Attribute d1 e1 f1] g1 t1) pos)
  | put {i a e x p s q v pos} : T.var sc i x = true → T.own.contains i = true → e.isOwn = false → isSlice s = false → noComp v = true → Is T sc a s → Is T sc e v → IsS T sc (.put i a e) (.Assign [.Subscript (.Name x p) s q] v pos)
  | setF {i f e x p n q v pos} : T.var sc i x = true → T.own.contains i = true → T.fields[f]? = some n → e.isOwn = false → noComp v = true → Is T sc e v → IsS T sc (.setF i f e) (.Assign [.Attribute (.Name x p) n q] v pos)
  | ite {c a b t x y pos} : IsT T sc c t → IsSs T sc a x → IsSs T sc b y → IsS T sc (.ite c a b) (.If t x y pos)
  | for1 {i it b x p iter body pos} : T.var sc i x = true → T.own.contains i = false → it.isOwn = false → isSet iter = false → Is T sc it iter → IsSs T sc b body → IsS T sc (.for1 i it b) (.For (.Name x p) iter body [] pos)
  | ret {e v pos} : e.isOwn = false → Is T sc e v → IsS T sc (.ret e) (.Return (some v) pos)
  | brk {pos} : IsS T sc .brk (.Break pos)
inductive IsSs (T : Tab) (sc : Scope) : Sts → List Stmt → Prop
  | nil : IsSs T sc .nil []
  | cons {s ss x xs} : IsS T sc s x → IsSs T sc ss xs → IsSs T sc (.cons s ss) (x :: xs)
end

end Mine
end
noncomputable section
open PySem PySem.W PyProof.Rows
namespace Mine

noncomputable abbrev Own := Addr → Prop
noncomputable def NotTup (o : Obj) : Prop := ∀ vs n, o.cls = .type "tuple" → o.data ≠ .seq vs n

mutual
theorem reads_frame {h h' : Heap} {O : Own} (hk : ∀ a o, h.get? a = some o → ¬ O a → h'.get? a = some o) (ht : ∀ a o, O a → h.get? a = some o → NotTup o) :
    ∀ {v : Value} {d : PyData} {as : List Addr}, Reads h v d as → (∀ a ∈ as, ¬ O a) → Reads h' v d as
  | _, _, _, .none, _ => .none
  | _, _, _, .bool b, _ => .bool b
  | _, _, _, .int i t, _ => .int i t
  | _, _, _, .str x t, _ => .str x t
  | _, _, _, .list ho hc hd hr, hn => .list (hk _ _ ho (hn _ List.mem_cons_self)) hc hd (readsAll_frame hk ht hr fun a ha => hn a (List.mem_cons_of_mem _ ha))
  | _, _, _, .tuple ho hc hd hr, hn => .tuple (hk _ _ ho fun hO => ht _ _ hO ho _ _ hc hd) hc hd (readsAll_frame hk ht hr hn)
  | _, _, _, .dict ho hc hd hr hs, hn => .dict (hk _ _ ho (hn _ (List.mem_append_left _ List.mem_cons_self))) hc hd
      (readsAll_frame hk ht hr fun a ha => hn a (List.mem_append_left _ (List.mem_cons_of_mem _ ha))) (readsAll_frame hk ht hs fun a ha => hn a (List.mem_append_right _ ha))
theorem readsAll_frame {h h' : Heap} {O : Own} (hk : ∀ a o, h.get? a = some o → ¬ O a → h'.get? a = some o) (ht : ∀ a o, O a → h.get? a = some o → NotTup o) :
    ∀ {vs : List Value} {ds : List PyData} {as : List Addr}, ReadsAll h vs ds as → (∀ a ∈ as, ¬ O a) → ReadsAll h' vs ds as
  | _, _, _, .nil, _ => .nil
  | _, _, _, .cons r rs, hn => .cons (reads_frame hk ht r fun a ha => hn a (List.mem_append_left _ ha)) (readsAll_frame hk ht rs fun a ha => hn a (List.mem_append_right _ ha))
end

mutual
theorem rd_mem_get {h : Heap} : ∀ {v : Value} {d : PyData} {as : List Addr}, Reads h v d as → ∀ a ∈ as, ∃ o, h.get? a = some o
  | _, _, _, .none, _, ha => nomatch ha
  | _, _, _, .bool b, _, ha => nomatch ha
  | _, _, _, .int i t, _, ha => nomatch ha
  | _, _, _, .str x t, _, ha => nomatch ha
  | _, _, _, .list ho hc hd hr, a, ha => by
    rcases List.mem_cons.mp ha with rfl | ha
    · exact ⟨_, ho⟩
    · exact readsAll_mem_get hr a ha
  | _, _, _, .tuple ho hc hd hr, a, ha => readsAll_mem_get hr a ha
  | _, _, _, .dict ho hc hd hr hs, a, ha => by
    rcases List.mem_append.mp ha with ha | ha
    · rcases List.mem_cons.mp ha with rfl | ha
      · exact ⟨_, ho⟩
      · exact readsAll_mem_get hr a ha
    · exact readsAll_mem_get hs a ha
theorem readsAll_mem_get {h : Heap} : ∀ {vs : List Value} {ds : List PyData} {as : List Addr}, ReadsAll h vs ds as → ∀ a ∈ as, ∃ o, h.get? a = some o
  | _, _, _, .nil, _, ha => nomatch ha
  | _, _, _, .cons r rs, a, ha => by
    rcases List.mem_append.mp ha with ha | ha
    · exact rd_mem_get r a ha
    · exact readsAll_mem_get rs a ha
end

noncomputable def Val (O : Own) (h : Heap) (v : Value) (d : PyData) : Prop := ∃ as, Reads h v d as ∧ ∀ a ∈ as, ¬ O a
noncomputable def Vals (O : Own) (h : Heap) (vs : List Value) (ds : List PyData) : Prop := ∃ as, ReadsAll h vs ds as ∧ ∀ a ∈ as, ¬ O a

/-- a step of the heap that leaves alone what is not owned -/
structure HM (O O' : Own) (h h' : Heap) : Prop where
  keep : ∀ a o, h.get? a = some o → ¬ O a → h'.get? a = some o
  less : ∀ a o, h.get? a = some o → ¬ O a → ¬ O' a
  tup : ∀ a o, O a → h.get? a = some o → NotTup o

theorem Val.step {O O' : Own} {h h' : Heap} {v : Value} {d : PyData} (x : Val O h v d) (m : HM O O' h h') : Val O' h' v d :=
  let ⟨as, r, n⟩ := x
  ⟨as, reads_frame m.keep m.tup r n, fun a ha => let ⟨o, ho⟩ := rd_mem_get r a ha; m.less a o ho (n a ha)⟩
theorem Vals.step {O O' : Own} {h h' : Heap} {vs : List Value} {ds : List PyData} (x : Vals O h vs ds) (m : HM O O' h h') : Vals O' h' vs ds :=
  let ⟨as, r, n⟩ := x
  ⟨as, readsAll_frame m.keep m.tup r n, fun a ha => let ⟨o, ho⟩ := readsAll_mem_get r a ha; m.less a o ho (n a ha)⟩

theorem Vals.nil {O : Own} {h : Heap} : Vals O h [] [] := ⟨[], .nil, fun _ h => nomatch h⟩
theorem Vals.cons {O : Own} {h : Heap} {v : Value} {vs : List Value} {d : PyData} {ds : List PyData} (x : Val O h v d) (y : Vals O h vs ds) : Vals O h (v :: vs) (d :: ds) :=
  let ⟨as, r, n⟩ := x
  let ⟨bs, r', n'⟩ := y
  ⟨as ++ bs, .cons r r', fun a ha => (List.mem_append.mp ha).elim (n a) (n' a)⟩
theorem Vals.inv {O : Own} {h : Heap} {d : PyData} {ds : List PyData} {vs : List Value} (x : Vals O h vs (d :: ds)) : ∃ v ws, vs = v :: ws ∧ Val O h v d ∧ Vals O h ws ds := by
  obtain ⟨as, r, n⟩ := x
  cases r with
  | cons r rs => exact ⟨_, _, rfl, ⟨_, r, fun a ha => n a (List.mem_append_left _ ha)⟩, ⟨_, rs, fun a ha => n a (List.mem_append_right _ ha)⟩⟩
theorem Vals.inv_nil {O : Own} {h : Heap} {vs : List Value} (x : Vals O h vs []) : vs = [] := by
  obtain ⟨as, r, n⟩ := x
  cases r; rfl
theorem Vals.length {O : Own} {h : Heap} : ∀ {ds : List PyData} {vs : List Value}, Vals O h vs ds → vs.length = ds.length
  | [], _, x => by rw [x.inv_nil]; rfl
  | _ :: _, _, x => by obtain ⟨v, ws, rfl, _, y⟩ := x.inv; simp [y.length]
theorem Vals.append {O : Own} {h : Heap} : ∀ {ds es : List PyData} {vs ws : List Value}, Vals O h vs ds → Vals O h ws es → Vals O h (vs ++ ws) (ds ++ es)
  | [], _, _, _, x, y => by rw [x.inv_nil]; exact y
  | _ :: _, _, _, _, x, y => by obtain ⟨v, us, rfl, a, b⟩ := x.inv; exact .cons a (b.append y)
theorem Vals.get {O : Own} {h : Heap} : ∀ {ds : List PyData} {vs : List Value}, Vals O h vs ds → ∀ (i : Nat) (d : PyData), ds[i]? = some d → ∃ v, vs[i]? = some v ∧ Val O h v d
  | [], _, _, i, d, e => by simp at e
  | _ :: _, _, x, 0, d, e => by obtain ⟨v, us, rfl, a, b⟩ := x.inv; simp at e; subst e; exact ⟨v, rfl, a⟩
  | _ :: _, _, x, i + 1, d, e => by obtain ⟨v, us, rfl, a, b⟩ := x.inv; simp at e; obtain ⟨w, hw, r⟩ := b.get i d e; exact ⟨w, by simpa using hw, r⟩
theorem Vals.drop {O : Own} {h : Heap} : ∀ (k : Nat) {ds : List PyData} {vs : List Value}, Vals O h vs ds → Vals O h (vs.drop k) (ds.drop k)
  | 0, _, _, x => by simpa using x
  | _ + 1, [], _, x => by rw [x.inv_nil]; simpa using Vals.nil
  | k + 1, _ :: _, _, x => by obtain ⟨v, us, rfl, a, b⟩ := x.inv; simpa using b.drop k
theorem Vals.take {O : Own} {h : Heap} : ∀ (k : Nat) {ds : List PyData} {vs : List Value}, Vals O h vs ds → Vals O h (vs.take k) (ds.take k)
  | 0, _, _, x => by simpa using Vals.nil
  | _ + 1, [], _, x => by rw [x.inv_nil]; simpa using Vals.nil
  | k + 1, _ :: _, _, x => by obtain ⟨v, us, rfl, a, b⟩ := x.inv; simpa using Vals.cons a (b.take k)
theorem Vals.set {O : Own} {h : Heap} : ∀ (k : Nat) {ds : List PyData} {vs : List Value} {v : Value} {d : PyData}, Vals O h vs ds → Val O h v d → Vals O h (vs.set k v) (ds.set k d)
  | _, [], _, _, _, x, _ => by rw [x.inv_nil]; simpa using Vals.nil
  | 0, _ :: _, _, _, _, x, y => by obtain ⟨v, us, rfl, a, b⟩ := x.inv; simpa using Vals.cons y b
  | k + 1, _ :: _, _, _, _, x, y => by obtain ⟨v, us, rfl, a, b⟩ := x.inv; simpa using Vals.cons a (b.set k y)
theorem Vals.rep {O : Own} {h : Heap} {vs : List Value} {ds : List PyData} (x : Vals O h vs ds) : ∀ k : Nat, Vals O h (List.replicate k vs).flatten (List.replicate k ds).flatten
  | 0 => by simpa using Vals.nil
  | k + 1 => by rw [List.replicate_succ, List.replicate_succ, List.flatten_cons, List.flatten_cons]; exact x.append (x.rep k)
theorem Vals.dropLast {O : Own} {h : Heap} {vs : List Value} {ds : List PyData} (x : Vals O h vs ds) : Vals O h vs.dropLast ds.dropLast := by
  rw [List.dropLast_eq_take, List.dropLast_eq_take, x.length]; exact x.take _

theorem Val.int_inv {O : Own} {h : Heap} {v : Value} {i : Int} (x : Val O h v (.int i)) : ∃ t, v = .int i t := by obtain ⟨as, r, _⟩ := x; cases r; exact ⟨_, rfl⟩
theorem Val.str_inv {O : Own} {h : Heap} {v : Value} {y : Str} (x : Val O h v (.str y)) : ∃ t, v = .str y t := by obtain ⟨as, r, _⟩ := x; cases r; exact ⟨_, rfl⟩
theorem Val.bool_inv {O : Own} {h : Heap} {v : Value} {b : Bool} (x : Val O h v (.bool b)) : v = .bool b := by obtain ⟨as, r, _⟩ := x; cases r; rfl
theorem Val.int {O : Own} {h : Heap} {i : Int} {t : Tok} : Val O h (.int i t) (.int i) := ⟨[], .int i t, fun _ h => nomatch h⟩
theorem Val.str {O : Own} {h : Heap} {x : Str} {t : Tok} : Val O h (.str x t) (.str x) := ⟨[], .str x t, fun _ h => nomatch h⟩
theorem Val.bool {O : Own} {h : Heap} {b : Bool} : Val O h (.bool b) (.bool b) := ⟨[], .bool b, fun _ h => nomatch h⟩
theorem Val.list_inv {O : Own} {h : Heap} {v : Value} {ds : List PyData} (x : Val O h v (.list ds)) : ∃ a vs, v = .ref a ∧ h.IsList a vs.toArray ∧ ¬ O a ∧ Vals O h vs ds := by
  obtain ⟨as, r, n⟩ := x
  cases r with
  | @list a o vs k xs as ho hc hd hr => exact ⟨a, vs.toList, rfl, ⟨o, ho, hc, k, by simpa using hd⟩, n _ List.mem_cons_self, as, hr, fun b hb => n b (List.mem_cons_of_mem _ hb)⟩
theorem Val.list {O : Own} {h : Heap} {a : Addr} {vs : List Value} {ds : List PyData} (x : h.IsList a vs.toArray) (n : ¬ O a) (y : Vals O h vs ds) : Val O h (.ref a) (.list ds) := by
  obtain ⟨o, ho, hc, k, hd⟩ := x
  obtain ⟨as, r, m⟩ := y
  exact ⟨a :: as, .list ho hc hd (by simpa using r), fun b hb => by rcases List.mem_cons.mp hb with rfl | hb; exact n; exact m b hb⟩
theorem Val.tup_inv {O : Own} {h : Heap} {v : Value} {ds : List PyData} (x : Val O h v (.tuple ds)) : ∃ a vs, v = .ref a ∧ h.IsTuple a vs.toArray ∧ Vals O h vs ds := by
  obtain ⟨as, r, n⟩ := x
  cases r with
  | @tuple a o vs k xs as ho hc hd hr => exact ⟨a, vs.toList, rfl, ⟨o, ho, hc, k, by simpa using hd⟩, as, hr, n⟩
theorem Val.tup {O : Own} {h : Heap} {a : Addr} {vs : List Value} {ds : List PyData} (x : h.IsTuple a vs.toArray) (y : Vals O h vs ds) : Val O h (.ref a) (.tuple ds) := by
  obtain ⟨o, ho, hc, k, hd⟩ := x
  obtain ⟨as, r, m⟩ := y
  exact ⟨as, .tuple ho hc hd (by simpa using r), m⟩

/-- the entries of an instance's dict -/
inductive Ents (O : Own) (h : Heap) : List Str → List DictEntry → List PyData → Prop
  | nil {ns} : Ents O h ns [] []
  | cons {n ns e es d ds} : (∃ t, e.key = .str n t) → Val O h e.val d → Ents O h ns es ds → Ents O h (n :: ns) (e :: es) (d :: ds)
theorem Ents.step {O O' : Own} {h h' : Heap} {ns : List Str} {es : List DictEntry} {ds : List PyData} (x : Ents O h ns es ds) (m : HM O O' h h') : Ents O' h' ns es ds := by
  induction x with
  | nil => exact .nil
  | cons k v _ ih => exact .cons k (v.step m) ih

variable (T : Tab) (C : Addr)

/-- the instance at x, its dict at dx -/
structure WsAt (O : Own) (h : Heap) (x dx : Addr) (fs : List PyData) : Prop where
  inst : h.get? x = some (instObj C dx)
  ents : ∃ es n, h.get? dx = some (dictOf es n) ∧ Ents O h T.fields es fs

noncomputable def DVal (O : Own) (h : Heap) (v : Value) : D → Prop
  | .py d => Val O h v d
  | .ws fs => ∃ x dx, v = .ref x ∧ ¬ O x ∧ ¬ O dx ∧ WsAt T C O h x dx fs
  | .rng a b c => ∃ r t u k, v = .ref r ∧ ¬ O r ∧ IsRange h r a b c t u k
noncomputable def Rd (O : Own) (h : Heap) (v : Value) : D → Prop
  | .py (.list ds) => ∃ a vs, v = .ref a ∧ h.IsList a vs.toArray ∧ Vals O h vs ds
  | .py d => Val O h v d
  | .ws fs => ∃ x dx, v = .ref x ∧ ¬ O x ∧ WsAt T C O h x dx fs
  | .rng a b c => ∃ r t u k, v = .ref r ∧ ¬ O r ∧ IsRange h r a b c t u k

variable {T C}
theorem DVal.rd {O : Own} {h : Heap} {v : Value} {d : D} (x : DVal T C O h v d) : Rd T C O h v d := by
  cases d with
  | py d => cases d with
    | list ds => obtain ⟨a, vs, rfl, hl, _, hv⟩ := Val.list_inv x; exact ⟨a, vs, rfl, hl, hv⟩
    | _ => exact x
  | ws fs => obtain ⟨y, dx, rfl, hx, _, w⟩ := x; exact ⟨y, dx, rfl, hx, w⟩
  | rng a b c => exact x
theorem WsAt.step {O O' : Own} {h h' : Heap} {x dx : Addr} {fs : List PyData} (w : WsAt T C O h x dx fs) (m : HM O O' h h') (hx : ¬ O x) (hd : ¬ O dx) : WsAt T C O' h' x dx fs := by
  obtain ⟨es, n, e1, e2⟩ := w.ents
  exact ⟨m.keep _ _ w.inst hx, es, n, m.keep _ _ e1 hd, e2.step m⟩
theorem DVal.step {O O' : Own} {h h' : Heap} {v : Value} {d : D} (x : DVal T C O h v d) (m : HM O O' h h') : DVal T C O' h' v d := by
  cases d with
  | py d => exact Val.step x m
  | ws fs =>
    obtain ⟨y, dx, rfl, hx, hd, w⟩ := x
    have w' := w.step m hx hd
    obtain ⟨es, n, e1, e2⟩ := w.ents
    exact ⟨y, dx, rfl, m.less _ _ w.inst hx, m.less _ _ e1 hd, w'⟩
  | rng a b c => obtain ⟨r, t, u, k, rfl, hr, g⟩ := x; exact ⟨r, t, u, k, rfl, m.less _ _ g hr, m.keep _ _ g hr⟩

/-- a heap that only grows -/
noncomputable def Grow (h h' : Heap) : Prop := ∀ b o, h.get? b = some o → h'.get? b = some o
theorem Grow.refl (h : Heap) : Grow h h := fun _ _ e => e
theorem Grow.trans {h h' h'' : Heap} (x : Grow h h') (y : Grow h' h'') : Grow h h'' := fun b o e => y b o (x b o e)
theorem Grow.push (h : Heap) (o : Obj) : Grow h (h.push o) := fun _ _ e => Heap.get?_push_of_some o e

/-- what is owned is there, and no tuple -/
noncomputable def OwnOk (O : Own) (h : Heap) : Prop := ∀ a, O a → ∃ o, h.get? a = some o ∧ NotTup o
theorem OwnOk.grow {O : Own} {h h' : Heap} (x : OwnOk O h) (g : Grow h h') : OwnOk O h' := fun a ha => let ⟨o, e, n⟩ := x a ha; ⟨o, g _ _ e, n⟩
theorem OwnOk.fresh {O : Own} {h : Heap} {a : Addr} (x : OwnOk O h) (e : h.get? a = none) : ¬ O a := fun ha => by obtain ⟨o, e', _⟩ := x a ha; rw [e] at e'; cases e'
theorem HM.of_grow {O : Own} {h h' : Heap} (x : OwnOk O h) (g : Grow h h') : HM O O h h' :=
  ⟨fun a o e _ => g a o e, fun _ _ _ n => n, fun a o ha e => let ⟨o', e', n⟩ := x a ha; by rw [e] at e'; cases e'; exact n⟩
theorem Rd.grow {O : Own} {h h' : Heap} {v : Value} {d : D} (x : Rd T C O h v d) (k : OwnOk O h) (g : Grow h h') : Rd T C O h' v d := by
  have m := HM.of_grow k g
  cases d with
  | py d => cases d with
    | list ds => obtain ⟨a, vs, rfl, ⟨o, ho, r⟩, hv⟩ := x; exact ⟨a, vs, rfl, ⟨o, g _ _ ho, r⟩, hv.step m⟩
    | _ => exact Val.step x m
  | ws fs =>
    obtain ⟨y, dx, rfl, hx, w⟩ := x
    obtain ⟨es, n, e1, e2⟩ := w.ents
    exact ⟨y, dx, rfl, hx, g _ _ w.inst, es, n, g _ _ e1, e2.step m⟩
  | rng a b c => obtain ⟨r, t, u, k, rfl, hr, e⟩ := x; exact ⟨r, t, u, k, rfl, hr, g _ _ e⟩

theorem size_none {h : Heap} {a : Addr} (x : h.objs.size ≤ a) : h.get? a = none := by
  cases e : h.get? a with
  | none => rfl
  | some o => exact absurd (Heap.lt_size e) (Nat.not_lt.mpr x)
theorem keeps_grow {s s' : Shared} (k : Keeps s s') : Grow s.heap s'.heap := by obtain ⟨h', tk, rfl, k⟩ := k; exact k
theorem keeps_refl (s : Shared) : Keeps s s := ⟨s.heap, s.toks, rfl, fun _ _ e => e⟩
theorem keeps_trans {s s' s'' : Shared} (x : Keeps s s') (y : Keeps s' s'') : Keeps s s'' := by
  obtain ⟨h', tk, rfl, k⟩ := x
  obtain ⟨h'', tk', rfl, k'⟩ := y
  exact ⟨h'', tk', rfl, fun b o e => k' b o (k b o e)⟩
theorem keeps_tok (s : Shared) (t : Nat) : Keeps s { s with toks := t } := ⟨s.heap, t, rfl, fun _ _ e => e⟩
theorem keeps_push (s : Shared) (o : Obj) : Keeps s { s with heap := s.heap.push o } := ⟨_, s.toks, rfl, fun _ _ e => Heap.get?_push_of_some o e⟩
theorem keeps_mk (s : Shared) (h' : Heap) (t : Nat) (g : Grow s.heap h') : Keeps s { s with heap := h', toks := t } := ⟨h', t, rfl, g⟩

end Mine
end
noncomputable section
open PySem PySem.W PyProof.Rows
namespace Mine

section
variable {T : Tab} {C : Addr} {prog : Program} {w : World} {A : Around} {E : Value → Shared → Prop} {s : Shared} {O : Own}

/-- a list that was made behind h₀ -/
noncomputable def FreshL (O : Own) (h₀ h : Heap) (v : Value) (xs : List PyData) : Prop :=
  ∃ a vs n hp, v = .ref a ∧ hp.get? a = none ∧ Grow h₀ hp ∧ Grow hp h ∧ Vals O hp vs xs ∧ IsL h a vs.toArray n
theorem FreshL.back {h₀ h₁ h : Heap} {v : Value} {xs : List PyData} (g : Grow h₀ h₁) (x : FreshL O h₁ h v xs) : FreshL O h₀ h v xs :=
  let ⟨a, vs, n, hp, e1, e2, e3, e4, e5, e6⟩ := x
  ⟨a, vs, n, hp, e1, e2, g.trans e3, e4, e5, e6⟩

/-- an end of a step that makes a value -/
noncomputable def Made1 (s : Shared) (O : Own) (d : PyData) (v : Value) (s' : Shared) : Prop := Keeps s s' ∧ Val O s'.heap v d ∧ ∀ xs, d = .list xs → FreshL O s.heap s'.heap v xs

theorem fresh_size (h : Heap) : h.get? h.objs.size = none := size_none (Nat.le_refl _)

theorem made_str {x : Str} {t : Tok} (t' : Nat) : Made1 s O (.str x) (.str x t) { s with toks := t' } := ⟨keeps_tok _ _, .str, fun _ e => nomatch e⟩
theorem made_int {i : Int} {t : Tok} (t' : Nat) : Made1 s O (.int i) (.int i t) { s with toks := t' } := ⟨keeps_tok _ _, .int, fun _ e => nomatch e⟩

theorem foldl_app (l : List (Array Nat)) : ∀ a : Array Nat, (List.foldl (fun x1 x2 => x1 ++ x2) a l).toList = a.toList ++ (l.map (·.toList)).flatten := by
  induction l with
  | nil => intro a; simp
  | cons x r ih => intro a; rw [List.foldl_cons, ih]; simp

theorem val_lit_list (ok : OwnOk O s.heap) {vs : List Value} {ds : List PyData} (hv : Vals O s.heap vs ds) :
    Made1 s O (.list ds) (.ref s.heap.objs.size) { s with heap := s.heap.push { cls := .type "list", data := .seq vs.toArray } } := by
  have g := Grow.push s.heap { cls := .type "list", data := .seq vs.toArray }
  refine ⟨keeps_push _ _, Val.list ⟨_, Heap.get?_push_size _ rfl, rfl, 0, rfl⟩ (ok.fresh (fresh_size _)) (hv.step (HM.of_grow ok g)), fun xs e => ?_⟩
  cases e; exact ⟨_, vs, 0, s.heap, rfl, fresh_size _, Grow.refl _, g, hv, Heap.get?_push_size _ rfl⟩
theorem val_lit_tup (ok : OwnOk O s.heap) {vs : List Value} {ds : List PyData} (hv : Vals O s.heap vs ds) :
    Made1 s O (.tuple ds) (.ref s.heap.objs.size) { s with heap := s.heap.push { cls := .type "tuple", data := .seq vs.toArray } } := by
  have g := Grow.push s.heap { cls := .type "tuple", data := .seq vs.toArray }
  refine ⟨keeps_push _ _, Val.tup ⟨_, Heap.get?_push_size _ rfl, rfl, 0, rfl⟩ (hv.step (HM.of_grow ok g)), fun a e => ?_⟩
  cases e

theorem lim_le : lim ≤ sizeLine := by decide
theorem lim_val : lim = 1048576 := rfl

theorem natAbs_bits {k : Int} (h : k.natAbs < 2 ^ 64) : Builtin.Int.intBits k ≤ 64 := intBits_le_64 (by omega) (by omega)

theorem str_len0 {x : Str} (h0 : (x.length == 0) = true) : x = Str.empty := by
  obtain ⟨⟨l⟩⟩ := x
  have : l.length = 0 := by simpa [Str.length] using h0
  rw [List.length_eq_zero_iff.mp this]; rfl
theorem add_str_sound {x y : Str} {t u : Tok} (hl : x.length + y.length ≤ lim) : wpAny (model prog w) A (binaryOp .Add (.str x t) (.str y u)) (Made1 s O (.str (x ++ y))) E s := by
  refine P.add_str ?_
  split
  · rename_i h0
    rw [str_len0 h0, Str.empty_append]
    exact made_str _
  · split
    · rename_i h0
      rw [str_len0 h0, Str.append_empty]
      exact made_str _
    · exact ⟨by rw [Str.length_append]; exact Nat.le_trans hl lim_le, made_str _⟩

theorem add_list_sound {l m : Addr} {vs ws : List Value} {xs ys : List PyData} (ok : OwnOk O s.heap) (hl1 : s.heap.IsList l vs.toArray) (hv1 : Vals O s.heap vs xs) (hl2 : s.heap.IsList m ws.toArray) (hv2 : Vals O s.heap ws ys)
    (hl : xs.length + ys.length ≤ lim) : wpAny (model prog w) A (binaryOp .Add (.ref l) (.ref m)) (Made1 s O (.list (xs ++ ys))) E s := by
  obtain ⟨⟨cls, dd, data, sl⟩, ho, hc, n, hd⟩ := hl1
  obtain ⟨⟨cls2, dd2, data2, sl2⟩, ho2, hc2, n2, hd2⟩ := hl2
  simp only at hc hd hc2 hd2
  subst hc hd hc2 hd2
  refine concat_meets ⟨_, ho, rfl⟩ ⟨_, ho2, rfl⟩ noFill_list_add seq_list_add PySem.F.slot_list_add PySem.F.entry_list_add (PySem.F.args_list_add_2 _ _)
    (list_addW l m vs.toArray ws.toArray n n2 dd dd2 sl sl2 (by have := hv1.length; have := hv2.length; have := lim_le; simp only [List.size_toArray]; omega)) ⟨ho, ho2, ?_⟩
  rw [show vs.toArray ++ ws.toArray = (vs ++ ws).toArray from by simp]
  exact val_lit_list ok (hv1.append hv2)

theorem repStr_len (x : Str) (n : Int) : (repStr x n).length = x.length * n.toNat := by
  unfold repStr txt Str.length
  simp [List.length_flatten, Nat.mul_comm]
theorem flat_nil {α : Type} : ∀ k : Nat, (List.replicate k ([] : List α)).flatten = []
  | 0 => rfl
  | k + 1 => by simp [List.replicate_succ, flat_nil k]
theorem mul_str_sound {x : Str} {n : Int} {t u : Tok} (h1 : n < 2 ^ 62) (h2 : -(2 ^ 62) < n) (h3 : x.length * n.toNat ≤ lim) : wpAny (model prog w) A (binaryOp .Mult (.str x t) (.int n u)) (Made1 s O (.str (repStr x n))) E s := by
  refine P.mul_str (by simp; omega) (fun k1 k2 => ?_) (fun k1 k2 => ?_) ?_
  · have e : (n.toNat : Int) = n := by omega
    have hm : (x.length : Int) * n ≤ 2 ^ 63 - 1 := by
      rw [← e]
      have : ((x.length * n.toNat : Nat) : Int) ≤ 2 ^ 20 := by exact_mod_cast h3
      rw [Int.natCast_mul] at this
      omega
    rw [Int.not_lt]
    exact (Int.le_ediv_iff_mul_le (by omega)).mpr hm
  · simp only [Builtin.Str.tooLong, decide_eq_false_iff_not]; have := lim_le; omega
  · split
    · have : repStr x n = Str.empty := by unfold repStr txt; rw [show n.toNat = 0 by omega]; rfl
      rw [this]; exact ⟨by decide, made_str _⟩
    · split
      · rename_i k1 k2
        have : repStr x n = x := by
          unfold repStr txt
          simp only [Bool.or_eq_true, beq_iff_eq] at k2
          rcases k2 with rfl | k2
          · simp [List.replicate]
          · have := str_len0 (x := x) (by simpa using k2)
            subst this
            simp [Str.empty, flat_nil]
        rw [this]; exact made_str _
      · have e : ({ cps := List.foldl (fun x1 x2 => x1 ++ x2) #[] (List.replicate n.toNat x.cps) } : Str) = repStr x n := by
          unfold repStr txt
          congr 1
          apply Array.toList_inj.mp
          rw [foldl_app]; simp
        rw [e]
        exact ⟨by rw [repStr_len]; exact Nat.le_trans h3 lim_le, made_str _⟩

theorem mul_list_sound {l : Addr} {vs : List Value} {xs : List PyData} {n : Int} {u : Tok} (ok : OwnOk O s.heap) (hl : s.heap.IsList l vs.toArray) (hv : Vals O s.heap vs xs)
    (h1 : n < 2 ^ 62) (h2 : -(2 ^ 62) < n) (h3 : xs.length * n.toNat ≤ lim) : wpAny (model prog w) A (binaryOp .Mult (.ref l) (.int n u)) (Made1 s O (.list (List.replicate n.toNat xs).flatten)) E s := by
  obtain ⟨⟨cls, d, data, sl⟩, ho, hcl, k, hd⟩ := id hl
  simp only at hcl hd
  subst hcl hd
  have hsz' : vs.toArray.size * n.toNat ≤ 2 ^ 24 := by
    have := hv.length
    simp only [List.size_toArray]
    rw [this]; exact Nat.le_trans h3 (by decide)
  refine wpAny_binaryOp_repeat_ref (T := "list") (U := "int") (by decide) ⟨_, ho, rfl⟩ (fun s' => typeIs_int s' n u) noFill_list_mul F.fills_int_mul F.slot_int_rmul repeat_list F.slot_int_index.lookup
    (call_meets F.slot_int_rmul (typeIs_int s n u) F.entry_int_rmul (F.args_int_rmul_2 _ _) (lm_int_rmul_list_any n u l vs.toArray k d sl)
      ⟨ho, rfl, ⟨_, ho, rfl⟩, call_meets F.slot_list_mul ⟨_, ho, rfl⟩ F.entry_list_mul (F.args_list_mul_2 _ _)
        (lm_list_mul_any l vs.toArray k d sl n u (by simp [Builtin.List.listFitsIndex]; omega) (by omega) (by simp [Builtin.List.listTooLong, sizeLine]; omega))
        ⟨ho, ?_⟩⟩)
  rw [listMul_foldl_if]
  exact val_lit_list ok (hv.rep _)

theorem bin_sound {op : Op} {x y r : PyData} {a b : Value} (hb : binSem op x y = some r) (ok : OwnOk O s.heap) (va : Rd T C O s.heap a (.py x)) (vb : Rd T C O s.heap b (.py y)) :
    wpAny (model prog w) A (binaryOp (opOf op) a b) (Made1 s O r) E s := by
  unfold binSem at hb
  split at hb
  · cases hb
    obtain ⟨t, rfl⟩ := Val.int_inv va; obtain ⟨u, rfl⟩ := Val.int_inv vb
    exact add_int (made_int _)
  · split at hb <;> cases hb
    rename_i x y hl
    obtain ⟨t, rfl⟩ := Val.str_inv va; obtain ⟨u, rfl⟩ := Val.str_inv vb
    exact add_str_sound hl
  · split at hb <;> cases hb
    rename_i xs ys hl
    obtain ⟨l, vs, rfl, hl1, hv1⟩ := va
    obtain ⟨m, ws, rfl, hl2, hv2⟩ := vb
    exact add_list_sound ok hl1 hv1 hl2 hv2 hl
  · cases hb
    obtain ⟨t, rfl⟩ := Val.int_inv va; obtain ⟨u, rfl⟩ := Val.int_inv vb
    exact sub_int (made_int _)
  · split at hb <;> cases hb
    rename_i hf
    obtain ⟨t, rfl⟩ := Val.int_inv va; obtain ⟨u, rfl⟩ := Val.int_inv vb
    exact mul_int (made_int _) (hf.elim (fun h => IntMulOk.of_left (natAbs_bits h)) fun h => IntMulOk.of_right (natAbs_bits h))
  · split at hb <;> cases hb
    rename_i x n hf
    obtain ⟨t, rfl⟩ := Val.str_inv va; obtain ⟨u, rfl⟩ := Val.int_inv vb
    exact mul_str_sound hf.1 hf.2.1 hf.2.2
  · split at hb <;> cases hb
    rename_i xs n hf
    obtain ⟨l, vs, rfl, hl1, hv1⟩ := va
    obtain ⟨u, rfl⟩ := Val.int_inv vb
    exact mul_list_sound ok hl1 hv1 hf.1 hf.2.1 hf.2.2
  · split at hb <;> cases hb
    rename_i hf
    obtain ⟨t, rfl⟩ := Val.int_inv va; obtain ⟨u, rfl⟩ := Val.int_inv vb
    exact floordiv_int hf.1 (made_int _) (.inl hf.2)
  · split at hb <;> cases hb
    rename_i hf
    obtain ⟨t, rfl⟩ := Val.int_inv va; obtain ⟨u, rfl⟩ := Val.int_inv vb
    exact mod_int' hf (made_int _)
  · cases hb
end
end Mine
end
noncomputable section
open PySem PySem.W PyProof.Rows
namespace Mine

section
variable {T : Tab} {C : Addr} {prog : Program} {w : World} {A : Around} {E : Value → Shared → Prop} {s : Shared} {O : Own}

theorem Rd.reads {h : Heap} {v : Value} {d : PyData} (x : Rd T C O h v (.py d)) : ∃ as, Reads h v d as := by
  cases d with
  | list ds =>
    obtain ⟨a, vs, rfl, ⟨o, ho, hc, k, hd⟩, as, r, _⟩ := x
    exact ⟨a :: as, .list ho hc hd (by simpa using r)⟩
  | _ => obtain ⟨as, r, _⟩ := x; exact ⟨as, r⟩

theorem made_bool {b : Bool} : Made1 s O (.bool b) (.bool b) s := ⟨keeps_refl _, .bool, fun _ e => nomatch e⟩

theorem cmp_sound {op : Cm} {x y : PyData} {r : Bool} {a b : Value} (hb : cmpSem op x y = some r) (hu : A.units + 64 < cLine) (va : Rd T C O s.heap a (.py x)) (vb : Rd T C O s.heap b (.py y)) :
    wpAny (model prog w) A (compareOp (cmOf op) a b) (Made1 s O (.bool r)) E s := by
  unfold cmpSem at hb
  split at hb
  · split at hb <;> cases hb
    rename_i h
    simp only [eqOk, Bool.and_eq_true, decide_eq_true_eq] at h
    obtain ⟨as, ra⟩ := va.reads; obtain ⟨bs, rb⟩ := vb.reads
    exact SeqAt.compareEq_reads ra rb h.1.1 h.2.1 (by omega) made_bool
  · split at hb <;> cases hb
    rename_i h
    simp only [eqOk, Bool.and_eq_true, decide_eq_true_eq] at h
    obtain ⟨as, ra⟩ := va.reads; obtain ⟨bs, rb⟩ := vb.reads
    exact SeqAt.compareNe_reads ra rb h.1.1 h.2.1 (by omega) made_bool
  · cases hb
    obtain ⟨t, rfl⟩ := Val.int_inv va; obtain ⟨u, rfl⟩ := Val.int_inv vb
    exact lt_int made_bool
  · cases hb
    obtain ⟨t, rfl⟩ := Val.int_inv va; obtain ⟨u, rfl⟩ := Val.int_inv vb
    exact le_int made_bool
  · cases hb
    obtain ⟨t, rfl⟩ := Val.int_inv va; obtain ⟨u, rfl⟩ := Val.int_inv vb
    exact gt_int made_bool
  · cases hb
    obtain ⟨t, rfl⟩ := Val.int_inv va; obtain ⟨u, rfl⟩ := Val.int_inv vb
    exact ge_int made_bool
  · cases hb
    obtain rfl := Val.bool_inv va; obtain rfl := Val.bool_inv vb
    exact isnot_bool made_bool
  · cases hb
    obtain ⟨t, rfl⟩ := Val.str_inv va; obtain ⟨u, rfl⟩ := Val.str_inv vb
    exact P.in_str made_bool
  · cases hb
    obtain ⟨t, rfl⟩ := Val.str_inv va; obtain ⟨u, rfl⟩ := Val.str_inv vb
    exact P.notIn_str (by rw [Bool.not_not]; exact made_bool)
  · cases hb

/-- an end that hands on what is there -/
noncomputable def Got1 (s : Shared) (O : Own) (d : PyData) (v : Value) (s' : Shared) : Prop := Keeps s s' ∧ Val O s'.heap v d
theorem Made1.got {d : PyData} {v : Value} {s' : Shared} (x : Made1 s O d v s') : Got1 s O d v s' := ⟨x.1, x.2.1⟩

theorem idxL_nonneg {α : Type} {xs : List α} {i : Int} {x : α} (h : idxL xs i = some x) :
    (0 ≤ i ∧ i < 2 ^ 63 ∧ xs[i.toNat]? = some x) ∨ (i < 0 ∧ -(xs.length : Int) ≤ i ∧ -(2 ^ 63) ≤ i ∧ xs[(i + xs.length).toNat]? = some x) := by
  unfold idxL at h
  split at h
  · split at h
    · exact .inl ⟨by assumption, by assumption, h⟩
    · cases h
  · split at h
    · rename_i h1 h2
      exact .inr ⟨by omega, h2.1, h2.2, h⟩
    · cases h

theorem idx_list {l : Addr} {vs : List Value} {xs : List PyData} {i : Int} {u : Tok} {d : PyData} (hl : s.heap.IsList l vs.toArray) (hv : Vals O s.heap vs xs) (hi : idxL xs i = some d) :
    wpAny (model prog w) A (getItem (.ref l) (.int i u)) (Got1 s O d) E s := by
  rcases idxL_nonneg hi with ⟨h0, h1, hx⟩ | ⟨h0, h1, h2, hx⟩
  · obtain ⟨v, e, hd⟩ := hv.get _ _ hx
    exact wpAny_getItem_list hl h0 h1 (by simpa using e) ⟨keeps_refl _, hd⟩
  · obtain ⟨v, e, hd⟩ := hv.get _ _ hx
    exact wpAny_getItem_list_neg hl h0 (by simp only [List.size_toArray, hv.length]; exact h1) h2 (by simp only [List.size_toArray, hv.length]; simpa using e) ⟨keeps_refl _, hd⟩

theorem seqIndex_of {α : Type} {xs : List α} {i : Int} {x : α} (h : idxL xs i = some x) : -(2 ^ 63) ≤ i ∧ i < 2 ^ 63 ∧ ∃ j, seqIndex? i xs.length = some j ∧ xs[j]? = some x := by
  rcases idxL_nonneg h with ⟨h0, h1, hx⟩ | ⟨h0, h1, h2, hx⟩
  · obtain ⟨hlt, _⟩ := List.getElem?_eq_some_iff.mp hx
    refine ⟨by omega, h1, i.toNat, ?_, hx⟩
    unfold seqIndex?
    simp only [show ¬ i < 0 by omega, if_false]
    rw [if_pos (by simp; omega)]
  · refine ⟨h2, by omega, (i + xs.length).toNat, ?_, hx⟩
    unfold seqIndex?
    simp only [h0, if_true]
    rw [if_pos (by simp; omega)]

theorem idx_sound {x y r : PyData} {a b : Value} (h : idxSem x y = some r) (va : Rd T C O s.heap a (.py x)) (vb : Rd T C O s.heap b (.py y)) :
    wpAny (model prog w) A (getItem a b) (Got1 s O r) E s := by
  unfold idxSem at h
  split at h
  · obtain ⟨l, vs, rfl, hl, hv⟩ := va
    obtain ⟨u, rfl⟩ := Val.int_inv vb
    exact idx_list hl hv h
  · obtain ⟨l, vs, rfl, hl, hv⟩ := Val.tup_inv va
    obtain ⟨u, rfl⟩ := Val.int_inv vb
    obtain ⟨h1, h2, j, h3, h4⟩ := seqIndex_of h
    obtain ⟨v, e, hd⟩ := hv.get _ _ h4
    exact PyProof.Rows.getItem_tuple hl h1 h2 (by simp only [List.size_toArray, hv.length]; exact h3) (by simpa using e) ⟨keeps_refl _, hd⟩
  · obtain ⟨t, rfl⟩ := Val.str_inv va
    obtain ⟨u, rfl⟩ := Val.int_inv vb
    rename_i x i
    cases hc : idxL x.cps.toList i with
    | none => rw [hc] at h; cases h
    | some c =>
      rw [hc] at h; cases h
      obtain ⟨h1, h2, j, h3, h4⟩ := seqIndex_of hc
      exact P.getItem_str (c := c) (by simp; omega) (by simp only [Array.length_toList] at h3; rw [show seqIndex? i x.length = some j from h3]; simpa using h4) (made_str _).got
  · cases h

/-- the type whose items are asked -/
noncomputable def itemType : PyData → Option String
  | .list _ => some "list"
  | .tuple _ => some "tuple"
  | .str _ => some "str"
  | _ => none
theorem typeIs_of {x : PyData} {v : Value} {N : String} (h : itemType x = some N) (va : Rd T C O s.heap v (.py x)) : s.TypeIs v N := by
  unfold itemType at h
  split at h
  · cases h; obtain ⟨l, vs, rfl, hl, hv⟩ := va; exact hl.typeIs
  · cases h; obtain ⟨l, vs, rfl, hl, hv⟩ := Val.tup_inv va; obtain ⟨o, ho, hc, _⟩ := hl; exact ⟨o, ho, hc⟩
  · cases h; obtain ⟨t, rfl⟩ := Val.str_inv va; exact typeIs_str s _ t
  · cases h
theorem getitem_of {x : PyData} {N : String} (h : itemType x = some N) : ∃ id, typeLookup (.type N) (Str.ofString "__getitem__") = pure (some (.builtin id)) := by
  unfold itemType at h
  split at h
  · cases h; exact ⟨_, slot_list_getitem.lookup⟩
  · cases h; exact ⟨_, slot_tuple_getitem.lookup⟩
  · cases h; exact ⟨_, PySem.F.slot_str_getitem.lookup⟩
  · cases h

theorem subscripted_plain (slice : Expr) (o i : Value) : ∃ ops, subscripted slice false o i = operate ops (getItem o i) := by
  unfold subscripted
  split
  · exact ⟨_, rfl⟩
  · rename_i h; cases h
  · exact ⟨_, rfl⟩

theorem sub_sound {x : PyData} {N : String} {value slice : Expr} {a b : Value} {Q : Value → Shared → Prop} (h : itemType x = some N) (va : Rd T C O s.heap a (.py x)) (hg : wpAny (model prog w) A (getItem a b) Q E s) :
    wpAny (model prog w) A (subscriptTail value slice a b) Q E s := by
  obtain ⟨id, hi⟩ := getitem_of h
  obtain ⟨ops, ho⟩ := subscripted_plain slice a b
  exact tail_any (typeIs_of h va) hi hg ho

theorem picked_plain (x : Str) (lo hi : Option Int) : (Builtin.Str.strSliceIndices lo hi 1 x.length).filterMap (x.cps[·]?) = sliceL x.cps.toList lo hi := by
  have e : Builtin.Str.strSliceIndices lo hi 1 x.length = sliceRange (sliceBounds lo hi none x.length).1 (sliceBounds lo hi none x.length).2.1 (sliceBounds lo hi none x.length).2.2 := by
    cases lo <;> cases hi <;> rfl
  rw [e, sliceBounds_plain]
  simp only [sliceRange_one]
  unfold sliceL
  have h := pick_run x.cps (lo.elim 0 (clipAt x.length)) (hi.elim x.length (clipAt x.length) - lo.elim 0 (clipAt x.length))
  simpa [Str.length] using h
theorem clipAt_le (n : Nat) (i : Int) : clipAt n i ≤ n := by
  have := clipAt_cast n i; omega
theorem idx_len (n : Nat) (lo hi : Option Int) : (Builtin.Str.strSliceIndices lo hi 1 n).length = hi.elim n (clipAt n) - lo.elim 0 (clipAt n) := by
  have e : Builtin.Str.strSliceIndices lo hi 1 n = sliceRange (sliceBounds lo hi none n).1 (sliceBounds lo hi none n).2.1 (sliceBounds lo hi none n).2.2 := by
    cases lo <;> cases hi <;> rfl
  rw [e, sliceBounds_plain]
  simp only [sliceRange_one]
  simp
theorem sliceL_length {α : Type} (xs : List α) (lo hi : Option Int) : (sliceL xs lo hi).length ≤ xs.length := by
  unfold sliceL; simp only [List.length_take, List.length_drop]; omega
theorem sliceL_all {α : Type} (xs : List α) (lo hi : Option Int) (h : hi.elim xs.length (clipAt xs.length) - lo.elim 0 (clipAt xs.length) = xs.length) : sliceL xs lo hi = xs := by
  unfold sliceL
  by_cases h0 : xs.length = 0
  · rw [List.length_eq_zero_iff.mp h0]; simp
  · have : hi.elim xs.length (clipAt xs.length) ≤ xs.length := by cases hi <;> simp [clipAt_le]
    have e0 : lo.elim 0 (clipAt xs.length) = 0 := by omega
    rw [e0] at h ⊢
    rw [List.drop_zero, List.take_of_length_le (by omega)]

noncomputable def partTok : Value → Tok
  | .int _ t => t
  | _ => 0
theorem slice_sound {d r : PyData} {lo hi : Option Int} {a vl vu : Value} (h : sliceSem d lo hi = some r) (ok : OwnOk O s.heap) (va : Rd T C O s.heap a (.py d)) (pl : IsPart vl lo) (pu : IsPart vu hi) :
    wpAny (model prog w) A (getItem a (.ref s.heap.objs.size)) (Made1 s O r) E { s with heap := s.heap.push { cls := .type "slice", data := .fields #[vl, vu, .none] } } := by
  unfold sliceSem at h
  have g := Grow.push s.heap { cls := .type "slice", data := .fields #[vl, vu, .none] }
  split at h
  · split at h <;> cases h
    rename_i xs hl
    obtain ⟨l, vs, rfl, hl1, hv⟩ := va
    refine wpAny_getItem_list_slice (hl1.push _) (Heap.IsSliceOf.new ..) pl pu .none (by simp) ?_ (by have := hv.length; have := lim_le; simp only [List.size_toArray]; omega)
    have e : slicePick vs.toArray lo hi none = (sliceL vs lo hi).toArray := by
      rw [slicePick_plain]; unfold sliceL; simp
    have hv' : Vals O s.heap (sliceL vs lo hi) (sliceL xs lo hi) := by unfold sliceL; rw [hv.length]; exact (hv.drop _).take _
    rw [e]
    have k := val_lit_list (s := { s with heap := s.heap.push { cls := .type "slice", data := .fields #[vl, vu, .none] } }) (ok.grow g) (hv'.step (HM.of_grow ok g))
    exact ⟨keeps_trans (keeps_push _ _) k.1, k.2.1, fun xs e => (k.2.2 xs e).back g⟩
  · split at h <;> cases h
    rename_i x hl
    obtain ⟨t, rfl⟩ := Val.str_inv va
    refine wpAny_getItem_str_slice (l := lo.map fun i => (i, partTok vl)) (u := hi.map fun i => (i, partTok vu)) (st := none) ⟨_, Heap.get?_push_size _ rfl, rfl, by cases pl <;> cases pu <;> rfl⟩ rfl ?_
    have hm : ∀ (v : Option Int) (k : Tok), (v.map fun i => (i, k)).map (·.1) = v := fun v k => by cases v <;> rfl
    have hp : slicePicked x (lo.map fun i => (i, partTok vl)) (hi.map fun i => (i, partTok vu)) none = Builtin.Str.strSliceIndices lo hi 1 x.length := by
      unfold slicePicked; rw [hm, hm]; rfl
    unfold sliceMade
    have fin : ∀ t' k, Made1 s O (.str (txt (sliceL x.cps.toList lo hi))) (.str (txt (sliceL x.cps.toList lo hi)) t') { s with heap := s.heap.push { cls := .type "slice", data := .fields #[vl, vu, .none] }, toks := k } :=
      fun t' k => ⟨keeps_mk s _ _ g, .str, fun _ e => nomatch e⟩
    split
    · rename_i hc
      rw [hp] at hc
      simp only [Bool.and_eq_true, beq_iff_eq] at hc
      have hlen := hc.2
      rw [idx_len] at hlen
      have e := sliceL_all x.cps.toList lo hi (by simpa [Str.length] using hlen)
      have := fin t s.toks
      rw [e] at this ⊢
      exact this
    · refine ⟨?_, ?_⟩
      · rw [hp, picked_plain]
        have := sliceL_length x.cps.toList lo hi
        have := lim_le
        simp only [Str.length, List.size_toArray, Array.length_toList] at *; omega
      · rw [hp, picked_plain]; exact fin _ _
  · cases h
end
end Mine
end
noncomputable section
open PySem PySem.W PyProof.Rows
namespace Mine

section
variable {T : Tab} {C : Addr} {prog : Program} {w : World} {A : Around} {E : Value → Shared → Prop} {s : Shared} {O : Own}

theorem ints_are {h : Heap} : ∀ {ds : List PyData} {vs : List Value} {ns : List Int}, Vals O h vs ds → intsOf ds = some ns → IntsAre vs ns ∧ ds = ns.map .int
  | [], vs, ns, x, e => by rw [x.inv_nil]; cases e; exact ⟨.nil, rfl⟩
  | d :: ds, vs, ns, x, e => by
    obtain ⟨v, ws, rfl, a, b⟩ := x.inv
    unfold intsOf at e
    split at e
    · rename_i h; cases h
    · rename_i i r h
      cases h
      cases hr : intsOf ds with
      | none => rw [hr] at e; cases e
      | some ms =>
        rw [hr] at e; cases e
        obtain ⟨t, rfl⟩ := Val.int_inv a
        obtain ⟨h1, h2⟩ := ints_are b hr
        exact ⟨.cons _ _ h1, by rw [h2]; rfl⟩
    · cases e

theorem vals_of_ints {h : Heap} : ∀ {vs : List Value} {ns : List Int}, IntsAre vs ns → Vals O h vs (ns.map .int)
  | _, _, .nil => .nil
  | _, _, .cons _ _ r => .cons .int (vals_of_ints r)

/-- an end that makes any datum -/
noncomputable def MadeD (T : Tab) (C : Addr) (s : Shared) (O : Own) (d : D) (v : Value) (s' : Shared) : Prop := Keeps s s' ∧ DVal T C O s'.heap v d

theorem Made1.d {d : PyData} {v : Value} {s' : Shared} (x : Made1 s O d v s') : MadeD T C s O (.py d) v s' := ⟨x.1, x.2.1⟩
theorem Got1.d {d : PyData} {v : Value} {s' : Shared} (x : Got1 s O d v s') : MadeD T C s O (.py d) v s' := ⟨x.1, x.2⟩

theorem int_madeD {i : Int} {t : Tok} {s' : Shared} (k : Keeps s s') : MadeD T C s O (.py (.int i)) (.int i t) s' := ⟨k, Val.int⟩

theorem moved_keeps {wr : List Addr} {s₂ s' : Shared} (k : Keeps s s₂) (hw : ∀ b ∈ wr, s.heap.get? b = none) (m : Moved wr (fun a b => b = a) s₂ s') : Keeps s s' := by
  obtain ⟨h', tk, rfl, g⟩ := k
  obtain ⟨m1, m2, m3, m4, m5⟩ := m
  obtain ⟨h2, g2, d2, t2, o2⟩ := s'
  simp only at m2 m3 m4
  subst m2 m3 m4
  exact ⟨h2, t2, rfl, fun b o e => m1 b o (fun hb => by rw [hw b hb] at e; cases e) (g b o e)⟩

theorem sum_sound {l : Addr} {vs : List Value} {ns : List Int} (hh : A.handled = none) (hl : s.heap.IsList l vs.toArray) (hi : IntsAre vs ns) :
    wpAny (model prog w) A (call (.builtin "sum") [.ref l]) (MadeD T C s O (.py (.int ns.sum))) E s := by
  have hlt : l < s.heap.objs.size := by obtain ⟨_, e, _⟩ := hl; exact Heap.lt_size e
  refine call_sum_walkAnyS (wpAny_pyIter_list hl ⟨s.heap.objs.size, _, _, _, _, _, _, fun i => ns.getD i 0, rfl, (Walks.list (A := A.in1) hh _ l (Nat.ne_of_lt hlt) vs.toArray).toS, ⟨⟨_, Heap.get?_push_size _ rfl, rfl, rfl⟩, hl.push _⟩, ?_, ?_, ?_⟩)
  · intro b hb
    show b < (s.heap.push _).objs.size
    rw [Heap.size_push]
    rcases List.mem_cons.mp hb with rfl | hb
    · exact Nat.lt_succ_self _
    · rw [List.mem_singleton.mp hb]; exact Nat.lt_succ_of_lt hlt
  · intro i v hv
    have hv' : vs[i]? = some v := by simpa using hv
    have hi' : i < ns.length := by
      have := (List.getElem?_eq_some_iff.mp hv').1
      rw [← hi.length]; exact this
    obtain ⟨t, e⟩ := hi.get i (ns[i]) (by simp [hi'])
    rw [hv'] at e; cases e
    exact ⟨t, by show Value.int ns[i] t = Value.int (ns.getD i 0) t; rw [List.getD_eq_getElem?_getD, List.getElem?_eq_getElem hi']; rfl⟩
  · intro s' t' m
    have e : preSum (fun i => ns.getD i 0) vs.toArray.size = ns.sum := by
      rw [preSum_getD, List.size_toArray, hi.length, List.take_length]
    rw [e]
    exact int_madeD (moved_keeps (keeps_push _ _) (fun b hb => by simp at hb; subst hb; exact fresh_size _) m)

theorem getD_of {ns : List Int} {i : Nat} (h : i < ns.length) : ns.getD i 0 = ns[i] := by rw [List.getD_eq_getElem?_getD, List.getElem?_eq_getElem h]; rfl
theorem ints_at {vs : List Value} {ns : List Int} (hi : IntsAre vs ns) (i : Nat) (v : Value) (hv : vs.toArray[i]? = some v) : ∃ t, v = .int (ns.getD i 0) t := by
  have hv' : vs[i]? = some v := by simpa using hv
  have hi' : i < ns.length := by
    have := (List.getElem?_eq_some_iff.mp hv').1
    rw [← hi.length]; exact this
  obtain ⟨t, e⟩ := hi.get i (ns[i]) (by simp [hi'])
  rw [hv'] at e; cases e
  exact ⟨t, by rw [getD_of hi']⟩

theorem max_of {ns : List Int} (h : 0 < ns.length) : ns.max? = some (ns.getD (argBest (fun i j => decide (ns.getD i 0 > ns.getD j 0)) (ns.length - 1)) 0) := by
  obtain ⟨h1, h2⟩ := argBest_gt (fun i => ns.getD i 0) (ns.length - 1)
  generalize hb : argBest (fun i j => decide (ns.getD i 0 > ns.getD j 0)) (ns.length - 1) = b at *
  have hlt : b < ns.length := by omega
  rw [List.max?_eq_some_iff]
  refine ⟨by rw [getD_of hlt]; exact List.getElem_mem _, fun x hx => ?_⟩
  obtain ⟨j, hj, rfl⟩ := List.mem_iff_getElem.mp hx
  have := h2 j (by omega)
  rwa [getD_of hj] at this

theorem max1_sound {l : Addr} {vs : List Value} {ns : List Int} {m : Int} (hh : A.handled = none) (hl : s.heap.IsList l vs.toArray) (hi : IntsAre vs ns) (hm : ns.max? = some m) :
    wpAny (model prog w) A (call (.builtin "max") [.ref l]) (MadeD T C s O (.py (.int m))) E s := by
  have hlt : l < s.heap.objs.size := by obtain ⟨_, e, _⟩ := hl; exact Heap.lt_size e
  have hn : 0 < ns.length := by cases ns with
    | nil => cases hm
    | cons a r => simp
  refine call_max_walk (wpAny_pyIter_list hl ⟨s.heap.objs.size, _, _, _, _, _, fun i j => decide (ns.getD i 0 > ns.getD j 0), rfl, Walks.list (A := A.in1) hh _ l (Nat.ne_of_lt hlt) vs.toArray, ⟨⟨_, Heap.get?_push_size _ rfl, rfl, rfl⟩, hl.push _⟩, ?_, ?_, CmpOf.ints_gt (fun i => ns.getD i 0) (ints_at hi), ?_⟩)
  · intro b hb
    show b < (s.heap.push _).objs.size
    rw [Heap.size_push]
    rcases List.mem_cons.mp hb with rfl | hb
    · exact Nat.lt_succ_self _
    · rw [List.mem_singleton.mp hb]; exact Nat.lt_succ_of_lt hlt
  · rw [List.size_toArray, hi.length]; exact hn
  · intro v h' tk hv hk
    obtain ⟨t, rfl⟩ := ints_at hi _ _ hv
    rw [List.size_toArray, hi.length]
    rw [max_of hn] at hm
    cases hm
    refine int_madeD ⟨h', tk, rfl, fun b o e => hk b o (fun hb => ?_) (Heap.get?_push_of_some _ e)⟩
    rw [List.mem_singleton.mp hb, fresh_size] at e
    cases e

theorem two_at {a b : Int} {t u : Tok} (i : Nat) (v : Value) (hv : (#[Value.int a t, Value.int b u] : Array Value)[i]? = some v) : ∃ k, v = .int (if i = 0 then a else b) k := by
  match i, hv with
  | 0, hv => cases hv; exact ⟨t, rfl⟩
  | 1, hv => cases hv; exact ⟨u, rfl⟩
  | i + 2, hv => simp at hv

theorem max2_sound {a b : Int} {t u : Tok} (hh : A.handled = none) : wpAny (model prog w) A (call (.builtin "max") [.int a t, .int b u]) (MadeD T C s O (.py (.int (max a b)))) E s := by
  have ht : ({ s with heap := s.heap.push { cls := Value.type "tuple", data := Data.seq #[Value.int a t, Value.int b u] } } : Shared).heap.IsTuple s.heap.objs.size #[.int a t, .int b u] := ⟨_, Heap.get?_push_size _ rfl, rfl, 0, rfl⟩
  have hlt : s.heap.objs.size < (s.heap.push { cls := Value.type "tuple", data := Data.seq #[Value.int a t, Value.int b u] }).objs.size := by rw [Heap.size_push]; exact Nat.lt_succ_self _
  refine call_max_two (wpAny_pyIter_tuple ht ⟨_, _, _, _, _, _, fun i j => decide ((if i = 0 then a else b) > (if j = 0 then a else b)), rfl, Walks.tuple (A := A.in1) hh _ s.heap.objs.size (Nat.ne_of_lt hlt) #[.int a t, .int b u], ⟨⟨_, Heap.get?_push_size _ rfl, rfl, rfl⟩, ?_⟩, ?_, by simp, CmpOf.ints_gt (fun i => if i = 0 then a else b) two_at, ?_⟩)
  · obtain ⟨o, ho, r⟩ := ht; exact ⟨o, Heap.get?_push_of_some _ ho, r⟩
  · intro c hc
    show c < (Heap.push _ _).objs.size
    rw [Heap.size_push]
    rcases List.mem_cons.mp hc with rfl | hc
    · exact Nat.lt_succ_self _
    · rw [List.mem_singleton.mp hc]; exact Nat.lt_succ_of_lt hlt
  · intro v h' tk hv hk
    obtain ⟨k, rfl⟩ := two_at _ _ hv
    have e : (if argBest (fun i j => decide ((if i = 0 then a else b) > (if j = 0 then a else b))) ((#[Value.int a t, Value.int b u] : Array Value).size - 1) = 0 then a else b) = max a b := by
      show (if argBest (fun i j => decide ((if i = 0 then a else b) > (if j = 0 then a else b))) 1 = 0 then a else b) = max a b
      simp only [argBest]
      by_cases h : b > a
      · simp [h]; omega
      · simp [h]; omega
    rw [e]
    refine int_madeD ⟨h', tk, rfl, fun b o e => hk b o (fun hb => ?_) (Heap.get?_push_of_some _ (Heap.get?_push_of_some _ e))⟩
    rw [List.mem_singleton.mp hb, size_none (by rw [Heap.size_push]; exact Nat.le_succ _)] at e
    cases e
theorem min2_sound {a b : Int} {t u : Tok} (hh : A.handled = none) : wpAny (model prog w) A (call (.builtin "min") [.int a t, .int b u]) (MadeD T C s O (.py (.int (min a b)))) E s := by
  have ht : ({ s with heap := s.heap.push { cls := Value.type "tuple", data := Data.seq #[Value.int a t, Value.int b u] } } : Shared).heap.IsTuple s.heap.objs.size #[.int a t, .int b u] := ⟨_, Heap.get?_push_size _ rfl, rfl, 0, rfl⟩
  have hlt : s.heap.objs.size < (s.heap.push { cls := Value.type "tuple", data := Data.seq #[Value.int a t, Value.int b u] }).objs.size := by rw [Heap.size_push]; exact Nat.lt_succ_self _
  refine call_min_two (wpAny_pyIter_tuple ht ⟨_, _, _, _, _, _, fun i j => decide ((if i = 0 then a else b) < (if j = 0 then a else b)), rfl, Walks.tuple (A := A.in1) hh _ s.heap.objs.size (Nat.ne_of_lt hlt) #[.int a t, .int b u], ⟨⟨_, Heap.get?_push_size _ rfl, rfl, rfl⟩, ?_⟩, ?_, by simp, CmpOf.ints_lt (fun i => if i = 0 then a else b) two_at, ?_⟩)
  · obtain ⟨o, ho, r⟩ := ht; exact ⟨o, Heap.get?_push_of_some _ ho, r⟩
  · intro c hc
    show c < (Heap.push _ _).objs.size
    rw [Heap.size_push]
    rcases List.mem_cons.mp hc with rfl | hc
    · exact Nat.lt_succ_self _
    · rw [List.mem_singleton.mp hc]; exact Nat.lt_succ_of_lt hlt
  · intro v h' tk hv hk
    obtain ⟨k, rfl⟩ := two_at _ _ hv
    have e : (if argBest (fun i j => decide ((if i = 0 then a else b) < (if j = 0 then a else b))) ((#[Value.int a t, Value.int b u] : Array Value).size - 1) = 0 then a else b) = min a b := by
      show (if argBest (fun i j => decide ((if i = 0 then a else b) < (if j = 0 then a else b))) 1 = 0 then a else b) = min a b
      simp only [argBest]
      by_cases h : b < a
      · simp [h]; omega
      · simp [h]; omega
    rw [e]
    refine int_madeD ⟨h', tk, rfl, fun b o e => hk b o (fun hb => ?_) (Heap.get?_push_of_some _ (Heap.get?_push_of_some _ e))⟩
    rw [List.mem_singleton.mp hb, size_none (by rw [Heap.size_push]; exact Nat.le_succ _)] at e
    cases e

theorem divmod_sound {a b : Int} {t u : Tok} (ok : OwnOk O s.heap) (hb : b ≠ 0) (hp : Builtin.divisionGoesByPylong a b = false) :
    wpAny (model prog w) A (call (.builtin "divmod") [.int a t, .int b u]) (MadeD T C s O (.py (.tuple [.int (a.fdiv b), .int (a.fmod b)]))) E s := by
  refine divmod_int hb ?_ (.inl hp)
  have k := val_lit_tup ok (vs := [.int (a.fdiv b) s.toks, .int (a.fmod b) (s.toks + 1)]) (ds := [.int (a.fdiv b), .int (a.fmod b)]) (.cons .int (.cons .int .nil))
  exact ⟨⟨_, _, rfl, Grow.push _ _⟩, k.2.1⟩

theorem sorted_perm {l l' : List Int} (hp : l.Perm l') (h1 : l.Pairwise (· ≤ ·)) (h2 : l'.Pairwise (· ≤ ·)) : l = l' :=
  hp.eq_of_pairwise (fun a b _ _ x y => Int.le_antisymm x y) h1 h2

theorem sorted_sound {l : Addr} {vs : List Value} {ns : List Int} (ok : OwnOk O s.heap) (hl : s.heap.IsList l vs.toArray) (hi : IntsAre vs ns) (h64 : ns.length < 64) :
    wpAny (model prog w) A (call (.builtin "sorted") [.ref l]) (MadeD T C s O (.py (.list ((ns.mergeSort fun a b => decide (a ≤ b)).map .int)))) E s := by
  refine sorted_ints hl hi (by rw [hi.length]; exact h64) fun out ns' a1 a2 a3 => ?_
  obtain ⟨e, he⟩ := sortedAll_at s.heap vs out
  have g : Grow s.heap (sortedAll s.heap vs out) := fun _ _ => sortedAll_old
  have hs : ns' = ns.mergeSort fun a b => decide (a ≤ b) := by
    refine sorted_perm (a2.trans (List.mergeSort_perm ns _).symm) a3 ?_
    have := List.pairwise_mergeSort (le := fun a b : Int => decide (a ≤ b)) (fun a b c h1 h2 => by simp at *; omega) (fun a b => by simp; omega) ns
    exact this.imp fun h => by simpa using h
  subst hs
  refine ⟨⟨_, _, rfl, g⟩, Val.list (vs := out.toList) ⟨_, he, rfl, e, by simp⟩ (ok.fresh (size_none (Nat.le_succ _))) (vals_of_ints a1)⟩

theorem tuple_sound {l : Addr} {vs : List Value} {ds : List PyData} (ok : OwnOk O s.heap) (hl : s.heap.IsList l vs.toArray) (hv : Vals O s.heap vs ds) (hn : ds.length ≤ lim) :
    wpAny (model prog w) A (call (.type "tuple") [.ref l]) (MadeD T C s O (.py (.tuple ds))) E s := by
  refine call_tuple_list hl (fun h' hk => ?_) (by have := hv.length; have := lim_le; simp only [List.size_toArray]; omega)
  have g : Grow s.heap (h'.push { cls := .type "tuple", data := .seq vs.toArray }) := fun b o e => Heap.get?_push_of_some _ (hk b o e)
  exact ⟨⟨_, _, rfl, g⟩, Val.tup ⟨_, Heap.get?_push_size _ rfl, rfl, 0, rfl⟩ (hv.step (HM.of_grow ok g))⟩

end
end Mine
end
noncomputable section
open PySem PySem.W PyProof.Rows
namespace Mine

section
variable {T : Tab} {C : Addr} {prog : Program} {w : World} {A : Around} {E : Value → Shared → Prop} {s : Shared} {O : Own}

theorem rng_made {h' : Heap} {tk : Nat} {a b c : Int} {r : Addr} {t u k : Tok} (ok : OwnOk O s.heap) (g : Grow s.heap h') (hr : s.heap.get? r = none) (x : IsRange h' r a b c t u k) :
    MadeD T C s O (.rng a b c) (.ref r) { s with heap := h', toks := tk } := ⟨⟨h', tk, rfl, g⟩, r, t, u, k, rfl, ok.fresh hr, x⟩

theorem pylong_small {a b : Int} (h : b.natAbs < 2 ^ 64) : Builtin.divisionGoesByPylong a b = false := by
  unfold Builtin.divisionGoesByPylong
  simp only [Bool.and_eq_false_iff, decide_eq_false_iff_not]
  left
  split
  · simp
  · rename_i hb
    have : b.natAbs.log2 < 64 := by
      rw [Nat.log2_lt (by simpa using hb)]; exact h
    omega

inductive Rds (T : Tab) (C : Addr) (O : Own) (h : Heap) : List Value → List D → Prop
  | nil : Rds T C O h [] []
  | cons {v vs d ds} : Rd T C O h v d → Rds T C O h vs ds → Rds T C O h (v :: vs) (d :: ds)
theorem Rds.grow {h h' : Heap} {vs : List Value} {ds : List D} (x : Rds T C O h vs ds) (k : OwnOk O h) (g : Grow h h') : Rds T C O h' vs ds := by
  induction x with
  | nil => exact .nil
  | cons a _ ih => exact .cons (a.grow k g) ih
theorem Rds.one {h : Heap} {vs : List Value} {d : D} (x : Rds T C O h vs [d]) : ∃ v, vs = [v] ∧ Rd T C O h v d := by
  cases x with | cons a b => cases b; exact ⟨_, rfl, a⟩
theorem Rds.two {h : Heap} {vs : List Value} {d e : D} (x : Rds T C O h vs [d, e]) : ∃ v w, vs = [v, w] ∧ Rd T C O h v d ∧ Rd T C O h w e := by
  cases x with | cons a b => obtain ⟨w, rfl, c⟩ := b.one; exact ⟨_, _, rfl, a, c⟩
theorem Rds.three {h : Heap} {vs : List Value} {d e f : D} (x : Rds T C O h vs [d, e, f]) : ∃ v w u, vs = [v, w, u] ∧ Rd T C O h v d ∧ Rd T C O h w e ∧ Rd T C O h u f := by
  cases x with | cons a b => obtain ⟨w, u, rfl, c⟩ := b.two; exact ⟨_, _, _, rfl, a, c⟩

theorem fn_sound {k : Fn} {ds : List D} {d : D} {vs : List Value} (h : fnSem k ds = some d) (hh : A.handled = none) (ok : OwnOk O s.heap)
    (hv : Rds T C O s.heap vs ds) : wpAny (model prog w) A (call k.val vs) (MadeD T C s O d) E s := by
  cases k with
  | len =>
    change lenSem ds = some d at h
    unfold lenSem at h
    split at h
    · split at h <;> cases h
      obtain ⟨v, rfl, l, us, rfl, hl, hu⟩ := hv.one
      rename_i hn
      refine PyProof.Rows.len_list hl (by have := hu.length; have := lim_val; simp only [List.size_toArray]; omega) ?_
      rw [List.size_toArray, hu.length]; exact int_madeD (keeps_tok _ _)
    · split at h <;> cases h
      obtain ⟨v, rfl, hx⟩ := hv.one
      obtain ⟨l, us, rfl, hl, hu⟩ := Val.tup_inv hx
      rename_i hn
      refine len_tuple hl (by have := hu.length; have := lim_val; simp only [List.size_toArray]; omega) ?_
      rw [List.size_toArray, hu.length]; exact int_madeD (keeps_tok _ _)
    · split at h <;> cases h
      obtain ⟨v, rfl, hx⟩ := hv.one
      obtain ⟨t, rfl⟩ := Val.str_inv hx
      rename_i hn
      exact P.len_str (by have := lim_val; omega) (int_madeD (keeps_tok _ _))
    · cases h
  | sum =>
    change sumSem ds = some d at h
    unfold sumSem at h
    split at h
    · obtain ⟨v, rfl, l, us, rfl, hl, hu⟩ := hv.one
      rename_i xs
      cases hi : intsOf xs with
      | none => rw [hi] at h; cases h
      | some ns => rw [hi] at h; cases h; exact sum_sound hh hl (ints_are hu hi).1
    · cases h
  | max =>
    change maxSem ds = some d at h
    unfold maxSem at h
    split at h
    · obtain ⟨v, rfl, l, us, rfl, hl, hu⟩ := hv.one
      rename_i xs
      cases hi : intsOf xs with
      | none => rw [hi] at h; cases h
      | some ns =>
        rw [hi, Option.bind_some] at h
        cases hm : ns.max? with
        | none => rw [hm] at h; cases h
        | some m => rw [hm] at h; cases h; exact max1_sound hh hl (ints_are hu hi).1 hm
    · cases h
      obtain ⟨v, u, rfl, h1, h2⟩ := hv.two
      obtain ⟨t, rfl⟩ := Val.int_inv h1; obtain ⟨u, rfl⟩ := Val.int_inv h2
      exact max2_sound hh
    · cases h
  | min =>
    change minSem ds = some d at h
    unfold minSem at h
    split at h
    · cases h
      obtain ⟨v, u, rfl, h1, h2⟩ := hv.two
      obtain ⟨t, rfl⟩ := Val.int_inv h1; obtain ⟨u, rfl⟩ := Val.int_inv h2
      exact min2_sound hh
    · cases h
  | abs =>
    change absSem ds = some d at h
    unfold absSem at h
    split at h
    · cases h
      obtain ⟨v, rfl, h1⟩ := hv.one
      obtain ⟨t, rfl⟩ := Val.int_inv h1
      rename_i a
      refine call_abs_int fun u tk => ?_
      rw [show (if a < 0 then -a else a) = (a.natAbs : Int) by split <;> omega]
      exact int_madeD (keeps_tok _ _)
    · cases h
  | divmod =>
    change divmodSem ds = some d at h
    unfold divmodSem at h
    split at h
    · split at h <;> cases h
      rename_i hf
      obtain ⟨v, u, rfl, h1, h2⟩ := hv.two
      obtain ⟨t, rfl⟩ := Val.int_inv h1; obtain ⟨u, rfl⟩ := Val.int_inv h2
      exact divmod_sound ok hf.1 hf.2
    · cases h
  | sorted =>
    change sortedSem ds = some d at h
    unfold sortedSem at h
    split at h
    · obtain ⟨v, rfl, l, us, rfl, hl, hu⟩ := hv.one
      rename_i xs
      cases hi : intsOf xs with
      | none => rw [hi] at h; cases h
      | some ns =>
        rw [hi, Option.bind_some] at h
        split at h <;> cases h
        rename_i h64
        exact sorted_sound ok hl (ints_are hu hi).1 h64
    · cases h
  | tuple =>
    change tupleSem ds = some d at h
    unfold tupleSem at h
    split at h
    · split at h <;> cases h
      obtain ⟨v, rfl, l, us, rfl, hl, hu⟩ := hv.one
      rename_i hn
      exact tuple_sound ok hl hu hn
    · cases h
  | range =>
    change rangeSem ds = some d at h
    unfold rangeSem at h
    split at h
    · split at h <;> cases h
      obtain ⟨v, rfl, h1⟩ := hv.one
      obtain ⟨t, rfl⟩ := Val.int_inv h1
      exact call_range_1 (rng_made ok (Grow.push _ _) (fresh_size _) (Heap.get?_push_size _ rfl))
    · split at h <;> cases h
      obtain ⟨v, u, rfl, h1, h2⟩ := hv.two
      obtain ⟨t, rfl⟩ := Val.int_inv h1; obtain ⟨u, rfl⟩ := Val.int_inv h2
      exact call_range_2 (rng_made ok (Grow.push _ _) (fresh_size _) (Heap.get?_push_size _ rfl))
    · split at h <;> cases h
      rename_i hf
      obtain ⟨v, u, x, rfl, h1, h2, h3⟩ := hv.three
      obtain ⟨t, rfl⟩ := Val.int_inv h1; obtain ⟨u, rfl⟩ := Val.int_inv h2; obtain ⟨x, rfl⟩ := Val.int_inv h3
      exact call_range_3 hf.2.2.2 (rng_made ok (Grow.push _ _) (fresh_size _) (Heap.get?_push_size _ rfl)) (.inl (pylong_small (by omega)))
    · cases h

noncomputable def Mt.id : Mt → String := fun k => match k with | .join => "str.join" | .rstrip => "str.rstrip" | .lstrip => "str.lstrip" | .count => "list.count"
end
end Mine
end
noncomputable section
open PySem PySem.W PyProof.Rows
namespace Mine

section
variable {T : Tab} {C : Addr} {prog : Program} {w : World} {A : Around} {E : Value → Shared → Prop} {s : Shared} {O : Own} {env : Env}

/-- an iterator over the data xs -/
structure Iter (T : Tab) (C : Addr) (prog : Program) (w : World) (O : Own) (v : Value) (d : D) (xs : List PyData) (s : Shared) (it : Value) (s₂ : Shared) (I : Addr) (fp wr : List Addr) (P : Nat → Value → Prop) (St : Nat → Heap → Prop) : Prop where
  ref : it = .ref I
  walks : ∀ A' : Around, A'.handled = none → Walks prog w A' I fp wr xs.length P St
  start : St 0 s₂.heap
  below : ∀ b ∈ fp, b < s₂.heap.objs.size
  keeps : Keeps s s₂
  fresh : ∀ b ∈ wr, s.heap.get? b = none
  apart : DVal T C O s.heap v d → ∀ b ∈ fp, ¬ O b
  items : ∀ i u, P i u → ∃ x, xs[i]? = some x ∧ Val O s₂.heap u x
  live : ∀ i h, St i h → ∀ b ∈ wr, ∃ o, h.get? b = some o ∧ NotTup o
  items0 : ∀ i u, P i u → ∃ x, xs[i]? = some x ∧ Val O s.heap u x
  there : ∀ i h, St i h → ∀ b ∈ fp, ∃ o, h.get? b = some o
  go : ∀ ds, d = .py (.list ds) → ∀ i h, St i h → ∃ l j, h.IsListIter I l j

theorem rangeL_get (a b c : Int) (i : Nat) (h : i < (Builtin.Range.rangeSize a b c).toNat) : ((rangeL a b c).map PyData.int)[i]? = some (.int (a + i * c)) := by
  unfold rangeL; simp [h]

theorem size_nonneg (a b c : Int) : 0 ≤ Builtin.Range.rangeSize a b c := by
  unfold Builtin.Range.rangeSize
  split
  · split
    · have := Int.ediv_nonneg (a := b - a - 1) (b := c) (by omega) (by omega); omega
    · omega
  · split
    · have := Int.ediv_nonneg (a := a - b - 1) (b := -c) (by omega) (by omega); omega
    · omega

theorem iter_push {v : Value} {d : D} {xs : List PyData} {o : Obj} {fp : List Addr} {P : Nat → Value → Prop} {St : Nat → Heap → Prop} (ok : OwnOk O s.heap)
    (hW : ∀ A' : Around, A'.handled = none → Walks prog w A' s.heap.objs.size (s.heap.objs.size :: fp) [s.heap.objs.size] xs.length P St) (hst : St 0 (s.heap.push o)) (hfp : ∀ b ∈ fp, b < s.heap.objs.size)
    (hap : DVal T C O s.heap v d → ∀ b ∈ fp, ¬ O b) (hit : ∀ i u, P i u → ∃ x, xs[i]? = some x ∧ Val O s.heap u x) (hlive : ∀ i h, St i h → ∃ o, h.get? s.heap.objs.size = some o ∧ NotTup o)
    (hth : ∀ i h, St i h → ∀ b ∈ fp, ∃ o, h.get? b = some o) (hgo : ∀ ds, d = .py (.list ds) → ∀ i h, St i h → ∃ l j, h.IsListIter s.heap.objs.size l j) :
    ∃ I fp wr P St, Iter T C prog w O v d xs s (.ref s.heap.objs.size) { s with heap := s.heap.push o } I fp wr P St := by
  refine ⟨_, _, _, _, _, rfl, hW, hst, ?_, keeps_push _ _, ?_, ?_, ?_, fun i h hs b hb => by rw [List.mem_singleton.mp hb]; exact hlive i h hs, hit, fun i h hs b hb => ?_, hgo⟩
  · intro b hb
    show b < (s.heap.push o).objs.size
    rw [Heap.size_push]
    rcases List.mem_cons.mp hb with rfl | hb
    · exact Nat.lt_succ_self _
    · exact Nat.lt_succ_of_lt (hfp b hb)
  · intro b hb; rw [List.mem_singleton.mp hb]; exact fresh_size _
  · intro hd b hb
    rcases List.mem_cons.mp hb with rfl | hb
    · exact ok.fresh (fresh_size _)
    · exact hap hd b hb
  · intro i u hu
    obtain ⟨x, h1, h2⟩ := hit i u hu
    exact ⟨x, h1, h2.step (HM.of_grow ok (Grow.push _ _))⟩
  · rcases List.mem_cons.mp hb with rfl | hb
    · obtain ⟨o, e, _⟩ := hlive i h hs; exact ⟨o, e⟩
    · exact hth i h hs b hb

theorem fields_live {h : Heap} {a : Addr} {o : Obj} {vs : Array Value} (e : h.get? a = some o) (hd : o.data = .fields vs) : ∃ o, h.get? a = some o ∧ NotTup o :=
  ⟨o, e, fun _ _ _ e' => by rw [hd] at e'; cases e'⟩

theorem iter_sound {d : D} {xs : List PyData} {v : Value} (hd : itemsOf d = some xs) (rd : Rd T C O s.heap v d) (ok : OwnOk O s.heap) :
    wpAny (model prog w) A (pyIter v) (fun it s₂ => ∃ I fp wr P St, Iter T C prog w O v d xs s it s₂ I fp wr P St) E s := by
  unfold itemsOf at hd
  split at hd
  · cases hd
    obtain ⟨l, vs, rfl, hl, hv⟩ := rd
    have hlt : l < s.heap.objs.size := by obtain ⟨_, e, _⟩ := hl; exact Heap.lt_size e
    refine wpAny_pyIter_list hl (iter_push ok (fp := [l]) (P := fun i v => vs.toArray[i]? = some v) (St := fun i h => h.IsListIter s.heap.objs.size l i ∧ h.IsList l vs.toArray) (fun A' hA => ?_) ⟨⟨_, Heap.get?_push_size _ rfl, rfl, rfl⟩, hl.push _⟩ (fun b hb => by rw [List.mem_singleton.mp hb]; exact hlt) (fun hd b hb => ?_) (fun i u hu => ?_) (fun i h st => let ⟨o, e, _, hd⟩ := st.1; fields_live e hd) (fun i h st b hb => by rw [List.mem_singleton.mp hb]; obtain ⟨o, e, _⟩ := st.2; exact ⟨o, e⟩) (fun _ _ i h st => ⟨_, _, st.1⟩))
    · have := Walks.list (prog := prog) (w := w) hA s.heap.objs.size l (Nat.ne_of_lt hlt) vs.toArray
      rw [show vs.toArray.size = xs.length from by rw [← hv.length]; exact List.size_toArray] at this; exact this
    · rw [List.mem_singleton.mp hb]
      obtain ⟨l', vs', e, _, hn, _⟩ := Val.list_inv hd
      cases e; exact hn
    · have hu' : vs[i]? = some u := by simpa using hu
      have hlt : i < _ := (List.getElem?_eq_some_iff.mp hu').1
      have hx : xs[i]? = some (xs[i]'(by rw [← hv.length]; exact hlt)) := by simp
      obtain ⟨v, e, hd⟩ := hv.get _ _ hx
      rw [hu'] at e; cases e
      exact ⟨_, hx, hd⟩
  · cases hd
    obtain ⟨l, vs, rfl, hl, hv⟩ := Val.tup_inv rd
    have hlt : l < s.heap.objs.size := by obtain ⟨_, e, _⟩ := hl; exact Heap.lt_size e
    refine wpAny_pyIter_tuple hl (iter_push ok (fp := [l]) (P := fun i v => vs.toArray[i]? = some v) (St := fun i h => h.IsTupleIter s.heap.objs.size l i ∧ h.IsTuple l vs.toArray) (fun A' hA => ?_) ⟨⟨_, Heap.get?_push_size _ rfl, rfl, rfl⟩, ?_⟩ (fun b hb => by rw [List.mem_singleton.mp hb]; exact hlt) (fun hd b hb => ?_) (fun i u hu => ?_) (fun i h st => let ⟨o, e, _, hd⟩ := st.1; fields_live e hd) (fun i h st b hb => by rw [List.mem_singleton.mp hb]; obtain ⟨o, e, _⟩ := st.2; exact ⟨o, e⟩) (fun _ e => by cases e))
    · have := Walks.tuple (prog := prog) (w := w) hA s.heap.objs.size l (Nat.ne_of_lt hlt) vs.toArray
      rw [show vs.toArray.size = xs.length from by rw [← hv.length]; exact List.size_toArray] at this; exact this
    · obtain ⟨o, ho, r⟩ := hl; exact ⟨o, Heap.get?_push_of_some _ ho, r⟩
    · rw [List.mem_singleton.mp hb]
      obtain ⟨o, ho, hc, n, hdd⟩ := hl
      intro hO
      obtain ⟨o', ho', hn⟩ := ok _ hO
      rw [ho] at ho'; cases ho'
      exact hn _ _ hc hdd
    · have hu' : vs[i]? = some u := by simpa using hu
      have hlt : i < _ := (List.getElem?_eq_some_iff.mp hu').1
      have hx : xs[i]? = some (xs[i]'(by rw [← hv.length]; exact hlt)) := by simp
      obtain ⟨v, e, hd⟩ := hv.get _ _ hx
      rw [hu'] at e; cases e
      exact ⟨_, hx, hd⟩
  · cases hd
    obtain ⟨t, rfl⟩ := Val.str_inv rd
    rename_i x
    have hit : ∀ i u, SignAt x i u → ∃ y, (x.cps.toList.map fun c => PyData.str ⟨#[c]⟩)[i]? = some y ∧ Val O s.heap u y := fun i u hu => by
      obtain ⟨c, k, h1, rfl⟩ := hu
      exact ⟨.str ⟨#[c]⟩, by simp [h1], .str⟩
    have hlen : (x.cps.toList.map fun c => PyData.str ⟨#[c]⟩).length = x.cps.size := by simp
    cases ha : x.cps.all (· < 128)
    · refine wpAny_pyIter_wide ha (iter_push ok (fp := []) (P := SignAt x) (St := fun i h => h.IsStrIter s.heap.objs.size "str_iterator" x t i) (fun A' hA => by rw [hlen]; exact Walks.strWide hA _ x t) ⟨_, Heap.get?_push_size _ rfl, rfl, rfl⟩ (fun b hb => nomatch hb) (fun hd b hb => nomatch hb) hit (fun i h st => let ⟨o, e, _, hd⟩ := st; fields_live e hd) (fun _ _ _ b hb => nomatch hb) (fun _ e => by cases e))
    · refine wpAny_pyIter_ascii ha (iter_push ok (fp := []) (P := SignAt x) (St := fun i h => h.IsStrIter s.heap.objs.size "str_ascii_iterator" x t i) (fun A' hA => by rw [hlen]; exact Walks.strAscii hA _ x t) ⟨_, Heap.get?_push_size _ rfl, rfl, rfl⟩ (fun b hb => nomatch hb) (fun hd b hb => nomatch hb) hit (fun i h st => let ⟨o, e, _, hd⟩ := st; fields_live e hd) (fun _ _ _ b hb => nomatch hb) (fun _ e => by cases e))
  · cases hd
    obtain ⟨r, t, u, k, rfl, hr, hR⟩ := rd
    rename_i a b c
    have hlen : ((rangeL a b c).map PyData.int).length = (Builtin.Range.rangeSize a b c).toNat := by unfold rangeL; simp
    have hn : ((Builtin.Range.rangeSize a b c).toNat : Int) = Builtin.Range.rangeSize a b c := Int.toNat_of_nonneg (size_nonneg a b c)
    generalize hN : (Builtin.Range.rangeSize a b c).toNat = n at *
    have hP : ∀ (i : Nat) (u : Value), (i < n ∧ ∃ t, u = Value.int (a + (i : Int) * c) t) → ∃ x, ((rangeL a b c).map PyData.int)[i]? = some x ∧ Val O s.heap u x := fun i u hu => by
      obtain ⟨h1, t, rfl⟩ := hu
      exact ⟨_, rangeL_get a b c i (by rw [hN]; exact h1), .int⟩
    cases hsm : Builtin.Range.small a b c with
    | true =>
      refine wpAny_pyIter_range hR hsm (iter_push ok (fp := []) (St := fun (i : Nat) (h : Heap) => IsRangeIter h s.heap.objs.size (a + (i : Nat) * c) ((n : Int) - (i : Nat)) c) (fun A' hA => ?_) ?_ (fun b hb => nomatch hb) (fun hd b hb => nomatch hb) hP (fun i h st => fields_live st rfl) (fun _ _ _ b hb => nomatch hb) (fun _ e => by cases e))
      · rw [hlen]; exact (Walks.range hA s.heap.objs.size a c n).bound
      · show IsRangeIter _ _ _ _ _
        rw [hn]; simpa using Heap.get?_push_size _ rfl
    | false =>
      refine wpAny_pyIter_longrange hR hsm (iter_push ok (fp := []) (St := fun (i : Nat) (h : Heap) => IsLongIter h s.heap.objs.size (a + (i : Nat) * c) ((n : Int) - (i : Nat)) c) (fun A' hA => ?_) ?_ (fun b hb => nomatch hb) (fun hd b hb => nomatch hb) hP (fun i h st => fields_live st rfl) (fun _ _ _ b hb => nomatch hb) (fun _ e => by cases e))
      · rw [hlen]; exact (Walks.longrange hA s.heap.objs.size a c n).bound
      · show IsLongIter _ _ _ _ _
        rw [hn]; simpa using Heap.get?_push_size _ rfl
  · cases hd

end
end Mine
end
noncomputable section
open PySem PySem.W PyProof.Rows
namespace Mine

/-- all that a text's proof holds fast -/
structure Cfg where
  T : Tab
  C : Addr
  prog : Program
  w : World
  F : Frag
  hB : Heap
  mg : Str → Option Value
  mb : Str → Option Value
  Cs : Calls
  n : Nat
  me : Addr

structure AOk (n : Nat) (A : Around) : Prop where
  handled : A.handled = none
  depth : A.depth ≤ 301 + n
  units : A.units ≤ 4 + 10 * n
  small : n ≤ 20

inductive DVals (T : Tab) (C : Addr) (O : Own) (h : Heap) : List Value → List D → Prop
  | nil : DVals T C O h [] []
  | cons {v vs d ds} : DVal T C O h v d → DVals T C O h vs ds → DVals T C O h (v :: vs) (d :: ds)
theorem DVals.step {T : Tab} {C : Addr} {O O' : Own} {h h' : Heap} {vs : List Value} {ds : List D} (x : DVals T C O h vs ds) (m : HM O O' h h') : DVals T C O' h' vs ds := by
  induction x with
  | nil => exact .nil
  | cons a _ ih => exact .cons (a.step m) ih
theorem DVals.vals {T : Tab} {C : Addr} {O : Own} {h : Heap} : ∀ {ds : List D} {vs : List Value} {xs : List PyData}, DVals T C O h vs ds → allPy ds = some xs → Vals O h vs xs
  | [], _, _, .nil, e => by cases e; exact .nil
  | d :: ds, _, xs, .cons a b, e => by
    unfold allPy at e
    split at e
    · rename_i h; cases h
    · rename_i h
      cases h
      cases hr : allPy ds with
      | none => rw [hr] at e; cases e
      | some ys => rw [hr] at e; cases e; exact .cons a (b.vals hr)
    · cases e

/-- what the base heap holds -/
structure Cfg.Ok (K : Cfg) : Prop where
  g : K.hB.Ns mainGlobals K.mg
  b : K.hB.Ns builtinsNs K.mb
  frag : K.F.In K.hB
  lim : K.hB.NoLimit
  fns : ∀ k : Fn, K.mg k.name = none ∧ K.mb k.name = some k.val
  nodup : K.T.fields.Nodup
  names : K.T.nm.Nodup ∧ ∀ x ∈ K.T.nm, okName x = true
  attr : ∀ (f : Nat) name, K.T.fields[f]? = some name → plainGet K.F K.C name = true ∧ hasDictIn K.F K.C = true ∧ ∃ a, findIn K.F (.ref K.C) name = some a ∧ noGet K.F a = true
  setF : ∀ (f : Nat) name, K.T.fields[f]? = some name → findIn K.F (.ref K.C) "__setattr__" = some (some (.builtin "object.__setattr__")) ∧ plainOver K.F K.C = true ∧ takerIn K.F K.C name = some none
  few : K.T.fields.length ≤ 100
  call : ∀ k x ds d, K.T.fns[k]? = some x → K.Cs.call k ds = some d → ∃ f, K.mg x = some f ∧ keepIn K.F f = true ∧
    ∀ (A : Around) (s : Shared) (vs : List Value) (O : Own) (E : Value → Shared → Prop) (L : Addr) (m : Str → Option Value), AOk K.n A → Fr K.hB L s.heap m → OwnOk O s.heap → DVals K.T K.C O s.heap vs ds →
      wpAny (model K.prog K.w) A (call f vs) (MadeD K.T K.C s O d) E s
  meth : ∀ k name x ds d, K.T.mts[k]? = some name → K.Cs.meth k x ds = some d → (∃ fs, x = .ws fs) ∧ name ∉ K.T.fields ∧ plainGet K.F K.C name = true ∧ ∃ f, findIn K.F (.ref K.C) name = some (some (.ref f)) ∧ isFn K.F (.ref f) = true ∧
    keepIn K.F (.ref f) = true ∧ ∀ (A : Around) (s : Shared) (v : Value) (vs : List Value) (O : Own) (E : Value → Shared → Prop) (L : Addr) (m : Str → Option Value), AOk K.n A → Fr K.hB L s.heap m → OwnOk O s.heap → DVal K.T K.C O s.heap v x → DVals K.T K.C O s.heap vs ds →
      wpAny (model K.prog K.w) A (PySem.call (.ref f) (v :: vs)) (MadeD K.T K.C s O d) E s
  atom : ∀ k c name d, K.T.atoms[k]? = some (c, name) → K.Cs.atom k = some d → ∃ f, K.mg c = some f ∧
    ∀ (A : Around) (s : Shared) (O : Own) (E : Value → Shared → Prop) (L : Addr) (m : Str → Option Value), Fr K.hB L s.heap m → OwnOk O s.heap → wpAny (model K.prog K.w) A (getAttr f name true) (MadeD K.T K.C s O d) E s

structure EnvOk (K : Cfg) (env : Env) : Prop where
  kind : env.scope.kind = .function
  globals : env.globals = mainGlobals
  builtins : env.builtins = builtinsNs
  cells : ∀ x, env.kindOf x = some .cell → ∃ c, env.cells.lookup x = some c
  above : K.hB.objs.size ≤ env.locals

noncomputable def PlainL (h : Heap) (v : Value) : Prop := ∃ a o, v = .ref a ∧ h.get? a = some o ∧ (o.cls = .type "list" → o.dict = none)
theorem PlainL.grow {h h' : Heap} {v : Value} (x : PlainL h v) (g : Grow h h') : PlainL h' v := let ⟨a, o, e, f, p⟩ := x; ⟨a, o, e, g _ _ f, p⟩
/-- what the name i holds -/
structure Hold (K : Cfg) (O : Own) (h : Heap) (i : Nat) (v : Value) (d : D) : Prop where
  rd : Rd K.T K.C O h v d
  val : K.T.own.contains i = false → DVal K.T K.C O h v d
  plain : K.T.own.contains i = true → PlainL h v
theorem Hold.grow {K : Cfg} {O : Own} {h h' : Heap} {i : Nat} {v : Value} {d : D} (x : Hold K O h i v d) (k : OwnOk O h) (g : Grow h h') : Hold K O h' i v d :=
  ⟨x.rd.grow k g, fun e => (x.val e).step (HM.of_grow k g), fun e => (x.plain e).grow g⟩

/-- what the frame's names hold -/
structure ES (K : Cfg) (env : Env) (O : Own) (ρ : Loc) (s : Shared) : Prop where
  ext : Grow K.hB s.heap
  ok : OwnOk O s.heap
  ns : ∃ m, s.heap.Ns env.locals m
  loc : ∀ i x d, K.T.nm[i]? = some x → ρ i = some d → env.kindOf x = some .local →
    ∃ m v, s.heap.Ns env.locals m ∧ m x = some v ∧ Hold K O s.heap i v d
  cel : ∀ i x d, K.T.nm[i]? = some x → ρ i = some d → env.kindOf x = some .cell →
    ∃ c v, env.cells.lookup x = some c ∧ s.heap.IsCell c (some v) ∧ Hold K O s.heap i v d

theorem ES.grow {K : Cfg} {env : Env} {O : Own} {ρ : Loc} {s s' : Shared} (x : ES K env O ρ s) (k : Keeps s s') : ES K env O ρ s' := by
  have g := keeps_grow k
  refine ⟨x.ext.trans g, x.ok.grow g, (let ⟨m, h⟩ := x.ns; ⟨m, h.keeps g⟩), fun i y d h1 h2 h3 => ?_, fun i y d h1 h2 h3 => ?_⟩
  · obtain ⟨m, v, a, b, c⟩ := x.loc i y d h1 h2 h3
    exact ⟨m, v, a.keeps g, b, c.grow x.ok g⟩
  · obtain ⟨m, v, a, b, c⟩ := x.cel i y d h1 h2 h3
    exact ⟨m, v, a, b.keeps g, c.grow x.ok g⟩

theorem ES.fr {K : Cfg} {env : Env} {O : Own} {ρ : Loc} {s : Shared} (x : ES K env O ρ s) (e : EnvOk K env) : ∃ m, Fr K.hB env.locals s.heap m := let ⟨m, h⟩ := x.ns; ⟨m, h, x.ext, e.above⟩

/-- an expression's end -/
structure Out (K : Cfg) (O : Own) (e : Ex) (d : D) (s : Shared) (v : Value) (s' : Shared) : Prop where
  keeps : Keeps s s'
  rd : Rd K.T K.C O s'.heap v d
  val : e.isOwn = false → DVal K.T K.C O s'.heap v d
  plain : e.isOwn = true → PlainL s'.heap v
  fresh : e.fresh = true → ∀ xs, d = .py (.list xs) → FreshL O s.heap s'.heap v xs

structure Outs (K : Cfg) (O : Own) (es : Exs) (ds : List D) (s : Shared) (vs : List Value) (s' : Shared) : Prop where
  keeps : Keeps s s'
  rds : Rds K.T K.C O s'.heap vs ds
  vals : es.noOwn = true → DVals K.T K.C O s'.heap vs ds

noncomputable def EvOk (K : Cfg) (sc : Scope) (e : Ex) (ast : Expr) : Prop := ∀ (env : Env) (ρ : Loc) (d : D) (O : Own) (s : Shared) (A : Around) (E : Value → Shared → Prop),
  env.scope = sc → ev K.Cs e ρ = some d → EnvOk K env → AOk K.n A → ES K env O ρ s → wpAny (model K.prog K.w) A (eval ast env) (Out K O e d s) E s

noncomputable def EvsOk (K : Cfg) (sc : Scope) (es : Exs) (asts : List Expr) : Prop := ∀ (env : Env) (ρ : Loc) (ds : List D) (O : Own) (s : Shared) (A : Around) (E : Value → Shared → Prop) (pos : Pos),
  env.scope = sc → evs K.Cs es ρ = some ds → EnvOk K env → AOk K.n A → ES K env O ρ s →
    wpAny (model K.prog K.w) A (spliced (backTo pos (starEach asts env))) (Outs K O es ds s) E s

/-- an int, a text, a truth: no object -/
theorem Out.plain' {K : Cfg} {O : Own} {e : Ex} {d : PyData} {s s' : Shared} {v : Value} (k : Keeps s s') (x : Val O s'.heap v d) (f : ∀ xs, d = .list xs → FreshL O s.heap s'.heap v xs) (n : e.isOwn = false := by rfl) : Out K O e (.py d) s v s' :=
  ⟨k, DVal.rd (T := K.T) (C := K.C) (d := .py d) x, fun _ => x, (fun h => by rw [n] at h; cases h), fun _ xs e => f xs (by cases e; rfl)⟩
theorem Out.notFresh {K : Cfg} {O : Own} {e : Ex} {d : D} {s s' : Shared} {v : Value} (k : Keeps s s') (x : DVal K.T K.C O s'.heap v d) (f : e.fresh = false) (n : e.isOwn = false := by rfl) : Out K O e d s v s' :=
  ⟨k, x.rd, fun _ => x, (fun h => by rw [n] at h; cases h), fun h => by rw [f] at h; cases h⟩

section
variable {K : Cfg}

theorem ev_int {sc : Scope} {i : Int} {k : Nat} {p : Pos} : EvOk K sc (.int i) (.Constant (.int i) k p) := by
  intro env ρ d O s A E _ hd _ _ es
  cases hd
  exact wpAny_Constant_int (Out.plain' (keeps_tok _ _) .int fun _ e => nomatch e)
theorem ev_str {sc : Scope} {x : Str} {k : Nat} {p : Pos} : EvOk K sc (.str x) (.Constant (.str x) k p) := by
  intro env ρ d O s A E _ hd _ _ es
  cases hd
  exact Calls.Constant_str (Out.plain' (keeps_tok _ _) .str fun _ e => nomatch e)
theorem ev_bool {sc : Scope} {b : Bool} {k : Nat} {p : Pos} : EvOk K sc (.bool b) (.Constant (.bool b) k p) := by
  intro env ρ d O s A E _ hd _ _ es
  cases hd
  exact fun _ _ _ => Out.plain' (keeps_refl _) .bool fun _ e => nomatch e

theorem name_sound {i : Nat} {x : Str} {p : Pos} {env : Env} {ρ : Loc} {d : D} {O : Own} {s : Shared} {A : Around} {E : Value → Shared → Prop} {Q : Value → Shared → Prop}
    (hx : K.T.var env.scope i x = true) (hd : ρ i = some d) (eo : EnvOk K env) (es : ES K env O ρ s)
    (h : ∀ v, Hold K O s.heap i v d → Q v s) : wpAny (model K.prog K.w) A (eval (.Name x p) env) Q E s := by
  simp only [Tab.var, varKind, okName, Bool.and_eq_true, Bool.or_eq_true, beq_iff_eq, bne_iff_ne, ne_eq] at hx
  obtain ⟨⟨h1, h2⟩, ⟨h3, h4⟩, h5⟩ := hx
  have hdbg : (x == (Str.ofString "__debug__")) = false := by simpa using h3
  rcases h2 with h2 | h2
  · obtain ⟨m, v, a, b, c⟩ := es.loc i x d h1 hd h2
    exact wpAny_Name (wpAny_loadName_local eo.kind h2 a b (h v c)) hdbg
  · obtain ⟨m, v, a, b, c⟩ := es.cel i x d h1 hd h2
    exact wpAny_Name (wpAny_loadName_cell eo.kind h2 a b (h v c)) hdbg

theorem ev_var {sc : Scope} {i : Nat} {x : Str} {p : Pos} (h1 : K.T.var sc i x = true) (h2 : K.T.own.contains i = false) : EvOk K sc (.var i) (.Name x p) := by
  intro env ρ d O s A E hsc hd eo _ es
  subst hsc
  exact name_sound h1 hd eo es fun v c => ⟨keeps_refl _, c.rd, fun _ => c.val h2, (fun hf => nomatch hf), (fun hf => nomatch hf)⟩
theorem ev_own {sc : Scope} {i : Nat} {x : Str} {p : Pos} (h1 : K.T.var sc i x = true) (h2 : K.T.own.contains i = true) : EvOk K sc (.own i) (.Name x p) := by
  intro env ρ d O s A E hsc hd eo _ es
  subst hsc
  exact name_sound h1 hd eo es fun v c => ⟨keeps_refl _, c.rd, (fun hf => nomatch hf), (fun _ => c.plain h2), (fun hf => nomatch hf)⟩

theorem AOk.eq {n : Nat} {A : Around} (a : AOk n A) : A.units + 64 < cLine := by
  have := a.units; have := a.small; have : cLine = 9900 := rfl; omega

theorem made_out {e : Ex} {d : PyData} {O : Own} {s s' s'' : Shared} {v : Value} (k : Keeps s s') (m : Made1 s' O d v s'') (n : e.isOwn = false := by rfl) : Out K O e (.py d) s v s'' := by
  exact Out.plain' (keeps_trans k m.1) m.2.1 (fun xs e => (m.2.2 xs e).back (keeps_grow k)) n

theorem ev_bin {sc : Scope} {op : Op} {a b : Ex} {l r : Expr} {p : Pos} (ha : EvOk K sc a l) (hb : EvOk K sc b r) : EvOk K sc (.bin op a b) (.BinOp l (opOf op) r p) := by
  intro env ρ d O s A E hsc hd eo ao es
  simp only [ev, Option.bind_eq_some_iff, Option.map_eq_some_iff] at hd
  obtain ⟨x, hx, y, hy, x', hx', y', hy', z, hz, rfl⟩ := hd
  refine wpAny_BinOp (wpAny_mono (ha env ρ x O s A E hsc hx eo ao es) (fun va s₁ o₁ => wpAny_mono (hb env ρ y O s₁ A E hsc hy eo ao (es.grow o₁.keeps)) (fun vb s₂ o₂ => ?_) fun _ _ e => e) fun _ _ e => e)
  have e₂ := (es.grow o₁.keeps).grow o₂.keeps
  have g := keeps_grow o₂.keeps
  cases x with
  | py x =>
    cases y with
    | py y =>
      cases hx'; cases hy'
      exact wpAny_mono (bin_sound hz e₂.ok (o₁.rd.grow (es.grow o₁.keeps).ok g) o₂.rd) (fun v s₃ m => made_out (keeps_trans o₁.keeps o₂.keeps) m) fun _ _ e => e
    | _ => cases hy'
  | _ => cases hx'
theorem not_set_marks {o : CmpOp} {r : Expr} (h : isSet r = false) : behindInMarks o r = false := by
  cases r <;> first | rfl | simp [isSet] at h

theorem ev_cmp {sc : Scope} {op : Cm} {a b : Ex} {l r : Expr} {p : Pos} (h4 : isSet r = false) (ha : EvOk K sc a l) (hb : EvOk K sc b r) : EvOk K sc (.cmp op a b) (.Compare l [cmOf op] [r] p) := by
  intro env ρ d O s A E hsc hd eo ao es
  simp only [ev, Option.bind_eq_some_iff, Option.map_eq_some_iff] at hd
  obtain ⟨x, hx, y, hy, x', hx', y', hy', z, hz, rfl⟩ := hd
  refine wpAny_Compare1 (wpAny_mono (ha env ρ x O s A E hsc hx eo ao es) (fun va s₁ o₁ => wpAny_mono (hb env ρ y O s₁ A E hsc hy eo ao (es.grow o₁.keeps)) (fun vb s₂ o₂ => ?_) fun _ _ e => e) fun _ _ e => e) (not_set_marks h4)
  have e₂ := (es.grow o₁.keeps).grow o₂.keeps
  have g := keeps_grow o₂.keeps
  cases x with
  | py x =>
    cases y with
    | py y =>
      cases hx'; cases hy'
      exact wpAny_mono (cmp_sound hz ao.eq (o₁.rd.grow (es.grow o₁.keeps).ok g) o₂.rd) (fun v s₃ m => made_out (keeps_trans o₁.keeps o₂.keeps) m) fun _ _ e => e
    | _ => cases hy'
  | _ => cases hx'
end
end Mine
end
noncomputable section
open PySem PySem.W PyProof.Rows
namespace Mine

section
variable {K : Cfg}

theorem bool_of {d : D} {b : Bool} (h : d.bool? = some b) : d = .py (.bool b) := by
  unfold D.bool? at h
  split at h
  · cases h; rfl
  · cases h
theorem py_of {d : D} {x : PyData} (h : d.py? = some x) : d = .py x := by
  unfold D.py? at h
  split at h
  · cases h; rfl
  · cases h
theorem int_of {d : D} {i : Int} (h : intOf d = some i) : d = .py (.int i) := by
  unfold intOf at h
  split at h
  · cases h; rfl
  · cases h

/-- a test -/
noncomputable def TestOk (K : Cfg) (sc : Scope) (e : Ex) (ast : Expr) : Prop := ∀ (env : Env) (ρ : Loc) (b : Bool) (O : Own) (s : Shared) (A : Around) (E : Value → Shared → Prop),
    env.scope = sc → ev K.Cs e ρ = some (.py (.bool b)) → EnvOk K env → AOk K.n A → ES K env O ρ s →
    wpAny (model K.prog K.w) A (isTrue ast env (eval ast env)) (fun c s' => c = b ∧ Keeps s s') E s

theorem test_cmp {sc : Scope} {op : Cm} {a b : Ex} {l r : Expr} {p : Pos} (h4 : isSet r = false) (ha : EvOk K sc a l) (hb : EvOk K sc b r) : TestOk K sc (.cmp op a b) (.Compare l [cmOf op] [r] p) := by
  intro env ρ d O s A E hsc hd eo ao es
  simp only [ev, Option.bind_eq_some_iff, Option.map_eq_some_iff] at hd
  obtain ⟨x, hx, y, hy, x', hx', y', hy', z, hz, e⟩ := hd
  cases e
  have := py_of hx'; subst this
  have := py_of hy'; subst this
  refine wpAny_isTrue_Compare1 (wpAny_mono (ha env ρ _ O s A E hsc hx eo ao es) (fun va s₁ o₁ => wpAny_mono (hb env ρ _ O s₁ A E hsc hy eo ao (es.grow o₁.keeps)) (fun vb s₂ o₂ => ?_) fun _ _ e => e) fun _ _ e => e) (not_set_marks h4)
  have g := keeps_grow o₂.keeps
  refine wpAny_mono (cmp_sound hz ao.eq (o₁.rd.grow (es.grow o₁.keeps).ok g) o₂.rd) (fun v s₃ m => ?_) fun _ _ e => e
  obtain rfl := Val.bool_inv m.2.1
  exact wpAny_truthy_bool ⟨rfl, keeps_trans (keeps_trans o₁.keeps o₂.keeps) m.1⟩
theorem star_cons {x : Expr} {xs : List Expr} {env : Env} (h : isStar x = false) : starEach (x :: xs) env = (false, eval x env) :: starEach xs env := by
  cases x <;> first | rfl | simp [isStar] at h

theorem evs_nil {sc : Scope} : EvsOk K sc .nil [] := by
  intro env ρ ds O s A E pos _ hd eo ao es
  cases hd; exact args_nil ⟨keeps_refl _, .nil, fun _ => .nil⟩
theorem evs_cons {sc : Scope} {e : Ex} {es : Exs} {x : Expr} {xs : List Expr} (h1 : isStar x = false) (he : EvOk K sc e x) (hs : EvsOk K sc es xs) : EvsOk K sc (.cons e es) (x :: xs) := by
  intro env ρ ds O s A E pos hsc hd eo ao st
  simp only [evs, Option.bind_eq_some_iff, Option.map_eq_some_iff] at hd
  obtain ⟨d, hd, ds, hds, rfl⟩ := hd
  refine args_cons (wpAny_mono (he env ρ d O s A E hsc hd eo ao st) (fun v s₁ o₁ => wpAny_mono (hs env ρ ds O s₁ A E pos hsc hds eo ao (st.grow o₁.keeps)) (fun vs s₂ o₂ => ?_) fun _ _ e => e) fun _ _ e => e) (star_cons h1)
  have g := keeps_grow o₂.keeps
  have ok₁ := (st.grow o₁.keeps).ok
  refine ⟨keeps_trans o₁.keeps o₂.keeps, .cons (o₁.rd.grow ok₁ g) o₂.rds, fun hn => ?_⟩
  simp only [Exs.noOwn, Bool.and_eq_true, Bool.not_eq_true'] at hn
  exact .cons ((o₁.val hn.1).step (HM.of_grow ok₁ g)) (o₂.vals hn.2)

theorem evs_length {es : Exs} : ∀ {C : Calls} {ρ : Loc} {ds : List D}, evs C es ρ = some ds → ds.length = es.length := by
  induction es using Exs.rec (motive_1 := fun _ => True) with
  | nil => intro C ρ ds h; cases h; rfl
  | cons e es _ ih =>
    intro C ρ ds h
    simp only [evs, Option.bind_eq_some_iff, Option.map_eq_some_iff] at h
    obtain ⟨d, hd, ds, hds, rfl⟩ := h
    simp [Exs.length, ih hds]
  | _ => trivial
theorem DVals.length {T : Tab} {C : Addr} {O : Own} {h : Heap} {vs : List Value} {ds : List D} (x : DVals T C O h vs ds) : vs.length = ds.length := by
  induction x with
  | nil => rfl
  | cons _ _ ih => simp [ih]

theorem ev_list {sc : Scope} {es : Exs} {xs : List Expr} {p : Pos} (h1 : es.noOwn = true) (h2 : es.length ≤ 1000) (hs : EvsOk K sc es xs) : EvOk K sc (.list es) (.List xs p) := by
  intro env ρ d O s A E hsc hd eo ao st
  simp only [ev, Option.bind_eq_some_iff, Option.map_eq_some_iff] at hd
  obtain ⟨ds, hds, ys, hy, rfl⟩ := hd
  refine List_ (wpAny_mono (hs env ρ ds O s A E p hsc hds eo ao st) (fun vs s₁ o₁ => ?_) fun _ _ e => e)
  have dv := o₁.vals h1
  have hl := dv.length
  have := evs_length hds
  refine wpAny_newObj_type ?_ (by show vs.toArray.size ≤ sizeLine; rw [List.size_toArray]; have := lim_le; have := lim_val; omega)
  exact made_out o₁.keeps (val_lit_list (st.grow o₁.keeps).ok (dv.vals hy))
theorem ev_tup {sc : Scope} {es : Exs} {xs : List Expr} {k : Nat} {p : Pos} (h1 : es.noOwn = true) (h2 : es.length ≤ 1000) (hs : EvsOk K sc es xs) : EvOk K sc (.tup es) (.Tuple xs k p) := by
  intro env ρ d O s A E hsc hd eo ao st
  simp only [ev, Option.bind_eq_some_iff, Option.map_eq_some_iff] at hd
  obtain ⟨ds, hds, ys, hy, rfl⟩ := hd
  refine Tuple_ (wpAny_mono (hs env ρ ds O s A E p hsc hds eo ao st) (fun vs s₁ o₁ => ?_) fun _ _ e => e)
  have dv := o₁.vals h1
  have hl := dv.length
  have := evs_length hds
  refine wpAny_newObj_type ?_ (by show vs.toArray.size ≤ sizeLine; rw [List.size_toArray]; have := lim_le; have := lim_val; omega)
  exact made_out o₁.keeps (val_lit_tup (st.grow o₁.keeps).ok (dv.vals hy))
theorem idx_type {x y r : PyData} (h : idxSem x y = some r) : ∃ N, itemType x = some N := by
  unfold idxSem at h
  split at h
  · exact ⟨_, rfl⟩
  · exact ⟨_, rfl⟩
  · exact ⟨_, rfl⟩
  · cases h
theorem slice_type {x r : PyData} {lo hi : Option Int} (h : sliceSem x lo hi = some r) : ∃ N, itemType x = some N := by
  unfold sliceSem at h
  split at h
  · exact ⟨_, rfl⟩
  · exact ⟨_, rfl⟩
  · cases h

theorem ev_idx {sc : Scope} {a b : Ex} {l r : Expr} {p : Pos} (ha : EvOk K sc a l) (hb : EvOk K sc b r) : EvOk K sc (.idx a b) (.Subscript l r p) := by
  intro env ρ d O s A E hsc hd eo ao es
  simp only [ev, Option.bind_eq_some_iff, Option.map_eq_some_iff] at hd
  obtain ⟨x, hx, y, hy, x', hx', y', hy', z, hz, rfl⟩ := hd
  have := py_of hx'; subst this
  have := py_of hy'; subst this
  refine Subscript_ (wpAny_mono (ha env ρ _ O s A E hsc hx eo ao es) (fun va s₁ o₁ => wpAny_mono (hb env ρ _ O s₁ A E hsc hy eo ao (es.grow o₁.keeps)) (fun vb s₂ o₂ => ?_) fun _ _ e => e) fun _ _ e => e)
  have g := keeps_grow o₂.keeps
  have ra := o₁.rd.grow (es.grow o₁.keeps).ok g
  obtain ⟨N, hN⟩ := idx_type hz
  refine sub_sound hN ra (wpAny_mono (idx_sound hz ra o₂.rd) (fun v s₃ m => ?_) fun _ _ e => e)
  exact Out.notFresh (keeps_trans (keeps_trans o₁.keeps o₂.keeps) m.1) m.2 rfl
theorem ev_slHi {sc : Scope} {a b : Ex} {l x : Expr} {p q : Pos} (ha : EvOk K sc a l) (hb : EvOk K sc b x) : EvOk K sc (.slHi a b) (.Subscript l (.Slice none (some x) none q) p) := by
  intro env ρ d O s A E hsc hd eo ao es
  simp only [ev, Option.bind_eq_some_iff, Option.map_eq_some_iff] at hd
  obtain ⟨x', hx, y, hy, z, hz, i, hi, r, hr, rfl⟩ := hd
  have := py_of hz; subst this
  have := int_of hi; subst this
  refine Subscript_ (wpAny_mono (ha env ρ _ O s A E hsc hx eo ao es) (fun va s₁ o₁ => wpAny_Slice (wpAny_pure (wpAny_mono (hb env ρ _ O s₁ A E hsc hy eo ao (es.grow o₁.keeps)) (fun vb s₂ o₂ => wpAny_pure ?_) fun _ _ e => e))) fun _ _ e => e)
  have e₂ := (es.grow o₁.keeps).grow o₂.keeps
  have g := keeps_grow o₂.keeps
  have ra := o₁.rd.grow (es.grow o₁.keeps).ok g
  obtain ⟨N, hN⟩ := slice_type hr
  obtain ⟨t, rfl⟩ := Val.int_inv o₂.rd
  refine sub_sound hN (ra.grow e₂.ok (Grow.push _ _)) (wpAny_mono (slice_sound hr e₂.ok ra .none (.int i t)) (fun v s₃ m => ?_) fun _ _ e => e)
  exact made_out (keeps_trans o₁.keeps o₂.keeps) m
end
end Mine
end
noncomputable section
open PySem PySem.W PyProof.Rows
namespace Mine

section
variable {K : Cfg}

theorem stars_none {T : Tab} {sc : Scope} {env : Env} {pos : Pos} {es : Exs} {xs : List Expr} (h : Iss T sc es xs) : (backTo pos (starEach xs env)).any (·.1) = false := by
  induction h using Iss.rec (motive_1 := fun _ _ _ _ => True) (motive_3 := fun _ _ _ _ => True) with
  | nil => rfl
  | cons h1 _ _ _ ih =>
    rw [star_cons h1]
    simpa [backTo] using ih
  | _ => trivial
theorem iss_len {T : Tab} {sc : Scope} {es : Exs} {xs : List Expr} (h : Iss T sc es xs) : xs.length = es.length := by
  induction h using Iss.rec (motive_1 := fun _ _ _ _ => True) (motive_3 := fun _ _ _ _ => True) with
  | nil => rfl
  | cons h1 _ _ _ ih => simp [Exs.length, ih]
  | _ => trivial

/-- a call whose callee is kept by the machine or a frame -/
theorem cw {M : Model} {A : Around} {E : Value → Shared → Prop} {s : Shared} {f : Value} {first : List Value} {pos : Pos} {env : Env} {T : Tab} {sc : Scope} {es : Exs} {xs : List Expr} {P : Heap → Prop} {Q : Value → Shared → Prop}
    (hc : Iss T sc es xs) (hk : ∀ h, P h → ∃ k, (k = Keeper.frame ∨ k = Keeper.machine ∨ k = Keeper.boundFrame) ∧ Looks M h (keeperOf f) k)
    (h : wpAny M A (spliced (backTo pos (starEach xs env))) (fun vs s₁ => P s₁.heap ∧ wpAny M A (call f (first ++ vs)) Q E s₁) E s) :
    wpAny M A (callWith pos f first (backTo pos (starEach xs env)) []) Q E s := by
  refine callWith_of (P := P) (by rw [stars_none hc]; rfl) hk ?_
  cases hc with
  | nil =>
    unfold evalArgs
    show wpAny M A (spliced [] >>= _) _ E s
    refine wpAny_bind (wpAny_mono h (fun vs s' h' => ?_) fun _ _ x => x)
    refine wpAny_holding ?_
    exact wpAny_bind (wpAny_pure (wpAny_bind (wpAny_pure (wpAny_pure h'))))
  | cons h1 h2 h3 =>
    rw [star_cons h1] at h ⊢
    exact Calls.evalArgs_plain h

theorem keeper_fn {M : Model} (k : Fn) (h : Heap) (_ : True) : ∃ r, (r = Keeper.frame ∨ r = Keeper.machine ∨ r = Keeper.boundFrame) ∧ Looks M h (keeperOf k.val) r :=
  ⟨.machine, .inr (.inl rfl), .of_pure (by cases k <;> rfl)⟩

theorem glob_ok {sc : Scope} {x : Str} (h : glob sc x = true) : sc.names.lookup x = some .globalImplicit ∧ (x == (Str.ofString "__debug__")) = false := by
  simp only [glob, okName, Bool.and_eq_true, beq_iff_eq, bne_iff_ne, ne_eq] at h
  exact ⟨h.1, by simpa using h.2.1.1⟩

theorem ev_fn {sc : Scope} {k : Fn} {es : Exs} {np : Pos} {xs : List Expr} {p : Pos} (ok : K.Ok) (h2 : glob sc k.name = true) (h3 : Iss K.T sc es xs) (hs : EvsOk K sc es xs) : EvOk K sc (.fn k es) (.Call (.Name k.name np) xs [] p) := by
  intro env ρ d O s A E hsc hd eo ao st
  subst hsc
  obtain ⟨g1, g2⟩ := glob_ok h2
  simp only [ev, Option.bind_eq_some_iff] at hd
  obtain ⟨ds, hds, hd⟩ := hd
  refine Call_ (Calls.Name_function_global eo.kind g1 (Calls.loadGlobal_builtin (by rw [eo.globals]; exact ok.g.keeps st.ext) (ok.fns k).1 (by rw [eo.builtins]; exact ok.b.keeps st.ext) (ok.fns k).2 ?_) g2)
  refine cw (P := fun _ => True) h3 (keeper_fn k) (wpAny_mono (hs env ρ ds O s A E p rfl hds eo ao st) (fun vs s₁ o₁ => ⟨trivial, ?_⟩) fun _ _ e => e)
  exact wpAny_mono (fn_sound hd ao.handled (st.grow o₁.keeps).ok o₁.rds) (fun v s₂ m => Out.notFresh (keeps_trans o₁.keeps m.1) m.2 rfl) fun _ _ e => e
theorem keeper_K {M : Model} (ok : K.Ok) {f : Value} (hk : keepIn K.F f = true) (h : Heap) (g : Grow K.hB h) : ∃ r, (r = Keeper.frame ∨ r = Keeper.machine ∨ r = Keeper.boundFrame) ∧ Looks M h (keeperOf f) r :=
  keeps_K hk h (ok.frag.keeps g)

theorem ev_call {sc : Scope} {k : Nat} {es : Exs} {x : Str} {np : Pos} {xs : List Expr} {p : Pos} (ok : K.Ok) (h1 : K.T.fns[k]? = some x) (h2 : glob sc x = true) (h4 : es.noOwn = true) (h3 : Iss K.T sc es xs) (hs : EvsOk K sc es xs) : EvOk K sc (.call k es) (.Call (.Name x np) xs [] p) := by
  intro env ρ d O s A E hsc hd eo ao st
  subst hsc
  obtain ⟨g1, g2⟩ := glob_ok h2
  simp only [ev, Option.bind_eq_some_iff] at hd
  obtain ⟨ds, hds, hd⟩ := hd
  obtain ⟨f, hf, hk, hcall⟩ := ok.call k x ds d h1 hd
  refine Call_ (Calls.Name_function_global eo.kind g1 (Calls.loadGlobal_global (by rw [eo.globals]; exact ok.g.keeps st.ext) hf ?_) g2)
  refine cw (P := Grow K.hB) h3 (keeper_K ok hk) (wpAny_mono (hs env ρ ds O s A E p rfl hds eo ao st) (fun vs s₁ o₁ => ⟨(st.grow o₁.keeps).ext, ?_⟩) fun _ _ e => e)
  obtain ⟨m, fr⟩ := (st.grow o₁.keeps).fr eo
  exact wpAny_mono (hcall A s₁ vs O E _ _ ao fr (st.grow o₁.keeps).ok (o₁.vals h4)) (fun v s₂ m => Out.notFresh (keeps_trans o₁.keeps m.1) m.2 rfl) fun _ _ e => e
theorem base_ok {o : Expr} {attr : Str} {env : Env} {whole : Sem Value} (h : plainBase o = true) : attributeBase o attr env whole = whole := by
  unfold attributeBase
  split
  · simp [plainBase] at h
  · rfl

theorem ents_get {O : Own} {h : Heap} : ∀ {ns : List Str} {es : List DictEntry} {ds : List PyData}, Ents O h ns es ds → ns.Nodup → ∀ (f : Nat) (n : Str) (d : PyData), ns[f]? = some n → ds[f]? = some d →
    ∃ v, getL n es = some (some v) ∧ Val O h v d
  | _, _, _, .nil, _, f, n, d, _, h2 => by simp at h2
  | _, _, _, .cons (e := e) ⟨t, ht⟩ hv r, hn, 0, n, d, h1, h2 => by
    simp at h1 h2; subst h1 h2
    refine ⟨e.val, ?_, hv⟩
    unfold getL
    rw [List.find?_cons, ht]
    simp [Value.isStr]
  | _, _, _, .cons (n := n₀) (e := e) ⟨t, ht⟩ hv r, hn, f + 1, n, d, h1, h2 => by
    simp at h1 h2
    obtain ⟨hn1, hn2⟩ := List.nodup_cons.mp hn
    obtain ⟨v, e1, e2⟩ := ents_get r hn2 f n d h1 h2
    refine ⟨v, ?_, e2⟩
    have hne : n₀ ≠ n := fun e => hn1 (e ▸ List.mem_of_getElem? h1)
    unfold getL at e1 ⊢
    rw [List.find?_cons, ht]
    simp only [Value.isStr, beq_eq_false_iff_ne.mpr hne, List.any_cons]
    simp only [DictEntry.refKey, ht, Bool.false_or]
    exact e1
theorem ents_none {O : Own} {h : Heap} {n : Str} : ∀ {ns : List Str} {es : List DictEntry} {ds : List PyData}, Ents O h ns es ds → n ∉ ns → getL n es = some none
  | _, _, _, .nil, _ => rfl
  | _, _, _, .cons (n := n₀) (e := e) ⟨t, ht⟩ hv r, hn => by
    have e1 := ents_none r (fun h => hn (List.mem_cons_of_mem _ h))
    have hne : n₀ ≠ n := fun e => hn (e ▸ List.mem_cons_self)
    unfold getL at e1 ⊢
    rw [List.find?_cons, ht]
    simp only [Value.isStr, beq_eq_false_iff_ne.mpr hne, List.any_cons]
    simp only [DictEntry.refKey, ht, Bool.false_or]
    exact e1

theorem handed_val {O : Own} {h : Heap} {v : Value} {d : PyData} (x : Val O h v d) : handedIn v = true := by
  obtain ⟨as, r, _⟩ := x
  cases r <;> rfl

theorem ev_attr {sc : Scope} {a : Ex} {f : Nat} {v : Expr} {n : Str} {p : Pos} (ok : K.Ok) (h1 : K.T.fields[f]? = some n) (h3 : plainBase v = true) (ha : EvOk K sc a v) : EvOk K sc (.attr a f) (.Attribute v n p) := by
  intro env ρ d O s A E hsc hd eo ao st
  simp only [ev, Option.bind_eq_some_iff] at hd
  obtain ⟨x, hx, hd⟩ := hd
  split at hd
  · rename_i fs
    simp only [Option.map_eq_some_iff] at hd
    obtain ⟨d', hd', rfl⟩ := hd
    refine Attribute_any_ (wpAny_mono (ha env ρ _ O s A E hsc hx eo ao st) (fun ov s₁ o₁ => ?_) fun _ _ e => e) (by rw [arm_eval_Attribute, base_ok h3])
    obtain ⟨y, dx, rfl, hO, w⟩ := o₁.rd
    obtain ⟨es, n', e1, e2⟩ := w.ents
    obtain ⟨v', g1, g2⟩ := ents_get e2 ok.nodup f n d' h1 hd'
    obtain ⟨p1, p2, at', p3, p4⟩ := ok.attr f n h1
    obtain ⟨m, fr⟩ := (st.grow o₁.keeps).fr eo
    exact get_own fr ok.frag (ox := instObj K.C dx) ⟨w.inst, rfl, rfl, e1⟩ p1 p2 p3 p4 g1 (handed_val g2) (Out.notFresh (keeps_trans o₁.keeps (keeps_tok _ _)) g2 rfl)
  · cases hd
theorem meth_call {o : Expr} {name : Str} {apos pos : Pos} {env : Env} {es : Exs} {xs : List Expr} {T : Tab} {sc : Scope} {M : Model} {A : Around} {E : Value → Shared → Prop} {s : Shared} {Q : Value → Shared → Prop}
    (hb : plainBase o = true) (hl : (apos.endLine == pos.line) = true) (hc : Iss T sc es xs) (hn : es.length ≤ 8)
    (h : wpAny M A (eval o env) (fun ov s₁ => ∀ pl, wpAny M A (getMethod ov name pl) (fun ff s₂ => wpAny M A (callWith pos ff.1 ff.2 (backTo pos (starEach xs env)) []) Q E s₂) E s₁) E s) :
    wpAny M A (eval (.Call (.Attribute o name apos) xs [] pos) env) Q E s := by
  rw [arm_eval_Call, base_ok hb]
  refine wpAny_bind (wpAny_mono h (fun ov s₁ h₁ => wpAny_bind (wpAny_standAt ?_)) fun _ _ e => e)
  have hlen := iss_len hc
  have hform : methodCallForm (xs.length + ([] : List Keyword).length) (backTo pos (starEach xs env)) (backToKw pos (keywordEach [] env)) = true := by
    unfold methodCallForm
    have := stars_none (env := env) (pos := pos) hc
    simp only [List.any_eq_false] at this
    simp only [Bool.and_eq_true, List.all_eq_true, decide_eq_true_eq]
    refine ⟨⟨fun x hx => by simpa using this x hx, fun x hx => ?_⟩, ?_⟩
    · simp [backToKw, keywordEach] at hx
    · simp only [List.length_nil, backToKw, keywordEach, List.map_nil, List.isEmpty_nil, if_true]; omega
  have hpos : methodCallPos true o env apos pos = pure pos := by unfold methodCallPos; simp [hl]
  unfold methodCall
  rw [hform]
  refine wpAny_bind (wpAny_holding (wpAny_mono (h₁ _) (fun ff s₂ h₂ => ?_) fun _ _ e => e))
  exact wpAny_bind (wpAny_of_eq hpos h₂)

theorem ev_meth {sc : Scope} {k : Nat} {a : Ex} {es : Exs} {o : Expr} {n : Str} {ap : Pos} {xs : List Expr} {p : Pos} (ok : K.Ok) (h1 : K.T.mts[k]? = some n) (h3 : plainBase o = true) (h4 : a.isOwn = false) (h6 : es.noOwn = true) (h7 : ap.endLine = p.line) (h8 : es.length ≤ 8) (ha : EvOk K sc a o) (h5 : Iss K.T sc es xs) (hs : EvsOk K sc es xs) : EvOk K sc (.meth k a es) (.Call (.Attribute o n ap) xs [] p) := by
  intro env ρ d O s A E hsc hd eo ao st
  simp only [ev, Option.bind_eq_some_iff] at hd
  obtain ⟨x, hx, ds, hds, hd⟩ := hd
  obtain ⟨⟨fs, rfl⟩, hnf, pg, f, hf1, hf2, hk, hcall⟩ := ok.meth k n x ds d h1 hd
  refine meth_call h3 (by simpa using h7) h5 h8 (wpAny_mono (ha env ρ _ O s A E hsc hx eo ao st) (fun ov s₁ o₁ pl => ?_) fun _ _ e => e)
  have ov' := o₁.val h4
  obtain ⟨y, dx, rfl, hO, w⟩ := o₁.rd
  obtain ⟨es', n', e1, e2⟩ := w.ents
  obtain ⟨m, fr⟩ := (st.grow o₁.keeps).fr eo
  refine method_inst fr ok.frag (ox := instObj K.C dx) ⟨w.inst, rfl, rfl, e1⟩ pg hf1 hf2 (ents_none e2 hnf) ?_
  refine cw (P := Grow K.hB) h5 (keeper_K ok hk) (wpAny_mono (hs env ρ ds O s₁ A E p hsc hds eo ao (st.grow o₁.keeps)) (fun vs s₂ o₂ => ⟨((st.grow o₁.keeps).grow o₂.keeps).ext, ?_⟩) fun _ _ e => e)
  have st₂ := (st.grow o₁.keeps).grow o₂.keeps
  obtain ⟨m', fr'⟩ := st₂.fr eo
  exact wpAny_mono (hcall A s₂ _ vs O E _ _ ao fr' st₂.ok (ov'.step (HM.of_grow (st.grow o₁.keeps).ok (keeps_grow o₂.keeps))) (o₂.vals h6))
    (fun v s₂ m => Out.notFresh (keeps_trans (keeps_trans o₁.keeps o₂.keeps) m.1) m.2 rfl) fun _ _ e => e
theorem ev_atom {sc : Scope} {k : Nat} {c n : Str} {cp p : Pos} (ok : K.Ok) (h1 : K.T.atoms[k]? = some (c, n)) (h2 : glob sc c = true) : EvOk K sc (.atom k) (.Attribute (.Name c cp) n p) := by
  intro env ρ d O s A E hsc hd eo ao st
  subst hsc
  obtain ⟨g1, g2⟩ := glob_ok h2
  obtain ⟨f, hf, hget⟩ := ok.atom k c n d h1 hd
  obtain ⟨m, fr⟩ := st.fr eo
  refine Attribute_name (Calls.Name_function_global eo.kind g1 (Calls.loadGlobal_global (by rw [eo.globals]; exact ok.g.keeps st.ext) hf ?_) g2)
  exact wpAny_mono (hget A s O E _ _ fr st.ok) (fun v s₁ m => Out.notFresh m.1 m.2 rfl) fun _ _ e => e
end
end Mine
end
noncomputable section
open PySem PySem.W PyProof.Rows
set_option maxRecDepth 100000
namespace Mine

section
variable {K : Cfg}

end
end Mine
end
noncomputable section
open PySem PySem.W PyProof.Rows
set_option maxRecDepth 100000
namespace Mine

/-- a value that is no object -/
inductive Sc : Value → PyData → Prop
  | int (i : Int) (t : Tok) : Sc (.int i t) (.int i)
  | str (x : Str) (t : Tok) : Sc (.str x t) (.str x)
  | bool (b : Bool) : Sc (.bool b) (.bool b)
noncomputable def scOf : Value → PyData
  | .int i _ => .int i
  | .str x _ => .str x
  | .bool b => .bool b
  | _ => .none
theorem Sc.of {v : Value} {d : PyData} (h : Sc v d) : scOf v = d := by cases h <;> rfl
theorem Sc.val {O : Own} {h : Heap} {v : Value} {d : PyData} (x : Sc v d) : Val O h v d := by
  cases x
  · exact .int
  · exact .str
  · exact .bool
theorem sc_of_val {O : Own} {h : Heap} {v : Value} {d : PyData} (x : Val O h v d) (s : isScalar d = true) : Sc v d := by
  obtain ⟨as, r, _⟩ := x
  cases r <;> first | exact .int _ _ | exact .str _ _ | exact .bool _ | simp [isScalar] at s
theorem scalar_of {d : D} {y : PyData} (h : d.scalar? = some y) : d = .py y ∧ isScalar y = true := by
  unfold D.scalar? at h
  split at h <;> cases h <;> exact ⟨rfl, rfl⟩

noncomputable def closeL (cells : List (Str × Addr)) : List (Str × NameKind) → List (Str × Addr) → List (Str × Addr)
  | [], acc => acc
  | (n, k) :: r, acc => if k == .free then closeL cells r ((n, (cells.lookup n).getD 0) :: acc) else closeL cells r acc

theorem close_eq {env : Env} : ∀ (names : List (Str × NameKind)) (acc : List (Str × Addr)), (∀ y ∈ names, y.2 = .free → ∃ c, env.cells.lookup y.1 = some c) →
    (forIn names acc (fun (x : Str × NameKind) (cs : List (Str × Addr)) => (if (x.2 == NameKind.free) = true then do let a ← cellOf env x.1; pure (ForInStep.yield ((x.1, a) :: cs)) else pure (ForInStep.yield cs) : Sem (ForInStep (List (Str × Addr)))))) = pure (closeL env.cells names acc)
  | [], acc, _ => by simp [closeL]
  | (n, k) :: r, acc, h => by
    rw [List.forIn_cons]
    have hr : ∀ y ∈ r, y.2 = .free → ∃ c, env.cells.lookup y.1 = some c := fun y hy => h y (List.mem_cons_of_mem _ hy)
    unfold closeL
    by_cases hk : (k == NameKind.free) = true
    · obtain ⟨c, hc⟩ := h (n, k) List.mem_cons_self (by simpa using hk)
      simp only [hk, if_true, cellOf, hc, Option.getD_some, pure_bind]
      exact close_eq r _ hr
    · simp only [hk, if_false, pure_bind]
      exact close_eq r _ hr
theorem closureFor_eq {scope : Scope} {env : Env} (h : ∀ y ∈ scope.names, y.2 = .free → ∃ c, env.cells.lookup y.1 = some c) : closureFor scope env = pure (closeL env.cells scope.names []) := by
  unfold closureFor
  have := close_eq (env := env) scope.names [] h
  simp only [bind_pure]
  refine Eq.trans ?_ this
  congr 1

theorem closeL_ok {cells : List (Str × Addr)} : ∀ (names : List (Str × NameKind)) (acc : List (Str × Addr)), (∀ y ∈ names, y.2 = .free → ∃ c, cells.lookup y.1 = some c) →
    (∀ e ∈ acc, cells.lookup e.1 = some e.2) → (∀ e ∈ closeL cells names acc, cells.lookup e.1 = some e.2) ∧ (∀ n, (n ∈ acc.map (·.1) ∨ (n, NameKind.free) ∈ names) → n ∈ (closeL cells names acc).map (·.1))
  | [], acc, _, h => ⟨h, fun n hn => hn.elim id (fun h => nomatch h)⟩
  | (n, k) :: r, acc, hn, h => by
    have hr : ∀ y ∈ r, y.2 = .free → ∃ c, cells.lookup y.1 = some c := fun y hy => hn y (List.mem_cons_of_mem _ hy)
    unfold closeL
    by_cases hk : (k == NameKind.free) = true
    · obtain ⟨c, hc⟩ := hn (n, k) List.mem_cons_self (by simpa using hk)
      simp only [hk, if_true]
      have ih := closeL_ok r ((n, (cells.lookup n).getD 0) :: acc) hr (fun e he => by
        rcases List.mem_cons.mp he with rfl | he
        · simp only [hc, Option.getD_some]
        · exact h e he)
      refine ⟨ih.1, fun m hm => ih.2 m ?_⟩
      rcases hm with hm | hm
      · exact .inl (List.mem_cons_of_mem _ hm)
      · rcases List.mem_cons.mp hm with e | hm
        · cases e; exact .inl List.mem_cons_self
        · exact .inr hm
    · simp only [hk, if_false]
      have ih := closeL_ok r acc hr h
      refine ⟨ih.1, fun m hm => ih.2 m (hm.imp id fun hm => ?_)⟩
      rcases List.mem_cons.mp hm with e | hm
      · cases e; exact absurd (show (NameKind.free == NameKind.free) = true from rfl) hk
      · exact hm
theorem lookup_of_mem {l : List (Str × Addr)} {P : Str → Addr → Prop} {n : Str} (h : ∀ e ∈ l, P e.1 e.2) (hn : n ∈ l.map (·.1)) : ∃ c, l.lookup n = some c ∧ P n c := by
  induction l with
  | nil => cases hn
  | cons e r ih =>
    rw [List.lookup_cons]
    by_cases he : (n == e.1) = true
    · rw [he]
      refine ⟨e.2, rfl, ?_⟩
      rw [beq_iff_eq.mp he]; exact h e List.mem_cons_self
    · have hf : (n == e.1) = false := by simpa using he
      rw [hf]
      refine ih (fun e' he' => h e' (List.mem_cons_of_mem _ he')) ?_
      rcases List.mem_cons.mp hn with e' | hn
      · exact absurd (beq_iff_eq.mpr e') he
      · exact hn
theorem close_lookup {scope : Scope} {env : Env} (h : ∀ y ∈ scope.names, y.2 = .free → ∃ c, env.cells.lookup y.1 = some c) {n : Str} (hn : (n, NameKind.free) ∈ scope.names) :
    ∃ c, (closeL env.cells scope.names []).lookup n = some c ∧ env.cells.lookup n = some c := by
  obtain ⟨h1, h2⟩ := closeL_ok scope.names [] h (fun _ h => nomatch h)
  exact lookup_of_mem (P := fun n c => env.cells.lookup n = some c) h1 (h2 n (.inr hn))

structure CompOk (sc scope : Scope) (x : Str) : Prop where
  kind : scope.kind = .function
  hx : scope.names.lookup x = some .local
  noCell : ∀ y ∈ scope.names, y.2 ≠ .cell
  names : ∀ y ∈ scope.names, y.2 = .local → scope.names.lookup y.1 = some .local
  only : ∀ y ∈ scope.names, y.2 = .local → y.1 = x ∨ y.1 = Str.ofString ".0"
  free : ∀ y ∈ scope.names, y.2 = .free → sc.names.lookup y.1 = some .cell
theorem compOk_of {sc scope : Scope} {x : Str} (h : compOk sc scope x = true) : CompOk sc scope x := by
  simp only [compOk, Bool.and_eq_true, beq_iff_eq, List.all_eq_true, bne_iff_ne, ne_eq, Bool.or_eq_true] at h
  obtain ⟨⟨h1, h2⟩, h3⟩ := h
  refine ⟨h1, h2, fun y hy => (h3 y hy).1.1, fun y hy e => ((h3 y hy).1.2.resolve_left (fun n => n e)).1, fun y hy e => ((h3 y hy).1.2.resolve_left (fun n => n e)).2, fun y hy e => ((h3 y hy).2.resolve_left (fun n => n e)).1⟩

theorem inner_local {sc scope : Scope} {x y : Str} (c : CompOk sc scope x) (h : (relabelS scope sc).names.lookup y = some .local) : y = x ∨ y = Str.ofString ".0" := by
  have := mem_of_lookup h
  simp only [relabelS, List.mem_map] at this
  obtain ⟨⟨n, k⟩, hm, e⟩ := this
  split at e
  · cases e
  · cases e; exact c.only _ hm rfl
theorem inner_cell {sc scope : Scope} {x y : Str} (c : CompOk sc scope x) (h : (relabelS scope sc).names.lookup y = some .cell) : (y, NameKind.free) ∈ scope.names ∧ sc.names.lookup y = some .cell := by
  have := mem_of_lookup h
  simp only [relabelS, List.mem_map] at this
  obtain ⟨⟨n, k⟩, hm, e⟩ := this
  split at e
  · rename_i hc
    cases e
    simp only [Bool.and_eq_true, beq_iff_eq] at hc
    have hk := hc.1.1
    subst hk
    exact ⟨hm, hc.2⟩
  · cases e; exact absurd rfl (c.noCell _ hm)

section
variable {K : Cfg}

theorem nm_inj (ok : K.Ok) {i j : Nat} {x : Str} (hi : K.T.nm[i]? = some x) (hj : K.T.nm[j]? = some x) : i = j := by
  obtain ⟨h1, e1⟩ := List.getElem?_eq_some_iff.mp hi
  obtain ⟨h2, e2⟩ := List.getElem?_eq_some_iff.mp hj
  exact (List.getElem_inj ok.names.1).mp (e1.trans e2.symm)

/-- the state within a comprehension -/
theorem inner_state (ok : K.Ok) {env : Env} {O : Own} {ρ : Loc} {s₁ s₃ : Shared} {scope : Scope} {x : Str} {i : Nat} {C : Addr} {m : Str → Option Value} {v : Value} {d : PyData}
    (eo : EnvOk K env) (es : ES K env O ρ s₁) (c : CompOk env.scope scope x) (hi : K.T.nm[i]? = some x) (ho : K.T.own.contains i = false) (g : Grow s₁.heap s₃.heap) (hC : K.hB.objs.size ≤ C)
    (hn : s₃.heap.Ns C m) (hm : m x = some v) (hv : Sc v d) :
    EnvOk K (compEnvC scope (closeL env.cells scope.names []) C env) ∧ ES K (compEnvC scope (closeL env.cells scope.names []) C env) O (upd ρ i (some (.py d))) s₃ := by
  have hfree : ∀ y ∈ scope.names, y.2 = .free → ∃ c, env.cells.lookup y.1 = some c := fun y hy e => eo.cells y.1 (c.free y hy e)
  refine ⟨⟨c.kind, eo.globals, eo.builtins, fun y hy => ?_, ?_⟩, ⟨es.ext.trans g, es.ok.grow g, ⟨m, hn⟩, fun j y d' h1 h2 h3 => ?_, fun j y d' h1 h2 h3 => ?_⟩⟩
  · obtain ⟨h1, h2⟩ := inner_cell c hy
    obtain ⟨a, h3, _⟩ := close_lookup hfree h1
    exact ⟨a, h3⟩
  · exact hC
  · rcases inner_local c h3 with rfl | rfl
    · have := nm_inj ok h1 hi; subst this
      simp only [upd, if_true] at h2
      cases h2
      exact ⟨m, v, hn, hm, ⟨DVal.rd (T := K.T) (C := K.C) (d := .py d) hv.val, fun _ => hv.val, fun h => by rw [ho] at h; cases h⟩⟩
    · have := ok.names.2 _ (List.mem_of_getElem? h1)
      simp [okName] at this
  · obtain ⟨h4, h5⟩ := inner_cell c h3
    have hji : j ≠ i := fun e => by
      subst e
      rw [hi] at h1; cases h1
      have := mem_of_lookup h3
      have h6 : (relabelS scope env.scope).names.lookup x = some .local := lookup_relabel_local (env := env) c.hx
      have h7 : (relabelS scope env.scope).names.lookup x = some .cell := h3
      rw [h6] at h7; cases h7
    have h2' : ρ j = some d' := by simpa [upd, hji] using h2
    obtain ⟨a, w, e1, e2, e3⟩ := es.cel j y d' h1 h2' h5
    obtain ⟨a', e4, e5⟩ := close_lookup hfree h4
    rw [e1] at e5; cases e5
    exact ⟨a, w, e4, e2.keeps g, e3.grow es.ok g⟩
end
end Mine
end
noncomputable section
open PySem PySem.W PyProof.Rows
set_option maxRecDepth 100000
namespace Mine
section
variable {K : Cfg}

/-- what a comprehension's element makes of a value -/
noncomputable def EltF (f : D → Option D) (v y : Value) : Prop := ∃ d z, f (.py (scOf v)) = some d ∧ d.scalar? = some z ∧ Sc y z
theorem comp_data {O : Own} {h : Heap} {f : D → Option D} : ∀ {xs zs : List PyData} {vs ys : List Value}, compGo f xs = some zs → vs.length = xs.length → (∀ (j : Nat) v, vs[j]? = some v → ∃ x, xs[j]? = some x ∧ Sc v x) →
    Paired (EltF f) vs ys → Vals O h ys zs
  | [], zs, [], ys, hg, _, _, hp => by cases hp; cases hg; exact .nil
  | [], zs, v :: vs, ys, hg, hl, _, hp => by simp at hl
  | x :: xs, zs, [], ys, hg, hl, _, hp => by simp at hl
  | x :: xs, zs, v :: vs, ys, hg, hl, hv, hp => by
    cases hp with
    | cons h1 h2 =>
      simp only [compGo, Option.bind_eq_some_iff, Option.map_eq_some_iff] at hg
      obtain ⟨d, hd, y, hy, r, hr, rfl⟩ := hg
      obtain ⟨x', e1, e2⟩ := hv 0 v rfl
      simp at e1; subst e1
      obtain ⟨d', z, e3, e4, e5⟩ := h1
      rw [e2.of, hd] at e3; cases e3
      rw [hy] at e4; cases e4
      exact .cons e5.val (comp_data hr (by simpa using hl) (fun j w hw => by simpa using hv (j + 1) w (by simpa using hw)) h2)

theorem compGo_at {f : D → Option D} : ∀ {xs zs : List PyData}, compGo f xs = some zs → ∀ (j : Nat) x, xs[j]? = some x → ∃ d z, f (.py x) = some d ∧ d.scalar? = some z
  | [], _, _, j, x, h => by simp at h
  | y :: xs, zs, hg, j, x, h => by
    simp only [compGo, Option.bind_eq_some_iff, Option.map_eq_some_iff] at hg
    obtain ⟨d, hd, z, hz, r, hr, rfl⟩ := hg
    cases j with
    | zero => simp at h; subst h; exact ⟨d, z, hd, hz⟩
    | succ j => exact compGo_at hr j x (by simpa using h)
/-- the pack that a comprehension's rules ask for -/
structure Pack (K : Cfg) (O : Own) (A : Around) (env : Env) (scope : Scope) (x : Str) (ifs : List Expr) (elt : Expr) (p : Value → Bool) (F : Value → Value → Prop) (zs : List PyData) (s : Shared) (it : Value) (s₂ : Shared)
    (I : Addr) (fp wr : List Addr) (n : Nat) (P : Nat → Value → Prop) (St : Nat → Heap → Prop) : Prop where
  ref : it = .ref I
  walks : Walks K.prog K.w A I fp wr n P St
  size : n ≤ sizeLine
  start : St 0 s₂.heap
  below : ∀ b ∈ fp, b < s₂.heap.objs.size
  quiet : QuietOnC K.prog K.w A env scope (closeL env.cells scope.names []) x ifs elt wr P p F s₂
  keeps : Keeps s s₂
  fresh : ∀ b ∈ wr, s.heap.get? b = none
  data : ∀ (h' : Heap) (ys : List Value) (vs : List Value), vs.length = n → (∀ (j : Nat) v, vs[j]? = some v → P j v) → Paired F (vs.filter p) ys → Vals O h' ys zs

theorem pack_comp (ok : K.Ok) {i : Nat} {it elt : Ex} {env : Env} {ρ : Loc} {O : Own} {s : Shared} {A : Around} {E : Value → Shared → Prop} {e iter : Expr} {x : Str} {scope : Scope} (hit : EvOk K env.scope it iter) (helt : EvOk K (relabelS scope env.scope) elt e) {d : D} {xs zs : List PyData}
    (hi : K.T.nm[i]? = some x) (ho : K.T.own.contains i = false) (c : CompOk env.scope scope x)
    (hd : ev K.Cs it ρ = some d) (hx : itemsOf d = some xs) (hl : xs.length ≤ lim) (hsc : xs.all isScalar = true) (hz : compGo (fun y => ev K.Cs elt (upd ρ i (some y))) xs = some zs)
    (eo : EnvOk K env) (ao : AOk K.n A) (es : ES K env O ρ s) :
    wpAny (model K.prog K.w) A (eval iter env) (fun xv s₁ => wpAny (model K.prog K.w) A (pyIter xv) (fun it s₂ => ∃ I fp wr n P St,
      Pack K O A env scope x [] e (fun _ => true) (EltF fun y => ev K.Cs elt (upd ρ i (some y))) zs s it s₂ I fp wr n P St) E s₁) E s := by
  refine wpAny_mono (hit env ρ d O s A E rfl hd eo ao es) (fun xv s₁ o₁ => ?_) fun _ _ e => e
  have es₁ := es.grow o₁.keeps
  refine wpAny_mono (iter_sound hx o₁.rd es₁.ok) (fun it s₂ hI => ?_) fun _ _ e => e
  obtain ⟨I, fp, wr, P, St, hI⟩ := hI
  have items : ∀ j u, P j u → ∃ y, xs[j]? = some y ∧ Sc u y := fun j u hu => by
    obtain ⟨y, e1, e2⟩ := hI.items j u hu
    exact ⟨y, e1, sc_of_val e2 (List.all_eq_true.mp hsc y (List.mem_of_getElem? e1))⟩
  refine ⟨I, fp, wr, xs.length, P, St, hI.ref, hI.walks A ao.handled, Nat.le_trans hl lim_le, hI.start, hI.below, ⟨?_, ?_⟩, keeps_trans o₁.keeps hI.keeps, fun b hb => ?_, fun h' ys vs hl hP hp => ?_⟩
  · intro C j v s₃ m₃ E' hC hP hn hm hk ht
    rw [List.forIn_nil]
    exact wpAny_pure ⟨rfl, keeps_refl _⟩
  · intro C j v s₃ m₃ E' hC hP _ hn hm hk ht
    obtain ⟨y, e1, e2⟩ := items j v hP
    obtain ⟨dd, z, e3, e4⟩ := compGo_at hz j y e1
    have g : Grow s₁.heap s₃.heap := fun b o hb => hk b o (fun hw => by rw [hI.fresh b hw] at hb; cases hb) (keeps_grow hI.keeps _ _ hb)
    have hsz : K.hB.objs.size ≤ C := by
      obtain ⟨m', hm'⟩ := (es₁.grow hI.keeps).ns
      exact Nat.le_trans eo.above (Nat.le_trans (Nat.le_of_lt hm'.lt) hC)
    obtain ⟨eo', es'⟩ := inner_state ok eo es₁ c hi ho g hsz hn hm e2
    refine wpAny_mono (helt _ _ dd O s₃ A E' rfl e3 eo' ao es') (fun w s₄ o₄ => ⟨⟨dd, z, by rw [e2.of]; exact e3, e4, ?_⟩, o₄.keeps⟩) fun _ _ e => e
    obtain ⟨rfl, e5⟩ := scalar_of e4
    obtain ⟨as, r⟩ := o₄.rd.reads
    cases r <;> first | exact .int _ _ | exact .str _ _ | exact .bool _ | simp [isScalar] at e5
  · cases h : s.heap.get? b with
    | none => rfl
    | some o => have := hI.fresh b hb; rw [keeps_grow o₁.keeps _ _ h] at this; cases this
  · refine comp_data hz hl (fun j v hv => items j v (hP j v hv)) ?_
    rwa [List.filter_eq_self.mpr (fun _ _ => rfl)] at hp

theorem folded_plain {iter : Expr} {env : Env} {x : Value} (h : isSet iter = false) : foldedSetIterable iter env x = pure x := by
  cases iter <;> first | rfl | simp [isSet] at h

theorem hclos_of {env : Env} {scope : Scope} {x : Str} (eo : EnvOk K env) (c : CompOk env.scope scope x) : closureFor scope env = pure (closeL env.cells scope.names []) :=
  closureFor_eq fun y hy e => eo.cells y.1 (c.free y hy e)

theorem pack_list {ex : Ex} {O : Own} {A : Around} {env : Env} {scope : Scope} {x : Str} {ifs : List Expr} {elt iter : Expr} {px pos : Pos} {p : Value → Bool} {F : Value → Value → Prop} {zs : List PyData} {s : Shared} {E : Value → Shared → Prop}
    (eo : EnvOk K env) (ok : OwnOk O s.heap) (c : CompOk env.scope scope x) (hset : isSet iter = false) (hfr : ex.isOwn = false)
    (h : wpAny (model K.prog K.w) A (eval iter env) (fun xv s₁ => wpAny (model K.prog K.w) A (pyIter xv) (fun it s₂ => ∃ I fp wr n P St, Pack K O A env scope x ifs elt p F zs s it s₂ I fp wr n P St) E s₁) E s) :
    wpAny (model K.prog K.w) A (eval (.ListComp elt [⟨.Name x px, iter, ifs, 0⟩] scope pos) env) (Out K O ex (.py (.list zs)) s) E s := by
  refine wpAny_ListComp_free p F (hclos_of eo c) c.noCell c.kind c.names c.hx (wpAny_mono h (fun xv s₁ h₁ => wpAny_mono h₁ (fun it s₂ h₂ => ?_) fun _ _ e => e) fun _ _ e => e) fun _ => folded_plain hset
  obtain ⟨I, fp, wr, n, P, St, hP⟩ := h₂
  refine ⟨I, fp, wr, n, P, St, hP.ref, hP.walks, hP.size, hP.start, hP.below, hP.quiet, fun D h' tk ys vs hD hl hpl hlen hv hp hk => ?_⟩
  obtain ⟨h₂', tk₂, rfl, g⟩ := hP.keeps
  have g' : Grow s.heap h' := fun b o e => hk b o (fun hw => by rw [hP.fresh b hw] at e; cases e) (g b o e)
  have hDs : s.heap.get? D = none := by
    cases h : s.heap.get? D with
    | none => rfl
    | some o => rw [g _ _ h] at hD; cases hD
  obtain ⟨np, hnp⟩ := hpl
  exact Out.plain' ⟨h', tk, rfl, g'⟩ (Val.list (vs := ys.toList) (by simpa using hl) (ok.fresh hDs) (hP.data h' ys.toList vs hlen hv hp))
    (fun xs e => by cases e; exact ⟨D, ys.toList, np, s.heap, rfl, hDs, Grow.refl _, g', hP.data s.heap ys.toList vs hlen hv hp, by simpa using hnp⟩) hfr

theorem ev_comp (ok : K.Ok) {sc : Scope} {i : Nat} {it elt : Ex} {e iter : Expr} {x : Str} {px pos : Pos} {scope : Scope} (h1 : K.T.nm[i]? = some x) (h3 : K.T.own.contains i = false) (h5 : isSet iter = false) (h6 : compOk sc scope x = true)
    (hit : EvOk K sc it iter) (helt : EvOk K (relabelS scope sc) elt e) : EvOk K sc (.comp i it elt) (.ListComp e [⟨.Name x px, iter, [], 0⟩] scope pos) := by
  intro env ρ d O s A E hsc hd eo ao es
  subst hsc
  simp only [ev, Option.bind_eq_some_iff] at hd
  obtain ⟨dd, hdd, xs, hxs, hd⟩ := hd
  split at hd
  · rename_i hc
    simp only [Option.map_eq_some_iff] at hd
    obtain ⟨zs, hz, rfl⟩ := hd
    have c := compOk_of h6
    exact pack_list eo es.ok c h5 rfl (pack_comp ok hit helt h1 h3 c hdd hxs hc.1 hc.2 hz eo ao es)
  · cases hd

end
end Mine
end
noncomputable section
open PySem PySem.W PyProof.Rows
set_option maxRecDepth 100000
namespace Mine
section
variable {K : Cfg}

theorem ev_sound (ok : K.Ok) {sc : Scope} {e : Ex} {x : Expr} (h : Is K.T sc e x) : EvOk K sc e x :=
  Is.rec (T := K.T) (motive_1 := fun sc e x _ => EvOk K sc e x) (motive_2 := fun sc es xs _ => EvsOk K sc es xs) (motive_3 := fun sc e x _ => TestOk K sc e x)
    ev_int ev_str ev_bool (fun h1 h2 => ev_var h1 h2) (fun h1 h2 => ev_own h1 h2) (fun h _ _ a b => h ▸ ev_bin a b) (fun h h2 _ _ a b => h ▸ ev_cmp h2 a b) (fun h1 h2 _ es => ev_list h1 h2 es) (fun h1 h2 _ es => ev_tup h1 h2 es) (fun h1 h2 h3 h4 _ _ it elt => ev_comp ok h1 h2 h3 h4 it elt) (fun _ _ _ a b => ev_idx a b) (fun _ _ a b => ev_slHi a b) (fun h1 h2 _ a => ev_attr ok h1 h2 a) (fun h h1 _ es hs => by subst h; exact ev_fn ok h1 es hs) (fun h1 h2 h3 _ es hs => ev_call ok h1 h2 h3 es hs) (fun h1 h2 h3 h4 h5 h6 _ es a hs => ev_meth ok h1 h2 h3 h4 h5 h6 a es hs) (fun h1 h2 => ev_atom ok h1 h2) evs_nil (fun h _ _ e es => evs_cons h e es) (fun h h2 _ _ a b => h ▸ test_cmp h2 a b) h
theorem tst_sound (ok : K.Ok) {sc : Scope} {e : Ex} {x : Expr} (h : IsT K.T sc e x) : TestOk K sc e x := by
  exact IsT.rec (T := K.T) (motive_1 := fun _ _ _ _ => True) (motive_2 := fun _ _ _ _ => True) (motive_3 := fun sc e x _ => TestOk K sc e x)
    (by intros; trivial) (by intros; trivial) (by intros; trivial) (by intros; trivial) (by intros; trivial) (by intros; trivial) (by intros; trivial) (by intros; trivial) (by intros; trivial) (by intros; trivial) (by intros; trivial) (by intros; trivial) (by intros; trivial) (by intros; trivial) (by intros; trivial) (by intros; trivial) (by intros; trivial) (by intros; trivial) (by intros; trivial) (fun h h2 a b _ _ => h ▸ test_cmp h2 (ev_sound ok a) (ev_sound ok b)) h
end
end Mine
end
noncomputable section
open PySem PySem.W PyProof.Rows
set_option maxRecDepth 100000
namespace Mine

/-- what the frame's own steps may change -/
noncomputable def Priv (env : Env) (oa : Nat → Option Addr) : Own := fun a => a = env.locals ∨ (∃ x, env.cells.lookup x = some a) ∨ ∃ i, oa i = some a
noncomputable def OwnOf (Oc : Own) (env : Env) (oa : Nat → Option Addr) : Own := fun a => Oc a ∨ Priv env oa a
structure Step (env : Env) (oa oa' : Nat → Option Addr) (h h' : Heap) : Prop where
  keep : ∀ a o, h.get? a = some o → ¬ Priv env oa a → h'.get? a = some o
  fresh : ∀ a, Priv env oa' a → Priv env oa a ∨ h.get? a = none
theorem Step.of_grow {env : Env} {oa : Nat → Option Addr} {h h' : Heap} (g : Grow h h') : Step env oa oa h h' := ⟨fun a o e _ => g a o e, fun a p => .inl p⟩
theorem Step.trans {env : Env} {oa oa' oa'' : Nat → Option Addr} {h h' h'' : Heap} (x : Step env oa oa' h h') (y : Step env oa' oa'' h' h'') : Step env oa oa'' h h'' := by
  refine ⟨fun a o e n => y.keep a o (x.keep a o e n) fun p => ?_, fun a p => ?_⟩
  · rcases x.fresh a p with q | q
    · exact n q
    · rw [e] at q; cases q
  · rcases y.fresh a p with q | q
    · exact x.fresh a q
    · by_cases n : Priv env oa a
      · exact .inl n
      · right
        cases e : h.get? a with
        | none => rfl
        | some o => rw [x.keep a o e n] at q; cases q
theorem Step.hm {Oc : Own} {env : Env} {oa oa' : Nat → Option Addr} {h h' : Heap} (x : Step env oa oa' h h') (k : OwnOk (OwnOf Oc env oa) h) : HM (OwnOf Oc env oa) (OwnOf Oc env oa') h h' := by
  refine ⟨fun a o e n => x.keep a o e fun p => n (.inr p), fun a o e n q => ?_, fun a o ha e => ?_⟩
  · rcases q with q | q
    · exact n (.inl q)
    · rcases x.fresh a q with r | r
      · exact n (.inr r)
      · rw [e] at r; cases r
  · obtain ⟨o', e', n⟩ := k a ha
    rw [e] at e'; cases e'; exact n

inductive Stored (env : Env) (h : Heap) (x : Str) (v : Value) : Prop
  | loc (m : Str → Option Value) : env.kindOf x = some .local → h.Ns env.locals m → m x = some v → Stored env h x v
  | cel (c : Addr) : env.kindOf x = some .cell → env.cells.lookup x = some c → h.IsCell c (some v) → Stored env h x v
theorem Stored.grow {env : Env} {h h' : Heap} {x : Str} {v : Value} (s : Stored env h x v) (g : Grow h h') : Stored env h' x v := by
  cases s with
  | loc m a b c => exact .loc m a (b.keeps g) c
  | cel m a b c => exact .cel m a b (c.keeps g)

/-- what a name owns -/
noncomputable def OwnedAt (K : Cfg) (O : Own) (h : Heap) (v : Value) (a : Addr) : D → Prop
  | .py (.list ds) => ∃ vs n, v = .ref a ∧ IsL h a vs.toArray n ∧ Vals O h vs ds
  | .ws fs => ∃ x, v = .ref x ∧ ¬ O x ∧ WsAt K.T K.C O h x a fs ∧ x = K.me
  | _ => False
theorem OwnedAt.step {K : Cfg} {O O' : Own} {h h' : Heap} {v : Value} {a : Addr} {d : D} (x : OwnedAt K O h v a d) (m : HM O O' h h') (ha : ∀ o, h.get? a = some o → h'.get? a = some o) : OwnedAt K O' h' v a d := by
  cases d with
  | py d => cases d with
    | list ds => obtain ⟨vs, n, rfl, hl, hv⟩ := x; exact ⟨vs, n, rfl, ha _ hl, hv.step m⟩
    | _ => exact x.elim
  | ws fs =>
    obtain ⟨y, rfl, hy, w, hme⟩ := x
    obtain ⟨es, n, e1, e2⟩ := w.ents
    exact ⟨y, rfl, m.less _ _ w.inst hy, ⟨m.keep _ _ w.inst hy, es, n, ha _ e1, e2.step m⟩, hme⟩
  | rng _ _ _ => exact x.elim
theorem OwnedAt.rd {K : Cfg} {O : Own} {h : Heap} {v : Value} {a : Addr} {d : D} (x : OwnedAt K O h v a d) : Rd K.T K.C O h v d := by
  cases d with
  | py d => cases d with
    | list ds => obtain ⟨vs, n, rfl, hl, hv⟩ := x; exact ⟨a, vs, rfl, hl.isList, hv⟩
    | _ => exact x.elim
  | ws fs => obtain ⟨y, rfl, hy, w, _⟩ := x; exact ⟨y, a, rfl, hy, w⟩
  | rng _ _ _ => exact x.elim
theorem OwnedAt.plain {K : Cfg} {O : Own} {h : Heap} {v : Value} {a : Addr} {d : D} (x : OwnedAt K O h v a d) : PlainL h v := by
  cases d with
  | py d => cases d with
    | list ds => obtain ⟨vs, n, rfl, hl, hv⟩ := x; exact ⟨a, _, rfl, hl, fun _ => rfl⟩
    | _ => exact x.elim
  | ws fs => obtain ⟨y, rfl, hy, w, _⟩ := x; exact ⟨y, _, rfl, w.inst, fun e => nomatch e⟩
  | rng _ _ _ => exact x.elim

/-- a function's frame, as it stands from its first step on -/
structure FrOk (K : Cfg) (env : Env) (s₀ : Shared) : Prop where
  eo : EnvOk K env
  inj : ∀ x y c, env.cells.lookup x = some c → env.cells.lookup y = some c → x = y
  apart : ∀ x c, env.cells.lookup x = some c → c ≠ env.locals
  newL : s₀.heap.get? env.locals = none
  newC : ∀ x c, env.cells.lookup x = some c → s₀.heap.get? c = none
  base : Grow K.hB s₀.heap

structure FS (K : Cfg) (Oc : Own) (env : Env) (ρ : Loc) (vl : Nat → Option Value) (oa : Nat → Option Addr) (s₀ s : Shared) : Prop where
  same : ∃ h tk, s = { s₀ with heap := h, toks := tk }
  keep : Grow s₀.heap s.heap
  ns : ∃ m, s.heap.Ns env.locals m
  cells : ∀ x c, env.cells.lookup x = some c → ∃ v, s.heap.IsCell c v
  st : ∀ i x v, K.T.nm[i]? = some x → vl i = some v → Stored env s.heap x v
  hold : ∀ i d, ρ i = some d → ∃ v, vl i = some v ∧ (K.T.own.contains i = false → DVal K.T K.C (OwnOf Oc env oa) s.heap v d) ∧ (K.T.own.contains i = true → ∃ a, oa i = some a ∧ OwnedAt K (OwnOf Oc env oa) s.heap v a d)
  okc : OwnOk Oc s.heap
  ocP : ∀ a, Oc a → ¬ Priv env oa a
  oaInj : ∀ i j a, oa i = some a → oa j = some a → i = j
  oaNew : ∀ i a, oa i = some a → s₀.heap.get? a = none ∧ a ≠ env.locals ∧ (∀ x, env.cells.lookup x ≠ some a) ∧ ∃ o, s.heap.get? a = some o ∧ NotTup o

section
variable {K : Cfg} {Oc : Own} {env : Env} {ρ : Loc} {vl : Nat → Option Value} {oa : Nat → Option Addr} {s₀ s : Shared}

theorem FS.ok (f : FS K Oc env ρ vl oa s₀ s) : OwnOk (OwnOf Oc env oa) s.heap := by
  intro a ha
  rcases ha with ha | rfl | ⟨x, hx⟩ | ⟨i, hi⟩
  · exact f.okc a ha
  · obtain ⟨m, o, es, ep, ho, hd, _⟩ := f.ns
    exact ⟨o, ho, fun vs n _ e => by rw [hd] at e; cases e⟩
  · obtain ⟨v, o, ho, hd⟩ := f.cells x a hx
    exact ⟨o, ho, fun vs n _ e => by rw [hd] at e; cases e⟩
  · exact (f.oaNew i a hi).2.2.2

theorem FS.es (f : FS K Oc env ρ vl oa s₀ s) (fr : FrOk K env s₀) : ES K env (OwnOf Oc env oa) ρ s := by
  have hold : ∀ i d, ρ i = some d → ∃ v, vl i = some v ∧ Hold K (OwnOf Oc env oa) s.heap i v d := fun i d h => by
    obtain ⟨v, h1, h2, h3⟩ := f.hold i d h
    refine ⟨v, h1, ?_, h2, fun h => let ⟨a, _, o⟩ := h3 h; o.plain⟩
    cases ho : K.T.own.contains i with
    | false => exact (h2 ho).rd
    | true => obtain ⟨a, _, o⟩ := h3 ho; exact o.rd
  refine ⟨fr.base.trans f.keep, f.ok, f.ns, fun i x d h1 h2 h3 => ?_, fun i x d h1 h2 h3 => ?_⟩
  · obtain ⟨v, h4, h5⟩ := hold i d h2
    cases f.st i x v h1 h4 with
    | loc m a b c => exact ⟨m, v, b, c, h5⟩
    | cel c a _ _ => rw [h3] at a; cases a
  · obtain ⟨v, h4, h5⟩ := hold i d h2
    cases f.st i x v h1 h4 with
    | loc m a b c => rw [h3] at a; cases a
    | cel c a b e => exact ⟨c, v, b, e, h5⟩

theorem FS.grow {s' : Shared} (f : FS K Oc env ρ vl oa s₀ s) (k : Keeps s s') : FS K Oc env ρ vl oa s₀ s' := by
  have g := keeps_grow k
  have m := HM.of_grow f.ok g
  obtain ⟨h', tk', rfl, _⟩ := k
  obtain ⟨h, tk, e⟩ := f.same
  subst e
  refine ⟨⟨h', tk', rfl⟩, f.keep.trans g, (let ⟨m, h⟩ := f.ns; ⟨m, h.keeps g⟩), fun x c h => (let ⟨v, h⟩ := f.cells x c h; ⟨v, h.keeps g⟩), fun i x v h1 h2 => (f.st i x v h1 h2).grow g, fun i d h => ?_, f.okc.grow g, f.ocP, f.oaInj, fun i a h => ?_⟩
  · obtain ⟨v, h1, h2, h3⟩ := f.hold i d h
    exact ⟨v, h1, fun e => (h2 e).step m, fun e => let ⟨a, ha, o⟩ := h3 e; ⟨a, ha, o.step m fun _ e => g _ _ e⟩⟩
  · obtain ⟨h1, h2, h3, o, h4, h5⟩ := f.oaNew i a h
    exact ⟨h1, h2, h3, o, g _ _ h4, h5⟩

theorem ns_fun {h : Heap} {a : Addr} {m m' : Str → Option Value} (x : h.Ns a m) (y : h.Ns a m') : m = m' := by
  obtain ⟨o, es, ep, h1, h2, _, h3⟩ := x
  obtain ⟨o', es', ep', h1', h2', _, h3'⟩ := y
  rw [h1] at h1'; cases h1'
  rw [h2] at h2'; cases h2'
  funext n; rw [← h3, ← h3']

/-- a store into the frame, at p -/
theorem FS.put {s' : Shared} {p : Addr} {i : Nat} {x : Str} {v : Value} {d : D} (f : FS K Oc env ρ vl oa s₀ s) (fr : FrOk K env s₀) (ok : K.Ok) (hi : K.T.nm[i]? = some x)
    (hp : p = env.locals ∨ ∃ y, env.cells.lookup y = some p) (hsame : ∃ h tk, s' = { s with heap := h, toks := tk }) (hs : Heap.ExtBut p s.heap s'.heap) (hns : ∃ m, s'.heap.Ns env.locals m) (hcell : ∀ y c, env.cells.lookup y = some c → ∃ w, s'.heap.IsCell c w)
    (hst : Stored env s'.heap x v) (hoth : ∀ y w, y ≠ x → Stored env s.heap y w → Stored env s'.heap y w)
    (hv : K.T.own.contains i = false → DVal K.T K.C (OwnOf Oc env oa) s'.heap v d) (hv' : K.T.own.contains i = true → ∃ a, oa i = some a ∧ OwnedAt K (OwnOf Oc env oa) s'.heap v a d) :
    FS K Oc env (upd ρ i (some d)) (fun j => if j = i then some v else vl j) oa s₀ s' ∧ Step env oa oa s.heap s'.heap := by
  have hO : Priv env oa p := by
    rcases hp with rfl | ⟨y, hy⟩
    · exact .inl rfl
    · exact .inr (.inl ⟨y, hy⟩)
  have hn : s₀.heap.get? p = none := by
    rcases hp with rfl | ⟨y, hy⟩
    · exact fr.newL
    · exact fr.newC y p hy
  have hstep : Step env oa oa s.heap s'.heap := ⟨fun a o e n => hs a o (fun h => n (h ▸ hO)) e, fun _ p => .inl p⟩
  have hm := hstep.hm f.ok
  have hoap : ∀ j a, oa j = some a → a ≠ p := fun j a ha e => by
    obtain ⟨_, h2, h3, _⟩ := f.oaNew j a ha
    rcases hp with rfl | ⟨y, hy⟩
    · exact h2 e
    · exact h3 y (e ▸ hy)
  refine ⟨⟨?_, ?_, hns, hcell, fun j y w h1 h2 => ?_, fun j d' h => ?_, fun a ha => ?_, f.ocP, f.oaInj, fun j a h => ?_⟩, hstep⟩
  · obtain ⟨h, tk, rfl⟩ := hsame
    obtain ⟨h₁, tk₁, e⟩ := f.same
    exact ⟨h, tk, by rw [e]⟩
  · intro b o e
    exact hs b o (fun h => by rw [h, hn] at e; cases e) (f.keep b o e)
  · by_cases hj : j = i
    · subst hj
      rw [hi] at h1; cases h1
      simp only [if_true] at h2
      cases h2; exact hst
    · simp only [hj, if_false] at h2
      exact hoth y w (fun e => hj (nm_inj ok h1 (e ▸ hi))) (f.st j y w h1 h2)
  · by_cases hj : j = i
    · subst hj
      simp only [upd, if_true] at h
      cases h
      exact ⟨v, by simp, hv, hv'⟩
    · have h' : ρ j = some d' := by simpa [upd, hj] using h
      obtain ⟨w, h1, h2, h3⟩ := f.hold j d' h'
      refine ⟨w, by simp [hj, h1], fun e => (h2 e).step hm, fun e => ?_⟩
      obtain ⟨a, ha, o⟩ := h3 e
      exact ⟨a, ha, o.step hm fun o e => hs a o (hoap j a ha) e⟩
  · obtain ⟨o, e, n⟩ := f.okc a ha
    exact ⟨o, hs a o (fun h => f.ocP a ha (h ▸ hO)) e, n⟩
  · obtain ⟨h1, h2, h3, o, h4, h5⟩ := f.oaNew j a h
    exact ⟨h1, h2, h3, o, hs a o (hoap j a h) h4, h5⟩

theorem store_sound {A : Around} {E : Value → Shared → Prop} {i : Nat} {x : Str} {v : Value} {d : D} (f : FS K Oc env ρ vl oa s₀ s) (fr : FrOk K env s₀) (ok : K.Ok) (hx : K.T.var env.scope i x = true)
    (hv : K.T.own.contains i = false → DVal K.T K.C (OwnOf Oc env oa) s.heap v d) (hv' : K.T.own.contains i = true → ∃ a, oa i = some a ∧ OwnedAt K (OwnOf Oc env oa) s.heap v a d) :
    wpAny (model K.prog K.w) A (storeName env x v) (fun _ s' => FS K Oc env (upd ρ i (some d)) (fun j => if j = i then some v else vl j) oa s₀ s' ∧ Step env oa oa s.heap s'.heap) E s := by
  simp only [Tab.var, varKind, okName, Bool.and_eq_true, Bool.or_eq_true, beq_iff_eq] at hx
  obtain ⟨⟨h1, h2⟩, _⟩ := hx
  rcases h2 with h2 | h2
  · obtain ⟨m, hm⟩ := f.ns
    refine wpAny_storeName_local h2 hm (fun h' hn hs => ?_) (by rw [fr.eo.kind]; rfl)
    have hm' : HM (OwnOf Oc env oa) (OwnOf Oc env oa) s.heap h' := Step.hm (oa := oa) ⟨fun a o e n => (hs.2 a (fun h => n (.inl h))).trans e, fun _ p => .inl p⟩ f.ok
    refine f.put fr ok h1 (.inl rfl) ⟨h', _, rfl⟩ hs.extBut ⟨_, hn⟩ (fun y c hc => ?_) (.loc _ h2 hn (by simp)) (fun y w hy st => ?_) (fun e => (hv e).step hm') (fun e => let ⟨a, ha, o⟩ := hv' e; ⟨a, ha, o.step hm' fun o e => (hs.2 a (f.oaNew i a ha).2.1).trans e⟩)
    · obtain ⟨w, hw⟩ := f.cells y c hc
      exact ⟨w, hw.sameBut hs (fr.apart y c hc)⟩
    · cases st with
      | loc m' a b c =>
        have := ns_fun b hm; subst this
        exact .loc _ a hn (by simp [hy, c])
      | cel c a b e => exact .cel c a b (e.sameBut hs (fr.apart y c b))
  · obtain ⟨c, hc⟩ := fr.eo.cells x h2
    obtain ⟨v₀, hv₀⟩ := f.cells x c hc
    obtain ⟨m, hm⟩ := f.ns
    refine wpAny_storeName_cell fr.eo.kind h2 hc hv₀ fun h' hcell hs => ?_
    have hL : env.locals ≠ c := fun e => fr.apart x c hc e.symm
    have hm' : HM (OwnOf Oc env oa) (OwnOf Oc env oa) s.heap h' := Step.hm (oa := oa) ⟨fun a o e n => (hs.2 a (fun h => n (.inr (.inl ⟨x, h ▸ hc⟩)))).trans e, fun _ p => .inl p⟩ f.ok
    refine f.put fr ok h1 (.inr ⟨x, hc⟩) ⟨h', s.toks, rfl⟩ hs.extBut ⟨m, hm.sameBut hs hL⟩ (fun y c' hc' => ?_) (.cel c h2 hc hcell) (fun y w hy st => ?_) (fun e => (hv e).step hm') (fun e => let ⟨a, ha, o⟩ := hv' e; ⟨a, ha, o.step hm' fun o e => (hs.2 a (fun h => (f.oaNew i a ha).2.2.1 x (h ▸ hc))).trans e⟩)
    · by_cases e : c' = c
      · subst e; exact ⟨_, hcell⟩
      · obtain ⟨w, hw⟩ := f.cells y c' hc'
        exact ⟨w, hw.sameBut hs e⟩
    · cases st with
      | loc m' a b c' => exact .loc m' a (b.sameBut hs hL) c'
      | cel c' a b e => exact .cel c' a b (e.sameBut hs fun e' => hy (fr.inj y x c' b (e' ▸ hc)))
end
end Mine
end
noncomputable section
open PySem PySem.W PyProof.Rows
set_option maxRecDepth 100000
namespace Mine

section
variable {K : Cfg} {Oc : Own} {env : Env} {ρ : Loc} {vl : Nat → Option Value} {oa : Nat → Option Addr} {s₀ s : Shared}

theorem OwnedAt.obj {O : Own} {h : Heap} {v : Value} {a : Addr} {d : D} (x : OwnedAt K O h v a d) : ∃ o, h.get? a = some o ∧ NotTup o := by
  cases d with
  | py d => cases d with
    | list ds => obtain ⟨vs, n, rfl, hl, hv⟩ := x; exact ⟨_, hl, fun _ _ e => by simp at e⟩
    | _ => exact x.elim
  | ws fs =>
    obtain ⟨y, rfl, hy, w, _⟩ := x
    obtain ⟨es, n, e1, e2⟩ := w.ents
    exact ⟨_, e1, fun _ _ _ e => nomatch e⟩
  | rng _ _ _ => exact x.elim

/-- what a name owns is changed -/
theorem FS.mut {s' : Shared} {i : Nat} {a : Addr} {v : Value} {d : D} (f : FS K Oc env ρ vl oa s₀ s) (fr : FrOk K env s₀) (hi : K.T.own.contains i = true) (hv : vl i = some v) (ha : oa i = some a) (hsame : ∃ h tk, s' = { s with heap := h, toks := tk })
    (hs : ∀ b o, b ≠ a → b ≠ env.locals → s.heap.get? b = some o → s'.heap.get? b = some o) (hns : ∃ m m', s.heap.Ns env.locals m ∧ s'.heap.Ns env.locals m' ∧ m = m')
    (ho : OwnedAt K (OwnOf Oc env oa) s'.heap v a d) : FS K Oc env (upd ρ i (some d)) vl oa s₀ s' ∧ Step env oa oa s.heap s'.heap := by
  have hP : Priv env oa a := .inr (.inr ⟨i, ha⟩)
  have hstep : Step env oa oa s.heap s'.heap := ⟨fun b o e n => hs b o (fun h => n (h ▸ hP)) (fun h => n (.inl h)) e, fun _ p => .inl p⟩
  have hm := hstep.hm f.ok
  obtain ⟨n1, n2, n3, _⟩ := f.oaNew i a ha
  have hns' : ∃ m, s'.heap.Ns env.locals m := let ⟨_, m', _, h, _⟩ := hns; ⟨m', h⟩
  refine ⟨⟨?_, fun b o e => hs b o (fun h => by rw [h, n1] at e; cases e) (fun h => by rw [h, fr.newL] at e; cases e) (f.keep b o e), hns', fun x c hc => ?_, fun j y w h1 h2 => ?_, fun j d' h => ?_, fun b hb => ?_, f.ocP, f.oaInj, fun j b hb => ?_⟩, hstep⟩
  · obtain ⟨h, tk, rfl⟩ := hsame
    obtain ⟨h₁, tk₁, e⟩ := f.same
    exact ⟨h, tk, by rw [e]⟩
  · obtain ⟨w, o, ho', hd⟩ := f.cells x c hc
    exact ⟨w, o, hs c o (fun h => n3 x (h ▸ hc)) (fr.apart x c hc) ho', hd⟩
  · cases f.st j y w h1 h2 with
    | loc m b c e =>
      obtain ⟨m₁, m₂, e1, e2, rfl⟩ := hns
      have := ns_fun c e1; subst this
      exact .loc _ b e2 e
    | cel c b e g => obtain ⟨o, ho', hd⟩ := g; exact .cel c b e ⟨o, hs c o (fun h => n3 y (h ▸ e)) (fr.apart y c e) ho', hd⟩
  · by_cases hj : j = i
    · subst hj
      simp only [upd, if_true] at h
      cases h
      exact ⟨v, hv, (fun e => by rw [hi] at e; cases e), (fun _ => ⟨a, ha, ho⟩)⟩
    · have h' : ρ j = some d' := by simpa [upd, hj] using h
      obtain ⟨w, h1, h2, h3⟩ := f.hold j d' h'
      refine ⟨w, h1, fun e => (h2 e).step hm, fun e => ?_⟩
      obtain ⟨b, hb, o⟩ := h3 e
      exact ⟨b, hb, o.step hm fun o e => hs b o (fun h => hj (f.oaInj j i b hb (h ▸ ha))) (f.oaNew j b hb).2.1 e⟩
  · obtain ⟨o, e, n⟩ := f.okc b hb
    exact ⟨o, hs b o (fun h => f.ocP b hb (h ▸ hP)) (fun h => f.ocP b hb (.inl h)) e, n⟩
  · obtain ⟨h1, h2, h3, o, h4, h5⟩ := f.oaNew j b hb
    by_cases e : b = a
    · subst e; exact ⟨h1, h2, h3, ho.obj⟩
    · exact ⟨h1, h2, h3, o, hs b o e h2 h4, h5⟩

/-- a new list is owned -/
theorem FS.own {s' : Shared} {i : Nat} {v : Value} {xs : List PyData} (f : FS K Oc env ρ vl oa s₀ s) (k : Keeps s s') (fl : FreshL (OwnOf Oc env oa) s.heap s'.heap v xs) :
    ∃ a, FS K Oc env (upd ρ i none) vl (fun j => if j = i then some a else oa j) s₀ s' ∧ Step env oa (fun j => if j = i then some a else oa j) s.heap s'.heap ∧ OwnedAt K (OwnOf Oc env fun j => if j = i then some a else oa j) s'.heap v a (.py (.list xs)) := by
  obtain ⟨a, vs, n, hp, rfl, e2, e3, e4, e5, e6⟩ := fl
  have g := keeps_grow k
  have hsa : s.heap.get? a = none := by
    cases h : s.heap.get? a with
    | none => rfl
    | some o => rw [e3 _ _ h] at e2; cases e2
  have hpriv : ∀ b, Priv env (fun j => if j = i then some a else oa j) b → Priv env oa b ∨ b = a := fun b hb => by
    rcases hb with hb | hb | ⟨j, hj⟩
    · exact .inl (.inl hb)
    · exact .inl (.inr (.inl hb))
    · by_cases e : j = i
      · simp only [e, if_true] at hj; cases hj; exact .inr rfl
      · simp only [e, if_false] at hj; exact .inl (.inr (.inr ⟨j, hj⟩))
  have hstep : Step env oa (fun j => if j = i then some a else oa j) s.heap s'.heap := ⟨fun b o e _ => g b o e, fun b hb => (hpriv b hb).imp id fun (e : b = a) => by rw [e]; exact hsa⟩
  have hm := hstep.hm f.ok
  have hstep2 : Step env oa (fun j => if j = i then some a else oa j) hp s'.heap := ⟨fun b o e _ => e4 b o e, fun b hb => (hpriv b hb).imp id fun (e : b = a) => by rw [e]; exact e2⟩
  have hm2 := hstep2.hm (f.ok.grow e3)
  refine ⟨a, ⟨?_, f.keep.trans g, (let ⟨m, h⟩ := f.ns; ⟨m, h.keeps g⟩), fun x c h => (let ⟨v, h⟩ := f.cells x c h; ⟨v, h.keeps g⟩), fun j x v h1 h2 => (f.st j x v h1 h2).grow g, fun j d h => ?_, f.okc.grow g, fun b hb hp => ?_, fun j k b hj hk => ?_, fun j b hj => ?_⟩, hstep, ⟨vs, n, rfl, e6, e5.step hm2⟩⟩
  · obtain ⟨h', tk', rfl, _⟩ := k
    obtain ⟨h, tk, e⟩ := f.same
    exact ⟨h', tk', by rw [e]⟩
  · by_cases hj : j = i
    · subst hj; simp [upd] at h
    · have h' : ρ j = some d := by simpa [upd, hj] using h
      obtain ⟨w, h1, h2, h3⟩ := f.hold j d h'
      refine ⟨w, h1, fun e => (h2 e).step hm, fun e => ?_⟩
      obtain ⟨b, hb, o⟩ := h3 e
      exact ⟨b, by simp [hj, hb], o.step hm fun o e => g b o e⟩
  · rcases hpriv b hp with hp | rfl
    · exact f.ocP b hb hp
    · obtain ⟨o, e, _⟩ := f.okc b hb; rw [hsa] at e; cases e
  · have old : ∀ j, j ≠ i → oa j = some a → False := fun j _ h => by
      obtain ⟨_, _, _, o, h4, _⟩ := f.oaNew j a h
      rw [hsa] at h4; cases h4
    by_cases e1 : j = i <;> by_cases e2 : k = i
    · rw [e1, e2]
    · simp only [e1, if_true] at hj; cases hj
      simp only [e2, if_false] at hk; exact (old k e2 hk).elim
    · simp only [e2, if_true] at hk; cases hk
      simp only [e1, if_false] at hj; exact (old j e1 hj).elim
    · simp only [e1, if_false] at hj; simp only [e2, if_false] at hk; exact f.oaInj j k b hj hk
  · by_cases e1 : j = i
    · simp only [e1, if_true] at hj; cases hj
      refine ⟨?_, fun e => ?_, fun x hx => ?_, _, e6, fun _ _ e => by simp at e⟩
      · cases h : s₀.heap.get? a with
        | none => rfl
        | some o => rw [f.keep _ _ h] at hsa; cases hsa
      · obtain ⟨m, o, es, ep, ho, _⟩ := f.ns; rw [← e, hsa] at ho; cases ho
      · obtain ⟨w, o, ho, _⟩ := f.cells x a hx; rw [hsa] at ho; cases ho
    · simp only [e1, if_false] at hj
      obtain ⟨h1, h2, h3, o, h4, h5⟩ := f.oaNew j b hj
      exact ⟨h1, h2, h3, o, g _ _ h4, h5⟩

noncomputable def FlOut (K : Cfg) (O : Own) : Fl → Flow → Shared → Prop
  | .next, fl, _ => fl = .next
  | .brk, fl, _ => fl = .brk
  | .ret d, fl, s => ∃ v, fl = .ret v ∧ DVal K.T K.C O s.heap v d

noncomputable def StOut (K : Cfg) (Oc : Own) (env : Env) (oa : Nat → Option Addr) (s₀ s : Shared) (f : Fl) (ρ' : Loc) (fl : Flow) (s' : Shared) : Prop :=
  ∃ vl' oa', FS K Oc env ρ' vl' oa' s₀ s' ∧ Step env oa oa' s.heap s'.heap ∧ FlOut K (OwnOf Oc env oa') f fl s'

noncomputable def ExOk (K : Cfg) (sc : Scope) (st : St) (ast : Stmt) : Prop := ∀ (Oc : Own) (env : Env) (ρ : Loc) (vl : Nat → Option Value) (oa : Nat → Option Addr) (s₀ s : Shared) (A : Around) (E : Value → Shared → Prop) (f : Fl) (ρ' : Loc),
  env.scope = sc → ex K.Cs st ρ = some (f, ρ') → FrOk K env s₀ → AOk K.n A → FS K Oc env ρ vl oa s₀ s → wpAny (model K.prog K.w) A (exec ast env) (StOut K Oc env oa s₀ s f ρ') E s
noncomputable def ExsOk (K : Cfg) (sc : Scope) (st : Sts) (ast : List Stmt) : Prop := ∀ (Oc : Own) (env : Env) (ρ : Loc) (vl : Nat → Option Value) (oa : Nat → Option Addr) (s₀ s : Shared) (A : Around) (E : Value → Shared → Prop) (f : Fl) (ρ' : Loc),
  env.scope = sc → exs K.Cs st ρ = some (f, ρ') → FrOk K env s₀ → AOk K.n A → FS K Oc env ρ vl oa s₀ s → wpAny (model K.prog K.w) A (execs ast env) (StOut K Oc env oa s₀ s f ρ') E s

theorem exs_nil {sc : Scope} : ExsOk K sc .nil [] := by
  intro Oc env ρ vl oa s₀ s A E f ρ' _ hd fr ao fs
  cases hd; exact wpAny_execs_nil ⟨vl, oa, fs, Step.of_grow (Grow.refl _), rfl⟩
theorem exs_cons {sc : Scope} {st : St} {ss : Sts} {x : Stmt} {xs : List Stmt} (h1 : ExOk K sc st x) (h2 : ExsOk K sc ss xs) : ExsOk K sc (.cons st ss) (x :: xs) := by
  intro Oc env ρ vl oa s₀ s A E f ρ' hsc hd fr ao fs
  simp only [exs, Option.bind_eq_some_iff] at hd
  obtain ⟨⟨f₁, ρ₁⟩, hd1, hd⟩ := hd
  refine wpAny_execs_cons (wpAny_mono (h1 Oc env ρ vl oa s₀ s A E f₁ ρ₁ hsc hd1 fr ao fs) (fun fl s₁ o₁ => ?_) fun _ _ e => e)
  obtain ⟨vl₁, oa₁, fs₁, st₁, fo⟩ := o₁
  cases f₁ with
  | next =>
    have : fl = .next := fo
    subst this
    refine wpAny_mono (h2 Oc env ρ₁ vl₁ oa₁ s₀ s₁ A E f ρ' hsc hd fr ao fs₁) (fun fl' s₂ o₂ => ?_) fun _ _ e => e
    obtain ⟨vl₂, oa₂, fs₂, st₂, fo₂⟩ := o₂
    exact ⟨vl₂, oa₂, fs₂, st₁.trans st₂, fo₂⟩
  | brk =>
    have : fl = .brk := fo
    subst this
    cases hd
    exact ⟨vl₁, oa₁, fs₁, st₁, rfl⟩
  | ret d =>
    obtain ⟨v, rfl, hv⟩ := fo
    cases hd
    exact ⟨vl₁, oa₁, fs₁, st₁, v, rfl, hv⟩

theorem ex_brk {sc : Scope} {p : Pos} : ExOk K sc .brk (.Break p) := by
  intro Oc env ρ vl oa s₀ s A E f ρ' _ hd fr ao fs
  cases hd; exact wpAny_Break ⟨vl, oa, fs, Step.of_grow (Grow.refl _), rfl⟩
theorem ex_ret {sc : Scope} {e : Ex} {v : Expr} {p : Pos} (hn : e.isOwn = false) (hv : EvOk K sc e v) : ExOk K sc (.ret e) (.Return (some v) p) := by
  intro Oc env ρ vl oa s₀ s A E f ρ' hsc hd fr ao fs
  simp only [ex, Option.map_eq_some_iff] at hd
  obtain ⟨d, hd, e⟩ := hd
  cases e
  refine wpAny_Return_some (wpAny_mono (hv env ρ d _ s A E hsc hd fr.eo ao (fs.es fr)) (fun w s₁ o₁ => ?_) fun _ _ e => e)
  exact ⟨vl, oa, fs.grow o₁.keeps, Step.of_grow (keeps_grow o₁.keeps), w, rfl, o₁.val hn⟩

theorem StOut.pre {s₁ s₂ : Shared} {f : Fl} {ρ' : Loc} {fl : Flow} {oa₁ : Nat → Option Addr} (st : Step env oa oa₁ s.heap s₁.heap) (o : StOut K Oc env oa₁ s₀ s₁ f ρ' fl s₂) : StOut K Oc env oa s₀ s f ρ' fl s₂ := by
  obtain ⟨vl₂, oa₂, fs₂, st₂, fo₂⟩ := o
  exact ⟨vl₂, oa₂, fs₂, st.trans st₂, fo₂⟩

theorem ex_ite {sc : Scope} {c : Ex} {a b : Sts} {t : Expr} {x y : List Stmt} {p : Pos} (hc : TestOk K sc c t) (ha : ExsOk K sc a x) (hb : ExsOk K sc b y) : ExOk K sc (.ite c a b) (.If t x y p) := by
  intro Oc env ρ vl oa s₀ s A E f ρ' hsc hd fr ao fs
  simp only [ex, Option.bind_eq_some_iff] at hd
  obtain ⟨d, hd, u, hu, hd'⟩ := hd
  have := bool_of hu; subst this
  refine wpAny_If (wpAny_mono (hc env ρ u _ s A E hsc hd fr.eo ao (fs.es fr)) (fun r s₁ o₁ => ?_) fun _ _ e => e)
  obtain ⟨rfl, k⟩ := o₁
  cases r with
  | true =>
    simp only [if_true] at hd' ⊢
    exact wpAny_mono (ha Oc env ρ vl oa s₀ s₁ A E f ρ' hsc hd' fr ao (fs.grow k)) (fun fl s₂ o₂ => o₂.pre (Step.of_grow (keeps_grow k))) fun _ _ e => e
  | false =>
    simp only [Bool.false_eq_true, if_false] at hd' ⊢
    exact wpAny_mono (hb Oc env ρ vl oa s₀ s₁ A E f ρ' hsc hd' fr ao (fs.grow k)) (fun fl s₂ o₂ => o₂.pre (Step.of_grow (keeps_grow k))) fun _ _ e => e
end
end Mine
end
noncomputable section
open PySem PySem.W PyProof.Rows
set_option maxRecDepth 100000
namespace Mine

section
variable {K : Cfg} {Oc : Own} {env : Env} {ρ : Loc} {vl : Nat → Option Value} {oa : Nat → Option Addr} {s₀ s : Shared}

theorem swaps_false {v : Expr} {t : Option Expr} {line : Nat} {env : Env} (h : noComp v = true) : swapsWith v t line env = pure false := by
  cases v <;> first | rfl | simp [noComp] at h

theorem upd_upd (ρ : Loc) (i : Nat) (a b : Option D) : upd (upd ρ i a) i b = upd ρ i b := by
  funext j; unfold upd; split <;> rfl

/-- a store of a value that the frame does not own -/
theorem store_plain {A : Around} {E : Value → Shared → Prop} {i : Nat} {x : Str} {v : Value} {d : D} (f : FS K Oc env ρ vl oa s₀ s) (fr : FrOk K env s₀) (ok : K.Ok) (hx : K.T.var env.scope i x = true) (ho : K.T.own.contains i = false)
    (hv : DVal K.T K.C (OwnOf Oc env oa) s.heap v d) :
    wpAny (model K.prog K.w) A (storeName env x v) (fun _ s' => ∃ vl', FS K Oc env (upd ρ i (some d)) vl' oa s₀ s' ∧ Step env oa oa s.heap s'.heap) E s :=
  wpAny_mono (store_sound f fr ok hx (fun _ => hv) (fun h => by rw [ho] at h; cases h)) (fun _ _ h => ⟨_, h⟩) fun _ _ e => e

theorem set_plain (ok : K.Ok) {A : Around} {E : Value → Shared → Prop} {i : Nat} {e : Ex} {x : Str} {p pos : Pos} {v : Expr} {d : D} (hx : K.T.var env.scope i x = true) (ho : K.T.own.contains i = false) (hc : EvOk K env.scope e v) (hn : e.isOwn = false)
    (hd : ev K.Cs e ρ = some d) (hs : swapsWith v (some (.Name x p)) pos.line env = pure false) (fr : FrOk K env s₀) (ao : AOk K.n A) (fs : FS K Oc env ρ vl oa s₀ s) :
    wpAny (model K.prog K.w) A (exec (.Assign [.Name x p] v pos) env) (StOut K Oc env oa s₀ s .next (upd ρ i (some d))) E s := by
  refine wpAny_Assign_Name (wpAny_mono (hc env ρ d _ s A E rfl hd fr.eo ao (fs.es fr)) (fun w s₁ o₁ => ?_) fun _ _ e => e) hs
  refine wpAny_mono (store_plain (fs.grow o₁.keeps) fr ok hx ho (o₁.val hn)) (fun _ s₂ h => ?_) fun _ _ e => e
  obtain ⟨vl', f', st'⟩ := h
  exact ⟨vl', oa, f', (Step.of_grow (keeps_grow o₁.keeps)).trans st', rfl⟩

theorem ex_set (ok : K.Ok) {sc : Scope} {i : Nat} {e : Ex} {x : Str} {p pos : Pos} {v : Expr} (h1 : K.T.var sc i x = true) (h2 : K.T.own.contains i = false) (h4 : e.isOwn = false) (hn : noComp v = true) (hv : EvOk K sc e v) : ExOk K sc (.set i e) (.Assign [.Name x p] v pos) := by
  intro Oc env ρ vl oa s₀ s A E f ρ' hsc hd fr ao fs
  subst hsc
  simp only [ex, Option.map_eq_some_iff] at hd
  obtain ⟨d, hd, e'⟩ := hd
  cases e'
  exact set_plain ok h1 h2 hv h4 hd (swaps_false hn) fr ao fs

theorem ex_setO (ok : K.Ok) {sc : Scope} {i : Nat} {e : Ex} {x : Str} {p pos : Pos} {v : Expr} (h1 : K.T.var sc i x = true) (h2 : K.T.own.contains i = true) (h4 : e.fresh = true) (h6 : noComp v = true) (hv : EvOk K sc e v) : ExOk K sc (.setO i e) (.Assign [.Name x p] v pos) := by
  intro Oc env ρ vl oa s₀ s A E f ρ' hsc hd fr ao fs
  subst hsc
  simp only [ex, Option.bind_eq_some_iff] at hd
  obtain ⟨d, hd, e'⟩ := hd
  split at e'
  · cases e'
    rename_i xs
    refine wpAny_Assign_Name (wpAny_mono (hv env ρ _ _ s A E rfl hd fr.eo ao (fs.es fr)) (fun w s₁ o₁ => ?_) fun _ _ e => e) (swaps_false h6)
    obtain ⟨a, f₁, st₁, ow⟩ := fs.own (i := i) o₁.keeps (o₁.fresh h4 xs rfl)
    refine wpAny_mono (store_sound f₁ fr ok h1 (fun h => by rw [h2] at h; cases h) (fun _ => ⟨a, by simp, ow⟩)) (fun _ s₂ h => ?_) fun _ _ e => e
    rw [upd_upd] at h
    exact ⟨_, _, h.1, st₁.trans h.2, rfl⟩
  · cases e'
end
end Mine
end
noncomputable section
open PySem PySem.W PyProof.Rows
set_option maxRecDepth 100000
namespace Mine

section
variable {K : Cfg} {Oc : Own} {env : Env} {ρ : Loc} {vl : Nat → Option Value} {oa : Nat → Option Addr} {s₀ s : Shared}

theorem no_swap {ts : List Expr} {v : Expr} {env : Env} (h : noDisplay v = true) : swappedStores ts v env = pure none := by
  unfold swappedStores
  split
  · rename_i h2
    exfalso
    revert h2
    split <;> intro h2 <;> first | (cases h2; done) | exact absurd (show false = true from h) Bool.false_ne_true
  · rfl

theorem ex_set3 (ok : K.Ok) {sc : Scope} {i j k : Nat} {e : Ex} {x y z : Str} {p q r pos : Pos} {v : Expr} (h1 : K.T.var sc i x = true) (h2 : K.T.own.contains i = false) (h3 : K.T.var sc j y = true) (h4 : K.T.own.contains j = false) (h5 : K.T.var sc k z = true) (h6 : K.T.own.contains k = false) (h8 : e.isOwn = false) (h10 : noDisplay v = true) (hve : EvOk K sc e v) :
    ExOk K sc (.set3 i j k e) (.Assign [.Name x p, .Name y q, .Name z r] v pos) := by
  intro Oc env ρ vl oa s₀ s A E f ρ' hsc hd fr ao fs
  subst hsc
  simp only [ex, Option.map_eq_some_iff] at hd
  obtain ⟨d, hd, e'⟩ := hd
  cases e'
  refine wpAny_Assign_three (wpAny_mono (hve env ρ d _ s A E rfl hd fr.eo ao (fs.es fr)) (fun w s₁ o₁ => ?_) fun _ _ e => e) rfl (no_swap h10)
  have f₁ := fs.grow o₁.keeps
  refine wpAny_assign_Name (wpAny_mono (store_plain f₁ fr ok h1 h2 (o₁.val h8)) (fun _ s₂ z₂ => ?_) fun _ _ e => e)
  obtain ⟨vl₂, f₂, st₂⟩ := z₂
  have v₂ := (o₁.val h8).step (st₂.hm f₁.ok)
  refine wpAny_assign_Name (wpAny_mono (store_plain f₂ fr ok h3 h4 v₂) (fun _ s₃ z₃ => ?_) fun _ _ e => e)
  obtain ⟨vl₃, f₃, st₃⟩ := z₃
  have v₃ := v₂.step (st₃.hm f₂.ok)
  refine wpAny_assign_Name (wpAny_mono (store_plain f₃ fr ok h5 h6 v₃) (fun _ s₄ z₄ => ?_) fun _ _ e => e)
  obtain ⟨vl₄, f₄, st₄⟩ := z₄
  exact ⟨vl₄, oa, f₄, (((Step.of_grow (keeps_grow o₁.keeps)).trans st₂).trans st₃).trans st₄, rfl⟩

theorem two_vals {O : Own} {h : Heap} {v : Value} {a b : PyData} (x : Val O h v (.tuple [a, b])) : ∃ t u w, v = .ref t ∧ h.IsTuple t #[u, w] ∧ Val O h u a ∧ Val O h w b := by
  obtain ⟨t, vs, rfl, ht, hv⟩ := Val.tup_inv x
  obtain ⟨u, us, rfl, hu, hv⟩ := hv.inv
  obtain ⟨w, ws, rfl, hw, hv⟩ := hv.inv
  have := hv.inv_nil; subst this
  exact ⟨t, u, w, rfl, ht, hu, hw⟩

/-- two names take a pair -/
theorem pair_sound {A : Around} {E : Value → Shared → Prop} {i j : Nat} {x y : Str} {px py tp : Pos} {tk} {v : Value} {a b : PyData} (f : FS K Oc env ρ vl oa s₀ s) (fr : FrOk K env s₀) (ok : K.Ok) (ao : AOk K.n A)
    (h1 : K.T.var env.scope i x = true) (h2 : K.T.own.contains i = false) (h3 : K.T.var env.scope j y = true) (h4 : K.T.own.contains j = false) (hv : Val (OwnOf Oc env oa) s.heap v (.tuple [a, b])) :
    wpAny (model K.prog K.w) A (assign (.Tuple [.Name x px, .Name y py] tk tp) env v) (fun _ s' => ∃ vl', FS K Oc env (upd (upd ρ i (some (.py a))) j (some (.py b))) vl' oa s₀ s' ∧ Step env oa oa s.heap s'.heap) E s := by
  obtain ⟨t, u, w, rfl, ht, hu, hw⟩ := two_vals hv
  refine wpAny_assign_Tuple ao.handled ht rfl rfl fun h' he => ?_
  have k : Keeps s { s with heap := h' } := keeps_mk s h' s.toks fun b o e => he b o (Nat.ne_of_lt (Heap.lt_size e)) e
  have f₁ := f.grow k
  have m₁ := HM.of_grow f.ok (keeps_grow k)
  refine assignInOrder_cons (wpAny_assign_Name (wpAny_mono (store_plain (d := .py a) f₁ fr ok h1 h2 (Val.step hu m₁)) (fun _ s₂ z₂ => ?_) fun _ _ e => e))
  obtain ⟨vl₂, f₂, st₂⟩ := z₂
  refine assignInOrder_cons (wpAny_assign_Name (wpAny_mono (store_plain (d := .py b) f₂ fr ok h3 h4 (Val.step (Val.step hw m₁) (st₂.hm f₁.ok))) (fun _ s₃ z₃ => ?_) fun _ _ e => e))
  obtain ⟨vl₃, f₃, st₃⟩ := z₃
  exact assignInOrder_nil ⟨vl₃, f₃, ((Step.of_grow (keeps_grow k)).trans st₂).trans st₃⟩

theorem upd_comm (ρ : Loc) {i j : Nat} (a b : Option D) (h : i ≠ j) : upd (upd ρ j b) i a = upd (upd ρ i a) j b := by
  funext k; unfold upd; split <;> split <;> simp_all

theorem ex_unp (ok : K.Ok) {v : Expr} {sc : Scope} {i j : Nat} {e : Ex} {x y : Str} {px py tp pos : Pos} {tk : Nat} (h1 : K.T.var sc i x = true) (h2 : K.T.own.contains i = false) (h3 : K.T.var sc j y = true) (h4 : K.T.own.contains j = false) (h7 : e.isOwn = false) (h8 : noComp v = true) (h9 : noDisplay v = true) (hve : EvOk K sc e v) :
    ExOk K sc (.unp i j e) (.Assign [.Tuple [.Name x px, .Name y py] tk tp] v pos) := by
  intro Oc env ρ vl oa s₀ s A E f ρ' hsc hd fr ao fs
  subst hsc
  simp only [ex, Option.bind_eq_some_iff] at hd
  obtain ⟨d, hd, e'⟩ := hd
  split at e'
  · cases e'
    rename_i a b
    refine Assign_Tuple (wpAny_mono (hve env ρ _ _ s A E rfl hd fr.eo ao (fs.es fr)) (fun w s₁ o₁ => ?_) fun _ _ e => e) (by rw [swapsWithSole]; exact swaps_false h8) (no_swap h9)
    refine wpAny_mono (pair_sound (fs.grow o₁.keeps) fr ok ao h1 h2 h3 h4 (o₁.val h7)) (fun _ s₂ z => ?_) fun _ _ e => e
    obtain ⟨vl₂, f₂, st₂⟩ := z
    exact ⟨vl₂, oa, f₂, (Step.of_grow (keeps_grow o₁.keeps)).trans st₂, rfl⟩
  · cases e'

theorem ex_unpA (ok : K.Ok) {sc : Scope} {i j : Nat} {e : Ex} {x y : Str} {px py tp pos : Pos} {tk : Nat} (h1 : K.T.var sc i x = true) (h2 : K.T.own.contains i = false) (h3 : K.T.var sc j y = true) (h4 : K.T.own.contains j = false) (h5 : i ≠ j) (h7 : e.isOwn = false) (h10 : px.line = py.line) (h11 : sc.names.lookup x = some .local) (h12 : sc.names.lookup y = some .local) (h13 : x ≠ y) {a1 d1 : Expr} {b1 e1 : Str} {c1 f1 t1 : Pos} {g1 : Nat}
    (hve : EvOk K sc e (.Tuple [.Attribute a1 b1 c1, .Attribute d1 e1 f1] g1 t1)) : ExOk K sc (.unp i j e) (.Assign [.Tuple [.Name x px, .Name y py] tk tp] (.Tuple [.Attribute a1 b1 c1, .Attribute d1 e1 f1] g1 t1) pos) := by
  intro Oc env ρ vl oa s₀ s A E f ρ' hsc hd fr ao fs
  subst hsc
  simp only [ex, Option.bind_eq_some_iff] at hd
  obtain ⟨d, hd, e'⟩ := hd
  split at e'
  · cases e'
    rename_i a b
    have hsw : swappedStores [.Tuple [.Name x px, .Name y py] tk tp] (.Tuple [.Attribute a1 b1 c1, .Attribute d1 e1 f1] g1 t1) env = pure (some [x, y]) := by
      have k1 : env.kindOf x = some .local := h11
      have k2 : env.kindOf y = some .local := h12
      have k3 : env.blockKind = .function := by unfold Env.blockKind; rw [fr.eo.kind]; rfl
      have k4 : px.line = py.line := h10
      have k5 : x ≠ y := h13
      have k6 : (x == y) = false := by simpa using k5
      have k7 : (y == x) = false := by simpa using k5.symm
      have n1 : foldedForSure 8 (.Attribute a1 b1 c1) = false := rfl
      have n2 : constantsAlone 8 (.Attribute a1 b1 c1) = false := rfl
      unfold swappedStores
      simp [k1, k2, k3, k4, (show ∀ x p, (Expr.Name x p).pos = p from fun _ _ => rfl), k6, k7, n1, n2, List.eraseDups_cons, List.filterMap, k5, k5.symm]
    refine Assign_Tuple_swapped (names := [x, y]) (wpAny_mono (hve env ρ _ _ s A E rfl hd fr.eo ao (fs.es fr)) (fun w s₁ o₁ => ?_) fun _ _ e => e) rfl hsw
    have f₁ := fs.grow o₁.keeps
    obtain ⟨t, u, w, rfl, ht, hu, hw⟩ := two_vals (o₁.val h7)
    refine wpAny_unpackItems_tuple (items := #[u, w]) ao.handled ht fun h' he => ?_
    have k : Keeps s₁ { s₁ with heap := h' } := keeps_mk s₁ h' s₁.toks fun b o e => he b o (Nat.ne_of_lt (Heap.lt_size e)) e
    have f₂ := f₁.grow k
    have m₁ := HM.of_grow f₁.ok (keeps_grow k)
    refine assignInOrder_cons (wpAny_bindName (wpAny_mono (store_plain (d := .py b) f₂ fr ok h3 h4 (Val.step hw m₁)) (fun _ s₂ z₂ => ?_) fun _ _ e => e))
    obtain ⟨vl₂, f₃, st₂⟩ := z₂
    refine assignInOrder_cons (wpAny_bindName (wpAny_mono (store_plain (d := .py a) f₃ fr ok h1 h2 (Val.step (Val.step hu m₁) (st₂.hm f₂.ok))) (fun _ s₃ z₃ => ?_) fun _ _ e => e))
    obtain ⟨vl₃, f₄, st₃⟩ := z₃
    rw [upd_comm _ _ _ h5] at f₄
    exact assignInOrder_nil ⟨vl₃, oa, f₄, (((Step.of_grow (keeps_grow o₁.keeps)).trans (Step.of_grow (keeps_grow k))).trans st₂).trans st₃, rfl⟩
  · cases e'

/-- a name of the frame's own list -/
theorem own_name {A : Around} {E : Value → Shared → Prop} {Q : Value → Shared → Prop} {i : Nat} {x : Str} {p : Pos} {v : Value} (f : FS K Oc env ρ vl oa s₀ s) (fr : FrOk K env s₀) (hx : K.T.var env.scope i x = true) (hv : vl i = some v) (h : Q v s) :
    wpAny (model K.prog K.w) A (eval (.Name x p) env) Q E s := by
  simp only [Tab.var, varKind, okName, Bool.and_eq_true, Bool.or_eq_true, beq_iff_eq, bne_iff_ne, ne_eq] at hx
  obtain ⟨⟨h1, h2⟩, ⟨h3, h4⟩, h5⟩ := hx
  have hdbg : (x == (Str.ofString "__debug__")) = false := by simpa using h3
  cases f.st i x v h1 hv with
  | loc m a b c => exact wpAny_Name (wpAny_loadName_local fr.eo.kind a b c h) hdbg
  | cel c a b e => exact wpAny_Name (wpAny_loadName_cell fr.eo.kind a b e h) hdbg

theorem FS.list {i : Nat} {a : Addr} {vs vs' : List Value} {n : Nat} {ds' : List PyData} (f : FS K Oc env ρ vl oa s₀ s) (fr : FrOk K env s₀) (hi : K.T.own.contains i = true) (hv : vl i = some (.ref a)) (ha : oa i = some a) (hl : IsL s.heap a vs.toArray n)
    (g : Array Value → Array Value) (hg : g vs.toArray = vs'.toArray) (hvs : Vals (OwnOf Oc env oa) s.heap vs' ds') :
    FS K Oc env (upd ρ i (some (.py (.list ds')))) vl oa s₀ { s with heap := s.heap.update a (Obj.mapSeq g) } ∧ Step env oa oa s.heap (s.heap.update a (Obj.mapSeq g)) := by
  obtain ⟨n1, n2, n3, _⟩ := f.oaNew i a ha
  obtain ⟨m, hm⟩ := f.ns
  have hs : Heap.SameBut a s.heap (s.heap.update a (Obj.mapSeq g)) := Heap.SameBut.update ..
  have hP : Priv env oa a := .inr (.inr ⟨i, ha⟩)
  have hm' : HM (OwnOf Oc env oa) (OwnOf Oc env oa) s.heap (s.heap.update a (Obj.mapSeq g)) := Step.hm (oa := oa) ⟨fun b o e n => (hs.2 b (fun h => n (h ▸ hP))).trans e, fun _ p => .inl p⟩ f.ok
  refine f.mut fr hi hv ha ⟨_, s.toks, rfl⟩ (fun b o hb _ e => (hs.2 b hb).trans e) ⟨m, m, hm, hm.sameBut hs (fun e => n2 e.symm), rfl⟩ ⟨vs', (if vs'.toArray.size == vs.toArray.size then n else n + 1), rfl, ?_, hvs.step hm'⟩
  have q := PySem.IsL.update hl g
  rw [hg] at q
  exact q

theorem ex_put (ok : K.Ok) {sc : Scope} {i : Nat} {a e : Ex} {x : Str} {p q pos : Pos} {si v : Expr} (h1 : K.T.var sc i x = true) (h2 : K.T.own.contains i = true) (h5 : e.isOwn = false) (h7 : noComp v = true) (hva : EvOk K sc a si) (hve : EvOk K sc e v) :
    ExOk K sc (.put i a e) (.Assign [.Subscript (.Name x p) si q] v pos) := by
  intro Oc env ρ vl oa s₀ s A E f ρ' hsc hd fr ao fs
  subst hsc
  simp only [ex, Option.bind_eq_some_iff] at hd
  obtain ⟨d, hd, y, hy, e'⟩ := hd
  split at e'
  · rename_i xs k d hρ
    simp only [Option.map_eq_some_iff] at e'
    obtain ⟨ys, hys, e'⟩ := e'
    cases e'
    obtain ⟨v₀, hv₀, _, ho⟩ := fs.hold i _ hρ
    obtain ⟨l, hl, _⟩ := ho h2
    refine wpAny_Assign_Subscript (wpAny_mono (hve env ρ _ _ s A E rfl hd fr.eo ao (fs.es fr)) (fun w s₁ o₁ => ?_) fun _ _ e => e) (swaps_false h7)
    have f₁ := fs.grow o₁.keeps
    refine own_name f₁ fr h1 hv₀ ?_
    refine wpAny_mono (hva env ρ _ _ s₁ A E rfl hy fr.eo ao (f₁.es fr)) (fun iv s₂ o₂ => ?_) fun _ _ e => e
    have f₂ := f₁.grow o₂.keeps
    obtain ⟨t, rfl⟩ := Val.int_inv o₂.rd
    obtain ⟨v₁, hv₁, _, ho⟩ := f₂.hold i _ hρ
    rw [hv₀] at hv₁; cases hv₁
    obtain ⟨l', hl', vs, n, rfl, hL, hV⟩ := ho h2
    unfold setL at hys
    split at hys
    · rename_i hk
      cases hys
      have hlen := hV.length
      refine ki_setAt hL hk.1 hk.2.2 (by simp only [List.size_toArray]; omega) ?_
      have w₂ := Val.step (o₁.val h5) (HM.of_grow f₁.ok (keeps_grow o₂.keeps))
      have r := f₂.list fr h2 hv₀ hl' hL (·.setIfInBounds k.toNat w) (vs' := vs.set k.toNat w) (by simp) (hV.set k.toNat w₂)
      exact ⟨vl, oa, r.1, ((Step.of_grow (keeps_grow o₁.keeps)).trans (Step.of_grow (keeps_grow o₂.keeps))).trans r.2, rfl⟩
    · cases hys
  · cases e'

/-- all objects of a heap but those of the base, the frame's names and one -/
noncomputable def restOf (h₀ h : Heap) (L D : Addr) : List (Addr × Obj) :=
  (List.range h.objs.size).filterMap fun a => match h.get? a with
    | some o => if a = L ∨ a = D ∨ (h₀.get? a).isSome = true then none else some (a, o)
    | none => none
theorem mem_rest {h₀ h : Heap} {L D a : Addr} {o : Obj} (e : h.get? a = some o) (h1 : a ≠ L) (h2 : a ≠ D) (h3 : h₀.get? a = none) : (a, o) ∈ restOf h₀ h L D := by
  unfold restOf
  rw [List.mem_filterMap]
  refine ⟨a, List.mem_range.mpr (Heap.lt_size e), ?_⟩
  rw [e]
  simp [h1, h2, h3]
theorem rest_mem {h₀ h : Heap} {L D : Addr} {p : Addr × Obj} (e : p ∈ restOf h₀ h L D) : h.get? p.1 = some p.2 ∧ p.1 ≠ L ∧ p.1 ≠ D ∧ h₀.get? p.1 = none := by
  unfold restOf at e
  rw [List.mem_filterMap] at e
  obtain ⟨a, ha, e⟩ := e
  split at e
  · rename_i o ho
    split at e
    · cases e
    · rename_i hn
      cases e
      simp only [not_or] at hn
      exact ⟨ho, hn.1, hn.2.1, by simpa using hn.2.2⟩
  · cases e

/-- a field of an instance is stored -/
theorem setField {A : Around} {E : Value → Shared → Prop} {Q : Unit → Shared → Prop} {x dx L : Addr} {m : Str → Option Value} {es : List DictEntry} {n : Nat} {name : Str} {v : Value} (ok : K.Ok) (F : Fr K.hB L s.heap m) (hi : s.heap.get? x = some (instObj K.C dx)) (hd : s.heap.get? dx = some (dictOf es n))
    (hL : dx ≠ L) (hB : K.hB.get? dx = none) (h1 : findIn K.F (.ref K.C) "__setattr__" = some (some (.builtin "object.__setattr__"))) (h2 : plainOver K.F K.C = true) (h3 : takerIn K.F K.C name = some none) (h4 : hasDictIn K.F K.C = true)
    (hl : getL name es = some none) (hlen : es.length ≤ 900)
    (h : ∀ h' t n', h'.get? dx = some (dictOf (es ++ [⟨PyData.keyHash K.w.params name, .str name t, v⟩]) n') → h'.Ns L m → (∀ b o, b ≠ dx → b ≠ L → s.heap.get? b = some o → h'.get? b = some o) → Q () { s with heap := h', toks := s.toks + 2 }) :
    wpAny (model K.prog K.w) A (setAttr (.ref x) name v) Q E s := by
  have N : News K.hB L s.heap ((dx, dictOf es n) :: restOf K.hB s.heap L dx) := by
    intro p hp
    rcases List.mem_cons.mp hp with rfl | hp
    · exact ⟨hd, hL, hB⟩
    · obtain ⟨a, b, c, d⟩ := rest_mem hp; exact ⟨a, b, d⟩
  have hany : es.any (·.key.isStr name) = false := by
    unfold getL at hl
    split at hl
    · cases hl
    · rename_i hf
      rw [List.find?_eq_none] at hf
      rw [List.any_eq_false]
      exact hf
  have hput : ∀ (es : List DictEntry) (hsh : Int) (key : Value), es.any (·.key.isStr name) = false → putL name hsh key v es = es ++ [⟨hsh, key, v⟩] := by
    intro es hsh key
    induction es with
    | nil => intro _; rfl
    | cons e r ih =>
      intro ha
      simp only [List.any_cons, Bool.or_eq_false_iff] at ha
      unfold putL
      rw [ha.1, ih ha.2]; rfl
  refine set_dict (news := (dx, dictOf es n) :: restOf K.hB s.heap L dx) (news' := (dx, dictOf (es ++ [⟨PyData.keyHash K.w.params name, .str name (s.toks + 1), v⟩]) (putN name es n)) :: restOf K.hB s.heap L dx)
    F ok.frag N (ox := instObj K.C dx) ⟨hi, rfl, rfl, hd⟩ rfl h1 h2 h3 h4 (by rw [hl]; rfl) (by rw [hput es _ _ hany]) (.head fun p hp => (rest_mem hp).2.2.1) (by rw [List.length_append, List.length_singleton]; omega) fun h' F' N' => ?_
  refine h h' _ _ (N' _ (List.mem_cons_self ..)).1 F'.ns fun b o hb hbL e => ?_
  cases hq : K.hB.get? b with
  | some o' => have := F.keep b o' hq; rw [e] at this; cases this; exact F'.keep b o hq
  | none => exact (N' (b, o) (List.mem_cons_of_mem _ (mem_rest e hbL hb hq))).1

theorem Ents.len {O : Own} {h : Heap} {ns : List Str} {es : List DictEntry} {ds : List PyData} (x : Ents O h ns es ds) : es.length = ds.length ∧ es.length ≤ ns.length := by
  induction x with
  | nil => simp
  | cons _ _ _ ih => simp [ih.1]; omega
theorem Ents.snoc {O : Own} {h : Heap} : ∀ {ns : List Str} {es : List DictEntry} {ds : List PyData}, Ents O h ns es ds → ∀ (name : Str) (hs : Int) (t : Tok) (v : Value) (d : PyData), ns[ds.length]? = some name → Val O h v d → Ents O h ns (es ++ [⟨hs, .str name t, v⟩]) (ds ++ [d])
  | [], _, _, .nil, name, hs, t, v, d, e, hv => by simp at e
  | n :: ns, _, _, .nil, name, hs, t, v, d, e, hv => by simp at e; subst e; exact .cons ⟨t, rfl⟩ hv .nil
  | _ :: _, _, _, .cons a b c, name, hs, t, v, d, e, hv => .cons a b (c.snoc name hs t v d (by simpa using e) hv)
theorem Ents.none {O : Own} {h : Heap} : ∀ {ns : List Str} {es : List DictEntry} {ds : List PyData}, Ents O h ns es ds → ns.Nodup → ∀ (name : Str) (k : Nat), ds.length ≤ k → ns[k]? = some name → getL name es = some none
  | _, _, _, .nil, _, name, k, _, _ => rfl
  | _, _, _, .cons (n := n) (ns := ns) (e := e) ⟨t, ht⟩ hv r, hn, name, k, h1, h2 => by
    cases k with
    | zero => simp at h1
    | succ k =>
      have h2' : ns[k]? = some name := by simpa using h2
      have ih := Ents.none r (List.nodup_cons.mp hn).2 name k (by simpa using h1) h2'
      have hne : n ≠ name := fun e => (List.nodup_cons.mp hn).1 (e ▸ List.mem_of_getElem? h2')
      have e1 : e.key.isStr name = false := by rw [ht]; simpa [Value.isStr] using hne
      have e2 : e.refKey = false := by unfold DictEntry.refKey; rw [ht]
      unfold getL at ih ⊢
      rw [List.find?_cons, e1]
      simp only [List.any_cons, e2, Bool.false_or]
      exact ih

theorem ex_setF (ok : K.Ok) {sc : Scope} {i f : Nat} {e : Ex} {x n : Str} {p q pos : Pos} {v : Expr} (h1 : K.T.var sc i x = true) (h2 : K.T.own.contains i = true) (h3 : K.T.fields[f]? = some n) (h5 : e.isOwn = false) (h6 : noComp v = true) (hve : EvOk K sc e v) :
    ExOk K sc (.setF i f e) (.Assign [.Attribute (.Name x p) n q] v pos) := by
  intro Oc env ρ vl oa s₀ s A E fl ρ' hsc hd fr ao fs
  subst hsc
  simp only [ex, Option.bind_eq_some_iff] at hd
  obtain ⟨d, hd, e'⟩ := hd
  split at e'
  · rename_i flds d hρ
    split at e'
    · rename_i hf
      cases e'
      obtain ⟨v₀, hv₀, _, ho⟩ := fs.hold i _ hρ
      refine plainObj_wpAny_Assign_Attribute (wpAny_mono (hve env ρ _ _ s A E rfl hd fr.eo ao (fs.es fr)) (fun w s₁ o₁ => ?_) fun _ _ e => e) (swaps_false h6)
      have f₁ := fs.grow o₁.keeps
      refine own_name f₁ fr h1 hv₀ ?_
      obtain ⟨v₁, hv₁, _, ho⟩ := f₁.hold i _ hρ
      rw [hv₀] at hv₁; cases hv₁
      obtain ⟨dx, hdx, y, rfl, hy, w₁, hme⟩ := ho h2
      obtain ⟨es, nn, e1, e2⟩ := w₁.ents
      obtain ⟨n1, n2, n3, _⟩ := f₁.oaNew i dx hdx
      obtain ⟨m, hm⟩ := f₁.ns
      have F : Fr K.hB env.locals s₁.heap m := ⟨hm, fr.base.trans f₁.keep, fr.eo.above⟩
      have hB : K.hB.get? dx = none := by
        cases hq : K.hB.get? dx with
        | none => rfl
        | some o => rw [fr.base _ _ hq] at n1; cases n1
      obtain ⟨g1, g2, g3⟩ := ok.setF f n h3
      obtain ⟨_, g4, _⟩ := ok.attr f n h3
      have hlen := e2.len
      have := ok.few
      have hyd : y ≠ dx := fun h => by have hi := w₁.inst; rw [h, e1] at hi; cases hi
      refine setField ok F w₁.inst e1 n2 hB g1 g2 g3 g4 (e2.none ok.nodup n f (by omega) h3) (by omega) fun h' t n' k1 k2 k3 => ?_
      have hP : Priv env oa dx := .inr (.inr ⟨i, hdx⟩)
      have hm' : HM (OwnOf Oc env oa) (OwnOf Oc env oa) s₁.heap h' := Step.hm (oa := oa) ⟨fun b o e n => k3 b o (fun h => n (h ▸ hP)) (fun h => n (.inl h)) e, fun _ p => .inl p⟩ f₁.ok
      have hyL : y ≠ env.locals := fun e => hy (.inr (.inl e))
      have r := f₁.mut (s' := { s₁ with heap := h', toks := s₁.toks + 2 }) (d := .ws (flds ++ [d])) fr h2 hv₀ hdx ⟨h', _, rfl⟩ k3 ⟨m, m, hm, k2, rfl⟩
        ⟨y, rfl, hy, ⟨k3 _ _ hyd hyL w₁.inst, _, _, k1, (e2.step hm').snoc n _ t w d (by rw [← hf]; exact h3) (Val.step (o₁.val h5) hm')⟩, hme⟩
      exact ⟨vl, oa, r.1, (Step.of_grow (keeps_grow o₁.keeps)).trans r.2, rfl⟩
    · cases e'
  · cases e'

end
end Mine
end
noncomputable section
open PySem PySem.W PyProof.Rows
set_option maxRecDepth 100000
namespace Mine

section
variable {K : Cfg} {Oc : Own} {env : Env} {ρ : Loc} {vl : Nat → Option Value} {oa : Nat → Option Addr} {s₀ s : Shared}

noncomputable def More (Oc : Own) (wr : List Addr) : Own := fun a => Oc a ∨ a ∈ wr

theorem more_hm {wr : List Addr} {h h' : Heap} (k : OwnOk (OwnOf Oc env oa) h) (g : Grow h h') (fresh : ∀ b ∈ wr, h.get? b = none) : HM (OwnOf Oc env oa) (OwnOf (More Oc wr) env oa) h h' := by
  have m := HM.of_grow k g
  refine ⟨m.keep, fun a o e n q => ?_, m.tup⟩
  rcases q with (q | q) | q
  · exact n (.inl q)
  · rw [fresh a q] at e; cases e
  · exact n (.inr q)

theorem FS.more {s' : Shared} {wr : List Addr} (f : FS K Oc env ρ vl oa s₀ s) (k : Keeps s s') (fresh : ∀ b ∈ wr, s.heap.get? b = none) (live : ∀ b ∈ wr, ∃ o, s'.heap.get? b = some o ∧ NotTup o) : FS K (More Oc wr) env ρ vl oa s₀ s' := by
  have f' := f.grow k
  have m := more_hm (wr := wr) f.ok (keeps_grow k) fresh
  refine ⟨f'.same, f'.keep, f'.ns, f'.cells, f'.st, fun i d h => ?_, fun a ha => ?_, fun a ha p => ?_, f'.oaInj, f'.oaNew⟩
  · obtain ⟨v, h1, h2, h3⟩ := f.hold i d h
    exact ⟨v, h1, fun e => (h2 e).step m, fun e => let ⟨a, ha, o⟩ := h3 e; ⟨a, ha, o.step m fun _ e => keeps_grow k _ _ e⟩⟩
  · rcases ha with ha | ha
    · exact f'.okc a ha
    · exact live a ha
  · rcases ha with ha | ha
    · exact f'.ocP a ha p
    · have := f.ok a (.inr p)
      obtain ⟨o, e, _⟩ := this
      rw [fresh a ha] at e; cases e

theorem less_hm {wr : List Addr} {h : Heap} (k : OwnOk (OwnOf (More Oc wr) env oa) h) : HM (OwnOf (More Oc wr) env oa) (OwnOf Oc env oa) h h := by
  refine ⟨fun _ _ e _ => e, fun a o e n q => n (q.imp .inl id), fun a o ha e => ?_⟩
  obtain ⟨o', e', n⟩ := k a ha
  rw [e] at e'; cases e'; exact n

theorem FS.less {wr : List Addr} (f : FS K (More Oc wr) env ρ vl oa s₀ s) : FS K Oc env ρ vl oa s₀ s := by
  have m := less_hm f.ok
  refine ⟨f.same, f.keep, f.ns, f.cells, f.st, fun i d h => ?_, fun a ha => f.okc a (.inl ha), fun a ha p => f.ocP a (.inl ha) p, f.oaInj, f.oaNew⟩
  obtain ⟨v, h1, h2, h3⟩ := f.hold i d h
  exact ⟨v, h1, fun e => (h2 e).step m, fun e => let ⟨a, ha, o⟩ := h3 e; ⟨a, ha, o.step m fun _ e => e⟩⟩

theorem walk_hm {wr : List Addr} {h h' : Heap} (k : OwnOk (OwnOf (More Oc wr) env oa) h) (hk : ∀ b o, b ∉ wr → h.get? b = some o → h'.get? b = some o) : HM (OwnOf (More Oc wr) env oa) (OwnOf (More Oc wr) env oa) h h' := by
  refine ⟨fun a o e n => hk a o (fun hw => n (.inl (.inr hw))) e, fun _ _ _ n => n, fun a o ha e => ?_⟩
  obtain ⟨o', e', n⟩ := k a ha
  rw [e] at e'; cases e'; exact n

/-- a step of an iterator -/
theorem FS.walk {wr : List Addr} {h' : Heap} {tk : Tok} (f : FS K (More Oc wr) env ρ vl oa s₀ s) (new : ∀ b ∈ wr, s₀.heap.get? b = none) (hk : ∀ b o, b ∉ wr → s.heap.get? b = some o → h'.get? b = some o)
    (live : ∀ b ∈ wr, ∃ o, h'.get? b = some o ∧ NotTup o) : FS K (More Oc wr) env ρ vl oa s₀ { s with heap := h', toks := tk } := by
  have m := walk_hm f.ok hk
  have notP : ∀ a, Priv env oa a → a ∉ wr := fun a p hw => f.ocP a (.inr hw) p
  obtain ⟨h, tk', e⟩ := f.same
  refine ⟨⟨h', tk, by rw [e]⟩, fun b o e => hk b o (fun hw => by rw [new b hw] at e; cases e) (f.keep b o e), ?_, fun x c hc => ?_, fun i x v h1 h2 => ?_, fun i d h => ?_, fun a ha => ?_, f.ocP, f.oaInj, fun i a ha => ?_⟩
  · obtain ⟨n, o, es, ep, ho, r⟩ := f.ns
    exact ⟨n, o, es, ep, hk _ _ (notP _ (.inl rfl)) ho, r⟩
  · obtain ⟨v, o, ho, r⟩ := f.cells x c hc
    exact ⟨v, o, hk _ _ (notP _ (.inr (.inl ⟨x, hc⟩))) ho, r⟩
  · cases f.st i x v h1 h2 with
    | loc m' a b c => obtain ⟨o, es, ep, ho, r⟩ := b; exact .loc m' a ⟨o, es, ep, hk _ _ (notP _ (.inl rfl)) ho, r⟩ c
    | cel c a b e => obtain ⟨o, ho, r⟩ := e; exact .cel c a b ⟨o, hk _ _ (notP _ (.inr (.inl ⟨x, b⟩))) ho, r⟩
  · obtain ⟨v, h1, h2, h3⟩ := f.hold i d h
    refine ⟨v, h1, fun e => (h2 e).step m, fun e => ?_⟩
    obtain ⟨a, ha, o⟩ := h3 e
    exact ⟨a, ha, o.step m fun o e => hk a o (notP _ (.inr (.inr ⟨i, ha⟩))) e⟩
  · rcases ha with ha | ha
    · by_cases hw : a ∈ wr
      · exact live a hw
      · obtain ⟨o, e, n⟩ := f.okc a (.inl ha); exact ⟨o, hk a o hw e, n⟩
    · exact live a ha
  · obtain ⟨n1, n2, n3, o, n4, n5⟩ := f.oaNew i a ha
    exact ⟨n1, n2, n3, o, hk a o (notP _ (.inr (.inr ⟨i, ha⟩))) n4, n5⟩

theorem end_hm {wr : List Addr} {h h' : Heap} (k : OwnOk (OwnOf (More Oc wr) env oa) h) (hk : ∀ b o, b ∉ wr → h.get? b = some o → h'.get? b = some o) : HM (OwnOf (More Oc wr) env oa) (OwnOf Oc env oa) h h' := by
  refine ⟨fun a o e n => hk a o (fun hw => n (.inl (.inr hw))) e, fun _ _ _ n q => n (q.imp .inl id), fun a o ha e => ?_⟩
  obtain ⟨o', e', n⟩ := k a ha
  rw [e] at e'; cases e'; exact n

/-- an iterator's last step -/
theorem FS.walkEnd {wr : List Addr} {h' : Heap} {tk : Tok} (f : FS K (More Oc wr) env ρ vl oa s₀ s) (new : ∀ b ∈ wr, s₀.heap.get? b = none) (hk : ∀ b o, b ∉ wr → s.heap.get? b = some o → h'.get? b = some o)
    (out : ∀ a, Oc a → a ∉ wr) : FS K Oc env ρ vl oa s₀ { s with heap := h', toks := tk } := by
  have m := end_hm f.ok hk
  have notP : ∀ a, Priv env oa a → a ∉ wr := fun a p hw => f.ocP a (.inr hw) p
  obtain ⟨h, tk', e⟩ := f.same
  refine ⟨⟨h', tk, by rw [e]⟩, fun b o e => hk b o (fun hw => by rw [new b hw] at e; cases e) (f.keep b o e), ?_, fun x c hc => ?_, fun i x v h1 h2 => ?_, fun i d h => ?_, fun a ha => ?_, fun a ha p => f.ocP a (.inl ha) p, f.oaInj, fun i a ha => ?_⟩
  · obtain ⟨n, o, es, ep, ho, r⟩ := f.ns
    exact ⟨n, o, es, ep, hk _ _ (notP _ (.inl rfl)) ho, r⟩
  · obtain ⟨v, o, ho, r⟩ := f.cells x c hc
    exact ⟨v, o, hk _ _ (notP _ (.inr (.inl ⟨x, hc⟩))) ho, r⟩
  · cases f.st i x v h1 h2 with
    | loc m' a b c => obtain ⟨o, es, ep, ho, r⟩ := b; exact .loc m' a ⟨o, es, ep, hk _ _ (notP _ (.inl rfl)) ho, r⟩ c
    | cel c a b e => obtain ⟨o, ho, r⟩ := e; exact .cel c a b ⟨o, hk _ _ (notP _ (.inr (.inl ⟨x, b⟩))) ho, r⟩
  · obtain ⟨v, h1, h2, h3⟩ := f.hold i d h
    refine ⟨v, h1, fun e => (h2 e).step m, fun e => ?_⟩
    obtain ⟨a, ha, o⟩ := h3 e
    exact ⟨a, ha, o.step m fun o e => hk a o (notP _ (.inr (.inr ⟨i, ha⟩))) e⟩
  · obtain ⟨o, e, n⟩ := f.okc a (.inl ha); exact ⟨o, hk a o (out a ha) e, n⟩
  · obtain ⟨n1, n2, n3, o, n4, n5⟩ := f.oaNew i a ha
    exact ⟨n1, n2, n3, o, hk a o (notP _ (.inr (.inr ⟨i, ha⟩))) n4, n5⟩

theorem Step.walk {oa' : Nat → Option Addr} {wr : List Addr} {h h₁ h' : Heap} (x : Step env oa oa' h h₁) (fresh : ∀ b ∈ wr, h.get? b = none) (hk : ∀ b o, b ∉ wr → h₁.get? b = some o → h'.get? b = some o) : Step env oa oa' h h' :=
  ⟨fun a o e n => hk a o (fun hw => by rw [fresh a hw] at e; cases e) (x.keep a o e n), x.fresh⟩

/-- what a loop's target does -/
noncomputable def Takes (K : Cfg) (env : Env) (s₀ : Shared) (A : Around) (target : Expr) (it : Value) (g : Loc → PyData → Option Loc) (Go : Heap → Prop) : Prop :=
  ∀ (Oc : Own) (ρ ρ₁ : Loc) (vl : Nat → Option Value) (oa : Nat → Option Addr) (s : Shared) (x : PyData) (u : Value) (E : Value → Shared → Prop), g ρ x = some ρ₁ → FS K Oc env ρ vl oa s₀ s → Val (OwnOf Oc env oa) s.heap u x → Go s.heap →
    wpAny (model K.prog K.w) A (letOwnedTupleGo target it u) (fun _ s₁ => wpAny (model K.prog K.w) A (assign target env u) (fun _ s₂ => ∃ vl', FS K Oc env ρ₁ vl' oa s₀ s₂ ∧ Step env oa oa s.heap s₂.heap) E s₁) E s

theorem loop_sound {b : Sts} {body : List Stmt} {target : Expr} {g : Loc → PyData → Option Loc} {Go : Heap → Prop} {A : Around} {E : Value → Shared → Prop} {v it : Value} {d : D} {xs : List PyData} {s₂ : Shared} {I : Addr} {fp wr : List Addr} {P : Nat → Value → Prop} {St : Nat → Heap → Prop} {f : Fl} {ρ' : Loc}
    (hb : ExsOk K env.scope b body) (fr : FrOk K env s₀) (ao : AOk K.n A) (fs : FS K Oc env ρ vl oa s₀ s) (dv : DVal K.T K.C (OwnOf Oc env oa) s.heap v d)
    (hI : Iter K.T K.C K.prog K.w (OwnOf Oc env oa) v d xs s it s₂ I fp wr P St) (hT : Takes K env s₀ A target it g Go) (hGo : ∀ i h, St i h → Go h) (hd : loopF (exs K.Cs b) g xs ρ = some (f, ρ')) :
    codeAny (model K.prog K.w) A (.forLoop target it body [] env) (fun r s' => match r with | .ok fl => StOut K Oc env oa s₀ s f ρ' fl s' | .error e => cameBackBy (model K.prog K.w) A env E e s') s₂ := by
  have W := hI.walks A ao.handled
  have new : ∀ b ∈ wr, s₀.heap.get? b = none := fun b hb => by
    cases e : s₀.heap.get? b with
    | none => rfl
    | some o => have := fs.keep b o e; rw [hI.fresh b hb] at this; cases this
  have m₂ := more_hm (wr := wr) fs.ok (keeps_grow hI.keeps) hI.fresh
  have hap : ∀ b ∈ fp, ¬ Priv env oa b := fun b hb p => hI.apart dv b hb (.inr p)
  have href := hI.ref
  subst href
  refine codeAny_forLoop_any (fun n s' => ∃ i ρ vl oa', n = xs.length - i ∧ i ≤ xs.length ∧ FS K (More Oc wr) env ρ vl oa' s₀ s' ∧ St i s'.heap ∧ Step env oa oa' s.heap s'.heap ∧ (∀ b ∈ fp, ¬ Priv env oa' b) ∧
      (∀ j u, P j u → ∃ x, xs[j]? = some x ∧ Val (OwnOf (More Oc wr) env oa') s'.heap u x) ∧ loopF (exs K.Cs b) g (xs.drop i) ρ = some (f, ρ')) ?_ xs.length
    ⟨0, ρ, vl, oa, rfl, Nat.zero_le _, fs.more hI.keeps hI.fresh (hI.live 0 _ hI.start), hI.start, Step.of_grow (keeps_grow hI.keeps), hap, fun j u hu => let ⟨x, e1, e2⟩ := hI.items0 j u hu; ⟨x, e1, e2.step m₂⟩, hd⟩
  rintro n s₁ ⟨i, ρ₁, vl₁, oa₁, rfl, hi, fs₁, st₁, step₁, fp₁, it₁, hd₁⟩
  by_cases hlt : i < xs.length
  · refine W.item i s₁ _ _ hlt st₁ fun u h' tk hu st' hk => ?_
    have fs₂ := fs₁.walk (tk := tk) new hk (hI.live _ _ st')
    have step₂ := step₁.walk hI.fresh hk
    have m₂' := walk_hm fs₁.ok hk
    obtain ⟨x, hx, vx⟩ := it₁ i u hu
    have hx' : xs.drop i = x :: xs.drop (i + 1) := by
      rw [List.drop_eq_getElem_cons hlt]
      rw [List.getElem?_eq_getElem hlt] at hx; cases hx; rfl
    rw [hx'] at hd₁
    simp only [loopF, Option.bind_eq_some_iff] at hd₁
    obtain ⟨ρ₂, hg, ⟨f₃, ρ₃⟩, hb₃, hd₃⟩ := hd₁
    show wpAny _ _ _ _ _ _
    refine wpAny_mono (hT (More Oc wr) ρ₁ ρ₂ vl₁ oa₁ _ x u _ hg fs₂ (vx.step m₂') (hGo _ _ st')) (fun _ s₃ h₃ => ?_) fun _ _ e => e
    refine wpAny_mono h₃ (fun _ s₄ h₄ => ?_) fun _ _ e => e
    obtain ⟨vl₄, fs₄, st₄⟩ := h₄
    refine wpAny_mono (hb (More Oc wr) env ρ₂ vl₄ oa₁ s₀ s₄ A _ f₃ ρ₃ rfl hb₃ fr ao fs₄) (fun fl s₅ h₅ => ?_) fun _ _ e => e
    obtain ⟨vl₅, oa₅, fs₅, st₅, fo⟩ := h₅
    have stp := st₄.trans st₅
    have stAll : Step env oa oa₅ s.heap s₅.heap := step₂.trans stp
    cases f₃ with
    | next =>
      have : fl = .next := fo
      subst this
      have there := hI.there _ _ st'
      have fp₅ : ∀ b ∈ fp, ¬ Priv env oa₅ b := fun b hb p => by
        rcases stp.fresh b p with q | q
        · exact fp₁ b hb q
        · obtain ⟨o, e⟩ := there b hb; rw [e] at q; cases q
      refine ⟨xs.length - (i + 1), by omega, i + 1, ρ₃, vl₅, oa₅, rfl, by omega, fs₅, W.frame _ _ _ st' (fun b hb o e => stp.keep b o e (fp₁ b hb)), stAll, fp₅, fun j u hu => ?_, hd₃⟩
      obtain ⟨x, e1, e2⟩ := it₁ j u hu
      exact ⟨x, e1, (e2.step m₂').step (stp.hm fs₂.ok)⟩
    | brk =>
      have : fl = .brk := fo
      subst this
      cases hd₃
      exact ⟨vl₅, oa₅, fs₅.less, stAll, rfl⟩
    | ret d =>
      obtain ⟨w, rfl, hw⟩ := fo
      cases hd₃
      exact ⟨vl₅, oa₅, fs₅.less, stAll, w, rfl, hw.step (less_hm fs₅.ok)⟩
  · have hn : i = xs.length := by omega
    subst hn
    rw [List.drop_length] at hd₁
    cases hd₁
    refine W.done s₁ _ _ st₁ fun h' tk hk => ?_
    refine wpAny_execs_nil ?_
    exact ⟨vl₁, oa₁, fs₁.walkEnd new hk (fun a ha hw => by obtain ⟨o, e, _⟩ := fs.okc a ha; rw [hI.fresh a hw] at e; cases e), step₁.walk hI.fresh hk, rfl⟩

theorem ex_for1 (ok : K.Ok) {sc : Scope} {i : Nat} {it : Ex} {b : Sts} {x : Str} {p pos : Pos} {iter : Expr} {body : List Stmt} (h1 : K.T.var sc i x = true) (h2 : K.T.own.contains i = false) (h4 : it.isOwn = false) (h5 : isSet iter = false) (hit : EvOk K sc it iter) (hb : ExsOk K sc b body) :
    ExOk K sc (.for1 i it b) (.For (.Name x p) iter body [] pos) := by
  intro Oc env ρ vl oa s₀ s A E f ρ' hsc hd fr ao fs
  subst hsc
  simp only [ex, Option.bind_eq_some_iff] at hd
  obtain ⟨d, hd, xs, hxs, hl⟩ := hd
  split at hl
  · refine wpAny_For (wpAny_mono (hit env ρ d _ s A E rfl hd fr.eo ao (fs.es fr)) (fun v s₁ o₁ => ?_) fun _ _ e => e) (fun _ => folded_plain h5)
    have f₁ := fs.grow o₁.keeps
    refine wpAny_mono (iter_sound hxs o₁.rd f₁.ok) (fun itv s₂ h₂ => ?_) fun _ _ e => e
    obtain ⟨I, fp, wr, P, St, hI⟩ := h₂
    refine codeAny_mono (loop_sound (E := E) (target := .Name x p) (g := bind1 i) (Go := fun _ => True) hb fr ao f₁ (o₁.val h4) hI ?_ (fun _ _ _ => trivial) hl) (fun r s' h' => ?_)
    · intro Oc ρ ρ₁ vl oa s x' u E hg f hv _
      cases hg
      refine wpAny_of_eq (rfl : letOwnedTupleGo (.Name x p) itv u = pure ()) (wpAny_assign_Name ?_)
      exact store_plain (d := .py x') f fr ok h1 h2 hv
    · cases r with
      | ok fl => exact StOut.pre (Step.of_grow (keeps_grow o₁.keeps)) h'
      | error e => exact h'
  · cases hl

theorem exs_sound (ok : K.Ok) {sc : Scope} {st : Sts} {x : List Stmt} (h : IsSs K.T sc st x) : ExsOk K sc st x :=
  IsSs.rec (T := K.T) (sc := sc) (motive_1 := fun st x _ => ExOk K sc st x) (motive_2 := fun st x _ => ExsOk K sc st x)
    (fun h1 h2 h3 h4 e => ex_set ok h1 h2 h3 h4 (ev_sound ok e))
    (fun h1 h2 h3 h4 e => ex_setO ok h1 h2 h3 h4 (ev_sound ok e))
    (fun h1 h2 h3 h4 h5 h6 h7 _ h8 e => ex_set3 ok h1 h2 h3 h4 h5 h6 h7 h8 (ev_sound ok e))
    (fun h1 h2 h3 h4 _ h5 h6 h7 e => ex_unp ok h1 h2 h3 h4 h5 h6 h7 (ev_sound ok e))
    (fun h1 h2 h3 h4 h5 h6 h7 h8 h9 h10 e => ex_unpA ok h1 h2 h3 h4 h5 h6 h7 h8 h9 h10 (ev_sound ok e))
    (fun h1 h2 h3 _ h4 a e => ex_put ok h1 h2 h3 h4 (ev_sound ok a) (ev_sound ok e))
    (fun h1 h2 h3 h4 h5 e => ex_setF ok h1 h2 h3 h4 h5 (ev_sound ok e))
    (fun c _ _ a b => ex_ite (tst_sound ok c) a b)
    (fun h1 h2 h3 h4 it _ b => ex_for1 ok h1 h2 h3 h4 (ev_sound ok it) b)
    (fun h e => ex_ret h (ev_sound ok e))
    ex_brk exs_nil (fun _ _ s ss => exs_cons s ss) h

end
end Mine
end
noncomputable section
open PySem PySem.W PyProof.Rows
set_option maxRecDepth 100000
namespace Mine

theorem DVal.tab {T T' : Tab} {C : Addr} {O : Own} {h : Heap} {v : Value} {d : D} (e : T'.fields = T.fields) (x : DVal T C O h v d) : DVal T' C O h v d := by
  cases d with
  | py d => exact x
  | ws fs =>
    obtain ⟨y, dx, rfl, hx, hd, w⟩ := x
    obtain ⟨es, n, e1, e2⟩ := w.ents
    exact ⟨y, dx, rfl, hx, hd, w.inst, es, n, e1, by rw [e]; exact e2⟩
  | rng a b c => exact x
theorem MadeD.tab {T T' : Tab} {C : Addr} {O : Own} {s s' : Shared} {v : Value} {d : D} (e : T'.fields = T.fields) (x : MadeD T C s O d v s') : MadeD T' C s O d v s' := ⟨x.1, x.2.tab e⟩
theorem DVals.tab {T T' : Tab} {C : Addr} {O : Own} {h : Heap} {vs : List Value} {ds : List D} (e : T'.fields = T.fields) (x : DVals T C O h vs ds) : DVals T' C O h vs ds := by
  induction x with
  | nil => exact .nil
  | cons a _ ih => exact .cons (a.tab e) ih

theorem cells_have : ∀ (names : List (Str × NameKind)) (n : Nat) (acc : List (Str × Addr)) (x : Str), (acc.lookup x).isSome = true ∨ names.lookup x = some .cell → ((cellsFrom n names acc).lookup x).isSome = true
  | [], n, acc, x, h => by
    rcases h with h | h
    · exact h
    · simp at h
  | (y, k) :: r, n, acc, x, h => by
    unfold cellsFrom
    split
    · rename_i hk
      refine cells_have r _ _ x ?_
      rw [List.lookup_cons] at h ⊢
      by_cases e : x == y
      · left; simp [e]
      · simp only [e] at h ⊢; exact h
    · rename_i hk
      refine cells_have r _ _ x ?_
      rcases h with h | h
      · exact .inl h
      · rw [List.lookup_cons] at h
        by_cases e : x == y
        · simp only [e] at h
          cases h
          exact absurd rfl hk
        · simp only [e] at h; exact .inr h

theorem lookup_mem {α : Type} : ∀ {l : List (Str × α)} {x : Str} {c : α}, l.lookup x = some c → (x, c) ∈ l
  | [], _, _, h => by simp at h
  | (y, d) :: r, x, c, h => by
    rw [List.lookup_cons] at h
    by_cases e : x == y
    · simp only [e] at h; cases h; rw [beq_iff_eq.mp e]; exact List.mem_cons_self
    · simp only [e] at h; exact List.mem_cons_of_mem _ (lookup_mem h)
theorem apart_inj {cs : List (Str × Addr)} (h : cs.Pairwise fun x y => x.2 ≠ y.2) {x y : Str} {c : Addr} (hx : (x, c) ∈ cs) (hy : (y, c) ∈ cs) : x = y := by
  induction h with
  | nil => cases hx
  | cons h1 _ ih =>
    rcases List.mem_cons.mp hx with e | hx'
    · rcases List.mem_cons.mp hy with e' | hy'
      · exact (Prod.mk.inj (e.trans e'.symm)).1
      · exact (h1 _ hy' (by rw [← e])).elim
    · rcases List.mem_cons.mp hy with e' | hy'
      · exact (h1 _ hx' (by rw [← e'])).elim
      · exact ih hx' hy'

theorem bindL_not {k : Str → Option NameKind} : ∀ (b : List (Str × Value)) (m : Str → Option Value) (x : Str), x ∉ b.map (·.1) → bindL k b m x = m x
  | [], _, _, _ => rfl
  | (n, v) :: r, m, x, h => by
    simp only [List.map_cons, List.mem_cons, not_or] at h
    unfold bindL
    rw [bindL_not r _ x h.2]
    split
    · simp [h.1]
    · rfl
theorem bindL_mem {k : Str → Option NameKind} : ∀ (b : List (Str × Value)) (m : Str → Option Value) (x : Str) (v : Value), (b.map (·.1)).Nodup → (x, v) ∈ b → k x = some .local → bindL k b m x = some v
  | (n, w) :: r, m, x, v, hn, h, hk => by
    simp only [List.map_cons, List.nodup_cons] at hn
    unfold bindL
    rcases List.mem_cons.mp h with e | h
    · cases e
      rw [bindL_not r _ _ hn.1, if_pos hk]; simp
    · exact bindL_mem r _ x v hn.2 h hk
theorem bindC_not {k : Str → Option NameKind} : ∀ (b : List (Str × Value)) (m : Str → Option Value) (x : Str), x ∉ b.map (·.1) → bindC k b m x = m x
  | [], _, _, _ => rfl
  | (n, v) :: r, m, x, h => by
    simp only [List.map_cons, List.mem_cons, not_or] at h
    unfold bindC
    rw [bindC_not r _ x h.2]
    split
    · rfl
    · simp [h.1]
theorem bindC_mem {k : Str → Option NameKind} : ∀ (b : List (Str × Value)) (m : Str → Option Value) (x : Str) (v : Value), (b.map (·.1)).Nodup → (x, v) ∈ b → k x ≠ some .local → bindC k b m x = some v
  | (n, w) :: r, m, x, v, hn, h, hk => by
    simp only [List.map_cons, List.nodup_cons] at hn
    unfold bindC
    rcases List.mem_cons.mp h with e | h
    · cases e
      rw [bindC_not r _ _ hn.1, if_neg hk]; simp
    · exact bindC_mem r _ x v hn.2 h hk

noncomputable def FnAt (F : Frag) (f : Addr) (body : List Stmt) (scope : Scope) (names : List Str) : Prop :=
  ∃ oc od osl name qual params dV kV doc pm an cdv ct, F.lookup f = some ⟨oc, od, .func (fnOf name qual params body scope dV kV doc pm an cdv ct), osl⟩ ∧ codeIn F cdv qual = true ∧
    (∀ vs : List Value, vs.length = names.length → bindArgs (fnOf name qual params body scope dV kV doc pm an cdv ct) ⟨vs, []⟩ = pure (names.zip vs)) ∧ scope.isCoroutine = false ∧ scope.isGenerator = false ∧ scope.kind = .function

noncomputable def Pre (O : Own) (oa : Nat → Option Addr) : Own := fun a => O a ∨ ∃ i, oa i = some a

/-- what stands around a call -/
structure COk (n : Nat) (A : Around) : Prop where
  handled : A.handled = none
  depth : A.depth + 1 ≤ 301 + n
  units : A.units + 3 ≤ 4 + 10 * n
  small : n ≤ 20

section
variable {K : Cfg} {O : Own} {ρ : Loc} {vl : Nat → Option Value} {oa : Nat → Option Addr} {s₀ s : Shared}

theorem run_fn (ok : K.Ok) {A : Around} {R : Result → Shared → Prop} {vs : List Value} {f : Addr} {body : List Stmt} {scope : Scope} {names : List Str} {st : Sts} {fl : Fl} {ρ' : Loc}
    (fa : FnAt K.F f body scope names) (hA : COk K.n A) (k : Keeps s₀ s) (hB : K.hB.objs.size ≤ s.heap.objs.size) (base : Grow K.hB s₀.heap) (okO : OwnOk O s.heap)
    (hoa : ∀ i a, oa i = some a → s₀.heap.get? a = none ∧ ¬ O a ∧ ∃ o, s.heap.get? a = some o ∧ NotTup o) (hinj : ∀ i j a, oa i = some a → oa j = some a → i = j)
    (hvl : ∀ i v, vl i = some v → ∃ x, K.T.nm[i]? = some x ∧ (x, v) ∈ names.zip vs) (hnd : names.Nodup) (hlen : vs.length = names.length)
    (hkind : ∀ x ∈ names, scope.names.lookup x = some .local ∨ scope.names.lookup x = some .cell)
    (hold : ∀ i d, ρ i = some d → ∃ v, vl i = some v ∧ (K.T.own.contains i = false → DVal K.T K.C (Pre O oa) s.heap v d) ∧ (K.T.own.contains i = true → ∃ a, oa i = some a ∧ OwnedAt K (Pre O oa) s.heap v a d))
    (hchk : IsSs K.T scope st body) (hex : exs K.Cs st ρ = some (fl, ρ'))
    (h : ∀ env vl' oa' fw s', FS K O env ρ' vl' oa' s₀ s' → FlOut K (OwnOf O env oa') fl fw s' → R (.ok (.ret (match fw with | .ret v => v | _ => .none))) s') :
    codeAny (model K.prog K.w) A (.call (.ref f) ⟨vs, []⟩) R s := by
  obtain ⟨oc, od, osl, name, qual, params, dV, kV, doc, pm, an, cdv, ct, hf, hcd, hbind, hco, hgen, hk⟩ := fa
  have g := keeps_grow k
  have X : K.F.In s.heap := ok.frag.keeps (base.trans g)
  have hkeys : (names.zip vs).map (·.1) = names := by rw [List.map_fst_zip]; omega
  refine codeAny_call_cells (fd := fnOf name qual params body scope dV kV doc pm an cdv ct) (body := body) (binds := names.zip vs) ?_ (X _ _ hf) rfl (ok.lim.keeps (base.trans g)) (codeRec_of X hcd) rfl (hbind vs hlen) rfl ?_ (fun s₁ hin => ?_) hco hgen hk
  · have := hA.depth; have := hA.small; unfold recursionLimit; omega
  · intro x hx
    have hx' : x.1 ∈ names := by rw [← hkeys]; exact List.mem_map_of_mem hx
    rcases hkind x.1 hx' with e | e
    · exact .inl e
    · exact .inr ⟨e, cells_have _ _ _ _ (.inr e)⟩
  · generalize henv : callEnvC (fnOf name qual params body scope dV kV doc pm an cdv ct) s.heap.objs.size f = env at hin
    have hsc : env.scope = scope := by rw [← henv]; rfl
    have hL : env.locals = s.heap.objs.size := by rw [← henv]; rfl
    have hko : ∀ x, env.kindOf x = scope.names.lookup x := fun x => by rw [← henv]; rfl
    have hcs : env.cells = cellsFrom (s.heap.objs.size + 1) scope.names [] := by rw [← henv]; rfl
    have hnone : ∀ a, s.heap.objs.size ≤ a → s.heap.get? a = none := fun a h => size_none h
    have hnone₀ : ∀ a, s.heap.get? a = none → s₀.heap.get? a = none := fun a h => by
      cases e : s₀.heap.get? a with
      | none => rfl
      | some o => rw [g _ _ e] at h; cases h
    have hcab : ∀ x c, env.cells.lookup x = some c → s.heap.objs.size < c := fun x c hc => by have := hin.above x c (lookup_mem hc); rw [hL] at this; exact this
    have fr : FrOk K env s₀ := by
      refine ⟨⟨by rw [hsc]; exact hk, by rw [← henv]; rfl, by rw [← henv]; rfl, fun x hx => ?_, by rw [hL]; exact hB⟩, fun x y c hx hy => apart_inj hin.apart (lookup_mem hx) (lookup_mem hy), fun x c hc => by rw [hL]; exact Nat.ne_of_gt (hcab x c hc), ?_, fun x c hc => hnone₀ _ (hnone _ (Nat.le_of_lt (hcab x c hc))), base⟩
      · rw [hko] at hx
        exact Option.isSome_iff_exists.mp (by rw [hcs]; exact cells_have _ _ _ _ (.inr hx))
      · rw [hL]; exact hnone₀ _ (hnone _ (Nat.le_refl _))
    have gk : Grow s.heap s₁.heap := hin.toInCall.keep
    have hpriv : ∀ a, Priv env oa a → s.heap.get? a = none ∨ ∃ i, oa i = some a := fun a p => by
      rcases p with rfl | ⟨x, hx⟩ | p
      · left; rw [hL]; exact hnone _ (Nat.le_refl _)
      · left; exact hnone _ (Nat.le_of_lt (hcab x a hx))
      · exact .inr p
    have hm : HM (Pre O oa) (OwnOf O env oa) s.heap s₁.heap := by
      refine ⟨fun a o e _ => gk a o e, fun a o e n q => ?_, fun a o ha e => ?_⟩
      · rcases q with q | q
        · exact n (.inl q)
        · rcases hpriv a q with q | q
          · rw [e] at q; cases q
          · exact n (.inr q)
      · rcases ha with ha | ⟨i, hi⟩
        · obtain ⟨o', e', n⟩ := okO a ha; rw [e] at e'; cases e'; exact n
        · obtain ⟨_, _, o', e', n⟩ := hoa i a hi; rw [e] at e'; cases e'; exact n
    have fs : FS K O env ρ vl oa s₀ s₁ := by
      refine ⟨?_, g.trans gk, ⟨_, hin.toInCall.ns⟩, fun x c hc => ⟨_, hin.cell x c hc⟩, fun i x v h1 h2 => ?_, fun i d h => ?_, fun a ha => ?_, fun a ha p => ?_, hinj, fun i a hi => ?_⟩
      · obtain ⟨h', tk', rfl, _⟩ := k
        obtain ⟨h, tk, e⟩ := hin.toInCall.same
        exact ⟨h, tk, e⟩
      · obtain ⟨y, hy, hmem⟩ := hvl i v h2
        rw [h1] at hy; cases hy
        have hxn : x ∈ names := by rw [← hkeys]; exact List.mem_map_of_mem (f := Prod.fst) hmem
        rcases hkind x hxn with e | e
        · exact .loc _ ((hko x).trans e) hin.toInCall.ns (bindL_mem _ _ x v (by rw [hkeys]; exact hnd) hmem ((hko x).trans e))
        · obtain ⟨c, hc⟩ := fr.eo.cells x ((hko x).trans e)
          have := hin.cell x c hc
          rw [bindC_mem _ _ x v (by rw [hkeys]; exact hnd) hmem (by rw [hko, e]; simp)] at this
          exact .cel c ((hko x).trans e) hc this
      · obtain ⟨v, h1, h2, h3⟩ := hold i d h
        exact ⟨v, h1, fun e => (h2 e).step hm, fun e => let ⟨a, ha, o⟩ := h3 e; ⟨a, ha, o.step hm fun o e => gk _ _ e⟩⟩
      · obtain ⟨o, e, n⟩ := okO a ha; exact ⟨o, gk _ _ e, n⟩
      · rcases hpriv a p with q | ⟨i, q⟩
        · obtain ⟨o, e, n⟩ := okO a ha; rw [e] at q; cases q
        · exact (hoa i a q).2.1 ha
      · obtain ⟨n1, n2, o, n3, n4⟩ := hoa i a hi
        refine ⟨n1, fun e => ?_, fun x hx => ?_, o, gk _ _ n3, n4⟩
        · rw [e, hL, hnone _ (Nat.le_refl _)] at n3; cases n3
        · rw [hnone _ (Nat.le_of_lt (hcab x a hx))] at n3; cases n3
    have ao : AOk K.n (A.deeper env) := ⟨hA.handled, hA.depth, hA.units, hA.small⟩
    refine wpAny_mono (exs_sound ok hchk O env ρ vl oa s₀ s₁ (A.deeper env) _ fl ρ' hsc hex fr ao fs) (fun fw s' o' => ?_) fun _ _ e => e
    obtain ⟨vl', oa', fs', _, fo⟩ := o'
    exact h env vl' oa' fw s' fs' fo

theorem FS.keeps {env : Env} {Oc : Own} (f : FS K Oc env ρ vl oa s₀ s) : Keeps s₀ s := by
  obtain ⟨h, tk, e⟩ := f.same
  subst e
  exact ⟨h, tk, rfl, f.keep⟩
theorem FS.out_hm {env : Env} {Oc : Own} (f : FS K Oc env ρ vl oa s₀ s) : HM (OwnOf Oc env oa) Oc s.heap s.heap := by
  refine ⟨fun _ _ e _ => e, fun a o e n q => n (.inl q), fun a o ha e => ?_⟩
  obtain ⟨o', e', n⟩ := f.ok a ha
  rw [e] at e'; cases e'; exact n

theorem zip_mem {α β : Type} : ∀ {l : List α} {m : List β} {i : Nat} {x : α} {y : β}, l[i]? = some x → m[i]? = some y → (x, y) ∈ l.zip m
  | [], _, _, _, _, h, _ => by simp at h
  | _ :: _, [], _, _, _, _, h => by simp at h
  | a :: l, b :: m, 0, x, y, h1, h2 => by simp at h1 h2; subst h1 h2; simp
  | a :: l, b :: m, i + 1, x, y, h1, h2 => by
    rw [List.zip_cons_cons]
    exact List.mem_cons_of_mem _ (zip_mem (by simpa using h1) (by simpa using h2))

theorem DVals.len {T : Tab} {C : Addr} {O : Own} {h : Heap} {vs : List Value} {ds : List D} (x : DVals T C O h vs ds) : vs.length = ds.length := by
  induction x with
  | nil => rfl
  | cons _ _ ih => simp [ih]
theorem DVals.get {T : Tab} {C : Addr} {O : Own} {h : Heap} {vs : List Value} {ds : List D} (x : DVals T C O h vs ds) : ∀ (i : Nat) (d : D), ds[i]? = some d → ∃ v, vs[i]? = some v ∧ DVal T C O h v d := by
  induction x with
  | nil => intro i d h; simp at h
  | cons a _ ih =>
    intro i d h
    cases i with
    | zero => simp at h; subst h; exact ⟨_, rfl, a⟩
    | succ i => simpa using ih i d (by simpa using h)

/-- a call of a function that gives back a value -/
theorem fn_call (ok : K.Ok) {A : Around} {E : Value → Shared → Prop} {vs : List Value} {ds : List D} {f : Addr} {body : List Stmt} {scope : Scope} {st : Sts} {d : D} {ρ' : Loc} {L : Addr} {m : Str → Option Value}
    (fa : FnAt K.F f body scope (K.T.nm.take ds.length)) (hA : COk K.n A) (F : Fr K.hB L s.heap m) (okO : OwnOk O s.heap) (dv : DVals K.T K.C O s.heap vs ds) (hlen : ds.length ≤ K.T.nm.length)
    (hpar : (K.T.nm.take ds.length).all (fun x => scope.names.lookup x == some .local || scope.names.lookup x == some .cell) = true) (hown : ∀ i, i < ds.length → K.T.own.contains i = false)
    (hchk : IsSs K.T scope st body) (hex : exs K.Cs st (fun i => ds[i]?) = some (.ret d, ρ')) :
    wpAny (model K.prog K.w) A (PySem.call (.ref f) vs) (MadeD K.T K.C s O d) E s := by
  have hl := dv.len
  have hsz : K.hB.objs.size ≤ s.heap.objs.size := by
    obtain ⟨o, es, ep, ho, _⟩ := F.ns
    exact Nat.le_of_lt (Nat.lt_of_le_of_lt F.above (Heap.lt_size ho))
  have pre : ∀ h v d, DVal K.T K.C O h v d → OwnOk O h → DVal K.T K.C (Pre O fun _ => none) h v d := fun h v d x k =>
    x.step ⟨fun _ _ e _ => e, (fun a o e n q => by rcases q with q | ⟨i, q⟩; exact n q; cases q), (fun a o ha e => by obtain ⟨o', e', n⟩ := k a ha; rw [e] at e'; cases e'; exact n)⟩
  refine wpAny_call (run_fn (vl := fun i => vs[i]?) (oa := fun _ => none) (ρ := fun i => ds[i]?) ok fa hA (keeps_refl s) hsz F.keep okO (fun _ _ h => by cases h) (fun _ _ _ h => by cases h) (fun i v hv => ?_) ?_ ?_ (fun x hx => ?_) (fun i d hd => ?_) hchk hex (fun env vl' oa' fw s' fs fo => ?_))
  · have hi : i < ds.length := by rw [← hl]; exact (List.getElem?_eq_some_iff.mp hv).1
    have hn : K.T.nm[i]? = some (K.T.nm[i]'(by omega)) := List.getElem?_eq_getElem _
    exact ⟨_, hn, zip_mem (by rw [List.getElem?_take_of_lt hi]; exact hn) hv⟩
  · exact (List.take_sublist _ _).nodup ok.names.1
  · rw [List.length_take]; omega
  · have := List.all_eq_true.mp hpar x hx
    simpa using this
  · obtain ⟨v, h1, h2⟩ := dv.get i d hd
    have hi : i < ds.length := (List.getElem?_eq_some_iff.mp hd).1
    exact ⟨v, h1, fun _ => pre _ _ _ h2 okO, fun e => by rw [hown i hi] at e; cases e⟩
  · obtain ⟨v, rfl, hv⟩ := fo
    exact ⟨fs.keeps, hv.step fs.out_hm⟩

/-- a new instance -/
theorem cls_call (ok : ∀ me, { K with me := me }.Ok) {A : Around} {E : Value → Shared → Prop} {u : Value} {x : PyData} {f : Addr} {body : List Stmt} {scope : Scope} {st : Sts} {fs : List PyData} {ρ' : Loc} {L : Addr} {m : Str → Option Value}
    (hm : makesIn K.F K.C = true) (hi : findIn K.F (.ref K.C) "__init__" = some (some (.ref f))) (hf : isFn K.F (.ref f) = true)
    (fa : FnAt K.F f body scope (K.T.nm.take 2)) (hA : ∀ rest kw, COk K.n (A.under (.builtin "type.__call__" ⟨.ref K.C :: rest, kw⟩))) (F : Fr K.hB L s.heap m) (okO : OwnOk O s.heap) (dv : Val O s.heap u x) (hlen : 2 ≤ K.T.nm.length)
    (hpar : (K.T.nm.take 2).all (fun x => scope.names.lookup x == some .local || scope.names.lookup x == some .cell) = true) (hown : K.T.own.contains 0 = true) (hown1 : K.T.own.contains 1 = false)
    (hchk : IsSs K.T scope st body) (hex : exs K.Cs st (fun i => if i = 0 then some (.ws []) else if i = 1 then some (.py x) else none) = some (.next, ρ')) (hρ : ρ' 0 = some (.ws fs)) :
    wpAny (model K.prog K.w) A (PySem.call (.ref K.C) [u]) (MadeD K.T K.C s O (.ws fs)) E s := by
  have X : K.F.In s.heap := (ok 0).frag.keeps F.keep
  have hsz : K.hB.objs.size ≤ s.heap.objs.size := by
    obtain ⟨o, es, ep, ho, _⟩ := F.ns
    exact Nat.le_of_lt (Nat.lt_of_le_of_lt F.above (Heap.lt_size ho))
  have okO' := okO
  obtain ⟨h, gs, dr, tk, os⟩ := s
  refine wpAny_call (make_core (makes_of X hm) (looks_findIn X hi) (fun self => bind_fn X self (beq_iff_eq.mp hf)) (.inl rfl) ?_)
  let D := h.objs.size
  let Y := h.objs.size + 1
  have gr : Grow h ((h.push emptyDict).push (instObj K.C D)) := (Grow.push _ _).trans (Grow.push _ _)
  have hD : ((h.push emptyDict).push (instObj K.C D)).get? D = some (dictOf [] 0) := Heap.get?_push_of_some _ (Heap.get?_push_size _ rfl)
  have hY : ((h.push emptyDict).push (instObj K.C D)).get? Y = some (instObj K.C D) := by
    have := Heap.get?_push_size (o := instObj K.C D) (h.push emptyDict) rfl
    rw [Heap.size_push] at this; exact this
  have hnD : h.get? D = none := size_none (Nat.le_refl _)
  have hnY : h.get? Y = none := size_none (Nat.le_succ _)
  have nOD : ¬ O D := okO.fresh hnD
  have nOY : ¬ O Y := okO.fresh hnY
  let oa : Nat → Option Addr := fun i => if i = 0 then some D else none
  have hpre : ∀ a, Pre O oa a → O a ∨ a = D := fun a p => by
    rcases p with p | ⟨i, p⟩
    · exact .inl p
    · by_cases e : i = 0
      · simp only [oa, e, if_true] at p; cases p; exact .inr rfl
      · simp only [oa, e, if_false] at p; cases p
  have hm : HM O (Pre O oa) h ((h.push emptyDict).push (instObj K.C D)) := by
    refine ⟨fun a o e _ => gr a o e, fun a o e n q => ?_, fun a o ha e => by obtain ⟨o', e', n⟩ := okO a ha; rw [e] at e'; cases e'; exact n⟩
    rcases hpre a q with q | rfl
    · exact n q
    · rw [hnD] at e; cases e
  refine run_fn (K := { K with me := Y }) (s₀ := ⟨h, gs, dr, tk, os⟩) (vl := fun i => [Value.ref Y, u][i]?) (oa := oa) (ρ := fun i => if i = 0 then some (.ws []) else if i = 1 then some (.py x) else none) (ok Y) fa (hA _ _) (keeps_mk ⟨h, gs, dr, tk, os⟩ _ tk gr) ?_ F.keep (okO.grow gr)
    (fun i a hi => ?_) (fun i j a hi hj => ?_) (fun i v hv => ?_) ((List.take_sublist _ _).nodup (ok 0).names.1) (by rw [List.length_take]; simp; omega) (fun x hx => ?_) (fun i d hd => ?_) hchk hex (fun env vl' oa' fw s' fs' fo => ?_)
  · rw [Heap.size_push, Heap.size_push]; exact Nat.le_trans hsz (Nat.le_add_right _ 2)
  · by_cases e : i = 0
    · simp only [oa, e, if_true] at hi; cases hi
      exact ⟨hnD, nOD, _, hD, fun _ _ _ e => nomatch e⟩
    · simp only [oa, e, if_false] at hi; cases hi
  · by_cases e : i = 0 <;> by_cases e' : j = 0
    · rw [e, e']
    · simp only [oa, e', if_false] at hj; cases hj
    · simp only [oa, e, if_false] at hi; cases hi
    · simp only [oa, e, if_false] at hi; cases hi
  · have hi : i < 2 := (List.getElem?_eq_some_iff.mp hv).1
    have hn : K.T.nm[i]? = some (K.T.nm[i]'(by omega)) := List.getElem?_eq_getElem _
    exact ⟨_, hn, zip_mem (by rw [List.getElem?_take_of_lt hi]; exact hn) hv⟩
  · have := List.all_eq_true.mp hpar x hx
    simpa using this
  · by_cases e : i = 0
    · subst e
      simp only [if_true] at hd; cases hd
      refine ⟨_, rfl, (fun (e : K.T.own.contains 0 = false) => by rw [hown] at e; cases e), fun _ => ⟨D, by simp [oa], Y, rfl, fun q => ?_, ⟨hY, [], 0, hD, .nil⟩, rfl⟩⟩
      rcases hpre _ q with q | q
      · exact nOY q
      · exact absurd q (Nat.ne_of_gt (Nat.lt_succ_self _))
    · by_cases e1 : i = 1
      · subst e1
        simp only [Nat.one_ne_zero, if_false, if_true] at hd; cases hd
        exact ⟨_, rfl, (fun _ => Val.step dv hm), (fun (e : K.T.own.contains 1 = true) => by rw [hown1] at e; cases e)⟩
      · simp only [e, e1, if_false] at hd; cases hd
  · have : fw = .next := fo
    subst this
    refine ⟨rfl, fs'.keeps, ?_⟩
    obtain ⟨v, _, _, ho⟩ := fs'.hold 0 _ hρ
    obtain ⟨a, ha, y, _, hy, w, hme⟩ := ho hown
    have hme : y = Y := hme
    subst hme
    have na : ¬ O a := okO.fresh (fs'.oaNew 0 a ha).1
    obtain ⟨es, n, e1, e2⟩ := w.ents
    exact ⟨_, a, rfl, nOY, na, w.inst, es, n, e1, e2.step fs'.out_hm⟩
end
end Mine
end
noncomputable section
open PySem PySem.W PyProof.Rows
set_option maxRecDepth 100000
namespace Mine

noncomputable abbrev S (x : String) : Str := Str.ofString x
noncomputable def fieldsW : List Str := [S "raw", S "n", S "nt", S "norm", S "is_simple"]
noncomputable def wsT (nm : List Str) (own : List Nat) (atoms : List (Str × Str)) : Tab := ⟨nm, own, [], [], fieldsW, atoms⟩
noncomputable def atomsW : List (Str × Str) := [(S "Whitespace", S "S"), (S "Whitespace", S "T")]

noncomputable def C0 : Calls := ⟨fun _ _ => none, fun _ _ _ => none, fun k => match k with | 0 => some (.py (.str (S " "))) | 1 => some (.py (.str (S "\t"))) | _ => none⟩

noncomputable def initT : Tab := wsT [S "self", S "ws", S "S", S "T", S "count", S "b", S "n", S "nt", S "ch"] [0, 4] atomsW
noncomputable def sq : List St → Sts
  | [] => .nil
  | s :: r => .cons s (sq r)
noncomputable def ls : List Ex → Exs
  | [] => .nil
  | s :: r => .cons s (ls r)

noncomputable def initBody : Sts := sq [
  .ite (.cmp .eq (.var 8) (.var 2))
    (sq [.set 6 (.bin .add (.var 6) (.int 1)), .set 5 (.bin .add (.var 5) (.int 1))])
    (sq [.ite (.cmp .eq (.var 8) (.var 3))
      (sq [.set 6 (.bin .add (.var 6) (.int 1)), .set 7 (.bin .add (.var 7) (.int 1)),
        .ite (.cmp .ge (.var 5) (.fn .len (ls [.own 4])))
          (sq [.setO 4 (.bin .add (.own 4) (.bin .mul (.list (ls [.int 0])) (.bin .add (.bin .sub (.var 5) (.fn .len (ls [.own 4]))) (.int 1))))]) (sq []),
        .put 4 (.var 5) (.bin .add (.idx (.own 4) (.var 5)) (.int 1)),
        .set 5 (.int 0)])
      (sq [.brk])])]
noncomputable def initSt : Sts := sq [
  .setF 0 0 (.var 1),
  .unp 2 3 (.tup (ls [.atom 0, .atom 1])),
  .setO 4 (.list (ls [])),
  .set3 5 6 7 (.int 0),
  .for1 8 (.attr (.own 0) 0) initBody,
  .setF 0 1 (.var 6),
  .setF 0 2 (.var 7),
  .setF 0 3 (.tup (ls [.fn .tuple (ls [.own 4]), .var 5])),
  .setF 0 4 (.cmp .le (.fn .len (ls [.own 4])) (.int 1))]

noncomputable def lvlT : Tab := wsT [S "self", S "tabsize", S "count", S "trailing", S "il", S "i"] [] []
noncomputable def lvlSt : Sts := sq [
  .unp 2 3 (.attr (.var 0) 3),
  .set 4 (.int 0),
  .for1 5 (.fn .range (ls [.var 1, .fn .len (ls [.var 2])]))
    (sq [.set 4 (.bin .add (.var 4) (.bin .mul (.bin .fdiv (.var 5) (.var 1)) (.idx (.var 2) (.var 5))))]),
  .ret (.bin .add (.var 3) (.bin .mul (.var 1) (.bin .add (.var 4) (.attr (.var 0) 2))))]

noncomputable def iniρ (x : PyData) : Loc := fun i => if i = 0 then some (.ws []) else if i = 1 then some (.py x) else none
noncomputable def semInit : List D → Option D
  | [.py x] => match exs C0 initSt (iniρ x) with
    | some (.next, ρ') => (match ρ' 0 with
      | some (.ws fs) => some (.ws fs)
      | _ => none)
    | _ => none
  | _ => none
noncomputable def semFn (n : Nat) (st : Sts) (ds : List D) : Option D :=
  if ds.length = n then
    match exs C0 st (fun i => ds[i]?) with
    | some (.ret d, _) => some d
    | _ => none
  else none
noncomputable def semMeth (n : Nat) (st : Sts) (x : D) (ds : List D) : Option D := match x with
  | .ws fs => semFn (n + 1) st (.ws fs :: ds)
  | _ => none

/-- what the class's module holds -/
structure World0 (F : Frag) (C : Addr) (hB : Heap) (mg mb : Str → Option Value) : Prop where
  g : hB.Ns mainGlobals mg
  b : hB.Ns builtinsNs mb
  frag : F.In hB
  lim : hB.NoLimit
  fns : ∀ k : Fn, mg k.name = none ∧ mb k.name = some k.val
  attr : ∀ name ∈ fieldsW, plainGet F C name = true ∧ hasDictIn F C = true ∧ ∃ a, findIn F (.ref C) name = some a ∧ noGet F a = true
  setF : ∀ name ∈ fieldsW, findIn F (.ref C) "__setattr__" = some (some (.builtin "object.__setattr__")) ∧ plainOver F C = true ∧ takerIn F C name = some none
  cls : mg (S "Whitespace") = some (.ref C)
  keepC : keepIn F (.ref C) = true
  atomS : ∃ mc t, typeIn F (.ref C) = some mc ∧ readsIn F C mc = true ∧ findCls F (.ref C) mc (S "S") = some (.val (.str (S " ") t))
  atomT : ∃ mc t, typeIn F (.ref C) = some mc ∧ readsIn F C mc = true ∧ findCls F (.ref C) mc (S "T") = some (.val (.str (S "\t") t))
  makes : makesIn F C = true
  init : ∃ f scope body, findIn F (.ref C) "__init__" = some (some (.ref f)) ∧ isFn F (.ref f) = true ∧ FnAt F f body scope [S "self", S "ws"] ∧
    [S "self", S "ws"].all (fun x => scope.names.lookup x == some .local || scope.names.lookup x == some .cell) = true ∧ IsSs initT scope initSt body

theorem fieldsW_mem {f : Nat} {name : Str} (h : fieldsW[f]? = some name) : name ∈ fieldsW := List.mem_of_getElem? h

section
variable {F : Frag} {C : Addr} {hB : Heap} {mg mb : Str → Option Value} (W : World0 F C hB mg mb) {prog : Program} {w : World}

noncomputable def leafK (F : Frag) (C : Addr) (hB : Heap) (mg mb : Str → Option Value) (prog : Program) (w : World) (T : Tab) (me : Addr) : Cfg := ⟨T, C, prog, w, F, hB, mg, mb, C0, 5, me⟩

include W in
theorem leaf_ok {nm : List Str} {own : List Nat} {atoms : List (Str × Str)} (hn : nm.Nodup ∧ ∀ x ∈ nm, okName x = true) (ha : ∀ (k : Nat) (p : Str × Str), atoms[k]? = some p → atomsW[k]? = some p) (me : Addr) :
    (leafK F C hB mg mb prog w (wsT nm own atoms) me).Ok where
  g := W.g
  b := W.b
  frag := W.frag
  lim := W.lim
  fns := W.fns
  nodup := by show fieldsW.Nodup; decide +kernel
  names := hn
  attr := fun f name h => W.attr name (fieldsW_mem h)
  setF := fun f name h => W.setF name (fieldsW_mem h)
  few := by show fieldsW.length ≤ 100; decide
  call := fun k x ds d h1 h2 => by cases h2
  meth := fun k name x ds d h1 h2 => by cases h2
  atom := fun k c name d h1 h2 => by
    have h1' := ha k (c, name) h1
    match k, h1', h2 with
    | 0, h1', h2 =>
      cases h1'; cases h2
      obtain ⟨mc, t, e1, e2, e3⟩ := W.atomS
      refine ⟨_, W.cls, fun A s O E L m Fr ok => ?_⟩
      exact cls_val Fr W.frag e1 e2 e3 rfl ⟨keeps_tok _ _, Val.str⟩
    | 1, h1', h2 =>
      cases h1'; cases h2
      obtain ⟨mc, t, e1, e2, e3⟩ := W.atomT
      refine ⟨_, W.cls, fun A s O E L m Fr ok => ?_⟩
      exact cls_val Fr W.frag e1 e2 e3 rfl ⟨keeps_tok _ _, Val.str⟩
    | k + 2, h1', h2 => cases h2

noncomputable def CallOk (K : Cfg) (x : Str) (sem : List D → Option D) : Prop := ∀ ds d, sem ds = some d → ∃ f, K.mg x = some f ∧ keepIn K.F f = true ∧
    ∀ (A : Around) (s : Shared) (vs : List Value) (O : Own) (E : Value → Shared → Prop) (L : Addr) (m : Str → Option Value), AOk K.n A → Fr K.hB L s.heap m → OwnOk O s.heap → DVals K.T K.C O s.heap vs ds →
      wpAny (model K.prog K.w) A (call f vs) (MadeD K.T K.C s O d) E s
noncomputable def MethOk (K : Cfg) (name : Str) (sem : D → List D → Option D) : Prop := ∀ x ds d, sem x ds = some d → (∃ fs, x = .ws fs) ∧ name ∉ K.T.fields ∧ plainGet K.F K.C name = true ∧ ∃ f, findIn K.F (.ref K.C) name = some (some (.ref f)) ∧ isFn K.F (.ref f) = true ∧
    keepIn K.F (.ref f) = true ∧ ∀ (A : Around) (s : Shared) (v : Value) (vs : List Value) (O : Own) (E : Value → Shared → Prop) (L : Addr) (m : Str → Option Value), AOk K.n A → Fr K.hB L s.heap m → OwnOk O s.heap → DVal K.T K.C O s.heap v x → DVals K.T K.C O s.heap vs ds →
      wpAny (model K.prog K.w) A (PySem.call (.ref f) (v :: vs)) (MadeD K.T K.C s O d) E s

noncomputable def lawT (nm : List Str) (own : List Nat) (fns mts : List Str) : Tab := ⟨nm, own, fns, mts, fieldsW, []⟩
/-- a law's own configuration -/
noncomputable def lawK (F : Frag) (C : Addr) (hB : Heap) (mg mb : Str → Option Value) (prog : Program) (w : World) (nm : List Str) (own : List Nat) (fns mts : List Str) (Cs : Calls) : Cfg :=
  ⟨lawT nm own fns mts, C, prog, w, F, hB, mg, mb, Cs, 1, 0⟩

variable {nm : List Str} {own : List Nat} {fns mts : List Str} {Cs : Calls}

theorem COk.of_law {A : Around} (a : AOk 1 A) : COk 5 A := ⟨a.handled, by have := a.depth; omega, by have := a.units; omega, by omega⟩
theorem tc_frames (args : Args) : (Code.builtin "type.__call__" args).frames = 0 := rfl
theorem tc_weight (C : Addr) (rest : List Value) (kw : List (Str × Value)) : (Code.builtin "type.__call__" ⟨.ref C :: rest, kw⟩).weight ≤ 2 := by
  unfold Code.weight
  rw [tc_frames, show (Code.builtin "type.__call__" ⟨.ref C :: rest, kw⟩).isCaller = false from rfl]
  split <;> split <;> simp
theorem tc_units (args : Args) : (Code.builtin "type.__call__" args).cUnits = 1 := by
  show 1 + 3 * (Code.builtin "type.__call__" args).frames = 1
  rw [tc_frames]
theorem COk.of_under {A : Around} (a : AOk 1 A) (C : Addr) (rest : List Value) (kw : List (Str × Value)) : COk 5 (A.under (.builtin "type.__call__" ⟨.ref C :: rest, kw⟩)) := by
  have h1 := a.depth
  have h2 := a.units
  have h3 := tc_weight C rest kw
  have h4 := tc_units ⟨.ref C :: rest, kw⟩
  refine ⟨a.handled, ?_, ?_, by omega⟩
  · show A.depth + _ + 1 ≤ _; omega
  · show A.units + _ + 3 ≤ _; omega

include W in
theorem cls_CallOk : CallOk (lawK F C hB mg mb prog w nm own fns mts Cs) (S "Whitespace") semInit := by
  intro ds d h
  refine ⟨_, W.cls, W.keepC, fun A s vs O E L m ao Fr ok dv => ?_⟩
  unfold semInit at h
  split at h
  · rename_i x
    split at h
    · rename_i ρ' hex
      split at h
      · rename_i fs hρ
        cases h
        obtain ⟨f, scope, body, e1, e2, e3, e4, e5⟩ := W.init
        cases dv with
        | @cons v vs' _ _ a b =>
          cases b
          refine wpAny_mono (cls_call (K := leafK F C hB mg mb prog w initT 0) (f := f) (body := body) (scope := scope) (st := initSt) (x := x) (ρ' := ρ') (fs := fs) (fun me => leaf_ok W (by decide +kernel) (fun k p h => h) me) W.makes e1 e2 e3 (COk.of_under ao C) Fr ok a (by show 2 ≤ initT.nm.length; decide) e4 rfl rfl e5 hex hρ) (fun v s' z => z.tab (by rfl)) fun _ _ e => e
      · cases h
    · cases h
  · cases h

include W in
theorem fn_CallOk {name : Str} {n : Nat} {st : Sts} {pn : List Str} {po : List Nat} {f : Addr} {body : List Stmt} {scope : Scope} (hn : pn.Nodup ∧ ∀ x ∈ pn, okName x = true) (e1 : mg name = some (.ref f)) (e2 : keepIn F (.ref f) = true) (e3 : FnAt F f body scope (pn.take n)) (hl : n ≤ pn.length)
    (e4 : (pn.take n).all (fun x => scope.names.lookup x == some .local || scope.names.lookup x == some .cell) = true) (e5 : IsSs (wsT pn po []) scope st body) (e6 : ∀ i, i < n → po.contains i = false) :
    CallOk (lawK F C hB mg mb prog w nm own fns mts Cs) name (semFn n st) := by
  intro ds d h
  refine ⟨_, e1, e2, fun A s vs O E L m ao Fr ok dv => ?_⟩
  unfold semFn at h
  split at h
  · rename_i hlen
    subst hlen
    split at h
    · rename_i ρ' hex
      cases h
      exact wpAny_mono (fn_call (K := leafK F C hB mg mb prog w (wsT pn po []) 0) (leaf_ok W hn (fun k p h => by simp at h) 0) e3 (COk.of_law ao) Fr ok (dv.tab (by rfl)) hl e4 e6 e5 hex) (fun v s' z => z.tab (by rfl)) fun _ _ e => e
    · cases h
  · cases h

include W in
theorem meth_MethOk {name : Str} {n : Nat} {st : Sts} {pn : List Str} {po : List Nat} {f : Addr} {body : List Stmt} {scope : Scope} (hn : pn.Nodup ∧ ∀ x ∈ pn, okName x = true) (h0 : name ∉ fieldsW) (h1 : plainGet F C name = true) (e1 : findIn F (.ref C) name = some (some (.ref f))) (e0 : isFn F (.ref f) = true) (e2 : keepIn F (.ref f) = true)
    (e3 : FnAt F f body scope (pn.take (n + 1))) (hl : n + 1 ≤ pn.length) (e4 : (pn.take (n + 1)).all (fun x => scope.names.lookup x == some .local || scope.names.lookup x == some .cell) = true) (e5 : IsSs (wsT pn po []) scope st body) (e6 : ∀ i, i < n + 1 → po.contains i = false) :
    MethOk (lawK F C hB mg mb prog w nm own fns mts Cs) name (semMeth n st) := by
  intro x ds d h
  unfold semMeth at h
  split at h
  · rename_i fs
    refine ⟨⟨fs, rfl⟩, h0, h1, f, e1, e0, e2, fun A s v vs O E L m ao Fr ok dv dvs => ?_⟩
    unfold semFn at h
    split at h
    · rename_i hlen
      split at h
      · rename_i ρ' hex
        cases h
        rw [← hlen] at e3 hl e4 e6
        exact wpAny_mono (fn_call (K := leafK F C hB mg mb prog w (wsT pn po []) 0) (leaf_ok W hn (fun k p h => by simp at h) 0) e3 (COk.of_law ao) Fr ok (.cons (dv.tab (by rfl)) (dvs.tab (by rfl))) hl e4 e6 e5 hex) (fun v s' z => z.tab (by rfl)) fun _ _ e => e
      · cases h
    · cases h
  · cases h

include W in
theorem law_ok (hn : nm.Nodup ∧ ∀ x ∈ nm, okName x = true) (hf : ∀ k x, fns[k]? = some x → CallOk (lawK F C hB mg mb prog w nm own fns mts Cs) x (Cs.call k)) (hm : ∀ k x, mts[k]? = some x → MethOk (lawK F C hB mg mb prog w nm own fns mts Cs) x (Cs.meth k)) :
    (lawK F C hB mg mb prog w nm own fns mts Cs).Ok where
  g := W.g
  b := W.b
  frag := W.frag
  lim := W.lim
  fns := W.fns
  nodup := by show fieldsW.Nodup; decide +kernel
  names := hn
  attr := fun f name h => W.attr name (fieldsW_mem h)
  setF := fun f name h => W.setF name (fieldsW_mem h)
  few := by show fieldsW.length ≤ 100; decide
  call := fun k x ds d h1 h2 => hf k x h1 ds d h2
  meth := fun k name x ds d h1 h2 => hm k name h1 x ds d h2
  atom := fun k c name d h1 h2 => by simp [lawK, lawT] at h1
end

section
variable {K : Cfg}
/-- a law's run -/
theorem law_run (ok : K.Ok) {st : Sts} {body : List Stmt} {env : Env} {A : Around} {s₁ s : Shared} {p : Addr} {vs : List Value} {ns : List Int} {Q : Flow → Shared → Prop} {E : Value → Shared → Prop} {m : Str → Option Value} {x : Str}
    (ao : AOk K.n A) (hB : K.hB = s₁.heap) (F : Fr s₁.heap env.locals s.heap m) (hnm : K.T.nm[0]? = some x) (hown : K.T.own.contains 0 = false) (hst : Stored env s.heap x (.ref p)) (hl : s₁.heap.IsList p vs.toArray) (hi : IntsAre vs ns)
    (same : ∃ h tk, s = { s₁ with heap := h, toks := tk }) (eo : EnvOk K env) (hinj : ∀ x y c, env.cells.lookup x = some c → env.cells.lookup y = some c → x = y)
    (hcell : ∀ x c, env.cells.lookup x = some c → c ≠ env.locals ∧ s₁.heap.get? c = none ∧ ∃ v, s.heap.IsCell c v)
    (hc : IsSs K.T env.scope st body) (hex : ∃ ρ', exs K.Cs st (fun i => if i = 0 then some (.py (.list (ns.map .int))) else none) = some (.ret (.py (.bool true)), ρ'))
    (hQ : ∀ h tk m', Fr s₁.heap env.locals h m' → Q (.ret (.bool true)) { s₁ with heap := h, toks := tk }) :
    wpAny (model K.prog K.w) A (execs body env) Q E s := by
  obtain ⟨ρ', hex⟩ := hex
  have hL : s₁.heap.get? env.locals = none := size_none F.above
  have fr : FrOk K env s₁ := ⟨eo, hinj, fun x c h => (hcell x c h).1, hL, fun x c h => (hcell x c h).2.1, by rw [hB]; exact Grow.refl _⟩
  have hp : ∃ o, s₁.heap.get? p = some o := by obtain ⟨o, ho, _⟩ := hl; exact ⟨o, ho⟩
  have nP : ¬ OwnOf (fun _ => False) env (fun _ => none) p := by
    obtain ⟨o, ho⟩ := hp
    rintro (h | h | ⟨y, h⟩ | ⟨i, h⟩)
    · exact h
    · rw [h, hL] at ho; cases ho
    · rw [(hcell y p h).2.1] at ho; cases ho
    · cases h
  have hv : Vals (OwnOf (fun _ => False) env (fun _ => none)) s.heap vs (ns.map .int) := by
    clear hex hl
    induction hi with
    | nil => exact .nil
    | cons _ _ _ ih => exact .cons .int ih
  have fs : FS K (fun _ => False) env (fun i => if i = 0 then some (.py (.list (ns.map .int))) else none) (fun i => if i = 0 then some (.ref p) else none) (fun _ => none) s₁ s := by
    refine ⟨same, F.keep, ⟨m, F.ns⟩, fun x c h => (hcell x c h).2.2, fun i y v h1 h2 => ?_, fun i d h => ?_, fun a h => h.elim, fun a h => h.elim, fun i j a h => (by cases h), fun i a h => (by cases h)⟩
    · by_cases e : i = 0
      · subst e
        simp only [if_true] at h2; cases h2
        rw [hnm] at h1; cases h1
        exact hst
      · simp only [e, if_false] at h2; cases h2
    · by_cases e : i = 0
      · subst e
        simp only [if_true] at h; cases h
        refine ⟨_, rfl, fun _ => ?_, fun h => by rw [hown] at h; cases h⟩
        obtain ⟨o, ho, r⟩ := hl
        exact Val.list ⟨o, F.keep _ _ ho, r⟩ nP hv
      · simp only [e, if_false] at h; cases h
  refine wpAny_mono (exs_sound ok hc _ env _ _ _ s₁ s A E _ ρ' rfl hex fr ao fs) (fun fw s' o' => ?_) fun _ _ e => e
  obtain ⟨vl', oa', fs', _, v, rfl, hv⟩ := o'
  have := Val.bool_inv hv; subst this
  obtain ⟨h, tk, e⟩ := fs'.same
  subst e
  obtain ⟨m', hm'⟩ := fs'.ns
  exact hQ h tk m' ⟨hm', fs'.keep, F.above⟩
end
end Mine
end
noncomputable section
open PySem PySem.W PyProof.Rows
set_option maxRecDepth 100000
namespace Mine

section
variable {F : Frag} {C : Addr} {hB : Heap} {mg mb : Str → Option Value} {p : Program} {loose : List Str} {mean : ExcName → Option Value}

theorem fnAt_of {f : Addr} {body : List Stmt} {scope : Scope} {names : List Str} {oc : Value} {od : Option Addr} {osl : Array (Option Value)} {name qual : Str} {params : Arguments} {dV kV doc pm : Value} {an : Option Addr} {cdv ct : Value}
    (h1 : F.lookup f = some ⟨oc, od, .func (fnOf name qual params body scope dV kV doc pm an cdv ct), osl⟩) (h2 : codeIn F cdv qual = true)
    (h3 : ∀ vs : List Value, vs.length = names.length → bindArgs (fnOf name qual params body scope dV kV doc pm an cdv ct) ⟨vs, []⟩ = pure (names.zip vs)) (h4 : scope.isCoroutine = false) (h5 : scope.isGenerator = false) (h6 : scope.kind = .function) :
    FnAt F f body scope names := ⟨_, _, _, _, _, _, _, _, _, _, _, _, _, h1, h2, h3, h4, h5, h6⟩

theorem five {P : Str → Prop} (h1 : P (Str.ofString "raw")) (h2 : P (Str.ofString "n")) (h3 : P (Str.ofString "nt")) (h4 : P (Str.ofString "norm")) (h5 : P (Str.ofString "is_simple")) : ∀ name ∈ fieldsW, P name := by
  intro name h
  simp only [fieldsW, S, List.mem_cons, List.not_mem_nil, or_false] at h
  rcases h with rfl | rfl | rfl | rfl | rfl <;> assumption

theorem world0 {a1 a2 a3 a4 a5 : Option Value} {mc : Value} {t1 t2 : Tok} {fI : Addr} {body : List Stmt} {scope : Scope} (X : F.In hB) (T : Top p loose mean mg mb hB)
    (hC : nsIn F mainGlobals (Str.ofString "Whitespace") = some (some (.ref C)))
    (n1 : nsIn F mainGlobals (Str.ofString "len") = some none) (n2 : nsIn F mainGlobals (Str.ofString "sum") = some none) (n3 : nsIn F mainGlobals (Str.ofString "max") = some none)
    (n4 : nsIn F mainGlobals (Str.ofString "min") = some none) (n5 : nsIn F mainGlobals (Str.ofString "abs") = some none) (n6 : nsIn F mainGlobals (Str.ofString "divmod") = some none)
    (n7 : nsIn F mainGlobals (Str.ofString "sorted") = some none) (n8 : nsIn F mainGlobals (Str.ofString "tuple") = some none) (n9 : nsIn F mainGlobals (Str.ofString "range") = some none)
    (p1 : plainGet F C (Str.ofString "raw") = true) (p2 : plainGet F C (Str.ofString "n") = true) (p3 : plainGet F C (Str.ofString "nt") = true) (p4 : plainGet F C (Str.ofString "norm") = true) (p5 : plainGet F C (Str.ofString "is_simple") = true)
    (hd : hasDictIn F C = true)
    (f1 : findIn F (.ref C) (Str.ofString "raw") = some a1) (f2 : findIn F (.ref C) (Str.ofString "n") = some a2) (f3 : findIn F (.ref C) (Str.ofString "nt") = some a3) (f4 : findIn F (.ref C) (Str.ofString "norm") = some a4) (f5 : findIn F (.ref C) (Str.ofString "is_simple") = some a5)
    (g1 : noGet F a1 = true) (g2 : noGet F a2 = true) (g3 : noGet F a3 = true) (g4 : noGet F a4 = true) (g5 : noGet F a5 = true)
    (sa : findIn F (.ref C) (Str.ofString "__setattr__") = some (some (.builtin "object.__setattr__"))) (po : plainOver F C = true)
    (t1' : takerIn F C (Str.ofString "raw") = some none) (t2' : takerIn F C (Str.ofString "n") = some none) (t3' : takerIn F C (Str.ofString "nt") = some none) (t4' : takerIn F C (Str.ofString "norm") = some none) (t5' : takerIn F C (Str.ofString "is_simple") = some none)
    (kc : keepIn F (.ref C) = true) (ty : typeIn F (.ref C) = some mc) (rd : readsIn F C mc = true)
    (s1 : findCls F (.ref C) mc (Str.ofString "S") = some (.val (.str (Str.ofString " ") t1))) (s2 : findCls F (.ref C) mc (Str.ofString "T") = some (.val (.str (Str.ofString "\t") t2)))
    (mk : makesIn F C = true) (i1 : findIn F (.ref C) (Str.ofString "__init__") = some (some (.ref fI))) (i2 : isFn F (.ref fI) = true) (i3 : FnAt F fI body scope [S "self", S "ws"])
    (i4 : [S "self", S "ws"].all (fun x => scope.names.lookup x == some .local || scope.names.lookup x == some .cell) = true) (i5 : IsSs initT scope initSt body) : World0 F C hB mg mb where
  g := T.g
  b := T.b
  frag := X
  lim := T.nolimit
  fns := fun k => by
    cases k
    · exact ⟨mg_none_of X T.g n1, (T.builtins _ (by decide)).trans (by show bootBuiltins (Str.ofString "len") = some (.builtin "len"); boot_by_name)⟩
    · exact ⟨mg_none_of X T.g n2, (T.builtins _ (by decide)).trans (by show bootBuiltins (Str.ofString "sum") = some (.builtin "sum"); boot_by_name)⟩
    · exact ⟨mg_none_of X T.g n3, (T.builtins _ (by decide)).trans (by show bootBuiltins (Str.ofString "max") = some (.builtin "max"); boot_by_name)⟩
    · exact ⟨mg_none_of X T.g n4, (T.builtins _ (by decide)).trans (by show bootBuiltins (Str.ofString "min") = some (.builtin "min"); boot_by_name)⟩
    · exact ⟨mg_none_of X T.g n5, (T.builtins _ (by decide)).trans (by show bootBuiltins (Str.ofString "abs") = some (.builtin "abs"); boot_by_name)⟩
    · exact ⟨mg_none_of X T.g n6, (T.builtins _ (by decide)).trans (by show bootBuiltins (Str.ofString "divmod") = some (.builtin "divmod"); boot_by_name)⟩
    · exact ⟨mg_none_of X T.g n7, (T.builtins _ (by decide)).trans (by show bootBuiltins (Str.ofString "sorted") = some (.builtin "sorted"); boot_by_name)⟩
    · exact ⟨mg_none_of X T.g n8, (T.builtins _ (by decide)).trans (by show bootBuiltins (Str.ofString "tuple") = some (.type "tuple"); boot_by_name)⟩
    · exact ⟨mg_none_of X T.g n9, (T.builtins _ (by decide)).trans (by show bootBuiltins (Str.ofString "range") = some (.type "range"); boot_by_name)⟩
  attr := five ⟨p1, hd, _, f1, g1⟩ ⟨p2, hd, _, f2, g2⟩ ⟨p3, hd, _, f3, g3⟩ ⟨p4, hd, _, f4, g4⟩ ⟨p5, hd, _, f5, g5⟩
  setF := five ⟨sa, po, t1'⟩ ⟨sa, po, t2'⟩ ⟨sa, po, t3'⟩ ⟨sa, po, t4'⟩ ⟨sa, po, t5'⟩
  cls := mg_of X T.g hC
  keepC := kc
  atomS := ⟨mc, t1, ty, rd, s1⟩
  atomT := ⟨mc, t2, ty, rd, s2⟩
  makes := mk
  init := ⟨fI, scope, body, i1, i2, i3, i4, i5⟩
end

theorem two_vs {P : List Value → Prop} (h : ∀ a b, P [a, b]) : ∀ vs : List Value, vs.length = 2 → P vs
  | [a, b], _ => h a b
theorem one_vs {P : List Value → Prop} (h : ∀ a, P [a]) : ∀ vs : List Value, vs.length = 1 → P vs
  | [a], _ => h a
theorem no_cells {names : List (Str × NameKind)} (h : names.all (fun p => p.2 != .cell) = true) (x : Str) : names.lookup x ≠ some .cell := by
  intro e
  have := List.all_eq_true.mp h _ (lookup_mem e)
  simp at this
theorem law_aok (env : Env) : AOk 1 (callerA.deeper env) := ⟨rfl, (by show callerA.depth + 1 ≤ 302; decide), (by show callerA.units + 3 ≤ 14; decide), by decide⟩
theorem env_plain {K : Cfg} {qual : Str} {scope : Scope} {L f : Addr} {cd : Value} (h1 : scope.kind = .function) (h2 : scope.names.all (fun p => p.2 != .cell) = true) (h3 : K.hB.objs.size ≤ L) : EnvOk K (envOf qual scope L f cd) :=
  ⟨h1, rfl, rfl, fun x hx => (no_cells h2 x hx).elim, h3⟩

/-- a run, closed to the elaborator -/
structure WpR (prog : Program) (w : World) (A : Around) (body : List Stmt) (env : Env) (Q : Flow → Shared → Prop) (E : Value → Shared → Prop) (s : Shared) : Prop where
  h : wpAny (model prog w) A (execs body env) Q E s
theorem wpR_eq (prog : Program) (w : World) (A : Around) (body : List Stmt) (env : Env) (Q : Flow → Shared → Prop) (E : Value → Shared → Prop) (s : Shared) : wpAny (model prog w) A (execs body env) Q E s = WpR prog w A body env Q E s :=
  propext ⟨fun h => ⟨h⟩, fun h => h.h⟩

section
variable {F : Frag} {C : Addr} {hB : Heap} {mg mb : Str → Option Value} {prog : Program} {w : World} {nm : List Str} {own : List Nat} {fns mts : List Str} {Cs : Calls}
theorem run_plain {st : Sts} {body : List Stmt} {A : Around} {s₁ s : Shared} {p : Addr} {vs : List Value} {ns : List Int} {Q : Flow → Shared → Prop} {E : Value → Shared → Prop} {m : Str → Option Value} {x : Str} {qual : Str} {scope : Scope} {L f : Addr} {cd : Value}
    (ok : (lawK F C s₁.heap mg mb prog w nm own fns mts Cs).Ok) (F' : Fr s₁.heap L s.heap m) (hl : s₁.heap.IsList p vs.toArray) (hi : IntsAre vs ns) (hk : scope.kind = .function) (hcell : scope.names.all (fun p => p.2 != .cell) = true)
    (hc : IsSs (lawT nm own fns mts) scope st body) (hnm : nm[0]? = some x) (hown : own.contains 0 = false) (hm : m x = some (.ref p)) (hx : scope.names.lookup x = some .local)
    (ao : AOk 1 A) (same : ∃ h tk, s = { s₁ with heap := h, toks := tk }) (hex : ∃ ρ', exs Cs st (fun i => if i = 0 then some (.py (.list (ns.map .int))) else none) = some (.ret (.py (.bool true)), ρ'))
    (hQ : ∀ h tk m', Fr s₁.heap L h m' → Q (.ret (.bool true)) { s₁ with heap := h, toks := tk }) :
    WpR prog w A body (envOf qual scope L f cd) Q E s :=
  ⟨law_run (K := lawK F C s₁.heap mg mb prog w nm own fns mts Cs) ok ao rfl F' hnm hown (.loc _ hx F'.ns hm) hl hi same (env_plain hk hcell F'.above) (fun _ _ _ h => by cases h) (fun _ _ h => by cases h) hc hex hQ⟩
end
end Mine
end
noncomputable section
open PySem
set_option maxRecDepth 100000
set_option linter.unusedSimpArgs false
namespace Mine

noncomputable def I (l : List Int) : List PyData := l.map .int
theorem I_len (l : List Int) : (I l).length = l.length := by simp [I]
theorem I_app (l m : List Int) : I l ++ I m = I (l ++ m) := by simp [I]
theorem I_get (l : List Int) (i : Nat) : (I l)[i]? = (l[i]?).map .int := by simp [I]
theorem I_set (l : List Int) (i : Nat) (x : Int) : (I l).set i (.int x) = I (l.set i x) := by simp [I]
theorem I_rep (n : Nat) (x : Int) : (List.replicate n [PyData.int x]).flatten = I (List.replicate n x) := by
  induction n with
  | zero => rfl
  | succ n ih => rw [List.replicate_succ, List.flatten_cons, ih]; rfl

theorem idxL_nat {α : Type} (xs : List α) (i : Nat) (h : i < 2 ^ 63) : idxL xs (i : Int) = xs[i]? := by
  unfold idxL
  rw [if_pos (by omega), if_pos (by omega)]
  simp
theorem setL_nat (xs : List PyData) (i : Nat) (d : PyData) (h : i < xs.length) (h2 : xs.length ≤ lim) : setL xs (i : Int) d = some (xs.set i d) := by
  unfold setL
  have := lim_val
  rw [if_pos (by omega)]
  simp

theorem add_ii (a b : Int) : binSem .add (.int a) (.int b) = some (.int (a + b)) := rfl
theorem sub_ii (a b : Int) : binSem .sub (.int a) (.int b) = some (.int (a - b)) := rfl
theorem mod_ii (a b : Int) : binSem .mod (.int a) (.int b) = if b ≠ 0 then some (.int (a.fmod b)) else none := rfl
theorem cmp_lt (a b : Int) : cmpSem .lt (.int a) (.int b) = some (decide (a < b)) := rfl
theorem cmp_le (a b : Int) : cmpSem .le (.int a) (.int b) = some (decide (a ≤ b)) := rfl
theorem cmp_gt (a b : Int) : cmpSem .gt (.int a) (.int b) = some (decide (a > b)) := rfl
theorem cmp_ge (a b : Int) : cmpSem .ge (.int a) (.int b) = some (decide (a ≥ b)) := rfl
theorem cmp_eq_ii (a b : Int) : cmpSem .eq (.int a) (.int b) = some (a == b) := by simp [cmpSem, eqOk, PyData.canLay0, PyData.depth, PyData.eqv]
theorem cmp_ne_ii (a b : Int) : cmpSem .ne (.int a) (.int b) = some (a != b) := by simp [cmpSem, eqOk, PyData.canLay0, PyData.depth, PyData.eqv, bne]

structure Scn where
  n : Nat
  nt : Nat
  b : Nat
  cnt : List Int

noncomputable def grown (b : Nat) (c : List Int) : List Int := if c.length ≤ b then c ++ List.replicate (b + 1 - c.length) 0 else c
noncomputable def bump (b : Nat) (c : List Int) : List Int := (grown b c).set b ((grown b c).getD b 0 + 1)
noncomputable def scan : List Nat → Scn → Scn
  | [], σ => σ
  | c :: l, σ => if c = 32 then scan l ⟨σ.n + 1, σ.nt, σ.b + 1, σ.cnt⟩ else if c = 9 then scan l ⟨σ.n + 1, σ.nt + 1, 0, bump σ.b σ.cnt⟩ else σ

theorem grown_len (b : Nat) (c : List Int) : b < (grown b c).length ∧ (grown b c).length ≤ c.length + b + 1 := by
  unfold grown
  split
  · simp; omega
  · omega
theorem bump_len (b : Nat) (c : List Int) : (bump b c).length = (grown b c).length := by unfold bump; simp

structure Inv (ρ : Loc) (raw : Str) (σ : Scn) : Prop where
  h0 : ρ 0 = some (.ws [.str raw])
  h2 : ρ 2 = some (.py (.str (S " ")))
  h3 : ρ 3 = some (.py (.str (S "\t")))
  h4 : ρ 4 = some (.py (.list (I σ.cnt)))
  h5 : ρ 5 = some (.py (.int σ.b))
  h6 : ρ 6 = some (.py (.int σ.n))
  h7 : ρ 7 = some (.py (.int σ.nt))

noncomputable abbrev chr (c : Nat) : PyData := .str ⟨#[c]⟩
theorem c1 : cmpSem .eq (chr 32) (.str (S " ")) = some true := by decide +kernel
theorem c2 : cmpSem .eq (chr 9) (.str (S " ")) = some false := by decide +kernel
theorem c3 : cmpSem .eq (chr 9) (.str (S "\t")) = some true := by decide +kernel
theorem c4 : cmpSem .eq (chr 120) (.str (S " ")) = some false := by decide +kernel
theorem c5 : cmpSem .eq (chr 120) (.str (S "\t")) = some false := by decide +kernel

theorem step_sp {ρ : Loc} {raw : Str} {σ : Scn} (h : Inv ρ raw σ) : ∃ ρ', exs C0 initBody (upd ρ 8 (some (.py (chr 32)))) = some (.next, ρ') ∧ Inv ρ' raw ⟨σ.n + 1, σ.nt, σ.b + 1, σ.cnt⟩ := by
  obtain ⟨h0, h2, h3, h4, h5, h6, h7⟩ := h
  simp -implicitDefEqProofs only [initBody, exs, ex, ev, evs, sq, ls, Option.bind_some, Option.map_some, D.py?, D.bool?, intOf, allPy, upd, Nat.reduceEqDiff, Nat.succ_ne_self, if_true, if_false, Bool.false_eq_true, add_ii, sub_ii, mod_ii, cmp_lt, cmp_le, cmp_gt, cmp_ge, cmp_eq_ii, cmp_ne_ii, h2, c1, h6, h5]
  refine ⟨_, rfl, ?_, ?_, ?_, ?_, ?_, ?_, ?_⟩ <;> simp [upd, h0, h2, h3, h4, h7]

theorem len_l (l : List Int) (h : l.length ≤ lim) : fnSem .len [.py (.list (I l))] = some (.py (.int l.length)) := by
  simp -implicitDefEqProofs only [fnSem, lenSem, I_len, h, if_true]
theorem rep0 (k : Nat) (h : k ≤ lim) : binSem .mul (.list [.int 0]) (.int k) = some (.list (I (List.replicate k 0))) := by
  have := lim_val
  simp only [binSem, List.length_singleton, Int.toNat_natCast, I_rep]
  rw [if_pos ⟨by omega, by omega, by omega⟩]
theorem add_ll (l m : List Int) (h : l.length + m.length ≤ lim) : binSem .add (.list (I l)) (.list (I m)) = some (.list (I (l ++ m))) := by
  show (if (I l).length + (I m).length ≤ lim then some (PyData.list (I l ++ I m)) else none) = _
  rw [I_len, I_len, if_pos h, I_app]
theorem idx_ln (l : List Int) (i : Nat) (h : i < l.length) (h2 : l.length ≤ lim) : idxSem (.list (I l)) (.int i) = some (.int (l.getD i 0)) := by
  have := lim_val
  show idxL (I l) (i : Int) = _
  rw [idxL_nat _ _ (by omega), I_get, List.getD_eq_getElem?_getD, List.getElem?_eq_getElem h]; rfl
theorem set_ln (l : List Int) (i : Nat) (x : Int) (h : i < l.length) (h2 : l.length ≤ lim) : setL (I l) (i : Int) (.int x) = some (I (l.set i x)) := by
  rw [setL_nat _ _ _ (by rw [I_len]; exact h) (by rw [I_len]; exact h2), I_set]
theorem grown_add (b : Nat) (c : List Int) (h : c.length ≤ b) (h2 : c.length + b + 1 ≤ lim) : binSem .add (.list (I c)) (.list (I (List.replicate (b + 1 - c.length) 0))) = some (.list (I (grown b c))) := by
  rw [add_ll _ _ (by rw [List.length_replicate]; omega)]
  unfold grown; rw [if_pos h]

theorem step_tab {ρ : Loc} {raw : Str} {σ : Scn} (h : Inv ρ raw σ) (hb : σ.cnt.length + σ.b + 1 ≤ lim) : ∃ ρ', exs C0 initBody (upd ρ 8 (some (.py (chr 9)))) = some (.next, ρ') ∧ Inv ρ' raw ⟨σ.n + 1, σ.nt + 1, 0, bump σ.b σ.cnt⟩ := by
  obtain ⟨h0, h2, h3, h4, h5, h6, h7⟩ := h
  have hlen := len_l σ.cnt (by omega)
  have hg := grown_len σ.b σ.cnt
  have hidx := idx_ln (grown σ.b σ.cnt) σ.b hg.1 (by omega)
  have hset := set_ln (grown σ.b σ.cnt) σ.b ((grown σ.b σ.cnt).getD σ.b 0 + 1) hg.1 (by omega)
  rw [show (grown σ.b σ.cnt).set σ.b ((grown σ.b σ.cnt).getD σ.b 0 + 1) = bump σ.b σ.cnt from rfl] at hset
  by_cases hc : σ.cnt.length ≤ σ.b
  · have hge : (decide ((σ.b : Int) ≥ (σ.cnt.length : Int))) = true := by simp; omega
    have hk : ((σ.b : Int) - (σ.cnt.length : Int) + 1) = ((σ.b + 1 - σ.cnt.length : Nat) : Int) := by omega
    have hmul := rep0 (σ.b + 1 - σ.cnt.length) (by omega)
    have hadd := grown_add σ.b σ.cnt hc hb
    simp -implicitDefEqProofs only [initBody, exs, ex, ev, evs, sq, ls, Option.bind_some, Option.map_some, D.py?, D.bool?, intOf, allPy, upd, Nat.reduceEqDiff, Nat.succ_ne_self, if_true, if_false, Bool.false_eq_true, add_ii, sub_ii, mod_ii, cmp_lt, cmp_le, cmp_gt, cmp_ge, cmp_eq_ii, cmp_ne_ii, h2, h3, h4, c2, c3, h7, h6, h5, hlen, hge, hk, hmul, hadd, hidx, hset]
    refine ⟨_, rfl, ?_, ?_, ?_, ?_, ?_, ?_, ?_⟩ <;> simp [upd, h0, h2, h3]
  · have hge : (decide ((σ.b : Int) ≥ (σ.cnt.length : Int))) = false := by simp; omega
    have hgr : grown σ.b σ.cnt = σ.cnt := by unfold grown; rw [if_neg hc]
    rw [hgr] at hidx hset
    simp -implicitDefEqProofs only [initBody, exs, ex, ev, evs, sq, ls, Option.bind_some, Option.map_some, D.py?, D.bool?, intOf, allPy, upd, Nat.reduceEqDiff, Nat.succ_ne_self, if_true, if_false, Bool.false_eq_true, add_ii, sub_ii, mod_ii, cmp_lt, cmp_le, cmp_gt, cmp_ge, cmp_eq_ii, cmp_ne_ii, h2, h3, h4, c2, c3, h7, h6, h5, hlen, hge, hidx, hset]
    refine ⟨_, rfl, ?_, ?_, ?_, ?_, ?_, ?_, ?_⟩ <;> simp [upd, h0, h2, h3]

theorem step_x {ρ : Loc} {raw : Str} {σ : Scn} (h : Inv ρ raw σ) : ∃ ρ', exs C0 initBody (upd ρ 8 (some (.py (chr 120)))) = some (.brk, ρ') ∧ Inv ρ' raw σ := by
  obtain ⟨h0, h2, h3, h4, h5, h6, h7⟩ := h
  simp -implicitDefEqProofs only [initBody, exs, ex, ev, evs, sq, ls, Option.bind_some, Option.map_some, D.py?, D.bool?, intOf, allPy, upd, Nat.reduceEqDiff, Nat.succ_ne_self, if_true, if_false, Bool.false_eq_true, add_ii, sub_ii, mod_ii, cmp_lt, cmp_le, cmp_gt, cmp_ge, cmp_eq_ii, cmp_ne_ii, h2, h3, c4, c5]
  refine ⟨_, rfl, ?_, ?_, ?_, ?_, ?_, ?_, ?_⟩ <;> simp [upd, h0, h2, h3, h4, h5, h6, h7]
end Mine
end
noncomputable section
open PySem
set_option maxRecDepth 100000
set_option linter.unusedSimpArgs false
namespace Mine

theorem loop_scan : ∀ (l tail : List Nat) (ρ : Loc) (σ : Scn) (raw : Str), (∀ c ∈ l, c = 32 ∨ c = 9) → (tail = [] ∨ ∃ r, tail = 120 :: r) → Inv ρ raw σ → σ.cnt.length + σ.b + l.length + 1 ≤ lim →
    ∃ ρ', loopF (exs C0 initBody) (bind1 8) ((l ++ tail).map chr) ρ = some (.next, ρ') ∧ Inv ρ' raw (scan l σ)
  | [], tail, ρ, σ, raw, _, ht, h, _ => by
    rcases ht with rfl | ⟨r, rfl⟩
    · exact ⟨ρ, rfl, h⟩
    · obtain ⟨ρ', e, h'⟩ := step_x h
      refine ⟨ρ', ?_, h'⟩
      simp only [List.nil_append, List.map_cons, loopF, bind1, Option.bind_some, e]
  | c :: l, tail, ρ, σ, raw, hl, ht, h, hb => by
    have hl' : ∀ c ∈ l, c = 32 ∨ c = 9 := fun c hc => hl c (List.mem_cons_of_mem _ hc)
    rw [List.length_cons] at hb
    rcases hl c List.mem_cons_self with rfl | rfl
    · obtain ⟨ρ₁, e, h₁⟩ := step_sp h
      obtain ⟨ρ', e', h'⟩ := loop_scan l tail ρ₁ _ raw hl' ht h₁ (by show σ.cnt.length + (σ.b + 1) + l.length + 1 ≤ lim; omega)
      refine ⟨ρ', ?_, h'⟩
      rw [List.cons_append, List.map_cons]
      simp only [loopF, bind1, Option.bind_some, e, e']
    · obtain ⟨ρ₁, e, h₁⟩ := step_tab h (by omega)
      have hg := grown_len σ.b σ.cnt
      obtain ⟨ρ', e', h'⟩ := loop_scan l tail ρ₁ _ raw hl' ht h₁ (by show (bump σ.b σ.cnt).length + 0 + l.length + 1 ≤ lim; rw [bump_len]; omega)
      refine ⟨ρ', ?_, h'⟩
      rw [List.cons_append, List.map_cons]
      simp only [loopF, bind1, Option.bind_some, e, e']

noncomputable def fieldsOf (x : Str) (σ : Scn) : List PyData := [.str x, .int σ.n, .int σ.nt, .tuple [.tuple (I σ.cnt), .int σ.b], .bool (decide ((σ.cnt.length : Int) ≤ 1))]

theorem scan_small : ∀ (l : List Nat) (σ : Scn), (scan l σ).cnt.length + (scan l σ).b ≤ σ.cnt.length + σ.b + l.length
  | [], σ => by simp [scan]
  | c :: l, σ => by
    unfold scan
    split
    · have := scan_small l ⟨σ.n + 1, σ.nt, σ.b + 1, σ.cnt⟩
      rw [List.length_cons]
      simp only at this ⊢; omega
    · split
      · have := scan_small l ⟨σ.n + 1, σ.nt + 1, 0, bump σ.b σ.cnt⟩
        have hg := grown_len σ.b σ.cnt
        rw [List.length_cons]
        simp only [bump_len] at this ⊢; omega
      · rw [List.length_cons]; omega

theorem init_eq (x : Str) (l tail : List Nat) (hx : x.cps.toList = l ++ tail) (hl : ∀ c ∈ l, c = 32 ∨ c = 9) (ht : tail = [] ∨ ∃ r, tail = 120 :: r) (hb : (l ++ tail).length + 1 ≤ lim) :
    semInit [.py (.str x)] = some (.ws (fieldsOf x (scan l ⟨0, 0, 0, []⟩))) := by
  have hlen : l.length + 1 ≤ lim := by rw [List.length_append] at hb; omega
  let ρ₀ : Loc := upd (upd (upd (upd (upd (upd (upd (iniρ (.str x)) 0 (some (.ws [.str x]))) 2 (some (.py (.str (S " "))))) 3 (some (.py (.str (S "\t"))))) 4 (some (.py (.list [])))) 5 (some (.py (.int 0)))) 6 (some (.py (.int 0)))) 7 (some (.py (.int 0)))
  have h₀ : Inv ρ₀ x ⟨0, 0, 0, []⟩ := by constructor <;> simp [ρ₀, upd, I]
  obtain ⟨ρ₁, e₁, h₁⟩ := loop_scan l tail ρ₀ ⟨0, 0, 0, []⟩ x hl ht h₀ (by show 0 + 0 + l.length + 1 ≤ lim; omega)
  have hs := scan_small l ⟨0, 0, 0, []⟩
  simp only [List.length_nil, Nat.zero_add] at hs
  generalize scan l ⟨0, 0, 0, []⟩ = σ at h₁ hs
  obtain ⟨k0, k2, k3, k4, k5, k6, k7⟩ := h₁
  have hlist := len_l σ.cnt (by omega)
  have htup : fnSem .tuple [.py (.list (I σ.cnt))] = some (.py (.tuple (I σ.cnt))) := by
    simp -implicitDefEqProofs only [fnSem, tupleSem, I_len]; rw [if_pos (by omega)]
  have hitems : itemsOf (.py (.str x)) = some ((l ++ tail).map chr) := by
    show some (x.cps.toList.map fun c => PyData.str ⟨#[c]⟩) = _
    rw [hx]
  have hlm : ((l ++ tail).map chr).length ≤ lim := by rw [List.length_map]; omega
  have hexs : exs C0 initSt (iniρ (.str x)) = some (.next, upd (upd (upd (upd ρ₁ 0 (some (.ws [.str x, .int σ.n]))) 0 (some (.ws [.str x, .int σ.n, .int σ.nt]))) 0 (some (.ws [.str x, .int σ.n, .int σ.nt, .tuple [.tuple (I σ.cnt), .int σ.b]]))) 0 (some (.ws (fieldsOf x σ)))) := by
    have s1 : ex C0 (.setF 0 0 (.var 1)) (iniρ (.str x)) = some (.next, upd (iniρ (.str x)) 0 (some (.ws [.str x]))) := by
      simp -implicitDefEqProofs [ex, ev, iniρ]
    have s5 : ex C0 (.for1 8 (.attr (.own 0) 0) initBody) ρ₀ = some (.next, ρ₁) := by
      simp -implicitDefEqProofs only [ex, ev, h₀.h0, Option.bind_some, List.getElem?_cons_zero, Option.map_some, hitems, hlm, if_true]
      exact e₁
    have s14 : exs C0 initSt (iniρ (.str x)) = exs C0 (sq [.for1 8 (.attr (.own 0) 0) initBody,
        .setF 0 1 (.var 6), .setF 0 2 (.var 7), .setF 0 3 (.tup (ls [.fn .tuple (ls [.own 4]), .var 5])), .setF 0 4 (.cmp .le (.fn .len (ls [.own 4])) (.int 1))]) ρ₀ := by
      show exs C0 (.cons (.setF 0 0 (.var 1)) _) _ = _
      rw [exs, s1]
      simp -implicitDefEqProofs only [sq, ls, exs, ex, ev, evs, C0, Option.bind_some, Option.map_some, allPy, ρ₀]
    rw [s14, sq, exs, s5]
    simp -implicitDefEqProofs only [exs, ex, ev, evs, sq, ls, Option.bind_some, Option.map_some, D.py?, D.bool?, intOf, allPy, upd, Nat.reduceEqDiff, Nat.succ_ne_self, if_true, if_false, Bool.false_eq_true, add_ii, sub_ii, mod_ii, cmp_lt, cmp_le, cmp_gt, cmp_ge, cmp_eq_ii, cmp_ne_ii, k0, k4, k5, k6, k7, htup, hlist, List.length_singleton, List.length_cons, List.length_nil, Nat.zero_add, Nat.reduceAdd, List.singleton_append, List.cons_append, List.nil_append, fieldsOf]
  simp -implicitDefEqProofs only [semInit, hexs, upd, if_true]
end Mine
end
noncomputable section
open PySem
set_option maxRecDepth 100000
set_option linter.unusedSimpArgs false
namespace Mine

noncomputable def sp (r : Nat) : List Nat := List.replicate r 32
noncomputable def rowsText (rs : List Nat) (last : Nat) : List Nat := rs.flatMap (fun r => sp r ++ [9]) ++ sp last
noncomputable def hist (rs : List Nat) (c : List Int) : List Int := rs.foldl (fun c r => bump r c) c

theorem scan_sp : ∀ (r : Nat) (l : List Nat) (σ : Scn), scan (sp r ++ l) σ = scan l ⟨σ.n + r, σ.nt, σ.b + r, σ.cnt⟩
  | 0, l, σ => by simp [sp]
  | r + 1, l, σ => by
    have : sp (r + 1) ++ l = 32 :: (sp r ++ l) := by simp [sp, List.replicate_succ]
    rw [this, scan, if_pos rfl, scan_sp r l]
    congr 2 <;> simp <;> omega
theorem scan_rows : ∀ (rs : List Nat) (last : Nat) (σ : Scn), σ.b = 0 → scan (rowsText rs last) σ = ⟨σ.n + (rs.sum + rs.length + last), σ.nt + rs.length, last, hist rs σ.cnt⟩
  | [], last, σ, h => by
    have := scan_sp last [] σ
    simp [rowsText, hist, scan] at this ⊢
    rw [this, h]; simp
  | r :: rs, last, σ, h => by
    have e : rowsText (r :: rs) last = sp r ++ (9 :: rowsText rs last) := by simp [rowsText]
    rw [e, scan_sp, scan, if_neg (by decide), if_pos rfl, scan_rows rs last _ rfl, h]
    simp [hist, List.sum_cons]; omega

theorem rows_ok (rs : List Nat) (last : Nat) : ∀ c ∈ rowsText rs last, c = 32 ∨ c = 9 := by
  intro c h
  simp only [rowsText, sp, List.mem_append, List.mem_flatMap, List.mem_replicate, List.mem_singleton] at h
  rcases h with ⟨r, _, ⟨_, h⟩ | h⟩ | ⟨_, h⟩
  · exact .inl h
  · exact .inr h
  · exact .inl h
theorem rows_len : ∀ (rs : List Nat) (last : Nat), (rowsText rs last).length = rs.sum + rs.length + last
  | [], last => by simp [rowsText, sp]
  | r :: rs, last => by
    have e : rowsText (r :: rs) last = sp r ++ (9 :: rowsText rs last) := by simp [rowsText]
    rw [e, List.length_append, List.length_cons, rows_len rs last]
    simp [sp]; omega

noncomputable def wsum (f : Nat → Int) : Nat → List Int → Int
  | _, [] => 0
  | k, x :: r => f k * x + wsum f (k + 1) r
theorem wsum_app (f : Nat → Int) : ∀ (l m : List Int) (k : Nat), wsum f k (l ++ m) = wsum f k l + wsum f (k + l.length) m
  | [], m, k => by simp [wsum]
  | x :: l, m, k => by
    rw [List.cons_append, wsum, wsum_app f l m (k + 1), wsum, List.length_cons, show k + 1 + l.length = k + (l.length + 1) by omega, Int.add_assoc]
theorem wsum_zero (f : Nat → Int) : ∀ (n k : Nat), wsum f k (List.replicate n 0) = 0
  | 0, k => rfl
  | n + 1, k => by rw [List.replicate_succ, wsum, wsum_zero f n]; simp
theorem wsum_set (f : Nat → Int) : ∀ (l : List Int) (k i : Nat), i < l.length → wsum f k (l.set i (l.getD i 0 + 1)) = wsum f k l + f (k + i)
  | [], _, _, h => by simp at h
  | x :: l, k, 0, _ => by simp [wsum, Int.mul_add]; omega
  | x :: l, k, i + 1, h => by
    rw [List.set_cons_succ, wsum, wsum]
    have : (x :: l).getD (i + 1) 0 = l.getD i 0 := rfl
    rw [this, wsum_set f l (k + 1) i (by simpa using h), show k + 1 + i = k + (i + 1) by omega, Int.add_assoc]
theorem wsum_grown (f : Nat → Int) (b : Nat) (c : List Int) (k : Nat) : wsum f k (grown b c) = wsum f k c := by
  unfold grown
  split
  · rw [wsum_app, wsum_zero]; simp
  · rfl
theorem wsum_bump (f : Nat → Int) (b : Nat) (c : List Int) : wsum f 0 (bump b c) = wsum f 0 c + f b := by
  unfold bump
  rw [wsum_set f _ 0 b (grown_len b c).1, wsum_grown, Nat.zero_add]
theorem wsum_hist (f : Nat → Int) : ∀ (rs : List Nat) (c : List Int), wsum f 0 (hist rs c) = wsum f 0 c + (rs.map f).sum
  | [], c => by simp [hist]
  | r :: rs, c => by
    have : hist (r :: rs) c = hist rs (bump r c) := rfl
    rw [this, wsum_hist f rs, wsum_bump, List.map_cons, List.sum_cons, Int.add_assoc]

noncomputable def mx (rs : List Nat) (m : Nat) : Nat := rs.foldl (fun m r => max m (r + 1)) m
theorem grown_max (b : Nat) (c : List Int) : (grown b c).length = max c.length (b + 1) := by
  unfold grown
  split
  · simp; omega
  · omega
theorem hist_len : ∀ (rs : List Nat) (c : List Int), (hist rs c).length = mx rs c.length
  | [], c => rfl
  | r :: rs, c => by
    have : hist (r :: rs) c = hist rs (bump r c) := rfl
    rw [this, hist_len rs, bump_len, grown_max]; rfl
theorem mx_le : ∀ (rs : List Nat) (m k : Nat), mx rs m ≤ k ↔ m ≤ k ∧ ∀ r ∈ rs, r < k
  | [], m, k => by simp [mx]
  | r :: rs, m, k => by
    have : mx (r :: rs) m = mx rs (max m (r + 1)) := rfl
    rw [this, mx_le rs, List.forall_mem_cons, Nat.max_le]
    constructor
    · rintro ⟨⟨a, b⟩, c⟩; exact ⟨a, by omega, c⟩
    · rintro ⟨a, b, c⟩; exact ⟨⟨a, by omega⟩, c⟩

/-- the sum over the whole range -/
theorem wsum_range (f : Nat → Int) : ∀ (l : List Int) (k : Nat), wsum f k l = ((List.range l.length).map fun i => f (k + i) * l.getD i 0).sum
  | [], k => rfl
  | x :: l, k => by
    rw [wsum, wsum_range f l (k + 1), List.length_cons, List.range_succ_eq_map, List.map_cons, List.sum_cons, List.map_map]
    congr 1
    congr 1
    apply List.map_congr_left
    intro i _
    simp [Nat.add_assoc, Nat.add_comm 1 i]

theorem rangeL_one (a b : Int) : rangeL a b 1 = (List.range (b - a).toNat).map fun (k : Nat) => a + k := by
  unfold rangeL
  have : (Builtin.Range.rangeSize a b 1).toNat = (b - a).toNat := by
    unfold Builtin.Range.rangeSize
    simp only [Int.ediv_one]
    split <;> omega
  rw [this]; simp

theorem zero_sum : ∀ (l : List Nat) (g : Nat → Int), (∀ i ∈ l, g i = 0) → (l.map g).sum = 0
  | [], _, _ => rfl
  | x :: l, g, h => by rw [List.map_cons, List.sum_cons, h x List.mem_cons_self, zero_sum l g fun i hi => h i (List.mem_cons_of_mem _ hi)]; rfl

/-- what the level's loop sums up -/
theorem range_sum (t : Int) (ht : 1 ≤ t) (c : List Int) : ((rangeL t c.length 1).map fun j => j.fdiv t * c.getD j.toNat 0).sum = wsum (fun i => (i : Int) / t) 0 c := by
  rw [wsum_range, rangeL_one, List.map_map]
  obtain ⟨T, rfl⟩ := Int.eq_ofNat_of_zero_le (show 0 ≤ t by omega)
  have hT : 1 ≤ T := by omega
  by_cases h : T ≤ c.length
  · have e : c.length = T + (c.length - T) := by omega
    have e2 : ((c.length : Int) - (T : Int)).toNat = c.length - T := by omega
    rw [e2]
    conv => rhs; rw [e, List.range_add, List.map_append, List.sum_append]
    rw [zero_sum (List.range T) _ (fun i hi => by
      have hi := List.mem_range.mp hi
      have : ((0 + i : Nat) : Int) / (T : Int) = 0 := Int.ediv_eq_zero_of_lt (by omega) (by omega)
      rw [this]; simp), Int.zero_add, List.map_map]
    congr 1
    apply List.map_congr_left
    intro i _
    simp only [Function.comp]
    rw [Int.fdiv_eq_ediv_of_nonneg _ (by omega)]
    simp only [Nat.zero_add]
    rw [show ((T : Int) + (i : Int)).toNat = T + i by omega, show ((T + i : Nat) : Int) = (T : Int) + i by omega]
  · have e2 : ((c.length : Int) - (T : Int)).toNat = 0 := by omega
    rw [e2]
    simp only [List.range_zero, List.map_nil, List.sum_nil]
    refine (zero_sum _ _ fun i hi => ?_).symm
    have hi := List.mem_range.mp hi
    have : ((0 + i : Nat) : Int) / (T : Int) = 0 := Int.ediv_eq_zero_of_lt (by omega) (by omega)
    rw [this]; simp

theorem fdiv_ii (a b : Int) (h : b ≠ 0) (h2 : b.natAbs < 2 ^ 64) : binSem .fdiv (.int a) (.int b) = some (.int (a.fdiv b)) := by
  simp -implicitDefEqProofs only [binSem]
  rw [if_pos ⟨h, pylong_small h2⟩]
theorem mul_ii (a b : Int) (h : a.natAbs < 2 ^ 64 ∨ b.natAbs < 2 ^ 64) : binSem .mul (.int a) (.int b) = some (.int (a * b)) := by
  simp -implicitDefEqProofs only [binSem]
  rw [if_pos h]
theorem len_t (l : List Int) (h : l.length ≤ lim) : fnSem .len [.py (.tuple (I l))] = some (.py (.int l.length)) := by
  simp -implicitDefEqProofs only [fnSem, lenSem, I_len, h, if_true]
theorem range_ii (a b : Int) (h : b.natAbs < 2 ^ 40) : fnSem .range [.py (.int a), .py (.int b)] = some (.rng a b 1) := by
  simp -implicitDefEqProofs only [fnSem, rangeSem]
  rw [if_pos h]

/-- the loop of indent_level -/
theorem lvl_loop (t : Int) (ht : 1 ≤ t) (c : List Int) (hc : c.length ≤ lim) (hw : ∀ i, (c.getD i 0).natAbs ≤ lim) : ∀ (js : List Int) (ρ : Loc) (il : Int), (∀ j ∈ js, t ≤ j ∧ j < c.length) →
    ρ 1 = some (.py (.int t)) → ρ 2 = some (.py (.tuple (I c))) → ρ 4 = some (.py (.int il)) →
    ∃ ρ', loopF (exs C0 (sq [.set 4 (.bin .add (.var 4) (.bin .mul (.bin .fdiv (.var 5) (.var 1)) (.idx (.var 2) (.var 5))))])) (bind1 5) (js.map .int) ρ = some (.next, ρ') ∧
      ρ' 0 = ρ 0 ∧ ρ' 1 = ρ 1 ∧ ρ' 3 = ρ 3 ∧ ρ' 4 = some (.py (.int (il + (js.map fun j => j.fdiv t * c.getD j.toNat 0).sum)))
  | [], ρ, il, _, h1, h2, h4 => ⟨ρ, rfl, rfl, rfl, rfl, by simp [h4]⟩
  | j :: js, ρ, il, hj, h1, h2, h4 => by
    obtain ⟨ja, jb⟩ := hj j List.mem_cons_self
    have hl := lim_val
    obtain ⟨J, rfl⟩ := Int.eq_ofNat_of_zero_le (show 0 ≤ j by omega)
    have hJ : J < c.length := by omega
    have hdiv := fdiv_ii (J : Int) t (by omega) (by omega)
    have hidx : idxSem (.tuple (I c)) (.int J) = some (.int (c.getD J 0)) := idx_ln c J hJ hc
    have hmul := mul_ii ((J : Int).fdiv t) (c.getD J 0) (.inr (by have := hw J; omega))
    obtain ⟨ρ', e, f0, f1, f3, f4⟩ := lvl_loop t ht c hc hw js (upd (upd ρ 5 (some (.py (.int J)))) 4 (some (.py (.int (il + (J : Int).fdiv t * c.getD J 0))))) (il + (J : Int).fdiv t * c.getD J 0) (fun j h => hj j (List.mem_cons_of_mem _ h)) (by simp [upd, h1]) (by simp [upd, h2]) (by simp [upd])
    refine ⟨ρ', ?_, ?_, ?_, ?_, ?_⟩
    · rw [List.map_cons]
      simp -implicitDefEqProofs only [loopF, bind1, exs, ex, ev, evs, sq, ls, Option.bind_some, Option.map_some, D.py?, D.bool?, intOf, allPy, upd, Nat.reduceEqDiff, Nat.succ_ne_self, if_true, if_false, Bool.false_eq_true, add_ii, sub_ii, mod_ii, cmp_lt, cmp_le, cmp_gt, cmp_ge, cmp_eq_ii, cmp_ne_ii, h1, h2, h4, hdiv, hidx, hmul]
      exact e
    · rw [f0]; simp [upd]
    · rw [f1]; simp [upd]
    · rw [f3]; simp [upd]
    · rw [f4, List.map_cons, List.sum_cons, Int.toNat_natCast, Int.add_assoc]

theorem range_mem {t : Int} {n : Nat} {j : Int} (h : j ∈ rangeL t n 1) : t ≤ j ∧ j < n := by
  rw [rangeL_one] at h
  simp only [List.mem_map, List.mem_range] at h
  obtain ⟨k, hk, rfl⟩ := h
  omega

theorem lvl_eq (x : Str) (σ : Scn) (t : Int) (ht : 1 ≤ t) (hc : σ.cnt.length ≤ lim) (hw : ∀ i, (σ.cnt.getD i 0).natAbs ≤ lim) (hn : σ.nt ≤ lim) :
    semMeth 1 lvlSt (.ws (fieldsOf x σ)) [.py (.int t)] = some (.py (.int (σ.b + t * (wsum (fun i => (i : Int) / t) 0 σ.cnt + σ.nt)))) := by
  have hl := lim_val
  let ρ₀ : Loc := upd (upd (upd (fun i => ([.ws (fieldsOf x σ), .py (.int t)] : List D)[i]?) 2 (some (.py (.tuple (I σ.cnt))))) 3 (some (.py (.int σ.b)))) 4 (some (.py (.int 0)))
  have hlen := len_t σ.cnt hc
  have hr := range_ii t (σ.cnt.length : Int) (by omega)
  have hit : itemsOf (.rng t σ.cnt.length 1) = some ((rangeL t σ.cnt.length 1).map .int) := rfl
  have hlm : ((rangeL t σ.cnt.length 1).map PyData.int).length ≤ lim := by rw [List.length_map, rangeL_one, List.length_map, List.length_range]; omega
  obtain ⟨ρ₁, e, f0, f1, f3, f4⟩ := lvl_loop t ht σ.cnt hc hw (rangeL t σ.cnt.length 1) ρ₀ 0 (fun j h => range_mem h) (by simp [ρ₀, upd]) (by simp [ρ₀, upd]) (by simp [ρ₀, upd])
  have g0 : ρ₁ 0 = some (.ws (fieldsOf x σ)) := by rw [f0]; simp [ρ₀, upd]
  have g1 : ρ₁ 1 = some (.py (.int t)) := by rw [f1]; simp [ρ₀, upd]
  have g3 : ρ₁ 3 = some (.py (.int σ.b)) := by rw [f3]; simp [ρ₀, upd]
  rw [range_sum t ht, Int.zero_add] at f4
  have hmul : binSem .mul (.int t) (.int (wsum (fun i => (i : Int) / t) 0 σ.cnt + σ.nt)) = some (.int (t * (wsum (fun i => (i : Int) / t) 0 σ.cnt + σ.nt))) := by
    refine mul_ii _ _ ?_
    by_cases h : t.natAbs < 2 ^ 64
    · exact .inl h
    · right
      have : wsum (fun i => (i : Int) / t) 0 σ.cnt = 0 := by
        rw [← range_sum t ht, rangeL_one, show ((σ.cnt.length : Int) - t).toNat = 0 by omega]; rfl
      rw [this]; omega
  have hfor : ex C0 (.for1 5 (.fn .range (ls [.var 1, .fn .len (ls [.var 2])])) (sq [.set 4 (.bin .add (.var 4) (.bin .mul (.bin .fdiv (.var 5) (.var 1)) (.idx (.var 2) (.var 5))))])) ρ₀ = some (.next, ρ₁) := by
    simp -implicitDefEqProofs only [ex, ev, evs, ls, ρ₀, upd, Nat.reduceEqDiff, Nat.succ_ne_self, if_true, if_false, List.getElem?_cons_succ, List.getElem?_cons_zero, Option.bind_some, Option.map_some, hlen, hr, hit, hlm]
    exact e
  have hex : exs C0 lvlSt (fun i => ([.ws (fieldsOf x σ), .py (.int t)] : List D)[i]?) = some (.ret (.py (.int (σ.b + t * (wsum (fun i => (i : Int) / t) 0 σ.cnt + σ.nt)))), ρ₁) := by
    have h1 : ex C0 (.unp 2 3 (.attr (.var 0) 3)) (fun i => ([.ws (fieldsOf x σ), .py (.int t)] : List D)[i]?) = some (.next, upd (upd (fun i => ([.ws (fieldsOf x σ), .py (.int t)] : List D)[i]?) 2 (some (.py (.tuple (I σ.cnt))))) 3 (some (.py (.int σ.b)))) := by
      simp -implicitDefEqProofs only [ex, ev, List.getElem?_cons_zero, Option.bind_some, fieldsOf, List.getElem?_cons_succ, Option.map_some]
    have h2 : ∀ ρ : Loc, ex C0 (.set 4 (.int 0)) ρ = some (.next, upd ρ 4 (some (.py (.int 0)))) := fun _ => rfl
    have h4 : ex C0 (.ret (.bin .add (.var 3) (.bin .mul (.var 1) (.bin .add (.var 4) (.attr (.var 0) 2))))) ρ₁ = some (.ret (.py (.int (σ.b + t * (wsum (fun i => (i : Int) / t) 0 σ.cnt + σ.nt)))), ρ₁) := by
      simp -implicitDefEqProofs only [exs, ex, ev, evs, sq, ls, Option.bind_some, Option.map_some, D.py?, D.bool?, intOf, allPy, upd, Nat.reduceEqDiff, Nat.succ_ne_self, if_true, if_false, Bool.false_eq_true, add_ii, sub_ii, mod_ii, cmp_lt, cmp_le, cmp_gt, cmp_ge, cmp_eq_ii, cmp_ne_ii, g0, g1, g3, f4, fieldsOf, List.getElem?_cons_succ, List.getElem?_cons_zero, hmul]
    simp -implicitDefEqProofs only [lvlSt, sq, exs, h1, h2, Option.bind_some]
    rw [show upd (upd (upd (fun i => ([.ws (fieldsOf x σ), .py (.int t)] : List D)[i]?) 2 (some (.py (.tuple (I σ.cnt))))) 3 (some (.py (.int σ.b)))) 4 (some (.py (.int 0))) = ρ₀ from rfl]
    have hf' := hfor
    simp only [sq] at hf'
    rw [hf', Option.bind_some]
    simp -implicitDefEqProofs only [h4, Option.bind_some]
  unfold semMeth semFn
  simp -implicitDefEqProofs only [List.length_cons, List.length_nil, Nat.zero_add, Nat.reduceAdd, if_true, hex]

end Mine
end
noncomputable section
open PySem
set_option maxRecDepth 100000
set_option linter.unusedSimpArgs false
namespace Mine

noncomputable abbrev ni (l : List Nat) : List Int := l.map fun (r : Nat) => (r : Int)
theorem le_sum : ∀ {l : List Nat} {r : Nat}, r ∈ l → r ≤ l.sum
  | x :: l, r, h => by
    rcases List.mem_cons.mp h with rfl | h
    · simp
    · have := le_sum h; simp; omega

section
variable {C : Calls} {ρ ρ₁ : Loc}
theorem ev_bin_eq {op : Op} {a b : Ex} {x y z : PyData} (h1 : ev C a ρ = some (.py x)) (h2 : ev C b ρ = some (.py y)) (h3 : binSem op x y = some z) : ev C (.bin op a b) ρ = some (.py z) := by
  rw [ev, h1, Option.bind_some, h2, Option.bind_some]; show (binSem op x y).map D.py = _; rw [h3]; rfl
theorem ev_cmp_eq' {op : Cm} {a b : Ex} {x y : PyData} {z : Bool} (h1 : ev C a ρ = some (.py x)) (h2 : ev C b ρ = some (.py y)) (h3 : cmpSem op x y = some z) : ev C (.cmp op a b) ρ = some (.py (.bool z)) := by
  rw [ev, h1, Option.bind_some, h2, Option.bind_some]; show (cmpSem op x y).map _ = _; rw [h3]; rfl
theorem ev_comp_eq {v : Nat} {it elt : Ex} {d : D} {xs ys : List PyData} (h1 : ev C it ρ = some d) (h2 : itemsOf d = some xs) (h3 : xs.length ≤ lim) (h4 : xs.all isScalar = true) (h5 : compGo (fun x => ev C elt (upd ρ v (some x))) xs = some ys) :
    ev C (.comp v it elt) ρ = some (.py (.list ys)) := by
  rw [ev, h1, Option.bind_some, h2, Option.bind_some, if_pos ⟨h3, h4⟩, h5]; rfl
theorem ev_fn1 {k : Fn} {a : Ex} {x d : D} (h1 : ev C a ρ = some x) (h2 : fnSem k [x] = some d) : ev C (.fn k (ls [a])) ρ = some d := by
  rw [ev, ls, ls, evs, h1, Option.bind_some, evs]; exact h2
theorem ev_call1 {k : Nat} {a : Ex} {x d : D} (h1 : ev C a ρ = some x) (h2 : C.call k [x] = some d) : ev C (.call k (ls [a])) ρ = some d := by
  rw [ev, ls, ls, evs, h1, Option.bind_some, evs]; exact h2
theorem ev_meth1 {k : Nat} {a b : Ex} {x y d : D} (h1 : ev C a ρ = some x) (h2 : ev C b ρ = some y) (h3 : C.meth k x [y] = some d) : ev C (.meth k a (ls [b])) ρ = some d := by
  rw [ev, h1, Option.bind_some, ls, ls, evs, h2, Option.bind_some, evs]; exact h3
theorem ev_slHi_eq {a b : Ex} {x z : PyData} {i : Int} (h1 : ev C a ρ = some (.py x)) (h2 : ev C b ρ = some (.py (.int i))) (h3 : sliceSem x none (some i) = some z) : ev C (.slHi a b) ρ = some (.py z) := by
  rw [ev, h1, Option.bind_some, h2, Option.bind_some]; show (sliceSem x none (some i)).map D.py = _; rw [h3]; rfl
theorem ev_idx_eq {a b : Ex} {x y z : PyData} (h1 : ev C a ρ = some (.py x)) (h2 : ev C b ρ = some (.py y)) (h3 : idxSem x y = some z) : ev C (.idx a b) ρ = some (.py z) := by
  rw [ev, h1, Option.bind_some, h2, Option.bind_some]; show (idxSem x y).map D.py = _; rw [h3]; rfl

theorem ex_set_eq {i : Nat} {e : Ex} {d : D} (h : ev C e ρ = some d) : ex C (.set i e) ρ = some (.next, upd ρ i (some d)) := by rw [ex, h]; rfl
theorem ex_ret_eq {e : Ex} {d : D} (h : ev C e ρ = some d) : ex C (.ret e) ρ = some (.ret d, ρ) := by rw [ex, h]; rfl
theorem ex_ite_t {c : Ex} {a b : Sts} (h : ev C c ρ = some (.py (.bool true))) : ex C (.ite c a b) ρ = exs C a ρ := by rw [ex, h]; rfl
theorem ex_ite_f {c : Ex} {a b : Sts} (h : ev C c ρ = some (.py (.bool false))) : ex C (.ite c a b) ρ = exs C b ρ := by rw [ex, h]; rfl
theorem exs_next {s : St} {ss : Sts} (h : ex C s ρ = some (.next, ρ₁)) : exs C (.cons s ss) ρ = exs C ss ρ₁ := by rw [exs, h]; rfl
theorem exs_ret {s : St} {ss : Sts} {d : D} (h : ex C s ρ = some (.ret d, ρ₁)) : exs C (.cons s ss) ρ = some (.ret d, ρ₁) := by rw [exs, h]; rfl
theorem exs_brk {s : St} {ss : Sts} (h : ex C s ρ = some (.brk, ρ₁)) : exs C (.cons s ss) ρ = some (.brk, ρ₁) := by rw [exs, h]; rfl
theorem ex_for_eq {i : Nat} {it : Ex} {b : Sts} {d : D} {xs : List PyData} {r : Fl × Loc} (h1 : ev C it ρ = some d) (h2 : itemsOf d = some xs) (h3 : xs.length ≤ lim) (h4 : loopF (exs C b) (bind1 i) xs ρ = some r) : ex C (.for1 i it b) ρ = some r := by
  rw [ex, h1, Option.bind_some, h2, Option.bind_some, if_pos h3, h4]
end

theorem ni_len (a : List Nat) : (ni a).length = a.length := by simp [ni]

theorem S_sp : S " " = txt [32] := by decide +kernel
theorem S_tab : S "\t" = txt [9] := by decide +kernel
theorem S_x : S "x" = txt [120] := by decide +kernel
theorem txt_app (a b : List Nat) : txt a ++ txt b = txt (a ++ b) := by
  show (⟨a.toArray ++ b.toArray⟩ : Str) = ⟨(a ++ b).toArray⟩
  rw [List.append_toArray]
theorem txt_len (a : List Nat) : (txt a).length = a.length := by show a.toArray.size = _; simp
theorem txt_list (a : List Nat) : (txt a).cps.toList = a := by simp [txt]

theorem add_ss (a b : List Nat) (h : a.length + b.length ≤ lim) : binSem .add (.str (txt a)) (.str (txt b)) = some (.str (txt (a ++ b))) := by
  simp -implicitDefEqProofs only [binSem, txt_len, txt_app]
  rw [if_pos h]
theorem compGo_ints (f : D → Option D) (g : Int → Int) : ∀ l : List Int, (∀ i ∈ l, f (.py (.int i)) = some (.py (.int (g i)))) → compGo f (I l) = some (I (l.map g))
  | [], _ => rfl
  | x :: l, h => by
    have ih := compGo_ints f g l fun i hi => h i (List.mem_cons_of_mem _ hi)
    show compGo f (.int x :: I l) = _
    rw [compGo, h x List.mem_cons_self, Option.bind_some, ih]; rfl
theorem I_scalar : ∀ l : List Int, (I l).all isScalar = true
  | [] => rfl
  | x :: l => by show (isScalar (.int x) && (I l).all isScalar) = true; rw [I_scalar l]; rfl

theorem clip_pos (n : Nat) (k : Nat) : clipAt n (k : Int) = min k n := by
  unfold clipAt
  rw [if_neg (by omega)]; omega
theorem slice_hi (ns : List Int) (k : Nat) (h : ns.length ≤ lim) : sliceSem (.list (I ns)) none (some (k : Int)) = some (.list (I (ns.take k))) := by
  unfold sliceSem
  simp only [I_len, h, if_true, sliceL, Option.elim_none, Option.elim_some, List.drop_zero, clip_pos, Nat.sub_zero]
  congr 2
  unfold I
  rw [← List.map_take]
  congr 1
  rw [List.take_eq_take_iff]; omega
theorem mod_nat (x : Int) (m : Int) (h : 0 < m) : x.fmod m = ((x.fmod m).toNat : Int) := by
  have := Int.fmod_nonneg_of_pos x h; omega
theorem mod_lt (x : Int) (m : Int) (h : 0 < m) : ((x.fmod m).toNat : Int) < m := by
  have := Int.fmod_nonneg_of_pos x h
  have := Int.fmod_lt_of_pos x h; omega

theorem bump_getD (b : Nat) (c : List Int) (i : Nat) : (bump b c).getD i 0 = c.getD i 0 + if i = b then 1 else 0 := by
  have hg := grown_len b c
  have hgd : ∀ j, (grown b c).getD j 0 = c.getD j 0 := by
    intro j
    unfold grown
    split
    · simp only [List.getD_eq_getElem?_getD, List.getElem?_append]
      split
      · rfl
      · rename_i hj
        rw [List.getElem?_eq_none (l := c) (by omega)]
        simp only [List.getElem?_replicate]
        split <;> rfl
    · rfl
  unfold bump
  rw [List.getD_eq_getElem?_getD, List.getElem?_set]
  by_cases e : b = i
  · subst e
    rw [if_pos rfl, if_pos hg.1, if_pos rfl, hgd]; rfl
  · simp only [e, if_false, Ne.symm e]
    rw [← List.getD_eq_getElem?_getD, hgd]; simp
theorem hist_getD : ∀ (rs : List Nat) (c : List Int) (i : Nat), (hist rs c).getD i 0 = c.getD i 0 + (rs.count i : Int)
  | [], c, i => by simp [hist]
  | r :: rs, c, i => by
    have : hist (r :: rs) c = hist rs (bump r c) := rfl
    rw [this, hist_getD rs, bump_getD, List.count_cons]
    by_cases e : i = r
    · subst e; simp; omega
    · simp [e, Ne.symm e]

noncomputable def rowsSc (rs : List Nat) (last : Nat) : Scn := ⟨rs.sum + rs.length + last, rs.length, last, hist rs []⟩
noncomputable def level (rs : List Nat) (last : Nat) (t : Int) : Int := last + t * ((rs.map fun (r : Nat) => (r : Int) / t).sum + rs.length)

theorem new_rows (rs : List Nat) (last : Nat) (tail : List Nat) (ht : tail = [] ∨ ∃ r, tail = 120 :: r) (h : rs.sum + rs.length + last + tail.length + 1 ≤ lim) :
    semInit [.py (.str (txt (rowsText rs last ++ tail)))] = some (.ws (fieldsOf (txt (rowsText rs last ++ tail)) (rowsSc rs last))) := by
  rw [init_eq _ (rowsText rs last) tail (txt_list _) (rows_ok rs last) ht (by rw [List.length_append, rows_len]; omega), scan_rows rs last _ rfl]
  simp [rowsSc]
theorem hist_small (rs : List Nat) (last : Nat) (h : rs.sum + rs.length + last ≤ lim) : (hist rs []).length ≤ lim ∧ ∀ i, ((hist rs []).getD i 0).natAbs ≤ lim := by
  refine ⟨?_, fun i => ?_⟩
  · rw [hist_len, mx_le]
    refine ⟨Nat.zero_le _, fun r hr => ?_⟩
    have h1 : r ≤ rs.sum := le_sum hr
    have h2 : 0 < rs.length := List.length_pos_of_mem hr
    omega
  · rw [hist_getD]
    have : rs.count i ≤ rs.length := List.count_le_length
    simp; omega
theorem lvl_rows (x : Str) (rs : List Nat) (last : Nat) (t : Int) (ht : 1 ≤ t) (h : rs.sum + rs.length + last ≤ lim) : semMeth 1 lvlSt (.ws (fieldsOf x (rowsSc rs last))) [.py (.int t)] = some (.py (.int (level rs last t))) := by
  have hs := hist_small rs last h
  rw [lvl_eq x (rowsSc rs last) t ht hs.1 hs.2 (by show rs.length ≤ lim; omega)]
  show some (D.py (.int ((last : Int) + t * (wsum _ 0 (hist rs []) + (rs.length : Int))))) = _
  rw [wsum_hist]
  simp [level, wsum]
end Mine
end
noncomputable section
open PySem
set_option maxRecDepth 100000
set_option linter.unusedSimpArgs false
namespace Mine

theorem loop_mem {f : Loc → Option (Fl × Loc)} {g : Loc → PyData → Option Loc} (Inv : Loc → Prop) : ∀ (xs : List PyData) (ρ : Loc), Inv ρ → (∀ x ∈ xs, ∀ ρ, Inv ρ → ∃ ρ₁ ρ₂, g ρ x = some ρ₁ ∧ f ρ₁ = some (.next, ρ₂) ∧ Inv ρ₂) →
    ∃ ρ', loopF f g xs ρ = some (.next, ρ') ∧ Inv ρ'
  | [], ρ, h, _ => ⟨ρ, rfl, h⟩
  | x :: xs, ρ, h, hs => by
    obtain ⟨ρ₁, ρ₂, h1, h2, h3⟩ := hs x List.mem_cons_self ρ h
    obtain ⟨ρ', h4, h5⟩ := loop_mem Inv xs ρ₂ h3 fun y hy => hs y (List.mem_cons_of_mem _ hy)
    exact ⟨ρ', by rw [loopF, h1, Option.bind_some, h2, Option.bind_some]; exact h4, h5⟩

end Mine
end
noncomputable section
open PySem
set_option maxRecDepth 100000
set_option linter.unusedSimpArgs false
namespace Mine

section
variable {C : Calls} {ρ ρ₁ : Loc}
theorem loopF_go {f : Loc → Option (Fl × Loc)} {i : Nat} {x : PyData} {xs : List PyData} (h : f (upd ρ i (some (.py x))) = some (.next, ρ₁)) : loopF f (bind1 i) (x :: xs) ρ = loopF f (bind1 i) xs ρ₁ := by
  rw [loopF, bind1, Option.bind_some, h]; rfl
theorem loopF_brk {f : Loc → Option (Fl × Loc)} {i : Nat} {x : PyData} {xs : List PyData} (h : f (upd ρ i (some (.py x))) = some (.brk, ρ₁)) : loopF f (bind1 i) (x :: xs) ρ = some (.next, ρ₁) := by
  rw [loopF, bind1, Option.bind_some, h]; rfl
end

theorem upd_ne (ρ : Loc) {i j : Nat} (d : Option D) (h : j ≠ i) : upd ρ i d j = ρ j := by simp [upd, h]

theorem mod_lit (x m : Int) (h : 0 < m) : binSem .mod (.int x) (.int m) = some (.int ((x.fmod m).toNat : Int)) := by
  have := mod_nat x m h
  rw [mod_ii, if_pos (by omega), ← this]
theorem cmp_ii_ne {C : Calls} {ρ : Loc} {a b : Ex} {x y : Int} (h1 : ev C a ρ = some (.py (.int x))) (h2 : ev C b ρ = some (.py (.int y))) : ev C (.cmp .ne a b) ρ = some (.py (.bool (x != y))) := ev_cmp_eq' h1 h2 (cmp_ne_ii x y)
/-- a test that two equal ints differ -/
theorem ne_no {C : Calls} {ρ : Loc} {a b : Ex} {x y : Int} (h1 : ev C a ρ = some (.py (.int x))) (h2 : ev C b ρ = some (.py (.int y))) (h : x = y) : ev C (.cmp .ne a b) ρ = some (.py (.bool false)) := by
  rw [cmp_ii_ne h1 h2, h]; simp
end Mine
end
noncomputable section
open PySem
set_option maxRecDepth 100000
set_option linter.unusedSimpArgs false
namespace Mine

noncomputable def qs (rs : List Nat) (t : Nat) : Nat := (rs.map fun r => r / t).sum
theorem qs_cons (r : Nat) (rs : List Nat) (t : Nat) : qs (r :: rs) t = r / t + qs rs t := by simp [qs]
theorem qs_cast (t : Nat) : ∀ rs : List Nat, (rs.map fun (r : Nat) => (r : Int) / (t : Int)).sum = (qs rs t : Nat)
  | [] => rfl
  | r :: rs => by
    rw [List.map_cons, List.sum_cons, qs_cast t rs]
    simp [qs]
noncomputable def lvN (rs : List Nat) (last t : Nat) : Nat := last + t * (qs rs t + rs.length)
theorem level_nat (rs : List Nat) (last t : Nat) : level rs last t = (lvN rs last t : Int) := by
  unfold level lvN
  rw [qs_cast]; simp
theorem lvl_nat (x : Str) (rs : List Nat) (last t : Nat) (ht : 1 ≤ t) (h : rs.sum + rs.length + last ≤ lim) : semMeth 1 lvlSt (.ws (fieldsOf x (rowsSc rs last))) [.py (.int t)] = some (.py (.int (lvN rs last t))) := by
  rw [lvl_rows x rs last t (by omega) h, level_nat]
theorem rows_cons (r : Nat) (rs : List Nat) (last : Nat) : rowsText (r :: rs) last = sp r ++ (9 :: rowsText rs last) := by simp [rowsText]
end Mine
end
noncomputable section
open PySem
set_option maxRecDepth 100000
namespace Mine

noncomputable def nm03text : List Str := [S "script", S "rows", S "text", S "x"]
noncomputable def own03text : List Nat := []
noncomputable def b03text_1 : Sts := sq [
  .set 2 (.bin .add (.var 2) (.idx (.var 1) (.bin .mod (.var 3) (.int 12))))]
noncomputable def st03text : Sts := sq [
  .set 1 (.list (ls [.str (S " "), .str (S "\t"), .str (S "  "), .str (S " \t"), .str (S "\t "), .str (S "   "), .str (S "\t\t"), .str (S "  \t"), .str (S "    "), .str (S "   \t"), .str (S " "), .str (S "x")])),
  .set 2 (.str (S " \t")),
  .for1 3 (.var 0) b03text_1,
  .ret (.var 2)]
noncomputable def nm03 : List Str := [S "script", S "text", S "w", S "x", S "size", S "column", S "letter"]
noncomputable def own03 : List Nat := []
noncomputable def b03_2 : Sts := sq [
  .ite (.cmp .eq (.var 6) (.str (S " "))) (sq [.set 5 (.bin .add (.var 5) (.int 1))]) (sq [.ite (.cmp .eq (.var 6) (.str (S "\t"))) (sq [.set 5 (.bin .mul (.bin .add (.bin .fdiv (.var 5) (.var 4)) (.int 1)) (.var 4))]) (sq [.brk])])]
noncomputable def b03_1 : Sts := sq [
  .set 5 (.int 0),
  .for1 6 (.var 1) b03_2,
  .ite (.cmp .ne (.meth 0 (.var 2) (ls [.var 4])) (.var 5)) (sq [.ret (.bool false)]) (sq [])]
noncomputable def st03 : Sts := sq [
  .set 1 (.call 0 (ls [.slHi (.var 0) (.int 20)])),
  .set 2 (.call 1 (ls [.var 1])),
  .for1 4 (.bin .add (.list (ls [.int 1, .int 2, .int 3, .int 4, .int 5, .int 8])) (.comp 3 (.slHi (.var 0) (.int 6)) (.bin .add (.int 1) (.fn .abs (ls [.var 3]))))) b03_1,
  .ret (.bool true)]
noncomputable def fns03 : List Str := [S "_law_text", S "Whitespace"]
noncomputable def mts03 : List Str := [S "indent_level"]
noncomputable def Cs03 : Calls := ⟨fun k => match k with | 0 => semFn 1 st03text | 1 => semInit | _ => fun _ => none, fun k => match k with | 0 => semMeth 1 lvlSt | _ => fun _ _ => none, fun _ => none⟩
end Mine
end
noncomputable section
open PySem
set_option maxRecDepth 100000
set_option linter.unusedSimpArgs false
namespace Mine

theorem semFn_eq {n : Nat} {st : Sts} {ds : List D} {d : D} {ρ' : Loc} (hn : ds.length = n) (h : exs C0 st (fun i => ds[i]?) = some (.ret d, ρ')) : semFn n st ds = some d := by
  unfold semFn; rw [if_pos hn, h]

noncomputable def tab03 : List (List Nat) := [[32], [9], [32, 32], [32, 9], [9, 32], [32, 32, 32], [9, 9], [32, 32, 9], [32, 32, 32, 32], [32, 32, 32, 9], [32], [120]]
noncomputable def strs03 : List PyData := [.str (S " "), .str (S "\t"), .str (S "  "), .str (S " \t"), .str (S "\t "), .str (S "   "), .str (S "\t\t"), .str (S "  \t"), .str (S "    "), .str (S "   \t"), .str (S " "), .str (S "x")]
theorem strs03_eq : strs03 = tab03.map fun l => .str (txt l) := by
  unfold strs03 tab03
  simp only [S_sp, S_tab, S_x, show S "  " = txt [32, 32] by decide +kernel, show S " \t" = txt [32, 9] by decide +kernel, show S "\t " = txt [9, 32] by decide +kernel, show S "   " = txt [32, 32, 32] by decide +kernel,
    show S "\t\t" = txt [9, 9] by decide +kernel, show S "  \t" = txt [32, 32, 9] by decide +kernel, show S "    " = txt [32, 32, 32, 32] by decide +kernel, show S "   \t" = txt [32, 32, 32, 9] by decide +kernel, List.map_cons, List.map_nil]
noncomputable def pc03 (x : Int) : List Nat := tab03.getD (x.fmod 12).toNat []
theorem pc03_ok (x : Int) : (pc03 x).length ≤ 4 ∧ ∀ c ∈ pc03 x, c = 32 ∨ c = 9 ∨ c = 120 := by
  have h : ∀ i < 12, (tab03.getD i []).length ≤ 4 ∧ ∀ c ∈ tab03.getD i [], c = 32 ∨ c = 9 ∨ c = 120 := by decide +kernel
  exact h _ (by have := mod_lt x 12 (by decide); omega)
theorem idx03 (x : Int) : idxSem (.list strs03) (.int ((x.fmod 12).toNat : Int)) = some (.str (txt (pc03 x))) := by
  have h := mod_lt x 12 (by decide)
  show idxL strs03 ((x.fmod 12).toNat : Int) = _
  rw [idxL_nat _ _ (by omega), strs03_eq, List.getElem?_map, pc03, List.getD_eq_getElem?_getD, List.getElem?_eq_getElem (by show (x.fmod 12).toNat < 12; omega)]; rfl

theorem text03 : ∀ (l : List Int) (a : List Nat) (ρ : Loc), ρ 1 = some (.py (.list strs03)) → ρ 2 = some (.py (.str (txt a))) → a.length + 4 * l.length ≤ 1000 →
    ∃ ρ', loopF (exs C0 b03text_1) (bind1 3) (I l) ρ = some (.next, ρ') ∧ ρ' 2 = some (.py (.str (txt (a ++ l.flatMap pc03))))
  | [], a, ρ, h1, h2, _ => ⟨ρ, rfl, by simpa using h2⟩
  | x :: l, a, ρ, h1, h2, hb => by
    have hl := lim_val
    have hp := (pc03_ok x).1
    rw [List.length_cons] at hb
    have s1 : ev C0 (.bin .add (.var 2) (.idx (.var 1) (.bin .mod (.var 3) (.int 12)))) (upd ρ 3 (some (.py (.int x)))) = some (.py (.str (txt (a ++ pc03 x)))) :=
      ev_bin_eq (x := .str (txt a)) (y := .str (txt (pc03 x))) h2 (ev_idx_eq (x := .list strs03) (y := .int ((x.fmod 12).toNat : Int)) h1 (ev_bin_eq (x := .int x) (y := .int 12) rfl rfl (mod_lit _ 12 (by decide))) (idx03 x)) (add_ss _ _ (by omega))
    obtain ⟨ρ', e, e2⟩ := text03 l (a ++ pc03 x) (upd (upd ρ 3 (some (.py (.int x)))) 2 (some (.py (.str (txt (a ++ pc03 x)))))) h1 rfl (by rw [List.length_append]; omega)
    refine ⟨ρ', (loopF_go (i := 3) (x := .int x) (xs := I l) ((exs_next (ex_set_eq s1)).trans rfl)).trans e, ?_⟩
    rw [e2]; simp
noncomputable def T03 (ns : List Int) : List Nat := [32, 9] ++ ns.flatMap pc03
theorem fn03 (ns : List Int) (h : ns.length ≤ 20) : semFn 1 st03text [.py (.list (I ns))] = some (.py (.str (txt (T03 ns)))) := by
  have hl := lim_val
  let ρ₀ : Loc := fun i => ([.py (.list (I ns))] : List D)[i]?
  let ρ₁ : Loc := upd ρ₀ 1 (some (.py (.list strs03)))
  have s1 : ex C0 (.set 1 (.list (ls [.str (S " "), .str (S "\t"), .str (S "  "), .str (S " \t"), .str (S "\t "), .str (S "   "), .str (S "\t\t"), .str (S "  \t"), .str (S "    "), .str (S "   \t"), .str (S " "), .str (S "x")]))) ρ₀ = some (.next, ρ₁) := ex_set_eq rfl
  let ρ₂ : Loc := upd ρ₁ 2 (some (.py (.str (txt [32, 9]))))
  have s2 : ex C0 (.set 2 (.str (S " \t"))) ρ₁ = some (.next, ρ₂) := by
    have := ex_set_eq (C := C0) (ρ := ρ₁) (i := 2) (e := .str (S " \t")) rfl
    rw [show S " \t" = txt [32, 9] by decide +kernel] at this ⊢; exact this
  obtain ⟨ρ₃, e3, h2⟩ := text03 ns [32, 9] ρ₂ rfl rfl (by simp; omega)
  have s3 : ex C0 (.for1 3 (.var 0) b03text_1) ρ₂ = some (.next, ρ₃) := ex_for_eq (d := .py (.list (I ns))) rfl rfl (by rw [I_len]; omega) e3
  refine semFn_eq (ρ' := ρ₃) rfl ?_
  exact (exs_next s1).trans ((exs_next s2).trans ((exs_next s3).trans (exs_ret (ex_ret_eq h2))))

/-- a text of spaces and tabs is a text of rows -/
theorem rows_of : ∀ l : List Nat, (∀ c ∈ l, c = 32 ∨ c = 9) → ∃ rs last, l = rowsText rs last
  | [], _ => ⟨[], 0, rfl⟩
  | c :: l, h => by
    obtain ⟨rs, last, e⟩ := rows_of l fun x hx => h x (List.mem_cons_of_mem _ hx)
    rcases h c List.mem_cons_self with rfl | rfl
    · cases rs with
      | nil => exact ⟨[], last + 1, by rw [e]; simp [rowsText, sp, List.replicate_succ]⟩
      | cons r rs => exact ⟨(r + 1) :: rs, last, by rw [e, rows_cons, rows_cons]; simp [sp, List.replicate_succ]⟩
    · exact ⟨0 :: rs, last, by rw [e, rows_cons]; simp [sp]⟩

noncomputable def colF (s : Nat) : List Nat → Nat → Nat
  | [], c => c
  | x :: l, c => if x = 32 then colF s l (c + 1) else if x = 9 then colF s l ((c / s + 1) * s) else c
theorem colF_sp (s : Nat) (l : List Nat) : ∀ (r c : Nat), colF s (sp r ++ l) c = colF s l (c + r)
  | 0, c => by simp [sp]
  | r + 1, c => by
    have : sp (r + 1) ++ l = 32 :: (sp r ++ l) := by simp [sp, List.replicate_succ]
    rw [this, colF, if_pos rfl, colF_sp s l r]; congr 1; omega
theorem colF_rows (s : Nat) (hs : 1 ≤ s) (last : Nat) : ∀ (rs : List Nat) (q : Nat), colF s (rowsText rs last) (s * q) = s * q + lvN rs last s
  | [], q => by
    have := colF_sp s [] last (s * q)
    rw [List.append_nil] at this
    have e : rowsText [] last = sp last := by simp [rowsText]
    rw [e, this]; simp [colF, lvN, qs]
  | r :: rs, q => by
    rw [rows_cons, colF_sp, colF, if_neg (by decide), if_pos rfl, Nat.mul_add_div (by omega), Nat.mul_comm _ s, colF_rows s hs last rs, lvN, lvN, qs_cons, List.length_cons]
    rw [show r / s + qs rs s + (rs.length + 1) = (r / s + 1) + (qs rs s + rs.length) by omega, Nat.mul_add s (r / s + 1), show q + r / s + 1 = q + (r / s + 1) by omega, Nat.mul_add s q]; omega

theorem pylong_near (c s : Nat) (hs : 1 ≤ s) (h : c ≤ 2 ^ 20 * s) : Builtin.divisionGoesByPylong (c : Int) (s : Int) = false := by
  unfold Builtin.divisionGoesByPylong
  simp only [Bool.and_eq_false_iff, decide_eq_false_iff_not, Int.natAbs_natCast]
  right
  rw [if_neg (show ¬ ((s : Int) == 0) = true by simp; omega)]
  split
  · omega
  · rename_i hc
    have hc0 : c ≠ 0 := fun e => hc (by rw [e]; rfl)
    have h1 : c.log2 < s.log2 + 1 + 20 := by
      rw [Nat.log2_lt hc0, Nat.pow_add]
      have h2 : s < 2 ^ (s.log2 + 1) := Nat.lt_log2_self
      have h3 : s * 2 ^ 20 < 2 ^ (s.log2 + 1) * 2 ^ 20 := Nat.mul_lt_mul_of_pos_right h2 (by decide)
      rw [Nat.mul_comm] at h; omega
    omega
theorem fdiv_near (c s : Nat) (hs : 1 ≤ s) (h : c ≤ 2 ^ 20 * s) : binSem .fdiv (.int c) (.int s) = some (.int ((c / s : Nat) : Int)) := by
  show (if (s : Int) ≠ 0 ∧ Builtin.divisionGoesByPylong (c : Int) (s : Int) = false then some (PyData.int ((c : Int).fdiv s)) else none) = _
  rw [if_pos ⟨by omega, pylong_near c s hs h⟩, Int.fdiv_eq_ediv_of_nonneg _ (by omega)]; simp

theorem col_loop (s : Nat) (hs : 1 ≤ s) : ∀ (l tail : List Nat) (ρ : Loc) (c n : Nat), (∀ c ∈ l, c = 32 ∨ c = 9) → (tail = [] ∨ ∃ r, tail = 120 :: r) → ρ 4 = some (.py (.int s)) → ρ 5 = some (.py (.int c)) → c ≤ n * s → n + l.length ≤ lim →
    ∃ ρ', loopF (exs Cs03 b03_2) (bind1 6) ((l ++ tail).map chr) ρ = some (.next, ρ') ∧ ρ' 5 = some (.py (.int (colF s l c))) ∧ ∀ j, j ≠ 5 → j ≠ 6 → ρ' j = ρ j
  | [], tail, ρ, c, n, _, ht, h4, h5, _, _ => by
    rcases ht with rfl | ⟨r, rfl⟩
    · exact ⟨ρ, rfl, h5, fun _ _ _ => rfl⟩
    · have t1 : ev Cs03 (.cmp .eq (.var 6) (.str (S " "))) (upd ρ 6 (some (.py (chr 120)))) = some (.py (.bool false)) := ev_cmp_eq' (x := chr 120) rfl rfl c4
      have t2 : ev Cs03 (.cmp .eq (.var 6) (.str (S "\t"))) (upd ρ 6 (some (.py (chr 120)))) = some (.py (.bool false)) := ev_cmp_eq' (x := chr 120) rfl rfl c5
      refine ⟨upd ρ 6 (some (.py (chr 120))), loopF_brk (i := 6) (x := chr 120) ?_, h5, fun j _ h => upd_ne _ _ h⟩
      exact exs_brk ((ex_ite_f t1).trans (exs_brk ((ex_ite_f t2).trans (exs_brk rfl))))
  | x :: l, tail, ρ, c, n, hl, ht, h4, h5, hc, hb => by
    have hlim := lim_val
    have hl' : ∀ c ∈ l, c = 32 ∨ c = 9 := fun c hc => hl c (List.mem_cons_of_mem _ hc)
    rw [List.length_cons] at hb
    rcases hl x List.mem_cons_self with rfl | rfl
    · have t1 : ev Cs03 (.cmp .eq (.var 6) (.str (S " "))) (upd ρ 6 (some (.py (chr 32)))) = some (.py (.bool true)) := ev_cmp_eq' (x := chr 32) rfl rfl c1
      have s1 : ev Cs03 (.bin .add (.var 5) (.int 1)) (upd ρ 6 (some (.py (chr 32)))) = some (.py (.int ((c + 1 : Nat) : Int))) := ev_bin_eq (x := .int c) (y := .int 1) h5 rfl (by rw [add_ii]; simp)
      obtain ⟨ρ', e, e5, ej⟩ := col_loop s hs l tail (upd (upd ρ 6 (some (.py (chr 32)))) 5 (some (.py (.int ((c + 1 : Nat) : Int))))) (c + 1) (n + 1) hl' ht h4 rfl (by rw [Nat.succ_mul]; omega) (by omega)
      refine ⟨ρ', (loopF_go (i := 6) (x := chr 32) (xs := (l ++ tail).map chr) ((exs_next ((ex_ite_t t1).trans ((exs_next (ex_set_eq s1)).trans rfl))).trans rfl)).trans e, by rw [e5, colF, if_pos rfl], fun j h1 h2 => by rw [ej j h1 h2, upd_ne _ _ h1, upd_ne _ _ h2]⟩
    · have t1 : ev Cs03 (.cmp .eq (.var 6) (.str (S " "))) (upd ρ 6 (some (.py (chr 9)))) = some (.py (.bool false)) := ev_cmp_eq' (x := chr 9) rfl rfl c2
      have t2 : ev Cs03 (.cmp .eq (.var 6) (.str (S "\t"))) (upd ρ 6 (some (.py (chr 9)))) = some (.py (.bool true)) := ev_cmp_eq' (x := chr 9) rfl rfl c3
      have hcn : c / s ≤ n := by
        have := Nat.div_le_div_right (c := s) hc
        rwa [Nat.mul_div_cancel _ (by omega)] at this
      have hcs : c / s + 1 < 2 ^ 64 := by omega
      have hc20 : c ≤ 2 ^ 20 * s := Nat.le_trans hc (Nat.mul_le_mul_right s (by omega))
      have s1 : ev Cs03 (.bin .mul (.bin .add (.bin .fdiv (.var 5) (.var 4)) (.int 1)) (.var 4)) (upd ρ 6 (some (.py (chr 9)))) = some (.py (.int (((c / s + 1) * s : Nat) : Int))) :=
        ev_bin_eq (x := .int ((c / s + 1 : Nat) : Int)) (y := .int s) (ev_bin_eq (x := .int ((c / s : Nat) : Int)) (y := .int 1) (ev_bin_eq (x := .int c) (y := .int s) h5 h4 (fdiv_near c s hs hc20)) rfl (by rw [add_ii]; simp)) h4 (by rw [mul_ii _ _ (.inl (by rw [Int.natAbs_natCast]; exact hcs))]; simp)
      obtain ⟨ρ', e, e5, ej⟩ := col_loop s hs l tail (upd (upd ρ 6 (some (.py (chr 9)))) 5 (some (.py (.int (((c / s + 1) * s : Nat) : Int))))) ((c / s + 1) * s) (n + 1) hl' ht h4 rfl (Nat.mul_le_mul_right s (by omega)) (by omega)
      refine ⟨ρ', (loopF_go (i := 6) (x := chr 9) (xs := (l ++ tail).map chr) ((exs_next ((ex_ite_f t1).trans ((exs_next ((ex_ite_t t2).trans ((exs_next (ex_set_eq s1)).trans rfl))).trans rfl))).trans rfl)).trans e, by rw [e5, colF, if_neg (by decide), if_pos rfl], fun j h1 h2 => by rw [ej j h1 h2, upd_ne _ _ h1, upd_ne _ _ h2]⟩

theorem split_x : ∀ T : List Nat, (∀ c ∈ T, c = 32 ∨ c = 9 ∨ c = 120) → ∃ l tail, T = l ++ tail ∧ (∀ c ∈ l, c = 32 ∨ c = 9) ∧ (tail = [] ∨ ∃ r, tail = 120 :: r)
  | [], _ => ⟨[], [], rfl, (fun _ h => nomatch h), .inl rfl⟩
  | c :: T, h => by
    rcases h c List.mem_cons_self with e | e | e
    · obtain ⟨l, tail, h1, h2, h3⟩ := split_x T fun x hx => h x (List.mem_cons_of_mem _ hx)
      exact ⟨c :: l, tail, by rw [h1]; rfl, fun x hx => by rcases List.mem_cons.mp hx with rfl | hx; exact .inl e; exact h2 x hx, h3⟩
    · obtain ⟨l, tail, h1, h2, h3⟩ := split_x T fun x hx => h x (List.mem_cons_of_mem _ hx)
      exact ⟨c :: l, tail, by rw [h1]; rfl, fun x hx => by rcases List.mem_cons.mp hx with rfl | hx; exact .inr e; exact h2 x hx, h3⟩
    · exact ⟨[], c :: T, rfl, (fun _ h => nomatch h), .inr ⟨T, by rw [e]⟩⟩

structure In03 (T : List Nat) (rs : List Nat) (last : Nat) (ρ : Loc) : Prop where
  h1 : ρ 1 = some (.py (.str (txt T)))
  h2 : ρ 2 = some (.ws (fieldsOf (txt T) (rowsSc rs last)))

theorem turn03 {T tail rs : List Nat} {last : Nat} {ρ : Loc} (hT : T = rowsText rs last ++ tail) (ht : tail = [] ∨ ∃ r, tail = 120 :: r) (hb : T.length + 10 ≤ lim) (hI : In03 T rs last ρ) (s : Nat) (hs : 1 ≤ s) :
    ∃ ρ₂, exs Cs03 b03_1 (upd ρ 4 (some (.py (.int s)))) = some (.next, ρ₂) ∧ In03 T rs last ρ₂ := by
  obtain ⟨h1, h2⟩ := hI
  have hlen : (rowsText rs last).length ≤ T.length := by rw [hT, List.length_append]; omega
  have hlen' := hlen
  rw [rows_len] at hlen'
  let ρa : Loc := upd (upd ρ 4 (some (.py (.int s)))) 5 (some (.py (.int ((0 : Nat) : Int))))
  obtain ⟨ρb, e, b5, bj⟩ := col_loop s hs (rowsText rs last) tail ρa 0 0 (rows_ok rs last) ht rfl rfl (by omega) (by omega)
  have hc : colF s (rowsText rs last) 0 = lvN rs last s := by
    have := colF_rows s hs last rs 0
    simpa using this
  rw [hc] at b5
  have s2 : ex Cs03 (.for1 6 (.var 1) b03_2) ρa = some (.next, ρb) := by
    refine ex_for_eq (d := .py (.str (txt T))) (xs := (rowsText rs last ++ tail).map chr) h1 ?_ (by rw [List.length_map, ← hT]; omega) e
    show some ((txt T).cps.toList.map fun c => PyData.str ⟨#[c]⟩) = _
    rw [txt_list, hT]
  have s3 : ev Cs03 (.cmp .ne (.meth 0 (.var 2) (ls [.var 4])) (.var 5)) ρb = some (.py (.bool false)) :=
    ne_no (x := lvN rs last s) (ev_meth1 (x := .ws (fieldsOf (txt T) (rowsSc rs last))) (y := .py (.int s)) ((bj 2 (by decide) (by decide)).trans h2) (bj 4 (by decide) (by decide)) (lvl_nat _ rs last s hs (by omega))) b5 rfl
  refine ⟨ρb, ?_, (bj 1 (by decide) (by decide)).trans h1, (bj 2 (by decide) (by decide)).trans h2⟩
  exact (exs_next (ex_set_eq (i := 5) (e := .int 0) (d := .py (.int 0)) rfl)).trans ((exs_next s2).trans ((exs_next ((ex_ite_f s3).trans rfl)).trans rfl))

theorem true03 (ns : List Int) (h : ns.length ≤ 63) : ∃ ρ', exs Cs03 st03 (fun i => if i = 0 then some (.py (.list (ns.map .int))) else none) = some (.ret (.py (.bool true)), ρ') := by
  have hl := lim_val
  let T := T03 (ns.take 20)
  have ht20 : (ns.take 20).length ≤ 20 := List.length_take_le _ _
  have hTl : T.length ≤ 100 := by
    have : ∀ l : List Int, (l.flatMap pc03).length ≤ 4 * l.length := by
      intro l; induction l with
      | nil => simp
      | cons x l ih => rw [List.flatMap_cons, List.length_append, List.length_cons]; have := (pc03_ok x).1; omega
    have := this (ns.take 20)
    simp only [T, T03, List.length_append, List.length_cons, List.length_nil]; omega
  have hTc : ∀ c ∈ T, c = 32 ∨ c = 9 ∨ c = 120 := by
    intro c hc
    rcases List.mem_append.mp hc with hc | hc
    · simp at hc; omega
    · obtain ⟨x, _, hx⟩ := List.mem_flatMap.mp hc
      exact (pc03_ok x).2 c hx
  obtain ⟨l, tail, e1, e2, e3⟩ := split_x T hTc
  obtain ⟨rs, last, rfl⟩ := rows_of l e2
  have hlen : (rowsText rs last).length + tail.length = T.length := by rw [e1, List.length_append]
  have hlen' := hlen
  rw [rows_len] at hlen'
  let ρ₀ : Loc := fun i => if i = 0 then some (.py (.list (ns.map .int))) else none
  have s1 : ev Cs03 (.call 0 (ls [.slHi (.var 0) (.int 20)])) ρ₀ = some (.py (.str (txt T))) :=
    ev_call1 (x := .py (.list (I (ns.take 20)))) (ev_slHi_eq (x := .list (I ns)) rfl rfl (slice_hi ns 20 (by omega))) (fn03 (ns.take 20) ht20)
  let ρ₁ : Loc := upd ρ₀ 1 (some (.py (.str (txt T))))
  have s2 : ev Cs03 (.call 1 (ls [.var 1])) ρ₁ = some (.ws (fieldsOf (txt T) (rowsSc rs last))) := by
    refine ev_call1 (x := .py (.str (txt T))) rfl ?_
    have := new_rows rs last tail e3 (by omega)
    rw [← e1] at this; exact this
  let ρ₂ : Loc := upd ρ₁ 2 (some (.ws (fieldsOf (txt T) (rowsSc rs last))))
  let sz : List Nat := [1, 2, 3, 4, 5, 8] ++ (ns.take 6).map fun x => 1 + x.natAbs
  have s3 : ev Cs03 (.bin .add (.list (ls [.int 1, .int 2, .int 3, .int 4, .int 5, .int 8])) (.comp 3 (.slHi (.var 0) (.int 6)) (.bin .add (.int 1) (.fn .abs (ls [.var 3]))))) ρ₂ = some (.py (.list (I (ni sz)))) := by
    have h6 : (ns.take 6).length ≤ 6 := List.length_take_le _ _
    have hc := compGo_ints (fun x => ev Cs03 (.bin .add (.int 1) (.fn .abs (ls [.var 3]))) (upd ρ₂ 3 (some x))) (fun i => 1 + (i.natAbs : Int)) (ns.take 6) (fun i _ => ev_bin_eq (x := .int 1) (y := .int (i.natAbs : Int)) rfl (ev_fn1 (x := .py (.int i)) rfl rfl) (add_ii _ _))
    refine ev_bin_eq (x := .list (I [1, 2, 3, 4, 5, 8])) (y := .list (I ((ns.take 6).map fun i => 1 + (i.natAbs : Int)))) rfl (ev_comp_eq (ev_slHi_eq (x := .list (I ns)) rfl rfl (slice_hi ns 6 (by omega))) rfl (by rw [I_len]; omega) (I_scalar _) hc) ?_
    rw [add_ll _ _ (by simp; omega)]
    simp [sz, ni, Function.comp_def]
  obtain ⟨ρ₃, e4, _⟩ := loop_mem (f := exs Cs03 b03_1) (g := bind1 4) (In03 T rs last) (I (ni sz)) ρ₂ ⟨rfl, rfl⟩ (fun y hy ρ hI => by
    simp only [I, ni, List.mem_map] at hy
    obtain ⟨a, ⟨s, hs, rfl⟩, rfl⟩ := hy
    have hs1 : 1 ≤ s := by
      simp only [sz, List.mem_append, List.mem_cons, List.not_mem_nil, or_false, List.mem_map] at hs
      rcases hs with hs | ⟨x, _, rfl⟩ <;> omega
    obtain ⟨ρ₂, e, hI'⟩ := turn03 e1 e3 (by omega) hI s hs1
    exact ⟨_, ρ₂, rfl, e, hI'⟩)
  have s4 := ex_for_eq (C := Cs03) (i := 4) s3 rfl (by rw [I_len, ni_len]; have : (ns.take 6).length ≤ 6 := List.length_take_le _ _; simp only [sz, List.length_append, List.length_map, List.length_cons, List.length_nil]; omega) e4
  refine ⟨ρ₃, ?_⟩
  refine (exs_next (ex_set_eq s1)).trans ?_
  refine (exs_next (ex_set_eq s2)).trans ?_
  refine (exs_next s4).trans ?_
  exact exs_ret (ex_ret_eq rfl)
end Mine
end
section
open PySem PySem.W PyProof.Rows
set_option maxRecDepth 100000
namespace Mine
open_top hd03 for PySem.Challenge.rw_dn0187_03
set_option maxHeartbeats 8000000 in
theorem holds03 : PySem.Challenge.rw_dn0187_03.Holds := by
  refine hd03 ?_
  w_on
  k_go0
  rename Top _ _ _ _ _ _ => hT
  rename Frag.In _ _ => hX
  rename Fr _ _ _ _ => hF
  rename IntsAre _ _ => hI
  rename Heap.IsList _ _ _ => hL
  have W0 := world0 hX hT (by k_is) (by k_is) (by k_is) (by k_is) (by k_is) (by k_is) (by k_is) (by k_is) (by k_is) (by k_is) (by k_is) (by k_is) (by k_is) (by k_is) (by k_is) (by k_is) (by k_is) (by k_is) (by k_is) (by k_is) (by k_is) (by k_is) (by k_is) (by k_is) (by k_is) (by k_is) (by k_is) (by k_is) (by k_is) (by k_is) (by k_is) (by k_is) (by k_is) (by k_is) (by k_is) (by k_is) (by k_is) (by k_is) (by k_is) (by k_is) (by k_is) (fnAt_of (by k_is) (by k_is) (two_vs fun a b => rfl) rfl rfl rfl) (by decide +kernel) (by repeat' (first | decide +kernel | exact rfl | apply IsSs.nil | apply IsSs.cons | apply IsS.set | apply IsS.setO | apply IsS.set3 | apply IsS.unpA | apply IsS.unp | apply IsS.put | apply IsS.setF | apply IsS.ite | apply IsS.for1 | apply IsS.ret | apply IsS.brk | apply IsT.cmp | apply Iss.nil | apply Iss.cons | apply Is.int | apply Is.str | apply Is.bool | apply Is.var | apply Is.own | apply Is.bin | apply Is.cmp | apply Is.list | apply Is.tup | apply Is.comp | apply Is.slHi | apply Is.idx | apply Is.attr | apply Is.fn | apply Is.call | apply Is.meth | apply Is.atom))
  have hf0 := fun prog w => fn_CallOk W0 (prog := prog) (w := w) (nm := nm03) (own := own03) (fns := fns03) (mts := mts03) (Cs := Cs03) (name := Str.ofString "_law_text") (n := 1) (st := st03text) (pn := nm03text) (po := own03text) (by decide +kernel) (mg_of hX hT.g (by k_is)) (by k_is) (fnAt_of (by k_is) (by k_is) (one_vs fun a => rfl) rfl rfl rfl) (by decide) (by decide +kernel) (by repeat' (first | decide +kernel | exact rfl | apply IsSs.nil | apply IsSs.cons | apply IsS.set | apply IsS.setO | apply IsS.set3 | apply IsS.unpA | apply IsS.unp | apply IsS.put | apply IsS.setF | apply IsS.ite | apply IsS.for1 | apply IsS.ret | apply IsS.brk | apply IsT.cmp | apply Iss.nil | apply Iss.cons | apply Is.int | apply Is.str | apply Is.bool | apply Is.var | apply Is.own | apply Is.bin | apply Is.cmp | apply Is.list | apply Is.tup | apply Is.comp | apply Is.slHi | apply Is.idx | apply Is.attr | apply Is.fn | apply Is.call | apply Is.meth | apply Is.atom)) (by decide +kernel)
  have hm0 := fun prog w => meth_MethOk W0 (prog := prog) (w := w) (nm := nm03) (own := own03) (fns := fns03) (mts := mts03) (Cs := Cs03) (name := Str.ofString "indent_level") (n := 1) (st := lvlSt) (pn := lvlT.nm) (po := []) (by decide +kernel) (by decide +kernel) (by k_is) (by k_is) (by k_is) (by k_is) (fnAt_of (by k_is) (by k_is) (two_vs fun a b => rfl) rfl rfl rfl) (by decide) (by decide +kernel) (by repeat' (first | decide +kernel | exact rfl | apply IsSs.nil | apply IsSs.cons | apply IsS.set | apply IsS.setO | apply IsS.set3 | apply IsS.unpA | apply IsS.unp | apply IsS.put | apply IsS.setF | apply IsS.ite | apply IsS.for1 | apply IsS.ret | apply IsS.brk | apply IsT.cmp | apply Iss.nil | apply Iss.cons | apply Is.int | apply Is.str | apply Is.bool | apply Is.var | apply Is.own | apply Is.bin | apply Is.cmp | apply Is.list | apply Is.tup | apply Is.comp | apply Is.slHi | apply Is.idx | apply Is.attr | apply Is.fn | apply Is.call | apply Is.meth | apply Is.atom)) (fun _ _ => rfl)
  have ok := fun prog w => law_ok W0 (prog := prog) (w := w) (nm := nm03) (own := own03) (fns := fns03) (mts := mts03) (Cs := Cs03) (by decide +kernel) (fun k x h => match k, h with | 0, h => by cases h; exact hf0 prog w | 1, h => by cases h; exact cls_CallOk W0 | k + 2, h => by cases h) (fun k x h => match k, h with | 0, h => by cases h; exact hm0 prog w | k + 1, h => by cases h)
  rewrite [wpR_eq]
  refine run_plain (ok _ _) hF hL hI rfl (by decide +kernel) (st := st03) (by repeat' (first | decide +kernel | exact rfl | apply IsSs.nil | apply IsSs.cons | apply IsS.set | apply IsS.setO | apply IsS.set3 | apply IsS.unpA | apply IsS.unp | apply IsS.put | apply IsS.setF | apply IsS.ite | apply IsS.for1 | apply IsS.ret | apply IsS.brk | apply IsT.cmp | apply Iss.nil | apply Iss.cons | apply Is.int | apply Is.str | apply Is.bool | apply Is.var | apply Is.own | apply Is.bin | apply Is.cmp | apply Is.list | apply Is.tup | apply Is.comp | apply Is.slHi | apply Is.idx | apply Is.attr | apply Is.fn | apply Is.call | apply Is.meth | apply Is.atom)) rfl rfl rfl rfl (law_aok _) ⟨_, _, rfl⟩ (true03 _ (by omega)) fun h tk m' F' => ?_
  exact goodW_bool F' (by assumption) (raisesW_false (by wrow_none_raised)) (by wrow_post)
end Mine

theorem PySem.Challenge.cw_dn0187_03_holds : PySem.Challenge.rw_dn0187_03.Holds :=
  Mine.holds03
end
