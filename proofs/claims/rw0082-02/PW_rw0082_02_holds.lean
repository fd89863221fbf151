import PyProof.Rows.All
import Wide.All
import OpenK.AllK
import Wide.FinOn
import Lean
import PySem.Challenge.RW_rw0082_02
set_option Elab.async false
set_option bootstrap.genMatcherCode false
set_option genSizeOf false
set_option genInjectivity false
set_option genCtorIdx false
set_option compiler.extract_closed false
section
/-! MiniPy: the language, pure data, the evaluator (no program in sight). -/
set_option genCtorIdx false
set_option genInjectivity false
namespace Mp
open PySem

inductive PV where
  | none
  | bool (b : Bool)
  | int (i : Int)
  | str (s : List Nat)
  | list (l : List PV)
  | tup (l : List PV)
  | inst (l : List PV)
noncomputable def PV.ctorIdx (x : PV) : Nat := @PV.casesOn (fun uu => Nat) x 0 (fun uu => 1) (fun uu => 2) (fun uu => 3) (fun uu => 4) (fun uu => 5) fun uu => 6

set_option genCtorIdx true in
inductive Op where | add | sub | mul | div | mod | pow
noncomputable def isAS : Op → Bool
  | .add => true
  | .sub => true
  | _ => false

set_option genCtorIdx true in
inductive Cm where | eq | ne | lt | le | gt | ge | is | isNot

mutual
inductive Tg where
  | v (i : Nat)
  | t (l : Tgs)
inductive Tgs where
  | nil
  | cons (a : Tg) (l : Tgs)
end

mutual
inductive E where
  | abs
  | cst (c : PV)
  | var (i : Nat)
  | glob (k : Nat)
  | bin (o : Op) (a b : E)
  | neg (a : E)
  | not (a : E)
  | cmp (o : Cm) (a b : E)
  | and (l : Es)
  | or (l : Es)
  | ite (t a b : E)
  | list (l : Es)
  | tup (l : Es)
  | comp (e : E) (t : Tg) (it : It) (c : E)
  | call (f : Nat) (l : Es)
  | meth (o : E) (m : Nat) (l : Es)
  | attr (o : E) (a : Nat)
  | sub (o i : E)
  | slice (o l u s : E)
  | lrange (a b c : E)
  | isBool (a : E)
inductive Es where
  | nil
  | cons (e : E) (l : Es)
inductive It where
  | e (x : E)
  | range1 (b : E)
  | range2 (a b : E)
  | range3 (a b c : E)
  | zip (a b : E)
end

set_option genCtorIdx true in
/-- how the right side of a store is held: frozen, a plain value, a fresh list -/
inductive Md where | frz | sc | new | itm


mutual
inductive S where
  | asg (m : Md) (t : Tg) (e : E)
  | asg2 (x y : Nat) (e : E)
  | asg3 (x y z : Nat) (e : E)
  | aug (x : Nat) (o : Op) (e : E)
  | setI (m : Md) (x : Nat) (i e : E)
  | augI (x : Nat) (i : E) (o : Op) (e : E)
  | app (m : Md) (x : Nat) (e : E)
  | ext (x : Nat) (e : E)
  | pop (x : Nat)
  | popTo (y x : Nat)
  | setA (x a : Nat) (e : E)
  | ite (t : E) (a b : Ss)
  | whl (t : E) (b : Ss)
  | for (t : Tg) (it : It) (b : Ss)
  | ret (e : E)
  | brk
  | frz (x : Nat)
inductive Ss where
  | nil
  | cons (s : S) (l : Ss)
end

/-! pure data -/
mutual
noncomputable def eqv : PV → PV → Bool
  | .none, .none => true
  | .bool a, .bool b => a == b
  | .bool a, .int j => (if a then 1 else 0) == j
  | .int i, .bool b => i == (if b then 1 else 0)
  | .int i, .int j => i == j
  | .str x, .str y => x == y
  | .list xs, .list ys => eqvs xs ys
  | .tup xs, .tup ys => eqvs xs ys
  | _, _ => false
noncomputable def eqvs : List PV → List PV → Bool
  | [], [] => true
  | x :: xs, y :: ys => eqv x y && eqvs xs ys
  | _, _ => false
end

noncomputable abbrev lim : Nat := 100000

/-- data that == may look at: no instance, strs not too long, depth at most n -/
noncomputable def okEq : Nat → PV → Bool
  | _, .inst _ => false
  | _, .str s => s.all fun c => decide (c < 1114112)
  | 0, .list _ => false
  | 0, .tup _ => false
  | n + 1, .list l => l.all (okEq n)
  | n + 1, .tup l => l.all (okEq n)
  | _, _ => true

noncomputable def rep {α : Type} (l : List α) (n : Nat) : List α := (List.replicate n l).flatten

noncomputable def smallI (i : Int) : Bool := decide (-(2 ^ 60) < i) && decide (i < 2 ^ 60)

noncomputable def binop : Op → PV → PV → Option PV
  | .add, .int a, .int b => some (.int (a + b))
  | .sub, .int a, .int b => some (.int (a - b))
  | .mul, .int a, .int b => if smallI a && smallI b then some (.int (a * b)) else none
  | .div, .int a, .int b => if decide (b = 0) || decide (1073741824 ≤ b.natAbs) then none else some (.int (a.fdiv b))
  | .mod, .int a, .int b => if b = 0 then none else some (.int (a.fmod b))
  | .pow, .int a, .int b => if decide (0 ≤ b) && decide (b ≤ 1000) && smallI a then some (.int (a ^ b.toNat)) else none
  | .add, .str a, .str b => if a.length + b.length ≤ lim then some (.str (a ++ b)) else none
  | .add, .list a, .list b => if a.length + b.length ≤ lim then some (.list (a ++ b)) else none
  | .mul, .str a, .int n => if smallI n && decide (a.length * n.toNat ≤ lim) then some (.str (rep a n.toNat)) else none
  | .mul, .list a, .int n => if smallI n && decide (a.length * n.toNat ≤ lim) then some (.list (rep a n.toNat)) else none
  | _, _, _ => none

noncomputable def cmpop : Cm → PV → PV → Option Bool
  | .eq, a, b => if okEq 20 a && okEq 20 b then some (eqv a b) else none
  | .ne, a, b => if okEq 20 a && okEq 20 b then some (!eqv a b) else none
  | .lt, .int a, .int b => some (decide (a < b))
  | .le, .int a, .int b => some (decide (a ≤ b))
  | .gt, .int a, .int b => some (decide (b < a))
  | .ge, .int a, .int b => some (decide (b ≤ a))
  | .is, .bool a, .bool b => some (a == b)
  | .isNot, .bool a, .bool b => some (a != b)
  | _, _, _ => none

noncomputable def truthy : PV → Option Bool
  | .none => some false
  | .bool b => some b
  | .int i => some (i != 0)
  | .str s => if s.length ≤ lim then some (!s.isEmpty) else none
  | .list l => if l.length ≤ lim then some (!l.isEmpty) else none
  | _ => none

/-- a place counted from the end when it lies below nought -/
noncomputable def pidx (i : Int) (n : Nat) : Nat := if i < 0 then (i + n).toNat else i.toNat
noncomputable def inIdx (i : Int) (n : Nat) : Bool := decide (-(n : Int) ≤ i) && decide (i < n) && decide (n ≤ lim)

noncomputable def subscr : PV → PV → Option PV
  | .list l, .int i => if inIdx i l.length then l[pidx i l.length]? else none
  | .tup l, .int i => if inIdx i l.length then l[pidx i l.length]? else none
  | .str l, .int i => if inIdx i l.length then (l[pidx i l.length]?).map fun c => .str [c] else none
  | _, _ => none

noncomputable def pick {α : Type} (l : List α) (lo hi st : Option Int) : List α :=
  (sliceRange (sliceBounds lo hi st l.length).1 (sliceBounds lo hi st l.length).2.1 (sliceBounds lo hi st l.length).2.2).filterMap (l[·]?)

noncomputable def part : PV → Option (Option Int)
  | .none => some none
  | .int i => if smallI i then some (some i) else none
  | _ => none

noncomputable def sliceP (o : PV) (l u s : Option Int) : Option PV := if s = some 0 then none else match o with
  | .list x => if x.length ≤ lim then some (.list (pick x l u s)) else none
  | .str x => if x.length ≤ lim && s.isNone then some (.str (pick x l u s)) else none
  | _ => none
noncomputable def slice (o l u s : PV) : Option PV := (part l).bind fun l => (part u).bind fun u => (part s).bind fun s => sliceP o l u s

/-- range(a, b, c) as its ints -/
noncomputable def rangeN (a b c : Int) : Nat := if 0 < c then (if a < b then ((b - a - 1) / c + 1).toNat else 0) else if b < a then ((a - b - 1) / (-c) + 1).toNat else 0
noncomputable def rangeL (a c : Int) (n : Nat) : List PV := (List.range n).map fun (i : Nat) => PV.int (a + (i : Int) * c)
noncomputable def range3 (a b c : Int) : Option (List PV) :=
  if smallI a && smallI b && decide (-1073741824 < c) && decide (c < 1073741824) && decide (c ≠ 0) && decide (rangeN a b c ≤ lim) then some (rangeL a c (rangeN a b c)) else none

noncomputable def asInt : PV → Option Int
  | .int i => some i
  | _ => none
noncomputable def asInts (l : List PV) : Option (List Int) := l.mapM asInt
noncomputable def asBool : PV → Option Bool
  | .bool b => some b
  | _ => none

noncomputable abbrev Rho := List (Option PV)

mutual
/-- bind a target: the names it stores, each by f -/
noncomputable def bindG {α : Type} (f : α → Nat → PV → Option α) (σ : α) : Tg → PV → Option α
  | .v i, x => f σ i x
  | .t l, .tup xs => bindGs f σ l xs
  | .t l, .list xs => bindGs f σ l xs
  | .t _, _ => none
noncomputable def bindGs {α : Type} (f : α → Nat → PV → Option α) (σ : α) : Tgs → List PV → Option α
  | .nil, [] => some σ
  | .cons a l, x :: xs => (bindG f σ a x).bind fun σ' => bindGs f σ' l xs
  | _, _ => none
end
mutual
noncomputable def blank : Tg → Rho → Rho
  | .v i, ρ => ρ.set i none
  | .t l, ρ => blanks l ρ
noncomputable def blanks : Tgs → Rho → Rho
  | .nil, ρ => ρ
  | .cons a l, ρ => blanks l (blank a ρ)
end
noncomputable def bindR (ρ : Rho) (i : Nat) (x : PV) : Option Rho := if i < ρ.length then some (ρ.set i (some x)) else none
noncomputable def bindT (ρ : Rho) (t : Tg) (x : PV) : Option Rho := bindG bindR (blank t ρ) t x

structure Tabs where
  glob : Nat → Option PV
  call : Nat → List PV → Option PV
  meth : Nat → PV → List PV → Option PV
  attr : Nat → PV → Option PV

noncomputable def zipT : List PV → List PV → List PV
  | a :: as, b :: bs => .tup [a, b] :: zipT as bs
  | _, _ => []

noncomputable def itemsOf : PV → Option (List PV)
  | .list l => if l.length ≤ lim then some l else none
  | .tup l => if l.length ≤ lim then some l else none
  | .str s => if s.length ≤ lim then some (s.map fun c => .str [c]) else none
  | _ => none
noncomputable def listOf : PV → Option (List PV)
  | .list l => if l.length ≤ lim then some l else none
  | _ => none

/-- the filtered and mapped items of a comprehension -/
noncomputable def compL (f : PV → Option (Option PV)) : List PV → Option (List PV)
  | [] => some []
  | x :: xs => (f x).bind fun y => (compL f xs).map fun ys => match y with | some y => y :: ys | none => ys

mutual
noncomputable def evalE (T : Tabs) (ρ : Rho) : E → Option PV
  | .abs => some .none
  | .cst c => some c
  | .var i => (ρ[i]?).join
  | .glob k => T.glob k
  | .bin o a b => (evalE T ρ a).bind fun x => (evalE T ρ b).bind fun y => binop o x y
  | .neg a => (evalE T ρ a).bind fun x => match x with | .int i => some (.int (-i)) | _ => none
  | .not a => (evalE T ρ a).bind fun x => (truthy x).map fun b => .bool (!b)
  | .cmp o a b => (evalE T ρ a).bind fun x => (evalE T ρ b).bind fun y => (cmpop o x y).map .bool
  | .and l => evalAnd T ρ l
  | .or l => evalOr T ρ l
  | .ite t a b => (evalE T ρ t).bind fun x => (truthy x).bind fun c => if c then evalE T ρ a else evalE T ρ b
  | .list l => (evalEs T ρ l).map .list
  | .tup l => (evalEs T ρ l).map .tup
  | .comp e t it c => (evalIt T ρ it).bind fun xs => (compL (fun x => (bindT ρ t x).bind fun ρ' => (evalE T ρ' c).bind fun y => (truthy y).bind fun b =>
      if b then (evalE T ρ' e).map some else some none) xs).map .list
  | .call f l => (evalEs T ρ l).bind fun xs => T.call f xs
  | .meth o m l => (evalE T ρ o).bind fun x => (evalEs T ρ l).bind fun xs => T.meth m x xs
  | .attr o a => (evalE T ρ o).bind fun x => T.attr a x
  | .sub o i => (evalE T ρ o).bind fun x => (evalE T ρ i).bind fun y => subscr x y
  | .slice o l u s => (evalE T ρ o).bind fun x => (evalE T ρ l).bind fun a => (evalE T ρ u).bind fun b => (evalE T ρ s).bind fun c => slice x a b c
  | .lrange a b c => (evalE T ρ a).bind fun x => (evalE T ρ b).bind fun y => (evalE T ρ c).bind fun z =>
      match x, y, z with
      | .int i, .int j, .int k => (range3 i j k).map .list
      | _, _, _ => none
  | .isBool a => (evalE T ρ a).bind fun x => match x with | .bool _ => some (.bool true) | .int _ => some (.bool false) | _ => none
noncomputable def evalEs (T : Tabs) (ρ : Rho) : Es → Option (List PV)
  | .nil => some []
  | .cons e l => (evalE T ρ e).bind fun x => (evalEs T ρ l).map fun xs => x :: xs
noncomputable def evalAnd (T : Tabs) (ρ : Rho) : Es → Option PV
  | .nil => none
  | .cons e .nil => evalE T ρ e
  | .cons e l => (evalE T ρ e).bind fun x => (truthy x).bind fun b => if b then evalAnd T ρ l else some x
noncomputable def evalOr (T : Tabs) (ρ : Rho) : Es → Option PV
  | .nil => none
  | .cons e .nil => evalE T ρ e
  | .cons e l => (evalE T ρ e).bind fun x => (truthy x).bind fun b => if b then some x else evalOr T ρ l
noncomputable def evalIt (T : Tabs) (ρ : Rho) : It → Option (List PV)
  | .e x => (evalE T ρ x).bind itemsOf
  | .range1 b => (evalE T ρ b).bind fun y => match y with | .int j => range3 0 j 1 | _ => none
  | .range2 a b => (evalE T ρ a).bind fun x => (evalE T ρ b).bind fun y => match x, y with | .int i, .int j => range3 i j 1 | _, _ => none
  | .range3 a b c => (evalE T ρ a).bind fun x => (evalE T ρ b).bind fun y => (evalE T ρ c).bind fun z =>
      match x, y, z with | .int i, .int j, .int k => range3 i j k | _, _, _ => none
  | .zip a b => (evalE T ρ a).bind fun x => (evalE T ρ b).bind fun y => (listOf x).bind fun xs => (listOf y).map fun ys => zipT xs ys
end

/-! statements -/
inductive Sl where
  | frz (x : PV)
  | own (l : List PV)
  | self (l : List PV)
noncomputable def Sl.ctorIdx (x : Sl) : Nat := @Sl.casesOn (fun uu => Nat) x (fun uu => 0) (fun uu => 1) fun uu => 2
noncomputable abbrev Sig := List (Option Sl)

inductive Fl where
  | next | brk | ret (x : PV)
noncomputable def Fl.ctorIdx (x : Fl) : Nat := @Fl.casesOn (fun uu => Nat) x 0 1 fun uu => 2

noncomputable def Sl.frozen : Option Sl → Option PV
  | some (.frz x) => some x
  | _ => none
noncomputable def Sl.all : Option Sl → Option PV
  | some (.frz x) => some x
  | some (.own l) => some (.list l)
  | some (.self l) => some (.inst l)
  | none => none
noncomputable def frzEnv (σ : Sig) : Rho := σ.map Sl.frozen
noncomputable def allEnv (σ : Sig) : Rho := σ.map Sl.all

noncomputable def scalar : PV → Bool
  | .none | .bool _ | .int _ | .str _ => true
  | _ => false

noncomputable def bindV (σ : Sig) (i : Nat) (x : PV) : Option Sig := if i < σ.length then some (σ.set i (some (.frz x))) else none
noncomputable def bindS (σ : Sig) (t : Tg) (x : PV) : Option Sig := bindG bindV σ t x

/-- makes its own new list -/
noncomputable def fresh : E → Bool
  | .list _ => true
  | .comp _ _ _ _ => true
  | .lrange _ _ _ => true
  | .bin _ _ _ => true
  | .slice _ _ _ _ => true
  | _ => false

noncomputable def getOwn (σ : Sig) (x : Nat) : Option (List PV) := match σ[x]? with
  | some (some (.own l)) => some l
  | _ => none

/-- the value of a right side by its mode -/
noncomputable def evalM (T : Tabs) (σ : Sig) : Md → E → Option PV
  | .frz, e => evalE T (frzEnv σ) e
  | .sc, e => (evalE T (allEnv σ) e).bind fun x => if scalar x then some x else none
  | .itm, .sub (.var x) i => (getOwn σ x).bind fun l => (evalE T (allEnv σ) i).bind fun j => subscr (.list l) j
  | _, _ => none

/-- what a for goes over: frozen data, a str, a range -/
noncomputable def evalFor (T : Tabs) (σ : Sig) : It → Option (List PV)
  | .e x => match evalE T (frzEnv σ) x with
    | some v => itemsOf v
    | none => (evalE T (allEnv σ) x).bind fun v => match v with | .str s => itemsOf (.str s) | _ => none
  | .zip a b => evalIt T (frzEnv σ) (.zip a b)
  | it => evalIt T (allEnv σ) it

noncomputable def setAt (l : List PV) (i : Int) (x : PV) : Option (List PV) := if inIdx i l.length then some (l.set (pidx i l.length) x) else none

noncomputable def forL (f : Sig → PV → Option (Sig × Fl)) : List PV → Sig → Option (Sig × Fl)
  | [], σ => some (σ, .next)
  | x :: xs, σ => (f σ x).bind fun r => match r with
    | (σ', .next) => forL f xs σ'
    | (σ', .brk) => some (σ', .next)
    | (σ', .ret v) => some (σ', .ret v)

noncomputable def whlL (t : Sig → Option Bool) (f : Sig → Option (Sig × Fl)) : Nat → Sig → Option (Sig × Fl)
  | 0, _ => none
  | n + 1, σ => (t σ).bind fun b => if b then (f σ).bind fun r => match r with
      | (σ', .next) => whlL t f n σ'
      | (σ', .brk) => some (σ', .next)
      | (σ', .ret v) => some (σ', .ret v)
    else some (σ, .next)

mutual
noncomputable def execS (T : Tabs) (fuel : Nat) (σ : Sig) : S → Option (Sig × Fl)
  | .asg .new (.v x) e => if fresh e then (evalE T (allEnv σ) e).bind fun v => match v with
      | .list l => if l.all scalar && decide (x < σ.length) && decide (l.length ≤ lim) then some (σ.set x (some (.own l)), .next) else none
      | _ => none
    else none
  | .asg m t e => (evalM T σ m e).bind fun v => (bindS σ t v).map fun σ' => (σ', .next)
  | .asg2 x y e => (evalM T σ .sc e).bind fun v => if x < σ.length && y < σ.length then some ((σ.set x (some (.frz v))).set y (some (.frz v)), .next) else none
  | .asg3 x y z e => (evalM T σ .sc e).bind fun v => if x < σ.length && y < σ.length && z < σ.length then some (((σ.set x (some (.frz v))).set y (some (.frz v))).set z (some (.frz v)), .next) else none
  | .aug x o e => ((allEnv σ)[x]?.join).bind fun a => (evalE T (allEnv σ) e).bind fun b => (binop o a b).bind fun v => if scalar a && scalar v then some (σ.set x (some (.frz v)), .next) else none
  | .setI m x i e => (evalM T σ m e).bind fun v => (getOwn σ x).bind fun l => (evalE T (allEnv σ) i).bind fun j => match j with
      | .int j => (setAt l j v).map fun l' => (σ.set x (some (.own l')), .next)
      | _ => none
  | .augI x i o e => (getOwn σ x).bind fun l => (evalE T (allEnv σ) i).bind fun j => (subscr (.list l) j).bind fun a => (evalE T (allEnv σ) e).bind fun b => (binop o a b).bind fun v =>
      if scalar v then match j with
        | .int j => (setAt l j v).map fun l' => (σ.set x (some (.own l')), .next)
        | _ => none
      else none
  | .app m x e => (getOwn σ x).bind fun l => (evalM T σ m e).bind fun v => if l.length < lim then some (σ.set x (some (.own (l ++ [v]))), .next) else none
  | .ext x e => (getOwn σ x).bind fun l => if fresh e then (evalE T (allEnv σ) e).bind fun v => match v with
      | .list r => if r.all scalar && decide (l.length + r.length ≤ lim) then some (σ.set x (some (.own (l ++ r))), .next) else none
      | _ => none
    else none
  | .pop x => (getOwn σ x).bind fun l => match l.getLast? with
      | some v => if scalar v && decide (l.length ≤ lim) then some (σ.set x (some (.own l.dropLast)), .next) else none
      | none => none
  | .popTo y x => (getOwn σ x).bind fun l => match l.getLast? with
      | some v => if decide (l.length ≤ lim) && decide (y < σ.length) && decide (x ≠ y) then some ((σ.set x (some (.own l.dropLast))).set y (some (.frz v)), .next) else none
      | none => none
  | .setA x a e => match σ[x]? with
      | some (some (.self fs)) => (evalM T σ .frz e).bind fun v => if a = fs.length then some (σ.set x (some (.self (fs ++ [v]))), .next) else none
      | _ => none
  | .ite t a b => (evalE T (allEnv σ) t).bind fun x => (truthy x).bind fun c => if c then execSs T fuel σ a else execSs T fuel σ b
  | .whl t b => whlL (fun σ => (evalE T (allEnv σ) t).bind truthy) (fun σ => execSs T fuel σ b) fuel σ
  | .for t it b => (evalFor T σ it).bind fun xs => forL (fun σ x => (bindS σ t x).bind fun σ' => execSs T fuel σ' b) xs σ
  | .ret e => (evalE T (allEnv σ) e).map fun v => (σ, .ret v)
  | .brk => some (σ, .brk)
  | .frz x => (getOwn σ x).map fun l => (σ.set x (some (.frz (.list l))), .next)
noncomputable def execSs (T : Tabs) (fuel : Nat) (σ : Sig) : Ss → Option (Sig × Fl)
  | .nil => some (σ, .next)
  | .cons s l => (execS T fuel σ s).bind fun r => match r with
      | (σ', .next) => execSs T fuel σ' l
      | r => some r
end

/-- a def called: parameters first, then the other names unbound -/
noncomputable def callF (T : Tabs) (fuel : Nat) (n : Nat) (body : Ss) (args : List PV) : Option PV :=
  (execSs T fuel (args.map (fun x => some (Sl.frz x)) ++ List.replicate (n - args.length) none) body).bind fun r => match r with
    | (_, .ret v) => some v
    | (_, .next) => some .none
    | _ => none

/-! the evaluator's equations, by their own names -/
section
variable {T : Tabs} {ρ : Rho}
theorem vBin {o : Op} {a b : E} : evalE T ρ (.bin o a b) = (evalE T ρ a).bind fun x => (evalE T ρ b).bind fun y => binop o x y := rfl
theorem vCmp {o : Cm} {a b : E} : evalE T ρ (.cmp o a b) = (evalE T ρ a).bind fun x => (evalE T ρ b).bind fun y => (cmpop o x y).map .bool := rfl
theorem vNot {a : E} : evalE T ρ (.not a) = (evalE T ρ a).bind fun x => (truthy x).map fun b => .bool (!b) := rfl
theorem vIte {t a b : E} : evalE T ρ (.ite t a b) = (evalE T ρ t).bind fun x => (truthy x).bind fun c => if c then evalE T ρ a else evalE T ρ b := rfl
theorem vList {l : Es} : evalE T ρ (.list l) = (evalEs T ρ l).map .list := rfl
theorem vTup {l : Es} : evalE T ρ (.tup l) = (evalEs T ρ l).map .tup := rfl
theorem vComp {e c : E} {t : Tg} {it : It} : evalE T ρ (.comp e t it c) = (evalIt T ρ it).bind fun xs => (compL (fun x => (bindT ρ t x).bind fun ρ' => (evalE T ρ' c).bind fun y => (truthy y).bind fun b =>
      if b then (evalE T ρ' e).map some else some none) xs).map .list := rfl
theorem vCst {c : PV} : evalE T ρ (.cst c) = some c := rfl
theorem vCall {f : Nat} {l : Es} : evalE T ρ (.call f l) = (evalEs T ρ l).bind fun xs => T.call f xs := rfl
theorem vMeth {o : E} {m : Nat} {l : Es} : evalE T ρ (.meth o m l) = (evalE T ρ o).bind fun x => (evalEs T ρ l).bind fun xs => T.meth m x xs := rfl
theorem vAttr {o : E} {a : Nat} : evalE T ρ (.attr o a) = (evalE T ρ o).bind fun x => T.attr a x := rfl
theorem vSub {o i : E} : evalE T ρ (.sub o i) = (evalE T ρ o).bind fun x => (evalE T ρ i).bind fun y => subscr x y := rfl
theorem vSlice {o l u s : E} : evalE T ρ (.slice o l u s) = (evalE T ρ o).bind fun x => (evalE T ρ l).bind fun a => (evalE T ρ u).bind fun b => (evalE T ρ s).bind fun c => slice x a b c := rfl
theorem wNil : evalEs T ρ .nil = some [] := rfl
theorem wCons {e : E} {l : Es} : evalEs T ρ (.cons e l) = (evalE T ρ e).bind fun x => (evalEs T ρ l).map fun xs => x :: xs := rfl
theorem wOne {e : E} {x : PV} (h : evalE T ρ e = some x) : evalEs T ρ (.cons e .nil) = some [x] := by rw [wCons, h]; rfl
theorem wTwo {e e' : E} {x x' : PV} (h : evalE T ρ e = some x) (h' : evalE T ρ e' = some x') : evalEs T ρ (.cons e (.cons e' .nil)) = some [x, x'] := by rw [wCons, h, wOne h']; rfl
theorem wThree {e e' e'' : E} {x x' x'' : PV} (h : evalE T ρ e = some x) (h' : evalE T ρ e' = some x') (h'' : evalE T ρ e'' = some x'') : evalEs T ρ (.cons e (.cons e' (.cons e'' .nil))) = some [x, x', x''] := by rw [wCons, h, wTwo h' h'']; rfl
theorem aTwo {e e' : E} {l : Es} : evalAnd T ρ (.cons e (.cons e' l)) = (evalE T ρ e).bind fun x => (truthy x).bind fun b => if b then evalAnd T ρ (.cons e' l) else some x := rfl
theorem oTwo {e e' : E} {l : Es} : evalOr T ρ (.cons e (.cons e' l)) = (evalE T ρ e).bind fun x => (truthy x).bind fun b => if b then some x else evalOr T ρ (.cons e' l) := rfl
theorem iE {x : E} : evalIt T ρ (.e x) = (evalE T ρ x).bind itemsOf := rfl
theorem iZip {a b : E} : evalIt T ρ (.zip a b) = (evalE T ρ a).bind fun x => (evalE T ρ b).bind fun y => (listOf x).bind fun xs => (listOf y).map fun ys => zipT xs ys := rfl
end

theorem forFrz {T : Tabs} {σ : Sig} {x : E} {v : PV} (h : evalE T (frzEnv σ) x = some v) : evalFor T σ (.e x) = itemsOf v := by
  show (match evalE T (frzEnv σ) x with
    | some v => itemsOf v
    | none => (evalE T (allEnv σ) x).bind fun v => match v with | .str s => itemsOf (.str s) | _ => none) = _
  rw [h]
theorem fNil {f : Sig → PV → Option (Sig × Fl)} {σ : Sig} : forL f [] σ = some (σ, .next) := rfl
theorem fCons {f : Sig → PV → Option (Sig × Fl)} {x : PV} {xs : List PV} {σ : Sig} : forL f (x :: xs) σ = (f σ x).bind fun r => match r with
    | (σ', .next) => forL f xs σ'
    | (σ', .brk) => some (σ', .next)
    | (σ', .ret v) => some (σ', .ret v) := rfl
theorem cCons {f : PV → Option (Option PV)} {x : PV} {xs : List PV} : compL f (x :: xs) = (f x).bind fun y => (compL f xs).map fun ys => match y with | some y => y :: ys | none => ys := by
  show (f x).bind _ = _
  cases f x with
  | none => rfl
  | some y => cases y <;> rfl
theorem okEq_str : ∀ (n : Nat) (s : List Nat), okEq n (.str s) = s.all fun c => decide (c < 1114112)
  | 0, _ => rfl
  | _ + 1, _ => rfl
theorem zCons {a b : PV} {as bs : List PV} : zipT (a :: as) (b :: bs) = .tup [a, b] :: zipT as bs := rfl
theorem whlT {t : Sig → Option Bool} {f : Sig → Option (Sig × Fl)} {n : Nat} {σ σ' : Sig} (ht : t σ = some true) (hf : f σ = some (σ', .next)) : whlL t f (n + 1) σ = whlL t f n σ' := by
  show (t σ).bind _ = _
  rw [ht]
  show (f σ).bind _ = _
  rw [hf]; rfl
theorem whlF {t : Sig → Option Bool} {f : Sig → Option (Sig × Fl)} {n : Nat} {σ : Sig} (ht : t σ = some false) : whlL t f (n + 1) σ = some (σ, .next) := by
  show (t σ).bind _ = _
  rw [ht]; rfl
theorem forZip {T : Tabs} {σ : Sig} {a b : E} : evalFor T σ (.zip a b) = evalIt T (frzEnv σ) (.zip a b) := rfl
/-! from a yes, and from an answer, on -/
theorem noB {G : Prop} (h : false = true) : G := Bool.noConfusion h
theorem noS {α : Type} {x : α} {G : Prop} (h : none = some x) : G := by cases h
theorem andB {a b : Bool} {G : Prop} (h : (a && b) = true) (k : a = true → b = true → G) : G := by
  cases a with
  | false => exact noB h
  | true => exact k rfl h
theorem eqB {α : Type} [BEq α] [LawfulBEq α] {a b : α} (h : (a == b) = true) : a = b := beq_iff_eq.mp h
theorem bindK {α β : Type} {o : Option α} {f : α → Option β} {x : β} {G : Prop} (h : o.bind f = some x) (k : ∀ y, o = some y → f y = some x → G) : G := by
  cases o with
  | none => exact noS h
  | some y => exact k y rfl h
@[elab_as_elim] theorem mapK {α β : Type} {o : Option α} {f : α → β} {x : β} {P : β → Prop} (h : o.map f = some x) (k : ∀ y, o = some y → P (f y)) : P x := by
  cases o with
  | none => exact noS h
  | some y => exact Option.some.inj h ▸ k y rfl
theorem ifK {α : Type} {c : Prop} [Decidable c] {x r : α} {G : α → Prop} (h : (if c then some x else none) = some r) (k : c → G x) : G r := by
  by_cases q : c
  · rw [if_pos q] at h; exact Option.some.inj h ▸ k q
  · rw [if_neg q] at h; exact noS h
theorem ifN {α : Type} {c : Prop} [Decidable c] {x r : α} {G : α → Prop} (h : (if c then none else some x) = some r) (k : ¬ c → G x) : G r := by
  by_cases q : c
  · rw [if_pos q] at h; exact noS h
  · rw [if_neg q] at h; exact Option.some.inj h ▸ k q
theorem sK {α : Type} {x r : α} {G : α → Prop} (h : some x = some r) (k : G x) : G r := Option.some.inj h ▸ k
theorem binop_inv {o : Op} {x y z : PV} {P : Op → PV → PV → PV → Prop} (h : binop o x y = some z) (c0 : ∀ a b, P .add (.int a) (.int b) (.int (a + b))) (c1 : ∀ a b, P .sub (.int a) (.int b) (.int (a - b)))
    (c2 : ∀ a b, (smallI a && smallI b) = true → P .mul (.int a) (.int b) (.int (a * b))) (c3 : ∀ a b, ¬ (decide (b = 0) || decide (1073741824 ≤ b.natAbs)) = true → P .div (.int a) (.int b) (.int (a.fdiv b)))
    (c4 : ∀ a b : Int, ¬ b = 0 → P .mod (.int a) (.int b) (.int (a.fmod b))) (c5 : ∀ a b, (decide (0 ≤ b) && decide (b ≤ 1000) && smallI a) = true → P .pow (.int a) (.int b) (.int (a ^ b.toNat)))
    (c6 : ∀ a b : List Nat, a.length + b.length ≤ lim → P .add (.str a) (.str b) (.str (a ++ b))) (c7 : ∀ a b : List PV, a.length + b.length ≤ lim → P .add (.list a) (.list b) (.list (a ++ b)))
    (c8 : ∀ (a : List Nat) (n : Int), (smallI n && decide (a.length * n.toNat ≤ lim)) = true → P .mul (.str a) (.int n) (.str (rep a n.toNat)))
    (c9 : ∀ (a : List PV) (n : Int), (smallI n && decide (a.length * n.toNat ≤ lim)) = true → P .mul (.list a) (.int n) (.list (rep a n.toNat))) : P o x y z := by
  cases x with
  | int a => cases y with
    | int b => cases o with
      | add => exact sK (G := P .add (.int a) (.int b)) h (c0 a b)
      | sub => exact sK (G := P .sub (.int a) (.int b)) h (c1 a b)
      | mul => exact ifK (G := P .mul (.int a) (.int b)) h (c2 a b)
      | div => exact ifN (G := P .div (.int a) (.int b)) h (c3 a b)
      | mod => exact ifN (G := P .mod (.int a) (.int b)) h (c4 a b)
      | pow => exact ifK (G := P .pow (.int a) (.int b)) h (c5 a b)
    | _ => cases o <;> exact noS h
  | str a => cases y with
    | str b => cases o with
      | add => exact ifK (G := P .add (.str a) (.str b)) h (c6 a b)
      | _ => exact noS h
    | int n => cases o with
      | mul => exact ifK (G := P .mul (.str a) (.int n)) h (c8 a n)
      | _ => exact noS h
    | _ => cases o <;> exact noS h
  | list a => cases y with
    | list b => cases o with
      | add => exact ifK (G := P .add (.list a) (.list b)) h (c7 a b)
      | _ => exact noS h
    | int n => cases o with
      | mul => exact ifK (G := P .mul (.list a) (.int n)) h (c9 a n)
      | _ => exact noS h
    | _ => cases o <;> exact noS h
  | _ => cases o <;> exact noS h
theorem cmpop_inv {o : Cm} {x y : PV} {b : Bool} {P : Cm → PV → PV → Bool → Prop} (h : cmpop o x y = some b) (c0 : ∀ x y, (okEq 20 x && okEq 20 y) = true → P .eq x y (eqv x y)) (c1 : ∀ x y, (okEq 20 x && okEq 20 y) = true → P .ne x y (!eqv x y))
    (c2 : ∀ a b, P .lt (.int a) (.int b) (decide (a < b))) (c3 : ∀ a b, P .le (.int a) (.int b) (decide (a ≤ b))) (c4 : ∀ a b, P .gt (.int a) (.int b) (decide (b < a))) (c5 : ∀ a b, P .ge (.int a) (.int b) (decide (b ≤ a)))
    (c6 : ∀ a b, P .is (.bool a) (.bool b) (a == b)) (c7 : ∀ a b, P .isNot (.bool a) (.bool b) (a != b)) : P o x y b := by
  cases o with
  | eq => exact ifK (G := P .eq x y) h (c0 x y)
  | ne => exact ifK (G := P .ne x y) h (c1 x y)
  | lt => cases x with
    | int a => cases y with
      | int b => exact sK (G := P .lt (.int a) (.int b)) h (c2 a b)
      | _ => exact noS h
    | _ => exact noS h
  | le => cases x with
    | int a => cases y with
      | int b => exact sK (G := P .le (.int a) (.int b)) h (c3 a b)
      | _ => exact noS h
    | _ => exact noS h
  | gt => cases x with
    | int a => cases y with
      | int b => exact sK (G := P .gt (.int a) (.int b)) h (c4 a b)
      | _ => exact noS h
    | _ => exact noS h
  | ge => cases x with
    | int a => cases y with
      | int b => exact sK (G := P .ge (.int a) (.int b)) h (c5 a b)
      | _ => exact noS h
    | _ => exact noS h
  | «is» => cases x with
    | bool a => cases y with
      | bool b => exact sK (G := P .is (.bool a) (.bool b)) h (c6 a b)
      | _ => exact noS h
    | _ => exact noS h
  | isNot => cases x with
    | bool a => cases y with
      | bool b => exact sK (G := P .isNot (.bool a) (.bool b)) h (c7 a b)
      | _ => exact noS h
    | _ => exact noS h
theorem execS_asg {T : Tabs} {fuel : Nat} {σ : Sig} {m : Md} {t : Tg} {e : E} : execS T fuel σ (.asg m t e) = (match m, t with
    | .new, .v x => if fresh e then (evalE T (allEnv σ) e).bind fun v => match v with
      | .list l => if l.all scalar && decide (x < σ.length) && decide (l.length ≤ lim) then some (σ.set x (some (.own l)), .next) else none
      | _ => none
      else none
    | m, t => (evalM T σ m e).bind fun v => (bindS σ t v).map fun σ' => (σ', .next)) := by
  cases m <;> cases t <;> rfl
end Mp
end

section
set_option maxRecDepth 20000
/-! MiniPy: how heap values stand for pure data. -/
namespace Mp
open PySem PySem.Calls PyProof.Rows PySem.W

noncomputable abbrev View := Addr → Option Obj

noncomputable def fieldNames : List Str := [Str.ofString "raw", Str.ofString "n", Str.ofString "nt", Str.ofString "norm", Str.ofString "is_simple"]

/-- the entries of an instance's dict: these names, in order, with these values -/
noncomputable def Ents : List Str → List DictEntry → List Value → Prop
  | _, [], vs => vs = []
  | n :: ns, e :: es, vs => ∃ v r h t, vs = v :: r ∧ e = ⟨h, .str n t, v⟩ ∧ Ents ns es r
  | [], _ :: _, _ => False

mutual
noncomputable def Rep (C : Addr) (g : View) : PV → Value → Prop
  | .none, v => v = .none
  | .bool b, v => v = .bool b
  | .int i, v => ∃ t, v = .int i t
  | .str s, v => ∃ t, v = .str ⟨s.toArray⟩ t
  | .list l, v => ∃ a vs n, v = .ref a ∧ g a = some { cls := .type "list", data := .seq vs.toArray n } ∧ Reps C g l vs
  | .tup l, v => ∃ a vs o n, v = .ref a ∧ g a = some o ∧ o.cls = .type "tuple" ∧ o.data = .seq vs.toArray n ∧ Reps C g l vs
  | .inst l, v => ∃ a d es n vs, v = .ref a ∧ g a = some (instObj C d) ∧ g d = some (dictOf es n) ∧ Ents fieldNames es vs ∧ Reps C g l vs
noncomputable def Reps (C : Addr) (g : View) : List PV → List Value → Prop
  | [], vs => vs = []
  | x :: xs, vs => ∃ v r, vs = v :: r ∧ Rep C g x v ∧ Reps C g xs r
end

/-- the objects that data is made of -/
noncomputable def isDat (o : Obj) : Prop := o.cls = .type "list" ∨ o.cls = .type "tuple" ∨ o.cls = .type "dict" ∨ ∃ c, o.cls = .ref c

noncomputable def View.le (g g' : View) : Prop := ∀ a o, g a = some o → isDat o → g' a = some o

mutual
theorem Rep.mono {C : Addr} {g g' : View} (h : g.le g') : ∀ (x : PV) {v : Value}, Rep C g x v → Rep C g' x v
  | .none, _, r => r
  | .bool _, _, r => r
  | .int _, _, r => r
  | .str _, _, r => r
  | .list l, _, ⟨a, vs, n, e, ho, r⟩ => ⟨a, vs, n, e, h a _ ho (.inl rfl), Reps.mono h l r⟩
  | .tup l, _, ⟨a, vs, o, n, e, ho, hc, hd, r⟩ => ⟨a, vs, o, n, e, h a o ho (.inr (.inl hc)), hc, hd, Reps.mono h l r⟩
  | .inst l, _, ⟨a, d, es, n, vs, e, h1, h2, hE, r⟩ => ⟨a, d, es, n, vs, e, h a _ h1 (.inr (.inr (.inr ⟨C, rfl⟩))), h d _ h2 (.inr (.inr (.inl rfl))), hE, Reps.mono h l r⟩
theorem Reps.mono {C : Addr} {g g' : View} (h : g.le g') : ∀ (xs : List PV) {vs : List Value}, Reps C g xs vs → Reps C g' xs vs
  | [], _, r => r
  | x :: xs, _, ⟨v, r, e, h1, h2⟩ => ⟨v, r, e, Rep.mono h x h1, Reps.mono h xs h2⟩
end

theorem View.le_of {g g' : View} (h : ∀ a o, g a = some o → g' a = some o) : g.le g' := fun a o e uu => h a o e

noncomputable def Sub (g : View) (h : Heap) : Prop := ∀ a o, g a = some o → h.get? a = some o
noncomputable def Keep (h h' : Heap) : Prop := ∀ a o, h.get? a = some o → h'.get? a = some o
theorem Keep.refl (h : Heap) : Keep h h := fun uu uu e => e
theorem Keep.trans {a b c : Heap} (x : Keep a b) (y : Keep b c) : Keep a c := fun p o e => y p o (x p o e)
theorem Sub.keep {g : View} {h h' : Heap} (x : Sub g h) (k : Keep h h') : Sub g h' := fun a o e => k a o (x a o e)

/-- a view and all that was made since -/
noncomputable def gext (g : View) (h h' : Heap) : View := fun a => if (h.get? a).isSome then g a else h'.get? a
theorem gext_self {g : View} {h : Heap} (x : Sub g h) : gext g h h = g := by
  funext a
  unfold gext
  split
  · rfl
  · rename_i q
    cases e : g a with
    | none => cases e' : h.get? a with
      | none => rfl
      | some o => exact absurd (by rw [e']; rfl) q
    | some o => rw [x a o e] at q; exact absurd rfl q
theorem gext_sub {g : View} {h h' : Heap} (x : Sub g h) (k : Keep h h') : Sub (gext g h h') h' := fun a o e => by
  unfold gext at e
  split at e
  · exact k a o (x a o e)
  · exact e
theorem le_gext {g : View} {h h' : Heap} (x : Sub g h) : ∀ a o, g a = some o → gext g h h' a = some o := fun a o e => by
  unfold gext; rw [x a o e]; exact e
theorem gext_gext {g : View} {h h₁ h₂ : Heap} (k : Keep h h₁) (k' : Keep h₁ h₂) : gext (gext g h h₁) h₁ h₂ = gext g h h₂ := by
  funext a
  unfold gext
  cases e : h.get? a with
  | some o => rw [k a o e]; rfl
  | none =>
    cases e' : h₁.get? a with
    | some o => simp [k' a o e']
    | none => simp
theorem gext_mono {g : View} {h h₁ h₂ : Heap} (k' : Keep h₁ h₂) : ∀ a o, gext g h h₁ a = some o → gext g h h₂ a = some o := fun a o e => by
  unfold gext at e ⊢
  split at e
  · rename_i q; rw [if_pos q]; exact e
  · rename_i q; rw [if_neg q]; exact k' a o e
theorem gext_new {g : View} {h h' : Heap} {a : Addr} (e : h.get? a = none) : gext g h h' a = h'.get? a := by unfold gext; rw [e]; rfl

section
variable {C : Addr} {g : View}
theorem Reps.length : ∀ {xs : List PV} {vs : List Value}, Reps C g xs vs → vs.length = xs.length
  | [], _, h => by (first | exact noS h | exact noB h | cases h); rfl
  | _ :: _, _, ⟨_, _, e, _, r⟩ => by subst e; simp [r.length]
theorem Reps.get : ∀ {xs : List PV} {vs : List Value} {i : Nat} {x : PV}, Reps C g xs vs → xs[i]? = some x → ∃ v, vs[i]? = some v ∧ Rep C g x v
  | _ :: _, _, 0, _, ⟨v, _, e, h, _⟩, q => by subst e; (first | exact noS q | exact noB q | cases q); exact ⟨v, rfl, h⟩
  | _ :: _, _, i + 1, _, ⟨_, _, e, _, r⟩, q => by subst e; exact r.get q
theorem Reps.get' : ∀ {xs : List PV} {vs : List Value} {i : Nat} {v : Value}, Reps C g xs vs → vs[i]? = some v → ∃ x, xs[i]? = some x ∧ Rep C g x v
  | [], _, _, _, h, q => by (first | exact noS h | exact noB h | cases h); cases q
  | x :: _, _, 0, _, ⟨_, _, e, h, _⟩, q => by subst e; (first | exact noS q | exact noB q | cases q); exact ⟨x, rfl, h⟩
  | _ :: _, _, i + 1, _, ⟨_, _, e, _, r⟩, q => by subst e; exact r.get' q
theorem Reps.nil : Reps C g [] [] := rfl
theorem Reps.cons {x : PV} {xs : List PV} {v : Value} {vs : List Value} (h : Rep C g x v) (r : Reps C g xs vs) : Reps C g (x :: xs) (v :: vs) := ⟨v, vs, rfl, h, r⟩
theorem Reps.append : ∀ {xs ys : List PV} {vs us : List Value}, Reps C g xs vs → Reps C g ys us → Reps C g (xs ++ ys) (vs ++ us)
  | [], _, _, _, h, r => by (first | exact noS h | exact noB h | cases h); exact r
  | _ :: _, _, _, _, ⟨v, _, e, h, q⟩, r => by subst e; exact ⟨v, _, rfl, h, q.append r⟩
theorem Reps.set : ∀ {xs : List PV} {vs : List Value} {x : PV} {v : Value} (i : Nat), Reps C g xs vs → Rep C g x v → Reps C g (xs.set i x) (vs.set i v)
  | [], _, _, _, _, h, _ => by (first | exact noS h | exact noB h | cases h); exact rfl
  | _ :: _, _, _, v, 0, ⟨_, _, e, _, q⟩, r => by subst e; exact ⟨v, _, rfl, r, q⟩
  | _ :: _, _, _, _, i + 1, ⟨u, _, e, h, q⟩, r => by subst e; exact ⟨u, _, rfl, h, q.set i r⟩
theorem Reps.filterMap_get {xs : List PV} {vs : List Value} (h : Reps C g xs vs) : ∀ (l : List Nat), Reps C g (l.filterMap (xs[·]?)) (l.filterMap (vs[·]?))
  | [] => rfl
  | i :: l => by
    have ih := h.filterMap_get l
    cases e : xs[i]? with
    | some x =>
      obtain ⟨v, hv, r⟩ := h.get e
      simp only [List.filterMap_cons, e, hv]
      exact .cons r ih
    | none =>
      have : vs[i]? = none := by
        cases q : vs[i]? with
        | none => rfl
        | some v => obtain ⟨x, hx, uu⟩ := h.get' q; rw [e] at hx; (first | exact noS hx | exact noB hx | cases hx)
      simp only [List.filterMap_cons, e, this]
      exact ih
theorem Reps.take : ∀ {xs : List PV} {vs : List Value} (n : Nat), Reps C g xs vs → Reps C g (xs.take n) (vs.take n)
  | _, _, 0, _ => rfl
  | [], _, _ + 1, h => by (first | exact noS h | exact noB h | cases h); exact rfl
  | _ :: _, _, n + 1, ⟨v, _, e, h, q⟩ => by subst e; exact ⟨v, _, rfl, h, q.take n⟩
theorem Reps.dropLast {xs : List PV} {vs : List Value} (h : Reps C g xs vs) : Reps C g xs.dropLast vs.dropLast := by
  rw [List.dropLast_eq_take, List.dropLast_eq_take, h.length]; exact h.take _
theorem Reps.rep {xs : List PV} {vs : List Value} (h : Reps C g xs vs) : ∀ n, Reps C g (rep xs n) (rep vs n)
  | 0 => rfl
  | n + 1 => by
    unfold Mp.rep
    rw [List.replicate_succ, List.replicate_succ, List.flatten_cons, List.flatten_cons]
    exact h.append (h.rep n)
theorem Reps.ints : ∀ {l : List PV} {vs : List Value} {ns : List Int}, Reps C g l vs → l.mapM asInt = some ns → IntsAre vs ns
  | [], _, _, h, e => by (first | exact noS h | exact noB h | cases h); (first | exact noS e | exact noB e | cases e); exact .nil
  | x :: l, _, ns, ⟨v, r, e, h, q⟩, hm => by
    subst e
    rw [List.mapM_cons] at hm
    cases x with
    | int i =>
      obtain ⟨t, rfl⟩ := h
      change ((l.mapM asInt).bind fun ms => some (i :: ms)) = _ at hm
      cases e : l.mapM asInt with
      | none => rw [e] at hm; cases hm
      | some ms => rw [e] at hm; (first | exact noS hm | exact noB hm | cases hm); exact .cons _ _ (q.ints e)
    | _ => (first | exact noS hm | exact noB hm | cases hm)
theorem Rep.scalar {g' : View} {x : PV} {v : Value} (h : Rep C g x v) (s : scalar x = true) : Rep C g' x v := by
  cases x <;> first | exact h | (first | exact noS s | exact noB s | cases s)
theorem Reps.scalars {g' : View} : ∀ {xs : List PV} {vs : List Value}, Reps C g xs vs → xs.all Mp.scalar = true → Reps C g' xs vs
  | [], _, h, _ => h
  | _ :: _, _, ⟨v, r, e, h, q⟩, s => by
    simp only [List.all_cons, Bool.and_eq_true] at s
    exact ⟨v, r, e, h.scalar s.1, q.scalars s.2⟩
theorem Reps.map_ints : ∀ (ns : List Int) {vs : List Value}, IntsAre vs ns → Reps C g (ns.map .int) vs
  | [], _, h => by (first | exact noS h | exact noB h | cases h); exact rfl
  | n :: ns, _, h => by cases h with | cons _ t r => exact ⟨_, _, rfl, ⟨t, rfl⟩, Reps.map_ints ns r⟩
end
end Mp
end

section
set_option maxRecDepth 20000
/-! MiniPy: the operators. -/
namespace Mp
open PySem PySem.Calls PyProof.Rows PySem.W

noncomputable def opOf : Op → Operator
  | .add => .Add | .sub => .Sub | .mul => .Mult | .div => .FloorDiv | .mod => .Mod | .pow => .Pow
noncomputable def cmOf : Cm → CmpOp
  | .eq => .Eq | .ne => .NotEq | .lt => .Lt | .le => .LtE | .gt => .Gt | .ge => .GtE | .is => .Is | .isNot => .IsNot

theorem keeps_refl (s : Shared) : Keeps s s := ⟨s.heap, s.toks, rfl, fun uu uu e => e⟩
theorem keeps_tok (s : Shared) (k : Nat) : Keeps s { s with toks := k } := ⟨s.heap, k, rfl, fun uu uu e => e⟩
theorem keeps_heap {s : Shared} {h' : Heap} (k : Keep s.heap h') : Keeps s { s with heap := h' } := ⟨h', s.toks, rfl, k⟩
theorem keepsK {s s' : Shared} (x : Keeps s s') : Keep s.heap s'.heap := by obtain ⟨h', tk, rfl, k⟩ := x; exact k
theorem keepsTr {a b c : Shared} (x : Keeps a b) (y : Keeps b c) : Keeps a c := by
  obtain ⟨h', tk, rfl, k⟩ := x; obtain ⟨h'', tk', rfl, k'⟩ := y
  exact ⟨h'', tk', rfl, fun b o e => k' b o (k b o e)⟩
theorem keep_push (h : Heap) (o : Obj) : Keep h (h.push o) := fun uu uu e => Heap.get?_push_of_some _ e

structure Post (C : Addr) (g : View) (s : Shared) (x : PV) (v : Value) (s' : Shared) : Prop where
  keeps : Keeps s s'
  rep : Rep C (gext g s.heap s'.heap) x v

noncomputable def NewList (h h' : Heap) (v : Value) : Prop := ∃ a vs n, v = .ref a ∧ h.get? a = none ∧ h'.get? a = some { cls := .type "list", data := .seq vs n }

theorem get_size (h : Heap) : h.get? h.objs.size = none := by
  cases e : h.get? h.objs.size with
  | none => rfl
  | some o => exact absurd (Heap.lt_size e) (Nat.lt_irrefl _)

theorem rep_eq {α : Type} (l : List α) (n : Nat) : rep l n = (List.replicate n l).flatten := rfl

theorem cps_ext {x y : Str} (h : x.cps.toList = y.cps.toList) : x = y := by
  obtain ⟨⟨a⟩⟩ := x; obtain ⟨⟨b⟩⟩ := y; (first | exact noS h | exact noB h | cases h); rfl

theorem foldl_app (x : Array Nat) : ∀ (n : Nat) (acc : Array Nat), ((List.replicate n x).foldl (· ++ ·) acc).toList = acc.toList ++ (List.replicate n x.toList).flatten
  | 0, acc => by simp
  | n + 1, acc => by
    rw [List.replicate_succ, List.foldl_cons, foldl_app x n, List.replicate_succ, List.flatten_cons]
    simp

theorem mulTxt (s : List Nat) (n : Int) : Txt.mul ⟨s.toArray⟩ n = ⟨(rep s n.toNat).toArray⟩ := by
  unfold Txt.mul
  split
  · rename_i h
    have : n.toNat = 0 := by omega
    rw [this]; rfl
  · split
    · rename_i h1 h2
      simp only [Bool.or_eq_true, beq_iff_eq] at h2
      rcases h2 with h2 | h2
      · subst h2; simp [rep]
      · have h3 : s = [] := by
          have : s.length = 0 := by simpa [Str.length] using h2
          exact List.length_eq_zero_iff.mp this
        subst h3
        simp [rep]
    · apply cps_ext
      show ((List.replicate n.toNat s.toArray).foldl (· ++ ·) #[]).toList = _
      rw [foldl_app]; simp [rep]

section
variable {prog : Program} {w : World} {A : Around} {E : Value → Shared → Prop} {s : Shared} {h₀ : Heap} {L : Addr} {m : Str → Option Value} {C : Addr} {g : View}

theorem newList_post {xs : List PV} {vs : List Value} (hs : Sub g s.heap) (r : Reps C g xs vs) :
    Post C g s (.list xs) (.ref s.heap.objs.size) { s with heap := s.heap.push { cls := .type "list", data := .seq vs.toArray } } ∧
    NewList s.heap (s.heap.push { cls := .type "list", data := .seq vs.toArray }) (.ref s.heap.objs.size) := by
  have e := Heap.get?_push_size s.heap (o := { cls := .type "list", data := .seq vs.toArray }) rfl
  refine ⟨⟨keeps_heap (keep_push _ _), ⟨_, vs, 0, rfl, ?_, Reps.mono (View.le_of (le_gext hs)) _ r⟩⟩, ⟨_, _, 0, rfl, get_size _, e⟩⟩
  rw [gext_new (get_size _)]
  exact e
theorem newTup_post {xs : List PV} {vs : List Value} (hs : Sub g s.heap) (r : Reps C g xs vs) :
    Post C g s (.tup xs) (.ref s.heap.objs.size) { s with heap := s.heap.push { cls := .type "tuple", data := .seq vs.toArray } } := by
  refine ⟨keeps_heap (keep_push _ _), ⟨_, vs, { cls := .type "tuple", data := .seq vs.toArray }, 0, rfl, ?_, rfl, rfl, Reps.mono (View.le_of (le_gext hs)) _ r⟩⟩
  rw [gext_new (get_size _)]
  exact Heap.get?_push_size _ rfl
theorem sc_post {x : PV} {v : Value} {s' : Shared} (k : Keeps s s') (r : Rep C (fun uu => none) x v) : Post C g s x v s' :=
  ⟨k, Rep.mono (fun uu uu e uu => by (first | exact noS e | exact noB e | cases e)) _ r⟩

theorem mul_push {l : Addr} {items : Array Value} {k : Nat} {x : Int} {u : Tok} {Q : Value → Shared → Prop}
    (hl : s.heap.get? l = some { cls := .type "list", data := .seq items k }) (h1 : -(2 ^ 63 : Int) ≤ x) (h2 : x < 2 ^ 63) (h3 : items.size * x.toNat ≤ 2 ^ 24)
    (h : Q (.ref s.heap.objs.size) { s with heap := s.heap.push { cls := .type "list", data := .seq (List.foldl (fun x1 x2 => x1 ++ x2) #[] (List.replicate (if items.isEmpty = true then 0 else x.toNat) items)) } }) :
    wpAny (model prog w) A (binaryOp .Mult (.ref l) (.int x u)) Q E s :=
  wpAny_binaryOp_repeat_ref (T := "list") (U := "int") (by decide) ⟨_, hl, rfl⟩ (fun s' => typeIs_int s' x u) noFill_list_mul F.fills_int_mul F.slot_int_rmul repeat_list F.slot_int_index.lookup
    (call_meets F.slot_int_rmul (typeIs_int s x u) F.entry_int_rmul (F.args_int_rmul_2 _ _) (int___rmul___int_list x u l items k)
      ⟨hl, rfl, ⟨_, hl, rfl⟩, call_meets F.slot_list_mul ⟨_, hl, rfl⟩ F.entry_list_mul (F.args_list_mul_2 _ _)
        (AutoListH.list___mul___list_int_3 l items k x u (by simp [Builtin.List.listFitsIndex]; omega) (by omega) (by simp [Builtin.List.listTooLong, sizeLine]; omega)) ⟨hl, h⟩⟩)

theorem binop_sound {o : Op} {x y z : PV} {v u : Value} (h : binop o x y = some z) (hs : Sub g s.heap)
    (hv : Rep C g x v) (hu : Rep C g y u) :
    wpAny (model prog w) A (binaryOp (opOf o) v u) (fun r s' => Post C g s z r s' ∧ ∀ l, z = .list l → NewList s.heap s'.heap r) E s := by
  revert hv hu
  refine binop_inv (P := fun o x y z => Rep C g x v → Rep C g y u → wpAny (model prog w) A (binaryOp (opOf o) v u) (fun r s' => Post C g s z r s' ∧ ∀ l, z = .list l → NewList s.heap s'.heap r) E s) h ?_ ?_ ?_ ?_ ?_ ?_ ?_ ?_ ?_ ?_
  · intro a b hv hu
    obtain ⟨t, rfl⟩ := hv; obtain ⟨t', rfl⟩ := hu
    exact P.add_int ⟨sc_post (keeps_tok _ _) ⟨_, rfl⟩, fun l e => nomatch e⟩
  · intro a b hv hu
    obtain ⟨t, rfl⟩ := hv; obtain ⟨t', rfl⟩ := hu
    exact P.sub_int ⟨sc_post (keeps_tok _ _) ⟨_, rfl⟩, fun l e => nomatch e⟩
  · intro a b q hv hu
    · skip
      simp only [smallI, Bool.and_eq_true, decide_eq_true_eq] at q
      obtain ⟨t, rfl⟩ := hv; obtain ⟨t', rfl⟩ := hu
      exact P.mul_int ⟨sc_post (keeps_tok _ _) ⟨_, rfl⟩, fun l e => nomatch e⟩ (IntMulOk.of_left (intBits_le_64 (by omega) (by omega)))
  · intro a b q hv hu
    · skip
      simp only [Bool.or_eq_true, decide_eq_true_eq, not_or] at q
      obtain ⟨t, rfl⟩ := hv; obtain ⟨t', rfl⟩ := hu
      exact floordiv_int q.1 ⟨sc_post (keeps_tok _ _) ⟨_, rfl⟩, fun l e => nomatch e⟩ (.inl (PyProof.noPylong_small (by omega)))
  · intro a b q hv hu
    · skip
      obtain ⟨t, rfl⟩ := hv; obtain ⟨t', rfl⟩ := hu
      exact mod_int' q ⟨sc_post (keeps_tok _ _) ⟨_, rfl⟩, fun l e => nomatch e⟩
  · intro a b q hv hu
    · skip
      simp only [smallI, Bool.and_eq_true, decide_eq_true_eq] at q
      obtain ⟨t, rfl⟩ := hv; obtain ⟨t', rfl⟩ := hu
      exact pow_int_small q.1.1 (by omega) (by omega) ⟨sc_post (keeps_tok _ _) ⟨_, rfl⟩, fun l e => nomatch e⟩
  · intro a b q hv hu
    · skip
      obtain ⟨t, rfl⟩ := hv; obtain ⟨t', rfl⟩ := hu
      refine PyProof.Rows.add_str (fun t' tk => ⟨sc_post (keeps_tok _ _) ⟨t', ?_⟩, fun l e => nomatch e⟩) ?_
      · show Value.str ⟨a.toArray ++ b.toArray⟩ t' = _
        simp
      · rw [sizeLine_eq]
        show a.toArray.size + b.toArray.size ≤ _
        simp only [List.size_toArray]; simp only [lim] at q; omega
  · intro a b q hv hu
    · skip
      obtain ⟨p, vs, n, rfl, ho, r⟩ := hv; obtain ⟨p', us, n', rfl, ho', r'⟩ := hu
      have e : vs.toArray ++ us.toArray = (vs ++ us).toArray := by simp
      refine P.add_list (hs _ _ ho) (hs _ _ ho') ?_ ?_
      · rw [e]
        have := newList_post (s := s) hs (r.append r')
        exact ⟨this.1, fun uu uu => this.2⟩
      · rw [sizeLine_eq]; simp only [List.size_toArray, r.length, r'.length]; simp only [lim] at q; omega
  · intro a n q hv hu
    · skip
      simp only [smallI, Bool.and_eq_true, decide_eq_true_eq] at q
      obtain ⟨t, rfl⟩ := hv; obtain ⟨t', rfl⟩ := hu
      refine SB.mul ⟨?_, ?_, ?_⟩ (fun t' k => ⟨sc_post (keeps_tok _ _) ⟨t', by rw [mulTxt]⟩, fun l e => nomatch e⟩)
      · simp only [Bool.or_eq_false_iff, decide_eq_false_iff_not]; omega
      · intro h1 h2
        have hlen : (Str.mk a.toArray).length = a.length := by simp [Str.length]
        rw [hlen]
        have h3 : a.length * 1 ≤ a.length * n.toNat := Nat.mul_le_mul_left _ (by omega)
        have h4 := q.2
        simp only [lim] at h4
        have h5 : (a.length : Int) ≤ 100000 := by omega
        have h6 : (100000 : Int) ≤ (2 ^ 63 - 1) / n := by
          rcases Nat.eq_zero_or_pos a.length with h0 | h0
          · rw [Int.le_ediv_iff_mul_le (by omega)]
            have : (Str.mk a.toArray).length = 0 := by rw [hlen, h0]
            rw [this] at h2; simp at h2
          · have : n.toNat ≤ 100000 := Nat.le_trans (by simpa using Nat.mul_le_mul_right n.toNat h0) h4
            rw [Int.le_ediv_iff_mul_le (by omega)]
            have : n ≤ 100000 := by omega
            omega
        omega
      · intro h1 h2
        have hlen : (Str.mk a.toArray).length = a.length := by simp [Str.length]
        rw [hlen]
        have h4 := q.2
        simp only [lim] at h4
        unfold Builtin.Str.tooLong; exact decide_eq_false (by rw [sizeLine_eq]; omega)
  · intro a n q hv hu
    · skip
      simp only [smallI, Bool.and_eq_true, decide_eq_true_eq] at q
      obtain ⟨p, vs, n', rfl, ho, r⟩ := hv; obtain ⟨t', rfl⟩ := hu
      have h4 := q.2
      simp only [lim] at h4
      refine mul_push (hs _ _ ho) (by omega) (by omega) (by simp only [List.size_toArray, r.length]; omega) ?_
      rw [listMul_foldl_if]
      have := newList_post (s := s) hs (r.rep n.toNat)
      exact ⟨this.1, fun uu uu => this.2⟩


/-! == and the orders -/
mutual
noncomputable def toD : PV → PyData
  | .none => .none
  | .bool b => .bool b
  | .int i => .int i
  | .str s => .str ⟨s.toArray⟩
  | .list l => .list (toDs l)
  | .tup l => .tuple (toDs l)
  | .inst _ => .none
noncomputable def toDs : List PV → List PyData
  | [] => []
  | x :: xs => toD x :: toDs xs
end

mutual
theorem Rep.reads {h : Heap} (hs : Sub g h) : ∀ (n : Nat) (x : PV) {v : Value}, Rep C g x v → okEq n x = true → ∃ as, Reads h v (toD x) as
  | _, .none, _, r, _ => by (first | exact noS r | exact noB r | cases r); exact ⟨_, .none⟩
  | _, .bool b, _, r, _ => by (first | exact noS r | exact noB r | cases r); exact ⟨_, .bool b⟩
  | _, .int i, _, ⟨t, e⟩, _ => by (first | exact noS e | exact noB e | cases e); exact ⟨_, .int i t⟩
  | _, .str s, _, ⟨t, e⟩, _ => by (first | exact noS e | exact noB e | cases e); exact ⟨_, .str _ t⟩
  | 0, .list _, _, _, q => by cases q
  | n + 1, .list l, _, ⟨a, vs, k, e, ho, r⟩, q => by
    subst e
    obtain ⟨as, h'⟩ := Reps.reads hs n l r (List.all_eq_true.mp q)
    exact ⟨_, .list (hs _ _ ho) rfl rfl h'⟩
  | 0, .tup _, _, _, q => by cases q
  | n + 1, .tup l, _, ⟨a, vs, o, k, e, ho, hc, hd, r⟩, q => by
    subst e
    obtain ⟨as, h'⟩ := Reps.reads hs n l r (List.all_eq_true.mp q)
    exact ⟨_, .tuple (hs _ _ ho) hc hd h'⟩
  | 0, .inst _, _, _, q => noB q
  | _ + 1, .inst _, _, _, q => noB q
theorem Reps.reads {h : Heap} (hs : Sub g h) : ∀ (n : Nat) (xs : List PV) {vs : List Value}, Reps C g xs vs → (∀ x ∈ xs, okEq n x = true) → ∃ as, ReadsAll h vs (toDs xs) as
  | _, [], _, e, _ => by (first | exact noS e | exact noB e | cases e); exact ⟨_, .nil⟩
  | n, x :: xs, _, ⟨v, r, e, h1, h2⟩, q => by
    subst e
    obtain ⟨as, p1⟩ := Rep.reads hs n x h1 (q _ List.mem_cons_self)
    obtain ⟨bs, p2⟩ := Reps.reads hs n xs h2 fun y hy => q y (List.mem_cons_of_mem _ hy)
    exact ⟨_, .cons p1 p2⟩
end

mutual
theorem lay_toD : ∀ (n : Nat) (x : PV), okEq n x = true → (toD x).canLay0 = true ∧ (toD x).depth ≤ n
  | _, .none, _ => ⟨rfl, Nat.zero_le _⟩
  | _, .bool _, _ => ⟨rfl, Nat.zero_le _⟩
  | _, .int _, _ => ⟨rfl, Nat.zero_le _⟩
  | _, .str s, q => by
    refine ⟨?_, Nat.zero_le _⟩
    rw [okEq_str] at q
    show PyData.strOk ⟨s.toArray⟩ = true
    simpa only [PyData.strOk, List.all_toArray] using q
  | 0, .list _, q => by cases q
  | n + 1, .list l, q => by
    have h := lay_toDs n l (List.all_eq_true.mp q)
    exact ⟨h.1, Nat.succ_le_succ h.2⟩
  | 0, .tup _, q => by cases q
  | n + 1, .tup l, q => by
    have h := lay_toDs n l (List.all_eq_true.mp q)
    exact ⟨h.1, Nat.succ_le_succ h.2⟩
  | 0, .inst _, q => noB q
  | _ + 1, .inst _, q => noB q
theorem lay_toDs : ∀ (n : Nat) (xs : List PV), (∀ x ∈ xs, okEq n x = true) → PyData.canLayAll0 (toDs xs) = true ∧ PyData.depthAll (toDs xs) ≤ n
  | _, [], _ => ⟨rfl, Nat.zero_le _⟩
  | n, x :: xs, q => by
    have h1 := lay_toD n x (q _ List.mem_cons_self)
    have h2 := lay_toDs n xs fun y hy => q y (List.mem_cons_of_mem _ hy)
    exact ⟨Bool.and_eq_true_iff.mpr ⟨h1.1, h2.1⟩, Nat.max_le.mpr ⟨h1.2, h2.2⟩⟩
end

theorem str_beq (x y : List Nat) : ((⟨x.toArray⟩ : Str) == ⟨y.toArray⟩) = (x == y) := by
  by_cases h : x = y
  · subst h; simp
  · have : (⟨x.toArray⟩ : Str) ≠ ⟨y.toArray⟩ := fun e => h (by simpa using congrArg (fun s => s.cps.toList) e)
    rw [beq_eq_false_iff_ne.mpr h, beq_eq_false_iff_ne.mpr this]
mutual
theorem eqv_toD : ∀ (n : Nat) (x y : PV), okEq n x = true → okEq n y = true → PyData.eqv (toD x) (toD y) = eqv x y
  | n, .inst _, _, q, _ => by cases n <;> exact noB q
  | n, .none, y, _, q => by
    cases y with
    | inst _ => cases n <;> exact noB q
    | _ => rfl
  | n, .bool _, y, _, q => by
    cases y with
    | inst _ => cases n <;> exact noB q
    | _ => rfl
  | n, .int _, y, _, q => by
    cases y with
    | inst _ => cases n <;> exact noB q
    | _ => rfl
  | n, .str _, y, _, q => by
    cases y with
    | inst _ => cases n <;> exact noB q
    | str _ => exact str_beq _ _
    | _ => rfl
  | 0, .list _, _, q, _ => noB q
  | n + 1, .list l, y, q, q' => by
    cases y with
    | list r => exact eqv_toDs n l r (List.all_eq_true.mp q) (List.all_eq_true.mp q')
    | inst => exact noB q'
    | _ => rfl
  | 0, .tup _, _, q, _ => noB q
  | n + 1, .tup l, y, q, q' => by
    cases y with
    | tup r => exact eqv_toDs n l r (List.all_eq_true.mp q) (List.all_eq_true.mp q')
    | inst => exact noB q'
    | _ => rfl
theorem eqv_toDs : ∀ (n : Nat) (xs ys : List PV), (∀ x ∈ xs, okEq n x = true) → (∀ x ∈ ys, okEq n x = true) → PyData.eqvAll (toDs xs) (toDs ys) = eqvs xs ys
  | _, [], [], _, _ => rfl
  | _, [], _ :: _, _, _ => rfl
  | _, _ :: _, [], _, _ => rfl
  | n, x :: xs, y :: ys, q, q' => by
    show (PyData.eqv (toD x) (toD y) && PyData.eqvAll (toDs xs) (toDs ys)) = (eqv x y && eqvs xs ys)
    rw [eqv_toD n x y (q _ List.mem_cons_self) (q' _ List.mem_cons_self), eqv_toDs n xs ys (fun z hz => q z (List.mem_cons_of_mem _ hz)) fun z hz => q' z (List.mem_cons_of_mem _ hz)]
end

theorem cmp_sound {o : Cm} {x y : PV} {b : Bool} {v u : Value} (h : cmpop o x y = some b) (hs : Sub g s.heap) (hU : A.units + 64 < cLine)
    (hv : Rep C g x v) (hu : Rep C g y u) :
    wpAny (model prog w) A (compareOp (cmOf o) v u) (fun r s' => r = .bool b ∧ s' = s) E s := by
  revert hv hu
  refine cmpop_inv (P := fun o x y b => Rep C g x v → Rep C g y u → wpAny (model prog w) A (compareOp (cmOf o) v u) (fun r s' => r = .bool b ∧ s' = s) E s) h ?_ ?_ ?_ ?_ ?_ ?_ ?_ ?_
  · intro x y q hv hu
    refine andB q fun q1 q2 => ?_
    obtain ⟨as, r1⟩ := Rep.reads hs 20 _ hv q1
    obtain ⟨bs, r2⟩ := Rep.reads hs 20 _ hu q2
    refine SeqAt.compareEq_reads r1 r2 (lay_toD 20 _ q1).1 (lay_toD 20 _ q2).1 (by have := (lay_toD 20 _ q1).2; have := (lay_toD 20 _ q2).2; omega) ?_
    rw [eqv_toD 20 _ _ q1 q2]; exact ⟨rfl, rfl⟩
  · intro x y q hv hu
    refine andB q fun q1 q2 => ?_
    obtain ⟨as, r1⟩ := Rep.reads hs 20 _ hv q1
    obtain ⟨bs, r2⟩ := Rep.reads hs 20 _ hu q2
    refine SeqAt.compareNe_reads r1 r2 (lay_toD 20 _ q1).1 (lay_toD 20 _ q2).1 (by have := (lay_toD 20 _ q1).2; have := (lay_toD 20 _ q2).2; omega) ?_
    rw [eqv_toD 20 _ _ q1 q2]; exact ⟨rfl, rfl⟩
  · intro a b hv hu; obtain ⟨t, rfl⟩ := hv; obtain ⟨t', rfl⟩ := hu; exact P.lt_int ⟨rfl, rfl⟩
  · intro a b hv hu; obtain ⟨t, rfl⟩ := hv; obtain ⟨t', rfl⟩ := hu; exact P.le_int ⟨rfl, rfl⟩
  · intro a b hv hu; obtain ⟨t, rfl⟩ := hv; obtain ⟨t', rfl⟩ := hu; exact P.gt_int ⟨rfl, rfl⟩
  · intro a b hv hu; obtain ⟨t, rfl⟩ := hv; obtain ⟨t', rfl⟩ := hu; exact P.ge_int ⟨rfl, rfl⟩
  · intro a b hv hu; (first | exact noS hv | exact noB hv | cases hv); (first | exact noS hu | exact noB hu | cases hu); exact is_bool ⟨rfl, rfl⟩
  · intro a b hv hu; (first | exact noS hv | exact noB hv | cases hv); (first | exact noS hu | exact noB hu | cases hu); exact isnot_bool ⟨rfl, rfl⟩

theorem truthy_sound {x : PV} {b : Bool} {v : Value} (h : truthy x = some b) (hs : Sub g s.heap) (hv : Rep C g x v) :
    wpAny (model prog w) A (PySem.truthy v) (fun r s' => r = b ∧ Keeps s s') E s := by
  cases x with
  | none => (first | exact noS hv | exact noB hv | cases hv); (first | exact noS h | exact noB h | cases h); exact truthy_none ⟨rfl, keeps_refl _⟩
  | bool c => (first | exact noS hv | exact noB hv | cases hv); (first | exact noS h | exact noB h | cases h); exact wpAny_truthy_bool ⟨rfl, keeps_refl _⟩
  | int i => obtain ⟨t, rfl⟩ := hv; (first | exact noS h | exact noB h | cases h); exact P.truthy_int ⟨rfl, keeps_refl _⟩
  | str l =>
    obtain ⟨t, rfl⟩ := hv
    change (if l.length ≤ lim then some (!l.isEmpty) else none) = _ at h
    split at h
    · rename_i q
      (first | exact noS h | exact noB h | cases h)
      have e : (Str.mk l.toArray).length = l.length := by simp [Str.length]
      refine P.truthy_str (by rw [e]; simp only [lim] at q; omega) ⟨?_, keeps_tok _ _⟩
      rw [e]
      cases l <;> simp
      omega
    · cases h
  | list l =>
    obtain ⟨a, vs, n, rfl, ho, r⟩ := hv
    change (if l.length ≤ lim then some (!l.isEmpty) else none) = _ at h
    split at h
    · rename_i q
      (first | exact noS h | exact noB h | cases h)
      refine wpAny_truthy_list ⟨_, hs _ _ ho, rfl, n, rfl⟩ (by simp only [List.size_toArray, r.length]; simp only [lim] at q; omega) ⟨?_, keeps_tok _ _⟩
      have := r.length
      cases vs <;> cases l <;> simp_all
    · cases h
  | _ => (first | exact noS h | exact noB h | cases h)
end
end Mp
end

section
set_option maxRecDepth 20000
/-! MiniPy: targets and iterators. -/
namespace Mp
open PySem PySem.Calls PyProof.Rows PySem.W

/-! targets -/
mutual
noncomputable def matchT (ns : List Str) (ok : Str → Bool) : Tg → Expr → Bool
  | .v i, .Name n _ => ns[i]? == some n && ok n
  | .t l, .Tuple es _ _ => matchTs ns ok l es
  | _, _ => false
noncomputable def matchTs (ns : List Str) (ok : Str → Bool) : Tgs → List Expr → Bool
  | .nil, [] => true
  | .cons a l, e :: es => matchT ns ok a e && matchTs ns ok l es
  | _, _ => false
end

section
variable {prog : Program} {w : World} {A : Around} {s : Shared} {C : Addr} {F : View}

theorem matchTs_each {ns : List Str} {ok : Str → Bool} {env : Env} : ∀ {l : Tgs} {es : List Expr}, matchTs ns ok l es = true →
    (assignEach es env).findIdx? (·.1) = none ∧ (assignEach es env).map (·.2) = es.map (fun e => assign e env) ∧ (assignEach es env).length = es.length
  | .nil, [], _ => ⟨rfl, rfl, rfl⟩
  | .nil, _ :: _, h => noB h
  | .cons _ _, [], h => noB h
  | .cons a l, e :: es, h => by
    have h := Bool.and_eq_true_iff.mp h
    have ih := matchTs_each (env := env) h.2
    have he : assignEach (e :: es) env = (false, assign e env) :: assignEach es env := by
      cases a with
      | v i => cases e <;> first | rfl | exact noB h.1
      | t k => cases e <;> first | rfl | exact noB h.1
    rw [he]
    refine ⟨?_, ?_, ?_⟩
    · rw [List.findIdx?_cons]; simp [ih.1]
    · simp [ih.2.1]
    · simp [ih.2.2]

theorem wpAny_draw_list {it t : Addr} {items : Array Value} (hne : t ≠ it) : ∀ (n i : Nat) (s : Shared) (E : Value → Shared → Prop) (Q : List Value → Shared → Prop), s.heap.IsListIter it t i → s.heap.IsList t items → i + n ≤ items.size →
    (∀ h', h'.IsListIter it t (i + n) → Heap.SameBut it s.heap h' → Q ((items.toList.drop i).take n) { s with heap := h' }) → wpAny (model prog w) A (draw (.ref it) n) Q E s
  | 0, i, s, E, Q, hit, _, _, hQ => by
    show wpAny _ _ (pure []) Q E s
    exact wpAny_pure (by simpa using hQ s.heap hit (Heap.SameBut.refl ..))
  | n + 1, i, s, E, Q, hit, ht, hle, hQ => by
    have hlt : i < items.size := by omega
    show wpAny _ _ (pyNext (.ref it) >>= _) Q E s
    refine wpAny_bind (wpAny_pyNext_list_item hit ht (x := items[i]) (by simp [hlt]) fun h₁ hit₁ hs₁ => ?_)
    refine wpAny_bind (wpAny_holding (wpAny_draw_list hne n (i + 1) _ _ _ hit₁ (ht.extBut hs₁.extBut hne) (by omega) fun h₂ hit₂ hs₂ => wpAny_pure ?_))
    have hd : items.toList.drop i = items[i] :: items.toList.drop (i + 1) := by simp [List.drop_eq_getElem_cons, hlt]
    have := hQ h₂ (by rw [show i + (n + 1) = i + 1 + n by omega]; exact hit₂) (hs₁.trans hs₂)
    rw [hd, List.take_succ_cons] at this
    exact this

theorem keep_of_extBut {h h' : Heap} (e : Heap.ExtBut h.objs.size h h') : Keep h h' := fun b o q => e b o (fun x => by rw [x, get_size] at q; (first | exact noS q | exact noB q | cases q)) q

theorem unpack_list {t : Addr} {items : Array Value} {E : Value → Shared → Prop} {Q : List Value → Shared → Prop} (hh : A.handled = none) (ht : s.heap.IsList t items)
    (hQ : ∀ h', Keep s.heap h' → Q items.toList { s with heap := h' }) : wpAny (model prog w) A (unpackItems (.ref t) items.size none) Q E s := by
  have hlt : t ≠ s.heap.objs.size := by obtain ⟨o, ho, uu⟩ := ht; exact Nat.ne_of_lt (Heap.lt_size ho)
  unfold unpackItems
  refine wpAny_bind ?_
  · unfold notIterableAtAll
    refine wpAny_bind (wpAny_specialOf ht.typeIs slot_list_iter.lookup ?_)
    refine wpAny_pure ?_
    simp only [Bool.false_eq_true, if_false]
    refine wpAny_bind (wpAny_holding (wpAny_pyIter_list ht ?_))
    refine wpAny_bind (wpAny_holding (wpAny_draw_list hlt items.size 0 _ _ _ ⟨_, Heap.get?_push_size _ rfl, rfl, rfl⟩ (ht.push _) (by omega) fun h₁ hit₁ hs₁ => ?_))
    have hall : List.take items.size (List.drop 0 items.toList) = items.toList := by
      rw [List.drop_zero]; exact List.take_of_length_le (by simp)
    rw [hall]
    rw [if_neg (by simp)]
    have ht₁ : h₁.IsList t items := (ht.push _).extBut hs₁.extBut hlt
    refine wpAny_bind (wpAny_holding (wpAny_pyNext_list_end hh hit₁ ht₁ (by simp) fun h₂ he₂ => ?_))
    simp only [Option.isSome_none, Bool.false_eq_true, if_false]
    refine wpAny_pure (hQ h₂ (keep_of_extBut fun b o hb e => he₂ b o hb (hs₁.extBut b o hb (Heap.get?_push_of_some _ e))))

variable {env : Env} {α : Type} {f : α → Nat → PV → Option α} {P : α → Shared → Prop} {ns : List Str} {ok : Str → Bool}

mutual
theorem assign_ok (hh : A.handled = none) (hsub : ∀ σ s, P σ s → Sub F s.heap) (hkeep : ∀ σ (s : Shared) h', P σ s → Keep s.heap h' → P σ { s with heap := h' })
    (hst : ∀ σ σ' i n x v s E, P σ s → ns[i]? = some n → ok n = true → Rep C F x v → f σ i x = some σ' → wpAny (model prog w) A (storeName env n v) (fun uu s' => P σ' s') E s) :
    ∀ (t : Tg) (tg : Expr), matchT ns ok t tg = true → ∀ σ σ' x v s E, P σ s → Rep C F x v → bindG f σ t x = some σ' → wpAny (model prog w) A (assign tg env v) (fun uu s' => P σ' s') E s
  | .v i, tg, hm, σ, σ', x, v, s, E, hP, hr, hb => by
    cases tg with
    | Name n p =>
      have hm := Bool.and_eq_true_iff.mp hm
      exact wpAny_assign_Name (hst σ σ' i n x v s E hP (eq_of_beq hm.1) hm.2 hr hb)
    | _ => exact noB hm
  | .t l, tg, hm, σ, σ', x, v, s, E, hP, hr, hb => by
    cases tg with
    | Tuple es k p =>
      change matchTs ns ok l es = true at hm
      obtain ⟨h1, h2, h3⟩ := matchTs_each (env := env) hm
      cases x with
      | tup xs =>
        change bindGs f σ l xs = some σ' at hb
        obtain ⟨a, vs, o, n, rfl, ho, hc, hd, r⟩ := hr
        have ht : s.heap.IsTuple a vs.toArray := ⟨o, hsub _ _ hP _ _ ho, hc, n, hd⟩
        have hl := assignTs_len hm hb
        refine wpAny_assign_Tuple hh ht (by rw [h3, hl]; simp [r.length]) h1 fun h' he => ?_
        rw [h2]
        exact assigns_ok hh hsub hkeep hst l es hm σ σ' xs vs _ E (hkeep _ _ _ hP (keep_of_extBut he)) r hb
      | list xs =>
        change bindGs f σ l xs = some σ' at hb
        obtain ⟨a, vs, n, rfl, ho, r⟩ := hr
        have ht : s.heap.IsList a vs.toArray := ⟨_, hsub _ _ hP _ _ ho, rfl, n, rfl⟩
        have hl := assignTs_len hm hb
        rw [arm_assign_Tuple]
        refine wpAny_bind (wpAny_standAt ?_)
        unfold unpack
        rw [h1, h3]
        have hs : es.length = vs.toArray.size := by rw [hl]; simp [r.length]
        rw [hs]
        refine wpAny_bind (wpAny_holding (unpack_list hh ht fun h' he => ?_))
        rw [h2]
        exact assigns_ok hh hsub hkeep hst l es hm σ σ' xs vs _ E (hkeep _ _ _ hP he) r hb
      | _ => exact noS hb
    | _ => exact noB hm
theorem assigns_ok (hh : A.handled = none) (hsub : ∀ σ s, P σ s → Sub F s.heap) (hkeep : ∀ σ (s : Shared) h', P σ s → Keep s.heap h' → P σ { s with heap := h' })
    (hst : ∀ σ σ' i n x v s E, P σ s → ns[i]? = some n → ok n = true → Rep C F x v → f σ i x = some σ' → wpAny (model prog w) A (storeName env n v) (fun uu s' => P σ' s') E s) :
    ∀ (l : Tgs) (es : List Expr), matchTs ns ok l es = true → ∀ σ σ' xs vs s E, P σ s → Reps C F xs vs → bindGs f σ l xs = some σ' →
      wpAny (model prog w) A (assignInOrder (es.map fun e => assign e env) vs) (fun uu s' => P σ' s') E s
  | .nil, [], _, σ, σ', xs, vs, s, E, hP, hr, hb => by
    cases xs with
    | nil => (first | exact noS hr | exact noB hr | cases hr); obtain rfl : σ = σ' := Option.some.inj hb; exact wpAny_pure hP
    | cons => exact noS hb
  | .nil, _ :: _, hm, _, _, _, _, _, _, _, _, _ => noB hm
  | .cons _ _, [], hm, _, _, _, _, _, _, _, _, _ => noB hm
  | .cons a l, e :: es, hm, σ, σ', xs, vs, s, E, hP, hr, hb => by
    have hm := Bool.and_eq_true_iff.mp hm
    cases xs with
    | nil => exact noS hb
    | cons x xs =>
      obtain ⟨v, r, rfl, h1, h2⟩ := hr
      refine bindK hb fun σ₁ b1 b2 => ?_
      rw [List.map_cons]
      refine wpAny_assignInOrder_more (wpAny_mono (assign_ok hh hsub hkeep hst a e hm.1 σ σ₁ x v s E hP h1 b1) (fun uu s₁ h₁ => ?_) fun uu uu y => y)
      exact assigns_ok hh hsub hkeep hst l es hm.2 σ₁ σ' xs r s₁ E h₁ h2 b2
theorem assignTs_len {l : Tgs} {es : List Expr} {σ σ' : α} {xs : List PV} (hm : matchTs ns ok l es = true) (hb : bindGs f σ l xs = some σ') : es.length = xs.length := by
  induction l using Tgs.rec (motive_1 := fun uu => True) generalizing es σ xs with
  | v => trivial
  | t => trivial
  | nil =>
    cases es with
    | nil => cases xs with
      | nil => rfl
      | cons _ _ => exact noS hb
    | cons _ _ => exact noB hm
  | cons a l _ ih =>
    cases es with
    | nil => exact noB hm
    | cons e es =>
      cases xs with
      | nil => exact noS hb
      | cons x xs =>
        have hm := Bool.and_eq_true_iff.mp hm
        refine bindK hb fun σ₁ uu b2 => ?_
        simp [ih hm.2 b2]
end

/-! iterators -/
structure Wk (prog : Program) (w : World) (A : Around) (tg : Expr) (C : Addr) (G : View) (I : Addr) (fp wr : List Addr) (items : List PV) (St : Nat → Heap → Prop) : Prop where
  sub : ∀ b ∈ wr, b ∈ fp
  mem : ∀ i h, St i h → ∀ b ∈ fp, ∃ o, h.get? b = some o
  frame : ∀ i h h', St i h → (∀ b ∈ fp, ∀ o, h.get? b = some o → h'.get? b = some o) → St i h'
  turn : ∀ i x (s : Shared) (E : Value → Shared → Prop) (Q : Option Value → Shared → Prop), items[i]? = some x → St i s.heap → Sub G s.heap →
    (∀ v s₁, (∀ (Q' : Unit → Shared → Prop), (∀ h₂ tk₂, St (i + 1) h₂ → (∀ b o, b ∉ wr → s.heap.get? b = some o → h₂.get? b = some o) → Rep C (gext G s.heap h₂) x v → Q' () { s with heap := h₂, toks := tk₂ }) →
      wpAny (model prog w) A (letOwnedTupleGo tg (.ref I) v) Q' E s₁) → Q (some v) s₁) → wpAny (model prog w) A (pyNext (.ref I)) Q E s
  done : ∀ (s : Shared) (E : Value → Shared → Prop) (Q : Option Value → Shared → Prop), St items.length s.heap →
    (∀ h' tk, (∀ b o, b ∉ wr → s.heap.get? b = some o → h'.get? b = some o) → Q none { s with heap := h', toks := tk }) → wpAny (model prog w) A (pyNext (.ref I)) Q E s
  self : ∀ i (s : Shared) (E : Value → Shared → Prop) (Q : Value → Shared → Prop), St i s.heap → Q (.ref I) s → wpAny (model prog w) A (pyIter (.ref I)) Q E s

/-- an iterator of a class that is not one of those whose tuple is let go -/
theorem letGo_plain {tg : Expr} {I : Addr} {v : Value} {T : String} {E : Value → Shared → Prop} {Q : Unit → Shared → Prop} {o : Obj} (ho : s.heap.get? I = some o) (hc : o.cls = .type T)
    (hT : ["enumerate", "zip", "dict_itemiterator", "dict_reverseitemiterator", "odict_iterator", "itertools.zip_longest", "itertools.pairwise"].contains T = false) (hQ : Q () s) :
    wpAny (model prog w) A (letOwnedTupleGo tg (.ref I) v) Q E s := by
  unfold letOwnedTupleGo
  have body : ∀ r a, (.ref r, Value.ref a) = ((Value.ref I, v) : Value × Value) → wpAny (model prog w) A (do
      let o ← load r
      match o.cls, o.data with
      | .type n, .fields vs =>
        if ["enumerate", "zip", "dict_itemiterator", "dict_reverseitemiterator", "odict_iterator", "itertools.zip_longest", "itertools.pairwise"].contains n && vs[0]? == some (rawInt a) then
          rule "for.unpacks-the-owned-tuple"
          updateField r 0 .none
      | _, _ => pure ()) Q E s := by
    rintro r a e
    (first | exact noS e | exact noB e | cases e)
    refine wpAny_bind (wpAny_load ho ?_)
    rw [hc]
    cases o.data with
    | fields vs =>
      dsimp only
      rw [hT]
      simp only [Bool.false_and, Bool.false_eq_true, if_false]
      exact wpAny_pure hQ
    | _ => exact wpAny_pure hQ
  cases tg <;> first
    | exact wpAny_pure hQ
    | (cases v <;> first | exact wpAny_pure hQ | exact body _ _ rfl)

theorem Wk.ofWalks {tg : Expr} {G : View} {I : Addr} {fp wr : List Addr} {items : List PV} {P : Nat → Value → Prop} {St : Nat → Heap → Prop}
    (W : Walks prog w A I fp wr items.length P St) (hmem : ∀ i h, St i h → ∀ b ∈ fp, ∃ o, h.get? b = some o)
    (hP : ∀ i v x, items[i]? = some x → P i v → Rep C G x v)
    (hI : ∀ i h, St i h → ∃ o T, h.get? I = some o ∧ o.cls = .type T ∧ ["enumerate", "zip", "dict_itemiterator", "dict_reverseitemiterator", "odict_iterator", "itertools.zip_longest", "itertools.pairwise"].contains T = false) :
    Wk prog w A tg C G I fp wr items St where
  sub := W.sub
  mem := hmem
  frame := W.frame
  turn := fun i x s E Q hi hst hG hQ => by
    have hlt : i < items.length := by
      cases Nat.lt_or_ge i items.length with
      | inl h => exact h
      | inr h => rw [List.getElem?_eq_none h] at hi; (first | exact noS hi | exact noB hi | cases hi)
    refine W.item i s _ E hlt hst fun v h' tk hv hst' hk => hQ v _ fun Q' q => ?_
    obtain ⟨o, T, ho, hc, hT⟩ := hI _ _ hst'
    exact letGo_plain ho hc hT (q h' tk hst' hk (Rep.mono (View.le_of (le_gext hG)) _ (hP i v x hi hv)))
  done := fun s E Q hst hQ => W.done s _ E hst hQ
  self := fun i s E Q hst hQ => W.self i s _ E hst hQ

end
end Mp
end

section
set_option maxRecDepth 20000
/-! MiniPy: what a for or a comprehension goes over. -/
namespace Mp
open PySem PySem.Calls PyProof.Rows PySem.W

structure ItRes (prog : Program) (w : World) (A : Around) (tg : Expr) (C : Addr) (g : View) (s s₂ : Shared) (items : List PV) (G : View) (I : Addr) (fp wr : List Addr) (St : Nat → Heap → Prop) : Prop where
  keeps : Keeps s s₂
  wk : Wk prog w A tg C G I fp wr items St
  st : St 0 s₂.heap
  sub : Sub G s₂.heap
  off : ∀ b ∈ wr, G b = none
  new : ∀ b ∈ wr, s.heap.get? b = none
  feet : ∀ b ∈ fp, s.heap.get? b = none ∨ ∃ o, g b = some o
  view : ∀ a o, G a = some o → g a = some o ∨ s.heap.get? a = none
  len : items.length ≤ lim

noncomputable def Iters (prog : Program) (w : World) (A : Around) (tg : Expr) (C : Addr) (g : View) (s : Shared) (items : List PV) (it : Value) (s₂ : Shared) : Prop :=
  ∃ G I fp wr St, it = .ref I ∧ ItRes prog w A tg C g s s₂ items G I fp wr St

section
variable {prog : Program} {w : World} {A : Around} {s : Shared} {C : Addr} {g : View} {tg : Expr} {E : Value → Shared → Prop}

theorem Iters.back {s₁ s₂ : Shared} {items : List PV} {it : Value} (k : Keeps s s₁) (h : Iters prog w A tg C (gext g s.heap s₁.heap) s₁ items it s₂) (hs : Sub g s.heap) : Iters prog w A tg C g s items it s₂ := by
  obtain ⟨G, I, fp, wr, St, rfl, r⟩ := h
  have kk := keepsK k
  have nn : ∀ b, s₁.heap.get? b = none → s.heap.get? b = none := fun b e => by
    cases q : s.heap.get? b with
    | none => rfl
    | some o => rw [kk b o q] at e; (first | exact noS e | exact noB e | cases e)
  have vv : ∀ a o, gext g s.heap s₁.heap a = some o → g a = some o ∨ s.heap.get? a = none := fun a o e => by
    unfold gext at e
    split at e
    · exact .inl e
    · rename_i q; right; cases z : s.heap.get? a with
      | none => rfl
      | some o' => rw [z] at q; exact absurd rfl q
  refine ⟨G, I, fp, wr, St, rfl, ⟨keepsTr k r.keeps, r.wk, r.st, r.sub, r.off, fun b hb => nn b (r.new b hb), fun b hb => ?_, fun a o e => ?_, r.len⟩⟩
  · rcases r.feet b hb with e | ⟨o, e⟩
    · exact .inl (nn b e)
    · exact (vv b o e).elim (fun e => .inr ⟨o, e⟩) .inl
  · rcases r.view a o e with e | e
    · exact vv a o e
    · exact .inr (nn a e)

theorem none_of_push {h : Heap} {o : Obj} {g : View} (hs : Sub g h) : g h.objs.size = none := by
  cases e : g h.objs.size with
  | none => rfl
  | some o' => have := hs _ _ e; rw [get_size] at this; (first | exact noS this | exact noB this | cases this)

theorem iter_data {x : PV} {v : Value} {items : List PV} {Q : Value → Shared → Prop} (hh : A.handled = none) (hs : Sub g s.heap) (hr : Rep C g x v) (hi : itemsOf x = some items)
    (hQ : ∀ it s₂, Iters prog w A tg C g s items it s₂ → Q it s₂) : wpAny (model prog w) A (pyIter v) Q E s := by
  cases x with
  | list l =>
    change (if l.length ≤ lim then _ else none) = _ at hi
    split at hi
    · rename_i hlen
      (first | exact noS hi | exact noB hi | cases hi)
      obtain ⟨a, vs, n, rfl, ho, r⟩ := hr
      have hl : s.heap.IsList a vs.toArray := ⟨_, hs _ _ ho, rfl, n, rfl⟩
      have hne : a ≠ s.heap.objs.size := Nat.ne_of_lt (Heap.lt_size (hs _ _ ho))
      have W := Walks.list (prog := prog) (w := w) hh s.heap.objs.size a hne vs.toArray
      rw [show vs.toArray.size = items.length from by simp [r.length]] at W
      refine wpAny_pyIter_list hl (hQ _ _ ⟨g, _, _, _, _, rfl, ⟨keeps_heap (keep_push _ _), Wk.ofWalks W ?_ ?_ ?_, ⟨⟨_, Heap.get?_push_size _ rfl, rfl, rfl⟩, hl.push _⟩, hs.keep (keep_push _ _), ?_, ?_, ?_, fun uu uu e => .inl e, hlen⟩⟩)
      · rintro i h ⟨⟨o, h1, uu⟩, ⟨o', h2, uu⟩⟩ b hb
        rcases List.mem_cons.mp hb with rfl | hb
        · exact ⟨o, h1⟩
        · rw [List.mem_singleton.mp hb]; exact ⟨o', h2⟩
      · intro i v x hx hv
        obtain ⟨u, hu, ru⟩ := r.get hx
        have : vs[i]? = some v := by simpa using hv
        rw [hu] at this; (first | exact noS this | exact noB this | cases this); exact ru
      · rintro i h ⟨⟨o, h1, h2, uu⟩, uu⟩; exact ⟨o, _, h1, h2, by decide⟩
      · intro b hb; rw [List.mem_singleton.mp hb]; exact none_of_push (o := default) hs
      · intro b hb; rw [List.mem_singleton.mp hb]; exact get_size _
      · intro b hb
        rcases List.mem_cons.mp hb with rfl | hb
        · exact .inl (get_size _)
        · rw [List.mem_singleton.mp hb]; exact .inr ⟨_, ho⟩
    · cases hi
  | tup l =>
    change (if l.length ≤ lim then _ else none) = _ at hi
    split at hi
    · rename_i hlen
      (first | exact noS hi | exact noB hi | cases hi)
      obtain ⟨a, vs, o, n, rfl, ho, hc, hd, r⟩ := hr
      have hl : s.heap.IsTuple a vs.toArray := ⟨_, hs _ _ ho, hc, n, hd⟩
      have hne : a ≠ s.heap.objs.size := Nat.ne_of_lt (Heap.lt_size (hs _ _ ho))
      have W := Walks.tuple (prog := prog) (w := w) hh s.heap.objs.size a hne vs.toArray
      rw [show vs.toArray.size = items.length from by simp [r.length]] at W
      refine wpAny_pyIter_tuple hl (hQ _ _ ⟨g, _, _, _, _, rfl, ⟨keeps_heap (keep_push _ _), Wk.ofWalks W ?_ ?_ ?_, ⟨⟨_, Heap.get?_push_size _ rfl, rfl, rfl⟩, hl.push _⟩, hs.keep (keep_push _ _), ?_, ?_, ?_, fun uu uu e => .inl e, hlen⟩⟩)
      · rintro i h ⟨⟨o, h1, uu⟩, ⟨o', h2, uu⟩⟩ b hb
        rcases List.mem_cons.mp hb with rfl | hb
        · exact ⟨o, h1⟩
        · rw [List.mem_singleton.mp hb]; exact ⟨o', h2⟩
      · intro i v x hx hv
        obtain ⟨u, hu, ru⟩ := r.get hx
        have : vs[i]? = some v := by simpa using hv
        rw [hu] at this; (first | exact noS this | exact noB this | cases this); exact ru
      · rintro i h ⟨⟨o, h1, h2, uu⟩, uu⟩; exact ⟨o, _, h1, h2, by decide⟩
      · intro b hb; rw [List.mem_singleton.mp hb]; exact none_of_push (o := default) hs
      · intro b hb; rw [List.mem_singleton.mp hb]; exact get_size _
      · intro b hb
        rcases List.mem_cons.mp hb with rfl | hb
        · exact .inl (get_size _)
        · rw [List.mem_singleton.mp hb]; exact .inr ⟨_, ho⟩
    · cases hi
  | str l =>
    change (if l.length ≤ lim then _ else none) = _ at hi
    split at hi
    · rename_i hlen
      (first | exact noS hi | exact noB hi | cases hi)
      obtain ⟨t, rfl⟩ := hr
      by_cases hw : (Str.mk l.toArray).cps.all (· < 128) = true
      · have W := Walks.strAscii (prog := prog) (w := w) hh s.heap.objs.size ⟨l.toArray⟩ t
        rw [show (Str.mk l.toArray).cps.size = (l.map fun c => PV.str [c]).length from by simp] at W
        refine wpAny_pyIter_ascii hw (hQ _ _ ⟨g, _, _, _, _, rfl, ⟨keeps_heap (keep_push _ _), Wk.ofWalks W ?_ ?_ ?_, ⟨_, Heap.get?_push_size _ rfl, rfl, rfl⟩, hs.keep (keep_push _ _), ?_, ?_, ?_, fun uu uu e => .inl e, by simpa using hlen⟩⟩)
        · rintro i h ⟨o, h1, uu⟩ b hb; rw [List.mem_singleton.mp hb]; exact ⟨o, h1⟩
        · rintro i v x hx ⟨c, u, hc, rfl⟩
          have hc' : l[i]? = some c := by simpa using hc
          rw [List.getElem?_map, hc'] at hx
          (first | exact noS hx | exact noB hx | cases hx); exact ⟨u, rfl⟩
        · rintro i h ⟨o, h1, h2, uu⟩; exact ⟨o, _, h1, h2, by decide⟩
        · intro b hb; rw [List.mem_singleton.mp hb]; exact none_of_push (o := default) hs
        · intro b hb; rw [List.mem_singleton.mp hb]; exact get_size _
        · intro b hb; rw [List.mem_singleton.mp hb]; exact .inl (get_size _)
      · have hw' : (Str.mk l.toArray).cps.all (· < 128) = false := by simpa using hw
        have W := Walks.strWide (prog := prog) (w := w) hh s.heap.objs.size ⟨l.toArray⟩ t
        rw [show (Str.mk l.toArray).cps.size = (l.map fun c => PV.str [c]).length from by simp] at W
        refine wpAny_pyIter_wide hw' (hQ _ _ ⟨g, _, _, _, _, rfl, ⟨keeps_heap (keep_push _ _), Wk.ofWalks W ?_ ?_ ?_, ⟨_, Heap.get?_push_size _ rfl, rfl, rfl⟩, hs.keep (keep_push _ _), ?_, ?_, ?_, fun uu uu e => .inl e, by simpa using hlen⟩⟩)
        · rintro i h ⟨o, h1, uu⟩ b hb; rw [List.mem_singleton.mp hb]; exact ⟨o, h1⟩
        · rintro i v x hx ⟨c, u, hc, rfl⟩
          have hc' : l[i]? = some c := by simpa using hc
          rw [List.getElem?_map, hc'] at hx
          (first | exact noS hx | exact noB hx | cases hx); exact ⟨u, rfl⟩
        · rintro i h ⟨o, h1, h2, uu⟩; exact ⟨o, _, h1, h2, by decide⟩
        · intro b hb; rw [List.mem_singleton.mp hb]; exact none_of_push (o := default) hs
        · intro b hb; rw [List.mem_singleton.mp hb]; exact get_size _
        · intro b hb; rw [List.mem_singleton.mp hb]; exact .inl (get_size _)
    · cases hi
  | _ => (first | exact noS hi | exact noB hi | cases hi)

theorem rangeSize_eq {a b c : Int} (hc : c ≠ 0) : Builtin.Range.rangeSize a b c = (rangeN a b c : Nat) := by
  unfold Builtin.Range.rangeSize rangeN
  by_cases h : 0 < c
  · rw [if_pos h, if_pos h]
    split
    · have : 0 ≤ (b - a - 1) / c := Int.ediv_nonneg (by omega) (by omega)
      omega
    · rfl
  · rw [if_neg h, if_neg h]
    by_cases h' : b < a
    · rw [if_pos h', if_pos h']
      have : 0 ≤ (a - b - 1) / (-c) := Int.ediv_nonneg (by omega) (by omega)
      omega
    · rw [if_neg h', if_neg h']; rfl

theorem range_small {a b c : Int} {items : List PV} (h : range3 a b c = some items) :
    Builtin.Range.small a b c = true ∧ items = rangeL a c (rangeN a b c) ∧ rangeN a b c ≤ lim ∧ c ≠ 0 ∧ smallI a = true ∧ smallI b = true ∧ -1073741824 < c ∧ c < 1073741824 := by
  unfold range3 at h
  split at h
  · rename_i q
    simp only [Bool.and_eq_true, decide_eq_true_eq] at q
    (first | exact noS h | exact noB h | cases h)
    refine ⟨?_, rfl, q.2, q.1.2, q.1.1.1.1.1, q.1.1.1.1.2, q.1.1.1.2, q.1.1.2⟩
    have h1 := q.1.1.1.1.1
    have h2 := q.1.1.1.1.2
    simp only [smallI, Bool.and_eq_true, decide_eq_true_eq] at h1 h2
    unfold Builtin.Range.small
    rw [rangeSize_eq q.1.2]
    have h3 := q.2
    simp only [lim] at h3
    simp only [Builtin.Range.rangeFitsLong, Bool.and_eq_true, Bool.or_eq_true, decide_eq_true_eq, beq_iff_eq]
    refine ⟨⟨⟨⟨⟨by omega, by omega⟩, by omega, by omega⟩, by omega, by omega⟩, by omega, by omega⟩, ?_⟩
    right
    split <;> simp only [Bool.and_eq_true, decide_eq_true_eq] <;> omega
  · (first | exact noS h | exact noB h | cases h)

theorem iter_range {a b c : Int} {t u v : Tok} {r : Addr} {items : List PV} {Q : Value → Shared → Prop} (hh : A.handled = none) (hr : IsRange s.heap r a b c t u v) (hi : range3 a b c = some items)
    (hQ : ∀ it s₂, Iters prog w A tg C (fun uu => none) s items it s₂ → Q it s₂) : wpAny (model prog w) A (pyIter (.ref r)) Q E s := by
  obtain ⟨h1, h2, h3, h4, uu⟩ := range_small hi
  subst h2
  have W := Walks.range (prog := prog) (w := w) hh s.heap.objs.size a c (rangeN a b c)
  rw [show (rangeN a b c) = (rangeL a c (rangeN a b c)).length from by simp [rangeL]] at W
  refine wpAny_pyIter_range hr h1 (hQ _ _ ⟨fun uu => none, _, _, _, _, rfl, ⟨keeps_heap (keep_push _ _), Wk.ofWalks W ?_ ?_ ?_, ?_, fun uu uu e => (by (first | exact noS e | exact noB e | cases e)), fun uu uu => rfl, ?_, ?_, fun uu uu e => (by (first | exact noS e | exact noB e | cases e)), by simpa [rangeL] using h3⟩⟩)
  · intro i h h1 b hb; rw [List.mem_singleton.mp hb]; exact ⟨_, h1⟩
  · rintro i v x hx ⟨t, rfl⟩
    have hlt : i < rangeN a b c := by
      cases Nat.lt_or_ge i (rangeN a b c) with
      | inl h => exact h
      | inr h => rw [List.getElem?_eq_none (by simpa [rangeL] using h)] at hx; (first | exact noS hx | exact noB hx | cases hx)
    simp only [rangeL, List.getElem?_map, List.getElem?_range hlt, Option.map_some, Option.some.injEq] at hx
    subst hx; exact ⟨t, rfl⟩
  · intro i h h1; exact ⟨_, _, h1, rfl, by decide⟩
  · rw [rangeSize_eq h4]
    have := Heap.get?_push_size s.heap (o := { cls := .type "range_iterator", data := .fields #[rawInt a, rawInt ((rangeN a b c : Nat) : Int), rawInt c] }) rfl
    simpa [IsRangeIter, rangeL] using this
  · intro b hb; rw [List.mem_singleton.mp hb]; exact get_size _
  · intro b hb; rw [List.mem_singleton.mp hb]; exact .inl (get_size _)

theorem zipApart (z p q : Nat) (h : p < z) (h' : q < z) : ZipApart (z + 4) (z + 2) (z + 3) z (z + 1) p q := by
  constructor <;> (refine neN ?_; omega)
theorem zipT_get : ∀ {xs ys : List PV} {i : Nat} {z : PV}, (zipT xs ys)[i]? = some z → ∃ x y, xs[i]? = some x ∧ ys[i]? = some y ∧ z = .tup [x, y]
  | x :: _, y :: _, 0, _, h => ⟨x, y, rfl, rfl, (Option.some.inj h).symm⟩
  | _ :: xs, _ :: ys, i + 1, _, h => zipT_get (xs := xs) (ys := ys) h
  | [], _, _, _, h => noS h
  | _ :: _, [], _, _, h => noS h
theorem zipT_len : ∀ (xs ys : List PV), (zipT xs ys).length = min xs.length ys.length
  | [], _ => (Nat.zero_min _).symm
  | _ :: _, [] => (Nat.min_zero _).symm
  | _ :: xs, _ :: ys => (congrArg (· + 1) (zipT_len xs ys)).trans (Nat.add_min_add_right _ _ _).symm

/-- zip of two lists, made and asked for its iterator -/
theorem iter_zip {xs ys : List PV} {a b : Value} {elts : List Expr} {k : Nat} {pos : Pos} {Q : Value → Shared → Prop} (hh : A.handled = none) (hs : Sub g s.heap)
    (ha : Rep C g (.list xs) a) (hb : Rep C g (.list ys) b) (h1 : xs.length ≤ lim) (h2 : ys.length ≤ lim)
    (hQ : ∀ it s₂, Iters prog w A (.Tuple elts k pos) C g s (zipT xs ys) it s₂ → Q it s₂) :
    wpAny (model prog w) A (call (.type "zip") [a, b]) (fun zv s₁ => wpAny (model prog w) A (pyIter zv) Q E s₁) E s := by
  obtain ⟨p, vs, n, rfl, ho, r⟩ := ha
  obtain ⟨p', us, n', rfl, ho', r'⟩ := hb
  have hl : s.heap.IsList p vs.toArray := ⟨_, hs _ _ ho, rfl, n, rfl⟩
  have hl' : s.heap.IsList p' us.toArray := ⟨_, hs _ _ ho', rfl, n', rfl⟩
  have lt : p < s.heap.objs.size := Heap.lt_size (hs _ _ ho)
  have lt' : p' < s.heap.objs.size := Heap.lt_size (hs _ _ ho')
  refine call_zip_2 hl hl' fun h' z1 z2 z3 i1 i2 hsz hk => ?_
  have D := zipApart _ _ _ lt lt'
  have W := WalksT.zip2 (prog := prog) (w := w) hh _ _ _ _ _ p p' D vs.toArray us.toArray
  have hmin : min vs.toArray.size us.toArray.size = (zipT xs ys).length := by rw [zipT_len]; simp [r.length, r'.length]
  rw [hmin] at W
  have st0 : IsZip h' (s.heap.objs.size + 4) (s.heap.objs.size + 2) (s.heap.objs.size + 3) .none ∧ IsPair h' (s.heap.objs.size + 2) (.ref s.heap.objs.size) (.ref (s.heap.objs.size + 1)) ∧
      (∃ a b, IsPair h' (s.heap.objs.size + 3) a b) ∧ h'.IsListIter s.heap.objs.size p 0 ∧ h'.IsListIter (s.heap.objs.size + 1) p' 0 ∧ h'.IsList p vs.toArray ∧ h'.IsList p' us.toArray :=
    ⟨z1, z2, ⟨_, _, z3⟩, i1, i2, hl.at fun o e => hk _ o e, hl'.at fun o e => hk _ o e⟩
  have big : ∀ j, s.heap.get? (s.heap.objs.size + j) = none := fun j => by
    cases e : s.heap.get? (s.heap.objs.size + j) with
    | none => rfl
    | some o => have := Heap.lt_size e; exact absurd this (by show ¬ (s.heap.objs.size + j < s.heap.objs.size); omega)
  have wrn : ∀ q ∈ [s.heap.objs.size + 4, s.heap.objs.size + 3, s.heap.objs.size, s.heap.objs.size + 1], s.heap.get? q = none := by
    intro q hq
    simp only [List.mem_cons, List.not_mem_nil, or_false] at hq
    rcases hq with rfl | rfl | rfl | rfl
    · exact big 4
    · exact big 3
    · exact big 0
    · exact big 1
  refine W.self 0 _ _ _ st0 (hQ _ _ ⟨g, _, [s.heap.objs.size + 4, s.heap.objs.size + 2, s.heap.objs.size + 3, s.heap.objs.size, s.heap.objs.size + 1, p, p'], [s.heap.objs.size + 4, s.heap.objs.size + 3, s.heap.objs.size, s.heap.objs.size + 1], (fun i h => IsZip h (s.heap.objs.size + 4) (s.heap.objs.size + 2) (s.heap.objs.size + 3) .none ∧ IsPair h (s.heap.objs.size + 2) (.ref s.heap.objs.size) (.ref (s.heap.objs.size + 1)) ∧
      (∃ a b, IsPair h (s.heap.objs.size + 3) a b) ∧ h.IsListIter s.heap.objs.size p i ∧ h.IsListIter (s.heap.objs.size + 1) p' i ∧ h.IsList p vs.toArray ∧ h.IsList p' us.toArray), rfl, ⟨keeps_heap hk, ?_, st0, hs.keep hk, ?_, wrn, ?_, fun uu uu e => .inl e, by rw [zipT_len]; omega⟩⟩)
  · refine ⟨W.sub, ?_, W.frame, ?_, fun s E Q hst hQ => W.done s _ E hst hQ, fun i s E Q hst hQ => W.self i s _ E hst hQ⟩
    · rintro i h ⟨q1, q2, ⟨uu, uu, q3⟩, ⟨o4, q4, uu⟩, ⟨o5, q5, uu⟩, ⟨o6, q6, uu⟩, ⟨o7, q7, uu⟩⟩ x hx
      simp only [List.mem_cons, List.not_mem_nil, or_false] at hx
      rcases hx with rfl | rfl | rfl | rfl | rfl | rfl | rfl
      · exact ⟨_, q1⟩
      · exact ⟨_, q2⟩
      · exact ⟨_, q3⟩
      · exact ⟨_, q4⟩
      · exact ⟨_, q5⟩
      · exact ⟨_, q6⟩
      · exact ⟨_, q7⟩
    · intro i x s₀ E' Q' hx hst hG hQ'
      have hlt : i < (zipT xs ys).length := by
        cases Nat.lt_or_ge i (zipT xs ys).length with
        | inl h => exact h
        | inr h => rw [List.getElem?_eq_none h] at hx; (first | exact noS hx | exact noB hx | cases hx)
      obtain ⟨x1, y1, hx1, hy1, rfl⟩ := zipT_get hx
      obtain ⟨u1, hu1, ru1⟩ := r.get hx1
      obtain ⟨u2, hu2, ru2⟩ := r'.get hy1
      refine W.item i s₀ _ E' hlt hst fun T vals h₁ tk₁ hv hT hit hm hk₁ => ?_
      obtain ⟨v1, v2, hv1, hv2, rfl⟩ := hv
      have e1 : vs[i]? = some v1 := by simpa using hv1
      have e2 : us[i]? = some v2 := by simpa using hv2
      rw [hu1] at e1; rw [hu2] at e2; cases e1; cases e2
      refine hQ' _ _ fun Q'' hq => W.go elts k pos i T _ _ E' hm fun h₂ st₂ hk₂ => ?_
      refine hq h₂ tk₁ st₂ (fun b o hb e => hk₂ b o hb (hk₁ b o hb e)) ?_
      obtain ⟨o, ho1, hc1, n1, hd1⟩ := hit
      have hTn : s₀.heap.get? T = none := by
        cases e : s₀.heap.get? T with
        | none => rfl
        | some o => exact absurd (Heap.lt_size e) (Nat.not_lt.mpr hT)
      refine ⟨T, [u1, u2], o, n1, rfl, ?_, hc1, hd1, ?_⟩
      · rw [gext_new hTn]; exact hk₂ T o (W.apart i T _ hm) ho1
      · exact Reps.cons (Rep.mono (View.le_of (le_gext hG)) _ ru1) (Reps.cons (Rep.mono (View.le_of (le_gext hG)) _ ru2) Reps.nil)
  · intro b hb
    cases e : g b with
    | none => rfl
    | some o => have := hs _ _ e; rw [wrn b hb] at this; (first | exact noS this | exact noB this | cases this)
  · intro b hb
    simp only [List.mem_cons, List.not_mem_nil, or_false] at hb
    rcases hb with rfl | rfl | rfl | rfl | rfl | rfl | rfl
    · exact .inl (big 4)
    · exact .inl (big 2)
    · exact .inl (big 3)
    · exact .inl (big 0)
    · exact .inl (big 1)
    · exact .inr ⟨_, ho⟩
    · exact .inr ⟨_, ho'⟩
end
end Mp
end

section
set_option maxRecDepth 20000
/-! MiniPy: the texts tied to the program's own form; the facts that expressions lean on. -/
namespace Mp
open PySem PySem.Calls PyProof.Rows PySem.W

structure NT where
  glob : Nat → Option (Str × Option Str)
  call : Nat → Option Str
  meth : Nat → Option Str
  attr : Nat → Option Str

noncomputable abbrev Sc := List (Str × NameKind)
noncomputable def isV (sc : Sc) (n : Str) : Bool := (sc.lookup n == some .local || sc.lookup n == some .cell || sc.lookup n == some .free) && !(n == ("__debug__" : Str)) && !(n == ("__classdict__" : Str))
noncomputable def isG (sc : Sc) (n : Str) : Bool := sc.lookup n == some .globalImplicit && !(n == ("__debug__" : Str))
noncomputable def relab (names sc : Sc) : Sc := names.map fun p => if p.2 == .free && sc.lookup p.1 == some .cell then (p.1, .cell) else p

mutual
noncomputable def tgNs (ns : List Str) : Tg → List Str
  | .v i => (ns[i]?).toList
  | .t l => tgsNs ns l
noncomputable def tgsNs (ns : List Str) : Tgs → List Str
  | .nil => []
  | .cons a l => tgNs ns a ++ tgsNs ns l
end

noncomputable def compOk (ns : List Str) (sc : Sc) (scope : Scope) (t : Tg) : Bool :=
  scope.kind == .function && !ns.contains (Str.ofString ".0") &&
  scope.names.all fun p => p.2 != .cell && (p.2 != .local || (scope.names.lookup p.1 == some .local && (p.1 == Str.ofString ".0" || (tgNs ns t).contains p.1))) &&
    (p.2 != .free || sc.lookup p.1 == some .cell || sc.lookup p.1 == some .free)

noncomputable def oneCell (n : Str) : Sc → Bool
  | [] => false
  | p :: r => if p.2 == .cell then p.1 == n && r.all (fun p => p.2 != .cell) else oneCell n r
/-- one target alone, a cell: a comprehension within reads it -/
noncomputable def compOk1 (ns : List Str) (sc : Sc) (scope : Scope) (t : Tg) (tg : Expr) : Bool := match t, tg with
  | .v i, .Name n _ => ns[i]? == some n && scope.kind == .function && !ns.contains (Str.ofString ".0") && scope.names.lookup n == some .cell && oneCell n scope.names &&
    scope.names.all fun p => (p.2 != .local || (scope.names.lookup p.1 == some .local && p.1 == Str.ofString ".0")) && (p.2 != .free || sc.lookup p.1 == some .cell || sc.lookup p.1 == some .free)
  | _, _ => false

noncomputable def noCall0 : Expr → Bool
  | .Call (.Name _ _) [] [] _ => false
  | _ => true
noncomputable def noSlice : Expr → Bool
  | .Slice _ _ _ _ => false
  | _ => true
noncomputable def noSet : Expr → Bool
  | .Set _ _ _ => false
  | _ => true
noncomputable def isAbs : E → Bool
  | .abs => true
  | _ => false
noncomputable def isTop : E → Bool
  | .cst (.bool true) => true
  | _ => false

theorem top_is {c : E} (h : isTop c = true) : c = .cst (.bool true) := by
  cases c with
  | cst x => cases x with
    | bool b => cases b with
      | true => rfl
      | false => exact noB h
    | _ => exact noB h
  | _ => exact noB h
mutual
noncomputable def matchE (N : NT) (ns : List Str) (sc : Sc) : E → Expr → Bool
  | .abs, _ => false
  | .cst c, ex => match c, ex with
    | .none, .Constant .none _ _ => true
    | .bool b, .Constant (.bool b') _ _ => b == b'
    | .int i, .Constant (.int j) _ _ => i == j
    | .str l, .Constant (.str x) _ _ => x.cps.toList == l
    | _, _ => false
  | .var i, ex => match ex with
    | .Name n _ => ns[i]? == some n && isV sc n
    | _ => false
  | .glob k, ex => match ex with
    | .Name n _ => N.glob k == some (n, none) && isG sc n
    | .Attribute (.Name n _) a _ => N.glob k == some (n, some a) && isG sc n
    | _ => false
  | .bin o a b, ex => match ex with
    | .BinOp l p r _ => opOf o == p && matchE N ns sc a l && matchE N ns sc b r
    | _ => false
  | .neg a, ex => match ex with
    | .UnaryOp .USub x _ => matchE N ns sc a x
    | _ => false
  | .not a, ex => match ex with
    | .UnaryOp .Not x _ => matchE N ns sc a x
    | _ => false
  | .cmp o a b, ex => match ex with
    | .Compare l [p] [r] _ => cmOf o == p && !behindInMarks p r && matchE N ns sc a l && matchE N ns sc b r
    | _ => false
  | .and l, ex => match ex with
    | .BoolOp .And vs _ => matchEs N ns sc l vs
    | _ => false
  | .or l, ex => match ex with
    | .BoolOp .Or vs _ => matchEs N ns sc l vs
    | _ => false
  | .ite t a b, ex => match ex with
    | .IfExp x y z _ => matchE N ns sc t x && matchE N ns sc a y && matchE N ns sc b z
    | _ => false
  | .list l, ex => match ex with
    | .List es _ => decide (es.length ≤ 1000) && matchEs N ns sc l es
    | _ => false
  | .tup l, ex => match ex with
    | .Tuple es _ _ => decide (es.length ≤ 1000) && matchEs N ns sc l es
    | _ => false
  | .comp e t it c, ex => match ex with
    | .ListComp elt [⟨tg, iter, ifs, asy⟩] scope _ => asy == 0 && noSet iter && (compOk ns sc scope t && matchT ns (fun n => (relab scope.names sc).lookup n == some .local) t tg || compOk1 ns sc scope t tg) &&
        matchIt N ns sc it tg iter && matchE N ns (relab scope.names sc) e elt && (match ifs with
          | [] => isTop c
          | [i] => matchE N ns (relab scope.names sc) c i
          | _ => false)
    | _ => false
  | .call f l, ex => match ex with
    | .Call (.Name n _) args [] _ => N.call f == some n && isG sc n && matchEs N ns sc l args
    | _ => false
  | .meth o m l, ex => match ex with
    | .Call (.Attribute v n ap) args [] pos => N.meth m == some n && noCall0 v && ap.endLine == pos.line && decide (args.length < 29) && matchE N ns sc o v && matchEs N ns sc l args
    | _ => false
  | .attr o a, ex => match ex with
    | .Attribute v n _ => N.attr a == some n && noCall0 v && matchE N ns sc o v
    | _ => false
  | .sub o i, ex => match ex with
    | .Subscript v s _ => noSlice s && matchE N ns sc o v && matchE N ns sc i s
    | _ => false
  | .slice o l u s, ex => match ex with
    | .Subscript v (.Slice a b c _) _ => matchE N ns sc o v && (match a with | none => isAbs l | some a => matchE N ns sc l a) &&
        (match b with | none => isAbs u | some b => matchE N ns sc u b) && (match c with | none => isAbs s | some c => matchE N ns sc s c)
    | _ => false
  | .lrange a b c, ex => match ex with
    | .Call (.Name n _) [.Call (.Name r _) [x, y, z] [] _] [] _ => n == Str.ofString "list" && r == Str.ofString "range" && isG sc n && isG sc r && matchE N ns sc a x && matchE N ns sc b y && matchE N ns sc c z
    | _ => false
  | .isBool a, ex => match ex with
    | .Call (.Name n _) [x, .Name b _] [] _ => n == Str.ofString "isinstance" && b == Str.ofString "bool" && isG sc n && isG sc b && matchE N ns sc a x
    | _ => false
noncomputable def matchEs (N : NT) (ns : List Str) (sc : Sc) : Es → List Expr → Bool
  | .nil, [] => true
  | .cons e l, x :: xs => matchE N ns sc e x && matchEs N ns sc l xs
  | _, _ => false
noncomputable def matchIt (N : NT) (ns : List Str) (sc : Sc) : It → Expr → Expr → Bool
  | .e x, _, ex => matchE N ns sc x ex
  | .range1 b, _, ex => match ex with
    | .Call (.Name r _) [y] [] _ => r == Str.ofString "range" && isG sc r && matchE N ns sc b y
    | _ => false
  | .range2 a b, _, ex => match ex with
    | .Call (.Name r _) [x, y] [] _ => r == Str.ofString "range" && isG sc r && matchE N ns sc a x && matchE N ns sc b y
    | _ => false
  | .range3 a b c, _, ex => match ex with
    | .Call (.Name r _) [x, y, z] [] _ => r == Str.ofString "range" && isG sc r && matchE N ns sc a x && matchE N ns sc b y && matchE N ns sc c z
    | _ => false
  | .zip a b, tg, ex => match tg, ex with
    | .Tuple _ _ _, .Call (.Name r _) [x, y] [] _ => r == Str.ofString "zip" && isG sc r && matchE N ns sc a x && matchE N ns sc b y
    | _, _ => false
end

/-! the world and what is known of it -/
structure Wd where
  prog : Program
  w : World
  h₀ : Heap
  C : Addr
  S : Addr × Addr

/-- a global name is loaded as v -/
noncomputable def Loads (W : Wd) (A : Around) (n : Str) (v : Value) : Prop :=
  ∀ (env : Env) (s : Shared) (E : Value → Shared → Prop) (Q : Value → Shared → Prop), env.globals = mainGlobals → env.builtins = builtinsNs → Keep W.h₀ s.heap → Q v s → wpAny (model W.prog W.w) A (loadGlobal env n) Q E s
noncomputable def KeepOK (W : Wd) (fv : Value) : Prop :=
  ∀ (M : Model) (h : Heap), Keep W.h₀ h → ∃ k, (k = Keeper.frame ∨ k = Keeper.machine ∨ k = Keeper.boundFrame) ∧ Looks M h (keeperOf fv) k
/-- there is a frame at hand -/
noncomputable def HasFr (W : Wd) (h : Heap) : Prop := ∃ L m, Fr W.h₀ L h m
noncomputable def CallOK (W : Wd) (A : Around) (fv : Value) (xs : List PV) (r : PV) : Prop :=
  ∀ (g : View) (s : Shared) (vs : List Value) (E : Value → Shared → Prop), Sub g s.heap → HasFr W s.heap → Reps W.C g xs vs →
    wpAny (model W.prog W.w) A (call fv vs) (fun v s' => Post W.C g s r v s') E s

structure Good (W : Wd) (N : NT) (T : Tabs) (A : Around) : Prop where
  hh : A.handled = none
  hu : A.units + 64 < cLine
  glob : ∀ k x n, T.glob k = some x → N.glob k = some (n, none) → ∃ v, Loads W A n v ∧ Rep W.C (fun uu => none) x v
  globA : ∀ k x n a, T.glob k = some x → N.glob k = some (n, some a) → ∃ c, Loads W A n (.ref c) ∧
    ∀ (s : Shared) (E : Value → Shared → Prop), Keep W.h₀ s.heap → wpAny (model W.prog W.w) A (getAttr (.ref c) a true) (fun v s' => Keeps s s' ∧ Rep W.C (fun uu => none) x v) E s
  call : ∀ f n xs r, T.call f xs = some r → N.call f = some n → ∃ fv, Loads W A n fv ∧ KeepOK W fv ∧ CallOK W A fv xs r
  meth : ∀ m n x xs r, T.meth m x xs = some r → N.meth m = some n → ∀ (g : View) (s : Shared) (v : Value) (pl : Sem Bool) (E : Value → Shared → Prop) (Q : Value × List Value → Shared → Prop),
    Sub g s.heap → HasFr W s.heap → Rep W.C g x v → (∀ fv, KeepOK W fv → CallOK W A fv (x :: xs) r → Q (fv, [v]) s) → wpAny (model W.prog W.w) A (getMethod v n pl) Q E s
  attr : ∀ a n x r, T.attr a x = some r → N.attr a = some n → ∀ (g : View) (s : Shared) (v : Value) (E : Value → Shared → Prop), Sub g s.heap → HasFr W s.heap → Rep W.C g x v →
    wpAny (model W.prog W.w) A (getAttr v n true) (fun v s' => Post W.C g s r v s') E s
  setA : ∀ a n, fieldNames[a]? = some n → ∀ (s : Shared) (x d : Addr) (es : List DictEntry) (m : Nat) (vs : List Value) (v : Value) (E : Value → Shared → Prop) (Q : Unit → Shared → Prop), Keep W.h₀ s.heap → s.heap.get? x = some (instObj W.C d) →
    s.heap.get? d = some (dictOf es m) → Ents fieldNames es vs → vs.length = a → (∀ h' tk hs t m', h'.get? d = some (dictOf (es ++ [⟨hs, .str n t, v⟩]) m') → Heap.SameBut d s.heap h' → Q () { s with heap := h', toks := tk }) →
    wpAny (model W.prog W.w) A (setAttr (.ref x) n v) Q E s
  range : Loads W A (Str.ofString "range") (.type "range")
  zip : Loads W A (Str.ofString "zip") (.type "zip")
  list : Loads W A (Str.ofString "list") (.type "list")
  isinst : Loads W A (Str.ofString "isinstance") (.builtin "isinstance")
  bool : Loads W A (Str.ofString "bool") (.type "bool")

/-- the environment that an expression is evaluated in -/
structure EnvG (W : Wd) (env : Env) (h : Heap) : Prop where
  gl : env.globals = mainGlobals
  bu : env.builtins = builtinsNs
  fn : env.scope.kind = .function
  fr : ∃ m, Fr W.h₀ env.locals h m
  cl : ∀ n, (env.kindOf n = some .cell ∨ env.kindOf n = some .free) → ∃ c, env.cells.lookup n = some c

noncomputable def EnvRep (ns : List Str) (env : Env) (h : Heap) (C : Addr) (g : View) (ρ : Rho) : Prop :=
  ∀ (i : Nat) (n : Str) (x : PV), ns[i]? = some n → ρ[i]? = some (some x) →
    (env.kindOf n = some .local → ∃ m v, h.Ns env.locals m ∧ m n = some v ∧ Rep C g x v) ∧
    ((env.kindOf n = some .cell ∨ env.kindOf n = some .free) → ∃ c v, env.cells.lookup n = some c ∧ h.IsCell c (some v) ∧ Rep C g x v)

theorem EnvG.keep {W : Wd} {env : Env} {h h' : Heap} (x : EnvG W env h) (k : Keep h h') : EnvG W env h' :=
  ⟨x.gl, x.bu, x.fn, let ⟨m, F⟩ := x.fr; ⟨m, F.grownK k⟩, x.cl⟩
theorem EnvG.base {W : Wd} {env : Env} {h : Heap} (x : EnvG W env h) : Keep W.h₀ h := let ⟨_, F⟩ := x.fr; F.keep
theorem EnvG.has {W : Wd} {env : Env} {h : Heap} (x : EnvG W env h) : HasFr W h := let ⟨m, F⟩ := x.fr; ⟨_, m, F⟩
theorem EnvRep.keep {ns : List Str} {env : Env} {h h' : Heap} {C : Addr} {g g' : View} {ρ : Rho} (x : EnvRep ns env h C g ρ) (k : Keep h h') (hg : ∀ a o, g a = some o → g' a = some o) :
    EnvRep ns env h' C g' ρ := fun i n y hn hy => by
  obtain ⟨h1, h2⟩ := x i n y hn hy
  refine ⟨fun e => ?_, fun e => ?_⟩
  · obtain ⟨m, v, a, b, c⟩ := h1 e; exact ⟨m, v, a.keeps k, b, Rep.mono (View.le_of hg) _ c⟩
  · obtain ⟨c, v, a, b, d⟩ := h2 e; exact ⟨c, v, a, b.keeps k, Rep.mono (View.le_of hg) _ d⟩

section
variable {C : Addr} {g : View} {s s₁ s' : Shared}
theorem Post.back {x : PV} {v : Value} (k : Keeps s s₁) (h : Post C (gext g s.heap s₁.heap) s₁ x v s') : Post C g s x v s' :=
  ⟨keepsTr k h.keeps, by have := h.rep; rwa [gext_gext (keepsK k) (keepsK h.keeps)] at this⟩
theorem NewList.back {h h₁ h' : Heap} {v : Value} (k : Keep h h₁) (x : NewList h₁ h' v) : NewList h h' v := by
  obtain ⟨a, vs, n, e, e1, e2⟩ := x
  refine ⟨a, vs, n, e, ?_, e2⟩
  cases q : h.get? a with
  | none => rfl
  | some o => rw [k a o q] at e1; cases e1
end
end Mp
end

section
set_option maxRecDepth 20000
/-! MiniPy: what the checker's yes says of the program's text. -/
namespace Mp
open PySem PySem.Calls PyProof.Rows PySem.W

section
variable {N : NT} {ns : List Str} {sc : Sc} {P : Expr → Prop} {ex : Expr}

@[elab_as_elim] theorem m_none (h : matchE N ns sc (.cst .none) ex = true) (k : ∀ u q, P (.Constant .none u q)) : P ex := by
  cases ex with
  | Constant c u q => cases c with
    | none => exact k u q
    | _ => exact noB h
  | _ => exact noB h
@[elab_as_elim] theorem m_bool {b : Bool} (h : matchE N ns sc (.cst (.bool b)) ex = true) (k : ∀ u q, P (.Constant (.bool b) u q)) : P ex := by
  cases ex with
  | Constant c u q => cases c with
    | bool b' => have e : b = b' := eqB h; subst e; exact k u q
    | _ => exact noB h
  | _ => exact noB h
@[elab_as_elim] theorem m_int {i : Int} (h : matchE N ns sc (.cst (.int i)) ex = true) (k : ∀ u q, P (.Constant (.int i) u q)) : P ex := by
  cases ex with
  | Constant c u q => cases c with
    | int j => have e : i = j := eqB h; subst e; exact k u q
    | _ => exact noB h
  | _ => exact noB h
@[elab_as_elim] theorem m_str {l : List Nat} (h : matchE N ns sc (.cst (.str l)) ex = true) (k : ∀ x u q, x.cps.toList = l → P (.Constant (.str x) u q)) : P ex := by
  cases ex with
  | Constant c u q => cases c with
    | str x => exact k x u q (eqB h)
    | _ => exact noB h
  | _ => exact noB h
@[elab_as_elim] theorem m_var {i : Nat} (h : matchE N ns sc (.var i) ex = true) (k : ∀ n q, ns[i]? = some n → isV sc n = true → P (.Name n q)) : P ex := by
  cases ex with
  | Name n q => exact andB h fun a b => k n q (eqB a) b
  | _ => exact noB h
@[elab_as_elim] theorem m_glob {g : Nat} (h : matchE N ns sc (.glob g) ex = true) (k : ∀ n q, N.glob g = some (n, none) → isG sc n = true → P (.Name n q)) (k' : ∀ n q a r, N.glob g = some (n, some a) → isG sc n = true → P (.Attribute (.Name n q) a r)) : P ex := by
  cases ex with
  | Name n q => exact andB h fun a b => k n q (eqB a) b
  | Attribute v n r => cases v with
    | Name m q => exact andB h fun a b => k' m q n r (eqB a) b
    | _ => exact noB h
  | _ => exact noB h
@[elab_as_elim] theorem m_bin {o : Op} {a b : E} (h : matchE N ns sc (.bin o a b) ex = true) (k : ∀ l r q, matchE N ns sc a l = true → matchE N ns sc b r = true → P (.BinOp l (opOf o) r q)) : P ex := by
  cases ex with
  | BinOp l p r q => exact andB h fun h hb => andB h fun h ha => (eqB h : opOf o = p) ▸ k l r q ha hb
  | _ => exact noB h
@[elab_as_elim] theorem m_neg {a : E} (h : matchE N ns sc (.neg a) ex = true) (k : ∀ x q, matchE N ns sc a x = true → P (.UnaryOp .USub x q)) : P ex := by
  cases ex with
  | UnaryOp o x q => cases o with
    | USub => exact k x q h
    | _ => exact noB h
  | _ => exact noB h
@[elab_as_elim] theorem m_not {a : E} (h : matchE N ns sc (.not a) ex = true) (k : ∀ x q, matchE N ns sc a x = true → P (.UnaryOp .Not x q)) : P ex := by
  cases ex with
  | UnaryOp o x q => cases o with
    | Not => exact k x q h
    | _ => exact noB h
  | _ => exact noB h
@[elab_as_elim] theorem m_cmp {o : Cm} {a b : E} (h : matchE N ns sc (.cmp o a b) ex = true) (k : ∀ l r q, (!behindInMarks (cmOf o) r) = true → matchE N ns sc a l = true → matchE N ns sc b r = true → P (.Compare l [cmOf o] [r] q)) : P ex := by
  cases ex with
  | Compare l ps rs q => cases ps with
    | nil => exact noB h
    | cons p ps => cases ps with
      | cons _ _ => exact noB h
      | nil => cases rs with
        | nil => exact noB h
        | cons r rs => cases rs with
          | cons _ _ => exact noB h
          | nil =>
            refine andB h fun h hb => andB h fun h ha => andB h fun h hm => ?_
            have e : cmOf o = p := eqB h
            subst e
            exact k l r q hm ha hb
  | _ => exact noB h
@[elab_as_elim] theorem m_and {l : Es} (h : matchE N ns sc (.and l) ex = true) (k : ∀ vs q, matchEs N ns sc l vs = true → P (.BoolOp .And vs q)) : P ex := by
  cases ex with
  | BoolOp o vs q => cases o with
    | And => exact k vs q h
    | Or => exact noB h
  | _ => exact noB h
@[elab_as_elim] theorem m_or {l : Es} (h : matchE N ns sc (.or l) ex = true) (k : ∀ vs q, matchEs N ns sc l vs = true → P (.BoolOp .Or vs q)) : P ex := by
  cases ex with
  | BoolOp o vs q => cases o with
    | Or => exact k vs q h
    | And => exact noB h
  | _ => exact noB h
@[elab_as_elim] theorem m_ite {t a b : E} (h : matchE N ns sc (.ite t a b) ex = true) (k : ∀ x y z q, matchE N ns sc t x = true → matchE N ns sc a y = true → matchE N ns sc b z = true → P (.IfExp x y z q)) : P ex := by
  cases ex with
  | IfExp x y z q => exact andB h fun h hb => andB h fun ht ha => k x y z q ht ha hb
  | _ => exact noB h
@[elab_as_elim] theorem m_list {l : Es} (h : matchE N ns sc (.list l) ex = true) (k : ∀ es q, es.length ≤ 1000 → matchEs N ns sc l es = true → P (.List es q)) : P ex := by
  cases ex with
  | List es q => exact andB h fun a b => k es q (of_decide_eq_true a) b
  | _ => exact noB h
@[elab_as_elim] theorem m_tup {l : Es} (h : matchE N ns sc (.tup l) ex = true) (k : ∀ es c q, es.length ≤ 1000 → matchEs N ns sc l es = true → P (.Tuple es c q)) : P ex := by
  cases ex with
  | Tuple es c q => exact andB h fun a b => k es c q (of_decide_eq_true a) b
  | _ => exact noB h
@[elab_as_elim] theorem m_call {f : Nat} {l : Es} (h : matchE N ns sc (.call f l) ex = true) (k : ∀ n p args q, N.call f = some n → isG sc n = true → matchEs N ns sc l args = true → P (.Call (.Name n p) args [] q)) : P ex := by
  cases ex with
  | Call fn args kw q => cases fn with
    | Name n p => cases kw with
      | nil => exact andB h fun h c => andB h fun a b => k n p args q (eqB a) b c
      | cons _ _ => exact noB h
    | _ => exact noB h
  | _ => exact noB h
@[elab_as_elim] theorem m_meth {o : E} {m : Nat} {l : Es} (h : matchE N ns sc (.meth o m l) ex = true)
    (k : ∀ v n ap args pos, N.meth m = some n → noCall0 v = true → ap.endLine = pos.line → args.length < 29 → matchE N ns sc o v = true → matchEs N ns sc l args = true → P (.Call (.Attribute v n ap) args [] pos)) : P ex := by
  cases ex with
  | Call fn args kw q => cases fn with
    | Attribute v n ap => cases kw with
      | nil => exact andB h fun h c6 => andB h fun h c5 => andB h fun h c4 => andB h fun h c3 => andB h fun c1 c2 => k v n ap args q (eqB c1) c2 (eqB c3) (of_decide_eq_true c4) c5 c6
      | cons _ _ => exact noB h
    | _ => exact noB h
  | _ => exact noB h
@[elab_as_elim] theorem m_attr {o : E} {a : Nat} (h : matchE N ns sc (.attr o a) ex = true) (k : ∀ v n q, N.attr a = some n → noCall0 v = true → matchE N ns sc o v = true → P (.Attribute v n q)) : P ex := by
  cases ex with
  | Attribute v n q => exact andB h fun h c => andB h fun a b => k v n q (eqB a) b c
  | _ => exact noB h
@[elab_as_elim] theorem m_sub {o i : E} (h : matchE N ns sc (.sub o i) ex = true) (k : ∀ v s q, noSlice s = true → matchE N ns sc o v = true → matchE N ns sc i s = true → P (.Subscript v s q)) : P ex := by
  cases ex with
  | Subscript v s q => exact andB h fun h c => andB h fun a b => k v s q a b c
  | _ => exact noB h
@[elab_as_elim] theorem m_slice {o l u st : E} (h : matchE N ns sc (.slice o l u st) ex = true) (k : ∀ v a b c p q, matchE N ns sc o v = true → (match a with | none => isAbs l | some a => matchE N ns sc l a) = true →
    (match b with | none => isAbs u | some b => matchE N ns sc u b) = true → (match c with | none => isAbs st | some c => matchE N ns sc st c) = true → P (.Subscript v (.Slice a b c p) q)) : P ex := by
  cases ex with
  | Subscript v s q => cases s with
    | Slice a b c p => exact andB h fun h c4 => andB h fun h c3 => andB h fun c1 c2 => k v a b c p q c1 c2 c3 c4
    | _ => exact noB h
  | _ => exact noB h
theorem noSt {a : E} {x : Expr} {q : Pos} {G : Prop} (h : matchE N ns sc a (.Starred x q) = true) : G := by
  cases a with
  | cst c => cases c <;> exact noB h
  | _ => exact noB h
theorem noSC {a : E} {x : Expr} {g : List Comprehension} {s : Scope} {q : Pos} {G : Prop} (h : matchE N ns sc a (.SetComp x g s q) = true) : G := by
  cases a with
  | cst c => cases c <;> exact noB h
  | _ => exact noB h
theorem noDC {a : E} {x y : Expr} {g : List Comprehension} {s : Scope} {q : Pos} {G : Prop} (h : matchE N ns sc a (.DictComp x y g s q) = true) : G := by
  cases a with
  | cst c => cases c <;> exact noB h
  | _ => exact noB h
theorem star_any {a : E} {rest : List Expr} {env : Env} (h : matchE N ns sc a ex = true) : starEach (ex :: rest) env = (false, eval ex env) :: starEach rest env := by
  cases ex with
  | Starred x q => exact noSt h
  | _ => rfl

/-! the iterables -/
@[elab_as_elim] theorem m_range1 {b : E} {tg : Expr} {P : Expr → Prop} (h : matchIt N ns sc (.range1 b) tg ex = true) (k : ∀ p y q, isG sc (Str.ofString "range") = true → matchE N ns sc b y = true → P (.Call (.Name (Str.ofString "range") p) [y] [] q)) : P ex := by
  cases ex with
  | Call fn args kw q => cases fn with
    | Name n p => cases args with
      | nil => exact noB h
      | cons y r => cases r with
        | cons _ _ => exact noB h
        | nil => cases kw with
          | cons _ _ => exact noB h
          | nil =>
            refine andB h fun h c => andB h fun a b => ?_
            have e : n = Str.ofString "range" := eqB a
            subst e
            exact k p y q b c
    | _ => exact noB h
  | _ => exact noB h
@[elab_as_elim] theorem m_range2 {a b : E} {tg : Expr} {P : Expr → Prop} (h : matchIt N ns sc (.range2 a b) tg ex = true) (k : ∀ p x y q, isG sc (Str.ofString "range") = true → matchE N ns sc a x = true → matchE N ns sc b y = true → P (.Call (.Name (Str.ofString "range") p) [x, y] [] q)) : P ex := by
  cases ex with
  | Call fn args kw q => cases fn with
    | Name n p => match args, kw with
      | [x, y], [] =>
        refine andB h fun h d => andB h fun h c => andB h fun a b => ?_
        have e : n = Str.ofString "range" := eqB a
        subst e
        exact k p x y q b c d
      | [], _ => exact noB h
      | [_], _ => exact noB h
      | _ :: _ :: _ :: _, _ => exact noB h
      | [_, _], _ :: _ => exact noB h
    | _ => exact noB h
  | _ => exact noB h
@[elab_as_elim] theorem m_range3 {a b c : E} {tg : Expr} {P : Expr → Prop} (h : matchIt N ns sc (.range3 a b c) tg ex = true) (k : ∀ p x y z q, isG sc (Str.ofString "range") = true → matchE N ns sc a x = true → matchE N ns sc b y = true → matchE N ns sc c z = true → P (.Call (.Name (Str.ofString "range") p) [x, y, z] [] q)) : P ex := by
  cases ex with
  | Call fn args kw q => cases fn with
    | Name n p => match args, kw with
      | [x, y, z], [] =>
        refine andB h fun h e => andB h fun h d => andB h fun h c => andB h fun a b => ?_
        have e' : n = Str.ofString "range" := eqB a
        subst e'
        exact k p x y z q b c d e
      | [], _ => exact noB h
      | [_], _ => exact noB h
      | [_, _], _ => exact noB h
      | _ :: _ :: _ :: _ :: _, _ => exact noB h
      | [_, _, _], _ :: _ => exact noB h
    | _ => exact noB h
  | _ => exact noB h
theorem m_zip {a b : E} {tg : Expr} {P : Expr → Expr → Prop} (h : matchIt N ns sc (.zip a b) tg ex = true) (k : ∀ es c r p x y q, isG sc (Str.ofString "zip") = true → matchE N ns sc a x = true → matchE N ns sc b y = true → P (.Tuple es c r) (.Call (.Name (Str.ofString "zip") p) [x, y] [] q)) : P tg ex := by
  cases tg with
  | Tuple es c r => cases ex with
    | Call fn args kw q => cases fn with
      | Name n p => match args, kw with
        | [x, y], [] =>
          refine andB h fun h d => andB h fun h c' => andB h fun a b => ?_
          have e : n = Str.ofString "zip" := eqB a
          subst e
          exact k es c r p x y q b c' d
        | [], _ => exact noB h
        | [_], _ => exact noB h
        | _ :: _ :: _ :: _, _ => exact noB h
        | [_, _], _ :: _ => exact noB h
      | _ => exact noB h
    | _ => exact noB h
  | _ => exact noB h
@[elab_as_elim] theorem m_lrange {a b c : E} (h : matchE N ns sc (.lrange a b c) ex = true)
    (k : ∀ p p' x y z q q', isG sc (Str.ofString "list") = true → isG sc (Str.ofString "range") = true → matchE N ns sc a x = true → matchE N ns sc b y = true → matchE N ns sc c z = true →
      P (.Call (.Name (Str.ofString "list") p) [.Call (.Name (Str.ofString "range") p') [x, y, z] [] q'] [] q)) : P ex := by
  cases ex with
  | Call fn args kw q => cases fn with
    | Name n p => match args, kw with
      | [w], [] => cases w with
        | Call fn args kw q' => cases fn with
          | Name r p' => match args, kw with
            | [x, y, z], [] =>
              refine andB h fun h g => andB h fun h f => andB h fun h e => andB h fun h d => andB h fun h c => andB h fun a b => ?_
              have e1 : n = Str.ofString "list" := eqB a
              have e2 : r = Str.ofString "range" := eqB b
              subst e1; subst e2
              exact k p p' x y z q q' c d e f g
            | [], _ => exact noB h
            | [_], _ => exact noB h
            | [_, _], _ => exact noB h
            | _ :: _ :: _ :: _ :: _, _ => exact noB h
            | [_, _, _], _ :: _ => exact noB h
          | _ => exact noB h
        | _ => exact noB h
      | [], _ => exact noB h
      | w :: _ :: _, _ => cases w with
        | Call fn as kw q' => cases fn with
          | Name r p' => rcases as with _ | ⟨x, _ | ⟨y, _ | ⟨z, _ | ⟨_, _⟩⟩⟩⟩ <;> first | exact noB h | (cases kw <;> exact noB h)
          | _ => exact noB h
        | _ => exact noB h
      | [w], _ :: _ => cases w with
        | Call fn as kw q' => cases fn with
          | Name r p' => rcases as with _ | ⟨x, _ | ⟨y, _ | ⟨z, _ | ⟨_, _⟩⟩⟩⟩ <;> first | exact noB h | (cases kw <;> exact noB h)
          | _ => exact noB h
        | _ => exact noB h
    | _ => exact noB h
  | _ => exact noB h
@[elab_as_elim] theorem m_isBool {a : E} (h : matchE N ns sc (.isBool a) ex = true)
    (k : ∀ p x p' q, isG sc (Str.ofString "isinstance") = true → isG sc (Str.ofString "bool") = true → matchE N ns sc a x = true → P (.Call (.Name (Str.ofString "isinstance") p) [x, .Name (Str.ofString "bool") p'] [] q)) : P ex := by
  cases ex with
  | Call fn args kw q => cases fn with
    | Name n p => match args, kw with
      | [x, y], [] => cases y with
        | Name b p' =>
          refine andB h fun h e => andB h fun h d => andB h fun h c => andB h fun a b => ?_
          have e1 : n = Str.ofString "isinstance" := eqB a
          have e2 := eqB b
          subst e1; subst e2
          exact k p x p' q c d e
        | _ => exact noB h
      | [], _ => exact noB h
      | [_], _ => exact noB h
      | _ :: y :: _ :: _, _ => cases y <;> exact noB h
      | [_, y], _ :: _ => cases y <;> exact noB h
    | _ => exact noB h
  | _ => exact noB h
@[elab_as_elim] theorem m_comp {e c : E} {t : Tg} {it : It} (h : matchE N ns sc (.comp e t it c) ex = true)
    (k : ∀ elt tg iter ifs scope pos, noSet iter = true → (compOk ns sc scope t && matchT ns (fun n => (relab scope.names sc).lookup n == some .local) t tg || compOk1 ns sc scope t tg) = true → matchIt N ns sc it tg iter = true →
      matchE N ns (relab scope.names sc) e elt = true → (match ifs with | [] => isTop c | [i] => matchE N ns (relab scope.names sc) c i | _ => false) = true → P (.ListComp elt [⟨tg, iter, ifs, 0⟩] scope pos)) : P ex := by
  cases ex with
  | ListComp elt gens scope pos => match gens with
    | [⟨tg, iter, ifs, asy⟩] =>
      refine andB h fun h h6 => andB h fun h h5 => andB h fun h h4 => andB h fun h h3 => andB h fun h1 h2 => ?_
      have e1 : asy = 0 := eqB h1
      subst e1
      exact k elt tg iter ifs scope pos h2 h3 h4 h5 h6
    | [] => exact noB h
    | ⟨_, _, _, _⟩ :: _ :: _ => exact noB h
  | _ => exact noB h
end
end Mp
end

section
set_option maxRecDepth 20000
/-! MiniPy: names, items, slices, calls. -/
namespace Mp
open PySem PySem.Calls PyProof.Rows PySem.W

section
variable {W : Wd} {N : NT} {T : Tabs} {A : Around} {ns : List Str} {env : Env} {s : Shared} {g : View} {ρ : Rho} {Ex : Value → Shared → Prop}

theorem isV_cases {sc : Sc} {n : Str} (h : isV sc n = true) : (sc.lookup n = some .local ∨ sc.lookup n = some .cell ∨ sc.lookup n = some .free) ∧ (n == ("__debug__" : Str)) = false ∧ (n == ("__classdict__" : Str)) = false := by
  simp only [isV, Bool.and_eq_true, Bool.or_eq_true, beq_iff_eq, Bool.not_eq_true'] at h
  exact ⟨h.1.1.elim (fun h => h.elim .inl fun h => .inr (.inl h)) fun h => .inr (.inr h), h.1.2, h.2⟩
theorem isG_cases {sc : Sc} {n : Str} (h : isG sc n = true) : sc.lookup n = some .globalImplicit ∧ (n == ("__debug__" : Str)) = false := by
  simp only [isG, Bool.and_eq_true, beq_iff_eq, Bool.not_eq_true'] at h
  exact h

theorem var_ok {i : Nat} {n : Str} {p : Pos} {x : PV} (G : EnvG W env s.heap) (hs : Sub g s.heap) (R : EnvRep ns env s.heap W.C g ρ) (hn : ns[i]? = some n) (hv : isV env.scope.names n = true)
    (hx : ρ[i]? = some (some x)) : wpAny (model W.prog W.w) A (eval (.Name n p) env) (fun v s' => Post W.C g s x v s') Ex s := by
  obtain ⟨hk, hd, hc⟩ := isV_cases hv
  have he : gext g s.heap s.heap = g := gext_self hs
  obtain ⟨h1, h2⟩ := R i n x hn hx
  rcases hk with hk | hk | hk
  · obtain ⟨m, v, a, b, c⟩ := h1 hk
    exact wpAny_Name (wpAny_loadName_local G.fn hk a b ⟨keeps_refl _, by rw [he]; exact c⟩) hd
  · obtain ⟨c, v, a, b, d⟩ := h2 (.inl hk)
    exact wpAny_Name (wpAny_loadName_cell G.fn hk a b ⟨keeps_refl _, by rw [he]; exact d⟩) hd
  · obtain ⟨c, v, a, b, d⟩ := h2 (.inr hk)
    exact wpAny_Name (wpAny_loadName_free G.fn hk a b ⟨keeps_refl _, by rw [he]; exact d⟩ hc) hd

theorem gname_ok {n : Str} {p : Pos} {v : Value} {Q : Value → Shared → Prop} (G : EnvG W env s.heap) (hg : isG env.scope.names n = true) (h : Loads W A n v) (hQ : Q v s) :
    wpAny (model W.prog W.w) A (eval (.Name n p) env) Q Ex s := by
  obtain ⟨hk, hd⟩ := isG_cases hg
  exact Name_function_global G.fn hk (h env s _ _ G.gl G.bu G.base hQ) hd

theorem isTrue_gen {ex : Expr} {x : PV} {b : Bool} (hs : Sub g s.heap) (he : isTrue ex env (eval ex env) = (do let v ← eval ex env; standAt ex.pos; holding [v] (PySem.truthy v)))
    (h : wpAny (model W.prog W.w) A (eval ex env) (fun v s' => Post W.C g s x v s') Ex s) (hb : truthy x = some b) :
    wpAny (model W.prog W.w) A (isTrue ex env (eval ex env)) (fun r s' => r = b ∧ Keeps s s') Ex s :=
  wpAny_isTrue_value (wpAny_mono h (fun uu uu p => wpAny_mono (truthy_sound hb (gext_sub hs (keepsK p.keeps)) p.rep) (fun uu uu q => ⟨q.1, keepsTr p.keeps q.2⟩) fun uu uu y => y) fun uu uu y => y) he

/-! items -/
theorem seqIdx {i : Int} {n : Nat} (h : inIdx i n = true) : seqIndex? i n = some (pidx i n) ∧ pidx i n < n ∧ n ≤ lim := by
  simp only [inIdx, Bool.and_eq_true, decide_eq_true_eq] at h
  unfold seqIndex? pidx
  by_cases hi : i < 0
  · simp only [if_pos hi]
    rw [if_pos (by simp; omega)]
    exact ⟨rfl, by omega, h.2⟩
  · simp only [if_neg hi]
    rw [if_pos (by simp; omega)]
    exact ⟨rfl, by omega, h.2⟩

theorem subscripted_plain {slice : Expr} (h : noSlice slice = true) (b : Value) (i : Value) : subscripted slice false b i = operate [b, i] (getItem b i) := by
  cases slice <;> first | rfl | exact noB h

theorem getItem_ok {x z : PV} {v : Value} {i : Int} {t : Tok} (hs : Sub g s.heap) (hv : Rep W.C g x v) (h : subscr x (.int i) = some z) :
    wpAny (model W.prog W.w) A (getItem v (.int i t)) (fun v s' => Post W.C g s z v s') Ex s ∧ ∃ Ty id, s.TypeIs v Ty ∧ typeLookup (.type Ty) "__getitem__" = pure (some (.builtin id)) := by
  have he : gext g s.heap s.heap = g := gext_self hs
  cases x with
  | list l =>
    change (if inIdx i l.length then l[pidx i l.length]? else none) = _ at h
    split at h
    · rename_i q
      obtain ⟨q1, q2, q3⟩ := seqIdx q
      obtain ⟨a, vs, n, rfl, ho, r⟩ := hv
      have hl : s.heap.IsList a vs.toArray := ⟨_, hs _ _ ho, rfl, n, rfl⟩
      obtain ⟨u, hu, ru⟩ := r.get h
      refine ⟨?_, _, _, hl.typeIs, slot_list_getitem.lookup⟩
      simp only [inIdx, Bool.and_eq_true, decide_eq_true_eq, lim] at q
      by_cases hi : i < 0
      · refine wpAny_getItem_list_neg hl hi (by simp only [List.size_toArray, r.length]; omega) (by omega) (x := u) ?_ ⟨keeps_refl _, by rw [he]; exact ru⟩
        simp only [List.size_toArray, r.length]
        unfold pidx at hu; rw [if_pos hi] at hu
        simpa using hu
      · refine wpAny_getItem_list hl (by omega) (by omega) (x := u) ?_ ⟨keeps_refl _, by rw [he]; exact ru⟩
        unfold pidx at hu; rw [if_neg hi] at hu
        simpa using hu
    · cases h
  | tup l =>
    change (if inIdx i l.length then l[pidx i l.length]? else none) = _ at h
    split at h
    · rename_i q
      obtain ⟨q1, q2, q3⟩ := seqIdx q
      obtain ⟨a, vs, o, n, rfl, ho, hc, hd, r⟩ := hv
      have hl : s.heap.IsTuple a vs.toArray := ⟨o, hs _ _ ho, hc, n, hd⟩
      obtain ⟨u, hu, ru⟩ := r.get h
      refine ⟨?_, _, _, hl.typeIs, slot_tuple_getitem.lookup⟩
      simp only [inIdx, Bool.and_eq_true, decide_eq_true_eq, lim] at q
      exact getItem_tuple hl (by omega) (by omega) (by simpa [r.length] using q1) (x := u) (by simpa using hu) ⟨keeps_refl _, by rw [he]; exact ru⟩
    · cases h
  | str l =>
    change (if inIdx i l.length then (l[pidx i l.length]?).map fun c => PV.str [c] else none) = _ at h
    split at h
    · rename_i q
      obtain ⟨q1, q2, q3⟩ := seqIdx q
      obtain ⟨t', rfl⟩ := hv
      simp only [Option.map_eq_some_iff] at h
      obtain ⟨c, hc, rfl⟩ := h
      simp only [inIdx, Bool.and_eq_true, decide_eq_true_eq, lim] at q
      refine ⟨P.getItem_str (c := c) ?_ ?_ (sc_post (keeps_tok _ _) ⟨_, rfl⟩), _, _, typeIs_str _ _ _, slot_str_getitem.lookup⟩
      · simp only [Bool.or_eq_false_iff, decide_eq_false_iff_not]; omega
      · rw [show (Str.mk l.toArray).length = l.length from by simp [Str.length], q1]
        simpa using hc
    · cases h
  | _ => exact noS h

theorem subscr_int {x i z : PV} (h : subscr x i = some z) : ∃ k, i = .int k := by
  cases i with
  | int k => exact ⟨k, rfl⟩
  | _ => cases x <;> exact noS h

theorem subscr_ok {x i z : PV} {v u : Value} {value slice : Expr} (hs : Sub g s.heap) (hv : Rep W.C g x v) (hu : Rep W.C g i u) (h : subscr x i = some z) (hn : noSlice slice = true) :
    wpAny (model W.prog W.w) A (subscriptTail value slice v u) (fun v s' => Post W.C g s z v s') Ex s := by
  obtain ⟨k, rfl⟩ := subscr_int h
  obtain ⟨t, rfl⟩ := hu
  obtain ⟨h1, Ty, id, h2, h3⟩ := getItem_ok (W := W) (A := A) (Ex := Ex) (t := t) hs hv h
  exact tail_any h2 h3 h1 (subscripted_plain hn _ _)

/-! slices -/
theorem isPart_of {x : PV} {p : Option Int} {v : Value} (h : part x = some p) (hv : Rep W.C g x v) : IsPart v p ∧ ∃ q : Option (Int × Tok), v = partValue q ∧ q.map (·.1) = p := by
  cases x with
  | none => (first | exact noS h | exact noB h | cases h); (first | exact noS hv | exact noB hv | cases hv); exact ⟨.none, none, rfl, rfl⟩
  | int i =>
    change (if smallI i then _ else none) = _ at h
    split at h
    · (first | exact noS h | exact noB h | cases h); obtain ⟨t, rfl⟩ := hv; exact ⟨.int i t, some (i, t), rfl, rfl⟩
    · cases h
  | _ => (first | exact noS h | exact noB h | cases h)

theorem pick_items {l : List PV} {vs : List Value} (r : Reps W.C g l vs) (lo hi st : Option Int) : Reps W.C g (pick l lo hi st) (slicePick vs.toArray lo hi st).toList := by
  unfold pick slicePick
  have e : (fun i : Nat => vs.toArray[i]?) = fun i => vs[i]? := by funext i; simp
  simp only [List.size_toArray, r.length]
  have := r.filterMap_get (sliceRange (sliceBounds lo hi st l.length).1 (sliceBounds lo hi st l.length).2.1 (sliceBounds lo hi st l.length).2.2)
  simpa [e] using this

theorem strPick (l : List Nat) (lo hi : Option Int) : (Builtin.Str.strSliceIndices lo hi 1 l.length).filterMap (l[·]?) = pick l lo hi none := rfl
theorem pick_plain {α : Type} (l : List α) (lo hi : Option Int) :
    pick l lo hi none = (l.drop (lo.elim 0 (clipAt l.length))).take (hi.elim l.length (clipAt l.length) - lo.elim 0 (clipAt l.length)) := by
  unfold pick
  rw [sliceBounds_plain]
  simp only [sliceRange_one]
  have := pick_run l.toArray (lo.elim 0 (clipAt l.length)) (hi.elim l.length (clipAt l.length) - lo.elim 0 (clipAt l.length))
  simpa using this
theorem clipAt_le (n : Nat) (i : Int) : clipAt n i ≤ n := by
  have := clipAt_cast n i; omega
theorem strPick_whole (l : List Nat) (lo hi : Option Int) (h : (Builtin.Str.strSliceIndices lo hi 1 l.length).length = l.length) : pick l lo hi none = l := by
  have e : Builtin.Str.strSliceIndices lo hi 1 l.length = sliceRange (sliceBounds lo hi none l.length).1 (sliceBounds lo hi none l.length).2.1 (sliceBounds lo hi none l.length).2.2 := rfl
  rw [e, sliceBounds_plain, sliceRange_one, List.length_map, List.length_range] at h
  rw [pick_plain]
  generalize ha : lo.elim 0 (clipAt l.length) = a at h
  have hb : hi.elim l.length (clipAt l.length) ≤ l.length := by cases hi with | none => exact Nat.le_refl _ | some i => exact clipAt_le _ _
  generalize hi.elim l.length (clipAt l.length) = b at h hb
  have ha' : a = 0 ∨ l.length = 0 := by omega
  rcases ha' with rfl | h0
  · rw [h]; simp
  · have : l = [] := List.length_eq_zero_iff.mp h0
    subst this; simp

theorem slice_ok {o l u st z : PV} {v vl vu vt : Value} {value : Expr} {a b c : Option Expr} {p : Pos} (hs : Sub g s.heap) (h : slice o l u st = some z)
    (hv : Rep W.C g o v) (hl : Rep W.C g l vl) (hu : Rep W.C g u vu) (ht : Rep W.C g st vt) :
    wpAny (model W.prog W.w) A (subscriptTail value (.Slice a b c p) v (.ref s.heap.objs.size)) (fun v s' => Post W.C g s z v s' ∧ ∀ l, z = .list l → NewList s.heap s'.heap v) Ex
      { s with heap := s.heap.push { cls := .type "slice", data := .fields #[vl, vu, vt] } } := by
  refine bindK h fun pl e1 h => bindK h fun pu e2 h => bindK h fun ps e3 h => ?_
  · obtain ⟨il, ql, el, el'⟩ := isPart_of e1 hl
    obtain ⟨iu, qu, eu, eu'⟩ := isPart_of e2 hu
    obtain ⟨it, qt, et, et'⟩ := isPart_of e3 ht
    by_cases h0 : ps = some 0
    · change (if ps = some 0 then none else _) = _ at h
      rw [if_pos h0] at h; exact noS h
    · change (if ps = some 0 then none else _) = _ at h
      rw [if_neg h0] at h
      have hops : ∀ (b' i' : Value), ∃ ops, subscripted (.Slice a b c p) false b' i' = operate ops (getItem b' i') := fun b' i' => by
        (first | exact noS c | exact noB c | cases c)
        · exact ⟨_, rfl⟩
        · exact ⟨_, rfl⟩
      cases o with
      | list x =>
        change (if x.length ≤ lim then _ else none) = _ at h
        split at h
        · rename_i q
          (first | exact noS h | exact noB h | cases h)
          obtain ⟨ad, vs, n, rfl, ho, r⟩ := hv
          have hli : s.heap.IsList ad vs.toArray := ⟨_, hs _ _ ho, rfl, n, rfl⟩
          obtain ⟨ops, hops⟩ := hops (.ref ad) (.ref s.heap.objs.size)
          refine tail_any (Heap.IsList.typeIs (s := { s with heap := s.heap.push _ }) (hli.push _)) slot_list_getitem.lookup ?_ hops
          refine wpAny_getItem_list_slice (hli.push _) (Heap.IsSliceOf.new ..) il iu it h0 ?_ (by rw [sizeLine_eq]; simp only [List.size_toArray, r.length]; simp only [lim] at q; omega)
          have k1 := keep_push s.heap { cls := .type "slice", data := .fields #[vl, vu, vt] }
          have np := newList_post (C := W.C) (g := g) (s := { s with heap := s.heap.push { cls := .type "slice", data := .fields #[vl, vu, vt] } }) (hs.keep k1) (pick_items r pl pu ps)
          simp only [Array.toArray_toList] at np
          have kk : Keeps s { s with heap := s.heap.push { cls := .type "slice", data := .fields #[vl, vu, vt] } } := keeps_heap k1
          refine ⟨⟨keepsTr kk np.1.keeps, ?_⟩, fun uu uu => NewList.back k1 np.2⟩
          refine Rep.mono (View.le_of fun b o e => ?_) _ np.1.rep
          unfold gext at e ⊢
          cases q1 : s.heap.get? b with
          | some o' => rw [k1 b o' q1] at e; simpa using e
          | none =>
            simp only [Option.isSome_none, Bool.false_eq_true, if_false]
            split at e
            · have := hs _ _ e; rw [q1] at this; (first | exact noS this | exact noB this | cases this)
            · exact e
        · cases h
      | str x =>
        change (if (decide (x.length ≤ lim) && ps.isNone) = true then _ else none) = _ at h
        split at h
        · rename_i q
          simp only [Bool.and_eq_true, decide_eq_true_eq, Option.isNone_iff_eq_none] at q
          obtain ⟨q1, q2⟩ := q
          subst q2
          (first | exact noS h | exact noB h | cases h)
          obtain ⟨t, rfl⟩ := hv
          obtain ⟨ops, hops⟩ := hops (.str ⟨x.toArray⟩ t) (.ref s.heap.objs.size)
          refine tail_any (typeIs_str _ _ _) slot_str_getitem.lookup ?_ hops
          have hqt : qt = none := by cases qt with | none => rfl | some w => (first | exact noS et' | exact noB et' | cases et')
          subst hqt
          refine wpAny_getItem_str_slice (l := ql) (u := qu) (st := none) (by rw [el, eu, et]; exact ⟨_, Heap.get?_push_size _ rfl, rfl, rfl⟩) rfl ?_
          have hlen : (Str.mk x.toArray).length = x.length := by simp [Str.length]
          have kk : Keeps s { s with heap := s.heap.push { cls := .type "slice", data := .fields #[vl, vu, vt] } } := keeps_heap (keep_push _ _)
          unfold sliceMade slicePicked
          rw [hlen, el', eu']
          split
          · rename_i hw
            have hw' : (Builtin.Str.strSliceIndices pl pu 1 x.length).length = x.length := by simpa using hw
            rw [strPick_whole _ _ _ hw']
            exact ⟨sc_post kk ⟨t, rfl⟩, fun uu e => nomatch e⟩
          · refine ⟨?_, sc_post (keepsTr kk (keeps_tok _ _)) ⟨s.toks, ?_⟩, fun uu e => nomatch e⟩
            · rw [sizeLine_eq]
              show (List.toArray _).size ≤ _
              have := sliceIndices_le pl pu x.length
              rw [List.size_toArray]
              refine Nat.le_trans (List.length_filterMap_le _ _) (Nat.le_trans this ?_)
              simp only [lim] at q1; omega
            · have e : (fun i : Nat => x.toArray[i]?) = fun i => x[i]? := by funext i; simp
              show Value.str ⟨(List.filterMap (fun i => x.toArray[i]?) (Builtin.Str.strSliceIndices pl pu 1 x.length)).toArray⟩ _ = _
              rw [e, strPick]
        · cases h
      | _ => exact noS h

/-! calls -/
theorem matchEs_star {sc : Sc} : ∀ {l : Es} {exs : List Expr}, matchEs N ns sc l exs = true → starEach exs env = exs.map fun e => (false, eval e env)
  | .nil, [], _ => rfl
  | .nil, _ :: _, h => noB h
  | .cons _ _, [], h => noB h
  | .cons a l, e :: es, h => by
    have h := Bool.and_eq_true_iff.mp h
    have ih := matchEs_star h.2
    have he : starEach (e :: es) env = (false, eval e env) :: starEach es env := star_any h.1
    rw [he, ih]; rfl

theorem evalArgs_none' {M : Model} {f : Value} {Q : Args → Shared → Prop} (h : wpAny M A (spliced []) (fun vs s' => Q ⟨vs, []⟩ s') Ex s) : wpAny M A (evalArgs f true [] []) Q Ex s := by
  unfold evalArgs
  show wpAny M A (spliced [] >>= _) Q Ex s
  refine wpAny_bind (wpAny_mono h (fun vs s' h' => ?_) fun uu uu x => x)
  refine wpAny_holding ?_
  exact wpAny_bind (wpAny_pure (wpAny_bind (wpAny_pure (wpAny_pure h'))))
theorem callW {pos : Pos} {fv : Value} {first : List Value} {exs : List Expr} {Q : Value → Shared → Prop} (hst : starEach exs env = exs.map fun e => (false, eval e env)) (hk : KeepOK W fv)
    (h : wpAny (model W.prog W.w) A (spliced (backTo pos (starEach exs env))) (fun vs s₁ => Keep W.h₀ s₁.heap ∧ wpAny (model W.prog W.w) A (call fv (first ++ vs)) Q Ex s₁) Ex s) :
    wpAny (model W.prog W.w) A (callWith pos fv first (backTo pos (starEach exs env)) []) Q Ex s := by
  have hb : backTo pos (starEach exs env) = exs.map fun e => (false, eval e env) := by
    rw [hst]; unfold backTo; rw [List.map_map]; rfl
  rw [hb] at h ⊢
  refine callWith_of (P := fun h => Keep W.h₀ h) (by simp) (fun h' k => hk _ _ k) ?_
  cases exs with
  | nil => exact evalArgs_none' h
  | cons e es => exact evalArgs_plain h
end
end Mp
end

section
set_option maxRecDepth 20000
/-! MiniPy: comprehensions. -/
namespace Mp
open PySem PySem.Calls PyProof.Rows PySem.W

section
variable {prog : Program} {w : World} {A : Around} {R : Result → Shared → Prop} {s : Shared}

theorem compLoop_go {elt target iter : Expr} {ifs : List Expr} {scope : Scope} {pos : Pos} {it acc : Value} {env : Env} (I : Nat → Shared → Prop)
    (turn : ∀ n s, I n s → wpAny (model prog w) A (pyNext it) (fun r s₁ => match r with
      | none => R (.ok .next) s₁
      | some v => wpAny (model prog w) A (letOwnedTupleGo target it v) (fun uu s₀ => wpAny (model prog w) A (assign target env v) (fun uu s₂ =>
          wpAny (model prog w) A (forIn ifs true fun c r => if r = true then do let ok ← isTrue c env (eval c env); pure (ForInStep.yield ok) else pure (ForInStep.yield r)) (fun ok s₃ =>
            if ok = true then wpAny (model prog w) A (eval elt env) (fun x s₄ =>
              wpAny (model prog w) A (call (.builtin "list.append") [acc, x]) (fun uu s₅ => ∃ m, m < n ∧ I m s₅) (notedBy (model prog w) A env fun e s' => R (.error e) s') s₄) (notedBy (model prog w) A env fun e s' => R (.error e) s') s₃
            else ∃ m, m < n ∧ I m s₃) (notedBy (model prog w) A env fun e s' => R (.error e) s') s₂) (notedBy (model prog w) A env fun e s' => R (.error e) s') s₀) (notedBy (model prog w) A env fun e s' => R (.error e) s') s₁) (notedBy (model prog w) A env fun e s' => R (.error e) s') s)
    (n : Nat) (h : I n s) :
    codeAny (model prog w) A (.compLoop (.ListComp elt [⟨target, iter, ifs, 0⟩] scope pos) 0 it acc env) R s := by
  refine codeAny_loop rfl I (fun n s hI => ?_) n h
  show wpAny _ A ((compTurn (.ListComp elt [⟨target, iter, ifs, 0⟩] scope pos) 0 it acc env).onRaise (fun x => do noteFrame x env; theTreesLotGoes x)) _ _ s
  refine wpAny_noted ?_
  rw [compTurn_list]
  refine wpAny_bind (wpAny_standAt (wpAny_bind (wpAny_mono (turn n s hI) (fun r s₁ h₁ => ?_) fun uu uu h' => h')))
  cases r with
  | none => exact wpAny_pure h₁
  | some v =>
    refine wpAny_bind (wpAny_mono h₁ (fun uu s₀ h₀ => ?_) fun uu uu h' => h')
    refine wpAny_bind (wpAny_mono h₀ (fun uu s₂ h₂ => wpAny_bind (wpAny_mono h₂ (fun ok s₃ h₃ => ?_) fun uu uu h' => h')) fun uu uu h' => h')
    cases ok with
    | false => exact wpAny_pure ⟨rfl, h₃⟩
    | true =>
      exact wpAny_bind (wpAny_bind (wpAny_mono h₃ (fun x s₄ h₄ => wpAny_bind (wpAny_mono h₄ (fun uu s₅ h₅ => wpAny_pure (wpAny_pure ⟨rfl, h₅⟩)) fun uu uu h' => h')) fun uu uu h' => h'))
end

/-! the closure of a comprehension -/
noncomputable def clL (cells : List (Str × Addr)) : List (Str × NameKind) → List (Str × Addr) → List (Str × Addr)
  | [], acc => acc
  | p :: r, acc => if p.2 == .free then clL cells r ((p.1, (cells.lookup p.1).getD 0) :: acc) else clL cells r acc
theorem clL_c (cells : List (Str × Addr)) (p : Str × NameKind) (r : List (Str × NameKind)) (acc : List (Str × Addr)) : clL cells (p :: r) acc = if p.2 == .free then clL cells r ((p.1, (cells.lookup p.1).getD 0) :: acc) else clL cells r acc := rfl
theorem closure_eq {scope : Scope} {env : Env} (h : ∀ p ∈ scope.names, p.2 = .free → ∃ c, env.cells.lookup p.1 = some c) : closureFor scope env = pure (clL env.cells scope.names []) := by
  unfold closureFor
  have key : ∀ (names : List (Str × NameKind)) (acc : List (Str × Addr)), (∀ p ∈ names, p.2 = .free → ∃ c, env.cells.lookup p.1 = some c) →
      (forIn names acc (fun (x : Str × NameKind) (r : List (Str × Addr)) => match x with
        | (name, kind) => if kind == NameKind.free then (do let c ← cellOf env name; pure (ForInStep.yield ((name, c) :: r))) else pure (ForInStep.yield r)) : Sem _) = pure (clL env.cells names acc) := by
    intro names
    induction names with
    | nil => intro acc _; rfl
    | cons p r ih =>
      intro acc hp
      obtain ⟨n, k⟩ := p
      rw [List.forIn_cons]
      rw [clL_c]
      by_cases hk : k = .free
      · subst hk
        obtain ⟨c, hc⟩ := hp _ List.mem_cons_self rfl
        dsimp only at hc
        simp only [beq_self_eq_true, if_true]
        rw [show cellOf env n = pure c from by unfold cellOf; rw [hc]]
        simp only [pure_bind]
        rw [hc]
        exact ih _ fun q hq => hp q (List.mem_cons_of_mem _ hq)
      · have hb : (k == NameKind.free) = false := by simpa using hk
        simp only [hb, Bool.false_eq_true, if_false, pure_bind]
        exact ih _ fun q hq => hp q (List.mem_cons_of_mem _ hq)
  have := key scope.names [] h
  simp only [bind_pure_comp] at this ⊢
  refine Eq.trans ?_ this
  first | rfl | simp
theorem clL_lookup {cells : List (Str × Addr)} {n : Str} {c : Addr} (hc : cells.lookup n = some c) : ∀ (names : List (Str × NameKind)) (acc : List (Str × Addr)),
    ((n, NameKind.free) ∈ names ∨ acc.lookup n = some c) → (∀ x, acc.lookup n = some x → x = c) → (clL cells names acc).lookup n = some c
  | [], acc, h, _ => by rcases h with h | h; (first | exact noS h | exact noB h | cases h); exact h
  | p :: r, acc, h, ha => by
    rw [clL_c]
    obtain ⟨m, k⟩ := p
    by_cases hk : k = .free
    · subst hk
      simp only [beq_self_eq_true, if_true]
      by_cases hm : n = m
      · subst hm
        refine clL_lookup hc r _ (.inr ?_) ?_
        · simp [List.lookup_cons, hc]
        · intro x hx; simp [List.lookup_cons, hc] at hx; exact hx.symm
      · have hb : (n == m) = false := beq_eq_false_iff_ne.mpr hm
        refine clL_lookup hc r _ ?_ ?_
        · rcases h with h | h
          · rcases List.mem_cons.mp h with e | e
            · exact absurd (Prod.mk.inj e).1 hm
            · exact .inl e
          · exact .inr (by simp [List.lookup_cons, hb, h])
        · intro x hx; simp [List.lookup_cons, hb] at hx; exact ha x hx
    · have hb : (k == NameKind.free) = false := by simpa using hk
      simp only [hb, Bool.false_eq_true, if_false]
      refine clL_lookup hc r _ ?_ ha
      rcases h with h | h
      · rcases List.mem_cons.mp h with e | e
        · exact absurd (Prod.mk.inj e).2.symm hk
        · exact .inl e
      · exact .inr h

/-! names of a comprehension's own scope -/
theorem relab_eq {scope : Scope} {env : Env} (hf : env.scope.kind = .function) : (relabel scope env).names = relab scope.names env.scope.names := by
  unfold relabel relab Env.kindOf
  simp only [hf, beq_self_eq_true, Bool.and_true]
theorem relab_lookup {names sc : Sc} {n : Str} : (relab names sc).lookup n = (names.lookup n).map fun k => if k == .free && sc.lookup n == some .cell then .cell else k := by
  unfold relab
  induction names with
  | nil => rfl
  | cons p r ih =>
    obtain ⟨m, k⟩ := p
    rw [List.map_cons]
    by_cases hm : n = m
    · subst hm
      by_cases hc : (k == NameKind.free && sc.lookup n == some .cell) = true
      · rw [if_pos hc]; simp only [List.lookup_cons, beq_self_eq_true, Option.map_some]; rw [if_pos hc]
      · rw [if_neg hc]; simp only [List.lookup_cons, beq_self_eq_true, Option.map_some]; rw [if_neg hc]
    · have hb : (n == m) = false := beq_eq_false_iff_ne.mpr hm
      by_cases hc : (k == NameKind.free && sc.lookup m == some .cell) = true
      · rw [if_pos hc]; simp only [List.lookup_cons, hb]; exact ih
      · rw [if_neg hc]; simp only [List.lookup_cons, hb]; exact ih
theorem mem_lookup {names : Sc} {n : Str} {k : NameKind} (h : names.lookup n = some k) : (n, k) ∈ names := mem_of_lookup h

structure CompNames (ns : List Str) (sc : Sc) (scope : Scope) (t : Tg) : Prop where
  fn : scope.kind = .function
  dot : Str.ofString ".0" ∉ ns
  noCell : ∀ p ∈ scope.names, p.2 ≠ .cell
  loc : ∀ p ∈ scope.names, p.2 = .local → scope.names.lookup p.1 = some .local ∧ (p.1 = Str.ofString ".0" ∨ p.1 ∈ tgNs ns t)
  free : ∀ p ∈ scope.names, p.2 = .free → sc.lookup p.1 = some .cell ∨ sc.lookup p.1 = some .free
theorem compOk_names {ns : List Str} {sc : Sc} {scope : Scope} {t : Tg} (h : compOk ns sc scope t = true) : CompNames ns sc scope t := by
  simp only [compOk, Bool.and_eq_true, beq_iff_eq, Bool.not_eq_true', List.all_eq_true, Bool.or_eq_true, bne_iff_ne, ne_eq] at h
  obtain ⟨⟨h1, h2⟩, h3⟩ := h
  refine ⟨h1, ?_, fun p hp => (h3 p hp).1.1, fun p hp e => ?_, fun p hp e => ?_⟩
  · intro hm; rw [List.contains_iff_mem.mpr hm] at h2; cases h2
  · rcases (h3 p hp).1.2 with q | q
    · exact absurd e q
    · exact ⟨q.1, q.2.imp id fun q => List.contains_iff_mem.mp q⟩
  · rcases (h3 p hp).2 with (q | q) | q
    · exact absurd e q
    · exact .inl q
    · exact .inr q

mutual
theorem blank_get : ∀ (t : Tg) (ρ : Rho) (j : Nat) (x : PV), (blank t ρ)[j]? = some (some x) → ρ[j]? = some (some x)
  | .v i, ρ, j, x, h => by
    change (ρ.set i none)[j]? = _ at h
    rw [List.getElem?_set] at h
    split at h
    · split at h <;> (first | exact noS h | exact noB h | cases h)
    · exact h
  | .t l, ρ, j, x, h => blanks_get l ρ j x h
theorem blanks_get : ∀ (t : Tgs) (ρ : Rho) (j : Nat) (x : PV), (blanks t ρ)[j]? = some (some x) → ρ[j]? = some (some x)
  | .nil, ρ, j, x, h => h
  | .cons a l, ρ, j, x, h => blank_get a ρ j x (blanks_get l _ j x h)
end
theorem nodup_inj {α : Type} {l : List α} (nd : l.Nodup) {i j : Nat} {a : α} (hi : l[i]? = some a) (hj : l[j]? = some a) : i = j := by
  obtain ⟨a1, a2⟩ := List.getElem?_eq_some_iff.mp hi
  obtain ⟨b1, b2⟩ := List.getElem?_eq_some_iff.mp hj
  have hp := List.pairwise_iff_getElem.mp nd
  rcases Nat.lt_trichotomy i j with h | h | h
  · exact absurd (a2.trans b2.symm) (hp i j a1 b1 h)
  · exact h
  · exact absurd (b2.trans a2.symm) (hp j i b1 a1 h)
mutual
theorem blank_none {ns : List Str} (nd : ns.Nodup) : ∀ (t : Tg) (ρ : Rho) (j : Nat) (n : Str) (x : PV), ns[j]? = some n → n ∈ tgNs ns t → (blank t ρ)[j]? ≠ some (some x)
  | .v i, ρ, j, n, x, hn, hm => by
    have hij : i = j := nodup_inj nd (Option.mem_toList.mp (show n ∈ (ns[i]?).toList from hm)) hn
    subst hij
    show (ρ.set i none)[i]? ≠ _
    rw [List.getElem?_set, if_pos rfl]
    split <;> (intro h; (first | exact noS h | exact noB h | cases h))
  | .t l, ρ, j, n, x, hn, hm => blanks_none nd l ρ j n x hn hm
theorem blanks_none {ns : List Str} (nd : ns.Nodup) : ∀ (t : Tgs) (ρ : Rho) (j : Nat) (n : Str) (x : PV), ns[j]? = some n → n ∈ tgsNs ns t → (blanks t ρ)[j]? ≠ some (some x)
  | .nil, ρ, j, n, x, hn, hm => (List.not_mem_nil hm).elim
  | .cons a l, ρ, j, n, x, hn, hm => by
    show (blanks l (blank a ρ))[j]? ≠ _
    rcases List.mem_append.mp (show n ∈ tgNs ns a ++ tgsNs ns l from hm) with hm | hm
    · intro h
      exact blank_none nd a ρ j n x hn hm (blanks_get l _ j x h)
    · exact blanks_none nd l _ j n x hn hm
end

/-! a comprehension from its parts -/
structure CompEnd (C : Addr) (g : View) (s : Shared) (zs : List PV) (v : Value) (L : Addr) (s' : Shared) : Prop where
  keeps : Keeps s s'
  new : NewList s.heap s'.heap v
  rep : Rep C (fun a => if a = L then none else gext g s.heap s'.heap a) (.list zs) v
  ns : ∃ m, s'.heap.Ns L m
  off : s.heap.get? L = none

section
variable {W : Wd} {A : Around} {ns : List Str} {env : Env} {s : Shared} {g : View} {ρ : Rho} {Ex : Value → Shared → Prop}

/-- how the parts of a turn are reckoned -/
structure Parts (W : Wd) (A : Around) (ns : List Str) (cenv : Env → Addr → List (Str × Addr) → Env) (env : Env) (elt : Expr) (ifs : List Expr) (fc : Rho → Option Bool) (fe : Rho → Option PV) : Prop where
  test : ∀ (L : Addr) (cl : List (Str × Addr)) (ρ : Rho) (s : Shared) (g : View) (b : Bool) (E : Value → Shared → Prop), EnvG W (cenv env L cl) s.heap → Sub g s.heap → EnvRep ns (cenv env L cl) s.heap W.C g ρ → fc ρ = some b →
    wpAny (model W.prog W.w) A (forIn ifs true fun c r => if r = true then do let ok ← isTrue c (cenv env L cl) (eval c (cenv env L cl)); pure (ForInStep.yield ok) else pure (ForInStep.yield r)) (fun r s' => r = b ∧ Keeps s s') E s
  elt : ∀ (L : Addr) (cl : List (Str × Addr)) (ρ : Rho) (s : Shared) (g : View) (x : PV) (E : Value → Shared → Prop), EnvG W (cenv env L cl) s.heap → Sub g s.heap → EnvRep ns (cenv env L cl) s.heap W.C g ρ → fe ρ = some x →
    wpAny (model W.prog W.w) A (eval elt (cenv env L cl)) (fun v s' => Post W.C g s x v s') E s

noncomputable def compF (t : Tg) (fc : Rho → Option Bool) (fe : Rho → Option PV) (ρ : Rho) (x : PV) : Option (Option PV) :=
  (bindT ρ t x).bind fun ρ' => (fc ρ').bind fun b => if b then (fe ρ').map some else some none

theorem compL_cons {f : PV → Option (Option PV)} {x : PV} {xs zs : List PV} (h : compL f (x :: xs) = some zs) :
    ∃ y r, f x = some y ∧ compL f xs = some r ∧ zs = (match y, r with | some y, ys => y :: ys | none, ys => ys) := by
  refine bindK h fun y h1 h => ?_
  obtain ⟨r, h2, h3⟩ := Option.map_eq_some_iff.mp h
  exact ⟨y, r, h1, h2, h3.symm⟩

/-- a comprehension's frame: what it may lean on -/
structure CX (W : Wd) (A : Around) (tg : Expr) (g : View) (s s₂ : Shared) (items : List PV) (Gv : View) (I : Addr) (fp wr : List Addr) (St : Nat → Heap → Prop) (D : Addr) (Xs : List Addr) : Prop where
  r : ItRes W.prog W.w A tg W.C g s s₂ items Gv I fp wr St
  hs : Sub g s.heap
  nD : s₂.heap.get? D = none
  nX : ∀ b ∈ Xs, s₂.heap.get? b = none
  dx : D ∉ Xs
/-- the view of what the turns may lean on -/
noncomputable def cV (g : View) (s : Shared) (D : Addr) (Xs wr : List Addr) (h : Heap) : View := fun a => if a = D ∨ a ∈ Xs ∨ a ∈ wr then none else gext g s.heap h a
noncomputable def cK (s₂ : Shared) (D : Addr) (Xs wr : List Addr) (h : Heap) : Prop := ∀ b o, b ∉ Xs → b ∉ wr → b ≠ D → s₂.heap.get? b = some o → h.get? b = some o
structure CInv (Xs : List Addr) (L : Addr) (Inv : Heap → Prop) : Prop where
  keep : ∀ h h', Inv h → (∀ b ∈ Xs, ∀ o, h.get? b = some o → h'.get? b = some o) → Inv h'
  has : ∀ h, Inv h → ∀ b ∈ Xs, ∃ o, h.get? b = some o
  ns : ∀ h, Inv h → ∃ m, h.Ns L m
  mem : L ∈ Xs
theorem no_some {h : Heap} {b : Addr} {o : Obj} {G : Prop} (n : h.get? b = none) (e : h.get? b = some o) : G := noS (n.symm.trans e)
section
variable {tg : Expr} {s₂ : Shared} {items : List PV} {Gv : View} {I D : Addr} {fp wr Xs : List Addr} {St : Nat → Heap → Prop}
theorem cV_gt {h : Heap} {a : Addr} {o : Obj} (e : cV g s D Xs wr h a = some o) : (a ≠ D ∧ a ∉ Xs ∧ a ∉ wr) ∧ gext g s.heap h a = some o := by
  unfold cV at e
  by_cases q : a = D ∨ a ∈ Xs ∨ a ∈ wr
  · rw [if_pos q] at e; exact noS e
  · rw [if_neg q] at e; exact ⟨⟨fun z => q (.inl z), fun z => q (.inr (.inl z)), fun z => q (.inr (.inr z))⟩, e⟩
theorem cV_in {h : Heap} {a : Addr} {o : Obj} (h1 : a ≠ D) (h2 : a ∉ Xs) (h3 : a ∉ wr) (e : gext g s.heap h a = some o) : cV g s D Xs wr h a = some o := by
  unfold cV
  rw [if_neg (fun z => z.elim h1 fun z => z.elim h2 h3)]; exact e
theorem cV_mono {h h' : Heap} (k : ∀ b o, b ∉ Xs → b ∉ wr → b ≠ D → h.get? b = some o → h'.get? b = some o) (a : Addr) (o : Obj) (e : cV g s D Xs wr h a = some o) : cV g s D Xs wr h' a = some o := by
  obtain ⟨⟨h1, h2, h3⟩, e'⟩ := cV_gt e
  refine cV_in h1 h2 h3 ?_
  unfold gext at e' ⊢
  by_cases q : (s.heap.get? a).isSome = true
  · rw [if_pos q] at e' ⊢; exact e'
  · rw [if_neg q] at e' ⊢; exact k a o h2 h3 h1 e'
theorem CX.down (c : CX W A tg g s s₂ items Gv I fp wr St D Xs) {b : Addr} (e : s₂.heap.get? b = none) : s.heap.get? b = none := by
  cases q : s.heap.get? b with
  | none => rfl
  | some o => exact no_some e (keepsK c.r.keeps b o q)
theorem CX.up (c : CX W A tg g s s₂ items Gv I fp wr St D Xs) {h : Heap} (k : cK s₂ D Xs wr h) (b : Addr) (o : Obj) (e : s.heap.get? b = some o) : h.get? b = some o :=
  k b o (fun q => no_some (c.down (c.nX b q)) e) (fun q => no_some (c.r.new b q) e) (fun q => no_some (c.down c.nD) (q ▸ e)) (keepsK c.r.keeps b o e)
theorem CX.sub (c : CX W A tg g s s₂ items Gv I fp wr St D Xs) {h : Heap} (k : cK s₂ D Xs wr h) : Sub (cV g s D Xs wr h) h := fun a o e => by
  have e' := (cV_gt e).2
  unfold gext at e'
  by_cases q : (s.heap.get? a).isSome = true
  · rw [if_pos q] at e'; exact c.up k a o (c.hs a o e')
  · rw [if_neg q] at e'; exact e'
theorem CX.gv (c : CX W A tg g s s₂ items Gv I fp wr St D Xs) (h : Heap) (a : Addr) (o : Obj) (e : g a = some o) : cV g s D Xs wr h a = some o := by
  have e1 := c.hs a o e
  exact cV_in (fun q => no_some (c.down c.nD) (q ▸ e1)) (fun q => no_some (c.down (c.nX a q)) e1) (fun q => no_some (c.r.new a q) e1) (le_gext c.hs a o e)
theorem CX.gvs (c : CX W A tg g s s₂ items Gv I fp wr St D Xs) {a : Addr} {o : Obj} (e : Gv a = some o) : a ∉ Xs ∧ a ∉ wr ∧ a ≠ D ∧ s₂.heap.get? a = some o := by
  have e1 := c.r.sub a o e
  exact ⟨fun q => no_some (c.nX a q) e1, fun q => noS ((c.r.off a q).symm.trans e), fun q => no_some c.nD (q ▸ e1), e1⟩
/-- what an iterator hands out, seen from the turn's view -/
theorem CX.item (c : CX W A tg g s s₂ items Gv I fp wr St D Xs) {h' h₂ : Heap} {x : PV} {v : Value} (hk : cK s₂ D Xs wr h') (hk₂ : cK s₂ D Xs wr h₂) (hD : ∃ o, h'.get? D = some o) (hX : ∀ b ∈ Xs, ∃ o, h'.get? b = some o)
    (hw : ∀ b ∈ wr, ∃ o, h'.get? b = some o) (h : Rep W.C (gext Gv h' h₂) x v) : Rep W.C (cV g s D Xs wr h₂) x v := by
  refine Rep.mono (View.le_of fun a o e => ?_) _ h
  unfold gext at e
  by_cases q : (h'.get? a).isSome = true
  · rw [if_pos q] at e
    obtain ⟨a1, a2, a3, e1⟩ := c.gvs e
    refine cV_in a3 a1 a2 ?_
    unfold gext
    by_cases z : (s.heap.get? a).isSome = true
    · rw [if_pos z]
      rcases c.r.view a o e with e2 | e2
      · exact e2
      · rw [e2] at z; exact noB z
    · rw [if_neg z]; exact hk₂ a o a1 a2 a3 e1
  · rw [if_neg q] at e
    have n : h'.get? a = none := by
      cases z : h'.get? a with
      | none => rfl
      | some o' => rw [z] at q; exact absurd rfl q
    refine cV_in (fun z => hD.elim fun o' h4 => no_some n (z ▸ h4)) (fun z => (hX a z).elim fun o' h4 => no_some n h4) (fun z => (hw a z).elim fun o' h4 => no_some n h4) ?_
    unfold gext
    by_cases z : (s.heap.get? a).isSome = true
    · obtain ⟨o', h4⟩ := Option.isSome_iff_exists.mp z
      exact no_some n (c.up hk a o' h4)
    · rw [if_neg z]; exact e
/-- what a turn makes, seen from the view after it -/
theorem CX.made (c : CX W A tg g s s₂ items Gv I fp wr St D Xs) {h₂ h₅ h₇ : Heap} {x : PV} {v : Value} (k : ∀ b o, b ∉ Xs → b ∉ wr → b ≠ D → h₂.get? b = some o → h₇.get? b = some o) (up : ∀ b o, s.heap.get? b = some o → h₅.get? b = some o)
    (hD : ∃ o, h₅.get? D = some o) (hX : ∀ b ∈ Xs, ∃ o, h₅.get? b = some o) (hw : ∀ b ∈ wr, ∃ o, h₅.get? b = some o) {h₆ : Heap} (k7 : ∀ b o, b ≠ D → h₆.get? b = some o → h₇.get? b = some o)
    (h : Rep W.C (gext (cV g s D Xs wr h₂) h₅ h₆) x v) : Rep W.C (cV g s D Xs wr h₇) x v := by
  refine Rep.mono (View.le_of fun a o e => ?_) _ h
  unfold gext at e
  by_cases q : (h₅.get? a).isSome = true
  · rw [if_pos q] at e
    exact cV_mono k a o e
  · rw [if_neg q] at e
    have n : h₅.get? a = none := by
      cases z : h₅.get? a with
      | none => rfl
      | some o' => rw [z] at q; exact absurd rfl q
    have a1 : a ≠ D := fun z => hD.elim fun o' h4 => no_some n (z ▸ h4)
    refine cV_in a1 (fun z => (hX a z).elim fun o' h4 => no_some n h4) (fun z => (hw a z).elim fun o' h4 => no_some n h4) ?_
    unfold gext
    by_cases z : (s.heap.get? a).isSome = true
    · obtain ⟨o', h4⟩ := Option.isSome_iff_exists.mp z
      exact no_some n (up a o' h4)
    · rw [if_neg z]; exact k7 a o a1 e
end
theorem comp_gen {elt tg iter : Expr} {ifs : List Expr} {scope : Scope} {pos : Pos} {t : Tg} {items zs : List PV} {fc : Rho → Option Bool} {fe : Rho → Option PV}
    {use : Option (Value → Sem Unit)} {Q : Value → Shared → Prop} {s₂ : Shared} {Gv : View} {I D L : Addr} {fp wr Xs : List Addr} {St : Nat → Heap → Prop} {cl : List (Str × Addr)} {Inv : Heap → Prop} {h₁ : Heap} {tk₁ : Nat}
    (c : CX W A tg g s s₂ items Gv I fp wr St D Xs) (ci : CInv Xs L Inv)
    (hB : ∀ (h₂ : Heap) (tk : Nat) (v : Value) (x : PV) (ρ' : Rho) (E : Value → Shared → Prop), Inv h₂ → cK s₂ D Xs wr h₂ → Rep W.C (cV g s D Xs wr h₂) x v → bindT ρ t x = some ρ' →
      wpAny (model W.prog W.w) A (assign tg (compEnvC scope cl L env) v) (fun uu s' => ∃ h₄ tk₄, s' = { s₂ with heap := h₄, toks := tk₄ } ∧ Inv h₄ ∧ (∀ b o, b ∉ Xs → h₂.get? b = some o → h₄.get? b = some o) ∧
        EnvG W (compEnvC scope cl L env) h₄ ∧ EnvRep ns (compEnvC scope cl L env) h₄ W.C (cV g s D Xs wr h₂) ρ') E { s₂ with heap := h₂, toks := tk })
    (P : Parts W A ns (fun env L cl => compEnvC scope cl L env) env elt ifs fc fe)
    (hz : compL (compF t fc fe ρ) items = some zs)
    (hfin : ∀ v L s', CompEnd W.C g s zs v L s' → compPost (model W.prog W.w) A Ex use Q v L (.ok .next) s')
    (hD₁ : h₁.get? D = some { cls := .type "list", data := .seq ([] : List Value).toArray }) (old : ∀ b o, s₂.heap.get? b = some o → h₁.get? b = some o) (i₁ : Inv h₁) :
    codeAny (model W.prog W.w) A (.compLoop (.ListComp elt [⟨tg, iter, ifs, 0⟩] scope pos) 0 (.ref I) (.ref D) (compEnvC scope cl L env)) (compPost (model W.prog W.w) A Ex use Q (.ref D) L) { s₂ with heap := h₁, toks := tk₁ } := by
  have r := c.r
  have wrm : ∀ b ∈ wr, ∃ o, s₂.heap.get? b = some o := fun b hb => r.wk.mem 0 _ r.st b (r.wk.sub b hb)
  have Dwr : D ∉ wr := fun h => (wrm D h).elim fun o e => no_some c.nD e
  have Xwr : ∀ b ∈ Xs, b ∉ wr := fun b hb h => (wrm b h).elim fun o e => no_some (c.nX b hb) e
  have Dfp : D ∉ fp := fun h => (r.wk.mem 0 _ r.st D h).elim fun o e => no_some c.nD e
  have Xfp : ∀ b ∈ fp, b ∉ Xs := fun b h hb => (r.wk.mem 0 _ r.st b h).elim fun o e => no_some (c.nX b hb) e
  have nXD : ∀ b ∈ Xs, b ≠ D := fun b hb q => c.dx (q ▸ hb)
  refine compLoop_go (fun n s' => ∃ h' tk i ys vs n' rest, s' = { s₂ with heap := h', toks := tk } ∧ St i h' ∧ i ≤ items.length ∧ n = items.length + 1 - i ∧
    h'.get? D = some { cls := .type "list", data := .seq (List.toArray vs) n' } ∧ Inv h' ∧ cK s₂ D Xs wr h' ∧ Reps W.C (cV g s D Xs wr h') ys vs ∧ ys.length ≤ i ∧ compL (compF t fc fe ρ) (items.drop i) = some rest ∧ zs = ys ++ rest) ?_ (items.length + 1)
    ⟨h₁, _, 0, [], [], 0, zs, rfl, r.wk.frame _ _ _ r.st (fun b hb o e => old b o e), Nat.zero_le _, rfl, hD₁, i₁, fun b o uu uu uu e => old b o e, Reps.nil, Nat.le_refl _, hz, rfl⟩
  rintro n s' ⟨h', tk, i, ys, vs, n', rest, rfl, hst, hi, rfl, hDo, hn, hk, hR, hyl, hc, hzs⟩
  by_cases hlt : i < items.length
  · have hx : items[i]? = some items[i] := List.getElem?_eq_getElem hlt
    rw [List.drop_eq_getElem_cons hlt] at hc
    obtain ⟨y, r', hy, hr', hrest⟩ := compL_cons hc
    unfold compF at hy
    refine bindK hy fun ρ' hb hy => bindK hy fun b hfc hy => ?_
    refine r.wk.turn i items[i] _ _ _ hx hst (fun a o e => by obtain ⟨a1, a2, a3, e1⟩ := c.gvs e; exact hk a o a1 a2 a3 e1) fun v s₁' hgo => ?_
    refine hgo _ fun h₂ tk₂ hst₂ hk₂ hrep => ?_
    have hk₂' : cK s₂ D Xs wr h₂ := fun b o h1 h2 h3 e => hk₂ b o h2 (hk b o h1 h2 h3 e)
    have hDo₂ := hk₂ D _ Dwr hDo
    have hn₂ : Inv h₂ := ci.keep h' h₂ hn fun b hb o e => hk₂ b o (Xwr b hb) e
    have hR₂ : Reps W.C (cV g s D Xs wr h₂) ys vs := Reps.mono (View.le_of (cV_mono fun b o uu h2 uu e => hk₂ b o h2 e)) _ hR
    have hv := c.item hk hk₂' ⟨_, hDo⟩ (ci.has h' hn) (fun b hb => r.wk.mem i _ hst b (r.wk.sub b hb)) hrep
    refine wpAny_mono (hB h₂ tk₂ v items[i] ρ' _ hn₂ hk₂' hv hb) (fun uu s₄ h₄ => ?_) fun uu uu y => y
    obtain ⟨h₄', tk₄, rfl, hn₄, hk₄, G₄, rep₄⟩ := h₄
    have hk₄' : cK s₂ D Xs wr h₄' := fun b o h1 h2 h3 e => hk₄ b o h1 (hk₂' b o h1 h2 h3 e)
    have sub₄ : Sub (cV g s D Xs wr h₂) h₄' := fun a o e => hk₄ a o (cV_gt e).1.2.1 (c.sub hk₂' a o e)
    have st₄ : St (i + 1) h₄' := r.wk.frame _ _ _ hst₂ fun b hb o e => hk₄ b o (Xfp b hb) e
    have D₄ := hk₄ D _ c.dx hDo₂
    refine wpAny_mono (P.test L cl ρ' _ (cV g s D Xs wr h₂) b _ G₄ sub₄ rep₄ hfc) (fun ok s₅ h₅ => ?_) fun uu uu y => y
    obtain ⟨rfl, h₅', tk₅, rfl, hk₅⟩ := h₅
    have st₅ : St (i + 1) h₅' := r.wk.frame _ _ _ st₄ fun b uu o e => hk₅ b o e
    have hn₅ : Inv h₅' := ci.keep h₄' h₅' hn₄ fun b uu o e => hk₅ b o e
    have hkk : cK s₂ D Xs wr h₅' := fun b o h1 h2 h3 e => hk₅ b o (hk₄' b o h1 h2 h3 e)
    have hlt' : items.length + 1 - (i + 1) < items.length + 1 - i := by omega
    cases ok with
    | false =>
      obtain rfl : none = y := Option.some.inj hy
      exact ⟨items.length + 1 - (i + 1), hlt', h₅', tk₅, i + 1, ys, vs, n', r', rfl, st₅, hlt, rfl, hk₅ D _ D₄, hn₅, hkk,
        Reps.mono (View.le_of (cV_mono fun b o h1 uu uu e => hk₅ b o (hk₄ b o h1 e))) _ hR₂, Nat.le_succ_of_le hyl, hr', hzs.trans (congrArg (ys ++ ·) hrest)⟩
    | true =>
      obtain ⟨z, hfe, rfl⟩ := Option.map_eq_some_iff.mp (show (fe ρ').map some = some y from hy)
      refine wpAny_mono (P.elt L cl ρ' _ (cV g s D Xs wr h₂) z _ (G₄.keep hk₅) (sub₄.keep hk₅) (rep₄.keep hk₅ fun uu uu e => e) hfe) (fun u s₆ h₆ => ?_) fun uu uu y => y
      obtain ⟨⟨h₆', tk₆, rfl, hk₆⟩, hru⟩ := h₆
      have D₅ := hk₅ D _ D₄
      have D₆ := hk₆ D _ D₅
      have hvs : vs.length ≤ i := by rw [hR.length]; exact hyl
      have hsz : vs.toArray.size ≤ sizeLine := by
        have hlen := r.len
        rw [sizeLine_eq, List.size_toArray]; simp only [lim] at hlen; omega
      refine wpAny_list_append_plain (items := vs.toArray) ⟨n', D₆⟩ (fun h₇ hp₇ hs₇ => ?_) hsz
      obtain ⟨n₇, hp₇⟩ := hp₇
      rw [show vs.toArray.push u = (vs ++ [u]).toArray by simp] at hp₇
      have k7 : ∀ b o, b ≠ D → h₆'.get? b = some o → h₇.get? b = some o := fun b o h1 e => hs₇.extBut b o h1 e
      have k₇ : ∀ b o, b ∉ Xs → b ∉ wr → b ≠ D → h₂.get? b = some o → h₇.get? b = some o := fun b o h2 uu h1 e => k7 b o h1 (hk₆ b o (hk₅ b o (hk₄ b o h2 e)))
      exact ⟨items.length + 1 - (i + 1), hlt', h₇, tk₆, i + 1, ys ++ [z], vs ++ [u], n₇, r', rfl, r.wk.frame _ _ _ st₅ fun b hb o e => k7 b o (fun q => Dfp (q ▸ hb)) (hk₆ b o e), hlt, rfl, hp₇,
        ci.keep h₅' h₇ hn₅ fun b hb o e => k7 b o (nXD b hb) (hk₆ b o e), fun b o h1 h2 h3 e => k₇ b o h1 h2 h3 (hk₂' b o h1 h2 h3 e),
        Reps.append (Reps.mono (View.le_of (cV_mono k₇)) _ hR₂) (Reps.cons (c.made k₇ (c.up hkk) ⟨_, D₅⟩ (ci.has h₅' hn₅) (fun b hb => r.wk.mem (i + 1) _ st₅ b (r.wk.sub b hb)) k7 hru) Reps.nil),
        (by rw [List.length_append]; exact Nat.succ_le_succ hyl), hr', by rw [hzs, hrest, List.append_assoc]; rfl⟩
  · obtain rfl : i = items.length := Nat.le_antisymm hi (Nat.le_of_not_lt hlt)
    refine r.wk.done _ _ _ hst fun h₃ tk₃ hk₃ => ?_
    rw [List.drop_length] at hc
    obtain rfl : [] = rest := Option.some.inj hc
    rw [List.append_nil] at hzs
    subst hzs
    have hk₃' : cK s₂ D Xs wr h₃ := fun b o h1 h2 h3 e => hk₃ b o h2 (hk b o h1 h2 h3 e)
    have D₃ := hk₃ D _ Dwr hDo
    have keeps₃ : Keeps s { s₂ with heap := h₃, toks := tk₃ } := by
      obtain ⟨hh₂, tt, rfl, uu⟩ := r.keeps
      exact ⟨h₃, tk₃, rfl, c.up hk₃'⟩
    have DL : D ≠ L := fun q => c.dx (q ▸ ci.mem)
    refine hfin _ _ _ ⟨keeps₃, ⟨D, _, _, rfl, c.down c.nD, D₃⟩, ?_, ci.ns h₃ (ci.keep h' h₃ hn fun b hb o e => hk₃ b o (Xwr b hb) e), c.down (c.nX L ci.mem)⟩
    refine ⟨D, vs, n', rfl, ?_, Reps.mono (View.le_of fun a o e => ?_) _ hR⟩
    · show (if D = L then none else gext g s.heap h₃ D) = _
      rw [if_neg DL, gext_new (c.down c.nD)]; exact D₃
    · have e2 := cV_gt (cV_mono (h' := h₃) (fun b o uu h2 uu e => hk₃ b o h2 e) a o e)
      show (if a = L then none else gext g s.heap h₃ a) = _
      rw [if_neg fun (q : a = L) => e2.1.2.1 (q ▸ ci.mem)]; exact e2.2
theorem comp_ok {elt tg iter : Expr} {ifs : List Expr} {scope : Scope} {pos : Pos} {t : Tg} {items zs : List PV} {fc : Rho → Option Bool} {fe : Rho → Option PV}
    {use : Option (Value → Sem Unit)} {Q : Value → Shared → Prop}
    (hh : A.handled = none) (nd : ns.Nodup) (G : EnvG W env s.heap) (hs : Sub g s.heap) (R : EnvRep ns env s.heap W.C g ρ)
    (cn : CompNames ns env.scope.names scope t) (hm : matchT ns (fun n => (relab scope.names env.scope.names).lookup n == some .local) t tg = true)
    (hset : ∀ x, foldedSetIterable iter env x = pure x)
    (hit : ∀ E, wpAny (model W.prog W.w) A (eval iter env) (fun xv s₁ => wpAny (model W.prog W.w) A (pyIter xv) (fun it s₂ => Iters W.prog W.w A tg W.C g s items it s₂) E s₁) E s)
    (P : Parts W A ns (fun env L cl => compEnvC scope cl L env) env elt ifs fc fe)
    (hz : compL (compF t fc fe ρ) items = some zs)
    (hfin : ∀ v L s', CompEnd W.C g s zs v L s' → compPost (model W.prog W.w) A Ex use Q v L (.ok .next) s') :
    wpAny (model W.prog W.w) A (comprehension (.ListComp elt [⟨tg, iter, ifs, 0⟩] scope pos) scope env (firstIterPos [⟨tg, iter, ifs, 0⟩] pos) (newList []) false (eval iter env) use) Q Ex s := by
  have hcl : ∀ p ∈ scope.names, p.2 = .free → ∃ c, env.cells.lookup p.1 = some c := fun p hp e => G.cl _ (cn.free p hp e)
  have hclos := closure_eq hcl
  refine wpAny_comprehension_free rfl hset hclos cn.fn (fun x hx e => (cn.loc x hx e).1) (wpAny_mono (hit Ex) (fun xv s₁ h₁ => wpAny_mono h₁ (fun it s₂ h₂ => ?_) fun uu uu y => y) fun uu uu y => y)
  obtain ⟨Gv, I, fp, wr, St, rfl, r⟩ := h₂
  refine wpAny_newObj_type (wpAny_newFunctionEnv (fun y hy => cn.noCell y hy) (by intro y hy; simp at hy) (fun h₁ hns₁ hsb₁ => ?_) cn.fn)
  dsimp only at hns₁ hsb₁ ⊢
  generalize hH2 : s₂.heap.push { cls := .type "list", dict := none, data := .seq ([] : List Value).toArray } = H2 at hns₁ hsb₁ ⊢
  have hC : H2.objs.size = s₂.heap.objs.size + 1 := by rw [← hH2, Heap.size_push]
  generalize hDe : s₂.heap.objs.size = D at hC ⊢
  generalize hCe : H2.objs.size = L at hC hns₁ hsb₁ ⊢
  have nD : s₂.heap.get? D = none := hDe ▸ get_size _
  have nL : s₂.heap.get? L = none := by
    cases e : s₂.heap.get? L with
    | none => rfl
    | some o => have := Heap.lt_size e; rw [hDe, hC] at this; exact absurd this (Nat.not_lt.mpr (Nat.le_succ D))
  have hDL : D ≠ L := by rw [hC]; exact Nat.ne_of_lt (Nat.lt_succ_self _)
  have c : CX W A tg g s s₂ items Gv I fp wr St D [L] := ⟨r, hs, nD, fun b hb => by rw [List.mem_singleton.mp hb]; exact nL, fun q => hDL (List.mem_singleton.mp q)⟩
  have ci : CInv [L] L (fun h => ∃ m, h.Ns L m) := ⟨fun h h' ⟨m, hn⟩ k => ⟨m, hn.at' fun o e => k L List.mem_cons_self o e⟩, fun h ⟨m, hn⟩ b hb => by rw [List.mem_singleton.mp hb]; obtain ⟨o', uu, uu, h4, uu⟩ := hn; exact ⟨_, h4⟩, fun h e => e, List.mem_cons_self⟩
  have old : ∀ b o, s₂.heap.get? b = some o → h₁.get? b = some o := fun b o e =>
    hsb₁.extBut b o (fun q => no_some nL (q ▸ e)) (Heap.get?_push_of_some _ (hH2 ▸ Heap.get?_push_of_some _ e))
  have hD₁ : h₁.get? D = some { cls := .type "list", data := .seq ([] : List Value).toArray } := by
    refine hsb₁.extBut _ _ hDL (Heap.get?_push_of_some _ ?_)
    rw [← hH2, ← hDe]; exact Heap.get?_push_size _ rfl
  have names : ∀ n k, (relab scope.names env.scope.names).lookup n = some k → (k = .local → scope.names.lookup n = some .local) ∧ (k = .cell ∨ k = .free → (n, NameKind.free) ∈ scope.names) := fun n k e => by
    rw [relab_lookup] at e
    cases q : scope.names.lookup n with
    | none => rw [q] at e; cases e
    | some k' =>
      rw [q] at e
      have hnc := cn.noCell _ (mem_lookup q)
      simp only [Option.map_some, Option.some.injEq] at e
      refine ⟨fun h => ?_, fun h => ?_⟩
      · subst h
        split at e
        · (first | exact noS e | exact noB e | cases e)
        · rw [e]
      · have hk : k' = .free := by
          split at e
          · rename_i z; simp only [Bool.and_eq_true, beq_iff_eq] at z; exact z.1
          · rcases h with h | h
            · subst h; exact absurd e hnc
            · subst h; exact e
        rw [← hk]; exact mem_lookup q
  have clk : ∀ n, (n, NameKind.free) ∈ scope.names → ∃ c, env.cells.lookup n = some c ∧ (clL env.cells scope.names []).lookup n = some c := fun n hn => by
    obtain ⟨c, hc⟩ := hcl _ hn rfl
    exact ⟨c, hc, clL_lookup hc _ _ (.inl hn) (fun x hx => by simp at hx)⟩
  have kd : ∀ n, (compEnvC scope (clL env.cells scope.names []) L env).kindOf n = (relab scope.names env.scope.names).lookup n := fun n => by
    show (relabel scope env).names.lookup n = _
    rw [relab_eq G.fn]
  have above : W.h₀.objs.size ≤ L := by
    obtain ⟨m, F⟩ := G.fr
    obtain ⟨o, uu, uu, ho, uu⟩ := F.ns
    have := Heap.lt_size (keepsK r.keeps _ _ ho)
    have h2 := F.above
    rw [hDe] at this
    rw [hC]
    exact Nat.le_trans h2 (Nat.le_trans (Nat.le_of_lt this) (Nat.le_succ _))
  have envG : ∀ h m, cK s₂ D [L] wr h → h.Ns L m → EnvG W (compEnvC scope (clL env.cells scope.names []) L env) h := fun h m k hn =>
    ⟨G.gl, G.bu, cn.fn, ⟨m, ⟨hn, fun b o e => c.up k b o (G.base b o e), above⟩⟩, fun n hk => by
      rw [kd] at hk
      have : ∃ k, (relab scope.names env.scope.names).lookup n = some k ∧ (k = .cell ∨ k = .free) := hk.elim (fun e => ⟨_, e, .inl rfl⟩) fun e => ⟨_, e, .inr rfl⟩
      obtain ⟨k, e, hk⟩ := this
      obtain ⟨c, uu, h2⟩ := clk n ((names n k e).2 hk)
      exact ⟨c, h2⟩⟩
  have loop : ∀ tk, codeAny (model W.prog W.w) A (.compLoop (.ListComp elt [⟨tg, iter, ifs, 0⟩] scope pos) 0 (.ref I) (.ref D) (compEnvC scope (clL env.cells scope.names []) L env))
        (compPost (model W.prog W.w) A Ex use Q (.ref D) L) { s₂ with heap := h₁, toks := tk } := fun tk => by
    refine comp_gen c ci (fun h₂ tk₂ v x ρ' E hinv hk₂' hv hb => ?_) P hz hfin hD₁ old ⟨_, hns₁⟩
    obtain ⟨m, hn₂⟩ := hinv
    let PA : Rho → Shared → Prop := fun ρ₁ s₁ => ∃ h tk m, s₁ = { s₂ with heap := h, toks := tk } ∧ h.Ns L m ∧ (∀ b o, b ∉ [L] → h₂.get? b = some o → h.get? b = some o) ∧
      (∀ (j : Nat) (n : Str) (x : PV), ns[j]? = some n → ρ₁[j]? = some (some x) → (relab scope.names env.scope.names).lookup n = some .local → ∃ v, m n = some v ∧ Rep W.C (cV g s D [L] wr h₂) x v) ∧
      (∀ (j : Nat) (n : Str) (x : PV), ns[j]? = some n → ρ₁[j]? = some (some x) → (relab scope.names env.scope.names).lookup n ≠ some .local → ρ[j]? = some (some x))
    have start : PA (blank t ρ) { s₂ with heap := h₂, toks := tk₂ } := by
      refine ⟨h₂, tk₂, m, rfl, hn₂, fun uu uu uu e => e, fun j n x hj hb' hl => ?_, fun j n x uu hb' uu => blank_get t ρ j x hb'⟩
      have h1 := (names n _ hl).1 rfl
      rcases (cn.loc _ (mem_lookup h1) rfl).2 with q | q
      · exact absurd (List.mem_of_getElem? hj) (by dsimp only at q; rw [q]; exact cn.dot)
      · exact absurd hb' (blank_none nd t ρ j n x hj q)
    refine wpAny_mono (assign_ok (F := cV g s D [L] wr h₂) (C := W.C) (P := PA) (f := bindR) hh ?_ ?_ ?_ t tg hm (blank t ρ) ρ' x v _ _ start hv hb) (fun uu s₄ h₄ => ?_) fun uu uu y => y
    · rintro ρ₁ s₁ ⟨h, tk, m, rfl, uu, h3, uu⟩ a o e
      exact h3 a o (cV_gt e).1.2.1 (c.sub hk₂' a o e)
    · rintro ρ₁ s₁ hh' ⟨h, tk, m, rfl, h2, h3, h4, h5⟩ kk
      exact ⟨hh', tk, m, rfl, h2.keeps kk, fun b o h1 e => kk b o (h3 b o h1 e), h4, h5⟩
    · rintro ρ₁ ρ₂ j n x v' s₁ E ⟨h, tk, m, rfl, h2, h3, h4, h5⟩ hj hl hrv hb'
      have hl' : (relab scope.names env.scope.names).lookup n = some .local := by simpa using hl
      unfold bindR at hb'
      refine ifK (G := fun ρ₂ => wpAny (model W.prog W.w) A (storeName (compEnvC scope (clL env.cells scope.names []) L env) n v') (fun uu s' => PA ρ₂ s') E { s₂ with heap := h, toks := tk }) hb' fun hjl => ?_
      refine wpAny_storeName_local (env := compEnvC scope (clL env.cells scope.names []) L env) (by rw [kd]; exact hl') h2 (fun h'' hn'' hs'' => ?_) (by
        show ((relabel scope env).kind == .class || ((relabel scope env).kind == .module && _)) = false
        rw [show (relabel scope env).kind = .function from cn.fn]; rfl)
      refine ⟨h'', _, _, rfl, hn'', fun b o h1 e => hs''.extBut b o (fun q => h1 (q ▸ List.mem_cons_self)) (h3 b o h1 e), fun j' n' x' hj' hb'' hl'' => ?_, fun j' n' x' hj' hb'' hl'' => ?_⟩
      · by_cases hnn : n' = n
        · subst hnn
          have := nodup_inj nd hj hj'
          subst this
          rw [List.getElem?_set_self hjl] at hb''
          (first | exact noS hb'' | exact noB hb'' | cases hb'')
          exact ⟨v', if_pos rfl, hrv⟩
        · have hne : j ≠ j' := fun q => hnn (by subst q; rw [hj] at hj'; exact (Option.some.inj hj').symm)
          rw [List.getElem?_set_ne hne] at hb''
          obtain ⟨u, hu, ru⟩ := h4 j' n' x' hj' hb'' hl''
          exact ⟨u, by rw [if_neg hnn]; exact hu, ru⟩
      · have hne : j ≠ j' := fun q => hl'' (by subst q; rw [hj] at hj'; (first | exact noS hj' | exact noB hj' | cases hj'); exact hl')
        rw [List.getElem?_set_ne hne] at hb''
        exact h5 j' n' x' hj' hb'' hl''
    · obtain ⟨h₄', tk₄, m₄, rfl, hn₄, hk₄, hl₄, hnl₄⟩ := h₄
      have hk₄' : cK s₂ D [L] wr h₄' := fun b o h1 h2 h3 e => hk₄ b o h1 (hk₂' b o h1 h2 h3 e)
      refine ⟨h₄', tk₄, rfl, ⟨m₄, hn₄⟩, hk₄, envG h₄' m₄ hk₄' hn₄, fun j n x hj hx' => ⟨fun hkn => ?_, fun hkn => ?_⟩⟩
      · rw [kd] at hkn
        obtain ⟨u, hu, ru⟩ := hl₄ j n x hj hx' hkn
        exact ⟨m₄, u, hn₄, hu, ru⟩
      · rw [kd] at hkn
        have : ∃ k, (relab scope.names env.scope.names).lookup n = some k ∧ (k = .cell ∨ k = .free) := hkn.elim (fun e => ⟨_, e, .inl rfl⟩) fun e => ⟨_, e, .inr rfl⟩
        obtain ⟨k, e, hk'⟩ := this
        have hfree := (names n k e).2 hk'
        have hρ := hnl₄ j n x hj hx' (by rw [e]; rcases hk' with rfl | rfl <;> simp)
        obtain ⟨cc, u, hc1, hc2, hc3⟩ := (R j n x hj hρ).2 (cn.free _ hfree rfl)
        obtain ⟨c', hc4, hc5⟩ := clk n hfree
        rw [hc1] at hc4; cases hc4
        exact ⟨cc, u, hc5, hc2.keeps (c.up hk₄'), Rep.mono (View.le_of (c.gv h₂)) _ hc3⟩
  exact codeAny_compStart_list (loop _) (r.wk.self 0 _ _ _ (r.wk.frame _ _ _ r.st fun b uu o e => old b o e) (loop _))
end
end Mp
end

section
set_option maxRecDepth 20000
/-! MiniPy: a comprehension whose one target is a cell, for a comprehension within reads it. -/
namespace Mp
open PySem PySem.Calls PyProof.Rows PySem.W

theorem cells_none : ∀ (r : Sc) (k : Nat) (acc : List (Str × Addr)) (h : Heap), r.all (fun p => p.2 != .cell) = true → cellsFrom k r acc = acc ∧ pushCells h r = h
  | [], _, _, _, _ => ⟨rfl, rfl⟩
  | (n, kd) :: r, k, acc, h, e => by
    rw [List.all_cons, Bool.and_eq_true] at e
    have hk : (kd == NameKind.cell) = false := by simpa using e.1
    unfold cellsFrom pushCells
    rw [if_neg (by rw [hk]; decide), if_neg (by rw [hk]; decide)]
    exact cells_none r k acc h e.2
theorem oneCell_c (n : Str) (p : Str × NameKind) (r : Sc) : oneCell n (p :: r) = if p.2 == .cell then p.1 == n && r.all (fun p => p.2 != .cell) else oneCell n r := rfl
theorem cells_one {n : Str} : ∀ (r : Sc) (acc : List (Str × Addr)) (h : Heap), oneCell n r = true → cellsFrom h.objs.size r acc = (n, h.objs.size) :: acc ∧ pushCells h r = h.push { cls := .type "cell", data := .cell none }
  | [], _, _, e => noB e
  | (m, kd) :: r, acc, h, e => by
    rw [oneCell_c] at e
    unfold cellsFrom pushCells
    by_cases hk : (kd == NameKind.cell) = true
    · rw [if_pos hk] at e
      rw [if_pos hk, if_pos hk]
      rw [Bool.and_eq_true, beq_iff_eq] at e
      obtain ⟨e1, e2⟩ := e
      dsimp only at e1
      subst e1
      exact cells_none r _ _ _ e2
    · rw [if_neg hk] at e
      rw [if_neg hk, if_neg hk]
      exact cells_one r acc h e
theorem oneCell_mem {n m : Str} : ∀ {r : Sc}, oneCell n r = true → (m, NameKind.cell) ∈ r → m = n
  | [], _, h => by cases h
  | (a, kd) :: r, e, h => by
    rw [oneCell_c] at e
    by_cases hk : (kd == NameKind.cell) = true
    · rw [if_pos hk, Bool.and_eq_true, beq_iff_eq] at e
      rcases List.mem_cons.mp h with q | q
      · (first | exact noS q | exact noB q | cases q); exact e.1
      · have := List.all_eq_true.mp e.2 _ q
        simp at this
    · rw [if_neg hk] at e
      rcases List.mem_cons.mp h with q | q
      · (first | exact noS q | exact noB q | cases q); simp at hk
      · exact oneCell_mem e q

structure CompNames1 (ns : List Str) (sc : Sc) (scope : Scope) (i : Nat) (n : Str) : Prop where
  at' : ns[i]? = some n
  fn : scope.kind = .function
  dot : Str.ofString ".0" ∉ ns
  cell : scope.names.lookup n = some .cell
  one : oneCell n scope.names = true
  loc : ∀ p ∈ scope.names, p.2 = .local → scope.names.lookup p.1 = some .local ∧ p.1 = Str.ofString ".0"
  free : ∀ p ∈ scope.names, p.2 = .free → sc.lookup p.1 = some .cell ∨ sc.lookup p.1 = some .free
theorem compOk1_names {ns : List Str} {sc : Sc} {scope : Scope} {t : Tg} {tg : Expr} (h : compOk1 ns sc scope t tg = true) : ∃ i n p, t = .v i ∧ tg = .Name n p ∧ CompNames1 ns sc scope i n := by
  cases t with
  | t l => exact noB h
  | v i =>
    cases tg <;> first | exact noB h | skip
    rename_i n p
    change (ns[i]? == some n && scope.kind == .function && !ns.contains (Str.ofString ".0") && scope.names.lookup n == some .cell && oneCell n scope.names &&
      scope.names.all fun p => (p.2 != .local || (scope.names.lookup p.1 == some .local && p.1 == Str.ofString ".0")) && (p.2 != .free || sc.lookup p.1 == some .cell || sc.lookup p.1 == some .free)) = true at h
    simp only [Bool.and_eq_true, beq_iff_eq, Bool.not_eq_true', List.all_eq_true, Bool.or_eq_true, bne_iff_ne, ne_eq] at h
    obtain ⟨⟨⟨⟨⟨h1, h2⟩, h3⟩, h4⟩, h5⟩, h6⟩ := h
    refine ⟨i, n, p, rfl, rfl, h1, h2, ?_, h4, h5, fun p hp e => ?_, fun p hp e => ?_⟩
    · intro hm; rw [List.contains_iff_mem.mpr hm] at h3; cases h3
    · rcases (h6 p hp).1 with q | q
      · exact absurd e q
      · exact q
    · rcases (h6 p hp).2 with (q | q) | q
      · exact absurd e q
      · exact .inl q
      · exact .inr q

section
variable {W : Wd} {A : Around} {ns : List Str} {env : Env} {s : Shared} {g : View} {ρ : Rho} {Ex : Value → Shared → Prop}

theorem newEnv1 {M : Model} {E : Value → Shared → Prop} {scope : Scope} {n : Str} {globals : Addr} {closure : List (Str × Addr)} {qual : Str} {func : Option Addr} {code : Value} {around : Env} {builtins : Addr} {Q : Env → Shared → Prop}
    (hk : oneCell n scope.names = true) (h : Q (newEnv scope s.heap.objs.size globals ((n, s.heap.objs.size + 1) :: closure) qual func code (some around) builtins)
      { s with heap := (s.heap.push { cls := .type "dict", data := .dict #[] }).push { cls := .type "cell", data := .cell none } }) :
    wpAny M A (newFunctionEnv scope globals closure [] qual func code (some around) builtins) Q E s := by
  simp only [newFunctionEnv, Option.isSome_some, if_true]
  refine wpAny_bind (wpAny_alloc ?_)
  refine wpAny_bind (wpAny_layCells _ (fun name kind cells => by cases hkc : kind == NameKind.cell <;> simp [hkc]) _ _ _ _ ?_)
  obtain ⟨c1, c2⟩ := cells_one scope.names closure (s.heap.push { cls := .type "dict", data := .dict #[] }) hk
  rw [Heap.size_push] at c1
  rw [show ({ s with heap := s.heap.push { cls := .type "dict", data := .dict #[] } } : Shared).heap.objs.size = s.heap.objs.size + 1 from Heap.size_push ..]
  rw [c1, show ({ s with heap := s.heap.push { cls := .type "dict", data := .dict #[] } } : Shared).heap = s.heap.push { cls := .type "dict", data := .dict #[] } from rfl, c2]
  rw [List.forIn_nil]
  exact wpAny_bind (wpAny_pure (wpAny_pure h))

theorem mem2 {a b c : Addr} : c ∈ [a, b] ↔ c = a ∨ c = b := by rw [List.mem_cons, List.mem_singleton]
theorem comp_ok1 {elt tg iter : Expr} {ifs : List Expr} {scope : Scope} {pos : Pos} {i₀ : Nat} {n₀ : Str} {p₀ : Pos} {items zs : List PV} {fc : Rho → Option Bool} {fe : Rho → Option PV}
    {use : Option (Value → Sem Unit)} {Q : Value → Shared → Prop}
    (nd : ns.Nodup) (G : EnvG W env s.heap) (hs : Sub g s.heap) (R : EnvRep ns env s.heap W.C g ρ)
    (cn : CompNames1 ns env.scope.names scope i₀ n₀) (htg : tg = .Name n₀ p₀)
    (hset : ∀ x, foldedSetIterable iter env x = pure x)
    (hit : ∀ E, wpAny (model W.prog W.w) A (eval iter env) (fun xv s₁ => wpAny (model W.prog W.w) A (pyIter xv) (fun it s₂ => Iters W.prog W.w A tg W.C g s items it s₂) E s₁) E s)
    (P : Parts W A ns (fun env L cl => compEnvC scope cl L env) env elt ifs fc fe)
    (hz : compL (compF (.v i₀) fc fe ρ) items = some zs)
    (hfin : ∀ v L s', CompEnd W.C g s zs v L s' → compPost (model W.prog W.w) A Ex use Q v L (.ok .next) s') :
    wpAny (model W.prog W.w) A (comprehension (.ListComp elt [⟨tg, iter, ifs, 0⟩] scope pos) scope env (firstIterPos [⟨tg, iter, ifs, 0⟩] pos) (newList []) false (eval iter env) use) Q Ex s := by
  have hcl : ∀ p ∈ scope.names, p.2 = .free → ∃ c, env.cells.lookup p.1 = some c := fun p hp e => G.cl _ (cn.free p hp e)
  have hclos := closure_eq hcl
  refine wpAny_comprehension_free rfl hset hclos cn.fn (fun x hx e => (cn.loc x hx e).1) (wpAny_mono (hit Ex) (fun xv s₁ h₁ => wpAny_mono h₁ (fun it s₂ h₂ => ?_) fun uu uu y => y) fun uu uu y => y)
  obtain ⟨Gv, I, fp, wr, St, rfl, r⟩ := h₂
  refine wpAny_newObj_type (newEnv1 cn.one ?_)
  dsimp only
  generalize hH2 : s₂.heap.push { cls := .type "list", dict := none, data := .seq ([] : List Value).toArray } = H2
  have hC : H2.objs.size = s₂.heap.objs.size + 1 := by rw [← hH2, Heap.size_push]
  generalize hDe : s₂.heap.objs.size = D at hC ⊢
  have hns₁ : ((H2.push { cls := .type "dict", data := .dict #[] }).push { cls := .type "cell", data := .cell none }).Ns H2.objs.size fun uu => none := (Heap.Ns.new H2 (.type "dict")).keeps fun b o e => Heap.get?_push_of_some _ e
  have hcl₁ : ((H2.push { cls := .type "dict", data := .dict #[] }).push { cls := .type "cell", data := .cell none }).get? (H2.objs.size + 1) = some { cls := .type "cell", data := .cell none } := by
    rw [← Heap.size_push H2 { cls := .type "dict", data := .dict #[] }]; exact Heap.get?_push_size _ rfl
  have hup : ∀ b o, H2.get? b = some o → ((H2.push { cls := .type "dict", data := .dict #[] }).push { cls := .type "cell", data := .cell none }).get? b = some o := fun b o e => Heap.get?_push_of_some _ (Heap.get?_push_of_some _ e)
  generalize hh₁ : (H2.push { cls := .type "dict", data := .dict #[] }).push { cls := .type "cell", data := .cell none } = h₁ at hns₁ hcl₁ hup ⊢
  generalize hCe : H2.objs.size = L at hC hns₁ hcl₁ ⊢
  generalize hKe : L + 1 = K at hcl₁ ⊢
  have nD : s₂.heap.get? D = none := hDe ▸ get_size _
  have nX : ∀ b, D < b → s₂.heap.get? b = none := fun b hb => by
    cases e : s₂.heap.get? b with
    | none => rfl
    | some o => have := Heap.lt_size e; rw [hDe] at this; exact absurd this (Nat.not_lt.mpr (Nat.le_of_lt hb))
  have hLlt : D < L := by rw [hC]; exact Nat.lt_succ_self _
  have hKlt : D < K := by rw [← hKe]; exact Nat.lt_succ_of_lt hLlt
  have hLK : L ≠ K := by rw [← hKe]; exact Nat.ne_of_lt (Nat.lt_succ_self _)
  have nL := nX L hLlt
  have nK := nX K hKlt
  have hDL : D ≠ L := Nat.ne_of_lt hLlt
  have hDK : D ≠ K := Nat.ne_of_lt hKlt
  have c : CX W A tg g s s₂ items Gv I fp wr St D [L, K] := ⟨r, hs, nD, fun b hb => by
    rcases mem2.mp hb with q | q
    · rw [q]; exact nL
    · rw [q]; exact nK, fun q => (mem2.mp q).elim hDL hDK⟩
  have ci : CInv [L, K] L (fun h => ∃ m u, h.Ns L m ∧ h.IsCell K u) := ⟨fun h h' ⟨m, u, hn, o, e1, e2⟩ k => ⟨m, u, hn.at' fun o e => k L List.mem_cons_self o e, o, k K (mem2.mpr (.inr rfl)) o e1, e2⟩, fun h ⟨m, u, hn, hc⟩ b hb => by
    rcases mem2.mp hb with q | q
    · rw [q]; obtain ⟨o', uu, uu, h4, uu⟩ := hn; exact ⟨_, h4⟩
    · rw [q]; obtain ⟨o', h4, uu⟩ := hc; exact ⟨_, h4⟩, fun h ⟨m, _, e, _⟩ => ⟨m, e⟩, List.mem_cons_self⟩
  have old : ∀ b o, s₂.heap.get? b = some o → h₁.get? b = some o := fun b o e => hup b o (hH2 ▸ Heap.get?_push_of_some _ e)
  have hD₁ : h₁.get? D = some { cls := .type "list", data := .seq ([] : List Value).toArray } := by
    refine hup _ _ ?_
    rw [← hH2, ← hDe]; exact Heap.get?_push_size _ rfl
  have names : ∀ n k, (relab scope.names env.scope.names).lookup n = some k → (k = .local → n = Str.ofString ".0") ∧ (k = .cell ∨ k = .free → n = n₀ ∨ (n ≠ n₀ ∧ (n, NameKind.free) ∈ scope.names)) := fun n k e => by
    rw [relab_lookup] at e
    cases q : scope.names.lookup n with
    | none => rw [q] at e; cases e
    | some k' =>
      rw [q] at e
      simp only [Option.map_some, Option.some.injEq] at e
      refine ⟨fun h => ?_, fun h => ?_⟩
      · subst h
        split at e
        · (first | exact noS e | exact noB e | cases e)
        · subst e; exact (cn.loc _ (mem_lookup q) rfl).2
      · by_cases hn : n = n₀
        · exact .inl hn
        · refine .inr ⟨hn, ?_⟩
          have hk : k' = .free := by
            split at e
            · rename_i z; simp only [Bool.and_eq_true, beq_iff_eq] at z; exact z.1
            · rcases h with h | h
              · subst h; subst e; exact absurd (oneCell_mem cn.one (mem_lookup q)) hn
              · subst h; exact e
          rw [← hk]; exact mem_lookup q
  have clk : ∀ n, n ≠ n₀ → (n, NameKind.free) ∈ scope.names → ∃ c, env.cells.lookup n = some c ∧ ((n₀, K) :: clL env.cells scope.names []).lookup n = some c := fun n hne hn => by
    obtain ⟨c, hc⟩ := hcl _ hn rfl
    have hb : (n == n₀) = false := beq_eq_false_iff_ne.mpr hne
    exact ⟨c, hc, by rw [List.lookup_cons, hb]; exact clL_lookup hc _ _ (.inl hn) (fun x hx => by simp at hx)⟩
  have clk0 : ((n₀, K) :: clL env.cells scope.names []).lookup n₀ = some K := by rw [List.lookup_cons, beq_self_eq_true]
  have kd : ∀ n, (compEnvC scope ((n₀, K) :: clL env.cells scope.names []) L env).kindOf n = (relab scope.names env.scope.names).lookup n := fun n => by
    show (relabel scope env).names.lookup n = _
    rw [relab_eq G.fn]
  have kd0 : (relab scope.names env.scope.names).lookup n₀ = some .cell := by
    rw [relab_lookup, cn.cell]; rfl
  have above : W.h₀.objs.size ≤ L := by
    obtain ⟨m, F⟩ := G.fr
    obtain ⟨o, uu, uu, ho, uu⟩ := F.ns
    have := Heap.lt_size (keepsK r.keeps _ _ ho)
    have h2 := F.above
    rw [hDe] at this
    rw [hC]
    exact Nat.le_trans h2 (Nat.le_trans (Nat.le_of_lt this) (Nat.le_succ _))
  have envG : ∀ h m, cK s₂ D [L, K] wr h → h.Ns L m → EnvG W (compEnvC scope ((n₀, K) :: clL env.cells scope.names []) L env) h := fun h m k hn =>
    ⟨G.gl, G.bu, cn.fn, ⟨m, ⟨hn, fun b o e => c.up k b o (G.base b o e), above⟩⟩, fun n hk => by
      rw [kd] at hk
      have : ∃ k, (relab scope.names env.scope.names).lookup n = some k ∧ (k = .cell ∨ k = .free) := hk.elim (fun e => ⟨_, e, .inl rfl⟩) fun e => ⟨_, e, .inr rfl⟩
      obtain ⟨k, e, hk⟩ := this
      rcases (names n k e).2 hk with rfl | ⟨hne, hf⟩
      · exact ⟨K, clk0⟩
      · obtain ⟨c, uu, h2⟩ := clk n hne hf
        exact ⟨c, h2⟩⟩
  have loop : ∀ tk, codeAny (model W.prog W.w) A (.compLoop (.ListComp elt [⟨tg, iter, ifs, 0⟩] scope pos) 0 (.ref I) (.ref D) (compEnvC scope ((n₀, K) :: clL env.cells scope.names []) L env))
        (compPost (model W.prog W.w) A Ex use Q (.ref D) L) { s₂ with heap := h₁, toks := tk } := fun tk => by
    refine comp_gen c ci (fun h₂ tk₂ v x ρ' E hinv hk₂' hv hb => ?_) P hz hfin hD₁ old ⟨_, _, hns₁, _, hcl₁, rfl⟩
    obtain ⟨m, u0, hn₂, hce₂⟩ := hinv
    subst htg
    refine wpAny_assign_Name (wpAny_storeName_cell (env := compEnvC scope ((n₀, K) :: clL env.cells scope.names []) L env) cn.fn (by rw [kd]; exact kd0) clk0 hce₂ fun h₄' hce₄ hsb₄ => ?_)
    have hk₄ : ∀ b o, b ∉ [L, K] → h₂.get? b = some o → h₄'.get? b = some o := fun b o h1 e => hsb₄.extBut b o (fun q => h1 (mem2.mpr (.inr q))) e
    have hn₄ : h₄'.Ns L m := hn₂.sameBut hsb₄ hLK
    have hk₄' : cK s₂ D [L, K] wr h₄' := fun b o h1 h2 h3 e => hk₄ b o h1 (hk₂' b o h1 h2 h3 e)
    change (if i₀ < (ρ.set i₀ none).length then some ((ρ.set i₀ none).set i₀ (some x)) else none) = some ρ' at hb
    refine ifK (G := fun ρ' => ∃ h₄ tk₄, ({ s₂ with heap := h₄', toks := tk₂ } : Shared) = { s₂ with heap := h₄, toks := tk₄ } ∧ (∃ m u, h₄.Ns L m ∧ h₄.IsCell K u) ∧ (∀ b o, b ∉ [L, K] → h₂.get? b = some o → h₄.get? b = some o) ∧
        EnvG W (compEnvC scope ((n₀, K) :: clL env.cells scope.names []) L env) h₄ ∧ EnvRep ns (compEnvC scope ((n₀, K) :: clL env.cells scope.names []) L env) h₄ W.C (cV g s D [L, K] wr h₂) ρ') hb fun hil => ?_
    rw [List.length_set] at hil
    refine ⟨h₄', tk₂, rfl, ⟨m, some v, hn₄, hce₄⟩, hk₄, envG h₄' m hk₄' hn₄, fun j n y hj hx' => ⟨fun hkn => ?_, fun hkn => ?_⟩⟩
    · rw [kd] at hkn
      have := (names n _ hkn).1 rfl
      exact absurd (List.mem_of_getElem? hj) (by rw [this]; exact cn.dot)
    · rw [kd] at hkn
      have : ∃ k, (relab scope.names env.scope.names).lookup n = some k ∧ (k = .cell ∨ k = .free) := hkn.elim (fun e => ⟨_, e, .inl rfl⟩) fun e => ⟨_, e, .inr rfl⟩
      obtain ⟨k, e, hk'⟩ := this
      rcases (names n k e).2 hk' with rfl | ⟨hne, hfree⟩
      · have hij := nodup_inj nd cn.at' hj
        subst hij
        rw [List.getElem?_set_self (by rw [List.length_set]; exact hil)] at hx'
        (first | exact noS hx' | exact noB hx' | cases hx')
        exact ⟨K, v, clk0, hce₄, hv⟩
      · have hij : i₀ ≠ j := fun q => hne (by subst q; rw [cn.at'] at hj; exact (Option.some.inj hj).symm)
        rw [List.getElem?_set_ne hij, List.getElem?_set_ne hij] at hx'
        obtain ⟨cc, u, hc1, hc2, hc3⟩ := (R j n y hj hx').2 (cn.free _ hfree rfl)
        obtain ⟨c', hc4, hc5⟩ := clk n hne hfree
        rw [hc1] at hc4; cases hc4
        exact ⟨cc, u, hc5, hc2.keeps (c.up hk₄'), Rep.mono (View.le_of (c.gv h₂)) _ hc3⟩
  exact codeAny_compStart_list (loop _) (r.wk.self 0 _ _ _ (r.wk.frame _ _ _ r.st fun b uu o e => old b o e) (loop _))

theorem comp_any {elt tg iter : Expr} {ifs : List Expr} {scope : Scope} {pos : Pos} {t : Tg} {items zs : List PV} {fc : Rho → Option Bool} {fe : Rho → Option PV}
    {use : Option (Value → Sem Unit)} {Q : Value → Shared → Prop}
    (hh : A.handled = none) (nd : ns.Nodup) (G : EnvG W env s.heap) (hs : Sub g s.heap) (R : EnvRep ns env s.heap W.C g ρ)
    (hc : (compOk ns env.scope.names scope t && matchT ns (fun n => (relab scope.names env.scope.names).lookup n == some .local) t tg || compOk1 ns env.scope.names scope t tg) = true)
    (hset : ∀ x, foldedSetIterable iter env x = pure x)
    (hit : ∀ E, wpAny (model W.prog W.w) A (eval iter env) (fun xv s₁ => wpAny (model W.prog W.w) A (pyIter xv) (fun it s₂ => Iters W.prog W.w A tg W.C g s items it s₂) E s₁) E s)
    (P : Parts W A ns (fun env L cl => compEnvC scope cl L env) env elt ifs fc fe)
    (hz : compL (compF t fc fe ρ) items = some zs)
    (hfin : ∀ v L s', CompEnd W.C g s zs v L s' → compPost (model W.prog W.w) A Ex use Q v L (.ok .next) s') :
    wpAny (model W.prog W.w) A (comprehension (.ListComp elt [⟨tg, iter, ifs, 0⟩] scope pos) scope env (firstIterPos [⟨tg, iter, ifs, 0⟩] pos) (newList []) false (eval iter env) use) Q Ex s := by
  rw [Bool.or_eq_true] at hc
  rcases hc with hc | hc
  · rw [Bool.and_eq_true] at hc
    exact comp_ok hh nd G hs R (compOk_names hc.1) hc.2 hset hit P hz hfin
  · obtain ⟨i, n, p, rfl, e, cn⟩ := compOk1_names hc
    exact comp_ok1 nd G hs R cn e hset hit P hz hfin
end
end Mp
end

section
set_option maxRecDepth 20000
/-! MiniPy: expressions. -/
namespace Mp
open PySem PySem.Calls PyProof.Rows PySem.W

section
variable (W : Wd) (N : NT) (T : Tabs) (A : Around) (ns : List Str)

/-- what is shown of an expression -/
structure EOk (e : E) (ex : Expr) (env : Env) (s : Shared) (g : View) (x : PV) : Prop where
  val : ∀ Ex, wpAny (model W.prog W.w) A (eval ex env) (fun v s' => Post W.C g s x v s' ∧ (fresh e = true → ∀ l, x = .list l → NewList s.heap s'.heap v)) Ex s
  tst : ∀ b Ex, truthy x = some b → wpAny (model W.prog W.w) A (isTrue ex env (eval ex env)) (fun r s' => r = b ∧ Keeps s s') Ex s

noncomputable def PE (e : E) : Prop := ∀ ex sc, matchE N ns sc e ex = true → ∀ env ρ s g x, env.scope.names = sc → EnvG W env s.heap → Sub g s.heap → EnvRep ns env s.heap W.C g ρ → evalE T ρ e = some x → EOk W A e ex env s g x
noncomputable def PEs (l : Es) : Prop := ∀ exs sc, matchEs N ns sc l exs = true → ∀ env ρ s g xs, env.scope.names = sc → EnvG W env s.heap → Sub g s.heap → EnvRep ns env s.heap W.C g ρ → evalEs T ρ l = some xs →
  ∀ pos Ex, wpAny (model W.prog W.w) A (spliced (backTo pos (starEach exs env))) (fun vs s' => Keeps s s' ∧ Reps W.C (gext g s.heap s'.heap) xs vs) Ex s
noncomputable def PAnd (l : Es) : Prop := ∀ exs sc, matchEs N ns sc l exs = true → ∀ env ρ s g x, env.scope.names = sc → EnvG W env s.heap → Sub g s.heap → EnvRep ns env s.heap W.C g ρ → evalAnd T ρ l = some x →
  (∀ pos Ex, wpAny (model W.prog W.w) A (boolOp pos .And (evalEach exs env)) (fun v s' => Post W.C g s x v s') Ex s) ∧
  ∀ b Ex, truthy x = some b → wpAny (model W.prog W.w) A (allTrue .And exs env) (fun r s' => r = b ∧ Keeps s s') Ex s
noncomputable def POr (l : Es) : Prop := ∀ exs sc, matchEs N ns sc l exs = true → ∀ env ρ s g x, env.scope.names = sc → EnvG W env s.heap → Sub g s.heap → EnvRep ns env s.heap W.C g ρ → evalOr T ρ l = some x →
  (∀ pos Ex, wpAny (model W.prog W.w) A (boolOp pos .Or (evalEach exs env)) (fun v s' => Post W.C g s x v s') Ex s) ∧
  ∀ b Ex, truthy x = some b → wpAny (model W.prog W.w) A (allTrue .Or exs env) (fun r s' => r = b ∧ Keeps s s') Ex s
noncomputable def PIt (it : It) : Prop := ∀ tg ex sc, matchIt N ns sc it tg ex = true → ∀ env ρ s g xs, env.scope.names = sc → EnvG W env s.heap → Sub g s.heap → EnvRep ns env s.heap W.C g ρ → evalIt T ρ it = some xs →
  ∀ Ex, wpAny (model W.prog W.w) A (eval ex env) (fun xv s₁ => wpAny (model W.prog W.w) A (pyIter xv) (fun iv s₂ => Iters W.prog W.w A tg W.C g s xs iv s₂) Ex s₁) Ex s
end

section
variable {W : Wd} {N : NT} {T : Tabs} {A : Around} {ns : List Str} {env : Env} {s : Shared} {g : View} {ρ : Rho} {Ex : Value → Shared → Prop}

theorem EOk.gen {e : E} {ex : Expr} {x : PV} (hs : Sub g s.heap) (he : isTrue ex env (eval ex env) = (do let v ← eval ex env; standAt ex.pos; holding [v] (PySem.truthy v)))
    (h : ∀ Ex, wpAny (model W.prog W.w) A (eval ex env) (fun v s' => Post W.C g s x v s' ∧ (fresh e = true → ∀ l, x = .list l → NewList s.heap s'.heap v)) Ex s) : EOk W A e ex env s g x :=
  ⟨h, fun uu Ex hb => isTrue_gen hs he (wpAny_mono (h Ex) (fun uu uu p => p.1) fun uu uu y => y) hb⟩
theorem EOk.plain {e : E} {ex : Expr} {x : PV} (hs : Sub g s.heap) (he : isTrue ex env (eval ex env) = (do let v ← eval ex env; standAt ex.pos; holding [v] (PySem.truthy v))) (hf : fresh e = false)
    (h : ∀ Ex, wpAny (model W.prog W.w) A (eval ex env) (fun v s' => Post W.C g s x v s') Ex s) : EOk W A e ex env s g x :=
  .gen hs he fun Ex => wpAny_mono (h Ex) (fun uu uu p => ⟨p, fun q => by rw [hf] at q; (first | exact noS q | exact noB q | cases q)⟩) fun uu uu y => y

/-- two expressions, one behind the other -/
theorem two {e₁ e₂ : E} {x₁ x₂ : Expr} {y₁ y₂ : PV} {sc : Sc} {Q : Value → Value → Shared → Prop} (P₁ : PE W N T A ns e₁) (P₂ : PE W N T A ns e₂) (m₁ : matchE N ns sc e₁ x₁ = true) (m₂ : matchE N ns sc e₂ x₂ = true)
    (hsc : env.scope.names = sc) (G : EnvG W env s.heap) (hs : Sub g s.heap) (R : EnvRep ns env s.heap W.C g ρ) (h₁ : evalE T ρ e₁ = some y₁) (h₂ : evalE T ρ e₂ = some y₂)
    (hQ : ∀ v u s₂, Keeps s s₂ → Rep W.C (gext g s.heap s₂.heap) y₁ v → Rep W.C (gext g s.heap s₂.heap) y₂ u → Q v u s₂) :
    wpAny (model W.prog W.w) A (eval x₁ env) (fun v s₁ => wpAny (model W.prog W.w) A (eval x₂ env) (fun u s₂ => Q v u s₂) Ex s₁) Ex s := by
  refine wpAny_mono ((P₁ x₁ sc m₁ env ρ s g y₁ hsc G hs R h₁).val Ex) (fun v s₁ p₁ => ?_) fun uu uu y => y
  have k₁ := keepsK p₁.1.keeps
  refine wpAny_mono ((P₂ x₂ sc m₂ env ρ s₁ _ y₂ hsc (G.keep k₁) (gext_sub hs k₁) (R.keep k₁ (le_gext hs)) h₂).val Ex) (fun u s₂ p₂ => ?_) fun uu uu y => y
  have q₂ := Post.back p₁.1.keeps p₂.1
  exact hQ v u s₂ q₂.keeps (Rep.mono (View.le_of (gext_mono (keepsK p₂.1.keeps))) _ p₁.1.rep) q₂.rep

theorem attrBase_eq {o : Expr} {a : Str} {t : Sem Value} (h : noCall0 o = true) : attributeBase o a env t = t := by
  cases o with
  | Call f args kws pos => cases f <;> first | rfl | (cases args <;> first | rfl | (cases kws <;> first | rfl | exact noB h))
  | _ => rfl

theorem fold_eq {ex : Expr} (h : noSet ex = true) (x : Value) : foldedSetIterable ex env x = pure x := by
  cases ex <;> first | rfl | exact noB h

theorem backTo_eq {exs : List Expr} {pos : Pos} (h : starEach exs env = exs.map fun e => (false, eval e env)) : backTo pos (starEach exs env) = exs.map fun e => (false, eval e env) := by
  rw [h]; unfold backTo; rw [List.map_map]; rfl

theorem meth_ok (H : Good W N T A) {o : Expr} {n : Str} {ap pos : Pos} {args : List Expr} {m : Nat} {x r : PV} {xs : List PV} (hst : starEach args env = args.map fun e => (false, eval e env))
    (hn : N.meth m = some n) (h0 : noCall0 o = true) (hline : ap.endLine = pos.line) (hlen : args.length < 29) (hr : T.meth m x xs = some r) (G : EnvG W env s.heap) (hs : Sub g s.heap)
    (ho : wpAny (model W.prog W.w) A (eval o env) (fun v s' => Post W.C g s x v s') Ex s)
    (ha : ∀ s₁ : Shared, Keeps s s₁ → wpAny (model W.prog W.w) A (spliced (backTo pos (starEach args env))) (fun vs s' => Keeps s₁ s' ∧ Reps W.C (gext (gext g s.heap s₁.heap) s₁.heap s'.heap) xs vs) Ex s₁) :
    wpAny (model W.prog W.w) A (eval (.Call (.Attribute o n ap) args [] pos) env) (fun v s' => Post W.C g s r v s') Ex s := by
  rw [arm_eval_Call, attrBase_eq h0]
  refine wpAny_bind (wpAny_mono ho (fun v s₁ p₁ => wpAny_bind (wpAny_standAt ?_)) fun uu uu y => y)
  have k₁ := keepsK p₁.keeps
  unfold methodCall
  have hform : methodCallForm (args.length + ([] : List Keyword).length) (backTo pos (starEach args env)) (backToKw pos (keywordEach [] env)) = true := by
    rw [backTo_eq hst]
    unfold methodCallForm
    simp only [List.length_nil, Nat.add_zero, Bool.and_eq_true, decide_eq_true_eq]
    refine ⟨⟨by simp, by rfl⟩, ?_⟩
    show args.length + 0 < 30
    omega
  rw [hform]
  refine wpAny_bind (wpAny_holding ?_)
  show wpAny _ A (getMethod v n _) _ _ s₁
  refine H.meth m n x xs r hr hn _ s₁ v _ _ _ (gext_sub hs k₁) (G.keep k₁).has p₁.rep fun fv hk hcall => ?_
  have hpos : methodCallPos true o env ap pos = pure pos := by
    unfold methodCallPos
    simp [hline]
  dsimp only
  rw [hpos]
  refine wpAny_bind (wpAny_pure ?_)
  show wpAny _ A (callWith pos fv [v] (backTo pos (starEach args env)) []) _ _ s₁
  refine callW hst hk (wpAny_mono (ha s₁ p₁.keeps) (fun vs s₂ p₂ => ?_) fun uu uu y => y)
  have k₂ := keepsK p₂.1
  refine ⟨((G.keep k₁).keep k₂).base, ?_⟩
  have hrep : Rep W.C (gext g s.heap s₂.heap) x v := Rep.mono (View.le_of (gext_mono k₂)) _ p₁.rep
  have hreps : Reps W.C (gext g s.heap s₂.heap) xs vs := by have := p₂.2; rwa [gext_gext k₁ k₂] at this
  refine wpAny_mono (hcall (gext g s.heap s₂.heap) s₂ (v :: vs) Ex (gext_sub hs (k₁.trans k₂)) ((G.keep k₁).keep k₂).has (Reps.cons hrep hreps)) (fun u s₃ p₃ => ?_) fun uu uu y => y
  exact Post.back (keepsTr p₁.keeps p₂.1) p₃

theorem call_ok (H : Good W N T A) {n : Str} {p pos : Pos} {args : List Expr} {f : Nat} {r : PV} {xs : List PV} (hst : starEach args env = args.map fun e => (false, eval e env))
    (hn : N.call f = some n) (hg : isG env.scope.names n = true) (hr : T.call f xs = some r) (G : EnvG W env s.heap) (hs : Sub g s.heap)
    (ha : wpAny (model W.prog W.w) A (spliced (backTo pos (starEach args env))) (fun vs s' => Keeps s s' ∧ Reps W.C (gext g s.heap s'.heap) xs vs) Ex s) :
    wpAny (model W.prog W.w) A (eval (.Call (.Name n p) args [] pos) env) (fun v s' => Post W.C g s r v s') Ex s := by
  obtain ⟨fv, hl, hk, hc⟩ := H.call f n xs r hr hn
  refine Call_Name rfl (gname_ok G hg hl ?_)
  refine callW hst hk (wpAny_mono ha (fun vs s₂ p₂ => ?_) fun uu uu y => y)
  have k₂ := keepsK p₂.1
  refine ⟨(G.keep k₂).base, ?_⟩
  exact wpAny_mono (hc (gext g s.heap s₂.heap) s₂ vs Ex (gext_sub hs k₂) (G.keep k₂).has p₂.2) (fun u s₃ p₃ => Post.back p₂.1 p₃) fun uu uu y => y

theorem getAttr_ok (H : Good W N T A) {o : Expr} {n : Str} {pos : Pos} {a : Nat} {x r : PV} (hn : N.attr a = some n) (h0 : noCall0 o = true) (hr : T.attr a x = some r) (G : EnvG W env s.heap) (hs : Sub g s.heap)
    (ho : wpAny (model W.prog W.w) A (eval o env) (fun v s' => Post W.C g s x v s') Ex s) :
    wpAny (model W.prog W.w) A (eval (.Attribute o n pos) env) (fun v s' => Post W.C g s r v s') Ex s := by
  rw [arm_eval_Attribute, attrBase_eq h0]
  refine wpAny_bind (wpAny_mono ho (fun v s₁ p₁ => wpAny_bind (wpAny_standAt ?_)) fun uu uu y => y)
  have k₁ := keepsK p₁.keeps
  refine wpAny_bind (wpAny_holding (wpAny_mono (H.attr a n x r hr hn _ s₁ v Ex (gext_sub hs k₁) (G.keep k₁).has p₁.rep) (fun u s₂ p₂ => ?_) fun uu uu y => y))
  exact wpAny_bind (wpAny_letTemporaryGo (wpAny_pure (Post.back p₁.keeps p₂)))

theorem glob_ok (H : Good W N T A) {ex : Expr} {k : Nat} {x : PV} {sc : Sc} (hm : matchE N ns sc (.glob k) ex = true) (hsc : env.scope.names = sc) (hx : T.glob k = some x) (G : EnvG W env s.heap) :
    wpAny (model W.prog W.w) A (eval ex env) (fun v s' => Post W.C g s x v s') Ex s ∧ (isTrue ex env (eval ex env) = (do let v ← eval ex env; standAt ex.pos; holding [v] (PySem.truthy v))) := by
  refine m_glob hm (fun n q m1 m2 => ?_) fun n q a r m1 m2 => ?_
  · obtain ⟨v, hl, hr⟩ := H.glob k x _ hx m1
    exact ⟨gname_ok G (by rw [hsc]; exact m2) hl (sc_post (keeps_refl _) hr), rfl⟩
  · obtain ⟨c, hl, hr⟩ := H.globA k x _ _ hx m1
    refine ⟨Attribute_Name_ (gname_ok G (by rw [hsc]; exact m2) hl ?_) rfl, rfl⟩
    exact wpAny_mono (hr s Ex G.base) (fun v s' p => sc_post p.1 p.2) fun uu uu y => y
end
end Mp
end

section
set_option maxRecDepth 20000
/-! MiniPy: every expression is sound. -/
namespace Mp
open PySem PySem.Calls PyProof.Rows PySem.W

section
variable {W : Wd} {N : NT} {T : Tabs} {A : Around} {ns : List Str}

theorem ok_abs : PE W N T A ns .abs := fun ex sc hm => noB hm
theorem ok_cst {c : PV} : PE W N T A ns (.cst c) := fun ex sc hm env ρ s g x hsc G hs R hx => by
  have e : c = x := Option.some.inj hx
  subst e
  cases c with
  | none => exact m_none hm fun u q => .plain hs rfl rfl fun Ex => wpAny_Constant_none (sc_post (keeps_refl _) rfl)
  | bool b => exact m_bool hm fun u q => .plain hs rfl rfl fun Ex => wpAny_Constant_bool (sc_post (keeps_refl _) rfl)
  | int i => exact m_int hm fun u q => .plain hs rfl rfl fun Ex => wpAny_Constant_int (sc_post (keeps_tok _ _) ⟨_, rfl⟩)
  | str l => exact m_str hm fun y u q e => e ▸ .plain hs rfl rfl fun Ex => wpAny_Constant_str (sc_post (keeps_tok _ _) ⟨_, by simp; rfl⟩)
  | _ => exact noB hm

theorem join_some {ρ : Rho} {i : Nat} {x : PV} (h : (ρ[i]?).join = some x) : ρ[i]? = some (some x) := by
  cases q : ρ[i]? with
  | none => rw [q] at h; cases h
  | some y => rw [q] at h; exact congrArg some h

theorem ok_var {i : Nat} : PE W N T A ns (.var i) := fun ex sc hm env ρ s g x hsc G hs R hx => by
  exact m_var hm fun n q m1 m2 => .plain hs rfl rfl fun Ex => var_ok G hs R m1 (by rw [hsc]; exact m2) (join_some hx)

theorem ok_glob (H : Good W N T A) {k : Nat} : PE W N T A ns (.glob k) := fun ex sc hm env ρ s g x hsc G hs R hx => by
  have h := fun Ex => glob_ok (Ex := Ex) (s := s) (g := g) (ns := ns) H hm hsc hx G
  exact .plain hs (h fun uu uu => True).2 rfl fun Ex => (h Ex).1

theorem ok_bin {o : Op} {a b : E} (Pa : PE W N T A ns a) (Pb : PE W N T A ns b) : PE W N T A ns (.bin o a b) := fun ex sc hm env ρ s g x hsc G hs R hx => by
  refine m_bin hm fun l r q ma mb => bindK hx fun y₁ h₁ hx => bindK hx fun y₂ h₂ h₃ => ?_
  refine .gen hs rfl fun Ex => wpAny_BinOp (two Pa Pb ma mb hsc G hs R h₁ h₂ fun v u s₂ k r₁ r₂ => ?_)
  exact wpAny_mono (binop_sound h₃ (gext_sub hs (keepsK k)) r₁ r₂) (fun r s' p => ⟨Post.back k p.1, fun uu l e => NewList.back (keepsK k) (p.2 l e)⟩) fun uu uu y => y

theorem ok_neg {a : E} (Pa : PE W N T A ns a) : PE W N T A ns (.neg a) := fun ex sc hm env ρ s g x hsc G hs R hx => by
  refine m_neg hm fun a' q hm => bindK hx fun y₁ h₁ h₂ => ?_
  cases y₁ with
  | int i =>
    have e := Option.some.inj h₂
    subst e
    refine .plain hs rfl rfl fun Ex => wpAny_UnaryOp (wpAny_mono ((Pa _ sc hm env ρ s g _ hsc G hs R h₁).val Ex) (fun v s₁ p => ?_) fun uu uu y => y)
    obtain ⟨t, rfl⟩ := p.1.rep
    exact P.neg_int (sc_post (keepsTr p.1.keeps (keeps_tok _ _)) ⟨_, rfl⟩)
  | _ => exact noS h₂

theorem ok_not {a : E} (Pa : PE W N T A ns a) : PE W N T A ns (.not a) := fun ex sc hm env ρ s g x hsc G hs R hx => by
  refine m_not hm fun a' q hm => bindK hx fun y₁ h₁ hx => mapK hx fun b h₂ => ?_
  · have q := Pa _ sc hm env ρ s g _ hsc G hs R h₁
    refine ⟨fun Ex => wpAny_UnaryOp (wpAny_mono (q.val Ex) (fun v s₁ p => ?_) fun uu uu y => y), fun b' Ex hb' => ?_⟩
    · refine not_value (wpAny_mono (truthy_sound h₂ (gext_sub hs (keepsK p.1.keeps)) p.1.rep) (fun r s' z => ?_) fun uu uu y => y)
      obtain ⟨rfl, k⟩ := z
      exact ⟨sc_post (keepsTr p.1.keeps k) rfl, fun e => noB e⟩
    · (first | exact noS hb' | exact noB hb' | cases hb')
      exact wpAny_isTrue_Not (wpAny_mono (q.tst b Ex h₂) (fun r s' z => ⟨by rw [z.1], z.2⟩) fun uu uu y => y)

theorem ok_cmp (H : Good W N T A) {o : Cm} {a b : E} (Pa : PE W N T A ns a) (Pb : PE W N T A ns b) : PE W N T A ns (.cmp o a b) := fun ex sc hm env ρ s g x hsc G hs R hx => by
  refine m_cmp hm fun l r q hb ma mb => bindK hx fun y₁ h₁ hx => bindK hx fun y₂ h₂ hx => mapK hx fun c h₃ => ?_
  · have hb : behindInMarks (cmOf o) r = false := by simpa using hb
    refine ⟨fun Ex => wpAny_Compare1 (two Pa Pb ma mb hsc G hs R h₁ h₂ fun v u s₂ k r₁ r₂ => ?_) hb, fun b' Ex hb' => ?_⟩
    · refine wpAny_mono (cmp_sound h₃ (gext_sub hs (keepsK k)) H.hu r₁ r₂) (fun r s' p => ?_) fun uu uu y => y
      obtain ⟨rfl, rfl⟩ := p
      exact ⟨sc_post k rfl, fun e => noB e⟩
    · (first | exact noS hb' | exact noB hb' | cases hb')
      refine wpAny_isTrue_Compare1 (two Pa Pb ma mb hsc G hs R h₁ h₂ fun v u s₂ k r₁ r₂ => ?_) hb
      refine wpAny_mono (cmp_sound h₃ (gext_sub hs (keepsK k)) H.hu r₁ r₂) (fun r s' p => ?_) fun uu uu y => y
      obtain ⟨rfl, rfl⟩ := p
      exact wpAny_truthy_bool ⟨rfl, k⟩

theorem ok_and {l : Es} (Pl : PAnd W N T A ns l) : PE W N T A ns (.and l) := fun ex sc hm env ρ s g x hsc G hs R hx => by
  refine m_and hm fun vs q hm => ?_
  have q := Pl _ sc hm env ρ s g x hsc G hs R hx
  exact ⟨fun Ex => by rw [arm_eval_BoolOp]; exact wpAny_mono (q.1 _ Ex) (fun v s' p => ⟨p, fun e => noB e⟩) fun uu uu y => y, fun b Ex hb => wpAny_isTrue_BoolOp (q.2 b Ex hb)⟩
theorem ok_or {l : Es} (Pl : POr W N T A ns l) : PE W N T A ns (.or l) := fun ex sc hm env ρ s g x hsc G hs R hx => by
  refine m_or hm fun vs q hm => ?_
  have q := Pl _ sc hm env ρ s g x hsc G hs R hx
  exact ⟨fun Ex => by rw [arm_eval_BoolOp]; exact wpAny_mono (q.1 _ Ex) (fun v s' p => ⟨p, fun e => noB e⟩) fun uu uu y => y, fun b Ex hb => wpAny_isTrue_BoolOp (q.2 b Ex hb)⟩

theorem and_nil : PAnd W N T A ns .nil := fun exs sc hm env ρ s g x hsc G hs R hx => noS hx
theorem or_nil : POr W N T A ns .nil := fun exs sc hm env ρ s g x hsc G hs R hx => noS hx
theorem and_one {e : E} (Pe : PE W N T A ns e) : PAnd W N T A ns (.cons e .nil) := fun exs sc hm env ρ s g x hsc G hs R hx => by
  match exs, hm with
  | [ex], hm =>
    have q := Pe _ sc (andB hm fun h uu => h) env ρ s g x hsc G hs R hx
    refine ⟨fun pos Ex => ?_, fun b Ex hb => wpAny_allTrue_And_cons (wpAny_mono (q.tst b Ex hb) (fun r s' z => ?_) fun uu uu y => y)⟩
    · exact wpAny_mono (q.val Ex) (fun v s' p => p.1) fun uu uu y => y
    · obtain ⟨rfl, k⟩ := z
      (first | exact noS r | exact noB r | cases r)
      · exact ⟨rfl, k⟩
      · exact wpAny_allTrue_And_nil ⟨rfl, k⟩
  | [], hm => exact noB hm
  | _ :: _ :: _, hm => exact andB hm fun uu h => noB h
theorem or_one {e : E} (Pe : PE W N T A ns e) : POr W N T A ns (.cons e .nil) := fun exs sc hm env ρ s g x hsc G hs R hx => by
  match exs, hm with
  | [ex], hm =>
    have q := Pe _ sc (andB hm fun h uu => h) env ρ s g x hsc G hs R hx
    refine ⟨fun pos Ex => ?_, fun b Ex hb => wpAny_allTrue_Or_cons (wpAny_mono (q.tst b Ex hb) (fun r s' z => ?_) fun uu uu y => y)⟩
    · exact wpAny_mono (q.val Ex) (fun v s' p => p.1) fun uu uu y => y
    · obtain ⟨rfl, k⟩ := z
      (first | exact noS r | exact noB r | cases r)
      · exact wpAny_allTrue_Or_nil ⟨rfl, k⟩
      · exact ⟨rfl, k⟩
  | [], hm => exact noB hm
  | _ :: _ :: _, hm => exact andB hm fun uu h => noB h

theorem and_cons {e e' : E} {l : Es} (Pe : PE W N T A ns e) (Pl : PAnd W N T A ns (.cons e' l)) : PAnd W N T A ns (.cons e (.cons e' l)) := fun exs sc hm env ρ s g x hsc G hs R hx => by
  refine bindK hx fun y h₁ hx => bindK hx fun b h₂ h₃ => ?_
  match exs, hm with
  | ex :: ex' :: exs, hm =>
    have hm := Bool.and_eq_true_iff.mp hm
    have q := Pe _ sc hm.1 env ρ s g y hsc G hs R h₁
    refine ⟨fun pos Ex => ?_, fun b' Ex hb => ?_⟩
    · show wpAny _ A (do
        let v ← eval ex env
        standAt pos
        let t ← holding [v] (PySem.truthy v)
        match BoolOp.And, t with
        | .And, false | .Or, true => pure v
        | _, _ => boolOp pos .And (evalEach (ex' :: exs) env)) _ Ex s
      refine wpAny_bind (wpAny_mono (q.val Ex) (fun v s₁ p => wpAny_bind (wpAny_standAt (wpAny_bind (wpAny_holding (wpAny_mono (truthy_sound h₂ (gext_sub hs (keepsK p.1.keeps)) p.1.rep) (fun r s₂ z => ?_) fun uu uu y => y))))) fun uu uu y => y)
      obtain ⟨rfl, k⟩ := z
      have kk := keepsTr p.1.keeps k
      cases r with
      | false =>
        (first | exact noS h₃ | exact noB h₃ | cases h₃)
        exact wpAny_pure ⟨kk, Rep.mono (View.le_of (gext_mono (keepsK k))) _ p.1.rep⟩
      | true =>
        have := Pl _ sc hm.2 env ρ s₂ (gext g s.heap s₂.heap) x hsc (G.keep (keepsK kk)) (gext_sub hs (keepsK kk)) (R.keep (keepsK kk) (le_gext hs)) h₃
        exact wpAny_mono (this.1 pos Ex) (fun u s₃ p₃ => Post.back kk p₃) fun uu uu y => y
    · refine wpAny_allTrue_And_cons (wpAny_mono (q.tst b Ex h₂) (fun r s₁ z => ?_) fun uu uu y => y)
      obtain ⟨rfl, k⟩ := z
      cases r with
      | false => (first | exact noS h₃ | exact noB h₃ | cases h₃); rw [h₂] at hb; (first | exact noS hb | exact noB hb | cases hb); exact ⟨rfl, k⟩
      | true =>
        have := Pl _ sc hm.2 env ρ s₁ (gext g s.heap s₁.heap) x hsc (G.keep (keepsK k)) (gext_sub hs (keepsK k)) (R.keep (keepsK k) (le_gext hs)) h₃
        exact wpAny_mono (this.2 b' Ex hb) (fun u s₃ p₃ => ⟨p₃.1, keepsTr k p₃.2⟩) fun uu uu y => y
  | [], hm => exact noB hm
  | [_], hm => exact andB hm fun uu h => noB h
theorem or_cons {e e' : E} {l : Es} (Pe : PE W N T A ns e) (Pl : POr W N T A ns (.cons e' l)) : POr W N T A ns (.cons e (.cons e' l)) := fun exs sc hm env ρ s g x hsc G hs R hx => by
  refine bindK hx fun y h₁ hx => bindK hx fun b h₂ h₃ => ?_
  match exs, hm with
  | ex :: ex' :: exs, hm =>
    have hm := Bool.and_eq_true_iff.mp hm
    have q := Pe _ sc hm.1 env ρ s g y hsc G hs R h₁
    refine ⟨fun pos Ex => ?_, fun b' Ex hb => ?_⟩
    · show wpAny _ A (do
        let v ← eval ex env
        standAt pos
        let t ← holding [v] (PySem.truthy v)
        match BoolOp.Or, t with
        | .And, false | .Or, true => pure v
        | _, _ => boolOp pos .Or (evalEach (ex' :: exs) env)) _ Ex s
      refine wpAny_bind (wpAny_mono (q.val Ex) (fun v s₁ p => wpAny_bind (wpAny_standAt (wpAny_bind (wpAny_holding (wpAny_mono (truthy_sound h₂ (gext_sub hs (keepsK p.1.keeps)) p.1.rep) (fun r s₂ z => ?_) fun uu uu y => y))))) fun uu uu y => y)
      obtain ⟨rfl, k⟩ := z
      have kk := keepsTr p.1.keeps k
      cases r with
      | true =>
        (first | exact noS h₃ | exact noB h₃ | cases h₃)
        exact wpAny_pure ⟨kk, Rep.mono (View.le_of (gext_mono (keepsK k))) _ p.1.rep⟩
      | false =>
        have := Pl _ sc hm.2 env ρ s₂ (gext g s.heap s₂.heap) x hsc (G.keep (keepsK kk)) (gext_sub hs (keepsK kk)) (R.keep (keepsK kk) (le_gext hs)) h₃
        exact wpAny_mono (this.1 pos Ex) (fun u s₃ p₃ => Post.back kk p₃) fun uu uu y => y
    · refine wpAny_allTrue_Or_cons (wpAny_mono (q.tst b Ex h₂) (fun r s₁ z => ?_) fun uu uu y => y)
      obtain ⟨rfl, k⟩ := z
      cases r with
      | true => (first | exact noS h₃ | exact noB h₃ | cases h₃); rw [h₂] at hb; (first | exact noS hb | exact noB hb | cases hb); exact ⟨rfl, k⟩
      | false =>
        have := Pl _ sc hm.2 env ρ s₁ (gext g s.heap s₁.heap) x hsc (G.keep (keepsK k)) (gext_sub hs (keepsK k)) (R.keep (keepsK k) (le_gext hs)) h₃
        exact wpAny_mono (this.2 b' Ex hb) (fun u s₃ p₃ => ⟨p₃.1, keepsTr k p₃.2⟩) fun uu uu y => y
  | [], hm => exact noB hm
  | [_], hm => exact andB hm fun uu h => noB h

theorem ok_ite {t a b : E} (Pt : PE W N T A ns t) (Pa : PE W N T A ns a) (Pb : PE W N T A ns b) : PE W N T A ns (.ite t a b) := fun ex sc hm env ρ s g x hsc G hs R hx => by
  refine m_ite hm fun x' y' z' q m1 m2 m3 => bindK hx fun y h₁ hx => bindK hx fun c h₂ h₃ => ?_
  · have q := Pt _ sc m1 env ρ s g y hsc G hs R h₁
    refine ⟨fun Ex => wpAny_IfExp (wpAny_mono (q.tst c Ex h₂) (fun r s₁ z => ?_) fun uu uu y => y), fun b' Ex hb => ?_⟩
    · obtain ⟨rfl, k⟩ := z
      have G' := G.keep (keepsK k)
      have hs' := gext_sub hs (keepsK k)
      have R' := R.keep (keepsK k) (le_gext (h' := s₁.heap) hs)
      cases r with
      | true => exact wpAny_mono ((Pa _ sc m2 env ρ s₁ _ x hsc G' hs' R' h₃).val Ex) (fun v s' p => ⟨Post.back k p.1, fun e => noB e⟩) fun uu uu y => y
      | false => exact wpAny_mono ((Pb _ sc m3 env ρ s₁ _ x hsc G' hs' R' h₃).val Ex) (fun v s' p => ⟨Post.back k p.1, fun e => noB e⟩) fun uu uu y => y
    · rw [arm_isTrue_IfExp]
      refine wpAny_bind (wpAny_mono (q.tst c Ex h₂) (fun r s₁ z => ?_) fun uu uu y => y)
      obtain ⟨rfl, k⟩ := z
      have G' := G.keep (keepsK k)
      have hs' := gext_sub hs (keepsK k)
      have R' := R.keep (keepsK k) (le_gext (h' := s₁.heap) hs)
      cases r with
      | true => exact wpAny_mono ((Pa _ sc m2 env ρ s₁ _ x hsc G' hs' R' h₃).tst b' Ex hb) (fun v s' p => ⟨p.1, keepsTr k p.2⟩) fun uu uu y => y
      | false => exact wpAny_mono ((Pb _ sc m3 env ρ s₁ _ x hsc G' hs' R' h₃).tst b' Ex hb) (fun v s' p => ⟨p.1, keepsTr k p.2⟩) fun uu uu y => y

theorem es_nil : PEs W N T A ns .nil := fun exs sc hm env ρ s g xs hsc G hs R hx pos Ex => by
  obtain rfl : [] = xs := Option.some.inj hx
  cases exs with
  | nil => exact wpAny_items_nil ⟨keeps_refl _, Reps.nil⟩
  | cons => exact noB hm
theorem es_cons {e : E} {l : Es} (Pe : PE W N T A ns e) (Pl : PEs W N T A ns l) : PEs W N T A ns (.cons e l) := fun exs sc hm env ρ s g xs hsc G hs R hx pos Ex => by
  refine bindK hx fun y h₁ hx => ?_
  obtain ⟨ys, h₂, rfl⟩ := Option.map_eq_some_iff.mp hx
  cases exs with
  | nil => exact noB hm
  | cons ex exs =>
    have hst := matchEs_star (env := env) hm
    have hm := Bool.and_eq_true_iff.mp hm
    have hst' := matchEs_star (env := env) hm.2
    refine wpAny_items_cons (wpAny_mono ((Pe _ sc hm.1 env ρ s g y hsc G hs R h₁).val Ex) (fun v s₁ p => ?_) fun uu uu y => y) (by rw [hst, hst']; rfl)
    have k := keepsK p.1.keeps
    refine wpAny_mono (Pl _ sc hm.2 env ρ s₁ _ ys hsc (G.keep k) (gext_sub hs k) (R.keep k (le_gext hs)) h₂ pos Ex) (fun vs s₂ p₂ => ?_) fun uu uu y => y
    have k₂ := keepsK p₂.1
    have := p₂.2
    rw [gext_gext k k₂] at this
    exact ⟨keepsTr p.1.keeps p₂.1, Reps.cons (Rep.mono (View.le_of (gext_mono k₂)) _ p.1.rep) this⟩

theorem matchEs_len {sc : Sc} {ρ : Rho} : ∀ {l : Es} {exs : List Expr} {xs : List PV}, matchEs N ns sc l exs = true → evalEs T ρ l = some xs → xs.length = exs.length
  | .nil, [], xs, _, h => by obtain rfl : [] = xs := Option.some.inj h; rfl
  | .nil, _ :: _, _, h, _ => noB h
  | .cons _ _, [], _, h, _ => noB h
  | .cons a l, e :: es, xs, h, hx => by
    refine bindK hx fun y h₁ hx => ?_
    obtain ⟨ys, h₂, rfl⟩ := Option.map_eq_some_iff.mp hx
    have h := Bool.and_eq_true_iff.mp h
    simp [matchEs_len h.2 h₂]

theorem ok_list {l : Es} (Pl : PEs W N T A ns l) : PE W N T A ns (.list l) := fun ex sc hm env ρ s g x hsc G hs R hx => by
  refine m_list hm fun es q m1 m2 => mapK hx fun xs h => ?_
  · refine .gen hs rfl fun Ex => wpAny_List (wpAny_mono (Pl _ sc m2 env ρ s g xs hsc G hs R h _ Ex) (fun vs s₁ p => ?_) fun uu uu y => y)
    have np := newList_post (gext_sub hs (keepsK p.1)) p.2
    refine ⟨?_, Post.back p.1 np.1, fun uu uu uu => NewList.back (keepsK p.1) np.2⟩
    have := matchEs_len m2 h
    have := p.2.length
    rw [sizeLine_eq]; omega
theorem ok_tup {l : Es} (Pl : PEs W N T A ns l) : PE W N T A ns (.tup l) := fun ex sc hm env ρ s g x hsc G hs R hx => by
  refine m_tup hm fun es c q m1 m2 => mapK hx fun xs h => ?_
  · refine .plain hs rfl rfl fun Ex => wpAny_Tuple (wpAny_mono (Pl _ sc m2 env ρ s g xs hsc G hs R h _ Ex) (fun vs s₁ p => ?_) fun uu uu y => y)
    have np := newTup_post (gext_sub hs (keepsK p.1)) p.2
    refine ⟨?_, Post.back p.1 np⟩
    have := matchEs_len m2 h
    have := p.2.length
    rw [sizeLine_eq]; omega

theorem ok_call (H : Good W N T A) {f : Nat} {l : Es} (Pl : PEs W N T A ns l) : PE W N T A ns (.call f l) := fun ex sc hm env ρ s g x hsc G hs R hx => by
  refine m_call hm fun n p args q m1 m2 m3 => bindK hx fun xs h₁ h₂ => ?_
  exact .plain hs rfl rfl fun Ex => call_ok H (matchEs_star m3) m1 (by rw [hsc]; exact m2) h₂ G hs (Pl _ sc m3 env ρ s g xs hsc G hs R h₁ _ Ex)
theorem ok_meth (H : Good W N T A) {o : E} {m : Nat} {l : Es} (Po : PE W N T A ns o) (Pl : PEs W N T A ns l) : PE W N T A ns (.meth o m l) := fun ex sc hm env ρ s g x hsc G hs R hx => by
  refine m_meth hm fun v n ap args pos m1 m2 m3 m4 m5 m6 => bindK hx fun y h₀ hx => bindK hx fun xs h₁ h₂ => ?_
  · refine .plain hs rfl rfl fun Ex => meth_ok H (matchEs_star m6) m1 m2 m3 m4 h₂ G hs (wpAny_mono ((Po _ sc m5 env ρ s g y hsc G hs R h₀).val Ex) (fun uu uu p => p.1) fun uu uu y => y) fun s₁ k => ?_
    exact Pl _ sc m6 env ρ s₁ _ xs hsc (G.keep (keepsK k)) (gext_sub hs (keepsK k)) (R.keep (keepsK k) (le_gext hs)) h₁ _ Ex
theorem ok_attr (H : Good W N T A) {o : E} {a : Nat} (Po : PE W N T A ns o) : PE W N T A ns (.attr o a) := fun ex sc hm env ρ s g x hsc G hs R hx => by
  refine m_attr hm fun v n q m1 m2 m3 => bindK hx fun y h₀ h₁ => ?_
  · exact .plain hs rfl rfl fun Ex => getAttr_ok H m1 m2 h₁ G hs (wpAny_mono ((Po _ sc m3 env ρ s g y hsc G hs R h₀).val Ex) (fun uu uu p => p.1) fun uu uu y => y)

theorem ok_sub {o i : E} (Po : PE W N T A ns o) (Pi : PE W N T A ns i) : PE W N T A ns (.sub o i) := fun ex sc hm env ρ s g x hsc G hs R hx => by
  refine m_sub hm fun v' s' q m1 m2 m3 => bindK hx fun y₁ h₁ hx => bindK hx fun y₂ h₂ h₃ => ?_
  · refine .plain hs rfl rfl fun Ex => Subscript_ (two Po Pi m2 m3 hsc G hs R h₁ h₂ fun v u s₂ k r₁ r₂ => ?_)
    exact wpAny_mono (subscr_ok (gext_sub hs (keepsK k)) r₁ r₂ h₃ m1) (fun r s' p => Post.back k p) fun uu uu y => y

theorem part_ok {e : E} (Pe : PE W N T A ns e) {a : Option Expr} {sc : Sc} (hm : (match a with | none => isAbs e | some a => matchE N ns sc e a) = true) {env : Env} {ρ : Rho} {s : Shared} {g : View} {x : PV}
    (hsc : env.scope.names = sc) (G : EnvG W env s.heap) (hs : Sub g s.heap) (R : EnvRep ns env s.heap W.C g ρ) (hx : evalE T ρ e = some x) {Ex : Value → Shared → Prop} :
    wpAny (model W.prog W.w) A (evalPart a env) (fun v s' => Post W.C g s x v s') Ex s := by
  cases a with
  | none =>
    cases e <;> first | exact noB hm | skip
    obtain rfl : .none = x := Option.some.inj hx
    exact wpAny_pure (sc_post (keeps_refl _) rfl)
  | some a => exact wpAny_mono ((Pe a sc hm env ρ s g x hsc G hs R hx).val Ex) (fun uu uu p => p.1) fun uu uu y => y

theorem ok_slice {o l u st : E} (Po : PE W N T A ns o) (Pl : PE W N T A ns l) (Pu : PE W N T A ns u) (Pt : PE W N T A ns st) : PE W N T A ns (.slice o l u st) := fun ex sc hm env ρ s g x hsc G hs R hx => by
  refine m_slice hm fun v' a' b' c' p' q' m1 m2 m3 m4 => bindK hx fun y₁ h₁ hx => bindK hx fun y₂ h₂ hx => bindK hx fun y₃ h₃ hx => bindK hx fun y₄ h₄ h₅ => ?_
  · refine .gen hs rfl fun Ex => Subscript_ (wpAny_mono ((Po _ sc m1 env ρ s g y₁ hsc G hs R h₁).val Ex) (fun v s₁ p₁ => ?_) fun uu uu y => y)
    have k₁ := keepsK p₁.1.keeps
    refine wpAny_Slice (wpAny_mono (part_ok Pl m2 hsc (G.keep k₁) (gext_sub hs k₁) (R.keep k₁ (le_gext hs)) h₂) (fun vl s₂ p₂ => ?_) fun uu uu y => y)
    have p₂ := Post.back p₁.1.keeps p₂
    have k₂ := keepsK p₂.keeps
    rename_i p₂o
    refine wpAny_mono (part_ok Pu m3 hsc (G.keep k₂) (gext_sub hs k₂) (R.keep k₂ (le_gext hs)) h₃) (fun vu s₃ p₃ => ?_) fun uu uu y => y
    have q₃ := Post.back p₂.keeps p₃
    have k₃ := keepsK q₃.keeps
    refine wpAny_mono (part_ok Pt m4 hsc (G.keep k₃) (gext_sub hs k₃) (R.keep k₃ (le_gext hs)) h₄) (fun vt s₄ p₄ => ?_) fun uu uu y => y
    have q₄ := Post.back q₃.keeps p₄
    have r₁ : Rep W.C (gext g s.heap s₄.heap) y₁ v := Rep.mono (View.le_of fun a o e => gext_mono (keepsK p₄.keeps) a o (gext_mono (keepsK p₃.keeps) a o (gext_mono (keepsK p₂o.keeps) a o e))) _ p₁.1.rep
    have r₂ : Rep W.C (gext g s.heap s₄.heap) y₂ vl := Rep.mono (View.le_of fun a o e => gext_mono (keepsK p₄.keeps) a o (gext_mono (keepsK p₃.keeps) a o e)) _ p₂.rep
    have r₃ : Rep W.C (gext g s.heap s₄.heap) y₃ vu := Rep.mono (View.le_of fun a o e => gext_mono (keepsK p₄.keeps) a o e) _ q₃.rep
    refine wpAny_mono (slice_ok (gext_sub hs (keepsK q₄.keeps)) h₅ r₁ r₂ r₃ q₄.rep) (fun r s' p => ?_) fun uu uu y => y
    exact ⟨Post.back q₄.keeps p.1, fun uu l e => NewList.back (keepsK q₄.keeps) (p.2 l e)⟩
end
end Mp
end

section
set_option maxRecDepth 20000
/-! MiniPy: comprehensions, ranges, iterators; all expressions. -/
namespace Mp
open PySem PySem.Calls PyProof.Rows PySem.W

section
variable {W : Wd} {N : NT} {T : Tabs} {A : Around} {ns : List Str}

theorem Iters.mono {tg : Expr} {C : Addr} {g : View} {s s₂ : Shared} {items : List PV} {it : Value} (h : Iters W.prog W.w A tg C (fun uu => none) s items it s₂) : Iters W.prog W.w A tg C g s items it s₂ := by
  obtain ⟨G, I, fp, wr, St, rfl, r⟩ := h
  refine ⟨G, I, fp, wr, St, rfl, ⟨r.keeps, r.wk, r.st, r.sub, r.off, r.new, fun b hb => ?_, fun a o e => ?_, r.len⟩⟩
  · rcases r.feet b hb with h | ⟨o, h⟩
    · exact .inl h
    · (first | exact noS h | exact noB h | cases h)
  · rcases r.view a o e with h | h
    · (first | exact noS h | exact noB h | cases h)
    · exact .inr h

theorem reps1 {C : Addr} {g : View} {i : Int} {vs : List Value} (h : Reps C g [.int i] vs) : ∃ t, vs = [.int i t] := by
  obtain ⟨v, r, rfl, ⟨t, rfl⟩, h⟩ := h; (first | exact noS h | exact noB h | cases h); exact ⟨t, rfl⟩
theorem reps2 {C : Addr} {g : View} {i j : Int} {vs : List Value} (h : Reps C g [.int i, .int j] vs) : ∃ t u, vs = [.int i t, .int j u] := by
  obtain ⟨v, r, rfl, ⟨t, rfl⟩, h⟩ := h; obtain ⟨u, rfl⟩ := reps1 h; exact ⟨t, u, rfl⟩
theorem reps3 {C : Addr} {g : View} {i j k : Int} {vs : List Value} (h : Reps C g [.int i, .int j, .int k] vs) : ∃ t u v, vs = [.int i t, .int j u, .int k v] := by
  obtain ⟨v, r, rfl, ⟨t, rfl⟩, h⟩ := h; obtain ⟨u, w, rfl⟩ := reps2 h; exact ⟨t, u, w, rfl⟩
theorem reps_of {C : Addr} {g : View} : ∀ {xs : List PV} {vs : List Value}, vs.length = xs.length → (∀ (i : Nat) x v, xs[i]? = some x → vs[i]? = some v → Rep C g x v) → Reps C g xs vs
  | [], [], _, _ => rfl
  | [], _ :: _, h, _ => by simp at h
  | _ :: _, [], h, _ => by simp at h
  | x :: xs, v :: vs, h, r => .cons (r 0 x v rfl rfl) (reps_of (by simpa using h) fun i y u hy hu => r (i + 1) y u (by simpa using hy) (by simpa using hu))
theorem me1 {sc : Sc} {a : E} {x : Expr} (h : matchE N ns sc a x = true) : matchEs N ns sc (.cons a .nil) [x] = true := Bool.and_eq_true_iff.mpr ⟨h, rfl⟩
theorem me2 {sc : Sc} {a b : E} {x y : Expr} (h : matchE N ns sc a x = true) (h' : matchE N ns sc b y = true) : matchEs N ns sc (.cons a (.cons b .nil)) [x, y] = true := Bool.and_eq_true_iff.mpr ⟨h, me1 h'⟩
theorem me3 {sc : Sc} {a b c : E} {x y z : Expr} (h : matchE N ns sc a x = true) (h' : matchE N ns sc b y = true) (h'' : matchE N ns sc c z = true) : matchEs N ns sc (.cons a (.cons b (.cons c .nil))) [x, y, z] = true := Bool.and_eq_true_iff.mpr ⟨h, me2 h' h''⟩

theorem range3_small {i j k : Int} {items : List PV} (h : range3 i j k = some items) : k.natAbs < 1073741824 := by
  obtain ⟨uu, uu, uu, uu, uu, uu, h1, h2⟩ := range_small h
  omega

/-- a call of a builtin type by its name -/
theorem tcall {n : Str} {p pos : Pos} {tn : String} {env : Env} {s : Shared} {args : List Expr} {Q : Value → Shared → Prop} {Ex : Value → Shared → Prop} (G : EnvG W env s.heap) (hg : isG env.scope.names n = true) (hl : Loads W A n (.type tn))
    (hst : starEach args env = args.map fun e => (false, eval e env)) (hne : args ≠ [])
    (h : wpAny (model W.prog W.w) A (spliced (backTo pos (starEach args env))) (fun vs s₁ => wpAny (model W.prog W.w) A (call (.type tn) vs) Q Ex s₁) Ex s) :
    wpAny (model W.prog W.w) A (eval (.Call (.Name n p) args [] pos) env) Q Ex s := by
  refine Call_Name rfl (gname_ok G hg hl ?_)
  rw [backTo_eq hst] at h ⊢
  refine PySem.callWith_type (by simp) ?_
  cases args with
  | nil => exact absurd rfl hne
  | cons e es => exact evalArgs_plain h

theorem bcall {n : Str} {p pos : Pos} {tn : String} {env : Env} {s : Shared} {args : List Expr} {Q : Value → Shared → Prop} {Ex : Value → Shared → Prop} (G : EnvG W env s.heap) (hg : isG env.scope.names n = true) (hl : Loads W A n (.builtin tn))
    (hst : starEach args env = args.map fun e => (false, eval e env)) (hne : args ≠ [])
    (h : wpAny (model W.prog W.w) A (spliced (backTo pos (starEach args env))) (fun vs s₁ => wpAny (model W.prog W.w) A (call (.builtin tn) vs) Q Ex s₁) Ex s) :
    wpAny (model W.prog W.w) A (eval (.Call (.Name n p) args [] pos) env) Q Ex s := by
  refine Call_Name rfl (gname_ok G hg hl ?_)
  rw [backTo_eq hst] at h ⊢
  refine PySem.Calls.callWith_builtin (by simp) ?_
  cases args with
  | nil => exact absurd rfl hne
  | cons e es => exact evalArgs_plain h

theorem range_call {i j k : Int} {items : List PV} {t u v : Tok} {s : Shared} {Q : Value → Shared → Prop} {Ex : Value → Shared → Prop} (h : range3 i j k = some items)
    (hQ : ∀ r s', Keeps s s' → IsRange s'.heap r i j k t u v → s.heap.get? r = none → Q (.ref r) s') :
    wpAny (model W.prog W.w) A (call (.type "range") [.int i t, .int j u, .int k v]) Q Ex s :=
  call_range_3 (range_small h).2.2.2.1 (hQ _ _ (keeps_heap (keep_push _ _)) (IsRange.new ..) (get_size _)) (.inl (PyProof.noPylong_small (range3_small h)))

/-- an iterator that looks at nothing that was there -/
noncomputable def PItN (W : Wd) (N : NT) (T : Tabs) (A : Around) (ns : List Str) (it : It) : Prop := ∀ tg ex sc, matchIt N ns sc it tg ex = true → ∀ env ρ s g xs, env.scope.names = sc → EnvG W env s.heap → Sub g s.heap → EnvRep ns env s.heap W.C g ρ → evalIt T ρ it = some xs →
  ∀ Ex, wpAny (model W.prog W.w) A (eval ex env) (fun xv s₁ => wpAny (model W.prog W.w) A (pyIter xv) (fun iv s₂ => Iters W.prog W.w A tg W.C (fun uu => none) s xs iv s₂) Ex s₁) Ex s
theorem PItN.it {it : It} (h : PItN W N T A ns it) : PIt W N T A ns it := fun tg ex sc hm env ρ s g xs hsc G hs R hx Ex =>
  wpAny_mono (h tg ex sc hm env ρ s g xs hsc G hs R hx Ex) (fun uu uu q => wpAny_mono q (fun uu uu q => q.mono) fun uu uu y => y) fun uu uu y => y

theorem it_e {x : E} (H : Good W N T A) (Px : PE W N T A ns x) : PIt W N T A ns (.e x) := fun tg ex sc hm env ρ s g xs hsc G hs R hx Ex => by
  refine bindK hx fun y h₁ h₂ => ?_
  refine wpAny_mono ((Px ex sc hm env ρ s g y hsc G hs R h₁).val Ex) (fun v s₁ p => ?_) fun uu uu y => y
  exact iter_data H.hh (gext_sub hs (keepsK p.1.keeps)) p.1.rep h₂ fun it s₂ h => Iters.back p.1.keeps h hs

theorem itN_range1 {b : E} (H : Good W N T A) (Pb : PE W N T A ns b) : PItN W N T A ns (.range1 b) := fun tg ex sc hm env ρ s g xs hsc G hs R hx Ex => by
  refine m_range1 hm fun p' x' q' m2 m3 => bindK hx fun y h₁ h₂ => ?_
  cases y with
  | int j =>
    have me := me1 m3
    refine tcall G (by rw [hsc]; exact m2) H.range (matchEs_star me) (by simp) ?_
    refine wpAny_mono (es_cons Pb es_nil _ sc me env ρ s g [.int j] hsc G hs R (wOne h₁) _ Ex) (fun vs s₁ p => ?_) fun uu uu y => y
    obtain ⟨t, rfl⟩ := reps1 p.2
    refine call_range_1 ?_
    have kk : Keeps s { s₁ with heap := s₁.heap.push { cls := .type "range", data := .fields #[.int 0 s₁.toks, .int j t, .int 1 (s₁.toks + 1)] }, toks := s₁.toks + 1 + 1 } := keepsTr p.1 ⟨_, _, rfl, keep_push _ _⟩
    exact iter_range H.hh (IsRange.new ..) h₂ fun it s₂ h => Iters.back kk (Iters.mono h) (fun uu uu e => by (first | exact noS e | exact noB e | cases e))
  | _ => exact noS h₂
theorem itN_range2 {a b : E} (H : Good W N T A) (Pa : PE W N T A ns a) (Pb : PE W N T A ns b) : PItN W N T A ns (.range2 a b) := fun tg ex sc hm env ρ s g xs hsc G hs R hx Ex => by
  refine m_range2 hm fun p' x' y' q' m2 m3 m4 => bindK hx fun y h₁ hx => bindK hx fun z h₁' h₂ => ?_
  cases y with
  | int i => cases z with
   | int j =>
    have me := me2 m3 m4
    refine tcall G (by rw [hsc]; exact m2) H.range (matchEs_star me) (by simp) ?_
    refine wpAny_mono (es_cons Pa (es_cons Pb es_nil) _ sc me env ρ s g [.int i, .int j] hsc G hs R (wTwo h₁ h₁') _ Ex) (fun vs s₁ p => ?_) fun uu uu y => y
    obtain ⟨t, u, rfl⟩ := reps2 p.2
    refine call_range_2 ?_
    have kk : Keeps s { s₁ with heap := s₁.heap.push { cls := .type "range", data := .fields #[.int i t, .int j u, .int 1 s₁.toks] }, toks := s₁.toks + 1 } := keepsTr p.1 ⟨_, _, rfl, keep_push _ _⟩
    exact iter_range H.hh (IsRange.new ..) h₂ fun it s₂ h => Iters.back kk (Iters.mono h) (fun uu uu e => by (first | exact noS e | exact noB e | cases e))
   | _ => exact noS h₂
  | _ => exact noS h₂
theorem itN_range3 {a b c : E} (H : Good W N T A) (Pa : PE W N T A ns a) (Pb : PE W N T A ns b) (Pc : PE W N T A ns c) : PItN W N T A ns (.range3 a b c) := fun tg ex sc hm env ρ s g xs hsc G hs R hx Ex => by
  refine m_range3 hm fun p' x' y' z'' q' m2 m3 m4 m5 => bindK hx fun y h₁ hx => bindK hx fun z h₁' hx => bindK hx fun z' h₁'' h₂ => ?_
  cases y with
  | int i => cases z with
   | int j => cases z' with
    | int k =>
    have me := me3 m3 m4 m5
    refine tcall G (by rw [hsc]; exact m2) H.range (matchEs_star me) (by simp) ?_
    refine wpAny_mono (es_cons Pa (es_cons Pb (es_cons Pc es_nil)) _ sc me env ρ s g [.int i, .int j, .int k] hsc G hs R (wThree h₁ h₁' h₁'') _ Ex) (fun vs s₁ p => ?_) fun uu uu y => y
    obtain ⟨t, u, v, rfl⟩ := reps3 p.2
    refine range_call h₂ fun r s' k' hr uu => ?_
    exact iter_range H.hh hr h₂ fun it s₂ h => Iters.back (keepsTr p.1 k') (Iters.mono h) (fun uu uu e => by (first | exact noS e | exact noB e | cases e))
    | _ => exact noS h₂
   | _ => exact noS h₂
  | _ => exact noS h₂
theorem it_zip {a b : E} (H : Good W N T A) (Pa : PE W N T A ns a) (Pb : PE W N T A ns b) : PIt W N T A ns (.zip a b) := fun tg ex sc hm env ρ s g xs hsc G hs R hx Ex => by
  refine m_zip (P := fun tg ex => wpAny (model W.prog W.w) A (eval ex env) (fun xv s₁ => wpAny (model W.prog W.w) A (pyIter xv) (fun iv s₂ => Iters W.prog W.w A tg W.C g s xs iv s₂) Ex s₁) Ex s) hm fun es' c' r' p' x' y' q' m2 m3 m4 => bindK hx fun y h₁ hx => bindK hx fun z h₁' hx => bindK hx fun l₁ e₁ hx => mapK hx fun l₂ e₂ => ?_
  · have me := me2 m3 m4
    have lo : ∀ {y : PV} {l : List PV}, listOf y = some l → y = .list l ∧ l.length ≤ lim := fun {y l} e => by
      cases y with
      | list l' => exact ifK (x := l') (G := fun l => PV.list l' = .list l ∧ l.length ≤ lim) e fun q => ⟨rfl, q⟩
      | _ => exact noS e
    obtain ⟨rfl, b₁⟩ := lo e₁
    obtain ⟨rfl, b₂⟩ := lo e₂
    refine tcall G (by rw [hsc]; exact m2) H.zip (matchEs_star me) (by simp) ?_
    refine wpAny_mono (es_cons Pa (es_cons Pb es_nil) _ sc me env ρ s g [.list l₁, .list l₂] hsc G hs R (wTwo h₁ h₁') _ Ex) (fun vs s₁ p => ?_) fun uu uu y => y
    obtain ⟨p1, p2⟩ := p
    obtain ⟨v₁, r₁, rfl, q₁, v₂, r₂, rfl, q₂, q₃⟩ := p2
    (first | exact noS q₃ | exact noB q₃ | cases q₃)
    exact iter_zip H.hh (gext_sub hs (keepsK p1)) q₁ q₂ b₁ b₂ fun it s₂ h => Iters.back p1 h hs

theorem ok_lrange (H : Good W N T A) {a b c : E} (Pa : PE W N T A ns a) (Pb : PE W N T A ns b) (Pc : PE W N T A ns c) : PE W N T A ns (.lrange a b c) := fun ex sc hm env ρ s g x hsc G hs R hx => by
  refine m_lrange hm fun p1' p2' x' y' z'' q1' q2' m2 m2' m3 m4 m5 => bindK hx fun y h₁ hx => bindK hx fun z h₁' hx => bindK hx fun z' h₁'' h₂ => ?_
  cases y with
  | int i => cases z with
   | int j => cases z' with
    | int k =>
     refine mapK h₂ fun items h₂ => ?_
     have me := me3 m3 m4 m5
     refine .gen hs rfl fun Ex => tcall G (by rw [hsc]; exact m2) H.list (by rfl) (by simp) ?_
     refine wpAny_items_cons ?_
     refine tcall G (by rw [hsc]; exact m2') H.range (matchEs_star me) (by simp) ?_
     refine wpAny_mono (es_cons Pa (es_cons Pb (es_cons Pc es_nil)) _ sc me env ρ s g [.int i, .int j, .int k] hsc G hs R (wThree h₁ h₁' h₁'') _ Ex) (fun vs s₁ p => ?_) fun uu uu y => y
     obtain ⟨t, u, v, rfl⟩ := reps3 p.2
     refine range_call h₂ fun r s' k' hr uu => wpAny_items_nil ?_
     obtain ⟨h1, h2, h3, h4, uu⟩ := range_small h₂
     refine call_list_range (n := rangeN i j k) H.hh hr h1 (rangeSize_eq h4) (Nat.le_trans h3 (by decide)) fun h' tk acc' c' kk hl hit => ?_
     have kA : Keeps s { s' with heap := h', toks := tk } := keepsTr p.1 (keepsTr k' ⟨_, _, rfl, kk⟩)
     have hnew : s.heap.get? s'.heap.objs.size = none := by
       cases q : s.heap.get? s'.heap.objs.size with
       | none => rfl
       | some o =>
         have := keepsK (keepsTr p.1 k') _ o q
         rw [get_size] at this; (first | exact noS this | exact noB this | cases this)
     refine ⟨⟨kA, ⟨_, acc'.toList, c', rfl, ?_, ?_⟩⟩, fun uu uu uu => ⟨_, acc', c', rfl, hnew, ?_⟩⟩
     · rw [gext_new hnew]; simpa using hl
     · subst h2
       refine reps_of (by simp [rangeL, hit.1]) fun q x v hx hv => ?_
       have hlt : q < rangeN i j k := by
         cases Nat.lt_or_ge q (rangeN i j k) with
         | inl h => exact h
         | inr h => rw [List.getElem?_eq_none (by simpa [rangeL] using h)] at hx; (first | exact noS hx | exact noB hx | cases hx)
       simp only [rangeL, List.getElem?_map, List.getElem?_range hlt, Option.map_some, Option.some.injEq] at hx
       subst hx
       exact hit.2 q v (by simpa using hv)
     · simpa using hl
    | _ => exact noS h₂
   | _ => exact noS h₂
  | _ => exact noS h₂

theorem ok_isBool (H : Good W N T A) {a : E} (Pa : PE W N T A ns a) : PE W N T A ns (.isBool a) := fun ex sc hm env ρ s g x hsc G hs R hx => by
  refine m_isBool hm fun p1' x' p2' q' m1 m2 m3 => bindK hx fun y h₁ h₂ => ?_
  · refine .plain hs (by rfl) rfl fun Ex => ?_
    refine bcall G (by rw [hsc]; exact m1) H.isinst (by rw [star_any m3]; rfl) (by simp) ?_
    refine wpAny_items_cons (wpAny_mono ((Pa _ sc m3 env ρ s g y hsc G hs R h₁).val Ex) (fun v s₁ p => ?_) fun uu uu y => y) (star_any m3)
    have k := keepsK p.1.keeps
    refine wpAny_items_cons (gname_ok (G.keep k) (by rw [hsc]; exact m2) H.bool (wpAny_items_nil ?_))
    cases y with
    | bool _ =>
      have e := Option.some.inj h₂; subst e; have := p.1.rep; (first | exact noS this | exact noB this | cases this)
      exact IsiPair.bool_bool (sc_post p.1.keeps rfl)
    | int _ =>
      have e := Option.some.inj h₂; subst e; obtain ⟨t, rfl⟩ := p.1.rep
      exact IsiPair.int_bool (sc_post (keepsTr p.1.keeps (keeps_tok _ _)) rfl)
    | _ => exact noS h₂

/-- a comprehension's own names let go -/
theorem CompEnd.let_go {C : Addr} {g : View} {s s' : Shared} {zs : List PV} {v : Value} {L : Addr} (h : CompEnd C g s zs v L s') {h' : Heap} (b : Heap.SameBut L s'.heap h') :
    Post C g s (.list zs) v { s' with heap := h' } ∧ NewList s.heap h' v := by
  have old : ∀ a o, a ≠ L → s'.heap.get? a = some o → h'.get? a = some o := fun a o hne e => b.extBut a o hne e
  have sL : ∀ a o, s.heap.get? a = some o → a ≠ L := fun a o e q => by subst q; rw [h.off] at e; (first | exact noS e | exact noB e | cases e)
  have kk : Keeps s { s' with heap := h' } := by
    obtain ⟨h₁, tk, rfl, k⟩ := h.keeps
    exact ⟨h', tk, rfl, fun a o e => old a o (sL a o e) (k a o e)⟩
  refine ⟨⟨kk, Rep.mono (View.le_of fun a o e => ?_) _ h.rep⟩, ?_⟩
  · split at e
    · (first | exact noS e | exact noB e | cases e)
    · rename_i hne
      unfold gext at e ⊢
      split at e
      · rename_i q; rw [if_pos q]; exact e
      · rename_i q; rw [if_neg q]; exact old a o hne e
  · obtain ⟨a, vs, n, rfl, e1, e2⟩ := h.new
    obtain ⟨a', vs', n', e3, e4, uu⟩ := h.rep
    cases e3
    refine ⟨a, vs, n, rfl, e1, old a _ ?_ e2⟩
    intro q
    dsimp only at e4
    rw [if_pos q] at e4; cases e4

theorem ok_comp (H : Good W N T A) (nd : ns.Nodup) {e : E} {t : Tg} {it : It} {c : E} (Pe : PE W N T A ns e) (Pi : PIt W N T A ns it) (Pc : PE W N T A ns c) : PE W N T A ns (.comp e t it c) := fun ex sc hm env ρ s g x hsc G hs R hx => by
  subst hsc
  refine m_comp hm fun elt tg iter ifs scope pos m1 m2 m4 m5 m6 => bindK hx fun xs h₁ hx => mapK hx fun zs h₂ => ?_
  refine .gen hs rfl fun Ex => ?_
  rw [eval_ListComp]
  have hcn : ∀ L cl, (compEnvC scope cl L env).scope.names = relab scope.names env.scope.names := fun L cl => relab_eq G.fn
  refine comp_any (use := none) (fc := fun ρ' => (evalE T ρ' c).bind truthy) (fe := fun ρ' => evalE T ρ' e) (t := t) (items := xs) (zs := zs) (ρ := ρ) H.hh nd G hs R m2 (fold_eq m1)
    (fun E => Pi tg iter _ m4 env ρ s g xs rfl G hs R h₁ E) ⟨fun L cl ρ' s' g' b E G' hs' R' hb => ?_, fun L cl ρ' s' g' y E G' hs' R' hb => ?_⟩ ?_ fun v L s' h => ?_
  · simp only [Option.bind_eq_some_iff] at hb
    obtain ⟨y, hy, hb⟩ := hb
    cases ifs with
    | nil =>
      simp only at m6
      have : y = .bool true := by
        rw [top_is m6] at hy
        exact (Option.some.inj hy).symm
      subst this
      (first | exact noS hb | exact noB hb | cases hb)
      exact wpAny_pure ⟨rfl, keeps_refl _⟩
    | cons i is =>
      cases is with
      | nil =>
        simp only at m6
        exact wpAny_tests_one ((Pc i _ m6 _ ρ' s' g' y (hcn L cl) G' hs' R' hy).tst b E hb)
      | cons _ _ => simp at m6
  · exact wpAny_mono ((Pe elt _ m5 _ ρ' s' g' y (hcn L cl) G' hs' R' hb).val E) (fun uu uu p => p.1) fun uu uu y => y
  · rw [← h₂]; congr 1; funext x; simp [compF, Option.bind_assoc]
  · obtain ⟨m, hm⟩ := h.ns
    refine ⟨m, hm, fun h' hb => ?_⟩
    have q := h.let_go hb
    exact ⟨q.1, fun uu uu uu => q.2⟩

mutual
theorem okE (H : Good W N T A) (nd : ns.Nodup) : ∀ e, PE W N T A ns e
  | .abs => ok_abs
  | .cst _ => ok_cst
  | .var _ => ok_var
  | .glob _ => ok_glob H
  | .bin _ a b => ok_bin (okE H nd a) (okE H nd b)
  | .neg a => ok_neg (okE H nd a)
  | .not a => ok_not (okE H nd a)
  | .cmp _ a b => ok_cmp H (okE H nd a) (okE H nd b)
  | .and l => ok_and (okAnd H nd l)
  | .or l => ok_or (okOr H nd l)
  | .ite t a b => ok_ite (okE H nd t) (okE H nd a) (okE H nd b)
  | .list l => ok_list (okEs H nd l)
  | .tup l => ok_tup (okEs H nd l)
  | .comp e _ it c => ok_comp H nd (okE H nd e) (okIt H nd it) (okE H nd c)
  | .call _ l => ok_call H (okEs H nd l)
  | .meth o _ l => ok_meth H (okE H nd o) (okEs H nd l)
  | .attr o _ => ok_attr H (okE H nd o)
  | .sub o i => ok_sub (okE H nd o) (okE H nd i)
  | .slice o l u s => ok_slice (okE H nd o) (okE H nd l) (okE H nd u) (okE H nd s)
  | .lrange a b c => ok_lrange H (okE H nd a) (okE H nd b) (okE H nd c)
  | .isBool a => ok_isBool H (okE H nd a)
theorem okEs (H : Good W N T A) (nd : ns.Nodup) : ∀ l, PEs W N T A ns l
  | .nil => es_nil
  | .cons e l => es_cons (okE H nd e) (okEs H nd l)
theorem okAnd (H : Good W N T A) (nd : ns.Nodup) : ∀ l, PAnd W N T A ns l
  | .nil => and_nil
  | .cons e .nil => and_one (okE H nd e)
  | .cons e (.cons e' l) => and_cons (okE H nd e) (okAnd H nd (.cons e' l))
theorem okOr (H : Good W N T A) (nd : ns.Nodup) : ∀ l, POr W N T A ns l
  | .nil => or_nil
  | .cons e .nil => or_one (okE H nd e)
  | .cons e (.cons e' l) => or_cons (okE H nd e) (okOr H nd (.cons e' l))
theorem okIt (H : Good W N T A) (nd : ns.Nodup) : ∀ it, PIt W N T A ns it
  | .e x => it_e H (okE H nd x)
  | .range1 b => (itN_range1 H (okE H nd b)).it
  | .range2 a b => (itN_range2 H (okE H nd a) (okE H nd b)).it
  | .range3 a b c => (itN_range3 H (okE H nd a) (okE H nd b) (okE H nd c)).it
  | .zip a b => it_zip H (okE H nd a) (okE H nd b)
end
end
end Mp
end

section
set_option maxRecDepth 20000
/-! MiniPy: what holds of a frame while its statements run. -/
namespace Mp
open PySem PySem.Calls PyProof.Rows PySem.W
open scoped Classical

noncomputable def Hot (env : Env) (a : Addr) : Prop := a = env.locals ∨ ∃ n, env.cells.lookup n = some a
noncomputable def allV (env : Env) (e : Heap) (g₀ : View) (h : Heap) : View := fun a => if (e.get? a).isSome then g₀ a else if Hot env a then none else h.get? a
noncomputable def ads : Option Sl → Addr × Addr → List Addr
  | some (.own _), p => [p.1]
  | some (.self _), p => [p.1, p.2]
  | _, _ => []
theorem ads_frz {x : PV} {p : Addr × Addr} {a : Addr} {G : Prop} (h : a ∈ ads (some (.frz x)) p) : G := (List.not_mem_nil h).elim
theorem ads_none {p : Addr × Addr} {a : Addr} {G : Prop} (h : a ∈ ads none p) : G := (List.not_mem_nil h).elim
theorem ads_own {l : List PV} {p : Addr × Addr} {a : Addr} (h : a ∈ ads (some (.own l)) p) : a = p.1 := List.mem_singleton.mp h
theorem ads_self {l : List PV} {p : Addr × Addr} {a : Addr} (h : a ∈ ads (some (.self l)) p) : a = p.1 ∨ a = p.2 := (List.mem_cons.mp h).imp id List.mem_singleton.mp
theorem own_1 {l : List PV} {p : Addr × Addr} : p.1 ∈ ads (some (.own l)) p := List.mem_cons_self
theorem self_1 {l : List PV} {p : Addr × Addr} : p.1 ∈ ads (some (.self l)) p := List.mem_cons_self
theorem self_2 {l : List PV} {p : Addr × Addr} : p.2 ∈ ads (some (.self l)) p := List.mem_cons_of_mem _ List.mem_cons_self
noncomputable def Hold (C : Addr) (F : View) (h : Heap) : Sl → Addr × Addr → Value → Prop
  | .frz x, _, v => Rep C F x v
  | .own l, p, v => v = .ref p.1 ∧ ∃ vs n, h.get? p.1 = some { cls := .type "list", data := .seq (vs : List Value).toArray n } ∧ Reps C F l vs
  | .self l, p, v => v = .ref p.1 ∧ ∃ es n vs, h.get? p.1 = some (instObj C p.2) ∧ h.get? p.2 = some (dictOf es n) ∧ Ents fieldNames es vs ∧ Reps C F l vs
noncomputable def LC (env : Env) (n : Str) : Prop := env.kindOf n = some .local ∨ env.kindOf n = some .cell
structure Bound (env : Env) (h : Heap) (n : Str) (v : Value) : Prop where
  loc : env.kindOf n = some .local → ∃ m, h.Ns env.locals m ∧ m n = some v
  cel : env.kindOf n = some .cell → ∃ c, env.cells.lookup n = some c ∧ h.IsCell c (some v)
  kind : LC env n

structure Inv (W : Wd) (ns : List Str) (env : Env) (s₀ : Shared) (g₀ F K : View) (σ : Sig) (ow : Nat → Addr × Addr) (s : Shared) : Prop where
  base : Keep W.h₀ s₀.heap
  sub₀ : Sub g₀ s₀.heap
  G : EnvG W env s.heap
  kinds : ∀ (i : Nat) (n : Str), ns[i]? = some n → env.kindOf n ≠ some .free
  hF : Sub F s.heap
  hK : Sub K s.heap
  low : ∀ a o, g₀ a = some o → F a = some o
  up : ∀ a o, F a = some o → g₀ a = some o ∨ s₀.heap.get? a = none
  keeps : Keeps s₀ s
  hot : ∀ a, Hot env a → s₀.heap.get? a = none ∧ F a = none ∧ K a = none
  cells : ∀ n c, env.cells.lookup n = some c → c ≠ env.locals ∧ ∃ v, s.heap.IsCell c v
  cinj : ∀ n n' c, env.cells.lookup n = some c → env.cells.lookup n' = some c → n = n'
  slot : ∀ (i : Nat) (n : Str) (sl : Sl), ns[i]? = some n → σ[i]? = some (some sl) → ∃ v, Bound env s.heap n v ∧ Hold W.C F s.heap sl (ow i) v
  own : ∀ (i : Nat) a, a ∈ ads (σ[i]?.join) (ow i) → ¬ Hot env a ∧ s₀.heap.get? a = none ∧ F a = none ∧ K a = none
  dis : ∀ (i j : Nat) a, a ∈ ads (σ[i]?.join) (ow i) → a ∈ ads (σ[j]?.join) (ow j) → i = j
  len : σ.length = ns.length
  self : ∀ (i : Nat) l, σ[i]? = some (some (.self l)) → ow i = W.S

noncomputable def Ext (F F' K : View) : Prop := (∀ a o, F a = some o → F' a = some o) ∧ ∀ a o, F' a = some o → F a = some o ∨ K a = none
theorem Ext.refl (F K : View) : Ext F F K := ⟨fun uu uu e => e, fun uu uu e => .inl e⟩
theorem Ext.trans {F F' F'' K : View} (x : Ext F F' K) (y : Ext F' F'' K) : Ext F F'' K :=
  ⟨fun a o e => y.1 a o (x.1 a o e), fun a o e => (y.2 a o e).elim (fun e' => x.2 a o e') .inr⟩

theorem Hold.mono {C : Addr} {F F' : View} {h h' : Heap} {sl : Sl} {p : Addr × Addr} {v : Value} (x : Hold C F h sl p v) (hF : ∀ a o, F a = some o → F' a = some o)
    (hh : ∀ a ∈ ads (some sl) p, ∀ o, h.get? a = some o → h'.get? a = some o) : Hold C F' h' sl p v := by
  cases sl with
  | frz y => exact Rep.mono (View.le_of hF) _ x
  | own l =>
    obtain ⟨e, vs, n, e1, r⟩ := x
    exact ⟨e, vs, n, hh _ own_1 _ e1, Reps.mono (View.le_of hF) _ r⟩
  | self l =>
    obtain ⟨e, es, n, vs, e1, e2, e3, r⟩ := x
    exact ⟨e, es, n, vs, hh _ self_1 _ e1, hh _ self_2 _ e2, e3, Reps.mono (View.le_of hF) _ r⟩
theorem Hold.there {C : Addr} {F : View} {h : Heap} {sl : Sl} {p : Addr × Addr} {v : Value} (x : Hold C F h sl p v) : ∀ a ∈ ads (some sl) p, ∃ o, h.get? a = some o := by
  intro a ha
  cases sl with
  | frz y => exact ads_frz ha
  | own l =>
    obtain ⟨e, vs, n, e1, r⟩ := x
    have ha := ads_own ha
    subst ha; exact ⟨_, e1⟩
  | self l =>
    obtain ⟨e, es, n, vs, e1, e2, e3, r⟩ := x
    rcases ads_self ha with rfl | rfl
    · exact ⟨_, e1⟩
    · exact ⟨_, e2⟩
theorem Bound.mono {env : Env} {h h' : Heap} {n : Str} {v : Value} (x : Bound env h n v) (k : ∀ a, Hot env a → ∀ o, h.get? a = some o → h'.get? a = some o) : Bound env h' n v := by
  refine ⟨fun e => ?_, fun e => ?_, x.kind⟩
  · obtain ⟨m, a, b⟩ := x.1 e; exact ⟨m, a.at fun o => k _ (.inl rfl) o, b⟩
  · obtain ⟨c, a, o, b, d⟩ := x.2 e; exact ⟨c, a, o, k _ (.inr ⟨n, a⟩) o b, d⟩

theorem kept_none {h h' : Heap} (k : Keep h h') {a : Addr} (e : h'.get? a = none) : h.get? a = none := by
  cases q : h.get? a with
  | none => rfl
  | some o => rw [k a o q] at e; (first | exact noS e | exact noB e | cases e)

section
variable {W : Wd} {ns : List Str} {env : Env} {s₀ s s' : Shared} {g₀ F F' K : View} {σ : Sig} {ow : Nat → Addr × Addr}

namespace Inv
theorem keep (I : Inv W ns env s₀ g₀ F K σ ow s) : Keep s₀.heap s.heap := keepsK I.keeps
theorem slotAt (I : Inv W ns env s₀ g₀ F K σ ow s) {i : Nat} {sl : Sl} (h : σ[i]? = some (some sl)) : ∃ n v, ns[i]? = some n ∧ Bound env s.heap n v ∧ Hold W.C F s.heap sl (ow i) v := by
  have hlt : i < ns.length := by rw [← I.len]; exact (List.getElem?_eq_some_iff.mp h).1
  have hn : ns[i]? = some ns[i] := List.getElem?_eq_getElem hlt
  obtain ⟨v, a, b⟩ := I.slot i _ sl hn h
  exact ⟨_, v, hn, a, b⟩
theorem thereOwn (I : Inv W ns env s₀ g₀ F K σ ow s) {i : Nat} {a : Addr} (h : a ∈ ads (σ[i]?.join) (ow i)) : ∃ o, s.heap.get? a = some o := by
  cases q : σ[i]? with
  | none => rw [q] at h; exact ads_none h
  | some x =>
    cases x with
    | none => rw [q] at h; exact ads_none h
    | some sl =>
      obtain ⟨n, v, uu, uu, hh⟩ := I.slotAt q
      rw [q] at h
      exact hh.there a h
theorem thereHot (I : Inv W ns env s₀ g₀ F K σ ow s) {a : Addr} (h : Hot env a) : ∃ o, s.heap.get? a = some o := by
  rcases h with rfl | ⟨n, e⟩
  · obtain ⟨m, f⟩ := I.G.fr
    obtain ⟨o, uu, uu, ho, uu⟩ := f.ns
    exact ⟨o, ho⟩
  · obtain ⟨uu, v, o, ho, uu⟩ := I.cells n a e
    exact ⟨o, ho⟩
theorem allSub (I : Inv W ns env s₀ g₀ F K σ ow s) : Sub (allV env s₀.heap g₀ s.heap) s.heap := fun a o e => by
  unfold allV at e
  split at e
  · exact I.keep _ _ (I.sub₀ _ _ e)
  · split at e
    · (first | exact noS e | exact noB e | cases e)
    · exact e
theorem leAll (I : Inv W ns env s₀ g₀ F K σ ow s) : ∀ a o, F a = some o → allV env s₀.heap g₀ s.heap a = some o := fun a o e => by
  unfold allV
  split
  · rename_i q
    rcases I.up a o e with h | h
    · exact h
    · rw [h] at q; (first | exact noS q | exact noB q | cases q)
  · split
    · rename_i q; rw [(I.hot a q).2.1] at e; (first | exact noS e | exact noB e | cases e)
    · exact I.hF a o e

theorem getFrz {i : Nat} {x : PV} (h : (frzEnv σ)[i]? = some (some x)) : σ[i]? = some (some (.frz x)) := by
  unfold frzEnv at h
  rw [List.getElem?_map] at h
  cases q : σ[i]? with
  | none => rw [q] at h; cases h
  | some y =>
    rw [q] at h
    cases y with
    | none => cases h
    | some y => cases y <;> first | (cases h; rfl) | (first | exact noS h | exact noB h | cases h)
theorem getAll {i : Nat} {x : PV} (h : (allEnv σ)[i]? = some (some x)) : ∃ sl, σ[i]? = some (some sl) ∧ Sl.all (some sl) = some x := by
  unfold allEnv at h
  rw [List.getElem?_map] at h
  cases q : σ[i]? with
  | none => rw [q] at h; cases h
  | some y =>
    rw [q] at h
    cases y with
    | none => cases h
    | some y => exact ⟨y, rfl, by simpa using h⟩

theorem noFree (I : Inv W ns env s₀ g₀ F K σ ow s) {i : Nat} {n : Str} (h : ns[i]? = some n) : env.kindOf n ≠ some .free := I.kinds i n h
theorem envF (I : Inv W ns env s₀ g₀ F K σ ow s) : EnvRep ns env s.heap W.C F (frzEnv σ) := fun i n x hn hx => by
  obtain ⟨v, b, r⟩ := I.slot i n _ hn (getFrz hx)
  refine ⟨fun e => ?_, fun e => ?_⟩
  · obtain ⟨m, h1, h2⟩ := b.1 e; exact ⟨m, v, h1, h2, r⟩
  · rcases e with e | e
    · obtain ⟨c, h1, h2⟩ := b.2 e; exact ⟨c, v, h1, h2, r⟩
    · exact absurd e (I.noFree hn)
theorem holdAll (I : Inv W ns env s₀ g₀ F K σ ow s) {i : Nat} {sl : Sl} {x : PV} {v : Value} (hs : σ[i]? = some (some sl)) (ha : Sl.all (some sl) = some x) (h : Hold W.C F s.heap sl (ow i) v) :
    Rep W.C (allV env s₀.heap g₀ s.heap) x v := by
  have at' : ∀ a ∈ ads (some sl) (ow i), ∀ o, s.heap.get? a = some o → allV env s₀.heap g₀ s.heap a = some o := fun a ha o e => by
    have q := I.own i a (by rw [hs]; exact ha)
    unfold allV
    rw [if_neg (by rw [q.2.1]; simp), if_neg q.1]; exact e
  cases sl with
  | frz y => (first | exact noS ha | exact noB ha | cases ha); exact Rep.mono (View.le_of I.leAll) _ h
  | own l =>
    (first | exact noS ha | exact noB ha | cases ha)
    obtain ⟨rfl, vs, n, e1, r⟩ := h
    exact ⟨_, vs, n, rfl, at' _ own_1 _ e1, Reps.mono (View.le_of I.leAll) _ r⟩
  | self l =>
    (first | exact noS ha | exact noB ha | cases ha)
    obtain ⟨rfl, es, n, vs, e1, e2, e3, r⟩ := h
    exact ⟨_, _, es, n, vs, rfl, at' _ self_1 _ e1, at' _ self_2 _ e2, e3, Reps.mono (View.le_of I.leAll) _ r⟩
theorem envA (I : Inv W ns env s₀ g₀ F K σ ow s) : EnvRep ns env s.heap W.C (allV env s₀.heap g₀ s.heap) (allEnv σ) := fun i n x hn hx => by
  obtain ⟨sl, h1, h2⟩ := getAll hx
  obtain ⟨v, b, r⟩ := I.slot i n _ hn h1
  have r' := I.holdAll h1 h2 r
  refine ⟨fun e => ?_, fun e => ?_⟩
  · obtain ⟨m, h1, h2⟩ := b.1 e; exact ⟨m, v, h1, h2, r'⟩
  · rcases e with e | e
    · obtain ⟨c, h1, h2⟩ := b.2 e; exact ⟨c, v, h1, h2, r'⟩
    · exact absurd e (I.noFree hn)

/-- objects made, and held by the frozen view -/
theorem grow (I : Inv W ns env s₀ g₀ F K σ ow s) (k : Keeps s s') (h1 : ∀ a o, F a = some o → F' a = some o) (h2 : Sub F' s'.heap) (h3 : ∀ a o, F' a = some o → F a = some o ∨ s.heap.get? a = none) :
    Inv W ns env s₀ g₀ F' K σ ow s' where
  base := I.base
  sub₀ := I.sub₀
  G := I.G.keep (keepsK k)
  kinds := I.kinds
  hF := h2
  hK := I.hK.keep (keepsK k)
  low a o e := h1 _ _ (I.low a o e)
  up a o e := (h3 a o e).elim (I.up a o) fun q => .inr (kept_none I.keep q)
  keeps := keepsTr I.keeps k
  hot a h := by
    obtain ⟨q1, q2, q3⟩ := I.hot a h
    refine ⟨q1, ?_, q3⟩
    cases e : F' a with
    | none => rfl
    | some o =>
      rcases h3 a o e with q | q
      · rw [q2] at q; (first | exact noS q | exact noB q | cases q)
      · obtain ⟨o', w⟩ := I.thereHot h; rw [w] at q; (first | exact noS q | exact noB q | cases q)
  cells n c e := by
    obtain ⟨h, v, hv⟩ := I.cells n c e
    exact ⟨h, v, hv.keeps (keepsK k)⟩
  cinj := I.cinj
  slot i n sl hn hs := by
    obtain ⟨v, b, h⟩ := I.slot i n sl hn hs
    exact ⟨v, b.mono fun a uu o e => keepsK k a o e, h.mono h1 fun a uu o e => keepsK k a o e⟩
  own i a h := by
    obtain ⟨q0, q1, q2, q3⟩ := I.own i a h
    refine ⟨q0, q1, ?_, q3⟩
    cases e : F' a with
    | none => rfl
    | some o =>
      rcases h3 a o e with q | q
      · rw [q2] at q; (first | exact noS q | exact noB q | cases q)
      · obtain ⟨o', w⟩ := I.thereOwn h; rw [w] at q; (first | exact noS q | exact noB q | cases q)
  dis := I.dis
  len := I.len
  self := I.self
theorem step (I : Inv W ns env s₀ g₀ F K σ ow s) (k : Keeps s s') : Inv W ns env s₀ g₀ (gext F s.heap s'.heap) K σ ow s' :=
  I.grow k (le_gext I.hF) (gext_sub I.hF (keepsK k)) fun a o e => by
    unfold gext at e
    split at e
    · exact .inl e
    · rename_i q; right; simpa using q
theorem stay (I : Inv W ns env s₀ g₀ F K σ ow s) (k : Keeps s s') : Inv W ns env s₀ g₀ F K σ ow s' :=
  I.grow k (fun uu uu e => e) (I.hF.keep (keepsK k)) fun uu uu e => .inl e
theorem extStep (I : Inv W ns env s₀ g₀ F K σ ow s) (s' : Shared) : Ext F (gext F s.heap s'.heap) K :=
  ⟨le_gext I.hF, fun a o e => by
    unfold gext at e
    split at e
    · exact .inl e
    · rename_i q; right
      cases w : K a with
      | none => rfl
      | some o' => rw [I.hK a o' w] at q; simp at q⟩
theorem narrow {K' : View} (I : Inv W ns env s₀ g₀ F K σ ow s) (h : ∀ a o, K' a = some o → K a = some o) : Inv W ns env s₀ g₀ F K' σ ow s where
  base := I.base
  sub₀ := I.sub₀
  G := I.G
  kinds := I.kinds
  hF := I.hF
  hK a o e := I.hK a o (h a o e)
  low := I.low
  up := I.up
  keeps := I.keeps
  hot a x := by
    obtain ⟨q1, q2, q3⟩ := I.hot a x
    refine ⟨q1, q2, ?_⟩
    cases e : K' a with
    | none => rfl
    | some o => rw [h a o e] at q3; cases q3
  cells := I.cells
  cinj := I.cinj
  slot := I.slot
  own i a x := by
    obtain ⟨q0, q1, q2, q3⟩ := I.own i a x
    refine ⟨q0, q1, q2, ?_⟩
    cases e : K' a with
    | none => rfl
    | some o => rw [h a o e] at q3; cases q3
  dis := I.dis
  len := I.len
  self := I.self
end Inv
end
end Mp
end

section
set_option maxRecDepth 20000
/-! MiniPy: stores, changes of owned lists. -/
namespace Mp
open PySem PySem.Calls PyProof.Rows PySem.W

section
variable {W : Wd} {ns : List Str} {env : Env} {s₀ s s' : Shared} {g₀ F F' K : View} {σ : Sig} {ow : Nat → Addr × Addr}

namespace Inv
theorem change {D : Addr → Prop} {σ' : Sig} {ow' : Nat → Addr × Addr} {h' : Heap} {tk : Nat} (I : Inv W ns env s₀ g₀ F K σ ow s)
    (hD : ∀ b, D b → s₀.heap.get? b = none ∧ F b = none ∧ K b = none) (hk : ∀ b o, ¬ D b → s.heap.get? b = some o → h'.get? b = some o)
    (hL : ∃ m, h'.Ns env.locals m) (hC : ∀ n c, env.cells.lookup n = some c → ∃ v, h'.IsCell c v)
    (slot : ∀ (i : Nat) (n : Str) (sl : Sl), ns[i]? = some n → σ'[i]? = some (some sl) → ∃ v, Bound env h' n v ∧ Hold W.C F h' sl (ow' i) v)
    (own : ∀ (i : Nat) a, a ∈ ads (σ'[i]?.join) (ow' i) → ¬ Hot env a ∧ s₀.heap.get? a = none ∧ F a = none ∧ K a = none)
    (dis : ∀ (i j : Nat) a, a ∈ ads (σ'[i]?.join) (ow' i) → a ∈ ads (σ'[j]?.join) (ow' j) → i = j) (len : σ'.length = ns.length) (hself : ∀ (i : Nat) l, σ'[i]? = some (some (.self l)) → ow' i = W.S) :
    Inv W ns env s₀ g₀ F K σ' ow' { s with heap := h', toks := tk } where
  base := I.base
  sub₀ := I.sub₀
  G := by
    refine ⟨I.G.gl, I.G.bu, I.G.fn, ?_, I.G.cl⟩
    obtain ⟨m, f⟩ := I.G.fr
    obtain ⟨m', q⟩ := hL
    refine ⟨m', q, fun b o e => hk b o (fun d => ?_) (f.keep b o e), f.above⟩
    have := I.base b o e
    rw [(hD b d).1] at this; (first | exact noS this | exact noB this | cases this)
  kinds := I.kinds
  hF a o e := hk a o (fun d => by rw [(hD a d).2.1] at e; (first | exact noS e | exact noB e | cases e)) (I.hF a o e)
  hK a o e := hk a o (fun d => by rw [(hD a d).2.2] at e; (first | exact noS e | exact noB e | cases e)) (I.hK a o e)
  low := I.low
  up := I.up
  keeps := by
    obtain ⟨h₁, t₁, rfl, k⟩ := I.keeps
    exact ⟨h', tk, rfl, fun b o e => hk b o (fun d => by rw [(hD b d).1] at e; (first | exact noS e | exact noB e | cases e)) (k b o e)⟩
  hot := I.hot
  cells n c e := ⟨(I.cells n c e).1, hC n c e⟩
  cinj := I.cinj
  slot := slot
  own := own
  dis := dis
  len := len
  self := hself

theorem set_get {i j : Nat} {x : Option Sl} (h : i < σ.length) : (σ.set i x)[j]? = if j = i then some x else σ[j]? := by
  rw [List.getElem?_set]
  by_cases e : i = j
  · subst e; simp [h]
  · rw [if_neg e, if_neg fun q => e q.symm]

/-- the slots, each away from what changes -/
theorem slots_off {D : Addr → Prop} {h' : Heap} (I : Inv W ns env s₀ g₀ F K σ ow s) (hk : ∀ b o, ¬ D b → s.heap.get? b = some o → h'.get? b = some o) {j : Nat} {sl : Sl} (h : σ[j]? = some (some sl))
    (hj : ∀ a ∈ ads (some sl) (ow j), ¬ D a) {v : Value} (x : Hold W.C F s.heap sl (ow j) v) : Hold W.C F h' sl (ow j) v :=
  x.mono (fun uu uu e => e) fun a ha o e => hk a o (hj a ha) e

theorem store {prog : Program} {w : World} {A : Around} {Ex : Value → Shared → Prop} (I : Inv W ns env s₀ g₀ F K σ ow s) (nd : ns.Nodup) {i : Nat} {n : Str} (hn : ns[i]? = some n) {sl : Sl} {p : Addr × Addr} {v : Value} (hh : Hold W.C F s.heap sl p v)
    (hp : ∀ a ∈ ads (some sl) p, ¬ Hot env a ∧ s₀.heap.get? a = none ∧ F a = none ∧ K a = none ∧ ∀ j, j ≠ i → a ∉ ads (σ[j]?.join) (ow j)) (hself : ∀ l, sl = .self l → p = W.S) (hlc : LC env n) :
    wpAny (model prog w) A (storeName env n v) (fun uu s' => Inv W ns env s₀ g₀ F K (σ.set i (some sl)) (fun j => if j = i then p else ow j) s') Ex s := by
  have hi : i < σ.length := by rw [I.len]; exact (List.getElem?_eq_some_iff.mp hn).1
  have key : ∀ (c : Addr) (h' : Heap) (tk : Nat), Hot env c → Heap.SameBut c s.heap h' → (∃ m, h'.Ns env.locals m) → (∀ n c, env.cells.lookup n = some c → ∃ v, h'.IsCell c v) → Bound env h' n v →
      (∀ j n', j ≠ i → ns[j]? = some n' → ∀ u, Bound env s.heap n' u → Bound env h' n' u) →
      Inv W ns env s₀ g₀ F K (σ.set i (some sl)) (fun j => if j = i then p else ow j) { s with heap := h', toks := tk } := fun c h' tk hc hs hL hC hb hothers => by
    have hk : ∀ b o, ¬ (b = c) → s.heap.get? b = some o → h'.get? b = some o := fun b o e q => hs.extBut b o e q
    refine I.change (D := fun b => b = c) (fun b e => by subst e; exact I.hot _ hc) hk hL hC (fun j n' sl' hn' hs' => ?_) (fun j a ha => ?_) (fun j k a ha hb => ?_) (by rw [List.length_set]; exact I.len) (fun j l hl => ?_)
    · rw [set_get hi] at hs'
      by_cases e : j = i
      · subst e
        rw [if_pos rfl] at hs'
        (first | exact noS hs' | exact noB hs' | cases hs')
        rw [hn] at hn'; (first | exact noS hn' | exact noB hn' | cases hn')
        exact ⟨v, hb, by rw [if_pos rfl]; exact hh.mono (fun uu uu e => e) fun a ha o q => hk a o (fun e => (hp a ha).1 (e ▸ hc)) q⟩
      · rw [if_neg e] at hs'
        obtain ⟨u, b, x⟩ := I.slot j n' sl' hn' hs'
        refine ⟨u, hothers j n' e hn' u b, ?_⟩
        rw [if_neg e]
        exact I.slots_off hk hs' (fun a ha q => (I.own j a (by rw [hs']; exact ha)).1 (q ▸ hc)) x
    · rw [set_get hi] at ha
      by_cases e : j = i
      · rw [if_pos e, if_pos e] at ha
        obtain ⟨q0, q1, q2, q3, uu⟩ := hp a ha
        exact ⟨q0, q1, q2, q3⟩
      · rw [if_neg e, if_neg e] at ha
        exact I.own j a ha
    · rw [set_get hi] at ha hb
      by_cases e : j = i
      · by_cases e' : k = i
        · rw [e, e']
        · rw [if_pos e, if_pos e] at ha
          rw [if_neg e', if_neg e'] at hb
          exact absurd hb ((hp a ha).2.2.2.2 k e')
      · by_cases e' : k = i
        · rw [if_neg e, if_neg e] at ha
          rw [if_pos e', if_pos e'] at hb
          exact absurd ha ((hp a hb).2.2.2.2 j e)
        · rw [if_neg e, if_neg e] at ha
          rw [if_neg e', if_neg e'] at hb
          exact I.dis j k a ha hb
    · rw [set_get hi] at hl
      by_cases e : j = i
      · rw [if_pos e] at hl ⊢; (first | exact noS hl | exact noB hl | cases hl); exact hself _ rfl
      · rw [if_neg e] at hl ⊢; exact I.self j l hl
  have fn := I.G.fn
  obtain ⟨m, f⟩ := I.G.fr
  rcases id hlc with hl | hl
  · refine wpAny_storeName_local hl f.ns (fun h' hn' hs' => key _ h' _ (.inl rfl) hs' ⟨_, hn'⟩ (fun n' c e => ?_) ⟨fun uu => ⟨_, hn', (by simp)⟩, fun e => (by rw [hl] at e; (first | exact noS e | exact noB e | cases e)), hlc⟩ fun j n' hj hn'' u b => ⟨fun e => ?_, fun e => ?_, b.kind⟩) (by rw [fn]; rfl)
    · obtain ⟨hne, u, hu⟩ := I.cells n' c e
      exact ⟨u, hu.sameBut hs' hne⟩
    · obtain ⟨m', q1, q2⟩ := b.1 e
      refine ⟨_, hn', ?_⟩
      have hne : n' ≠ n := fun q => hj (nodup_inj nd (q ▸ hn'') hn)
      rw [if_neg hne, f.ns.agree q1]; exact q2
    · obtain ⟨c, q1, q2⟩ := b.2 e
      exact ⟨c, q1, q2.sameBut hs' (I.cells n' c q1).1⟩
  · obtain ⟨c, hc⟩ := I.G.cl n (.inl hl)
    obtain ⟨hne, v₀, hv₀⟩ := I.cells n c hc
    refine wpAny_storeName_cell fn hl hc hv₀ fun h' hc' hs' => key c h' s.toks (.inr ⟨n, hc⟩) hs' ⟨m, f.ns.sameBut hs' (Ne.symm hne)⟩ (fun n' c' e => ?_) ⟨fun e => (by rw [hl] at e; (first | exact noS e | exact noB e | cases e)), fun uu => ⟨c, hc, hc'⟩, hlc⟩ fun j n' hj hn'' u b => ⟨fun e => ?_, fun e => ?_, b.kind⟩
    · by_cases q : c' = c
      · subst q; exact ⟨_, hc'⟩
      · obtain ⟨uu, u, hu⟩ := I.cells n' c' e
        exact ⟨u, hu.sameBut hs' q⟩
    · obtain ⟨m', q1, q2⟩ := b.1 e
      exact ⟨m', q1.sameBut hs' (Ne.symm hne), q2⟩
    · obtain ⟨c', q1, q2⟩ := b.2 e
      refine ⟨c', q1, q2.sameBut hs' fun q => hj (nodup_inj nd hn'' ?_)⟩
      subst q
      have := I.cinj _ _ _ q1 hc
      rw [this]; exact hn

theorem storeF {prog : Program} {w : World} {A : Around} {Ex : Value → Shared → Prop} (I : Inv W ns env s₀ g₀ F K σ ow s) (nd : ns.Nodup) {i : Nat} {n : Str} (hn : ns[i]? = some n) {x : PV} {v : Value} (hlc : LC env n) (hh : Rep W.C F x v) :
    wpAny (model prog w) A (storeName env n v) (fun uu s' => ∃ ow, Inv W ns env s₀ g₀ F K (σ.set i (some (.frz x))) ow s') Ex s :=
  wpAny_mono (I.store nd hn (sl := .frz x) (p := (0, 0)) hh (fun a ha => ads_frz ha) (fun l e => by (first | exact noS e | exact noB e | cases e)) hlc) (fun uu uu q => ⟨_, q⟩) fun uu uu y => y

/-- a target of names -/
theorem assignF {prog : Program} {w : World} {A : Around} {Ex : Value → Shared → Prop} (hh : A.handled = none) (I : Inv W ns env s₀ g₀ F K σ ow s) (nd : ns.Nodup) {ok : Str → Bool} (hok : ∀ n, ok n = true → LC env n) {t : Tg} {tg : Expr} (hm : matchT ns ok t tg = true) {x : PV} {v : Value}
    (hr : Rep W.C F x v) {σ' : Sig} (hb : bindS σ t x = some σ') : wpAny (model prog w) A (assign tg env v) (fun uu s' => ∃ ow, Inv W ns env s₀ g₀ F K σ' ow s') Ex s :=
  assign_ok (P := fun σ s => ∃ ow, Inv W ns env s₀ g₀ F K σ ow s) (F := F) (C := W.C) (f := bindV) hh (fun uu uu h => h.elim fun uu h => h.hF) (fun σ s h' h k => h.elim fun ow h => ⟨ow, h.stay (keeps_heap k)⟩)
    (fun σ₁ σ₂ i n y u s₁ E h hn ho hr' hb' => h.elim fun ow h => by
      unfold bindV at hb'
      split at hb'
      · (first | exact noS hb' | exact noB hb' | cases hb'); exact h.storeF nd hn (hok _ ho) hr'
      · (first | exact noS hb' | exact noB hb' | cases hb'))
    t tg hm σ σ' x v s Ex ⟨ow, I⟩ hr hb

/-- an owned list changed -/
theorem mutate (I : Inv W ns env s₀ g₀ F K σ ow s) {i : Nat} {l l' : List PV} (h : σ[i]? = some (some (.own l))) {h' : Heap} {tk : Nat} (hb : Heap.SameBut (ow i).1 s.heap h') {vs : List Value} {n : Nat}
    (hl : h'.get? (ow i).1 = some { cls := .type "list", data := .seq vs.toArray n }) (r : Reps W.C F l' vs) : Inv W ns env s₀ g₀ F K (σ.set i (some (.own l'))) ow { s with heap := h', toks := tk } := by
  have hi : i < σ.length := (List.getElem?_eq_some_iff.mp h).1
  have hin : (ow i).1 ∈ ads (σ[i]?.join) (ow i) := by rw [h]; exact own_1
  have q := I.own i _ hin
  have hk : ∀ b o, ¬ (b = (ow i).1) → s.heap.get? b = some o → h'.get? b = some o := fun b o e q => hb.extBut b o e q
  have hot : ∀ a, Hot env a → ∀ o, s.heap.get? a = some o → h'.get? a = some o := fun a ha o e => hk a o (fun z => q.1 (z ▸ ha)) e
  have same : ∀ j, ads ((σ.set i (some (.own l')))[j]?.join) (ow j) = ads (σ[j]?.join) (ow j) := fun j => by
    rw [set_get hi]
    by_cases e : j = i
    · subst e; rw [if_pos rfl, h]; rfl
    · rw [if_neg e]
  refine I.change (D := fun b => b = (ow i).1) (fun b e => by subst e; exact q.2) hk ?_ (fun n c e => ?_) (fun j n' sl' hn' hs' => ?_) (fun j a ha => I.own j a (by rw [same] at ha; exact ha)) (fun j k a ha hb => I.dis j k a (by rw [same] at ha; exact ha) (by rw [same] at hb; exact hb)) (by rw [List.length_set]; exact I.len) (fun j l hl => by
      rw [set_get hi] at hl
      by_cases e : j = i
      · rw [if_pos e] at hl; (first | exact noS hl | exact noB hl | cases hl)
      · rw [if_neg e] at hl; exact I.self j l hl)
  · obtain ⟨m, f⟩ := I.G.fr
    exact ⟨m, f.ns.at fun o => hot _ (.inl rfl) o⟩
  · obtain ⟨uu, v, o, ho, hv⟩ := I.cells n c e
    exact ⟨v, o, hot _ (.inr ⟨n, e⟩) o ho, hv⟩
  · rw [set_get hi] at hs'
    by_cases e : j = i
    · subst e
      rw [if_pos rfl] at hs'
      (first | exact noS hs' | exact noB hs' | cases hs')
      obtain ⟨u, b, x⟩ := I.slot j n' _ hn' h
      exact ⟨u, b.mono hot, x.1, vs, n, hl, r⟩
    · rw [if_neg e] at hs'
      obtain ⟨u, b, x⟩ := I.slot j n' sl' hn' hs'
      refine ⟨u, b.mono hot, I.slots_off hk hs' (fun a ha z => e (I.dis j i a (by rw [hs']; exact ha) (by rw [z]; exact hin))) x⟩

noncomputable def frzV (F : View) (h : Heap) (p : Addr) : View := fun a => if a = p then h.get? a else F a
theorem frzV_at {F : View} {h : Heap} {p : Addr} : frzV F h p p = h.get? p := if_pos rfl
theorem frzV_ne {F : View} {h : Heap} {p a : Addr} (e : a ≠ p) : frzV F h p a = F a := if_neg e
/-- an owned list held fast -/
theorem freeze (I : Inv W ns env s₀ g₀ F K σ ow s) {i : Nat} {l : List PV} (h : σ[i]? = some (some (.own l))) :
    ∃ F', Inv W ns env s₀ g₀ F' K (σ.set i (some (.frz (.list l)))) ow s ∧ Ext F F' K := by
  have hi : i < σ.length := (List.getElem?_eq_some_iff.mp h).1
  have hin : (ow i).1 ∈ ads (σ[i]?.join) (ow i) := by rw [h]; exact own_1
  have q := I.own i _ hin
  have le : ∀ a o, F a = some o → frzV F s.heap (ow i).1 a = some o := fun a o e => by
    rw [frzV_ne fun z => by rw [z, q.2.2.1] at e; cases e]; exact e
  have sub : ∀ {j : Nat} {a : Addr}, a ∈ ads ((σ.set i (some (.frz (.list l))))[j]?.join) (ow j) → j ≠ i ∧ a ∈ ads (σ[j]?.join) (ow j) := fun {j a} ha => by
    rw [set_get hi] at ha
    by_cases e : j = i
    · rw [if_pos e] at ha; exact ads_frz ha
    · rw [if_neg e] at ha; exact ⟨e, ha⟩
  refine ⟨frzV F s.heap (ow i).1, ?_, le, fun a o e => ?_⟩
  · refine ⟨I.base, I.sub₀, I.G, I.kinds, fun a o e => ?_, I.hK, fun a o e => le a o (I.low a o e), fun a o e => ?_, I.keeps, fun a ha => ?_, I.cells, I.cinj, fun j n sl hn hs => ?_, fun j a ha => ?_, fun j k a ha hb => I.dis j k a (sub ha).2 (sub hb).2, (by rw [List.length_set]; exact I.len), fun j l hl => ?_⟩
    · unfold frzV at e
      split at e
      · exact e
      · exact I.hF a o e
    · unfold frzV at e
      split at e
      · rename_i z; rw [z]; exact .inr q.2.1
      · exact I.up a o e
    · obtain ⟨q0, q1, q2⟩ := I.hot a ha
      refine ⟨q0, ?_, q2⟩
      rw [frzV_ne (fun z : a = (ow i).1 => q.1 (z ▸ ha))]; exact q1
    · rw [set_get hi] at hs
      by_cases e : j = i
      · subst e
        rw [if_pos rfl] at hs
        (first | exact noS hs | exact noB hs | cases hs)
        obtain ⟨u, b, x⟩ := I.slot j n _ hn h
        obtain ⟨rfl, vs, n', e1, r⟩ := x
        exact ⟨_, b, _, vs, n', rfl, (by rw [frzV_at]; exact e1), Reps.mono (View.le_of le) _ r⟩
      · rw [if_neg e] at hs
        obtain ⟨u, b, x⟩ := I.slot j n sl hn hs
        exact ⟨u, b, x.mono le fun uu uu uu z => z⟩
    · obtain ⟨hne, ha'⟩ := sub ha
      obtain ⟨q0, q1, q2, q3⟩ := I.own j a ha'
      refine ⟨q0, q1, ?_, q3⟩
      rw [frzV_ne (fun z : a = (ow i).1 => hne (I.dis j i a ha' (by rw [z]; exact hin)))]; exact q2
    · rw [set_get hi] at hl
      by_cases e : j = i
      · rw [if_pos e] at hl; (first | exact noS hl | exact noB hl | cases hl)
      · rw [if_neg e] at hl; exact I.self j l hl
  · unfold frzV at e
    split at e
    · rename_i z; rw [z]; exact .inr q.2.2.2
    · exact .inl e
end Inv
end
end Mp
end

section
set_option maxRecDepth 20000
/-! MiniPy: lists changed in place. -/
namespace Mp
open PySem PySem.Calls PyProof.Rows PySem.W

section
variable {prog : Program} {w : World} {A : Around} {E : Value → Shared → Prop} {s : Shared}

theorem mapSeq_list (f : Array Value → Array Value) (its : Array Value) (n : Nat) : ∃ k, Obj.mapSeq f { cls := .type "list", data := .seq its n } = { cls := .type "list", data := .seq (f its) k } := by
  unfold Obj.mapSeq; exact ⟨_, rfl⟩
theorem upd_list {h : Heap} {l : Addr} {its : Array Value} {n : Nat} (f : Array Value → Array Value) (ho : h.get? l = some { cls := .type "list", data := .seq its n }) :
    ∃ k, (h.update l (Obj.mapSeq f)).get? l = some { cls := .type "list", data := .seq (f its) k } := by
  obtain ⟨k, e⟩ := mapSeq_list f its n
  exact ⟨k, by rw [Heap.get?_update_self _ ho (by rw [e]; rfl), e]⟩

/-- an item of a list, by a place from either end -/
theorem getItem_at {l : Addr} {vs : List Value} {n : Nat} {k : Int} {t : Tok} {x : Value} {Q : Value → Shared → Prop} (ho : s.heap.get? l = some { cls := .type "list", data := .seq vs.toArray n }) (hi : inIdx k vs.length = true)
    (hx : vs[pidx k vs.length]? = some x) (hQ : Q x s) : wpAny (model prog w) A (getItem (.ref l) (.int k t)) Q E s := by
  have hl : s.heap.IsList l vs.toArray := ⟨_, ho, rfl, n, rfl⟩
  simp only [inIdx, Bool.and_eq_true, decide_eq_true_eq, lim] at hi
  by_cases h0 : k < 0
  · refine wpAny_getItem_list_neg hl h0 (by simp only [List.size_toArray]; omega) (by omega) (x := x) ?_ hQ
    simp only [List.size_toArray]
    unfold pidx at hx; rw [if_pos h0] at hx
    simpa using hx
  · refine wpAny_getItem_list hl (by omega) (by omega) (x := x) ?_ hQ
    unfold pidx at hx; rw [if_neg h0] at hx
    simpa using hx

theorem setItem_at {l : Addr} {vs : List Value} {n : Nat} {k : Int} {t : Tok} {v : Value} {Q : Unit → Shared → Prop} (ho : s.heap.get? l = some { cls := .type "list", data := .seq vs.toArray n }) (hi : inIdx k vs.length = true)
    (hQ : ∀ h' n', h'.get? l = some { cls := .type "list", data := .seq (vs.set (pidx k vs.length) v).toArray n' } → Heap.SameBut l s.heap h' → Q () { s with heap := h' }) :
    wpAny (model prog w) A (setItem (.ref l) (.int k t) v) Q E s := by
  have hl : s.heap.IsList l vs.toArray := ⟨_, ho, rfl, n, rfl⟩
  obtain ⟨hidx, hlt, uu⟩ := seqIdx hi
  simp only [inIdx, Bool.and_eq_true, decide_eq_true_eq, lim] at hi
  unfold setItem
  try with_reducible refine wpAny_holding ?_
  first | refine wpAny_bind (wpAny_pure ?_) | skip
  refine wpAny_bind (wpAny_sequenceKey hl.typeIs (by decide) ?_)
  refine wpAny_bind (wpAny_callSpecial?_slot (name := Str.ofString "__setitem__") hl.typeIs slot_list_setitem
    (wpAny_call_entry slot_list_setitem hl.typeIs entry_list_setitem ?_ (args_list_setitem _ _ _)))
  show wpAny _ _ (Builtin.List.listSubscript? (.int k t) >>= _) _ _ s
  have hfit : Builtin.List.listFitsIndex k = true := by
    unfold Builtin.List.listFitsIndex
    simp only [Bool.and_eq_true, decide_eq_true_eq]
    omega
  refine wpAny_bind (wpAny_listSubscript_int hfit ?_)
  have hx' : vs.toArray[pidx k vs.length]? = some vs[pidx k vs.length] := by simp [hlt]
  obtain ⟨n', hu⟩ := upd_list (·.setIfInBounds (pidx k vs.length) v) ho
  have hu' : (s.heap.update l (Obj.mapSeq (·.setIfInBounds (pidx k vs.length) v))).get? l = some { cls := .type "list", data := .seq (vs.set (pidx k vs.length) v).toArray n' } := by
    rw [hu]; congr 3; simp
  have hq := hQ _ n' hu' (Heap.SameBut.update ..)
  by_cases h0 : k < 0
  · obtain ⟨j, rfl⟩ : ∃ j : Nat, k = Int.negSucc j := by
      cases k with
      | ofNat n => exact absurd h0 (Int.not_lt.mpr (Int.ofNat_nonneg n))
      | negSucc n => exact ⟨n, rfl⟩
    show wpAny _ _ ((Builtin.List.listItems (.ref l) >>= fun xs => pure ((seqIndex? (Int.negSucc j) xs.size).bind fun i => xs[i]?.map (i, ·))) >>= _) _ _ s
    refine wpAny_bind (wpAny_bind ?_)
    show wpAny _ _ (seqItems? (.ref l) >>= _) _ _ s
    refine wpAny_bind (wpAny_seqItems ho rfl (wpAny_pure (wpAny_pure ?_)))
    rw [List.size_toArray, hidx]
    simp only [Option.bind_some, hx', Option.map_some]
    show wpAny _ _ (setSeqItemAt l (pidx (Int.negSucc j) vs.length) v >>= _) _ _ s
    refine wpAny_bind (wpAny_setSeqItemAt ho rfl ?_)
    first
      | exact wpAny_bind (wpAny_pure (wpAny_pure ⟨.none, rfl, wpAny_pure hq⟩))
      | exact wpAny_pure ⟨.none, rfl, wpAny_pure hq⟩
  · obtain ⟨j, rfl⟩ := Int.eq_ofNat_of_zero_le (show 0 ≤ k by omega)
    have hj' : pidx (j : Int) vs.length = j := by unfold pidx; rw [if_neg h0]; rfl
    have hx' : vs.toArray[j]? = some vs[pidx (j : Int) vs.length] := by rw [← hx', hj']
    rw [hj'] at hq
    show wpAny _ _ ((seqItemAt l j >>= fun r => pure (r.map (j, ·))) >>= _) _ _ s
    refine wpAny_bind (wpAny_bind (wpAny_seqItemAt ho rfl (wpAny_pure ?_)))
    rw [hx']
    show wpAny _ _ (setSeqItemAt l j v >>= _) _ _ s
    refine wpAny_bind (wpAny_setSeqItemAt ho rfl ?_)
    first
      | exact wpAny_bind (wpAny_pure (wpAny_pure ⟨.none, rfl, wpAny_pure hq⟩))
      | exact wpAny_pure ⟨.none, rfl, wpAny_pure hq⟩

theorem inplace_ok {o : Op} {x y z : PV} {C : Addr} {g : View} {v u : Value} (h : binop o x y = some z) (hs : scalar x = true) (ho : isAS o = true) (hv : Rep C g x v) (hu : Rep C g y u) :
    wpAny (model prog w) A (inplaceOp (opOf o) v u) (fun r s' => Keeps s s' ∧ Rep C (fun uu => none) z r) E s := by
  revert hs ho hv hu
  refine binop_inv (P := fun o x y z => scalar x = true → isAS o = true → Rep C g x v → Rep C g y u → wpAny (model prog w) A (inplaceOp (opOf o) v u) (fun r s' => Keeps s s' ∧ Rep C (fun uu => none) z r) E s) h ?_ ?_
    (fun uu uu uu uu ho => noB ho) (fun uu uu uu uu ho => noB ho) (fun uu uu uu uu ho => noB ho) (fun uu uu uu uu ho => noB ho) ?_ (fun uu uu uu hs => noB hs)
    (fun uu uu uu uu ho => noB ho) (fun uu uu uu hs => noB hs)
  · intro a b _ _ hv hu
    obtain ⟨t, rfl⟩ := hv; obtain ⟨t', rfl⟩ := hu
    exact P.iadd_int ⟨keeps_tok _ _, _, rfl⟩
  · intro a b _ _ hv hu
    obtain ⟨t, rfl⟩ := hv; obtain ⟨t', rfl⟩ := hu
    exact P.isub_int ⟨keeps_tok _ _, _, rfl⟩
  · intro a b q _ _ hv hu
    obtain ⟨t, rfl⟩ := hv; obtain ⟨t', rfl⟩ := hu
    refine PyProof.Rows.iadd_str (fun t' tk => ⟨keeps_tok _ _, t', ?_⟩) ?_
    · show Value.str (⟨a.toArray⟩ ++ ⟨b.toArray⟩ : Str) t' = _
      congr 1
      show Str.mk (a.toArray ++ b.toArray) = _
      simp
    · rw [sizeLine_eq]
      simp only [Str.length, List.size_toArray]; simp only [lim] at q; omega

theorem getMethod_own {l : Addr} {its : Array Value} {n : Nat} {name : Str} {id : String} {pl : Sem Bool} {Q : Value × List Value → Shared → Prop} (slot : Slot "list" name id) (hty : typeOf (.builtin id) = pure (.type "method_descriptor"))
    (ho : s.heap.get? l = some { cls := .type "list", data := .seq its n }) (hQ : Q (.builtin id, [.ref l]) s) : wpAny (model prog w) A (getMethod (.ref l) name pl) Q E s :=
  getMethod_list_of slot hty ⟨_, ho, rfl, n, rfl⟩ ⟨_, ho, rfl⟩ hQ

/-- a method of an owned list, called -/
theorem call_own {env : Env} {n : Str} {p ap pos : Pos} {m : Str} {id : String} {args : List Expr} {l : Addr} {its : Array Value} {k : Nat} {Q : Value → Shared → Prop}
    (slot : Slot "list" m id) (hty : typeOf (.builtin id) = pure (.type "method_descriptor")) (ho : s.heap.get? l = some { cls := .type "list", data := .seq its k })
    (hst : starEach args env = args.map fun e => (false, eval e env)) (hline : ap.endLine = pos.line) (hlen : args.length < 29)
    (hname : ∀ Q' : Value → Shared → Prop, Q' (.ref l) s → wpAny (model prog w) A (eval (.Name n p) env) Q' E s)
    (hQ : wpAny (model prog w) A (callWith pos (.builtin id) [.ref l] (args.map fun e => (false, eval e env)) []) Q E s) :
    wpAny (model prog w) A (eval (.Call (.Attribute (.Name n p) m ap) args [] pos) env) Q E s := by
  rw [arm_eval_Call, attrBase_eq rfl]
  refine wpAny_bind (hname _ (wpAny_bind (wpAny_standAt ?_)))
  unfold methodCall
  have hform : methodCallForm (args.length + ([] : List Keyword).length) (backTo pos (starEach args env)) (backToKw pos (keywordEach [] env)) = true := by
    rw [backTo_eq hst]
    unfold methodCallForm
    simp only [List.length_nil, Nat.add_zero, Bool.and_eq_true, decide_eq_true_eq]
    refine ⟨⟨by simp, by rfl⟩, ?_⟩
    show args.length + 0 < 30
    omega
  rw [hform]
  refine wpAny_bind (wpAny_holding ?_)
  show wpAny _ A (getMethod (.ref l) m _) _ _ s
  refine getMethod_own slot hty ho ?_
  have hpos : methodCallPos true (.Name n p) env ap pos = pure pos := by
    unfold methodCallPos
    simp [hline]
  dsimp only
  rw [hpos]
  refine wpAny_bind (wpAny_pure ?_)
  show wpAny _ A (callWith pos (.builtin id) [.ref l] (backTo pos (starEach args env)) []) _ _ s
  rw [backTo_eq hst]
  exact hQ

theorem drop_last {vs : List Value} : (vs.toArray.eraseIdxIfInBounds (vs.toArray.size - 1)) = vs.dropLast.toArray := by
  apply Array.toList_inj.mp
  unfold Array.eraseIdxIfInBounds
  split
  · rename_i h
    rw [Array.toList_eraseIdx]
    simp [List.dropLast_eq_take, List.eraseIdx_eq_take_drop_succ]
    have : vs.length - 1 + 1 = vs.length := by simp at h; omega
    rw [this]; simp
  · rename_i h
    have : vs = [] := by
      cases vs with
      | nil => rfl
      | cons a l => simp at h
    subst this; rfl
end
end Mp
end

section
set_option maxRecDepth 20000
/-! MiniPy: statements tied to the program's form; the plain ones. -/
namespace Mp
open PySem PySem.Calls PyProof.Rows PySem.W

noncomputable def isMeth (m : Str) (x : Nat) (ns : List Str) : Expr → Option (List Expr)
  | .Call (.Attribute (.Name n _) a ap) args [] pos => if a == m && ns[x]? == some n && (n == ("__debug__" : Str)) == false && ap.endLine == pos.line && decide (args.length < 29) then some args else none
  | _ => none
noncomputable def isLC (sc : Sc) (n : Str) : Bool := sc.lookup n == some .local || sc.lookup n == some .cell
theorem LC_of {env : Env} {n : Str} (h : isLC env.scope.names n = true) : LC env n := by
  simp only [isLC, Bool.or_eq_true, beq_iff_eq] at h; exact h
/-- a target and its right side are in the form that is known -/
noncomputable def tgOk (t : Tg) (tg value : Expr) : Bool := match tg, value with
  | .Name _ _, _ => true
  | .Tuple ts _ _, .Tuple vs _ _ => (match t with | .t (.cons (.v i) (.cons (.v j) .nil)) => i != j | _ => false) && ts.length == vs.length && !(vs.any fun | .Starred .. => true | _ => false) && !(vs.all (constantsAlone 8))
  | .Tuple _ _ _, _ => true
  | _, _ => false
noncomputable def isName : Expr → Bool
  | .Name _ _ => true
  | _ => false

mutual
noncomputable def matchS (N : NT) (ns : List Str) (sc : Sc) : S → Stmt → Bool
  | .asg _ t e, st => match st with
    | .Assign [tg] value _ => matchT ns (isLC sc) t tg && matchE N ns sc e value && tgOk t tg value
    | _ => false
  | .asg2 x y e, st => match st with
    | .Assign [t₁, t₂] value _ => matchT ns (isLC sc) (.v x) t₁ && matchT ns (isLC sc) (.v y) t₂ && matchE N ns sc e value
    | _ => false
  | .asg3 x y z e, st => match st with
    | .Assign [t₁, t₂, t₃] value _ => matchT ns (isLC sc) (.v x) t₁ && matchT ns (isLC sc) (.v y) t₂ && matchT ns (isLC sc) (.v z) t₃ && matchE N ns sc e value
    | _ => false
  | .aug x o e, st => match st with
    | .AugAssign (.Name n _) p value _ => ns[x]? == some n && isV sc n && opOf o == p && isAS o && matchE N ns sc e value
    | _ => false
  | .setI _ x i e, st => match st with
    | .Assign [.Subscript (.Name n _) j _] value _ => ns[x]? == some n && isV sc n && matchE N ns sc i j && matchE N ns sc e value
    | _ => false
  | .augI x i o e, st => match st with
    | .AugAssign (.Subscript (.Name n _) j _) p value _ => ns[x]? == some n && isV sc n && opOf o == p && isAS o && noSlice j && matchE N ns sc i j && matchE N ns sc e value
    | _ => false
  | .app _ x e, st => match st with
    | .Expr c _ => match isMeth (Str.ofString "append") x ns c with
      | some [a] => matchE N ns sc e a
      | _ => false
    | _ => false
  | .ext x e, st => match st with
    | .Expr c _ => match isMeth (Str.ofString "extend") x ns c with
      | some [a] => matchE N ns sc e a
      | _ => false
    | _ => false
  | .pop x, st => match st with
    | .Expr c _ => match isMeth (Str.ofString "pop") x ns c with
      | some [] => true
      | _ => false
    | _ => false
  | .popTo y x, st => match st with
    | .Assign [.Name n _] c _ => ns[y]? == some n && isLC sc n && (match isMeth (Str.ofString "pop") x ns c with
      | some [] => true
      | _ => false)
    | _ => false
  | .setA x a e, st => match st with
    | .Assign [.Attribute (.Name n _) an _] value _ => ns[x]? == some n && isV sc n && fieldNames[a]? == some an && matchE N ns sc e value
    | _ => false
  | .ite t a b, st => match st with
    | .If test body orelse _ => matchE N ns sc t test && matchSs N ns sc a body && matchSs N ns sc b orelse
    | _ => false
  | .whl t b, st => match st with
    | .While test body [] _ => matchE N ns sc t test && matchSs N ns sc b body
    | _ => false
  | .for t it b, st => match st with
    | .For tg iter body [] _ => matchT ns (isLC sc) t tg && noSet iter && matchIt N ns sc it tg iter && matchSs N ns sc b body
    | _ => false
  | .ret e, st => match st with
    | .Return (some x) _ => matchE N ns sc e x
    | _ => false
  | .brk, st => match st with
    | .Break _ => true
    | _ => false
  | .frz _, _ => false
noncomputable def matchSs (N : NT) (ns : List Str) (sc : Sc) : Ss → List Stmt → Bool
  | .nil, [] => true
  | .cons (.frz _) l, sts => matchSs N ns sc l sts
  | .cons s l, st :: sts => matchS N ns sc s st && matchSs N ns sc l sts
  | _, _ => false
end

/-! what the checker's yes says of a statement -/
section
variable {N : NT} {ns : List Str} {sc : Sc} {P : Stmt → Prop} {st : Stmt}
@[elab_as_elim] theorem ms_asg {m : Md} {t : Tg} {e : E} (h : matchS N ns sc (.asg m t e) st = true) (k : ∀ tg value pos, matchT ns (isLC sc) t tg = true → matchE N ns sc e value = true → tgOk t tg value = true → P (.Assign [tg] value pos)) : P st := by
  cases st with
  | Assign ts value pos => match ts with
    | [tg] => exact andB h fun h c => andB h fun a b => k tg value pos a b c
    | [] => exact noB h
    | _ :: _ :: _ => exact noB h
  | _ => exact noB h
@[elab_as_elim] theorem ms_asg2 {x y : Nat} {e : E} (h : matchS N ns sc (.asg2 x y e) st = true) (k : ∀ t₁ t₂ value pos, matchT ns (isLC sc) (.v x) t₁ = true → matchT ns (isLC sc) (.v y) t₂ = true → matchE N ns sc e value = true → P (.Assign [t₁, t₂] value pos)) : P st := by
  cases st with
  | Assign ts value pos => match ts with
    | [t₁, t₂] => exact andB h fun h c => andB h fun a b => k t₁ t₂ value pos a b c
    | [] => exact noB h
    | [_] => exact noB h
    | _ :: _ :: _ :: _ => exact noB h
  | _ => exact noB h
@[elab_as_elim] theorem ms_asg3 {x y z : Nat} {e : E} (h : matchS N ns sc (.asg3 x y z e) st = true)
    (k : ∀ t₁ t₂ t₃ value pos, matchT ns (isLC sc) (.v x) t₁ = true → matchT ns (isLC sc) (.v y) t₂ = true → matchT ns (isLC sc) (.v z) t₃ = true → matchE N ns sc e value = true → P (.Assign [t₁, t₂, t₃] value pos)) : P st := by
  cases st with
  | Assign ts value pos => match ts with
    | [t₁, t₂, t₃] => exact andB h fun h d => andB h fun h c => andB h fun a b => k t₁ t₂ t₃ value pos a b c d
    | [] => exact noB h
    | [_] => exact noB h
    | [_, _] => exact noB h
    | _ :: _ :: _ :: _ :: _ => exact noB h
  | _ => exact noB h
@[elab_as_elim] theorem ms_aug {x : Nat} {o : Op} {e : E} (h : matchS N ns sc (.aug x o e) st = true) (k : ∀ n p value pos, ns[x]? = some n → isV sc n = true → isAS o = true → matchE N ns sc e value = true → P (.AugAssign (.Name n p) (opOf o) value pos)) : P st := by
  cases st with
  | AugAssign tg p value pos => cases tg with
    | Name n q =>
      refine andB h fun h e5 => andB h fun h e4 => andB h fun h e3 => andB h fun e1 e2 => ?_
      have e : opOf o = p := eqB e3
      subst e
      exact k n q value pos (eqB e1) e2 e4 e5
    | _ => exact noB h
  | _ => exact noB h
@[elab_as_elim] theorem ms_setI {m : Md} {x : Nat} {i e : E} (h : matchS N ns sc (.setI m x i e) st = true) (k : ∀ n p j tpos value pos, ns[x]? = some n → isV sc n = true → matchE N ns sc i j = true → matchE N ns sc e value = true → P (.Assign [.Subscript (.Name n p) j tpos] value pos)) : P st := by
  cases st with
  | Assign ts value pos => match ts with
    | [tg] => cases tg with
      | Subscript v j tpos => cases v with
        | Name n p => exact andB h fun h d => andB h fun h c => andB h fun a b => k n p j tpos value pos (eqB a) b c d
        | _ => exact noB h
      | _ => exact noB h
    | [] => exact noB h
    | tg :: _ :: _ => cases tg with
      | Subscript v j tpos => cases v <;> exact noB h
      | _ => exact noB h
  | _ => exact noB h
@[elab_as_elim] theorem ms_augI {x : Nat} {i e : E} {o : Op} (h : matchS N ns sc (.augI x i o e) st = true)
    (k : ∀ n p j tpos value pos, ns[x]? = some n → isV sc n = true → isAS o = true → noSlice j = true → matchE N ns sc i j = true → matchE N ns sc e value = true → P (.AugAssign (.Subscript (.Name n p) j tpos) (opOf o) value pos)) : P st := by
  cases st with
  | AugAssign tg q value pos => cases tg with
    | Subscript v j tpos => cases v with
      | Name n p =>
        refine andB h fun h e7 => andB h fun h e6 => andB h fun h e5 => andB h fun h e4 => andB h fun h e3 => andB h fun e1 e2 => ?_
        have e : opOf o = q := eqB e3
        subst e
        exact k n p j tpos value pos (eqB e1) e2 e4 e5 e6 e7
      | _ => exact noB h
    | _ => exact noB h
  | _ => exact noB h
theorem isMeth_at {m : Str} {x : Nat} {c : Expr} {args : List Expr} (h : isMeth m x ns c = some args) :
    ∃ n p ap pos, c = .Call (.Attribute (.Name n p) m ap) args [] pos ∧ ns[x]? = some n ∧ (n == ("__debug__" : Str)) = false ∧ ap.endLine = pos.line ∧ args.length < 29 := by
  cases c with
  | Call fn args' kw pos => cases fn with
    | Attribute v a ap => cases v with
      | Name n p => cases kw with
        | cons _ _ => exact noS h
        | nil =>
          have h' : (if a == m && ns[x]? == some n && (n == ("__debug__" : Str)) == false && ap.endLine == pos.line && decide (args'.length < 29) then some args' else none) = some args := h
          by_cases q : (a == m && ns[x]? == some n && (n == ("__debug__" : Str)) == false && ap.endLine == pos.line && decide (args'.length < 29)) = true
          · rw [if_pos q] at h'
            have e := Option.some.inj h'
            subst e
            refine andB q fun q q5 => andB q fun q q4 => andB q fun q q3 => andB q fun q1 q2 => ?_
            have e : a = m := eqB q1
            subst e
            exact ⟨n, p, ap, pos, rfl, eqB q2, eqB q3, eqB q4, of_decide_eq_true q5⟩
          · rw [if_neg q] at h'; exact noS h'
      | _ => exact noS h
    | _ => exact noS h
  | _ => exact noS h
/-- a method of an own list, called -/
noncomputable def OwnCall (ns : List Str) (x : Nat) (m : Str) (args : List Expr) (c : Expr) : Prop := ∃ n p ap pos, c = .Call (.Attribute (.Name n p) m ap) args [] pos ∧ ns[x]? = some n ∧ (n == ("__debug__" : Str)) = false ∧ ap.endLine = pos.line ∧ args.length < 29
theorem one_arg {o : Option (List Expr)} {f : Expr → Bool} {G : Prop} (h : (match o with | some [a] => f a | _ => false) = true) (k : ∀ a, o = some [a] → f a = true → G) : G := by
  match o, h with
  | some [a], h => exact k a rfl h
  | some [], h => exact noB h
  | some (_ :: _ :: _), h => exact noB h
  | none, h => exact noB h
theorem no_arg {o : Option (List Expr)} {G : Prop} (h : (match o with | some [] => true | _ => false) = true) (k : o = some [] → G) : G := by
  match o, h with
  | some [], h => exact k rfl
  | some (_ :: _), h => exact noB h
  | none, h => exact noB h
@[elab_as_elim] theorem ms_app {m : Md} {x : Nat} {e : E} (h : matchS N ns sc (.app m x e) st = true) (k : ∀ c q a, OwnCall ns x (Str.ofString "append") [a] c → matchE N ns sc e a = true → P (.Expr c q)) : P st := by
  cases st with
  | Expr c q => exact one_arg (f := matchE N ns sc e) h fun a e h => k c q a (isMeth_at e) h
  | _ => exact noB h
@[elab_as_elim] theorem ms_ext {x : Nat} {e : E} (h : matchS N ns sc (.ext x e) st = true) (k : ∀ c q a, OwnCall ns x (Str.ofString "extend") [a] c → matchE N ns sc e a = true → P (.Expr c q)) : P st := by
  cases st with
  | Expr c q => exact one_arg (f := matchE N ns sc e) h fun a e h => k c q a (isMeth_at e) h
  | _ => exact noB h
@[elab_as_elim] theorem ms_pop {x : Nat} (h : matchS N ns sc (.pop x) st = true) (k : ∀ c q, OwnCall ns x (Str.ofString "pop") [] c → P (.Expr c q)) : P st := by
  cases st with
  | Expr c q => exact no_arg h fun e => k c q (isMeth_at e)
  | _ => exact noB h
@[elab_as_elim] theorem ms_popTo {y x : Nat} (h : matchS N ns sc (.popTo y x) st = true) (k : ∀ n p c q, ns[y]? = some n → isLC sc n = true → OwnCall ns x (Str.ofString "pop") [] c → P (.Assign [.Name n p] c q)) : P st := by
  cases st with
  | Assign ts c q => match ts with
    | [tg] => cases tg with
      | Name n p => exact andB h fun h c3 => andB h fun a b => no_arg c3 fun e => k n p c q (eqB a) b (isMeth_at e)
      | _ => exact noB h
    | [] => exact noB h
    | tg :: _ :: _ => cases tg <;> exact noB h
  | _ => exact noB h
@[elab_as_elim] theorem ms_setA {x a : Nat} {e : E} (h : matchS N ns sc (.setA x a e) st = true) (k : ∀ n p an tpos value pos, ns[x]? = some n → isV sc n = true → fieldNames[a]? = some an → matchE N ns sc e value = true → P (.Assign [.Attribute (.Name n p) an tpos] value pos)) : P st := by
  cases st with
  | Assign ts value pos => match ts with
    | [tg] => cases tg with
      | Attribute v an tpos => cases v with
        | Name n p => exact andB h fun h d => andB h fun h c => andB h fun a b => k n p an tpos value pos (eqB a) b (eqB c) d
        | _ => exact noB h
      | _ => exact noB h
    | [] => exact noB h
    | tg :: _ :: _ => cases tg with
      | Attribute v an tpos => cases v <;> exact noB h
      | _ => exact noB h
  | _ => exact noB h
@[elab_as_elim] theorem ms_ite {t : E} {a b : Ss} (h : matchS N ns sc (.ite t a b) st = true) (k : ∀ test body orelse q, matchE N ns sc t test = true → matchSs N ns sc a body = true → matchSs N ns sc b orelse = true → P (.If test body orelse q)) : P st := by
  cases st with
  | If test body orelse q => exact andB h fun h d => andB h fun h c => k test body orelse q h c d
  | _ => exact noB h
@[elab_as_elim] theorem ms_whl {t : E} {b : Ss} (h : matchS N ns sc (.whl t b) st = true) (k : ∀ test body q, matchE N ns sc t test = true → matchSs N ns sc b body = true → P (.While test body [] q)) : P st := by
  cases st with
  | While test body orelse q => cases orelse with
    | nil => exact andB h fun h c => k test body q h c
    | cons _ _ => exact noB h
  | _ => exact noB h
@[elab_as_elim] theorem ms_for {t : Tg} {it : It} {b : Ss} (h : matchS N ns sc (.for t it b) st = true) (k : ∀ tg iter body q, matchT ns (isLC sc) t tg = true → noSet iter = true → matchIt N ns sc it tg iter = true → matchSs N ns sc b body = true → P (.For tg iter body [] q)) : P st := by
  cases st with
  | For tg iter body orelse q => cases orelse with
    | nil => exact andB h fun h d => andB h fun h c => andB h fun a b => k tg iter body q a b c d
    | cons _ _ => exact noB h
  | _ => exact noB h
@[elab_as_elim] theorem ms_ret {e : E} (h : matchS N ns sc (.ret e) st = true) (k : ∀ x q, matchE N ns sc e x = true → P (.Return (some x) q)) : P st := by
  cases st with
  | Return x q => cases x with
    | some x => exact k x q h
    | none => exact noB h
  | _ => exact noB h
@[elab_as_elim] theorem ms_brk (h : matchS N ns sc .brk st = true) (k : ∀ q, P (.Break q)) : P st := by
  cases st with
  | Break q => exact k q
  | _ => exact noB h
theorem mss_cons {b : S} {l : Ss} {st : Stmt} {sts : List Stmt} (hb : ∀ x, b ≠ .frz x) (h : matchSs N ns sc (.cons b l) (st :: sts) = true) : matchS N ns sc b st = true ∧ matchSs N ns sc l sts = true := by
  cases b with
  | frz x => exact absurd rfl (hb x)
  | _ => exact Bool.and_eq_true_iff.mp h
theorem mss_nil {b : S} {l : Ss} {G : Prop} (hb : ∀ x, b ≠ .frz x) (h : matchSs N ns sc (.cons b l) [] = true) : G := by
  cases b with
  | frz x => exact absurd rfl (hb x)
  | _ => exact noB h
end

section
variable (W : Wd) (ns : List Str) (env : Env) (s₀ : Shared) (g₀ F K : View)
noncomputable def Out (r : Sig × Fl) (f : Flow) (s' : Shared) : Prop := match r.2, f with
  | .next, .next => ∃ F' ow', Inv W ns env s₀ g₀ F' K r.1 ow' s' ∧ Ext F F' K
  | .brk, .brk => ∃ F' ow', Inv W ns env s₀ g₀ F' K r.1 ow' s' ∧ Ext F F' K
  | .ret x, .ret v => Keeps s₀ s' ∧ Rep W.C (allV env s₀.heap g₀ s'.heap) x v
  | _, _ => False
end

noncomputable def PS (W : Wd) (N : NT) (T : Tabs) (A : Around) (ns : List Str) (fuel : Nat) (b : S) : Prop :=
  ∀ st sc, matchS N ns sc b st = true → ∀ env s₀ g₀ F K σ ow s r, env.scope.names = sc → Inv W ns env s₀ g₀ F K σ ow s → execS T fuel σ b = some r →
    ∀ Ex, wpAny (model W.prog W.w) A (exec st env) (fun f s' => Out W ns env s₀ g₀ F K r f s') Ex s
noncomputable def PSs (W : Wd) (N : NT) (T : Tabs) (A : Around) (ns : List Str) (fuel : Nat) (b : Ss) : Prop :=
  ∀ sts sc, matchSs N ns sc b sts = true → ∀ env s₀ g₀ F K σ ow s r, env.scope.names = sc → Inv W ns env s₀ g₀ F K σ ow s → execSs T fuel σ b = some r →
    ∀ Ex, wpAny (model W.prog W.w) A (execs sts env) (fun f s' => Out W ns env s₀ g₀ F K r f s') Ex s

section
variable {W : Wd} {N : NT} {T : Tabs} {A : Around} {ns : List Str} {env : Env} {s₀ s s' : Shared} {g₀ F F' K : View} {σ : Sig} {ow : Nat → Addr × Addr} {Ex : Value → Shared → Prop}

theorem Out.mono {F' : View} {r : Sig × Fl} {f : Flow} (e : Ext F F' K) (h : Out W ns env s₀ g₀ F' K r f s') : Out W ns env s₀ g₀ F K r f s' := by
  obtain ⟨σ', fl⟩ := r
  cases fl <;> cases f <;> first
    | exact h
    | (obtain ⟨G, o, i, x⟩ := h; exact ⟨G, o, i, e.trans x⟩)

/-- the name of an owned list, looked up -/
theorem own_name (I : Inv W ns env s₀ g₀ F K σ ow s) {x : Nat} {l : List PV} (h : σ[x]? = some (some (.own l))) {n : Str} (hn : ns[x]? = some n) (hd : (n == ("__debug__" : Str)) = false) {p : Pos} {Q : Value → Shared → Prop}
    (hQ : Q (.ref (ow x).1) s) : wpAny (model W.prog W.w) A (eval (.Name n p) env) Q Ex s := by
  obtain ⟨v, b, hh⟩ := I.slot x n _ hn h
  obtain ⟨rfl, uu⟩ := hh
  rcases b.kind with e | e
  · obtain ⟨m, q1, q2⟩ := b.1 e
    exact wpAny_Name (wpAny_loadName_local I.G.fn e q1 q2 hQ) hd
  · obtain ⟨c, q1, q2⟩ := b.2 e
    exact wpAny_Name (wpAny_loadName_cell I.G.fn e q1 q2 hQ) hd
theorem own_load (I : Inv W ns env s₀ g₀ F K σ ow s) {x : Nat} {sl : Sl} {z : PV} (h : σ[x]? = some (some sl)) (ha : Sl.all (some sl) = some z) {n : Str} (hn : ns[x]? = some n) {Q : Value → Shared → Prop}
    (hQ : ∀ v, Rep W.C (allV env s₀.heap g₀ s.heap) z v → Q v s) : wpAny (model W.prog W.w) A (loadName env n) Q Ex s := by
  obtain ⟨v, b, hh⟩ := I.slot x n _ hn h
  rcases b.kind with e | e
  · obtain ⟨m, q1, q2⟩ := b.1 e
    exact wpAny_loadName_local I.G.fn e q1 q2 (hQ _ (I.holdAll h ha hh))
  · obtain ⟨c, q1, q2⟩ := b.2 e
    exact wpAny_loadName_cell I.G.fn e q1 q2 (hQ _ (I.holdAll h ha hh))
theorem getOwn_at {x : Nat} {l : List PV} (h : getOwn σ x = some l) : σ[x]? = some (some (.own l)) := by
  unfold getOwn at h
  generalize σ[x]? = y at h ⊢
  cases y with
  | none => exact noS h
  | some y => cases y with
    | none => exact noS h
    | some sl => cases sl with
      | own l' => (first | exact noS h | exact noB h | cases h); rfl
      | _ => exact noS h

/-- any expression over all that is held -/
theorem all_ok (H : Good W N T A) (nd : ns.Nodup) (I : Inv W ns env s₀ g₀ F K σ ow s) {e : E} {ex : Expr} {x : PV} (hm : matchE N ns env.scope.names e ex = true) (hx : evalE T (allEnv σ) e = some x) :
    EOk W A e ex env s (allV env s₀.heap g₀ s.heap) x := okE H nd e ex _ hm env _ s _ x rfl I.G I.allSub I.envA hx
theorem frz_ok (H : Good W N T A) (nd : ns.Nodup) (I : Inv W ns env s₀ g₀ F K σ ow s) {e : E} {ex : Expr} {x : PV} (hm : matchE N ns env.scope.names e ex = true) (hx : evalE T (frzEnv σ) e = some x) :
    EOk W A e ex env s F x := okE H nd e ex _ hm env _ s _ x rfl I.G I.hF I.envF hx

/-- the right side of a store -/
theorem evalM_ok (H : Good W N T A) (nd : ns.Nodup) (I : Inv W ns env s₀ g₀ F K σ ow s) {m : Md} {e : E} {ex : Expr} {x : PV} (hm : matchE N ns env.scope.names e ex = true) (hx : evalM T σ m e = some x) :
    wpAny (model W.prog W.w) A (eval ex env) (fun v s' => Keeps s s' ∧ ∃ F', Inv W ns env s₀ g₀ F' K σ ow s' ∧ Ext F F' K ∧ Rep W.C F' x v) Ex s := by
  cases m with
  | frz =>
    exact wpAny_mono ((frz_ok H nd I hm hx).val Ex) (fun v s' p => ⟨p.1.keeps, _, I.step p.1.keeps, I.extStep s', p.1.rep⟩) fun uu uu y => y
  | sc =>
    refine bindK hx fun y h1 h2 => ?_
    split at h2
    · cases h2
      exact wpAny_mono ((all_ok H nd I hm h1).val Ex) (fun v s' p => ⟨p.1.keeps, F, I.stay p.1.keeps, Ext.refl _ _, Rep.scalar p.1.rep (by assumption)⟩) fun uu uu y => y
    · cases h2
  | new => cases e <;> cases hx
  | itm =>
    cases e <;> try (cases hx; done)
    rename_i o i
    cases o <;> try (cases hx; done)
    rename_i xi
    refine bindK hx fun l h0 hx => bindK hx fun j h1 h2 => ?_
    have hl := getOwn_at h0
    refine m_sub hm fun v' s' q' m1 m2 m3 => m_var m2 fun n p m4 m5 => ?_
    refine Subscript_ (own_name I hl m4 (isV_cases m5).2.1 ?_)
    refine wpAny_mono ((all_ok H nd I m3 h1).val Ex) (fun u s₁ p => ?_) fun uu uu y => y
    obtain ⟨k, rfl⟩ := subscr_int h2
    obtain ⟨t, rfl⟩ := p.1.rep
    have I₁ := I.stay p.1.keeps
    obtain ⟨v, b, e0, vs, n', ho, r⟩ := I₁.slot _ _ _ m4 hl
    have h2' : (if inIdx k l.length then l[pidx k l.length]? else none) = some x := h2
    by_cases q : inIdx k l.length = true
    · rw [if_pos q] at h2'
      obtain ⟨z, hz, rz⟩ := r.get h2'
      have q' : inIdx k vs.length = true := by rw [r.length]; exact q
      have hli : s₁.heap.IsList (ow xi).1 vs.toArray := ⟨_, ho, rfl, n', rfl⟩
      exact tail_any hli.typeIs slot_list_getitem.lookup (getItem_at ho q' (by rw [r.length]; exact hz) ⟨p.1.keeps, F, I₁, Ext.refl _ _, rz⟩) (subscripted_plain m1 _ _)
    · rw [if_neg q] at h2'; exact noS h2'
end
end Mp
end

section
set_option maxRecDepth 20000
/-! MiniPy: stores of a name, also when a comprehension stores its own list. -/
namespace Mp
open PySem PySem.Calls PyProof.Rows PySem.W

noncomputable def widenV (K : View) (h : Heap) (P : List Addr) : View := fun a => if a ∈ P then h.get? a else K a
theorem widenV_in {K : View} {h : Heap} {P : List Addr} {a : Addr} (q : a ∈ P) : widenV K h P a = h.get? a := if_pos q
theorem widenV_out {K : View} {h : Heap} {P : List Addr} {a : Addr} (q : a ∉ P) : widenV K h P a = K a := if_neg q
noncomputable def offV (L : Option Addr) (V : View) : View := match L with
  | none => V
  | some L => fun a => if a = L then none else V a
noncomputable def Dropped (L : Option Addr) (Q : Shared → Prop) (s : Shared) : Prop := match L with
  | none => Q s
  | some L => ∃ m, s.heap.Ns L m ∧ ∀ h', Heap.SameBut L s.heap h' → Q { s with heap := h' }

section
variable {W : Wd} {N : NT} {T : Tabs} {A : Around} {ns : List Str} {env : Env} {s₀ s s' : Shared} {g₀ F F' K : View} {σ : Sig} {ow : Nat → Addr × Addr} {Ex : Value → Shared → Prop}

namespace Inv
theorem widen (I : Inv W ns env s₀ g₀ F K σ ow s) {P : List Addr} (hP : ∀ a ∈ P, ¬ Hot env a ∧ ∀ i : Nat, a ∉ ads (σ[i]?.join) (ow i)) : Inv W ns env s₀ g₀ F (widenV K s.heap P) σ ow s where
  base := I.base
  sub₀ := I.sub₀
  G := I.G
  kinds := I.kinds
  hF := I.hF
  hK a o e := by
    by_cases q : a ∈ P
    · rw [widenV_in q] at e; exact e
    · rw [widenV_out q] at e; exact I.hK a o e
  low := I.low
  up := I.up
  keeps := I.keeps
  hot a x := by
    obtain ⟨q1, q2, q3⟩ := I.hot a x
    exact ⟨q1, q2, by rw [widenV_out fun q => (hP a q).1 x]; exact q3⟩
  cells := I.cells
  cinj := I.cinj
  slot := I.slot
  own i a x := by
    obtain ⟨q0, q1, q2, q3⟩ := I.own i a x
    exact ⟨q0, q1, q2, by rw [widenV_out fun q => (hP a q).2 i x]; exact q3⟩
  dis := I.dis
  len := I.len
  self := I.self
theorem widen_le (I : Inv W ns env s₀ g₀ F K σ ow s) {P : List Addr} : ∀ a o, K a = some o → widenV K s.heap P a = some o := fun a o e => by
  by_cases q : a ∈ P
  · rw [widenV_in q]; exact I.hK a o e
  · rw [widenV_out q]; exact e

theorem drop {K₁ : View} {L : Addr} {o : Obj} {h' : Heap} (I : Inv W ns env s₀ g₀ F K₁ σ ow s) (hk : K₁ L = some o) (hF : F L = none) (h0 : s₀.heap.get? L = none) (hK : K L = none) (le : ∀ a o, K a = some o → K₁ a = some o)
    (b : Heap.SameBut L s.heap h') : Inv W ns env s₀ g₀ F K σ ow { s with heap := h' } := by
  have nh : ∀ a, Hot env a → a ≠ L := fun a x q => by have := (I.hot a x).2.2; rw [q, hk] at this; (first | exact noS this | exact noB this | cases this)
  have no : ∀ (i : Nat) a, a ∈ ads (σ[i]?.join) (ow i) → a ≠ L := fun i a x q => by have := (I.own i a x).2.2.2; rw [q, hk] at this; (first | exact noS this | exact noB this | cases this)
  have I' := I.narrow le
  have kk : ∀ b o, ¬ (b = L) → s.heap.get? b = some o → h'.get? b = some o := fun a o e q => b.extBut a o e q
  refine I'.change (D := fun a => a = L) (fun a e => by subst e; exact ⟨h0, hF, hK⟩) kk ?_ (fun n c e => ?_) (fun i n sl hn hs => ?_) I'.own I'.dis I'.len I'.self
  · obtain ⟨m, f⟩ := I.G.fr
    exact ⟨m, f.ns.at fun o => kk _ o (nh _ (.inl rfl))⟩
  · obtain ⟨uu, v, o, ho, hv⟩ := I.cells n c e
    exact ⟨v, o, kk _ o (nh _ (.inr ⟨n, e⟩)) ho, hv⟩
  · obtain ⟨v, bd, hh⟩ := I.slot i n sl hn hs
    exact ⟨v, bd.mono fun a ha o e => kk a o (nh a ha) e, hh.mono (fun uu uu e => e) fun a ha o e => kk a o (no i a (by rw [hs]; exact ha)) e⟩

theorem storeDrop {L : Option Addr} (I : Inv W ns env s₀ g₀ F K σ ow s) (nd : ns.Nodup)
    (hL : ∀ a, L = some a → F a = none ∧ K a = none ∧ s₀.heap.get? a = none ∧ ¬ Hot env a ∧ (∀ i : Nat, a ∉ ads (σ[i]?.join) (ow i)) ∧ ∃ m, s.heap.Ns a m)
    {i : Nat} {n : Str} (hn : ns[i]? = some n) {sl : Sl} {p : Addr × Addr} {v : Value} (hh : Hold W.C F s.heap sl p v)
    (hp : ∀ a ∈ ads (some sl) p, ¬ Hot env a ∧ s₀.heap.get? a = none ∧ F a = none ∧ K a = none ∧ (∀ j, j ≠ i → a ∉ ads (σ[j]?.join) (ow j)) ∧ L ≠ some a) (hself : ∀ l, sl = .self l → p = W.S) (hlc : LC env n) {prog : Program} {w : World} :
    wpAny (model prog w) A (storeName env n v) (fun uu s' => Dropped L (fun s' => ∃ ow, Inv W ns env s₀ g₀ F K (σ.set i (some sl)) ow s') s') Ex s := by
  cases L with
  | none => exact wpAny_mono (I.store nd hn hh (fun a ha => let ⟨a1, a2, a3, a4, a5, _⟩ := hp a ha; ⟨a1, a2, a3, a4, a5⟩) hself hlc) (fun uu uu q => ⟨_, q⟩) fun uu uu y => y
  | some c =>
    obtain ⟨q1, q2, q3, q4, q5, m, q6⟩ := hL c rfl
    have I₁ := I.widen (P := [c]) fun a ha => by rw [List.mem_singleton.mp ha]; exact ⟨q4, q5⟩
    obtain ⟨o, es, ep, ho, rest⟩ := q6
    have hk : widenV K s.heap [c] c = some o := by rw [widenV_in (by simp)]; exact ho
    refine wpAny_mono (I₁.store nd hn hh (fun a ha => ?_) hself hlc) (fun uu s' q => ?_) fun uu uu y => y
    · obtain ⟨a1, a2, a3, a4, a5, a6⟩ := hp a ha
      exact ⟨a1, a2, a3, by rw [widenV_out fun z => a6 (by rw [List.mem_singleton.mp z])]; exact a4, a5⟩
    · exact ⟨m, ⟨o, es, ep, q.hK _ _ hk, rest⟩, fun h' b => ⟨_, q.drop hk q1 q3 q2 I.widen_le b⟩⟩
end Inv

theorem swaps_name {sc : Sc} {e : E} {value : Expr} (hm : matchE N ns sc e value = true) (n : Str) (p : Pos) (line : Nat) :
    swapsWith value (some (.Name n p)) line env = pure false ∨ (swapsWith value (some (.Name n p)) line env = pure true ∧ ∃ el t it c, e = .comp el t it c) := by
  cases value with
  | ListComp elt gens scope pos =>
    have he : ∃ el t it c, e = .comp el t it c := by
      cases e with
      | comp el t it c => exact ⟨_, _, _, _, rfl⟩
      | cst c => cases c <;> exact noB hm
      | _ => exact noB hm
    match gens, hm with
    | [⟨tg, iter, ifs, asy⟩], _ =>
      have : swapsWith (.ListComp elt [⟨tg, iter, ifs, asy⟩] scope pos) (some (.Name n p)) line env = pure (env.blockKind == .function && env.kindOf n == some .local && p.line == pos.line && !(scope.names.any fun (m, k) => m == n && (k == .local || k == .cell))) := rfl
      rw [this]
      cases (env.blockKind == .function && env.kindOf n == some .local && p.line == pos.line && !(scope.names.any fun (m, k) => m == n && (k == .local || k == .cell)))
      · exact .inl rfl
      · exact .inr ⟨rfl, he⟩
    | [], hm => obtain ⟨el, t, it, c, rfl⟩ := he; exact noB hm
    | ⟨_, _, _, _⟩ :: _ :: _, hm => obtain ⟨el, t, it, c, rfl⟩ := he; exact noB hm
  | SetComp _ _ _ _ => exact noSC hm
  | DictComp _ _ _ _ _ => exact noDC hm
  | _ => exact .inl rfl

theorem nameAsg (H : Good W N T A) (nd : ns.Nodup) {e : E} {value : Expr} {n : Str} {p pos : Pos} {ρ : Rho} {g : View} {x : PV} {Q : Shared → Prop} (hm : matchE N ns env.scope.names e value = true)
    (G : EnvG W env s.heap) (hs : Sub g s.heap) (R : EnvRep ns env s.heap W.C g ρ) (hx : evalE T ρ e = some x)
    (hst : ∀ (v : Value) (s' : Shared) (L : Option Addr), Keeps s s' → (∀ a, L = some a → s.heap.get? a = none ∧ ∃ m, s'.heap.Ns a m) → Rep W.C (offV L (gext g s.heap s'.heap)) x v →
      (fresh e = true → ∀ l, x = .list l → NewList s.heap s'.heap v) → wpAny (model W.prog W.w) A (storeName env n v) (fun uu s'' => Dropped L Q s'') Ex s') :
    wpAny (model W.prog W.w) A (exec (.Assign [.Name n p] value pos) env) (fun f s' => f = .next ∧ Q s') Ex s := by
  rcases swaps_name (env := env) hm n p pos.line with hw | ⟨hw, el, t, it, c, rfl⟩
  · refine wpAny_Assign_Name (wpAny_mono ((okE H nd e value _ hm env ρ s g x rfl G hs R hx).val Ex) (fun v s' q => ?_) fun uu uu y => y) hw
    exact wpAny_mono (hst v s' none q.1.keeps (fun uu e => nomatch e) q.1.rep q.2) (fun uu s'' z => ⟨rfl, z⟩) fun uu uu y => y
  · revert hw
    refine m_comp hm fun elt tg iter ifs scope cpos m1 m2 m4 m5 m6 => ?_
    revert hst
    refine bindK hx fun xs h₁ hx => mapK hx fun zs h₂ => fun hst hw => ?_
    · rw [exec_Assign_Name_used _ _ _ _ hw]
      refine wpAny_bind (wpAny_standAt (wpAny_bind ?_))
      show wpAny _ A (do let _ ← comprehension (.ListComp elt [⟨tg, iter, ifs, 0⟩] scope cpos) scope env (firstIterPos [⟨tg, iter, ifs, 0⟩] cpos) (newList []) false (eval iter env) (some (assign (.Name n p) env))) _ Ex s
      refine wpAny_bind ?_
      have hcn : ∀ L cl, (compEnvC scope cl L env).scope.names = relab scope.names env.scope.names := fun L cl => relab_eq G.fn
      refine comp_any (use := some (assign (.Name n p) env)) (fc := fun ρ' => (evalE T ρ' c).bind truthy) (fe := fun ρ' => evalE T ρ' el) (t := t) (items := xs) (zs := zs) (ρ := ρ) H.hh nd G hs R m2 (fold_eq m1)
        (fun E => okIt H nd it tg iter _ m4 env ρ s g xs rfl G hs R h₁ E) ⟨fun L cl ρ' s' g' b E G' hs' R' hb => ?_, fun L cl ρ' s' g' y E G' hs' R' hb => ?_⟩ ?_ fun v L s' h => ?_
      · simp only [Option.bind_eq_some_iff] at hb
        obtain ⟨y, hy, hb⟩ := hb
        cases ifs with
        | nil =>
          simp only at m6
          have : y = .bool true := by
            rw [top_is m6] at hy
            exact (Option.some.inj hy).symm
          subst this
          (first | exact noS hb | exact noB hb | cases hb)
          exact wpAny_pure ⟨rfl, keeps_refl _⟩
        | cons i is =>
          cases is with
          | nil =>
            simp only at m6
            exact wpAny_tests_one ((okE H nd c i _ m6 _ ρ' s' g' y (hcn L cl) G' hs' R' hy).tst b E hb)
          | cons _ _ => simp at m6
      · exact wpAny_mono ((okE H nd el elt _ m5 _ ρ' s' g' y (hcn L cl) G' hs' R' hb).val E) (fun uu uu p => p.1) fun uu uu y => y
      · rw [← h₂]; congr 1; funext x; simp [compF, Option.bind_assoc]
      · refine wpAny_assign_Name (wpAny_mono (hst v s' (some L) h.keeps (fun a e => by (first | exact noS e | exact noB e | cases e); exact ⟨h.off, h.ns⟩) h.rep fun uu l e => h.new) (fun uu s'' z => ?_) fun uu uu y => y)
        obtain ⟨m, hm, z⟩ := z
        exact ⟨m, hm, fun h' b => wpAny_pure (wpAny_pure ⟨rfl, z h' b⟩)⟩
end
end Mp
end

section
set_option maxRecDepth 20000
/-! MiniPy: the plain statements. -/
namespace Mp
open PySem PySem.Calls PyProof.Rows PySem.W

section
variable {W : Wd} {N : NT} {T : Tabs} {A : Around} {ns : List Str} {env : Env} {s₀ s s' : Shared} {g₀ F F' K : View} {σ : Sig} {ow : Nat → Addr × Addr} {Ex : Value → Shared → Prop} {fuel : Nat}

theorem out_next {σ' : Sig} {f : Flow} (hf : f = .next) {F' : View} {ow' : Nat → Addr × Addr} (I : Inv W ns env s₀ g₀ F' K σ' ow' s') (e : Ext F F' K) : Out W ns env s₀ g₀ F K (σ', .next) f s' := by
  subst hf; exact ⟨F', ow', I, e⟩

theorem offV_le {L : Option Addr} {V : View} : ∀ a o, offV L V a = some o → V a = some o := fun a o e => by
  cases L with
  | none => exact e
  | some c =>
    change (if a = c then none else V a) = _ at e
    split at e
    · (first | exact noS e | exact noB e | cases e)
    · exact e
theorem le_offV {L : Option Addr} {V V' : View} (h : ∀ a o, V a = some o → V' a = some o) (hL : ∀ a, L = some a → V a = none) : ∀ a o, V a = some o → offV L V' a = some o := fun a o e => by
  cases L with
  | none => exact h a o e
  | some c =>
    show (if a = c then none else V' a) = _
    rw [if_neg fun q => by rw [q, hL c rfl] at e; cases e]
    exact h a o e

/-- what is asked of a comprehension's frame at a store -/
theorem dropOk (I : Inv W ns env s₀ g₀ F K σ ow s) {L : Option Addr} (hL : ∀ a, L = some a → s.heap.get? a = none ∧ ∃ m, s'.heap.Ns a m) (F' : View) (hF : ∀ a, L = some a → F' a = none) :
    ∀ a, L = some a → F' a = none ∧ K a = none ∧ s₀.heap.get? a = none ∧ ¬ Hot env a ∧ (∀ i : Nat, a ∉ ads (σ[i]?.join) (ow i)) ∧ ∃ m, s'.heap.Ns a m := fun a e => by
  obtain ⟨q, m⟩ := hL a e
  refine ⟨hF a e, ?_, kept_none I.keep q, fun h => ?_, fun i h => ?_, m⟩
  · cases w : K a with
    | none => rfl
    | some o => rw [I.hK a o w] at q; (first | exact noS q | exact noB q | cases q)
  · obtain ⟨o, w⟩ := I.thereHot h; rw [w] at q; (first | exact noS q | exact noB q | cases q)
  · obtain ⟨o, w⟩ := I.thereOwn h; rw [w] at q; (first | exact noS q | exact noB q | cases q)

theorem matchT_v {ok : Str → Bool} {i : Nat} {tg : Expr} (h : matchT ns ok (.v i) tg = true) : ∃ n p, tg = .Name n p ∧ ns[i]? = some n ∧ ok n = true := by
  cases tg with
  | Name n p =>
    exact andB h fun a b => ⟨n, p, rfl, eqB a, b⟩
  | _ => exact noB h
theorem matchT_t {ok : Str → Bool} {l : Tgs} {tg : Expr} (h : matchT ns ok (.t l) tg = true) : ∃ es k p, tg = .Tuple es k p ∧ matchTs ns ok l es = true := by
  cases tg with
  | Tuple es k p => exact ⟨es, k, p, rfl, h⟩
  | _ => exact noB h

/-- a name stored: frozen data -/
theorem asg_name_frz (H : Good W N T A) (nd : ns.Nodup) (I : Inv W ns env s₀ g₀ F K σ ow s) {e : E} {value : Expr} {i : Nat} {n : Str} {p pos : Pos} {x : PV} (hlc : LC env n) (hn : ns[i]? = some n) (hm : matchE N ns env.scope.names e value = true)
    (hx : evalE T (frzEnv σ) e = some x) : wpAny (model W.prog W.w) A (exec (.Assign [.Name n p] value pos) env) (fun f s' => Out W ns env s₀ g₀ F K (σ.set i (some (.frz x)), .next) f s') Ex s := by
  refine wpAny_mono (nameAsg (Q := fun s' => ∃ F' ow', Inv W ns env s₀ g₀ F' K (σ.set i (some (.frz x))) ow' s' ∧ Ext F F' K) H nd hm I.G I.hF I.envF hx fun v s' L k hL r uu => ?_) (fun f s' z => ?_) fun uu uu y => y
  · have hFL : ∀ a, L = some a → F a = none := fun a e => by
      cases w : F a with
      | none => rfl
      | some o => have := I.hF a o w; rw [(hL a e).1] at this; (first | exact noS this | exact noB this | cases this)
    have le : ∀ a o, F a = some o → offV L (gext F s.heap s'.heap) a = some o := le_offV (le_gext I.hF) hFL
    have ex : Ext F (offV L (gext F s.heap s'.heap)) K := ⟨le, fun a o e => (I.extStep s').2 a o (offV_le a o e)⟩
    have I' := I.grow k le (fun a o e => gext_sub I.hF (keepsK k) a o (offV_le a o e)) (fun a o e => by
      have := offV_le a o e
      unfold gext at this
      split at this
      · exact .inl this
      · rename_i q; right; simpa using q)
    have dk := dropOk (s' := s') I hL (offV L (gext F s.heap s'.heap)) (fun a e => by subst e; exact if_pos rfl)
    refine wpAny_mono (I'.storeDrop nd dk hn (sl := .frz x) (p := (0, 0)) r (fun a ha => ads_frz ha) (fun l e => by (first | exact noS e | exact noB e | cases e)) hlc) (fun uu s'' z => ?_) fun uu uu y => y
    cases L with
    | none => obtain ⟨o, z⟩ := z; exact ⟨_, o, z, ex⟩
    | some c => obtain ⟨m, hm, z⟩ := z; exact ⟨m, hm, fun h' b => by obtain ⟨o, w⟩ := z h' b; exact ⟨_, o, w, ex⟩⟩
  · obtain ⟨hf, F', o, i, e⟩ := z; exact out_next hf i e
/-- a name stored: a plain value, over all that is held -/
theorem asg_name_sc (H : Good W N T A) (nd : ns.Nodup) (I : Inv W ns env s₀ g₀ F K σ ow s) {e : E} {value : Expr} {i : Nat} {n : Str} {p pos : Pos} {x : PV} (hlc : LC env n) (hn : ns[i]? = some n) (hm : matchE N ns env.scope.names e value = true)
    (hx : evalE T (allEnv σ) e = some x) (hsc : scalar x = true) : wpAny (model W.prog W.w) A (exec (.Assign [.Name n p] value pos) env) (fun f s' => Out W ns env s₀ g₀ F K (σ.set i (some (.frz x)), .next) f s') Ex s := by
  refine wpAny_mono (nameAsg (Q := fun s' => ∃ ow', Inv W ns env s₀ g₀ F K (σ.set i (some (.frz x))) ow' s') H nd hm I.G I.allSub I.envA hx fun v s' L k hL r uu => ?_) (fun f s' z => ?_) fun uu uu y => y
  · have hFL : ∀ a, L = some a → F a = none := fun a e => by
      cases w : F a with
      | none => rfl
      | some o => have := I.hF a o w; rw [(hL a e).1] at this; (first | exact noS this | exact noB this | cases this)
    exact (I.stay k).storeDrop nd (dropOk (s' := s') I hL F hFL) hn (sl := .frz x) (p := (0, 0)) (Rep.scalar r hsc) (fun a ha => ads_frz ha) (fun l e => by (first | exact noS e | exact noB e | cases e)) hlc
  · obtain ⟨hf, o, i⟩ := z; exact out_next hf i (Ext.refl _ _)
/-- a name stored: a new list, owned from now on -/
theorem asg_name_new (H : Good W N T A) (nd : ns.Nodup) (I : Inv W ns env s₀ g₀ F K σ ow s) {e : E} {value : Expr} {i : Nat} {n : Str} {p pos : Pos} {l : List PV} (hlc : LC env n) (hn : ns[i]? = some n) (hm : matchE N ns env.scope.names e value = true)
    (hx : evalE T (allEnv σ) e = some (.list l)) (hfr : fresh e = true) (hsc : l.all scalar = true) :
    wpAny (model W.prog W.w) A (exec (.Assign [.Name n p] value pos) env) (fun f s' => Out W ns env s₀ g₀ F K (σ.set i (some (.own l)), .next) f s') Ex s := by
  refine wpAny_mono (nameAsg (Q := fun s' => ∃ ow', Inv W ns env s₀ g₀ F K (σ.set i (some (.own l))) ow' s') H nd hm I.G I.allSub I.envA hx fun v s' L k hL r hnew => ?_) (fun f s' z => ?_) fun uu uu y => y
  · have hFL : ∀ a, L = some a → F a = none := fun a e => by
      cases w : F a with
      | none => rfl
      | some o => have := I.hF a o w; rw [(hL a e).1] at this; (first | exact noS this | exact noB this | cases this)
    obtain ⟨a, ws, m, rfl, e1, e2⟩ := hnew hfr l rfl
    obtain ⟨a', vs, m', e3, e4, r⟩ := r
    cases e3
    have e4' := gext_sub I.allSub (keepsK k) a _ (offV_le _ _ e4)
    refine (I.stay k).storeDrop nd (dropOk (s' := s') I hL F hFL) hn (sl := .own l) (p := (a, 0)) ⟨rfl, vs, m', e4', Reps.scalars r hsc⟩ (fun b hb => ?_) (fun l e => by (first | exact noS e | exact noB e | cases e)) hlc
    have hb := ads_own hb
    subst hb
    refine ⟨fun h => ?_, kept_none I.keep e1, ?_, ?_, fun j uu h => ?_, fun q => ?_⟩
    · obtain ⟨o, w⟩ := I.thereHot h; rw [w] at e1; cases e1
    · cases w : F b with
      | none => rfl
      | some o => rw [I.hF b o w] at e1; cases e1
    · cases w : K b with
      | none => rfl
      | some o => rw [I.hK b o w] at e1; cases e1
    · obtain ⟨o, w⟩ := I.thereOwn h; rw [w] at e1; cases e1
    · subst q; rw [show offV (some b) (gext _ _ _) b = none from if_pos rfl] at e4; cases e4
  · obtain ⟨hf, o, i⟩ := z; exact out_next hf i (Ext.refl _ _)

theorem bindS_v {i : Nat} {x : PV} {σ' : Sig} (h : bindS σ (.v i) x = some σ') : σ' = σ.set i (some (.frz x)) := by
  change (if i < σ.length then some (σ.set i (some (.frz x))) else none) = _ at h
  split at h
  · (first | exact noS h | exact noB h | cases h); rfl
  · (first | exact noS h | exact noB h | cases h)

theorem swapsT {value : Expr} {es : List Expr} {k : Nat} {p : Pos} {line : Nat} : swapsWithSole [.Tuple es k p] value line env = pure false := by
  show swapsWith value (some (.Tuple es k p)) line env = pure false
  cases value <;> rfl
theorem noTup_stores {value : Expr} {es : List Expr} {k : Nat} {p : Pos} (h : ∀ vs k p, value ≠ .Tuple vs k p) : swappedStores [.Tuple es k p] value env = pure none := by
  cases value <;> first | rfl | exact absurd rfl (h _ _ _)

theorem fm2 {f : Expr → Option Str} {a b : Expr} {n m : Str} (ha : f a = none ∨ f a = some n) (hb : f b = none ∨ f b = some m) (h : (List.filterMap f [a, b]).length = 2) : List.filterMap f [a, b] = [n, m] := by
  rcases ha with ha | ha <;> rcases hb with hb | hb <;> simp [List.filterMap_cons, ha, hb] at h ⊢
/-- names stored at once from a display of as many -/
theorem swapped_pair {vs : List Expr} {k k' : Nat} {p p' p₁ p₂ : Pos} {n m : Str} (hl : vs.length = 2) (hst : (vs.any fun | .Starred .. => true | _ => false) = false) (hca : vs.all (constantsAlone 8) = false) :
    swappedStores [.Tuple [.Name n p₁, .Name m p₂] k p] (.Tuple vs k' p') env = pure none ∨ swappedStores [.Tuple [.Name n p₁, .Name m p₂] k p] (.Tuple vs k' p') env = pure (some [n, m]) := by
  unfold swappedStores
  simp only [pure_bind, List.length_cons, List.length_nil, hl, hst, hca]
  split
  · exact .inl rfl
  · split
    · exact .inl rfl
    · split
      · exact .inl rfl
      · rename_i hnames
        have key : ∀ names : List Str, (names.length != 0 + 1 + 1 || names.eraseDups.length != names.length) = false → names.length = 2 := fun names h => by
          simp only [Bool.or_eq_false_iff, bne_eq_false_iff_eq] at h; exact h.1
        have hlen := key _ (Bool.eq_false_iff.mpr hnames)
        rw [fm2 (n := n) (m := m) (by dsimp only; split <;> simp) (by dsimp only; split <;> simp) hlen]
        split
        · exact .inl rfl
        · exact .inr rfl

theorem wpAny_bindName' {x : Str} {v : Value} {Q : Unit → Shared → Prop} {M : Model} (h : wpAny M A (storeName env x v) Q Ex s) : wpAny M A (bindName env x v) Q Ex s := wpAny_bindName h

theorem set_comm {i j : Nat} (h : i ≠ j) (x y : Option Sl) : (σ.set i x).set j y = (σ.set j y).set i x := List.set_comm _ _ h

/-- a pair of names from a display of two -/
theorem asg_pair (H : Good W N T A) (nd : ns.Nodup) (I : Inv W ns env s₀ g₀ F K σ ow s) {l : Es} {vs : List Expr} {i j : Nat} {n m : Str} {p₁ p₂ p p' pos : Pos} {k k' : Nat} {xs : List PV} {σ' : Sig} (hn : ns[i]? = some n) (hm : ns[j]? = some m) (hln : LC env n) (hlm : LC env m) (hij : i ≠ j)
    (hv : matchE N ns env.scope.names (.tup l) (.Tuple vs k' p') = true) (hx : evalE T (frzEnv σ) (.tup l) = some (.tup xs)) (hb : bindS σ (.t (.cons (.v i) (.cons (.v j) .nil))) (.tup xs) = some σ')
    (hl : vs.length = 2) (hst : (vs.any fun | .Starred .. => true | _ => false) = false) (hca : vs.all (constantsAlone 8) = false) :
    wpAny (model W.prog W.w) A (exec (.Assign [.Tuple [.Name n p₁, .Name m p₂] k p] (.Tuple vs k' p') pos) env) (fun f s' => Out W ns env s₀ g₀ F K (σ', .next) f s') Ex s := by
  have hval : ∀ (Q : Value → Shared → Prop) (h : ∀ v s', Post W.C F s (.tup xs) v s' → Q v s'), wpAny (model W.prog W.w) A (eval (.Tuple vs k' p') env) Q Ex s := fun Q h => wpAny_mono ((frz_ok H nd I hv hx).val Ex) (fun v s' q => h v s' q.1) fun uu uu y => y
  rcases swapped_pair (env := env) (n := n) (m := m) (k := k) (k' := k') (p := p) (p' := p') (p₁ := p₁) (p₂ := p₂) hl hst hca with hw | hw
  · refine Assign_Tuple (hval _ fun v s' q => ?_) swapsT hw
    have hmt : matchT ns (fun uu => true) (.t (.cons (.v i) (.cons (.v j) .nil))) (.Tuple [.Name n p₁, .Name m p₂] k p) = true := Bool.and_eq_true_iff.mpr ⟨Bool.and_eq_true_iff.mpr ⟨beq_iff_eq.mpr hn, rfl⟩, Bool.and_eq_true_iff.mpr ⟨Bool.and_eq_true_iff.mpr ⟨beq_iff_eq.mpr hm, rfl⟩, rfl⟩⟩
    have hmt' : matchT ns (fun z => decide (z = n) || decide (z = m)) (.t (.cons (.v i) (.cons (.v j) .nil))) (.Tuple [.Name n p₁, .Name m p₂] k p) = true := Bool.and_eq_true_iff.mpr ⟨Bool.and_eq_true_iff.mpr ⟨beq_iff_eq.mpr hn, by simp⟩, Bool.and_eq_true_iff.mpr ⟨Bool.and_eq_true_iff.mpr ⟨beq_iff_eq.mpr hm, by simp⟩, rfl⟩⟩
    exact wpAny_mono ((I.step q.keeps).assignF H.hh nd (fun z hz => by simp only [Bool.or_eq_true, decide_eq_true_eq] at hz; rcases hz with rfl | rfl <;> assumption) hmt' q.rep hb) (fun uu s'' z => z.elim fun o z => out_next rfl z (I.extStep s')) fun uu uu y => y
  · refine Assign_Tuple_swapped (hval _ fun v s' q => ?_) swapsT hw
    have I' := I.step q.keeps
    obtain ⟨a, us, o, c, rfl, ho, hc, hd, r⟩ := q.rep
    match xs, r, hb with
    | [x, y], r, hb =>
      obtain ⟨u, us', rfl, r₁, u', us'', rfl, r₂, r₃⟩ := r
      (first | exact noS r₃ | exact noB r₃ | cases r₃)
      have ht : s'.heap.IsTuple a [u, u'].toArray := ⟨o, I'.hF _ _ ho, hc, c, hd⟩
      rw [show ([n, m] : List Str).length = ([u, u'] : List Value).toArray.size from rfl]
      refine wpAny_unpackItems_tuple H.hh ht fun h' he => ?_
      have I'' := I'.stay (keeps_heap (keep_of_extBut he))
      show wpAny _ A (assignInOrder [fun v => bindName env m v, fun v => bindName env n v] [u', u]) _ Ex _
      refine wpAny_assignInOrder_more (wpAny_bindName (wpAny_mono (I''.storeF nd hm hlm r₂) (fun uu s₁ z => ?_) fun uu uu y => y))
      obtain ⟨o₁, I₁⟩ := z
      refine wpAny_assignInOrder_more (wpAny_bindName (wpAny_mono (I₁.storeF nd hn hln r₁) (fun uu s₂ z => ?_) fun uu uu y => y))
      obtain ⟨o₂, I₂⟩ := z
      refine wpAny_assignInOrder_none ?_
      have : σ' = (σ.set j (some (.frz y))).set i (some (.frz x)) := by
        refine bindK hb fun σ₁ h1 hb => bindK hb fun σ₂ h2 h3 => ?_
        obtain rfl : σ₁ = σ.set i (some (.frz x)) := bindS_v h1
        obtain rfl : σ₂ = (σ.set i (some (.frz x))).set j (some (.frz y)) := bindS_v h2
        obtain rfl := Option.some.inj h3
        exact List.set_comm _ _ hij
      subst this
      exact out_next rfl I₂ (I.extStep s')
    | [], r, hb => exact noS hb
    | [_], r, hb =>
      exact bindK hb fun uu uu hb => noS hb
    | _ :: _ :: _ :: _, r, hb =>
      exact bindK hb fun uu uu hb => bindK hb fun uu uu hb => noS hb

theorem notB {a : Bool} (h : (!a) = true) : a = false := by
  cases a with
  | false => rfl
  | true => exact noB h
@[elab_as_elim] theorem pairT {l : Tgs} {P : Tgs → Prop} (h : (match Tg.t l with | .t (.cons (.v i) (.cons (.v j) .nil)) => i != j | _ => false) = true) (k : ∀ i j : Nat, (i != j) = true → P (.cons (.v i) (.cons (.v j) .nil))) : P l := by
  cases l with
  | nil => exact noB h
  | cons a r => cases a with
    | t _ => exact noB h
    | v i => cases r with
      | nil => exact noB h
      | cons b r => cases b with
        | t _ => exact noB h
        | v j => cases r with
          | nil => exact k i j h
          | cons _ _ => exact noB h
theorem s_asg_gen (H : Good W N T A) (nd : ns.Nodup) (I : Inv W ns env s₀ g₀ F K σ ow s) {m : Md} {t : Tg} {e : E} {tg value : Expr} {pos : Pos} {x : PV} {σ' : Sig} (h1 : matchT ns (isLC env.scope.names) t tg = true) (h2 : matchE N ns env.scope.names e value = true)
    (h3 : tgOk t tg value = true) (hx : evalM T σ m e = some x) (hb : bindS σ t x = some σ') : wpAny (model W.prog W.w) A (exec (.Assign [tg] value pos) env) (fun f s' => Out W ns env s₀ g₀ F K (σ', .next) f s') Ex s := by
  cases t with
  | v i =>
    obtain ⟨n, p, rfl, hn, hlc⟩ := matchT_v h1
    have hlc := LC_of hlc
    have := bindS_v hb
    subst this
    cases m with
    | frz => exact asg_name_frz H nd I hlc hn h2 hx
    | sc =>
      refine bindK hx fun y h1 h2' => ?_
      split at h2'
      · cases h2'; exact asg_name_sc H nd I hlc hn h2 h1 (by assumption)
      · cases h2'
    | new => cases e <;> cases hx
    | itm =>
      have hw : swapsWith value (some (.Name n p)) pos.line env = pure false := by
        rcases swaps_name (env := env) h2 n p pos.line with hw | ⟨_, _, _, _, _, rfl⟩
        · exact hw
        · exact noS hx
      refine wpAny_Assign_Name (wpAny_mono (evalM_ok H nd I h2 hx) (fun v s' q => ?_) fun uu uu y => y) hw
      obtain ⟨k, F', I', ex, r⟩ := q
      exact wpAny_mono (I'.storeF nd hn hlc r) (fun uu s'' z => z.elim fun o z => out_next rfl z ex) fun uu uu y => y
  | t l =>
    obtain ⟨es, k, p, rfl, hms⟩ := matchT_t h1
    by_cases hv : ∃ vs k p, value = .Tuple vs k p
    · obtain ⟨vs, k', p', rfl⟩ := hv
      refine andB h3 fun h3 q4 => andB h3 fun h3 q3 => andB h3 fun q1 q2 => ?_
      have q2 : es.length = vs.length := eqB q2
      have q3 := notB q3
      have q4 := notB q4
      revert hms hb h1
      refine pairT q1 fun i j q1 => ?_
      intro hb h1 hms
      · match es, hms with
        | [t₁, t₂], hms =>
          have hms := Bool.and_eq_true_iff.mp hms
          have hms : _ ∧ _ ∧ _ := ⟨hms.1, Bool.and_eq_true_iff.mp hms.2⟩
          obtain ⟨n, p₁, rfl, hn, hl1⟩ := matchT_v hms.1
          obtain ⟨m', p₂, rfl, hm', hl2⟩ := matchT_v hms.2.1
          have hxt : ∃ l, e = .tup l := by
            cases e with
            | tup l => exact ⟨l, rfl⟩
            | cst c => cases c <;> exact noB h2
            | _ => exact noB h2
          obtain ⟨l, rfl⟩ := hxt
          have hxx : ∃ xs, x = .tup xs ∧ evalE T (frzEnv σ) (.tup l) = some (.tup xs) := by
            cases m with
            | frz =>
              have hx' : evalE T (frzEnv σ) (.tup l) = some x := hx
              have hx'' := hx'
              rw [vTup] at hx''
              obtain ⟨xs, uu, rfl⟩ := Option.map_eq_some_iff.mp hx''
              exact ⟨xs, rfl, hx'⟩
            | sc =>
              refine bindK hx fun y g1 g2 => ?_
              rw [vTup] at g1
              obtain ⟨xs, uu, rfl⟩ := Option.map_eq_some_iff.mp g1
              exact noS g2
            | new => exact noS hx
            | itm => exact noS hx
          obtain ⟨xs, rfl, hx'⟩ := hxx
          exact asg_pair H nd I hn hm' (LC_of hl1) (LC_of hl2) (by simpa using q1) h2 hx' hb (by simpa using q2.symm) q3 q4
        | [], hms => exact noB hms
        | [_], hms => exact andB hms fun uu h => noB h
        | _ :: _ :: _ :: _, hms => exact andB hms fun uu h => andB h fun uu h => noB h
    · refine Assign_Tuple (wpAny_mono (evalM_ok H nd I h2 hx) (fun v s' q => ?_) fun uu uu y => y) swapsT (noTup_stores fun vs k p q => hv ⟨vs, k, p, q⟩)
      obtain ⟨k', F', I', ex, r⟩ := q
      exact wpAny_mono (I'.assignF H.hh nd (fun uu => LC_of) h1 r hb) (fun uu s'' z => z.elim fun o z => out_next rfl z ex) fun uu uu y => y

theorem s_asg (H : Good W N T A) (nd : ns.Nodup) {m : Md} {t : Tg} {e : E} : PS W N T A ns fuel (.asg m t e) := fun st sc hm env s₀ g₀ F K σ ow s r hsc I hr Ex => by
  subst hsc
  refine ms_asg hm fun tg value pos h1 h2 h3 => ?_
  · by_cases hn : m = .new ∧ ∃ x, t = .v x
    · obtain ⟨rfl, x, rfl⟩ := hn
      obtain ⟨n, p, rfl, hn, hlc⟩ := matchT_v h1
      have hlc := LC_of hlc
      rw [execS_asg] at hr
      dsimp only at hr
      by_cases hf : fresh e = true
      · rw [if_pos hf] at hr
        refine bindK hr fun v hv hr => ?_
        cases v with
        | list l =>
          refine ifK (c := (l.all scalar && decide (x < σ.length) && decide (l.length ≤ lim)) = true) (G := fun r => wpAny (model W.prog W.w) A (exec (.Assign [.Name n p] value pos) env) (fun f s' => Out W ns env s₀ g₀ F K r f s') Ex s) hr fun q => ?_
          exact asg_name_new H nd I hlc hn h2 hv hf (andB q fun q uu => andB q fun q uu => q)
        | _ => exact noS hr
      · rw [if_neg hf] at hr; exact noS hr
    · have hr' : ((evalM T σ m e).bind fun v => (bindS σ t v).map fun σ' => (σ', Fl.next)) = some r := by
        rw [execS_asg] at hr
        cases m with
        | new => cases t with
          | v x => exact absurd ⟨rfl, x, rfl⟩ hn
          | t _ => exact hr
        | _ => cases t <;> exact hr
      exact bindK hr' fun v hv hr => mapK (P := fun r => wpAny (model W.prog W.w) A (exec (.Assign [tg] value pos) env) (fun f s' => Out W ns env s₀ g₀ F K r f s') Ex s) hr fun σ' hb => s_asg_gen H nd I h1 h2 h3 hv hb
end
end Mp
end

section
set_option maxRecDepth 20000
/-! MiniPy: more statements. -/
namespace Mp
open PySem PySem.Calls PyProof.Rows PySem.W

section
variable {W : Wd} {N : NT} {T : Tabs} {A : Around} {ns : List Str} {env : Env} {s₀ s s' : Shared} {g₀ F F' K : View} {σ : Sig} {ow : Nat → Addr × Addr} {Ex : Value → Shared → Prop} {fuel : Nat}

theorem sc_eval {e : E} {x : PV} (h : evalM T σ .sc e = some x) : evalE T (allEnv σ) e = some x ∧ scalar x = true := by
  refine bindK (show (evalE T (allEnv σ) e).bind _ = _ from h) fun y h1 h2 => ?_
  split at h2
  · cases h2; exact ⟨h1, by assumption⟩
  · cases h2

theorem swappedMany (n : Str) (p : Pos) (t : Expr) (ts : List Expr) (value : Expr) : swappedStores (.Name n p :: t :: ts) value env = pure none := by
  cases value <;> first | rfl | (cases ts <;> rfl)

theorem s_asg2 (H : Good W N T A) (nd : ns.Nodup) {x y : Nat} {e : E} : PS W N T A ns fuel (.asg2 x y e) := fun st sc hm env s₀ g₀ F K σ ow s r hsc I hr Ex => by
  subst hsc
  refine ms_asg2 hm fun t₁ t₂ value pos h1 h2 h3 => ?_
  · obtain ⟨n, p, rfl, hn, hlc⟩ := matchT_v h1
    have hlc := LC_of hlc
    obtain ⟨n', p', rfl, hn', hlc'⟩ := matchT_v h2
    have hlc' := LC_of hlc'
    refine bindK hr fun v hv hr => ?_
    obtain ⟨hv, hs⟩ := sc_eval hv
    split at hr
    · (first | exact noS hr | exact noB hr | cases hr)
      refine wpAny_Assign_two (wpAny_mono ((all_ok H nd I h3 hv).val Ex) (fun u s₁ q => ?_) fun uu uu y => y) (by rfl) (swappedMany _ _ _ _ _)
      have r := Rep.scalar (g' := F) q.1.rep hs
      refine wpAny_assign_Name (wpAny_mono ((I.stay q.1.keeps).storeF nd hn hlc r) (fun uu s₂ z => ?_) fun uu uu y => y)
      obtain ⟨o, I₂⟩ := z
      exact wpAny_assign_Name (wpAny_mono (I₂.storeF nd hn' hlc' r) (fun uu s₃ z => z.elim fun o z => out_next rfl z (Ext.refl _ _)) fun uu uu y => y)
    · (first | exact noS hr | exact noB hr | cases hr)
theorem s_asg3 (H : Good W N T A) (nd : ns.Nodup) {x y z : Nat} {e : E} : PS W N T A ns fuel (.asg3 x y z e) := fun st sc hm env s₀ g₀ F K σ ow s r hsc I hr Ex => by
  subst hsc
  refine ms_asg3 hm fun t₁ t₂ t₃ value pos h1 h2 h2' h3 => ?_
  · obtain ⟨n, p, rfl, hn, hlc⟩ := matchT_v h1
    have hlc := LC_of hlc
    obtain ⟨n', p', rfl, hn', hlc'⟩ := matchT_v h2
    have hlc' := LC_of hlc'
    obtain ⟨n'', p'', rfl, hn'', hlc''⟩ := matchT_v h2'
    have hlc'' := LC_of hlc''
    refine bindK hr fun v hv hr => ?_
    obtain ⟨hv, hs⟩ := sc_eval hv
    split at hr
    · (first | exact noS hr | exact noB hr | cases hr)
      refine wpAny_Assign_three (wpAny_mono ((all_ok H nd I h3 hv).val Ex) (fun u s₁ q => ?_) fun uu uu y => y) (by rfl) (swappedMany _ _ _ _ _)
      have r := Rep.scalar (g' := F) q.1.rep hs
      refine wpAny_assign_Name (wpAny_mono ((I.stay q.1.keeps).storeF nd hn hlc r) (fun uu s₂ z => ?_) fun uu uu y => y)
      obtain ⟨o, I₂⟩ := z
      refine wpAny_assign_Name (wpAny_mono (I₂.storeF nd hn' hlc' r) (fun uu s₂ z => ?_) fun uu uu y => y)
      obtain ⟨o, I₃⟩ := z
      exact wpAny_assign_Name (wpAny_mono (I₃.storeF nd hn'' hlc'' r) (fun uu s₃ z => z.elim fun o z => out_next rfl z (Ext.refl _ _)) fun uu uu y => y)
    · (first | exact noS hr | exact noB hr | cases hr)

theorem s_aug (H : Good W N T A) (nd : ns.Nodup) {x : Nat} {o : Op} {e : E} : PS W N T A ns fuel (.aug x o e) := fun st sc hm env s₀ g₀ F K σ ow s r hsc I hr Ex => by
  subst hsc
  refine ms_aug hm fun n p value pos hn hv ho he => ?_
  · refine bindK hr fun a ha hr => bindK hr fun b hb hr => bindK hr fun v hv' hr => ?_
    split at hr
    · rename_i q
      simp only [Bool.and_eq_true] at q
      (first | exact noS hr | exact noB hr | cases hr)
      obtain ⟨sl, h1, h2⟩ := Inv.getAll (join_some ha)
      obtain ⟨v0, b0, uu⟩ := I.slot x _ _ hn h1
      have hlc := b0.kind
      refine wpAny_AugAssign_Name (own_load I h1 h2 hn fun old ro => ?_)
      refine wpAny_mono ((all_ok H nd I he hb).val Ex) (fun u s₁ p => ?_) fun uu uu y => y
      refine wpAny_mono (inplace_ok hv' q.1 ho (Rep.scalar ro q.1) p.1.rep) (fun z s₂ w => ?_) fun uu uu y => y
      exact wpAny_mono (((I.stay p.1.keeps).stay w.1).storeF nd hn hlc (Rep.scalar w.2 q.2)) (fun uu s₃ z => z.elim fun o z => out_next rfl z (Ext.refl _ _)) fun uu uu y => y
    · (first | exact noS hr | exact noB hr | cases hr)

theorem setAt_at {l l' : List PV} {j : Int} {v : PV} (h : setAt l j v = some l') : inIdx j l.length = true ∧ l' = l.set (pidx j l.length) v := by
  unfold setAt at h
  split at h
  · (first | exact noS h | exact noB h | cases h); exact ⟨by assumption, rfl⟩
  · (first | exact noS h | exact noB h | cases h)

theorem s_setI (H : Good W N T A) (nd : ns.Nodup) {m : Md} {x : Nat} {i e : E} : PS W N T A ns fuel (.setI m x i e) := fun st sc hm env s₀ g₀ F K σ ow s r hsc I hr Ex => by
  subst hsc
  refine ms_setI hm fun n p j tpos value pos hn hv hi he => ?_
  · refine bindK hr fun v hv' hr => bindK hr fun l hl hr => bindK hr fun j' hj hr => ?_
    have hl := getOwn_at hl
    cases j' with
    | int k =>
      refine mapK hr fun l' hl' => ?_
      obtain ⟨hin, rfl⟩ := setAt_at hl'
      refine wpAny_Assign_Subscript (wpAny_mono (evalM_ok H nd I he hv') (fun u s₁ q => ?_) fun uu uu y => y) (by cases value <;> rfl)
      obtain ⟨k₁, F', I', ex, ru⟩ := q
      refine own_name I' hl hn (isV_cases hv).2.1 ?_
      refine wpAny_mono ((all_ok H nd I' hi hj).val Ex) (fun w s₂ p => ?_) fun uu uu y => y
      obtain ⟨t, rfl⟩ := p.1.rep
      have I'' := I'.stay p.1.keeps
      obtain ⟨z, b, e0, vs, n', ho, r⟩ := I''.slot _ _ _ hn hl
      refine setItem_at ho (by rw [r.length]; exact hin) fun h' n'' ho' hb => ?_
      rw [r.length] at ho'
      exact out_next rfl (I''.mutate hl hb ho' (Reps.set _ r ru)) ex
    | _ => exact noS hr

theorem binop_scalar {o : Op} {a b v : PV} (h : binop o a b = some v) (_ : isAS o = true) (hs : scalar v = true) : scalar a = true := by
  revert hs
  exact binop_inv (P := fun uu a uu v => scalar v = true → scalar a = true) h (fun uu uu uu => rfl) (fun uu uu uu => rfl) (fun uu uu uu uu => rfl) (fun uu uu uu uu => rfl) (fun uu uu uu uu => rfl) (fun uu uu uu uu => rfl) (fun uu uu uu uu => rfl) (fun uu uu uu h => noB h) (fun uu uu uu uu => rfl) (fun uu uu uu h => noB h)

theorem s_augI (H : Good W N T A) (nd : ns.Nodup) {x : Nat} {i e : E} {o : Op} : PS W N T A ns fuel (.augI x i o e) := fun st sc hm env s₀ g₀ F K σ ow s r hsc I hr Ex => by
  subst hsc
  refine ms_augI hm fun n p j tpos value pos hn hv ho hsl hi he => ?_
  · refine bindK hr fun l hl hr => bindK hr fun j' hj hr => bindK hr fun a ha hr => bindK hr fun b hb hr => bindK hr fun v hv' hr => ?_
    have hl := getOwn_at hl
    split at hr
    · rename_i hsv
      cases j' with
      | int k =>
        refine mapK hr fun l' hl' => ?_
        obtain ⟨hin, rfl⟩ := setAt_at hl'
        have hsa := binop_scalar hv' ho hsv
        refine wpAny_AugAssign_SubscriptAny (own_name I hl hn (isV_cases hv).2.1 ?_) (by intro _ _ _; cases j <;> first | rfl | exact noB hsl)
        refine wpAny_mono ((all_ok H nd I hi hj).val Ex) (fun w s₂ p => ?_) fun uu uu y => y
        obtain ⟨t, rfl⟩ := p.1.rep
        have I₁ := I.stay p.1.keeps
        obtain ⟨z, b', e0, vs, n', ho', r⟩ := I₁.slot _ _ _ hn hl
        change (if inIdx _ l.length then _ else none) = _ at ha
        rw [if_pos hin] at ha
        obtain ⟨u, hu, ru⟩ := r.get ha
        refine getItem_at ho' (by rw [r.length]; exact hin) (by rw [r.length]; exact hu) ?_
        refine wpAny_mono ((all_ok H nd I₁ he hb).val Ex) (fun w s₃ p₃ => ?_) fun uu uu y => y
        refine wpAny_mono (inplace_ok hv' hsa ho (Rep.scalar ru hsa) p₃.1.rep) (fun z s₄ q => ?_) fun uu uu y => y
        have I₂ := (I₁.stay p₃.1.keeps).stay q.1
        obtain ⟨z', b'', e0', vs', n'', ho'', r'⟩ := I₂.slot _ _ _ hn hl
        refine setItem_at ho'' (by rw [r'.length]; exact hin) fun h' n₃ ho₃ hb₃ => ?_
        rw [r'.length] at ho₃
        exact out_next rfl (I₂.mutate hl hb₃ ho₃ (Reps.set _ r' (Rep.scalar q.2 hsv))) (Ext.refl _ _)
      | _ => exact noS hr
    · exact noS hr

theorem plain_val {C : Addr} {g : View} {x : PV} {v : Value} (h : Rep C g x v) (hs : scalar x = true) : ∀ a, v ≠ .ref a := by
  intro a e
  subst e
  cases x <;> try exact noB hs
  · (first | exact noS h | exact noB h | cases h)
  · (first | exact noS h | exact noB h | cases h)
  · obtain ⟨t, h⟩ := h; (first | exact noS h | exact noB h | cases h)
  · obtain ⟨t, h⟩ := h; (first | exact noS h | exact noB h | cases h)

/-- a call whose value is no object, as a statement -/
theorem expr_stmt (G : EnvG W env s.heap) {f : Expr} {args : List Expr} {kw : List Keyword} {cp pos : Pos} {Q : Shared → Prop} {M : Model}
    (h : wpAny M A (eval (.Call f args kw cp) env) (fun v s' => (∀ a, v ≠ .ref a) ∧ Q s') Ex s) : wpAny M A (exec (.Expr (.Call f args kw cp) pos) env) (fun f s' => f = .next ∧ Q s') Ex s := by
  refine wpAny_Expr (wpAny_mono h (fun v s' z => ?_) fun uu uu y => y) (by unfold interactive; rw [G.fn]; rfl) rfl
  cases v <;> first | exact ⟨rfl, z.2⟩ | exact absurd rfl (z.1 _)

theorem s_app (H : Good W N T A) (nd : ns.Nodup) {m : Md} {x : Nat} {e : E} : PS W N T A ns fuel (.app m x e) := fun st sc hm env s₀ g₀ F K σ ow s r hsc I hr Ex => by
  subst hsc
  refine ms_app hm fun c q₀ a hc hm => ?_
  · · obtain ⟨n, p, ap, pos, rfl, hn, hd, hline, hlen⟩ := hc
      refine bindK hr fun l hl hr => bindK hr fun v hv hr => ?_
      have hl := getOwn_at hl
      split at hr
      · rename_i hsz
        (first | exact noS hr | exact noB hr | cases hr)
        obtain ⟨z, b, e0, vs, n', ho, r⟩ := I.slot _ _ _ hn hl
        refine wpAny_mono (expr_stmt (Q := fun s' => ∃ F' ow', Inv W ns env s₀ g₀ F' K (σ.set x (some (.own (l ++ [v])))) ow' s' ∧ Ext F F' K) I.G ?_) (fun f s' w => ?_) fun uu uu y => y
        · refine call_own PySem.F.slot_list_append (by rfl) ho (by rw [star_any hm]; rfl) hline hlen (fun Q' h => own_name I hl hn hd h) ?_
          refine P.append_list (wpAny_mono (evalM_ok H nd I hm hv) (fun u s₁ q => ?_) fun uu uu y => y)
          obtain ⟨k₁, F', I', ex, ru⟩ := q
          obtain ⟨z, b, e0, vs, n', ho, r⟩ := I'.slot _ _ _ hn hl
          refine ⟨vs.toArray, n', ?_, ho, (fun uu q => by (first | exact noS q | exact noB q | cases q)), ?_⟩
          · rw [sizeLine_eq, List.size_toArray, r.length]; simp only [lim] at hsz; omega
          · obtain ⟨k, hu⟩ := upd_list (·.push u) ho
            refine ⟨F', ow, I'.mutate hl (Heap.SameBut.update ..) (vs := vs ++ [u]) (n := k) ?_ (Reps.append r (Reps.cons ru Reps.nil)), ex⟩
            rw [hu]; congr 3; simp
        · obtain ⟨hf, F', o, i, ex⟩ := w; exact out_next hf i ex
      · (first | exact noS hr | exact noB hr | cases hr)

theorem s_ext (H : Good W N T A) (nd : ns.Nodup) {x : Nat} {e : E} : PS W N T A ns fuel (.ext x e) := fun st sc hm env s₀ g₀ F K σ ow s r hsc I hr Ex => by
  subst hsc
  refine ms_ext hm fun c q₀ a hc hm => ?_
  · · obtain ⟨n, p, ap, pos, rfl, hn, hd, hline, hlen⟩ := hc
      refine bindK hr fun l hl hr => ?_
      have hl := getOwn_at hl
      split at hr
      · refine bindK hr fun v hv hr => ?_
        cases v with
        | list rr =>
          replace hr : (if (rr.all scalar && decide (l.length + rr.length ≤ lim)) = true then some (σ.set x (some (.own (l ++ rr))), Fl.next) else none) = some r := hr
          split at hr
          · rename_i q
            simp only [Bool.and_eq_true, decide_eq_true_eq, lim] at q
            (first | exact noS hr | exact noB hr | cases hr)
            obtain ⟨z, b, e0, vs, n', ho, r⟩ := I.slot _ _ _ hn hl
            refine wpAny_mono (expr_stmt (Q := fun s' => ∃ ow', Inv W ns env s₀ g₀ F K (σ.set x (some (.own (l ++ rr)))) ow' s') I.G ?_) (fun f s' w => ?_) fun uu uu y => y
            · refine call_own PySem.F.slot_list_extend (by rfl) ho (by rw [star_any hm]; rfl) hline hlen (fun Q' h => own_name I hl hn hd h) ?_
              refine P.extend_list (wpAny_mono ((all_ok H nd I hm hv).val Ex) (fun u s₁ w => ?_) fun uu uu y => y)
              have I' := I.stay w.1.keeps
              obtain ⟨z, b, e0, vs, n', ho, r⟩ := I'.slot _ _ _ hn hl
              obtain ⟨b', us, n₂, rfl, hb, ru⟩ := w.1.rep
              have hb := gext_sub I.allSub (keepsK w.1.keeps) _ _ hb
              have l1 := r.length
              have l2 := ru.length
              refine ⟨b', vs.toArray, us.toArray, n', n₂, ?_, ?_, ?_, rfl, ho, hb, (fun uu q => by (first | exact noS q | exact noB q | cases q)), ?_⟩
              · rw [sizeLine_eq, List.size_toArray]; omega
              · rw [sizeLine_eq, List.size_toArray, List.size_toArray]; omega
              · simp only [Builtin.List.listTooLong, sizeLine_eq, List.size_toArray, Bool.and_eq_true, decide_eq_true_eq]; omega
              · obtain ⟨k, hu⟩ := upd_list (· ++ us.toArray) ho
                refine ⟨ow, I'.mutate hl (Heap.SameBut.update ..) (vs := vs ++ us) (n := k) ?_ (Reps.append r (Reps.scalars ru q.1))⟩
                rw [hu]; congr 3; simp
            · obtain ⟨hf, o, i⟩ := w; exact out_next hf i (Ext.refl _ _)
          · cases hr
        | _ => exact noS hr
      · exact noS hr

theorem last_get {l : List PV} {v : PV} (h : l.getLast? = some v) : l[l.length - 1]? = some v := by rw [← List.getLast?_eq_getElem?]; exact h

theorem s_pop (H : Good W N T A) (nd : ns.Nodup) {x : Nat} : PS W N T A ns fuel (.pop x) := fun st sc hm env s₀ g₀ F K σ ow s r hsc I hr Ex => by
  subst hsc
  refine ms_pop hm fun c q₀ hc => ?_
  · · obtain ⟨n, p, ap, pos, rfl, hn, hd, hline, hlen⟩ := hc
      refine bindK hr fun l hl hr => ?_
      have hl := getOwn_at hl
      split at hr
      · rename_i v hlast
        split at hr
        · rename_i q
          simp only [Bool.and_eq_true, decide_eq_true_eq, lim] at q
          (first | exact noS hr | exact noB hr | cases hr)
          obtain ⟨z, b, e0, vs, n', ho, r⟩ := I.slot _ _ _ hn hl
          refine wpAny_mono (expr_stmt (Q := fun s' => ∃ ow', Inv W ns env s₀ g₀ F K (σ.set x (some (.own l.dropLast))) ow' s') I.G ?_) (fun f s' w => ?_) fun uu uu y => y
          · refine call_own PySem.F.slot_list_pop (by rfl) ho (by rfl) hline hlen (fun Q' h => own_name I hl hn hd h) ?_
            obtain ⟨u, hu, ru⟩ := r.get (last_get hlast)
            obtain ⟨k, hk⟩ := upd_list (fun xs => xs.eraseIdxIfInBounds (vs.toArray.size - 1)) ho
            refine P.pop_list ho (y := u) ?_ ⟨plain_val ru q.1, ow, I.mutate hl (Heap.SameBut.update ..) (vs := vs.dropLast) (n := k) ?_ r.dropLast⟩ ?_
            · rw [List.size_toArray, r.length]; simpa using hu
            · rw [hk, drop_last]
            · rw [sizeLine_eq, List.size_toArray, r.length]; omega
          · obtain ⟨hf, o, i⟩ := w; exact out_next hf i (Ext.refl _ _)
        · (first | exact noS hr | exact noB hr | cases hr)
      · (first | exact noS hr | exact noB hr | cases hr)

theorem s_popTo (H : Good W N T A) (nd : ns.Nodup) {y x : Nat} : PS W N T A ns fuel (.popTo y x) := fun st sc hm env s₀ g₀ F K σ ow s r hsc I hr Ex => by
  subst hsc
  refine ms_popTo hm fun n₀ p₀ c q₀ hy hlc hc => ?_
  · have hlc := LC_of hlc
    · obtain ⟨n, p, ap, pos, rfl, hn, hd, hline, hlen⟩ := hc
      refine bindK hr fun l hl hr => ?_
      have hl := getOwn_at hl
      split at hr
      · rename_i v hlast
        split at hr
        · rename_i q
          simp only [Bool.and_eq_true, decide_eq_true_eq, lim] at q
          (first | exact noS hr | exact noB hr | cases hr)
          obtain ⟨z, b, e0, vs, n', ho, r⟩ := I.slot _ _ _ hn hl
          refine wpAny_Assign_Name ?_ rfl
          refine call_own PySem.F.slot_list_pop (by rfl) ho (by rfl) hline hlen (fun Q' h => own_name I hl hn hd h) ?_
          obtain ⟨u, hu, ru⟩ := r.get (last_get hlast)
          obtain ⟨k, hk⟩ := upd_list (fun xs => xs.eraseIdxIfInBounds (vs.toArray.size - 1)) ho
          refine P.pop_list ho (y := u) ?_ ?_ ?_
          · rw [List.size_toArray, r.length]; simpa using hu
          · have I' := I.mutate (tk := s.toks) hl (Heap.SameBut.update ..) (h' := s.heap.update (ow x).1 (Obj.mapSeq fun xs => xs.eraseIdxIfInBounds (vs.toArray.size - 1))) (vs := vs.dropLast) (n := k) (by rw [hk, drop_last]) r.dropLast
            exact wpAny_mono (I'.storeF nd hy hlc ru) (fun uu s₃ z => z.elim fun o z => out_next rfl z (Ext.refl _ _)) fun uu uu y => y
          · rw [sizeLine_eq, List.size_toArray, r.length]; omega
        · (first | exact noS hr | exact noB hr | cases hr)
      · (first | exact noS hr | exact noB hr | cases hr)
end
end Mp
end

section
set_option maxRecDepth 20000
/-! MiniPy: branches, loops, blocks. -/
namespace Mp
open PySem PySem.Calls PyProof.Rows PySem.W

section
variable {W : Wd} {N : NT} {T : Tabs} {A : Around} {ns : List Str} {env : Env} {s₀ s s' : Shared} {g₀ F F' K : View} {σ : Sig} {ow : Nat → Addr × Addr} {Ex : Value → Shared → Prop} {fuel : Nat}

theorem allV_step (I : Inv W ns env s₀ g₀ F K σ ow s) (k : Keeps s s') : ∀ a o, gext (allV env s₀.heap g₀ s.heap) s.heap s'.heap a = some o → allV env s₀.heap g₀ s'.heap a = some o := fun a o e => by
  unfold gext at e
  split at e
  · unfold allV at e ⊢
    split at e
    · rename_i q; rw [if_pos q]; exact e
    · rename_i q; rw [if_neg q]
      split at e
      · (first | exact noS e | exact noB e | cases e)
      · rename_i h; rw [if_neg h]; exact keepsK k a o e
  · rename_i q
    have q' : s.heap.get? a = none := by simpa using q
    unfold allV
    rw [if_neg (by rw [kept_none I.keep q']; simp), if_neg fun h => by obtain ⟨o', w⟩ := I.thereHot h; rw [w] at q'; cases q']
    exact e

theorem s_ret (H : Good W N T A) (nd : ns.Nodup) {e : E} : PS W N T A ns fuel (.ret e) := fun st sc hm env s₀ g₀ F K σ ow s r hsc I hr Ex => by
  subst hsc
  refine ms_ret hm fun x q hm => mapK hr fun v hv => ?_
  · refine wpAny_Return_some (wpAny_mono ((all_ok H nd I hm hv).val Ex) (fun u s₁ q => ?_) fun uu uu y => y)
    exact ⟨keepsTr I.keeps q.1.keeps, Rep.mono (View.le_of (allV_step I q.1.keeps)) _ q.1.rep⟩

theorem s_brk : PS W N T A ns fuel .brk := fun st sc hm env s₀ g₀ F K σ ow s r hsc I hr Ex => by
  have e := Option.some.inj hr
  subst e
  exact ms_brk hm fun q => wpAny_Break ⟨F, ow, I, Ext.refl _ _⟩
theorem s_frz {x : Nat} : PS W N T A ns fuel (.frz x) := fun st sc hm => noB hm

theorem s_ite (H : Good W N T A) (nd : ns.Nodup) {t : E} {a b : Ss} (Pa : PSs W N T A ns fuel a) (Pb : PSs W N T A ns fuel b) : PS W N T A ns fuel (.ite t a b) := fun st sc hm env s₀ g₀ F K σ ow s r hsc I hr Ex => by
  subst hsc
  refine ms_ite hm fun test body orelse q₀ m1 m2 m3 => bindK hr fun x hx hr => bindK hr fun c hc hr => ?_
  · refine wpAny_If (wpAny_mono ((all_ok H nd I m1 hx).tst c Ex hc) (fun z s₁ q => ?_) fun uu uu y => y)
    obtain ⟨rfl, k⟩ := q
    cases z with
    | true => exact Pa _ _ m2 env s₀ g₀ F K σ ow s₁ r rfl (I.stay k) hr Ex
    | false => exact Pb _ _ m3 env s₀ g₀ F K σ ow s₁ r rfl (I.stay k) hr Ex

theorem ss_nil : PSs W N T A ns fuel .nil := fun sts sc hm env s₀ g₀ F K σ ow s r hsc I hr Ex => by
  have e := Option.some.inj hr
  subst e
  cases sts with
  | nil => exact wpAny_pure ⟨F, ow, I, Ext.refl _ _⟩
  | cons => exact noB hm
theorem ss_frz {x : Nat} {l : Ss} (Pl : PSs W N T A ns fuel l) : PSs W N T A ns fuel (.cons (.frz x) l) := fun sts sc hm env s₀ g₀ F K σ ow s r hsc I hr Ex => by
  have hm' : matchSs N ns sc l sts = true := by
    cases sts <;> exact hm
  refine bindK hr fun r₁ h1 h2 => ?_
  obtain ⟨l', hl, rfl⟩ := Option.map_eq_some_iff.mp (show (getOwn σ x).map (fun l => (σ.set x (some (.frz (.list l))), Fl.next)) = some r₁ from h1)
  obtain ⟨F', I', ex⟩ := I.freeze (getOwn_at hl)
  exact wpAny_mono (Pl sts sc hm' env s₀ g₀ F' K _ ow s r hsc I' h2 Ex) (fun f s' q => q.mono ex) fun uu uu y => y
theorem ss_cons {b : S} {l : Ss} (hb : ∀ x, b ≠ .frz x) (Pb : PS W N T A ns fuel b) (Pl : PSs W N T A ns fuel l) : PSs W N T A ns fuel (.cons b l) := fun sts sc hm env s₀ g₀ F K σ ow s r hsc I hr Ex => by
  refine bindK hr fun r₁ h1 h2 => ?_
  cases sts with
  | nil => exact mss_nil hb hm
  | cons st sts =>
    have hm' := mss_cons hb hm
    refine wpAny_execs_cons (wpAny_mono (Pb st sc hm'.1 env s₀ g₀ F K σ ow s r₁ hsc I h1 Ex) (fun f s₁ q => ?_) fun uu uu y => y)
    obtain ⟨σ₁, fl⟩ := r₁
    cases fl with
    | next =>
      cases f <;> first | exact absurd q id | skip
      obtain ⟨F', ow', I', ex⟩ := q
      exact wpAny_mono (Pl sts sc hm'.2 env s₀ g₀ F' K σ₁ ow' s₁ r hsc I' h2 Ex) (fun f s' q => q.mono ex) fun uu uu y => y
    | brk =>
      cases h2
      cases f <;> first | exact absurd q id | exact q
    | ret x =>
      cases h2
      cases f <;> first | exact absurd q id | exact q

theorem s_whl (H : Good W N T A) (nd : ns.Nodup) {t : E} {b : Ss} (Pb : PSs W N T A ns fuel b) : PS W N T A ns fuel (.whl t b) := fun st sc hm env s₀ g₀ F K σ ow s r hsc I hr Ex => by
  subst hsc
  refine ms_whl hm fun test body q₀ m1 m2 => ?_
  · have hr : whlL (fun σ => (evalE T (allEnv σ) t).bind truthy) (fun σ => execSs T fuel σ b) fuel σ = some r := hr
    refine wpAny_While (codeAny_whileLoop (fun n s' => ∃ F' σ' ow', Inv W ns env s₀ g₀ F' K σ' ow' s' ∧ Ext F F' K ∧ whlL (fun σ => (evalE T (allEnv σ) t).bind truthy) (fun σ => execSs T fuel σ b) n σ' = some r) (fun n s' hI => ?_) fuel ⟨F, σ, ow, I, Ext.refl _ _, hr⟩)
    obtain ⟨F', σ', ow', I', ex, hw⟩ := hI
    cases n with
    | zero => exact noS hw
    | succ n =>
      refine bindK hw fun c hc hw => bindK hc fun x hx hc => ?_
      refine wpAny_mono ((all_ok H nd I' m1 hx).tst c _ hc) (fun z s₁ q => ?_) fun uu uu y => y
      obtain ⟨rfl, k⟩ := q
      cases z with
      | true =>
        refine bindK hw fun r₁ h1 h2 => ?_
        refine wpAny_mono (Pb _ _ m2 env s₀ g₀ F' K σ' ow' s₁ r₁ rfl (I'.stay k) h1 _) (fun f s₂ q => ?_) fun uu uu y => y
        obtain ⟨σ₁, fl⟩ := r₁
        cases fl with
        | next =>
          cases f <;> first | exact absurd q id | skip
          obtain ⟨F₂, ow₂, I₂, ex₂⟩ := q
          exact ⟨n, Nat.lt_succ_self n, F₂, σ₁, ow₂, I₂, ex.trans ex₂, h2⟩
        | brk =>
          cases h2
          cases f <;> first | exact absurd q id | skip
          obtain ⟨F₂, ow₂, I₂, ex₂⟩ := q
          exact ⟨F₂, ow₂, I₂, ex.trans ex₂⟩
        | ret x =>
          cases h2
          cases f <;> first | exact absurd q id | exact q
      | false =>
        obtain rfl := Option.some.inj hw
        exact wpAny_pure ⟨F', ow', I'.stay k, ex⟩

/-- what a for goes over -/
theorem for_it (H : Good W N T A) (nd : ns.Nodup) (I : Inv W ns env s₀ g₀ F K σ ow s) {it : It} {tg iter : Expr} {items : List PV} (hm : matchIt N ns env.scope.names it tg iter = true) (hx : evalFor T σ it = some items) :
    wpAny (model W.prog W.w) A (eval iter env) (fun xv s₁ => wpAny (model W.prog W.w) A (pyIter xv) (fun iv s₂ => ∃ g : View, (∀ a o, g a = some o → F a = some o) ∧ Iters W.prog W.w A tg W.C g s items iv s₂) Ex s₁) Ex s := by
  have toN : ∀ {it : It}, PItN W N T A ns it → matchIt N ns env.scope.names it tg iter = true → evalIt T (allEnv σ) it = some items → _ := fun {it} P hm hx =>
    wpAny_mono (P tg iter _ hm env _ s _ items rfl I.G I.allSub I.envA hx Ex) (fun xv s₁ q => wpAny_mono q (fun iv s₂ q => (⟨fun uu => none, (fun uu uu e => by (first | exact noS e | exact noB e | cases e)), q⟩ : ∃ g : View, (∀ a o, g a = some o → F a = some o) ∧ Iters W.prog W.w A tg W.C g s items iv s₂)) fun uu uu y => y) fun uu uu y => y
  have toF : ∀ {it : It}, PIt W N T A ns it → matchIt N ns env.scope.names it tg iter = true → evalIt T (frzEnv σ) it = some items → _ := fun {it} P hm hx =>
    wpAny_mono (P tg iter _ hm env _ s _ items rfl I.G I.hF I.envF hx Ex) (fun xv s₁ q => wpAny_mono q (fun iv s₂ q => (⟨F, fun uu uu e => e, q⟩ : ∃ g : View, (∀ a o, g a = some o → F a = some o) ∧ Iters W.prog W.w A tg W.C g s items iv s₂)) fun uu uu y => y) fun uu uu y => y
  cases it with
  | range1 b => exact toN (itN_range1 H (okE H nd b)) hm hx
  | range2 a b => exact toN (itN_range2 H (okE H nd a) (okE H nd b)) hm hx
  | range3 a b c => exact toN (itN_range3 H (okE H nd a) (okE H nd b) (okE H nd c)) hm hx
  | zip a b => exact toF (it_zip H (okE H nd a) (okE H nd b)) hm hx
  | e x =>
    have hx' : (match evalE T (frzEnv σ) x with
      | some v => itemsOf v
      | none => (evalE T (allEnv σ) x).bind fun v => match v with | .str s => itemsOf (.str s) | _ => none) = some items := hx
    cases hv : evalE T (frzEnv σ) x with
    | some v =>
      rw [hv] at hx'
      exact toF (it_e H (okE H nd x)) hm (by show (evalE T (frzEnv σ) x).bind itemsOf = _; rw [hv]; exact hx')
    | none =>
      rw [hv] at hx'
      refine bindK hx' fun v hv hx => ?_
      cases v with
      | str l =>
        refine wpAny_mono ((all_ok H nd I (show matchE N ns env.scope.names x iter = true from hm) hv).val Ex) (fun u s₁ p => ?_) fun uu uu y => y
        refine iter_data (tg := tg) (C := W.C) (g := fun uu => none) H.hh (fun uu uu e => by (first | exact noS e | exact noB e | cases e)) (Rep.scalar p.1.rep rfl) hx fun iv s₂ h => ⟨fun uu => none, (fun uu uu e => by (first | exact noS e | exact noB e | cases e)), ?_⟩
        exact Iters.back p.1.keeps h.mono fun uu uu e => by cases e
      | _ => exact noS hx

namespace Inv
theorem enlarge (I : Inv W ns env s₀ g₀ F K σ ow s) (h1 : ∀ a o, F a = some o → F' a = some o) (h2 : Sub F' s.heap) (h3 : ∀ a o, F' a = some o → F a = some o ∨ (s₀.heap.get? a = none ∧ ¬ Hot env a ∧ ∀ i : Nat, a ∉ ads (σ[i]?.join) (ow i))) :
    Inv W ns env s₀ g₀ F' K σ ow s where
  base := I.base
  sub₀ := I.sub₀
  G := I.G
  kinds := I.kinds
  hF := h2
  hK := I.hK
  low a o e := h1 _ _ (I.low a o e)
  up a o e := (h3 a o e).elim (I.up a o) fun q => .inr q.1
  keeps := I.keeps
  hot a h := by
    obtain ⟨q1, q2, q3⟩ := I.hot a h
    refine ⟨q1, ?_, q3⟩
    cases e : F' a with
    | none => rfl
    | some o =>
      rcases h3 a o e with q | q
      · rw [q2] at q; (first | exact noS q | exact noB q | cases q)
      · exact absurd h q.2.1
  cells := I.cells
  cinj := I.cinj
  slot i n sl hn hs := by
    obtain ⟨v, b, h⟩ := I.slot i n sl hn hs
    exact ⟨v, b, h.mono h1 fun uu uu uu e => e⟩
  own i a h := by
    obtain ⟨q0, q1, q2, q3⟩ := I.own i a h
    refine ⟨q0, q1, ?_, q3⟩
    cases e : F' a with
    | none => rfl
    | some o =>
      rcases h3 a o e with q | q
      · rw [q2] at q; (first | exact noS q | exact noB q | cases q)
      · exact absurd h (q.2.2 i)
  dis := I.dis
  len := I.len
  self := I.self
/-- objects off the frame, its lists and its views changed -/
theorem aside (I : Inv W ns env s₀ g₀ F K σ ow s) {wr : List Addr} {h' : Heap} {tk : Nat} (hw : ∀ b ∈ wr, s₀.heap.get? b = none ∧ F b = none ∧ K b = none ∧ ¬ Hot env b ∧ ∀ i : Nat, b ∉ ads (σ[i]?.join) (ow i))
    (hk : ∀ b o, b ∉ wr → s.heap.get? b = some o → h'.get? b = some o) : Inv W ns env s₀ g₀ F K σ ow { s with heap := h', toks := tk } := by
  have kh : ∀ a, Hot env a → ∀ o, s.heap.get? a = some o → h'.get? a = some o := fun a ha o e => hk a o (fun q => (hw a q).2.2.2.1 ha) e
  refine I.change (D := fun b => b ∈ wr) (fun b hb => ⟨(hw b hb).1, (hw b hb).2.1, (hw b hb).2.2.1⟩) hk ?_ (fun n c e => ?_) (fun i n sl hn hs => ?_) I.own I.dis I.len I.self
  · obtain ⟨m, f⟩ := I.G.fr
    exact ⟨m, f.ns.at fun o => kh _ (.inl rfl) o⟩
  · obtain ⟨uu, v, o, ho, hv⟩ := I.cells n c e
    exact ⟨v, o, kh _ (.inr ⟨n, e⟩) o ho, hv⟩
  · obtain ⟨v, b, h⟩ := I.slot i n sl hn hs
    exact ⟨v, b.mono kh, h.mono (fun uu uu e => e) fun a ha o e => hk a o (fun q => (hw a q).2.2.2.2 i (by rw [hs]; exact ha)) e⟩
end Inv

theorem s_for (H : Good W N T A) (nd : ns.Nodup) {t : Tg} {it : It} {b : Ss} (Pb : PSs W N T A ns fuel b) : PS W N T A ns fuel (.for t it b) := fun st sc hm env s₀ g₀ F K σ ow s r hsc I hr Ex => by
  subst hsc
  refine ms_for hm fun tg iter body pos m1 m2 m3 m4 => bindK hr fun items hit hr => ?_
  · refine wpAny_For (wpAny_mono (for_it H nd I m3 hit) (fun xv s₁ q => wpAny_mono q (fun iv s₂ q => ?_) fun uu uu y => y) fun uu uu y => y) (fold_eq m2)
    obtain ⟨g, hg, G, A₀, fp, wr, St, rfl, q⟩ := q
    have kS := keepsK q.keeps
    -- the view at the start
    have wrF : ∀ b ∈ wr, F b = none := fun b hb => by
      cases w : F b with
      | none => rfl
      | some o => have := I.hF b o w; rw [q.new b hb] at this; (first | exact noS this | exact noB this | cases this)
    have wrK : ∀ b ∈ wr, K b = none := fun b hb => by
      cases w : K b with
      | none => rfl
      | some o => have := I.hK b o w; rw [q.new b hb] at this; (first | exact noS this | exact noB this | cases this)
    have wr0 : ∀ b ∈ wr, s₀.heap.get? b = none := fun b hb => kept_none I.keep (q.new b hb)
    let F₂ : View := fun a => if a ∈ wr then none else gext F s.heap s₂.heap a
    have F₂in : ∀ a, a ∈ wr → F₂ a = none := fun a h => if_pos h
    have F₂out : ∀ a, a ∉ wr → F₂ a = gext F s.heap s₂.heap a := fun a h => if_neg h
    have F₂some : ∀ a o, F₂ a = some o → a ∉ wr ∧ gext F s.heap s₂.heap a = some o := fun a o e => by
      by_cases h : a ∈ wr
      · rw [F₂in a h] at e; (first | exact noS e | exact noB e | cases e)
      · rw [F₂out a h] at e; exact ⟨h, e⟩
    have le₂ : ∀ a o, F a = some o → F₂ a = some o := fun a o e => by
      rw [F₂out a fun h => by rw [wrF a h] at e; cases e]
      exact le_gext I.hF a o e
    have gnew : ∀ a o, gext F s.heap s₂.heap a = some o → F a = some o ∨ s.heap.get? a = none := fun a o e => by
      unfold gext at e
      split at e
      · exact .inl e
      · rename_i w; right; simpa using w
    have Knone : ∀ a, s.heap.get? a = none → K a = none := fun a e => by
      cases w : K a with
      | none => rfl
      | some o => rw [I.hK a o w] at e; (first | exact noS e | exact noB e | cases e)
    have I₂ : Inv W ns env s₀ g₀ F₂ K σ ow s₂ := I.grow q.keeps le₂ (fun a o e => gext_sub I.hF kS a o (F₂some a o e).2) fun a o e => gnew a o (F₂some a o e).2
    have ex₂ : Ext F F₂ K := ⟨le₂, fun a o e => (gnew a o (F₂some a o e).2).imp id (Knone a)⟩
    have GF : ∀ a o, G a = some o → F₂ a = some o := fun a o e => by
      rw [F₂out a fun h => by rw [q.off a h] at e; cases e]
      rcases q.view a o e with w | w
      · exact le_gext I.hF a o (hg a o w)
      · rw [gext_new w]; exact q.sub a o e
    have fpok : ∀ a ∈ fp, ¬ Hot env a ∧ ∀ i : Nat, a ∉ ads (σ[i]?.join) (ow i) := fun a ha => by
      rcases q.feet a ha with w | ⟨o, w⟩
      · exact ⟨fun h => (by obtain ⟨o, z⟩ := I.thereHot h; rw [z] at w; (first | exact noS w | exact noB w | cases w)), fun i h => (by obtain ⟨o, z⟩ := I.thereOwn h; rw [z] at w; (first | exact noS w | exact noB w | cases w))⟩
      · have w := hg a o w
        exact ⟨fun h => (by rw [(I.hot a h).2.1] at w; (first | exact noS w | exact noB w | cases w)), fun i h => (by rw [(I.own i a h).2.2.1] at w; (first | exact noS w | exact noB w | cases w))⟩
    let J : Nat → Shared → Prop := fun k s' => ∃ (i : Nat) (F' : View) (σ' : Sig) (ow' : Nat → Addr × Addr), Inv W ns env s₀ g₀ F' K σ' ow' s' ∧ Ext F F' K ∧ St i s'.heap ∧ (∀ b ∈ wr, F' b = none) ∧ (∀ a o, G a = some o → F' a = some o) ∧
      (∀ a ∈ fp, ¬ Hot env a ∧ ∀ j : Nat, a ∉ ads (σ'[j]?.join) (ow' j)) ∧ forL (fun σ x => (bindS σ t x).bind fun σ' => execSs T fuel σ' b) (items.drop i) σ' = some r ∧ i ≤ items.length ∧ k = items.length - i
    refine codeAny_forLoop_any J (fun k s' hJ => ?_) items.length ⟨0, F₂, σ, ow, I₂, ex₂, q.st, F₂in, GF, fpok, hr, Nat.zero_le _, rfl⟩
    obtain ⟨i, F', σ', ow', I', ex', hst, hwr, hG, hfp, hfl, hi, rfl⟩ := hJ
    have offwr : ∀ b ∈ wr, s₀.heap.get? b = none ∧ F' b = none ∧ K b = none ∧ ¬ Hot env b ∧ ∀ j : Nat, b ∉ ads (σ'[j]?.join) (ow' j) := fun b hb =>
      ⟨wr0 b hb, hwr b hb, wrK b hb, hfp b (q.wk.sub b hb)⟩
    by_cases hlt : i < items.length
    · have hx : items[i]? = some items[i] := List.getElem?_eq_getElem hlt
      rw [List.drop_eq_getElem_cons hlt] at hfl
      refine bindK hfl fun r₁ hfl₁ hrest => bindK hfl₁ fun σ₁ hb hbody => ?_
      refine q.wk.turn i items[i] s' _ _ hx hst (fun a o e => I'.hF a o (hG a o e)) fun v s₃ hgo => ?_
      refine hgo _ fun h₂ tk₂ hst₂ hk₂ hrep => ?_
      have I₃ : Inv W ns env s₀ g₀ F' K σ' ow' { s' with heap := h₂, toks := tk₂ } := I'.aside offwr hk₂
      -- all that the turn made is held
      have wrthere : ∀ b ∈ wr, ∃ o, s'.heap.get? b = some o := fun b hb => q.wk.mem i _ hst b (q.wk.sub b hb)
      have g2 : ∀ a o, gext F' s'.heap h₂ a = some o → F' a = some o ∨ (s'.heap.get? a = none ∧ h₂.get? a = some o) := fun a o e => by
        unfold gext at e
        split at e
        · exact .inl e
        · rename_i w; exact .inr ⟨by simpa using w, e⟩
      have I₄ : Inv W ns env s₀ g₀ (gext F' s'.heap h₂) K σ' ow' { s' with heap := h₂, toks := tk₂ } := I₃.enlarge (le_gext I'.hF) (fun a o e => by
          rcases g2 a o e with w | w
          · exact I₃.hF a o w
          · exact w.2) fun a o e => by
          rcases g2 a o e with w | ⟨w, _⟩
          · exact .inl w
          · exact .inr ⟨kept_none I'.keep w, fun h => (by obtain ⟨o, z⟩ := I'.thereHot h; rw [z] at w; (first | exact noS w | exact noB w | cases w)), fun j h => (by obtain ⟨o, z⟩ := I'.thereOwn h; rw [z] at w; (first | exact noS w | exact noB w | cases w))⟩
      have I₅ := I₄.widen (P := fp) hfp
      have kle := I₄.widen_le (P := fp)
      have hrep' : Rep W.C (gext F' s'.heap h₂) items[i] v := Rep.mono (View.le_of fun a o e => by
        unfold gext at e ⊢
        split at e
        · rename_i w; rw [if_pos w]; exact hG a o e
        · rename_i w; rw [if_neg w]; exact e) _ hrep
      refine wpAny_mono (I₅.assignF H.hh nd (fun uu => LC_of) m1 hrep' hb) (fun uu s₄ z => ?_) fun uu uu y => y
      obtain ⟨ow₁, I₆⟩ := z
      refine wpAny_mono (Pb _ _ m4 env s₀ g₀ _ _ σ₁ ow₁ s₄ r₁ rfl I₆ hbody _) (fun f s₅ z => ?_) fun uu uu y => y
      have exT : ∀ F₅ : View, Ext (gext F' s'.heap h₂) F₅ (widenV K h₂ fp) → Ext F F₅ K := fun F₅ e => by
        refine ⟨fun a o w => e.1 a o (le_gext I'.hF a o (ex'.1 a o w)), fun a o w => ?_⟩
        rcases e.2 a o w with w | w
        · rcases g2 a o w with w | ⟨w, _⟩
          · exact ex'.2 a o w
          · right
            cases z : K a with
            | none => rfl
            | some o' => rw [I'.hK a o' z] at w; (first | exact noS w | exact noB w | cases w)
        · right
          cases z : K a with
          | none => rfl
          | some o' => have := kle a o' z; rw [w] at this; (first | exact noS this | exact noB this | cases this)
      obtain ⟨σ₂, fl⟩ := r₁
      cases fl with
      | next =>
        cases f <;> first | exact absurd z id | skip
        obtain ⟨F₅, ow₅, I₇, e₅⟩ := z
        have hfpK : ∀ a ∈ fp, ∃ o, widenV K h₂ fp a = some o := fun a ha => by rw [widenV_in ha]; exact q.wk.mem _ _ hst₂ a ha
        refine ⟨items.length - (i + 1), by omega, i + 1, F₅, σ₂, ow₅, I₇.narrow kle, exT F₅ e₅, ?_, fun c hc => ?_, fun a o e => e₅.1 a o (le_gext I'.hF a o (hG a o e)), fun a ha => ?_, hrest, hlt, rfl⟩
        · exact q.wk.frame _ _ _ hst₂ fun c hc o e => I₇.hK c o (by rw [widenV_in hc]; exact e)
        · cases w : F₅ c with
          | none => rfl
          | some o =>
            rcases e₅.2 c o w with w | w
            · rcases g2 c o w with w | ⟨w, _⟩
              · rw [hwr c hc] at w; (first | exact noS w | exact noB w | cases w)
              · obtain ⟨o', z⟩ := wrthere c hc; rw [z] at w; (first | exact noS w | exact noB w | cases w)
            · obtain ⟨o', z⟩ := hfpK c (q.wk.sub c hc); rw [w] at z; (first | exact noS z | exact noB z | cases z)
        · obtain ⟨o, z⟩ := hfpK a ha
          exact ⟨fun h => (by rw [(I₇.hot a h).2.2] at z; (first | exact noS z | exact noB z | cases z)), fun j h => (by rw [(I₇.own j a h).2.2.2] at z; (first | exact noS z | exact noB z | cases z))⟩
      | brk =>
        (first | exact noS hrest | exact noB hrest | cases hrest)
        cases f <;> first | exact absurd z id | skip
        obtain ⟨F₅, ow₅, I₇, e₅⟩ := z
        exact ⟨F₅, ow₅, I₇.narrow kle, exT F₅ e₅⟩
      | ret x =>
        (first | exact noS hrest | exact noB hrest | cases hrest)
        cases f <;> first | exact absurd z id | exact z
    · have hi' : i = items.length := by omega
      subst hi'
      rw [List.drop_length] at hfl
      obtain rfl : (σ', Fl.next) = r := Option.some.inj hfl
      refine q.wk.done s' _ _ hst fun h' tk hk => ?_
      exact wpAny_pure ⟨F', ow', I'.aside offwr hk, ex'⟩
end
end Mp
end

section
set_option maxRecDepth 20000
/-! MiniPy: an instance's own names set; all statements; a def called. -/
namespace Mp
open PySem PySem.Calls PyProof.Rows PySem.W

theorem Ents.snoc {n : Str} {h : Int} {t : Tok} {v : Value} : ∀ {names : List Str} {es : List DictEntry} {vs : List Value}, Ents names es vs → names[vs.length]? = some n → Ents names (es ++ [⟨h, .str n t, v⟩]) (vs ++ [v])
  | [], [], vs, e, hn => by simp at hn
  | m :: r, [], vs, e, hn => by
    have e : vs = [] := e
    subst e
    simp only [List.length_nil, List.getElem?_cons_zero, Option.some.injEq] at hn
    subst hn
    exact ⟨v, [], h, t, rfl, rfl, by cases r <;> rfl⟩
  | m :: r, x :: es, vs, ⟨u, w, h', t', e1, e2, e3⟩, hn => by
    subst e1
    exact ⟨u, w ++ [v], h', t', rfl, e2, Ents.snoc e3 (by simpa using hn)⟩
  | [], _ :: _, _, e, _ => e.elim
theorem Ents.length : ∀ {names : List Str} {es : List DictEntry} {vs : List Value}, Ents names es vs → es.length = vs.length
  | [], [], _, e => by (first | exact noS e | exact noB e | cases e); rfl
  | _ :: _, [], _, e => by (first | exact noS e | exact noB e | cases e); rfl
  | _ :: _, _ :: _, _, ⟨_, _, _, _, e1, _, e3⟩ => by subst e1; simp [e3.length]
  | [], _ :: _, _, e => e.elim

section
variable {W : Wd} {N : NT} {T : Tabs} {A : Around} {ns : List Str} {env : Env} {s₀ s s' : Shared} {g₀ F F' K : View} {σ : Sig} {ow : Nat → Addr × Addr} {Ex : Value → Shared → Prop} {fuel : Nat}

theorem Inv.mutSelf (I : Inv W ns env s₀ g₀ F K σ ow s) {i : Nat} {l : List PV} {x : PV} {v : Value} {n : Str} (h : σ[i]? = some (some (.self l))) {h' : Heap} {tk : Nat} (hb : Heap.SameBut (ow i).2 s.heap h') {es : List DictEntry} {vs : List Value} {m : Nat} {hs : Int} {t : Tok}
    (hes : Ents fieldNames es vs) (hr : Reps W.C F l vs) (hfn : fieldNames[vs.length]? = some n) (hl : h'.get? (ow i).2 = some (dictOf (es ++ [⟨hs, .str n t, v⟩]) m)) (r : Rep W.C F x v) :
    Inv W ns env s₀ g₀ F K (σ.set i (some (.self (l ++ [x])))) ow { s with heap := h', toks := tk } := by
  have hi : i < σ.length := (List.getElem?_eq_some_iff.mp h).1
  have hin : (ow i).2 ∈ ads (σ[i]?.join) (ow i) := by rw [h]; exact self_2
  have hin1 : (ow i).1 ∈ ads (σ[i]?.join) (ow i) := by rw [h]; exact self_1
  have q := I.own i _ hin
  have hk : ∀ b o, ¬ (b = (ow i).2) → s.heap.get? b = some o → h'.get? b = some o := fun b o e q => hb.extBut b o e q
  have hot : ∀ a, Hot env a → ∀ o, s.heap.get? a = some o → h'.get? a = some o := fun a ha o e => hk a o (fun z => q.1 (z ▸ ha)) e
  have same : ∀ j, ads ((σ.set i (some (.self (l ++ [x]))))[j]?.join) (ow j) = ads (σ[j]?.join) (ow j) := fun j => by
    rw [Inv.set_get hi]
    by_cases e : j = i
    · subst e; rw [if_pos rfl, h]; rfl
    · rw [if_neg e]
  refine I.change (D := fun b => b = (ow i).2) (fun b e => by subst e; exact q.2) hk ?_ (fun n c e => ?_) (fun j n' sl' hn' hs' => ?_) (fun j a ha => I.own j a (by rw [same] at ha; exact ha)) (fun j k a ha hb => I.dis j k a (by rw [same] at ha; exact ha) (by rw [same] at hb; exact hb)) (by rw [List.length_set]; exact I.len) (fun j l hl => by
      rw [Inv.set_get hi] at hl
      by_cases e : j = i
      · rw [e]; exact I.self i _ h
      · rw [if_neg e] at hl; exact I.self j l hl)
  · obtain ⟨m, f⟩ := I.G.fr
    exact ⟨m, f.ns.at fun o => hot _ (.inl rfl) o⟩
  · obtain ⟨uu, v, o, ho, hv⟩ := I.cells n c e
    exact ⟨v, o, hot _ (.inr ⟨n, e⟩) o ho, hv⟩
  · rw [Inv.set_get hi] at hs'
    by_cases e : j = i
    · subst e
      rw [if_pos rfl] at hs'
      (first | exact noS hs' | exact noB hs' | cases hs')
      obtain ⟨u, b, z⟩ := I.slot j n' _ hn' h
      obtain ⟨e0, es', n₁, vs', e1, e2, e3, e4⟩ := z
      refine ⟨u, b.mono hot, e0, _, m, vs ++ [v], hk _ _ (fun z => ?_) e1, hl, hes.snoc hfn, Reps.append hr (Reps.cons r Reps.nil)⟩
      rw [z, e2] at e1
      have := congrArg Obj.cls (Option.some.inj e1)
      (first | exact noS this | exact noB this | cases this)
    · rw [if_neg e] at hs'
      obtain ⟨u, b, z⟩ := I.slot j n' sl' hn' hs'
      refine ⟨u, b.mono hot, I.slots_off hk hs' (fun a ha z => e (I.dis j i a (by rw [hs']; exact ha) (by rw [z]; exact hin))) z⟩

theorem s_setA (H : Good W N T A) (nd : ns.Nodup) {x a : Nat} {e : E} : PS W N T A ns fuel (.setA x a e) := fun st sc hm env s₀ g₀ F K σ ow s r hsc I hr Ex => by
  subst hsc
  refine ms_setA hm fun n p an tpos value pos hn hv hf he => ?_
  · change (match σ[x]? with | some (some (.self fs)) => (evalM T σ .frz e).bind fun v => if a = fs.length then some (σ.set x (some (.self (fs ++ [v]))), Fl.next) else none | _ => none) = _ at hr
    generalize hsl : σ[x]? = y at hr
    match y, hsl, hr with
    | none, _, hr => exact noS hr
    | some none, _, hr => exact noS hr
    | some (some (.frz _)), _, hr => exact noS hr
    | some (some (.own _)), _, hr => exact noS hr
    | some (some (.self fs)), hsl, hr =>
      refine bindK hr fun v hv' hr => ?_
      split at hr
      · rename_i ha
        (first | exact noS hr | exact noB hr | cases hr)
        refine plainObj_wpAny_Assign_Attribute (wpAny_mono (evalM_ok H nd I he hv') (fun u s₁ q => ?_) fun uu uu y => y) (by cases value <;> rfl)
        obtain ⟨k₁, F', I', ex, ru⟩ := q
        obtain ⟨v0, b, e0, es, m, vs, e1, e2, e3, e4⟩ := I'.slot _ _ _ hn hsl
        subst e0
        have hname : wpAny (model W.prog W.w) A (eval (.Name n p) env) (fun ov s₂ => wpAny (model W.prog W.w) A (setAttr ov an u) (fun uu s' => Out W ns env s₀ g₀ F K (σ.set x (some (.self (fs ++ [v]))), .next) .next s') Ex s₂) Ex s₁ := by
          have fin := H.setA a an hf s₁ (ow x).1 (ow x).2 es m vs u Ex (fun uu s' => Out W ns env s₀ g₀ F K (σ.set x (some (.self (fs ++ [v]))), .next) .next s') I'.G.base e1 e2 e3 (by rw [e4.length, ha])
            fun h' tk hs t m' g1 g2 => out_next rfl (I'.mutSelf hsl g2 e3 e4 (by rw [e4.length, ← ha]; exact hf) g1 ru) ex
          rcases b.kind with e | e
          · obtain ⟨m, q1, q2⟩ := b.1 e
            exact wpAny_Name (wpAny_loadName_local I'.G.fn e q1 q2 fin) (isV_cases hv).2.1
          · obtain ⟨c, q1, q2⟩ := b.2 e
            exact wpAny_Name (wpAny_loadName_cell I'.G.fn e q1 q2 fin) (isV_cases hv).2.1
        exact hname
      · (first | exact noS hr | exact noB hr | cases hr)

noncomputable def isFz : S → Bool
  | .frz _ => true
  | _ => false
mutual
theorem okS (H : Good W N T A) (nd : ns.Nodup) : ∀ b, PS W N T A ns fuel b
  | .asg _ _ _ => s_asg H nd
  | .asg2 _ _ _ => s_asg2 H nd
  | .asg3 _ _ _ _ => s_asg3 H nd
  | .aug _ _ _ => s_aug H nd
  | .setI _ _ _ _ => s_setI H nd
  | .augI _ _ _ _ => s_augI H nd
  | .app _ _ _ => s_app H nd
  | .ext _ _ => s_ext H nd
  | .pop _ => s_pop H nd
  | .popTo _ _ => s_popTo H nd
  | .setA _ _ _ => s_setA H nd
  | .ite _ a b => s_ite H nd (okSs H nd a) (okSs H nd b)
  | .whl _ b => s_whl H nd (okSs H nd b)
  | .for _ _ b => s_for H nd (okSs H nd b)
  | .ret _ => s_ret H nd
  | .brk => s_brk
  | .frz _ => s_frz
theorem okSs (H : Good W N T A) (nd : ns.Nodup) : ∀ b, PSs W N T A ns fuel b
  | .nil => ss_nil
  | .cons (.frz _) l => ss_frz (okSs H nd l)
  | .cons (.asg m t e) l => ss_cons (fun uu h => noB (congrArg isFz h)) (okS H nd (.asg m t e)) (okSs H nd l)
  | .cons (.asg2 x y e) l => ss_cons (fun uu h => noB (congrArg isFz h)) (okS H nd (.asg2 x y e)) (okSs H nd l)
  | .cons (.asg3 x y z e) l => ss_cons (fun uu h => noB (congrArg isFz h)) (okS H nd (.asg3 x y z e)) (okSs H nd l)
  | .cons (.aug x o e) l => ss_cons (fun uu h => noB (congrArg isFz h)) (okS H nd (.aug x o e)) (okSs H nd l)
  | .cons (.setI m x i e) l => ss_cons (fun uu h => noB (congrArg isFz h)) (okS H nd (.setI m x i e)) (okSs H nd l)
  | .cons (.augI x i o e) l => ss_cons (fun uu h => noB (congrArg isFz h)) (okS H nd (.augI x i o e)) (okSs H nd l)
  | .cons (.app m x e) l => ss_cons (fun uu h => noB (congrArg isFz h)) (okS H nd (.app m x e)) (okSs H nd l)
  | .cons (.ext x e) l => ss_cons (fun uu h => noB (congrArg isFz h)) (okS H nd (.ext x e)) (okSs H nd l)
  | .cons (.pop x) l => ss_cons (fun uu h => noB (congrArg isFz h)) (okS H nd (.pop x)) (okSs H nd l)
  | .cons (.popTo y x) l => ss_cons (fun uu h => noB (congrArg isFz h)) (okS H nd (.popTo y x)) (okSs H nd l)
  | .cons (.setA x a e) l => ss_cons (fun uu h => noB (congrArg isFz h)) (okS H nd (.setA x a e)) (okSs H nd l)
  | .cons (.ite t a b) l => ss_cons (fun uu h => noB (congrArg isFz h)) (okS H nd (.ite t a b)) (okSs H nd l)
  | .cons (.whl t b) l => ss_cons (fun uu h => noB (congrArg isFz h)) (okS H nd (.whl t b)) (okSs H nd l)
  | .cons (.for t it b) l => ss_cons (fun uu h => noB (congrArg isFz h)) (okS H nd (.for t it b)) (okSs H nd l)
  | .cons (.ret e) l => ss_cons (fun uu h => noB (congrArg isFz h)) (okS H nd (.ret e)) (okSs H nd l)
  | .cons .brk l => ss_cons (fun uu h => noB (congrArg isFz h)) (okS H nd .brk) (okSs H nd l)
end
end
end Mp
end

section
set_option maxRecDepth 20000
/-! MiniPy: a def called. -/
namespace Mp
open PySem PySem.Calls PyProof.Rows PySem.W

theorem bindL_skip {ko : Str → Option NameKind} {n : Str} : ∀ {bs : List (Str × Value)} {m : Str → Option Value}, (∀ p ∈ bs, p.1 ≠ n) → bindL ko bs m n = m n
  | [], m, _ => rfl
  | (k, v) :: r, m, h => by
    unfold bindL
    rw [bindL_skip fun p hp => h p (List.mem_cons_of_mem _ hp)]
    have : n ≠ k := fun e => h (k, v) List.mem_cons_self e.symm
    split <;> simp [this]
theorem bindC_skip {ko : Str → Option NameKind} {n : Str} : ∀ {bs : List (Str × Value)} {m : Str → Option Value}, (∀ p ∈ bs, p.1 ≠ n) → bindC ko bs m n = m n
  | [], m, _ => rfl
  | (k, v) :: r, m, h => by
    unfold bindC
    rw [bindC_skip fun p hp => h p (List.mem_cons_of_mem _ hp)]
    have : n ≠ k := fun e => h (k, v) List.mem_cons_self e.symm
    split <;> simp [this]
theorem zip_head {ns : List Str} {n : Str} {k : Nat} {vs : List Value} (nd : (n :: ns).Nodup) : ∀ p ∈ (ns.take k).zip vs, p.1 ≠ n := fun p hp e => by
  have := (List.of_mem_zip hp).1
  have := List.mem_of_mem_take this
  rw [e] at this
  exact (List.nodup_cons.mp nd).1 this
theorem bindL_get {ko : Str → Option NameKind} : ∀ {ns : List Str} {vs : List Value} {i : Nat} {n : Str} {v : Value} {m : Str → Option Value}, ns.Nodup → ns[i]? = some n → vs[i]? = some v → ko n = some .local → bindL ko ((ns.take vs.length).zip vs) m n = some v
  | [], _, _, _, _, _, _, h, _, _ => by simp at h
  | _ :: _, [], _, _, _, _, _, _, h, _ => by simp at h
  | k :: ns, u :: vs, 0, n, v, m, nd, h1, h2, hk => by
    simp only [List.getElem?_cons_zero, Option.some.injEq] at h1 h2
    subst h1 h2
    simp only [List.length_cons, List.take_succ_cons, List.zip_cons_cons, bindL, if_pos hk]
    rw [bindL_skip (zip_head nd)]; simp
  | k :: ns, u :: vs, i + 1, n, v, m, nd, h1, h2, hk => by
    simp only [List.getElem?_cons_succ] at h1 h2
    simp only [List.length_cons, List.take_succ_cons, List.zip_cons_cons, bindL]
    exact bindL_get (List.nodup_cons.mp nd).2 h1 h2 hk
theorem bindC_get {ko : Str → Option NameKind} : ∀ {ns : List Str} {vs : List Value} {i : Nat} {n : Str} {v : Value} {m : Str → Option Value}, ns.Nodup → ns[i]? = some n → vs[i]? = some v → ko n = some .cell → bindC ko ((ns.take vs.length).zip vs) m n = some v
  | [], _, _, _, _, _, _, h, _, _ => by simp at h
  | _ :: _, [], _, _, _, _, _, _, h, _ => by simp at h
  | k :: ns, u :: vs, 0, n, v, m, nd, h1, h2, hk => by
    simp only [List.getElem?_cons_zero, Option.some.injEq] at h1 h2
    subst h1 h2
    simp only [List.length_cons, List.take_succ_cons, List.zip_cons_cons, bindC]
    rw [if_neg (by rw [hk]; decide), bindC_skip (zip_head nd)]; simp
  | k :: ns, u :: vs, i + 1, n, v, m, nd, h1, h2, hk => by
    simp only [List.getElem?_cons_succ] at h1 h2
    simp only [List.length_cons, List.take_succ_cons, List.zip_cons_cons, bindC]
    exact bindC_get (List.nodup_cons.mp nd).2 h1 h2 hk

theorem cellsFrom_mono : ∀ {names : Sc} {k : Nat} {acc : List (Str × Addr)} {n : Str}, (acc.lookup n).isSome = true → ((cellsFrom k names acc).lookup n).isSome = true
  | [], _, _, _, h => h
  | (m, kd) :: r, k, acc, n, h => by
    unfold cellsFrom
    split
    · refine cellsFrom_mono ?_
      rw [List.lookup_cons]
      split
      · rfl
      · exact h
    · exact cellsFrom_mono h
theorem cellsFrom_has : ∀ {names : Sc} {k : Nat} {acc : List (Str × Addr)} {n : Str}, names.lookup n = some .cell → ((cellsFrom k names acc).lookup n).isSome = true
  | [], _, _, _, h => by simp at h
  | (m, kd) :: r, k, acc, n, h => by
    rw [List.lookup_cons] at h
    unfold cellsFrom
    split at h
    · rename_i q
      (first | exact noS h | exact noB h | cases h)
      rw [if_pos (by rfl)]
      refine cellsFrom_mono ?_
      rw [List.lookup_cons, q]; rfl
    · split
      · exact cellsFrom_has h
      · exact cellsFrom_has h

/-- what is checked of a def, once and for all -/
noncomputable def defOk (N : NT) (ns : List Str) (fd : FuncData) (body : List Stmt) (b : Ss) : Bool :=
  fd.scope.kind == .function && !fd.scope.isCoroutine && !fd.scope.isGenerator && fd.closure.isEmpty && (fd.globals == mainGlobals) && (fd.builtins == builtinsNs) &&
  fd.scope.names.all (fun p => p.2 != .free) && (ns.take fd.params.args.length).all (fun n => fd.scope.names.lookup n == some .local || fd.scope.names.lookup n == some .cell) && decide ns.Nodup && matchSs N ns fd.scope.names b body

section
variable {W : Wd} {N : NT} {T : Tabs} {A : Around} {ns : List Str} {fuel : Nat}

theorem inv_start {env : Env} {g : View} {s s₁ : Shared} {m cm : Str → Option Value} {vs : List Value} {xs : List PV} (base : Keep W.h₀ s.heap) (hf : W.h₀.objs.size ≤ s.heap.objs.size) (hs : Sub g s.heap) (hr : Reps W.C g xs vs)
    (x : InCallC s env.locals (bindL env.kindOf ((ns.take vs.length).zip vs) m) env.cells (bindC env.kindOf ((ns.take vs.length).zip vs) cm) s₁)
    (gl : env.globals = mainGlobals) (bu : env.builtins = builtinsNs) (fn : env.scope.kind = .function) (nd : ns.Nodup) (hle : xs.length ≤ ns.length)
    (kinds : ∀ (i : Nat) (n : Str), i < xs.length → ns[i]? = some n → LC env n) (nofree : ∀ n, env.kindOf n ≠ some .free) (cl : ∀ n, (env.kindOf n = some .cell ∨ env.kindOf n = some .free) → ∃ c, env.cells.lookup n = some c) :
    Inv W ns env s g g (fun uu => none) (xs.map (fun x => some (Sl.frz x)) ++ List.replicate (ns.length - xs.length) none) (fun uu => (0, 0)) s₁ := by
  have hnew : ∀ a, s.heap.objs.size ≤ a → s.heap.get? a = none := fun a h => by
    cases q : s.heap.get? a with
    | none => rfl
    | some o => exact absurd (Heap.lt_size q) (Nat.not_lt.mpr h)
  have hotL : ∀ a, Hot env a → s.heap.get? a = none := fun a h => by
    rcases h with rfl | ⟨n, e⟩
    · exact hnew _ x.toInCall.fresh
    · exact hnew _ (Nat.le_of_lt (Nat.lt_of_le_of_lt x.toInCall.fresh (x.above n a (mem_of_lookup e))))
  have ads0 : ∀ (i : Nat) a, a ∉ ads (((xs.map (fun x => some (Sl.frz x)) ++ List.replicate (ns.length - xs.length) none : Sig)[i]?).join) (0, 0) := fun i a h => by
    rw [List.getElem?_append] at h
    split at h
    · rw [List.getElem?_map] at h
      cases q : xs[i]? with
      | none => rw [q] at h; exact ads_none h
      | some y => rw [q] at h; exact ads_frz h
    · rw [List.getElem?_replicate] at h
      split at h <;> exact ads_none h
  refine ⟨base, hs, ⟨gl, bu, fn, ?_, cl⟩, fun uu n uu => nofree n, fun a o e => x.toInCall.keep a o (hs a o e), (fun uu uu e => by (first | exact noS e | exact noB e | cases e)), fun uu uu e => e, fun uu uu e => .inl e, ?_, fun a h => ⟨hotL a h, ?_, rfl⟩, fun n c e => ⟨Nat.ne_of_gt (x.above n c (mem_of_lookup e)), _, x.cell n c e⟩,
    fun n n' c e e' => name_of_addr x.apart (mem_of_lookup e) (mem_of_lookup e'), fun i n sl hn hsl => ?_, fun i a h => absurd h (ads0 i a), fun i j a h => absurd h (ads0 i a), ?_, fun i l hl => ?_⟩
  · exact ⟨_, x.toInCall.ns, fun b o e => x.toInCall.keep b o (base b o e), Nat.le_trans hf x.toInCall.fresh⟩
  · obtain ⟨h, tk, rfl⟩ := x.toInCall.same
    exact ⟨h, tk, rfl, x.toInCall.keep⟩
  · cases q : g a with
    | none => rfl
    | some o => have := hs a o q; rw [hotL a h] at this; (first | exact noS this | exact noB this | cases this)
  · rw [List.getElem?_append] at hsl
    split at hsl
    · rw [List.getElem?_map] at hsl
      cases q : xs[i]? with
      | none => rw [q] at hsl; cases hsl
      | some y =>
        rw [q] at hsl
        (first | exact noS hsl | exact noB hsl | cases hsl)
        obtain ⟨v, hv, r⟩ := hr.get q
        refine ⟨v, ⟨fun e => ⟨_, x.toInCall.ns, bindL_get nd hn hv e⟩, fun e => ?_, kinds i n (List.getElem?_eq_some_iff.mp q).1 hn⟩, r⟩
        obtain ⟨c, hc⟩ := cl n (.inl e)
        refine ⟨c, hc, ?_⟩
        have := x.cell n c hc
        rwa [bindC_get nd hn hv e] at this
    · rw [List.getElem?_replicate] at hsl
      split at hsl <;> (first | exact noS hsl | exact noB hsl | cases hsl)
  · simp; omega
  · rw [List.getElem?_append] at hl
    split at hl
    · rw [List.getElem?_map] at hl
      cases q : xs[i]? with
      | none => rw [q] at hl; cases hl
      | some y => rw [q] at hl; (first | exact noS hl | exact noB hl | cases hl)
    · rw [List.getElem?_replicate] at hl
      split at hl <;> (first | exact noS hl | exact noB hl | cases hl)

/-- a def of the program, run -/
theorem def_run {a : Addr} {o : Obj} {fd : FuncData} {body : List Stmt} {b : Ss} {xs : List PV} {r : PV} {g : View} {s : Shared} {vs : List Value} {R : Result → Shared → Prop} (hroom : A.depth < recursionLimit) (ho : W.h₀.get? a = some o) (hd : o.data = .func fd) (hlim : W.h₀.NoLimit) (hcd : W.h₀.CodeRec fd.code fd.qualname)
    (hbody : fd.body = .stmts body) (hok : defOk N ns fd body b = true) (hbind : ∀ vs : List Value, vs.length = xs.length → bindArgs fd ⟨vs, []⟩ = pure ((ns.take vs.length).zip vs)) (hle : xs.length ≤ ns.length) (hnp : xs.length ≤ fd.params.args.length)
    (H : ∀ env, Good W N T (A.deeper env)) (hr : callF T fuel ns.length b xs = some r) (base : Keep W.h₀ s.heap) (hsz : W.h₀.objs.size ≤ s.heap.objs.size) (hs : Sub g s.heap) (hrep : Reps W.C g xs vs)
    (hR : ∀ v s', Post W.C g s r v s' → R (.ok (.ret v)) s') : codeAny (model W.prog W.w) A (.call (.ref a) ⟨vs, []⟩) R s := by
  simp only [defOk, Bool.and_eq_true, beq_iff_eq, Bool.not_eq_true', List.isEmpty_iff, List.all_eq_true, bne_iff_ne, ne_eq, Bool.or_eq_true, decide_eq_true_eq] at hok
  obtain ⟨⟨⟨⟨⟨⟨⟨⟨⟨k1, k2⟩, k3⟩, k4⟩, k5⟩, k6⟩, k7⟩, k8⟩, k9⟩, k10⟩ := hok
  have hlen : vs.length = xs.length := hrep.length
  have kinds : ∀ (i : Nat) (n : Str), i < xs.length → ns[i]? = some n → fd.scope.names.lookup n = some .local ∨ fd.scope.names.lookup n = some .cell := fun i n hi hn => k8 n (List.mem_of_getElem? (i := i) (by rw [List.getElem?_take, if_pos (Nat.lt_of_lt_of_le hi hnp)]; exact hn))
  refine codeAny_call_cells hroom (base _ _ ho) hd (hlim.keeps base) (hcd.keeps base) hbody (hbind vs hlen) k4 (fun p hp => ?_) (fun s₁ x => ?_) k2 k3 k1
  · obtain ⟨i, hi⟩ := List.mem_iff_getElem?.mp (List.of_mem_zip hp).1
    rw [List.getElem?_take] at hi
    split at hi <;> try (cases hi; done)
    rename_i hlt
    rcases kinds i _ (by rw [← hlen]; exact hlt) hi with q | q
    · exact .inl q
    · exact .inr ⟨q, cellsFrom_has q⟩
  · have I := inv_start (ns := ns) base hsz hs hrep x k5 k6 k1 k9 hle kinds (fun n hn => k7 _ (mem_of_lookup hn) rfl) (fun n hn => by
      rcases hn with q | q
      · exact Option.isSome_iff_exists.mp (cellsFrom_has q)
      · exact absurd rfl (k7 _ (mem_of_lookup q)))
    refine bindK hr fun r₁ h1 h2 => ?_
    refine wpAny_mono (okSs (H _) k9 b body _ k10 _ s g g _ _ _ s₁ r₁ rfl I h1 _) (fun f s' z => hR _ _ ?_) fun uu uu y => y
    have fin : ∀ {x : PV} {v : Value}, Keeps s s' → Rep W.C (allV (callEnvC fd s.heap.objs.size a) s.heap g s'.heap) x v → Post W.C g s x v s' := fun {x v} k q => by
      refine ⟨k, Rep.mono (View.le_of fun a o e => ?_) _ q⟩
      unfold allV at e
      unfold gext
      split at e
      · rename_i w; rw [if_pos w]; exact e
      · rename_i w; rw [if_neg w]
        split at e
        · (first | exact noS e | exact noB e | cases e)
        · exact e
    obtain ⟨σ', fl⟩ := r₁
    cases fl with
    | next =>
      cases h2
      cases f <;> first | exact absurd z id | skip
      obtain ⟨F', ow', I', uu⟩ := z
      exact sc_post I'.keeps rfl
    | brk => cases h2
    | ret y =>
      cases h2
      cases f <;> first | exact absurd z id | skip
      exact fin z.1 z.2
/-- a def of the program, called -/
theorem def_ok {a : Addr} {o : Obj} {fd : FuncData} {body : List Stmt} {b : Ss} {xs : List PV} {r : PV} (hroom : A.depth < recursionLimit) (ho : W.h₀.get? a = some o) (hd : o.data = .func fd) (hlim : W.h₀.NoLimit) (hcd : W.h₀.CodeRec fd.code fd.qualname)
    (hbody : fd.body = .stmts body) (hok : defOk N ns fd body b = true) (hbind : ∀ vs : List Value, vs.length = xs.length → bindArgs fd ⟨vs, []⟩ = pure ((ns.take vs.length).zip vs)) (hle : xs.length ≤ ns.length) (hnp : xs.length ≤ fd.params.args.length)
    (H : ∀ env, Good W N T (A.deeper env)) (hr : callF T fuel ns.length b xs = some r) : CallOK W A (.ref a) xs r := fun g s vs E hs hf hrep =>
  wpAny_call (def_run hroom ho hd hlim hcd hbody hok hbind hle hnp H hr (let ⟨_, _, F⟩ := hf; F.keep) (let ⟨_, _, F⟩ := hf; Nat.le_trans F.above (Nat.le_of_lt F.ns.lt)) hs hrep fun uu uu q => q)

theorem keep_fn {a : Addr} {o : Obj} {fd : FuncData} (ho : W.h₀.get? a = some o) (hd : o.data = .func fd) : KeepOK W (.ref a) := fun M h k =>
  ⟨.frame, .inl rfl, fun A Q E s hk hq => by
    unfold keeperOf
    refine wpAny_bind (wpAny_load (hk _ _ (k _ _ ho)) ?_)
    rw [hd]
    exact wpAny_pure hq⟩
theorem keep_builtin {id : String} : KeepOK W (.builtin id) := fun M h uu => ⟨.machine, .inr (.inl rfl), Looks.of_pure rfl⟩
theorem keep_type {id : String} : KeepOK W (.type id) := fun M h uu => ⟨.machine, .inr (.inl rfl), Looks.of_pure rfl⟩
end
end Mp
end

section
set_option maxRecDepth 20000
/-! MiniPy: builtins. -/
namespace Mp
open PySem PySem.Calls PyProof.Rows PySem.W

noncomputable def insI (a : Int) : List Int → List Int
  | [] => [a]
  | b :: l => if a ≤ b then a :: b :: l else b :: insI a l
noncomputable def sortI : List Int → List Int
  | [] => []
  | a :: l => insI a (sortI l)
noncomputable def maxI (a : Int) : List Int → Int
  | [] => a
  | b :: l => maxI (if a < b then b else a) l

noncomputable def bfun : Nat → List PV → Option PV
  | 0, [.list l] => if l.length ≤ lim then some (.int l.length) else none
  | 0, [.str l] => if l.length ≤ lim then some (.int l.length) else none
  | 0, [.tup l] => if l.length ≤ lim then some (.int l.length) else none
  | 1, [.int a, .int b] => some (.int (if b < a then b else a))
  | 2, [.int a, .int b] => some (.int (if b > a then b else a))
  | 2, [.list (.int a :: l)] => (asInts l).map fun r => .int (maxI a r)
  | 3, [.list l] => (asInts l).map fun r => .int r.sum
  | 4, [.list l] => if l.length < 64 then (asInts l).map fun r => .list ((sortI r).map .int) else none
  | 5, [.list l] => if l.length ≤ lim then some (.tup l) else none
  | 6, [.list l] => (l.mapM asBool).map fun r => .bool (r.all id)
  | _, _ => none
noncomputable def lowC (c : Nat) : Option Nat := if c = 9 then some 9 else if c = 32 then some 32 else if c = 75 then some 107 else if c = 107 then some 107 else if c = 120 then some 120 else none
noncomputable def bmeth : Nat → PV → List PV → Option PV
  | 0, .str [c], [] => (lowC c).map fun d => .str [d]
  | 1, .list l, [.int k] => (asInts l).map fun r => .int (r.count k)
  | _, _, _ => none
noncomputable def bname : Nat → Option Value
  | 0 => some (.builtin "len") | 1 => some (.builtin "min") | 2 => some (.builtin "max") | 3 => some (.builtin "sum") | 4 => some (.builtin "sorted") | 5 => some (.type "tuple") | 6 => some (.builtin "all")
  | _ => none

section
variable {W : Wd} {A : Around}

theorem int_post {C : Addr} {g : View} {s : Shared} {i : Int} {h' : Heap} {t : Tok} {tk : Nat} (k : Keep s.heap h') : Post C g s (.int i) (.int i t) { s with heap := h', toks := tk } :=
  sc_post ⟨h', tk, rfl, k⟩ ⟨t, rfl⟩

theorem ints_arr {vs : List Value} {is : List Int} (h : IntsAre vs is) : ∃ xs : Array (Int × Tok), intItems xs = vs.toArray ∧ xs.toList.map (·.1) = is := by
  obtain ⟨xs, e⟩ := h.allInts.items
  exact ⟨xs, e.symm, by rw [← nums_intItems, ← e]; exact h.numsOf⟩

theorem insI_c (a b : Int) (l : List Int) : insI a (b :: l) = if a ≤ b then a :: b :: l else b :: insI a l := rfl
theorem insI_perm (a : Int) : ∀ l, (insI a l).Perm (a :: l)
  | [] => .refl _
  | b :: l => by
    rw [insI_c]
    split
    · exact .refl _
    · exact ((insI_perm a l).cons b).trans (.swap a b l)
theorem sortI_perm : ∀ l, (sortI l).Perm l
  | [] => .refl _
  | a :: l => (insI_perm a _).trans ((sortI_perm l).cons a)
theorem insI_sorted (a : Int) : ∀ l : List Int, l.Pairwise (· ≤ ·) → (insI a l).Pairwise (· ≤ ·)
  | [], _ => List.pairwise_singleton _ _
  | b :: l, h => by
    rw [insI_c]
    split
    · rename_i q
      refine List.pairwise_cons.mpr ⟨fun x hx => ?_, h⟩
      rcases List.mem_cons.mp hx with rfl | hx
      · exact q
      · exact Int.le_trans q ((List.pairwise_cons.mp h).1 x hx)
    · rename_i q
      refine List.pairwise_cons.mpr ⟨fun x hx => ?_, insI_sorted a l (List.pairwise_cons.mp h).2⟩
      rcases List.mem_cons.mp ((insI_perm a l).mem_iff.mp hx) with rfl | hx
      · omega
      · exact (List.pairwise_cons.mp h).1 x hx
theorem sortI_sorted : ∀ l, (sortI l).Pairwise (· ≤ ·)
  | [] => .nil
  | a :: l => insI_sorted a _ (sortI_sorted l)
theorem sorted_eq : ∀ {l l' : List Int}, l.Perm l' → l.Pairwise (· ≤ ·) → l'.Pairwise (· ≤ ·) → l = l'
  | [], l', p, _, _ => (List.Perm.nil_eq p)
  | a :: l, [], p, _, _ => (List.Perm.eq_nil p)
  | a :: l, b :: l', p, h, h' => by
    have e : a = b := by
      have h1 : a ∈ b :: l' := p.mem_iff.mp List.mem_cons_self
      have h2 : b ∈ a :: l := p.mem_iff.mpr List.mem_cons_self
      rcases List.mem_cons.mp h1 with e | h1
      · exact e
      · rcases List.mem_cons.mp h2 with e | h2
        · exact e.symm
        · have := (List.pairwise_cons.mp h').1 a h1
          have := (List.pairwise_cons.mp h).1 b h2
          omega
    subst e
    rw [sorted_eq (List.Perm.cons_inv p) (List.pairwise_cons.mp h).2 (List.pairwise_cons.mp h').2]

theorem maxI_c (a b : Int) (l : List Int) : maxI a (b :: l) = maxI (if a < b then b else a) l := rfl
theorem maxI_ge : ∀ (a : Int) (l : List Int), a ≤ maxI a l ∧ (∀ x ∈ l, x ≤ maxI a l) ∧ maxI a l ∈ a :: l
  | a, [] => ⟨Int.le_refl _, fun uu h => (nomatch h), List.mem_cons_self⟩
  | a, b :: l => by
    rw [maxI_c]
    obtain ⟨h1, h2, h3⟩ := maxI_ge (if a < b then b else a) l
    refine ⟨?_, fun x hx => ?_, ?_⟩
    · split at h1 <;> rename_i q
      · rw [if_pos q]; omega
      · rw [if_neg q]; omega
    · rcases List.mem_cons.mp hx with rfl | hx
      · split at h1 <;> rename_i q
        · rw [if_pos q]; omega
        · rw [if_neg q]; omega
      · exact h2 x hx
    · rcases List.mem_cons.mp h3 with e | h3
      · rw [e]; split <;> simp
      · exact List.mem_cons_of_mem _ (List.mem_cons_of_mem _ h3)

theorem bools_of {C : Addr} {g : View} : ∀ {l : List PV} {vs : List Value} {bs : List Bool}, Reps C g l vs → l.mapM asBool = some bs → vs = bs.map .bool
  | [], vs, bs, r, h => by
    simp only [List.mapM_nil] at h
    (first | exact noS h | exact noB h | cases h); (first | exact noS r | exact noB r | cases r); rfl
  | x :: l, vs, bs, r, h => by
    simp only [List.mapM_cons, Option.bind_eq_bind, Option.bind_eq_some_iff] at h
    obtain ⟨b, hb, r', hr', h⟩ := h
    (first | exact noS h | exact noB h | cases h)
    obtain ⟨v, w, rfl, rv, rw'⟩ := r
    cases x with
    | bool b' =>
      obtain rfl := Option.some.inj (show some b' = some b from hb)
      (first | exact noS rv | exact noB rv | cases rv)
      rw [bools_of rw' hr']; rfl
    | _ => exact noS hb

theorem bfun_inv {k : Nat} {xs : List PV} {r : PV} {P : Nat → List PV → PV → Prop} (h : bfun k xs = some r)
    (c0 : ∀ l, l.length ≤ lim → P 0 [.list l] (.int l.length)) (c1 : ∀ l, l.length ≤ lim → P 0 [.str l] (.int l.length)) (c2 : ∀ l, l.length ≤ lim → P 0 [.tup l] (.int l.length))
    (c3 : ∀ a b, P 1 [.int a, .int b] (.int (if b < a then b else a))) (c4 : ∀ a b, P 2 [.int a, .int b] (.int (if b > a then b else a)))
    (c5 : ∀ a l is, asInts l = some is → P 2 [.list (.int a :: l)] (.int (maxI a is))) (c6 : ∀ l is, asInts l = some is → P 3 [.list l] (.int is.sum))
    (c7 : ∀ l is, l.length < 64 → asInts l = some is → P 4 [.list l] (.list ((sortI is).map .int))) (c8 : ∀ l, l.length ≤ lim → P 5 [.list l] (.tup l)) (c9 : ∀ l bs, l.mapM asBool = some bs → P 6 [.list l] (.bool (bs.all id))) : P k xs r := by
  have ifK : ∀ {c : Prop} [Decidable c] {x : PV} {G : PV → Prop}, (if c then some x else none) = some r → (c → G x) → G r := fun {c _ x G} h k => by
    by_cases q : c
    · rw [if_pos q] at h; exact Option.some.inj h ▸ k q
    · rw [if_neg q] at h; exact noS h
  match k, xs, h with
  | 0, [x], h => cases x with
    | list l => exact ifK (G := fun r => P 0 [.list l] r) h (c0 l)
    | str l => exact ifK (G := fun r => P 0 [.str l] r) h (c1 l)
    | tup l => exact ifK (G := fun r => P 0 [.tup l] r) h (c2 l)
    | _ => exact noS h
  | 0, [], h => exact noS h
  | 0, x :: _ :: _, h => cases x <;> exact noS h
  | 1, [x, y], h => cases x with
    | int a => cases y with
      | int b => exact (Option.some.inj h) ▸ c3 a b
      | _ => exact noS h
    | _ => exact noS h
  | 1, [], h => exact noS h
  | 1, [x], h => cases x <;> exact noS h
  | 1, x :: y :: _ :: _, h => cases x <;> first | exact noS h | (cases y <;> exact noS h)
  | 2, [x, y], h => cases x with
    | int a => cases y with
      | int b => exact (Option.some.inj h) ▸ c4 a b
      | _ => exact noS h
    | list l => cases l with
      | nil => exact noS h
      | cons a l => cases a <;> exact noS h
    | _ => exact noS h
  | 2, [x], h => cases x with
    | list l => cases l with
      | nil => exact noS h
      | cons a l => cases a with
        | int a => exact mapK (P := fun r => P 2 [.list (.int a :: l)] r) h fun is hi => c5 a l is hi
        | _ => exact noS h
    | _ => exact noS h
  | 2, [], h => exact noS h
  | 2, x :: y :: _ :: _, h => cases x with
    | int a => cases y <;> exact noS h
    | list l => cases l with
      | nil => exact noS h
      | cons a l => cases a <;> exact noS h
    | _ => exact noS h
  | 3, [x], h => cases x with
    | list l => exact mapK (P := fun r => P 3 [.list l] r) h fun is hi => c6 l is hi
    | _ => exact noS h
  | 3, [], h => exact noS h
  | 3, x :: _ :: _, h => cases x <;> exact noS h
  | 4, [x], h => cases x with
    | list l =>
      have h' : (if l.length < 64 then (asInts l).map fun r => PV.list ((sortI r).map .int) else none) = some r := h
      by_cases q : l.length < 64
      · rw [if_pos q] at h'
        exact mapK (P := fun r => P 4 [.list l] r) h' fun is hi => c7 l is q hi
      · rw [if_neg q] at h'; exact noS h'
    | _ => exact noS h
  | 4, [], h => exact noS h
  | 4, x :: _ :: _, h => cases x <;> exact noS h
  | 5, [x], h => cases x with
    | list l => exact ifK (G := fun r => P 5 [.list l] r) h (c8 l)
    | _ => exact noS h
  | 5, [], h => exact noS h
  | 5, x :: _ :: _, h => cases x <;> exact noS h
  | 6, [x], h => cases x with
    | list l => exact mapK (P := fun r => P 6 [.list l] r) h fun bs hb => c9 l bs hb
    | _ => exact noS h
  | 6, [], h => exact noS h
  | 6, x :: _ :: _, h => cases x <;> exact noS h
  | n + 7, xs, h => exact noS h
theorem bfun_small {f : Nat} {xs : List PV} {r : PV} (hr : bfun f xs = some r) : f < 7 :=
  bfun_inv (P := fun k uu uu => k < 7) hr (fun uu uu => by decide) (fun uu uu => by decide) (fun uu uu => by decide) (fun uu uu => by decide) (fun uu uu => by decide) (fun uu uu uu uu => by decide) (fun uu uu uu => by decide) (fun uu uu uu uu => by decide) (fun uu uu => by decide) (fun uu uu uu => by decide)

theorem bfun_ok (hh : A.handled = none) {k : Nat} {xs : List PV} {r : PV} {fv : Value} (hr : bfun k xs = some r) (hf : bname k = some fv) : CallOK W A fv xs r := fun g s vs E hs uu hrep => by
  refine bfun_inv (P := fun k xs r => bname k = some fv → Reps W.C g xs vs → wpAny (model W.prog W.w) A (call fv vs) (fun v s' => Post W.C g s r v s') E s) hr ?_ ?_ ?_ ?_ ?_ ?_ ?_ ?_ ?_ ?_ hf hrep
  · -- len of a list
    intro l q hf hrep
    (first | exact noS hf | exact noB hf | cases hf)
    · obtain ⟨v, w, rfl, ⟨a, us, n, rfl, ho, ru⟩, hw⟩ := hrep
      (first | exact noS hw | exact noB hw | cases hw)
      simp only [lim] at q
      refine PySem.Calls.call_len_list (items := us.toArray) ⟨_, hs _ _ ho, rfl, n, rfl⟩ (by simp only [List.size_toArray, ru.length]; omega) ?_
      simp only [List.size_toArray, ru.length]
      exact sc_post (keeps_tok _ _) ⟨_, rfl⟩
  · intro l q hf hrep
    (first | exact noS hf | exact noB hf | cases hf)
    · obtain ⟨v, w, rfl, ⟨t, rfl⟩, hw⟩ := hrep
      (first | exact noS hw | exact noB hw | cases hw)
      simp only [lim] at q
      refine P.len_str (by simp only [Str.length, List.size_toArray]; omega) ?_
      simp only [Str.length, List.size_toArray]
      exact sc_post (keeps_tok _ _) ⟨_, rfl⟩
  · intro l q hf hrep
    (first | exact noS hf | exact noB hf | cases hf)
    · obtain ⟨v, w, rfl, ⟨a, us, o, n, rfl, ho, hc, hd, ru⟩, hw⟩ := hrep
      (first | exact noS hw | exact noB hw | cases hw)
      simp only [lim] at q
      refine PyProof.Rows.len_tuple (items := us.toArray) ⟨o, hs _ _ ho, hc, n, hd⟩ (by simp only [List.size_toArray, ru.length]; omega) ?_
      simp only [List.size_toArray, ru.length]
      exact sc_post (keeps_tok _ _) ⟨_, rfl⟩
  · intro a b hf hrep
    (first | exact noS hf | exact noB hf | cases hf)
    obtain ⟨t, u, rfl⟩ := reps2 hrep
    refine min_two_ints hh fun h' tk hk => ?_
    split <;> exact int_post hk
  · intro a b hf hrep
    (first | exact noS hf | exact noB hf | cases hf)
    obtain ⟨t, u, rfl⟩ := reps2 hrep
    refine max_two_ints hh fun h' tk hk => ?_
    split <;> exact int_post hk
  · -- max of a list of ints
    intro a l is hi hf hrep
    (first | exact noS hf | exact noB hf | cases hf)
    obtain ⟨v, w, rfl, ⟨p, us, n, rfl, ho, ru⟩, hw⟩ := hrep
    (first | exact noS hw | exact noB hw | cases hw)
    have hI : IntsAre us (a :: is) := ru.ints (by
      rw [List.mapM_cons]
      show ((l.mapM asInt).bind fun r => some (a :: r)) = _
      rw [show l.mapM asInt = some is from hi]; rfl)
    obtain ⟨ys, e1, e2⟩ := ints_arr hI
    have hlen : ys.size = is.length + 1 := by
      have := congrArg List.length e2
      simpa using this
    refine max_intList (xs := ys) hh (by rw [e1]; exact ⟨_, hs _ _ ho, rfl, n, rfl⟩) (by omega) fun v h' tk hv hk => ?_
    obtain ⟨t, rfl⟩ := intItems_at hv
    obtain ⟨h1, h2⟩ := argBest_gt (numAt ys) (ys.size - 1)
    have hm := maxI_ge a is
    have : numAt ys (argBest (fun i j => decide (numAt ys i > numAt ys j)) (ys.size - 1)) = maxI a is := by
      have in1 : numAt ys (argBest (fun i j => decide (numAt ys i > numAt ys j)) (ys.size - 1)) ∈ a :: is := by
        rw [← e2, numAt_eq]; exact getD_mem (by rw [List.length_map, Array.length_toList]; omega)
      have le1 : maxI a is ≤ numAt ys (argBest (fun i j => decide (numAt ys i > numAt ys j)) (ys.size - 1)) := by
        have := hm.2.2
        rw [← e2] at this
        obtain ⟨j, hj, ej⟩ := mem_getD this
        rw [List.length_map, Array.length_toList] at hj
        rw [← ej, ← numAt_eq]; exact h2 j (by omega)
      have le2 : numAt ys (argBest (fun i j => decide (numAt ys i > numAt ys j)) (ys.size - 1)) ≤ maxI a is := by
        rcases List.mem_cons.mp in1 with e | h
        · rw [e]; exact hm.1
        · exact hm.2.1 _ h
      omega
    rw [this]
    exact int_post hk
  · -- sum
    intro l is hi hf hrep
    (first | exact noS hf | exact noB hf | cases hf)
    obtain ⟨v, w, rfl, ⟨p, us, n, rfl, ho, ru⟩, hw⟩ := hrep
    (first | exact noS hw | exact noB hw | cases hw)
    have hI : IntsAre us is := ru.ints hi
    obtain ⟨ys, e1, e2⟩ := ints_arr hI
    refine sum_intListG (xs := ys) hh (by rw [e1]; exact ⟨_, hs _ _ ho, rfl, n, rfl⟩) fun h' tk t' hk => ?_
    have hlen : ys.size = is.length := by
      have := congrArg List.length e2
      simpa using this
    rw [preSum_eq, e2, List.take_of_length_le (by omega)]
    exact int_post hk
  · -- sorted
    intro l is q hi hf hrep
    (first | exact noS hf | exact noB hf | cases hf)
    · obtain ⟨v, w, rfl, ⟨p, us, n, rfl, ho, ru⟩, hw⟩ := hrep
      (first | exact noS hw | exact noB hw | cases hw)
      have hI : IntsAre us is := ru.ints hi
      refine sorted_ints (vs := us) ⟨_, hs _ _ ho, rfl, n, rfl⟩ hI (by rw [ru.length]; exact q) fun out ns' a1 a2 a3 => ?_
      have : ns' = sortI is := sorted_eq (a2.trans (sortI_perm is).symm) a3 (sortI_sorted is)
      subst this
      obtain ⟨e, he⟩ := sortedAll_at s.heap us out
      refine ⟨keeps_heap fun uu uu => sortedAll_old, _, out.toList, e, rfl, ?_, Reps.map_ints _ a1⟩
      rw [gext_new]
      · simpa [seqObj] using he
      · cases z : s.heap.get? (s.heap.objs.size + 1) with
        | none => rfl
        | some o => exact absurd (Heap.lt_size z) (Nat.not_lt.mpr (Nat.le_succ _))
  · -- tuple
    intro l q hf hrep
    (first | exact noS hf | exact noB hf | cases hf)
    · obtain ⟨v, w, rfl, ⟨p, us, n, rfl, ho, ru⟩, hw⟩ := hrep
      (first | exact noS hw | exact noB hw | cases hw)
      simp only [lim] at q
      refine call_tuple_list (items := us.toArray) ⟨_, hs _ _ ho, rfl, n, rfl⟩ (fun h' hk => ?_) (by rw [sizeLine_eq, List.size_toArray, ru.length]; omega)
      have kk : Keeps s { s with heap := h' } := keeps_heap hk
      have np := newTup_post (C := W.C) (g := gext g s.heap h') (s := { s with heap := h' }) (gext_sub hs hk) (Reps.mono (View.le_of (le_gext hs)) _ ru)
      exact Post.back kk np
  · -- all
    intro l bs hb hf hrep
    (first | exact noS hf | exact noB hf | cases hf)
    obtain ⟨v, w, rfl, ⟨p, us, n, rfl, ho, ru⟩, hw⟩ := hrep
    (first | exact noS hw | exact noB hw | cases hw)
    have hus := bools_of ru hb
    have hl : s.heap.IsList p us.toArray := ⟨_, hs _ _ ho, rfl, n, rfl⟩
    have hne : p ≠ s.heap.objs.size := Nat.ne_of_lt (Heap.lt_size (hs _ _ ho))
    refine call_all_walk (wpAny_pyIter_list hl ?_)
    refine ⟨_, _, _, _, _, _, fun i => (bs[i]?).getD false, rfl, Walks.list (A := A.in1) hh s.heap.objs.size p hne us.toArray, ⟨⟨_, Heap.get?_push_size _ rfl, rfl, rfl⟩, hl.push _⟩, ?_, fun h' tk hk => ?_⟩
    · intro i v s' Q E' hv hQ
      subst hus
      have hv' : (bs.map Value.bool)[i]? = some v := by simpa using hv
      rw [List.getElem?_map] at hv'
      cases z : bs[i]? with
      | none => rw [z] at hv'; cases hv'
      | some b =>
        rw [z] at hv'
        (first | exact noS hv' | exact noB hv' | cases hv')
        exact wpAny_truthy_bool (by dsimp only at hQ; rw [z] at hQ; exact hQ)
    · have : (List.range us.toArray.size).all (fun i => (bs[i]?).getD false) = bs.all id := by
        subst hus
        simp only [List.size_toArray, List.length_map]
        rw [Bool.eq_iff_iff, List.all_eq_true, List.all_eq_true]
        constructor
        · intro h x hx
          obtain ⟨i, hi, rfl⟩ := List.mem_iff_getElem.mp hx
          have := h i (List.mem_range.mpr hi)
          rw [List.getElem?_eq_getElem hi] at this
          exact this
        · intro h i hi
          have hi := List.mem_range.mp hi
          rw [List.getElem?_eq_getElem hi]
          exact h _ (List.getElem_mem hi)
      rw [this]
      refine sc_post ⟨h', tk, rfl, fun b o e => hk b o ?_ (Heap.get?_push_of_some _ e)⟩ rfl
      intro z
      rw [List.mem_singleton.mp z, get_size] at e; (first | exact noS e | exact noB e | cases e)

theorem low_placed {c d : Nat} (h : lowC c = some d) : placed ⟨#[c]⟩ (fun i uu => Unicode.lowerAt (Str.mk #[c]).cps i) = #[d] := by
  unfold lowC at h
  repeat' split at h
  all_goals first | (subst_vars; (first | exact noS h | exact noB h | cases h); decide +kernel) | (first | exact noS h | exact noB h | cases h)
end
end Mp
end

section
set_option maxRecDepth 20000
/-! MiniPy: what a program's own objects do, read from the written part of its heap. -/
namespace Mp
open PySem PySem.Calls PyProof.Rows PySem.W

/-- room left for k more frames -/
noncomputable def Bud (A : Around) (k : Nat) : Prop := A.handled = none ∧ A.depth + 4 * k + 4 ≤ 1000 ∧ A.units + 32 * k + 128 ≤ 9900
theorem Bud.deeper {A : Around} {k : Nat} (h : Bud A (k + 1)) (env : Env) : Bud (A.deeper env) k := by
  obtain ⟨h1, h2, h3⟩ := h
  refine ⟨h1, ?_, ?_⟩
  · show A.depth + 1 + 4 * k + 4 ≤ 1000; omega
  · show A.units + 3 + 32 * k + 128 ≤ 9900; omega
theorem Bud.room {A : Around} {k : Nat} (h : Bud A k) : A.depth < recursionLimit := by
  have := h.2.1; show A.depth < 1000; omega
theorem Bud.hu {A : Around} {k : Nat} (h : Bud A k) : A.units + 64 < cLine := by
  have := h.2.2; show A.units + 64 < 9900; omega
theorem Bud.make {A : Around} {k : Nat} (h : Bud A (k + 1)) (C : Addr) (vals : List Value) : (A.under (.builtin "type.__call__" ⟨.ref C :: vals, []⟩)).depth < recursionLimit ∧ ∀ env, Bud ((A.under (.builtin "type.__call__" ⟨.ref C :: vals, []⟩)).deeper env) k := by
  obtain ⟨h1, h2, h3⟩ := h
  refine ⟨?_, fun env => ⟨h1, ?_, ?_⟩⟩
  · rw [depth_under_kw]; show A.depth + 1 < 1000; omega
  · show (A.under (.builtin "type.__call__" ⟨.ref C :: vals, []⟩)).depth + 1 + 4 * k + 4 ≤ 1000
    rw [depth_under_kw]; omega
  · have : (A.under (.builtin "type.__call__" ⟨.ref C :: vals, []⟩)).units = A.units + 1 := rfl
    show (A.under (.builtin "type.__call__" ⟨.ref C :: vals, []⟩)).units + 3 + 32 * k + 128 ≤ 9900
    rw [this]; omega

structure KW (W : Wd) (K : Frag) (p : Program) (loose : List Str) (mg mb : Str → Option Value) : Prop where
  X : K.In W.h₀
  T : TopRead p loose mg mb W.h₀

/-- the def at an address -/
noncomputable def fnO : Option Obj → Option FuncData
  | some ⟨_, _, .func fd, _⟩ => some fd
  | _ => none
noncomputable def fnAt (K : Frag) (a : Addr) : FuncData := (fnO (K.lookup a)).getD default
noncomputable def isDef (K : Frag) (a : Addr) : Bool := (fnO (K.lookup a)).any fun fd => codeIn K fd.code fd.qualname
theorem fnO_at {o : Option Obj} {p : FuncData → Bool} (h : (fnO o).any p = true) : ∃ a b d, o = some ⟨a, b, .func ((fnO o).getD default), d⟩ ∧ p ((fnO o).getD default) = true := by
  match o, h with
  | none, h => exact noB h
  | some ⟨a, b, x, d⟩, h => cases x with
    | func fd => exact ⟨a, b, d, rfl, h⟩
    | _ => exact noB h
theorem clsIn_at {K : Frag} {C : Addr} {cd : ClassData} (h : clsIn K C = some cd) : ∃ a b d, K.lookup C = some ⟨a, b, .cls cd, d⟩ := by
  unfold clsIn at h
  generalize K.lookup C = o at h ⊢
  match o, h with
  | none, h => exact noS h
  | some ⟨a, b, x, d⟩, h => cases x with
    | cls cd' => obtain rfl := Option.some.inj h; exact ⟨a, b, d, rfl⟩
    | _ => exact noS h
noncomputable def bodyS : FuncBody → List Stmt
  | .stmts b => b
  | _ => []
noncomputable def isSt : FuncBody → Bool
  | .stmts _ => true
  | _ => false
noncomputable def bodyOf (fd : FuncData) : List Stmt := bodyS fd.body
noncomputable def isStmts (fd : FuncData) : Bool := isSt fd.body
theorem st_at {b : FuncBody} (h : isSt b = true) : b = .stmts (bodyS b) := by
  cases b with
  | stmts _ => rfl
  | _ => exact noB h

section
variable {W : Wd} {K : Frag} {p : Program} {loose : List Str} {mg mb : Str → Option Value} {N : NT} {T : Tabs} {A : Around} {ns : List Str} {fuel : Nat}

theorem KW.global (k : KW W K p loose mg mb) {n : Str} {v : Value} (e : nsIn K mainGlobals n = some (some v)) : Loads W A n v := fun env s E Q hg hb hk hQ =>
  Calls.loadGlobal_global (mg := mg) (by rw [hg]; exact k.T.g.keeps hk) (mg_of k.X k.T.g e) hQ
theorem KW.builtin (k : KW W K p loose mg mb) {n : Str} {v : Value} (e : nsIn K mainGlobals n = some none) (hv : bootBuiltins n = some v) (hn : n ≠ "__name__") : Loads W A n v := fun env s E Q hg hb hk hQ =>
  Calls.loadGlobal_builtin (mg := mg) (mb := mb) (by rw [hg]; exact k.T.g.keeps hk) (mg_none_of k.X k.T.g e) (by rw [hb]; exact k.T.b.keeps hk) ((k.T.builtins n hn).trans hv) hQ

theorem isDef_at (k : KW W K p loose mg mb) {a : Addr} (h : isDef K a = true) : ∃ o, W.h₀.get? a = some o ∧ o.data = .func (fnAt K a) ∧ W.h₀.CodeRec (fnAt K a).code (fnAt K a).qualname := by
  obtain ⟨uu, uu, uu, e, q⟩ := fnO_at h
  exact ⟨_, k.X _ _ e, rfl, codeRec_of k.X q⟩
theorem stmts_at {fd : FuncData} (h : isStmts fd = true) : fd.body = .stmts (bodyOf fd) := st_at h

theorem KW.keep_def (k : KW W K p loose mg mb) {a : Addr} (h : isDef K a = true) : KeepOK W (.ref a) := by
  obtain ⟨o, ho, hd, uu⟩ := isDef_at k h
  exact keep_fn ho hd
theorem KW.keep_cls (k : KW W K p loose mg mb) {C : Addr} (hc : isClsIn K C = true) (h : specialIn K (.ref C) "__call__" = some (some (.builtin "type.__call__"))) : KeepOK W (.ref C) := fun M h' kk => by
  obtain ⟨cd, hcd⟩ := Option.isSome_iff_exists.mp hc
  obtain ⟨uu, uu, uu, ho⟩ := clsIn_at hcd
  refine ⟨.machine, .inr (.inl rfl), fun A Q E s hk hq => ?_⟩
  have X' : K.In s.heap := (k.X.keeps kk).keeps hk
  unfold keeperOf
  refine wpAny_bind (wpAny_load (X' _ _ ho) ?_)
  dsimp only
  refine wpAny_bind ((looks_specialIn X' h).here ?_)
  exact wpAny_pure hq

/-- a def of the program, from the written part -/
theorem KW.def_ok (k : KW W K p loose mg mb) {a : Addr} {b : Ss} {xs : List PV} {r : PV} {n : Nat} (hB : Bud A n) (h : isDef K a = true) (hst : isStmts (fnAt K a) = true) (hok : defOk N ns (fnAt K a) (bodyOf (fnAt K a)) b = true)
    (hbind : ∀ vs : List Value, vs.length = xs.length → bindArgs (fnAt K a) ⟨vs, []⟩ = pure ((ns.take vs.length).zip vs)) (hle : xs.length ≤ ns.length) (hnp : xs.length ≤ (fnAt K a).params.args.length)
    (H : ∀ env, Good W N T (A.deeper env)) (hr : callF T fuel ns.length b xs = some r) : CallOK W A (.ref a) xs r := by
  obtain ⟨o, ho, hd, hc⟩ := isDef_at k h
  exact Mp.def_ok hB.room ho hd k.T.nolimit hc (stmts_at hst) hok hbind hle hnp H hr

/-! instances -/
theorem inst_at {C : Addr} {h : Heap} {a d : Addr} {es : List DictEntry} {n : Nat} (h1 : h.get? a = some (instObj C d)) (h2 : h.get? d = some (dictOf es n)) : InstAt h a (instObj C d) C (some (dictOf es n)) := ⟨h1, rfl, rfl, h2⟩

theorem ents_get : ∀ {names : List Str} {es : List DictEntry} {vs : List Value} {i : Nat} {n : Str} {v : Value}, names.Nodup → Ents names es vs → names[i]? = some n → vs[i]? = some v → getL n es = some (some v)
  | [], [], vs, i, n, v, _, e, h, _ => by simp at h
  | [], _ :: _, _, _, _, _, _, e, _, _ => e.elim
  | _ :: _, [], vs, i, n, v, _, e, _, h => by obtain rfl : vs = [] := e; exact noS h
  | m :: r, x :: es, vs, i, n, v, nd, ⟨u, w, h', t', e1, e2, e3⟩, hn, hv => by
    subst e1 e2
    cases i with
    | zero =>
      simp only [List.getElem?_cons_zero, Option.some.injEq] at hn hv
      subst hn hv
      unfold getL
      rw [List.find?_cons_of_pos (by simp [Value.isStr])]
    | succ i =>
      simp only [List.getElem?_cons_succ] at hn hv
      have ih := ents_get (List.nodup_cons.mp nd).2 e3 hn hv
      have hne : n ≠ m := fun q => (List.nodup_cons.mp nd).1 (q ▸ List.mem_of_getElem? hn)
      unfold getL at ih ⊢
      rw [List.find?_cons_of_neg (by simp [Value.isStr]; exact fun q => hne q.symm)]
      cases z : es.find? (fun e => e.key.isStr n) with
      | some e => rw [z] at ih; exact ih
      | none =>
        rw [z] at ih
        dsimp only at ih
        split at ih <;> (first | exact noS ih | exact noB ih | cases ih)
theorem ents_none : ∀ {names : List Str} {es : List DictEntry} {vs : List Value} {n : Str}, Ents names es vs → n ∉ names.take es.length → getL n es = some none
  | [], [], vs, n, e, h => rfl
  | [], _ :: _, _, _, e, _ => e.elim
  | _ :: _, [], vs, n, e, _ => rfl
  | m :: r, x :: es, vs, n, ⟨u, w, h', t', e1, e2, e3⟩, h => by
    subst e1 e2
    simp only [List.length_cons, List.take_succ_cons, List.mem_cons, not_or] at h
    have ih := ents_none e3 h.2
    unfold getL at ih ⊢
    rw [List.find?_cons_of_neg (by simp [Value.isStr]; exact fun q => h.1 q.symm)]
    cases z : es.find? (fun e => e.key.isStr n) with
    | some e => rw [z] at ih; cases ih
    | none =>
      rw [z] at ih
      dsimp only at ih ⊢
      rw [List.any_cons]
      split at ih
      · (first | exact noS ih | exact noB ih | cases ih)
      · rename_i q
        rw [if_neg]
        simp only [Bool.not_eq_true] at q
        rw [q]
        simp [DictEntry.refKey]

/-- the class's own facts, that its instances are read by -/
noncomputable def clsOk (K : Frag) (C : Addr) (names : List Str) : Bool := plainGet K C (Str.ofString "") && hasDictIn K C && names.all fun n => match findIn K (.ref C) n with
  | some a => noGet K a
  | none => false

theorem rep_handed {C : Addr} {g : View} {x : PV} {v : Value} (h : Rep C g x v) : handedIn v = true := by
  cases x with
  | none => (first | exact noS h | exact noB h | cases h); rfl
  | bool b => (first | exact noS h | exact noB h | cases h); rfl
  | int i => obtain ⟨t, rfl⟩ := h; rfl
  | str l => obtain ⟨t, rfl⟩ := h; rfl
  | list l => obtain ⟨a, vs, n, rfl, uu⟩ := h; rfl
  | tup l => obtain ⟨a, vs, o, n, rfl, uu⟩ := h; rfl
  | inst l => obtain ⟨a, d, es, n, vs, rfl, uu⟩ := h; rfl

theorem KW.attr (k : KW W K p loose mg mb) (hC : clsOk K W.C fieldNames = true) {a : Nat} {n : Str} {l : List PV} {r : PV} (hr : l[a]? = some r) (hn : fieldNames[a]? = some n) (g : View) (s : Shared) (v : Value) (E : Value → Shared → Prop) (hs : Sub g s.heap) (hf : HasFr W s.heap)
    (hv : Rep W.C g (.inst l) v) : wpAny (model W.prog W.w) A (getAttr v n true) (fun v s' => Post W.C g s r v s') E s := by
  simp only [clsOk, Bool.and_eq_true, List.all_eq_true] at hC
  obtain ⟨⟨h1, h2⟩, h3⟩ := hC
  obtain ⟨x, d, es, m, vs, rfl, e1, e2, e3, rr⟩ := hv
  obtain ⟨u, hu, ru⟩ := rr.get hr
  obtain ⟨L, mm, F⟩ := hf
  have h4 := h3 n (List.mem_of_getElem? hn)
  split at h4
  · rename_i attr ha
    refine get_own F k.X (inst_at (hs _ _ e1) (hs _ _ e2)) h1 h2 ha h4 (ents_get (by decide +kernel) e3 hn hu) (rep_handed ru) ?_
    refine ⟨keeps_tok _ _, ?_⟩
    show Rep W.C (gext g s.heap s.heap) r u
    rw [gext_self hs]; exact ru
  · cases h4

/-- a method found on an instance -/
theorem KW.method (k : KW W K p loose mg mb) (hC : clsOk K W.C fieldNames = true) {f : Addr} {n : Str} {l : List PV} (hf : findIn K (.ref W.C) n = some (some (.ref f))) (ht : isFn K (.ref f) = true) (hn : n ∉ fieldNames) (g : View) (s : Shared) (v : Value) (pl : Sem Bool)
    (E : Value → Shared → Prop) (Q : Value × List Value → Shared → Prop) (hs : Sub g s.heap) (hF : HasFr W s.heap) (hv : Rep W.C g (.inst l) v) (hQ : Q (.ref f, [v]) s) : wpAny (model W.prog W.w) A (getMethod v n pl) Q E s := by
  simp only [clsOk, Bool.and_eq_true, List.all_eq_true] at hC
  obtain ⟨⟨h1, h2⟩, h3⟩ := hC
  obtain ⟨x, d, es, m, vs, rfl, e1, e2, e3, rr⟩ := hv
  obtain ⟨L, mm, F⟩ := hF
  exact method_inst F k.X (inst_at (hs _ _ e1) (hs _ _ e2)) h1 hf ht (ents_none e3 fun h => hn (List.mem_of_mem_take h)) hQ

/-- an instance's own name, set: the dict alone changes -/
theorem osa_at {prog : Program} {w : World} {R : Result → Shared → Prop} {s : Shared} {C x dx : Addr} {name : Str} {tk : Tok} {v : Value} {es : List DictEntry} {n : Nat} (X : K.In s.heap) (I : InstAt s.heap x (instObj C dx) C (some (dictOf es n)))
    (hp : plainOver K C = true) (ht : takerIn K C name = some none) (hh : hasDictIn K C = true) (hl : (getL name es).isSome = true) (hz : es.length + 1 ≤ 1000)
    (h : ∀ h', h'.get? dx = some (dictOf (putL name (PyData.keyHash w.params name) (.str name s.toks) v es) (putN name es n)) → Heap.SameBut dx s.heap h' → R (.ok (.ret .none)) { s with heap := h', toks := s.toks + 1 }) :
    codeAny (model prog w) A (.call (.builtin "object.__setattr__") ⟨[.ref x, .str name tk, v], []⟩) R s := by
  refine osa_open X I hp ht fun b => ?_
  obtain ⟨cd, hc, hd'⟩ := any_some hh
  have D := I.dict
  dsimp only at D
  have hx := I.at_
  have U := Heap.SameBut.update s.heap dx (Obj.putName name (PyData.keyHash w.params name) (.str name s.toks) v)
  have D' : (s.heap.update dx (Obj.putName name (PyData.keyHash w.params name) (.str name s.toks) v)).get? dx = some (dictOf (putL name (PyData.keyHash w.params name) (.str name s.toks) v es) (putN name es n)) := by
    rw [Heap.get?_update_self _ D (by rw [putName_dict]; rfl), putName_dict]
  have hlen : (putL name (PyData.keyHash w.params name) (.str name s.toks) v es).length ≤ es.length + 1 := by
    clear D D' U I h hl hz
    induction es with
    | nil => simp [putL]
    | cons e r ih => unfold putL; split <;> simp; exact ih
  refine wpAny_bind (wpAny_pure (wpAny_bind (wpAny_bind (wpAny_loadPart hx (wpAny_bind ((looks_clsIn X hc).here ?_))))))
  rw [hd']
  refine wpAny_pure (a := some dx) (wpAny_bind (wpAny_pure (wpAny_bind ?_)))
  unfold nsSet
  refine wpAny_bind (wpAny_bind (wpAny_askSetting (wpAny_pure (wpAny_bind (wpAny_mkText (wpAny_bind (wpAny_loadPart D ?_)))))))
  have c : (!es.toArray.any (·.key.isStr name) && es.toArray.any (·.refKey)) = false := by
    unfold getL at hl
    rw [← Array.any_toList, ← Array.any_toList]
    split at hl
    · rename_i en he
      rw [List.any_eq_true.mpr ⟨en, List.mem_of_find?_eq_some he, List.find?_some he⟩]; rfl
    · split at hl
      · (first | exact noS hl | exact noB hl | cases hl)
      · rename_i z; rw [Bool.not_eq_true] at z; rw [z, Bool.and_false]
  dsimp only
  rw [aRefKeyMayBeTheName_at, c]
  refine wpAny_updatePart D ?_
  refine wpAny_bind (wpAny_lookBehind D' (by exact pastItsLine_dict (by rw [List.size_toArray, sizeLine_eq]; omega)) ?_)
  exact wpAny_pure (h _ D' U)

theorem putL_new {name : Str} {h : Int} {key v : Value} : ∀ {es : List DictEntry}, getL name es = some none → putL name h key v es = es ++ [⟨h, key, v⟩]
  | [], _ => rfl
  | e :: r, q => by
    unfold getL at q
    unfold putL
    by_cases z : e.key.isStr name = true
    · rw [List.find?_cons_of_pos (p := fun x : DictEntry => x.key.isStr name) z] at q; (first | exact noS q | exact noB q | cases q)
    · rw [if_neg z]
      rw [List.find?_cons_of_neg (p := fun x : DictEntry => x.key.isStr name) z] at q
      rw [putL_new (es := r)]
      · rfl
      · unfold getL
        cases w : r.find? (fun e => e.key.isStr name) with
        | some e => rw [w] at q; cases q
        | none =>
          rw [w] at q
          dsimp only at q ⊢
          rw [List.any_cons] at q
          split at q
          · (first | exact noS q | exact noB q | cases q)
          · rename_i z'
            rw [if_neg]
            intro z''; exact z' (by rw [z'', Bool.or_true])

noncomputable def setOk (K : Frag) (C : Addr) (names : List Str) : Bool := findIn K (.ref C) "__setattr__" == some (some (.builtin "object.__setattr__")) && plainOver K C && hasDictIn K C && names.all fun n => takerIn K C n == some none

theorem KW.setA (k : KW W K p loose mg mb) (hC : setOk K W.C fieldNames = true) : ∀ a n, fieldNames[a]? = some n → ∀ (s : Shared) (x d : Addr) (es : List DictEntry) (m : Nat) (vs : List Value) (v : Value) (E : Value → Shared → Prop) (Q : Unit → Shared → Prop), Keep W.h₀ s.heap → s.heap.get? x = some (instObj W.C d) →
    s.heap.get? d = some (dictOf es m) → Ents fieldNames es vs → vs.length = a → (∀ h' tk hs t m', h'.get? d = some (dictOf (es ++ [⟨hs, .str n t, v⟩]) m') → Heap.SameBut d s.heap h' → Q () { s with heap := h', toks := tk }) →
    wpAny (model W.prog W.w) A (setAttr (.ref x) n v) Q E s := fun a n hn s x d es m vs v E Q hk e1 e2 e3 ha hQ => by
  simp only [setOk, Bool.and_eq_true, List.all_eq_true, beq_iff_eq] at hC
  obtain ⟨⟨⟨h1, h2⟩, h3⟩, h4⟩ := hC
  have X := k.X.keeps hk
  have hl : es.length = a := by rw [e3.length, ha]
  have hg : getL n es = some none := ents_none e3 fun h => by
    rw [hl] at h
    obtain ⟨i, hi⟩ := List.mem_iff_getElem?.mp h
    rw [List.getElem?_take] at hi
    split at hi
    · rename_i z
      have := nodup_inj (l := fieldNames) (by decide +kernel) hi hn
      omega
    · (first | exact noS hi | exact noB hi | cases hi)
  have hl5 : es.length ≤ 5 := by
    have := (List.getElem?_eq_some_iff.mp hn).1
    rw [hl]
    have e : fieldNames.length = 5 := rfl
    omega
  refine set_plain X (inst_at e1 e2) h1 (osa_at (s := { s with toks := s.toks + 1 }) X (inst_at e1 e2) h2 (h4 n (List.mem_of_getElem? hn)) h3 (by rw [hg]; rfl) (by omega) fun h' g1 g2 => ?_)
  rw [putL_new hg] at g1
  exact hQ h' _ _ _ _ g1 g2
end
end Mp
end

section
set_option maxRecDepth 20000
/-! MiniPy: an instance made. -/
namespace Mp
open PySem PySem.Calls PyProof.Rows PySem.W

/-- the instance that __init__ makes of one argument -/
noncomputable def mkInst (T : Tabs) (fuel : Nat) (n : Nat) (body : Ss) (x : PV) : Option PV :=
  (execSs T fuel (some (.self []) :: some (.frz x) :: List.replicate (n - 2) none) body).bind fun r => match r with
    | (some (.self l) :: _, .next) => some (.inst l)
    | _ => none

section
variable {W : Wd} {K : Frag} {p : Program} {loose : List Str} {mg mb : Str → Option Value} {N : NT} {T : Tabs} {A : Around} {ns : List Str} {fuel : Nat}

theorem Good.toS (H : Good W N T A) (S : Addr × Addr) : Good { W with S := S } N T A :=
  ⟨H.hh, H.hu, H.glob, H.globA, H.call, H.meth, H.attr, H.setA, H.range, H.zip, H.list, H.isinst, H.bool⟩

theorem inv_self {env : Env} {g : View} {s s₂ s₁ : Shared} {m cm : Str → Option Value} {v : Value} {x : PV} {n0 n1 : Str} {nr : List Str} (base : Keep W.h₀ s.heap) (hf : W.h₀.objs.size ≤ s.heap.objs.size) (hs : Sub g s.heap) (hr : Rep W.C g x v)
    (hS : W.S = (s.heap.objs.size + 1, s.heap.objs.size)) (h2 : s₂ = { s with heap := (s.heap.push emptyDict).push (instObj W.C s.heap.objs.size) })
    (xC : InCallC s₂ env.locals (bindL env.kindOf [(n0, .ref (s.heap.objs.size + 1)), (n1, v)] m) env.cells (bindC env.kindOf [(n0, .ref (s.heap.objs.size + 1)), (n1, v)] cm) s₁)
    (gl : env.globals = mainGlobals) (bu : env.builtins = builtinsNs) (fn : env.scope.kind = .function) (nd : (n0 :: n1 :: nr).Nodup)
    (kinds : ∀ (i : Nat) (n : Str), i < 2 → (n0 :: n1 :: nr)[i]? = some n → LC env n) (nofree : ∀ n, env.kindOf n ≠ some .free) (cl : ∀ n, (env.kindOf n = some .cell ∨ env.kindOf n = some .free) → ∃ c, env.cells.lookup n = some c) :
    Inv W (n0 :: n1 :: nr) env s g g (fun uu => none) (some (.self []) :: some (.frz x) :: List.replicate nr.length none) (fun uu => (s.heap.objs.size + 1, s.heap.objs.size)) s₁ := by
  have hsz : s₂.heap.objs.size = s.heap.objs.size + 2 := by rw [h2]; simp only [Heap.size_push]
  have k2 : Keep s.heap s₂.heap := by rw [h2]; exact fun b o e => Heap.get?_push_of_some _ (Heap.get?_push_of_some _ e)
  have hx : s₂.heap.get? (s.heap.objs.size + 1) = some (instObj W.C s.heap.objs.size) := by
    rw [h2]
    have := Heap.get?_push_size (s.heap.push emptyDict) (o := instObj W.C s.heap.objs.size) rfl
    rwa [Heap.size_push] at this
  have hd : s₂.heap.get? s.heap.objs.size = some (dictOf [] 0) := by
    rw [h2]; exact Heap.get?_push_of_some _ (Heap.get?_push_size _ rfl)
  have hnew : ∀ a, s.heap.objs.size ≤ a → s.heap.get? a = none := fun a h => by
    cases q : s.heap.get? a with
    | none => rfl
    | some o => exact absurd (Heap.lt_size q) (Nat.not_lt.mpr h)
  have hotL : ∀ a, Hot env a → s₂.heap.objs.size ≤ a := fun a h => by
    rcases h with rfl | ⟨n, e⟩
    · exact xC.toInCall.fresh
    · exact Nat.le_of_lt (Nat.lt_of_le_of_lt xC.toInCall.fresh (xC.above n a (mem_of_lookup e)))
  have gnone : ∀ a, s.heap.objs.size ≤ a → g a = none := fun a h => by
    cases q : g a with
    | none => rfl
    | some o => have := hs a o q; rw [hnew a h] at this; (first | exact noS this | exact noB this | cases this)
  have hotS : ∀ a, Hot env a → s.heap.objs.size + 2 ≤ a := fun a h => hsz ▸ hotL a h
  have hne : n0 ≠ n1 := fun q => (List.nodup_cons.mp nd).1 (by rw [q]; exact List.mem_cons_self)
  have adsE : ∀ (i : Nat) a, a ∈ ads (((some (.self []) :: some (.frz x) :: List.replicate nr.length none : Sig)[i]?).join) (s.heap.objs.size + 1, s.heap.objs.size) → i = 0 ∧ (a = s.heap.objs.size + 1 ∨ a = s.heap.objs.size) := fun i a h => by
    match i, h with
    | 0, h => exact ⟨rfl, ads_self h⟩
    | 1, h => exact ads_frz h
    | i + 2, h =>
      simp only [List.getElem?_cons_succ, List.getElem?_replicate] at h
      split at h <;> exact ads_none h
  have k1 := xC.toInCall.keep
  have bL : ∀ {n : Str} {u : Value}, (n, u) ∈ [(n0, Value.ref (s.heap.objs.size + 1)), (n1, v)] → ∀ {i : Nat}, i < 2 → (n0 :: n1 :: nr)[i]? = some n → Bound env s₁.heap n u := fun {n u} hm {i} hlt hi => by
    have key : (env.kindOf n = some .local → bindL env.kindOf [(n0, Value.ref (s.heap.objs.size + 1)), (n1, v)] m n = some u) ∧ (env.kindOf n = some .cell → bindC env.kindOf [(n0, Value.ref (s.heap.objs.size + 1)), (n1, v)] cm n = some u) := by
      have e1 : [(n0, Value.ref (s.heap.objs.size + 1)), (n1, v)] = ((n0 :: n1 :: nr).take [Value.ref (s.heap.objs.size + 1), v].length).zip [Value.ref (s.heap.objs.size + 1), v] := rfl
      rw [e1]
      simp only [List.mem_cons, Prod.mk.injEq, List.not_mem_nil, or_false] at hm
      rcases hm with ⟨rfl, rfl⟩ | ⟨rfl, rfl⟩
      · exact ⟨fun e => bindL_get (i := 0) nd rfl rfl e, fun e => bindC_get (i := 0) nd rfl rfl e⟩
      · exact ⟨fun e => bindL_get (i := 1) nd rfl rfl e, fun e => bindC_get (i := 1) nd rfl rfl e⟩
    refine ⟨fun e => ⟨_, xC.toInCall.ns, key.1 e⟩, fun e => ?_, kinds i n hlt hi⟩
    obtain ⟨c, hc⟩ := cl n (.inl e)
    refine ⟨c, hc, ?_⟩
    have := xC.cell n c hc
    rwa [key.2 e] at this
  refine ⟨base, hs, ⟨gl, bu, fn, ⟨_, xC.toInCall.ns, fun b o e => k1 b o (k2 b o (base b o e)), ?_⟩, cl⟩, fun uu n uu => nofree n, fun a o e => k1 a o (k2 a o (hs a o e)), (fun uu uu e => by (first | exact noS e | exact noB e | cases e)), fun uu uu e => e, fun uu uu e => .inl e, ?_, fun a h => ⟨hnew a (Nat.le_trans (Nat.le_add_right _ 2) (hotS a h)), gnone a (Nat.le_trans (Nat.le_add_right _ 2) (hotS a h)), rfl⟩,
    fun n c e => ⟨Nat.ne_of_gt (xC.above n c (mem_of_lookup e)), _, xC.cell n c e⟩, fun n n' c e e' => name_of_addr xC.apart (mem_of_lookup e) (mem_of_lookup e'), fun i n sl hn hsl => ?_, fun i a h => ?_, fun i j a h h' => ?_, ?_, fun i l hl => ?_⟩
  · exact Nat.le_trans hf (Nat.le_trans (by rw [hsz]; exact Nat.le_add_right _ 2) xC.toInCall.fresh)
  · obtain ⟨h, tk, e⟩ := xC.toInCall.same
    rw [h2] at e
    exact ⟨h, tk, e, fun b o q => by have := k1 b o (k2 b o q); rw [e] at this; exact this⟩
  · match i, hn, hsl with
    | 0, hn, hsl =>
      (first | exact noS hn | exact noB hn | cases hn); (first | exact noS hsl | exact noB hsl | cases hsl)
      exact ⟨_, bL List.mem_cons_self (i := 0) (by decide) rfl, rfl, [], 0, [], k1 _ _ hx, k1 _ _ hd, by simp [Ents], rfl⟩
    | 1, hn, hsl =>
      (first | exact noS hn | exact noB hn | cases hn); (first | exact noS hsl | exact noB hsl | cases hsl)
      exact ⟨_, bL (List.mem_cons_of_mem _ List.mem_cons_self) (i := 1) (by decide) rfl, hr⟩
    | i + 2, hn, hsl =>
      simp only [List.getElem?_cons_succ, List.getElem?_replicate] at hsl
      split at hsl <;> (first | exact noS hsl | exact noB hsl | cases hsl)
  · obtain ⟨uu, ha⟩ := adsE i a h
    have ha' : s.heap.objs.size ≤ a ∧ a < s.heap.objs.size + 2 := by
      rcases ha with rfl | rfl
      · exact ⟨Nat.le_succ _, Nat.lt_succ_self _⟩
      · exact ⟨Nat.le_refl _, Nat.lt_add_of_pos_right (by decide)⟩
    exact ⟨fun q => absurd (hotS a q) (Nat.not_le.mpr ha'.2), hnew a ha'.1, gnone a ha'.1, rfl⟩
  · rw [(adsE i a h).1, (adsE j a h').1]
  · simp
  · exact hS.symm

theorem KW.make_ok (k : KW W K p loose mg mb) {fI : Addr} {b : Ss} {x r : PV} {nb : Nat} {n0 n1 : Str} {nr : List Str} (hB : Bud A (nb + 1)) (hm : makesIn K W.C = true) (hi : findIn K (.ref W.C) "__init__" = some (some (.ref fI))) (hfn : isFn K (.ref fI) = true)
    (h : isDef K fI = true) (hst : isStmts (fnAt K fI) = true) (hok : defOk N (n0 :: n1 :: nr) (fnAt K fI) (bodyOf (fnAt K fI)) b = true)
    (hnp : 2 ≤ (fnAt K fI).params.args.length) (hbind : ∀ a c : Value, bindArgs (fnAt K fI) ⟨[a, c], []⟩ = pure [(n0, a), (n1, c)])
    (H : ∀ A', Bud A' nb → Good W N T A') (hr : mkInst T fuel (n0 :: n1 :: nr).length b x = some r) : CallOK W A (.ref W.C) [x] r := fun g s vs E hs hf hrep => by
  obtain ⟨v, w, rfl, rv, hw⟩ := hrep
  (first | exact noS hw | exact noB hw | cases hw)
  have base : Keep W.h₀ s.heap := let ⟨_, _, F⟩ := hf; F.keep
  have hsz : W.h₀.objs.size ≤ s.heap.objs.size := let ⟨_, _, F⟩ := hf; Nat.le_trans F.above (Nat.le_of_lt F.ns.lt)
  obtain ⟨o, ho, hd, hcd⟩ := isDef_at k h
  simp only [defOk, Bool.and_eq_true, beq_iff_eq, Bool.not_eq_true', List.isEmpty_iff, List.all_eq_true, bne_iff_ne, ne_eq, Bool.or_eq_true, decide_eq_true_eq] at hok
  obtain ⟨⟨⟨⟨⟨⟨⟨⟨⟨k1, k2⟩, k3⟩, k4⟩, k5⟩, k6⟩, k7⟩, k8⟩, k9⟩, k10⟩ := hok
  have kinds : ∀ (i : Nat) (n : Str), i < 2 → (n0 :: n1 :: nr)[i]? = some n → (fnAt K fI).scope.names.lookup n = some .local ∨ (fnAt K fI).scope.names.lookup n = some .cell := fun i n hi hn => k8 n (List.mem_of_getElem? (i := i) (by rw [List.getElem?_take, if_pos (Nat.lt_of_lt_of_le hi hnp)]; exact hn))
  obtain ⟨hp, gn, dr, tk, os⟩ := s
  have X' := k.X.keeps base
  have hBm := hB.make W.C [v]
  refine wpAny_call (make_core (makes_of X' hm) (looks_findIn X' hi) (fun self => bind_fn X' self (beq_iff_eq.mp hfn)) (.inl rfl) ?_)
  have kp : Keep hp ((hp.push emptyDict).push (instObj W.C hp.objs.size)) := fun b o e => Heap.get?_push_of_some _ (Heap.get?_push_of_some _ e)
  have base2 : Keep W.h₀ ((hp.push emptyDict).push (instObj W.C hp.objs.size)) := fun b o e => kp b o (base b o e)
  refine codeAny_call_cells hBm.1 (base2 _ _ ho) hd (k.T.nolimit.keeps base2) (hcd.keeps base2) (stmts_at hst) (hbind _ _) k4 (fun q hq => ?_) (fun s₁ xC => ?_) k2 k3 k1
  · have : ∃ i : Nat, i < 2 ∧ (n0 :: n1 :: nr)[i]? = some q.1 := by
      simp only [List.mem_cons, List.not_mem_nil, or_false] at hq
      rcases hq with rfl | rfl
      · exact ⟨0, by decide, rfl⟩
      · exact ⟨1, by decide, rfl⟩
    obtain ⟨i, hlt, hi⟩ := this
    rcases kinds i _ hlt hi with z | z
    · exact .inl z
    · exact .inr ⟨z, cellsFrom_has z⟩
  · have I := inv_self (W := { W with S := (hp.objs.size + 1, hp.objs.size) }) (s := ⟨hp, gn, dr, tk, os⟩) (nr := nr) base hsz hs rv rfl rfl xC k5 k6 k1 k9 kinds (fun n hn => k7 _ (mem_of_lookup hn) rfl) (fun n hn => by
      rcases hn with q | q
      · exact Option.isSome_iff_exists.mp (cellsFrom_has q)
      · exact absurd rfl (k7 _ (mem_of_lookup q)))
    refine bindK hr fun r₁ h1 h2 => ?_
    have hlen : (n0 :: n1 :: nr).length - 2 = nr.length := by simp
    rw [hlen] at h1
    have HG := (H _ (hBm.2 (callEnvC (fnAt K fI) ((hp.push emptyDict).push (instObj W.C hp.objs.size)).objs.size fI))).toS (hp.objs.size + 1, hp.objs.size)
    refine wpAny_mono (okSs HG k9 b _ _ k10 _ ⟨hp, gn, dr, tk, os⟩ g g _ _ _ s₁ r₁ rfl I h1 _) (fun f s' z => ?_) fun uu uu y => y
    obtain ⟨σ₁, fl⟩ := r₁
    match σ₁, fl, h2, z with
    | some (.self l) :: rest, .next, h2, z =>
      cases h2
      cases f <;> first | exact absurd z id | skip
      obtain ⟨F', ow', I', uu⟩ := z
      obtain ⟨u, uu, hu⟩ := I'.slot 0 n0 (.self l) rfl rfl
      have hS := I'.self 0 l rfl
      obtain ⟨uu, es, mm, us, g1, g2, g3, g4⟩ := hu
      rw [hS] at g1 g2
      have nw : ∀ a, hp.objs.size ≤ a → hp.get? a = none := fun a h => by
        cases q : hp.get? a with
        | none => rfl
        | some o => exact absurd (Heap.lt_size q) (Nat.not_lt.mpr h)
      refine ⟨rfl, I'.keeps, hp.objs.size + 1, hp.objs.size, es, mm, us, rfl, ?_, ?_, g3, Reps.mono (View.le_of fun a o e => ?_) _ g4⟩
      · rw [gext_new (nw _ (Nat.le_succ _))]; exact g1
      · rw [gext_new (nw _ (Nat.le_refl _))]; exact g2
      · rcases I'.up a o e with q | q
        · exact (View.le_of (le_gext (h' := s'.heap) hs)) a o q |> fun f => by
            unfold gext
            have := hs a o q
            rw [if_pos (by rw [this]; rfl)]; exact q
        · rw [gext_new q]; exact I'.hF a o e
    | [], _, h2, _ => exact noS h2
    | none :: _, _, h2, _ => exact noS h2
    | some (.frz _) :: _, _, h2, _ => exact noS h2
    | some (.own _) :: _, _, h2, _ => exact noS h2
    | some (.self _) :: _, .brk, h2, _ => exact noS h2
    | some (.self _) :: _, .ret _, h2, _ => exact noS h2
end
end Mp
end

section
set_option maxRecDepth 100000
/-! Law 2: the program's defs in MiniPy. -/
namespace Mp
open PySem PySem.Calls PyProof.Rows PySem.W
namespace L2
/-- ISTERMINAL(x): 0 x -/
noncomputable def b_ISTERMINAL_vars : List String := ["x"]
noncomputable def b_ISTERMINAL : Ss :=
 (.cons (.ret (.cmp .lt (.var 0) (.glob 3)))
 .nil)
/-- ISNONTERMINAL(x): 0 x -/
noncomputable def b_ISNONTERMINAL_vars : List String := ["x"]
noncomputable def b_ISNONTERMINAL : Ss :=
 (.cons (.ret (.cmp .ge (.var 0) (.glob 3)))
 .nil)
/-- ISEOF(x): 0 x -/
noncomputable def b_ISEOF_vars : List String := ["x"]
noncomputable def b_ISEOF : Ss :=
 (.cons (.ret (.cmp .eq (.var 0) (.glob 2)))
 .nil)
/-- __init__(self, ws): 0 self, 1 ws, 2 count, 3 b, 4 n, 5 nt, 6 ch, 7 S, 8 T -/
noncomputable def b_init_vars : List String := ["self", "ws", "count", "b", "n", "nt", "ch", "S", "T"]
noncomputable def b_init : Ss :=
 (.cons (.setA 0 0 (.var 1))
 (.cons (.asg .frz (.t (.cons (.v 7) (.cons (.v 8) .nil))) (.tup (.cons (.glob 0) (.cons (.glob 1) .nil))))
 (.cons (.asg .new (.v 2) (.list .nil))
 (.cons (.asg3 3 4 5 (.cst (.int 0)))
 (.cons (.for (.v 6) (.e (.attr (.var 0) 0)) (.cons (.ite (.cmp .eq (.var 6) (.var 7)) (.cons (.asg .frz (.v 4) (.bin .add (.var 4) (.cst (.int 1))))
 (.cons (.asg .frz (.v 3) (.bin .add (.var 3) (.cst (.int 1))))
 .nil)) (.cons (.ite (.cmp .eq (.var 6) (.var 8)) (.cons (.asg .frz (.v 4) (.bin .add (.var 4) (.cst (.int 1))))
 (.cons (.asg .frz (.v 5) (.bin .add (.var 5) (.cst (.int 1))))
 (.cons (.ite (.cmp .ge (.var 3) (.call 0 (.cons (.var 2) .nil))) (.cons (.asg .new (.v 2) (.bin .add (.var 2) (.bin .mul (.list (.cons (.cst (.int 0)) .nil)) (.bin .add (.bin .sub (.var 3) (.call 0 (.cons (.var 2) .nil))) (.cst (.int 1))))))
 .nil) .nil)
 (.cons (.setI .sc 2 (.var 3) (.bin .add (.sub (.var 2) (.var 3)) (.cst (.int 1))))
 (.cons (.asg .frz (.v 3) (.cst (.int 0)))
 .nil))))) (.cons .brk
 .nil))
 .nil))
 .nil))
 (.cons (.setA 0 1 (.var 4))
 (.cons (.setA 0 2 (.var 5))
 (.cons (.frz 2)
 (.cons (.setA 0 3 (.tup (.cons (.call 5 (.cons (.var 2) .nil)) (.cons (.var 3) .nil))))
 (.cons (.setA 0 4 (.cmp .le (.call 0 (.cons (.var 2) .nil)) (.cst (.int 1))))
 .nil))))))))))
/-- longest_run_of_spaces(self): 0 self, 1 count, 2 trailing -/
noncomputable def b_longest_run_of_spaces_vars : List String := ["self", "count", "trailing"]
noncomputable def b_longest_run_of_spaces : Ss :=
 (.cons (.asg .frz (.t (.cons (.v 1) (.cons (.v 2) .nil))) (.attr (.var 0) 3))
 (.cons (.ret (.call 2 (.cons (.bin .sub (.call 0 (.cons (.var 1) .nil)) (.cst (.int 1))) (.cons (.var 2) .nil))))
 .nil))
/-- indent_level(self, tabsize): 0 self, 1 tabsize, 2 il, 3 i, 4 count, 5 trailing -/
noncomputable def b_indent_level_vars : List String := ["self", "tabsize", "il", "i", "count", "trailing"]
noncomputable def b_indent_level : Ss :=
 (.cons (.asg .frz (.t (.cons (.v 4) (.cons (.v 5) .nil))) (.attr (.var 0) 3))
 (.cons (.asg .frz (.v 2) (.cst (.int 0)))
 (.cons (.for (.v 3) (.range2 (.var 1) (.call 0 (.cons (.var 4) .nil))) (.cons (.asg .frz (.v 2) (.bin .add (.var 2) (.bin .mul (.bin .div (.var 3) (.var 1)) (.sub (.var 4) (.var 3)))))
 .nil))
 (.cons (.ret (.bin .add (.var 5) (.bin .mul (.var 1) (.bin .add (.var 2) (.attr (.var 0) 2)))))
 .nil))))
/-- equal(self, other): 0 self, 1 other -/
noncomputable def b_equal_vars : List String := ["self", "other"]
noncomputable def b_equal : Ss :=
 (.cons (.ret (.cmp .eq (.attr (.var 0) 3) (.attr (.var 1) 3)))
 .nil)
/-- not_less_witness(self, other): 0 self, 1 other, 2 n, 3 a, 4 ts -/
noncomputable def b_not_less_witness_vars : List String := ["self", "other", "n", "a", "ts"]
noncomputable def b_not_less_witness : Ss :=
 (.cons (.asg .frz (.v 2) (.bin .add (.call 2 (.cons (.meth (.var 0) 2 .nil) (.cons (.meth (.var 1) 2 .nil) .nil))) (.cst (.int 1))))
 (.cons (.asg .new (.v 3) (.list .nil))
 (.cons (.for (.v 4) (.range2 (.cst (.int 1)) (.bin .add (.var 2) (.cst (.int 1)))) (.cons (.ite (.cmp .ge (.meth (.var 0) 3 (.cons (.var 4) .nil)) (.meth (.var 1) 3 (.cons (.var 4) .nil))) (.cons (.app .frz 3 (.tup (.cons (.var 4) (.cons (.meth (.var 0) 3 (.cons (.var 4) .nil)) (.cons (.meth (.var 1) 3 (.cons (.var 4) .nil)) .nil)))))
 .nil) .nil)
 .nil))
 (.cons (.ret (.var 3))
 .nil))))
/-- _substitution_cost(ch_a, ch_b): 0 ch_a, 1 ch_b -/
noncomputable def b_substitution_cost_vars : List String := ["ch_a", "ch_b"]
noncomputable def b_substitution_cost : Ss :=
 (.cons (.ite (.cmp .eq (.var 0) (.var 1)) (.cons (.ret (.cst (.int 0)))
 .nil) .nil)
 (.cons (.ite (.cmp .eq (.meth (.var 0) 0 .nil) (.meth (.var 1) 0 .nil)) (.cons (.ret (.glob 6))
 .nil) .nil)
 (.cons (.ret (.glob 5))
 .nil)))
/-- _levenshtein_distance(a, b, max_cost): 0 a, 1 b, 2 max_cost, 3 pre, 4 post, 5 row, 6 result, 7 bindex, 8 bchar, 9 distance, 10 minimum, 11 index, 12 substitute, 13 insert_delete -/
noncomputable def b_levenshtein_distance_vars : List String := ["a", "b", "max_cost", "pre", "post", "row", "result", "bindex", "bchar", "distance", "minimum", "index", "substitute", "insert_delete"]
noncomputable def b_levenshtein_distance : Ss :=
 (.cons (.ite (.cmp .eq (.var 0) (.var 1)) (.cons (.ret (.cst (.int 0)))
 .nil) .nil)
 (.cons (.asg .frz (.v 3) (.cst (.int 0)))
 (.cons (.whl (.and (.cons (.slice (.var 0) (.var 3) .abs .abs) (.cons (.slice (.var 1) (.var 3) .abs .abs) (.cons (.cmp .eq (.sub (.var 0) (.var 3)) (.sub (.var 1) (.var 3))) .nil)))) (.cons (.aug 3 .add (.cst (.int 1)))
 .nil))
 (.cons (.asg .frz (.v 0) (.slice (.var 0) (.var 3) .abs .abs))
 (.cons (.asg .frz (.v 1) (.slice (.var 1) (.var 3) .abs .abs))
 (.cons (.asg .frz (.v 4) (.cst (.int 0)))
 (.cons (.whl (.and (.cons (.slice (.var 0) .abs (.or (.cons (.var 4) (.cons (.cst .none) .nil))) .abs) (.cons (.slice (.var 1) .abs (.or (.cons (.var 4) (.cons (.cst .none) .nil))) .abs) (.cons (.cmp .eq (.sub (.var 0) (.bin .sub (.var 4) (.cst (.int 1)))) (.sub (.var 1) (.bin .sub (.var 4) (.cst (.int 1))))) .nil)))) (.cons (.aug 4 .sub (.cst (.int 1)))
 .nil))
 (.cons (.asg .frz (.v 0) (.slice (.var 0) .abs (.or (.cons (.var 4) (.cons (.cst .none) .nil))) .abs))
 (.cons (.asg .frz (.v 1) (.slice (.var 1) .abs (.or (.cons (.var 4) (.cons (.cst .none) .nil))) .abs))
 (.cons (.ite (.or (.cons (.not (.var 0)) (.cons (.not (.var 1)) .nil))) (.cons (.ret (.bin .mul (.glob 5) (.bin .add (.call 0 (.cons (.var 0) .nil)) (.call 0 (.cons (.var 1) .nil)))))
 .nil) .nil)
 (.cons (.ite (.or (.cons (.cmp .gt (.call 0 (.cons (.var 0) .nil)) (.glob 4)) (.cons (.cmp .gt (.call 0 (.cons (.var 1) .nil)) (.glob 4)) .nil))) (.cons (.ret (.bin .add (.var 2) (.cst (.int 1))))
 .nil) .nil)
 (.cons (.ite (.cmp .lt (.call 0 (.cons (.var 1) .nil)) (.call 0 (.cons (.var 0) .nil))) (.cons (.asg .frz (.t (.cons (.v 0) (.cons (.v 1) .nil))) (.tup (.cons (.var 1) (.cons (.var 0) .nil))))
 .nil) .nil)
 (.cons (.ite (.cmp .gt (.bin .mul (.bin .sub (.call 0 (.cons (.var 1) .nil)) (.call 0 (.cons (.var 0) .nil))) (.glob 5)) (.var 2)) (.cons (.ret (.bin .add (.var 2) (.cst (.int 1))))
 .nil) .nil)
 (.cons (.asg .new (.v 5) (.lrange (.glob 5) (.bin .mul (.glob 5) (.bin .add (.call 0 (.cons (.var 0) .nil)) (.cst (.int 1)))) (.glob 5)))
 (.cons (.asg .frz (.v 6) (.cst (.int 0)))
 (.cons (.for (.v 7) (.range1 (.call 0 (.cons (.var 1) .nil))) (.cons (.asg .frz (.v 8) (.sub (.var 1) (.var 7)))
 (.cons (.asg2 9 6 (.bin .mul (.var 7) (.glob 5)))
 (.cons (.asg .frz (.v 10) (.cst (.int 9223372036854775807)))
 (.cons (.for (.v 11) (.range1 (.call 0 (.cons (.var 0) .nil))) (.cons (.asg .frz (.v 12) (.bin .add (.var 9) (.call 13 (.cons (.var 8) (.cons (.sub (.var 0) (.var 11)) .nil)))))
 (.cons (.asg .sc (.v 9) (.sub (.var 5) (.var 11)))
 (.cons (.asg .frz (.v 13) (.bin .add (.call 1 (.cons (.var 6) (.cons (.var 9) .nil))) (.glob 5)))
 (.cons (.asg .frz (.v 6) (.call 1 (.cons (.var 13) (.cons (.var 12) .nil))))
 (.cons (.setI .frz 5 (.var 11) (.var 6))
 (.cons (.ite (.cmp .lt (.var 6) (.var 10)) (.cons (.asg .frz (.v 10) (.var 6))
 .nil) .nil)
 .nil)))))))
 (.cons (.ite (.cmp .gt (.var 10) (.var 2)) (.cons (.ret (.bin .add (.var 2) (.cst (.int 1))))
 .nil) .nil)
 .nil))))))
 (.cons (.ret (.var 6))
 .nil)))))))))))))))))
/-- _law_type(symbols, f): 0 symbols, 1 f, 2 pile, 3 text, 4 x -/
noncomputable def b_law_type_vars : List String := ["symbols", "f", "pile", "text", "x"]
noncomputable def b_law_type : Ss :=
 (.cons (.asg .new (.v 2) (.bin .add (.list (.cons (.cst (.int 0)) .nil)) (.slice (.var 0) .abs .abs (.neg (.cst (.int 1))))))
 (.cons (.asg .frz (.v 3) (.cst (.str [])))
 (.cons (.whl (.not (.call 12 (.cons (.sub (.var 2) (.neg (.cst (.int 1)))) .nil))) (.cons (.popTo 4 2)
 (.cons (.ite (.call 10 (.cons (.var 4) .nil)) (.cons (.aug 3 .add (.sub (.cst (.str [32, 9, 107, 75])) (.ite (.cmp .lt (.var 4) (.cst (.int 5))) (.bin .sub (.var 4) (.cst (.int 1))) (.bin .sub (.cst (.int 255)) (.var 4)))))
 .nil) .nil)
 (.cons (.ite (.call 11 (.cons (.var 4) .nil)) (.cons (.ext 2 (.bin .mul (.list (.cons (.bin .add (.bin .sub (.var 4) (.glob 3)) (.cst (.int 1))) .nil)) (.var 1)))
 .nil) .nil)
 .nil))))
 (.cons (.ret (.var 3))
 .nil))))
/-- _law_parts(word): 0 word, 1 m, 2 i -/
noncomputable def b_law_parts_vars : List String := ["word", "m", "i"]
noncomputable def b_law_parts : Ss :=
 (.cons (.ret (.comp (.comp (.sub (.var 0) (.var 2)) (.v 2) (.range1 (.call 0 (.cons (.var 0) .nil))) (.cmp .eq (.bin .mod (.bin .div (.var 1) (.bin .pow (.cst (.int 2)) (.var 2))) (.cst (.int 2))) (.cst (.int 1)))) (.v 1) (.range1 (.bin .pow (.cst (.int 2)) (.call 0 (.cons (.var 0) .nil)))) (.cst (.bool true))))
 .nil)
/-- _law_least(one, other): 0 one, 1 other, 2 least, 3 laid, 4 kept, 5 under, 6 price, 7 a, 8 b -/
noncomputable def b_law_least_vars : List String := ["one", "other", "least", "laid", "kept", "under", "price", "a", "b"]
noncomputable def b_law_least : Ss :=
 (.cons (.asg .frz (.v 2) (.bin .mul (.cst (.int 2)) (.bin .add (.call 0 (.cons (.var 0) .nil)) (.call 0 (.cons (.var 1) .nil)))))
 (.cons (.asg .frz (.v 3) (.call 31 (.cons (.var 1) .nil)))
 (.cons (.for (.v 4) (.e (.call 31 (.cons (.var 0) .nil))) (.cons (.for (.v 5) (.e (.var 3)) (.cons (.ite (.cmp .eq (.call 0 (.cons (.var 4) .nil)) (.call 0 (.cons (.var 5) .nil))) (.cons (.asg .frz (.v 6) (.bin .mul (.cst (.int 2)) (.bin .sub (.bin .add (.call 0 (.cons (.var 0) .nil)) (.call 0 (.cons (.var 1) .nil))) (.bin .mul (.cst (.int 2)) (.call 0 (.cons (.var 4) .nil))))))
 (.cons (.for (.t (.cons (.v 7) (.cons (.v 8) .nil))) (.zip (.var 4) (.var 5)) (.cons (.ite (.cmp .ne (.var 7) (.var 8)) (.cons (.aug 6 .add (.ite (.cmp .eq (.bin .add (.var 7) (.var 8)) (.cst (.int 5))) (.cst (.int 1)) (.cst (.int 2))))
 .nil) .nil)
 .nil))
 (.cons (.asg .frz (.v 2) (.call 1 (.cons (.var 2) (.cons (.var 6) .nil))))
 .nil))) .nil)
 .nil))
 .nil))
 (.cons (.ret (.var 2))
 .nil))))
/-- _law_lead(word): 0 word, 1 runs, 2 kind -/
noncomputable def b_law_lead_vars : List String := ["word", "runs", "kind"]
noncomputable def b_law_lead : Ss :=
 (.cons (.asg .new (.v 1) (.list (.cons (.cst (.int 0)) .nil)))
 (.cons (.for (.v 2) (.e (.var 0)) (.cons (.ite (.cmp .gt (.var 2) (.cst (.int 1))) (.cons .brk
 .nil) .nil)
 (.cons (.ite (.cmp .eq (.var 2) (.cst (.int 1))) (.cons (.app .frz 1 (.cst (.int 0)))
 .nil) (.cons (.augI 1 (.neg (.cst (.int 1))) .add (.cst (.int 1)))
 .nil))
 .nil)))
 (.cons (.ret (.tup (.cons (.slice (.var 1) .abs (.neg (.cst (.int 1))) .abs) (.cons (.sub (.var 1) (.neg (.cst (.int 1)))) .nil))))
 .nil)))
/-- law(script): 0 script, 1 drawn, 2 k, 3 words, 4 total, 5 bound, 6 least, 7 leads, 8 longest, 9 often, 10 first, 11 step, 12 f, 13 texts, 14 told, 15 indents, 16 rows, 17 back, 18 size, 19 same, 20 word, 21 indent, 22 closed, 23 counts, 24 x, 25 text, 26 runs, 27 behind, 28 one, 29 other, 30 row, 31 kind, 32 run -/
noncomputable def b_law_vars : List String := ["script", "drawn", "k", "words", "total", "bound", "least", "leads", "longest", "often", "first", "step", "f", "texts", "told", "indents", "rows", "back", "size", "same", "word", "indent", "closed", "counts", "x", "text", "runs", "behind", "one", "other", "row", "kind", "run"]
noncomputable def b_law : Ss :=
 (.cons (.asg .new (.v 1) (.list (.cons (.cst (.int 0)) (.cons (.cst (.int 1)) (.cons (.cst (.int 1)) (.cons (.cst (.int 0)) (.cons (.cst (.int 0)) (.cons (.cst (.int 3)) (.cons (.cst (.int 2)) (.cons (.cst (.int 4)) .nil))))))))))
 (.cons (.for (.v 2) (.range1 (.call 1 (.cons (.cst (.int 8)) (.cons (.call 0 (.cons (.var 0) .nil)) .nil)))) (.cons (.setI .sc 1 (.var 2) (.bin .mod (.bin .add (.sub (.var 1) (.var 2)) (.sub (.var 0) (.var 2))) (.bin .pow (.cst (.int 10)) (.cst (.int 6)))))
 .nil))
 (.cons (.frz 1)
 (.cons (.asg .frz (.v 3) (.comp (.comp (.bin .mod (.var 24) (.cst (.int 5))) (.v 24) (.e (.slice (.var 1) (.var 2) .abs (.cst (.int 2)))) (.cmp .ne (.bin .mod (.var 24) (.cst (.int 5))) (.cst (.int 4)))) (.v 2) (.e (.tup (.cons (.cst (.int 0)) (.cons (.cst (.int 1)) .nil)))) (.cst (.bool true))))
 (.cons (.asg .frz (.v 4) (.call 3 (.cons (.comp (.bin .div (.var 24) (.cst (.int 5))) (.v 24) (.e (.var 1)) (.cst (.bool true))) .nil)))
 (.cons (.asg .frz (.v 5) (.bin .sub (.bin .mod (.bin .div (.var 4) (.cst (.int 2))) (.cst (.int 26))) (.cst (.int 1))))
 (.cons (.asg .frz (.v 6) (.call 32 (.cons (.sub (.var 3) (.cst (.int 0))) (.cons (.sub (.var 3) (.cst (.int 1))) .nil))))
 (.cons (.asg .frz (.v 7) (.comp (.call 33 (.cons (.var 20) .nil)) (.v 20) (.e (.var 3)) (.cst (.bool true))))
 (.cons (.asg .frz (.v 8) (.call 2 (.cons (.comp (.call 2 (.cons (.bin .add (.var 26) (.list (.cons (.var 27) .nil))) .nil)) (.t (.cons (.v 26) (.cons (.v 27) .nil))) (.e (.var 7)) (.cst (.bool true))) .nil)))
 (.cons (.asg .frz (.v 9) (.ite (.and (.cons (.cmp .eq (.bin .mod (.var 4) (.cst (.int 2))) (.cst (.int 1))) (.cons (.cmp .lt (.call 0 (.cons (.bin .add (.sub (.var 3) (.cst (.int 0))) (.sub (.var 3) (.cst (.int 1)))) .nil)) (.cst (.int 8))) .nil))) (.cst (.int 3)) (.cst (.int 2))))
 (.cons (.for (.t (.cons (.v 10) (.cons (.v 11) (.cons (.v 12) .nil)))) (.e (.tup (.cons (.tup (.cons (.cst (.int 255)) (.cons (.neg (.cst (.int 1))) (.cons (.cst (.int 1)) .nil)))) (.cons (.tup (.cons (.cst (.int 256)) (.cons (.cst (.int 1)) (.cons (.var 9) .nil)))) .nil)))) (.cons (.asg .frz (.v 13) (.comp (.call 30 (.cons (.comp (.bin .add (.var 10) (.bin .mul (.var 11) (.var 31))) (.v 31) (.e (.var 20)) (.cst (.bool true))) (.cons (.var 12) .nil))) (.v 20) (.e (.var 3)) (.cst (.bool true))))
 (.cons (.asg .frz (.v 14) (.call 14 (.cons (.sub (.var 13) (.cst (.int 0))) (.cons (.sub (.var 13) (.cst (.int 1))) (.cons (.bin .mul (.var 12) (.var 6)) .nil)))))
 (.cons (.ite (.or (.cons (.cmp .ne (.var 14) (.bin .mul (.var 12) (.var 6))) (.cons (.isBool (.var 14)) .nil))) (.cons (.ret (.cst (.bool false)))
 .nil) .nil)
 (.cons (.asg .frz (.v 14) (.call 14 (.cons (.sub (.var 13) (.cst (.int 1))) (.cons (.sub (.var 13) (.cst (.int 0))) (.cons (.var 5) .nil)))))
 (.cons (.ite (.and (.cons (.cmp .ne (.var 14) (.bin .mul (.var 12) (.var 6))) (.cons (.or (.cons (.cmp .le (.bin .mul (.var 12) (.var 6)) (.var 5)) (.cons (.cmp .ne (.var 14) (.bin .add (.var 5) (.cst (.int 1)))) .nil))) .nil))) (.cons (.ret (.cst (.bool false)))
 .nil) .nil)
 (.cons (.asg .frz (.v 15) (.comp (.call 15 (.cons (.var 25) .nil)) (.v 25) (.e (.var 13)) (.cst (.bool true))))
 (.cons (.for (.t (.cons (.v 21) (.cons (.t (.cons (.v 26) (.cons (.v 27) .nil))) .nil))) (.zip (.var 15) (.var 7)) (.cons (.asg .frz (.v 22) (.call 4 (.cons (.bin .add (.comp (.bin .mul (.var 12) (.var 32)) (.v 32) (.e (.var 26)) (.cst (.bool true))) (.bin .mul (.list (.cons (.cst (.int 0)) .nil)) (.bin .mul (.bin .sub (.var 12) (.cst (.int 1))) (.call 0 (.cons (.var 26) .nil))))) .nil)))
 (.cons (.asg .frz (.v 23) (.comp (.meth (.var 22) 1 (.cons (.var 18) .nil)) (.v 18) (.range1 (.bin .add (.call 2 (.cons (.bin .add (.list (.cons (.neg (.cst (.int 1))) .nil)) (.var 22)) .nil)) (.cst (.int 1)))) (.cst (.bool true))))
 (.cons (.ite (.cmp .ne (.attr (.var 21) 3) (.tup (.cons (.call 5 (.cons (.var 23) .nil)) (.cons (.bin .mul (.var 12) (.var 27)) .nil)))) (.cons (.ret (.cst (.bool false)))
 .nil) .nil)
 (.cons (.ite (.cmp .ne (.tup (.cons (.attr (.var 21) 1) (.cons (.attr (.var 21) 2) .nil))) (.tup (.cons (.bin .mul (.var 12) (.bin .add (.bin .add (.call 3 (.cons (.var 26) .nil)) (.call 0 (.cons (.var 26) .nil))) (.var 27))) (.cons (.bin .mul (.var 12) (.call 0 (.cons (.var 26) .nil))) .nil)))) (.cons (.ret (.cst (.bool false)))
 .nil) .nil)
 (.cons (.ite (.cmp .ne (.meth (.var 21) 2 .nil) (.bin .mul (.var 12) (.call 2 (.cons (.bin .add (.var 26) (.list (.cons (.var 27) .nil))) .nil)))) (.cons (.ret (.cst (.bool false)))
 .nil) .nil)
 (.cons (.ite (.cmp .isNot (.attr (.var 21) 4) (.cmp .eq (.call 3 (.cons (.var 26) .nil)) (.cst (.int 0)))) (.cons (.ret (.cst (.bool false)))
 .nil) .nil)
 .nil)))))))
 (.cons (.asg .new (.v 16) (.list .nil))
 (.cons (.asg .new (.v 17) (.list .nil))
 (.cons (.for (.v 18) (.range2 (.cst (.int 1)) (.bin .add (.var 8) (.cst (.int 2)))) (.cons (.asg .frz (.t (.cons (.v 28) (.cons (.v 29) .nil))) (.comp (.bin .mul (.var 12) (.bin .add (.var 27) (.bin .mul (.var 18) (.call 3 (.cons (.comp (.bin .add (.bin .div (.var 32) (.var 18)) (.var 12)) (.v 32) (.e (.var 26)) (.cst (.bool true))) .nil))))) (.t (.cons (.v 26) (.cons (.v 27) .nil))) (.e (.var 7)) (.cst (.bool true))))
 (.cons (.ite (.cmp .ne (.comp (.meth (.var 21) 3 (.cons (.bin .mul (.var 12) (.var 18)) .nil)) (.v 21) (.e (.var 15)) (.cst (.bool true))) (.list (.cons (.var 28) (.cons (.var 29) .nil)))) (.cons (.ret (.cst (.bool false)))
 .nil) .nil)
 (.cons (.ite (.and (.cons (.cmp .ge (.var 28) (.var 29)) (.cons (.cmp .le (.bin .mul (.var 12) (.var 18)) (.bin .add (.bin .mul (.var 12) (.var 8)) (.cst (.int 1)))) .nil))) (.cons (.app .frz 16 (.tup (.cons (.bin .mul (.var 12) (.var 18)) (.cons (.var 28) (.cons (.var 29) .nil)))))
 .nil) .nil)
 (.cons (.ite (.and (.cons (.cmp .ge (.var 29) (.var 28)) (.cons (.cmp .le (.bin .mul (.var 12) (.var 18)) (.bin .add (.bin .mul (.var 12) (.var 8)) (.cst (.int 1)))) .nil))) (.cons (.app .frz 17 (.tup (.cons (.bin .mul (.var 12) (.var 18)) (.cons (.var 29) (.cons (.var 28) .nil)))))
 .nil) .nil)
 .nil)))))
 (.cons (.ite (.cmp .ne (.comp (.var 30) (.v 30) (.e (.meth (.sub (.var 15) (.cst (.int 0))) 7 (.cons (.sub (.var 15) (.cst (.int 1))) .nil))) (.cmp .eq (.bin .mod (.sub (.var 30) (.cst (.int 0))) (.var 12)) (.cst (.int 0)))) (.var 16)) (.cons (.ret (.cst (.bool false)))
 .nil) .nil)
 (.cons (.ite (.cmp .ne (.comp (.var 30) (.v 30) (.e (.meth (.sub (.var 15) (.cst (.int 1))) 7 (.cons (.sub (.var 15) (.cst (.int 0))) .nil))) (.cmp .eq (.bin .mod (.sub (.var 30) (.cst (.int 0))) (.var 12)) (.cst (.int 0)))) (.var 17)) (.cons (.ret (.cst (.bool false)))
 .nil) .nil)
 (.cons (.asg .frz (.v 19) (.comp (.tup (.cons (.call 4 (.cons (.var 26) .nil)) (.cons (.var 27) .nil))) (.t (.cons (.v 26) (.cons (.v 27) .nil))) (.e (.var 7)) (.cst (.bool true))))
 (.cons (.ite (.cmp .isNot (.meth (.sub (.var 15) (.cst (.int 0))) 4 (.cons (.sub (.var 15) (.cst (.int 1))) .nil)) (.cmp .eq (.sub (.var 19) (.cst (.int 0))) (.sub (.var 19) (.cst (.int 1))))) (.cons (.ret (.cst (.bool false)))
 .nil) .nil)
 .nil)))))))))))))))
 (.cons (.ret (.cst (.bool true)))
 .nil))))))))))))

noncomputable def gl : Nat → Option PV
  | 0 => some (.str [32]) | 1 => some (.str [9]) | 2 => some (.int 0) | 3 => some (.int 256) | 4 => some (.int 40) | 5 => some (.int 2) | 6 => some (.int 1) | _ => none
noncomputable def at? : Nat → PV → Option PV
  | a, .inst l => if a < 5 then l[a]? else none
  | _, _ => none
noncomputable abbrev fuel : Nat := 10000
noncomputable def tabs : Nat → Tabs
  | 0 => ⟨gl, bfun, bmeth, at?⟩
  | n + 1 => ⟨gl, fun k l =>
    if k = 10 then (if l.length = 1 then callF (tabs n) fuel b_ISTERMINAL_vars.length b_ISTERMINAL l else none) else
    if k = 11 then (if l.length = 1 then callF (tabs n) fuel b_ISNONTERMINAL_vars.length b_ISNONTERMINAL l else none) else
    if k = 12 then (if l.length = 1 then callF (tabs n) fuel b_ISEOF_vars.length b_ISEOF l else none) else
    if k = 13 then (if l.length = 2 then callF (tabs n) fuel b_substitution_cost_vars.length b_substitution_cost l else none) else
    if k = 14 then (if l.length = 3 then callF (tabs n) fuel b_levenshtein_distance_vars.length b_levenshtein_distance l else none) else
    if k = 15 then (match l with
      | [x] => mkInst (tabs n) fuel b_init_vars.length b_init x
      | _ => none) else
    if k = 30 then (if l.length = 2 then callF (tabs n) fuel b_law_type_vars.length b_law_type l else none) else
    if k = 31 then (if l.length = 1 then callF (tabs n) fuel b_law_parts_vars.length b_law_parts l else none) else
    if k = 32 then (if l.length = 2 then callF (tabs n) fuel b_law_least_vars.length b_law_least l else none) else
    if k = 33 then (if l.length = 1 then callF (tabs n) fuel b_law_lead_vars.length b_law_lead l else none) else
    bfun k l,
   fun k o l => match o with
    | .inst _ => (
      if k = 2 then (if l.length = 0 then callF (tabs n) fuel b_longest_run_of_spaces_vars.length b_longest_run_of_spaces (o :: l) else none) else
      if k = 3 then (if l.length = 1 then callF (tabs n) fuel b_indent_level_vars.length b_indent_level (o :: l) else none) else
      if k = 4 then (if l.length = 1 then callF (tabs n) fuel b_equal_vars.length b_equal (o :: l) else none) else
      if k = 7 then (if l.length = 1 then callF (tabs n) fuel b_not_less_witness_vars.length b_not_less_witness (o :: l) else none) else
      none)
    | _ => bmeth k o l, at?⟩
noncomputable def names : NT where
  glob
    | 0 => some (Str.ofString "Whitespace", some (Str.ofString "S")) | 1 => some (Str.ofString "Whitespace", some (Str.ofString "T"))
    | 2 => some (Str.ofString "ENDMARKER", none) | 3 => some (Str.ofString "NT_OFFSET", none) | 4 => some (Str.ofString "_MAX_STRING_SIZE", none) | 5 => some (Str.ofString "_MOVE_COST", none) | 6 => some (Str.ofString "_CASE_COST", none) | _ => none
  call
    | 0 => some (Str.ofString "len") | 1 => some (Str.ofString "min") | 2 => some (Str.ofString "max") | 3 => some (Str.ofString "sum") | 4 => some (Str.ofString "sorted") | 5 => some (Str.ofString "tuple") | 6 => some (Str.ofString "all")
    | 10 => some (Str.ofString "ISTERMINAL") | 11 => some (Str.ofString "ISNONTERMINAL") | 12 => some (Str.ofString "ISEOF") | 13 => some (Str.ofString "_substitution_cost") | 14 => some (Str.ofString "_levenshtein_distance")
    | 15 => some (Str.ofString "Whitespace") | 30 => some (Str.ofString "_law_type") | 31 => some (Str.ofString "_law_parts") | 32 => some (Str.ofString "_law_least") | 33 => some (Str.ofString "_law_lead") | _ => none
  meth
    | 0 => some (Str.ofString "lower") | 1 => some (Str.ofString "count") | 2 => some (Str.ofString "longest_run_of_spaces") | 3 => some (Str.ofString "indent_level") | 4 => some (Str.ofString "equal")
    | 7 => some (Str.ofString "not_less_witness") | _ => none
  attr a := fieldNames[a]?
end L2
end Mp
end

section
set_option maxRecDepth 20000
/-! MiniPy: what the two laws' worlds share. -/
namespace Mp
open PySem PySem.Calls PyProof.Rows PySem.W

noncomputable def nsOf (l : List String) : List Str := l.map Str.ofString
noncomputable def allOk (N : NT) (K : Frag) (a : Addr) (vars : List String) (b : Ss) (np : Nat) : Bool :=
  isDef K a && isStmts (fnAt K a) && defOk N (nsOf vars) (fnAt K a) (bodyOf (fnAt K a)) b && decide ((fnAt K a).params.args.length = np) && decide (np ≤ vars.length)
noncomputable def globIs (K : Frag) (n : Str) (i : Int) : Bool := match nsIn K mainGlobals n with
  | some (some (.int j _)) => i == j
  | _ => false
theorem globIs_at {K : Frag} {n : Str} {i : Int} (h : globIs K n i = true) : ∃ t, nsIn K mainGlobals n = some (some (.int i t)) := by
  unfold globIs at h
  generalize nsIn K mainGlobals n = x at h ⊢
  match x, h with
  | none, h => exact noB h
  | some none, h => exact noB h
  | some (some v), h => cases v with
    | int j t => exact ⟨t, by rw [eqB h]⟩
    | _ => exact noB h
noncomputable def clsStr (K : Frag) (C : Addr) (n : Str) (l : List Nat) : Bool := match findCls K (.ref C) (.type "type") n with
  | some (.val (.str x _)) => x.cps.toList == l
  | _ => false
theorem clsStr_at {K : Frag} {C : Addr} {n : Str} {l : List Nat} (h : clsStr K C n l = true) : ∃ t, findCls K (.ref C) (.type "type") n = some (.val (.str ⟨l.toArray⟩ t)) := by
  unfold clsStr at h
  generalize findCls K (.ref C) (.type "type") n = x at h ⊢
  cases x with
  | none => exact noB h
  | some y => cases y with
    | val v => cases v with
      | str x t => exact ⟨t, by rw [← eqB h]⟩
      | _ => exact noB h
    | _ => exact noB h

section
variable {W : Wd} {K : Frag} {p : Program} {loose : List Str} {mg mb : Str → Option Value} {N : NT} {T : Tabs} {A : Around} {ns : List Str} {fuel : Nat}

theorem KW.def_all (k : KW W K p loose mg mb) {a : Addr} {vars : List String} {b : Ss} {np : Nat} {xs : List PV} {r : PV} {n : Nat} (hB : Bud A n) (h : allOk N K a vars b np = true)
    (hbind : ∀ vs : List Value, vs.length = np → bindArgs (fnAt K a) ⟨vs, []⟩ = pure (((nsOf vars).take vs.length).zip vs)) (hx : xs.length = np)
    (H : ∀ env, Good W N T (A.deeper env)) (hr : callF T fuel vars.length b xs = some r) : KeepOK W (.ref a) ∧ CallOK W A (.ref a) xs r := by
  simp only [allOk, Bool.and_eq_true, decide_eq_true_eq] at h
  obtain ⟨⟨⟨⟨h1, h2⟩, h3⟩, h4⟩, h5⟩ := h
  have hl : (nsOf vars).length = vars.length := by simp [nsOf]
  exact ⟨k.keep_def h1, k.def_ok (ns := nsOf vars) hB h1 h2 h3 (fun vs hvs => hbind vs (hvs.trans hx)) (by rw [hl, hx]; exact h5) (by rw [hx, h4]; exact Nat.le_refl _) H (by rw [hl]; exact hr)⟩

theorem KW.globInt (k : KW W K p loose mg mb) {n : Str} {i : Int} (h : globIs K n i = true) : ∃ v, Loads W A n v ∧ Rep W.C (fun uu => none) (.int i) v := by
  obtain ⟨t, e⟩ := globIs_at h
  exact ⟨_, k.global e, t, rfl⟩
theorem KW.clsAttr (k : KW W K p loose mg mb) {C : Addr} {n : Str} {l : List Nat} (hr : readsIn K C (.type "type") = true) (h : clsStr K C n l = true) (s : Shared) (E : Value → Shared → Prop) (hk : Keep W.h₀ s.heap) :
    wpAny (model W.prog W.w) A (getAttr (.ref C) n true) (fun v s' => Keeps s s' ∧ Rep W.C (fun uu => none) (.str l) v) E s := by
  obtain ⟨t, e⟩ := clsStr_at h
  exact cls_value (k.X.keeps hk) hr e rfl ⟨keeps_tok _ _, t, rfl⟩

theorem lower_ok {c : Nat} {r : PV} (hr : bmeth 0 (.str [c]) [] = some r) : CallOK W A (.builtin "str.lower") [.str [c]] r := fun g s vs E hs uu hrep => by
  obtain ⟨d, hd, rfl⟩ := Option.map_eq_some_iff.mp (show (lowC c).map (fun d => PV.str [d]) = some r from hr)
  obtain ⟨v, w, rfl, ⟨t, rfl⟩, hw⟩ := hrep
  (first | exact noS hw | exact noB hw | cases hw)
  have hp := low_placed hd
  have g1 := gives_str_lower ⟨[c].toArray⟩ t (by rw [show ([c].toArray : Array Nat) = #[c] from rfl, hp]; rfl)
  rw [show ([c].toArray : Array Nat) = #[c] from rfl, hp] at g1
  exact call_gives PySem.F.slot_str_lower (typeIs_str _ _ _) PySem.F.entry_str_lower (PySem.F.args_str_lower_1 _) g1 ⟨by rw [sizeLine_eq]; show 1 ≤ _; omega, sc_post (keeps_tok _ _) ⟨s.toks, rfl⟩⟩
theorem count_ok {l : List PV} {j : Int} {r : PV} (hr : bmeth 1 (.list l) [.int j] = some r) : CallOK W A (.builtin "list.count") [.list l, .int j] r := fun g s vs E hs uu hrep => by
  obtain ⟨is, hi, rfl⟩ := Option.map_eq_some_iff.mp (show (asInts l).map (fun r => PV.int (r.count j)) = some r from hr)
  obtain ⟨v, w, rfl, ⟨a, us, n, rfl, ho, ru⟩, hw⟩ := hrep
  obtain ⟨t, rfl⟩ := reps1 hw
  exact count_list_ints (vs := us) ⟨_, hs _ _ ho, rfl, n, rfl⟩ (ru.ints hi) (sc_post (keeps_tok _ _) ⟨_, rfl⟩)

theorem bmeth_str {x : PV} {xs : List PV} {r : PV} (hr : bmeth 0 x xs = some r) : ∃ c, x = .str [c] ∧ xs = [] := by
  cases x with
  | str l => cases l with
    | nil => exact noS hr
    | cons c l => cases l with
      | nil => cases xs with
        | nil => exact ⟨c, rfl, rfl⟩
        | cons _ _ => exact noS hr
      | cons _ _ => exact noS hr
  | _ => exact noS hr
theorem bmeth_list {x : PV} {xs : List PV} {r : PV} (hr : bmeth 1 x xs = some r) : ∃ l j, x = .list l ∧ xs = [.int j] := by
  cases x with
  | list l => cases xs with
    | nil => exact noS hr
    | cons y xs => cases xs with
      | cons _ _ => cases y <;> exact noS hr
      | nil => cases y with
        | int j => exact ⟨l, j, rfl, rfl⟩
        | _ => exact noS hr
  | _ => exact noS hr

/-- a builtin method -/
theorem bmeth_ok0 {x r : PV} {xs : List PV} (hr : bmeth 0 x xs = some r) (g : View) (s : Shared) (v : Value) (pl : Sem Bool) (E : Value → Shared → Prop) (Q : Value × List Value → Shared → Prop) (hv : Rep W.C g x v)
    (hQ : ∀ fv, KeepOK W fv → CallOK W A fv (x :: xs) r → Q (fv, [v]) s) : wpAny (model W.prog W.w) A (getMethod v (Str.ofString "lower") pl) Q E s := by
  obtain ⟨c, rfl, rfl⟩ := bmeth_str hr
  obtain ⟨t, rfl⟩ := hv
  exact GM.lower (hQ _ keep_builtin (lower_ok hr))
theorem bmeth_ok1 {x r : PV} {xs : List PV} (hr : bmeth 1 x xs = some r) (g : View) (s : Shared) (v : Value) (pl : Sem Bool) (E : Value → Shared → Prop) (Q : Value × List Value → Shared → Prop) (hs : Sub g s.heap) (hv : Rep W.C g x v)
    (hQ : ∀ fv, KeepOK W fv → CallOK W A fv (x :: xs) r → Q (fv, [v]) s) : wpAny (model W.prog W.w) A (getMethod v (Str.ofString "count") pl) Q E s := by
  obtain ⟨l, j, rfl, rfl⟩ := bmeth_list hr
  obtain ⟨a, us, n, rfl, ho, ru⟩ := hv
  exact getMethod_own PySem.F.slot_list_count (by show builtinType _ = _; rw [builtinType_eq_fast]; kernel_rfl) (hs _ _ ho) (hQ _ keep_builtin (count_ok hr))

theorem bloads (k : KW W K p loose mg mb) {n : Str} {v : Value} (h : nsIn K mainGlobals n = some none) (hb : bootBuiltins n = some v) (hn : (n == Str.ofString "__name__") = false) : Loads W A n v :=
  k.builtin h hb fun e => by rw [e] at hn; simp at hn
end
end Mp
end

section
open PySem PySem.W PyProof.Rows
set_option maxRecDepth 100000
set_option maxHeartbeats 8000000
namespace Mp
/-- the law's text without the rows that do nothing here -/
noncomputable def view2 : Program := { PySem.Challenge.pw_rw0082_02 with main := { PySem.Challenge.pw_rw0082_02.main with body := [0, 2, 3, 4, 5, 6, 8, 10, 11, 12, 13, 14, 16, 17, 18, 19, 20].filterMap (PySem.Challenge.pw_rw0082_02.main.body[·]?) } }
theorem ok2 : PySem.Challenge.rw_rw0082_02.wellSaid = true := by kernel_rfl
noncomputable def xt2 (s : Shared) : Bool := xlAt view2 [] s && recOk (RowW.records (PySem.Challenge.rw_rw0082_02.row.toRowW)) s
theorem open2 (H : Hook) {d : DefRec} {kwd : List (Str × Expr)}
    (hl : ∀ w : World, (fencedOpening treeTable PySem.Challenge.rw_rw0082_02.row.prog w 1956).map (fun s₀ =>
        ((topFrom treeTable PySem.Challenge.rw_rw0082_02.row.prog (w.withFollow "special-get-raises" false) 1956 s₀).map (fun s => (openSeen view2 [Str.ofString "Whitespace"] (importedModules PySem.Challenge.rw_rw0082_02.row.prog.main.body) xt2 true s, H.obs s)),
         (topFrom treeTable PySem.Challenge.rw_rw0082_02.row.prog (w.withFollow "special-get-raises" true) 1956 s₀).map (fun s => (openSeen view2 [Str.ofString "Whitespace"] (importedModules PySem.Challenge.rw_rw0082_02.row.prog.main.body) xt2 true s, H.obs s)))) =
      some (some (openGood view2 [Str.ofString "Whitespace"], H.val (w.withFollow "special-get-raises" false)), some (openGood view2 [Str.ofString "Whitespace"], H.val (w.withFollow "special-get-raises" true))))
    (hdef : defOf view2 PySem.Challenge.rw_rw0082_02.row.name = some (d, kwd)) (hp : PySem.Challenge.rw_rw0082_02.row.prog.theDef PySem.Challenge.rw_rw0082_02.row.name = some (d.params, d.body, d.scope))
    (hk : kwWritten? d.params.kwonlyargs d.params.kw_defaults = some kwd) (hw : PySem.Challenge.rw_rw0082_02.row.toRowW.promised)
    (call : WalkO view2 [Str.ofString "Whitespace"] (XL view2 []) H.says PySem.Challenge.rw_rw0082_02.row.toRowW d kwd fun f vs => PySem.call f vs) : PySem.Challenge.rw_rw0082_02.row.Holds :=
  holds_open (q := view2) (loose := [Str.ofString "Whitespace"]) (Xt := xt2) (XP := XL view2 []) (LeftO.of_split "special-get-raises" hl) H.of H.keeps (fun s e => xl_of s (Bool.and_eq_true_iff.mp e).1) XL.keeps hdef hp hk (fun s e => recFacts_of (Bool.and_eq_true_iff.mp e).2) (by rfl) (row_said ok2) (by decide +kernel) ⟨rfl, rfl, rfl, rfl, rfl, by decide +kernel⟩ hw call
local macro_rules | `(tactic| o_head $H) => `(tactic| refine open2 $H (fun w => by kernel_rfl) rfl rfl rfl ?hw ?hc)
open_top hd2 for PySem.Challenge.rw_rw0082_02.row
theorem law2 (h : PySem.Challenge.rw_rw0082_02.row.Holds) : PySem.Challenge.rw_rw0082_02.Holds := ⟨ok2, h⟩
end Mp
end

section
set_option maxRecDepth 100000
/-! Law 2: the program's own objects. -/
namespace Mp
open PySem PySem.Calls PyProof.Rows PySem.W
namespace L2
noncomputable abbrev KK (p : Params) : Frag := hd2.heap_1 p
theorem f28 (p : Params) : allOk names (KK p) 28 b_ISTERMINAL_vars b_ISTERMINAL 1 = true := by kernel_rfl
theorem v28 (p : Params) (vs : List Value) (h : vs.length = 1) : bindArgs (fnAt (KK p) 28) ⟨vs, []⟩ = pure (((nsOf b_ISTERMINAL_vars).take vs.length).zip vs) := by
  match vs, h with
  | [a], _ => kernel_rfl
theorem f35 (p : Params) : allOk names (KK p) 35 b_ISNONTERMINAL_vars b_ISNONTERMINAL 1 = true := by kernel_rfl
theorem v35 (p : Params) (vs : List Value) (h : vs.length = 1) : bindArgs (fnAt (KK p) 35) ⟨vs, []⟩ = pure (((nsOf b_ISNONTERMINAL_vars).take vs.length).zip vs) := by
  match vs, h with
  | [a], _ => kernel_rfl
theorem f42 (p : Params) : allOk names (KK p) 42 b_ISEOF_vars b_ISEOF 1 = true := by kernel_rfl
theorem v42 (p : Params) (vs : List Value) (h : vs.length = 1) : bindArgs (fnAt (KK p) 42) ⟨vs, []⟩ = pure (((nsOf b_ISEOF_vars).take vs.length).zip vs) := by
  match vs, h with
  | [a], _ => kernel_rfl
theorem f115 (p : Params) : allOk names (KK p) 115 b_substitution_cost_vars b_substitution_cost 2 = true := by kernel_rfl
theorem v115 (p : Params) (vs : List Value) (h : vs.length = 2) : bindArgs (fnAt (KK p) 115) ⟨vs, []⟩ = pure (((nsOf b_substitution_cost_vars).take vs.length).zip vs) := by
  match vs, h with
  | [a, b], _ => kernel_rfl
theorem f122 (p : Params) : allOk names (KK p) 122 b_levenshtein_distance_vars b_levenshtein_distance 3 = true := by kernel_rfl
theorem v122 (p : Params) (vs : List Value) (h : vs.length = 3) : bindArgs (fnAt (KK p) 122) ⟨vs, []⟩ = pure (((nsOf b_levenshtein_distance_vars).take vs.length).zip vs) := by
  match vs, h with
  | [a, b, c], _ => kernel_rfl
theorem f129 (p : Params) : allOk names (KK p) 129 b_law_type_vars b_law_type 2 = true := by kernel_rfl
theorem v129 (p : Params) (vs : List Value) (h : vs.length = 2) : bindArgs (fnAt (KK p) 129) ⟨vs, []⟩ = pure (((nsOf b_law_type_vars).take vs.length).zip vs) := by
  match vs, h with
  | [a, b], _ => kernel_rfl
theorem f134 (p : Params) : allOk names (KK p) 134 b_law_parts_vars b_law_parts 1 = true := by kernel_rfl
theorem v134 (p : Params) (vs : List Value) (h : vs.length = 1) : bindArgs (fnAt (KK p) 134) ⟨vs, []⟩ = pure (((nsOf b_law_parts_vars).take vs.length).zip vs) := by
  match vs, h with
  | [a], _ => kernel_rfl
theorem f141 (p : Params) : allOk names (KK p) 141 b_law_least_vars b_law_least 2 = true := by kernel_rfl
theorem v141 (p : Params) (vs : List Value) (h : vs.length = 2) : bindArgs (fnAt (KK p) 141) ⟨vs, []⟩ = pure (((nsOf b_law_least_vars).take vs.length).zip vs) := by
  match vs, h with
  | [a, b], _ => kernel_rfl
theorem f148 (p : Params) : allOk names (KK p) 148 b_law_lead_vars b_law_lead 1 = true := by kernel_rfl
theorem v148 (p : Params) (vs : List Value) (h : vs.length = 1) : bindArgs (fnAt (KK p) 148) ⟨vs, []⟩ = pure (((nsOf b_law_lead_vars).take vs.length).zip vs) := by
  match vs, h with
  | [a], _ => kernel_rfl
theorem f153 (p : Params) : allOk names (KK p) 153 b_law_vars b_law 1 = true := by kernel_rfl
theorem v153 (p : Params) (vs : List Value) (h : vs.length = 1) : bindArgs (fnAt (KK p) 153) ⟨vs, []⟩ = pure (((nsOf b_law_vars).take vs.length).zip vs) := by
  match vs, h with
  | [a], _ => kernel_rfl
theorem f66 (p : Params) : allOk names (KK p) 66 b_longest_run_of_spaces_vars b_longest_run_of_spaces 1 = true := by kernel_rfl
theorem v66 (p : Params) (vs : List Value) (h : vs.length = 1) : bindArgs (fnAt (KK p) 66) ⟨vs, []⟩ = pure (((nsOf b_longest_run_of_spaces_vars).take vs.length).zip vs) := by
  match vs, h with
  | [a], _ => kernel_rfl
theorem f73 (p : Params) : allOk names (KK p) 73 b_indent_level_vars b_indent_level 2 = true := by kernel_rfl
theorem v73 (p : Params) (vs : List Value) (h : vs.length = 2) : bindArgs (fnAt (KK p) 73) ⟨vs, []⟩ = pure (((nsOf b_indent_level_vars).take vs.length).zip vs) := by
  match vs, h with
  | [a, b], _ => kernel_rfl
theorem f80 (p : Params) : allOk names (KK p) 80 b_equal_vars b_equal 2 = true := by kernel_rfl
theorem v80 (p : Params) (vs : List Value) (h : vs.length = 2) : bindArgs (fnAt (KK p) 80) ⟨vs, []⟩ = pure (((nsOf b_equal_vars).take vs.length).zip vs) := by
  match vs, h with
  | [a, b], _ => kernel_rfl
theorem f101 (p : Params) : allOk names (KK p) 101 b_not_less_witness_vars b_not_less_witness 2 = true := by kernel_rfl
theorem v101 (p : Params) (vs : List Value) (h : vs.length = 2) : bindArgs (fnAt (KK p) 101) ⟨vs, []⟩ = pure (((nsOf b_not_less_witness_vars).take vs.length).zip vs) := by
  match vs, h with
  | [a, b], _ => kernel_rfl
theorem f59 (p : Params) : allOk names (KK p) 59 b_init_vars b_init 2 = true := by kernel_rfl
theorem v59 (p : Params) (a c : Value) : bindArgs (fnAt (KK p) 59) ⟨[a, c], []⟩ = pure [(Str.ofString "self", a), (Str.ofString "ws", c)] := by kernel_rfl
theorem c104 (p : Params) : clsOk (KK p) 104 fieldNames = true := by kernel_rfl
theorem e104 (p : Params) : setOk (KK p) 104 fieldNames = true := by kernel_rfl
theorem m104 (p : Params) : makesIn (KK p) 104 = true := by kernel_rfl
theorem i104 (p : Params) : findIn (KK p) (.ref 104) (Str.ofString "__init__") = some (some (.ref 59)) := by kernel_rfl
theorem n59 (p : Params) : isFn (KK p) (.ref 59) = true := by kernel_rfl
theorem k104 (p : Params) : isClsIn (KK p) 104 = true := by kernel_rfl
theorem q104 (p : Params) : specialIn (KK p) (.ref 104) (Str.ofString "__call__") = some (some (.builtin "type.__call__")) := by kernel_rfl
theorem r104 (p : Params) : readsIn (KK p) 104 (.type "type") = true := by kernel_rfl
theorem g0 (p : Params) : globIs (KK p) (Str.ofString "ENDMARKER") 0 = true := by kernel_rfl
theorem g1 (p : Params) : globIs (KK p) (Str.ofString "NT_OFFSET") 256 = true := by kernel_rfl
theorem g2 (p : Params) : globIs (KK p) (Str.ofString "_MAX_STRING_SIZE") 40 = true := by kernel_rfl
theorem g3 (p : Params) : globIs (KK p) (Str.ofString "_MOVE_COST") 2 = true := by kernel_rfl
theorem g4 (p : Params) : globIs (KK p) (Str.ofString "_CASE_COST") 1 = true := by kernel_rfl
theorem y0 (p : Params) : clsStr (KK p) 104 (Str.ofString "S") [32] = true := by kernel_rfl
theorem y1 (p : Params) : clsStr (KK p) 104 (Str.ofString "T") [9] = true := by kernel_rfl
theorem nb_len (p : Params) : nsIn (KK p) mainGlobals (Str.ofString "len") = some none := by kernel_rfl
theorem bb_len : bootBuiltins (Str.ofString "len") = some (.builtin "len") := by kernel_rfl
theorem nb_min (p : Params) : nsIn (KK p) mainGlobals (Str.ofString "min") = some none := by kernel_rfl
theorem bb_min : bootBuiltins (Str.ofString "min") = some (.builtin "min") := by kernel_rfl
theorem nb_max (p : Params) : nsIn (KK p) mainGlobals (Str.ofString "max") = some none := by kernel_rfl
theorem bb_max : bootBuiltins (Str.ofString "max") = some (.builtin "max") := by kernel_rfl
theorem nb_sum (p : Params) : nsIn (KK p) mainGlobals (Str.ofString "sum") = some none := by kernel_rfl
theorem bb_sum : bootBuiltins (Str.ofString "sum") = some (.builtin "sum") := by kernel_rfl
theorem nb_sorted (p : Params) : nsIn (KK p) mainGlobals (Str.ofString "sorted") = some none := by kernel_rfl
theorem bb_sorted : bootBuiltins (Str.ofString "sorted") = some (.builtin "sorted") := by kernel_rfl
theorem nb_tuple (p : Params) : nsIn (KK p) mainGlobals (Str.ofString "tuple") = some none := by kernel_rfl
theorem bb_tuple : bootBuiltins (Str.ofString "tuple") = some (.type "tuple") := by kernel_rfl
theorem nb_all (p : Params) : nsIn (KK p) mainGlobals (Str.ofString "all") = some none := by kernel_rfl
theorem bb_all : bootBuiltins (Str.ofString "all") = some (.builtin "all") := by kernel_rfl
theorem nb_range (p : Params) : nsIn (KK p) mainGlobals (Str.ofString "range") = some none := by kernel_rfl
theorem bb_range : bootBuiltins (Str.ofString "range") = some (.type "range") := by kernel_rfl
theorem nb_zip (p : Params) : nsIn (KK p) mainGlobals (Str.ofString "zip") = some none := by kernel_rfl
theorem bb_zip : bootBuiltins (Str.ofString "zip") = some (.type "zip") := by kernel_rfl
theorem nb_list (p : Params) : nsIn (KK p) mainGlobals (Str.ofString "list") = some none := by kernel_rfl
theorem bb_list : bootBuiltins (Str.ofString "list") = some (.type "list") := by kernel_rfl
theorem nb_isinstance (p : Params) : nsIn (KK p) mainGlobals (Str.ofString "isinstance") = some none := by kernel_rfl
theorem bb_isinstance : bootBuiltins (Str.ofString "isinstance") = some (.builtin "isinstance") := by kernel_rfl
theorem nb_bool (p : Params) : nsIn (KK p) mainGlobals (Str.ofString "bool") = some none := by kernel_rfl
theorem bb_bool : bootBuiltins (Str.ofString "bool") = some (.type "bool") := by kernel_rfl
theorem gd28 (p : Params) : nsIn (KK p) mainGlobals (Str.ofString "ISTERMINAL") = some (some (.ref 28)) := by kernel_rfl
theorem gd35 (p : Params) : nsIn (KK p) mainGlobals (Str.ofString "ISNONTERMINAL") = some (some (.ref 35)) := by kernel_rfl
theorem gd42 (p : Params) : nsIn (KK p) mainGlobals (Str.ofString "ISEOF") = some (some (.ref 42)) := by kernel_rfl
theorem gd115 (p : Params) : nsIn (KK p) mainGlobals (Str.ofString "_substitution_cost") = some (some (.ref 115)) := by kernel_rfl
theorem gd122 (p : Params) : nsIn (KK p) mainGlobals (Str.ofString "_levenshtein_distance") = some (some (.ref 122)) := by kernel_rfl
theorem gd129 (p : Params) : nsIn (KK p) mainGlobals (Str.ofString "_law_type") = some (some (.ref 129)) := by kernel_rfl
theorem gd134 (p : Params) : nsIn (KK p) mainGlobals (Str.ofString "_law_parts") = some (some (.ref 134)) := by kernel_rfl
theorem gd141 (p : Params) : nsIn (KK p) mainGlobals (Str.ofString "_law_least") = some (some (.ref 141)) := by kernel_rfl
theorem gd148 (p : Params) : nsIn (KK p) mainGlobals (Str.ofString "_law_lead") = some (some (.ref 148)) := by kernel_rfl
theorem gd104 (p : Params) : nsIn (KK p) mainGlobals (Str.ofString "Whitespace") = some (some (.ref 104)) := by kernel_rfl
theorem md66 (p : Params) : findIn (KK p) (.ref 104) (Str.ofString "longest_run_of_spaces") = some (some (.ref 66)) := by kernel_rfl
theorem mf66 (p : Params) : isFn (KK p) (.ref 66) = true := by kernel_rfl
theorem mn66 : Str.ofString "longest_run_of_spaces" ∉ fieldNames := by decide +kernel
theorem md73 (p : Params) : findIn (KK p) (.ref 104) (Str.ofString "indent_level") = some (some (.ref 73)) := by kernel_rfl
theorem mf73 (p : Params) : isFn (KK p) (.ref 73) = true := by kernel_rfl
theorem mn73 : Str.ofString "indent_level" ∉ fieldNames := by decide +kernel
theorem md80 (p : Params) : findIn (KK p) (.ref 104) (Str.ofString "equal") = some (some (.ref 80)) := by kernel_rfl
theorem mf80 (p : Params) : isFn (KK p) (.ref 80) = true := by kernel_rfl
theorem mn80 : Str.ofString "equal" ∉ fieldNames := by decide +kernel
theorem md101 (p : Params) : findIn (KK p) (.ref 104) (Str.ofString "not_less_witness") = some (some (.ref 101)) := by kernel_rfl
theorem mf101 (p : Params) : isFn (KK p) (.ref 101) = true := by kernel_rfl
theorem mn101 : Str.ofString "not_less_witness" ∉ fieldNames := by decide +kernel
end L2
end Mp
end

section
set_option maxRecDepth 100000
/-! Law 2: every call is sound. -/
namespace Mp
open PySem PySem.Calls PyProof.Rows PySem.W
namespace L2
section
variable {prog : Program} {w : World} {h₀ : Heap} {p : Program} {loose : List Str} {mg mb : Str → Option Value} {A : Around} {P : Params}
noncomputable abbrev WD (prog : Program) (w : World) (h₀ : Heap) : Wd := ⟨prog, w, h₀, 104, (0, 0)⟩

theorem iteB {α : Type} {c : Prop} [Decidable c] {x y r : α} {G : Prop} (h : (if c then x else y) = r) (k : c → x = r → G) (k' : y = r → G) : G := by
  by_cases q : c
  · rw [if_pos q] at h; exact k q h
  · rw [if_neg q] at h; exact k' h
theorem if_some {c : Prop} [Decidable c] {α : Type} {x : Option α} {r : α} (h : (if c then x else none) = some r) : c ∧ x = some r := by
  split at h
  · exact ⟨by assumption, h⟩
  · (first | exact noS h | exact noB h | cases h)

theorem builtin_call (k : KW (WD prog w h₀) (KK P) p loose mg mb) (hh : A.handled = none) {f : Nat} {nm : Str} {xs : List PV} {r : PV} (hn : names.call f = some nm) (hr : bfun f xs = some r) :
    ∃ fv, Loads (WD prog w h₀) A nm fv ∧ KeepOK (WD prog w h₀) fv ∧ CallOK (WD prog w h₀) A fv xs r := by
  have hlt := bfun_small hr
  match f, hlt, hn, hr with
  | 0, _, hn, hr => (first | exact noS hn | exact noB hn | cases hn); exact ⟨_, bloads k (nb_len P) bb_len (by decide +kernel), keep_builtin, bfun_ok hh hr rfl⟩
  | 1, _, hn, hr => (first | exact noS hn | exact noB hn | cases hn); exact ⟨_, bloads k (nb_min P) bb_min (by decide +kernel), keep_builtin, bfun_ok hh hr rfl⟩
  | 2, _, hn, hr => (first | exact noS hn | exact noB hn | cases hn); exact ⟨_, bloads k (nb_max P) bb_max (by decide +kernel), keep_builtin, bfun_ok hh hr rfl⟩
  | 3, _, hn, hr => (first | exact noS hn | exact noB hn | cases hn); exact ⟨_, bloads k (nb_sum P) bb_sum (by decide +kernel), keep_builtin, bfun_ok hh hr rfl⟩
  | 4, _, hn, hr => (first | exact noS hn | exact noB hn | cases hn); exact ⟨_, bloads k (nb_sorted P) bb_sorted (by decide +kernel), keep_builtin, bfun_ok hh hr rfl⟩
  | 5, _, hn, hr => (first | exact noS hn | exact noB hn | cases hn); exact ⟨_, bloads k (nb_tuple P) bb_tuple (by decide +kernel), keep_type, bfun_ok hh hr rfl⟩
  | 6, _, hn, hr => (first | exact noS hn | exact noB hn | cases hn); exact ⟨_, bloads k (nb_all P) bb_all (by decide +kernel), keep_builtin, bfun_ok hh hr rfl⟩

theorem bmeth_small {f : Nat} {x : PV} {xs : List PV} {r : PV} (hr : bmeth f x xs = some r) : f < 2 := by
  match f, hr with
  | 0, _ => decide
  | 1, _ => decide
  | n + 2, hr => exact noS hr
theorem meth_builtin {m : Nat} {nm : Str} {x r : PV} {xs : List PV} (hn : names.meth m = some nm) (hr : bmeth m x xs = some r) (g : View) (s : Shared) (v : Value) (pl : Sem Bool) (E : Value → Shared → Prop) (Q : Value × List Value → Shared → Prop) (hs : Sub g s.heap) (hv : Rep 104 g x v)
    (hQ : ∀ fv, KeepOK (WD prog w h₀) fv → CallOK (WD prog w h₀) A fv (x :: xs) r → Q (fv, [v]) s) : wpAny (model prog w) A (getMethod v nm pl) Q E s := by
  have hlt := bmeth_small hr
  match m, hlt, hn, hr with
  | 0, _, hn, hr => (first | exact noS hn | exact noB hn | cases hn); exact bmeth_ok0 (W := WD prog w h₀) hr g s v pl E Q hv hQ
  | 1, _, hn, hr => (first | exact noS hn | exact noB hn | cases hn); exact bmeth_ok1 (W := WD prog w h₀) hr g s v pl E Q hs hv hQ

theorem good_of (k : KW (WD prog w h₀) (KK P) p loose mg mb) {n : Nat} (hB : Bud A n) {T : Tabs} (hg : T.glob = gl) (ha : T.attr = at?)
    (hc : ∀ f nm xs r, T.call f xs = some r → names.call f = some nm → ∃ fv, Loads (WD prog w h₀) A nm fv ∧ KeepOK (WD prog w h₀) fv ∧ CallOK (WD prog w h₀) A fv xs r)
    (hm : ∀ m nm x xs r, T.meth m x xs = some r → names.meth m = some nm → ∀ (g : View) (s : Shared) (v : Value) (pl : Sem Bool) (E : Value → Shared → Prop) (Q : Value × List Value → Shared → Prop),
      Sub g s.heap → HasFr (WD prog w h₀) s.heap → Rep 104 g x v → (∀ fv, KeepOK (WD prog w h₀) fv → CallOK (WD prog w h₀) A fv (x :: xs) r → Q (fv, [v]) s) → wpAny (model prog w) A (getMethod v nm pl) Q E s) :
    Good (WD prog w h₀) names T A where
  hh := hB.1
  hu := hB.hu
  glob i x nm hx hn := by
    rw [hg] at hx
    rcases i with _ | _ | _ | _ | _ | _ | _ | i
    · (first | exact noS hn | exact noB hn | cases hn)
    · (first | exact noS hn | exact noB hn | cases hn)
    · (first | exact noS hx | exact noB hx | cases hx); (first | exact noS hn | exact noB hn | cases hn); exact k.globInt (g0 P)
    · (first | exact noS hx | exact noB hx | cases hx); (first | exact noS hn | exact noB hn | cases hn); exact k.globInt (g1 P)
    · (first | exact noS hx | exact noB hx | cases hx); (first | exact noS hn | exact noB hn | cases hn); exact k.globInt (g2 P)
    · (first | exact noS hx | exact noB hx | cases hx); (first | exact noS hn | exact noB hn | cases hn); exact k.globInt (g3 P)
    · (first | exact noS hx | exact noB hx | cases hx); (first | exact noS hn | exact noB hn | cases hn); exact k.globInt (g4 P)
    · exact noS hx
  globA i x nm a hx hn := by
    rw [hg] at hx
    rcases i with _ | _ | _ | _ | _ | _ | _ | i
    · (first | exact noS hx | exact noB hx | cases hx); (first | exact noS hn | exact noB hn | cases hn); exact ⟨104, k.global (gd104 P), fun s E hk => k.clsAttr (r104 P) (y0 P) s E hk⟩
    · (first | exact noS hx | exact noB hx | cases hx); (first | exact noS hn | exact noB hn | cases hn); exact ⟨104, k.global (gd104 P), fun s E hk => k.clsAttr (r104 P) (y1 P) s E hk⟩
    · (first | exact noS hn | exact noB hn | cases hn)
    · (first | exact noS hn | exact noB hn | cases hn)
    · (first | exact noS hn | exact noB hn | cases hn)
    · (first | exact noS hn | exact noB hn | cases hn)
    · (first | exact noS hn | exact noB hn | cases hn)
    · exact noS hx
  call := hc
  meth := hm
  attr a nm x r hx hn g s v E hs hf hv := by
    rw [ha] at hx
    cases x with
    | inst l => exact k.attr (c104 P) (if_some (show (if a < 5 then l[a]? else none) = some r from hx)).2 hn g s v E hs hf hv
    | _ => exact noS hx
  setA := k.setA (e104 P)
  range := bloads k (nb_range P) bb_range (by decide +kernel)
  zip := bloads k (nb_zip P) bb_zip (by decide +kernel)
  list := bloads k (nb_list P) bb_list (by decide +kernel)
  isinst := bloads k (nb_isinstance P) bb_isinstance (by decide +kernel)
  bool := bloads k (nb_bool P) bb_bool (by decide +kernel)

theorem good (k : KW (WD prog w h₀) (KK P) p loose mg mb) : ∀ (n : Nat) (A : Around), Bud A n → Good (WD prog w h₀) names (tabs n) A
  | 0, A, hB => good_of k hB rfl rfl (fun f nm xs r hr hn => builtin_call k hB.1 hn hr) fun m nm x xs r hr hn g s v pl E Q hs uu hv hQ => meth_builtin hn hr g s v pl E Q hs hv hQ
  | n + 1, A, hB => good_of k hB rfl rfl (fun f nm xs r hr hn => by
      have H : ∀ env, Good (WD prog w h₀) names (tabs n) (A.deeper env) := fun env => good k n _ (hB.deeper env)
      change ite (f = 10) _ _ = _ at hr
      refine iteB hr (fun e hq => ?_) fun hr => ?_
      · subst e
        obtain ⟨hx, hr⟩ := if_some hq
        (first | exact noS hn | exact noB hn | cases hn)
        exact ⟨_, k.global (gd28 P), k.def_all hB (f28 P) (v28 P) hx H hr⟩
      refine iteB hr (fun e hq => ?_) fun hr => ?_
      · subst e
        obtain ⟨hx, hr⟩ := if_some hq
        (first | exact noS hn | exact noB hn | cases hn)
        exact ⟨_, k.global (gd35 P), k.def_all hB (f35 P) (v35 P) hx H hr⟩
      refine iteB hr (fun e hq => ?_) fun hr => ?_
      · subst e
        obtain ⟨hx, hr⟩ := if_some hq
        (first | exact noS hn | exact noB hn | cases hn)
        exact ⟨_, k.global (gd42 P), k.def_all hB (f42 P) (v42 P) hx H hr⟩
      refine iteB hr (fun e hq => ?_) fun hr => ?_
      · subst e
        obtain ⟨hx, hr⟩ := if_some hq
        (first | exact noS hn | exact noB hn | cases hn)
        exact ⟨_, k.global (gd115 P), k.def_all hB (f115 P) (v115 P) hx H hr⟩
      refine iteB hr (fun e hq => ?_) fun hr => ?_
      · subst e
        obtain ⟨hx, hr⟩ := if_some hq
        (first | exact noS hn | exact noB hn | cases hn)
        exact ⟨_, k.global (gd122 P), k.def_all hB (f122 P) (v122 P) hx H hr⟩
      refine iteB hr (fun e hq => ?_) fun hr => ?_
      · subst e
        cases xs with
        | nil => exact noS hq
        | cons x t => cases t with
         | cons _ _ => exact noS hq
         | nil =>
          (first | exact noS hn | exact noB hn | cases hn)
          exact ⟨_, k.global (gd104 P), k.keep_cls (k104 P) (q104 P), k.make_ok (n0 := Str.ofString "self") (n1 := Str.ofString "ws") (nr := nsOf (b_init_vars.drop 2)) hB (m104 P) (i104 P) (n59 P) (by have := f59 P; simp only [allOk, Bool.and_eq_true] at this; exact this.1.1.1.1)
              (by have := f59 P; simp only [allOk, Bool.and_eq_true] at this; exact this.1.1.1.2) (by have := f59 P; simp only [allOk, Bool.and_eq_true] at this; exact this.1.1.2) (by have := f59 P; simp only [allOk, Bool.and_eq_true, decide_eq_true_eq] at this; rw [this.1.2]; exact Nat.le_refl _) (v59 P) (fun A' hB' => good k _ A' hB') hq⟩
      refine iteB hr (fun e hq => ?_) fun hr => ?_
      · subst e
        obtain ⟨hx, hr⟩ := if_some hq
        (first | exact noS hn | exact noB hn | cases hn)
        exact ⟨_, k.global (gd129 P), k.def_all hB (f129 P) (v129 P) hx H hr⟩
      refine iteB hr (fun e hq => ?_) fun hr => ?_
      · subst e
        obtain ⟨hx, hr⟩ := if_some hq
        (first | exact noS hn | exact noB hn | cases hn)
        exact ⟨_, k.global (gd134 P), k.def_all hB (f134 P) (v134 P) hx H hr⟩
      refine iteB hr (fun e hq => ?_) fun hr => ?_
      · subst e
        obtain ⟨hx, hr⟩ := if_some hq
        (first | exact noS hn | exact noB hn | cases hn)
        exact ⟨_, k.global (gd141 P), k.def_all hB (f141 P) (v141 P) hx H hr⟩
      refine iteB hr (fun e hq => ?_) fun hr => ?_
      · subst e
        obtain ⟨hx, hr⟩ := if_some hq
        (first | exact noS hn | exact noB hn | cases hn)
        exact ⟨_, k.global (gd148 P), k.def_all hB (f148 P) (v148 P) hx H hr⟩
      exact builtin_call k hB.1 hn hr) fun m nm x xs r hr hn g s v pl E Q hs hf hv hQ => by
      have H : ∀ env, Good (WD prog w h₀) names (tabs n) (A.deeper env) := fun env => good k n _ (hB.deeper env)
      cases x with
      | inst fs =>
        change ite (m = 2) _ _ = _ at hr
        refine iteB hr (fun e hq => ?_) fun hr => ?_
        · subst e
          obtain ⟨hx, hr⟩ := if_some hq
          (first | exact noS hn | exact noB hn | cases hn)
          have q := k.def_all (np := 1) hB (f66 P) (v66 P) (by simp [hx]) H hr
          exact k.method (c104 P) (md66 P) (mf66 P) mn66 g s v pl E Q hs hf hv (hQ _ q.1 q.2)
        refine iteB hr (fun e hq => ?_) fun hr => ?_
        · subst e
          obtain ⟨hx, hr⟩ := if_some hq
          (first | exact noS hn | exact noB hn | cases hn)
          have q := k.def_all (np := 2) hB (f73 P) (v73 P) (by simp [hx]) H hr
          exact k.method (c104 P) (md73 P) (mf73 P) mn73 g s v pl E Q hs hf hv (hQ _ q.1 q.2)
        refine iteB hr (fun e hq => ?_) fun hr => ?_
        · subst e
          obtain ⟨hx, hr⟩ := if_some hq
          (first | exact noS hn | exact noB hn | cases hn)
          have q := k.def_all (np := 2) hB (f80 P) (v80 P) (by simp [hx]) H hr
          exact k.method (c104 P) (md80 P) (mf80 P) mn80 g s v pl E Q hs hf hv (hQ _ q.1 q.2)
        refine iteB hr (fun e hq => ?_) fun hr => ?_
        · subst e
          obtain ⟨hx, hr⟩ := if_some hq
          (first | exact noS hn | exact noB hn | cases hn)
          have q := k.def_all (np := 2) hB (f101 P) (v101 P) (by simp [hx]) H hr
          exact k.method (c104 P) (md101 P) (mf101 P) mn101 g s v pl E Q hs hf hv (hQ _ q.1 q.2)
        exact noS hr
      | _ => exact meth_builtin hn hr g s v pl E Q hs hv hQ
end
end L2
end Mp
end

section
set_option maxRecDepth 100000
set_option maxHeartbeats 8000000
open PySem PySem.W PyProof.Rows
namespace Mp
open PySem PySem.Calls PyProof.Rows PySem.W
namespace L2
theorem bud : Bud callerA 7 := ⟨rfl, by decide +kernel, by decide +kernel⟩
theorem gW (p : Params) : nsIn (KK p) mainGlobals (Str.ofString "law") = some (some (.ref 153)) := by kernel_rfl
theorem list_obj {P : Params} {h : Heap} {a : Addr} {vs : List Value} {xs : List WData} (w : Well P h (.ref a) (.list xs)) (hl : h.IsList a vs.toArray) : h.get? a = some { cls := .type "list", data := .seq vs.toArray } := by
  cases w with
  | list ho _ =>
    obtain ⟨o, h1, uu, n, h2⟩ := hl
    rw [ho] at h1
    cases h1
    cases h2
    exact ho

theorem run_law {prog : Program} {w : World} {s : Shared} {p : Program} {loose : List Str} {mg mb : Str → Option Value} {a : Addr} {vs : List Value} {l : List Int} {R : Result → Shared → Prop}
    (k : KW (WD prog w s.heap) (KK w.params) p loose mg mb) (hl : s.heap.get? a = some { cls := .type "list", data := .seq vs.toArray }) (hI : IntsAre vs l)
    (hr : callF (tabs 6) fuel b_law_vars.length b_law [.list (l.map .int)] = some (.bool true))
    (hR : ∀ s', Keeps s s' → R (.ok (.ret (.bool true))) s') : codeAny (model prog w) callerA (.call (.ref 153) ⟨[.ref a], []⟩) R s := by
  have h := f153 w.params
  simp only [allOk, Bool.and_eq_true, decide_eq_true_eq] at h
  obtain ⟨⟨⟨⟨h1, h2⟩, h3⟩, h4⟩, h5⟩ := h
  obtain ⟨o, ho, hd, hc⟩ := isDef_at k h1
  have hn : (nsOf b_law_vars).length = b_law_vars.length := by simp [nsOf]
  refine def_run (W := WD prog w s.heap) (T := tabs 6) (fuel := fuel) (ns := nsOf b_law_vars) (xs := [.list (l.map .int)]) (r := .bool true) (g := s.heap.get?) bud.room ho hd k.T.nolimit hc (stmts_at h2) h3 (fun vs hvs => v153 w.params vs hvs) (by rw [hn]; exact (by decide : 1 ≤ b_law_vars.length)) (by rw [h4]; exact Nat.le_refl 1)
    (fun env => good k 6 _ (bud.deeper env)) (by rw [hn]; exact hr) (Keep.refl _) (Nat.le_refl _) (fun uu uu e => e) ?_ fun v s' q => ?_
  · exact Reps.cons ⟨a, vs, 0, rfl, hl, Reps.map_ints l hI⟩ Reps.nil
  · have := q.rep
    (first | exact noS this | exact noB this | cases this)
    exact hR s' q.keeps
end L2
end Mp
namespace Mp
theorem law2_of (hpure : ∀ l : List Int, l.length ≤ 63 → Mp.callF (Mp.L2.tabs 6) Mp.L2.fuel Mp.L2.b_law_vars.length Mp.L2.b_law [.list (l.map .int)] = some (.bool true)) : PySem.Challenge.rw_rw0082_02.Holds := by
  refine law2 (hd2 ?_)
  k_fill
  intro w s₀ s₁ mg mb G Y fa o pm cd doc dV kV ho hd hcd hD hmg hg args vals as hpre hlay hrd hwl hlo
  have KX := kIn_of Y
  refine Ground.open G ?_
  intro T B D TE TW
  have hfa : fa = 153 := by
    have e1 : mg (Str.ofString "law") = some (.ref fa) := hmg
    rw [mg_of KX T.g (Mp.L2.gW w.params)] at e1
    cases e1; rfl
  wrow_args hpre hlay hrd hwl hlo
  all_goals (
    first | refine callC_kw (enter_call ?_) | refine enter_call ?_ | refine callC_kw (enter_callW ?_) | refine enter_callW ?_ | w_how
    w_top on
    try refine codeAny_mono ?_ (fun uu uu g => GoodW.toG g))
  rename_i l _ _ _ _ _ _ _ a vs _ hL ra w1 r0 hI _ _ _
  subst hfa
  refine Mp.L2.run_law (s := s₁) ⟨KX, topRead_of T⟩ (Mp.L2.list_obj w1 hL) hI (hpure l (by omega)) fun s' k => ?_
  obtain ⟨h', tk, rfl, kk⟩ := k
  exact ⟨.inl ⟨_, .bool true, [], rfl, fun uu => rfl, .bool true, by first | with_unfolding_all rfl | kernel_rfl | simp, fun uu => ⟨List.nodup_nil, fun uu h => nomatch h⟩⟩, kk, rfl, hg⟩
end Mp
end

section
set_option maxRecDepth 100000
/-! The distance of two words: what the program's text computes. -/
namespace Mp
open PySem
namespace Lev
noncomputable def b_levenshtein_distance : Ss :=
 (.cons (.ite (.cmp .eq (.var 0) (.var 1)) (.cons (.ret (.cst (.int 0)))
 .nil) .nil)
 (.cons (.asg .frz (.v 3) (.cst (.int 0)))
 (.cons (.whl (.and (.cons (.slice (.var 0) (.var 3) .abs .abs) (.cons (.slice (.var 1) (.var 3) .abs .abs) (.cons (.cmp .eq (.sub (.var 0) (.var 3)) (.sub (.var 1) (.var 3))) .nil)))) (.cons (.aug 3 .add (.cst (.int 1)))
 .nil))
 (.cons (.asg .frz (.v 0) (.slice (.var 0) (.var 3) .abs .abs))
 (.cons (.asg .frz (.v 1) (.slice (.var 1) (.var 3) .abs .abs))
 (.cons (.asg .frz (.v 4) (.cst (.int 0)))
 (.cons (.whl (.and (.cons (.slice (.var 0) .abs (.or (.cons (.var 4) (.cons (.cst .none) .nil))) .abs) (.cons (.slice (.var 1) .abs (.or (.cons (.var 4) (.cons (.cst .none) .nil))) .abs) (.cons (.cmp .eq (.sub (.var 0) (.bin .sub (.var 4) (.cst (.int 1)))) (.sub (.var 1) (.bin .sub (.var 4) (.cst (.int 1))))) .nil)))) (.cons (.aug 4 .sub (.cst (.int 1)))
 .nil))
 (.cons (.asg .frz (.v 0) (.slice (.var 0) .abs (.or (.cons (.var 4) (.cons (.cst .none) .nil))) .abs))
 (.cons (.asg .frz (.v 1) (.slice (.var 1) .abs (.or (.cons (.var 4) (.cons (.cst .none) .nil))) .abs))
 (.cons (.ite (.or (.cons (.not (.var 0)) (.cons (.not (.var 1)) .nil))) (.cons (.ret (.bin .mul (.glob 5) (.bin .add (.call 0 (.cons (.var 0) .nil)) (.call 0 (.cons (.var 1) .nil)))))
 .nil) .nil)
 (.cons (.ite (.or (.cons (.cmp .gt (.call 0 (.cons (.var 0) .nil)) (.glob 4)) (.cons (.cmp .gt (.call 0 (.cons (.var 1) .nil)) (.glob 4)) .nil))) (.cons (.ret (.bin .add (.var 2) (.cst (.int 1))))
 .nil) .nil)
 (.cons (.ite (.cmp .lt (.call 0 (.cons (.var 1) .nil)) (.call 0 (.cons (.var 0) .nil))) (.cons (.asg .frz (.t (.cons (.v 0) (.cons (.v 1) .nil))) (.tup (.cons (.var 1) (.cons (.var 0) .nil))))
 .nil) .nil)
 (.cons (.ite (.cmp .gt (.bin .mul (.bin .sub (.call 0 (.cons (.var 1) .nil)) (.call 0 (.cons (.var 0) .nil))) (.glob 5)) (.var 2)) (.cons (.ret (.bin .add (.var 2) (.cst (.int 1))))
 .nil) .nil)
 (.cons (.asg .new (.v 5) (.lrange (.glob 5) (.bin .mul (.glob 5) (.bin .add (.call 0 (.cons (.var 0) .nil)) (.cst (.int 1)))) (.glob 5)))
 (.cons (.asg .frz (.v 6) (.cst (.int 0)))
 (.cons (.for (.v 7) (.range1 (.call 0 (.cons (.var 1) .nil))) (.cons (.asg .frz (.v 8) (.sub (.var 1) (.var 7)))
 (.cons (.asg2 9 6 (.bin .mul (.var 7) (.glob 5)))
 (.cons (.asg .frz (.v 10) (.cst (.int 9223372036854775807)))
 (.cons (.for (.v 11) (.range1 (.call 0 (.cons (.var 0) .nil))) (.cons (.asg .frz (.v 12) (.bin .add (.var 9) (.call 13 (.cons (.var 8) (.cons (.sub (.var 0) (.var 11)) .nil)))))
 (.cons (.asg .sc (.v 9) (.sub (.var 5) (.var 11)))
 (.cons (.asg .frz (.v 13) (.bin .add (.call 1 (.cons (.var 6) (.cons (.var 9) .nil))) (.glob 5)))
 (.cons (.asg .frz (.v 6) (.call 1 (.cons (.var 13) (.cons (.var 12) .nil))))
 (.cons (.setI .frz 5 (.var 11) (.var 6))
 (.cons (.ite (.cmp .lt (.var 6) (.var 10)) (.cons (.asg .frz (.v 10) (.var 6))
 .nil) .nil)
 .nil)))))))
 (.cons (.ite (.cmp .gt (.var 10) (.var 2)) (.cons (.ret (.bin .add (.var 2) (.cst (.int 1))))
 .nil) .nil)
 .nil))))))
 (.cons (.ret (.var 6))
 .nil)))))))))))))))))

noncomputable def lcp : List Nat → List Nat → Nat
  | x :: xs, y :: ys => if x = y then lcp xs ys + 1 else 0
  | _, _ => 0
noncomputable def low (c : Nat) : Nat := if c = 75 then 107 else c
noncomputable def okc (c : Nat) : Bool := c == 9 || c == 32 || c == 75 || c == 107 || c == 120
noncomputable def cost (c d : Nat) : Int := if c = d then 0 else if low c = low d then 1 else 2
noncomputable def step (x y : Nat) (r dist res : Int) : Int := if dist + cost x y < (if r < res then r else res) + 2 then dist + cost x y else (if r < res then r else res) + 2
noncomputable def inner (bc : Nat) : List Nat → List Int → Int → Int → Int → List Int × Int × Int
  | x :: xs, r :: row, dist, res, mn =>
    let res' := step bc x r dist res
    let q := inner bc xs row r res' (if res' < mn then res' else mn)
    (res' :: q.1, q.2)
  | _, _, _, res, mn => ([], res, mn)
noncomputable def outer (a : List Nat) (c : Int) : List Nat → List Int → Int → Int → Int
  | [], _, _, res => res
  | x :: xs, row, j, _ =>
    let q := inner x a row (2 * j) (2 * j) 9223372036854775807
    if c < q.2.2 then c + 1 else outer a c xs q.1 (j + 1) q.2.1
noncomputable def row0 : Nat → Int → List Int
  | 0, _ => []
  | n + 1, k => k :: row0 n (k + 2)
noncomputable def core (a b : List Nat) (c : Int) : Int :=
  if a.isEmpty || b.isEmpty then 2 * ((a.length : Int) + b.length)
  else if decide (40 < a.length) || decide (40 < b.length) then c + 1
  else
    let p := if b.length < a.length then (b, a) else (a, b)
    if c < ((p.2.length : Int) - p.1.length) * 2 then c + 1 else outer p.1 c p.2 (row0 p.1.length 2) 0 0
noncomputable def strip (a b : List Nat) : List Nat × List Nat :=
  let n := lcp a b
  let a := a.drop n
  let b := b.drop n
  let m := lcp a.reverse b.reverse
  (a.take (a.length - m), b.take (b.length - m))
noncomputable def lev (a b : List Nat) (c : Int) : Int := if a = b then 0 else core (strip a b).1 (strip a b).2 c

structure LevT (T : Tabs) : Prop where
  len : ∀ l : List Nat, l.length ≤ lim → T.call 0 [.str l] = some (.int l.length)
  min : ∀ a b : Int, T.call 1 [.int a, .int b] = some (.int (if b < a then b else a))
  cost : ∀ c d : Nat, okc c = true → okc d = true → T.call 13 [.str [c], .str [d]] = some (.int (cost c d))
  g4 : T.glob 4 = some (.int 40)
  g5 : T.glob 5 = some (.int 2)

theorem clip_pos {n i : Nat} : clipAt n (i : Int) = min i n := by unfold clipAt; split <;> omega
theorem clip_neg {n j : Nat} (h : 0 < j) : clipAt n (-(j : Int)) = n - j := by unfold clipAt; split <;> omega
theorem pick_from {l : List Nat} {i : Nat} : pick l (some (i : Int)) none none = l.drop i := by
  rw [pick_plain]
  simp only [Option.elim, clip_pos]
  by_cases h : i ≤ l.length
  · rw [Nat.min_eq_left h]; exact List.take_of_length_le (by simp)
  · rw [Nat.min_eq_right (by omega), List.drop_eq_nil_of_le (Nat.le_refl _), List.drop_eq_nil_of_le (by omega : l.length ≤ i)]; simp
theorem pick_all {l : List Nat} : pick l none none none = l := by rw [pick_plain]; simp
theorem pick_to {l : List Nat} {j : Nat} (h : 0 < j) : pick l none (some (-(j : Int))) none = l.take (l.length - j) := by
  rw [pick_plain]; simp [clip_neg h]

/-- the fourteen names -/
noncomputable def sg (a b : List Nat) (c : Int) (pre post row res bi bc dist mn ix sub ins : Option Sl) : Sig :=
  [some (.frz (.str a)), some (.frz (.str b)), some (.frz (.int c)), pre, post, row, res, bi, bc, dist, mn, ix, sub, ins]
noncomputable abbrev fi (i : Int) : Option Sl := some (.frz (.int i))

noncomputable def w1t : E := .and (.cons (.slice (.var 0) (.var 3) .abs .abs) (.cons (.slice (.var 1) (.var 3) .abs .abs) (.cons (.cmp .eq (.sub (.var 0) (.var 3)) (.sub (.var 1) (.var 3))) .nil)))
noncomputable def w1b : Ss := .cons (.aug 3 .add (.cst (.int 1))) .nil
noncomputable def hiE : E := .or (.cons (.var 4) (.cons (.cst .none) .nil))
noncomputable def w2t : E := .and (.cons (.slice (.var 0) .abs hiE .abs) (.cons (.slice (.var 1) .abs hiE .abs) (.cons (.cmp .eq (.sub (.var 0) (.bin .sub (.var 4) (.cst (.int 1)))) (.sub (.var 1) (.bin .sub (.var 4) (.cst (.int 1))))) .nil)))
noncomputable def w2b : Ss := .cons (.aug 4 .sub (.cst (.int 1))) .nil

variable {T : Tabs} {fuel : Nat}

theorem inner_nil (bc : Nat) (row : List Int) (d res mn : Int) : inner bc [] row d res mn = ([], res, mn) := by cases row <;> rfl
theorem inner_cc (bc x : Nat) (xs : List Nat) (r : Int) (row : List Int) (d res mn : Int) : inner bc (x :: xs) (r :: row) d res mn = (step bc x r d res :: (inner bc xs row r (step bc x r d res) (if step bc x r d res < mn then step bc x r d res else mn)).1,
    (inner bc xs row r (step bc x r d res) (if step bc x r d res < mn then step bc x r d res else mn)).2) := rfl
theorem outer_c (a : List Nat) (c : Int) (x : Nat) (xs : List Nat) (row : List Int) (j res : Int) : outer a c (x :: xs) row j res = if c < (inner x a row (2 * j) (2 * j) 9223372036854775807).2.2 then c + 1 else
    outer a c xs (inner x a row (2 * j) (2 * j) 9223372036854775807).1 (j + 1) (inner x a row (2 * j) (2 * j) 9223372036854775807).2.1 := rfl
theorem row0_s (n : Nat) (k : Int) : row0 (n + 1) k = k :: row0 n (k + 2) := rfl
theorem lcp_cc (x y : Nat) (xs ys : List Nat) : lcp (x :: xs) (y :: ys) = if x = y then lcp xs ys + 1 else 0 := rfl
theorem lcp_dec {x y : Nat} {xs ys : List Nat} : decide (x = y) = decide (0 < lcp (x :: xs) (y :: ys)) := by
  rw [lcp_cc]
  by_cases h : x = y
  · rw [if_pos h, decide_eq_true h]; rfl
  · rw [if_neg h, decide_eq_false h]; rfl
theorem lcp_drop {a b : List Nat} {p k : Nat} (hk : lcp (a.drop p) (b.drop p) = k + 1) : lcp (a.drop (p + 1)) (b.drop (p + 1)) = k ∧ p + 1 ≤ a.length := by
  rw [← List.drop_drop, ← List.drop_drop]
  cases Nat.lt_or_ge p a.length with
  | inr h => rw [List.drop_eq_nil_of_le h] at hk; exact Nat.noConfusion hk
  | inl h =>
    refine ⟨?_, h⟩
    cases ha' : a.drop p with
    | nil => rw [ha'] at hk; exact Nat.noConfusion hk
    | cons x xs => cases hb' : b.drop p with
      | nil => rw [ha', hb'] at hk; exact Nat.noConfusion hk
      | cons y ys =>
        rw [ha', hb', lcp_cc] at hk
        by_cases e : x = y
        · rw [if_pos e] at hk; exact Nat.succ.inj hk
        · rw [if_neg e] at hk; exact Nat.noConfusion hk

theorem small_nat {i : Nat} (h : i ≤ 100000) : smallI (i : Int) = true := by
  unfold smallI; simp only [Bool.and_eq_true, decide_eq_true_eq]; omega
theorem small_neg {i : Nat} (h : i ≤ 100000) : smallI (-(i : Int)) = true := by
  unfold smallI; simp only [Bool.and_eq_true, decide_eq_true_eq]; omega

theorem part_nat {i : Nat} (hi : i ≤ 100000) : part (.int (i : Int)) = some (some (i : Int)) := by
  show (if smallI (i : Int) = true then some (some (i : Int)) else none) = _
  rw [if_pos (small_nat hi)]
theorem slice_lo {i : Int} (e : part (.int i) = some (some i)) (o : PV) : slice o (.int i) .none .none = sliceP o (some i) none none := by
  show (part (.int i)).bind _ = _
  rw [e]; rfl
theorem str_if {x : List Nat} {y : PV} (h : x.length ≤ lim) : (if (decide (x.length ≤ lim) && (none : Option Int).isNone) = true then some y else none) = some y := by
  rw [if_pos]
  rw [decide_eq_true h]; rfl
theorem slice_from {a : List Nat} {i : Nat} (h : a.length ≤ lim) (hi : i ≤ 100000) : slice (.str a) (.int i) .none .none = some (.str (a.drop i)) := by
  rw [slice_lo (part_nat hi)]
  exact (str_if h).trans (by rw [pick_from])
theorem truthy_str {a : List Nat} (h : a.length ≤ lim) : truthy (.str a) = some (!a.isEmpty) := if_pos h
theorem subscr_str {a : List Nat} {i : Nat} (h : i < a.length) (hl : a.length ≤ lim) : subscr (.str a) (.int i) = some (.str [a[i]]) := by
  have h1 : inIdx (i : Int) a.length = true := by unfold inIdx; simp only [Bool.and_eq_true, decide_eq_true_eq]; omega
  have h2 : pidx (i : Int) a.length = i := by unfold pidx; rw [if_neg (by omega)]; omega
  show (if inIdx (i : Int) a.length then (a[pidx (i : Int) a.length]?).map (fun c => PV.str [c]) else none) = _
  rw [if_pos h1, h2, List.getElem?_eq_getElem h]; rfl
theorem subscr_neg {a : List Nat} {j : Nat} (h : j < a.length) (hl : a.length ≤ lim) : subscr (.str a) (.int (-(j : Int) - 1)) = some (.str [a[a.length - 1 - j]]) := by
  have h1 : inIdx (-(j : Int) - 1) a.length = true := by unfold inIdx; simp only [Bool.and_eq_true, decide_eq_true_eq]; omega
  have h2 : pidx (-(j : Int) - 1) a.length = a.length - 1 - j := by unfold pidx; rw [if_pos (by omega)]; omega
  show (if inIdx (-(j : Int) - 1) a.length then (a[pidx (-(j : Int) - 1) a.length]?).map (fun c => PV.str [c]) else none) = _
  rw [if_pos h1, h2, List.getElem?_eq_getElem (by omega)]; rfl
theorem eq_chars {c d : Nat} (hc : okc c = true) (hd : okc d = true) : cmpop .eq (.str [c]) (.str [d]) = some (decide (c = d)) := by
  have hs : ∀ e, okc e = true → okEq 20 (.str [e]) = true := fun e he => by
    simp only [okc, Bool.or_eq_true, beq_iff_eq] at he
    rw [okEq_str]
    simp only [List.all_cons, List.all_nil, Bool.and_true, decide_eq_true_eq]
    omega
  unfold cmpop
  dsimp only
  rw [hs c hc, hs d hd]
  have e : eqv (.str [c]) (.str [d]) = decide (c = d) := by
    show ([c] == [d]) = _
    by_cases h : c = d
    · subst h; simp
    · simp [h]
  rw [e]; rfl

noncomputable def okw (l : List Nat) : Prop := l.length ≤ 1000 ∧ ∀ c ∈ l, okc c = true

/-! steps of the evaluator, one lemma each -/
theorem ev_bin {ρ : Rho} {o : Op} {a b : E} {x y z : PV} (h1 : evalE T ρ a = some x) (h2 : evalE T ρ b = some y) (h3 : binop o x y = some z) : evalE T ρ (.bin o a b) = some z := by
  rw [vBin, h1]; exact Option.bind_eq_some_iff.mpr ⟨x, rfl, by rw [h2]; exact Option.bind_eq_some_iff.mpr ⟨y, rfl, h3⟩⟩
theorem ev_cmp {ρ : Rho} {o : Cm} {a b : E} {x y : PV} {z : Bool} (h1 : evalE T ρ a = some x) (h2 : evalE T ρ b = some y) (h3 : cmpop o x y = some z) : evalE T ρ (.cmp o a b) = some (.bool z) := by
  rw [vCmp, h1]; exact Option.bind_eq_some_iff.mpr ⟨x, rfl, by rw [h2]; exact Option.bind_eq_some_iff.mpr ⟨y, rfl, by rw [h3]; rfl⟩⟩
theorem ev_sub {ρ : Rho} {a b : E} {x y z : PV} (h1 : evalE T ρ a = some x) (h2 : evalE T ρ b = some y) (h3 : subscr x y = some z) : evalE T ρ (.sub a b) = some z := by
  rw [vSub, h1]; exact Option.bind_eq_some_iff.mpr ⟨x, rfl, by rw [h2]; exact Option.bind_eq_some_iff.mpr ⟨y, rfl, h3⟩⟩
theorem ev_slice {ρ : Rho} {a b c d : E} {x y z u r : PV} (h1 : evalE T ρ a = some x) (h2 : evalE T ρ b = some y) (h3 : evalE T ρ c = some z) (h4 : evalE T ρ d = some u) (h5 : slice x y z u = some r) : evalE T ρ (.slice a b c d) = some r := by
  rw [vSlice, h1]; exact Option.bind_eq_some_iff.mpr ⟨x, rfl, by rw [h2]; exact Option.bind_eq_some_iff.mpr ⟨y, rfl, by rw [h3]; exact Option.bind_eq_some_iff.mpr ⟨z, rfl, by rw [h4]; exact Option.bind_eq_some_iff.mpr ⟨u, rfl, h5⟩⟩⟩⟩
theorem ev_and {ρ : Rho} {l : Es} {x : PV} (h : evalAnd T ρ l = some x) : evalE T ρ (.and l) = some x := h
theorem ev_or {ρ : Rho} {l : Es} {x : PV} (h : evalOr T ρ l = some x) : evalE T ρ (.or l) = some x := h
theorem and_f {ρ : Rho} {e e' : E} {l : Es} {x : PV} (h : evalE T ρ e = some x) (ht : truthy x = some false) : evalAnd T ρ (.cons e (.cons e' l)) = some x := by
  rw [aTwo, h]
  exact Option.bind_eq_some_iff.mpr ⟨x, rfl, Option.bind_eq_some_iff.mpr ⟨false, ht, rfl⟩⟩
theorem and_t {ρ : Rho} {e e' : E} {l : Es} {x y : PV} (h : evalE T ρ e = some x) (ht : truthy x = some true) (h' : evalAnd T ρ (.cons e' l) = some y) : evalAnd T ρ (.cons e (.cons e' l)) = some y := by
  rw [aTwo, h]
  exact Option.bind_eq_some_iff.mpr ⟨x, rfl, Option.bind_eq_some_iff.mpr ⟨true, ht, h'⟩⟩
theorem and_1 {ρ : Rho} {e : E} {x : PV} (h : evalE T ρ e = some x) : evalAnd T ρ (.cons e .nil) = some x := h
theorem or_t {ρ : Rho} {e e' : E} {l : Es} {x : PV} (h : evalE T ρ e = some x) (ht : truthy x = some true) : evalOr T ρ (.cons e (.cons e' l)) = some x := by
  rw [oTwo, h]
  exact Option.bind_eq_some_iff.mpr ⟨x, rfl, Option.bind_eq_some_iff.mpr ⟨true, ht, rfl⟩⟩
theorem or_f {ρ : Rho} {e e' : E} {l : Es} {x y : PV} (h : evalE T ρ e = some x) (ht : truthy x = some false) (h' : evalOr T ρ (.cons e' l) = some y) : evalOr T ρ (.cons e (.cons e' l)) = some y := by
  rw [oTwo, h]
  exact Option.bind_eq_some_iff.mpr ⟨x, rfl, Option.bind_eq_some_iff.mpr ⟨false, ht, h'⟩⟩
theorem or_1 {ρ : Rho} {e : E} {x : PV} (h : evalE T ρ e = some x) : evalOr T ρ (.cons e .nil) = some x := h
theorem ev_var {ρ : Rho} {i : Nat} {x : PV} (h : (ρ[i]?).join = some x) : evalE T ρ (.var i) = some x := h

theorem w1_test {a b : List Nat} {c : Int} {pre : Nat} {post row res bi bc dist mn ix sub ins : Option Sl} (ha : okw a) (hb : okw b) (hp : pre ≤ 1000) :
    (evalE T (allEnv (sg a b c (fi pre) post row res bi bc dist mn ix sub ins)) w1t).bind truthy = some (decide (0 < lcp (a.drop pre) (b.drop pre))) := by
  have l1 : a.length ≤ lim := Nat.le_trans ha.1 (by decide)
  have l2 : b.length ≤ lim := Nat.le_trans hb.1 (by decide)
  have hp' : pre ≤ 100000 := Nat.le_trans hp (by decide)
  have e0 : evalE T (allEnv (sg a b c (fi pre) post row res bi bc dist mn ix sub ins)) (.var 0) = some (.str a) := ev_var rfl
  have e1 : evalE T (allEnv (sg a b c (fi pre) post row res bi bc dist mn ix sub ins)) (.var 1) = some (.str b) := ev_var rfl
  have e3 : evalE T (allEnv (sg a b c (fi pre) post row res bi bc dist mn ix sub ins)) (.var 3) = some (.int pre) := ev_var rfl
  generalize hA : allEnv (sg a b c (fi pre) post row res bi bc dist mn ix sub ins) = ρ at e0 e1 e3 ⊢
  clear hA
  have ab : evalE T ρ .abs = some .none := rfl
  have s1 := ev_slice e0 e3 ab ab (slice_from l1 hp')
  have s2 := ev_slice e1 e3 ab ab (slice_from l2 hp')
  have t1 := truthy_str (show (a.drop pre).length ≤ lim from Nat.le_trans (by simp) l1)
  have t2 := truthy_str (show (b.drop pre).length ≤ lim from Nat.le_trans (by simp) l2)
  cases ha' : a.drop pre with
  | nil =>
    rw [ha'] at t1 s1
    rw [show evalE T ρ w1t = some (.str []) from ev_and (and_f s1 t1)]
    exact t1
  | cons x xs =>
    rw [ha'] at t1 s1
    cases hb' : b.drop pre with
    | nil =>
      rw [hb'] at t2 s2
      rw [show evalE T ρ w1t = some (.str []) from ev_and (and_t s1 t1 (and_f s2 t2))]
      exact t2
    | cons y ys =>
      rw [hb'] at t2 s2
      have q1 : pre < a.length := by
        cases Nat.lt_or_ge pre a.length with
        | inl h => exact h
        | inr h => rw [List.drop_eq_nil_of_le h] at ha'; (first | exact noS ha' | exact noB ha' | cases ha')
      have q2 : pre < b.length := by
        cases Nat.lt_or_ge pre b.length with
        | inl h => exact h
        | inr h => rw [List.drop_eq_nil_of_le h] at hb'; (first | exact noS hb' | exact noB hb' | cases hb')
      have r1 : a[pre] = x := by rw [List.drop_eq_getElem_cons q1] at ha'; (first | exact noS ha' | exact noB ha' | cases ha'); rfl
      have r2 : b[pre] = y := by rw [List.drop_eq_getElem_cons q2] at hb'; (first | exact noS hb' | exact noB hb' | cases hb'); rfl
      have o1 := ha.2 x (r1 ▸ List.getElem_mem q1)
      have o2 := hb.2 y (r2 ▸ List.getElem_mem q2)
      have u1 := subscr_str q1 l1
      have u2 := subscr_str q2 l2
      rw [r1] at u1
      rw [r2] at u2
      rw [show evalE T ρ w1t = some (.bool (decide (x = y))) from ev_and (and_t s1 t1 (and_t s2 t2 (and_1 (ev_cmp (ev_sub e0 e3 u1) (ev_sub e1 e3 u2) (eq_chars o1 o2)))))]
      exact congrArg some lcp_dec

theorem w1_body {a b : List Nat} {c : Int} {pre : Nat} {post row res bi bc dist mn ix sub ins : Option Sl} :
    execSs T fuel (sg a b c (fi pre) post row res bi bc dist mn ix sub ins) w1b = some (sg a b c (fi (pre + 1 : Nat)) post row res bi bc dist mn ix sub ins, .next) := by
  rfl

theorem w1_run {a b : List Nat} {c : Int} {post row res bi bc dist mn ix sub ins : Option Sl} (ha : okw a) (hb : okw b) : ∀ (k n pre : Nat), lcp (a.drop pre) (b.drop pre) = k → k < n → pre ≤ a.length →
    whlL (fun σ => (evalE T (allEnv σ) w1t).bind truthy) (fun σ => execSs T fuel σ w1b) n (sg a b c (fi pre) post row res bi bc dist mn ix sub ins) = some (sg a b c (fi (pre + k : Nat)) post row res bi bc dist mn ix sub ins, .next)
  | 0, n + 1, pre, hk, _, hp => whlF ((w1_test ha hb (Nat.le_trans hp ha.1)).trans (by rw [hk]; rfl))
  | k + 1, n + 1, pre, hk, hn, hp => by
    obtain ⟨h2, h3⟩ := lcp_drop hk
    refine (whlT (t := fun σ => (evalE T (allEnv σ) w1t).bind truthy) (f := fun σ => execSs T fuel σ w1b) ((w1_test ha hb (Nat.le_trans hp ha.1)).trans (by rw [hk]; rfl)) w1_body).trans ?_
    refine (w1_run ha hb k n (pre + 1) h2 (Nat.lt_of_succ_lt_succ hn) h3).trans ?_
    rw [Nat.add_right_comm pre 1 k]
    rfl

theorem part_neg {i : Nat} (hi : i ≤ 100000) : part (.int (-(i : Int))) = some (some (-(i : Int))) := by
  show (if smallI (-(i : Int)) = true then some (some (-(i : Int))) else none) = _
  rw [if_pos (small_neg hi)]
theorem slice_all (o : PV) : slice o .none .none .none = sliceP o none none none := rfl
theorem slice_hi {i : Int} (e : part (.int i) = some (some i)) (o : PV) : slice o .none (.int i) .none = sliceP o none (some i) none := by
  show (part (.int i)).bind _ = _
  rw [e]; rfl
theorem hi_val {ρ : Rho} {j : Nat} (hj : j ≤ 1000) (h4 : evalE T ρ (.var 4) = some (.int (-(j : Int)))) : ∃ v, evalE T ρ hiE = some v ∧ ∀ a : List Nat, a.length ≤ lim → slice (.str a) .none v .none = some (.str (a.take (a.length - j))) := by
  cases j with
  | zero =>
    refine ⟨.none, ev_or (or_f h4 rfl (or_1 (rfl))), fun a ha => ?_⟩
    rw [slice_all]
    refine (str_if ha).trans ?_
    rw [pick_all]
    simp
  | succ j =>
    refine ⟨_, ev_or (or_t h4 ?_), fun a ha => ?_⟩
    · show some ((-((j + 1 : Nat) : Int)) != 0) = some true
      have : (-((j + 1 : Nat) : Int)) ≠ 0 := by omega
      rw [bne_iff_ne.mpr this]
    · rw [slice_hi (part_neg (Nat.le_trans hj (by decide)))]
      refine (str_if ha).trans ?_
      rw [pick_to (by omega)]

theorem w2_test {a b : List Nat} {c : Int} {j : Nat} {pre row res bi bc dist mn ix sub ins : Option Sl} (ha : okw a) (hb : okw b) (hp : j ≤ 1000) :
    (evalE T (allEnv (sg a b c pre (fi (-(j : Int))) row res bi bc dist mn ix sub ins)) w2t).bind truthy = some (decide (0 < lcp (a.reverse.drop j) (b.reverse.drop j))) := by
  have l1 : a.length ≤ lim := Nat.le_trans ha.1 (by decide)
  have l2 : b.length ≤ lim := Nat.le_trans hb.1 (by decide)
  have e0 : evalE T (allEnv (sg a b c pre (fi (-(j : Int))) row res bi bc dist mn ix sub ins)) (.var 0) = some (.str a) := ev_var rfl
  have e1 : evalE T (allEnv (sg a b c pre (fi (-(j : Int))) row res bi bc dist mn ix sub ins)) (.var 1) = some (.str b) := ev_var rfl
  have e4 : evalE T (allEnv (sg a b c pre (fi (-(j : Int))) row res bi bc dist mn ix sub ins)) (.var 4) = some (.int (-(j : Int))) := ev_var rfl
  generalize hA : allEnv (sg a b c pre (fi (-(j : Int))) row res bi bc dist mn ix sub ins) = ρ at e0 e1 e4 ⊢
  clear hA
  have ab : evalE T ρ .abs = some .none := rfl
  obtain ⟨v, hv, hsl⟩ := hi_val hp e4
  have s1 := ev_slice e0 ab hv ab (hsl a l1)
  have s2 := ev_slice e1 ab hv ab (hsl b l2)
  have hix : evalE T ρ (.bin .sub (.var 4) (.cst (.int 1))) = some (.int (-(j : Int) - 1)) := ev_bin e4 (rfl) rfl
  have t1 := truthy_str (show (a.take (a.length - j)).length ≤ lim from Nat.le_trans (by simp) l1)
  have t2 := truthy_str (show (b.take (b.length - j)).length ≤ lim from Nat.le_trans (by simp) l2)
  have d1 : a.reverse.drop j = (a.take (a.length - j)).reverse := List.drop_reverse
  have d2 : b.reverse.drop j = (b.take (b.length - j)).reverse := List.drop_reverse
  cases ha' : a.reverse.drop j with
  | nil =>
    have z : a.take (a.length - j) = [] := by rw [ha'] at d1; exact List.reverse_eq_nil_iff.mp d1.symm
    rw [z] at t1 s1
    rw [show evalE T ρ w2t = some (.str []) from ev_and (and_f s1 t1)]
    exact t1
  | cons x xs =>
    have z : (a.take (a.length - j)).isEmpty = false := by
      cases w : a.take (a.length - j) with
      | nil => rw [w] at d1; rw [d1] at ha'; cases ha'
      | cons => rfl
    rw [z] at t1
    cases hb' : b.reverse.drop j with
    | nil =>
      have z : b.take (b.length - j) = [] := by rw [hb'] at d2; exact List.reverse_eq_nil_iff.mp d2.symm
      rw [z] at t2 s2
      rw [show evalE T ρ w2t = some (.str []) from ev_and (and_t s1 t1 (and_f s2 t2))]
      exact t2
    | cons y ys =>
      have z : (b.take (b.length - j)).isEmpty = false := by
        cases w : b.take (b.length - j) with
        | nil => rw [w] at d2; rw [d2] at hb'; cases hb'
        | cons => rfl
      rw [z] at t2
      have q1 : j < a.reverse.length := by
        cases Nat.lt_or_ge j a.reverse.length with
        | inl h => exact h
        | inr h => rw [List.drop_eq_nil_of_le h] at ha'; (first | exact noS ha' | exact noB ha' | cases ha')
      have q2 : j < b.reverse.length := by
        cases Nat.lt_or_ge j b.reverse.length with
        | inl h => exact h
        | inr h => rw [List.drop_eq_nil_of_le h] at hb'; (first | exact noS hb' | exact noB hb' | cases hb')
      have r1 : a.reverse[j] = x := by rw [List.drop_eq_getElem_cons q1] at ha'; (first | exact noS ha' | exact noB ha' | cases ha'); rfl
      have r2 : b.reverse[j] = y := by rw [List.drop_eq_getElem_cons q2] at hb'; (first | exact noS hb' | exact noB hb' | cases hb'); rfl
      rw [List.getElem_reverse] at r1 r2
      rw [List.length_reverse] at q1 q2
      have o1 := ha.2 x (r1 ▸ List.getElem_mem _)
      have o2 := hb.2 y (r2 ▸ List.getElem_mem _)
      have u1 := subscr_neg q1 l1
      have u2 := subscr_neg q2 l2
      rw [r1] at u1
      rw [r2] at u2
      rw [show evalE T ρ w2t = some (.bool (decide (x = y))) from ev_and (and_t s1 t1 (and_t s2 t2 (and_1 (ev_cmp (ev_sub e0 hix u1) (ev_sub e1 hix u2) (eq_chars o1 o2)))))]
      exact congrArg some lcp_dec

theorem w2_body {a b : List Nat} {c : Int} {j : Nat} {pre row res bi bc dist mn ix sub ins : Option Sl} :
    execSs T fuel (sg a b c pre (fi (-(j : Int))) row res bi bc dist mn ix sub ins) w2b = some (sg a b c pre (fi (-((j + 1 : Nat) : Int))) row res bi bc dist mn ix sub ins, .next) := by
  have : -((j + 1 : Nat) : Int) = -(j : Int) - 1 := by omega
  rw [this]
  rfl

theorem w2_run {a b : List Nat} {c : Int} {pre row res bi bc dist mn ix sub ins : Option Sl} (ha : okw a) (hb : okw b) : ∀ (k n j : Nat), lcp (a.reverse.drop j) (b.reverse.drop j) = k → k < n → j ≤ a.length →
    whlL (fun σ => (evalE T (allEnv σ) w2t).bind truthy) (fun σ => execSs T fuel σ w2b) n (sg a b c pre (fi (-(j : Int))) row res bi bc dist mn ix sub ins) = some (sg a b c pre (fi (-((j + k : Nat) : Int))) row res bi bc dist mn ix sub ins, .next)
  | 0, n + 1, j, hk, _, hp => whlF ((w2_test ha hb (Nat.le_trans hp ha.1)).trans (by rw [hk]; rfl))
  | k + 1, n + 1, j, hk, hn, hp => by
    obtain ⟨h2, h3⟩ := lcp_drop hk
    refine (whlT (t := fun σ => (evalE T (allEnv σ) w2t).bind truthy) (f := fun σ => execSs T fuel σ w2b) ((w2_test ha hb (Nat.le_trans hp ha.1)).trans (by rw [hk]; rfl)) w2_body).trans ?_
    refine (w2_run ha hb k n (j + 1) h2 (Nat.lt_of_succ_lt_succ hn) (List.length_reverse (as := a) ▸ h3)).trans ?_
    rw [Nat.add_right_comm j 1 k]
    rfl
end Lev
end Mp
end

section
set_option maxRecDepth 100000
/-! The distance of two words: the table. -/
namespace Mp
open PySem
namespace Lev
variable {T : Tabs} {fuel : Nat}

theorem ss_next {σ σ' : Sig} {s : S} {l : Ss} {r : Sig × Fl} (h : execS T fuel σ s = some (σ', .next)) (h' : execSs T fuel σ' l = some r) : execSs T fuel σ (.cons s l) = some r := by
  show (execS T fuel σ s).bind _ = _
  rw [h]; exact h'
theorem ss_stop {σ σ' : Sig} {s : S} {l : Ss} {f : Fl} (h : execS T fuel σ s = some (σ', f)) (hf : f ≠ .next) : execSs T fuel σ (.cons s l) = some (σ', f) := by
  show (execS T fuel σ s).bind _ = _
  rw [h]
  cases f <;> first | rfl | exact absurd rfl hf
theorem ss_end {σ : Sig} : execSs T fuel σ .nil = some (σ, .next) := rfl
theorem st_frz {σ : Sig} {i : Nat} {e : E} {v : PV} (h : evalE T (frzEnv σ) e = some v) (hi : i < σ.length) : execS T fuel σ (.asg .frz (.v i) e) = some (σ.set i (some (.frz v)), .next) := by
  rw [execS_asg]
  show (evalE T (frzEnv σ) e).bind _ = _
  rw [h]
  show (if i < σ.length then some (σ.set i (some (.frz v))) else none).map _ = _
  rw [if_pos hi]; rfl
theorem st_sc {σ : Sig} {i : Nat} {e : E} {v : PV} (h : evalE T (allEnv σ) e = some v) (hs : scalar v = true) (hi : i < σ.length) : execS T fuel σ (.asg .sc (.v i) e) = some (σ.set i (some (.frz v)), .next) := by
  rw [execS_asg]
  show ((evalE T (allEnv σ) e).bind fun x => if scalar x then some x else none).bind _ = _
  rw [h]
  show (if scalar v then some v else none).bind _ = _
  rw [if_pos hs]
  show (if i < σ.length then some (σ.set i (some (.frz v))) else none).map _ = _
  rw [if_pos hi]; rfl
theorem st_set {σ : Sig} {x : Nat} {i e : E} {v : PV} {l l' : List PV} {j : Int} (h : evalE T (frzEnv σ) e = some v) (hl : getOwn σ x = some l) (hi : evalE T (allEnv σ) i = some (.int j)) (hs : setAt l j v = some l') :
    execS T fuel σ (.setI .frz x i e) = some (σ.set x (some (.own l')), .next) := by
  show (evalE T (frzEnv σ) e).bind _ = _
  rw [h, Option.bind_some, hl, Option.bind_some, hi, Option.bind_some]
  show (setAt l j v).map _ = _
  rw [hs]; rfl
theorem st_if {σ : Sig} {t : E} {a b : Ss} {x : PV} {c : Bool} {r : Sig × Fl} (h : evalE T (allEnv σ) t = some x) (hc : truthy x = some c) (hr : (if c then execSs T fuel σ a else execSs T fuel σ b) = some r) : execS T fuel σ (.ite t a b) = some r := by
  show (evalE T (allEnv σ) t).bind _ = _
  rw [h, Option.bind_some, hc, Option.bind_some]; exact hr
theorem st_ret {σ : Sig} {e : E} {v : PV} (h : evalE T (allEnv σ) e = some v) : execS T fuel σ (.ret e) = some (σ, .ret v) := by
  show (evalE T (allEnv σ) e).map _ = _
  rw [h]; rfl
theorem ev_call1 {ρ : Rho} {f : Nat} {a : E} {x r : PV} (h : evalE T ρ a = some x) (hr : T.call f [x] = some r) : evalE T ρ (.call f (.cons a .nil)) = some r := by
  rw [vCall, wOne h]; exact hr
theorem ev_call2 {ρ : Rho} {f : Nat} {a b : E} {x y r : PV} (h : evalE T ρ a = some x) (h' : evalE T ρ b = some y) (hr : T.call f [x, y] = some r) : evalE T ρ (.call f (.cons a (.cons b .nil))) = some r := by
  rw [vCall, wTwo h h']; exact hr
theorem ev_glob {ρ : Rho} {k : Nat} {x : PV} (h : T.glob k = some x) : evalE T ρ (.glob k) = some x := h

noncomputable def inB : Ss := (.cons (.asg .frz (.v 12) (.bin .add (.var 9) (.call 13 (.cons (.var 8) (.cons (.sub (.var 0) (.var 11)) .nil)))))
 (.cons (.asg .sc (.v 9) (.sub (.var 5) (.var 11)))
 (.cons (.asg .frz (.v 13) (.bin .add (.call 1 (.cons (.var 6) (.cons (.var 9) .nil))) (.glob 5)))
 (.cons (.asg .frz (.v 6) (.call 1 (.cons (.var 13) (.cons (.var 12) .nil))))
 (.cons (.setI .frz 5 (.var 11) (.var 6))
 (.cons (.ite (.cmp .lt (.var 6) (.var 10)) (.cons (.asg .frz (.v 10) (.var 6))
 .nil) .nil)
 .nil))))))

noncomputable abbrev rowS (row : List Int) : Option Sl := some (.own (row.map .int))
noncomputable abbrev chS (x : Nat) : Option Sl := some (.frz (.str [x]))

theorem row_get {row : List Int} {i : Nat} (h : i < row.length) (hl : row.length ≤ 1000) : subscr (.list (row.map .int)) (.int i) = some (.int row[i]) := by
  have h1 : inIdx (i : Int) (row.map PV.int).length = true := by
    unfold inIdx; simp only [Bool.and_eq_true, decide_eq_true_eq, List.length_map]
    refine ⟨⟨by omega, by omega⟩, Nat.le_trans hl (by decide)⟩
  have h2 : pidx (i : Int) (row.map PV.int).length = i := by unfold pidx; rw [if_neg (by omega)]; omega
  show (if inIdx (i : Int) (row.map PV.int).length then (row.map PV.int)[pidx (i : Int) (row.map PV.int).length]? else none) = _
  rw [if_pos h1, h2, List.getElem?_map, List.getElem?_eq_getElem h]; rfl
theorem row_set {row : List Int} {i : Nat} {v : Int} (h : i < row.length) (hl : row.length ≤ 1000) : setAt (row.map .int) (i : Int) (.int v) = some ((row.set i v).map .int) := by
  have h1 : inIdx (i : Int) (row.map PV.int).length = true := by
    unfold inIdx; simp only [Bool.and_eq_true, decide_eq_true_eq, List.length_map]
    refine ⟨⟨by omega, by omega⟩, Nat.le_trans hl (by decide)⟩
  have h2 : pidx (i : Int) (row.map PV.int).length = i := by unfold pidx; rw [if_neg (by omega)]; omega
  unfold setAt
  rw [if_pos h1, h2, List.map_set]

theorem in_step (L : LevT T) {a b : List Nat} {c : Int} {pre post bi sub ins : Option Sl} {row : List Int} {res dist mn : Int} {x i : Nat} (ha : okw a) (hx : okc x = true) (hi : i < a.length) (hr : row.length = a.length) :
    ∃ sub' ins' : Option Sl, execSs T fuel (sg a b c pre post (rowS row) (fi res) bi (chS x) (fi dist) (fi mn) (fi (i : Int)) sub ins) inB =
      some (sg a b c pre post (rowS (row.set i (step x a[i] (row[i]'(by omega)) dist res))) (fi (step x a[i] (row[i]'(by omega)) dist res)) bi (chS x) (fi (row[i]'(by omega)))
        (fi (if step x a[i] (row[i]'(by omega)) dist res < mn then step x a[i] (row[i]'(by omega)) dist res else mn)) (fi (i : Int)) sub' ins', .next) := by
  have l1 : a.length ≤ lim := Nat.le_trans ha.1 (by decide)
  have hrl : row.length ≤ 1000 := by rw [hr]; exact ha.1
  have hir : i < row.length := by rw [hr]; exact hi
  have oc := ha.2 a[i] (List.getElem_mem hi)
  generalize hq : step x a[i] row[i] dist res = q
  unfold step at hq
  generalize hs : dist + cost x a[i] = s at hq
  generalize hn : (if row[i] < res then row[i] else res) + 2 = n at hq
  refine ⟨fi s, fi n, ?_⟩
  -- substitute
  refine ss_next (st_frz (v := .int s) (ev_bin (ev_var rfl) (ev_call2 (ev_var rfl) (ev_sub (ev_var rfl) (ev_var rfl) (subscr_str hi l1)) (L.cost x a[i] hx oc)) (by rw [← hs]; rfl)) (by decide : 12 < 14)) ?_
  -- distance
  refine ss_next (st_sc (v := .int row[i]) (ev_sub (ev_var rfl) (ev_var rfl) (row_get hir hrl)) rfl (by decide : 9 < 14)) ?_
  -- insert_delete
  refine ss_next (st_frz (v := .int n) (ev_bin (ev_call2 (ev_var rfl) (ev_var rfl) (L.min res row[i])) (ev_glob L.g5) (by rw [← hn]; rfl)) (by decide : 13 < 14)) ?_
  -- result
  refine ss_next (st_frz (v := .int q) (by
    have := L.min n s
    rw [hq] at this
    exact ev_call2 (ev_var rfl) (ev_var rfl) this) (by decide : 6 < 14)) ?_
  -- row[index] = result
  refine ss_next (st_set (v := .int q) (ev_var rfl) (l := row.map .int) rfl (ev_var rfl) (row_set hir hrl)) ?_
  -- minimum
  refine ss_next (σ' := sg a b c pre post (rowS (row.set i q)) (fi q) bi (chS x) (fi row[i]) (fi (if q < mn then q else mn)) (fi (i : Int)) (fi s) (fi n)) (st_if (x := .bool (decide (q < mn))) (c := decide (q < mn)) (ev_cmp (ev_var rfl) (ev_var rfl) rfl) rfl ?_) ss_end
  by_cases h : q < mn
  · rw [decide_eq_true h, if_pos rfl, if_pos h]
    exact ss_next (st_frz (v := .int q) (ev_var rfl) (by decide : 10 < 14)) ss_end
  · rw [decide_eq_false h, if_neg (by simp), if_neg h]
    exact ss_end

/-- the places i, i + 1, … -/
noncomputable def idx (i : Nat) : Nat → List PV
  | 0 => []
  | k + 1 => .int (i : Int) :: idx (i + 1) k
theorem idx_s (i k : Nat) : idx i (k + 1) = .int (i : Int) :: idx (i + 1) k := rfl
theorem idx_map (i : Nat) : ∀ k, idx i k = (List.range' i k).map fun (t : Nat) => PV.int (t : Int)
  | 0 => rfl
  | k + 1 => by rw [idx_s, List.range'_succ, List.map_cons, idx_map (i + 1) k]
theorem range_idx {n : Nat} (h : n ≤ 1000) : range3 0 (n : Int) 1 = some (idx 0 n) := by
  have hN : rangeN 0 (n : Int) 1 = n := by
    unfold rangeN
    rw [if_pos (by decide)]
    split
    · rw [Int.ediv_one]; omega
    · omega
  unfold range3
  rw [hN, if_pos]
  · congr 1
    unfold rangeL
    rw [idx_map, List.range_eq_range']
    apply List.map_congr_left
    intro t _
    congr 1
    omega
  · simp only [Bool.and_eq_true, decide_eq_true_eq]
    exact ⟨⟨⟨⟨⟨rfl, small_nat (Nat.le_trans h (by decide))⟩, by decide⟩, by decide⟩, by decide⟩, Nat.le_trans h (by decide)⟩

theorem bind_ix {a b : List Nat} {c : Int} {pre post row res bi bc dist mn ix sub ins : Option Sl} {x : PV} : bindS (sg a b c pre post row res bi bc dist mn ix sub ins) (.v 11) x = some (sg a b c pre post row res bi bc dist mn (some (.frz x)) sub ins) := rfl

theorem in_run (L : LevT T) {a b : List Nat} {c : Int} {pre post bi : Option Sl} {x : Nat} (ha : okw a) (hx : okc x = true) : ∀ (k i : Nat) (row : List Int) (res dist mn : Int) (ix sub ins : Option Sl), i + k = a.length → row.length = a.length →
    ∃ ix' sub' ins' dist' : Option Sl, forL (fun σ y => (bindS σ (.v 11) y).bind fun σ' => execSs T fuel σ' inB) (idx i k) (sg a b c pre post (rowS row) (fi res) bi (chS x) (fi dist) (fi mn) ix sub ins) =
      some (sg a b c pre post (rowS (row.take i ++ (inner x (a.drop i) (row.drop i) dist res mn).1)) (fi (inner x (a.drop i) (row.drop i) dist res mn).2.1) bi (chS x) dist' (fi (inner x (a.drop i) (row.drop i) dist res mn).2.2) ix' sub' ins', .next)
  | 0, i, row, res, dist, mn, ix, sub, ins, hk, hr => by
    refine ⟨ix, sub, ins, fi dist, ?_⟩
    have h1 : a.drop i = [] := List.drop_eq_nil_of_le (by omega)
    have h2 : row.take i = row := List.take_of_length_le (by omega)
    rw [h1, inner_nil, h2, List.append_nil]; rfl
  | k + 1, i, row, res, dist, mn, ix, sub, ins, hk, hr => by
    have hi : i < a.length := by omega
    have hir : i < row.length := by omega
    obtain ⟨sub', ins', e⟩ := in_step (fuel := fuel) (b := b) (c := c) (pre := pre) (post := post) (bi := bi) (sub := sub) (ins := ins) (dist := dist) (mn := mn) (res := res) L ha hx hi hr
    have hd1 : a.drop i = a[i] :: a.drop (i + 1) := List.drop_eq_getElem_cons hi
    have hd2 : row.drop i = row[i] :: row.drop (i + 1) := List.drop_eq_getElem_cons hir
    rw [idx_s, fCons, bind_ix, Option.bind_some, e, Option.bind_some]
    dsimp only
    obtain ⟨ix₁, sub₁, ins₁, d₁, ih⟩ := in_run L (b := b) (c := c) (pre := pre) (post := post) (bi := bi) ha hx k (i + 1) (row.set i (step x a[i] row[i] dist res)) (step x a[i] row[i] dist res) row[i] (if step x a[i] row[i] dist res < mn then step x a[i] row[i] dist res else mn) (fi (i : Int)) sub' ins' (by omega) (by simp [hr])
    refine ⟨ix₁, sub₁, ins₁, d₁, ?_⟩
    rw [ih]
    have t1 : (row.set i (step x a[i] row[i] dist res)).drop (i + 1) = row.drop (i + 1) := by
      rw [List.drop_set_of_lt (by omega)]
    have t2 : (row.set i (step x a[i] row[i] dist res)).take (i + 1) = row.take i ++ [step x a[i] row[i] dist res] := by
      rw [List.take_set, List.take_succ_eq_append_getElem hir, List.set_append_right _ _ (by simp; omega)]
      simp [List.length_take, Nat.min_eq_left (Nat.le_of_lt hir)]
    rw [t1, t2, hd1, hd2, inner_cc]
    simp only [List.append_assoc, List.cons_append, List.nil_append]
end Lev
end Mp
end

section
set_option maxRecDepth 100000
/-! The distance of two words: the whole. -/
namespace Mp
open PySem
namespace Lev
variable {T : Tabs} {fuel : Nat}

theorem st_new {σ : Sig} {i : Nat} {e : E} {l : List PV} (hf : fresh e = true) (h : evalE T (allEnv σ) e = some (.list l)) (hs : l.all scalar = true) (hl : l.length ≤ lim) (hi : i < σ.length) : execS T fuel σ (.asg .new (.v i) e) = some (σ.set i (some (.own l)), .next) := by
  rw [execS_asg]
  dsimp only
  rw [if_pos hf, h, Option.bind_some]
  dsimp only
  rw [if_pos]
  rw [hs, decide_eq_true hi, decide_eq_true hl]; rfl
theorem st_two {σ : Sig} {x y : Nat} {e : E} {v : PV} (h : evalE T (allEnv σ) e = some v) (hs : scalar v = true) (hx : x < σ.length) (hy : y < σ.length) : execS T fuel σ (.asg2 x y e) = some ((σ.set x (some (.frz v))).set y (some (.frz v)), .next) := by
  show ((evalE T (allEnv σ) e).bind fun x => if scalar x then some x else none).bind _ = _
  rw [h]
  show (if scalar v then some v else none).bind _ = _
  rw [if_pos hs, Option.bind_some, if_pos (by rw [decide_eq_true hx, decide_eq_true hy]; rfl)]
theorem st_for {σ : Sig} {t : Tg} {it : It} {b : Ss} {xs : List PV} {r : Sig × Fl} (h : evalFor T σ it = some xs) (h' : forL (fun σ x => (bindS σ t x).bind fun σ' => execSs T fuel σ' b) xs σ = some r) : execS T fuel σ (.for t it b) = some r := by
  show (evalFor T σ it).bind _ = _
  rw [h]; exact h'
theorem for_r1 {σ : Sig} {e : E} {n : Nat} (h : evalE T (allEnv σ) e = some (.int (n : Int))) (hn : n ≤ 1000) : evalFor T σ (.range1 e) = some (idx 0 n) := by
  show (evalE T (allEnv σ) e).bind _ = _
  rw [h, Option.bind_some]
  dsimp only
  rw [range_idx hn]

theorem inner_len (x : Nat) : ∀ (a : List Nat) (row : List Int) (d r m : Int), row.length = a.length → (inner x a row d r m).1.length = a.length
  | [], row, d, r, m, h => by rw [inner_nil]; rfl
  | y :: a, [], d, r, m, h => by simp at h
  | y :: a, q :: row, d, r, m, h => by
    rw [inner_cc]
    simp only [List.length_cons]
    rw [inner_len x a row _ _ _ (by simpa using h)]

noncomputable def outB : Ss := (.cons (.asg .frz (.v 8) (.sub (.var 1) (.var 7)))
 (.cons (.asg2 9 6 (.bin .mul (.var 7) (.glob 5)))
 (.cons (.asg .frz (.v 10) (.cst (.int 9223372036854775807)))
 (.cons (.for (.v 11) (.range1 (.call 0 (.cons (.var 0) .nil))) inB)
 (.cons (.ite (.cmp .gt (.var 10) (.var 2)) (.cons (.ret (.bin .add (.var 2) (.cst (.int 1))))
 .nil) .nil)
 .nil)))))

theorem mul2 {j : Nat} (h : j ≤ 1000) : binop .mul (.int (j : Int)) (.int 2) = some (.int (2 * (j : Int))) := by
  have h1 := small_nat (i := j) (Nat.le_trans h (by decide))
  have h2 : smallI 2 = true := by decide
  unfold binop
  dsimp only
  rw [h1, h2]
  show some (PV.int ((j : Int) * 2)) = _
  rw [Int.mul_comm]

theorem out_step (L : LevT T) {a b : List Nat} {c : Int} {pre post res bc dist mn ix sub ins : Option Sl} {row : List Int} {j : Nat} (ha : okw a) (hb : okw b) (hj : j < b.length) (hr : row.length = a.length) :
    ∃ ix' sub' ins' dist' : Option Sl, ∃ σ', execSs T fuel (sg a b c pre post (rowS row) res (fi (j : Int)) bc dist mn ix sub ins) outB = some (σ',
      if c < (inner b[j] a row (2 * j) (2 * j) 9223372036854775807).2.2 then .ret (.int (c + 1)) else .next) ∧
      σ' = sg a b c pre post (rowS (inner b[j] a row (2 * j) (2 * j) 9223372036854775807).1) (fi (inner b[j] a row (2 * j) (2 * j) 9223372036854775807).2.1) (fi (j : Int)) (chS b[j]) dist' (fi (inner b[j] a row (2 * j) (2 * j) 9223372036854775807).2.2) ix' sub' ins' := by
  have l1 : a.length ≤ lim := Nat.le_trans ha.1 (by decide)
  have l2 : b.length ≤ lim := Nat.le_trans hb.1 (by decide)
  have hj' : j ≤ 1000 := Nat.le_trans (Nat.le_of_lt hj) hb.1
  obtain ⟨ix', sub', ins', dist', e⟩ := in_run (fuel := fuel) L (b := b) (c := c) (pre := pre) (post := post) (bi := fi (j : Int)) (x := b[j]) ha (hb.2 _ (List.getElem_mem hj)) a.length 0 row (2 * j) (2 * j) 9223372036854775807 ix sub ins (by omega) hr
  rw [List.drop_zero, List.drop_zero, List.take_zero, List.nil_append] at e
  refine ⟨ix', sub', ins', dist', _, ?_, rfl⟩
  generalize inner b[j] a row (2 * j) (2 * j) 9223372036854775807 = q at e ⊢
  refine ss_next (st_frz (ev_sub (ev_var rfl) (ev_var rfl) (subscr_str hj l2)) (by decide : 8 < 14)) ?_
  refine ss_next (st_two (ev_bin (ev_var rfl) (ev_glob L.g5) (mul2 hj')) rfl (by decide : 9 < 14) (by decide : 6 < 14)) ?_
  refine ss_next (st_frz (v := .int 9223372036854775807) rfl (by decide : 10 < 14)) ?_
  refine ss_next (st_for (for_r1 (ev_call1 (ev_var rfl) (L.len a l1)) ha.1) e) ?_
  have hcmp : evalE T (allEnv (sg a b c pre post (rowS q.1) (fi q.2.1) (fi (j : Int)) (chS b[j]) dist' (fi q.2.2) ix' sub' ins')) (.cmp .gt (.var 10) (.var 2)) = some (.bool (decide (c < q.2.2))) := ev_cmp (ev_var rfl) (ev_var rfl) rfl
  by_cases h : c < q.2.2
  · rw [if_pos h]
    refine ss_stop (st_if hcmp rfl ?_) (by intro z; (first | exact noS z | exact noB z | cases z))
    rw [decide_eq_true h, if_pos rfl]
    exact ss_stop (st_ret (ev_bin (ev_var rfl) rfl rfl)) (by intro z; (first | exact noS z | exact noB z | cases z))
  · rw [if_neg h]
    refine ss_next (st_if hcmp rfl ?_) ss_end
    rw [decide_eq_false h, if_neg (by simp)]
    exact ss_end

theorem bind_bi {a b : List Nat} {c : Int} {pre post row res bi bc dist mn ix sub ins : Option Sl} {x : PV} : bindS (sg a b c pre post row res bi bc dist mn ix sub ins) (.v 7) x = some (sg a b c pre post row res (some (.frz x)) bc dist mn ix sub ins) := rfl

theorem out_run (L : LevT T) {a b : List Nat} {c : Int} {pre post : Option Sl} (ha : okw a) (hb : okw b) : ∀ (k j : Nat) (row : List Int) (res : Int) (bi bc dist mn ix sub ins : Option Sl), j + k = b.length → row.length = a.length →
    ∃ (bi' bc' dist' mn' ix' sub' ins' : Option Sl) (row' : List Int) (res' : Int) (fl : Fl), forL (fun σ y => (bindS σ (.v 7) y).bind fun σ' => execSs T fuel σ' outB) (idx j k) (sg a b c pre post (rowS row) (fi res) bi bc dist mn ix sub ins) =
      some (sg a b c pre post (rowS row') (fi res') bi' bc' dist' mn' ix' sub' ins', fl) ∧ (fl = .ret (.int (outer a c (b.drop j) row j res)) ∨ (fl = .next ∧ res' = outer a c (b.drop j) row j res))
  | 0, j, row, res, bi, bc, dist, mn, ix, sub, ins, hk, hr => by
    refine ⟨bi, bc, dist, mn, ix, sub, ins, row, res, .next, rfl, .inr ⟨rfl, ?_⟩⟩
    rw [List.drop_eq_nil_of_le (by omega)]; rfl
  | k + 1, j, row, res, bi, bc, dist, mn, ix, sub, ins, hk, hr => by
    have hj : j < b.length := by omega
    obtain ⟨ix', sub', ins', dist', σ', e, rfl⟩ := out_step (fuel := fuel) (c := c) (pre := pre) (post := post) (res := fi res) (bc := bc) (dist := dist) (mn := mn) (ix := ix) (sub := sub) (ins := ins) L ha hb hj hr
    have hd : b.drop j = b[j] :: b.drop (j + 1) := List.drop_eq_getElem_cons hj
    rw [idx_s, fCons, bind_bi, Option.bind_some, e, Option.bind_some, hd, outer_c]
    by_cases h : c < (inner b[j] a row (2 * j) (2 * j) 9223372036854775807).2.2
    · rw [if_pos h]
      dsimp only
      rw [if_pos h]
      exact ⟨_, _, _, _, _, _, _, _, _, _, rfl, .inl rfl⟩
    · rw [if_neg h]
      dsimp only
      rw [if_neg h]
      obtain ⟨bi₁, bc₁, d₁, m₁, i₁, s₁, n₁, row₁, res₁, fl₁, ih, hfl⟩ := out_run L (c := c) (pre := pre) (post := post) ha hb k (j + 1) (inner b[j] a row (2 * j) (2 * j) 9223372036854775807).1 (inner b[j] a row (2 * j) (2 * j) 9223372036854775807).2.1 (fi (j : Int)) (chS b[j]) dist' (fi (inner b[j] a row (2 * j) (2 * j) 9223372036854775807).2.2) ix' sub' ins' (by omega) (inner_len _ _ _ _ _ _ hr)
      exact ⟨bi₁, bc₁, d₁, m₁, i₁, s₁, n₁, row₁, res₁, fl₁, ih, hfl⟩
end Lev
end Mp
end

section
set_option maxRecDepth 100000
/-! The distance of two words: the def. -/
namespace Mp
open PySem
namespace Lev
variable {T : Tabs} {fuel : Nat}

theorem ev_not {ρ : Rho} {a : E} {x : PV} {b : Bool} (h : evalE T ρ a = some x) (ht : truthy x = some b) : evalE T ρ (.not a) = some (.bool (!b)) := by
  rw [vNot, h, Option.bind_some, ht]; rfl
theorem ev_tup2 {ρ : Rho} {a b : E} {x y : PV} (h : evalE T ρ a = some x) (h' : evalE T ρ b = some y) : evalE T ρ (.tup (.cons a (.cons b .nil))) = some (.tup [x, y]) := by
  rw [vTup, wTwo h h']; rfl
theorem ev_lrange {ρ : Rho} {a b c : E} {i j k : Int} {l : List PV} (h1 : evalE T ρ a = some (.int i)) (h2 : evalE T ρ b = some (.int j)) (h3 : evalE T ρ c = some (.int k)) (h : range3 i j k = some l) : evalE T ρ (.lrange a b c) = some (.list l) := by
  show (evalE T ρ a).bind _ = _
  rw [h1, Option.bind_some, h2, Option.bind_some, h3, Option.bind_some]
  dsimp only
  rw [h]; rfl
theorem ev_cst {ρ : Rho} {c : PV} : evalE T ρ (.cst c) = some c := rfl
theorem st_whl {σ σ' : Sig} {t : E} {b : Ss} (h : whlL (fun σ => (evalE T (allEnv σ) t).bind truthy) (fun σ => execSs T fuel σ b) fuel σ = some (σ', .next)) : execS T fuel σ (.whl t b) = some (σ', .next) := h
theorem st_pair {σ : Sig} {i j : Nat} {e : E} {x y : PV} (h : evalE T (frzEnv σ) e = some (.tup [x, y])) (hi : i < σ.length) (hj : j < σ.length) : execS T fuel σ (.asg .frz (.t (.cons (.v i) (.cons (.v j) .nil))) e) = some ((σ.set i (some (.frz x))).set j (some (.frz y)), .next) := by
  rw [execS_asg]
  show (evalE T (frzEnv σ) e).bind _ = _
  rw [h]
  show ((bindV σ i x).bind fun σ' => (bindV σ' j y).bind fun σ'' => some σ'').map _ = _
  have e1 : bindV σ i x = some (σ.set i (some (.frz x))) := if_pos hi
  have e2 : bindV (σ.set i (some (.frz x))) j y = some ((σ.set i (some (.frz x))).set j (some (.frz y))) := if_pos (by rw [List.length_set]; exact hj)
  rw [e1, Option.bind_some, e2]; rfl

theorem row0_map : ∀ (n : Nat) (k : Int), row0 n k = (List.range n).map fun (i : Nat) => k + (i : Int) * 2
  | 0, _ => rfl
  | n + 1, k => by
    rw [row0_s, List.range_succ_eq_map, List.map_cons, List.map_map, row0_map n (k + 2)]
    congr 1
    · simp
    · apply List.map_congr_left
      intro i _
      simp only [Function.comp]
      omega
theorem row0_len : ∀ (n : Nat) (k : Int), (row0 n k).length = n
  | 0, _ => rfl
  | n + 1, k => by rw [row0_s, List.length_cons, row0_len]
theorem range_row {n : Nat} (h : n ≤ 1000) : range3 2 (2 * ((n : Int) + 1)) 2 = some ((row0 n 2).map .int) := by
  have hN : rangeN 2 (2 * ((n : Int) + 1)) 2 = n := by
    unfold rangeN
    rw [if_pos (by decide)]
    split <;> omega
  have hs : smallI (2 * ((n : Int) + 1)) = true := by
    unfold smallI; simp only [Bool.and_eq_true, decide_eq_true_eq]; omega
  have hl : rangeL 2 2 n = (row0 n 2).map .int := by
    unfold rangeL
    rw [row0_map, List.map_map]
    apply List.map_congr_left
    intro t _
    rfl
  have hc : (smallI 2 && smallI (2 * ((n : Int) + 1)) && decide ((-1073741824 : Int) < 2) && decide ((2 : Int) < 1073741824) && decide ((2 : Int) ≠ 0) && decide (n ≤ lim)) = true := by
    rw [hs, decide_eq_true (show n ≤ lim from Nat.le_trans h (by decide))]; rfl
  unfold range3
  rw [hN, if_pos hc, hl]
theorem ints_scalar : ∀ l : List Int, (l.map PV.int).all scalar = true
  | [] => rfl
  | _ :: l => by rw [List.map_cons, List.all_cons, ints_scalar l]; rfl

theorem eq_strs {a b : List Nat} (ha : okw a) (hb : okw b) : cmpop .eq (.str a) (.str b) = some (decide (a = b)) := by
  have hs : ∀ l, okw l → okEq 20 (.str l) = true := fun l hl => by
    rw [okEq_str, List.all_eq_true]
    intro c hc
    have := hl.2 c hc
    simp only [okc, Bool.or_eq_true, beq_iff_eq] at this
    rw [decide_eq_true_eq]
    omega
  unfold cmpop
  dsimp only
  rw [hs a ha, hs b hb]
  have e : eqv (.str a) (.str b) = decide (a = b) := by
    show (a == b) = _
    by_cases h : a = b
    · subst h; simp
    · simp [h]
  rw [e]; rfl

theorem lcp_le : ∀ a b : List Nat, lcp a b ≤ a.length
  | [], b => Nat.zero_le _
  | _ :: _, [] => Nat.zero_le _
  | x :: a, y :: b => by
    rw [lcp_cc]
    split
    · have := lcp_le a b
      simp only [List.length_cons]; omega
    · simp
theorem okw_drop {a : List Nat} (h : okw a) (n : Nat) : okw (a.drop n) := ⟨Nat.le_trans (by simp) h.1, fun c hc => h.2 c (List.mem_of_mem_drop hc)⟩
theorem okw_take {a : List Nat} (h : okw a) (n : Nat) : okw (a.take n) := ⟨Nat.le_trans (by simp; omega) h.1, fun c hc => h.2 c (List.mem_of_mem_take hc)⟩

theorem st_ift {σ : Sig} {t : E} {a b : Ss} {x : PV} {r : Sig × Fl} (h : evalE T (allEnv σ) t = some x) (hc : truthy x = some true) (hr : execSs T fuel σ a = some r) : execS T fuel σ (.ite t a b) = some r := st_if h hc (by rw [if_pos rfl]; exact hr)
theorem st_iff {σ : Sig} {t : E} {a b : Ss} {x : PV} {r : Sig × Fl} (h : evalE T (allEnv σ) t = some x) (hc : truthy x = some false) (hr : execSs T fuel σ b = some r) : execS T fuel σ (.ite t a b) = some r := st_if h hc (by rw [if_neg (by simp)]; exact hr)
/-- the part behind the stripping -/
noncomputable def b_core : Ss :=
 (.cons (.ite (.or (.cons (.not (.var 0)) (.cons (.not (.var 1)) .nil))) (.cons (.ret (.bin .mul (.glob 5) (.bin .add (.call 0 (.cons (.var 0) .nil)) (.call 0 (.cons (.var 1) .nil)))))
 .nil) .nil)
 (.cons (.ite (.or (.cons (.cmp .gt (.call 0 (.cons (.var 0) .nil)) (.glob 4)) (.cons (.cmp .gt (.call 0 (.cons (.var 1) .nil)) (.glob 4)) .nil))) (.cons (.ret (.bin .add (.var 2) (.cst (.int 1))))
 .nil) .nil)
 (.cons (.ite (.cmp .lt (.call 0 (.cons (.var 1) .nil)) (.call 0 (.cons (.var 0) .nil))) (.cons (.asg .frz (.t (.cons (.v 0) (.cons (.v 1) .nil))) (.tup (.cons (.var 1) (.cons (.var 0) .nil))))
 .nil) .nil)
 (.cons (.ite (.cmp .gt (.bin .mul (.bin .sub (.call 0 (.cons (.var 1) .nil)) (.call 0 (.cons (.var 0) .nil))) (.glob 5)) (.var 2)) (.cons (.ret (.bin .add (.var 2) (.cst (.int 1))))
 .nil) .nil)
 (.cons (.asg .new (.v 5) (.lrange (.glob 5) (.bin .mul (.glob 5) (.bin .add (.call 0 (.cons (.var 0) .nil)) (.cst (.int 1)))) (.glob 5)))
 (.cons (.asg .frz (.v 6) (.cst (.int 0)))
 (.cons (.for (.v 7) (.range1 (.call 0 (.cons (.var 1) .nil))) outB)
 (.cons (.ret (.var 6))
 .nil))))))))

theorem mul_small {x y : Int} (h1 : smallI x = true) (h2 : smallI y = true) : binop .mul (.int x) (.int y) = some (.int (x * y)) := by
  unfold binop
  dsimp only
  rw [h1, h2]; rfl
theorem small2 : smallI 2 = true := by decide

/-- the table for words in order -/
theorem tab_ok (L : LevT T) {a b : List Nat} {c : Int} {pre post : Option Sl} (ha : okw a) (hb : okw b) :
    ∃ σ', execSs T fuel (sg a b c pre post none none none none none none none none none)
 (.cons (.asg .new (.v 5) (.lrange (.glob 5) (.bin .mul (.glob 5) (.bin .add (.call 0 (.cons (.var 0) .nil)) (.cst (.int 1)))) (.glob 5)))
 (.cons (.asg .frz (.v 6) (.cst (.int 0)))
 (.cons (.for (.v 7) (.range1 (.call 0 (.cons (.var 1) .nil))) outB)
 (.cons (.ret (.var 6))
 .nil)))) = some (σ', .ret (.int (outer a c b (row0 a.length 2) 0 0))) := by
  have l1 : a.length ≤ lim := Nat.le_trans ha.1 (by decide)
  have l2 : b.length ≤ lim := Nat.le_trans hb.1 (by decide)
  obtain ⟨bi₁, bc₁, d₁, m₁, i₁, s₁, n₁, row₁, res₁, fl₁, e, hfl⟩ := out_run (fuel := fuel) L (c := c) (pre := pre) (post := post) ha hb b.length 0 (row0 a.length 2) 0 none none none none none none none (by omega) (row0_len _ _)
  rw [List.drop_zero] at hfl
  have hs : smallI ((a.length : Int) + 1) = true := by
    have := ha.1
    unfold smallI; simp only [Bool.and_eq_true, decide_eq_true_eq]; omega
  have hrow : (List.map PV.int (row0 a.length 2)).length ≤ lim := by rw [List.length_map, row0_len]; exact l1
  refine ⟨sg a b c pre post (rowS row₁) (fi res₁) bi₁ bc₁ d₁ m₁ i₁ s₁ n₁, ss_next (st_new rfl (ev_lrange (ev_glob L.g5) (ev_bin (ev_glob L.g5) (ev_bin (ev_call1 (ev_var rfl) (L.len a l1)) ev_cst rfl) (mul_small small2 hs)) (ev_glob L.g5) (range_row ha.1)) (ints_scalar _) hrow (by decide : 5 < 14)) ?_⟩
  refine ss_next (st_frz (v := .int 0) ev_cst (by decide : 6 < 14)) ?_
  rcases hfl with rfl | ⟨rfl, hres⟩
  · exact ss_stop (st_for (for_r1 (ev_call1 (ev_var rfl) (L.len b l2)) hb.1) e) (by intro z; (first | exact noS z | exact noB z | cases z))
  · refine ss_next (st_for (for_r1 (ev_call1 (ev_var rfl) (L.len b l2)) hb.1) e) ?_
    refine ss_stop (st_ret (ev_var ?_)) (by intro z; (first | exact noS z | exact noB z | cases z))
    rw [← show (0 : Int) = ((0 : Nat) : Int) from rfl] at hres
    rw [← hres]; rfl

theorem core_ok (L : LevT T) {a b : List Nat} {c : Int} {pre post : Option Sl} (ha : okw a) (hb : okw b) :
    ∃ σ', execSs T fuel (sg a b c pre post none none none none none none none none none) b_core = some (σ', .ret (.int (core a b c))) := by
  have l1 : a.length ≤ lim := Nat.le_trans ha.1 (by decide)
  have l2 : b.length ≤ lim := Nat.le_trans hb.1 (by decide)
  generalize hσ : sg a b c pre post none none none none none none none none none = σ
  have v0 : evalE T (allEnv σ) (.var 0) = some (.str a) := by subst hσ; exact ev_var rfl
  have v1 : evalE T (allEnv σ) (.var 1) = some (.str b) := by subst hσ; exact ev_var rfl
  have v2 : evalE T (allEnv σ) (.var 2) = some (.int c) := by subst hσ; exact ev_var rfl
  have n0 : evalE T (allEnv σ) (.call 0 (.cons (.var 0) .nil)) = some (.int a.length) := ev_call1 v0 (L.len a l1)
  have n1 : evalE T (allEnv σ) (.call 0 (.cons (.var 1) .nil)) = some (.int b.length) := ev_call1 v1 (L.len b l2)
  have c1 : evalE T (allEnv σ) (.bin .add (.var 2) (.cst (.int 1))) = some (.int (c + 1)) := ev_bin v2 ev_cst rfl
  have ne : ∀ v : PV, Fl.ret v ≠ .next := fun v z => by (first | exact noS z | exact noB z | cases z)
  unfold core b_core
  -- one word is empty
  have t1 : evalE T (allEnv σ) (.or (.cons (.not (.var 0)) (.cons (.not (.var 1)) .nil))) = some (.bool (a.isEmpty || b.isEmpty)) := by
    have x0 := ev_not v0 (truthy_str l1)
    have x1 := ev_not v1 (truthy_str l2)
    cases h : a.isEmpty with
    | true => rw [h] at x0; exact ev_or (or_t x0 rfl)
    | false =>
      rw [h] at x0
      have := ev_or (or_f x0 rfl (or_1 x1))
      rw [Bool.not_not] at this
      exact this
  by_cases h : (a.isEmpty || b.isEmpty) = true
  · rw [if_pos h]
    rw [h] at t1
    have hs : smallI ((a.length : Int) + b.length) = true := by
      have := ha.1; have := hb.1
      unfold smallI; simp only [Bool.and_eq_true, decide_eq_true_eq]; omega
    exact ⟨σ, ss_stop (st_ift t1 rfl (ss_stop (st_ret (ev_bin (ev_glob L.g5) (ev_bin n0 n1 rfl) (mul_small small2 hs))) (ne _))) (ne _)⟩
  rw [if_neg h]
  rw [Bool.not_eq_true] at h
  rw [h] at t1
  -- one word is too long
  have t2 : evalE T (allEnv σ) (.or (.cons (.cmp .gt (.call 0 (.cons (.var 0) .nil)) (.glob 4)) (.cons (.cmp .gt (.call 0 (.cons (.var 1) .nil)) (.glob 4)) .nil))) = some (.bool (decide (40 < a.length) || decide (40 < b.length))) := by
    have x0 : evalE T (allEnv σ) (.cmp .gt (.call 0 (.cons (.var 0) .nil)) (.glob 4)) = some (.bool (decide (40 < a.length))) := ev_cmp n0 (ev_glob L.g4) (by
      show some (decide ((40 : Int) < a.length)) = _
      congr 1; exact decide_eq_decide.mpr (by omega))
    have x1 : evalE T (allEnv σ) (.cmp .gt (.call 0 (.cons (.var 1) .nil)) (.glob 4)) = some (.bool (decide (40 < b.length))) := ev_cmp n1 (ev_glob L.g4) (by
      show some (decide ((40 : Int) < b.length)) = _
      congr 1; exact decide_eq_decide.mpr (by omega))
    cases h : decide (40 < a.length) with
    | true => rw [h] at x0; exact ev_or (or_t x0 rfl)
    | false => rw [h] at x0; exact ev_or (or_f x0 rfl (or_1 x1))
  by_cases h' : (decide (40 < a.length) || decide (40 < b.length)) = true
  · rw [if_pos h']
    rw [h'] at t2
    exact ⟨σ, ss_next (st_iff t1 rfl ss_end) (ss_stop (st_ift t2 rfl (ss_stop (st_ret c1) (ne _))) (ne _))⟩
  rw [if_neg h']
  rw [Bool.not_eq_true] at h'
  rw [h'] at t2
  -- the rest, for words in order
  have rest : ∀ (x y : List Nat), okw x → okw y → ∃ σ', execSs T fuel (sg x y c pre post none none none none none none none none none)
     (.cons (.ite (.cmp .gt (.bin .mul (.bin .sub (.call 0 (.cons (.var 1) .nil)) (.call 0 (.cons (.var 0) .nil))) (.glob 5)) (.var 2)) (.cons (.ret (.bin .add (.var 2) (.cst (.int 1))))
       .nil) .nil)
       (.cons (.asg .new (.v 5) (.lrange (.glob 5) (.bin .mul (.glob 5) (.bin .add (.call 0 (.cons (.var 0) .nil)) (.cst (.int 1)))) (.glob 5)))
       (.cons (.asg .frz (.v 6) (.cst (.int 0)))
       (.cons (.for (.v 7) (.range1 (.call 0 (.cons (.var 1) .nil))) outB)
       (.cons (.ret (.var 6))
       .nil))))) = some (σ', .ret (.int (if c < ((y.length : Int) - x.length) * 2 then c + 1 else outer x c y (row0 x.length 2) 0 0))) := fun x y hx hy => by
    have k1 : x.length ≤ lim := Nat.le_trans hx.1 (by decide)
    have k2 : y.length ≤ lim := Nat.le_trans hy.1 (by decide)
    obtain ⟨σ', e⟩ := tab_ok (fuel := fuel) L (c := c) (pre := pre) (post := post) hx hy
    have hs : smallI ((y.length : Int) - x.length) = true := by
      have := hx.1; have := hy.1
      unfold smallI; simp only [Bool.and_eq_true, decide_eq_true_eq]; omega
    have t3 : evalE T (allEnv (sg x y c pre post none none none none none none none none none)) (.cmp .gt (.bin .mul (.bin .sub (.call 0 (.cons (.var 1) .nil)) (.call 0 (.cons (.var 0) .nil))) (.glob 5)) (.var 2)) = some (.bool (decide (c < ((y.length : Int) - x.length) * 2))) :=
      ev_cmp (ev_bin (ev_bin (ev_call1 (ev_var rfl) (L.len y k2)) (ev_call1 (ev_var rfl) (L.len x k1)) rfl) (ev_glob L.g5) (mul_small hs small2)) (ev_var rfl) rfl
    by_cases q : c < ((y.length : Int) - x.length) * 2
    · rw [if_pos q]
      rw [decide_eq_true q] at t3
      exact ⟨_, ss_stop (st_ift t3 rfl (ss_stop (st_ret (ev_bin (ev_var rfl) ev_cst rfl)) (ne _))) (ne _)⟩
    · rw [if_neg q]
      rw [decide_eq_false q] at t3
      exact ⟨σ', ss_next (st_iff t3 rfl ss_end) e⟩
  have t4 : evalE T (allEnv σ) (.cmp .lt (.call 0 (.cons (.var 1) .nil)) (.call 0 (.cons (.var 0) .nil))) = some (.bool (decide (b.length < a.length))) := ev_cmp n1 n0 (by
    show some (decide ((b.length : Int) < a.length)) = _
    congr 1; exact decide_eq_decide.mpr (by omega))
  by_cases q : b.length < a.length
  · rw [if_pos q]
    rw [decide_eq_true q] at t4
    obtain ⟨σ', e⟩ := rest b a hb ha
    have sw : execSs T fuel σ (.cons (.asg .frz (.t (.cons (.v 0) (.cons (.v 1) .nil))) (.tup (.cons (.var 1) (.cons (.var 0) .nil)))) .nil) = some (sg b a c pre post none none none none none none none none none, .next) := by
      subst hσ
      exact ss_next (st_pair (ev_tup2 (ev_var rfl) (ev_var rfl)) (by decide : 0 < 14) (by decide : 1 < 14)) ss_end
    exact ⟨σ', ss_next (st_iff t1 rfl ss_end) (ss_next (st_iff t2 rfl ss_end) (ss_next (st_ift t4 rfl sw) e))⟩
  · rw [if_neg q]
    rw [decide_eq_false q] at t4
    obtain ⟨σ', e⟩ := rest a b ha hb
    rw [hσ] at e
    exact ⟨σ', ss_next (st_iff t1 rfl ss_end) (ss_next (st_iff t2 rfl ss_end) (ss_next (st_iff t4 rfl ss_end) e))⟩
end Lev
end Mp
end

section
set_option maxRecDepth 100000
/-! The distance of two words: the def called. -/
namespace Mp
open PySem
namespace Lev
variable {T : Tabs} {fuel : Nat}

theorem b_split : b_levenshtein_distance = (.cons (.ite (.cmp .eq (.var 0) (.var 1)) (.cons (.ret (.cst (.int 0))) .nil) .nil)
 (.cons (.asg .frz (.v 3) (.cst (.int 0)))
 (.cons (.whl w1t w1b)
 (.cons (.asg .frz (.v 0) (.slice (.var 0) (.var 3) .abs .abs))
 (.cons (.asg .frz (.v 1) (.slice (.var 1) (.var 3) .abs .abs))
 (.cons (.asg .frz (.v 4) (.cst (.int 0)))
 (.cons (.whl w2t w2b)
 (.cons (.asg .frz (.v 0) (.slice (.var 0) .abs hiE .abs))
 (.cons (.asg .frz (.v 1) (.slice (.var 1) .abs hiE .abs))
 b_core))))))))) := rfl

theorem lev_ok (L : LevT T) (hf : 1000 < fuel) {a b : List Nat} {c : Int} (ha : okw a) (hb : okw b) : callF T fuel 14 b_levenshtein_distance [.str a, .str b, .int c] = some (.int (lev a b c)) := by
  have l1 : a.length ≤ lim := Nat.le_trans ha.1 (by decide)
  have l2 : b.length ≤ lim := Nat.le_trans hb.1 (by decide)
  have key : ∃ σ', execSs T fuel (sg a b c none none none none none none none none none none none) b_levenshtein_distance = some (σ', .ret (.int (lev a b c))) := by
    rw [b_split]
    have teq : evalE T (allEnv (sg a b c none none none none none none none none none none none)) (.cmp .eq (.var 0) (.var 1)) = some (.bool (decide (a = b))) := ev_cmp (ev_var rfl) (ev_var rfl) (eq_strs ha hb)
    unfold lev
    by_cases h : a = b
    · rw [if_pos h]
      rw [decide_eq_true h] at teq
      exact ⟨_, ss_stop (st_ift teq rfl (ss_stop (st_ret ev_cst) (by intro z; (first | exact noS z | exact noB z | cases z)))) (by intro z; (first | exact noS z | exact noB z | cases z))⟩
    rw [if_neg h]
    rw [decide_eq_false h] at teq
    have hn : lcp a b ≤ 1000 := Nat.le_trans (lcp_le a b) ha.1
    have hn' : lcp a b ≤ 100000 := Nat.le_trans hn (by decide)
    have ha1 := okw_drop ha (lcp a b)
    have hb1 := okw_drop hb (lcp a b)
    have r1 := w1_run (T := T) (fuel := fuel) (c := c) (post := none) (row := none) (res := none) (bi := none) (bc := none) (dist := none) (mn := none) (ix := none) (sub := none) (ins := none) ha hb (lcp a b) fuel 0 rfl (by omega) (Nat.zero_le _)
    rw [Nat.zero_add] at r1
    generalize hA : a.drop (lcp a b) = a1 at ha1
    generalize hB : b.drop (lcp a b) = b1 at hb1
    have hm : lcp a1.reverse b1.reverse ≤ 1000 := Nat.le_trans (lcp_le _ _) (by rw [List.length_reverse]; exact ha1.1)
    have k1 : a1.length ≤ lim := Nat.le_trans ha1.1 (by decide)
    have k2 : b1.length ≤ lim := Nat.le_trans hb1.1 (by decide)
    have r2 := w2_run (T := T) (fuel := fuel) (c := c) (pre := fi (lcp a b : Nat)) (row := none) (res := none) (bi := none) (bc := none) (dist := none) (mn := none) (ix := none) (sub := none) (ins := none) ha1 hb1 (lcp a1.reverse b1.reverse) fuel 0 rfl (by omega) (Nat.zero_le _)
    rw [Nat.zero_add] at r2
    have hst : strip a b = (a1.take (a1.length - lcp a1.reverse b1.reverse), b1.take (b1.length - lcp a1.reverse b1.reverse)) := by
      subst hA hB; rfl
    rw [hst]
    generalize hM : lcp a1.reverse b1.reverse = m at hm r2
    obtain ⟨σ', e⟩ := core_ok (fuel := fuel) L (c := c) (pre := fi (lcp a b : Nat)) (post := fi (-(m : Int))) (okw_take ha1 (a1.length - m)) (okw_take hb1 (b1.length - m))
    have ab : ∀ ρ : Rho, evalE T ρ .abs = some .none := fun ρ => rfl
    have sA := slice_from l1 hn'
    have sB := slice_from l2 hn'
    rw [hA] at sA
    rw [hB] at sB
    have hi1 := hi_val (T := T) (ρ := frzEnv (sg a1 b1 c (fi (lcp a b : Nat)) (fi (-(m : Int))) none none none none none none none none none)) hm (ev_var rfl)
    have hi2 := hi_val (T := T) (ρ := frzEnv (sg (a1.take (a1.length - m)) b1 c (fi (lcp a b : Nat)) (fi (-(m : Int))) none none none none none none none none none)) hm (ev_var rfl)
    obtain ⟨v1, hv1, hs1⟩ := hi1
    obtain ⟨v2, hv2, hs2⟩ := hi2
    refine ⟨σ', ss_next (st_iff teq rfl ss_end) ?_⟩
    refine ss_next (st_frz (v := .int 0) ev_cst (by decide : 3 < 14)) ?_
    refine ss_next (st_whl r1) ?_
    refine ss_next (st_frz (ev_slice (ev_var rfl) (ev_var rfl) (ab _) (ab _) sA) (by decide : 0 < 14)) ?_
    refine ss_next (st_frz (ev_slice (ev_var rfl) (ev_var rfl) (ab _) (ab _) sB) (by decide : 1 < 14)) ?_
    refine ss_next (st_frz (v := .int 0) ev_cst (by decide : 4 < 14)) ?_
    refine ss_next (st_whl r2) ?_
    refine ss_next (st_frz (ev_slice (ev_var rfl) (ab _) hv1 (ab _) (hs1 a1 k1)) (by decide : 0 < 14)) ?_
    refine ss_next (st_frz (ev_slice (ev_var rfl) (ab _) hv2 (ab _) (hs2 b1 k2)) (by decide : 1 < 14)) ?_
    exact e
  obtain ⟨σ', e⟩ := key
  unfold callF
  show (execSs T fuel (sg a b c none none none none none none none none none none none) b_levenshtein_distance).bind _ = _
  rw [e]; rfl
end Lev
end Mp
end

section
set_option maxRecDepth 100000
/-! Law 2, pure: the tables grow; the distance; held. -/
namespace Mp
open PySem
mutual
noncomputable def same : PV → PV → Bool
  | .none, .none => true
  | .bool a, .bool b => a == b
  | .int a, .int b => a == b
  | .str a, .str b => a == b
  | .list a, .list b => sames a b
  | .tup a, .tup b => sames a b
  | .inst a, .inst b => sames a b
  | _, _ => false
noncomputable def sames : List PV → List PV → Bool
  | [], [] => true
  | x :: xs, y :: ys => same x y && sames xs ys
  | _, _ => false
end
mutual
theorem same_eq : ∀ {a b : PV}, same a b = true → a = b
  | .none, b, h => by cases b with | none => rfl | _ => exact noB h
  | .bool x, b, h => by cases b with | bool y => exact congrArg _ (eqB h) | _ => exact noB h
  | .int x, b, h => by cases b with | int y => exact congrArg _ (eqB h) | _ => exact noB h
  | .str x, b, h => by cases b with | str y => exact congrArg _ (eqB h) | _ => exact noB h
  | .list x, b, h => by cases b with | list y => exact congrArg _ (sames_eq h) | _ => exact noB h
  | .tup x, b, h => by cases b with | tup y => exact congrArg _ (sames_eq h) | _ => exact noB h
  | .inst x, b, h => by cases b with | inst y => exact congrArg _ (sames_eq h) | _ => exact noB h
theorem sames_eq : ∀ {a b : List PV}, sames a b = true → a = b
  | [], b, h => by cases b with | nil => rfl | cons _ _ => exact noB h
  | x :: xs, [], h => noB h
  | x :: xs, y :: ys, h => andB h fun h1 h2 => by rw [same_eq h1, sames_eq h2]
end
noncomputable def isIt (o : Option PV) (x : PV) : Bool := match o with
  | some y => same y x
  | none => false
theorem isIt_eq {o : Option PV} {x : PV} (h : isIt o x = true) : o = some x := by
  cases o with
  | none => exact noB h
  | some y => exact congrArg some (same_eq h)
namespace L2

/-- the cost of two signs -/
noncomputable def signs : List Nat := [9, 32, 75, 107, 120]
theorem cost_all (n : Nat) : (signs.all fun c => signs.all fun d => isIt (callF (tabs (n + 1)) fuel b_substitution_cost_vars.length b_substitution_cost [.str [c], .str [d]]) (.int (Lev.cost c d))) = true := by kernel_rfl
theorem orB {a b : Bool} {G : Prop} (h : (a || b) = true) (k : a = true → G) (k' : b = true → G) : G := by
  cases a with
  | true => exact k rfl
  | false => exact k' h
theorem sign_mem {c : Nat} (h : Lev.okc c = true) : c ∈ signs :=
  orB h (fun h => orB h (fun h => orB h (fun h => orB h (fun h => (eqB h : c = 9) ▸ by decide) fun h => (eqB h : c = 32) ▸ by decide) fun h => (eqB h : c = 75) ▸ by decide) fun h => (eqB h : c = 107) ▸ by decide) fun h => (eqB h : c = 120) ▸ by decide
theorem cost_ok (n : Nat) {c d : Nat} (hc : Lev.okc c = true) (hd : Lev.okc d = true) : callF (tabs (n + 1)) fuel b_substitution_cost_vars.length b_substitution_cost [.str [c], .str [d]] = some (.int (Lev.cost c d)) :=
  isIt_eq (List.all_eq_true.mp (List.all_eq_true.mp (cost_all n) c (sign_mem hc)) d (sign_mem hd))
theorem levT (n : Nat) : Lev.LevT (tabs (n + 2)) where
  len l h := by show (if l.length ≤ lim then some (PV.int l.length) else none) = _; rw [if_pos h]
  min a b := rfl
  cost c d hc hd := by show (if 2 = 2 then callF (tabs (n + 1)) fuel _ _ _ else none) = _; rw [if_pos rfl]; exact cost_ok n hc hd
  g4 := rfl
  g5 := rfl
theorem lev_call (n : Nat) {a b : List Nat} {c : Int} (ha : Lev.okw a) (hb : Lev.okw b) : (tabs (n + 3)).call 14 [.str a, .str b, .int c] = some (.int (Lev.lev a b c)) := by
  show (if 3 = 3 then callF (tabs (n + 2)) fuel _ _ _ else none) = _
  rw [if_pos rfl]
  exact Lev.lev_ok (levT n) (by decide) ha hb

end L2
end Mp
end

section
set_option maxRecDepth 100000
/-! The least price of two words, and what the program's distance tells of it. -/
namespace Mp
namespace Ed
open Lev
/-- a way to lay some signs of the one word on as many of the other, in order, with its price -/
inductive Al : List Nat → List Nat → Int → Prop
  | nil : Al [] [] 0
  | left {a b : List Nat} {p : Int} (x : Nat) : Al a b p → Al (x :: a) b (p + 2)
  | right {a b : List Nat} {p : Int} (y : Nat) : Al a b p → Al a (y :: b) (p + 2)
  | both {a b : List Nat} {p : Int} (x y : Nat) : Al a b p → Al (x :: a) (y :: b) (p + cost x y)

noncomputable def rowE (f : List Nat → Int) (x : Nat) (n : Int) : List Nat → Int
  | [] => n
  | y :: b => min (min (f (y :: b) + 2) (rowE f x n b + 2)) (f b + cost x y)
/-- the least price -/
noncomputable def D : List Nat → List Nat → Int
  | [] => fun b => 2 * (b.length : Int)
  | x :: a => rowE (D a) x (2 * ((a.length : Int) + 1))
theorem D_nil (b : List Nat) : D [] b = 2 * (b.length : Int) := rfl
theorem D_cn (x : Nat) (a : List Nat) : D (x :: a) [] = 2 * ((a.length : Int) + 1) := rfl
theorem D_cc (x y : Nat) (a b : List Nat) : D (x :: a) (y :: b) = min (min (D a (y :: b) + 2) (D (x :: a) b + 2)) (D a b + cost x y) := rfl
theorem D_rn : ∀ a : List Nat, D a [] = 2 * (a.length : Int)
  | [] => rfl
  | x :: a => by rw [D_cn]; simp
theorem cost_le (x y : Nat) : 0 ≤ cost x y ∧ cost x y ≤ 2 := by
  unfold cost
  split
  · omega
  · split <;> omega
theorem cost_same (x : Nat) : cost x x = 0 := by unfold cost; rw [if_pos rfl]
theorem cost_comm (x y : Nat) : cost x y = cost y x := by
  unfold cost
  by_cases h : x = y
  · subst h; rfl
  · rw [if_neg h, if_neg (Ne.symm h)]
    by_cases h' : low x = low y
    · rw [if_pos h', if_pos h'.symm]
    · rw [if_neg h', if_neg (Ne.symm h')]
theorem D_left (x : Nat) (a b : List Nat) : D (x :: a) b ≤ D a b + 2 := by
  cases b with
  | nil => rw [D_rn, D_rn]; simp only [List.length_cons]; omega
  | cons y b => rw [D_cc]; omega
theorem D_right (y : Nat) (a b : List Nat) : D a (y :: b) ≤ D a b + 2 := by
  cases a with
  | nil => rw [D_nil, D_nil]; simp only [List.length_cons]; omega
  | cons x a => rw [D_cc]; omega
theorem D_both (x y : Nat) (a b : List Nat) : D (x :: a) (y :: b) ≤ D a b + cost x y := by rw [D_cc]; omega
theorem D_le {a b : List Nat} {p : Int} (h : Al a b p) : D a b ≤ p := by
  induction h with
  | nil => exact Int.le_refl _
  | @left a b p x _ ih => have := D_left x a b; omega
  | @right a b p y _ ih => have := D_right y a b; omega
  | @both a b p x y _ ih => have := D_both x y a b; omega
theorem al_nil : ∀ b : List Nat, Al [] b (2 * (b.length : Int))
  | [] => .nil
  | y :: b => by
    have := Al.right y (al_nil b)
    rw [show (2 * ((y :: b).length : Int)) = 2 * (b.length : Int) + 2 by simp only [List.length_cons]; omega]
    exact this
theorem al_row {a : List Nat} (ih : ∀ b, Al a b (D a b)) (x : Nat) : ∀ b : List Nat, Al (x :: a) b (D (x :: a) b)
  | [] => by
    have := Al.left x (ih [])
    rw [D_rn] at this ⊢
    rw [show (2 * ((x :: a).length : Int)) = 2 * (a.length : Int) + 2 by simp only [List.length_cons]; omega]
    exact this
  | y :: b => by
    have h1 := Al.left x (ih (y :: b))
    have h2 := Al.right y (al_row ih x b)
    have h3 := Al.both x y (ih b)
    have e := D_cc x y a b
    by_cases q : D a b + cost x y ≤ min (D a (y :: b) + 2) (D (x :: a) b + 2)
    · rw [show D (x :: a) (y :: b) = D a b + cost x y by omega]; exact h3
    · by_cases q' : D a (y :: b) + 2 ≤ D (x :: a) b + 2
      · rw [show D (x :: a) (y :: b) = D a (y :: b) + 2 by omega]; exact h1
      · rw [show D (x :: a) (y :: b) = D (x :: a) b + 2 by omega]; exact h2
theorem D_al : ∀ a b : List Nat, Al a b (D a b)
  | [], b => al_nil b
  | x :: a, b => al_row (D_al a) x b

theorem Al.app {a b a' b' : List Nat} {p q : Int} (h : Al a b p) (h' : Al a' b' q) : Al (a ++ a') (b ++ b') (p + q) := by
  induction h with
  | nil => rw [Int.zero_add]; exact h'
  | left x _ ih => rw [show ∀ p : Int, p + 2 + q = p + q + 2 by intro p; omega]; exact ih.left x
  | right y _ ih => rw [show ∀ p : Int, p + 2 + q = p + q + 2 by intro p; omega]; exact ih.right y
  | both x y _ ih => rw [show ∀ p c : Int, p + c + q = p + q + c by intro p c; omega]; exact ih.both x y
theorem Al.rev {a b : List Nat} {p : Int} (h : Al a b p) : Al a.reverse b.reverse p := by
  induction h with
  | nil => exact .nil
  | left x _ ih => have := ih.app (Al.left x .nil); rw [List.append_nil, Int.zero_add] at this; rw [List.reverse_cons]; exact this
  | right y _ ih => have := ih.app (Al.right y .nil); rw [List.append_nil, Int.zero_add] at this; rw [List.reverse_cons]; exact this
  | both x y _ ih => have := ih.app (Al.both x y .nil); rw [Int.zero_add] at this; rw [List.reverse_cons, List.reverse_cons]; exact this
theorem Al.comm {a b : List Nat} {p : Int} (h : Al a b p) : Al b a p := by
  induction h with
  | nil => exact .nil
  | left x _ ih => exact ih.right x
  | right y _ ih => exact ih.left y
  | both x y _ ih => rw [cost_comm]; exact ih.both y x
theorem D_rev (a b : List Nat) : D a.reverse b.reverse = D a b := by
  have h1 := D_le (D_al a b).rev
  have h2 := D_le (D_al a.reverse b.reverse).rev
  rw [List.reverse_reverse, List.reverse_reverse] at h2
  omega
theorem D_comm (a b : List Nat) : D a b = D b a := by
  have h1 := D_le (D_al a b).comm
  have h2 := D_le (D_al b a).comm
  omega
theorem Al.pos {a b : List Nat} {p : Int} (h : Al a b p) : 0 ≤ p := by
  induction h with
  | nil => omega
  | left x _ ih => omega
  | right y _ ih => omega
  | both x y _ ih => have := cost_le x y; omega
theorem Al.len {a b : List Nat} {p : Int} (h : Al a b p) : 2 * ((b.length : Int) - a.length) ≤ p := by
  induction h with
  | nil => simp
  | left x _ ih => simp only [List.length_cons]; omega
  | right y _ ih => simp only [List.length_cons]; omega
  | both x y _ ih => have := cost_le x y; simp only [List.length_cons]; omega
theorem al_drop {a b' : List Nat} {q : Int} (h : Al a b' q) : ∀ (y : Nat) (b : List Nat), b' = y :: b → D a b ≤ q + 2 := by
  induction h with
  | nil => intro y b e; cases e
  | @left a b' p x _ ih => intro y b e; have := ih y b e; have := D_left x a b; omega
  | @right a b' p y h ih => intro y' b e; (first | exact noS e | exact noB e | cases e); have := D_le h; omega
  | @both a b' p x y h ih => intro y' b e; (first | exact noS e | exact noB e | cases e); have := D_le h; have := D_left x a b'; have := cost_le x y; omega
theorem D_drop (y : Nat) (a b : List Nat) : D a b ≤ D a (y :: b) + 2 := al_drop (D_al a (y :: b)) y b rfl
theorem D_same (x : Nat) (a b : List Nat) : D (x :: a) (x :: b) = D a b := by
  have h1 := D_drop x a b
  have h2 := D_drop x b a
  rw [D_comm b a, D_comm b (x :: a)] at h2
  rw [D_cc, cost_same]
  omega
theorem D_self : ∀ a : List Nat, D a a = 0
  | [] => rfl
  | x :: a => by rw [D_same, D_self a]
theorem D_lcp : ∀ a b : List Nat, D (a.drop (lcp a b)) (b.drop (lcp a b)) = D a b
  | [], b => rfl
  | x :: a, [] => rfl
  | x :: a, y :: b => by
    rw [lcp_cc]
    by_cases h : x = y
    · subst h
      rw [if_pos rfl, List.drop_succ_cons, List.drop_succ_cons, D_lcp a b, D_same]
    · rw [if_neg h]; rfl
theorem take_rev (a : List Nat) (m : Nat) : a.take (a.length - m) = (a.reverse.drop m).reverse := by
  rw [List.drop_reverse, List.reverse_reverse]
theorem D_strip (a b : List Nat) : D (strip a b).1 (strip a b).2 = D a b := by
  unfold strip
  dsimp only
  rw [take_rev, take_rev, D_rev, D_lcp, D_rev, D_lcp]

/-- where a word is cut, the other one can be cut -/
theorem Al.cut {A B : List Nat} {p : Int} (h : Al A B p) : ∀ u v : List Nat, B = u ++ v → ∃ A1 A2 q r, A = A1 ++ A2 ∧ Al A1 u q ∧ Al A2 v r ∧ p = q + r := by
  induction h with
  | nil =>
    intro u v e
    have e' := e.symm
    rw [List.append_eq_nil_iff] at e'
    obtain ⟨rfl, rfl⟩ := e'
    exact ⟨[], [], 0, 0, rfl, .nil, .nil, rfl⟩
  | left x _ ih =>
    intro u v e
    obtain ⟨A1, A2, q, r, rfl, h1, h2, rfl⟩ := ih u v e
    exact ⟨x :: A1, A2, q + 2, r, rfl, h1.left x, h2, by omega⟩
  | @right a b p y h ih =>
    intro u v e
    cases u with
    | nil => (first | exact noS e | exact noB e | cases e); exact ⟨[], a, 0, p + 2, rfl, .nil, h.right y, by omega⟩
    | cons y' u =>
      (first | exact noS e | exact noB e | cases e)
      obtain ⟨A1, A2, q, r, rfl, h1, h2, rfl⟩ := ih u v rfl
      exact ⟨A1, A2, q + 2, r, rfl, h1.right y, h2, by omega⟩
  | @both a b p x y h ih =>
    intro u v e
    cases u with
    | nil => (first | exact noS e | exact noB e | cases e); exact ⟨[], x :: a, 0, p + cost x y, rfl, .nil, h.both x y, by omega⟩
    | cons y' u =>
      (first | exact noS e | exact noB e | cases e)
      obtain ⟨A1, A2, q, r, rfl, h1, h2, rfl⟩ := ih u v rfl
      exact ⟨x :: A1, A2, q + cost x y, r, rfl, h1.both x y, h2, by omega⟩
end Ed
end Mp
end

section
set_option maxRecDepth 100000
/-! The program's distance is the least price, or it stops above the bound. -/
namespace Mp
namespace Ed
open Lev

/-- a row of the table: the least prices of the first signs of a (told back to front) and bp -/
noncomputable def rowsE (ap : List Nat) (bp : List Nat) : List Nat → List Int
  | [] => []
  | x :: xs => D (x :: ap) bp :: rowsE (x :: ap) bp xs
theorem rowsE_c (ap bp : List Nat) (x : Nat) (xs : List Nat) : rowsE ap bp (x :: xs) = D (x :: ap) bp :: rowsE (x :: ap) bp xs := rfl
theorem rows0 : ∀ (a ap : List Nat), row0 a.length (2 * ((ap.length : Int) + 1)) = rowsE ap [] a
  | [], _ => rfl
  | x :: a, ap => by
    have ih := rows0 a (x :: ap)
    rw [List.length_cons, row0_s, rowsE_c, D_cn, ← ih]
    congr 2
theorem if_min (r s : Int) : (if r < s then r else s) = min r s := by
  rw [Int.min_def]
  by_cases h : r < s
  · rw [if_pos h, if_pos (Int.le_of_lt h)]
  · rw [if_neg h]
    by_cases q : r ≤ s
    · rw [if_pos q]; exact Int.le_antisymm (Int.not_lt.mp h) q
    · rw [if_neg q]
theorem min_up (r s : Int) : min r s + 2 = min (s + 2) (r + 2) := by
  rw [Int.min_comm, Int.min_def, Int.min_def]
  by_cases h : s ≤ r
  · rw [if_pos h, if_pos (Int.add_le_add_right h 2)]
  · rw [if_neg h, if_neg fun z => h (Int.le_of_add_le_add_right z)]
theorem step_min (x y : Nat) (r d res : Int) : step x y r d res = min (min (res + 2) (r + 2)) (d + cost x y) := by
  unfold step
  rw [if_min r res, if_min, min_up, Int.min_comm]
theorem min_le2 (n r c : Int) (hc : c ≤ 2) : min (min (n + 2) (r + 2)) (n + c) = min (min (n + 2 + 2) (r + 2)) (n + c) := by omega
theorem step_ok (y x : Nat) (ap bp : List Nat) (res : Int) (h : res = D ap (y :: bp) ∨ (ap = [] ∧ res = D [] bp)) : step y x (D (x :: ap) bp) (D ap bp) res = D (x :: ap) (y :: bp) := by
  rw [step_min, D_cc, cost_comm y x]
  rcases h with rfl | ⟨rfl, rfl⟩
  · rfl
  · rw [D_nil, D_nil, List.length_cons, show (2 * ((bp.length + 1 : Nat) : Int)) = 2 * (bp.length : Int) + 2 by omega]
    exact min_le2 _ _ _ (cost_le x y).2
theorem inner_ok (y : Nat) (bp : List Nat) : ∀ (a ap : List Nat) (res m : Int), (res = D ap (y :: bp) ∨ (ap = [] ∧ a ≠ [] ∧ res = D [] bp)) →
    (inner y a (rowsE ap bp a) (D ap bp) res m).1 = rowsE ap (y :: bp) a ∧ (inner y a (rowsE ap bp a) (D ap bp) res m).2.1 = D (a.reverse ++ ap) (y :: bp)
  | [], ap, res, m, h => by
    rw [inner_nil]
    rcases h with rfl | ⟨_, h, _⟩
    · exact ⟨rfl, rfl⟩
    · exact absurd rfl h
  | x :: a, ap, res, m, h => by
    have e : step y x (D (x :: ap) bp) (D ap bp) res = D (x :: ap) (y :: bp) := step_ok y x ap bp res (h.imp id fun h => ⟨h.1, h.2.2⟩)
    rw [rowsE_c, inner_cc, e]
    have ih := inner_ok y bp a (x :: ap) (D (x :: ap) (y :: bp)) (if D (x :: ap) (y :: bp) < m then D (x :: ap) (y :: bp) else m) (.inl rfl)
    dsimp only
    rw [ih.1, ih.2]
    refine ⟨rfl, ?_⟩
    rw [List.reverse_cons, List.append_assoc]; rfl
theorem inner_min (y : Nat) (c : Int) : ∀ (a : List Nat) (row : List Int) (d r m : Int), c < (inner y a row d r m).2.2 → c < m ∧ ∀ e ∈ (inner y a row d r m).1, c < e
  | [], row, d, r, m, h => by
    rw [inner_nil] at h ⊢
    exact ⟨h, fun uu h => by (first | exact noS h | exact noB h | cases h)⟩
  | x :: a, [], d, r, m, h => by
    have e : inner y (x :: a) [] d r m = ([], r, m) := rfl
    rw [e] at h ⊢
    exact ⟨h, fun uu h => by (first | exact noS h | exact noB h | cases h)⟩
  | x :: a, q :: row, d, r, m, h => by
    rw [inner_cc] at h ⊢
    dsimp only at h ⊢
    obtain ⟨h1, h2⟩ := inner_min y c a row q (step y x q d r) _ h
    refine ⟨by split at h1 <;> omega, fun e he => ?_⟩
    rcases List.mem_cons.mp he with rfl | he
    · split at h1 <;> omega
    · exact h2 e he
theorem rows_mem {bp : List Nat} : ∀ (a ap u v : List Nat), a = u ++ v → u ≠ [] → D (u.reverse ++ ap) bp ∈ rowsE ap bp a
  | [], _, u, v, h, hu => by
    have h' := h.symm
    rw [List.append_eq_nil_iff] at h'
    exact absurd h'.1 hu
  | x :: a, ap, u, v, h, hu => by
    cases u with
    | nil => exact absurd rfl hu
    | cons x' u =>
      (first | exact noS h | exact noB h | cases h)
      rw [rowsE_c]
      by_cases q : u = []
      · subst q; exact List.mem_cons_self
      · have := rows_mem (bp := bp) (u ++ v) (x :: ap) u v rfl q
        rw [List.reverse_cons, List.append_assoc]
        exact List.mem_cons_of_mem _ this
/-- a row above the bound: the price of all is above it -/
theorem row_above {a bp : List Nat} {c : Int} (w : List Nat) (ha : a ≠ []) (hb : bp ≠ []) (h : ∀ e ∈ rowsE [] bp a, c < e) : c < D a.reverse (w ++ bp) := by
  obtain ⟨A1, A2, q, r, hA, h1, h2, e⟩ := (D_al a.reverse (w ++ bp)).cut w bp rfl
  have p1 := h1.pos
  have p2 := D_le h2
  have key : c < D A2 bp := by
    by_cases hn : A2 = []
    · subst hn
      obtain ⟨x, a', rfl⟩ := List.exists_cons_of_ne_nil ha
      obtain ⟨y, b', rfl⟩ := List.exists_cons_of_ne_nil hb
      have h3 := h (D [x] (y :: b')) (by rw [rowsE_c]; exact List.mem_cons_self)
      have h4 := D_both x y [] b'
      have h5 := cost_le x y
      rw [D_nil] at h4 ⊢
      simp only [List.length_cons]
      omega
    · have e1 : a = A2.reverse ++ A1.reverse := by
        have := congrArg List.reverse hA
        rw [List.reverse_reverse, List.reverse_append] at this
        exact this
      have := rows_mem (bp := bp) a [] A2.reverse A1.reverse e1 (by simpa using hn)
      rw [List.reverse_reverse, List.append_nil] at this
      exact h _ this
  omega
theorem outer_ok (a : List Nat) (c : Int) (ha : a ≠ []) : ∀ (b bp : List Nat) (res : Int), (b = [] → res = D a.reverse bp) →
    outer a c b (rowsE [] bp a) (bp.length : Int) res = D a.reverse (b.reverse ++ bp) ∨ (c < D a.reverse (b.reverse ++ bp) ∧ outer a c b (rowsE [] bp a) (bp.length : Int) res = c + 1)
  | [], bp, res, h => .inl (h rfl)
  | y :: b, bp, res, _ => by
    rw [outer_c]
    have hi := inner_ok y bp a [] (2 * (bp.length : Int)) 9223372036854775807 (.inr ⟨rfl, ha, rfl⟩)
    rw [D_nil, List.append_nil] at hi
    rw [hi.1, hi.2]
    have er : (y :: b).reverse ++ bp = b.reverse ++ (y :: bp) := by rw [List.reverse_cons, List.append_assoc]; rfl
    by_cases q : c < (inner y a (rowsE [] bp a) (2 * (bp.length : Int)) (2 * (bp.length : Int)) 9223372036854775807).2.2
    · rw [if_pos q]
      have hm := (inner_min y c a _ _ _ _ q).2
      rw [hi.1] at hm
      rw [er]
      exact .inr ⟨row_above b.reverse ha (by simp) hm, rfl⟩
    · rw [if_neg q, er]
      have ih := outer_ok a c ha b (y :: bp) (D a.reverse (y :: bp)) (fun uu => rfl)
      rw [show (((y :: bp).length : Nat) : Int) = (bp.length : Int) + 1 by simp only [List.length_cons]; omega] at ih
      exact ih
noncomputable def Tells (r d c : Int) : Prop := r = d ∨ (c < d ∧ r = c + 1)
theorem core_ok {a b : List Nat} (c : Int) (ha : a.length ≤ 40) (hb : b.length ≤ 40) : Tells (core a b c) (D a b) c := by
  unfold core
  by_cases h0 : (a.isEmpty || b.isEmpty) = true
  · rw [if_pos h0]
    refine .inl ?_
    rw [Bool.or_eq_true, List.isEmpty_iff, List.isEmpty_iff] at h0
    rcases h0 with rfl | rfl
    · rw [D_nil]; simp
    · rw [D_rn]; simp
  · rw [if_neg h0]
    rw [Bool.or_eq_true, List.isEmpty_iff, List.isEmpty_iff, not_or] at h0
    have h1 : ¬ (decide (40 < a.length) || decide (40 < b.length)) = true := by
      rw [Bool.or_eq_true, decide_eq_true_eq, decide_eq_true_eq]; omega
    rw [if_neg h1]
    have key : ∀ p : List Nat × List Nat, D p.1 p.2 = D a b → p.1 ≠ [] → p.2 ≠ [] →
        Tells (if c < ((p.2.length : Int) - p.1.length) * 2 then c + 1 else outer p.1 c p.2 (row0 p.1.length 2) 0 0) (D a b) c := fun p e n1 n2 => by
      split
      · rename_i q
        have := (D_al p.1 p.2).len
        refine .inr ⟨by rw [← e]; omega, rfl⟩
      · have h := outer_ok p.1 c n1 p.2 [] 0 (fun h => absurd h n2)
        have r0 := rows0 p.1 []
        rw [← r0] at h
        rw [List.append_nil, D_rev, e] at h
        exact h
    dsimp only
    by_cases hl : b.length < a.length
    · rw [if_pos hl]
      exact key (b, a) (D_comm b a) h0.2 h0.1
    · rw [if_neg hl]
      exact key (a, b) rfl h0.1 h0.2
theorem lev_tells {a b : List Nat} (c : Int) (ha : a.length ≤ 40) (hb : b.length ≤ 40) : Tells (lev a b c) (D a b) c := by
  unfold lev
  by_cases h : a = b
  · subst h; rw [if_pos rfl, D_self]; exact .inl rfl
  · rw [if_neg h]
    have := core_ok (a := (strip a b).1) (b := (strip a b).2) c (by unfold strip; simp; omega) (by unfold strip; simp; omega)
    rw [D_strip] at this
    exact this
end Ed
end Mp
end

section
set_option maxRecDepth 100000
/-! Each sign so many times: so many times the price. -/
namespace Mp
namespace Ed
open Lev

noncomputable def blow (f : Nat) (w : List Nat) : List Nat := w.flatMap (List.replicate f)
theorem blow_nil (f : Nat) : blow f [] = [] := rfl
theorem blow_cons (f x : Nat) (w : List Nat) : blow f (x :: w) = List.replicate f x ++ blow f w := rfl
theorem blow_len (f : Nat) : ∀ w : List Nat, (blow f w).length = f * w.length
  | [] => rfl
  | x :: w => by rw [blow_cons, List.length_append, List.length_replicate, blow_len f w, List.length_cons, Nat.mul_succ]; omega

theorem al_many (f : Nat) (x : Nat) : Al (List.replicate f x) [] (2 * (f : Int)) := by
  induction f with
  | zero => exact .nil
  | succ n ih => rw [List.replicate_succ, show (2 * ((n + 1 : Nat) : Int)) = 2 * (n : Int) + 2 by omega]; exact ih.left x
theorem al_manys (f : Nat) (x y : Nat) : Al (List.replicate f x) (List.replicate f y) ((f : Int) * cost x y) := by
  induction f with
  | zero => rw [Int.natCast_zero, Int.zero_mul]; exact .nil
  | succ n ih =>
    rw [List.replicate_succ, List.replicate_succ, show (((n + 1 : Nat) : Int) * cost x y) = (n : Int) * cost x y + cost x y by rw [Int.natCast_add, Int.add_mul]; simp]
    exact ih.both x y
theorem al_blow (f : Nat) {a b : List Nat} {p : Int} (h : Al a b p) : Al (blow f a) (blow f b) ((f : Int) * p) := by
  induction h with
  | nil => rw [Int.mul_zero]; exact .nil
  | @left a b p x _ ih =>
    rw [blow_cons, show (f : Int) * (p + 2) = 2 * (f : Int) + (f : Int) * p by rw [Int.mul_add]; omega]
    exact (al_many f x).app ih
  | @right a b p y _ ih =>
    rw [blow_cons, show (f : Int) * (p + 2) = 2 * (f : Int) + (f : Int) * p by rw [Int.mul_add]; omega]
    exact (al_many f y).comm.app ih
  | @both a b p x y _ ih =>
    rw [blow_cons, blow_cons, show (f : Int) * (p + cost x y) = (f : Int) * cost x y + (f : Int) * p by rw [Int.mul_add]; omega]
    exact (al_manys f x y).app ih
theorem blow_le (f : Nat) (a b : List Nat) : D (blow f a) (blow f b) ≤ (f : Int) * D a b := D_le (al_blow f (D_al a b))

/-- between the corners of a field of f by f: the least that the price can be -/
noncomputable def phi (f r s : Nat) (f00 f10 f01 f11 : Int) : Int :=
  if s ≤ r then ((f : Int) - r) * f00 + ((r : Int) - s) * f10 + (s : Int) * f11 else ((f : Int) - s) * f00 + ((s : Int) - r) * f01 + (r : Int) * f11
noncomputable def Low (f : Nat) (a b : List Nat) (x y r s : Nat) : Prop :=
  phi f r s (D a b) (D (x :: a) b) (D a (y :: b)) (D (x :: a) (y :: b)) ≤ D (List.replicate r x ++ blow f a) (List.replicate s y ++ blow f b)
theorem succ_mul' (k r A : Int) : (k - (r + 1)) * A = (k - r) * A - A := by rw [Int.sub_mul, Int.sub_mul, Int.add_mul, Int.one_mul]; omega
theorem same_mul (r s B : Int) : (r + 1 - (s + 1)) * B = (r - s) * B := by rw [show r + 1 - (s + 1) = r - s by omega]
theorem up_mul (r s B : Int) : (r + 1 - s) * B = (r - s) * B + B := by rw [Int.sub_mul, Int.sub_mul, Int.add_mul, Int.one_mul]; omega
theorem one_mul' (s E : Int) : (s + 1) * E = s * E + E := by rw [Int.add_mul, Int.one_mul]
theorem phi_diag (f r s : Nat) (A B C E : Int) : phi f (r + 1) (s + 1) A B C E = phi f r s A B C E + (E - A) := by
  unfold phi
  by_cases h : s ≤ r
  · rw [if_pos h, if_pos (Nat.succ_le_succ h), Int.natCast_succ, Int.natCast_succ, succ_mul', same_mul, one_mul']; omega
  · rw [if_neg h, if_neg fun z => h (Nat.le_of_succ_le_succ z), Int.natCast_succ, Int.natCast_succ, succ_mul', same_mul, one_mul']; omega
theorem phi_r (f r s : Nat) (A B C E : Int) (h1 : B ≤ A + 2) (h2 : E ≤ C + 2) : phi f (r + 1) (s + 1) A B C E ≤ phi f r (s + 1) A B C E + 2 := by
  unfold phi
  by_cases h : s + 1 ≤ r
  · rw [if_pos h, if_pos (Nat.le_succ_of_le h), Int.natCast_succ r, succ_mul', up_mul]; omega
  · rw [if_neg h]
    by_cases q : s + 1 ≤ r + 1
    · obtain rfl : s = r := Nat.le_antisymm (Nat.le_of_succ_le_succ q) (Nat.le_of_lt_succ (Nat.lt_of_not_le h))
      rw [if_pos q, Int.natCast_succ, succ_mul', same_mul, one_mul', up_mul, Int.sub_self, Int.zero_mul, Int.zero_mul]; omega
    · rw [if_neg q, Int.natCast_succ r, one_mul', succ_mul']; omega
theorem phi_s (f r s : Nat) (A B C E : Int) (h1 : C ≤ A + 2) (h2 : E ≤ B + 2) : phi f (r + 1) (s + 1) A B C E ≤ phi f (r + 1) s A B C E + 2 := by
  unfold phi
  by_cases h : s ≤ r
  · rw [if_pos (Nat.succ_le_succ h), if_pos (Nat.le_succ_of_le h), Int.natCast_succ s, one_mul', succ_mul']; omega
  · rw [if_neg fun z => h (Nat.le_of_succ_le_succ z)]
    by_cases q : s ≤ r + 1
    · obtain rfl : s = r + 1 := Nat.le_antisymm q (Nat.lt_of_not_le h)
      rw [if_pos q, Int.natCast_succ (r + 1), succ_mul', up_mul, Int.sub_self, Int.zero_mul, Int.zero_mul]; omega
    · rw [if_neg q, Int.natCast_succ s, succ_mul', up_mul]; omega
theorem low_step {f : Nat} {a b : List Nat} {x y r s : Nat} (i1 : Low f a b x y r (s + 1)) (i2 : Low f a b x y (r + 1) s) (i3 : Low f a b x y r s) : Low f a b x y (r + 1) (s + 1) := by
  unfold Low at *
  rw [List.replicate_succ, List.cons_append] at i1 i2 ⊢
  rw [List.replicate_succ, List.cons_append, D_cc x y (List.replicate r x ++ blow f a) (List.replicate s y ++ blow f b)]
  have e1 := phi_r f r s _ _ _ _ (D_left x a b) (D_left x a (y :: b))
  have e2 := phi_s f r s _ _ _ _ (D_right y a b) (D_right y (x :: a) b)
  have e3 := phi_diag f r s (D a b) (D (x :: a) b) (D a (y :: b)) (D (x :: a) (y :: b))
  have e4 := D_both x y a b
  exact Int.le_min.mpr ⟨Int.le_min.mpr ⟨Int.le_trans e1 (Int.add_le_add_right i1 2), Int.le_trans e2 (Int.add_le_add_right i2 2)⟩, by omega⟩
theorem field {f : Nat} {a b : List Nat} {x y : Nat} (h0 : ∀ s, s ≤ f → Low f a b x y 0 s) (h1 : ∀ r, r ≤ f → Low f a b x y r 0) (r : Nat) (hr : r ≤ f) (s : Nat) (hs : s ≤ f) : Low f a b x y r s := by
  induction r generalizing s with
  | zero => exact h0 s hs
  | succ r ihr =>
    induction s with
    | zero => exact h1 _ hr
    | succ s ihs => exact low_step (ihr (Nat.le_of_succ_le hr) (s + 1) hs) (ihs (Nat.le_of_succ_le hs)) (ihr (Nat.le_of_succ_le hr) s (Nat.le_of_succ_le hs))
theorem phi_0 (f s : Nat) (A B C E : Int) : phi f 0 s A B C E = ((f : Int) - s) * A + (s : Int) * C := by
  unfold phi
  by_cases h : s ≤ 0
  · obtain rfl : s = 0 := Nat.le_zero.mp h
    rw [if_pos h]; simp
  · rw [if_neg h]; simp
theorem phi_r0 (f r : Nat) (A B C E : Int) : phi f r 0 A B C E = ((f : Int) - r) * A + (r : Int) * B := by
  unfold phi
  rw [if_pos (Nat.zero_le r)]; simp
theorem phi_f (f s : Nat) (hs : s ≤ f) (A B C E : Int) : phi f f s A B C E = ((f : Int) - s) * B + (s : Int) * E := by
  unfold phi
  rw [if_pos hs, Int.sub_self, Int.zero_mul, Int.zero_add]
theorem phi_rf (f r : Nat) (hr : r ≤ f) (A B C E : Int) : phi f r f A B C E = ((f : Int) - r) * C + (r : Int) * E := by
  unfold phi
  by_cases h : f ≤ r
  · obtain rfl : r = f := Nat.le_antisymm hr h
    rw [if_pos h]; simp
  · rw [if_neg h, Int.sub_self, Int.zero_mul, Int.zero_add]
theorem swapR {f : Nat} {a b : List Nat} {x y x' s : Nat} (hs : s ≤ f) (h : Low f a b x' y f s) : Low f (x' :: a) b x y 0 s := by
  unfold Low at *
  rw [phi_f f s hs] at h
  rw [phi_0]
  exact h
theorem swapS {f : Nat} {a b : List Nat} {x y y' r : Nat} (hr : r ≤ f) (h : Low f a b x y' r f) : Low f a (y' :: b) x y r 0 := by
  unfold Low at *
  rw [phi_rf f r hr] at h
  rw [phi_r0]
  exact h
theorem nil_sum (f s n : Nat) : ((f : Int) - s) * (2 * (n : Int)) + (s : Int) * (2 * ((n : Int) + 1)) = 2 * ((s + f * n : Nat) : Int) := by
  rw [Int.sub_mul, Int.mul_add 2, Int.mul_add (s : Int), Int.natCast_add, Int.natCast_mul, Int.mul_add 2, Int.mul_left_comm 2 (f : Int)]
  omega
theorem nilA (f : Nat) (b : List Nat) (x y s : Nat) : Low f [] b x y 0 s := by
  unfold Low
  rw [phi_0, List.replicate_zero, List.nil_append, blow_nil, D_nil, D_nil, D_nil, List.length_append, List.length_replicate, blow_len, List.length_cons, Int.natCast_succ, nil_sum]
  exact Int.le_refl _
theorem nilB (f : Nat) (a : List Nat) (x y r : Nat) : Low f a [] x y r 0 := by
  unfold Low
  rw [phi_r0, List.replicate_zero, List.nil_append, blow_nil, D_rn, D_rn, D_rn, List.length_append, List.length_replicate, blow_len, List.length_cons, Int.natCast_succ, nil_sum]
  exact Int.le_refl _
theorem low_all (f : Nat) (a b : List Nat) : ∀ (x y r : Nat), r ≤ f → ∀ s, s ≤ f → Low f a b x y r s := by
  induction a generalizing b with
  | nil =>
    induction b with
    | nil => exact fun x y => field (fun s uu => nilA f [] x y s) fun r uu => nilB f [] x y r
    | cons y' b ih => exact fun x y => field (fun s uu => nilA f (y' :: b) x y s) fun r hr => swapS hr (ih x y' r hr f (Nat.le_refl f))
  | cons x' a iha =>
    induction b with
    | nil => exact fun x y => field (fun s hs => swapR hs (iha [] x' y f (Nat.le_refl f) s hs)) fun r uu => nilB f (x' :: a) x y r
    | cons y' b ih => exact fun x y => field (fun s hs => swapR hs (iha (y' :: b) x' y f (Nat.le_refl f) s hs)) fun r hr => swapS hr (ih x y' r hr f (Nat.le_refl f))
theorem blow_ge (f : Nat) (a b : List Nat) : (f : Int) * D a b ≤ D (blow f a) (blow f b) := by
  have := low_all f a b 0 0 0 (Nat.zero_le _) 0 (Nat.zero_le _)
  unfold Low at this
  rw [phi_0] at this
  simp at this
  exact this
theorem blow1 (a : List Nat) : blow 1 a = a := by
  induction a with
  | nil => rfl
  | cons x a ih => rw [blow_cons, ih]; rfl
theorem D_blow (f : Nat) (a b : List Nat) : D (blow f a) (blow f b) = (f : Int) * D a b := Int.le_antisymm (blow_le f a b) (blow_ge f a b)
end Ed
end Mp
end

section
set_option maxRecDepth 100000
/-! The least over all parts of the two words. -/
namespace Mp
namespace Ed
open Lev
noncomputable def prices : List Nat → List Nat → Int
  | x :: k, y :: u => cost x y + prices k u
  | _, _ => 0
noncomputable def price (a b k u : List Nat) : Int := 2 * ((a.length : Int) + b.length - 2 * (k.length : Int)) + prices k u
theorem prices_c (x y : Nat) (k u : List Nat) : prices (x :: k) (y :: u) = cost x y + prices k u := rfl
theorem price_n (a b : List Nat) : price a b [] [] = 2 * ((a.length : Int) + b.length) := by
  show 2 * ((a.length : Int) + b.length - 2 * ((0 : Nat) : Int)) + 0 = _
  omega
theorem al_skip (w : List Nat) {a b : List Nat} {p : Int} (h : Al a b p) : Al a (w ++ b) (2 * (w.length : Int) + p) := by
  have := (al_nil w).app h
  rw [List.nil_append] at this
  exact this
theorem cons_sub {y : Nat} {u b : List Nat} (h : (y :: u).Sublist b) : ∃ s v, b = s ++ y :: v ∧ u.Sublist v := by
  obtain ⟨r1, r2, rfl, hy, h2⟩ := List.cons_sublist_iff.mp h
  obtain ⟨s, t, rfl⟩ := List.append_of_mem hy
  exact ⟨s, t ++ r2, by simp, h2.trans (List.sublist_append_right t r2)⟩
theorem sub_al {k a : List Nat} (hk : k.Sublist a) : ∀ {u b : List Nat}, u.Sublist b → k.length = u.length → Al a b (price a b k u) := by
  induction hk with
  | slnil =>
    intro u b hu hl
    have : u = [] := List.length_eq_zero_iff.mp (by simpa using hl.symm)
    subst this
    rw [price_n, List.length_nil, show (((0 : Nat) : Int) + (b.length : Int)) = (b.length : Int) from Int.zero_add _]
    exact al_nil b
  | @cons k a x _ ih =>
    intro u b hu hl
    have := (ih hu hl).left x
    unfold price at *
    rw [show (2 * (((x :: a).length : Int) + b.length - 2 * (k.length : Int)) + prices k u) = 2 * ((a.length : Int) + b.length - 2 * (k.length : Int)) + prices k u + 2 by simp only [List.length_cons]; omega]
    exact this
  | @cons_cons k a x _ ih =>
    intro u b hu hl
    cases u with
    | nil => simp at hl
    | cons y u =>
      obtain ⟨s, v, rfl, h⟩ := cons_sub hu
      have := al_skip s ((ih h (by simpa using hl)).both x y)
      unfold price at *
      rw [prices_c]
      rw [show (2 * (((x :: a).length : Int) + ((s ++ y :: v).length : Nat) - 2 * ((x :: k).length : Int)) + (cost x y + prices k u)) = 2 * (s.length : Int) + (2 * ((a.length : Int) + v.length - 2 * (k.length : Int)) + prices k u + cost x y) by
        simp only [List.length_cons, List.length_append]; omega]
      exact this
theorem al_sub {a b : List Nat} {p : Int} (h : Al a b p) : ∃ k u, k.Sublist a ∧ u.Sublist b ∧ k.length = u.length ∧ p = price a b k u := by
  induction h with
  | nil => exact ⟨[], [], .slnil, .slnil, rfl, rfl⟩
  | @left a b p x _ ih =>
    obtain ⟨k, u, h1, h2, h3, rfl⟩ := ih
    exact ⟨k, u, h1.cons x, h2, h3, by unfold price; simp only [List.length_cons]; omega⟩
  | @right a b p y _ ih =>
    obtain ⟨k, u, h1, h2, h3, rfl⟩ := ih
    exact ⟨k, u, h1, h2.cons y, h3, by unfold price; simp only [List.length_cons]; omega⟩
  | @both a b p x y _ ih =>
    obtain ⟨k, u, h1, h2, h3, rfl⟩ := ih
    exact ⟨x :: k, y :: u, h1.cons_cons x, h2.cons_cons y, by simp [h3], by unfold price; rw [prices_c]; simp only [List.length_cons]; omega⟩
/-- the least of a start and of the prices of pairs of parts that are as long as each other -/
noncomputable def leastU (a b k : List Nat) : List (List Nat) → Int → Int
  | [], m => m
  | u :: us, m => leastU a b k us (if k.length = u.length then (if price a b k u < m then price a b k u else m) else m)
noncomputable def leastK (a b : List Nat) (us : List (List Nat)) : List (List Nat) → Int → Int
  | [], m => m
  | k :: ks, m => leastK a b us ks (leastU a b k us m)
theorem leastU_c (a b k u : List Nat) (us : List (List Nat)) (m : Int) : leastU a b k (u :: us) m = leastU a b k us (if k.length = u.length then (if price a b k u < m then price a b k u else m) else m) := rfl
theorem leastK_c (a b : List Nat) (us : List (List Nat)) (k : List Nat) (ks : List (List Nat)) (m : Int) : leastK a b us (k :: ks) m = leastK a b us ks (leastU a b k us m) := rfl
theorem leastU_low (a b k : List Nat) : ∀ (us : List (List Nat)) (m : Int), leastU a b k us m ≤ m ∧ ∀ u ∈ us, k.length = u.length → leastU a b k us m ≤ price a b k u
  | [], m => ⟨Int.le_refl _, fun uu h => by (first | exact noS h | exact noB h | cases h)⟩
  | u :: us, m => by
    rw [leastU_c]
    obtain ⟨h1, h2⟩ := leastU_low a b k us (if k.length = u.length then (if price a b k u < m then price a b k u else m) else m)
    have hm : (if k.length = u.length then (if price a b k u < m then price a b k u else m) else m) ≤ m := by
      split
      · split <;> omega
      · omega
    refine ⟨by omega, fun v hv hl => ?_⟩
    · rcases List.mem_cons.mp hv with rfl | hv
      · rw [if_pos hl] at h1
        rw [if_pos hl]
        split at h1 <;> rename_i q <;> first | (rw [if_pos q]; omega) | (rw [if_neg q]; omega)
      · exact h2 v hv hl
theorem leastU_is (a b k : List Nat) : ∀ (us : List (List Nat)) (m : Int), leastU a b k us m = m ∨ ∃ u ∈ us, k.length = u.length ∧ leastU a b k us m = price a b k u
  | [], m => .inl rfl
  | u :: us, m => by
    rw [leastU_c]
    rcases leastU_is a b k us (if k.length = u.length then (if price a b k u < m then price a b k u else m) else m) with h | ⟨v, hv, hl, h⟩
    · rw [h]
      by_cases hl : k.length = u.length
      · rw [if_pos hl]
        by_cases q : price a b k u < m
        · rw [if_pos q]; exact .inr ⟨u, List.mem_cons_self, hl, rfl⟩
        · rw [if_neg q]; exact .inl rfl
      · rw [if_neg hl]; exact .inl rfl
    · exact .inr ⟨v, List.mem_cons_of_mem _ hv, hl, h⟩
theorem leastK_low (a b : List Nat) (us : List (List Nat)) : ∀ (ks : List (List Nat)) (m : Int), leastK a b us ks m ≤ m ∧ ∀ k ∈ ks, ∀ u ∈ us, k.length = u.length → leastK a b us ks m ≤ price a b k u
  | [], m => ⟨Int.le_refl _, fun uu h => by (first | exact noS h | exact noB h | cases h)⟩
  | k :: ks, m => by
    rw [leastK_c]
    obtain ⟨h1, h2⟩ := leastK_low a b us ks (leastU a b k us m)
    obtain ⟨h3, h4⟩ := leastU_low a b k us m
    refine ⟨by omega, fun v hv u hu hl => ?_⟩
    rcases List.mem_cons.mp hv with rfl | hv
    · have := h4 u hu hl; omega
    · exact h2 v hv u hu hl
theorem leastK_is (a b : List Nat) (us : List (List Nat)) : ∀ (ks : List (List Nat)) (m : Int), leastK a b us ks m = m ∨ ∃ k ∈ ks, ∃ u ∈ us, k.length = u.length ∧ leastK a b us ks m = price a b k u
  | [], m => .inl rfl
  | k :: ks, m => by
    rw [leastK_c]
    rcases leastK_is a b us ks (leastU a b k us m) with h | ⟨v, hv, u, hu, hl, h⟩
    · rw [h]
      rcases leastU_is a b k us m with h' | ⟨u, hu, hl, h'⟩
      · exact .inl h'
      · exact .inr ⟨k, List.mem_cons_self, u, hu, hl, h'⟩
    · exact .inr ⟨v, List.mem_cons_of_mem _ hv, u, hu, hl, h⟩
/-- lists that hold just the parts -/
noncomputable def Parts (ks : List (List Nat)) (a : List Nat) : Prop := ∀ k, k ∈ ks ↔ k.Sublist a
theorem least_is {a b : List Nat} {ks us : List (List Nat)} (hk : Parts ks a) (hu : Parts us b) : leastK a b us ks (2 * ((a.length : Int) + b.length)) = D a b := by
  have h1 := leastK_low a b us ks (2 * ((a.length : Int) + b.length))
  obtain ⟨k, u, k1, u1, hl, e⟩ := al_sub (D_al a b)
  have h2 := h1.2 k ((hk k).mpr k1) u ((hu u).mpr u1) hl
  have h3 : D a b ≤ leastK a b us ks (2 * ((a.length : Int) + b.length)) := by
    rcases leastK_is a b us ks (2 * ((a.length : Int) + b.length)) with h | ⟨k, k1, u, u1, hl, h⟩
    · have := D_le (sub_al (List.nil_sublist a) (List.nil_sublist b) rfl)
      rw [price_n] at this
      omega
    · rw [h]; exact D_le (sub_al ((hk k).mp k1) ((hu u).mp u1) hl)
  omega
end Ed
end Mp
end

section
set_option maxRecDepth 100000
/-! Law 2, pure: steps that hold of any tables. -/
namespace Mp
open PySem
open Lev
namespace L2
variable {T : Tabs} {fuel : Nat}
noncomputable def iL (l : List Nat) : PV := .list (l.map fun (n : Nat) => PV.int (n : Int))

theorem range_from {i n : Nat} (h : i + n ≤ 1000) : range3 (i : Int) ((i + n : Nat) : Int) 1 = some (idx i n) := by
  have hN : rangeN (i : Int) ((i + n : Nat) : Int) 1 = n := by
    unfold rangeN
    rw [if_pos (by decide)]
    split
    · rw [Int.ediv_one]; omega
    · omega
  have hl : rangeL (i : Int) 1 n = idx i n := by
    unfold rangeL
    rw [idx_map, List.range'_eq_map_range, List.map_map]
    apply List.map_congr_left
    intro t _
    show PV.int ((i : Int) + (t : Int) * 1) = PV.int ((i + t : Nat) : Int)
    congr 1
    omega
  have hc : (smallI (i : Int) && smallI ((i + n : Nat) : Int) && decide ((-1073741824 : Int) < 1) && decide ((1 : Int) < 1073741824) && decide ((1 : Int) ≠ 0) && decide (n ≤ lim)) = true := by
    rw [small_nat (Nat.le_trans (Nat.le_trans (Nat.le_add_right i n) h) (by decide)), small_nat (Nat.le_trans h (by decide)), decide_eq_true (show n ≤ lim from Nat.le_trans (Nat.le_trans (Nat.le_add_left n i) h) (by decide))]; rfl
  unfold range3
  rw [hN, if_pos hc, hl]
theorem ev_meth1 {ρ : Rho} {o a : E} {m : Nat} {x y r : PV} (h : evalE T ρ o = some x) (h' : evalE T ρ a = some y) (hr : T.meth m x [y] = some r) : evalE T ρ (.meth o m (.cons a .nil)) = some r := by
  rw [vMeth, h, Option.bind_some, wOne h']; exact hr
theorem ev_meth0 {ρ : Rho} {o : E} {m : Nat} {x r : PV} (h : evalE T ρ o = some x) (hr : T.meth m x [] = some r) : evalE T ρ (.meth o m .nil) = some r := by
  rw [vMeth, h]; exact hr
theorem ev_attr {ρ : Rho} {o : E} {a : Nat} {x r : PV} (h : evalE T ρ o = some x) (hr : T.attr a x = some r) : evalE T ρ (.attr o a) = some r := by
  rw [vAttr, h]; exact hr
theorem ev_tup3 {ρ : Rho} {a b c : E} {x y z : PV} (h : evalE T ρ a = some x) (h' : evalE T ρ b = some y) (h'' : evalE T ρ c = some z) : evalE T ρ (.tup (.cons a (.cons b (.cons c .nil)))) = some (.tup [x, y, z]) := by
  rw [vTup, wThree h h' h'']; rfl
theorem st_app {σ : Sig} {x : Nat} {e : E} {v : PV} {l : List PV} (hl : getOwn σ x = some l) (h : evalE T (frzEnv σ) e = some v) (hs : l.length < lim) : execS T fuel σ (.app .frz x e) = some (σ.set x (some (.own (l ++ [v]))), .next) := by
  show (getOwn σ x).bind _ = _
  rw [hl, Option.bind_some]
  show (evalE T (frzEnv σ) e).bind _ = _
  rw [h, Option.bind_some, if_pos hs]
theorem for_r2 {σ : Sig} {a e : E} {i n : Nat} (ha : evalE T (allEnv σ) a = some (.int (i : Int))) (h : evalE T (allEnv σ) e = some (.int ((i + n : Nat) : Int))) (hn : i + n ≤ 1000) : evalFor T σ (.range2 a e) = some (idx i n) := by
  show (evalE T (allEnv σ) a).bind _ = _
  rw [ha, Option.bind_some, h, Option.bind_some]
  dsimp only
  rw [range_from hn]
noncomputable def lvE (v : Nat) : E := .meth (.var v) 3 (.cons (.var 4) .nil)
noncomputable def witB (op : Cm) : Ss := (.cons (.ite (.cmp op (lvE 0) (lvE 1)) (.cons (.app .frz 3 (.tup (.cons (.var 4) (.cons (lvE 0) (.cons (lvE 1) .nil))))) .nil) .nil) .nil)
noncomputable def row3 (fa fb : Nat → Int) (t : Nat) : PV := .tup [.int (t : Int), .int (fa t), .int (fb t)]
theorem wit_run {op : Cm} {P : Int → Int → Bool} (hop : ∀ x y : Int, cmpop op (.int x) (.int y) = some (P x y)) {A B : PV} {fa fb : Nat → Int} {N : Nat} (hA : ∀ t, 1 ≤ t → t ≤ N → T.meth 3 A [.int (t : Int)] = some (.int (fa t)))
    (hB : ∀ t, 1 ≤ t → t ≤ N → T.meth 3 B [.int (t : Int)] = some (.int (fb t))) (hN : N ≤ 100) {n : Option Sl} : ∀ (k i : Nat) (l : List PV) (ts : Option Sl), 1 ≤ i → i + k = N + 1 → l.length < i →
    ∃ ts', forL (fun σ y => (bindS σ (.v 4) y).bind fun σ' => execSs T fuel σ' (witB op)) (idx i k) [some (.frz A), some (.frz B), n, some (.own l), ts] =
      some ([some (.frz A), some (.frz B), n, some (.own (l ++ ((List.range' i k).filter fun t => P (fa t) (fb t)).map (row3 fa fb))), ts'], .next)
  | 0, i, l, ts, _, _, _ => ⟨ts, by rw [show List.range' i 0 = [] from rfl, List.filter_nil, List.map_nil, List.append_nil]; rfl⟩
  | k + 1, i, l, ts, hi, hk, hl => by
    have a1 := hA i hi (by omega)
    have b1 := hB i hi (by omega)
    rw [Lev.idx_s, fCons]
    have hb : bindS [some (.frz A), some (.frz B), n, some (.own l), ts] (.v 4) (.int (i : Int)) = some [some (.frz A), some (.frz B), n, some (.own l), fi (i : Int)] := rfl
    rw [hb, Option.bind_some]
    have t1 : evalE T (allEnv [some (.frz A), some (.frz B), n, some (.own l), fi (i : Int)]) (.cmp op (lvE 0) (lvE 1)) = some (.bool (P (fa i) (fb i))) := ev_cmp (ev_meth1 (ev_var rfl) (ev_var rfl) a1) (ev_meth1 (ev_var rfl) (ev_var rfl) b1) (hop _ _)
    rw [List.range'_succ, List.filter_cons]
    by_cases h : P (fa i) (fb i) = true
    · rw [h] at t1
      rw [if_pos h, List.map_cons]
      have st : execSs T fuel [some (.frz A), some (.frz B), n, some (.own l), fi (i : Int)] (witB op) = some ([some (.frz A), some (.frz B), n, some (.own (l ++ [row3 fa fb i])), fi (i : Int)], .next) :=
        ss_next (st_ift t1 rfl (ss_next (st_app rfl (ev_tup3 (ev_var rfl) (ev_meth1 (ev_var rfl) (ev_var rfl) a1) (ev_meth1 (ev_var rfl) (ev_var rfl) b1)) (Nat.lt_of_lt_of_le hl (Nat.le_trans (show i ≤ 101 by omega) (by decide)))) ss_end)) ss_end
      rw [st, Option.bind_some]
      dsimp only
      obtain ⟨ts', ih⟩ := wit_run hop hA hB hN (n := n) k (i + 1) (l ++ [row3 fa fb i]) (fi (i : Int)) (by omega) (by omega) (by simp; omega)
      exact ⟨ts', by rw [ih, List.append_assoc]; rfl⟩
    · rw [if_neg h]
      rw [Bool.not_eq_true] at h
      rw [h] at t1
      have st : execSs T fuel [some (.frz A), some (.frz B), n, some (.own l), fi (i : Int)] (witB op) = some ([some (.frz A), some (.frz B), n, some (.own l), fi (i : Int)], .next) := ss_next (st_iff t1 rfl ss_end) ss_end
      rw [st, Option.bind_some]
      dsimp only
      exact wit_run hop hA hB hN (n := n) k (i + 1) l (fi (i : Int)) (by omega) (by omega) (by omega)
noncomputable def witF (op : Cm) : Ss := (.cons (.asg .frz (.v 2) (.bin .add (.call 2 (.cons (.meth (.var 0) 2 .nil) (.cons (.meth (.var 1) 2 .nil) .nil))) (.cst (.int 1))))
 (.cons (.asg .new (.v 3) (.list .nil))
 (.cons (.for (.v 4) (.range2 (.cst (.int 1)) (.bin .add (.var 2) (.cst (.int 1)))) (witB op))
 (.cons (.ret (.var 3)) .nil))))
theorem wit_ok {op : Cm} {P : Int → Int → Bool} (hop : ∀ x y : Int, cmpop op (.int x) (.int y) = some (P x y)) {A B : PV} {fa fb : Nat → Int} {N : Nat} {la lb : Int} (hmax : ∀ a b : Int, T.call 2 [.int a, .int b] = some (.int (if b > a then b else a)))
    (h1 : T.meth 2 A [] = some (.int la)) (h2 : T.meth 2 B [] = some (.int lb)) (hNe : (if lb > la then lb else la) + 1 = (N : Int)) (hA : ∀ t, 1 ≤ t → t ≤ N → T.meth 3 A [.int (t : Int)] = some (.int (fa t)))
    (hB : ∀ t, 1 ≤ t → t ≤ N → T.meth 3 B [.int (t : Int)] = some (.int (fb t))) (hN : N ≤ 100) : callF T fuel 5 (witF op) [A, B] = some (.list (((List.range' 1 N).filter fun t => P (fa t) (fb t)).map (row3 fa fb))) := by
  obtain ⟨ts', e⟩ := wit_run (fuel := fuel) hop hA hB hN (n := fi (N : Int)) N 1 [] none (Nat.le_refl _) (by omega) (by simp)
  have hbin : binop .add (.int (if lb > la then lb else la)) (.int 1) = some (.int (N : Int)) := by
    show some (PV.int ((if lb > la then lb else la) + 1)) = _
    rw [hNe]
  have key : execSs T fuel [some (.frz A), some (.frz B), none, none, none] (witF op) = some ([some (.frz A), some (.frz B), fi (N : Int), some (.own (((List.range' 1 N).filter fun t => P (fa t) (fb t)).map (row3 fa fb))), ts'], .ret (.list (((List.range' 1 N).filter fun t => P (fa t) (fb t)).map (row3 fa fb)))) := by
    refine ss_next (st_frz (ev_bin (ev_call2 (ev_meth0 (ev_var rfl) h1) (ev_meth0 (ev_var rfl) h2) (hmax la lb)) ev_cst hbin) (by decide : 2 < 5)) ?_
    refine ss_next (st_new (l := []) rfl rfl rfl (Nat.zero_le _) (by decide : 3 < 5)) ?_
    refine ss_next (st_for (for_r2 (i := 1) (n := N) ev_cst (ev_bin (ev_var rfl) ev_cst ?_) (by omega)) e) ?_
    · show some (PV.int ((N : Int) + 1)) = some (PV.int ((1 + N : Nat) : Int))
      congr 2; omega
    · exact ss_stop (st_ret (ev_var rfl)) (by intro z; (first | exact noS z | exact noB z | cases z))
  unfold callF
  show (execSs T fuel [some (.frz A), some (.frz B), none, none, none] (witF op)).bind _ = _
  rw [key]; rfl
theorem wit_less : b_not_less_witness = witF .ge := rfl
theorem st_setsc {σ : Sig} {x : Nat} {i e : E} {v : PV} {l l' : List PV} {j : Int} (h : evalE T (allEnv σ) e = some v) (hv : scalar v = true) (hl : getOwn σ x = some l) (hi : evalE T (allEnv σ) i = some (.int j)) (hs : setAt l j v = some l') :
    execS T fuel σ (.setI .sc x i e) = some (σ.set x (some (.own l')), .next) := by
  show ((evalE T (allEnv σ) e).bind fun x => if scalar x then some x else none).bind _ = _
  rw [h]
  show (if scalar v then some v else none).bind _ = _
  rw [if_pos hv, Option.bind_some, hl, Option.bind_some, hi, Option.bind_some]
  show (setAt l j v).map _ = _
  rw [hs]; rfl
theorem compL_map {f : PV → PV} {g : PV → Option (Option PV)} : ∀ {xs : List PV}, (∀ x ∈ xs, g x = some (some (f x))) → compL g xs = some (xs.map f)
  | [], _ => rfl
  | x :: xs, h => by
    rw [cCons, h x List.mem_cons_self, Option.bind_some, compL_map fun y hy => h y (List.mem_cons_of_mem _ hy)]; rfl
theorem compL_filter {f : PV → PV} {q : PV → Bool} {g : PV → Option (Option PV)} : ∀ {xs : List PV}, (∀ x ∈ xs, g x = some (if q x then some (f x) else none)) → compL g xs = some ((xs.filter q).map f)
  | [], _ => rfl
  | x :: xs, h => by
    rw [cCons, h x List.mem_cons_self, Option.bind_some, compL_filter fun y hy => h y (List.mem_cons_of_mem _ hy), List.filter_cons]
    cases q x <;> rfl
theorem ev_comp {ρ : Rho} {e : E} {t : Tg} {it : It} {xs : List PV} {f : PV → PV} (h : evalIt T ρ it = some xs) (hx : ∀ x ∈ xs, ∃ ρ', bindT ρ t x = some ρ' ∧ evalE T ρ' e = some (f x)) : evalE T ρ (.comp e t it (.cst (.bool true))) = some (.list (xs.map f)) := by
  rw [vComp, h, Option.bind_some, compL_map (f := f) fun x hm => ?_]
  · rfl
  · obtain ⟨ρ', h1, h2⟩ := hx x hm
    rw [h1, Option.bind_some, vCst, Option.bind_some]
    show (evalE T ρ' e).map some = _
    rw [h2]; rfl
theorem ev_compf {ρ : Rho} {e c : E} {t : Tg} {it : It} {xs : List PV} {f : PV → PV} {q : PV → Bool} (h : evalIt T ρ it = some xs) (hx : ∀ x ∈ xs, ∃ ρ', bindT ρ t x = some ρ' ∧ evalE T ρ' c = some (.bool (q x)) ∧ evalE T ρ' e = some (f x)) : evalE T ρ (.comp e t it c) = some (.list ((xs.filter q).map f)) := by
  rw [vComp, h, Option.bind_some, compL_filter (f := f) (q := q) fun x hm => ?_]
  · rfl
  · obtain ⟨ρ', h1, h2, h3⟩ := hx x hm
    rw [h1, Option.bind_some, h2, Option.bind_some]
    show (if q x then (evalE T ρ' e).map some else some none) = _
    rw [h3]
    cases q x <;> rfl
theorem fmod_nat (a b : Nat) : (a : Int).fmod (b : Int) = ((a % b : Nat) : Int) := by
  rw [Int.fmod_eq_emod_of_nonneg _ (by omega)]; rfl
theorem fdiv_nat (a b : Nat) : (a : Int).fdiv (b : Int) = ((a / b : Nat) : Int) := by
  rw [Int.fdiv_eq_ediv_of_nonneg _ (by omega)]; rfl
theorem mod_nat {a b : Nat} (hb : b ≠ 0) : binop .mod (.int (a : Int)) (.int (b : Int)) = some (.int ((a % b : Nat) : Int)) := by
  unfold binop
  dsimp only
  rw [if_neg (by omega), fmod_nat]
theorem div_nat {a b : Nat} (hb : b ≠ 0) (hb' : b < 1073741824) : binop .div (.int (a : Int)) (.int (b : Int)) = some (.int ((a / b : Nat) : Int)) := by
  unfold binop
  dsimp only
  rw [if_neg (by simp only [Bool.or_eq_true, decide_eq_true_eq, not_or]; omega), fdiv_nat]
theorem filterMap_range {α : Type} : ∀ l : List α, (List.range l.length).filterMap (l[·]?) = l
  | [] => rfl
  | x :: xs => by
    rw [List.length_cons, List.range_succ_eq_map, List.filterMap_cons]
    simp only [List.getElem?_cons_zero, List.filterMap_map]
    congr 1
    have := filterMap_range xs
    exact this
theorem fm_congr {α β : Type} {f g : α → Option β} : ∀ {l : List α}, (∀ x ∈ l, f x = g x) → l.filterMap f = l.filterMap g
  | [], _ => rfl
  | x :: l, h => by
    rw [List.filterMap_cons, List.filterMap_cons, h x List.mem_cons_self, fm_congr fun y hy => h y (List.mem_cons_of_mem _ hy)]
theorem pick_rev {α : Type} (l : List α) : pick l none none (some (-1)) = l.reverse := by
  have hb : sliceBounds none none (some (-1)) l.length = ((l.length : Int) - 1, -1, -1) := rfl
  have hr : sliceRange ((l.length : Int) - 1) (-1) (-1) = (List.range l.length).map fun k => l.length - 1 - k := by
    unfold sliceRange
    have hc : (if (-1 : Int) > 0 then (if (l.length : Int) - 1 < -1 then (-1 - ((l.length : Int) - 1) + -1 - 1) / -1 else 0) else (if (l.length : Int) - 1 > -1 then ((l.length : Int) - 1 - -1 - -1 - 1) / (- -1) else 0)).toNat = l.length := by
      rw [if_neg (by decide)]
      split
      · have : (- -1 : Int) = 1 := rfl
        rw [this, Int.ediv_one]; omega
      · omega
    dsimp only
    rw [hc]
    apply List.map_congr_left
    intro k hk
    have := List.mem_range.mp hk
    omega
  unfold pick
  rw [hb]
  dsimp only
  rw [hr, List.filterMap_map]
  have h1 : ∀ k ∈ List.range l.length, ((fun i : Nat => l[i]?) ∘ fun k => l.length - 1 - k) k = l.reverse[k]? := fun k hk => by
    have hk := List.mem_range.mp hk
    show l[l.length - 1 - k]? = _
    rw [List.getElem?_reverse hk]
  rw [fm_congr h1]
  have := filterMap_range l.reverse
  rw [List.length_reverse] at this
  exact this
theorem slice_step {i : Int} (e : part (.int i) = some (some i)) (h0 : i ≠ 0) (x : List PV) (h : x.length ≤ lim) : slice (.list x) .none .none (.int i) = some (.list (pick x none none (some i))) := by
  show (part (.int i)).bind _ = _
  rw [e]
  show (if (some i : Option Int) = some 0 then none else if x.length ≤ lim then some (PV.list (pick x none none (some i))) else none) = _
  rw [if_neg (by intro q; (first | exact noS q | exact noB q | cases q); exact h0 rfl), if_pos h]
theorem ev_neg {ρ : Rho} {a : E} {i : Int} (h : evalE T ρ a = some (.int i)) : evalE T ρ (.neg a) = some (.int (-i)) := by
  show (evalE T ρ a).bind _ = _
  rw [h]; rfl
theorem ev_abs {ρ : Rho} : evalE T ρ .abs = some .none := rfl
theorem st_frzS {σ : Sig} {x : Nat} {l : List PV} (h : σ[x]? = some (some (.own l))) : execS T fuel σ (.frz x) = some (σ.set x (some (.frz (.list l))), .next) := by
  show (getOwn σ x).map _ = _
  rw [show getOwn σ x = some l from by unfold getOwn; rw [h]]
  rfl
theorem ev_call3 {T : Tabs} {ρ : Rho} {f : Nat} {a b c : E} {x y z r : PV} (h : evalE T ρ a = some x) (h' : evalE T ρ b = some y) (h'' : evalE T ρ c = some z) (hr : T.call f [x, y, z] = some r) : evalE T ρ (.call f (.cons a (.cons b (.cons c .nil)))) = some r := by
  rw [vCall, wThree h h' h'']; exact hr
theorem ret_ne (v : PV) : Fl.ret v ≠ .next := fun z => by (first | exact noS z | exact noB z | cases z)
theorem callF_of {T : Tabs} {fuel n : Nat} {b : Ss} {xs : List PV} {σ : Sig} {v : PV} (h : execSs T fuel (xs.map (fun x => some (Sl.frz x)) ++ List.replicate (n - xs.length) none) b = some (σ, .ret v)) : callF T fuel n b xs = some v := by
  unfold callF
  rw [h]; rfl
theorem eq_int {x y : Int} : cmpop .eq (.int x) (.int y) = some (decide (x = y)) := by
  show some (x == y) = _
  congr 1
theorem ne_int_same {x : Int} : cmpop .ne (.int x) (.int x) = some false := by
  show some (!(x == x)) = _
  simp
theorem small_int {i : Int} (h : i.natAbs ≤ 100000) : smallI i = true := by
  unfold smallI; simp only [Bool.and_eq_true, decide_eq_true_eq]; omega
theorem add_str {l r : List Nat} (h : l.length ≤ 1000) (hr : r.length ≤ 1000) : binop .add (.str l) (.str r) = some (.str (l ++ r)) := by
  show (if l.length + r.length ≤ lim then some (PV.str (l ++ r)) else none) = _
  rw [if_pos (Nat.le_trans (Nat.add_le_add h hr) (by decide))]
theorem mul_nat {a b : Nat} (ha : a ≤ 1000) (hb : b ≤ 1000) : binop .mul (.int (a : Int)) (.int (b : Int)) = some (.int ((a * b : Nat) : Int)) := by
  show (if smallI (a : Int) && smallI (b : Int) then some (PV.int ((a : Int) * (b : Int))) else none) = _
  rw [small_nat (Nat.le_trans ha (by decide)), small_nat (Nat.le_trans hb (by decide))]
  show some (PV.int ((a : Int) * (b : Int))) = _
  rw [Int.natCast_mul]
theorem add_nat {a b : Nat} : binop .add (.int (a : Int)) (.int (b : Int)) = some (.int ((a + b : Nat) : Int)) := by
  show some (PV.int ((a : Int) + (b : Int))) = _
  rw [Int.natCast_add]
theorem eqvs_self : ∀ {l : List PV}, (∀ x ∈ l, eqv x x = true) → eqvs l l = true
  | [], _ => rfl
  | x :: l, h => by
    show (eqv x x && eqvs l l) = true
    rw [h x List.mem_cons_self, eqvs_self fun y hy => h y (List.mem_cons_of_mem _ hy)]; rfl
theorem int_self (x : Int) : eqv (.int x) (.int x) = true := beq_self_eq_true x
theorem ge_op (x y : Int) : cmpop .ge (.int x) (.int y) = some (decide (y ≤ x)) := rfl
end L2
end Mp
end

section
set_option maxRecDepth 100000
/-! Law 2, pure: the words and their leads. -/
namespace Mp
open PySem
open Lev
namespace L2
/-- the four signs as they are typed -/
noncomputable def sgn : Nat → Nat
  | 0 => 32 | 1 => 9 | 2 => 107 | _ => 75
noncomputable def tx (w : List Nat) : List Nat := w.map sgn
noncomputable def grid (m : Nat) : Nat → List (List Nat)
  | 0 => [[]]
  | k + 1 => (List.range m).flatMap fun x => (grid m k).map (x :: ·)
noncomputable def words : List (List Nat) := (List.range 5).flatMap (grid 4)
noncomputable def leadGo (acc : List Nat) (cur : Nat) : List Nat → List Nat × Nat
  | [] => (acc, cur)
  | 0 :: w => leadGo acc (cur + 1) w
  | 1 :: w => leadGo (acc ++ [cur]) 0 w
  | _ :: _ => (acc, cur)
noncomputable abbrev Lead := List Nat × Nat
noncomputable def leadOf (w : List Nat) : Lead := leadGo [] 0 w
noncomputable def leads : List Lead := ((List.range 5).flatMap (grid 2)).map leadOf
theorem grid_mem {m : Nat} : ∀ {k : Nat} {l : List Nat}, l.length = k → (∀ r ∈ l, r < m) → l ∈ grid m k
  | 0, [], _, _ => List.mem_cons_self
  | k + 1, r :: l, h, hr => by
    show _ ∈ (List.range m).flatMap fun x => (grid m k).map (x :: ·)
    rw [List.mem_flatMap]
    exact ⟨r, List.mem_range.mpr (hr r List.mem_cons_self), List.mem_map.mpr ⟨l, grid_mem (by simpa using h) fun x hx => hr x (List.mem_cons_of_mem _ hx), rfl⟩⟩
theorem word_mem {w : List Nat} (h : w.length ≤ 4) (hr : ∀ x ∈ w, x < 4) : w ∈ words := by
  unfold words
  rw [List.mem_flatMap]
  exact ⟨w.length, List.mem_range.mpr (by omega), grid_mem rfl hr⟩
noncomputable def topL (l : List Nat) : Nat := l.foldl max 0
noncomputable def longest (l : Lead) : Nat := max (topL l.1) l.2
/-- the counts of the runs, each f times as long, with f - 1 empty ones more for each tab -/
noncomputable def cnts (f : Nat) (l : Lead) : List Nat := if l.1.isEmpty then [] else (List.range (f * topL l.1 + 1)).map fun r => (l.1.map (f * ·)).count r + (if r = 0 then (f - 1) * l.1.length else 0)
noncomputable def normP (f : Nat) (l : Lead) : PV := .tup [.tup ((cnts f l).map fun (n : Nat) => PV.int (n : Int)), .int ((f * l.2 : Nat) : Int)]
noncomputable def instP (f : Nat) (l : Lead) (raw : List Nat) : PV := .inst [.str raw, .int ((f * (l.1.sum + l.1.length + l.2) : Nat) : Int), .int ((f * l.1.length : Nat) : Int), normP f l, .bool (l.1.sum == 0)]
noncomputable def leadP (l : Lead) : PV := .tup [iL l.1, .int (l.2 : Int)]
noncomputable def leadB (w : List Nat) : Bool := leads.contains (leadOf w)
theorem lead_mem : ∀ w ∈ words, leadOf w ∈ leads := by
  have h : words.all leadB = true := by decide +kernel
  intro w hw
  have := List.all_eq_true.mp h w hw
  unfold leadB at this
  exact List.contains_iff_mem.mp this
theorem lead_all (n : Nat) : words.all (fun w => isIt (callF (tabs (n + 2)) fuel b_law_lead_vars.length b_law_lead [iL w]) (leadP (leadOf w))) = true := by kernel_rfl
noncomputable def initB (n f : Nat) (w : List Nat) : Bool := isIt (mkInst (tabs (n + 2)) fuel b_init_vars.length b_init (.str (Ed.blow f (tx w)))) (instP f (leadOf w) (Ed.blow f (tx w)))
theorem init1 (n : Nat) : words.all (initB n 1) = true := by kernel_rfl
theorem init2 (n : Nat) : words.all (initB n 2) = true := by kernel_rfl
theorem init3 (n : Nat) : words.all (initB n 3) = true := by kernel_rfl
end L2
end Mp
end

section
set_option maxRecDepth 100000
/-! Law 2, pure: the parts of a word. -/
namespace Mp
open PySem
open Lev
namespace L2
/-- the parts of a word, in the order that the program tells them -/
noncomputable def parts : List Nat → List (List Nat)
  | [] => [[]]
  | x :: w => (parts w).flatMap fun k => [k, x :: k]
theorem parts_c (x : Nat) (w : List Nat) : parts (x :: w) = (parts w).flatMap fun k => [k, x :: k] := rfl
theorem parts_sub : ∀ (w k : List Nat), k ∈ parts w ↔ k.Sublist w
  | [], k => by
    rw [show parts [] = [[]] from rfl, List.mem_singleton, List.sublist_nil]
  | x :: w, k => by
    rw [parts_c, List.mem_flatMap, List.sublist_cons_iff]
    constructor
    · rintro ⟨k', h, h'⟩
      have h := (parts_sub w k').mp h
      simp only [List.mem_cons, List.not_mem_nil, or_false] at h'
      rcases h' with rfl | rfl
      · exact .inl h
      · exact .inr ⟨k', rfl, h⟩
    · rintro (h | ⟨r, rfl, h⟩)
      · exact ⟨k, (parts_sub w k).mpr h, by simp⟩
      · exact ⟨r, (parts_sub w r).mpr h, by simp⟩
theorem parts_map (f : Nat → Nat) : ∀ w : List Nat, parts (w.map f) = (parts w).map (List.map f)
  | [] => rfl
  | x :: w => by
    rw [List.map_cons, parts_c, parts_c, parts_map f w, List.flatMap_map, List.map_flatMap]
    rfl
theorem parts_call (n : Nat) : ∀ w : List Nat, w.length ≤ 4 → callF (tabs (n + 1)) fuel b_law_parts_vars.length b_law_parts [iL w] = some (.list ((parts w).map iL))
  | [], _ => by kernel_rfl
  | [a], _ => by
    have h : ∀ a : Int, callF (tabs (n + 1)) fuel b_law_parts_vars.length b_law_parts [.list [.int a]] = some (.list [.list [], .list [.int a]]) := fun a => by kernel_rfl
    exact h a
  | [a, b], _ => by
    have h : ∀ a b : Int, callF (tabs (n + 1)) fuel b_law_parts_vars.length b_law_parts [.list [.int a, .int b]] = some (.list [.list [], .list [.int a], .list [.int b], .list [.int a, .int b]]) := fun a b => by kernel_rfl
    exact h a b
  | [a, b, c], _ => by
    have h : ∀ a b c : Int, callF (tabs (n + 1)) fuel b_law_parts_vars.length b_law_parts [.list [.int a, .int b, .int c]] = some (.list [.list [], .list [.int a], .list [.int b], .list [.int a, .int b], .list [.int c], .list [.int a, .int c], .list [.int b, .int c], .list [.int a, .int b, .int c]]) := fun a b c => by kernel_rfl
    exact h a b c
  | [a, b, c, d], _ => by
    have h : ∀ a b c d : Int, callF (tabs (n + 1)) fuel b_law_parts_vars.length b_law_parts [.list [.int a, .int b, .int c, .int d]] = some (.list [.list [], .list [.int a], .list [.int b], .list [.int a, .int b], .list [.int c], .list [.int a, .int c], .list [.int b, .int c], .list [.int a, .int b, .int c],
      .list [.int d], .list [.int a, .int d], .list [.int b, .int d], .list [.int a, .int b, .int d], .list [.int c, .int d], .list [.int a, .int c, .int d], .list [.int b, .int c, .int d], .list [.int a, .int b, .int c, .int d]]) := fun a b c d => by kernel_rfl
    exact h a b c d
  | _ :: _ :: _ :: _ :: _ :: _, h => by simp at h
end L2
end Mp
end

section
set_option maxRecDepth 100000
/-! Law 2, pure: the least price, as the program reckons it. -/
namespace Mp
open PySem
open Lev
namespace L2
variable {T : Tabs} {fuel : Nat}

theorem ev_ite {ρ : Rho} {t a b : E} {x : PV} {c : Bool} {r : Option PV} (h : evalE T ρ t = some x) (hc : truthy x = some c) (hr : (if c then evalE T ρ a else evalE T ρ b) = r) : evalE T ρ (.ite t a b) = r := by
  rw [vIte, h, Option.bind_some, hc, Option.bind_some]; exact hr
theorem st_aug {σ : Sig} {x : Nat} {o : Op} {e : E} {a b v : PV} (ha : ((allEnv σ)[x]?).join = some a) (h : evalE T (allEnv σ) e = some b) (hv : binop o a b = some v) (h1 : scalar a = true) (h2 : scalar v = true) :
    execS T fuel σ (.aug x o e) = some (σ.set x (some (.frz v)), .next) := by
  show (((allEnv σ)[x]?).join).bind _ = _
  rw [ha, Option.bind_some, h, Option.bind_some, hv, Option.bind_some, h1, h2]; rfl
theorem cost_sgn : ∀ x < 4, ∀ y < 4, cost (sgn x) (sgn y) = if x = y then 0 else if x + y = 5 then 1 else 2 := by decide

/-- the names of _law_least -/
noncomputable def sl (one other : List Nat) (least : Int) (laid kept under price a b : Option Sl) : Sig := [some (.frz (iL one)), some (.frz (iL other)), fi least, laid, kept, under, price, a, b]
noncomputable def zB : Ss := (.cons (.ite (.cmp .ne (.var 7) (.var 8)) (.cons (.aug 6 .add (.ite (.cmp .eq (.bin .add (.var 7) (.var 8)) (.cst (.int 5))) (.cst (.int 1)) (.cst (.int 2))))
 .nil) .nil)
 .nil)
theorem ne_nat {x y : Nat} : cmpop .ne (.int (x : Int)) (.int (y : Int)) = some (decide (x ≠ y)) := by
  show some (!((x : Int) == (y : Int))) = _
  congr 1
  by_cases h : x = y
  · subst h; simp
  · have h' : ((x : Int) == (y : Int)) = false := beq_eq_false_iff_ne.mpr (by omega)
    rw [h', decide_eq_true h]; rfl
theorem z_step {one other : List Nat} {least p : Int} {laid kept under a b : Option Sl} {x y : Nat} (hx : x < 4) (hy : y < 4) :
    ∃ a' b' : Option Sl, ((bindS (sl one other least laid kept under (fi p) a b) (.t (.cons (.v 7) (.cons (.v 8) .nil))) (.tup [.int (x : Int), .int (y : Int)])).bind fun σ' => execSs T fuel σ' zB) =
      some (sl one other least laid kept under (fi (p + cost (sgn x) (sgn y))) a' b', .next) := by
  have hb : bindS (sl one other least laid kept under (fi p) a b) (.t (.cons (.v 7) (.cons (.v 8) .nil))) (.tup [.int (x : Int), .int (y : Int)]) = some (sl one other least laid kept under (fi p) (fi (x : Int)) (fi (y : Int))) := rfl
  refine ⟨fi (x : Int), fi (y : Int), ?_⟩
  rw [hb, Option.bind_some, cost_sgn x hx y hy]
  have t1 : evalE T (allEnv (sl one other least laid kept under (fi p) (fi (x : Int)) (fi (y : Int)))) (.cmp .ne (.var 7) (.var 8)) = some (.bool (decide (x ≠ y))) := ev_cmp (ev_var rfl) (ev_var rfl) ne_nat
  by_cases h : x = y
  · rw [decide_eq_false (by simpa using h)] at t1
    rw [if_pos h, Int.add_zero]
    exact ss_next (st_iff t1 rfl ss_end) ss_end
  · rw [decide_eq_true h] at t1
    rw [if_neg h]
    have t2 : evalE T (allEnv (sl one other least laid kept under (fi p) (fi (x : Int)) (fi (y : Int)))) (.cmp .eq (.bin .add (.var 7) (.var 8)) (.cst (.int 5))) = some (.bool (decide (x + y = 5))) := ev_cmp (ev_bin (ev_var rfl) (ev_var rfl) add_nat) ev_cst (by
      rw [eq_int]
      congr 2
      exact propext ⟨fun h => by omega, fun h => by omega⟩)
    have t3 : evalE T (allEnv (sl one other least laid kept under (fi p) (fi (x : Int)) (fi (y : Int)))) (.ite (.cmp .eq (.bin .add (.var 7) (.var 8)) (.cst (.int 5))) (.cst (.int 1)) (.cst (.int 2))) = some (.int (if x + y = 5 then 1 else 2)) := by
      refine ev_ite t2 rfl ?_
      by_cases q : x + y = 5
      · rw [decide_eq_true q, if_pos rfl, if_pos q]; exact ev_cst
      · rw [decide_eq_false q, if_neg (by simp), if_neg q]; exact ev_cst
    exact ss_next (st_ift t1 rfl (ss_next (st_aug rfl t3 rfl rfl rfl) ss_end)) ss_end
theorem z_run {one other : List Nat} {least : Int} {laid kept under : Option Sl} : ∀ (k u : List Nat) (p : Int) (a b : Option Sl), (∀ x ∈ k, x < 4) → (∀ x ∈ u, x < 4) →
    ∃ a' b' : Option Sl, forL (fun σ y => (bindS σ (.t (.cons (.v 7) (.cons (.v 8) .nil))) y).bind fun σ' => execSs T fuel σ' zB) (zipT (k.map fun (n : Nat) => PV.int (n : Int)) (u.map fun (n : Nat) => PV.int (n : Int))) (sl one other least laid kept under (fi p) a b) =
      some (sl one other least laid kept under (fi (p + Ed.prices (tx k) (tx u))) a' b', .next)
  | [], u, p, a, b, _, _ => ⟨a, b, by
    have : Ed.prices (tx []) (tx u) = 0 := by cases u <;> rfl
    rw [this, Int.add_zero]; cases u <;> rfl⟩
  | x :: k, [], p, a, b, _, _ => ⟨a, b, by
    have : Ed.prices (tx (x :: k)) (tx []) = 0 := rfl
    rw [this, Int.add_zero]; rfl⟩
  | x :: k, y :: u, p, a, b, hk, hu => by
    obtain ⟨a', b', e⟩ := z_step (T := T) (fuel := fuel) (one := one) (other := other) (least := least) (p := p) (laid := laid) (kept := kept) (under := under) (a := a) (b := b) (hk x List.mem_cons_self) (hu y List.mem_cons_self)
    obtain ⟨a'', b'', ih⟩ := z_run k u (p + cost (sgn x) (sgn y)) a' b' (fun z hz => hk z (List.mem_cons_of_mem _ hz)) fun z hz => hu z (List.mem_cons_of_mem _ hz)
    refine ⟨a'', b'', ?_⟩
    rw [List.map_cons, List.map_cons, zCons, fCons, e, Option.bind_some]
    dsimp only
    rw [ih]
    have : Ed.prices (tx (x :: k)) (tx (y :: u)) = cost (sgn x) (sgn y) + Ed.prices (tx k) (tx u) := rfl
    rw [this, Int.add_assoc]

noncomputable def lenE (v : Nat) : E := .call 0 (.cons (.var v) .nil)
noncomputable def uB : Ss := (.cons (.ite (.cmp .eq (lenE 4) (lenE 5)) (.cons (.asg .frz (.v 6) (.bin .mul (.cst (.int 2)) (.bin .sub (.bin .add (lenE 0) (lenE 1)) (.bin .mul (.cst (.int 2)) (lenE 4)))))
 (.cons (.for (.t (.cons (.v 7) (.cons (.v 8) .nil))) (.zip (.var 4) (.var 5)) zB)
 (.cons (.asg .frz (.v 2) (.call 1 (.cons (.var 2) (.cons (.var 6) .nil))))
 .nil))) .nil)
 .nil)
structure LeastT (T : Tabs) : Prop where
  len : ∀ w : List Nat, w.length ≤ 4 → T.call 0 [iL w] = some (.int (w.length : Int))
  min : ∀ a b : Int, T.call 1 [.int a, .int b] = some (.int (if b < a then b else a))
  parts : ∀ w : List Nat, w.length ≤ 4 → T.call 31 [iL w] = some (.list ((parts w).map iL))
theorem eq_nat {x y : Nat} : cmpop .eq (.int (x : Int)) (.int (y : Int)) = some (decide (x = y)) := by
  rw [eq_int]
  congr 2
  exact propext ⟨fun h => by omega, fun h => by omega⟩
theorem two_mul {i : Int} (h : i.natAbs ≤ 100000) : binop .mul (.int 2) (.int i) = some (.int (2 * i)) := by
  show (if smallI 2 && smallI i then some (PV.int (2 * i)) else none) = _
  rw [small_int h]; rfl
theorem u_step (L : LeastT T) {one other k u : List Nat} {least : Int} {laid price a b under : Option Sl} (h1 : one.length ≤ 4) (h2 : other.length ≤ 4) (h3 : k.length ≤ 4) (h4 : u.length ≤ 4) (hk : ∀ x ∈ k, x < 4) (hu : ∀ x ∈ u, x < 4) :
    ∃ price' a' b' : Option Sl, ((bindS (sl one other least laid (some (.frz (iL k))) under price a b) (.v 5) (iL u)).bind fun σ' => execSs T fuel σ' uB) =
      some (sl one other (if (tx k).length = (tx u).length then (if Ed.price (tx one) (tx other) (tx k) (tx u) < least then Ed.price (tx one) (tx other) (tx k) (tx u) else least) else least) laid (some (.frz (iL k))) (some (.frz (iL u))) price' a' b', .next) := by
  have hb : bindS (sl one other least laid (some (.frz (iL k))) under price a b) (.v 5) (iL u) = some (sl one other least laid (some (.frz (iL k))) (some (.frz (iL u))) price a b) := rfl
  rw [hb, Option.bind_some]
  have el : (tx k).length = (tx u).length ↔ k.length = u.length := by unfold tx; rw [List.length_map, List.length_map]
  have t1 : evalE T (allEnv (sl one other least laid (some (.frz (iL k))) (some (.frz (iL u))) price a b)) (.cmp .eq (lenE 4) (lenE 5)) = some (.bool (decide (k.length = u.length))) := ev_cmp (ev_call1 (ev_var rfl) (L.len k h3)) (ev_call1 (ev_var rfl) (L.len u h4)) eq_nat
  by_cases h : k.length = u.length
  · rw [decide_eq_true h] at t1
    rw [if_pos (el.mpr h)]
    obtain ⟨a', b', e⟩ := z_run (T := T) (fuel := fuel) (one := one) (other := other) (least := least) (laid := laid) (kept := some (.frz (iL k))) (under := some (.frz (iL u))) k u (2 * ((one.length : Int) + other.length - 2 * (k.length : Int))) a b hk hu
    have hp : 2 * ((one.length : Int) + other.length - 2 * (k.length : Int)) + Ed.prices (tx k) (tx u) = Ed.price (tx one) (tx other) (tx k) (tx u) := by
      unfold Ed.price tx
      rw [List.length_map, List.length_map, List.length_map]
    rw [hp] at e
    refine ⟨fi (Ed.price (tx one) (tx other) (tx k) (tx u)), a', b', ?_⟩
    refine ss_next (st_ift t1 rfl ?_) ss_end
    have m1 : binop .mul (.int 2) (.int (k.length : Int)) = some (.int (2 * (k.length : Int))) := two_mul (by omega)
    have m2 : binop .mul (.int 2) (.int ((one.length : Int) + other.length - 2 * (k.length : Int))) = some (.int (2 * ((one.length : Int) + other.length - 2 * (k.length : Int)))) := two_mul (by omega)
    refine ss_next (st_frz (ev_bin ev_cst (ev_bin (ev_bin (ev_call1 (ev_var rfl) (L.len one h1)) (ev_call1 (ev_var rfl) (L.len other h2)) rfl) (ev_bin ev_cst (ev_call1 (ev_var rfl) (L.len k h3)) m1) rfl) m2) (by decide : 6 < 9)) ?_
    have hz : evalFor T (sl one other least laid (some (.frz (iL k))) (some (.frz (iL u))) (fi (2 * ((one.length : Int) + other.length - 2 * (k.length : Int)))) a b) (.zip (.var 4) (.var 5)) = some (zipT (k.map fun (n : Nat) => PV.int (n : Int)) (u.map fun (n : Nat) => PV.int (n : Int))) := by
      rw [forZip, iZip, ev_var (x := iL k) rfl, Option.bind_some, ev_var (x := iL u) rfl, Option.bind_some]
      have lo : ∀ w : List Nat, w.length ≤ 4 → listOf (iL w) = some (w.map fun (n : Nat) => PV.int (n : Int)) := fun w hw => by
        show (if (w.map fun (n : Nat) => PV.int (n : Int)).length ≤ lim then some _ else none) = _
        rw [if_pos (by rw [List.length_map]; exact Nat.le_trans hw (by decide))]
      rw [lo k h3, Option.bind_some, lo u h4]; rfl
    refine ss_next (st_for hz e) ?_
    exact ss_next (st_frz (ev_call2 (ev_var rfl) (ev_var rfl) (L.min _ _)) (by decide : 2 < 9)) ss_end
  · rw [decide_eq_false h] at t1
    rw [if_neg fun q => h (el.mp q)]
    exact ⟨price, a, b, ss_next (st_iff t1 rfl ss_end) ss_end⟩
theorem u_run (L : LeastT T) {one other k : List Nat} {laid : Option Sl} (h1 : one.length ≤ 4) (h2 : other.length ≤ 4) (h3 : k.length ≤ 4) (hk : ∀ x ∈ k, x < 4) : ∀ (us : List (List Nat)) (least : Int) (under price a b : Option Sl), (∀ u ∈ us, u.length ≤ 4 ∧ ∀ x ∈ u, x < 4) →
    ∃ under' price' a' b' : Option Sl, forL (fun σ y => (bindS σ (.v 5) y).bind fun σ' => execSs T fuel σ' uB) (us.map iL) (sl one other least laid (some (.frz (iL k))) under price a b) =
      some (sl one other (Ed.leastU (tx one) (tx other) (tx k) (us.map tx) least) laid (some (.frz (iL k))) under' price' a' b', .next)
  | [], least, under, price, a, b, _ => ⟨under, price, a, b, rfl⟩
  | u :: us, least, under, price, a, b, hu => by
    obtain ⟨q1, q2⟩ := hu u List.mem_cons_self
    obtain ⟨p', a', b', e⟩ := u_step (fuel := fuel) L (least := least) (laid := laid) (price := price) (a := a) (b := b) (under := under) h1 h2 h3 q1 hk q2
    obtain ⟨w1, w2, w3, w4, ih⟩ := u_run L (laid := laid) h1 h2 h3 hk us _ (some (.frz (iL u))) p' a' b' fun v hv => hu v (List.mem_cons_of_mem _ hv)
    refine ⟨w1, w2, w3, w4, ?_⟩
    rw [List.map_cons, fCons, e, Option.bind_some]
    dsimp only
    exact ih
noncomputable def kB : Ss := (.cons (.for (.v 5) (.e (.var 3)) uB) .nil)
theorem k_run (L : LeastT T) {one other : List Nat} {us : List (List Nat)} (h1 : one.length ≤ 4) (h2 : other.length ≤ 4) (hu : ∀ u ∈ us, u.length ≤ 4 ∧ ∀ x ∈ u, x < 4) (hl : us.length ≤ 1000) : ∀ (ks : List (List Nat)) (least : Int) (kept under price a b : Option Sl), (∀ k ∈ ks, k.length ≤ 4 ∧ ∀ x ∈ k, x < 4) →
    ∃ kept' under' price' a' b' : Option Sl, forL (fun σ y => (bindS σ (.v 4) y).bind fun σ' => execSs T fuel σ' kB) (ks.map iL) (sl one other least (some (.frz (.list (us.map iL)))) kept under price a b) =
      some (sl one other (Ed.leastK (tx one) (tx other) (us.map tx) (ks.map tx) least) (some (.frz (.list (us.map iL)))) kept' under' price' a' b', .next)
  | [], least, kept, under, price, a, b, _ => ⟨kept, under, price, a, b, rfl⟩
  | k :: ks, least, kept, under, price, a, b, hk => by
    obtain ⟨q1, q2⟩ := hk k List.mem_cons_self
    obtain ⟨w1, w2, w3, w4, e⟩ := u_run (fuel := fuel) L (laid := some (.frz (.list (us.map iL)))) h1 h2 q1 q2 us least under price a b hu
    obtain ⟨v0, v1, v2, v3, v4, ih⟩ := k_run L h1 h2 hu hl ks (Ed.leastU (tx one) (tx other) (tx k) (us.map tx) least) (some (.frz (iL k))) w1 w2 w3 w4 fun v hv => hk v (List.mem_cons_of_mem _ hv)
    refine ⟨v0, v1, v2, v3, v4, ?_⟩
    have hb : bindS (sl one other least (some (.frz (.list (us.map iL)))) kept under price a b) (.v 4) (iL k) = some (sl one other least (some (.frz (.list (us.map iL)))) (some (.frz (iL k))) under price a b) := rfl
    have hit : evalFor T (sl one other least (some (.frz (.list (us.map iL)))) (some (.frz (iL k))) under price a b) (.e (.var 3)) = some (us.map iL) := by
      rw [forFrz (ev_var (x := .list (us.map iL)) rfl)]
      show (if (us.map iL).length ≤ lim then some (us.map iL) else none) = _
      rw [if_pos (by rw [List.length_map]; exact Nat.le_trans hl (by decide))]
    have st : execSs T fuel (sl one other least (some (.frz (.list (us.map iL)))) (some (.frz (iL k))) under price a b) kB = _ := ss_next (st_for hit e) ss_end
    rw [List.map_cons, fCons, hb, Option.bind_some, st, Option.bind_some]
    dsimp only
    exact ih
theorem parts_small {w : List Nat} (h : w.length ≤ 4) (hw : ∀ x ∈ w, x < 4) : ∀ k ∈ parts w, k.length ≤ 4 ∧ ∀ x ∈ k, x < 4 := fun k hk =>
  have s := (parts_sub w k).mp hk
  ⟨Nat.le_trans s.length_le h, fun x hx => hw x (s.subset hx)⟩
theorem parts_len : ∀ w : List Nat, (parts w).length = 2 ^ w.length
  | [] => rfl
  | x :: w => by
    have : ∀ l : List (List Nat), (l.flatMap fun k => [k, x :: k]).length = 2 * l.length := fun l => by
      induction l with
      | nil => rfl
      | cons k l ih => rw [List.flatMap_cons, List.length_append, ih]; simp only [List.length_cons, List.length_nil]; omega
    rw [parts_c, this, parts_len w, List.length_cons, Nat.pow_succ, Nat.mul_comm]
theorem least_ok (L : LeastT T) {one other : List Nat} (h1 : one.length ≤ 4) (h2 : other.length ≤ 4) (w1 : ∀ x ∈ one, x < 4) (w2 : ∀ x ∈ other, x < 4) : callF T fuel 9 b_law_least [iL one, iL other] = some (.int (Ed.D (tx one) (tx other))) := by
  have hl : ∀ {w : List Nat}, w.length ≤ 4 → (parts w).length ≤ 1000 := fun {w} h => by
    rw [parts_len]
    exact Nat.le_trans (Nat.pow_le_pow_right (by decide) h) (by decide)
  obtain ⟨v0, v1, v2, v3, v4, e⟩ := k_run (fuel := fuel) L h1 h2 (parts_small h2 w2) (hl h2) (parts one) (2 * ((one.length : Int) + other.length)) none none none none none (parts_small h1 w1)
  have hD : Ed.leastK (tx one) (tx other) ((parts other).map tx) ((parts one).map tx) (2 * ((one.length : Int) + other.length)) = Ed.D (tx one) (tx other) := by
    have p1 : Ed.Parts ((parts one).map tx) (tx one) := fun k => by
      show k ∈ (parts one).map (List.map sgn) ↔ _
      rw [← parts_map]; exact parts_sub _ k
    have p2 : Ed.Parts ((parts other).map tx) (tx other) := fun k => by
      show k ∈ (parts other).map (List.map sgn) ↔ _
      rw [← parts_map]; exact parts_sub _ k
    have := Ed.least_is p1 p2
    unfold tx at this ⊢
    rw [List.length_map, List.length_map] at this
    exact this
  rw [hD] at e
  refine callF_of (σ := sl one other (Ed.D (tx one) (tx other)) (some (.frz (.list ((parts other).map iL)))) v0 v1 v2 v3 v4) ?_
  show execSs T fuel [some (.frz (iL one)), some (.frz (iL other)), none, none, none, none, none, none, none] _ = _
  have m2 : binop .mul (.int 2) (.int ((one.length : Int) + other.length)) = some (.int (2 * ((one.length : Int) + other.length))) := two_mul (by omega)
  refine ss_next (st_frz (ev_bin ev_cst (ev_bin (ev_call1 (ev_var rfl) (L.len one h1)) (ev_call1 (ev_var rfl) (L.len other h2)) rfl) m2) (by decide : 2 < 9)) ?_
  refine ss_next (st_frz (ev_call1 (ev_var rfl) (L.parts other h2)) (by decide : 3 < 9)) ?_
  have hit : evalFor T (sl one other (2 * ((one.length : Int) + other.length)) (some (.frz (.list ((parts other).map iL)))) none none none none none) (.e (.call 31 (.cons (.var 0) .nil))) = some ((parts one).map iL) := by
    rw [forFrz (ev_call1 (ev_var (x := iL one) rfl) (L.parts one h1))]
    show (if ((parts one).map iL).length ≤ lim then some ((parts one).map iL) else none) = _
    rw [if_pos (by rw [List.length_map]; exact Nat.le_trans (hl h1) (by decide))]
  refine ss_next (st_for hit e) ?_
  exact ss_stop (st_ret (ev_var rfl)) (ret_ne _)
end L2
end Mp
end

section
set_option maxRecDepth 100000
/-! Law 2, pure: a row of symbols typed. -/
namespace Mp
open PySem
open Lev
namespace L2
variable {T : Tabs} {fuel : Nat}

theorem st_popTo {σ : Sig} {x y : Nat} {base : List PV} {v : PV} (hl : getOwn σ x = some (base ++ [v])) (h : base.length ≤ 1000) (hy : y < σ.length) (hxy : x ≠ y) : execS T fuel σ (.popTo y x) = some ((σ.set x (some (.own base))).set y (some (.frz v)), .next) := by
  show (getOwn σ x).bind _ = _
  rw [hl, Option.bind_some, List.getLast?_append]
  have hc : (decide ((base ++ [v]).length ≤ lim) && decide (y < σ.length) && decide (x ≠ y)) = true := by
    rw [decide_eq_true hy, decide_eq_true hxy, decide_eq_true]
    · rfl
    · rw [List.length_append]; exact Nat.le_trans (Nat.add_le_add h (Nat.le_refl 1)) (by decide)
  show (if decide ((base ++ [v]).length ≤ lim) && decide (y < σ.length) && decide (x ≠ y) then some ((σ.set x (some (.own (base ++ [v]).dropLast))).set y (some (.frz v)), Fl.next) else none) = _
  rw [if_pos hc, List.dropLast_concat]
theorem st_ext {σ : Sig} {x : Nat} {e : E} {l r : List PV} (hl : getOwn σ x = some l) (hf : fresh e = true) (h : evalE T (allEnv σ) e = some (.list r)) (hs : r.all scalar = true) (hn : l.length + r.length ≤ 10000) : execS T fuel σ (.ext x e) = some (σ.set x (some (.own (l ++ r))), .next) := by
  show (getOwn σ x).bind _ = _
  rw [hl, Option.bind_some, if_pos hf, h, Option.bind_some]
  dsimp only
  rw [if_pos]
  rw [hs, decide_eq_true (Nat.le_trans hn (by decide : 10000 ≤ lim))]; rfl

/-- the names of _law_type -/
noncomputable def ty (syms : PV) (f : Nat) (pile : List PV) (text : List Nat) (x : Option Sl) : Sig := [some (.frz syms), fi (f : Int), some (.own pile), some (.frz (.str text)), x]
noncomputable def tyT : E := .not (.call 12 (.cons (.sub (.var 2) (.neg (.cst (.int 1)))) .nil))
noncomputable def tyB : Ss := (.cons (.popTo 4 2)
 (.cons (.ite (.call 10 (.cons (.var 4) .nil)) (.cons (.aug 3 .add (.sub (.cst (.str [32, 9, 107, 75])) (.ite (.cmp .lt (.var 4) (.cst (.int 5))) (.bin .sub (.var 4) (.cst (.int 1))) (.bin .sub (.cst (.int 255)) (.var 4)))))
 .nil) .nil)
 (.cons (.ite (.call 11 (.cons (.var 4) .nil)) (.cons (.ext 2 (.bin .mul (.list (.cons (.bin .add (.bin .sub (.var 4) (.glob 3)) (.cst (.int 1))) .nil)) (.var 1)))
 .nil) .nil)
 .nil)))
structure TypeT (T : Tabs) : Prop where
  term : ∀ x : Int, T.call 10 [.int x] = some (.bool (decide (x < 256)))
  non : ∀ x : Int, T.call 11 [.int x] = some (.bool (decide (256 ≤ x)))
  eof : ∀ x : Int, T.call 12 [.int x] = some (.bool (x == 0))
  g3 : T.glob 3 = some (.int 256)
theorem typeT (n : Nat) : TypeT (tabs (n + 2)) := ⟨fun uu => rfl, fun uu => rfl, fun uu => rfl, rfl⟩

theorem last_at {base : List PV} {v : PV} (h : base.length ≤ 1000) : subscr (.list (base ++ [v])) (.int (-1)) = some v := by
  have h1 : inIdx (-1) (base ++ [v]).length = true := by
    unfold inIdx
    rw [List.length_append, List.length_singleton]
    simp only [Bool.and_eq_true, decide_eq_true_eq]
    exact ⟨⟨by omega, by omega⟩, Nat.le_trans (Nat.add_le_add h (Nat.le_refl 1)) (by decide)⟩
  have h2 : pidx (-1) (base ++ [v]).length = base.length := by
    unfold pidx; rw [if_pos (by decide), List.length_append, List.length_singleton]; omega
  show (if inIdx (-1) (base ++ [v]).length then (base ++ [v])[pidx (-1) (base ++ [v]).length]? else none) = _
  rw [if_pos h1, h2, List.getElem?_append_right (Nat.le_refl _), Nat.sub_self]; rfl
theorem sgn_at : ∀ k : Nat, k < 4 → subscr (.str [32, 9, 107, 75]) (.int (k : Int)) = some (.str [sgn k]) := by
  intro k hk
  match k, hk with
  | 0, _ => rfl
  | 1, _ => rfl
  | 2, _ => rfl
  | 3, _ => rfl
theorem test_ty (H : TypeT T) {syms : PV} {f : Nat} {base : List PV} {v : Int} {text : List Nat} {x : Option Sl} (h : base.length ≤ 1000) : (evalE T (allEnv (ty syms f (base ++ [.int v]) text x)) tyT).bind truthy = some (!(v == 0)) := by
  have e : evalE T (allEnv (ty syms f (base ++ [.int v]) text x)) tyT = some (.bool (!(v == 0))) := ev_not (ev_call1 (ev_sub (x := .list (base ++ [.int v])) (ev_var rfl) (ev_neg ev_cst) (last_at h)) (H.eof v)) rfl
  rw [e]; rfl
theorem term_step (H : TypeT T) {syms : PV} {f k v : Nat} {base : List PV} {text : List Nat} {x : Option Sl} (h : base.length ≤ 1000) (ht : text.length ≤ 900) (hk : k < 4) (hv : v = k + 1 ∨ v = 255 - k) :
    execSs T fuel (ty syms f (base ++ [.int (v : Int)]) text x) tyB = some (ty syms f base (text ++ [sgn k]) (fi (v : Int)), .next) := by
  refine ss_next (st_popTo (base := base) (v := .int (v : Int)) rfl h (by decide : 4 < 5) (by decide)) ?_
  have t1 : evalE T (allEnv (ty syms f base text (fi (v : Int)))) (.call 10 (.cons (.var 4) .nil)) = some (.bool true) := by
    rw [ev_call1 (ev_var (x := .int (v : Int)) rfl) (H.term v), decide_eq_true (by omega)]
  have t2 : evalE T (allEnv (ty syms f base (text ++ [sgn k]) (fi (v : Int)))) (.call 11 (.cons (.var 4) .nil)) = some (.bool false) := by
    rw [ev_call1 (ev_var (x := .int (v : Int)) rfl) (H.non v), decide_eq_false (by omega)]
  have ti : evalE T (allEnv (ty syms f base text (fi (v : Int)))) (.ite (.cmp .lt (.var 4) (.cst (.int 5))) (.bin .sub (.var 4) (.cst (.int 1))) (.bin .sub (.cst (.int 255)) (.var 4))) = some (.int (k : Int)) := by
    have tc : evalE T (allEnv (ty syms f base text (fi (v : Int)))) (.cmp .lt (.var 4) (.cst (.int 5))) = some (.bool (decide ((v : Int) < 5))) := ev_cmp (ev_var rfl) ev_cst rfl
    refine ev_ite tc rfl ?_
    by_cases q : (v : Int) < 5
    · rw [decide_eq_true q, if_pos rfl]
      exact ev_bin (ev_var rfl) ev_cst (show some (PV.int ((v : Int) - 1)) = some (PV.int (k : Int)) by rw [show (v : Int) - 1 = (k : Int) by omega])
    · rw [decide_eq_false q, if_neg (by simp)]
      exact ev_bin ev_cst (ev_var rfl) (show some (PV.int (255 - (v : Int))) = some (PV.int (k : Int)) by rw [show 255 - (v : Int) = (k : Int) by omega])
  refine ss_next (st_ift t1 rfl (ss_next (st_aug (v := .str (text ++ [sgn k])) rfl (ev_sub ev_cst ti (sgn_at k hk)) (add_str (r := [sgn k]) (Nat.le_trans ht (by decide)) (show 1 ≤ 1000 by decide)) rfl rfl) ss_end)) ?_
  exact ss_next (st_iff t2 rfl ss_end) ss_end
theorem non_step (H : TypeT T) {syms : PV} {f k : Nat} {base : List PV} {text : List Nat} {x : Option Sl} (h : base.length ≤ 1000) (hf : f ≤ 10) :
    execSs T fuel (ty syms f (base ++ [.int ((256 + k : Nat) : Int)]) text x) tyB = some (ty syms f (base ++ List.replicate f (.int ((k + 1 : Nat) : Int))) text (fi ((256 + k : Nat) : Int)), .next) := by
  refine ss_next (st_popTo (base := base) (v := .int ((256 + k : Nat) : Int)) rfl h (by decide : 4 < 5) (by decide)) ?_
  have t1 : evalE T (allEnv (ty syms f base text (fi ((256 + k : Nat) : Int)))) (.call 10 (.cons (.var 4) .nil)) = some (.bool false) := by
    rw [ev_call1 (ev_var (x := .int ((256 + k : Nat) : Int)) rfl) (H.term _), decide_eq_false (by omega)]
  have t2 : evalE T (allEnv (ty syms f base text (fi ((256 + k : Nat) : Int)))) (.call 11 (.cons (.var 4) .nil)) = some (.bool true) := by
    rw [ev_call1 (ev_var (x := .int ((256 + k : Nat) : Int)) rfl) (H.non _), decide_eq_true (by omega)]
  have tl : evalE T (allEnv (ty syms f base text (fi ((256 + k : Nat) : Int)))) (.bin .mul (.list (.cons (.bin .add (.bin .sub (.var 4) (.glob 3)) (.cst (.int 1))) .nil)) (.var 1)) = some (.list (List.replicate f (.int ((k + 1 : Nat) : Int)))) := by
    have e1 : evalE T (allEnv (ty syms f base text (fi ((256 + k : Nat) : Int)))) (.list (.cons (.bin .add (.bin .sub (.var 4) (.glob 3)) (.cst (.int 1))) .nil)) = some (.list [.int ((k + 1 : Nat) : Int)]) := by
      have s1 : binop .sub (.int ((256 + k : Nat) : Int)) (.int 256) = some (.int (k : Int)) := by
        show some (PV.int (((256 + k : Nat) : Int) - 256)) = _
        rw [show ((256 + k : Nat) : Int) - 256 = (k : Int) by omega]
      have s2 : binop .add (.int (k : Int)) (.int 1) = some (.int ((k + 1 : Nat) : Int)) := add_nat (b := 1)
      rw [vList, wOne (ev_bin (ev_bin (ev_var (x := .int ((256 + k : Nat) : Int)) rfl) (ev_glob H.g3) s1) ev_cst s2)]
      rfl
    refine ev_bin e1 (ev_var (x := .int (f : Int)) rfl) ?_
    have hc : (smallI (f : Int) && decide ([PV.int ((k + 1 : Nat) : Int)].length * (f : Int).toNat ≤ lim)) = true := by
      rw [small_nat (Nat.le_trans hf (by decide)), decide_eq_true]
      · rfl
      · rw [Int.toNat_natCast, List.length_singleton, Nat.one_mul]; exact Nat.le_trans hf (by decide)
    show (if smallI (f : Int) && decide ([PV.int ((k + 1 : Nat) : Int)].length * (f : Int).toNat ≤ lim) then some (PV.list (rep [PV.int ((k + 1 : Nat) : Int)] (f : Int).toNat)) else none) = _
    rw [if_pos hc, Int.toNat_natCast]
    have : ∀ (v : PV) (f : Nat), rep [v] f = List.replicate f v := fun v f => by
      unfold rep
      induction f with
      | zero => rfl
      | succ n ih => rw [List.replicate_succ, List.flatten_cons, ih, List.replicate_succ]; rfl
    rw [this]
  refine ss_next (st_iff t1 rfl ss_end) ?_
  refine ss_next (st_ift t2 rfl (ss_next (st_ext (l := base) rfl rfl tl (List.all_eq_true.mpr fun z hz => by rw [List.eq_of_mem_replicate hz]; rfl) (by rw [List.length_replicate]; omega)) ss_end)) ss_end

noncomputable abbrev tyW (T : Tabs) (fuel n : Nat) (σ : Sig) : Option (Sig × Fl) := whlL (fun σ => (evalE T (allEnv σ) tyT).bind truthy) (fun σ => execSs T fuel σ tyB) n σ
theorem whl_step {n : Nat} {σ σ' : Sig} (ht : (evalE T (allEnv σ) tyT).bind truthy = some true) (hb : execSs T fuel σ tyB = some (σ', .next)) : tyW T fuel (n + 1) σ = tyW T fuel n σ' := by
  show whlL _ _ (n + 1) σ = _
  exact whlT ht hb
theorem whl_end {n : Nat} {σ : Sig} (ht : (evalE T (allEnv σ) tyT).bind truthy = some false) : tyW T fuel (n + 1) σ = some (σ, .next) := by
  show whlL _ _ (n + 1) σ = _
  exact whlF ht
theorem run_terms (H : TypeT T) {syms : PV} {f k n : Nat} (hk : k < 4) : ∀ (m : Nat) (base : List PV) (text : List Nat) (x : Option Sl), base.length + m ≤ 1000 → text.length + m ≤ 900 →
    ∃ x' : Option Sl, tyW T fuel (m + n) (ty syms f (base ++ List.replicate m (.int ((k + 1 : Nat) : Int))) text x) = tyW T fuel n (ty syms f base (text ++ List.replicate m (sgn k)) x')
  | 0, base, text, x, _, _ => ⟨x, by rw [List.replicate_zero, List.replicate_zero, List.append_nil, List.append_nil, Nat.zero_add]⟩
  | m + 1, base, text, x, h1, h2 => by
    have e1 : base ++ List.replicate (m + 1) (PV.int ((k + 1 : Nat) : Int)) = (base ++ List.replicate m (.int ((k + 1 : Nat) : Int))) ++ [.int ((k + 1 : Nat) : Int)] := by rw [List.replicate_succ', List.append_assoc]
    have hl : (base ++ List.replicate m (PV.int ((k + 1 : Nat) : Int))).length ≤ 1000 := by rw [List.length_append, List.length_replicate]; omega
    have ht := test_ty H (syms := syms) (f := f) (base := base ++ List.replicate m (.int ((k + 1 : Nat) : Int))) (v := ((k + 1 : Nat) : Int)) (text := text) (x := x) hl
    rw [show (!(((k + 1 : Nat) : Int) == 0)) = true by rw [beq_eq_false_iff_ne.mpr (by omega)]; rfl] at ht
    obtain ⟨x', ih⟩ := run_terms H (f := f) (syms := syms) (n := n) hk m base (text ++ [sgn k]) (fi ((k + 1 : Nat) : Int)) (by omega) (by rw [List.length_append, List.length_singleton]; omega)
    refine ⟨x', ?_⟩
    rw [e1, show m + 1 + n = (m + n) + 1 by omega, whl_step ht (term_step H hl (by omega) hk (.inl rfl)), ih, List.append_assoc, List.replicate_succ]; rfl
/-- mode A: the signs themselves -/
noncomputable def symA (w : List Nat) : List PV := w.map fun k => PV.int ((255 - k : Nat) : Int)
theorem runA (H : TypeT T) {syms : PV} {f n : Nat} : ∀ (w : List Nat) (text : List Nat) (x : Option Sl), (∀ k ∈ w, k < 4) → w.length ≤ 4 → text.length + w.length ≤ 900 →
    ∃ x' : Option Sl, tyW T fuel (w.length + n) (ty syms f (.int 0 :: (symA w).reverse) text x) = tyW T fuel n (ty syms f [.int 0] (text ++ tx w) x')
  | [], text, x, _, _, _ => ⟨x, by rw [List.length_nil, Nat.zero_add]; show tyW T fuel n (ty syms f [.int 0] text x) = tyW T fuel n (ty syms f [.int 0] (text ++ []) x); rw [List.append_nil]⟩
  | k :: w, text, x, h, hl, h2 => by
    have hk := h k List.mem_cons_self
    rw [List.length_cons] at hl h2
    have e1 : (PV.int 0 :: (symA (k :: w)).reverse) = (.int 0 :: (symA w).reverse) ++ [.int ((255 - k : Nat) : Int)] := by
      show PV.int 0 :: ((PV.int ((255 - k : Nat) : Int)) :: symA w).reverse = _
      rw [List.reverse_cons]; rfl
    have hb : (PV.int 0 :: (symA w).reverse).length ≤ 1000 := by
      rw [List.length_cons, List.length_reverse]; unfold symA; rw [List.length_map]; omega
    have ht := test_ty H (syms := syms) (f := f) (base := .int 0 :: (symA w).reverse) (v := ((255 - k : Nat) : Int)) (text := text) (x := x) hb
    rw [show (!(((255 - k : Nat) : Int) == 0)) = true by rw [beq_eq_false_iff_ne.mpr (by omega)]; rfl] at ht
    obtain ⟨x', ih⟩ := runA H (f := f) (syms := syms) (n := n) w (text ++ [sgn k]) (fi ((255 - k : Nat) : Int)) (fun z hz => h z (List.mem_cons_of_mem _ hz)) (by omega) (by rw [List.length_append, List.length_singleton]; omega)
    refine ⟨x', ?_⟩
    rw [e1, List.length_cons, show w.length + 1 + n = (w.length + n) + 1 by omega, whl_step ht (term_step H hb (by omega) hk (.inr rfl)), ih, List.append_assoc]; rfl
/-- mode B: each gives way to so many signs -/
noncomputable def symB (w : List Nat) : List PV := w.map fun k => PV.int ((256 + k : Nat) : Int)
theorem runB (H : TypeT T) {syms : PV} {f n : Nat} (hf : f ≤ 10) : ∀ (w : List Nat) (text : List Nat) (x : Option Sl), (∀ k ∈ w, k < 4) → w.length ≤ 4 → text.length + f * w.length ≤ 800 →
    ∃ x' : Option Sl, tyW T fuel ((f + 1) * w.length + n) (ty syms f (.int 0 :: (symB w).reverse) text x) = tyW T fuel n (ty syms f [.int 0] (text ++ Ed.blow f (tx w)) x')
  | [], text, x, _, _, _ => ⟨x, by rw [List.length_nil, Nat.mul_zero, Nat.zero_add]; show tyW T fuel n (ty syms f [.int 0] text x) = tyW T fuel n (ty syms f [.int 0] (text ++ []) x); rw [List.append_nil]⟩
  | k :: w, text, x, h, hl, h2 => by
    have hk := h k List.mem_cons_self
    rw [List.length_cons] at hl h2
    have h2' : text.length + f * w.length + f ≤ 800 := by rw [Nat.mul_succ] at h2; omega
    have e1 : (PV.int 0 :: (symB (k :: w)).reverse) = (.int 0 :: (symB w).reverse) ++ [.int ((256 + k : Nat) : Int)] := by
      show PV.int 0 :: ((PV.int ((256 + k : Nat) : Int)) :: symB w).reverse = _
      rw [List.reverse_cons]; rfl
    have hb' : (PV.int 0 :: (symB w).reverse).length ≤ 10 := by
      rw [List.length_cons, List.length_reverse]; unfold symB; rw [List.length_map]; omega
    have hb : (PV.int 0 :: (symB w).reverse).length ≤ 1000 := Nat.le_trans hb' (by decide)
    have ht := test_ty H (syms := syms) (f := f) (base := .int 0 :: (symB w).reverse) (v := ((256 + k : Nat) : Int)) (text := text) (x := x) hb
    rw [show (!(((256 + k : Nat) : Int) == 0)) = true by rw [beq_eq_false_iff_ne.mpr (by omega)]; rfl] at ht
    obtain ⟨x1, r1⟩ := run_terms (T := T) (fuel := fuel) H (syms := syms) (f := f) (n := (f + 1) * w.length + n) hk f (.int 0 :: (symB w).reverse) text (fi ((256 + k : Nat) : Int)) (by omega) (by omega)
    obtain ⟨x', ih⟩ := runB H (syms := syms) (n := n) hf w (text ++ List.replicate f (sgn k)) x1 (fun z hz => h z (List.mem_cons_of_mem _ hz)) (by omega) (by rw [List.length_append, List.length_replicate]; omega)
    refine ⟨x', ?_⟩
    rw [e1, List.length_cons, show (f + 1) * (w.length + 1) + n = (f + ((f + 1) * w.length + n)) + 1 by rw [Nat.mul_succ]; omega, whl_step ht (non_step H hb hf), r1, ih, List.append_assoc]; rfl
theorem type_ok (H : TypeT T) {syms : List PV} {f n : Nat} {text : List Nat} (hs : syms.length ≤ 10) (hsc : syms.all scalar = true) (hr : ∀ x : Option Sl, ∃ (x' : Option Sl) (k : Nat), tyW T fuel fuel (ty (.list syms) f (.int 0 :: syms.reverse) [] x) = tyW T fuel (k + 1) (ty (.list syms) f [.int 0] text x')) :
    callF T fuel 5 b_law_type [.list syms, .int (f : Int)] = some (.str text) := by
  obtain ⟨x', k, e⟩ := hr none
  have he := whl_end (T := T) (fuel := fuel) (n := k) (σ := ty (.list syms) f [.int 0] text x') (test_ty H (base := []) (v := 0) (by decide))
  rw [he] at e
  refine callF_of (σ := ty (.list syms) f [.int 0] text x') ?_
  show execSs T fuel [some (.frz (.list syms)), fi (f : Int), none, none, none] _ = _
  have er : evalE T (allEnv [some (.frz (.list syms)), fi (f : Int), none, none, none]) (.bin .add (.list (.cons (.cst (.int 0)) .nil)) (.slice (.var 0) .abs .abs (.neg (.cst (.int 1))))) = some (.list (.int 0 :: syms.reverse)) := by
    have e1 : evalE T (allEnv [some (.frz (.list syms)), fi (f : Int), none, none, none]) (.list (.cons (.cst (.int 0)) .nil)) = some (.list [.int 0]) := rfl
    have e2 : slice (.list syms) .none .none (.int (-1)) = some (.list syms.reverse) := by
      rw [slice_step (by kernel_rfl : part (.int (-1)) = some (some (-1))) (by decide) syms (Nat.le_trans hs (by decide)), pick_rev]
    refine ev_bin e1 (ev_slice (ev_var rfl) ev_abs ev_abs (ev_neg ev_cst) e2) ?_
    show (if [PV.int 0].length + syms.reverse.length ≤ lim then some (PV.list ([PV.int 0] ++ syms.reverse)) else none) = _
    rw [if_pos (by rw [List.length_reverse]; exact Nat.le_trans (Nat.add_le_add (Nat.le_refl 1) hs) (by decide))]; rfl
  refine ss_next (st_new rfl er (by rw [List.all_cons, List.all_reverse, hsc]; rfl) (by rw [List.length_cons, List.length_reverse]; exact Nat.le_trans (Nat.add_le_add hs (Nat.le_refl 1)) (by decide)) (by decide : 2 < 5)) ?_
  refine ss_next (st_frz (v := .str []) ev_cst (by decide : 3 < 5)) ?_
  refine ss_next (st_whl e) ?_
  exact ss_stop (st_ret (ev_var rfl)) (ret_ne _)
theorem typeA (n : Nat) {w : List Nat} (h : ∀ k ∈ w, k < 4) (hl : w.length ≤ 4) : (tabs (n + 3)).call 30 [.list (symA w), .int 1] = some (.str (tx w)) := by
  show (if 2 = 2 then callF (tabs (n + 2)) fuel _ _ _ else none) = _
  rw [if_pos rfl]
  refine type_ok (T := tabs (n + 2)) (f := 1) (n := 0) (typeT n) (by unfold symA; rw [List.length_map]; omega) (by unfold symA; rw [List.all_map, List.all_eq_true]; intro _ _; rfl) fun x => ?_
  obtain ⟨x', e⟩ := runA (T := tabs (n + 2)) (fuel := fuel) (typeT n) (syms := .list (symA w)) (f := 1) (n := fuel - w.length) w [] x h hl (by simp; omega)
  refine ⟨x', fuel - w.length - 1, ?_⟩
  have hfu : w.length ≤ 10 := by omega
  rw [show w.length + (fuel - w.length) = fuel by unfold fuel; omega, List.nil_append] at e
  rw [e, show fuel - w.length - 1 + 1 = fuel - w.length by unfold fuel; omega]
theorem typeB (n : Nat) {w : List Nat} {f : Nat} (hf : f ≤ 10) (h : ∀ k ∈ w, k < 4) (hl : w.length ≤ 4) : (tabs (n + 3)).call 30 [.list (symB w), .int (f : Int)] = some (.str (Ed.blow f (tx w))) := by
  show (if 2 = 2 then callF (tabs (n + 2)) fuel _ _ _ else none) = _
  rw [if_pos rfl]
  refine type_ok (T := tabs (n + 2)) (f := f) (n := 0) (typeT n) (by unfold symB; rw [List.length_map]; omega) (by unfold symB; rw [List.all_map, List.all_eq_true]; intro _ _; rfl) fun x => ?_
  have hm : (f + 1) * w.length ≤ 11 * 4 := Nat.mul_le_mul (by omega) hl
  have hm' : f * w.length ≤ 10 * 4 := Nat.mul_le_mul hf hl
  obtain ⟨x', e⟩ := runB (T := tabs (n + 2)) (fuel := fuel) (typeT n) (syms := .list (symB w)) (f := f) (n := fuel - (f + 1) * w.length) hf w [] x h hl (by simp; omega)
  refine ⟨x', fuel - (f + 1) * w.length - 1, ?_⟩
  rw [show (f + 1) * w.length + (fuel - (f + 1) * w.length) = fuel by unfold fuel; omega, List.nil_append] at e
  rw [e, show fuel - (f + 1) * w.length - 1 + 1 = fuel - (f + 1) * w.length by unfold fuel; omega]
end L2
end Mp
end

section
set_option maxRecDepth 100000
/-! Law 2, pure: indent_level told from the lead; facts of each lead. -/
namespace Mp
open PySem
open Lev
namespace L2
variable {T : Tabs} {fuel : Nat}

theorem range_none {i j : Nat} (h : j ≤ i) (hi : i ≤ 1000) : range3 (i : Int) (j : Int) 1 = some [] := by
  have hN : rangeN (i : Int) (j : Int) 1 = 0 := by
    unfold rangeN
    rw [if_pos (by decide), if_neg (by omega)]
  have hc : (smallI (i : Int) && smallI (j : Int) && decide ((-1073741824 : Int) < 1) && decide ((1 : Int) < 1073741824) && decide ((1 : Int) ≠ 0) && decide (0 ≤ lim)) = true := by
    rw [small_nat (Nat.le_trans hi (by decide)), small_nat (Nat.le_trans (Nat.le_trans h hi) (by decide))]; rfl
  unfold range3
  rw [hN, if_pos hc]; rfl
theorem for_r2n {σ : Sig} {a e : E} {i j : Nat} (ha : evalE T (allEnv σ) a = some (.int (i : Int))) (h : evalE T (allEnv σ) e = some (.int (j : Int))) (hi : i ≤ 1000) (hj : j ≤ 1000) : evalFor T σ (.range2 a e) = some (idx i (j - i)) := by
  by_cases q : i ≤ j
  · obtain ⟨n, rfl⟩ : ∃ n, j = i + n := ⟨j - i, by omega⟩
    rw [Nat.add_sub_cancel_left]
    exact for_r2 ha h hj
  · rw [show j - i = 0 by omega]
    show (evalE T (allEnv σ) a).bind _ = _
    rw [ha, Option.bind_some, h, Option.bind_some]
    dsimp only
    rw [range_none (by omega) hi]; rfl
theorem tup_get {cs : List Nat} {i : Nat} (h : i < cs.length) (hl : cs.length ≤ 1000) : subscr (.tup (cs.map fun (n : Nat) => PV.int (n : Int))) (.int (i : Int)) = some (.int ((cs.getD i 0 : Nat) : Int)) := by
  have h1 : inIdx (i : Int) (cs.map fun (n : Nat) => PV.int (n : Int)).length = true := by
    unfold inIdx; simp only [Bool.and_eq_true, decide_eq_true_eq, List.length_map]
    refine ⟨⟨by omega, by omega⟩, Nat.le_trans hl (by decide)⟩
  have h2 : pidx (i : Int) (cs.map fun (n : Nat) => PV.int (n : Int)).length = i := by unfold pidx; rw [if_neg (by omega)]; omega
  show (if inIdx (i : Int) (cs.map fun (n : Nat) => PV.int (n : Int)).length then (cs.map fun (n : Nat) => PV.int (n : Int))[pidx (i : Int) (cs.map fun (n : Nat) => PV.int (n : Int)).length]? else none) = _
  rw [if_pos h1, h2, List.getElem?_map, List.getElem?_eq_getElem h, List.getD_eq_getElem?_getD, List.getElem?_eq_getElem h]; rfl

noncomputable def ilB : Ss := (.cons (.asg .frz (.v 2) (.bin .add (.var 2) (.bin .mul (.bin .div (.var 3) (.var 1)) (.sub (.var 4) (.var 3)))))
 .nil)
noncomputable def si (I : PV) (ts : Nat) (il : Nat) (i : Option Sl) (cs : List Nat) (tr : Nat) : Sig := [some (.frz I), fi (ts : Int), fi (il : Int), i, some (.frz (.tup (cs.map fun (n : Nat) => PV.int (n : Int)))), fi (tr : Int)]
noncomputable def ilS (cs : List Nat) (ts i k : Nat) : Nat := ((List.range' i k).map fun i => i / ts * cs.getD i 0).sum
theorem il_run {I : PV} {ts tr : Nat} {cs : List Nat} (h0 : ts ≠ 0) (h1 : ts ≤ 1000) (hc : cs.length ≤ 100) (hb : ∀ i, cs.getD i 0 ≤ 1000) : ∀ (k i il : Nat) (x : Option Sl), i + k ≤ cs.length →
    ∃ x' : Option Sl, forL (fun σ y => (bindS σ (.v 3) y).bind fun σ' => execSs T fuel σ' ilB) (idx i k) (si I ts il x cs tr) = some (si I ts (il + ilS cs ts i k) x' cs tr, .next)
  | 0, i, il, x, _ => ⟨x, rfl⟩
  | k + 1, i, il, x, h => by
    have hi : i < cs.length := by omega
    have hbd : bindS (si I ts il x cs tr) (.v 3) (.int (i : Int)) = some (si I ts il (fi (i : Int)) cs tr) := rfl
    have hd : i / ts ≤ 1000 := Nat.le_trans (Nat.div_le_self i ts) (by omega)
    have st : execSs T fuel (si I ts il (fi (i : Int)) cs tr) ilB = some (si I ts (il + i / ts * cs.getD i 0) (fi (i : Int)) cs tr, .next) :=
      ss_next (st_frz (ev_bin (ev_var rfl) (ev_bin (ev_bin (ev_var rfl) (ev_var rfl) (div_nat h0 (Nat.lt_of_le_of_lt h1 (by decide)))) (ev_sub (x := .tup (cs.map fun (n : Nat) => PV.int (n : Int))) (ev_var rfl) (ev_var rfl) (tup_get hi (by omega))) (mul_nat hd (hb i))) add_nat) (by decide : 2 < 6)) ss_end
    obtain ⟨x', ih⟩ := il_run (I := I) (tr := tr) h0 h1 hc hb k (i + 1) (il + i / ts * cs.getD i 0) (fi (i : Int)) (by omega)
    refine ⟨x', ?_⟩
    rw [Lev.idx_s, fCons, hbd, Option.bind_some, st, Option.bind_some]
    dsimp only
    rw [ih]
    have : ilS cs ts i (k + 1) = i / ts * cs.getD i 0 + ilS cs ts (i + 1) k := by unfold ilS; rw [List.range'_succ, List.map_cons, List.sum_cons]
    rw [this, Nat.add_assoc]
theorem il_ok {I : PV} {ts tr nt : Nat} {cs : List Nat} (hlen : ∀ l : List PV, l.length ≤ 1000 → T.call 0 [.tup l] = some (.int l.length)) (a3 : T.attr 3 I = some (.tup [.tup (cs.map fun (n : Nat) => PV.int (n : Int)), .int (tr : Int)])) (a2 : T.attr 2 I = some (.int (nt : Int)))
    (h0 : ts ≠ 0) (h1 : ts ≤ 1000) (hc : cs.length ≤ 100) (hb : ∀ i, cs.getD i 0 ≤ 1000) (hs : ilS cs ts ts (cs.length - ts) + nt ≤ 1000) : callF T fuel 6 b_indent_level [I, .int (ts : Int)] = some (.int ((tr + ts * (ilS cs ts ts (cs.length - ts) + nt) : Nat) : Int)) := by
  refine (?_ : ∃ σ, execSs T fuel ([I, .int (ts : Int)].map (fun x => some (Sl.frz x)) ++ List.replicate (6 - 2) none) b_indent_level = some (σ, .ret _)).elim fun σ h => callF_of h
  show ∃ σ, execSs T fuel [some (.frz I), fi (ts : Int), none, none, none, none] b_indent_level = some (σ, _)
  by_cases q : ts ≤ cs.length
  · obtain ⟨x', e⟩ := il_run (T := T) (fuel := fuel) (I := I) (tr := tr) h0 h1 hc hb (cs.length - ts) ts 0 none (by omega)
    rw [Nat.zero_add] at e
    refine ⟨_, ss_next (st_pair (ev_attr (ev_var rfl) a3) (by decide : 4 < 6) (by decide : 5 < 6)) (ss_next (st_frz ev_cst (by decide : 2 < 6)) (ss_next (st_for (for_r2n (ev_var (x := .int (ts : Int)) rfl) (ev_call1 (ev_var rfl) (hlen _ (by rw [List.length_map]; omega))) h1 (by rw [List.length_map]; omega)) (by rw [List.length_map]; exact e)) (ss_stop (st_ret (ev_bin (ev_var rfl) (ev_bin (ev_var rfl) (ev_bin (ev_var rfl) (ev_attr (ev_var rfl) a2) add_nat) (mul_nat h1 hs)) add_nat)) (ret_ne _))))⟩
  · have e : forL (fun σ y => (bindS σ (.v 3) y).bind fun σ' => execSs T fuel σ' ilB) (idx ts (cs.length - ts)) (si I ts 0 none cs tr) = some (si I ts (ilS cs ts ts (cs.length - ts)) none cs tr, .next) := by
      rw [show cs.length - ts = 0 by omega]; rfl
    refine ⟨_, ss_next (st_pair (ev_attr (ev_var rfl) a3) (by decide : 4 < 6) (by decide : 5 < 6)) (ss_next (st_frz ev_cst (by decide : 2 < 6)) (ss_next (st_for (for_r2n (ev_var (x := .int (ts : Int)) rfl) (ev_call1 (ev_var rfl) (hlen _ (by rw [List.length_map]; omega))) h1 (by rw [List.length_map]; omega)) (by rw [List.length_map]; exact e)) (ss_stop (st_ret (ev_bin (ev_var rfl) (ev_bin (ev_var rfl) (ev_bin (ev_var rfl) (ev_attr (ev_var rfl) a2) add_nat) (mul_nat h1 hs)) add_nat)) (ret_ne _))))⟩

/-- the column of a lead, each sign f times, at a tab size -/
noncomputable def ilv (f : Nat) (l : Lead) (ts : Nat) : Nat := f * l.2 + ts * (ilS (cnts f l) ts ts ((cnts f l).length - ts) + f * l.1.length)
/-- what the law says of the column at f times a size -/
noncomputable def lvl (f : Nat) (l : Lead) (s : Nat) : Nat := f * (l.2 + s * (l.1.map fun r => r / s + f).sum)
noncomputable abbrev efs : List Nat := [1, 2, 3]
noncomputable def bndB (f : Nat) (l : Lead) : Bool := decide ((cnts f l).length ≤ 100) && (cnts f l).all (fun c => decide (c ≤ 1000)) && decide (longest l ≤ 4) && decide (l.1.length ≤ 4) && l.1.all (fun r => decide (r ≤ 4)) && decide (l.2 ≤ 4) &&
  (List.range' 1 16).all (fun ts => decide (ilS (cnts f l) ts ts ((cnts f l).length - ts) + f * l.1.length ≤ 1000)) && (List.range' 1 5).all fun s => ilv f l (f * s) == lvl f l s
theorem bnd_all : efs.all (fun f => leads.all (bndB f)) = true := by kernel_rfl
theorem long_all (n : Nat) (raw : List Nat) : efs.all (fun f => leads.all fun l => isIt (callF (tabs (n + 2)) fuel b_longest_run_of_spaces_vars.length b_longest_run_of_spaces [instP f l raw]) (.int ((f * longest l : Nat) : Int))) = true := by kernel_rfl
end L2
end Mp
end

section
set_option maxRecDepth 100000
/-! Law 2, pure: the loop over both indents. -/
namespace Mp
open PySem
open Lev
namespace L2
variable {T : Tabs}

/-- what does not change in a turn of the main loop -/
structure Hd where
  p0 : Option Sl
  p1 : Option Sl
  p2 : Option Sl
  p4 : Option Sl
  w0 : List Nat
  w1 : List Nat
  bd : Int
  lst : Int
  lg : Nat
  oft : Nat
  first : Int
  step : Int
  f : Nat
noncomputable def sm (c : Hd) (q13 q14 q15 q16 q17 q18 q19 q20 q21 q22 q23 q24 q25 q26 q27 q28 q29 q30 q31 q32 : Option Sl) : Sig :=
  [c.p0, c.p1, c.p2, some (.frz (.list [iL c.w0, iL c.w1])), c.p4, fi c.bd, fi c.lst, some (.frz (.list [leadP (leadOf c.w0), leadP (leadOf c.w1)])), fi (c.lg : Int), fi (c.oft : Int), fi c.first, fi c.step, fi (c.f : Int), q13, q14, q15, q16, q17, q18, q19, q20, q21, q22, q23, q24, q25, q26, q27, q28, q29, q30, q31, q32]
noncomputable def zipB : Ss := (.cons (.asg .frz (.v 22) (.call 4 (.cons (.bin .add (.comp (.bin .mul (.var 12) (.var 32)) (.v 32) (.e (.var 26)) (.cst (.bool true))) (.bin .mul (.list (.cons (.cst (.int 0)) .nil)) (.bin .mul (.bin .sub (.var 12) (.cst (.int 1))) (.call 0 (.cons (.var 26) .nil))))) .nil)))
 (.cons (.asg .frz (.v 23) (.comp (.meth (.var 22) 1 (.cons (.var 18) .nil)) (.v 18) (.range1 (.bin .add (.call 2 (.cons (.bin .add (.list (.cons (.neg (.cst (.int 1))) .nil)) (.var 22)) .nil)) (.cst (.int 1)))) (.cst (.bool true))))
 (.cons (.ite (.cmp .ne (.attr (.var 21) 3) (.tup (.cons (.call 5 (.cons (.var 23) .nil)) (.cons (.bin .mul (.var 12) (.var 27)) .nil)))) (.cons (.ret (.cst (.bool false)))
 .nil) .nil)
 (.cons (.ite (.cmp .ne (.tup (.cons (.attr (.var 21) 1) (.cons (.attr (.var 21) 2) .nil))) (.tup (.cons (.bin .mul (.var 12) (.bin .add (.bin .add (.call 3 (.cons (.var 26) .nil)) (.call 0 (.cons (.var 26) .nil))) (.var 27))) (.cons (.bin .mul (.var 12) (.call 0 (.cons (.var 26) .nil))) .nil)))) (.cons (.ret (.cst (.bool false)))
 .nil) .nil)
 (.cons (.ite (.cmp .ne (.meth (.var 21) 2 .nil) (.bin .mul (.var 12) (.call 2 (.cons (.bin .add (.var 26) (.list (.cons (.var 27) .nil))) .nil)))) (.cons (.ret (.cst (.bool false)))
 .nil) .nil)
 (.cons (.ite (.cmp .isNot (.attr (.var 21) 4) (.cmp .eq (.call 3 (.cons (.var 26) .nil)) (.cst (.int 0)))) (.cons (.ret (.cst (.bool false)))
 .nil) .nil)
 .nil))))))
noncomputable def closedP (f : Nat) (l : Lead) : PV := (bfun 4 [.list ((l.1.map fun (r : Nat) => PV.int ((f * r : Nat) : Int)) ++ List.replicate ((f - 1) * l.1.length) (.int 0))]).getD .none
noncomputable def countsP (f : Nat) (l : Lead) : PV := iL (cnts f l)
theorem zip_all1 (n : Nat) (c : Hd) (raw : List Nat) (q13 q14 q15 q16 q17 q18 q19 q20 q21 q22 q23 q24 q25 q26 q27 q28 q29 q30 q31 q32 : Option Sl) : leads.map (fun l => execSs (tabs (n + 3)) fuel (sm { c with f := 1 } q13 q14 q15 q16 q17 q18 q19 q20 (some (.frz (instP 1 l raw))) q22 q23 q24 q25 (some (.frz (iL l.1))) (fi (l.2 : Int)) q28 q29 q30 q31 q32) zipB) = leads.map (fun l => some ((sm { c with f := 1 } q13 q14 q15 q16 q17 q18 q19 q20 (some (.frz (instP 1 l raw))) (some (.frz (closedP 1 l))) (some (.frz (countsP 1 l))) q24 q25 (some (.frz (iL l.1))) (fi (l.2 : Int)) q28 q29 q30 q31 q32), .next)) := by kernel_rfl
theorem zip_all2 (n : Nat) (c : Hd) (raw : List Nat) (q13 q14 q15 q16 q17 q18 q19 q20 q21 q22 q23 q24 q25 q26 q27 q28 q29 q30 q31 q32 : Option Sl) : leads.map (fun l => execSs (tabs (n + 3)) fuel (sm { c with f := 2 } q13 q14 q15 q16 q17 q18 q19 q20 (some (.frz (instP 2 l raw))) q22 q23 q24 q25 (some (.frz (iL l.1))) (fi (l.2 : Int)) q28 q29 q30 q31 q32) zipB) = leads.map (fun l => some ((sm { c with f := 2 } q13 q14 q15 q16 q17 q18 q19 q20 (some (.frz (instP 2 l raw))) (some (.frz (closedP 2 l))) (some (.frz (countsP 2 l))) q24 q25 (some (.frz (iL l.1))) (fi (l.2 : Int)) q28 q29 q30 q31 q32), .next)) := by kernel_rfl
theorem zip_all3 (n : Nat) (c : Hd) (raw : List Nat) (q13 q14 q15 q16 q17 q18 q19 q20 q21 q22 q23 q24 q25 q26 q27 q28 q29 q30 q31 q32 : Option Sl) : leads.map (fun l => execSs (tabs (n + 3)) fuel (sm { c with f := 3 } q13 q14 q15 q16 q17 q18 q19 q20 (some (.frz (instP 3 l raw))) q22 q23 q24 q25 (some (.frz (iL l.1))) (fi (l.2 : Int)) q28 q29 q30 q31 q32) zipB) = leads.map (fun l => some ((sm { c with f := 3 } q13 q14 q15 q16 q17 q18 q19 q20 (some (.frz (instP 3 l raw))) (some (.frz (closedP 3 l))) (some (.frz (countsP 3 l))) q24 q25 (some (.frz (iL l.1))) (fi (l.2 : Int)) q28 q29 q30 q31 q32), .next)) := by kernel_rfl
end L2
end Mp
end

section
set_option maxRecDepth 100000
/-! Law 2, pure: facts of all pairs of leads; more steps. -/
namespace Mp
open PySem
open Lev
namespace L2
variable {T : Tabs} {fuel : Nat}

noncomputable def lgOf (a b : Lead) : Nat := max (longest a) (longest b)
/-- the rows of not_less_witness at sizes that f divides, and those that the law makes -/
noncomputable def witR (f : Nat) (a b : Lead) : List (Nat × Nat × Nat) := (((List.range' 1 (f * lgOf a b + 1)).filter fun t => decide (ilv f b t ≤ ilv f a t)).filter fun t => t % f == 0).map fun t => (t, ilv f a t, ilv f b t)
noncomputable def lawR (f : Nat) (a b : Lead) (i k : Nat) : List (Nat × Nat × Nat) := ((List.range' i k).filter fun s => decide (lvl f b s ≤ lvl f a s) && decide (f * s ≤ f * lgOf a b + 1)).map fun s => (f * s, lvl f a s, lvl f b s)
noncomputable def sortP (l : Lead) : PV := (bfun 4 [iL l.1]).getD .none
noncomputable def sameP (l : Lead) : PV := .tup [sortP l, .int (l.2 : Int)]
noncomputable def pairB (f : Nat) (a b : Lead) : Bool := (witR f a b == lawR f a b 1 (lgOf a b + 1)) && (eqv (normP f a) (normP f b) == eqv (sameP a) (sameP b)) && okEq 20 (normP f a) && okEq 20 (sameP a) && (bfun 4 [iL a.1]).isSome
theorem pair1 : leads.all (fun a => leads.all (pairB 1 a)) = true := by kernel_rfl
theorem pair2 : leads.all (fun a => leads.all (pairB 2 a)) = true := by kernel_rfl
theorem pair3 : leads.all (fun a => leads.all (pairB 3 a)) = true := by kernel_rfl
theorem pair_all {f : Nat} (hf : f = 1 ∨ f = 2 ∨ f = 3) {a b : Lead} (ha : a ∈ leads) (hb : b ∈ leads) : pairB f a b = true := by
  rcases hf with rfl | rfl | rfl
  · exact List.all_eq_true.mp (List.all_eq_true.mp pair1 a ha) b hb
  · exact List.all_eq_true.mp (List.all_eq_true.mp pair2 a ha) b hb
  · exact List.all_eq_true.mp (List.all_eq_true.mp pair3 a ha) b hb

theorem ev_comp2 {ρ : Rho} {e : E} {t : Tg} {it : It} {x y a b : PV} (h : evalIt T ρ it = some [x, y]) (hx : ∃ ρ', bindT ρ t x = some ρ' ∧ evalE T ρ' e = some a) (hy : ∃ ρ', bindT ρ t y = some ρ' ∧ evalE T ρ' e = some b) : evalE T ρ (.comp e t it (.cst (.bool true))) = some (.list [a, b]) := by
  obtain ⟨ρ1, h1, h2⟩ := hx
  obtain ⟨ρ2, h3, h4⟩ := hy
  rw [vComp, h, Option.bind_some, cCons, h1, Option.bind_some, ev_cst, Option.bind_some]
  show (((evalE T ρ1 e).map some).bind _).map PV.list = _
  rw [h2]
  show ((compL _ [y]).map _).map PV.list = _
  rw [cCons, h3, Option.bind_some, ev_cst, Option.bind_some]
  show (((((evalE T ρ2 e).map some).bind _)).map _).map PV.list = _
  rw [h4]
  rfl
theorem st_pairL {σ : Sig} {i j : Nat} {e : E} {x y : PV} (h : evalE T (frzEnv σ) e = some (.list [x, y])) (hi : i < σ.length) (hj : j < σ.length) : execS T fuel σ (.asg .frz (.t (.cons (.v i) (.cons (.v j) .nil))) e) = some ((σ.set i (some (.frz x))).set j (some (.frz y)), .next) := by
  rw [execS_asg]
  show (evalE T (frzEnv σ) e).bind _ = _
  rw [h]
  show (bindS σ (.t (.cons (.v i) (.cons (.v j) .nil))) (.list [x, y])).map _ = _
  have : bindS σ (.t (.cons (.v i) (.cons (.v j) .nil))) (.list [x, y]) = some ((σ.set i (some (.frz x))).set j (some (.frz y))) := by
    show (bindV σ i x).bind (fun σ' => (bindV σ' j y).bind fun σ'' => some σ'') = _
    unfold bindV
    rw [if_pos hi, Option.bind_some, if_pos (by rw [List.length_set]; exact hj)]; rfl
  rw [this]; rfl
theorem ints_iL : ∀ l : List Nat, asInts (l.map fun (n : Nat) => PV.int (n : Int)) = some (l.map fun (n : Nat) => (n : Int))
  | [] => rfl
  | x :: l => by
    have ih := ints_iL l
    unfold asInts at ih ⊢
    rw [List.map_cons, List.mapM_cons, ih]; rfl
theorem sum_cast : ∀ l : List Nat, (l.map fun (n : Nat) => (n : Int)).sum = ((l.sum : Nat) : Int)
  | [] => rfl
  | x :: l => by rw [List.map_cons, List.sum_cons, List.sum_cons, sum_cast l]; omega
theorem sum_iL (l : List Nat) : bfun 3 [iL l] = some (.int ((l.sum : Nat) : Int)) := by
  show (asInts (l.map fun (n : Nat) => PV.int (n : Int))).map (fun r => PV.int r.sum) = _
  rw [ints_iL, Option.map_some, sum_cast]
theorem ge_nat {a b : Nat} : cmpop .ge (.int (a : Int)) (.int (b : Int)) = some (decide (b ≤ a)) := by
  show some (decide ((b : Int) ≤ (a : Int))) = _
  congr 2
  exact propext ⟨fun h => by omega, fun h => by omega⟩
theorem le_nat {a b : Nat} : cmpop .le (.int (a : Int)) (.int (b : Int)) = some (decide (a ≤ b)) := by
  show some (decide ((a : Int) ≤ (b : Int))) = _
  congr 2
  exact propext ⟨fun h => by omega, fun h => by omega⟩
theorem ne_pair {x y : Int} : cmpop .ne (.list [.int x, .int y]) (.list [.int x, .int y]) = some false := by
  show some (!(x == x && (y == y && true))) = _
  simp
noncomputable def rowP (r : Nat × Nat × Nat) : PV := .tup [.int (r.1 : Int), .int (r.2.1 : Int), .int (r.2.2 : Int)]
theorem rowsP_ne (l : List (Nat × Nat × Nat)) : cmpop .ne (.list (l.map rowP)) (.list (l.map rowP)) = some false := by
  have h1 : okEq 20 (.list (l.map rowP)) = true := by
    show (l.map rowP).all (okEq 19) = true
    rw [List.all_map, List.all_eq_true]
    intro t _
    rfl
  have h2 : eqv (.list (l.map rowP)) (.list (l.map rowP)) = true := by
    refine (eqvs_self fun x hx => ?_ : eqvs (l.map rowP) (l.map rowP) = true)
    obtain ⟨t, uu, rfl⟩ := List.mem_map.mp hx
    show (eqv _ _ && (eqv _ _ && (eqv _ _ && true))) = true
    rw [int_self, int_self, int_self]; rfl
  show (if okEq 20 _ && okEq 20 _ then some (!eqv _ _) else none) = _
  rw [h1, h2]; rfl
end L2
end Mp
end

section
set_option maxRecDepth 100000
/-! Law 2, pure: the loop over the sizes. -/
namespace Mp
open PySem
open Lev
namespace L2
variable {T : Tabs} {fuel : Nat}

/-- the state from the loop over the sizes on -/
noncomputable def ss (c : Hd) (I0 I1 : PV) (RW BK : List PV) (q13 q14 q18 q19 q20 q21 q22 q23 q24 q25 q26 q27 q28 q29 q30 q31 q32 : Option Sl) : Sig :=
  sm c q13 q14 (some (.frz (.list [I0, I1]))) (some (.own RW)) (some (.own BK)) q18 q19 q20 q21 q22 q23 q24 q25 q26 q27 q28 q29 q30 q31 q32
noncomputable def inE : E := .comp (.bin .add (.bin .div (.var 32) (.var 18)) (.var 12)) (.v 32) (.e (.var 26)) (.cst (.bool true))
noncomputable def oneE : E := .bin .mul (.var 12) (.bin .add (.var 27) (.bin .mul (.var 18) (.call 3 (.cons inE .nil))))
noncomputable def tt : Tg := .t (.cons (.v 26) (.cons (.v 27) .nil))
noncomputable def fsE : E := .bin .mul (.var 12) (.var 18)
noncomputable def leE : E := .cmp .le fsE (.bin .add (.bin .mul (.var 12) (.var 8)) (.cst (.int 1)))
noncomputable def sizeB : Ss := (.cons (.asg .frz (.t (.cons (.v 28) (.cons (.v 29) .nil))) (.comp oneE tt (.e (.var 7)) (.cst (.bool true))))
 (.cons (.ite (.cmp .ne (.comp (.meth (.var 21) 3 (.cons fsE .nil)) (.v 21) (.e (.var 15)) (.cst (.bool true))) (.list (.cons (.var 28) (.cons (.var 29) .nil)))) (.cons (.ret (.cst (.bool false)))
 .nil) .nil)
 (.cons (.ite (.and (.cons (.cmp .ge (.var 28) (.var 29)) (.cons leE .nil))) (.cons (.app .frz 16 (.tup (.cons fsE (.cons (.var 28) (.cons (.var 29) .nil)))))
 .nil) .nil)
 (.cons (.ite (.and (.cons (.cmp .ge (.var 29) (.var 28)) (.cons leE .nil))) (.cons (.app .frz 17 (.tup (.cons fsE (.cons (.var 29) (.cons (.var 28) .nil)))))
 .nil) .nil)
 .nil))))
/-- what is known of both leads at f -/
structure BodyT (T : Tabs) (c : Hd) (I0 I1 : PV) (a b : Lead) : Prop where
  sum : ∀ l : List Nat, T.call 3 [iL l] = some (.int ((l.sum : Nat) : Int))
  lev0 : ∀ t : Nat, 1 ≤ t → t ≤ 16 → T.meth 3 I0 [.int (t : Int)] = some (.int (ilv c.f a t : Nat))
  lev1 : ∀ t : Nat, 1 ≤ t → t ≤ 16 → T.meth 3 I1 [.int (t : Int)] = some (.int (ilv c.f b t : Nat))
  ha : leadOf c.w0 = a
  hb : leadOf c.w1 = b
  ma : a ∈ leads
  mb : b ∈ leads
  hf : c.f = 1 ∨ c.f = 2 ∨ c.f = 3
  lg : c.lg = lgOf a b
theorem bnd {f : Nat} {l : Lead} (hf : f = 1 ∨ f = 2 ∨ f = 3) (hl : l ∈ leads) : bndB f l = true := by
  have h := bnd_all
  have hm : f ∈ efs := by rcases hf with rfl | rfl | rfl <;> decide
  exact List.all_eq_true.mp (List.all_eq_true.mp h f hm) l hl
structure Bnd (f : Nat) (l : Lead) : Prop where
  len : (cnts f l).length ≤ 100
  ent : ∀ i, (cnts f l).getD i 0 ≤ 1000
  long : longest l ≤ 4
  runs : l.1.length ≤ 4
  run : ∀ r ∈ l.1, r ≤ 4
  behind : l.2 ≤ 4
  il : ∀ t : Nat, 1 ≤ t → t ≤ 16 → ilS (cnts f l) t t ((cnts f l).length - t) + f * l.1.length ≤ 1000
  lvl : ∀ s : Nat, 1 ≤ s → s ≤ 5 → ilv f l (f * s) = lvl f l s
theorem bnds {f : Nat} {l : Lead} (hf : f = 1 ∨ f = 2 ∨ f = 3) (hl : l ∈ leads) : Bnd f l := by
  have h := bnd hf hl
  unfold bndB at h
  refine andB h fun h h8 => andB h fun h h7 => andB h fun h h6 => andB h fun h h5 => andB h fun h h4 => andB h fun h h3 => andB h fun h1 h2 => ?_
  refine ⟨of_decide_eq_true h1, fun i => ?_, of_decide_eq_true h3, of_decide_eq_true h4, fun r hr => of_decide_eq_true (List.all_eq_true.mp h5 r hr), of_decide_eq_true h6, fun t a b => of_decide_eq_true (List.all_eq_true.mp h7 t (List.mem_range'_1.mpr ⟨a, by omega⟩)), fun s a b => eqB (List.all_eq_true.mp h8 s (List.mem_range'_1.mpr ⟨a, by omega⟩))⟩
  rw [List.getD_eq_getElem?_getD]
  cases q : (cnts f l)[i]? with
  | none => exact Nat.zero_le _
  | some c => exact of_decide_eq_true (List.all_eq_true.mp h2 c (List.mem_of_getElem? q))

theorem one_ok {c : Hd} {I0 I1 : PV} {RW BK : List PV} {q13 q14 q19 q20 q21 q22 q23 q24 q25 q26 q27 q28 q29 q30 q31 q32 : Option Sl} {s : Nat} {l : Lead} (hsum : ∀ l : List Nat, T.call 3 [iL l] = some (.int ((l.sum : Nat) : Int))) (hf : c.f = 1 ∨ c.f = 2 ∨ c.f = 3) (hl : l ∈ leads) (s1 : 1 ≤ s) (s5 : s ≤ 5) :
    ∃ ρ', bindT (frzEnv (ss c I0 I1 RW BK q13 q14 (fi (s : Int)) q19 q20 q21 q22 q23 q24 q25 q26 q27 q28 q29 q30 q31 q32)) tt (leadP l) = some ρ' ∧ evalE T ρ' oneE = some (.int (lvl c.f l s : Nat)) := by
  have B := bnds hf hl
  have hf3 : c.f ≤ 3 := by omega
  refine ⟨_, rfl, ?_⟩
  have key : ∀ ρ' : Rho, (ρ'[26]?).join = some (iL l.1) → (ρ'[12]?).join = some (.int (c.f : Int)) → (ρ'[18]?).join = some (.int (s : Int)) → ρ'.length = 33 → evalE T ρ' inE = some (iL (l.1.map fun r => r / s + c.f)) := fun ρ' h26 h12 h18 hlen => by
    have hit : evalIt T ρ' (.e (.var 26)) = some (l.1.map fun (n : Nat) => PV.int (n : Int)) := by
      rw [iE, ev_var h26, Option.bind_some]
      show (if (l.1.map fun (n : Nat) => PV.int (n : Int)).length ≤ lim then some _ else none) = _
      rw [if_pos (by rw [List.length_map]; exact Nat.le_trans B.runs (by decide))]
    have h := ev_comp (T := T) (ρ := ρ') (e := .bin .add (.bin .div (.var 32) (.var 18)) (.var 12)) (t := .v 32) (f := fun v => match v with | .int r => .int ((r.toNat / s + c.f : Nat) : Int) | _ => .none) hit (fun x hx => by
      obtain ⟨r, hr, rfl⟩ := List.mem_map.mp hx
      have hb : bindT ρ' (.v 32) (.int (r : Int)) = some ((ρ'.set 32 none).set 32 (some (.int (r : Int)))) := by
        show (if 32 < (ρ'.set 32 none).length then some ((ρ'.set 32 none).set 32 (some (.int (r : Int)))) else none) = _
        rw [if_pos (by rw [List.length_set, hlen]; decide)]
      have get : ∀ i : Nat, i ≠ 32 → ((ρ'.set 32 none).set 32 (some (PV.int (r : Int))))[i]? = ρ'[i]? := fun i hi => by rw [List.getElem?_set_ne (Ne.symm hi), List.getElem?_set_ne (Ne.symm hi)]
      refine ⟨_, hb, ?_⟩
      have g32 : (((ρ'.set 32 none).set 32 (some (PV.int (r : Int))))[32]?).join = some (.int (r : Int)) := by rw [List.getElem?_set_self (by rw [List.length_set, hlen]; decide)]; rfl
      refine ev_bin (ev_bin (ev_var g32) (ev_var (by rw [get 18 (by decide)]; exact h18)) (div_nat (by omega) (by omega))) (ev_var (by rw [get 12 (by decide)]; exact h12)) ?_
      rw [add_nat]; rfl)
    rw [show inE = .comp _ (.v 32) (.e (.var 26)) (.cst (.bool true)) from rfl, h]
    unfold iL
    rw [List.map_map, List.map_map]
    rfl
  have hsm : (l.1.map fun r => r / s + c.f).sum ≤ 28 := by
    have : ∀ L : List Nat, (∀ r ∈ L, r ≤ 4) → (L.map fun r => r / s + c.f).sum ≤ 7 * L.length := fun L => by
      induction L with
      | nil => intro _; exact Nat.le_refl _
      | cons r L ih =>
        intro h
        have h1 := h r List.mem_cons_self
        have h2 := ih fun z hz => h z (List.mem_cons_of_mem _ hz)
        have h3 := Nat.div_le_self r s
        rw [List.map_cons, List.sum_cons, List.length_cons]
        omega
    have := this l.1 B.run
    have := B.runs
    omega
  have hm : s * (l.1.map fun r => r / s + c.f).sum ≤ 5 * 28 := Nat.mul_le_mul s5 hsm
  have hbe := B.behind
  exact ev_bin (ev_var rfl) (ev_bin (ev_var rfl) (ev_bin (ev_var rfl) (ev_call1 (key _ rfl rfl rfl rfl) (hsum _)) (mul_nat (by omega) (by omega))) add_nat) (mul_nat (by omega) (by omega))

theorem le_bool {c : Hd} {I0 I1 : PV} {RW BK : List PV} {q13 q14 q19 q20 q21 q22 q23 q24 q25 q26 q27 q28 q29 q30 q31 q32 : Option Sl} {s : Nat} {ρ : Rho} (hf : c.f ≤ 3) (hs : s ≤ 5) (hlg : c.lg ≤ 4)
    (hρ : ρ = allEnv (ss c I0 I1 RW BK q13 q14 (fi (s : Int)) q19 q20 q21 q22 q23 q24 q25 q26 q27 q28 q29 q30 q31 q32)) : evalE T ρ leE = some (.bool (decide (c.f * s ≤ c.f * c.lg + 1))) := by
  subst hρ
  have hadd : binop .add (.int ((c.f * c.lg : Nat) : Int)) (.int 1) = some (.int ((c.f * c.lg + 1 : Nat) : Int)) := add_nat (b := 1)
  exact ev_cmp (ev_bin (ev_var rfl) (ev_var rfl) (mul_nat (by omega) (by omega))) (ev_bin (ev_bin (ev_var rfl) (ev_var rfl) (mul_nat (by omega) (by omega))) ev_cst hadd) le_nat
theorem and2 {ρ : Rho} {x y : E} {p q : Bool} (hx : evalE T ρ x = some (.bool p)) (hy : evalE T ρ y = some (.bool q)) : evalE T ρ (.and (.cons x (.cons y .nil))) = some (.bool (p && q)) := by
  cases p with
  | false => exact ev_and (and_f hx rfl)
  | true => exact ev_and (and_t hx rfl (and_1 hy))

theorem size_step {c : Hd} {I0 I1 : PV} {a b : Lead} (H : BodyT T c I0 I1 a b) {RW BK : List PV} {q13 q14 q19 q20 q21 q22 q23 q24 q25 q26 q27 q28 q29 q30 q31 q32 : Option Sl} {s : Nat} (s1 : 1 ≤ s) (s5 : s ≤ 5) (hR : RW.length ≤ 10) (hB : BK.length ≤ 10) :
    ∃ q28' q29' : Option Sl, execSs T fuel (ss c I0 I1 RW BK q13 q14 (fi (s : Int)) q19 q20 q21 q22 q23 q24 q25 q26 q27 q28 q29 q30 q31 q32) sizeB =
      some (ss c I0 I1 (RW ++ (lawR c.f a b s 1).map rowP) (BK ++ (lawR c.f b a s 1).map rowP) q13 q14 (fi (s : Int)) q19 q20 q21 q22 q23 q24 q25 q26 q27 q28' q29' q30 q31 q32, .next) := by
  obtain ⟨hsum, lev0, lev1, ha, hb, ma, mb, hf, hlg⟩ := H
  have A := bnds hf ma
  have B := bnds hf mb
  have hf3 : c.f ≤ 3 := by omega
  have hf1 : 1 ≤ c.f := by omega
  have hlg4 : c.lg ≤ 4 := by rw [hlg]; unfold lgOf; have := A.long; have := B.long; omega
  have hfs : c.f * s ≤ 3 * 5 := Nat.mul_le_mul hf3 s5
  have hfs1 : 1 ≤ c.f * s := Nat.mul_pos hf1 s1
  refine ⟨fi (lvl c.f a s : Nat), fi (lvl c.f b s : Nat), ?_⟩
  have hit7 : ∀ q28 q29 : Option Sl, evalIt T (frzEnv (ss c I0 I1 RW BK q13 q14 (fi (s : Int)) q19 q20 q21 q22 q23 q24 q25 q26 q27 q28 q29 q30 q31 q32)) (.e (.var 7)) = some [leadP a, leadP b] := fun uu uu => by
    rw [iE, ev_var (x := .list [leadP (leadOf c.w0), leadP (leadOf c.w1)]) rfl, ha, hb]; rfl
  refine ss_next (st_pairL (ev_comp2 (hit7 _ _) (one_ok hsum hf ma s1 s5) (one_ok hsum hf mb s1 s5)) (by decide : 28 < 33) (by decide : 29 < 33)) ?_
  have hit15 : evalIt T (allEnv (ss c I0 I1 RW BK q13 q14 (fi (s : Int)) q19 q20 q21 q22 q23 q24 q25 q26 q27 (fi (lvl c.f a s : Nat)) (fi (lvl c.f b s : Nat)) q30 q31 q32)) (.e (.var 15)) = some [I0, I1] := by
    rw [iE, ev_var (x := .list [I0, I1]) rfl]; rfl
  have hl0 := lev0 (c.f * s) hfs1 (by omega)
  have hl1 := lev1 (c.f * s) hfs1 (by omega)
  rw [A.lvl s s1 s5] at hl0
  rw [B.lvl s s1 s5] at hl1
  have hcol := ev_comp2 (T := T) (e := .meth (.var 21) 3 (.cons fsE .nil)) (t := .v 21) hit15 ⟨_, rfl, ev_meth1 (ev_var rfl) (ev_bin (ev_var rfl) (ev_var rfl) (mul_nat (a := c.f) (b := s) (by omega) (by omega))) hl0⟩ ⟨_, rfl, ev_meth1 (ev_var rfl) (ev_bin (ev_var rfl) (ev_var rfl) (mul_nat (a := c.f) (b := s) (by omega) (by omega))) hl1⟩
  have hlist : evalE T (allEnv (ss c I0 I1 RW BK q13 q14 (fi (s : Int)) q19 q20 q21 q22 q23 q24 q25 q26 q27 (fi (lvl c.f a s : Nat)) (fi (lvl c.f b s : Nat)) q30 q31 q32)) (.list (.cons (.var 28) (.cons (.var 29) .nil))) = some (.list [.int (lvl c.f a s : Nat), .int (lvl c.f b s : Nat)]) := by
    rw [vList, wTwo (ev_var (x := .int (lvl c.f a s : Nat)) rfl) (ev_var (x := .int (lvl c.f b s : Nat)) rfl)]; rfl
  refine ss_next (st_iff (ev_cmp hcol hlist ne_pair) rfl ss_end) ?_
  have t3 := and2 (T := T) (ev_cmp (ρ := allEnv (ss c I0 I1 RW BK q13 q14 (fi (s : Int)) q19 q20 q21 q22 q23 q24 q25 q26 q27 (fi (lvl c.f a s : Nat)) (fi (lvl c.f b s : Nat)) q30 q31 q32)) (a := .var 28) (b := .var 29) (ev_var (x := .int (lvl c.f a s : Nat)) rfl) (ev_var (x := .int (lvl c.f b s : Nat)) rfl) ge_nat) (le_bool hf3 s5 hlg4 rfl)
  have r3 : lawR c.f a b s 1 = if (decide (lvl c.f b s ≤ lvl c.f a s) && decide (c.f * s ≤ c.f * c.lg + 1)) = true then [(c.f * s, lvl c.f a s, lvl c.f b s)] else [] := by
    unfold lawR
    rw [hlg, List.range'_one, List.filter_cons, List.filter_nil]
    by_cases q : (decide (lvl c.f b s ≤ lvl c.f a s) && decide (c.f * s ≤ c.f * lgOf a b + 1)) = true
    · rw [if_pos q, if_pos q]; rfl
    · rw [if_neg q, if_neg q]; rfl
  have lgc : lgOf b a = lgOf a b := by unfold lgOf; omega
  have r4 : lawR c.f b a s 1 = if (decide (lvl c.f a s ≤ lvl c.f b s) && decide (c.f * s ≤ c.f * c.lg + 1)) = true then [(c.f * s, lvl c.f b s, lvl c.f a s)] else [] := by
    unfold lawR
    rw [hlg, lgc, List.range'_one, List.filter_cons, List.filter_nil]
    by_cases q : (decide (lvl c.f a s ≤ lvl c.f b s) && decide (c.f * s ≤ c.f * lgOf a b + 1)) = true
    · rw [if_pos q, if_pos q]; rfl
    · rw [if_neg q, if_neg q]; rfl
  refine ss_next (σ' := ss c I0 I1 (RW ++ (lawR c.f a b s 1).map rowP) BK q13 q14 (fi (s : Int)) q19 q20 q21 q22 q23 q24 q25 q26 q27 (fi (lvl c.f a s : Nat)) (fi (lvl c.f b s : Nat)) q30 q31 q32) ?_ ?_
  · cases q : (decide (lvl c.f b s ≤ lvl c.f a s) && decide (c.f * s ≤ c.f * c.lg + 1)) with
    | true =>
      rw [q] at t3
      rw [r3, q, if_pos rfl]
      refine st_ift t3 rfl (ss_next (st_app (l := RW) rfl (ev_tup3 (ev_bin (ev_var rfl) (ev_var rfl) (mul_nat (a := c.f) (b := s) (by omega) (by omega))) (ev_var rfl) (ev_var rfl)) (Nat.lt_of_le_of_lt hR (by decide))) ss_end)
    | false =>
      rw [q] at t3
      rw [r3, q, if_neg (by simp), List.map_nil, List.append_nil]
      exact st_iff t3 rfl ss_end
  have t4 := and2 (T := T) (ev_cmp (ρ := allEnv (ss c I0 I1 (RW ++ (lawR c.f a b s 1).map rowP) BK q13 q14 (fi (s : Int)) q19 q20 q21 q22 q23 q24 q25 q26 q27 (fi (lvl c.f a s : Nat)) (fi (lvl c.f b s : Nat)) q30 q31 q32)) (a := .var 29) (b := .var 28) (ev_var (x := .int (lvl c.f b s : Nat)) rfl) (ev_var (x := .int (lvl c.f a s : Nat)) rfl) ge_nat) (le_bool hf3 s5 hlg4 rfl)
  refine ss_next ?_ ss_end
  cases q : (decide (lvl c.f a s ≤ lvl c.f b s) && decide (c.f * s ≤ c.f * c.lg + 1)) with
  | true =>
    rw [q] at t4
    rw [r4, q, if_pos rfl]
    refine st_ift t4 rfl (ss_next (st_app (l := BK) rfl (ev_tup3 (ev_bin (ev_var rfl) (ev_var rfl) (mul_nat (a := c.f) (b := s) (by omega) (by omega))) (ev_var rfl) (ev_var rfl)) (Nat.lt_of_le_of_lt hB (by decide))) ss_end)
  | false =>
    rw [q] at t4
    rw [r4, q, if_neg (by simp), List.map_nil, List.append_nil]
    exact st_iff t4 rfl ss_end
theorem lawR_succ (f : Nat) (a b : Lead) (i k : Nat) : lawR f a b i (k + 1) = lawR f a b i 1 ++ lawR f a b (i + 1) k := by
  unfold lawR
  rw [List.range'_succ, List.range'_one, List.filter_cons, List.filter_cons, List.filter_nil]
  split <;> rfl
theorem size_run {c : Hd} {I0 I1 : PV} {a b : Lead} (H : BodyT T c I0 I1 a b) {q13 q14 q19 q20 q21 q22 q23 q24 q25 q26 q27 q30 q31 q32 : Option Sl} : ∀ (k i : Nat) (RW BK : List PV) (q18 q28 q29 : Option Sl), 1 ≤ i → i + k ≤ 6 → RW.length < i → BK.length < i →
    ∃ q18' q28' q29' : Option Sl, forL (fun σ y => (bindS σ (.v 18) y).bind fun σ' => execSs T fuel σ' sizeB) (idx i k) (ss c I0 I1 RW BK q13 q14 q18 q19 q20 q21 q22 q23 q24 q25 q26 q27 q28 q29 q30 q31 q32) =
      some (ss c I0 I1 (RW ++ (lawR c.f a b i k).map rowP) (BK ++ (lawR c.f b a i k).map rowP) q13 q14 q18' q19 q20 q21 q22 q23 q24 q25 q26 q27 q28' q29' q30 q31 q32, .next)
  | 0, i, RW, BK, q18, q28, q29, _, _, _, _ => ⟨q18, q28, q29, by
    have : ∀ a b : Lead, lawR c.f a b i 0 = [] := fun uu uu => rfl
    rw [this, this, List.map_nil, List.append_nil, List.append_nil]; rfl⟩
  | k + 1, i, RW, BK, q18, q28, q29, h1, h2, h3, h4 => by
    have hb : bindS (ss c I0 I1 RW BK q13 q14 q18 q19 q20 q21 q22 q23 q24 q25 q26 q27 q28 q29 q30 q31 q32) (.v 18) (.int (i : Int)) = some (ss c I0 I1 RW BK q13 q14 (fi (i : Int)) q19 q20 q21 q22 q23 q24 q25 q26 q27 q28 q29 q30 q31 q32) := rfl
    obtain ⟨u1, u2, e⟩ := size_step (fuel := fuel) H (RW := RW) (BK := BK) (q13 := q13) (q14 := q14) (q19 := q19) (q20 := q20) (q21 := q21) (q22 := q22) (q23 := q23) (q24 := q24) (q25 := q25) (q26 := q26) (q27 := q27) (q28 := q28) (q29 := q29) (q30 := q30) (q31 := q31) (q32 := q32) h1 (by omega) (by omega) (by omega)
    have one : ∀ a b : Lead, ((lawR c.f a b i 1).map rowP).length ≤ 1 := fun a b => by
      unfold lawR; rw [List.length_map, List.length_map, List.range'_one]
      exact List.length_filter_le _ _
    have o1 := one a b
    have o2 := one b a
    obtain ⟨v0, v1, v2, ih⟩ := size_run H (q13 := q13) (q14 := q14) (q19 := q19) (q20 := q20) (q21 := q21) (q22 := q22) (q23 := q23) (q24 := q24) (q25 := q25) (q26 := q26) (q27 := q27) (q30 := q30) (q31 := q31) (q32 := q32) k (i + 1) (RW ++ (lawR c.f a b i 1).map rowP) (BK ++ (lawR c.f b a i 1).map rowP) (fi (i : Int)) u1 u2 (by omega) (by omega) (by rw [List.length_append]; omega) (by rw [List.length_append]; omega)
    refine ⟨v0, v1, v2, ?_⟩
    rw [Lev.idx_s, fCons, hb, Option.bind_some, e, Option.bind_some]
    dsimp only
    rw [ih, lawR_succ c.f a b i k, lawR_succ c.f b a i k, List.map_append, List.map_append, List.append_assoc, List.append_assoc]
end L2
end Mp
end

section
set_option maxRecDepth 100000
/-! Law 2, pure: the ends of a turn of the main loop. -/
namespace Mp
open PySem
open Lev
namespace L2
variable {T : Tabs} {fuel : Nat}

noncomputable def witE (i j : Int) : E := .comp (.var 30) (.v 30) (.e (.meth (.sub (.var 15) (.cst (.int i))) 7 (.cons (.sub (.var 15) (.cst (.int j))) .nil))) (.cmp .eq (.bin .mod (.sub (.var 30) (.cst (.int 0))) (.var 12)) (.cst (.int 0)))
noncomputable def endB : Ss := (.cons (.ite (.cmp .ne (witE 0 1) (.var 16)) (.cons (.ret (.cst (.bool false)))
 .nil) .nil)
 (.cons (.ite (.cmp .ne (witE 1 0) (.var 17)) (.cons (.ret (.cst (.bool false)))
 .nil) .nil)
 (.cons (.asg .frz (.v 19) (.comp (.tup (.cons (.call 4 (.cons (.var 26) .nil)) (.cons (.var 27) .nil))) tt (.e (.var 7)) (.cst (.bool true))))
 (.cons (.ite (.cmp .isNot (.meth (.sub (.var 15) (.cst (.int 0))) 4 (.cons (.sub (.var 15) (.cst (.int 1))) .nil)) (.cmp .eq (.sub (.var 19) (.cst (.int 0))) (.sub (.var 19) (.cst (.int 1))))) (.cons (.ret (.cst (.bool false)))
 .nil) .nil)
 .nil))))
noncomputable abbrev ilI (f : Nat) (l : Lead) : Nat → Int := fun t => (ilv f l t : Nat)
noncomputable def witL (f : Nat) (a b : Lead) : List PV := ((List.range' 1 (f * lgOf a b + 1)).filter fun t => decide (ilI f b t ≤ ilI f a t)).map (row3 (ilI f a) (ilI f b))
noncomputable def rowQ (f : Nat) : PV → Bool
  | .tup (.int t :: _) => decide (t.toNat % f = 0)
  | _ => false
theorem wit_eq (f : Nat) (a b : Lead) : ((witL f a b).filter (rowQ f)).map (fun v => v) = (witR f a b).map rowP := by
  unfold witL witR
  rw [List.map_id'', List.filter_map, List.map_map]
  · have e1 : (List.range' 1 (f * lgOf a b + 1)).filter (fun t => decide (ilI f b t ≤ ilI f a t)) = (List.range' 1 (f * lgOf a b + 1)).filter fun t => decide (ilv f b t ≤ ilv f a t) := by
      apply List.filter_congr
      intro t _
      congr 1
      exact propext ⟨fun h => by have : ((ilv f b t : Nat) : Int) ≤ (ilv f a t : Nat) := h; omega, fun h => by show ((ilv f b t : Nat) : Int) ≤ (ilv f a t : Nat); omega⟩
    rw [e1]
    rfl
  · intro _; rfl
theorem witL_len {f : Nat} {a b : Lead} (hf : f ≤ 3) (h : lgOf a b ≤ 4) : (witL f a b).length ≤ 20 := by
  unfold witL
  rw [List.length_map]
  refine Nat.le_trans (List.length_filter_le _ _) ?_
  rw [List.length_range']
  have : f * lgOf a b ≤ 3 * 4 := Nat.mul_le_mul hf h
  omega
theorem wit_ev {ρ : Rho} {i j : Int} {I J : PV} {Is : List PV} {f : Nat} {a b : Lead} (hf : f = 1 ∨ f = 2 ∨ f = 3) (h15 : (ρ[15]?).join = some (.list Is)) (h12 : (ρ[12]?).join = some (.int (f : Int))) (hlen : ρ.length = 33) (hi : subscr (.list Is) (.int i) = some I) (hj : subscr (.list Is) (.int j) = some J)
    (hw : T.meth 7 I [J] = some (.list (witL f a b))) (hL : (witL f a b).length ≤ 20) : evalE T ρ (witE i j) = some (.list ((witR f a b).map rowP)) := by
  have hit : evalIt T ρ (.e (.meth (.sub (.var 15) (.cst (.int i))) 7 (.cons (.sub (.var 15) (.cst (.int j))) .nil))) = some (witL f a b) := by
    rw [iE, ev_meth1 (ev_sub (ev_var h15) ev_cst hi) (ev_sub (ev_var h15) ev_cst hj) hw, Option.bind_some]
    show (if (witL f a b).length ≤ lim then some (witL f a b) else none) = _
    rw [if_pos (Nat.le_trans hL (by decide))]
  have h := ev_compf (T := T) (ρ := ρ) (e := .var 30) (c := .cmp .eq (.bin .mod (.sub (.var 30) (.cst (.int 0))) (.var 12)) (.cst (.int 0))) (t := .v 30) (f := fun v => v) (q := rowQ f) hit (fun x hx => by
    obtain ⟨t, uu, rfl⟩ := List.mem_map.mp hx
    have hb : bindT ρ (.v 30) (row3 (ilI f a) (ilI f b) t) = some ((ρ.set 30 none).set 30 (some (row3 (ilI f a) (ilI f b) t))) := by
      show (if 30 < (ρ.set 30 none).length then some ((ρ.set 30 none).set 30 (some (row3 (ilI f a) (ilI f b) t))) else none) = _
      rw [if_pos (by rw [List.length_set, hlen]; decide)]
    have g12 : (((ρ.set 30 none).set 30 (some (row3 (ilI f a) (ilI f b) t)))[12]?).join = some (.int (f : Int)) := by rw [List.getElem?_set_ne (by decide), List.getElem?_set_ne (by decide)]; exact h12
    have g30 : (((ρ.set 30 none).set 30 (some (row3 (ilI f a) (ilI f b) t)))[30]?).join = some (row3 (ilI f a) (ilI f b) t) := by rw [List.getElem?_set_self (by rw [List.length_set, hlen]; decide)]; rfl
    refine ⟨_, hb, ?_, ev_var g30⟩
    exact ev_cmp (ev_bin (ev_sub (ev_var g30) ev_cst (show subscr (row3 (ilI f a) (ilI f b) t) (.int 0) = some (.int (t : Int)) from rfl)) (ev_var g12) (mod_nat (by omega))) ev_cst (eq_nat (y := 0)))
  rw [show witE i j = .comp (.var 30) (.v 30) _ _ from rfl, h, wit_eq]

structure EndT (T : Tabs) (c : Hd) (I0 I1 : PV) (a b : Lead) : Prop where
  w01 : T.meth 7 I0 [I1] = some (.list (witL c.f a b))
  w10 : T.meth 7 I1 [I0] = some (.list (witL c.f b a))
  eq : T.meth 4 I0 [I1] = some (.bool (eqv (normP c.f a) (normP c.f b)))
  sort : ∀ l ∈ leads, T.call 4 [iL l.1] = some (sortP l)
theorem end_ok {c : Hd} {I0 I1 : PV} {a b : Lead} (H : BodyT T c I0 I1 a b) (K : EndT T c I0 I1 a b) {q13 q14 q18 q19 q20 q21 q22 q23 q24 q25 q26 q27 q28 q29 q30 q31 q32 : Option Sl} :
    ∃ q19' : Option Sl, execSs T fuel (ss c I0 I1 ((lawR c.f a b 1 (c.lg + 1)).map rowP) ((lawR c.f b a 1 (c.lg + 1)).map rowP) q13 q14 q18 q19 q20 q21 q22 q23 q24 q25 q26 q27 q28 q29 q30 q31 q32) endB =
      some (ss c I0 I1 ((lawR c.f a b 1 (c.lg + 1)).map rowP) ((lawR c.f b a 1 (c.lg + 1)).map rowP) q13 q14 q18 q19' q20 q21 q22 q23 q24 q25 q26 q27 q28 q29 q30 q31 q32, .next) := by
  obtain ⟨hsum, lev0, lev1, ha, hb, ma, mb, hf, hlg⟩ := H
  have A := bnds hf ma
  have B := bnds hf mb
  have P1 := pair_all hf ma mb
  have P2 := pair_all hf mb ma
  unfold pairB at P1 P2
  obtain ⟨⟨⟨⟨r1, e1⟩, n1⟩, s1⟩, b1⟩ : ((((witR c.f a b == lawR c.f a b 1 (lgOf a b + 1)) = true ∧ (eqv (normP c.f a) (normP c.f b) == eqv (sameP a) (sameP b)) = true) ∧ okEq 20 (normP c.f a) = true) ∧ okEq 20 (sameP a) = true) ∧ (bfun 4 [iL a.1]).isSome = true := by simpa only [Bool.and_eq_true] using P1
  obtain ⟨⟨⟨⟨r2, e2⟩, n2⟩, s2⟩, b2⟩ : ((((witR c.f b a == lawR c.f b a 1 (lgOf b a + 1)) = true ∧ (eqv (normP c.f b) (normP c.f a) == eqv (sameP b) (sameP a)) = true) ∧ okEq 20 (normP c.f b) = true) ∧ okEq 20 (sameP b) = true) ∧ (bfun 4 [iL b.1]).isSome = true := by simpa only [Bool.and_eq_true] using P2
  have r1 := eqB r1
  have r2 := eqB r2
  have e1 := eqB e1
  have lgc : lgOf b a = lgOf a b := by unfold lgOf; omega
  have hlg4 : lgOf a b ≤ 4 := by unfold lgOf; have := A.long; have := B.long; omega
  rw [lgc] at r2
  rw [← hlg] at r1 r2
  refine ⟨some (.frz (.list [sameP a, sameP b])), ?_⟩
  have w1 := wit_ev (T := T) (ρ := allEnv (ss c I0 I1 ((lawR c.f a b 1 (c.lg + 1)).map rowP) ((lawR c.f b a 1 (c.lg + 1)).map rowP) q13 q14 q18 q19 q20 q21 q22 q23 q24 q25 q26 q27 q28 q29 q30 q31 q32)) (i := 0) (j := 1) (Is := [I0, I1]) hf rfl rfl rfl rfl rfl K.w01 (witL_len (by omega) hlg4)
  have w2 := wit_ev (T := T) (ρ := allEnv (ss c I0 I1 ((lawR c.f a b 1 (c.lg + 1)).map rowP) ((lawR c.f b a 1 (c.lg + 1)).map rowP) q13 q14 q18 q19 q20 q21 q22 q23 q24 q25 q26 q27 q28 q29 q30 q31 q32)) (i := 1) (j := 0) (Is := [I0, I1]) hf rfl rfl rfl rfl rfl K.w10 (witL_len (by omega) (by rw [lgc]; exact hlg4))
  rw [r1] at w1
  rw [r2] at w2
  refine ss_next (st_iff (ev_cmp w1 (ev_var rfl) (rowsP_ne _)) rfl ss_end) ?_
  refine ss_next (st_iff (ev_cmp w2 (ev_var rfl) (rowsP_ne _)) rfl ss_end) ?_
  have hit7 : evalIt T (frzEnv (ss c I0 I1 ((lawR c.f a b 1 (c.lg + 1)).map rowP) ((lawR c.f b a 1 (c.lg + 1)).map rowP) q13 q14 q18 q19 q20 q21 q22 q23 q24 q25 q26 q27 q28 q29 q30 q31 q32)) (.e (.var 7)) = some [leadP a, leadP b] := by
    rw [iE, ev_var (x := .list [leadP (leadOf c.w0), leadP (leadOf c.w1)]) rfl, ha, hb]; rfl
  refine ss_next (st_frz (ev_comp2 (e := .tup (.cons (.call 4 (.cons (.var 26) .nil)) (.cons (.var 27) .nil))) (t := tt) hit7 ⟨_, rfl, ev_tup2 (ev_call1 (ev_var rfl) (K.sort a ma)) (ev_var rfl)⟩ ⟨_, rfl, ev_tup2 (ev_call1 (ev_var rfl) (K.sort b mb)) (ev_var rfl)⟩) (by decide : 19 < 33)) ?_
  have hs : cmpop .eq (sameP a) (sameP b) = some (eqv (normP c.f a) (normP c.f b)) := by
    show (if okEq 20 (sameP a) && okEq 20 (sameP b) then some (eqv (sameP a) (sameP b)) else none) = _
    rw [s1, s2, e1]; rfl
  have hn : cmpop .isNot (.bool (eqv (normP c.f a) (normP c.f b))) (.bool (eqv (normP c.f a) (normP c.f b))) = some false := by
    show some (_ != _) = _
    simp
  exact ss_next (st_iff (ev_cmp (ev_meth1 (ev_sub (x := .list [I0, I1]) (ev_var rfl) ev_cst rfl) (ev_sub (x := .list [I0, I1]) (ev_var rfl) ev_cst rfl) K.eq) (ev_cmp (ev_sub (x := .list [sameP a, sameP b]) (ev_var rfl) ev_cst rfl) (ev_sub (x := .list [sameP a, sameP b]) (ev_var rfl) ev_cst rfl) hs) hn) rfl ss_end) ss_end
end L2
end Mp
end

section
set_option maxRecDepth 100000
/-! Law 2, pure: a turn of the main loop. -/
namespace Mp
open PySem
open Lev
namespace L2
theorem or_f {T : Tabs} {ρ : Rho} {e e' : E} {l : Es} {x y : PV} (h : evalE T ρ e = some x) (ht : truthy x = some false) (h' : evalOr T ρ (.cons e' l) = some y) : evalOr T ρ (.cons e (.cons e' l)) = some y := by
  rw [oTwo, h, Option.bind_some, ht, Option.bind_some]; exact h'
theorem or_1 {T : Tabs} {ρ : Rho} {e : E} {x : PV} (h : evalE T ρ e = some x) : evalOr T ρ (.cons e .nil) = some x := h
theorem ev_isInt {T : Tabs} {ρ : Rho} {e : E} {i : Int} (h : evalE T ρ e = some (.int i)) : evalE T ρ (.isBool e) = some (.bool false) := by
  show (evalE T ρ e).bind _ = _
  rw [h]; rfl

theorem zipF {f : Nat} (hf : f = 1 ∨ f = 2 ∨ f = 3) {c : Hd} (hc : c.f = f) {l : Lead} (hl : l ∈ leads) (raw : List Nat) (q13 q14 q15 q16 q17 q18 q19 q20 q22 q23 q24 q25 q28 q29 q30 q31 q32 : Option Sl) :
    execSs (tabs 6) fuel (sm c q13 q14 q15 q16 q17 q18 q19 q20 (some (.frz (instP f l raw))) q22 q23 q24 q25 (some (.frz (iL l.1))) (fi (l.2 : Int)) q28 q29 q30 q31 q32) zipB =
      some (sm c q13 q14 q15 q16 q17 q18 q19 q20 (some (.frz (instP f l raw))) (some (.frz (closedP f l))) (some (.frz (countsP f l))) q24 q25 (some (.frz (iL l.1))) (fi (l.2 : Int)) q28 q29 q30 q31 q32, .next) := by
  have e : ∀ k : Nat, c.f = k → { c with f := k } = c := fun k h => by (first | exact noS c | exact noB c | cases c); (first | exact noS h | exact noB h | cases h); rfl
  rcases hf with rfl | rfl | rfl
  · have h := List.map_inj_left.mp (zip_all1 3 c raw q13 q14 q15 q16 q17 q18 q19 q20 none q22 q23 q24 q25 none none q28 q29 q30 q31 q32) l hl
    rw [e 1 hc] at h
    exact h
  · have h := List.map_inj_left.mp (zip_all2 3 c raw q13 q14 q15 q16 q17 q18 q19 q20 none q22 q23 q24 q25 none none q28 q29 q30 q31 q32) l hl
    rw [e 2 hc] at h
    exact h
  · have h := List.map_inj_left.mp (zip_all3 3 c raw q13 q14 q15 q16 q17 q18 q19 q20 none q22 q23 q24 q25 none none q28 q29 q30 q31 q32) l hl
    rw [e 3 hc] at h
    exact h

noncomputable def txE : E := .comp (.call 30 (.cons (.comp (.bin .add (.var 10) (.bin .mul (.var 11) (.var 31))) (.v 31) (.e (.var 20)) (.cst (.bool true))) (.cons (.var 12) .nil))) (.v 20) (.e (.var 3)) (.cst (.bool true))
noncomputable def fdE : E := .bin .mul (.var 12) (.var 6)
noncomputable def mainB : Ss := (.cons (.asg .frz (.v 13) txE)
 (.cons (.asg .frz (.v 14) (.call 14 (.cons (.sub (.var 13) (.cst (.int 0))) (.cons (.sub (.var 13) (.cst (.int 1))) (.cons fdE .nil)))))
 (.cons (.ite (.or (.cons (.cmp .ne (.var 14) fdE) (.cons (.isBool (.var 14)) .nil))) (.cons (.ret (.cst (.bool false)))
 .nil) .nil)
 (.cons (.asg .frz (.v 14) (.call 14 (.cons (.sub (.var 13) (.cst (.int 1))) (.cons (.sub (.var 13) (.cst (.int 0))) (.cons (.var 5) .nil)))))
 (.cons (.ite (.and (.cons (.cmp .ne (.var 14) fdE) (.cons (.or (.cons (.cmp .le fdE (.var 5)) (.cons (.cmp .ne (.var 14) (.bin .add (.var 5) (.cst (.int 1)))) .nil))) .nil))) (.cons (.ret (.cst (.bool false)))
 .nil) .nil)
 (.cons (.asg .frz (.v 15) (.comp (.call 15 (.cons (.var 25) .nil)) (.v 25) (.e (.var 13)) (.cst (.bool true))))
 (.cons (.for (.t (.cons (.v 21) (.cons (.t (.cons (.v 26) (.cons (.v 27) .nil))) .nil))) (.zip (.var 15) (.var 7)) zipB)
 (.cons (.asg .new (.v 16) (.list .nil))
 (.cons (.asg .new (.v 17) (.list .nil))
 (.cons (.for (.v 18) (.range2 (.cst (.int 1)) (.bin .add (.var 8) (.cst (.int 2)))) sizeB)
 endB))))))))))

structure MainT (c : Hd) (T0 T1 : List Nat) (a b : Lead) : Prop where
  typ0 : (tabs 6).call 30 [.list (c.w0.map fun (k : Nat) => PV.int (c.first + c.step * (k : Int))), .int (c.f : Int)] = some (.str T0)
  typ1 : (tabs 6).call 30 [.list (c.w1.map fun (k : Nat) => PV.int (c.first + c.step * (k : Int))), .int (c.f : Int)] = some (.str T1)
  tell : (tabs 6).call 14 [.str T0, .str T1, .int ((c.f : Int) * c.lst)] = some (.int ((c.f : Int) * c.lst))
  told : ∃ r : Int, (tabs 6).call 14 [.str T1, .str T0, .int c.bd] = some (.int r) ∧ (r = (c.f : Int) * c.lst ∨ (c.bd < (c.f : Int) * c.lst ∧ r = c.bd + 1))
  mk0 : (tabs 6).call 15 [.str T0] = some (instP c.f a T0)
  mk1 : (tabs 6).call 15 [.str T1] = some (instP c.f b T1)
  lst : 0 ≤ c.lst ∧ c.lst ≤ 100
  stp : c.step = 1 ∨ c.step = -1
  l0 : c.w0.length ≤ 4
  l1 : c.w1.length ≤ 4
  k0 : ∀ x ∈ c.w0, x < 4
  k1 : ∀ x ∈ c.w1, x < 4

theorem syms_ok {T : Tabs} {c : Hd} {ρ : Rho} {w : List Nat} (hlen : ρ.length = 33) (h10 : (ρ[10]?).join = some (.int c.first)) (h11 : (ρ[11]?).join = some (.int c.step)) (h20 : (ρ[20]?).join = some (iL w)) (hs : c.step = 1 ∨ c.step = -1) (hw : w.length ≤ 4) (hk : ∀ x ∈ w, x < 4) :
    evalE T ρ (.comp (.bin .add (.var 10) (.bin .mul (.var 11) (.var 31))) (.v 31) (.e (.var 20)) (.cst (.bool true))) = some (.list (w.map fun (k : Nat) => PV.int (c.first + c.step * (k : Int)))) := by
  have hit : evalIt T ρ (.e (.var 20)) = some (w.map fun (n : Nat) => PV.int (n : Int)) := by
    rw [iE, ev_var h20, Option.bind_some]
    show (if (w.map fun (n : Nat) => PV.int (n : Int)).length ≤ lim then some _ else none) = _
    rw [if_pos (by rw [List.length_map]; exact Nat.le_trans hw (by decide))]
  have h := ev_comp (T := T) (ρ := ρ) (e := .bin .add (.var 10) (.bin .mul (.var 11) (.var 31))) (t := .v 31) (f := fun v => match v with | .int k => .int (c.first + c.step * k) | _ => .none) hit (fun x hx => by
    obtain ⟨r, hr, rfl⟩ := List.mem_map.mp hx
    have hr4 := hk r hr
    have hb : bindT ρ (.v 31) (.int (r : Int)) = some ((ρ.set 31 none).set 31 (some (.int (r : Int)))) := by
      show (if 31 < (ρ.set 31 none).length then some ((ρ.set 31 none).set 31 (some (.int (r : Int)))) else none) = _
      rw [if_pos (by rw [List.length_set, hlen]; decide)]
    have get : ∀ i : Nat, i ≠ 31 → ((ρ.set 31 none).set 31 (some (PV.int (r : Int))))[i]? = ρ[i]? := fun i hi => by rw [List.getElem?_set_ne (Ne.symm hi), List.getElem?_set_ne (Ne.symm hi)]
    have g31 : (((ρ.set 31 none).set 31 (some (PV.int (r : Int))))[31]?).join = some (.int (r : Int)) := by rw [List.getElem?_set_self (by rw [List.length_set, hlen]; decide)]; rfl
    have hm : binop .mul (.int c.step) (.int (r : Int)) = some (.int (c.step * (r : Int))) := by
      show (if smallI c.step && smallI (r : Int) then some (PV.int (c.step * (r : Int))) else none) = _
      rw [small_int (i := c.step) (by omega), small_nat (Nat.le_trans (Nat.le_of_lt hr4) (by decide))]; rfl
    exact ⟨_, hb, ev_bin (ev_var (by rw [get 10 (by decide)]; exact h10)) (ev_bin (ev_var (by rw [get 11 (by decide)]; exact h11)) (ev_var g31) hm) rfl⟩)
  rw [h, List.map_map]
  rfl

theorem main_step {c : Hd} {T0 T1 : List Nat} {a b : Lead} (M : MainT c T0 T1 a b) (H : BodyT (tabs 6) c (instP c.f a T0) (instP c.f b T1) a b) (K : EndT (tabs 6) c (instP c.f a T0) (instP c.f b T1) a b) {q13 q14 q15 q16 q17 q18 q19 q20 q21 q22 q23 q24 q25 q26 q27 q28 q29 q30 q31 q32 : Option Sl} :
    ∃ q13' q14' q15' q16' q17' q18' q19' q21' q22' q23' q26' q27' q28' q29' : Option Sl, execSs (tabs 6) fuel (sm c q13 q14 q15 q16 q17 q18 q19 q20 q21 q22 q23 q24 q25 q26 q27 q28 q29 q30 q31 q32) mainB =
      some (sm c q13' q14' q15' q16' q17' q18' q19' q20 q21' q22' q23' q24 q25 q26' q27' q28' q29' q30 q31 q32, .next) := by
  have H' := H
  obtain ⟨hsum, lev0, lev1, ha, hb, ma, mb, hf, hlg⟩ := H
  have A := bnds hf ma
  have B := bnds hf mb
  have hlg4 : c.lg ≤ 4 := by rw [hlg]; unfold lgOf; have := A.long; have := B.long; omega
  obtain ⟨r, hr, hrr⟩ := M.told
  have hl := M.lst
  obtain ⟨v18, v28, v29, es⟩ := size_run (T := tabs 6) (fuel := fuel) H' (q13 := some (.frz (.list [.str T0, .str T1]))) (q14 := fi r) (q19 := q19) (q20 := q20) (q21 := some (.frz (instP c.f b T1))) (q22 := some (.frz (closedP c.f b))) (q23 := some (.frz (countsP c.f b))) (q24 := q24) (q25 := q25) (q26 := some (.frz (iL b.1))) (q27 := fi (b.2 : Int)) (q30 := q30) (q31 := q31) (q32 := q32) (c.lg + 1) 1 [] [] q18 q28 q29 (Nat.le_refl _) (by omega) (by simp) (by simp)
  rw [List.nil_append, List.nil_append] at es
  obtain ⟨v19, ee⟩ := end_ok (T := tabs 6) (fuel := fuel) H' K (q13 := some (.frz (.list [.str T0, .str T1]))) (q14 := fi r) (q18 := v18) (q19 := q19) (q20 := q20) (q21 := some (.frz (instP c.f b T1))) (q22 := some (.frz (closedP c.f b))) (q23 := some (.frz (countsP c.f b))) (q24 := q24) (q25 := q25) (q26 := some (.frz (iL b.1))) (q27 := fi (b.2 : Int)) (q28 := v28) (q29 := v29) (q30 := q30) (q31 := q31) (q32 := q32)
  refine ⟨some (.frz (.list [.str T0, .str T1])), fi r, some (.frz (.list [instP c.f a T0, instP c.f b T1])), some (.own ((lawR c.f a b 1 (c.lg+1)).map rowP)), some (.own ((lawR c.f b a 1 (c.lg+1)).map rowP)), v18, v19, some (.frz (instP c.f b T1)), some (.frz (closedP c.f b)), some (.frz (countsP c.f b)), some (.frz (iL b.1)), fi (b.2 : Int), v28, v29, ?_⟩
  · have hit3 : evalIt (tabs 6) (frzEnv (sm c q13 q14 q15 q16 q17 q18 q19 q20 q21 q22 q23 q24 q25 q26 q27 q28 q29 q30 q31 q32)) (.e (.var 3)) = some [iL c.w0, iL c.w1] := by
      rw [iE, ev_var (x := .list [iL c.w0, iL c.w1]) rfl]; rfl
    refine ss_next (st_frz (ev_comp2 (t := .v 20) hit3 ⟨_, rfl, ev_call2 (syms_ok (c := c) rfl rfl rfl rfl M.stp M.l0 M.k0) (ev_var rfl) M.typ0⟩ ⟨_, rfl, ev_call2 (syms_ok (c := c) rfl rfl rfl rfl M.stp M.l1 M.k1) (ev_var rfl) M.typ1⟩) (by decide : 13 < 33)) ?_
    have hm : binop .mul (.int (c.f : Int)) (.int c.lst) = some (.int ((c.f : Int) * c.lst)) := by
      show (if smallI (c.f : Int) && smallI c.lst then some (PV.int ((c.f : Int) * c.lst)) else none) = _
      rw [small_nat (by omega), small_int (i := c.lst) (by omega)]; rfl
    refine ss_next (st_frz (ev_call3 (ev_sub (x := .list [.str T0, .str T1]) (ev_var rfl) ev_cst rfl) (ev_sub (x := .list [.str T0, .str T1]) (ev_var rfl) ev_cst rfl) (ev_bin (ev_var rfl) (ev_var rfl) hm) M.tell) (by decide : 14 < 33)) ?_
    refine ss_next (st_iff (ev_or (or_f (ev_cmp (ev_var rfl) (ev_bin (ev_var rfl) (ev_var rfl) hm) ne_int_same) rfl (or_1 (ev_isInt (ev_var rfl))))) rfl ss_end) ?_
    refine ss_next (st_frz (ev_call3 (ev_sub (x := .list [.str T0, .str T1]) (ev_var rfl) ev_cst rfl) (ev_sub (x := .list [.str T0, .str T1]) (ev_var rfl) ev_cst rfl) (ev_var rfl) hr) (by decide : 14 < 33)) ?_
    have hand : ∀ ρ : Rho, (ρ[14]?).join = some (.int r) → (ρ[12]?).join = some (.int (c.f : Int)) → (ρ[6]?).join = some (.int c.lst) → (ρ[5]?).join = some (.int c.bd) →
        evalE (tabs 6) ρ (.and (.cons (.cmp .ne (.var 14) fdE) (.cons (.or (.cons (.cmp .le fdE (.var 5)) (.cons (.cmp .ne (.var 14) (.bin .add (.var 5) (.cst (.int 1)))) .nil))) .nil))) = some (.bool false) := fun ρ h14 h12 h6 h5 => by
      have efd : evalE (tabs 6) ρ fdE = some (.int ((c.f : Int) * c.lst)) := ev_bin (ev_var h12) (ev_var h6) hm
      by_cases q : r = (c.f : Int) * c.lst
      · have := ev_cmp (T := tabs 6) (ρ := ρ) (o := .ne) (a := .var 14) (b := fdE) (z := false) (ev_var h14) efd (by rw [q]; exact ne_int_same)
        exact ev_and (and_f this rfl)
      · obtain ⟨q1, q2⟩ := hrr.resolve_left q
        have n1 : cmpop .ne (.int r) (.int ((c.f : Int) * c.lst)) = some true := by
          show some (!(r == (c.f : Int) * c.lst)) = _
          rw [beq_eq_false_iff_ne.mpr q]; rfl
        have n2 : cmpop .le (.int ((c.f : Int) * c.lst)) (.int c.bd) = some false := by
          show some (decide ((c.f : Int) * c.lst ≤ c.bd)) = _
          rw [decide_eq_false (by omega)]
        have n3 : cmpop .ne (.int r) (.int (c.bd + 1)) = some false := by rw [q2]; exact ne_int_same
        exact ev_and (and_t (ev_cmp (ev_var h14) efd n1) rfl (and_1 (ev_or (or_f (ev_cmp efd (ev_var h5) n2) rfl (or_1 (ev_cmp (ev_var h14) (ev_bin (ev_var h5) ev_cst rfl) n3))))))
    refine ss_next (st_iff (hand _ rfl rfl rfl rfl) rfl ss_end) ?_
    have hit13 : evalIt (tabs 6) (frzEnv (sm c (some (.frz (.list [.str T0, .str T1]))) (fi r) q15 q16 q17 q18 q19 q20 q21 q22 q23 q24 q25 q26 q27 q28 q29 q30 q31 q32)) (.e (.var 13)) = some [.str T0, .str T1] := by
      rw [iE, ev_var (x := .list [.str T0, .str T1]) rfl]; rfl
    refine ss_next (st_frz (ev_comp2 (e := .call 15 (.cons (.var 25) .nil)) (t := .v 25) hit13 ⟨_, rfl, ev_call1 (ev_var rfl) M.mk0⟩ ⟨_, rfl, ev_call1 (ev_var rfl) M.mk1⟩) (by decide : 15 < 33)) ?_
    have hz : evalFor (tabs 6) (sm c (some (.frz (.list [.str T0, .str T1]))) (fi r) (some (.frz (.list [instP c.f a T0, instP c.f b T1]))) q16 q17 q18 q19 q20 q21 q22 q23 q24 q25 q26 q27 q28 q29 q30 q31 q32) (.zip (.var 15) (.var 7)) = some [.tup [instP c.f a T0, leadP a], .tup [instP c.f b T1, leadP b]] := by
      rw [forZip, iZip, ev_var (x := .list [instP c.f a T0, instP c.f b T1]) rfl, Option.bind_some, ev_var (x := .list [leadP (leadOf c.w0), leadP (leadOf c.w1)]) rfl, ha, hb]; rfl
    have hzip : forL (fun σ y => (bindS σ (.t (.cons (.v 21) (.cons (.t (.cons (.v 26) (.cons (.v 27) .nil))) .nil))) y).bind fun σ' => execSs (tabs 6) fuel σ' zipB) [.tup [instP c.f a T0, leadP a], .tup [instP c.f b T1, leadP b]]
        (sm c (some (.frz (.list [.str T0, .str T1]))) (fi r) (some (.frz (.list [instP c.f a T0, instP c.f b T1]))) q16 q17 q18 q19 q20 q21 q22 q23 q24 q25 q26 q27 q28 q29 q30 q31 q32) =
        some (sm c (some (.frz (.list [.str T0, .str T1]))) (fi r) (some (.frz (.list [instP c.f a T0, instP c.f b T1]))) q16 q17 q18 q19 q20 (some (.frz (instP c.f b T1))) (some (.frz (closedP c.f b))) (some (.frz (countsP c.f b))) q24 q25 (some (.frz (iL b.1))) (fi (b.2 : Int)) q28 q29 q30 q31 q32, .next) := by
      rw [fCons]
      have hb1 : bindS (sm c (some (.frz (.list [.str T0, .str T1]))) (fi r) (some (.frz (.list [instP c.f a T0, instP c.f b T1]))) q16 q17 q18 q19 q20 q21 q22 q23 q24 q25 q26 q27 q28 q29 q30 q31 q32) (.t (.cons (.v 21) (.cons (.t (.cons (.v 26) (.cons (.v 27) .nil))) .nil))) (.tup [instP c.f a T0, leadP a]) =
          some (sm c (some (.frz (.list [.str T0, .str T1]))) (fi r) (some (.frz (.list [instP c.f a T0, instP c.f b T1]))) q16 q17 q18 q19 q20 (some (.frz (instP c.f a T0))) q22 q23 q24 q25 (some (.frz (iL a.1))) (fi (a.2 : Int)) q28 q29 q30 q31 q32) := rfl
      rw [hb1, Option.bind_some, zipF hf rfl ma, Option.bind_some]
      dsimp only
      rw [fCons]
      have hb2 : bindS (sm c (some (.frz (.list [.str T0, .str T1]))) (fi r) (some (.frz (.list [instP c.f a T0, instP c.f b T1]))) q16 q17 q18 q19 q20 (some (.frz (instP c.f a T0))) (some (.frz (closedP c.f a))) (some (.frz (countsP c.f a))) q24 q25 (some (.frz (iL a.1))) (fi (a.2 : Int)) q28 q29 q30 q31 q32) (.t (.cons (.v 21) (.cons (.t (.cons (.v 26) (.cons (.v 27) .nil))) .nil))) (.tup [instP c.f b T1, leadP b]) =
          some (sm c (some (.frz (.list [.str T0, .str T1]))) (fi r) (some (.frz (.list [instP c.f a T0, instP c.f b T1]))) q16 q17 q18 q19 q20 (some (.frz (instP c.f b T1))) (some (.frz (closedP c.f a))) (some (.frz (countsP c.f a))) q24 q25 (some (.frz (iL b.1))) (fi (b.2 : Int)) q28 q29 q30 q31 q32) := rfl
      rw [hb2, Option.bind_some, zipF hf rfl mb, Option.bind_some]
      dsimp only
      rfl
    refine ss_next (st_for hz hzip) ?_
    refine ss_next (st_new (l := []) rfl rfl rfl (Nat.zero_le _) (by decide : 16 < 33)) ?_
    refine ss_next (st_new (l := []) rfl rfl rfl (Nat.zero_le _) (by decide : 17 < 33)) ?_
    have hlast : binop .add (.int (c.lg : Int)) (.int 2) = some (.int ((1 + (c.lg + 1) : Nat) : Int)) := by
      rw [show 1 + (c.lg + 1) = c.lg + 2 by omega]; exact add_nat (b := 2)
    refine ss_next (st_for (for_r2 (i := 1) (n := c.lg + 1) ev_cst (ev_bin (ev_var rfl) ev_cst hlast) (by omega)) es) ?_
    exact ee
end L2
end Mp
end

section
set_option maxRecDepth 100000
/-! Law 2, pure: what the main loop asks of the tables. -/
namespace Mp
open PySem
open Lev
namespace L2

theorem len_tup (n : Nat) (l : List PV) (h : l.length ≤ 1000) : (tabs (n + 1)).call 0 [.tup l] = some (.int l.length) := by
  show (if l.length ≤ lim then some (PV.int l.length) else none) = _
  rw [if_pos (Nat.le_trans h (by decide))]
theorem lev_ok (n : Nat) {f : Nat} {l : Lead} (raw : List Nat) (hf : f = 1 ∨ f = 2 ∨ f = 3) (hl : l ∈ leads) (t : Nat) (t1 : 1 ≤ t) (t2 : t ≤ 16) : (tabs (n + 2)).meth 3 (instP f l raw) [.int (t : Int)] = some (.int (ilv f l t : Nat)) := by
  have B := bnds hf hl
  show (if 1 = 1 then callF (tabs (n + 1)) fuel 6 b_indent_level [instP f l raw, .int (t : Int)] else none) = _
  rw [if_pos rfl]
  exact il_ok (T := tabs (n + 1)) (tr := f * l.2) (nt := f * l.1.length) (cs := cnts f l) (len_tup n) rfl rfl (by omega) (by omega) B.len B.ent (B.il t t1 t2)
theorem mem_efs {f : Nat} (hf : f = 1 ∨ f = 2 ∨ f = 3) : f ∈ efs := by rcases hf with rfl | rfl | rfl <;> decide
theorem long_ok (n : Nat) {f : Nat} {l : Lead} (raw : List Nat) (hf : f = 1 ∨ f = 2 ∨ f = 3) (hl : l ∈ leads) : (tabs (n + 3)).meth 2 (instP f l raw) [] = some (.int ((f * longest l : Nat) : Int)) := by
  show (if 0 = 0 then callF (tabs (n + 2)) fuel b_longest_run_of_spaces_vars.length b_longest_run_of_spaces [instP f l raw] else none) = _
  rw [if_pos rfl]
  exact isIt_eq (List.all_eq_true.mp (List.all_eq_true.mp (long_all n raw) f (mem_efs hf)) l hl)
theorem wit01 (n : Nat) {f : Nat} {a b : Lead} (ra rb : List Nat) (hf : f = 1 ∨ f = 2 ∨ f = 3) (ha : a ∈ leads) (hb : b ∈ leads) : (tabs (n + 4)).meth 7 (instP f a ra) [instP f b rb] = some (.list (witL f a b)) := by
  have A := bnds hf ha
  have B := bnds hf hb
  have b1 := A.long
  have b2 := B.long
  have hm : lgOf a b ≤ 4 := by unfold lgOf; omega
  have hfm : f * lgOf a b ≤ 3 * 4 := Nat.mul_le_mul (by omega) hm
  have hmax : ∀ a b : Int, (tabs (n + 3)).call 2 [.int a, .int b] = some (.int (if b > a then b else a)) := fun uu uu => rfl
  have hNe : (if ((f * longest b : Nat) : Int) > ((f * longest a : Nat) : Int) then ((f * longest b : Nat) : Int) else ((f * longest a : Nat) : Int)) + 1 = ((f * lgOf a b + 1 : Nat) : Int) := by
    unfold lgOf
    rcases hf with rfl | rfl | rfl <;> split <;> omega
  show (if 1 = 1 then callF (tabs (n + 3)) fuel 5 b_not_less_witness [instP f a ra, instP f b rb] else none) = _
  rw [if_pos rfl, wit_less]
  exact wit_ok ge_op hmax (long_ok n ra hf ha) (long_ok n rb hf hb) hNe (fun t t1 t2 => lev_ok (n + 1) ra hf ha t t1 (by omega)) (fun t t1 t2 => lev_ok (n + 1) rb hf hb t t1 (by omega)) (by omega)
theorem eq_ok (n : Nat) {f : Nat} {a b : Lead} (ra rb : List Nat) (ha : okEq 20 (normP f a) = true) (hb : okEq 20 (normP f b) = true) : (tabs (n + 4)).meth 4 (instP f a ra) [instP f b rb] = some (.bool (eqv (normP f a) (normP f b))) := by
  show (if 1 = 1 then callF (tabs (n + 3)) fuel 2 b_equal [instP f a ra, instP f b rb] else none) = _
  rw [if_pos rfl]
  refine callF_of (σ := [some (.frz (instP f a ra)), some (.frz (instP f b rb))]) ?_
  show execSs (tabs (n + 3)) fuel [some (.frz (instP f a ra)), some (.frz (instP f b rb))] _ = _
  have he : cmpop .eq (normP f a) (normP f b) = some (eqv (normP f a) (normP f b)) := by
    show (if okEq 20 (normP f a) && okEq 20 (normP f b) then some (eqv (normP f a) (normP f b)) else none) = _
    rw [ha, hb]; rfl
  exact ss_stop (st_ret (ev_cmp (ev_attr (ev_var rfl) rfl) (ev_attr (ev_var rfl) rfl) he)) (ret_ne _)
theorem pairs {f : Nat} (hf : f = 1 ∨ f = 2 ∨ f = 3) {a : Lead} (ha : a ∈ leads) : okEq 20 (normP f a) = true ∧ (bfun 4 [iL a.1]).isSome = true := by
  have P := pair_all hf ha ha
  unfold pairB at P
  obtain ⟨⟨⟨uu, n1⟩, uu⟩, b1⟩ : ((((witR f a a == lawR f a a 1 (lgOf a a + 1)) = true ∧ (eqv (normP f a) (normP f a) == eqv (sameP a) (sameP a)) = true) ∧ okEq 20 (normP f a) = true) ∧ okEq 20 (sameP a) = true) ∧ (bfun 4 [iL a.1]).isSome = true := by simpa only [Bool.and_eq_true] using P
  exact ⟨n1, b1⟩

/-- what is known of the head of a turn -/
structure HdOk (c : Hd) : Prop where
  hf : c.f = 1 ∨ c.f = 2 ∨ c.f = 3
  l0 : c.w0.length ≤ 4
  l1 : c.w1.length ≤ 4
  k0 : ∀ x ∈ c.w0, x < 4
  k1 : ∀ x ∈ c.w1, x < 4
  lst : c.lst = Ed.D (tx c.w0) (tx c.w1)
  lg : c.lg = lgOf (leadOf c.w0) (leadOf c.w1)
  sym : (c.first = 255 ∧ c.step = -1 ∧ c.f = 1) ∨ (c.first = 256 ∧ c.step = 1)

theorem body_t {c : Hd} (h : HdOk c) (r0 r1 : List Nat) : BodyT (tabs 6) c (instP c.f (leadOf c.w0) r0) (instP c.f (leadOf c.w1) r1) (leadOf c.w0) (leadOf c.w1) where
  sum := sum_iL
  lev0 t t1 t2 := lev_ok 4 r0 h.hf (lead_mem _ (word_mem h.l0 h.k0)) t t1 t2
  lev1 t t1 t2 := lev_ok 4 r1 h.hf (lead_mem _ (word_mem h.l1 h.k1)) t t1 t2
  ha := rfl
  hb := rfl
  ma := lead_mem _ (word_mem h.l0 h.k0)
  mb := lead_mem _ (word_mem h.l1 h.k1)
  hf := h.hf
  lg := h.lg
theorem end_t {c : Hd} (h : HdOk c) (r0 r1 : List Nat) : EndT (tabs 6) c (instP c.f (leadOf c.w0) r0) (instP c.f (leadOf c.w1) r1) (leadOf c.w0) (leadOf c.w1) where
  w01 := wit01 2 r0 r1 h.hf (lead_mem _ (word_mem h.l0 h.k0)) (lead_mem _ (word_mem h.l1 h.k1))
  w10 := wit01 2 r1 r0 h.hf (lead_mem _ (word_mem h.l1 h.k1)) (lead_mem _ (word_mem h.l0 h.k0))
  eq := eq_ok 2 r0 r1 (pairs h.hf (lead_mem _ (word_mem h.l0 h.k0))).1 (pairs h.hf (lead_mem _ (word_mem h.l1 h.k1))).1
  sort l hl := by
    have := (pairs (.inl rfl : 1 = 1 ∨ 1 = 2 ∨ 1 = 3) hl).2
    show bfun 4 [iL l.1] = some ((bfun 4 [iL l.1]).getD .none)
    cases q : bfun 4 [iL l.1] with
    | none => rw [q] at this; cases this
    | some y => rfl
theorem typ_ok {c : Hd} (h : HdOk c) {w : List Nat} (hl : w.length ≤ 4) (hk : ∀ x ∈ w, x < 4) : (tabs 6).call 30 [.list (w.map fun (k : Nat) => PV.int (c.first + c.step * (k : Int))), .int (c.f : Int)] = some (.str (Ed.blow c.f (tx w))) := by
  have hf := h.hf
  rcases h.sym with ⟨h1, h2, h3⟩ | ⟨h1, h2⟩
  · have e : (w.map fun (k : Nat) => PV.int (c.first + c.step * (k : Int))) = symA w := by
      unfold symA
      apply List.map_congr_left
      intro k hk'
      have := hk k hk'
      rw [h1, h2]
      congr 1; omega
    rw [e, h3, Ed.blow1]
    exact typeA 3 hk hl
  · have e : (w.map fun (k : Nat) => PV.int (c.first + c.step * (k : Int))) = symB w := by
      unfold symB
      apply List.map_congr_left
      intro k hk'
      rw [h1, h2]
      congr 1; omega
    rw [e]
    exact typeB 3 (by omega) hk hl
theorem tx_okc (w : List Nat) (hk : ∀ x ∈ w, x < 4) : ∀ c ∈ tx w, okc c = true := fun c hc => by
  obtain ⟨x, hx, rfl⟩ := List.mem_map.mp hc
  have : ∀ x, x < 4 → okc (sgn x) = true := by decide
  exact this x (hk x hx)
theorem blow_okw {f : Nat} (hf : f = 1 ∨ f = 2 ∨ f = 3) {w : List Nat} (hl : w.length ≤ 4) (hk : ∀ x ∈ w, x < 4) : okw (Ed.blow f (tx w)) := by
  have h1 : (tx w).length ≤ 4 := by unfold tx; rw [List.length_map]; exact hl
  refine ⟨?_, fun c hc => ?_⟩
  · rw [Ed.blow_len]
    have := Nat.mul_le_mul (show f ≤ 3 by omega) h1
    omega
  · obtain ⟨x, hx, hc'⟩ := List.mem_flatMap.mp hc
    rw [List.eq_of_mem_replicate hc']
    exact tx_okc w hk x hx
theorem blow_l {f : Nat} (hf : f = 1 ∨ f = 2 ∨ f = 3) {w : List Nat} (hl : w.length ≤ 4) : (Ed.blow f (tx w)).length ≤ 40 := by
  have h1 : (tx w).length ≤ 4 := by unfold tx; rw [List.length_map]; exact hl
  rw [Ed.blow_len]
  have := Nat.mul_le_mul (show f ≤ 3 by omega) h1
  omega
theorem D_bound (a b : List Nat) : 0 ≤ Ed.D a b ∧ Ed.D a b ≤ 2 * ((a.length : Int) + b.length) := by
  refine ⟨(Ed.D_al a b).pos, ?_⟩
  have h := Ed.Al.app (Ed.al_nil a).comm (Ed.al_nil b)
  rw [List.append_nil, List.nil_append] at h
  have := Ed.D_le h
  omega
theorem mk_ok {f : Nat} (hf : f = 1 ∨ f = 2 ∨ f = 3) {w : List Nat} (hl : w.length ≤ 4) (hk : ∀ x ∈ w, x < 4) : (tabs 6).call 15 [.str (Ed.blow f (tx w))] = some (instP f (leadOf w) (Ed.blow f (tx w))) := by
  have hw := word_mem hl hk
  show mkInst (tabs 5) fuel b_init_vars.length b_init (.str (Ed.blow f (tx w))) = _
  rcases hf with rfl | rfl | rfl
  · exact isIt_eq (List.all_eq_true.mp (init1 3) w hw)
  · exact isIt_eq (List.all_eq_true.mp (init2 3) w hw)
  · exact isIt_eq (List.all_eq_true.mp (init3 3) w hw)
theorem main_t {c : Hd} (h : HdOk c) : MainT c (Ed.blow c.f (tx c.w0)) (Ed.blow c.f (tx c.w1)) (leadOf c.w0) (leadOf c.w1) where
  typ0 := typ_ok h h.l0 h.k0
  typ1 := typ_ok h h.l1 h.k1
  tell := by
    rw [lev_call 3 (blow_okw h.hf h.l0 h.k0) (blow_okw h.hf h.l1 h.k1)]
    have hD := Ed.D_blow c.f (tx c.w0) (tx c.w1)
    rw [← h.lst] at hD
    rcases Ed.lev_tells ((c.f : Int) * c.lst) (blow_l h.hf h.l0) (blow_l h.hf h.l1) with q | ⟨q, _⟩
    · rw [q, hD]
    · rw [hD] at q; exact absurd q (Int.lt_irrefl _)
  told := by
    refine ⟨_, lev_call 3 (blow_okw h.hf h.l1 h.k1) (blow_okw h.hf h.l0 h.k0), ?_⟩
    have hD := Ed.D_blow c.f (tx c.w0) (tx c.w1)
    rw [← h.lst, Ed.D_comm] at hD
    rw [← hD]
    exact Ed.lev_tells c.bd (blow_l h.hf h.l1) (blow_l h.hf h.l0)
  mk0 := mk_ok h.hf h.l0 h.k0
  mk1 := mk_ok h.hf h.l1 h.k1
  lst := by
    have := D_bound (tx c.w0) (tx c.w1)
    have e0 : (tx c.w0).length = c.w0.length := List.length_map _
    have e1 : (tx c.w1).length = c.w1.length := List.length_map _
    have h0 := h.l0
    have h1 := h.l1
    rw [h.lst]
    omega
  stp := by rcases h.sym with ⟨_, q, _⟩ | ⟨_, q⟩ <;> omega
  l0 := h.l0
  l1 := h.l1
  k0 := h.k0
  k1 := h.k1
/-- a turn of the main loop -/
theorem turn {c : Hd} (h : HdOk c) (q13 q14 q15 q16 q17 q18 q19 q20 q21 q22 q23 q24 q25 q26 q27 q28 q29 q30 q31 q32 : Option Sl) :
    ∃ q13' q14' q15' q16' q17' q18' q19' q21' q22' q23' q26' q27' q28' q29' : Option Sl, execSs (tabs 6) fuel (sm c q13 q14 q15 q16 q17 q18 q19 q20 q21 q22 q23 q24 q25 q26 q27 q28 q29 q30 q31 q32) mainB =
      some (sm c q13' q14' q15' q16' q17' q18' q19' q20 q21' q22' q23' q24 q25 q26' q27' q28' q29' q30 q31 q32, .next) :=
  main_step (main_t h) (body_t h _ _) (end_t h _ _)
end L2
end Mp
end

section
set_option maxRecDepth 100000
/-! Law 2, pure: the statements ahead of the main loop. -/
namespace Mp
open PySem
open Lev
namespace L2
variable {T : Tabs} {fuel : Nat}

noncomputable def drB : Ss := .cons (.setI .sc 1 (.var 2) (.bin .mod (.bin .add (.sub (.var 1) (.var 2)) (.sub (.var 0) (.var 2))) (.bin .pow (.cst (.int 10)) (.cst (.int 6))))) .nil
/-- the first three names, the others not yet bound -/
noncomputable def s33 (l : List Int) (p1 p2 : Option Sl) : Sig := some (.frz (.list (l.map .int))) :: p1 :: p2 :: List.replicate 30 none
noncomputable def ownI (l : List Int) : Option Sl := some (.own (l.map .int))
theorem draw_run {l : List Int} (hl : l.length ≤ 1000) : ∀ (k i : Nat) (dl : List Int) (p2 : Option Sl), i + k ≤ l.length → i + k ≤ dl.length → dl.length = 8 → (∀ d ∈ dl, 0 ≤ d) →
    ∃ (dl' : List Int) (p2' : Option Sl), forL (fun σ y => (bindS σ (.v 2) y).bind fun σ' => execSs T fuel σ' drB) (idx i k) (s33 l (ownI dl) p2) = some (s33 l (ownI dl') p2', .next) ∧ dl'.length = 8 ∧ ∀ d ∈ dl', 0 ≤ d
  | 0, i, dl, p2, _, _, h3, h4 => ⟨dl, p2, rfl, h3, h4⟩
  | k + 1, i, dl, p2, h1, h2, h3, h4 => by
    rw [Lev.idx_s, fCons]
    have hb : bindS (s33 l (ownI dl) p2) (.v 2) (.int (i : Int)) = some (s33 l (ownI dl) (fi (i : Int))) := rfl
    rw [hb, Option.bind_some]
    have i1 : i < dl.length := by omega
    have i2 : i < l.length := by omega
    have hpow : binop .pow (.int 10) (.int 6) = some (.int 1000000) := by kernel_rfl
    have hmod : binop .mod (.int (dl[i] + l[i])) (.int 1000000) = some (.int ((dl[i] + l[i]).fmod 1000000)) := rfl
    have st : execSs T fuel (s33 l (ownI dl) (fi (i : Int))) drB = some (s33 l (ownI (dl.set i ((dl[i] + l[i]).fmod 1000000))) (fi (i : Int)), .next) :=
      ss_next (st_setsc (ev_bin (ev_bin (ev_sub (ev_var rfl) (ev_var rfl) (row_get i1 (by omega))) (ev_sub (ev_var rfl) (ev_var rfl) (row_get i2 hl)) rfl) (ev_bin ev_cst ev_cst hpow) hmod) rfl (l := dl.map .int) rfl (ev_var rfl) (row_set i1 (by omega))) ss_end
    rw [st, Option.bind_some]
    dsimp only
    exact draw_run hl k (i + 1) (dl.set i ((dl[i] + l[i]).fmod 1000000)) (fi (i : Int)) (by omega) (by simp; omega) (by simp [h3]) fun d hd => by
      rcases List.mem_or_eq_of_mem_set hd with h | rfl
      · exact h4 d h
      · exact Int.fmod_nonneg_of_pos _ (by decide)

/-- a word told from four numbers -/
noncomputable def wordOf (l : List Nat) : List Nat := (l.filter fun x => decide (x % 5 ≠ 4)).map (· % 5)
theorem wordOf_len (l : List Nat) : (wordOf l).length ≤ l.length := by
  unfold wordOf; rw [List.length_map]; exact List.length_filter_le _ _
theorem wordOf_lt (l : List Nat) : ∀ x ∈ wordOf l, x < 4 := fun x hx => by
  obtain ⟨y, hy, rfl⟩ := List.mem_map.mp hx
  have := of_decide_eq_true (List.mem_filter.mp hy).2
  show y % 5 < 4
  omega
theorem slice0 (a b c d e f g h : PV) : slice (.list [a, b, c, d, e, f, g, h]) (.int 0) .none (.int 2) = some (.list [a, c, e, g]) := by kernel_rfl
theorem slice1 (a b c d e f g h : PV) : slice (.list [a, b, c, d, e, f, g, h]) (.int 1) .none (.int 2) = some (.list [b, d, f, h]) := by kernel_rfl
noncomputable def m5E : E := .bin .mod (.var 24) (.cst (.int 5))
noncomputable def pickE : E := .comp m5E (.v 24) (.e (.slice (.var 1) (.var 2) .abs (.cst (.int 2)))) (.cmp .ne m5E (.cst (.int 4)))
theorem pick_ok {ρ : Rho} {x : PV} {k : Int} {l : List Nat} (hlen : ρ.length = 33) (h1 : (ρ[1]?).join = some x) (h2 : (ρ[2]?).join = some (.int k)) (hs : slice x (.int k) .none (.int 2) = some (iL l)) (hl : l.length ≤ 4) : evalE T ρ pickE = some (iL (wordOf l)) := by
  have hit : evalIt T ρ (.e (.slice (.var 1) (.var 2) .abs (.cst (.int 2)))) = some (l.map fun (n : Nat) => PV.int (n : Int)) := by
    rw [iE, ev_slice (ev_var h1) (ev_var h2) ev_abs ev_cst hs, Option.bind_some]
    show (if (l.map fun (n : Nat) => PV.int (n : Int)).length ≤ lim then some _ else none) = _
    rw [if_pos (by rw [List.length_map]; exact Nat.le_trans hl (by decide))]
  have h := ev_compf (T := T) (ρ := ρ) (e := m5E) (c := .cmp .ne m5E (.cst (.int 4))) (t := .v 24) (f := fun v => match v with | .int r => .int ((r.toNat % 5 : Nat) : Int) | _ => .none) (q := fun v => match v with | .int r => decide (r.toNat % 5 ≠ 4) | _ => false) hit (fun x hx => by
    obtain ⟨r, hr, rfl⟩ := List.mem_map.mp hx
    have hb : bindT ρ (.v 24) (.int (r : Int)) = some ((ρ.set 24 none).set 24 (some (.int (r : Int)))) := by
      show (if 24 < (ρ.set 24 none).length then some ((ρ.set 24 none).set 24 (some (.int (r : Int)))) else none) = _
      rw [if_pos (by rw [List.length_set, hlen]; decide)]
    have g24 : (((ρ.set 24 none).set 24 (some (PV.int (r : Int))))[24]?).join = some (.int (r : Int)) := by rw [List.getElem?_set_self (by rw [List.length_set, hlen]; decide)]; rfl
    have em : evalE T ((ρ.set 24 none).set 24 (some (PV.int (r : Int)))) m5E = some (.int ((r % 5 : Nat) : Int)) := ev_bin (ev_var g24) ev_cst (mod_nat (b := 5) (by decide))
    exact ⟨_, hb, ev_cmp em ev_cst (ne_nat (y := 4)), em⟩)
  rw [show pickE = .comp m5E (.v 24) _ _ from rfl, h]
  unfold iL wordOf
  rw [List.filter_map, List.map_map, List.map_map]
  rfl
noncomputable def d5E : E := .comp (.bin .div (.var 24) (.cst (.int 5))) (.v 24) (.e (.var 1)) (.cst (.bool true))
theorem d5_ok {ρ : Rho} {l : List Nat} (hlen : ρ.length = 33) (h1 : (ρ[1]?).join = some (iL l)) (hl : l.length ≤ 8) : evalE T ρ d5E = some (iL (l.map (· / 5))) := by
  have hit : evalIt T ρ (.e (.var 1)) = some (l.map fun (n : Nat) => PV.int (n : Int)) := by
    rw [iE, ev_var h1, Option.bind_some]
    show (if (l.map fun (n : Nat) => PV.int (n : Int)).length ≤ lim then some _ else none) = _
    rw [if_pos (by rw [List.length_map]; exact Nat.le_trans hl (by decide))]
  have h := ev_comp (T := T) (ρ := ρ) (e := .bin .div (.var 24) (.cst (.int 5))) (t := .v 24) (f := fun v => match v with | .int r => .int ((r.toNat / 5 : Nat) : Int) | _ => .none) hit (fun x hx => by
    obtain ⟨r, hr, rfl⟩ := List.mem_map.mp hx
    have hb : bindT ρ (.v 24) (.int (r : Int)) = some ((ρ.set 24 none).set 24 (some (.int (r : Int)))) := by
      show (if 24 < (ρ.set 24 none).length then some ((ρ.set 24 none).set 24 (some (.int (r : Int)))) else none) = _
      rw [if_pos (by rw [List.length_set, hlen]; decide)]
    have g24 : (((ρ.set 24 none).set 24 (some (PV.int (r : Int))))[24]?).join = some (.int (r : Int)) := by rw [List.getElem?_set_self (by rw [List.length_set, hlen]; decide)]; rfl
    exact ⟨_, hb, ev_bin (ev_var g24) ev_cst (div_nat (b := 5) (by decide) (by decide))⟩)
  rw [show d5E = .comp _ (.v 24) _ _ from rfl, h]
  unfold iL
  rw [List.map_map, List.map_map]
  rfl
theorem leastT (n : Nat) : LeastT (tabs (n + 2)) where
  len w h := by
    show (if (w.map fun (n : Nat) => PV.int (n : Int)).length ≤ lim then some (PV.int (w.map fun (n : Nat) => PV.int (n : Int)).length) else none) = _
    rw [List.length_map, if_pos (Nat.le_trans h (by decide))]
  min _ _ := rfl
  parts w h := by
    show (if 1 = 1 then callF (tabs (n + 1)) L2.fuel b_law_parts_vars.length b_law_parts [iL w] else none) = _
    rw [if_pos rfl]
    exact parts_call n w h
theorem long_l : leads.all (fun l => isIt (bfun 2 [iL (l.1 ++ [l.2])]) (.int (longest l : Nat))) = true := by kernel_rfl
end L2
end Mp
end

section
set_option maxRecDepth 100000
/-! Law 2, pure: the whole. -/
namespace Mp
open PySem
open Lev
namespace L2

noncomputable def wordsE : E := .comp pickE (.v 2) (.e (.tup (.cons (.cst (.int 0)) (.cons (.cst (.int 1)) .nil)))) (.cst (.bool true))
noncomputable def bdE : E := .bin .sub (.bin .mod (.bin .div (.var 4) (.cst (.int 2))) (.cst (.int 26))) (.cst (.int 1))
noncomputable def lsE : E := .call 32 (.cons (.sub (.var 3) (.cst (.int 0))) (.cons (.sub (.var 3) (.cst (.int 1))) .nil))
noncomputable def ldsE : E := .comp (.call 33 (.cons (.var 20) .nil)) (.v 20) (.e (.var 3)) (.cst (.bool true))
noncomputable def lg1E : E := .call 2 (.cons (.bin .add (.var 26) (.list (.cons (.var 27) .nil))) .nil)
noncomputable def lgE : E := .call 2 (.cons (.comp lg1E tt (.e (.var 7)) (.cst (.bool true))) .nil)
noncomputable def ofE : E := .ite (.and (.cons (.cmp .eq (.bin .mod (.var 4) (.cst (.int 2))) (.cst (.int 1))) (.cons (.cmp .lt (.call 0 (.cons (.bin .add (.sub (.var 3) (.cst (.int 0))) (.sub (.var 3) (.cst (.int 1)))) .nil)) (.cst (.int 8))) .nil))) (.cst (.int 3)) (.cst (.int 2))
noncomputable def b3 : Tg := .t (.cons (.v 10) (.cons (.v 11) (.cons (.v 12) .nil)))
noncomputable def forI : It := .e (.tup (.cons (.tup (.cons (.cst (.int 255)) (.cons (.neg (.cst (.int 1))) (.cons (.cst (.int 1)) .nil)))) (.cons (.tup (.cons (.cst (.int 256)) (.cons (.cst (.int 1)) (.cons (.var 9) .nil)))) .nil)))
noncomputable def tailB : Ss := (.cons (.asg .frz (.v 5) bdE) (.cons (.asg .frz (.v 6) lsE) (.cons (.asg .frz (.v 7) ldsE) (.cons (.asg .frz (.v 8) lgE) (.cons (.asg .frz (.v 9) ofE)
 (.cons (.for b3 forI mainB) (.cons (.ret (.cst (.bool true))) .nil)))))))
noncomputable def restB : Ss := (.cons (.asg .frz (.v 3) wordsE) (.cons (.asg .frz (.v 4) (.call 3 (.cons d5E .nil))) tailB))
theorem law_split : b_law = (.cons (.asg .new (.v 1) (.list (.cons (.cst (.int 0)) (.cons (.cst (.int 1)) (.cons (.cst (.int 1)) (.cons (.cst (.int 0)) (.cons (.cst (.int 0)) (.cons (.cst (.int 3)) (.cons (.cst (.int 2)) (.cons (.cst (.int 4)) .nil))))))))))
 (.cons (.for (.v 2) (.range1 (.call 1 (.cons (.cst (.int 8)) (.cons (.call 0 (.cons (.var 0) .nil)) .nil)))) drB) (.cons (.frz 1) restB))) := rfl

/-- the first ten names -/
noncomputable def sf (q0 q1 q2 q3 q4 q5 q6 q7 q8 q9 : Option Sl) : Sig := q0 :: q1 :: q2 :: q3 :: q4 :: q5 :: q6 :: q7 :: q8 :: q9 :: List.replicate 23 none
theorem add_list {x y : List PV} (h : x.length + y.length ≤ 1000) : binop .add (.list x) (.list y) = some (.list (x ++ y)) := by
  show (if x.length + y.length ≤ lim then some (PV.list (x ++ y)) else none) = _
  rw [if_pos (Nat.le_trans h (by decide))]
theorem lt_nat {a b : Nat} : cmpop .lt (.int (a : Int)) (.int (b : Int)) = some (decide (a < b)) := by
  show some (decide ((a : Int) < (b : Int))) = _
  congr 2
  exact propext ⟨fun h => by omega, fun h => by omega⟩
theorem lg1_ok {ρ : Rho} {l : Lead} (hl : l ∈ leads) (h26 : (ρ[26]?).join = some (iL l.1)) (h27 : (ρ[27]?).join = some (.int (l.2 : Int))) : evalE (tabs 6) ρ lg1E = some (.int (longest l : Nat)) := by
  have B := bnds (.inl rfl : 1 = 1 ∨ 1 = 2 ∨ 1 = 3) hl
  have e1 : evalE (tabs 6) ρ (.list (.cons (.var 27) .nil)) = some (.list [.int (l.2 : Int)]) := by rw [vList, wOne (ev_var h27)]; rfl
  have e2 : binop .add (iL l.1) (.list [.int (l.2 : Int)]) = some (iL (l.1 ++ [l.2])) := by
    unfold iL
    rw [add_list (by rw [List.length_map]; have := B.runs; simp only [List.length_cons, List.length_nil]; omega), List.map_append]; rfl
  refine ev_call1 (ev_bin (ev_var h26) e1 e2) ?_
  exact isIt_eq (List.all_eq_true.mp long_l l hl)
theorem max2 (a b : Nat) : (tabs 6).call 2 [.list [.int (a : Int), .int (b : Int)]] = some (.int ((max a b : Nat) : Int)) := by
  have h : (tabs 6).call 2 [.list [.int (a : Int), .int (b : Int)]] = some (.int (if (b : Int) > (a : Int) then (b : Int) else (a : Int))) := rfl
  rw [h]
  congr 2
  split <;> omega

noncomputable def oftN (tot : Nat) (w0 w1 : List Nat) : Nat := if (decide (tot % 2 = 1) && decide (w0.length + w1.length < 8)) = true then 3 else 2
theorem of_ok {ρ : Rho} {w0 w1 : List Nat} {tot : Nat} (l0 : w0.length ≤ 4) (l1 : w1.length ≤ 4) (h3 : (ρ[3]?).join = some (.list [iL w0, iL w1])) (h4 : (ρ[4]?).join = some (.int (tot : Int))) : evalE (tabs 6) ρ ofE = some (.int (oftN tot w0 w1 : Nat)) := by
  have e1 : evalE (tabs 6) ρ (.cmp .eq (.bin .mod (.var 4) (.cst (.int 2))) (.cst (.int 1))) = some (.bool (decide (tot % 2 = 1))) := ev_cmp (ev_bin (ev_var h4) ev_cst (mod_nat (b := 2) (by decide))) ev_cst (eq_nat (y := 1))
  have ha : binop .add (iL w0) (iL w1) = some (iL (w0 ++ w1)) := by
    unfold iL
    rw [add_list (by rw [List.length_map, List.length_map]; omega), List.map_append]
  have hl : (tabs 6).call 0 [iL (w0 ++ w1)] = some (.int ((w0.length + w1.length : Nat) : Int)) := by
    show (if ((w0 ++ w1).map fun (n : Nat) => PV.int (n : Int)).length ≤ lim then some (PV.int ((w0 ++ w1).map fun (n : Nat) => PV.int (n : Int)).length) else none) = _
    rw [List.length_map, List.length_append, if_pos (Nat.le_trans (Nat.add_le_add l0 l1) (by decide))]
  have e2 : evalE (tabs 6) ρ (.cmp .lt (.call 0 (.cons (.bin .add (.sub (.var 3) (.cst (.int 0))) (.sub (.var 3) (.cst (.int 1)))) .nil)) (.cst (.int 8))) = some (.bool (decide (w0.length + w1.length < 8))) :=
    ev_cmp (ev_call1 (ev_bin (ev_sub (ev_var h3) ev_cst rfl) (ev_sub (ev_var h3) ev_cst rfl) ha) hl) ev_cst (lt_nat (b := 8))
  refine ev_ite (and2 e1 e2) rfl ?_
  unfold oftN
  cases decide (tot % 2 = 1) && decide (w0.length + w1.length < 8) with
  | true => show evalE (tabs 6) ρ (.cst (.int 3)) = _; exact ev_cst
  | false => show evalE (tabs 6) ρ (.cst (.int 2)) = _; exact ev_cst
theorem tail_ok (p0 p1 p2 : Option Sl) {w0 w1 : List Nat} (tot : Nat) (l0 : w0.length ≤ 4) (l1 : w1.length ≤ 4) (k0 : ∀ x ∈ w0, x < 4) (k1 : ∀ x ∈ w1, x < 4) :
    ∃ σ', execSs (tabs 6) fuel (sf p0 p1 p2 (some (.frz (.list [iL w0, iL w1]))) (fi (tot : Int)) none none none none none) tailB = some (σ', .ret (.bool true)) := by
  have m0 := lead_mem _ (word_mem l0 k0)
  have m1 := lead_mem _ (word_mem l1 k1)
  have lead : ∀ w : List Nat, w.length ≤ 4 → (∀ x ∈ w, x < 4) → (tabs 6).call 33 [iL w] = some (leadP (leadOf w)) := fun w l k => by
    show (if 1 = 1 then callF (tabs 5) fuel b_law_lead_vars.length b_law_lead [iL w] else none) = _
    rw [if_pos rfl]
    exact isIt_eq (List.all_eq_true.mp (lead_all 3) w (word_mem l k))
  have least : (tabs 6).call 32 [iL w0, iL w1] = some (.int (Ed.D (tx w0) (tx w1))) := by
    show (if 2 = 2 then callF (tabs 5) fuel 9 b_law_least [iL w0, iL w1] else none) = _
    rw [if_pos rfl]
    exact least_ok (leastT 3) l0 l1 k0 k1
  have hof : oftN tot w0 w1 = 1 ∨ oftN tot w0 w1 = 2 ∨ oftN tot w0 w1 = 3 := by
    unfold oftN; split
    · exact .inr (.inr rfl)
    · exact .inr (.inl rfl)
  have H1 : HdOk ⟨p0, p1, p2, fi (tot : Int), w0, w1, ((tot / 2 % 26 : Nat) : Int) - 1, Ed.D (tx w0) (tx w1), lgOf (leadOf w0) (leadOf w1), oftN tot w0 w1, 255, -1, 1⟩ :=
    ⟨.inl rfl, l0, l1, k0, k1, rfl, rfl, .inl ⟨rfl, rfl, rfl⟩⟩
  have H2 : HdOk ⟨p0, p1, p2, fi (tot : Int), w0, w1, ((tot / 2 % 26 : Nat) : Int) - 1, Ed.D (tx w0) (tx w1), lgOf (leadOf w0) (leadOf w1), oftN tot w0 w1, 256, 1, oftN tot w0 w1⟩ :=
    ⟨hof, l0, l1, k0, k1, rfl, rfl, .inr ⟨rfl, rfl⟩⟩
  obtain ⟨u13, u14, u15, u16, u17, u18, u19, u21, u22, u23, u26, u27, u28, u29, e1⟩ := turn H1 none none none none none none none none none none none none none none none none none none none none
  obtain ⟨v13, v14, v15, v16, v17, v18, v19, v21, v22, v23, v26, v27, v28, v29, e2⟩ := turn H2 u13 u14 u15 u16 u17 u18 u19 none u21 u22 u23 none none u26 u27 u28 u29 none none none
  refine ⟨sm ⟨p0, p1, p2, fi (tot : Int), w0, w1, ((tot / 2 % 26 : Nat) : Int) - 1, Ed.D (tx w0) (tx w1), lgOf (leadOf w0) (leadOf w1), oftN tot w0 w1, 256, 1, oftN tot w0 w1⟩ v13 v14 v15 v16 v17 v18 v19 none v21 v22 v23 none none v26 v27 v28 v29 none none none, ?_⟩
  refine ss_next (st_frz (ev_bin (ev_bin (ev_bin (ev_var rfl) ev_cst (div_nat (a := tot) (b := 2) (by decide) (by decide))) ev_cst (mod_nat (b := 26) (by decide))) ev_cst (show binop .sub (.int ((tot / 2 % 26 : Nat) : Int)) (.int 1) = some (.int (((tot / 2 % 26 : Nat) : Int) - 1)) from rfl)) (by decide : 5 < 33)) ?_
  refine ss_next (st_frz (ev_call2 (ev_sub (x := .list [iL w0, iL w1]) (ev_var rfl) ev_cst rfl) (ev_sub (x := .list [iL w0, iL w1]) (ev_var rfl) ev_cst rfl) least) (by decide : 6 < 33)) ?_
  have hit3 : ∀ ρ : Rho, (ρ[3]?).join = some (.list [iL w0, iL w1]) → evalIt (tabs 6) ρ (.e (.var 3)) = some [iL w0, iL w1] := fun ρ h => by
    rw [iE, ev_var h]; rfl
  refine ss_next (st_frz (ev_comp2 (t := .v 20) (hit3 _ rfl) ⟨_, rfl, ev_call1 (ev_var rfl) (lead w0 l0 k0)⟩ ⟨_, rfl, ev_call1 (ev_var rfl) (lead w1 l1 k1)⟩) (by decide : 7 < 33)) ?_
  have hit7 : ∀ ρ : Rho, (ρ[7]?).join = some (.list [leadP (leadOf w0), leadP (leadOf w1)]) → evalIt (tabs 6) ρ (.e (.var 7)) = some [leadP (leadOf w0), leadP (leadOf w1)] := fun ρ h => by
    rw [iE, ev_var h]; rfl
  refine ss_next (st_frz (ev_call1 (ev_comp2 (e := lg1E) (t := tt) (hit7 _ rfl) ⟨_, rfl, lg1_ok m0 rfl rfl⟩ ⟨_, rfl, lg1_ok m1 rfl rfl⟩) (max2 _ _)) (by decide : 8 < 33)) ?_
  refine ss_next (st_frz (of_ok l0 l1 rfl rfl) (by decide : 9 < 33)) ?_
  refine ss_next (st_for (xs := [.tup [.int 255, .int (-1), .int 1], .tup [.int 256, .int 1, .int (oftN tot w0 w1 : Nat)]]) ?_ ?_) (ss_stop (st_ret ev_cst) (ret_ne _))
  · rw [show forI = .e (.tup _) from rfl, forFrz (ev_tup2 (ev_tup3 ev_cst (ev_neg ev_cst) ev_cst) (ev_tup3 ev_cst ev_cst (ev_var (x := .int (oftN tot w0 w1 : Nat)) rfl)))]; rfl
  · rw [fCons]
    have hb1 : bindS (sm ⟨p0, p1, p2, fi (tot : Int), w0, w1, ((tot / 2 % 26 : Nat) : Int) - 1, Ed.D (tx w0) (tx w1), lgOf (leadOf w0) (leadOf w1), oftN tot w0 w1, 255, -1, 1⟩ u13 u14 u15 u16 u17 u18 u19 none u21 u22 u23 none none u26 u27 u28 u29 none none none) b3 (.tup [.int 256, .int 1, .int (oftN tot w0 w1 : Nat)]) =
        some (sm ⟨p0, p1, p2, fi (tot : Int), w0, w1, ((tot / 2 % 26 : Nat) : Int) - 1, Ed.D (tx w0) (tx w1), lgOf (leadOf w0) (leadOf w1), oftN tot w0 w1, 256, 1, oftN tot w0 w1⟩ u13 u14 u15 u16 u17 u18 u19 none u21 u22 u23 none none u26 u27 u28 u29 none none none) := rfl
    show (execSs (tabs 6) fuel (sm ⟨p0, p1, p2, fi (tot : Int), w0, w1, ((tot / 2 % 26 : Nat) : Int) - 1, Ed.D (tx w0) (tx w1), lgOf (leadOf w0) (leadOf w1), oftN tot w0 w1, 255, -1, 1⟩ none none none none none none none none none none none none none none none none none none none none) mainB).bind _ = _
    rw [e1, Option.bind_some]
    dsimp only
    rw [fCons, hb1, Option.bind_some, e2, Option.bind_some]
    rfl

theorem body_sum : ∀ l : List Nat, (tabs 6).call 3 [iL l] = some (.int ((l.sum : Nat) : Int)) := sum_iL
theorem rest_ok (p0 p2 : Option Sl) (d0 d1 d2 d3 d4 d5 d6 d7 : Nat) : ∃ σ', execSs (tabs 6) fuel (sf p0 (some (.frz (iL [d0, d1, d2, d3, d4, d5, d6, d7]))) p2 none none none none none none none) restB = some (σ', .ret (.bool true)) := by
  have s0 : slice (iL [d0, d1, d2, d3, d4, d5, d6, d7]) (.int 0) .none (.int 2) = some (iL [d0, d2, d4, d6]) := slice0 _ _ _ _ _ _ _ _
  have s1 : slice (iL [d0, d1, d2, d3, d4, d5, d6, d7]) (.int 1) .none (.int 2) = some (iL [d1, d3, d5, d7]) := slice1 _ _ _ _ _ _ _ _
  obtain ⟨σ', e⟩ := tail_ok p0 (some (.frz (iL [d0, d1, d2, d3, d4, d5, d6, d7]))) p2 ([d0, d1, d2, d3, d4, d5, d6, d7].map (· / 5)).sum
    (Nat.le_trans (wordOf_len [d0, d2, d4, d6]) (Nat.le_refl 4)) (Nat.le_trans (wordOf_len [d1, d3, d5, d7]) (Nat.le_refl 4)) (wordOf_lt _) (wordOf_lt _)
  refine ⟨σ', ?_⟩
  have hit : ∀ ρ : Rho, evalIt (tabs 6) ρ (.e (.tup (.cons (.cst (.int 0)) (.cons (.cst (.int 1)) .nil)))) = some [.int 0, .int 1] := fun ρ => by
    rw [iE, ev_tup2 ev_cst ev_cst]; rfl
  refine ss_next (st_frz (ev_comp2 (e := pickE) (t := .v 2) (hit _) ⟨_, rfl, pick_ok rfl rfl rfl s0 (Nat.le_refl 4)⟩ ⟨_, rfl, pick_ok rfl rfl rfl s1 (Nat.le_refl 4)⟩) (by decide : 3 < 33)) ?_
  have hsum : (tabs 6).call 3 [iL ([d0, d1, d2, d3, d4, d5, d6, d7].map (· / 5))] = some (.int ((([d0, d1, d2, d3, d4, d5, d6, d7].map (· / 5)).sum : Nat) : Int)) := (body_sum : ∀ l : List Nat, (tabs 6).call 3 [iL l] = some (.int ((l.sum : Nat) : Int))) _
  refine ss_next (st_frz (ev_call1 (d5_ok (l := [d0, d1, d2, d3, d4, d5, d6, d7]) rfl rfl (Nat.le_refl 8)) hsum) (by decide : 4 < 33)) ?_
  exact e

theorem nats : ∀ {l : List Int}, (∀ d ∈ l, 0 ≤ d) → ∃ n : List Nat, l = n.map fun (d : Nat) => (d : Int)
  | [], _ => ⟨[], rfl⟩
  | x :: l, h => by
    obtain ⟨n, rfl⟩ := nats fun d hd => h d (List.mem_cons_of_mem _ hd)
    obtain ⟨d, rfl⟩ := Int.eq_ofNat_of_zero_le (h x List.mem_cons_self)
    exact ⟨d :: n, rfl⟩
theorem len_succ {l : List Nat} {k : Nat} (h : l.length = k + 1) : ∃ d r, l = d :: r ∧ r.length = k := by
  cases l with
  | nil => exact absurd h (Nat.succ_ne_zero k).symm
  | cons d r => exact ⟨d, r, rfl, Nat.succ.inj h⟩
theorem eight {l : List Nat} (h : l.length = 8) : ∃ d0 d1 d2 d3 d4 d5 d6 d7, l = [d0, d1, d2, d3, d4, d5, d6, d7] := by
  obtain ⟨d0, l1, e1, h1⟩ := len_succ h
  obtain ⟨d1, l2, e2, h2⟩ := len_succ h1
  obtain ⟨d2, l3, e3, h3⟩ := len_succ h2
  obtain ⟨d3, l4, e4, h4⟩ := len_succ h3
  obtain ⟨d4, l5, e5, h5⟩ := len_succ h4
  obtain ⟨d5, l6, e6, h6⟩ := len_succ h5
  obtain ⟨d6, l7, e7, h7⟩ := len_succ h6
  obtain ⟨d7, l8, e8, h8⟩ := len_succ h7
  exact ⟨d0, d1, d2, d3, d4, d5, d6, d7, by rw [e1, e2, e3, e4, e5, e6, e7, e8, List.eq_nil_of_length_eq_zero h8]⟩
theorem pure2 (l : List Int) (hl : l.length ≤ 63) : callF (tabs 6) fuel b_law_vars.length b_law [.list (l.map .int)] = some (.bool true) := by
  have hlen : (tabs 6).call 0 [.list (l.map .int)] = some (.int l.length) := by
    show (if (l.map PV.int).length ≤ lim then some (PV.int (l.map PV.int).length) else none) = _
    rw [if_pos (by rw [List.length_map]; exact Nat.le_trans hl (by decide)), List.length_map]
  obtain ⟨dl, p2, e, h8, h0⟩ := draw_run (T := tabs 6) (fuel := fuel) (l := l) (by omega) (min 8 l.length) 0 [0, 1, 1, 0, 0, 3, 2, 4] none (by omega) (by simp; omega) rfl (by simp)
  have hm : (if (l.length : Int) < 8 then (l.length : Int) else 8) = ((min 8 l.length : Nat) : Int) := by split <;> omega
  have hc : evalE (tabs 6) (allEnv (s33 l (ownI [0, 1, 1, 0, 0, 3, 2, 4]) none)) (.call 1 (.cons (.cst (.int 8)) (.cons (.call 0 (.cons (.var 0) .nil)) .nil))) = some (.int ((min 8 l.length : Nat) : Int)) := by
    have h : (tabs 6).call 1 [.int 8, .int l.length] = some (.int (if (l.length : Int) < 8 then (l.length : Int) else 8)) := rfl
    rw [hm] at h
    exact ev_call2 ev_cst (ev_call1 (ev_var rfl) hlen) h
  obtain ⟨dn, rfl⟩ := nats h0
  rw [List.length_map] at h8
  obtain ⟨d0, d1, d2, d3, d4, d5, d6, d7, rfl⟩ := eight h8
  · obtain ⟨σ', er⟩ := rest_ok (some (.frz (.list (l.map .int)))) p2 d0 d1 d2 d3 d4 d5 d6 d7
    refine callF_of (σ := σ') ?_
    rw [law_split]
    show execSs (tabs 6) fuel (s33 l none none) _ = _
    refine ss_next (st_new (l := [0, 1, 1, 0, 0, 3, 2, 4].map .int) rfl rfl rfl (by decide) (by decide : 1 < 33)) ?_
    refine ss_next (st_for (for_r1 hc (by omega)) e) ?_
    refine ss_next (st_frzS (l := [(d0 : Int), d1, d2, d3, d4, d5, d6, d7].map .int) rfl) ?_
    exact er
end L2
end Mp
end

section
/-! Law 2: all of it. -/
end

theorem PySem.Challenge.cw_rw0082_02_holds : PySem.Challenge.rw_rw0082_02.Holds := by
  exact Mp.law2_of Mp.L2.pure2
