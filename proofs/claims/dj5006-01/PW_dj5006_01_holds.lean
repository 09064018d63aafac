import PyProof.Rows.All
import Wide.All
import OpenK.AllK
import Wide.FinOn
import PySem.Challenge.RW_dj5006_01
set_option Elab.async false

section
open PySem

namespace Mini

inductive V where
  | none
  | bool (b : Bool)
  | int (i : Int)
  | tupI (xs : List Int)
  | tupR (xs : List Nat)
  | ref (a : Nat)

abbrev Sto := Nat → Option (List V)
abbrev Frm := String → Option V

def upd (σ : Sto) (a : Nat) (xs : List V) : Sto := fun b => if b = a then some xs else σ b
def setv (ρ : Frm) (x : String) (v : V) : Frm := fun y => if y = x then some v else ρ y
def delv (ρ : Frm) (x : String) : Frm := fun y => if y = x then none else ρ y

def LIM : Nat := 2 ^ 20

inductive Blt where
  | len | sum | max | min | sorted | list | abs
inductive Meth where
  | pop | append | remove
def Meth.id : Meth → String
  | .pop => "list.pop" | .append => "list.append" | .remove => "list.remove"
def Blt.val : Blt → Value
  | .len => .builtin "len" | .sum => .builtin "sum" | .max => .builtin "max" | .min => .builtin "min" | .sorted => .builtin "sorted" | .list => .type "list" | .abs => .builtin "abs"
def Meth.name : Meth → Str
  | .pop => "pop" | .append => "append" | .remove => "remove"
def Blt.name : Blt → Str
  | .len => "len" | .sum => "sum" | .max => "max" | .min => "min" | .sorted => "sorted" | .list => "list" | .abs => "abs"

mutual
inductive ME where
  | none | bool (b : Bool) | int (i : Int) | var (x : String) | glob (x : String)
  | bin (op : Operator) (l r : ME) | neg (e : ME) | cmp (op : CmpOp) (l r : ME)
  | and (l r : ME) | or (l r : ME) | not (e : ME) | ite (c : MT) (a b : ME)
  | sub (o i : ME) | slFrom (o lo : ME) (st : Int) | slTo (o : ME) (hi : Int) | sl2 (o : ME) (lo hi : Int)
  | list (es : MEs) | tup (es : MEs)
  | comp (elt : ME) (x : String) (it : MI) (c : MT)
  | comp2 (elt : ME) (x : String) (it : MI) (y : String) (it2 : MI) (c : MT)
  | call (f : String) (args : MEs) | blt (f : Blt) (args : MEs) | meth (m : Meth) (o : ME) (args : MEs)
inductive MT where
  | tt | not (t : MT) | and (l r : MT) | or (l r : MT) | cmp (op : CmpOp) (l r : ME) | of (e : ME)
inductive MI where
  | r1 (e : ME) | r2 (a b : ME) | down (a b : ME) | rev (e : ME) | val (e : ME)
inductive MEs where
  | nil | cons (e : ME) (r : MEs)
end

mutual
inductive MS where
  | expr (e : ME) | asg (x : String) (e : ME) | sto (o i e : ME) | unpk (xs : List String) (e : ME)
  | ite (c : MT) (a b : MB) | whl (c : MT) (b : MB) | for_ (x : String) (it : MI) (b : MB)
  | ret (e : ME) | brk | cont
inductive MB where
  | nil | cons (s : MS) (r : MB)
end

inductive Fl where
  | next | brk | cont | ret (v : V)

/-! values -/

def truth (σ : Sto) : V → Option Bool
  | .none => some false
  | .bool b => some b
  | .ref a => (σ a).map fun xs => !xs.isEmpty
  | _ => Option.none

def ltL : List Int → List Int → Bool
  | [], [] => false
  | [], _ :: _ => true
  | _ :: _, [] => false
  | a :: as, b :: bs => if a = b then ltL as bs else decide (a < b)

def eqS : V → V → Option Bool
  | .int i, .int j => some (i == j)
  | .bool i, .bool j => some (i == j)
  | .tupI xs, .tupI ys => some (decide (xs = ys))
  | _, _ => Option.none

def intsOf : List V → Option (List Int)
  | [] => some []
  | .int i :: xs => (intsOf xs).map (i :: ·)
  | _ :: _ => Option.none

def eqLL (xs ys : List V) : Option Bool := if xs.length = ys.length then (match intsOf xs, intsOf ys with
    | some ns, some ms => some (decide (ns = ms))
    | _, _ => Option.none) else some false

def eqV (σ : Sto) : V → V → Option Bool
  | .ref a, .ref b => match σ a, σ b with
    | some xs, some ys => eqLL xs ys
    | _, _ => Option.none
  | x, y => eqS x y

def inV (a : V) : List V → Option Bool
  | [] => some false
  | x :: xs => match eqS x a, inV a xs with
    | some b, some c => some (b || c)
    | _, _ => Option.none

def isNone : V → Bool
  | .none => true
  | _ => false

def cmpV (σ : Sto) : CmpOp → V → V → Option Bool
  | .Lt, .int i, .int j => some (decide (i < j))
  | .Gt, .int i, .int j => some (decide (j < i))
  | .LtE, .int i, .int j => some (decide (i ≤ j))
  | .GtE, .int i, .int j => some (decide (j ≤ i))
  | .Lt, .tupI xs, .tupI ys => some (ltL xs ys)
  | .Eq, a, b => eqV σ a b
  | .NotEq, a, b => (eqV σ a b).map (!·)
  | .Is, a, .none => some (isNone a)
  | .IsNot, a, .none => some (!isNone a)
  | .In, a, .ref l => (σ l).bind (inV a)
  | .NotIn, a, .ref l => ((σ l).bind (inV a)).map (!·)
  | _, _, _ => Option.none

def small (i : Int) : Bool := decide (-536870912 ≤ i) && decide (i ≤ 536870912)

def binV : Operator → V → V → Option V
  | .Add, .int i, .int j => some (.int (i + j))
  | .Sub, .int i, .int j => some (.int (i - j))
  | .Mult, .int i, .int j => if small i && small j then some (.int (i * j)) else Option.none
  | .FloorDiv, .int i, .int j => if j = 0 ∨ small j = false then Option.none else some (.int (i.fdiv j))
  | .Mod, .int i, .int j => if j = 0 then Option.none else some (.int (i.fmod j))
  | .RShift, .int i, .int j => if 0 ≤ j then some (.int (i.fdiv (2 ^ j.toNat))) else Option.none
  | .Pow, .int i, .int j => if i = 2 ∧ 0 ≤ j ∧ j ≤ 1000 then some (.int (2 ^ j.toNat)) else Option.none
  | .BitAnd, .int i, .int j => some (.int (Builtin.bitAnd i j))
  | .BitOr, .int i, .int j => some (.int (Builtin.bitOr i j))
  | _, _, _ => Option.none

def subV (σ : Sto) : V → V → Option V
  | .ref l, .int i => (σ l).bind fun xs => if 0 ≤ i then xs[i.toNat]? else Option.none
  | .tupI xs, .int i => if 0 ≤ i ∧ i ≤ 1000 then (xs[i.toNat]?).map .int else Option.none
  | _, _ => Option.none

def alloc (B : Nat) (σ : Sto) (xs : List V) (Q : V → Sto → Prop) : Prop := ∀ a, B ≤ a → σ a = Option.none → Q (.ref a) (upd σ a xs)

def wpBin (B : Nat) (op : Operator) (a b : V) (σ : Sto) (Q : V → Sto → Prop) : Prop :=
  match op, a, b with
  | .Add, .ref x, .ref y => ∃ xs ys, σ x = some xs ∧ σ y = some ys ∧ xs.length + ys.length ≤ LIM ∧ alloc B σ (xs ++ ys) Q
  | .Mult, .ref x, .int n => ∃ xs, σ x = some xs ∧ 0 ≤ n ∧ n ≤ 1000 ∧ xs.length ≤ 1000 ∧ alloc B σ (List.replicate n.toNat xs).flatten Q
  | op, a, b => ∃ v, binV op a b = some v ∧ Q v σ

def gtV : V → V → Option Bool
  | .int i, .int j => some (decide (j < i))
  | .tupI xs, .tupI ys => some (ltL ys xs)
  | _, _ => Option.none
def ltV : V → V → Option Bool
  | .int i, .int j => some (decide (i < j))
  | _, _ => Option.none

def bestV (better : V → V → Option Bool) : V → List V → Option V
  | b, [] => some b
  | b, x :: xs => match better x b with
    | some true => bestV better x xs
    | some false => bestV better b xs
    | Option.none => Option.none

/-- all ints, or all tuples of ints -/
def sameKind : List V → Bool
  | .int _ :: xs => xs.all fun | .int _ => true | _ => false
  | .tupI _ :: xs => xs.all fun | .tupI _ => true | _ => false
  | _ => false

def wpBlt (B : Nat) (f : Blt) (vs : List V) (σ : Sto) (Q : V → Sto → Prop) : Prop :=
  match f, vs with
  | .len, [.ref a] => ∃ xs, σ a = some xs ∧ Q (.int xs.length) σ
  | .sum, [.ref a] => ∃ xs ns, σ a = some xs ∧ intsOf xs = some ns ∧ Q (.int ns.sum) σ
  | .max, [.ref a] => ∃ x xs v, σ a = some (x :: xs) ∧ sameKind (x :: xs) = true ∧ bestV gtV x xs = some v ∧ Q v σ
  | .min, [.ref a] => ∃ x xs ns v, σ a = some (x :: xs) ∧ intsOf (x :: xs) = some ns ∧ bestV ltV x xs = some v ∧ Q v σ
  | .max, [.int i, .int j] => Q (.int (if i < j then j else i)) σ
  | .min, [.int i, .int j] => Q (.int (if j < i then j else i)) σ
  | .sorted, [.ref a] => ∃ xs ns, σ a = some xs ∧ intsOf xs = some ns ∧ xs.length < 64 ∧ ∀ ns' : List Int, ns'.Perm ns → ns'.Pairwise (· ≤ ·) → alloc B σ (ns'.map .int) Q
  | .list, [.ref a] => ∃ xs, σ a = some xs ∧ alloc B σ xs Q
  | .list, [.tupI xs] => xs.length ≤ LIM ∧ alloc B σ (xs.map .int) Q
  | .abs, [.int i] => Q (.int (if i < 0 then -i else i)) σ
  | _, _ => False

def removeV (v : V) : List V → Option (List V)
  | [] => Option.none
  | x :: xs => match eqS x v with
    | some true => some xs
    | some false => (removeV v xs).map (x :: ·)
    | Option.none => Option.none

/-- all items may be held against v -/
def comparable (v : V) (xs : List V) : Bool := xs.all fun x => (eqS x v).isSome

def wpMeth (B : Nat) (m : Meth) (o : V) (vs : List V) (σ : Sto) (Q : V → Sto → Prop) : Prop :=
  match m, o, vs with
  | .pop, .ref a, [] => ∃ xs v, σ a = some (xs ++ [v]) ∧ B ≤ a ∧ Q v (upd σ a xs)
  | .append, .ref a, [v] => ∃ xs, σ a = some xs ∧ B ≤ a ∧ xs.length < LIM ∧ Q .none (upd σ a (xs ++ [v]))
  | .remove, .ref a, [v] => ∃ xs ys, σ a = some xs ∧ B ≤ a ∧ comparable v xs = true ∧ removeV v xs = some ys ∧ Q .none (upd σ a ys)
  | _, _, _ => False

def rng (a : Int) (n : Nat) : List V := (List.range n).map fun (i : Nat) => V.int (a + (i : Int))
def rngDown (a : Int) (n : Nat) : List V := (List.range n).map fun (i : Nat) => V.int (a - (i : Int))

def stable (src : Option Nat) (xs : List V) (σ : Sto) : Prop := match src with
  | Option.none => True
  | some a => σ a = some xs

def compL (step : V → Sto → List V → (Sto → List V → Prop) → Prop) (ok : Sto → Prop) (K : Sto → List V → Prop) : List V → Sto → List V → Prop
  | [], σ, acc => K σ acc
  | v :: vs, σ, acc => step v σ acc fun σ' acc' => ok σ' ∧ compL step ok K vs σ' acc'

structure Cx where
  B : Nat
  sp : String → List V → Sto → (V → Sto → Prop) → Prop
  gl : String → Option V
  kn : String → Bool

mutual
def wpE (C : Cx) : ME → Frm → Sto → (V → Sto → Prop) → Prop
  | .none, _, σ, Q => Q .none σ
  | .bool b, _, σ, Q => Q (.bool b) σ
  | .int i, _, σ, Q => Q (.int i) σ
  | .var x, ρ, σ, Q => ∃ v, ρ x = some v ∧ Q v σ
  | .glob x, _, σ, Q => ∃ v, C.gl x = some v ∧ Q v σ
  | .bin op l r, ρ, σ, Q => wpE C l ρ σ fun a σ1 => wpE C r ρ σ1 fun b σ2 => wpBin C.B op a b σ2 Q
  | .neg e, ρ, σ, Q => wpE C e ρ σ fun a σ1 => ∃ i, a = .int i ∧ Q (.int (-i)) σ1
  | .cmp op l r, ρ, σ, Q => wpE C l ρ σ fun a σ1 => wpE C r ρ σ1 fun b σ2 => ∃ c, cmpV σ2 op a b = some c ∧ Q (.bool c) σ2
  | .and l r, ρ, σ, Q => wpE C l ρ σ fun a σ1 => ∃ c, truth σ1 a = some c ∧ if c = true then wpE C r ρ σ1 Q else Q a σ1
  | .or l r, ρ, σ, Q => wpE C l ρ σ fun a σ1 => ∃ c, truth σ1 a = some c ∧ if c = true then Q a σ1 else wpE C r ρ σ1 Q
  | .not e, ρ, σ, Q => wpE C e ρ σ fun a σ1 => ∃ c, truth σ1 a = some c ∧ Q (.bool (!c)) σ1
  | .ite c a b, ρ, σ, Q => wpT C c ρ σ fun t σ1 => if t = true then wpE C a ρ σ1 Q else wpE C b ρ σ1 Q
  | .sub o i, ρ, σ, Q => wpE C o ρ σ fun a σ1 => wpE C i ρ σ1 fun b σ2 => ∃ v, subV σ2 a b = some v ∧ Q v σ2
  | .slFrom o lo st, ρ, σ, Q => wpE C o ρ σ fun a σ1 => wpE C lo ρ σ1 fun b σ2 => ∃ l xs ns i, a = .ref l ∧ σ2 l = some xs ∧ intsOf xs = some ns ∧ b = .int i ∧ st ≠ 0 ∧
      ∀ ms : List Int, ms.length ≤ ns.length → alloc C.B σ2 (ms.map .int) Q
  | .slTo o hi, ρ, σ, Q => wpE C o ρ σ fun a σ1 => ∃ l xs ns, a = .ref l ∧ σ1 l = some xs ∧ intsOf xs = some ns ∧ (0 ≤ hi ∧ ∀ ms : List Int, ms.length ≤ ns.length → alloc C.B σ1 (ms.map .int) Q)
  | .sl2 o lo hi, ρ, σ, Q => wpE C o ρ σ fun a σ1 => ∃ l xs, a = .ref l ∧ σ1 l = some xs ∧ 0 ≤ lo ∧ lo ≤ hi ∧ hi ≤ xs.length ∧ hi ≤ 1000 ∧ alloc C.B σ1 ((xs.take hi.toNat).drop lo.toNat) Q
  | .list es, ρ, σ, Q => wpEs C es ρ σ fun vs σ1 => vs.length ≤ LIM ∧ alloc C.B σ1 vs Q
  | .tup es, ρ, σ, Q => wpEs C es ρ σ fun vs σ1 => (∃ i j, vs = [.int i, .int j] ∧ Q (.tupI [i, j]) σ1) ∨ (∃ a b c, vs = [.ref a, .ref b, .ref c] ∧ Q (.tupR [a, b, c]) σ1)
  | .comp elt x it c, ρ, σ, Q => wpI C it ρ σ fun xs src σ1 => xs.length ≤ LIM ∧
      compL (fun v σ acc K => wpT C c (setv ρ x v) σ fun t σ' => if t = true then wpE C elt (setv ρ x v) σ' fun w σ'' => K σ'' (acc ++ [w]) else K σ' acc)
        (stable src xs) (fun σ2 acc => alloc C.B σ2 acc Q) xs σ1 []
  | .comp2 elt x it y it2 c, ρ, σ, Q => wpI C it ρ σ fun xs src σ1 =>
      compL (fun v σ acc K => wpI C it2 (setv (delv ρ y) x v) σ fun ys src2 σ2 =>
          compL (fun u σ acc K => wpT C c (setv (setv ρ x v) y u) σ fun t σ' => if t = true then wpE C elt (setv (setv ρ x v) y u) σ' fun w σ'' => acc.length < LIM ∧ K σ'' (acc ++ [w]) else K σ' acc)
            (stable src2 ys) K ys σ2 acc)
        (stable src xs) (fun σ2 acc => alloc C.B σ2 acc Q) xs σ1 []
  | .call f args, ρ, σ, Q => C.kn f = true ∧ wpEs C args ρ σ fun vs σ1 => C.sp f vs σ1 Q
  | .blt f args, ρ, σ, Q => wpEs C args ρ σ fun vs σ1 => wpBlt C.B f vs σ1 Q
  | .meth m o args, ρ, σ, Q => wpE C o ρ σ fun a σ1 => (∃ l xs, a = .ref l ∧ σ1 l = some xs) ∧ wpEs C args ρ σ1 fun vs σ2 => wpMeth C.B m a vs σ2 Q
def wpT (C : Cx) : MT → Frm → Sto → (Bool → Sto → Prop) → Prop
  | .tt, _, σ, Q => Q true σ
  | .not t, ρ, σ, Q => wpT C t ρ σ fun b σ1 => Q (!b) σ1
  | .and l r, ρ, σ, Q => wpT C l ρ σ fun b σ1 => if b = true then wpT C r ρ σ1 Q else Q false σ1
  | .or l r, ρ, σ, Q => wpT C l ρ σ fun b σ1 => if b = true then Q true σ1 else wpT C r ρ σ1 Q
  | .cmp op l r, ρ, σ, Q => wpE C l ρ σ fun a σ1 => wpE C r ρ σ1 fun b σ2 => ∃ c, cmpV σ2 op a b = some c ∧ Q c σ2
  | .of e, ρ, σ, Q => wpE C e ρ σ fun a σ1 => ∃ c, truth σ1 a = some c ∧ Q c σ1
def wpI (C : Cx) : MI → Frm → Sto → (List V → Option Nat → Sto → Prop) → Prop
  | .r1 e, ρ, σ, Q => wpE C e ρ σ fun a σ1 => ∃ n, a = .int n ∧ small n = true ∧ Q (rng 0 n.toNat) Option.none σ1
  | .r2 a b, ρ, σ, Q => wpE C a ρ σ fun u σ1 => wpE C b ρ σ1 fun v σ2 => ∃ i j, u = .int i ∧ v = .int j ∧ small i = true ∧ small j = true ∧ Q (rng i (j - i).toNat) Option.none σ2
  | .down a b, ρ, σ, Q => wpE C a ρ σ fun u σ1 => wpE C b ρ σ1 fun v σ2 => ∃ i j, u = .int i ∧ v = .int j ∧ small i = true ∧ small j = true ∧ Q (rngDown i (i - j).toNat) Option.none σ2
  | .rev e, ρ, σ, Q => wpE C e ρ σ fun a σ1 => ∃ n, a = .int n ∧ 0 ≤ n ∧ small n = true ∧ Q (rngDown (n - 1) n.toNat) Option.none σ1
  | .val e, ρ, σ, Q => wpE C e ρ σ fun a σ1 => ∃ l xs, a = .ref l ∧ σ1 l = some xs ∧ Q xs (some l) σ1
def wpEs (C : Cx) : MEs → Frm → Sto → (List V → Sto → Prop) → Prop
  | .nil, _, σ, Q => Q [] σ
  | .cons e r, ρ, σ, Q => wpE C e ρ σ fun v σ1 => wpEs C r ρ σ1 fun vs σ2 => Q (v :: vs) σ2
end

def forL (step : V → Frm → Sto → (Fl → Frm → Sto → Prop) → Prop) (ok : Sto → Prop) (Q : Fl → Frm → Sto → Prop) : List V → Frm → Sto → Prop
  | [], ρ, σ => Q .next ρ σ
  | v :: vs, ρ, σ => step v ρ σ fun fl ρ' σ' => match fl with
    | .brk => Q .next ρ' σ'
    | .ret w => Q (.ret w) ρ' σ'
    | _ => ok σ' ∧ forL step ok Q vs ρ' σ'

def setRefs : List String → List Nat → Frm → Frm
  | x :: xs, a :: as, ρ => setRefs xs as (setv ρ x (.ref a))
  | _, _, ρ => ρ

mutual
def wpS (C : Cx) : MS → Frm → Sto → (Fl → Frm → Sto → Prop) → Prop
  | .expr e, ρ, σ, Q => wpE C e ρ σ fun v σ1 => v = .none ∧ Q .next ρ σ1
  | .asg x e, ρ, σ, Q => wpE C e ρ σ fun v σ1 => Q .next (setv ρ x v) σ1
  | .sto o i e, ρ, σ, Q => wpE C e ρ σ fun v σ1 => wpE C o ρ σ1 fun a σ2 => wpE C i ρ σ2 fun b σ3 =>
      ∃ l xs k, a = .ref l ∧ σ3 l = some xs ∧ b = .int k ∧ 0 ≤ k ∧ k.toNat < xs.length ∧ C.B ≤ l ∧ Q .next ρ (upd σ3 l (xs.set k.toNat v))
  | .unpk xs e, ρ, σ, Q => wpE C e ρ σ fun v σ1 => ∃ as, v = .tupR as ∧ as.length = xs.length ∧ Q .next (setRefs xs as ρ) σ1
  | .ite c a b, ρ, σ, Q => wpT C c ρ σ fun t σ1 => if t = true then wpB C a ρ σ1 Q else wpB C b ρ σ1 Q
  | .whl c b, ρ, σ, Q => ∃ (I : Nat → Frm → Sto → Prop) (n₀ : Nat), I n₀ ρ σ ∧ ∀ n ρ σ, I n ρ σ → wpT C c ρ σ fun t σ1 =>
      if t = true then wpB C b ρ σ1 fun fl ρ' σ' => (match fl with
        | .brk => Q .next ρ' σ'
        | .ret w => Q (.ret w) ρ' σ'
        | _ => ∃ m, m < n ∧ I m ρ' σ')
      else Q .next ρ σ1
  | .for_ x it b, ρ, σ, Q => wpI C it ρ σ fun xs src σ1 => forL (fun v ρ σ K => wpB C b (setv ρ x v) σ K) (stable src xs) Q xs ρ σ1
  | .ret e, ρ, σ, Q => wpE C e ρ σ fun v σ1 => Q (.ret v) ρ σ1
  | .brk, ρ, σ, Q => Q .brk ρ σ
  | .cont, ρ, σ, Q => Q .cont ρ σ
def wpB (C : Cx) : MB → Frm → Sto → (Fl → Frm → Sto → Prop) → Prop
  | .nil, ρ, σ, Q => Q .next ρ σ
  | .cons s r, ρ, σ, Q => wpS C s ρ σ fun fl ρ' σ' => match fl with
    | .next => wpB C r ρ' σ' Q
    | fl => Q fl ρ' σ'
end

structure FD where
  params : List String
  body : MB

def bindF : List String → List V → Frm
  | x :: xs, v :: vs => setv (bindF xs vs) x v
  | _, _ => fun _ => Option.none

def endF (Q : V → Sto → Prop) : Fl → Frm → Sto → Prop
  | .ret v, _, σ => Q v σ
  | .next, _, σ => Q .none σ
  | _, _, _ => False

def Sp (B : Nat) (gl : String → Option V) (P : String → Option FD) : Nat → String → List V → Sto → (V → Sto → Prop) → Prop
  | 0, _, _, _, _ => False
  | k + 1, f, vs, σ, Q => ∃ d, P f = some d ∧ vs.length = d.params.length ∧ wpB ⟨B, Sp B gl P k, gl, fun f => (P f).isSome⟩ d.body (bindF d.params vs) σ (endF Q)

end Mini
end

section
open PySem PyProof.Rows

namespace Mini

def tupO (ws : List Value) (n : Nat) : Obj := { cls := .type "tuple", dict := none, data := .seq ws.toArray n, slots := #[] }

def VR (h : Heap) : V → Value → Prop
  | .none, w => w = .none
  | .bool b, w => w = .bool b
  | .int i, w => ∃ t, w = .int i t
  | .tupI xs, w => ∃ a ws n, w = .ref a ∧ h.get? a = some (tupO ws n) ∧ IntsAre ws xs
  | .tupR as, w => ∃ a n, w = .ref a ∧ h.get? a = some (tupO (as.map .ref) n)
  | .ref a, w => w = .ref a

def VRs (h : Heap) : List V → List Value → Prop
  | [], [] => True
  | v :: vs, w :: ws => VR h v w ∧ VRs h vs ws
  | _, _ => False

theorem VRs.length {h : Heap} : ∀ {vs : List V} {ws : List Value}, VRs h vs ws → vs.length = ws.length
  | [], [], _ => rfl
  | _ :: _, _ :: _, ⟨_, r⟩ => by simp [VRs.length r]
  | [], _ :: _, x => x.elim
  | _ :: _, [], x => x.elim

theorem VRs.get {h : Heap} : ∀ {vs : List V} {ws : List Value} {i : Nat} {v : V}, VRs h vs ws → vs[i]? = some v → ∃ w, ws[i]? = some w ∧ VR h v w
  | v :: _, w :: _, 0, _, ⟨a, _⟩, e => by simp at e; subst e; exact ⟨w, rfl, a⟩
  | _ :: _, _ :: _, i + 1, _, ⟨_, r⟩, e => by simpa using VRs.get (i := i) r (by simpa using e)
  | [], [], _, _, _, e => by simp at e
  | [], _ :: _, _, _, x, _ => x.elim
  | _ :: _, [], _, _, x, _ => x.elim

theorem VRs.get' {h : Heap} {vs : List V} {ws : List Value} {i : Nat} {w : Value} (x : VRs h vs ws) (e : ws[i]? = some w) : ∃ v, vs[i]? = some v ∧ VR h v w := by
  have hi : i < ws.length := by
    rcases Nat.lt_or_ge i ws.length with q | q
    · exact q
    · rw [List.getElem?_eq_none q] at e; cases e
  have hi' : i < vs.length := by rw [x.length]; exact hi
  obtain ⟨w', e', r⟩ := x.get (List.getElem?_eq_getElem hi')
  rw [e] at e'; cases e'
  exact ⟨_, List.getElem?_eq_getElem hi', r⟩

theorem VRs.append {h : Heap} : ∀ {vs vs' : List V} {ws ws' : List Value}, VRs h vs ws → VRs h vs' ws' → VRs h (vs ++ vs') (ws ++ ws')
  | [], _, [], _, _, y => y
  | _ :: _, _, _ :: _, _, ⟨a, r⟩, y => ⟨a, VRs.append r y⟩
  | [], _, _ :: _, _, x, _ => x.elim
  | _ :: _, _, [], _, x, _ => x.elim

theorem VRs.single {h : Heap} {v : V} {w : Value} (x : VR h v w) : VRs h [v] [w] := ⟨x, trivial⟩

theorem VRs.set {h : Heap} {v : V} {w : Value} (y : VR h v w) : ∀ {vs : List V} {ws : List Value} {i : Nat}, VRs h vs ws → VRs h (vs.set i v) (ws.set i w)
  | [], [], _, _ => trivial
  | _ :: _, _ :: _, 0, ⟨_, r⟩ => ⟨y, r⟩
  | _ :: _, _ :: _, i + 1, ⟨a, r⟩ => ⟨a, VRs.set y (i := i) r⟩
  | [], _ :: _, _, x => x.elim
  | _ :: _, [], _, x => x.elim

theorem VRs.take {h : Heap} : ∀ {vs : List V} {ws : List Value} {i : Nat}, VRs h vs ws → VRs h (vs.take i) (ws.take i)
  | _, _, 0, _ => by simp [VRs]
  | [], [], _ + 1, _ => trivial
  | _ :: _, _ :: _, i + 1, ⟨a, r⟩ => ⟨a, VRs.take (i := i) r⟩
  | [], _ :: _, _ + 1, x => x.elim
  | _ :: _, [], _ + 1, x => x.elim

theorem VRs.drop {h : Heap} : ∀ {vs : List V} {ws : List Value} {i : Nat}, VRs h vs ws → VRs h (vs.drop i) (ws.drop i)
  | _, _, 0, x => by simpa using x
  | [], [], _ + 1, _ => trivial
  | _ :: _, _ :: _, i + 1, ⟨_, r⟩ => by simpa using VRs.drop (i := i) r
  | [], _ :: _, _ + 1, x => x.elim
  | _ :: _, [], _ + 1, x => x.elim

theorem VRs.flat {h : Heap} {vs : List V} {ws : List Value} (x : VRs h vs ws) : ∀ n : Nat, VRs h (List.replicate n vs).flatten (List.replicate n ws).flatten
  | 0 => trivial
  | n + 1 => by simp only [List.replicate_succ, List.flatten_cons]; exact VRs.append x (VRs.flat x n)

theorem VRs.ints {h : Heap} : ∀ {vs : List V} {ws : List Value} {ns : List Int}, VRs h vs ws → intsOf vs = some ns → IntsAre ws ns
  | [], [], ns, _, e => by simp [intsOf] at e; subst e; exact .nil
  | .int i :: vs, w :: ws, ns, ⟨⟨t, a⟩, r⟩, e => by
    simp only [intsOf, Option.map_eq_some_iff] at e
    obtain ⟨ms, e1, rfl⟩ := e
    subst a
    exact .cons _ _ (VRs.ints r e1)
  | [], _ :: _, _, x, _ => x.elim
  | _ :: _, [], _, x, _ => x.elim
  | .none :: _, _ :: _, _, _, e => by simp [intsOf] at e
  | .bool _ :: _, _ :: _, _, _, e => by simp [intsOf] at e
  | .tupI _ :: _, _ :: _, _, _, e => by simp [intsOf] at e
  | .tupR _ :: _, _ :: _, _, _, e => by simp [intsOf] at e
  | .ref _ :: _, _ :: _, _, _, e => by simp [intsOf] at e

theorem VRs.ofInts {h : Heap} : ∀ {ws : List Value} {ns : List Int}, IntsAre ws ns → VRs h (ns.map .int) ws
  | _, _, .nil => trivial
  | _, _, .cons _ _ r => ⟨⟨_, rfl⟩, VRs.ofInts r⟩

/-! heaps that keep the tuples -/
def Tups (h h' : Heap) : Prop := ∀ a o, h.get? a = some o → (o.cls = .type "tuple" ∧ ∃ xs n, o.data = .seq xs n) → h'.get? a = some o

theorem VR.keeps {h h' : Heap} (k : Tups h h') {v : V} {w : Value} (x : VR h v w) : VR h' v w := by
  cases v with
  | tupI xs => obtain ⟨a, ws, n, e, ho, hi⟩ := x; exact ⟨a, ws, n, e, k _ _ ho ⟨rfl, _, _, rfl⟩, hi⟩
  | tupR xs => obtain ⟨a, n, e, ho⟩ := x; exact ⟨a, n, e, k _ _ ho ⟨rfl, _, _, rfl⟩⟩
  | _ => exact x
theorem VRs.keeps {h h' : Heap} (k : Tups h h') : ∀ {vs : List V} {ws : List Value}, VRs h vs ws → VRs h' vs ws
  | [], [], _ => trivial
  | _ :: _, _ :: _, ⟨a, r⟩ => ⟨a.keeps k, VRs.keeps k r⟩
  | [], _ :: _, x => x.elim
  | _ :: _, [], x => x.elim

/-- the lists that the store tells of -/
def LR (σ : Sto) (h : Heap) : Prop := ∀ a xs, σ a = some xs → ∃ ws n, IsL h a (List.toArray ws) n ∧ VRs h xs ws ∧ xs.length ≤ LIM

theorem LR.none_of {σ : Sto} {h : Heap} (x : LR σ h) {a : Nat} {o : Obj} (e : h.get? a = some o) (hc : o.cls ≠ .type "list" ∨ ∀ xs n, o.data ≠ .seq xs n) : σ a = Option.none := by
  cases q : σ a with
  | none => rfl
  | some xs =>
    obtain ⟨ws, n, hl, _, _⟩ := x a xs q
    have hl' : h.get? a = some _ := hl
    rw [e] at hl'
    cases hl'
    rcases hc with hc | hc
    · exact absurd rfl hc
    · exact absurd rfl (hc _ _)

theorem LR.lt {σ : Sto} {h : Heap} (x : LR σ h) {a : Nat} {xs : List V} (e : σ a = some xs) : a < h.objs.size :=
  let ⟨_, _, hl, _, _⟩ := x a xs e; Heap.lt_size hl

theorem LR.fresh {σ : Sto} {h : Heap} (x : LR σ h) {a : Nat} (ha : h.objs.size ≤ a) : σ a = Option.none := by
  cases q : σ a with
  | none => rfl
  | some xs => exact absurd (x.lt q) (Nat.not_lt.mpr ha)

structure Ext (D : Nat → Prop) (B : Nat) (σ σ' : Sto) (s s' : Shared) : Prop where
  keep : ∀ a o, s.heap.get? a = some o → (σ a = Option.none ∨ a < B) → ¬ D a → s'.heap.get? a = some o
  none : ∀ a o, s.heap.get? a = some o → σ a = Option.none → σ' a = Option.none
  there : ∀ a o, s.heap.get? a = some o → ∃ o', s'.heap.get? a = some o'
  gens : s'.gens = s.gens
  os : s'.os = s.os

def N0 : Nat → Prop := fun _ => False

theorem Ext.refl (D : Nat → Prop) (B : Nat) (σ : Sto) (s : Shared) : Ext D B σ σ s s := ⟨fun _ _ e _ _ => e, fun _ _ _ e => e, fun _ _ e => ⟨_, e⟩, rfl, rfl⟩

theorem Ext.trans {D : Nat → Prop} {B : Nat} {σ σ' σ'' : Sto} {s s' s'' : Shared} (x : Ext D B σ σ' s s') (y : Ext D B σ' σ'' s' s'') : Ext D B σ σ'' s s'' where
  keep a o e c d := y.keep a o (x.keep a o e c d) (c.elim (fun q => .inl (x.none a o e q)) .inr) d
  none a o e q := let ⟨_, e'⟩ := x.there a o e; y.none a _ e' (x.none a o e q)
  there a o e := let ⟨_, e'⟩ := x.there a o e; y.there a _ e'
  gens := y.gens.trans x.gens
  os := y.os.trans x.os

theorem Ext.mono {D D' : Nat → Prop} {B : Nat} {σ σ' : Sto} {s s' : Shared} (x : Ext D B σ σ' s s') (h : ∀ a, D a → D' a) : Ext D' B σ σ' s s' :=
  ⟨fun a o e c d => x.keep a o e c fun q => d (h a q), x.none, x.there, x.gens, x.os⟩
theorem Ext.of0 {D : Nat → Prop} {B : Nat} {σ σ' : Sto} {s s' : Shared} (x : Ext N0 B σ σ' s s') : Ext D B σ σ' s s' := x.mono fun _ q => q.elim

theorem Ext.tups {D : Nat → Prop} {B : Nat} {σ σ' : Sto} {s s' : Shared} (x : Ext D B σ σ' s s') (l : LR σ s.heap) (hD : ∀ a o, D a → s.heap.get? a = some o → ∀ xs n, o.data ≠ .seq xs n) : Tups s.heap s'.heap :=
  fun a o e c => x.keep a o e (.inl (l.none_of e (.inl (by rw [c.1]; decide)))) fun q => let ⟨_, _, _, d⟩ := c; hD a o q e _ _ d
theorem Ext.tups0 {B : Nat} {σ σ' : Sto} {s s' : Shared} (x : Ext N0 B σ σ' s s') (l : LR σ s.heap) : Tups s.heap s'.heap := x.tups l fun _ _ q => q.elim

/-- only tokens, or objects beside the store, are new -/
theorem Ext.grow {D : Nat → Prop} {B : Nat} {σ : Sto} {s : Shared} {h' : Heap} {tk : Nat} (k : ∀ a o, s.heap.get? a = some o → h'.get? a = some o) :
    Ext D B σ σ s { s with heap := h', toks := tk } := ⟨fun a o e _ _ => k a o e, fun _ _ _ e => e, fun a o e => ⟨_, k a o e⟩, rfl, rfl⟩

theorem Tups.grow {h h' : Heap} (k : ∀ a o, h.get? a = some o → h'.get? a = some o) : Tups h h' := fun a o e _ => k a o e

theorem LR.grow {σ : Sto} {h h' : Heap} (x : LR σ h) (k : ∀ a o, h.get? a = some o → h'.get? a = some o) : LR σ h' := fun a xs e =>
  let ⟨ws, n, hl, hv, hz⟩ := x a xs e; ⟨ws, n, k _ _ hl, hv.keeps (.grow k), hz⟩

/-- a new list -/
theorem LR.push {σ : Sto} {h h' : Heap} (x : LR σ h) {a : Nat} {xs : List V} {ws : List Value} {n : Nat} (k : ∀ b o, h.get? b = some o → h'.get? b = some o)
    (hl : IsL h' a (List.toArray ws) n) (hv : VRs h' xs ws) (hz : xs.length ≤ LIM) : LR (upd σ a xs) h' := fun b ys e => by
  unfold upd at e
  split at e
  · rename_i q; subst q; cases e; exact ⟨ws, n, hl, hv, hz⟩
  · exact x.grow k b ys e

/-- one list is written anew, all else stands -/
theorem LR.write {σ : Sto} {h h' : Heap} (x : LR σ h) {a : Nat} {xs : List V} {ws : List Value} {n : Nat} (k : ∀ b o, b ≠ a → h.get? b = some o → h'.get? b = some o) (ha : σ a ≠ Option.none)
    (hl : IsL h' a (List.toArray ws) n) (hv : VRs h xs ws) (hz : xs.length ≤ LIM) : LR (upd σ a xs) h' := by
  have kt : Tups h h' := fun b o e c => by
    by_cases q : b = a
    · subst q
      exact absurd (x.none_of e (.inl (by rw [c.1]; decide))) ha
    · exact k b o q e
  intro b ys e
  unfold upd at e
  split at e
  · rename_i q; subst q; cases e; exact ⟨ws, n, hl, hv.keeps kt, hz⟩
  · rename_i q
    obtain ⟨ws', n', hl', hv', hz'⟩ := x b ys e
    exact ⟨ws', n', k _ _ q hl', hv'.keeps kt, hz'⟩

theorem Ext.write {D : Nat → Prop} {B : Nat} {σ : Sto} {s : Shared} {h' : Heap} {tk : Nat} {a : Nat} {xs : List V} (k : ∀ b o, b ≠ a → s.heap.get? b = some o → h'.get? b = some o) (ha : σ a ≠ Option.none) (hB : B ≤ a)
    (ht : ∃ o', h'.get? a = some o') : Ext D B σ (upd σ a xs) s { s with heap := h', toks := tk } := by
  refine ⟨fun b o e c _ => k b o (fun q => ?_) e, fun b _ _ e => ?_, fun b o e => ?_, rfl, rfl⟩
  · subst q; exact c.elim ha fun l => Nat.lt_irrefl _ (Nat.lt_of_lt_of_le l hB)
  · unfold upd
    split
    · rename_i q; subst q; exact absurd e ha
    · exact e
  · by_cases q : b = a
    · subst q; exact ht
    · exact ⟨_, k b o q e⟩

theorem Ext.push {D : Nat → Prop} {B : Nat} {σ : Sto} {s : Shared} {h' : Heap} {tk : Nat} {a : Nat} {xs : List V} (k : ∀ b o, s.heap.get? b = some o → h'.get? b = some o) (ha : s.heap.get? a = Option.none) :
    Ext D B σ (upd σ a xs) s { s with heap := h', toks := tk } := by
  refine ⟨fun b o e _ _ => k b o e, fun b o e' e => ?_, fun b o e => ⟨_, k b o e⟩, rfl, rfl⟩
  unfold upd
  split
  · rename_i q; subst q; rw [ha] at e'; cases e'
  · exact e

theorem get_fresh {h : Heap} {a : Nat} (ha : h.objs.size ≤ a) : h.get? a = Option.none := by
  cases q : h.get? a with
  | none => rfl
  | some o => exact absurd (Heap.lt_size q) (Nat.not_lt.mpr ha)

/-! frames -/
theorem ofString_inj {x y : String} (h : Str.ofString x = Str.ofString y) : x = y := by
  rw [Str.ofString_eq_toList, Str.ofString_eq_toList] at h
  have h1 : (List.map Char.toNat x.toList).toArray = (List.map Char.toNat y.toList).toArray := congrArg Str.cps h
  have h2 : List.map Char.toNat x.toList = List.map Char.toNat y.toList := by simpa using h1
  have h3 : x.toList = y.toList := by
    have : Function.Injective Char.toNat := fun a b e => Char.ext (UInt32.toNat_inj.mp e)
    exact (List.map_inj_right (fun a b e => this e)).mp h2
  exact String.ext_iff.mpr h3

structure FR (env : Env) (ρ : Frm) (h : Heap) : Prop where
  locs : ∃ m, h.Ns env.locals m ∧ ∀ x v, x ≠ ".0" → env.kindOf (Str.ofString x) = some .local → ρ x = some v → ∃ w, m (Str.ofString x) = some w ∧ VR h v w
  cells : ∀ x : Str, (env.kindOf x = some .cell ∨ env.kindOf x = some .free) → ∃ c w, env.cells.lookup x = some c ∧ h.IsCell c w
  held : ∀ x v, x ≠ ".0" → (env.kindOf (Str.ofString x) = some .cell ∨ env.kindOf (Str.ofString x) = some .free) → ρ x = some v →
    ∃ c w, env.cells.lookup (Str.ofString x) = some c ∧ h.IsCell c (some w) ∧ VR h v w

/-- what does not change is not told of by the store -/
theorem FR.keeps {env : Env} {ρ : Frm} {h h' : Heap} (F : FR env ρ h) (kt : Tups h h')
    (k : ∀ a o, h.get? a = some o → (∀ xs n, o.data ≠ .seq xs n) → h'.get? a = some o) : FR env ρ h' := by
  have kc : ∀ c w, h.IsCell c w → h'.IsCell c w := fun c w ⟨o, ho, hd⟩ => ⟨o, k _ _ ho (by rw [hd]; intro _ _ q; cases q), hd⟩
  refine ⟨?_, fun x hx => ?_, fun x v hx hk hv => ?_⟩
  · obtain ⟨m, ⟨o, es, ep, ho, hd, r⟩, hm⟩ := F.locs
    refine ⟨m, ⟨o, es, ep, k _ _ ho (by rw [hd]; intro _ _ q; cases q), hd, r⟩, fun x v hx hk hv => ?_⟩
    obtain ⟨w, e, hw⟩ := hm x v hx hk hv
    exact ⟨w, e, hw.keeps kt⟩
  · obtain ⟨c, w, e, hc⟩ := F.cells x hx
    exact ⟨c, w, e, kc _ _ hc⟩
  · obtain ⟨c, w, e, hc, hw⟩ := F.held x v hx hk hv
    exact ⟨c, w, e, kc _ _ hc, hw.keeps kt⟩

theorem FR.ext {B : Nat} {env : Env} {ρ : Frm} {σ σ' : Sto} {s s' : Shared} (F : FR env ρ s.heap) (x : Ext N0 B σ σ' s s') (l : LR σ s.heap) : FR env ρ s'.heap :=
  F.keeps (x.tups0 l) fun a o e hd => x.keep a o e (.inl (l.none_of e (.inr hd))) fun q => q.elim

end Mini
end

section
open PySem PyProof.Rows
open PySem.SeqAt

namespace Mini

section tup
theorem ints_cons_inv {u : Value} {us : List Value} {xs : List Int} (h : IntsAre (u :: us) xs) : ∃ n t xs', u = .int n t ∧ xs = n :: xs' ∧ IntsAre us xs' := by
  cases h with
  | cons n t r => exact ⟨n, t, _, rfl, rfl, r⟩
theorem ints_nil_inv {xs : List Int} (h : IntsAre [] xs) : xs = [] := by cases h; rfl
theorem ints_unique {ws : List Value} {xs ys : List Int} (h : IntsAre ws xs) (h' : IntsAre ws ys) : xs = ys := by
  induction h generalizing ys with
  | nil => exact (ints_nil_inv h').symm
  | cons n t r ih =>
    obtain ⟨n', t', ys', e, rfl, r'⟩ := ints_cons_inv h'
    cases e
    rw [ih r']
theorem ints_len {ws : List Value} {xs : List Int} (h : IntsAre ws xs) : ws.length = xs.length := by
  induction h with
  | nil => rfl
  | cons n t r ih => simp [ih]

theorem tuple_ltI (l b : Addr) (items items2 : Array Value) (n n2 : Nat) (dd dd2 : Option Addr) (sl sl2 : Array (Option Value)) (xs ys : List Int) (hi : IntsAre items.toList xs) (hj : IntsAre items2.toList ys) :
    Meets (Builtin.«tuple.__lt__» ⟨[.ref l, .ref b], []⟩)
      (fun _ R s => s.heap.get? l = some { cls := .type "tuple", dict := dd, data := .seq items n, slots := sl } ∧ s.heap.get? b = some { cls := .type "tuple", dict := dd2, data := .seq items2 n2, slots := sl2 } ∧
        R (.ok (.ret (.bool (ltL xs ys)))) s) :=
  .of_wp fun prog w A R s h => by
    obtain ⟨hp, g, d, tk, os⟩ := s; obtain ⟨hl, hb, h⟩ := h
    have f2 := AutoSeq1.sub_tuple_tuple
    wp_walk using AutoSeq1.wpAny_loadPart' hl, AutoSeq1.wpAny_loadPart' hb, wpAny_forIn_list _ (fun rest b s' => b.1 = none ∧ s' = ⟨hp, g, d, tk, os⟩ ∧ ∃ us vs xs' ys', rest = List.zip us vs ∧
      IntsAre us xs' ∧ IntsAre vs ys' ∧ us.length + items2.size = vs.length + items.size ∧ R (.ok (.ret (.bool (ltL xs' ys')))) ⟨hp, g, d, tk, os⟩) _
    case turn =>
      rintro ⟨y, x⟩ rest b s' ⟨hb', rfl, us, vs, xs', ys', hz, hu, hv, hs, hR⟩
      match us, vs, hz with
      | u :: us, v :: vs, hz =>
        simp only [List.zip_cons_cons, List.cons.injEq, Prod.mk.injEq] at hz
        obtain ⟨⟨rfl, rfl⟩, rfl⟩ := hz
        obtain ⟨i, t, xs'', rfl, rfl, hu'⟩ := ints_cons_inv hu
        obtain ⟨j, t', ys'', rfl, rfl, hv'⟩ := ints_cons_inv hv
        refine wpAny_bind (MeetsSeq.EqGives.int i j t t' prog w _ _ _ _ ?_)
        simp only [ltL] at hR
        cases hij : (i == j) with
        | true =>
          rw [beq_iff_eq] at hij
          rw [if_pos hij] at hR
          wp_walk
          exact ⟨rfl, rfl, us, vs, xs'', ys'', rfl, hu', hv', by simp at hs; omega, hR⟩
        | false =>
          rw [beq_eq_false_iff_ne] at hij
          rw [if_neg hij] at hR
          simp only [Bool.not_false, if_true]
          refine wpAny_bind (wpAny_rule (wpAny_bind ?_))
          show wpAny _ _ (compareOp .Lt (.int i t) (.int j t')) _ _ _
          exact PyProof.Rows.lt_int (wpAny_bind (wpAny_pure (wpAny_pure (wpAny_pure ⟨_, rfl, hR⟩))))
    case fin =>
      rintro ⟨b1, b2⟩ s' ⟨hb', rfl, us, vs, xs', ys', hz, hu, hv, hs, hR⟩
      simp only at hb'
      subst hb'
      wp_walk
      refine ⟨_, rfl, ?_⟩
      have e : Builtin.Tuple.tupleCompareSizes .Lt items.size items2.size = .bool (ltL xs' ys') := by
        simp only [Builtin.Tuple.tupleCompareSizes]
        congr 1
        match us, vs, hz with
        | [], [], _ => rw [ints_nil_inv hu, ints_nil_inv hv]; simp [ltL]; simp at hs; omega
        | [], v :: vs, _ =>
          obtain ⟨j, t', ys'', rfl, rfl, hv'⟩ := ints_cons_inv hv
          rw [ints_nil_inv hu]; simp [ltL]; simp at hs; omega
        | u :: us, [], _ =>
          obtain ⟨j, t', ys'', rfl, rfl, hv'⟩ := ints_cons_inv hu
          rw [ints_nil_inv hv]; simp [ltL]; simp at hs; omega
      rw [e]; exact hR
    case h =>
      exact ⟨rfl, rfl, items.toList, items2.toList, xs, ys, rfl, hi, hj, by simp; omega, h⟩
theorem tuple_gtI (l b : Addr) (items items2 : Array Value) (n n2 : Nat) (dd dd2 : Option Addr) (sl sl2 : Array (Option Value)) (xs ys : List Int) (hi : IntsAre items.toList xs) (hj : IntsAre items2.toList ys) :
    Meets (Builtin.«tuple.__gt__» ⟨[.ref l, .ref b], []⟩)
      (fun _ R s => s.heap.get? l = some { cls := .type "tuple", dict := dd, data := .seq items n, slots := sl } ∧ s.heap.get? b = some { cls := .type "tuple", dict := dd2, data := .seq items2 n2, slots := sl2 } ∧
        R (.ok (.ret (.bool (ltL ys xs)))) s) :=
  .of_wp fun prog w A R s h => by
    obtain ⟨hp, g, d, tk, os⟩ := s; obtain ⟨hl, hb, h⟩ := h
    have f2 := AutoSeq1.sub_tuple_tuple
    wp_walk using AutoSeq1.wpAny_loadPart' hl, AutoSeq1.wpAny_loadPart' hb, wpAny_forIn_list _ (fun rest b s' => b.1 = none ∧ s' = ⟨hp, g, d, tk, os⟩ ∧ ∃ us vs xs' ys', rest = List.zip us vs ∧
      IntsAre us xs' ∧ IntsAre vs ys' ∧ us.length + items2.size = vs.length + items.size ∧ R (.ok (.ret (.bool (ltL ys' xs')))) ⟨hp, g, d, tk, os⟩) _
    case turn =>
      rintro ⟨y, x⟩ rest b s' ⟨hb', rfl, us, vs, xs', ys', hz, hu, hv, hs, hR⟩
      match us, vs, hz with
      | u :: us, v :: vs, hz =>
        simp only [List.zip_cons_cons, List.cons.injEq, Prod.mk.injEq] at hz
        obtain ⟨⟨rfl, rfl⟩, rfl⟩ := hz
        obtain ⟨i, t, xs'', rfl, rfl, hu'⟩ := ints_cons_inv hu
        obtain ⟨j, t', ys'', rfl, rfl, hv'⟩ := ints_cons_inv hv
        refine wpAny_bind (MeetsSeq.EqGives.int i j t t' prog w _ _ _ _ ?_)
        simp only [ltL] at hR
        cases hij : (i == j) with
        | true =>
          rw [beq_iff_eq] at hij
          rw [if_pos hij.symm] at hR
          wp_walk
          exact ⟨rfl, rfl, us, vs, xs'', ys'', rfl, hu', hv', by simp at hs; omega, hR⟩
        | false =>
          rw [beq_eq_false_iff_ne] at hij
          rw [if_neg (Ne.symm hij)] at hR
          simp only [Bool.not_false, if_true]
          refine wpAny_bind (wpAny_rule (wpAny_bind ?_))
          show wpAny _ _ (compareOp .Gt (.int i t) (.int j t')) _ _ _
          exact PyProof.Rows.gt_int (wpAny_bind (wpAny_pure (wpAny_pure (wpAny_pure ⟨_, rfl, hR⟩))))
    case fin =>
      rintro ⟨b1, b2⟩ s' ⟨hb', rfl, us, vs, xs', ys', hz, hu, hv, hs, hR⟩
      simp only at hb'
      subst hb'
      wp_walk
      refine ⟨_, rfl, ?_⟩
      have e : Builtin.Tuple.tupleCompareSizes .Gt items.size items2.size = .bool (ltL ys' xs') := by
        simp only [Builtin.Tuple.tupleCompareSizes]
        congr 1
        match us, vs, hz with
        | [], [], _ => rw [ints_nil_inv hu, ints_nil_inv hv]; simp [ltL]; simp at hs; omega
        | [], v :: vs, _ =>
          obtain ⟨j, t', ys'', rfl, rfl, hv'⟩ := ints_cons_inv hv
          rw [ints_nil_inv hu]; simp [ltL]; simp at hs; omega
        | u :: us, [], _ =>
          obtain ⟨j, t', ys'', rfl, rfl, hv'⟩ := ints_cons_inv hu
          rw [ints_nil_inv hv]; simp [ltL]; simp at hs; omega
      rw [e]; exact hR
    case h =>
      exact ⟨rfl, rfl, items.toList, items2.toList, xs, ys, rfl, hi, hj, by simp; omega, h⟩
end tup
end Mini
end

section
open PySem PyProof.Rows
open PySem.SeqAt

namespace Mini
section
variable {prog : Program} {w : World} {A : Around} {E : Value → Shared → Prop} {s : Shared}

theorem eqAt_bool (a b : Bool) : EqAt A s (.bool a) (.bool b) (a == b) := fun prog w E Q h => by
  unfold eqBool
  refine wpAny_holding ?_
  refine wpAny_ite_split (fun hab => ?_) (fun _ => ?_)
  · have : a = b := by have := eq_of_beq hab; injection this
    subst this
    exact wpAny_bind (wpAny_rule (wpAny_pure (by simpa using h)))
  · refine wpAny_bind ?_
    show wpAny _ _ (compareOp .Eq (.bool a) (.bool b)) _ _ _
    exact PyProof.Rows.eq_bool (wpAny_truthy_bool h)

theorem getD_eqs : ∀ (xs ys : List Int), ((List.range (min xs.length ys.length)).all (fun j => xs.getD j 0 == ys.getD j 0) && xs.length == ys.length) = decide (xs = ys) := by
  intro xs ys
  rw [Bool.eq_iff_iff]
  simp only [Bool.and_eq_true, List.all_eq_true, List.mem_range, beq_iff_eq, decide_eq_true_eq]
  constructor
  · rintro ⟨h1, h2⟩
    refine List.ext_getElem h2 fun i a b => ?_
    have := h1 i (by omega)
    simpa [List.getD_eq_getElem?_getD, List.getElem?_eq_getElem, a, b] using this
  · rintro rfl
    exact ⟨fun _ _ => rfl, rfl⟩

theorem ints_item {ws : List Value} {xs : List Int} (h : IntsAre ws xs) {j : Nat} (hj : j < ws.toArray.size) : ∃ t, ws.toArray[j] = .int (xs.getD j 0) t := by
  induction h generalizing j with
  | nil => simp at hj
  | cons n t r ih =>
    cases j with
    | zero => exact ⟨t, by simp⟩
    | succ j => obtain ⟨t', e⟩ := ih (j := j) (by simpa using hj); exact ⟨t', by simpa using e⟩

theorem rcAt_tup {a a' : Addr} {ws ws' : List Value} {n n' : Nat} {xs ys : List Int} (ho : s.heap.get? a = some (tupO ws n)) (ho' : s.heap.get? a' = some (tupO ws' n')) (hi : IntsAre ws xs) (hj : IntsAre ws' ys)
    (hu : A.units < cLine) : RcAt A s (.ref a) (.ref a') (decide (xs = ys)) := by
  have q := RcAt.tuples (A := A) (s := s) (l := a) (b := a') (items := ws.toArray) (items2 := ws'.toArray) (e := fun j => xs.getD j 0 == ys.getD j 0) ⟨_, ho, rfl, n, rfl⟩ ⟨_, ho', rfl, n', rfl⟩ hu (fun j h1 h2 => by
    obtain ⟨t, e⟩ := ints_item hi h1
    obtain ⟨t', e'⟩ := ints_item hj h2
    rw [e, e']
    exact (MeetsSeq.EqGives.int _ _ _ _).at _ _)
  have e : ((List.range (min ws.toArray.size ws'.toArray.size)).all (fun j => xs.getD j 0 == ys.getD j 0) && ws.toArray.size == ws'.toArray.size) = decide (xs = ys) := by
    rw [List.size_toArray, List.size_toArray, ints_len hi, ints_len hj]
    exact getD_eqs xs ys
  rw [e] at q
  exact q

theorem VR.eqAt (hu : A.units < cLine) {v v' : V} {x x' : Value} {b : Bool} (h : VR s.heap v x) (h' : VR s.heap v' x') (e : eqS v v' = some b) : EqAt A s x x' b := by
  cases v <;> cases v' <;> simp only [eqS, Option.some.injEq, reduceCtorEq] at e
  · subst e; cases h; cases h'; exact eqAt_bool _ _
  · subst e; obtain ⟨t, rfl⟩ := h; obtain ⟨t', rfl⟩ := h'; exact (MeetsSeq.EqGives.int _ _ _ _).at _ _
  · subst e
    obtain ⟨a, ws, n, rfl, ho, hi⟩ := h
    obtain ⟨a', ws', n', rfl, ho', hj⟩ := h'
    by_cases q : a = a'
    · subst q
      rw [ho] at ho'
      have : ws = ws' := by
        have := congrArg Obj.data (Option.some.inj ho')
        simp only [tupO, Data.seq.injEq] at this
        exact congrArg Array.toList this.1
      subst this
      rw [ints_unique hi hj]
      simpa using EqAt.same (.ref a)
    · exact EqAt.of_refs q (rcAt_tup ho ho' hi hj hu)

theorem in_eq {h : Heap} {v : V} : ∀ {xs : List V} {c : Bool}, inV v xs = some c → (∀ x ∈ xs, (eqS x v).isSome) ∧ c = xs.any (fun x => eqS x v == some true)
  | [], c, e => by simp [inV] at e; subst e; simp
  | x :: xs, c, e => by
    simp only [inV] at e
    split at e
    · rename_i b c' h1 h2
      cases e
      obtain ⟨a1, a2⟩ := in_eq (h := h) h2
      refine ⟨fun y hy => ?_, ?_⟩
      · rcases List.mem_cons.mp hy with rfl | hy
        · rw [h1]; rfl
        · exact a1 y hy
      · rw [List.any_cons, ← a2, h1]
        cases b <;> cases c' <;> rfl
    · cases e

end
end Mini
end

section
open PySem PyProof.Rows
open PySem.SeqAt

namespace Mini

/-- what an expression gives back -/
def Ret (B : Nat) (σ : Sto) (s : Shared) (Q : V → Sto → Prop) (x : Value) (s' : Shared) : Prop :=
  ∃ v σ', Ext N0 B σ σ' s s' ∧ VR s'.heap v x ∧ LR σ' s'.heap ∧ Q v σ'

def No (_ : Value) (_ : Shared) : Prop := False

theorem small_le {i : Int} (h : small i = true) : -536870912 ≤ i ∧ i ≤ 536870912 := by
  unfold small at h
  simpa using h

theorem Ext.toks {D : Nat → Prop} {B : Nat} {σ : Sto} {s : Shared} (tk : Nat) : Ext D B σ σ s { s with toks := tk } := ⟨fun _ _ e _ _ => e, fun _ _ _ e => e, fun _ _ e => ⟨_, e⟩, rfl, rfl⟩

section
variable {prog : Program} {w : World} {A : Around} {E : Value → Shared → Prop} {s : Shared} {B : Nat} {σ : Sto}

theorem Ret.here {Q : V → Sto → Prop} {v : V} {x : Value} (L : LR σ s.heap) (hv : VR s.heap v x) (tk : Nat) (h : Q v σ) : Ret B σ s Q x { s with toks := tk } :=
  ⟨v, σ, .toks tk, hv, L, h⟩

theorem Ret.alloc {Q : V → Sto → Prop} {xs : List V} {ws : List Value} {h' : Heap} {a : Addr} {n tk : Nat} (L : LR σ s.heap) (hB : B ≤ s.heap.objs.size) (k : ∀ b o, s.heap.get? b = some o → h'.get? b = some o)
    (ha : s.heap.objs.size ≤ a) (hl : IsL h' a (List.toArray ws) n) (hv : VRs s.heap xs ws) (hx : xs.length ≤ LIM) (h : Mini.alloc B σ xs Q) : Ret B σ s Q (.ref a) { s with heap := h', toks := tk } :=
  ⟨.ref a, upd σ a xs, .push k (get_fresh ha), rfl, L.push k hl (hv.keeps (.grow k)) hx, h a (Nat.le_trans hB ha) (L.fresh ha)⟩

/-! comparisons -/
theorem VR.functional {h : Heap} {v v' u : V} {x : Value} (a : VR h v x) (b : VR h v' x) (e : (eqS v u).isSome = true) (e' : (eqS v' u).isSome = true) : v = v' := by
  cases v <;> cases u <;> simp only [eqS, Option.isSome_none, Bool.false_eq_true] at e <;> cases v' <;> simp only [eqS, Option.isSome_none, Bool.false_eq_true] at e'
  · cases a; cases b; rfl
  · obtain ⟨t, rfl⟩ := a; obtain ⟨t', q⟩ := b; cases q; rfl
  · obtain ⟨p, ws, n, rfl, ho, hi⟩ := a
    obtain ⟨p', ws', n', q, ho', hj⟩ := b
    cases q
    rw [ho] at ho'
    have : ws = ws' := by
      have := congrArg Obj.data (Option.some.inj ho')
      simp only [tupO, Data.seq.injEq] at this
      exact congrArg Array.toList this.1
    subst this
    rw [ints_unique hi hj]

open Classical in
noncomputable def eqOn (h : Heap) (u : V) (x : Value) : Bool := if p : ∃ v, VR h v x ∧ (eqS v u).isSome = true then eqS p.choose u == some true else false

theorem eqOn_of {h : Heap} {u v : V} {x : Value} (a : VR h v x) (e : (eqS v u).isSome = true) : eqOn h u x = (eqS v u == some true) := by
  have p : ∃ v, VR h v x ∧ (eqS v u).isSome = true := ⟨v, a, e⟩
  unfold eqOn
  rw [dif_pos p, VR.functional p.choose_spec.1 a p.choose_spec.2 e]

theorem VRs.eqs {h : Heap} {u : V} : ∀ {xs : List V} {ws : List Value}, VRs h xs ws → (∀ x ∈ xs, (eqS x u).isSome = true) → ws.any (eqOn h u) = xs.any (fun x => eqS x u == some true)
  | [], [], _, _ => rfl
  | x :: xs, y :: ws, ⟨a, r⟩, q => by
    rw [List.any_cons, List.any_cons, eqOn_of a (q x (.head _)), VRs.eqs r fun z hz => q z (.tail _ hz)]
  | [], _ :: _, x, _ => x.elim
  | _ :: _, [], x, _ => x.elim

theorem eqOn_at (hu : A.units < cLine) {u : V} {x y : Value} {xs : List V} {ws : List Value} (r : VRs s.heap xs ws) (q : ∀ x ∈ xs, (eqS x u).isSome = true) (hx : VR s.heap u x) (hy : y ∈ ws) : EqAt A s y x (eqOn s.heap u y) := by
  obtain ⟨i, hi⟩ := List.getElem?_of_mem hy
  obtain ⟨v, hv, rv⟩ := r.get' hi
  have hm : v ∈ xs := List.mem_of_getElem? hv
  have e := q v hm
  rw [eqOn_of rv e]
  obtain ⟨b, hb⟩ := Option.isSome_iff_exists.mp e
  have := rv.eqAt (A := A) hu hx hb
  rw [hb]
  cases b <;> simpa using this

theorem in_ok (hu : A.in1.units < cLine) (L : LR σ s.heap) {u : V} {x : Value} {l : Addr} {c : Bool} {Q : Value → Shared → Prop} (hx : VR s.heap u x) (e : (σ l).bind (inV u) = some c) (h : Q (.bool c) s) :
    wpAny (model prog w) A (compareOp .In x (.ref l)) Q E s := by
  obtain ⟨xs, e1, e2⟩ := Option.bind_eq_some_iff.mp e
  obtain ⟨ws, n, hl, hv, _⟩ := L l xs e1
  obtain ⟨q, rfl⟩ := in_eq (h := s.heap) e2
  refine in_listAt (eqOn s.heap u) hl.isList (fun y hy => eqOn_at hu hv q hx (by simpa using hy)) ?_
  rw [show (List.toArray ws).any (eqOn s.heap u) = xs.any (fun x => eqS x u == some true) from by rw [List.any_toArray]; exact hv.eqs q]
  exact h
theorem notIn_ok (hu : A.in1.units < cLine) (L : LR σ s.heap) {u : V} {x : Value} {l : Addr} {c : Bool} {Q : Value → Shared → Prop} (hx : VR s.heap u x) (e : (σ l).bind (inV u) = some c) (h : Q (.bool (!c)) s) :
    wpAny (model prog w) A (compareOp .NotIn x (.ref l)) Q E s := by
  obtain ⟨xs, e1, e2⟩ := Option.bind_eq_some_iff.mp e
  obtain ⟨ws, n, hl, hv, _⟩ := L l xs e1
  obtain ⟨q, rfl⟩ := in_eq (h := s.heap) e2
  refine notIn_listAt (eqOn s.heap u) hl.isList (fun y hy => eqOn_at hu hv q hx (by simpa using hy)) ?_
  rw [show (List.toArray ws).any (eqOn s.heap u) = xs.any (fun x => eqS x u == some true) from by rw [List.any_toArray]; exact hv.eqs q]
  exact h

theorem isSame_none (hx : VR s.heap v x) {Q : Bool → Shared → Prop} (h : Q (isNone v) s) : wpAny (model prog w) A (isSame x .none) Q E s := by
  cases v with
  | none => cases hx; exact wpAny_pure h
  | bool b => cases hx; exact wpAny_pure h
  | int i => obtain ⟨t, rfl⟩ := hx; exact wpAny_pure h
  | tupI xs => obtain ⟨a, ws, n, rfl, _, _⟩ := hx; exact wpAny_pure h
  | tupR xs => obtain ⟨a, n, rfl, _⟩ := hx; exact wpAny_pure h
  | ref a => cases hx; exact wpAny_pure h

theorem ne_tup {a a' : Addr} {ws ws' : List Value} {n n' : Nat} {xs ys : List Int} {Q : Value → Shared → Prop} (ho : s.heap.get? a = some (tupO ws n)) (ho' : s.heap.get? a' = some (tupO ws' n')) (hi : IntsAre ws xs) (hj : IntsAre ws' ys)
    (hu : A.units < cLine) (h : Q (.bool (!decide (xs = ys))) s) : wpAny (model prog w) A (compareOp .NotEq (.ref a) (.ref a')) Q E s := by
  have e : ((List.range (min ws.toArray.size ws'.toArray.size)).all (fun j => xs.getD j 0 == ys.getD j 0) && ws.toArray.size == ws'.toArray.size) = decide (xs = ys) := by
    rw [List.size_toArray, List.size_toArray, ints_len hi, ints_len hj]
    exact getD_eqs xs ys
  show wpAny _ _ (richCompare .NotEq (.ref a) (.ref a')) _ _ _
  refine richCompare_meets_room (op := .NotEq) (T := "tuple") ⟨_, ho, rfl⟩ ⟨_, ho', rfl⟩ F.slot_tuple_ne F.entry_tuple_ne (F.args_tuple_ne_2 _ _)
    (tuple_neAt a a' ws.toArray ws'.toArray n n' none none #[] #[] (fun j => xs.getD j 0 == ys.getD j 0)) ⟨ho, ho', fun j h1 h2 => ?_, ?_⟩ hu
  · obtain ⟨t, e⟩ := ints_item hi h1
    obtain ⟨t', e'⟩ := ints_item hj h2
    rw [e, e']
    exact (MeetsSeq.EqGives.int _ _ _ _).at _ _
  · rw [e]; exact ⟨(fun x => nomatch x), h⟩

theorem lt_tup {a a' : Addr} {ws ws' : List Value} {n n' : Nat} {xs ys : List Int} {Q : Value → Shared → Prop} (ho : s.heap.get? a = some (tupO ws n)) (ho' : s.heap.get? a' = some (tupO ws' n')) (hi : IntsAre ws xs) (hj : IntsAre ws' ys)
    (hu : A.units < cLine) (h : Q (.bool (ltL xs ys)) s) : wpAny (model prog w) A (richCompare .Lt (.ref a) (.ref a')) Q E s :=
  richCompare_meets_room (op := .Lt) (T := "tuple") ⟨_, ho, rfl⟩ ⟨_, ho', rfl⟩ F.slot_tuple_lt F.entry_tuple_lt (F.args_tuple_lt_2 _ _)
    (tuple_ltI a a' ws.toArray ws'.toArray n n' none none #[] #[] xs ys (by simpa using hi) (by simpa using hj)) ⟨ho, ho', fun x => (nomatch x), h⟩ hu
theorem gt_tup {a a' : Addr} {ws ws' : List Value} {n n' : Nat} {xs ys : List Int} {Q : Value → Shared → Prop} (ho : s.heap.get? a = some (tupO ws n)) (ho' : s.heap.get? a' = some (tupO ws' n')) (hi : IntsAre ws xs) (hj : IntsAre ws' ys)
    (hu : A.units < cLine) (h : Q (.bool (ltL ys xs)) s) : wpAny (model prog w) A (richCompare .Gt (.ref a) (.ref a')) Q E s :=
  richCompare_meets_room (op := .Gt) (T := "tuple") ⟨_, ho, rfl⟩ ⟨_, ho', rfl⟩ F.slot_tuple_gt F.entry_tuple_gt (F.args_tuple_gt_2 _ _)
    (tuple_gtI a a' ws.toArray ws'.toArray n n' none none #[] #[] xs ys (by simpa using hi) (by simpa using hj)) ⟨ho, ho', fun x => (nomatch x), h⟩ hu

theorem eqS_ok (hu : A.units < cLine) {v v' : V} {x x' : Value} {b : Bool} {Q : Value → Shared → Prop} (h : VR s.heap v x) (h' : VR s.heap v' x') (e : eqS v v' = some b) (hQ : Q (.bool b) s) :
    wpAny (model prog w) A (compareOp .Eq x x') Q E s := by
  cases v <;> cases v' <;> simp only [eqS, Option.some.injEq, reduceCtorEq] at e
  · subst e; cases h; cases h'; exact PyProof.Rows.eq_bool hQ
  · subst e; obtain ⟨t, rfl⟩ := h; obtain ⟨t', rfl⟩ := h'; exact PyProof.Rows.eq_int hQ
  · subst e
    obtain ⟨a, ws, n, rfl, ho, hi⟩ := h
    obtain ⟨a', ws', n', rfl, ho', hj⟩ := h'
    exact rcAt_tup ho ho' hi hj hu prog w E Q hQ
theorem neS_ok (hu : A.units < cLine) {v v' : V} {x x' : Value} {b : Bool} {Q : Value → Shared → Prop} (h : VR s.heap v x) (h' : VR s.heap v' x') (e : eqS v v' = some b) (hQ : Q (.bool (!b)) s) :
    wpAny (model prog w) A (compareOp .NotEq x x') Q E s := by
  cases v <;> cases v' <;> simp only [eqS, Option.some.injEq, reduceCtorEq] at e
  · subst e; cases h; cases h'; exact PyProof.Rows.ne_bool hQ
  · subst e; obtain ⟨t, rfl⟩ := h; obtain ⟨t', rfl⟩ := h'; exact PyProof.Rows.ne_int hQ
  · subst e
    obtain ⟨a, ws, n, rfl, ho, hi⟩ := h
    obtain ⟨a', ws', n', rfl, ho', hj⟩ := h'
    exact ne_tup ho ho' hi hj hu hQ

theorem eqLL_ok (hu : A.units + 64 < cLine) (L : LR σ s.heap) {a b : Addr} {xs ys : List V} {c : Bool} {Q : Value → Shared → Prop} (ha : σ a = some xs) (hb : σ b = some ys) (e : eqLL xs ys = some c) (hQ : Q (.bool c) s) :
    wpAny (model prog w) A (compareOp .Eq (.ref a) (.ref b)) Q E s := by
  obtain ⟨ws, n, hl, hv, _⟩ := L a xs ha
  obtain ⟨ws', n', hl', hv', _⟩ := L b ys hb
  unfold eqLL at e
  split at e
  · split at e
    · rename_i ns ms h1 h2
      cases e
      exact PySem.W.ke_eq_ints hl.isList hl'.isList (hv.ints h1) (hv'.ints h2) hu hQ
    · cases e
  · rename_i hne
    cases e
    exact eq_list_lengthsAt hl.isList hl'.isList (by simpa [← hv.length, ← hv'.length] using hne) (by omega) hQ
theorem neLL_ok (hu : A.units + 64 < cLine) (L : LR σ s.heap) {a b : Addr} {xs ys : List V} {c : Bool} {Q : Value → Shared → Prop} (ha : σ a = some xs) (hb : σ b = some ys) (e : eqLL xs ys = some c) (hQ : Q (.bool (!c)) s) :
    wpAny (model prog w) A (compareOp .NotEq (.ref a) (.ref b)) Q E s := by
  obtain ⟨ws, n, hl, hv, _⟩ := L a xs ha
  obtain ⟨ws', n', hl', hv', _⟩ := L b ys hb
  unfold eqLL at e
  split at e
  · split at e
    · rename_i ns ms h1 h2
      cases e
      exact PySem.W.ke_ne_ints hl.isList hl'.isList (hv.ints h1) (hv'.ints h2) hu hQ
    · cases e
  · rename_i hne
    cases e
    show wpAny _ _ (richCompare .NotEq (.ref a) (.ref b)) _ _ _
    exact richCompare_meets_room (op := .NotEq) (T := "list") ⟨_, hl, rfl⟩ ⟨_, hl', rfl⟩ F.slot_list_ne F.entry_list_ne (F.args_list_ne_2 _ _)
      (list_ne_lengthsAt a b _ _ n n' none none #[] #[] (by simpa [← hv.length, ← hv'.length] using hne)) ⟨hl, hl', fun x => (nomatch x), hQ⟩ (by omega)

theorem cmp_ok (hu : A.units + 64 < cLine) (L : LR σ s.heap) {op : CmpOp} {a b : V} {x y : Value} {c : Bool} {Q : Value → Shared → Prop} (ha : VR s.heap a x) (hb : VR s.heap b y) (e : cmpV σ op a b = some c) (h : Q (.bool c) s) :
    wpAny (model prog w) A (compareOp op x y) Q E s := by
  have hu1 : A.units < cLine := by omega
  have hu2 : A.in1.units < cLine := by show A.units + 1 < cLine; omega
  unfold cmpV at e
  split at e
  · obtain ⟨t, rfl⟩ := ha; obtain ⟨t', rfl⟩ := hb; cases e; exact PyProof.Rows.lt_int h
  · obtain ⟨t, rfl⟩ := ha; obtain ⟨t', rfl⟩ := hb; cases e; exact PyProof.Rows.gt_int h
  · obtain ⟨t, rfl⟩ := ha; obtain ⟨t', rfl⟩ := hb; cases e; exact PyProof.Rows.le_int h
  · obtain ⟨t, rfl⟩ := ha; obtain ⟨t', rfl⟩ := hb; cases e; exact PyProof.Rows.ge_int h
  · cases e
    obtain ⟨a, ws, n, rfl, ho, hi⟩ := ha
    obtain ⟨a', ws', n', rfl, ho', hj⟩ := hb
    exact lt_tup ho ho' hi hj hu1 h
  · unfold eqV at e
    split at e
    · cases ha; cases hb
      split at e
      · rename_i h1 h2
        exact eqLL_ok hu L h1 h2 e h
      · cases e
    · exact eqS_ok hu1 ha hb e h
  · obtain ⟨c', e', rfl⟩ := Option.map_eq_some_iff.mp e
    unfold eqV at e'
    split at e'
    · cases ha; cases hb
      split at e'
      · rename_i h1 h2
        exact neLL_ok hu L h1 h2 e' h
      · cases e'
    · exact neS_ok hu1 ha hb e' h
  · cases e
    cases hb
    show wpAny _ _ (do return Value.bool (← isSame x .none)) _ _ _
    exact wpAny_bind (isSame_none ha (wpAny_pure h))
  · cases e
    cases hb
    show wpAny _ _ (do return Value.bool (!(← isSame x .none))) _ _ _
    exact wpAny_bind (isSame_none ha (wpAny_pure h))
  · cases hb
    exact in_ok hu2 L ha e h
  · cases hb
    obtain ⟨c', e', rfl⟩ := Option.map_eq_some_iff.mp e
    exact notIn_ok hu2 L ha e' h
  · cases e

end
end Mini
end

section
open PySem PyProof.Rows
open PySem.SeqAt

namespace Mini

theorem vr_int {h : Heap} (i : Int) (t : Tok) : VR h (.int i) (.int i t) := ⟨t, rfl⟩

theorem limOk {n : Nat} (h : n ≤ LIM) : n ≤ sizeLine := by
  unfold LIM at h
  rw [sizeLine_eq]
  omega

theorem foldl_flat (ws : List Value) : ∀ (n : Nat) (acc : Array Value), List.foldl (fun x1 x2 => x1 ++ x2) acc (List.replicate n ws.toArray) = acc ++ (List.replicate n ws).flatten.toArray
  | 0, acc => by simp
  | n + 1, acc => by
    rw [List.replicate_succ, List.foldl_cons, foldl_flat ws n, List.replicate_succ, List.flatten_cons, Array.append_assoc]
    simp

theorem bits_small {i : Int} (h : small i = true) : Builtin.Int.intBits i ≤ 64 := by
  obtain ⟨a, b⟩ := small_le h
  exact intBits_le_64 (by omega) (by omega)

section
variable {prog : Program} {w : World} {A : Around} {E : Value → Shared → Prop} {s : Shared} {B : Nat} {σ : Sto}

theorem mul_ok {l : Addr} {n : Int} {t : Tok} {ws : List Value} {k : Nat} {Q : Value → Shared → Prop} (hl : IsL s.heap l ws.toArray k) (h0 : 0 ≤ n) (h1 : n ≤ 1000) (h2 : ws.length ≤ 1000)
    (h : Q (.ref s.heap.objs.size) { s with heap := s.heap.push { cls := .type "list", data := .seq (List.replicate n.toNat ws).flatten.toArray } }) :
    wpAny (model prog w) A (binaryOp .Mult (.ref l) (.int n t)) Q E s := by
  have hsz : ws.toArray.size * n.toNat ≤ 1000 * 1000 := by
    rw [List.size_toArray]
    exact Nat.mul_le_mul h2 (by omega)
  have e : List.foldl (fun x1 x2 => x1 ++ x2) #[] (List.replicate (if ws.toArray.isEmpty = true then 0 else n.toNat) ws.toArray) = (List.replicate n.toNat ws).flatten.toArray := by
    rw [foldl_flat]
    cases ws with
    | nil => simp
    | cons a r => simp
  refine wpAny_binaryOp_repeat_ref (T := "list") (U := "int") (by decide) ⟨_, hl, rfl⟩ (fun s' => typeIs_int s' n t) noFill_list_mul F.fills_int_mul F.slot_int_rmul repeat_list F.slot_int_index.lookup
    (call_meets F.slot_int_rmul (typeIs_int s n t) F.entry_int_rmul (F.args_int_rmul_2 _ _) (int___rmul___int_list n t l ws.toArray k)
      ⟨hl, rfl, ⟨_, hl, rfl⟩, call_meets F.slot_list_mul ⟨_, hl, rfl⟩ F.entry_list_mul (F.args_list_mul_2 _ _)
        (AutoListH.list___mul___list_int_3 l ws.toArray k n t (by simp [Builtin.List.listFitsIndex]; omega) (by omega) (by simp only [Builtin.List.listTooLong, sizeLine_eq]; simp; rw [List.size_toArray] at hsz; omega)) ⟨hl, ?_⟩⟩)
  rw [e]
  exact h

theorem bin_ok {op : Operator} {a b : V} {x y : Value} {Q : V → Sto → Prop} (L : LR σ s.heap) (hB : B ≤ s.heap.objs.size) (ha : VR s.heap a x) (hb : VR s.heap b y) (e : wpBin B op a b σ Q) :
    wpAny (model prog w) A (binaryOp op x y) (Ret B σ s Q) No s := by
  unfold wpBin at e
  split at e
  · cases ha; cases hb
    obtain ⟨xs, ys, h1, h2, h3, h4⟩ := e
    obtain ⟨ws, n, hl, hv, hz⟩ := L _ _ h1
    obtain ⟨ws', n', hl', hv', hz'⟩ := L _ _ h2
    refine P.add_list hl hl' ?_ (by rw [List.size_toArray, List.size_toArray, ← hv.length, ← hv'.length]; exact limOk h3)
    rw [List.append_toArray]
    exact Ret.alloc L hB (fun b o e => Heap.get?_push_of_some _ e) (Nat.le_refl _) (Heap.get?_push_size _ rfl) (hv.append hv') (by rw [List.length_append]; exact h3) h4
  · cases ha; obtain ⟨t, rfl⟩ := hb
    obtain ⟨xs, h1, h0, h2, h3, h4⟩ := e
    obtain ⟨ws, n, hl, hv, hz⟩ := L _ _ h1
    refine mul_ok hl h0 h2 (by rw [← hv.length]; exact h3) ?_
    refine Ret.alloc L hB (fun b o e => Heap.get?_push_of_some _ e) (Nat.le_refl _) (Heap.get?_push_size _ rfl) (hv.flat _) ?_ h4
    rw [List.length_flatten, List.map_replicate, List.sum_replicate_nat]
    have : xs.length * (Int.toNat ‹Int›) ≤ 1000 * 1000 := Nat.mul_le_mul h3 (by omega)
    unfold LIM
    rw [Nat.mul_comm]
    omega
  · obtain ⟨v, h1, h2⟩ := e
    unfold binV at h1
    split at h1
    · obtain ⟨t, rfl⟩ := ha; obtain ⟨t', rfl⟩ := hb; cases h1
      exact PyProof.Rows.add_int (Ret.here L (vr_int _ _) _ h2)
    · obtain ⟨t, rfl⟩ := ha; obtain ⟨t', rfl⟩ := hb; cases h1
      exact PyProof.Rows.sub_int (Ret.here L (vr_int _ _) _ h2)
    · obtain ⟨t, rfl⟩ := ha; obtain ⟨t', rfl⟩ := hb
      split at h1
      · rename_i hs
        rw [Bool.and_eq_true] at hs
        cases h1
        exact PyProof.Rows.mul_int (Ret.here L (vr_int _ _) _ h2) (IntMulOk.of_left (bits_small hs.1))
      · cases h1
    · obtain ⟨t, rfl⟩ := ha; obtain ⟨t', rfl⟩ := hb
      split at h1
      · cases h1
      · rename_i hs
        cases h1
        have hj : small ‹Int› = true := by simpa using (not_or.mp hs).2
        obtain ⟨p, q⟩ := small_le hj
        exact PyProof.Rows.floordiv_int (not_or.mp hs).1 (Ret.here L (vr_int _ _) _ h2) (.inl (PyProof.noPylong_small (by omega)))
    · obtain ⟨t, rfl⟩ := ha; obtain ⟨t', rfl⟩ := hb
      split at h1
      · cases h1
      · rename_i hs
        cases h1
        exact PyProof.Rows.mod_int' hs (Ret.here L (vr_int _ _) _ h2)
    · obtain ⟨t, rfl⟩ := ha; obtain ⟨t', rfl⟩ := hb
      split at h1
      · rename_i hs
        cases h1
        exact PyProof.Rows.rshift_int hs (Ret.here L (vr_int _ _) _ h2)
      · cases h1
    · obtain ⟨t, rfl⟩ := ha; obtain ⟨t', rfl⟩ := hb
      split at h1
      · rename_i hs
        obtain ⟨rfl, p, q⟩ := hs
        cases h1
        have e2 : Builtin.Int.intBits 2 = 2 := by decide +kernel
        exact PyProof.Rows.pow_int p (by rw [e2]; omega) (Ret.here L (vr_int _ _) _ h2)
      · cases h1
    · obtain ⟨t, rfl⟩ := ha; obtain ⟨t', rfl⟩ := hb; cases h1
      exact PyProof.Rows.and_int (Ret.here L (vr_int _ _) _ h2)
    · obtain ⟨t, rfl⟩ := ha; obtain ⟨t', rfl⟩ := hb; cases h1
      exact PyProof.Rows.or_int (Ret.here L (vr_int _ _) _ h2)
    · cases h1

theorem truth_ok {v : V} {x : Value} {c : Bool} {Q : Bool → Shared → Prop} (L : LR σ s.heap) (hv : VR s.heap v x) (e : truth σ v = some c) (h : ∀ tk, Q c { s with toks := tk }) : wpAny (model prog w) A (truthy x) Q E s := by
  cases v with
  | none => cases hv; cases e; exact truthy_none (h s.toks)
  | bool b => cases hv; cases e; exact wpAny_truthy_bool (h s.toks)
  | ref a =>
    cases hv
    simp only [truth, Option.map_eq_some_iff] at e
    obtain ⟨xs, e1, rfl⟩ := e
    obtain ⟨ws, n, hl, hv, hz⟩ := L _ _ e1
    refine wpAny_truthy_list hl.isList (by rw [List.size_toArray, ← hv.length]; unfold LIM at hz; omega) ?_
    have : (!ws.toArray.isEmpty) = !xs.isEmpty := by
      cases ws with
      | nil => cases xs with
        | nil => rfl
        | cons _ _ => exact hv.elim
      | cons _ _ => cases xs with
        | nil => exact hv.elim
        | cons _ _ => rfl
    rw [this]
    exact h _
  | _ => cases e

/-- a place in a list or a tuple -/
theorem sub_ok {a b v : V} {x y : Value} {value slice : Expr} {Q : Value → Shared → Prop} (L : LR σ s.heap) (ha : VR s.heap a x) (hb : VR s.heap b y) (e : subV σ a b = some v) (hs : ∀ lo hi p, slice ≠ .Slice lo hi none p)
    (h : ∀ z, VR s.heap v z → Q z s) : wpAny (model prog w) A (subscriptTail value slice x y) Q E s := by
  have hsub : ∀ o i, subscripted slice false o i = operate [o, i] (getItem o i) := by
    intro o i
    cases slice <;> try rfl
    rename_i lo hi st p
    cases st with
    | none => exact absurd rfl (hs lo hi p)
    | some st => rfl
  unfold subV at e
  split at e
  · cases ha
    obtain ⟨t, rfl⟩ := hb
    obtain ⟨xs, e1, e2⟩ := Option.bind_eq_some_iff.mp e
    split at e2
    · rename_i h0
      obtain ⟨ws, n, hl, hv, hz⟩ := L _ _ e1
      obtain ⟨z, hz1, hz2⟩ := hv.get e2
      have hlt : Int.toNat ‹Int› < xs.length := by
        rcases Nat.lt_or_ge (Int.toNat ‹Int›) xs.length with q | q
        · exact q
        · rw [List.getElem?_eq_none q] at e2; cases e2
      refine tail_any hl.isList.typeIs slot_list_getitem.lookup (wpAny_getItem_list hl.isList h0 (by unfold LIM at hz; omega) (by simpa using hz1) (h z hz2)) (hsub _ _)
    · cases e2
  · obtain ⟨p, ws, n, rfl, ho, hi⟩ := ha
    obtain ⟨t, rfl⟩ := hb
    split at e
    · rename_i xs i h0
      obtain ⟨j, e1, rfl⟩ := Option.map_eq_some_iff.mp e
      have hlt : i.toNat < xs.length := by
        rcases Nat.lt_or_ge i.toNat xs.length with q | q
        · exact q
        · rw [List.getElem?_eq_none q] at e1; cases e1
      have hlw : i.toNat < ws.length := by rw [ints_len hi]; exact hlt
      obtain ⟨u, hu⟩ := ints_item hi (j := i.toNat) (by simpa using hlw)
      have hj : xs.getD i.toNat 0 = j := by rw [List.getD_eq_getElem?_getD, e1]; rfl
      rw [hj] at hu
      have hws : ws[i.toNat]? = some (.int j u) := by
        rw [List.getElem?_eq_getElem hlw]; simpa using hu
      exact item_tupleT (l := ws) ⟨_, ho, rfl, n, rfl⟩ (by omega) (by omega) (seqIndex_of h0.1 (by omega)) hws (h _ (vr_int _ _)) (hsub _ _)
    · cases e
  · cases e
end
end Mini
end

section
open PySem PyProof.Rows
open PySem.SeqAt

namespace Mini
section
variable {prog : Program} {w : World} {A : Around} {E : Value → Shared → Prop} {s : Shared} {B : Nat} {σ : Sto}

theorem gt_ok (hu : A.units < cLine) {v b : V} {x y : Value} {c : Bool} {Q : Value → Shared → Prop} (h : VR s.heap v x) (h' : VR s.heap b y) (e : gtV v b = some c) (hQ : Q (.bool c) s) :
    wpAny (model prog w) A (richCompare .Gt x y) Q E s := by
  cases v <;> cases b <;> simp only [gtV, Option.some.injEq, reduceCtorEq] at e
  · subst e; obtain ⟨t, rfl⟩ := h; obtain ⟨t', rfl⟩ := h'
    exact PyProof.Rows.gt_int hQ
  · subst e
    obtain ⟨a, ws, n, rfl, ho, hi⟩ := h
    obtain ⟨a', ws', n', rfl, ho', hj⟩ := h'
    exact gt_tup ho ho' hi hj hu hQ

theorem tups_two {h h' : Heap} {I S : Addr} {oI oS : Obj} (k : ∀ b o, b ≠ I → b ≠ S → h.get? b = some o → h'.get? b = some o) (hI : h.get? I = some oI) (hS : h.get? S = some oS)
    (cI : oI.cls ≠ .type "tuple") (cS : oS.cls ≠ .type "tuple") : Tups h h' := fun a o e c => k a o (fun q => by subst q; rw [hI] at e; cases e; exact cI c.1) (fun q => by subst q; rw [hS] at e; cases e; exact cS c.1) e

theorem max_loop (hh : A.handled = none) (hu : A.in1.units < cLine) {l I S : Addr} (hlI : l ≠ I) (hlS : l ≠ S) (hIS : I ≠ S) {ws : List Value} {xs : List V} {n : Nat} {R : Result → Shared → Prop} {v : V} :
    ∀ (k i : Nat) (s : Shared) (vb : Value) (b : V) (c : Nat), xs.length - i = k → s.heap.IsListIter I l i → IsL s.heap l ws.toArray n → VRs s.heap xs ws → VR s.heap b vb →
    s.heap.get? S = some { cls := .type "list", dict := none, data := .seq #[vb, vb] c, slots := #[] } → bestV gtV b (xs.drop i) = some v →
    (∀ x h' tk, VR h' v x → (∀ b o, b ≠ I → b ≠ S → s.heap.get? b = some o → h'.get? b = some o) → R (.ok (.ret x)) { s with heap := h', toks := tk }) →
    codeAny (model prog w) A (.builtin "max.loop" ⟨[.ref I, .none, .ref S], []⟩) R s := by
  have hname : (toString "max" ++ toString ".loop" : String) = "max.loop" := by decide
  intro k
  induction k with
  | zero =>
    intro i s vb b c hk hst hl hv hb hS hbest hR
    have hge : xs.length ≤ i := by omega
    rw [List.drop_of_length_le hge] at hbest
    cases hbest
    refine codeAny_builtin F.entry_max_loop ?_
    rw [Around.under_plainId F.plain_max_loop _]
    show wpAny _ A.in1 (seqItems? (.ref S) >>= _) _ _ s
    refine wpAny_bind (wpAny_seqItems hS rfl ?_)
    show wpAny _ A.in1 (tryCatch (pyNext (.ref I)) _ >>= _) _ _ s
    refine wpAny_bind (wpAny_tryCatch (wpAny_pyNext_list_end hh hst hl.isList (Array.getElem?_eq_none (by rw [List.size_toArray, ← hv.length]; exact hge)) fun h' he => ?_))
    have hS' := he S _ (Ne.symm hIS) hS
    show wpAny _ A.in1 (updateSeq S (fun _ => #[]) >>= _) _ _ _
    refine wpAny_bind ?_
    refine wpAny_updateSeq hS' rfl (wpAny_bind (wpAny_letGo (wpAny_pure ?_)))
    have kk : ∀ b o, b ≠ I → b ≠ S → s.heap.get? b = some o → (h'.update S (Obj.mapSeq fun _ => #[])).get? b = some o := fun b o hbI hbS e => (Heap.get?_update_other _ _ (Ne.symm hbS)).trans (he b o hbI e)
    obtain ⟨oI, hoI, cI, dI⟩ := hst
    exact hR vb _ _ (hb.keeps (tups_two kk hoI hS (by rw [cI]; decide) (by show Value.type "list" ≠ Value.type "tuple"; decide))) kk
  | succ k ih =>
    intro i s vb b c hk hst hl hv hb hS hbest hR
    have hlt : i < xs.length := by omega
    have hx : xs[i]? = some xs[i] := List.getElem?_eq_getElem hlt
    obtain ⟨x, hx1, hx2⟩ := hv.get hx
    rw [List.drop_eq_getElem_cons hlt] at hbest
    refine codeAny_builtin F.entry_max_loop ?_
    rw [Around.under_plainId F.plain_max_loop _]
    show wpAny _ A.in1 (seqItems? (.ref S) >>= _) _ _ s
    refine wpAny_bind (wpAny_seqItems hS rfl ?_)
    show wpAny _ A.in1 (tryCatch (pyNext (.ref I)) _ >>= _) _ _ s
    refine wpAny_bind (wpAny_tryCatch (wpAny_pyNext_list_item hst hl.isList (x := x) (by simpa using hx1) fun h' hst' hs' => ?_))
    have hS' := hs'.extBut S _ (Ne.symm hIS) hS
    have hl' : IsL h' l ws.toArray n := hs'.extBut l _ hlI hl
    obtain ⟨oI, hoI, cI, dI⟩ := id hst
    have kt : Tups s.heap h' := fun a o e c => hs'.extBut a o (fun q => by subst q; rw [hoI] at e; cases e; have c := c.1; rw [cI] at c; exact absurd c (by decide)) e
    show wpAny _ A.in1 (tryCatch (holding [x, x] (richCompare .Gt x vb >>= _)) _ >>= _) _ _ _
    unfold bestV at hbest
    split at hbest
    · rename_i hg
      refine wpAny_bind (wpAny_tryCatch (wpAny_holding (wpAny_bind (gt_ok hu (hx2.keeps kt) (hb.keeps kt) hg ?_))))
      refine wpAny_bind (wpAny_holding (wpAny_truthy_bool ?_))
      refine wpAny_bind (wpAny_letGo (wpAny_pure ?_))
      simp only [if_true]
      refine wpAny_bind ?_
      refine wpAny_updateSeq hS' rfl (wpAny_bind (wpAny_letGo ?_))
      rw [hname]
      have kk : ∀ b o, b ≠ S → h'.get? b = some o → (h'.update S (Obj.mapSeq fun _ => #[x, x])).get? b = some o := fun b o hbS e => (Heap.get?_update_other _ _ (Ne.symm hbS)).trans e
      have kt2 : Tups h' (h'.update S (Obj.mapSeq fun _ => #[x, x])) := fun a o e c => kk a o (fun q => by subst q; rw [hS'] at e; cases e; exact absurd c.1 (by show ¬ Value.type "list" = Value.type "tuple"; decide)) e
      refine wpAny_pure ⟨plainId_quiet F.plain_max_loop _, ih (i + 1) _ x xs[i] _ (by omega) ?_ (kk _ _ hlS hl') ((hv.keeps kt).keeps kt2) ((hx2.keeps kt).keeps kt2) (Heap.get?_update_self _ hS' rfl) hbest fun x' h'' tk'' hv'' hk'' => ?_⟩
      · exact hst'.at fun o e => kk _ _ hIS e
      · exact hR x' h'' tk'' hv'' fun b o hbI hbS e => hk'' b o hbI hbS (kk _ _ hbS (hs'.extBut b o hbI e))
    · rename_i hg
      refine wpAny_bind (wpAny_tryCatch (wpAny_holding (wpAny_bind (gt_ok hu (hx2.keeps kt) (hb.keeps kt) hg ?_))))
      refine wpAny_bind (wpAny_holding (wpAny_truthy_bool ?_))
      refine wpAny_bind (wpAny_letGo (wpAny_pure ?_))
      simp only [Bool.false_eq_true, if_false]
      refine wpAny_bind (wpAny_letGo ?_)
      rw [hname]
      refine wpAny_pure ⟨plainId_quiet F.plain_max_loop _, ih (i + 1) _ vb b c (by omega) hst' hl' (hv.keeps kt) (hb.keeps kt) hS' hbest fun x' h'' tk'' hv'' hk'' => ?_⟩
      exact hR x' h'' tk'' hv'' fun b o hbI hbS e => hk'' b o hbI hbS (hs'.extBut b o hbI e)
    · cases hbest

theorem call_max (hh : A.handled = none) (hu : A.units + 2 < cLine) {l : Addr} {ws : List Value} {x₀ : V} {xs : List V} {n : Nat} {Q : Value → Shared → Prop} {v : V} (hl : IsL s.heap l ws.toArray n) (hv : VRs s.heap (x₀ :: xs) ws)
    (hbest : bestV gtV x₀ xs = some v) (h : ∀ x h' tk, VR h' v x → (∀ b o, s.heap.get? b = some o → h'.get? b = some o) → Q x { s with heap := h', toks := tk }) :
    wpAny (model prog w) A (call (.builtin "max") [.ref l]) Q E s := by
  have hname : (toString "max" ++ toString ".loop" : String) = "max.loop" := by decide
  have hu1 : A.in1.units < cLine := by show A.units + 1 < cLine; omega
  refine call_function_tree F.kind_max F.plain_max F.entry_max (F.args_max1 _) ?_
  show wpAny _ A.in1 (Builtin.Builtins.bindParams "max" ["key", "default"] 0 ⟨[], []⟩ >>= _) _ _ s
  refine wpAny_bind (wpAny_of_eq (show Builtin.Builtins.bindParams "max" ["key", "default"] 0 ⟨[], []⟩ = pure [none, none] from rfl) ?_)
  refine wpAny_bind (wpAny_pure ?_)
  refine wpAny_bind (wpAny_pyIter_list hl.isList ?_)
  refine wpAny_bind (wpAny_newObj_type ?_)
  rw [hname]
  have hlt : l < s.heap.objs.size := Heap.lt_size hl
  generalize hH : s.heap.push { cls := .type "list_iterator", data := .fields #[.ref l, .int 0 0] } = H1
  have hs1 : H1.objs.size = s.heap.objs.size + 1 := by rw [← hH, Heap.size_push]
  have k1 : ∀ b o, s.heap.get? b = some o → H1.get? b = some o := fun b o e => by rw [← hH]; exact Heap.get?_push_of_some _ e
  have hI1 : H1.IsListIter s.heap.objs.size l 0 := by rw [← hH]; exact ⟨_, Heap.get?_push_size _ rfl, rfl, rfl⟩
  have hIS : s.heap.objs.size ≠ H1.objs.size := by rw [hs1]; exact Nat.ne_of_lt (Nat.lt_succ_self _)
  have below : ∀ {b : Addr} {o : Obj}, s.heap.get? b = some o → b ≠ H1.objs.size := fun e => by rw [hs1]; exact Nat.ne_of_lt (Nat.lt_succ_of_lt (Heap.lt_size e))
  -- the first item
  obtain ⟨y, ys, rfl⟩ : ∃ y ys, ws = y :: ys := by
    cases ws with
    | nil => exact hv.elim
    | cons y ys => exact ⟨y, ys, rfl⟩
  refine wpAny_pure ⟨plainId_quiet F.plain_max_loop _, ?_⟩
  refine codeAny_builtin F.entry_max_loop ?_
  rw [Around.under_plainId F.plain_max_loop _]
  show wpAny _ A.in1 (seqItems? (.ref H1.objs.size) >>= _) _ _ _
  have hS : (H1.push { cls := .type "list", data := .seq ([] : List Value).toArray }).get? H1.objs.size = some { cls := .type "list", data := .seq ([] : List Value).toArray } := Heap.get?_push_size _ rfl
  have k2 : ∀ b o, H1.get? b = some o → (H1.push { cls := .type "list", data := .seq ([] : List Value).toArray }).get? b = some o := fun b o e => Heap.get?_push_of_some _ e
  refine wpAny_bind (wpAny_seqItems hS rfl ?_)
  show wpAny _ A.in1 (tryCatch (pyNext (.ref s.heap.objs.size)) _ >>= _) _ _ _
  have hI2 : (H1.push { cls := .type "list", data := .seq ([] : List Value).toArray }).IsListIter s.heap.objs.size l 0 := hI1.at fun o e => k2 _ _ e
  refine wpAny_bind (wpAny_tryCatch (wpAny_pyNext_list_item hI2 (IsL.isList (n := n) (k2 _ _ (k1 _ _ hl))) (x := y) (by simp) fun h' hst' hs' => ?_))
  have hS' := hs'.extBut H1.objs.size _ (Ne.symm hIS) hS
  show wpAny _ A.in1 (updateSeq H1.objs.size (fun _ => #[y, y]) >>= _) _ _ _
  refine wpAny_bind ?_
  refine wpAny_updateSeq hS' rfl ?_
  rw [hname]
  have kk : ∀ b o, b ≠ s.heap.objs.size → b ≠ H1.objs.size → (H1.push { cls := .type "list", data := .seq ([] : List Value).toArray }).get? b = some o → (h'.update H1.objs.size (Obj.mapSeq fun _ => #[y, y])).get? b = some o :=
    fun b o hbI hbS e => (Heap.get?_update_other _ _ (Ne.symm hbS)).trans (hs'.extBut b o hbI e)
  have ko : ∀ b o, s.heap.get? b = some o → (h'.update H1.objs.size (Obj.mapSeq fun _ => #[y, y])).get? b = some o := fun b o e =>
    kk b o (Nat.ne_of_lt (Heap.lt_size e)) (below e) (k2 _ _ (k1 _ _ e))
  have hv' := hv.keeps (Tups.grow ko)
  refine wpAny_pure ⟨plainId_quiet F.plain_max_loop _, max_loop hh hu1 (l := l) (I := s.heap.objs.size) (S := H1.objs.size) (Nat.ne_of_lt hlt) (below hl) hIS (ws := y :: ys) (xs := x₀ :: xs) (n := n) _ 1 _ y x₀ _ rfl
    ?_ (ko _ _ hl) hv' hv'.1 (Heap.get?_update_self _ hS' rfl) (by simpa using hbest) fun x h'' tk'' hx hk => h x h'' tk'' hx fun b o e => ?_⟩
  · exact hst'.at fun o e => (Heap.get?_update_other _ _ (Ne.symm hIS)).trans e
  · exact hk b o (Nat.ne_of_lt (Heap.lt_size e)) (below e) (ko _ _ e)
theorem lt_ok (_hu : A.units < cLine) {v b : V} {x y : Value} {c : Bool} {Q : Value → Shared → Prop} (h : VR s.heap v x) (h' : VR s.heap b y) (e : ltV v b = some c) (hQ : Q (.bool c) s) :
    wpAny (model prog w) A (richCompare .Lt x y) Q E s := by
  cases v <;> cases b <;> simp only [ltV, Option.some.injEq, reduceCtorEq] at e
  · subst e; obtain ⟨t, rfl⟩ := h; obtain ⟨t', rfl⟩ := h'
    exact PyProof.Rows.lt_int hQ

theorem min_loop (hh : A.handled = none) (hu : A.in1.units < cLine) {l I S : Addr} (hlI : l ≠ I) (hlS : l ≠ S) (hIS : I ≠ S) {ws : List Value} {xs : List V} {n : Nat} {R : Result → Shared → Prop} {v : V} :
    ∀ (k i : Nat) (s : Shared) (vb : Value) (b : V) (c : Nat), xs.length - i = k → s.heap.IsListIter I l i → IsL s.heap l ws.toArray n → VRs s.heap xs ws → VR s.heap b vb →
    s.heap.get? S = some { cls := .type "list", dict := none, data := .seq #[vb, vb] c, slots := #[] } → bestV ltV b (xs.drop i) = some v →
    (∀ x h' tk, VR h' v x → (∀ b o, b ≠ I → b ≠ S → s.heap.get? b = some o → h'.get? b = some o) → R (.ok (.ret x)) { s with heap := h', toks := tk }) →
    codeAny (model prog w) A (.builtin "min.loop" ⟨[.ref I, .none, .ref S], []⟩) R s := by
  have hname : (toString "min" ++ toString ".loop" : String) = "min.loop" := by decide
  intro k
  induction k with
  | zero =>
    intro i s vb b c hk hst hl hv hb hS hbest hR
    have hge : xs.length ≤ i := by omega
    rw [List.drop_of_length_le hge] at hbest
    cases hbest
    refine codeAny_builtin F.entry_min_loop ?_
    rw [Around.under_plainId F.plain_min_loop _]
    show wpAny _ A.in1 (seqItems? (.ref S) >>= _) _ _ s
    refine wpAny_bind (wpAny_seqItems hS rfl ?_)
    show wpAny _ A.in1 (tryCatch (pyNext (.ref I)) _ >>= _) _ _ s
    refine wpAny_bind (wpAny_tryCatch (wpAny_pyNext_list_end hh hst hl.isList (Array.getElem?_eq_none (by rw [List.size_toArray, ← hv.length]; exact hge)) fun h' he => ?_))
    have hS' := he S _ (Ne.symm hIS) hS
    show wpAny _ A.in1 (updateSeq S (fun _ => #[]) >>= _) _ _ _
    refine wpAny_bind ?_
    refine wpAny_updateSeq hS' rfl (wpAny_bind (wpAny_letGo (wpAny_pure ?_)))
    have kk : ∀ b o, b ≠ I → b ≠ S → s.heap.get? b = some o → (h'.update S (Obj.mapSeq fun _ => #[])).get? b = some o := fun b o hbI hbS e => (Heap.get?_update_other _ _ (Ne.symm hbS)).trans (he b o hbI e)
    obtain ⟨oI, hoI, cI, dI⟩ := hst
    exact hR vb _ _ (hb.keeps (tups_two kk hoI hS (by rw [cI]; decide) (by show Value.type "list" ≠ Value.type "tuple"; decide))) kk
  | succ k ih =>
    intro i s vb b c hk hst hl hv hb hS hbest hR
    have hlt : i < xs.length := by omega
    have hx : xs[i]? = some xs[i] := List.getElem?_eq_getElem hlt
    obtain ⟨x, hx1, hx2⟩ := hv.get hx
    rw [List.drop_eq_getElem_cons hlt] at hbest
    refine codeAny_builtin F.entry_min_loop ?_
    rw [Around.under_plainId F.plain_min_loop _]
    show wpAny _ A.in1 (seqItems? (.ref S) >>= _) _ _ s
    refine wpAny_bind (wpAny_seqItems hS rfl ?_)
    show wpAny _ A.in1 (tryCatch (pyNext (.ref I)) _ >>= _) _ _ s
    refine wpAny_bind (wpAny_tryCatch (wpAny_pyNext_list_item hst hl.isList (x := x) (by simpa using hx1) fun h' hst' hs' => ?_))
    have hS' := hs'.extBut S _ (Ne.symm hIS) hS
    have hl' : IsL h' l ws.toArray n := hs'.extBut l _ hlI hl
    obtain ⟨oI, hoI, cI, dI⟩ := id hst
    have kt : Tups s.heap h' := fun a o e c => hs'.extBut a o (fun q => by subst q; rw [hoI] at e; cases e; have c := c.1; rw [cI] at c; exact absurd c (by decide)) e
    show wpAny _ A.in1 (tryCatch (holding [x, x] (richCompare .Lt x vb >>= _)) _ >>= _) _ _ _
    unfold bestV at hbest
    split at hbest
    · rename_i hg
      refine wpAny_bind (wpAny_tryCatch (wpAny_holding (wpAny_bind (lt_ok hu (hx2.keeps kt) (hb.keeps kt) hg ?_))))
      refine wpAny_bind (wpAny_holding (wpAny_truthy_bool ?_))
      refine wpAny_bind (wpAny_letGo (wpAny_pure ?_))
      simp only [if_true]
      refine wpAny_bind ?_
      refine wpAny_updateSeq hS' rfl (wpAny_bind (wpAny_letGo ?_))
      rw [hname]
      have kk : ∀ b o, b ≠ S → h'.get? b = some o → (h'.update S (Obj.mapSeq fun _ => #[x, x])).get? b = some o := fun b o hbS e => (Heap.get?_update_other _ _ (Ne.symm hbS)).trans e
      have kt2 : Tups h' (h'.update S (Obj.mapSeq fun _ => #[x, x])) := fun a o e c => kk a o (fun q => by subst q; rw [hS'] at e; cases e; exact absurd c.1 (by show ¬ Value.type "list" = Value.type "tuple"; decide)) e
      refine wpAny_pure ⟨plainId_quiet F.plain_min_loop _, ih (i + 1) _ x xs[i] _ (by omega) ?_ (kk _ _ hlS hl') ((hv.keeps kt).keeps kt2) ((hx2.keeps kt).keeps kt2) (Heap.get?_update_self _ hS' rfl) hbest fun x' h'' tk'' hv'' hk'' => ?_⟩
      · exact hst'.at fun o e => kk _ _ hIS e
      · exact hR x' h'' tk'' hv'' fun b o hbI hbS e => hk'' b o hbI hbS (kk _ _ hbS (hs'.extBut b o hbI e))
    · rename_i hg
      refine wpAny_bind (wpAny_tryCatch (wpAny_holding (wpAny_bind (lt_ok hu (hx2.keeps kt) (hb.keeps kt) hg ?_))))
      refine wpAny_bind (wpAny_holding (wpAny_truthy_bool ?_))
      refine wpAny_bind (wpAny_letGo (wpAny_pure ?_))
      simp only [Bool.false_eq_true, if_false]
      refine wpAny_bind (wpAny_letGo ?_)
      rw [hname]
      refine wpAny_pure ⟨plainId_quiet F.plain_min_loop _, ih (i + 1) _ vb b c (by omega) hst' hl' (hv.keeps kt) (hb.keeps kt) hS' hbest fun x' h'' tk'' hv'' hk'' => ?_⟩
      exact hR x' h'' tk'' hv'' fun b o hbI hbS e => hk'' b o hbI hbS (hs'.extBut b o hbI e)
    · cases hbest

theorem call_min (hh : A.handled = none) (hu : A.units + 2 < cLine) {l : Addr} {ws : List Value} {x₀ : V} {xs : List V} {n : Nat} {Q : Value → Shared → Prop} {v : V} (hl : IsL s.heap l ws.toArray n) (hv : VRs s.heap (x₀ :: xs) ws)
    (hbest : bestV ltV x₀ xs = some v) (h : ∀ x h' tk, VR h' v x → (∀ b o, s.heap.get? b = some o → h'.get? b = some o) → Q x { s with heap := h', toks := tk }) :
    wpAny (model prog w) A (call (.builtin "min") [.ref l]) Q E s := by
  have hname : (toString "min" ++ toString ".loop" : String) = "min.loop" := by decide
  have hu1 : A.in1.units < cLine := by show A.units + 1 < cLine; omega
  refine call_function_tree F.kind_min F.plain_min F.entry_min (F.args_min1 _) ?_
  show wpAny _ A.in1 (Builtin.Builtins.bindParams "min" ["key", "default"] 0 ⟨[], []⟩ >>= _) _ _ s
  refine wpAny_bind (wpAny_of_eq (show Builtin.Builtins.bindParams "min" ["key", "default"] 0 ⟨[], []⟩ = pure [none, none] from rfl) ?_)
  refine wpAny_bind (wpAny_pure ?_)
  refine wpAny_bind (wpAny_pyIter_list hl.isList ?_)
  refine wpAny_bind (wpAny_newObj_type ?_)
  rw [hname]
  have hlt : l < s.heap.objs.size := Heap.lt_size hl
  generalize hH : s.heap.push { cls := .type "list_iterator", data := .fields #[.ref l, .int 0 0] } = H1
  have hs1 : H1.objs.size = s.heap.objs.size + 1 := by rw [← hH, Heap.size_push]
  have k1 : ∀ b o, s.heap.get? b = some o → H1.get? b = some o := fun b o e => by rw [← hH]; exact Heap.get?_push_of_some _ e
  have hI1 : H1.IsListIter s.heap.objs.size l 0 := by rw [← hH]; exact ⟨_, Heap.get?_push_size _ rfl, rfl, rfl⟩
  have hIS : s.heap.objs.size ≠ H1.objs.size := by rw [hs1]; exact Nat.ne_of_lt (Nat.lt_succ_self _)
  have below : ∀ {b : Addr} {o : Obj}, s.heap.get? b = some o → b ≠ H1.objs.size := fun e => by rw [hs1]; exact Nat.ne_of_lt (Nat.lt_succ_of_lt (Heap.lt_size e))
  -- the first item
  obtain ⟨y, ys, rfl⟩ : ∃ y ys, ws = y :: ys := by
    cases ws with
    | nil => exact hv.elim
    | cons y ys => exact ⟨y, ys, rfl⟩
  refine wpAny_pure ⟨plainId_quiet F.plain_min_loop _, ?_⟩
  refine codeAny_builtin F.entry_min_loop ?_
  rw [Around.under_plainId F.plain_min_loop _]
  show wpAny _ A.in1 (seqItems? (.ref H1.objs.size) >>= _) _ _ _
  have hS : (H1.push { cls := .type "list", data := .seq ([] : List Value).toArray }).get? H1.objs.size = some { cls := .type "list", data := .seq ([] : List Value).toArray } := Heap.get?_push_size _ rfl
  have k2 : ∀ b o, H1.get? b = some o → (H1.push { cls := .type "list", data := .seq ([] : List Value).toArray }).get? b = some o := fun b o e => Heap.get?_push_of_some _ e
  refine wpAny_bind (wpAny_seqItems hS rfl ?_)
  show wpAny _ A.in1 (tryCatch (pyNext (.ref s.heap.objs.size)) _ >>= _) _ _ _
  have hI2 : (H1.push { cls := .type "list", data := .seq ([] : List Value).toArray }).IsListIter s.heap.objs.size l 0 := hI1.at fun o e => k2 _ _ e
  refine wpAny_bind (wpAny_tryCatch (wpAny_pyNext_list_item hI2 (IsL.isList (n := n) (k2 _ _ (k1 _ _ hl))) (x := y) (by simp) fun h' hst' hs' => ?_))
  have hS' := hs'.extBut H1.objs.size _ (Ne.symm hIS) hS
  show wpAny _ A.in1 (updateSeq H1.objs.size (fun _ => #[y, y]) >>= _) _ _ _
  refine wpAny_bind ?_
  refine wpAny_updateSeq hS' rfl ?_
  rw [hname]
  have kk : ∀ b o, b ≠ s.heap.objs.size → b ≠ H1.objs.size → (H1.push { cls := .type "list", data := .seq ([] : List Value).toArray }).get? b = some o → (h'.update H1.objs.size (Obj.mapSeq fun _ => #[y, y])).get? b = some o :=
    fun b o hbI hbS e => (Heap.get?_update_other _ _ (Ne.symm hbS)).trans (hs'.extBut b o hbI e)
  have ko : ∀ b o, s.heap.get? b = some o → (h'.update H1.objs.size (Obj.mapSeq fun _ => #[y, y])).get? b = some o := fun b o e =>
    kk b o (Nat.ne_of_lt (Heap.lt_size e)) (below e) (k2 _ _ (k1 _ _ e))
  have hv' := hv.keeps (Tups.grow ko)
  refine wpAny_pure ⟨plainId_quiet F.plain_min_loop _, min_loop hh hu1 (l := l) (I := s.heap.objs.size) (S := H1.objs.size) (Nat.ne_of_lt hlt) (below hl) hIS (ws := y :: ys) (xs := x₀ :: xs) (n := n) _ 1 _ y x₀ _ rfl
    ?_ (ko _ _ hl) hv' hv'.1 (Heap.get?_update_self _ hS' rfl) (by simpa using hbest) fun x h'' tk'' hx hk => h x h'' tk'' hx fun b o e => ?_⟩
  · exact hst'.at fun o e => (Heap.get?_update_other _ _ (Ne.symm hIS)).trans e
  · exact hk b o (Nat.ne_of_lt (Heap.lt_size e)) (below e) (ko _ _ e)
end
end Mini
end

section
open PySem PyProof.Rows
open PySem.SeqAt

namespace Mini
section
theorem remove_loopAt (l : Addr) (items : Array Value) (n : Nat) (x : Value) (e : Value → Bool) (j : Nat) (hj : j < items.size) (hit : e items[j] = true) (k : Nat) (hs1 : items.size ≤ sizeLine) :
    ∀ i : Nat, j - i = k → i ≤ j → (∀ m (hm : m < items.size), i ≤ m → m < j → e items[m] = false) → Meets (Builtin.«list.remove.loop» ⟨[.ref l, x, rawInt i], []⟩)
      (fun A R s => s.heap.get? l = some { cls := .type "list", dict := none, data := .seq items n, slots := #[] } ∧ (∀ y, y ∈ items → EqAt A.in1 s y x (e y)) ∧
        R (.ok (.ret .none)) { s with heap := s.heap.update l (Obj.mapSeq fun xs => xs.eraseIdxIfInBounds j) }) := by
  induction k with
  | zero =>
    intro i hk hij hno prog w A R s h
    obtain ⟨hp, g, d, tk, os⟩ := s; obtain ⟨hl, he, h⟩ := h
    have hij' : i = j := by omega
    subst hij'
    wp_walk using AutoSeq1.wpAny_loadPart' hl
    have hi : items[((i : Nat) : Int).toNat]? = some items[i] := by simp [hj]
    rw [hi]
    refine wpAny_bind (he _ (Array.getElem_mem hj) prog w _ _ ?_)
    rw [hit]
    have hz' : (items.eraseIdxIfInBounds i).size ≤ sizeLine + 1 := Nat.le_trans (MeetsSeq.size_erased items _) (Nat.le_succ_of_le hs1)
    wp_walk using (wpAny_updateSeq hl rfl (hz := hs1) (_hz' := hz')), AutoSeq1.wpAny_loadPart' hl
    simpa using h
  | succ k ih =>
    intro i hk hij hno prog w A R s h
    obtain ⟨hp, g, d, tk, os⟩ := s; obtain ⟨hl, he, h⟩ := h
    have hlt : i < items.size := by omega
    wp_walk using AutoSeq1.wpAny_loadPart' hl
    have hi : items[((i : Nat) : Int).toNat]? = some items[i] := by simp [hlt]
    have hc : ((i : Int) + 1) = ((i + 1 : Nat) : Int) := by push_cast; rfl
    rw [hi]
    refine wpAny_bind (he _ (Array.getElem_mem hlt) prog w _ _ ?_)
    rw [hno i hlt (Nat.le_refl _) (by omega)]
    wp_walk
    rw [hc]
    exact ⟨plainId_quiet MeetsSeq.plain_remove_loop _, codeAny_builtin MeetsSeq.entry_remove_loop (by
      rw [Around.under_plainId MeetsSeq.plain_remove_loop _]
      exact ih (i + 1) (by omega) (by omega) (fun m hm h1 h2 => hno m hm (by omega) h2) prog w A R _ ⟨hl, he, h⟩)⟩

theorem list_removeAt (l : Addr) (items : Array Value) (n : Nat) (x : Value) (e : Value → Bool) (j : Nat) (hj : j < items.size)
    (hit : e items[j] = true) (hno : ∀ m (hm : m < items.size), m < j → e items[m] = false) (hs1 : items.size ≤ sizeLine) :
    Meets (Builtin.«list.remove» ⟨[.ref l, x], []⟩)
      (fun A R s => s.heap.get? l = some { cls := .type "list", dict := none, data := .seq items n, slots := #[] } ∧ (∀ y, y ∈ items → EqAt A.in1 s y x (e y)) ∧
        R (.ok (.ret .none)) { s with heap := s.heap.update l (Obj.mapSeq fun xs => xs.eraseIdxIfInBounds j) }) := by
  intro prog w A R s h
  obtain ⟨hp, g, d, tk, os⟩ := s; obtain ⟨hl, he, h⟩ := h
  wp_walk using AutoSeq1.wpAny_loadPart' hl
  exact ⟨plainId_quiet MeetsSeq.plain_remove_loop _, codeAny_builtin MeetsSeq.entry_remove_loop (by
    rw [Around.under_plainId MeetsSeq.plain_remove_loop _]
    exact remove_loopAt l items n x e j hj hit _ hs1 0 rfl (Nat.zero_le _) (fun m hm _ h2 => hno m hm h2) prog w A R _ ⟨hl, he, h⟩)⟩
end

theorem removeV_spec {v : V} : ∀ {xs ys : List V}, removeV v xs = some ys → ∃ j, ∃ hj : j < xs.length, eqS xs[j] v = some true ∧ (∀ m (hm : m < xs.length), m < j → eqS xs[m] v = some false) ∧ ys = xs.eraseIdx j
  | [], ys, e => by cases e
  | x :: xs, ys, e => by
    unfold removeV at e
    split at e
    · rename_i h1
      cases e
      exact ⟨0, Nat.zero_lt_succ _, h1, fun m _ h => absurd h (Nat.not_lt_zero _), rfl⟩
    · rename_i h1
      obtain ⟨zs, e1, rfl⟩ := Option.map_eq_some_iff.mp e
      obtain ⟨j, hj, a, b, rfl⟩ := removeV_spec e1
      refine ⟨j + 1, Nat.succ_lt_succ hj, a, fun m hm h => ?_, rfl⟩
      cases m with
      | zero => exact h1
      | succ m => exact b m (Nat.lt_of_succ_lt_succ hm) (Nat.lt_of_succ_lt_succ h)
    · cases e

theorem VRs.erase {h : Heap} : ∀ {vs : List V} {ws : List Value} {i : Nat}, VRs h vs ws → VRs h (vs.eraseIdx i) (ws.eraseIdx i)
  | [], [], _, _ => trivial
  | _ :: _, _ :: _, 0, ⟨_, r⟩ => r
  | _ :: _, _ :: _, i + 1, ⟨a, r⟩ => ⟨a, VRs.erase (i := i) r⟩
  | [], _ :: _, _, x => x.elim
  | _ :: _, [], _, x => x.elim

section
variable {prog : Program} {w : World} {A : Around} {E : Value → Shared → Prop} {s : Shared} {B : Nat} {σ : Sto}

theorem Ret.write {Q : V → Sto → Prop} {xs : List V} {ws : List Value} {h' : Heap} {a : Addr} {tk : Nat} {v : V} {x : Value} (L : LR σ s.heap) (ha : σ a ≠ Option.none) (hB : B ≤ a) (k : ∀ b o, b ≠ a → s.heap.get? b = some o → h'.get? b = some o)
    (hl : ∃ n, IsL h' a (List.toArray ws) n) (hv : VRs s.heap xs ws) (hx : xs.length ≤ LIM) (hr : VR s.heap v x) (h : Q v (upd σ a xs)) : Ret B σ s Q x { s with heap := h', toks := tk } := by
  obtain ⟨n, hl⟩ := hl
  have kt : Tups s.heap h' := fun b o e c => k b o (fun q => by subst q; exact ha (L.none_of e (.inl (by rw [c.1]; decide)))) e
  exact ⟨v, upd σ a xs, .write k ha hB ⟨_, hl⟩, hr.keeps kt, L.write k ha hl hv hx, h⟩

theorem toArr_erase (ws : List Value) (j : Nat) : ws.toArray.eraseIdxIfInBounds j = (ws.eraseIdx j).toArray := by
  simp

/-- list methods, the list and the arguments at hand -/
theorem meth_ok (hu : A.units + 8 < cLine) {m : Meth} {a : V} {x : Value} {vs : List V} {ws : List Value} {Q : V → Sto → Prop} (L : LR σ s.heap) (ha : VR s.heap a x) (hv : VRs s.heap vs ws) (e : wpMeth B m a vs σ Q) :
    ∃ l : Addr, x = .ref l ∧ wpAny (model prog w) A (call (.builtin m.id) (.ref l :: ws)) (Ret B σ s Q) No s := by
  unfold wpMeth at e
  split at e
  · cases ha
    obtain ⟨xs, v, h1, hB, h2⟩ := e
    match ws, hv with
    | [], _ =>
      obtain ⟨ws, n, hl, hv, hz⟩ := L _ _ h1
      refine ⟨_, rfl, ?_⟩
      have hlen := hv.length
      rw [List.length_append, List.length_singleton] at hlen
      have hsz : ws.toArray.size - 1 = xs.length := by rw [List.size_toArray]; omega
      obtain ⟨y, hy1, hy2⟩ := hv.get (i := xs.length) (v := v) (by simp)
      show wpAny _ _ (call (.builtin "list.pop") _) _ _ _
      refine call_meets F.slot_list_pop ⟨_, hl, rfl⟩ F.entry_list_pop (F.args_list_pop_1 _) (MeetsSeq.list_pop_last _ ws.toArray n y (by rw [hsz]; simpa using hy1) (by rw [List.size_toArray, ← hv.length]; exact limOk hz)) ⟨hl, ?_⟩
      rw [hsz]
      refine Ret.write (ws := ws.eraseIdx xs.length) L (by rw [h1]; exact fun q => nomatch q) hB (fun b o hb e => (Heap.get?_update_other _ _ (Ne.symm hb)).trans e) ?_ ?_ ?_ hy2 h2
      · rw [← toArr_erase]; exact ⟨_, Heap.get?_update_self _ hl rfl⟩
      · have := VRs.erase (i := xs.length) hv
        rwa [List.eraseIdx_append_of_length_le (Nat.le_refl _), Nat.sub_self, List.eraseIdx_zero, List.tail_cons, List.append_nil] at this
      · rw [List.length_append] at hz; omega
  · cases ha
    obtain ⟨xs, h1, hB, h3, h2⟩ := e
    match ws, hv with
    | [y], ⟨hy, _⟩ =>
      obtain ⟨ws, n, hl, hv, hz⟩ := L _ _ h1
      refine ⟨_, rfl, ?_⟩
      show wpAny _ _ (call (.builtin "list.append") _) _ _ _
      refine call_meets F.slot_list_append ⟨_, hl, rfl⟩ F.entry_list_append (F.args_list_append_2 _ _) (PySem.list_append _ ws.toArray n y (by rw [List.size_toArray, ← hv.length]; exact limOk hz)) ⟨hl, ?_⟩
      refine Ret.write (ws := ws ++ [y]) L (by rw [h1]; exact fun q => nomatch q) hB (fun b o hb e => (Heap.get?_update_other _ _ (Ne.symm hb)).trans e) ?_ (hv.append (VRs.single hy)) ?_ (v := .none) rfl h2
      · have := Heap.get?_update_self (Obj.mapSeq fun x_1 => x_1.push y) hl rfl
        refine ⟨n + 1, this.trans ?_⟩
        simp only [Obj.mapSeq]
        simp
      · rw [List.length_append]; simp; omega
    | y :: z :: r, ⟨_, q⟩ => exact q.elim
    | [], q => exact q.elim
  · rename_i la v
    cases ha
    obtain ⟨xs, ys, h1, hB, hc, h3, h2⟩ := e
    match ws, hv with
    | [y], ⟨hy, _⟩ =>
      obtain ⟨ws, n, hl, hv, hz⟩ := L _ _ h1
      refine ⟨_, rfl, ?_⟩
      obtain ⟨j, hj, e1, e2, rfl⟩ := removeV_spec h3
      have hq : ∀ z ∈ xs, (eqS z v).isSome = true := by simpa [comparable] using hc
      have hjw : j < ws.toArray.size := by rw [List.size_toArray, ← hv.length]; exact hj
      have item : ∀ m (hm : m < xs.length) (hm' : m < ws.toArray.size), eqOn s.heap v ws.toArray[m] = (eqS xs[m] v == some true) := fun m hm hm' => by
        obtain ⟨z, hz1, hz2⟩ := hv.get (List.getElem?_eq_getElem hm)
        have : ws.toArray[m] = z := by
          have h' : m < ws.length := by rw [← hv.length]; exact hm
          rw [List.getElem?_eq_getElem h'] at hz1
          simpa using hz1
        rw [this]
        exact eqOn_of hz2 (hq _ (List.getElem_mem hm))
      show wpAny _ _ (call (.builtin "list.remove") _) _ _ _
      refine call_meets F.slot_list_remove ⟨_, hl, rfl⟩ F.entry_list_remove (F.args_list_remove_2 _ _) (list_removeAt _ ws.toArray n y (eqOn s.heap v) j hjw (by rw [item j hj hjw, e1]; rfl)
        (fun m hm hlt => by
          have hm' : m < xs.length := by omega
          rw [item m hm' hm, e2 m hm' hlt]; rfl) (by rw [List.size_toArray, ← hv.length]; exact limOk hz)) ⟨hl, fun z hz => ?_, ?_⟩
      · exact eqOn_at (A := A.in1) (by show A.units + 1 < cLine; omega) hv hq hy (by simpa using hz)
      · refine Ret.write (ws := ws.eraseIdx j) L (by rw [h1]; exact fun q => nomatch q) hB (fun b o hb e => (Heap.get?_update_other _ _ (Ne.symm hb)).trans e) ?_ hv.erase ?_ (v := .none) rfl h2
        · rw [← toArr_erase]; exact ⟨_, Heap.get?_update_self _ hl rfl⟩
        · rw [List.length_eraseIdx]; split <;> omega
    | y :: z :: r, ⟨_, q⟩ => exact q.elim
    | [], q => exact q.elim
  · exact e.elim
end
end Mini
end

section
open PySem PyProof.Rows
open PySem.SeqAt

namespace Mini
section
variable {prog : Program} {w : World} {A : Around} {E : Value → Shared → Prop} {s : Shared} {B : Nat} {σ : Sto}

theorem preSum_all (l : List Int) : preSum (fun i => l.getD i 0) l.length = l.sum := by
  rw [preSum_getD, List.take_length]

theorem sum_ok (hh : A.handled = none) {l : Addr} {ws : List Value} {n : Nat} {ns : List Int} {Q : Value → Shared → Prop} (hl : IsL s.heap l ws.toArray n) (hi : IntsAre ws ns)
    (h : ∀ h' tk t, (∀ b o, s.heap.get? b = some o → h'.get? b = some o) → Q (.int ns.sum t) { s with heap := h', toks := tk }) : wpAny (model prog w) A (call (.builtin "sum") [.ref l]) Q E s := by
  have hlt : l < s.heap.objs.size := Heap.lt_size hl
  refine call_sum_walkG (wpAny_pyIter_list hl.isList ⟨s.heap.objs.size, [s.heap.objs.size, l], [s.heap.objs.size], ws.toArray.size, _, _, fun i => ns.getD i 0, rfl,
    Walks.list (A := A.in1) hh _ _ (Nat.ne_of_lt hlt) ws.toArray, ⟨⟨_, Heap.get?_push_size _ rfl, rfl, rfl⟩, hl.isList.push _⟩, ?_, ?_, ?_⟩)
  · intro b hb
    show b < (s.heap.push _).objs.size
    rw [Heap.size_push]
    rcases List.mem_cons.mp hb with rfl | hb
    · exact Nat.lt_succ_self _
    · rcases List.mem_cons.mp hb with rfl | hb
      · exact Nat.lt_succ_of_lt hlt
      · cases hb
  · intro i v hv
    have hi' : i < ws.toArray.size := by
      rcases Nat.lt_or_ge i ws.toArray.size with q | q
      · exact q
      · rw [Array.getElem?_eq_none q] at hv; cases hv
    rw [Array.getElem?_eq_getElem hi'] at hv
    cases hv
    exact ints_item hi hi'
  · intro h' tk t hk
    rw [List.size_toArray, ints_len hi, preSum_all]
    exact h h' tk t fun b o e => hk b o (fun hm => by rw [List.mem_singleton] at hm; exact absurd (Heap.lt_size e) (by rw [hm]; exact Nat.lt_irrefl _)) (Heap.get?_push_of_some _ e)

theorem two_ok (hh : A.handled = none) {a b : Int} {t u : Tok} {Q : Value → Shared → Prop}
    (h : ∀ h' tk t', (∀ b o, s.heap.get? b = some o → h'.get? b = some o) → Q (.int (if a < b then b else a) t') { s with heap := h', toks := tk }) : wpAny (model prog w) A (call (.builtin "max") [.int a t, .int b u]) Q E s := by
  refine call_max_two (wpAny_pyIter_tuple (items := #[Value.int a t, Value.int b u]) ⟨_, Heap.get?_push_size _ rfl, rfl, 0, rfl⟩ ⟨_, _, _, 2, _, _, fun i j => decide ((if j = 0 then a else b) < (if i = 0 then a else b)), rfl,
    Walks.tuple (A := A.in1) hh _ s.heap.objs.size (Nat.ne_of_lt (by rw [Heap.size_push]; exact Nat.lt_succ_self _)) #[Value.int a t, Value.int b u], ⟨⟨_, Heap.get?_push_size _ rfl, rfl, rfl⟩, ⟨_, Heap.get?_push_of_some _ (Heap.get?_push_size _ rfl), rfl, 0, rfl⟩⟩, ?_, by decide, ?_, ?_⟩)
  · intro b hb
    show b < ((s.heap.push _).push _).objs.size
    rw [Heap.size_push]
    rcases List.mem_cons.mp hb with rfl | hb
    · exact Nat.lt_succ_self _
    · rcases List.mem_cons.mp hb with rfl | hb
      · rw [Heap.size_push]; exact Nat.lt_succ_of_lt (Nat.lt_succ_self _)
      · cases hb
  · intro i j vi vj s Q E hi hj hQ
    have key : ∀ k v, #[Value.int a t, .int b u][k]? = some v → ∃ t', v = Value.int (if k = 0 then a else b) t' := by
      intro k v hk
      match k with
      | 0 => simp at hk; exact ⟨t, hk.symm⟩
      | 1 => simp at hk; exact ⟨u, hk.symm⟩
      | k + 2 => simp at hk
    obtain ⟨t1, rfl⟩ := key i vi hi
    obtain ⟨t2, rfl⟩ := key j vj hj
    exact PyProof.Rows.gt_int hQ
  · intro v h' tk hv hk
    have : ∃ t', v = Value.int (if a < b then b else a) t' := by
      simp only [argBest, if_true, Nat.one_ne_zero, if_false] at hv
      by_cases hab : a < b
      · simp [hab] at hv ⊢; exact ⟨u, hv.symm⟩
      · simp [hab] at hv ⊢; exact ⟨t, hv.symm⟩
    obtain ⟨t', rfl⟩ := this
    exact h h' tk t' fun b o e => hk b o (fun hm => by
      rw [List.mem_singleton] at hm
      have := Heap.lt_size e
      rw [hm, Heap.size_push] at this
      exact absurd this (Nat.not_lt.mpr (Nat.le_succ _))) (Heap.get?_push_of_some _ (Heap.get?_push_of_some _ e))
theorem twoMin_ok (hh : A.handled = none) {a b : Int} {t u : Tok} {Q : Value → Shared → Prop}
    (h : ∀ h' tk t', (∀ b o, s.heap.get? b = some o → h'.get? b = some o) → Q (.int (if b < a then b else a) t') { s with heap := h', toks := tk }) : wpAny (model prog w) A (call (.builtin "min") [.int a t, .int b u]) Q E s := by
  refine call_min_two (wpAny_pyIter_tuple (items := #[Value.int a t, Value.int b u]) ⟨_, Heap.get?_push_size _ rfl, rfl, 0, rfl⟩ ⟨_, _, _, 2, _, _, fun i j => decide ((if i = 0 then a else b) < (if j = 0 then a else b)), rfl,
    Walks.tuple (A := A.in1) hh _ s.heap.objs.size (Nat.ne_of_lt (by rw [Heap.size_push]; exact Nat.lt_succ_self _)) #[Value.int a t, Value.int b u], ⟨⟨_, Heap.get?_push_size _ rfl, rfl, rfl⟩, ⟨_, Heap.get?_push_of_some _ (Heap.get?_push_size _ rfl), rfl, 0, rfl⟩⟩, ?_, by decide, ?_, ?_⟩)
  · intro b hb
    show b < ((s.heap.push _).push _).objs.size
    rw [Heap.size_push]
    rcases List.mem_cons.mp hb with rfl | hb
    · exact Nat.lt_succ_self _
    · rcases List.mem_cons.mp hb with rfl | hb
      · rw [Heap.size_push]; exact Nat.lt_succ_of_lt (Nat.lt_succ_self _)
      · cases hb
  · intro i j vi vj s Q E hi hj hQ
    have key : ∀ k v, #[Value.int a t, .int b u][k]? = some v → ∃ t', v = Value.int (if k = 0 then a else b) t' := by
      intro k v hk
      match k with
      | 0 => simp at hk; exact ⟨t, hk.symm⟩
      | 1 => simp at hk; exact ⟨u, hk.symm⟩
      | k + 2 => simp at hk
    obtain ⟨t1, rfl⟩ := key i vi hi
    obtain ⟨t2, rfl⟩ := key j vj hj
    exact PyProof.Rows.lt_int hQ
  · intro v h' tk hv hk
    have : ∃ t', v = Value.int (if b < a then b else a) t' := by
      simp only [argBest, if_true, Nat.one_ne_zero, if_false] at hv
      by_cases hab : b < a
      · simp [hab] at hv ⊢; exact ⟨u, hv.symm⟩
      · simp [hab] at hv ⊢; exact ⟨t, hv.symm⟩
    obtain ⟨t', rfl⟩ := this
    exact h h' tk t' fun b o e => hk b o (fun hm => by
      rw [List.mem_singleton] at hm
      have := Heap.lt_size e
      rw [hm, Heap.size_push] at this
      exact absurd this (Nat.not_lt.mpr (Nat.le_succ _))) (Heap.get?_push_of_some _ (Heap.get?_push_of_some _ e))

theorem Ret.grow {Q : V → Sto → Prop} {v : V} {x : Value} {h' : Heap} {tk : Nat} (L : LR σ s.heap) (k : ∀ b o, s.heap.get? b = some o → h'.get? b = some o) (hv : VR h' v x) (h : Q v σ) : Ret B σ s Q x { s with heap := h', toks := tk } :=
  ⟨v, σ, .grow k, hv, L.grow k, h⟩

theorem blt_ok (hh : A.handled = none) (hu : A.units + 8 < cLine) {f : Blt} {vs : List V} {ws : List Value} {Q : V → Sto → Prop} (L : LR σ s.heap) (hB : B ≤ s.heap.objs.size) (hv : VRs s.heap vs ws) (e : wpBlt B f vs σ Q) :
    wpAny (model prog w) A (call f.val ws) (Ret B σ s Q) No s := by
  unfold wpBlt at e
  split at e
  · -- len
    match ws, hv with
    | [x], ⟨hx, _⟩ =>
      cases hx
      obtain ⟨xs, h1, h2⟩ := e
      obtain ⟨ws, n, hl, hv, hz⟩ := L _ _ h1
      refine Calls.call_len_list hl.isList (by rw [List.size_toArray, ← hv.length]; unfold LIM at hz; omega) ?_
      rw [List.size_toArray, ← hv.length]
      exact Ret.here L (vr_int _ _) _ h2
    | _ :: _ :: _, ⟨_, q⟩ => exact q.elim
    | [], q => exact q.elim
  · -- sum
    match ws, hv with
    | [x], ⟨hx, _⟩ =>
      cases hx
      obtain ⟨xs, ns, h1, hn, h2⟩ := e
      obtain ⟨ws, n, hl, hv, hz⟩ := L _ _ h1
      exact sum_ok hh hl (hv.ints hn) fun h' tk t k => Ret.grow L k (vr_int _ _) h2
    | _ :: _ :: _, ⟨_, q⟩ => exact q.elim
    | [], q => exact q.elim
  · -- max
    match ws, hv with
    | [x], ⟨hx, _⟩ =>
      cases hx
      obtain ⟨x₀, xs, v, h1, hn, hb, h2⟩ := e
      obtain ⟨ws, n, hl, hv, hz⟩ := L _ _ h1
      exact call_max hh (by omega) hl hv hb fun x h' tk hx k => Ret.grow L k hx h2
    | _ :: _ :: _, ⟨_, q⟩ => exact q.elim
    | [], q => exact q.elim
  · -- min
    match ws, hv with
    | [x], ⟨hx, _⟩ =>
      cases hx
      obtain ⟨x₀, xs, ns, v, h1, hn, hb, h2⟩ := e
      obtain ⟨ws, n, hl, hv, hz⟩ := L _ _ h1
      exact call_min hh (by omega) hl hv hb fun x h' tk hx k => Ret.grow L k hx h2
    | _ :: _ :: _, ⟨_, q⟩ => exact q.elim
    | [], q => exact q.elim
  · match ws, hv with
    | [x, y], ⟨⟨t, hx⟩, ⟨t', hy⟩, _⟩ =>
      subst hx hy
      exact two_ok hh fun h' tk t k => Ret.grow L k (vr_int _ _) e
    | _ :: _ :: _ :: _, ⟨_, _, q⟩ => exact q.elim
    | [_], ⟨_, q⟩ => exact q.elim
    | [], q => exact q.elim
  · match ws, hv with
    | [x, y], ⟨⟨t, hx⟩, ⟨t', hy⟩, _⟩ =>
      subst hx hy
      exact twoMin_ok hh fun h' tk t k => Ret.grow L k (vr_int _ _) e
    | _ :: _ :: _ :: _, ⟨_, _, q⟩ => exact q.elim
    | [_], ⟨_, q⟩ => exact q.elim
    | [], q => exact q.elim
  · -- sorted
    match ws, hv with
    | [x], ⟨hx, _⟩ =>
      cases hx
      obtain ⟨xs, ns, h1, hn, h64, h2⟩ := e
      obtain ⟨ws, n, hl, hv, hz⟩ := L _ _ h1
      refine sorted_ints hl.isList (hv.ints hn) (by rw [← hv.length]; exact h64) fun out ns' a1 a2 a3 => ?_
      obtain ⟨c, hc⟩ := sortedAll_at s.heap ws out
      refine Ret.alloc (ws := out.toList) (n := c) L hB (fun b o e => sortedAll_old e) (Nat.le_succ _) (by rw [Array.toArray_toList]; exact hc) (VRs.ofInts a1) ?_ (h2 ns' a2 a3)
      rw [List.length_map, a2.length_eq, ← ints_len (hv.ints hn), ← hv.length]
      exact hz
    | _ :: _ :: _, ⟨_, q⟩ => exact q.elim
    | [], q => exact q.elim
  · -- list
    match ws, hv with
    | [x], ⟨hx, _⟩ =>
      cases hx
      obtain ⟨xs, h1, h2⟩ := e
      obtain ⟨ws, n, hl, hv, hz⟩ := L _ _ h1
      exact call_list_seq _ (.inl rfl) hl rfl rfl (fun h' c' k hn => Ret.alloc (n := c') L hB k (Nat.le_refl _) hn hv hz h2) (by rw [List.size_toArray, ← hv.length]; exact limOk hz)
    | _ :: _ :: _, ⟨_, q⟩ => exact q.elim
    | [], q => exact q.elim
  · match ws, hv with
    | [x], ⟨hx, _⟩ =>
      obtain ⟨p, ws, n, rfl, ho, hi⟩ := hx
      obtain ⟨hz, h2⟩ := e
      exact call_list_seq _ (.inr rfl) ho rfl rfl (fun h' c' k hn => Ret.alloc (n := c') L hB k (Nat.le_refl _) hn (VRs.ofInts hi) (by rw [List.length_map]; exact hz) h2) (by rw [List.size_toArray, ints_len hi]; exact limOk hz)
    | _ :: _ :: _, ⟨_, q⟩ => exact q.elim
    | [], q => exact q.elim
  · match ws, hv with
    | [x], ⟨hx, _⟩ =>
      obtain ⟨t, rfl⟩ := hx
      exact PyProof.Rows.call_abs_int fun u tk => Ret.here L (vr_int _ _) _ e
    | _ :: _ :: _, ⟨_, q⟩ => exact q.elim
    | [], q => exact q.elim
  · exact e.elim
end
end Mini
end

section
open PySem PyProof.Rows
open PySem.SeqAt

namespace Mini

structure Src (prog : Program) (w : World) (A : Around) (xs : List V) (src : Option Nat) (I : Addr) (St : Nat → Heap → Prop) : Prop where
  own : ∀ i h, St i h → ∃ o, h.get? I = some o ∧ o.cls ≠ .type "tuple" ∧ (∀ xs n, o.data ≠ .seq xs n) ∧ (∀ v, o.data ≠ .cell v) ∧ ∀ es n, o.data ≠ .dict es n
  frame : ∀ i h h', St i h → (∀ o, h.get? I = some o → h'.get? I = some o) → St i h'
  item : ∀ i v s Q E σ, xs[i]? = some v → St i s.heap → LR σ s.heap → stable src xs σ →
    (∀ x h' tk, VR h' v x → St (i + 1) h' → (∀ b o, b ≠ I → s.heap.get? b = some o → h'.get? b = some o) → Q (some x) { s with heap := h', toks := tk }) → wpAny (model prog w) A (pyNext (.ref I)) Q E s
  done : ∀ s Q E σ, St xs.length s.heap → LR σ s.heap → stable src xs σ →
    (∀ h' tk, (∀ b o, b ≠ I → s.heap.get? b = some o → h'.get? b = some o) → Q none { s with heap := h', toks := tk }) → wpAny (model prog w) A (pyNext (.ref I)) Q E s
  self : ∀ i (s : Shared) (Q : Value → Shared → Prop) (E : Value → Shared → Prop), St i s.heap → Q (.ref I) s → wpAny (model prog w) A (pyIter (.ref I)) Q E s

def IterOf (prog : Program) (w : World) (A : Around) (s₀ : Shared) (x : Value) (xs : List V) (src : Option Nat) (s : Shared) : Prop :=
  ∀ (Q : Value → Shared → Prop) (E : Value → Shared → Prop), (∀ I St h' tk, Src prog w A xs src I St → St 0 h' → s₀.heap.get? I = none → (∀ b o, s.heap.get? b = some o → h'.get? b = some o) → Q (.ref I) { s with heap := h', toks := tk }) → wpAny (model prog w) A (pyIter x) Q E s

section
variable {prog : Program} {w : World} {A : Around} {E : Value → Shared → Prop} {s : Shared} {B : Nat} {σ : Sto}

theorem src_list (hh : A.handled = none) (I l : Addr) (hne : l ≠ I) (xs : List V) : Src prog w A xs (some l) I (fun i h => h.IsListIter I l i) where
  own := fun i h ⟨o, ho, hc, hd⟩ => ⟨o, ho, (by rw [hc]; decide), (by rw [hd]; intro _ _ q; cases q), (by rw [hd]; intro _ q; cases q), (by rw [hd]; intro _ _ q; cases q)⟩
  frame := fun i h h' st k => st.at fun o e => k o e
  item := fun i v s Q E σ hv st L hs hQ => by
    obtain ⟨ws, n, hl, hw, hz⟩ := L l xs hs
    obtain ⟨x, hx1, hx2⟩ := hw.get hv
    refine wpAny_pyNext_list_item st hl.isList (x := x) (by simpa using hx1) fun h' hit hsb => ?_
    obtain ⟨o, ho, hc, hd⟩ := id st
    have kt : Tups s.heap h' := fun a o' e c => hsb.extBut a o' (fun q => by subst q; rw [ho] at e; cases e; have c := c.1; rw [hc] at c; exact absurd c (by decide)) e
    exact hQ x h' s.toks (hx2.keeps kt) hit fun b o hb e => hsb.extBut b o hb e
  done := fun s Q E σ st L hs hQ => by
    obtain ⟨ws, n, hl, hw, hz⟩ := L l xs hs
    exact wpAny_pyNext_list_end hh st hl.isList (Array.getElem?_eq_none (by rw [List.size_toArray, ← hw.length]; exact Nat.le_refl _)) fun h' he => hQ h' s.toks fun b o hb e => he b o hb e
  self := fun i s Q E st hQ => wpAny_pyIter_listiter st hQ

theorem src_range (hh : A.handled = none) (I : Addr) (a c : Int) (xs : List V) (hx : ∀ i, i < xs.length → xs[i]? = some (.int (a + (i : Int) * c))) :
    Src prog w A xs none I (fun i h => IsRangeIter h I (a + (i : Int) * c) ((xs.length : Int) - (i : Int)) c) where
  own := fun i h ho => ⟨_, ho, (by show Value.type "range_iterator" ≠ Value.type "tuple"; decide), (by intro _ _ q; cases q), (by intro _ q; cases q), (by intro _ _ q; cases q)⟩
  frame := fun i h h' st k => k _ st
  item := fun i v s Q E σ hv st L hs hQ => by
    have hi : i < xs.length := by
      rcases Nat.lt_or_ge i xs.length with q | q
      · exact q
      · rw [List.getElem?_eq_none q] at hv; cases hv
    rw [hx i hi] at hv
    cases hv
    refine wpAny_pyNext_range_item st (by omega) fun h' hit hsb => ?_
    refine hQ _ h' _ (vr_int _ _) ?_ fun b o hb e => hsb.extBut b o hb e
    have e1 : a + (i : Int) * c + c = a + ((i + 1 : Nat) : Int) * c := by push_cast; rw [Int.add_mul, Int.one_mul]; omega
    have e2 : (xs.length : Int) - (i : Int) - 1 = (xs.length : Int) - ((i + 1 : Nat) : Int) := by push_cast; omega
    rw [e1, e2] at hit
    exact hit
  done := fun s Q E σ st L hs hQ => wpAny_pyNext_range_end hh st (by omega) fun h' he => hQ h' s.toks fun b o hb e => he b o hb e
  self := fun i s Q E st hQ => wpAny_pyIter_rangeiter st hQ

theorem iter_list (hh : A.handled = none) {s₀ : Shared} (k₀ : ∀ b o, s₀.heap.get? b = some o → ∃ o', s.heap.get? b = some o') (L : LR σ s.heap) {l : Addr} {xs : List V} (hl : σ l = some xs) : IterOf prog w A s₀ (.ref l) xs (some l) s := fun Q E hQ => by
  obtain ⟨ws, n, hl', hw, hz⟩ := L l xs hl
  refine wpAny_pyIter_list hl'.isList ?_
  refine hQ s.heap.objs.size _ _ s.toks (src_list hh _ l (Nat.ne_of_lt (Heap.lt_size hl')) xs) ⟨_, Heap.get?_push_size _ rfl, rfl, rfl⟩ ?_ fun b o e => Heap.get?_push_of_some _ e
  cases q : s₀.heap.get? s.heap.objs.size with
  | none => rfl
  | some o => obtain ⟨o', e⟩ := k₀ _ _ q; exact absurd (Heap.lt_size e) (Nat.lt_irrefl _)

theorem rng_at (a : Int) (n : Nat) : ∀ i, i < (rng a n).length → (rng a n)[i]? = some (.int (a + (i : Int) * 1)) := by
  intro i hi
  have : i < n := by simpa [rng] using hi
  simp [rng, this]
theorem rngDown_at (a : Int) (n : Nat) : ∀ i, i < (rngDown a n).length → (rngDown a n)[i]? = some (.int (a + (i : Int) * (-1))) := by
  intro i hi
  have : i < n := by simpa [rngDown] using hi
  simp [rngDown, this]
  omega
theorem rng_length (a : Int) (n : Nat) : (rng a n).length = n := by simp [rng]
theorem rngDown_length (a : Int) (n : Nat) : (rngDown a n).length = n := by simp [rngDown]

theorem iter_rangeUp (hh : A.handled = none) {s₀ : Shared} (k₀ : ∀ b o, s₀.heap.get? b = some o → ∃ o', s.heap.get? b = some o') {r : Addr} {a b : Int} {t u v : Tok} (hr : IsRange s.heap r a b 1 t u v) (ha : small a = true) (hb : small b = true) :
    IterOf prog w A s₀ (.ref r) (rng a (b - a).toNat) none s := fun Q E hQ => by
  obtain ⟨a1, a2⟩ := small_le ha
  obtain ⟨b1, b2⟩ := small_le hb
  refine wpAny_pyIter_range hr (small_one (by omega) (by omega) (by omega) (by omega)) ?_
  refine hQ s.heap.objs.size _ _ s.toks (src_range hh _ a 1 _ (rng_at a _)) ?_ ?_ fun b o e => Heap.get?_push_of_some _ e
  · have e : Builtin.Range.rangeSize a b 1 = ((rng a (b - a).toNat).length : Int) - ((0 : Nat) : Int) := by
      rw [rangeSize_one, rng_length]; split <;> omega
    show IsRangeIter _ _ _ _ _
    rw [← e]
    have e0 : a + ((0 : Nat) : Int) * 1 = a := by simp
    rw [e0]
    exact Heap.get?_push_size _ rfl
  · cases q : s₀.heap.get? s.heap.objs.size with
    | none => rfl
    | some o => obtain ⟨o', e⟩ := k₀ _ _ q; exact absurd (Heap.lt_size e) (Nat.lt_irrefl _)

theorem iter_rangeDown (hh : A.handled = none) {s₀ : Shared} (k₀ : ∀ b o, s₀.heap.get? b = some o → ∃ o', s.heap.get? b = some o') {r : Addr} {a b : Int} {t u v : Tok} (hr : IsRange s.heap r a b (-1) t u v) (ha : small a = true) (hb : small b = true) :
    IterOf prog w A s₀ (.ref r) (rngDown a (a - b).toNat) none s := fun Q E hQ => by
  obtain ⟨a1, a2⟩ := small_le ha
  obtain ⟨b1, b2⟩ := small_le hb
  refine wpAny_pyIter_range hr (PySem.W.small_down (by omega) (by omega) (by omega) (by omega)) ?_
  refine hQ s.heap.objs.size _ _ s.toks (src_range hh _ a (-1) _ (rngDown_at a _)) ?_ ?_ fun b o e => Heap.get?_push_of_some _ e
  · have e : Builtin.Range.rangeSize a b (-1) = ((rngDown a (a - b).toNat).length : Int) - ((0 : Nat) : Int) := by
      rw [PySem.W.rangeSize_downNat, rngDown_length]; simp
    show IsRangeIter _ _ _ _ _
    rw [← e]
    have e0 : a + ((0 : Nat) : Int) * (-1) = a := by simp
    rw [e0]
    exact Heap.get?_push_size _ rfl
  · cases q : s₀.heap.get? s.heap.objs.size with
    | none => rfl
    | some o => obtain ⟨o', e⟩ := k₀ _ _ q; exact absurd (Heap.lt_size e) (Nat.lt_irrefl _)

/-! reversed(range(n)) -/
def revIt (n : Int) : Obj := { cls := .type "range_iterator", data := .fields #[rawInt (0 + (n - 1) * 1), rawInt n, rawInt (-1)] }

theorem sub_ri_reversed : isSubtype (.type "range_iterator") (.type "reversed") = pure false := by rw [isSubtype_type]; kernel_rfl

theorem call_range_reversed {r : Addr} {n : Int} {t u v : Tok} {Q : Value → Shared → Prop} (hr : IsRange s.heap r 0 n 1 t u v) (h0 : 0 ≤ n) (hn : small n = true)
    (h : Q (.ref s.heap.objs.size) { s with heap := s.heap.push (revIt n) }) : wpAny (model prog w) A (call (.builtin "range.__reversed__") [.ref r]) Q E s := by
  obtain ⟨b1, b2⟩ := small_le hn
  have hT : s.TypeIs (.ref r) "range" := ⟨_, hr, rfl⟩
  have hsz : Builtin.Range.rangeSize 0 n 1 = n := by rw [rangeSize_one]; split <;> omega
  have hsm : (Builtin.Range.rangeFitsLong 0 && Builtin.Range.rangeFitsLong n && Builtin.Range.rangeFitsLong 1 && Builtin.Range.rangeFitsLong (-1) && Builtin.Range.rangeFitsLong (0 - 1) && Builtin.Range.rangeFitsLong n) = true := by
    simp only [Builtin.Range.rangeFitsLong, Bool.and_eq_true, decide_eq_true_eq]
    omega
  refine wpAny_call_entry F.slot_range_reversed hT F.entry_range_reversed ?_ (F.args_range_reversed_1 _)
  unfold Builtin.«range.__reversed__»
  refine wpAny_bind (wpAny_of_eq (a := Value.ref r) rfl ?_)
  have hf : wpAny (model prog w) A.in1 (Builtin.Range.rangeFields (.ref r)) (fun a s' => a = (0, n, 1) ∧ s' = s) E s := by
    unfold Builtin.Range.rangeFields
    refine wpAny_bind (wpAny_field hr rfl (x := .int 0 t) rfl (wpAny_bind (wpAny_of_eq (a := some 0) rfl ?_)))
    refine wpAny_bind (wpAny_field hr rfl (x := .int n u) rfl (wpAny_bind (wpAny_of_eq (a := some n) rfl ?_)))
    refine wpAny_bind (wpAny_field hr rfl (x := .int 1 v) rfl (wpAny_bind (wpAny_of_eq (a := some 1) rfl ?_)))
    exact wpAny_pure ⟨rfl, rfl⟩
  refine wpAny_bind (wpAny_mono hf (fun a s' hq => ?_) fun _ _ e => e)
  obtain ⟨rfl, rfl⟩ := hq
  dsimp only
  rw [hsz, hsm]
  simp only [if_true, Bool.not_true, Bool.false_eq_true, if_false]
  exact wpAny_bind (wpAny_newObj_type (wpAny_pure ⟨_, rfl, h⟩))

theorem code_reversed_range {r : Addr} {n : Int} {t u v : Tok} {Q₁ : Value → Shared → Prop} (hr : IsRange s.heap r 0 n 1 t u v) (h0 : 0 ≤ n) (hn : small n = true)
    (h : Q₁ (.ref s.heap.objs.size) { s with heap := s.heap.push (revIt n) }) :
    codeAny (model prog w) A (.call (.builtin "reversed.__new__") ⟨[.type "reversed", .ref r], []⟩) (wants Q₁ E) s := by
  have hT : s.TypeIs (.ref r) "range" := ⟨_, hr, rfl⟩
  refine codeAny_of_tree ?_
  show wpAny _ A.in1 (do checkBuiltinCall "reversed.__new__" ⟨[.type "reversed", .ref r], []⟩; again (.builtin "reversed.__new__" ⟨[.type "reversed", .ref r], []⟩)) _ _ s
  refine wpAny_bind (wpAny_of_eq (F.newCall_reversed_1 _) (wpAny_pure ⟨plainId_quiet F.plain_reversed_new _, codeAny_builtin F.entry_reversed_new ?_⟩))
  rw [Around.under_plainId F.plain_reversed_new _]
  unfold Builtin.«reversed.__new__»
  refine wpAny_bind (wpAny_of_eq (newClass_reversed _) ?_)
  try dsimp only
  refine wpAny_bind (wpAny_of_eq (a := ()) (by first | rfl | kernel_rfl) ?_)
  refine wpAny_bind (wpAny_of_eq (a := ()) (by first | rfl | kernel_rfl) ?_)
  try dsimp only
  refine wpAny_bind (wpAny_specialOf hT F.slot_range_reversed.lookup ?_)
  try dsimp only
  refine wpAny_bind (wpAny_of_eq (F.slot_range_reversed.bind _) ?_)
  try dsimp only
  first
  | rw [if_neg (show ¬ ((Value.builtin "range.__reversed__" == Value.none) = true) from Bool.false_ne_true)]
  | (show wpAny _ _ (if (Value.builtin "range.__reversed__" == Value.none) = true then _ else _) _ _ _; rw [if_neg (show ¬ ((Value.builtin "range.__reversed__" == Value.none) = true) from Bool.false_ne_true)])
  refine wpAny_bind (wpAny_rule ?_)
  refine wpAny_bind (m := runValue (.call (.builtin "range.__reversed__") ⟨[.ref r], []⟩)) (show wpAny _ _ (call (.builtin "range.__reversed__") [.ref r]) _ _ _ from call_range_reversed hr h0 hn ?_)
  first
  | exact wpAny_pure h
  | exact wpAny_bind (wpAny_pure (wpAny_pure h))

theorem call_reversed_range {r : Addr} {n : Int} {t u v : Tok} {Q : Value → Shared → Prop} (hr : IsRange s.heap r 0 n 1 t u v) (h0 : 0 ≤ n) (hn : small n = true)
    (h : Q (.ref s.heap.objs.size) { s with heap := s.heap.push (revIt n) }) : wpAny (model prog w) A (call (.type "reversed") [.ref r]) Q E s := by
  refine callType_other (U := "range_iterator") (Q₁ := fun obj s₁ => obj = .ref s.heap.objs.size ∧ s₁ = { s with heap := s.heap.push (revIt n) }) (by decide +kernel) F.create_reversed ⟨_, _, F.mro_reversed⟩ F.made_reversed sub_ri_reversed (F.typeCall_reversed_1 _) (code_reversed_range hr h0 hn ⟨rfl, rfl⟩) ?_
  rintro obj s₁ ⟨rfl, rfl⟩
  exact ⟨⟨_, Heap.get?_push_size _ rfl, rfl⟩, h⟩

theorem iter_rev (hh : A.handled = none) {s₀ : Shared} {I : Addr} {n : Int} (hI : s.heap.get? I = some (revIt n)) (h0 : 0 ≤ n) (hs₀ : s₀.heap.get? I = none) : IterOf prog w A s₀ (.ref I) (rngDown (n - 1) n.toNat) none s := fun Q E hQ => by
  have hit : IsRangeIter s.heap I (n - 1 + ((0 : Nat) : Int) * (-1)) (((rngDown (n - 1) n.toNat).length : Int) - ((0 : Nat) : Int)) (-1) := by
    have e1 : n - 1 + ((0 : Nat) : Int) * (-1) = 0 + (n - 1) * 1 := by omega
    have e2 : ((rngDown (n - 1) n.toNat).length : Int) - ((0 : Nat) : Int) = n := by rw [rngDown_length]; omega
    rw [e1, e2]
    exact hI
  exact wpAny_pyIter_rangeiter hit (hQ I _ s.heap s.toks (src_range hh I (n - 1) (-1) _ (rngDown_at _ _)) hit hs₀ fun _ _ e => e)
end
end Mini
end

section
open PySem PyProof.Rows
open PySem.SeqAt

namespace Mini

/-! which mini term stands for which text -/
def nameOk (sc : Scope) (x : String) : Bool := x != ".0" && (Str.ofString x != ("__debug__" : Str)) && (Str.ofString x != ("__classdict__" : Str)) && (match sc.names.lookup (Str.ofString x) with
  | some .local | some .cell | some .free => true
  | _ => false)
def globOk (sc : Scope) (x : Str) : Bool := x != ("__debug__" : Str) && sc.names.lookup x == some .globalImplicit

def relab (scope sc : Scope) : Scope :=
  { scope with names := scope.names.map fun (n, k) => if (k == .free && sc.kind == .function && sc.names.lookup n == some .cell) then (n, .cell) else (n, k) }

/-- a comprehension's block: its own names are those given, what it draws from without are cells -/
def blockOk (scope sc : Scope) (xs : List String) : Bool :=
  scope.kind == .function && (xs.all fun x => x != ".0" && (scope.names.lookup (Str.ofString x) == some .local || scope.names.lookup (Str.ofString x) == some .cell)) &&
  scope.names.all fun (n, k) => match k with
    | .local => scope.names.lookup n == some .local && (n == Str.ofString ".0" || xs.any fun x => Str.ofString x == n)
    | .cell => scope.names.lookup n == some .cell && (xs.any fun x => Str.ofString x == n)
    | .free => scope.names.lookup n == some .free && (sc.names.lookup n == some .cell || sc.names.lookup n == some .free)
    | .globalImplicit => scope.names.lookup n == some .globalImplicit
    | .globalExplicit => false

def plainTest : Expr → Bool
  | .Name .. | .Subscript .. | .Call .. | .Constant .. => true
  | _ => false

mutual
def chkE (sc : Scope) : ME → Expr → Bool
  | .none, .Constant .none _ _ => true
  | .bool b, .Constant (.bool c) _ _ => b == c
  | .int i, .Constant (.int j) _ _ => i == j
  | .var x, .Name y _ => y == Str.ofString x && nameOk sc x
  | .glob x, .Name y _ => y == Str.ofString x && globOk sc (Str.ofString x)
  | .bin op l r, .BinOp l' op' r' _ => op == op' && chkE sc l l' && chkE sc r r'
  | .neg e, .UnaryOp .USub e' _ => chkE sc e e'
  | .cmp op l r, .Compare l' [op'] [r'] _ => op == op' && chkE sc l l' && chkE sc r r'
  | .and l r, .BoolOp .And [l', r'] _ => chkE sc l l' && chkE sc r r'
  | .and l r, .BoolOp .And (l' :: m :: n :: rest) p => chkE sc l l' && chkE sc r (.BoolOp .And (m :: n :: rest) p)
  | .or l r, .BoolOp .Or [l', r'] _ => chkE sc l l' && chkE sc r r'
  | .or l r, .BoolOp .Or (l' :: m :: n :: rest) p => chkE sc l l' && chkE sc r (.BoolOp .Or (m :: n :: rest) p)
  | .not e, .UnaryOp .Not e' _ => chkE sc e e'
  | .ite c a b, .IfExp c' a' b' _ => chkT sc c c' && chkE sc a a' && chkE sc b b'
  | .sub o i, .Subscript o' i' _ => chkE sc o o' && chkE sc i i'
  | .slFrom o lo st, .Subscript (.Name y p) (.Slice (some lo') none (some (.Constant (.int j) _ _)) _) _ => chkE sc o (.Name y p) && chkE sc lo lo' && st == j && st != 0
  | .slTo o hi, .Subscript (.Name y p) (.Slice none (some (.Constant (.int j) _ _)) none _) _ => chkE sc o (.Name y p) && hi == j
  | .sl2 o lo hi, .Subscript (.Name y p) (.Slice (some (.Constant (.int i) _ _)) (some (.Constant (.int j) _ _)) none _) _ => chkE sc o (.Name y p) && lo == i && hi == j
  | .list es, .List es' _ => chkEs sc es es'
  | .tup es, .Tuple es' _ _ => chkEs sc es es'
  | .comp elt x it c, .ListComp elt' [⟨.Name x' _, it', ifs, a⟩] scope _ => a == 0 && x' == Str.ofString x && chkI sc it it' && blockOk scope sc [x] && chkC (relab scope sc) c ifs && chkE (relab scope sc) elt elt'
  | .comp2 elt x it y it2 c, .ListComp elt' [⟨.Name x' _, it', [], a⟩, ⟨.Name y' _, it2', ifs, b⟩] scope _ => a == 0 && b == 0 && x' == Str.ofString x && y' == Str.ofString y && x != y && chkI sc it it' && blockOk scope sc [x, y] &&
      chkI (relab scope sc) it2 it2' && chkC (relab scope sc) c ifs && chkE (relab scope sc) elt elt'
  | .call f args, .Call (.Name y _) args' [] _ => y == Str.ofString f && globOk sc (Str.ofString f) && chkEs sc args args' && !args'.isEmpty
  | .blt f args, .Call (.Name y _) args' [] _ => y == f.name && globOk sc f.name && chkEs sc args args' && !args'.isEmpty
  | .meth m o args, .Call (.Attribute (.Name y p) n apos) args' [] pos => n == m.name && apos.endLine == pos.line && chkE sc o (.Name y p) && chkEs sc args args' && decide (args'.length < 2)
  | _, _ => false
def chkT (sc : Scope) : MT → Expr → Bool
  | .not t, .UnaryOp .Not t' _ => chkT sc t t'
  | .and l r, .BoolOp .And [l', r'] _ => chkT sc l l' && chkT sc r r'
  | .and l r, .BoolOp .And (l' :: m :: n :: rest) p => chkT sc l l' && chkT sc r (.BoolOp .And (m :: n :: rest) p)
  | .or l r, .BoolOp .Or [l', r'] _ => chkT sc l l' && chkT sc r r'
  | .or l r, .BoolOp .Or (l' :: m :: n :: rest) p => chkT sc l l' && chkT sc r (.BoolOp .Or (m :: n :: rest) p)
  | .cmp op l r, .Compare l' [op'] [r'] _ => op == op' && chkE sc l l' && chkE sc r r'
  | .of e, e' => plainTest e' && chkE sc e e'
  | _, _ => false
def chkC (sc : Scope) : MT → List Expr → Bool
  | .tt, [] => true
  | .not t, [.UnaryOp .Not t' _] => chkT sc t t'
  | .and l r, [.BoolOp .And [l', r'] _] => chkT sc l l' && chkT sc r r'
  | .or l r, [.BoolOp .Or [l', r'] _] => chkT sc l l' && chkT sc r r'
  | .cmp op l r, [.Compare l' [op'] [r'] _] => op == op' && chkE sc l l' && chkE sc r r'
  | .of e, [e'] => plainTest e' && chkE sc e e'
  | _, _ => false
def chkI (sc : Scope) : MI → Expr → Bool
  | .r1 e, .Call (.Name y _) [e'] [] _ => y == ("range" : Str) && globOk sc "range" && chkE sc e e'
  | .r2 a b, .Call (.Name y _) [a', b'] [] _ => y == ("range" : Str) && globOk sc "range" && chkE sc a a' && chkE sc b b'
  | .down a b, .Call (.Name y _) [a', b', .UnaryOp .USub (.Constant (.int 1) _ _) _] [] _ => y == ("range" : Str) && globOk sc "range" && chkE sc a a' && chkE sc b b'
  | .rev e, .Call (.Name z _) [.Call (.Name y _) [e'] [] _] [] _ => z == ("reversed" : Str) && globOk sc "reversed" && y == ("range" : Str) && globOk sc "range" && chkE sc e e'
  | .val e, .Name y p => chkE sc e (.Name y p)
  | .val e, .Call f as ks p => chkE sc e (.Call f as ks p)
  | .val e, .BinOp l op r p => chkE sc e (.BinOp l op r p)
  | .val e, .Subscript o i p => chkE sc e (.Subscript o i p)
  | _, _ => false
def chkEs (sc : Scope) : MEs → List Expr → Bool
  | .nil, [] => true
  | .cons e r, e' :: r' => chkE sc e e' && chkEs sc r r'
  | _, _ => false
end

/-! the texts behind the terms -/
theorem inv_none {sc : Scope} {e : Expr} (h : chkE sc .none e = true) : ∃ a b, e = .Constant .none a b := by
  cases e with
  | Constant c a b => cases c <;> first | exact ⟨_, _, rfl⟩ | cases h
  | _ => cases h
theorem inv_bool {sc : Scope} {e : Expr} {b : Bool} (h : chkE sc (.bool b) e = true) : ∃ a p, e = .Constant (.bool b) a p := by
  cases e with
  | Constant c a p =>
    cases c with
    | bool c => simp only [chkE, beq_iff_eq] at h; subst h; exact ⟨_, _, rfl⟩
    | _ => cases h
  | _ => cases h
theorem inv_int {sc : Scope} {e : Expr} {b : Int} (h : chkE sc (.int b) e = true) : ∃ a p, e = .Constant (.int b) a p := by
  cases e with
  | Constant c a p =>
    cases c with
    | int c => simp only [chkE, beq_iff_eq] at h; subst h; exact ⟨_, _, rfl⟩
    | _ => cases h
  | _ => cases h
theorem inv_neg {sc : Scope} {e : Expr} {l : ME} (h : chkE sc (.neg l) e = true) : ∃ e' p, e = .UnaryOp .USub e' p ∧ chkE sc l e' = true := by
  cases e with
  | UnaryOp op x p => cases op <;> first | exact ⟨_, _, rfl, h⟩ | cases h
  | _ => cases h
theorem inv_not {sc : Scope} {e : Expr} {l : ME} (h : chkE sc (.not l) e = true) : ∃ e' p, e = .UnaryOp .Not e' p ∧ chkE sc l e' = true := by
  cases e with
  | UnaryOp op x p => cases op <;> first | exact ⟨_, _, rfl, h⟩ | cases h
  | _ => cases h
theorem inv_cmp {sc : Scope} {e : Expr} {op : CmpOp} {l r : ME} (h : chkE sc (.cmp op l r) e = true) : ∃ l' r' p, e = .Compare l' [op] [r'] p ∧ chkE sc l l' = true ∧ chkE sc r r' = true := by
  cases e with
  | Compare l' ops rs p =>
    match ops, rs, h with
    | [o], [r'], h => simp only [chkE, Bool.and_eq_true, beq_iff_eq] at h; obtain ⟨⟨rfl, a⟩, b⟩ := h; exact ⟨_, _, _, rfl, a, b⟩
  | _ => cases h
theorem inv_and {sc : Scope} {e : Expr} {l r : ME} (h : chkE sc (.and l r) e = true) : (∃ l' r' p, e = .BoolOp .And [l', r'] p ∧ chkE sc l l' = true ∧ chkE sc r r' = true) ∨
    (∃ l' m n rest p, e = .BoolOp .And (l' :: m :: n :: rest) p ∧ chkE sc l l' = true ∧ chkE sc r (.BoolOp .And (m :: n :: rest) p) = true) := by
  cases e with
  | BoolOp op es p =>
    cases op with
    | And =>
      match es, h with
      | [a, b], h => simp only [chkE, Bool.and_eq_true] at h; exact .inl ⟨_, _, _, rfl, h.1, h.2⟩
      | a :: b :: c :: d, h => simp only [chkE, Bool.and_eq_true] at h; exact .inr ⟨_, _, _, _, _, rfl, h.1, h.2⟩
    | Or => cases h
  | _ => cases h
theorem inv_or {sc : Scope} {e : Expr} {l r : ME} (h : chkE sc (.or l r) e = true) : (∃ l' r' p, e = .BoolOp .Or [l', r'] p ∧ chkE sc l l' = true ∧ chkE sc r r' = true) ∨
    (∃ l' m n rest p, e = .BoolOp .Or (l' :: m :: n :: rest) p ∧ chkE sc l l' = true ∧ chkE sc r (.BoolOp .Or (m :: n :: rest) p) = true) := by
  cases e with
  | BoolOp op es p =>
    cases op with
    | Or =>
      match es, h with
      | [a, b], h => simp only [chkE, Bool.and_eq_true] at h; exact .inl ⟨_, _, _, rfl, h.1, h.2⟩
      | a :: b :: c :: d, h => simp only [chkE, Bool.and_eq_true] at h; exact .inr ⟨_, _, _, _, _, rfl, h.1, h.2⟩
    | And => cases h
  | _ => cases h
theorem inv_slFrom {sc : Scope} {e : Expr} {o lo : ME} {st : Int} (h : chkE sc (.slFrom o lo st) e = true) : ∃ y p lo' a q r t, e = .Subscript (.Name y p) (.Slice (some lo') none (some (.Constant (.int st) a q)) r) t ∧ chkE sc o (.Name y p) = true ∧ chkE sc lo lo' = true ∧ st ≠ 0 := by
  cases e with
  | Subscript o' sl t =>
    cases o' with
    | Name y p =>
      cases sl with
      | Slice l u s r =>
        match l, u, s, h with
        | some l, none, some (.Constant (.int j) a q), h => simp only [chkE, Bool.and_eq_true, beq_iff_eq, bne_iff_ne, ne_eq] at h; obtain ⟨⟨⟨a1, a2⟩, rfl⟩, a3⟩ := h; exact ⟨_, _, _, _, _, _, _, rfl, a1, a2, a3⟩
      | _ => cases h
    | _ => cases h
  | _ => cases h
theorem inv_slTo {sc : Scope} {e : Expr} {o : ME} {hi : Int} (h : chkE sc (.slTo o hi) e = true) : ∃ y p a q r t, e = .Subscript (.Name y p) (.Slice none (some (.Constant (.int hi) a q)) none r) t ∧ chkE sc o (.Name y p) = true := by
  cases e with
  | Subscript o' sl t =>
    cases o' with
    | Name y p =>
      cases sl with
      | Slice l u s r =>
        match l, u, s, h with
        | none, some (.Constant (.int j) a q), none, h => simp only [chkE, Bool.and_eq_true, beq_iff_eq] at h; obtain ⟨a1, rfl⟩ := h; exact ⟨_, _, _, _, _, _, rfl, a1⟩
      | _ => cases h
    | _ => cases h
  | _ => cases h
theorem inv_sl2 {sc : Scope} {e : Expr} {o : ME} {lo hi : Int} (h : chkE sc (.sl2 o lo hi) e = true) : ∃ y p a q a' q' r t, e = .Subscript (.Name y p) (.Slice (some (.Constant (.int lo) a q)) (some (.Constant (.int hi) a' q')) none r) t ∧ chkE sc o (.Name y p) = true := by
  cases e with
  | Subscript o' sl t =>
    cases o' with
    | Name y p =>
      cases sl with
      | Slice l u s r =>
        match l, u, s, h with
        | some (.Constant (.int i) a q), some (.Constant (.int j) a' q'), none, h => simp only [chkE, Bool.and_eq_true, beq_iff_eq] at h; obtain ⟨⟨a1, rfl⟩, rfl⟩ := h; exact ⟨_, _, _, _, _, _, _, _, rfl, a1⟩
      | _ => cases h
    | _ => cases h
  | _ => cases h
theorem inv_comp {sc : Scope} {e : Expr} {elt : ME} {x : String} {it : MI} {c : MT} (h : chkE sc (.comp elt x it c) e = true) : ∃ elt' p it' ifs scope pos, e = .ListComp elt' [⟨.Name (Str.ofString x) p, it', ifs, 0⟩] scope pos ∧
    chkI sc it it' = true ∧ blockOk scope sc [x] = true ∧ chkC (relab scope sc) c ifs = true ∧ chkE (relab scope sc) elt elt' = true := by
  cases e with
  | ListComp elt' gens scope pos =>
    match gens, h with
    | [⟨.Name x' p, it', ifs, a⟩], h =>
      simp only [chkE, Bool.and_eq_true, beq_iff_eq] at h
      obtain ⟨⟨⟨⟨⟨rfl, rfl⟩, h1⟩, h2⟩, h3⟩, h4⟩ := h
      exact ⟨_, _, _, _, _, _, rfl, h1, h2, h3, h4⟩
  | _ => cases h
theorem inv_comp2 {sc : Scope} {e : Expr} {elt : ME} {x y : String} {it it2 : MI} {c : MT} (h : chkE sc (.comp2 elt x it y it2 c) e = true) : ∃ elt' p it' q it2' ifs scope pos,
    e = .ListComp elt' [⟨.Name (Str.ofString x) p, it', [], 0⟩, ⟨.Name (Str.ofString y) q, it2', ifs, 0⟩] scope pos ∧ x ≠ y ∧
    chkI sc it it' = true ∧ blockOk scope sc [x, y] = true ∧ chkI (relab scope sc) it2 it2' = true ∧ chkC (relab scope sc) c ifs = true ∧ chkE (relab scope sc) elt elt' = true := by
  cases e with
  | ListComp elt' gens scope pos =>
    match gens, h with
    | [⟨.Name x' p, it', [], a⟩, ⟨.Name y' q, it2', ifs, b⟩], h =>
      simp only [chkE, Bool.and_eq_true, beq_iff_eq, bne_iff_ne, ne_eq] at h
      obtain ⟨⟨⟨⟨⟨⟨⟨⟨⟨rfl, rfl⟩, rfl⟩, rfl⟩, h0⟩, h1⟩, h2⟩, h3⟩, h4⟩, h5⟩ := h
      exact ⟨_, _, _, _, _, _, _, _, rfl, h0, h1, h2, h3, h4, h5⟩
  | _ => cases h
theorem inv_call {sc : Scope} {e : Expr} {f : String} {args : MEs} (h : chkE sc (.call f args) e = true) : ∃ p a r pos, e = .Call (.Name (Str.ofString f) p) (a :: r) [] pos ∧ globOk sc (Str.ofString f) = true ∧ chkEs sc args (a :: r) = true := by
  cases e with
  | Call g as ks pos =>
    match g, as, ks, h with
    | .Name y p, as, [], h =>
      simp only [chkE, Bool.and_eq_true, beq_iff_eq, Bool.not_eq_true'] at h
      obtain ⟨⟨⟨rfl, h1⟩, h2⟩, h3⟩ := h
      match as, h3 with
      | a :: r, _ => exact ⟨_, _, _, _, rfl, h1, h2⟩
  | _ => cases h
theorem inv_blt {sc : Scope} {e : Expr} {f : Blt} {args : MEs} (h : chkE sc (.blt f args) e = true) : ∃ p a r pos, e = .Call (.Name f.name p) (a :: r) [] pos ∧ globOk sc f.name = true ∧ chkEs sc args (a :: r) = true := by
  cases e with
  | Call g as ks pos =>
    match g, as, ks, h with
    | .Name y p, as, [], h =>
      simp only [chkE, Bool.and_eq_true, beq_iff_eq, Bool.not_eq_true'] at h
      obtain ⟨⟨⟨rfl, h1⟩, h2⟩, h3⟩ := h
      match as, h3 with
      | a :: r, _ => exact ⟨_, _, _, _, rfl, h1, h2⟩
  | _ => cases h
theorem inv_meth {sc : Scope} {e : Expr} {m : Meth} {o : ME} {args : MEs} (h : chkE sc (.meth m o args) e = true) : ∃ y p apos as pos, e = .Call (.Attribute (.Name y p) m.name apos) as [] pos ∧ (apos.endLine == pos.line) = true ∧ chkE sc o (.Name y p) = true ∧
    chkEs sc args as = true ∧ as.length < 2 := by
  cases e with
  | Call g as ks pos =>
    match g, ks, h with
    | .Attribute (.Name y p) n apos, [], h =>
      simp only [chkE, Bool.and_eq_true, beq_iff_eq, decide_eq_true_eq] at h
      obtain ⟨⟨⟨⟨rfl, h1⟩, h2⟩, h3⟩, h4⟩ := h
      exact ⟨_, _, _, _, _, rfl, by simpa using h1, h2, h3, h4⟩
  | _ => cases h
theorem chk_notStar {sc : Scope} {me : ME} {e : Expr} (h : chkE sc me e = true) (rest : List Expr) (env : Env) : starEach (e :: rest) env = (false, eval e env) :: starEach rest env := by
  cases e <;> first | rfl | (cases me <;> cases h)
theorem chk_notSlice {sc : Scope} {me : ME} {e : Expr} (h : chkE sc me e = true) : ∀ lo hi p, e ≠ .Slice lo hi none p := by
  intro lo hi p q
  subst q
  cases me <;> cases h
end Mini
end

section
open PySem PyProof.Rows
open PySem.SeqAt

namespace Mini

structure Wd (T : Heap) (mg mb : Str → Option Value) (gl : String → Option V) : Prop where
  g : T.Ns mainGlobals mg
  b : T.Ns builtinsNs mb
  lim : T.NoLimit
  blt : ∀ f : Blt, mg f.name = none ∧ mb f.name = some f.val
  rng : mg "range" = none ∧ mb "range" = some (.type "range")
  rev : mg "reversed" = none ∧ mb "reversed" = some (.type "reversed")
  gl : ∀ x v, gl x = some v → ∃ y, mg (Str.ofString x) = some y ∧ VR T v y

structure EnvOk (B : Nat) (sc : Scope) (env : Env) : Prop where
  scope : env.scope = sc
  kind : sc.kind = .function
  globals : env.globals = mainGlobals
  builtins : env.builtins = builtinsNs
  above : B ≤ env.locals
  inj : ∀ x y c, env.cells.lookup x = some c → env.cells.lookup y = some c → x = y
  cabove : ∀ x c, env.cells.lookup x = some c → B ≤ c

structure Rm (A : Around) (k : Nat) : Prop where
  hh : A.handled = none
  depth : A.depth + k < recursionLimit
  units : A.units + 3 * k + 200 < cLine

structure St (T : Heap) (env : Env) (ρ : Frm) (σ : Sto) (s : Shared) : Prop where
  base : ∀ a o, T.get? a = some o → s.heap.get? a = some o
  lists : LR σ s.heap
  frame : FR env ρ s.heap

theorem St.next {T : Heap} {env : Env} {ρ : Frm} {σ σ' : Sto} {s s' : Shared} (S : St T env ρ σ s) (x : Ext N0 T.objs.size σ σ' s s') (L : LR σ' s'.heap) : St T env ρ σ' s' :=
  ⟨fun a o e => x.keep a o (S.base a o e) (.inr (Heap.lt_size e)) fun q => q, L, S.frame.ext x S.lists⟩
theorem St.room {T : Heap} {B : Nat} {sc : Scope} {env : Env} {ρ : Frm} {σ : Sto} {s : Shared} (S : St T env ρ σ s) (e : EnvOk B sc env) : B ≤ s.heap.objs.size := by
  obtain ⟨m, hn, _⟩ := S.frame.locs
  exact Nat.le_trans e.above (Nat.le_of_lt hn.lt)

theorem Ret.after {B : Nat} {σ σ' : Sto} {s s' s'' : Shared} {Q : V → Sto → Prop} {x : Value} (e : Ext N0 B σ σ' s s') (h : Ret B σ' s' Q x s'') : Ret B σ s Q x s'' :=
  let ⟨v, σ'', e', r⟩ := h; ⟨v, σ'', e.trans e', r⟩

section
variable (prog : Program) (w : World) (T : Heap) (mg mb : Str → Option Value) (C : Cx) (k : Nat)

def RetB (B : Nat) (σ : Sto) (s : Shared) (Q : Bool → Sto → Prop) (b : Bool) (s' : Shared) : Prop := ∃ σ', Ext N0 B σ σ' s s' ∧ LR σ' s'.heap ∧ Q b σ'
def RetL (B : Nat) (σ : Sto) (s : Shared) (Q : List V → Sto → Prop) (ws : List Value) (s' : Shared) : Prop := ∃ vs σ', Ext N0 B σ σ' s s' ∧ VRs s'.heap vs ws ∧ LR σ' s'.heap ∧ Q vs σ'
def RetI (A : Around) (B : Nat) (σ : Sto) (s : Shared) (Q : List V → Option Nat → Sto → Prop) (x : Value) (s' : Shared) : Prop :=
  ∃ xs src σ', Ext N0 B σ σ' s s' ∧ LR σ' s'.heap ∧ stable src xs σ' ∧ IterOf prog w A s x xs src s' ∧ Q xs src σ'

def OkE (me : ME) : Prop := ∀ sc e, chkE sc me e = true → ∀ A env ρ σ Q s, Rm A k → EnvOk T.objs.size sc env → St T env ρ σ s → wpE C me ρ σ Q → wpAny (model prog w) A (eval e env) (Ret T.objs.size σ s Q) No s
def OkT (t : MT) : Prop := ∀ sc e, chkT sc t e = true → ∀ A env ρ σ Q s, Rm A k → EnvOk T.objs.size sc env → St T env ρ σ s → wpT C t ρ σ Q → wpAny (model prog w) A (PySem.isTrue e env (eval e env)) (RetB T.objs.size σ s Q) No s
def OkI (i : MI) : Prop := ∀ sc e, chkI sc i e = true → ∀ A env ρ σ Q s, Rm A k → EnvOk T.objs.size sc env → St T env ρ σ s → wpI C i ρ σ Q → wpAny (model prog w) A (eval e env) (RetI prog w A T.objs.size σ s Q) No s
def OkEs (es : MEs) : Prop := ∀ sc l, chkEs sc es l = true → ∀ A env pos ρ σ Q s, Rm A k → EnvOk T.objs.size sc env → St T env ρ σ s → wpEs C es ρ σ Q →
  wpAny (model prog w) A (spliced (backTo pos (starEach l env))) (RetL T.objs.size σ s Q) No s

/-- the text's own defs, as far as sp tells of them -/
def SpOk : Prop := ∀ f, C.kn f = true → ∃ fa o fd, mg (Str.ofString f) = some (.ref fa) ∧ T.get? fa = some o ∧ o.data = .func fd ∧
  ∀ A vs σ Q ws s, Rm A k → (∀ a o, T.get? a = some o → s.heap.get? a = some o) → LR σ s.heap → T.objs.size ≤ s.heap.objs.size → VRs s.heap vs ws → C.sp f vs σ Q →
    wpAny (model prog w) A (call (.ref fa) ws) (Ret T.objs.size σ s Q) No s
end

section
variable {prog : Program} {w : World} {T : Heap} {mg mb : Str → Option Value} {C : Cx} {k : Nat}

theorem retAfter {A : Around} {t : Sem Value} {σ σ' : Sto} {s s' : Shared} {Q : V → Sto → Prop} {B : Nat} (e : Ext N0 B σ σ' s s') (h : wpAny (model prog w) A t (Ret B σ' s' Q) No s') : wpAny (model prog w) A t (Ret B σ s Q) No s' :=
  wpAny_mono h (fun _ _ q => q.after e) fun _ _ q => q

theorem name_local {A : Around} {E : Value → Shared → Prop} {env : Env} {sc : Scope} {x : Str} {p : Pos} {s : Shared} {m : Str → Option Value} {y : Value} {Q : Value → Shared → Prop} (ok : EnvOk B sc env)
    (hd : (x == ("__debug__" : Str)) = false) (hl : sc.names.lookup x = some .local) (hn : s.heap.Ns env.locals m) (hy : m x = some y) (h : Q y s) : wpAny (model prog w) A (eval (.Name x p) env) Q E s :=
  wpAny_Name (wpAny_loadName_local (by rw [ok.scope]; exact ok.kind) (by show env.scope.names.lookup x = _; rw [ok.scope]; exact hl) hn hy h) hd

theorem okVar (x : String) : OkE prog w T C k (.var x) := by
  intro sc e hc A env ρ σ Q s R ok S hw
  cases e <;> simp only [chkE, Bool.false_eq_true] at hc
  rename_i y p
  simp only [Bool.and_eq_true, beq_iff_eq, nameOk, bne_iff_ne, ne_eq] at hc
  obtain ⟨rfl, ⟨⟨h0, hd⟩, hcd⟩, hk⟩ := hc
  simp only [wpE] at hw
  obtain ⟨v, hv, hq⟩ := hw
  have hdb : (Str.ofString x == ("__debug__" : Str)) = false := by simpa using hd
  have hcb : (Str.ofString x == ("__classdict__" : Str)) = false := by simpa using hcd
  have hfk : env.scope.kind = .function := by rw [ok.scope]; exact ok.kind
  have kk : env.kindOf (Str.ofString x) = sc.names.lookup (Str.ofString x) := by unfold Env.kindOf; rw [ok.scope]
  split at hk
  · rename_i hl
    obtain ⟨m, hn, hm⟩ := S.frame.locs
    obtain ⟨y, hy, hr⟩ := hm x v h0 (by rw [kk]; exact hl) hv
    exact name_local ok hdb hl hn hy ⟨v, σ, .refl _ _ _ _, hr, S.lists, hq⟩
  · rename_i hl
    obtain ⟨c, y, e1, e2, hr⟩ := S.frame.held x v h0 (.inl (by rw [kk]; exact hl)) hv
    exact wpAny_Name (wpAny_loadName_cell hfk (by rw [kk]; exact hl) e1 e2 ⟨v, σ, .refl _ _ _ _, hr, S.lists, hq⟩) hdb
  · rename_i hl
    obtain ⟨c, y, e1, e2, hr⟩ := S.frame.held x v h0 (.inr (by rw [kk]; exact hl)) hv
    exact wpAny_Name (wpAny_loadName_free hfk (by rw [kk]; exact hl) e1 e2 ⟨v, σ, .refl _ _ _ _, hr, S.lists, hq⟩ hcb) hdb
  · cases hk

theorem okNone : OkE prog w T C k .none := by
  intro sc e hc A env ρ σ Q s R ok S hw
  obtain ⟨a, b, rfl⟩ := inv_none hc
  exact Constant_none ⟨.none, σ, .refl _ _ _ _, rfl, S.lists, hw⟩
theorem okBool (b : Bool) : OkE prog w T C k (.bool b) := by
  intro sc e hc A env ρ σ Q s R ok S hw
  obtain ⟨a, p, rfl⟩ := inv_bool hc
  exact Constant_bool ⟨.bool _, σ, .refl _ _ _ _, rfl, S.lists, hw⟩
theorem okInt (i : Int) : OkE prog w T C k (.int i) := by
  intro sc e hc A env ρ σ Q s R ok S hw
  obtain ⟨a, p, rfl⟩ := inv_int hc
  exact wpAny_Constant_int (Ret.here S.lists (vr_int _ _) _ hw)

theorem okGlob (W : Wd T mg mb C.gl) (x : String) : OkE prog w T C k (.glob x) := by
  intro sc e hc A env ρ σ Q s R ok S hw
  cases e <;> simp only [chkE, Bool.false_eq_true] at hc
  rename_i y p
  simp only [Bool.and_eq_true, beq_iff_eq, globOk, bne_iff_ne, ne_eq] at hc
  obtain ⟨rfl, hd, hl⟩ := hc
  simp only [wpE] at hw
  obtain ⟨v, hv, hq⟩ := hw
  obtain ⟨y, hy, hr⟩ := W.gl x v hv
  exact Calls.Name_function_global (by rw [ok.scope]; exact ok.kind) (by unfold Env.kindOf; rw [ok.scope]; exact hl) (Calls.loadGlobal_global (by rw [ok.globals]; exact W.g.keeps S.base) hy
    ⟨v, σ, .refl _ _ _ _, hr.keeps (.grow S.base), S.lists, hq⟩) (by simpa using hd)

theorem okBin {op : Operator} {l r : ME} (hl : OkE prog w T C k l) (hr : OkE prog w T C k r) (hB : C.B = T.objs.size) : OkE prog w T C k (.bin op l r) := by
  intro sc e hc A env ρ σ Q s R ok S hw
  cases e <;> simp only [chkE, Bool.false_eq_true] at hc
  simp only [Bool.and_eq_true, beq_iff_eq] at hc
  obtain ⟨⟨rfl, h1⟩, h2⟩ := hc
  simp only [wpE] at hw
  refine wpAny_BinOp (wpAny_mono (hl sc _ h1 A env ρ σ _ s R ok S hw) ?_ fun _ _ q => q)
  rintro x s1 ⟨v, σ1, e1, hv, L1, hw1⟩
  have S1 := S.next e1 L1
  refine wpAny_mono (hr sc _ h2 A env ρ σ1 _ s1 R ok S1 hw1) ?_ fun _ _ q => q
  rintro y s2 ⟨u, σ2, e2, hu, L2, hw2⟩
  rw [hB] at hw2
  exact retAfter (e1.trans e2) (bin_ok L2 ((S1.next e2 L2).room ok) (hv.keeps (e2.tups0 L1)) hu hw2)

theorem okNeg {l : ME} (hl : OkE prog w T C k l) : OkE prog w T C k (.neg l) := by
  intro sc e hc A env ρ σ Q s R ok S hw
  obtain ⟨e', p, rfl, hc⟩ := inv_neg hc
  simp only [wpE] at hw
  refine UnaryOp_ (wpAny_mono (hl sc _ hc A env ρ σ _ s R ok S hw) ?_ fun _ _ q => q)
  rintro x s1 ⟨v, σ1, e1, hv, L1, i, rfl, hq⟩
  obtain ⟨t, rfl⟩ := hv
  exact PyProof.Rows.neg_int (Ret.after e1 (Ret.here L1 (vr_int _ _) _ hq))

theorem okNot {l : ME} (hl : OkE prog w T C k l) : OkE prog w T C k (.not l) := by
  intro sc e hc A env ρ σ Q s R ok S hw
  obtain ⟨e', p, rfl, hc⟩ := inv_not hc
  simp only [wpE] at hw
  refine UnaryOp_ (wpAny_mono (hl sc _ hc A env ρ σ _ s R ok S hw) ?_ fun _ _ q => q)
  rintro x s1 ⟨v, σ1, e1, hv, L1, c, hc1, hq⟩
  exact not_of (truth_ok L1 hv hc1 fun tk => Ret.after e1 (Ret.here L1 (v := .bool (!c)) rfl tk hq))

theorem plainCmp {sc : Scope} {me : ME} {e : Expr} (h : chkE sc me e = true) (op : CmpOp) : behindInMarks op e = false := by
  cases e <;> first | rfl | (cases me <;> cases h)

theorem okCmp {op : CmpOp} {l r : ME} (hl : OkE prog w T C k l) (hr : OkE prog w T C k r) : OkE prog w T C k (.cmp op l r) := by
  intro sc e hc A env ρ σ Q s R ok S hw
  obtain ⟨l', r', p, rfl, h1, h2⟩ := inv_cmp hc
  simp only [wpE] at hw
  refine wpAny_Compare1 (wpAny_mono (hl sc _ h1 A env ρ σ _ s R ok S hw) ?_ fun _ _ q => q) (plainCmp h2 _)
  rintro x s1 ⟨v, σ1, e1, hv, L1, hw1⟩
  have S1 := S.next e1 L1
  refine wpAny_mono (hr sc _ h2 A env ρ σ1 _ s1 R ok S1 hw1) ?_ fun _ _ q => q
  rintro y s2 ⟨u, σ2, e2, hu, L2, c, hc2, hw2⟩
  exact cmp_ok (by have := R.units; omega) L2 (hv.keeps (e2.tups0 L1)) hu hc2 ⟨.bool c, σ2, e1.trans e2, rfl, L2, hw2⟩

theorem okAnd {l r : ME} (hl : OkE prog w T C k l) (hr : OkE prog w T C k r) : OkE prog w T C k (.and l r) := by
  intro sc e hc A env ρ σ Q s R ok S hw
  simp only [wpE] at hw
  have key : ∀ {l' : Expr} {m : Expr} {rest : List Expr} {p : Pos}, chkE sc l l' = true → (∀ σ1 s1, St T env ρ σ1 s1 → wpE C r ρ σ1 Q → wpAny (model prog w) A (eval (.BoolOp .And (m :: rest) p) env) (Ret T.objs.size σ1 s1 Q) No s1) →
      wpAny (model prog w) A (eval (.BoolOp .And (l' :: m :: rest) p) env) (Ret T.objs.size σ s Q) No s := by
    intro l' m rest p h1 h2
    refine BoolOp_and (wpAny_mono (hl sc _ h1 A env ρ σ _ s R ok S hw) ?_ fun _ _ q => q)
    rintro x s1 ⟨v, σ1, e1, hv, L1, c, hc1, hq⟩
    refine truth_ok L1 hv hc1 fun tk => ?_
    have e1' : Ext N0 T.objs.size σ σ1 s { s1 with toks := tk } := e1.trans (.toks tk)
    cases c with
    | true => exact retAfter e1' (h2 σ1 _ (S.next e1' L1) hq)
    | false => exact ⟨v, σ1, e1', hv, L1, hq⟩
  rcases inv_and hc with ⟨l', r', p, rfl, h1, h2⟩ | ⟨l', m, n, rest, p, rfl, h1, h2⟩
  · exact key h1 fun σ1 s1 S1 hq => BoolOp_one (hr sc _ h2 A env ρ σ1 _ s1 R ok S1 hq)
  · exact key h1 fun σ1 s1 S1 hq => hr sc _ h2 A env ρ σ1 _ s1 R ok S1 hq

theorem okOr {l r : ME} (hl : OkE prog w T C k l) (hr : OkE prog w T C k r) : OkE prog w T C k (.or l r) := by
  intro sc e hc A env ρ σ Q s R ok S hw
  simp only [wpE] at hw
  have key : ∀ {l' : Expr} {m : Expr} {rest : List Expr} {p : Pos}, chkE sc l l' = true → (∀ σ1 s1, St T env ρ σ1 s1 → wpE C r ρ σ1 Q → wpAny (model prog w) A (eval (.BoolOp .Or (m :: rest) p) env) (Ret T.objs.size σ1 s1 Q) No s1) →
      wpAny (model prog w) A (eval (.BoolOp .Or (l' :: m :: rest) p) env) (Ret T.objs.size σ s Q) No s := by
    intro l' m rest p h1 h2
    refine BoolOp_or (wpAny_mono (hl sc _ h1 A env ρ σ _ s R ok S hw) ?_ fun _ _ q => q)
    rintro x s1 ⟨v, σ1, e1, hv, L1, c, hc1, hq⟩
    refine truth_ok L1 hv hc1 fun tk => ?_
    have e1' : Ext N0 T.objs.size σ σ1 s { s1 with toks := tk } := e1.trans (.toks tk)
    cases c with
    | false => exact retAfter e1' (h2 σ1 _ (S.next e1' L1) hq)
    | true => exact ⟨v, σ1, e1', hv, L1, hq⟩
  rcases inv_or hc with ⟨l', r', p, rfl, h1, h2⟩ | ⟨l', m, n, rest, p, rfl, h1, h2⟩
  · exact key h1 fun σ1 s1 S1 hq => BoolOp_one (hr sc _ h2 A env ρ σ1 _ s1 R ok S1 hq)
  · exact key h1 fun σ1 s1 S1 hq => hr sc _ h2 A env ρ σ1 _ s1 R ok S1 hq

theorem okIte {c : MT} {a b : ME} (hc' : OkT prog w T C k c) (ha : OkE prog w T C k a) (hb : OkE prog w T C k b) : OkE prog w T C k (.ite c a b) := by
  intro sc e hc A env ρ σ Q s R ok S hw
  cases e <;> simp only [chkE, Bool.false_eq_true] at hc
  simp only [Bool.and_eq_true] at hc
  obtain ⟨⟨h1, h2⟩, h3⟩ := hc
  simp only [wpE] at hw
  refine IfExp_ (wpAny_mono (hc' sc _ h1 A env ρ σ _ s R ok S hw) ?_ fun _ _ q => q)
  rintro t s1 ⟨σ1, e1, L1, hq⟩
  have S1 := S.next e1 L1
  cases t with
  | true => exact retAfter e1 (ha sc _ h2 A env ρ σ1 _ s1 R ok S1 hq)
  | false => exact retAfter e1 (hb sc _ h3 A env ρ σ1 _ s1 R ok S1 hq)

theorem okSub {o i : ME} (ho : OkE prog w T C k o) (hi : OkE prog w T C k i) : OkE prog w T C k (.sub o i) := by
  intro sc e hc A env ρ σ Q s R ok S hw
  cases e <;> simp only [chkE, Bool.false_eq_true] at hc
  simp only [Bool.and_eq_true] at hc
  obtain ⟨h1, h2⟩ := hc
  simp only [wpE] at hw
  refine Subscript_ (wpAny_mono (ho sc _ h1 A env ρ σ _ s R ok S hw) ?_ fun _ _ q => q)
  rintro x s1 ⟨v, σ1, e1, hv, L1, hw1⟩
  have S1 := S.next e1 L1
  refine wpAny_mono (hi sc _ h2 A env ρ σ1 _ s1 R ok S1 hw1) ?_ fun _ _ q => q
  rintro y s2 ⟨u, σ2, e2, hu, L2, z, hz, hq⟩
  exact sub_ok L2 (hv.keeps (e2.tups0 L1)) hu hz (chk_notSlice h2) fun r hr => ⟨z, σ2, e1.trans e2, hr, L2, hq⟩

theorem okList {es : MEs} (h : OkEs prog w T C k es) (hB : C.B = T.objs.size) : OkE prog w T C k (.list es) := by
  intro sc e hc A env ρ σ Q s R ok S hw
  cases e <;> simp only [chkE, Bool.false_eq_true] at hc
  simp only [wpE] at hw
  refine List_ (wpAny_mono (h sc _ hc A env _ ρ σ _ s R ok S hw) ?_ fun _ _ q => q)
  rintro ws s1 ⟨vs, σ1, e1, hv, L1, hz, hq⟩
  rw [hB] at hq
  refine wpAny_newObj_type ?_ (by show ws.toArray.size ≤ sizeLine; rw [List.size_toArray, ← hv.length]; exact limOk hz)
  exact Ret.after e1 (Ret.alloc (n := 0) L1 ((S.next e1 L1).room ok) (fun b o e => Heap.get?_push_of_some _ e) (Nat.le_refl _) (Heap.get?_push_size _ rfl) hv hz hq)

theorem okTup {es : MEs} (h : OkEs prog w T C k es) : OkE prog w T C k (.tup es) := by
  intro sc e hc A env ρ σ Q s R ok S hw
  cases e <;> simp only [chkE, Bool.false_eq_true] at hc
  simp only [wpE] at hw
  refine Tuple_ (wpAny_mono (h sc _ hc A env _ ρ σ _ s R ok S hw) ?_ fun _ _ q => q)
  rintro ws s1 ⟨vs, σ1, e1, hv, L1, hq⟩
  rcases hq with ⟨i, j, rfl, hq⟩ | ⟨a, b, c, rfl, hq⟩
  · match ws, hv with
    | [x, y], ⟨⟨t, hx⟩, ⟨t', hy⟩, _⟩ =>
      subst hx hy
      refine wpAny_newObj_type ?_ (by show (2 : Nat) ≤ sizeLine; rw [sizeLine_eq]; omega)
      exact Ret.after e1 (Ret.grow (v := .tupI [i, j]) (tk := s1.toks) L1 (fun b o e => Heap.get?_push_of_some _ e) ⟨_, [.int i t, .int j t'], 0, rfl, Heap.get?_push_size _ rfl, .cons _ _ (.cons _ _ .nil)⟩ hq)
    | _ :: _ :: _ :: _, ⟨_, _, q⟩ => exact q.elim
    | [_], ⟨_, q⟩ => exact q.elim
    | [], q => exact q.elim
  · match ws, hv with
    | [x, y, z], ⟨hx, hy, hz, _⟩ =>
      cases hx; cases hy; cases hz
      refine wpAny_newObj_type ?_ (by show (3 : Nat) ≤ sizeLine; rw [sizeLine_eq]; omega)
      exact Ret.after e1 (Ret.grow (v := .tupR [a, b, c]) (tk := s1.toks) L1 (fun b o e => Heap.get?_push_of_some _ e) ⟨_, 0, rfl, Heap.get?_push_size _ rfl⟩ hq)
    | _ :: _ :: _ :: _ :: _, ⟨_, _, _, q⟩ => exact q.elim
    | [_, _], ⟨_, _, q⟩ => exact q.elim
    | [_], ⟨_, q⟩ => exact q.elim
    | [], q => exact q.elim

theorem okNil : OkEs prog w T C k .nil := by
  intro sc l hc A env pos ρ σ Q s R ok S hw
  match l, hc with
  | [], _ => exact Calls.spliced_nil ⟨[], σ, .refl _ _ _ _, trivial, S.lists, hw⟩
theorem okCons {e : ME} {r : MEs} (he : OkE prog w T C k e) (hr : OkEs prog w T C k r) : OkEs prog w T C k (.cons e r) := by
  intro sc l hc A env pos ρ σ Q s R ok S hw
  match l, hc with
  | e' :: r', hc =>
    simp only [chkEs, Bool.and_eq_true] at hc
    simp only [wpEs] at hw
    refine args_cons (wpAny_mono (he sc _ hc.1 A env ρ σ _ s R ok S hw) ?_ fun _ _ q => q) (chk_notStar hc.1 _ _)
    rintro x s1 ⟨v, σ1, e1, hv, L1, hw1⟩
    refine wpAny_mono (hr sc _ hc.2 A env pos ρ σ1 _ s1 R ok (S.next e1 L1) hw1) ?_ fun _ _ q => q
    rintro ws s2 ⟨vs, σ2, e2, hvs, L2, hq⟩
    exact ⟨v :: vs, σ2, e1.trans e2, ⟨hv.keeps (e2.tups0 L1), hvs⟩, L2, hq⟩
end
end Mini
end

section
open PySem PyProof.Rows
open PySem.SeqAt

namespace Mini
section
variable {prog : Program} {w : World} {T : Heap} {mg mb : Str → Option Value} {C : Cx} {k : Nat}

/-! tests -/
theorem inv_tnot {sc : Scope} {e : Expr} {t : MT} (h : chkT sc (.not t) e = true) : ∃ e' p, e = .UnaryOp .Not e' p ∧ chkT sc t e' = true := by
  cases e with
  | UnaryOp op x p => cases op <;> first | exact ⟨_, _, rfl, h⟩ | cases h
  | _ => cases h
theorem inv_tcmp {sc : Scope} {e : Expr} {op : CmpOp} {l r : ME} (h : chkT sc (.cmp op l r) e = true) : ∃ l' r' p, e = .Compare l' [op] [r'] p ∧ chkE sc l l' = true ∧ chkE sc r r' = true := by
  cases e with
  | Compare l' ops rs p =>
    match ops, rs, h with
    | [o], [r'], h => simp only [chkT, Bool.and_eq_true, beq_iff_eq] at h; obtain ⟨⟨rfl, a⟩, b⟩ := h; exact ⟨_, _, _, rfl, a, b⟩
  | _ => cases h
theorem inv_tand {sc : Scope} {e : Expr} {l r : MT} (h : chkT sc (.and l r) e = true) : (∃ l' r' p, e = .BoolOp .And [l', r'] p ∧ chkT sc l l' = true ∧ chkT sc r r' = true) ∨
    (∃ l' m n rest p, e = .BoolOp .And (l' :: m :: n :: rest) p ∧ chkT sc l l' = true ∧ chkT sc r (.BoolOp .And (m :: n :: rest) p) = true) := by
  cases e with
  | BoolOp op es p =>
    cases op with
    | And =>
      match es, h with
      | [a, b], h => simp only [chkT, Bool.and_eq_true] at h; exact .inl ⟨_, _, _, rfl, h.1, h.2⟩
      | a :: b :: c :: d, h => simp only [chkT, Bool.and_eq_true] at h; exact .inr ⟨_, _, _, _, _, rfl, h.1, h.2⟩
    | Or => cases h
  | _ => cases h
theorem inv_tor {sc : Scope} {e : Expr} {l r : MT} (h : chkT sc (.or l r) e = true) : (∃ l' r' p, e = .BoolOp .Or [l', r'] p ∧ chkT sc l l' = true ∧ chkT sc r r' = true) ∨
    (∃ l' m n rest p, e = .BoolOp .Or (l' :: m :: n :: rest) p ∧ chkT sc l l' = true ∧ chkT sc r (.BoolOp .Or (m :: n :: rest) p) = true) := by
  cases e with
  | BoolOp op es p =>
    cases op with
    | Or =>
      match es, h with
      | [a, b], h => simp only [chkT, Bool.and_eq_true] at h; exact .inl ⟨_, _, _, rfl, h.1, h.2⟩
      | a :: b :: c :: d, h => simp only [chkT, Bool.and_eq_true] at h; exact .inr ⟨_, _, _, _, _, rfl, h.1, h.2⟩
    | And => cases h
  | _ => cases h

theorem okTT : OkT prog w T C k .tt := by
  intro sc e hc A env ρ σ Q s R ok S hw
  cases e <;> cases hc

theorem okTNot {t : MT} (h : OkT prog w T C k t) : OkT prog w T C k (.not t) := by
  intro sc e hc A env ρ σ Q s R ok S hw
  obtain ⟨e', p, rfl, hc⟩ := inv_tnot hc
  simp only [wpT] at hw
  refine isTrue_not (wpAny_mono (h sc _ hc A env ρ σ _ s R ok S hw) ?_ fun _ _ q => q)
  rintro b s1 ⟨σ1, e1, L1, hq⟩
  exact ⟨σ1, e1, L1, hq⟩

theorem okTCmp {op : CmpOp} {l r : ME} (hl : OkE prog w T C k l) (hr : OkE prog w T C k r) : OkT prog w T C k (.cmp op l r) := by
  intro sc e hc A env ρ σ Q s R ok S hw
  obtain ⟨l', r', p, rfl, h1, h2⟩ := inv_tcmp hc
  simp only [wpT] at hw
  refine wpAny_isTrue_Compare1 (wpAny_mono (hl sc _ h1 A env ρ σ _ s R ok S hw) ?_ fun _ _ q => q) (plainCmp h2 _)
  rintro x s1 ⟨v, σ1, e1, hv, L1, hw1⟩
  have S1 := S.next e1 L1
  refine wpAny_mono (hr sc _ h2 A env ρ σ1 _ s1 R ok S1 hw1) ?_ fun _ _ q => q
  rintro y s2 ⟨u, σ2, e2, hu, L2, c, hc2, hw2⟩
  exact cmp_ok (by have := R.units; omega) L2 (hv.keeps (e2.tups0 L1)) hu hc2 (wpAny_truthy_bool ⟨σ2, e1.trans e2, L2, hw2⟩)

theorem okTAnd {l r : MT} (hl : OkT prog w T C k l) (hr : OkT prog w T C k r) : OkT prog w T C k (.and l r) := by
  intro sc e hc A env ρ σ Q s R ok S hw
  simp only [wpT] at hw
  have after : ∀ {σ1 : Sto} {s1 : Shared} {t : Sem Bool}, Ext N0 T.objs.size σ σ1 s s1 → wpAny (model prog w) A t (RetB T.objs.size σ1 s1 Q) No s1 → wpAny (model prog w) A t (RetB T.objs.size σ s Q) No s1 :=
    fun e h => wpAny_mono h (fun _ _ ⟨σ2, e2, r⟩ => ⟨σ2, e.trans e2, r⟩) fun _ _ q => q
  have key : ∀ {l' : Expr} {m : Expr} {rest : List Expr} {p : Pos}, chkT sc l l' = true → (∀ σ1 s1, St T env ρ σ1 s1 → wpT C r ρ σ1 Q → wpAny (model prog w) A (PySem.isTrue (.BoolOp .And (m :: rest) p) env (eval (.BoolOp .And (m :: rest) p) env)) (RetB T.objs.size σ1 s1 Q) No s1) →
      wpAny (model prog w) A (PySem.isTrue (.BoolOp .And (l' :: m :: rest) p) env (eval (.BoolOp .And (l' :: m :: rest) p) env)) (RetB T.objs.size σ s Q) No s := by
    intro l' m rest p h1 h2
    refine isTrue_and (wpAny_mono (hl sc _ h1 A env ρ σ _ s R ok S hw) ?_ fun _ _ q => q)
    rintro c s1 ⟨σ1, e1, L1, hq⟩
    cases c with
    | true => exact after e1 (h2 σ1 _ (S.next e1 L1) hq)
    | false => exact ⟨σ1, e1, L1, hq⟩
  rcases inv_tand hc with ⟨l', r', p, rfl, h1, h2⟩ | ⟨l', m, n, rest, p, rfl, h1, h2⟩
  · refine key h1 fun σ1 s1 S1 hq => isTrue_and (wpAny_mono (hr sc _ h2 A env ρ σ1 _ s1 R ok S1 hq) ?_ fun _ _ q => q)
    rintro c s2 ⟨σ2, e2, L2, hq⟩
    cases c with
    | true => exact isTrue_and_nil ⟨σ2, e2, L2, hq⟩
    | false => exact ⟨σ2, e2, L2, hq⟩
  · exact key h1 fun σ1 s1 S1 hq => hr sc _ h2 A env ρ σ1 _ s1 R ok S1 hq

theorem okTOr {l r : MT} (hl : OkT prog w T C k l) (hr : OkT prog w T C k r) : OkT prog w T C k (.or l r) := by
  intro sc e hc A env ρ σ Q s R ok S hw
  simp only [wpT] at hw
  have after : ∀ {σ1 : Sto} {s1 : Shared} {t : Sem Bool}, Ext N0 T.objs.size σ σ1 s s1 → wpAny (model prog w) A t (RetB T.objs.size σ1 s1 Q) No s1 → wpAny (model prog w) A t (RetB T.objs.size σ s Q) No s1 :=
    fun e h => wpAny_mono h (fun _ _ ⟨σ2, e2, r⟩ => ⟨σ2, e.trans e2, r⟩) fun _ _ q => q
  have key : ∀ {l' : Expr} {m : Expr} {rest : List Expr} {p : Pos}, chkT sc l l' = true → (∀ σ1 s1, St T env ρ σ1 s1 → wpT C r ρ σ1 Q → wpAny (model prog w) A (PySem.isTrue (.BoolOp .Or (m :: rest) p) env (eval (.BoolOp .Or (m :: rest) p) env)) (RetB T.objs.size σ1 s1 Q) No s1) →
      wpAny (model prog w) A (PySem.isTrue (.BoolOp .Or (l' :: m :: rest) p) env (eval (.BoolOp .Or (l' :: m :: rest) p) env)) (RetB T.objs.size σ s Q) No s := by
    intro l' m rest p h1 h2
    refine isTrue_or (wpAny_mono (hl sc _ h1 A env ρ σ _ s R ok S hw) ?_ fun _ _ q => q)
    rintro c s1 ⟨σ1, e1, L1, hq⟩
    cases c with
    | false => exact after e1 (h2 σ1 _ (S.next e1 L1) hq)
    | true => exact ⟨σ1, e1, L1, hq⟩
  rcases inv_tor hc with ⟨l', r', p, rfl, h1, h2⟩ | ⟨l', m, n, rest, p, rfl, h1, h2⟩
  · refine key h1 fun σ1 s1 S1 hq => isTrue_or (wpAny_mono (hr sc _ h2 A env ρ σ1 _ s1 R ok S1 hq) ?_ fun _ _ q => q)
    rintro c s2 ⟨σ2, e2, L2, hq⟩
    cases c with
    | false => exact isTrue_or_nil ⟨σ2, e2, L2, hq⟩
    | true => exact ⟨σ2, e2, L2, hq⟩
  · exact key h1 fun σ1 s1 S1 hq => hr sc _ h2 A env ρ σ1 _ s1 R ok S1 hq

theorem okTOf {e : ME} (h : OkE prog w T C k e) : OkT prog w T C k (.of e) := by
  intro sc e' hc A env ρ σ Q s R ok S hw
  have hc' : plainTest e' = true ∧ chkE sc e e' = true := by
    cases e' <;> first | (simp only [chkT, Bool.and_eq_true] at hc; exact hc) | (simp [chkT, plainTest] at hc)
  simp only [wpT] at hw
  refine isTrue_plain (wpAny_mono (h sc _ hc'.2 A env ρ σ _ s R ok S hw) ?_ fun _ _ q => q) (by
    have := hc'.1
    cases e' <;> first | rfl | cases this)
  rintro x s1 ⟨v, σ1, e1, hv, L1, c, hc1, hq⟩
  exact truth_ok L1 hv hc1 fun tk => ⟨σ1, e1.trans (.toks tk), L1, hq⟩

/-! slices -/
theorem slice_step {A : Around} {env : Env} {y : Str} {p r t : Pos} {lo : Expr} {a : Nat} {st : Int} {q : Pos} {Q : Value → Shared → Prop} {E : Value → Shared → Prop} {s : Shared}
    (h : wpAny (model prog w) A (eval (.Name y p) env) (fun o s1 => wpAny (model prog w) A (eval lo env) (fun i s2 => ∃ l items n j u, o = .ref l ∧ i = .int j u ∧ IsL s2.heap l items n ∧ items.size ≤ sizeLine ∧
      ∀ h' tk, (∀ b o, s2.heap.get? b = some o → h'.get? b = some o) → ∀ z, s2.heap.objs.size ≤ z → IsL h' z (slicePick items (some j) none (some st)) 0 → Q (.ref z) { s2 with heap := h', toks := tk }) E s1) E s) (h0 : st ≠ 0) :
    wpAny (model prog w) A (eval (.Subscript (.Name y p) (.Slice (some lo) none (some (.Constant (.int st) a q)) r) t) env) Q E s := by
  refine wpAny_Subscript_Slice_step slot_list_getitem.lookup (wpAny_mono h (fun o s1 h1 => ?_) fun _ _ e => e)
  refine wpAny_Slice (wpAny_mono h1 (fun i s2 h2 => ?_) fun _ _ e => e)
  obtain ⟨l, items, n, j, u, rfl, rfl, hl, hz, hq⟩ := h2
  refine wpAny_pure ?_
  show wpAny _ _ (eval (.Constant (.int st) a q) env) _ _ _
  refine wpAny_Constant_int ?_
  have hl' : IsL (s2.heap.push { cls := .type "slice", data := .fields #[.int j u, .none, .int st s2.toks] }) l items n := Heap.get?_push_of_some _ hl
  refine ⟨⟨_, hl', rfl⟩, wpAny_getItem_list_slice hl'.isList (Heap.IsSliceOf.new _ _ _ _) (.int _ _) .none (.int _ _) (by intro q; cases q; exact h0 rfl) ?_ hz⟩
  exact hq _ _ (fun b o e => Heap.get?_push_of_some _ (Heap.get?_push_of_some _ e)) _ (by rw [Heap.size_push]; exact Nat.le_succ _) (Heap.get?_push_size _ rfl)

theorem okSlFrom {o lo : ME} {st : Int} (ho : OkE prog w T C k o) (hl : OkE prog w T C k lo) (hB : C.B = T.objs.size) : OkE prog w T C k (.slFrom o lo st) := by
  intro sc e hc A env ρ σ Q s R ok S hw
  obtain ⟨y, p, lo', a, q, r, t, rfl, h1, h2, h0⟩ := inv_slFrom hc
  simp only [wpE] at hw
  refine slice_step (wpAny_mono (ho sc _ h1 A env ρ σ _ s R ok S hw) ?_ fun _ _ q => q) h0
  rintro x s1 ⟨v, σ1, e1, hv, L1, hw1⟩
  have S1 := S.next e1 L1
  refine wpAny_mono (hl sc _ h2 A env ρ σ1 _ s1 R ok S1 hw1) ?_ fun _ _ q => q
  rintro y s2 ⟨u, σ2, e2, hu, L2, l, xs, ns, i, rfl, hl1, hn, rfl, _, hq⟩
  cases hv
  obtain ⟨t, rfl⟩ := hu
  obtain ⟨ws, n, hl', hws, hz⟩ := L2 _ _ hl1
  have hi := hws.ints hn
  refine ⟨l, _, n, i, t, rfl, rfl, hl', by rw [List.size_toArray, ← hws.length]; exact limOk hz, fun h' tk kk z hz' hlz => ?_⟩
  rw [hB] at hq
  have hpi := hi.pick (some i) none (some st)
  have hlen : (pickNums ns (some i) none (some st)).length ≤ ns.length := by
    have := slicePick_size_le ws.toArray (some i) none (some st)
    rw [← ints_len hpi, Array.length_toList, ← ints_len hi]
    simpa using this
  refine Ret.after (e1.trans e2) (Ret.alloc (ws := (slicePick ws.toArray (some i) none (some st)).toList) (n := 0) L2 ((S1.next e2 L2).room ok) kk hz' (by rw [Array.toArray_toList]; exact hlz) (VRs.ofInts hpi) ?_ (hq _ hlen))
  rw [List.length_map]
  have : ns.length = xs.length := by rw [← ints_len hi, hws.length]
  omega

theorem slice_plain {A : Around} {env : Env} {y : Str} {p r t : Pos} {lo hi : Option Int} {lo' hi' : Option Expr} {Q : Value → Shared → Prop} {E : Value → Shared → Prop} {s : Shared}
    (hlo : ∀ s (Q : Value → Shared → Prop), (∀ x tk, IsPart x lo → Q x { s with toks := tk }) → wpAny (model prog w) A (evalPart lo' env) Q E s)
    (hhi : ∀ s (Q : Value → Shared → Prop), (∀ x tk, IsPart x hi → Q x { s with toks := tk }) → wpAny (model prog w) A (evalPart hi' env) Q E s)
    (h : wpAny (model prog w) A (eval (.Name y p) env) (fun o s2 => ∃ l items n, o = .ref l ∧ IsL s2.heap l items n ∧ items.size ≤ sizeLine ∧
      ∀ h' tk, (∀ b o, s2.heap.get? b = some o → h'.get? b = some o) → ∀ z, s2.heap.objs.size ≤ z → IsL h' z (slicePick items lo hi none) 0 → Q (.ref z) { s2 with heap := h', toks := tk }) E s) :
    wpAny (model prog w) A (eval (.Subscript (.Name y p) (.Slice lo' hi' none r) t) env) Q E s := by
  refine wpAny_Subscript_Slice slot_list_getitem.lookup (wpAny_mono h (fun o s1 h1 => ?_) fun _ _ e => e)
  obtain ⟨l, items, n, rfl, hl, hz, hq⟩ := h1
  refine wpAny_Slice (hlo _ _ fun x tk hx => hhi _ _ fun x' tk' hx' => wpAny_pure ?_)
  have hl' : IsL (s1.heap.push { cls := .type "slice", data := .fields #[x, x', .none] }) l items n := Heap.get?_push_of_some _ hl
  refine ⟨⟨_, hl', rfl⟩, wpAny_getItem_list_slice hl'.isList (Heap.IsSliceOf.new _ _ _ _) hx hx' .none (by intro q; cases q) ?_ hz⟩
  exact hq _ _ (fun b o e => Heap.get?_push_of_some _ (Heap.get?_push_of_some _ e)) _ (by rw [Heap.size_push]; exact Nat.le_succ _) (Heap.get?_push_size _ rfl)

theorem part_none {A : Around} {env : Env} {E : Value → Shared → Prop} : ∀ s (Q : Value → Shared → Prop), (∀ x tk, IsPart x none → Q x { s with toks := tk }) → wpAny (model prog w) A (evalPart none env) Q E s :=
  fun s Q h => wpAny_pure (h _ s.toks .none)
theorem part_int {A : Around} {env : Env} {E : Value → Shared → Prop} {i : Int} {a : Nat} {q : Pos} : ∀ s (Q : Value → Shared → Prop), (∀ x tk, IsPart x (some i) → Q x { s with toks := tk }) → wpAny (model prog w) A (evalPart (some (.Constant (.int i) a q)) env) Q E s :=
  fun s Q h => by show wpAny _ _ (eval (.Constant (.int i) a q) env) _ _ _; exact wpAny_Constant_int (h _ _ (.int _ _))

theorem okSlTo {o : ME} {hi : Int} (ho : OkE prog w T C k o) (hB : C.B = T.objs.size) : OkE prog w T C k (.slTo o hi) := by
  intro sc e hc A env ρ σ Q s R ok S hw
  obtain ⟨y, p, a, q, r, t, rfl, h1⟩ := inv_slTo hc
  simp only [wpE] at hw
  refine slice_plain (lo := none) (hi := some hi) part_none part_int (wpAny_mono (ho sc _ h1 A env ρ σ _ s R ok S hw) ?_ fun _ _ q => q)
  rintro x s2 ⟨v, σ2, e2, hv, L2, l, xs, ns, rfl, hl1, hn, _, hq⟩
  cases hv
  obtain ⟨ws, n, hl', hws, hz⟩ := L2 _ _ hl1
  have hi' := hws.ints hn
  refine ⟨l, _, n, rfl, hl', by rw [List.size_toArray, ← hws.length]; exact limOk hz, fun h' tk kk z hz' hlz => ?_⟩
  rw [hB] at hq
  have hpi := hi'.pick none (some hi) none
  have hlen : (pickNums ns none (some hi) none).length ≤ ns.length := by
    have := slicePick_size_le ws.toArray none (some hi) none
    rw [← ints_len hpi, Array.length_toList, ← ints_len hi']
    simpa using this
  refine Ret.after e2 (Ret.alloc (ws := (slicePick ws.toArray none (some hi) none).toList) (n := 0) L2 ((S.next e2 L2).room ok) kk hz' (by rw [Array.toArray_toList]; exact hlz) (VRs.ofInts hpi) ?_ (hq _ hlen))
  rw [List.length_map]
  have : ns.length = xs.length := by rw [← ints_len hi', hws.length]
  omega

theorem okSl2 {o : ME} {lo hi : Int} (ho : OkE prog w T C k o) (hB : C.B = T.objs.size) : OkE prog w T C k (.sl2 o lo hi) := by
  intro sc e hc A env ρ σ Q s R ok S hw
  obtain ⟨y, p, a, q, a', q', r, t, rfl, h1⟩ := inv_sl2 hc
  simp only [wpE] at hw
  refine slice_plain (lo := some lo) (hi := some hi) part_int part_int (wpAny_mono (ho sc _ h1 A env ρ σ _ s R ok S hw) ?_ fun _ _ q => q)
  rintro x s2 ⟨v, σ2, e2, hv, L2, l, xs, rfl, hl1, h0, h2, h3, _, hq⟩
  cases hv
  obtain ⟨ws, n, hl', hws, hz⟩ := L2 _ _ hl1
  have hsz : ws.toArray.size = xs.length := by rw [List.size_toArray, ← hws.length]
  refine ⟨l, _, n, rfl, hl', by rw [hsz]; exact limOk hz, fun h' tk kk z hz' hlz => ?_⟩
  rw [hB] at hq
  have e3 : slicePick ws.toArray (some lo) (some hi) none = ((ws.take hi.toNat).drop lo.toNat).toArray := by
    have := slicePick_run ws.toArray lo.toNat hi.toNat (by rw [hsz]; omega) (by omega)
    rw [show ((lo.toNat : Nat) : Int) = lo from by omega, show ((hi.toNat : Nat) : Int) = hi from by omega] at this
    rw [this, List.drop_take]
  rw [e3] at hlz
  refine Ret.after e2 (Ret.alloc (n := 0) L2 ((S.next e2 L2).room ok) kk hz' hlz hws.take.drop ?_ hq)
  rw [List.length_drop, List.length_take]
  omega
end
end Mini
end

section
open PySem PyProof.Rows
open PySem.SeqAt

namespace Mini
section
variable {prog : Program} {w : World} {T : Heap} {mg mb : Str → Option Value} {C : Cx} {k : Nat}

theorem noStar {sc : Scope} {env : Env} {pos : Pos} : ∀ {es : MEs} {l : List Expr}, chkEs sc es l = true → (backTo pos (starEach l env)).any (·.1) = false
  | .nil, [], _ => rfl
  | .cons e r, e' :: r', h => by
    simp only [chkEs, Bool.and_eq_true] at h
    rw [chk_notStar h.1]
    have := noStar (env := env) (pos := pos) h.2
    simp only [backTo, List.map_cons, List.any_cons, Bool.false_or] at this ⊢
    exact this
  | .nil, _ :: _, h => by cases h
  | .cons _ _, [], h => by cases h

theorem glob_builtin {A : Around} {E : Value → Shared → Prop} {env : Env} {sc : Scope} {x : Str} {p : Pos} {s : Shared} {ρ : Frm} {σ : Sto} {y : Value} {Q : Value → Shared → Prop} {gl : String → Option V} (W : Wd T mg mb gl) (ok : EnvOk T.objs.size sc env) (S : St T env ρ σ s)
    (hg : globOk sc x = true) (h1 : mg x = none) (h2 : mb x = some y) (h : Q y s) : wpAny (model prog w) A (eval (.Name x p) env) Q E s := by
  simp only [globOk, Bool.and_eq_true, beq_iff_eq, bne_iff_ne, ne_eq] at hg
  exact Calls.Name_function_global (by rw [ok.scope]; exact ok.kind) (by unfold Env.kindOf; rw [ok.scope]; exact hg.2) (Calls.loadGlobal_builtin (by rw [ok.globals]; exact W.g.keeps S.base) h1 (by rw [ok.builtins]; exact W.b.keeps S.base) h2 h) (by simpa using hg.1)
theorem glob_def {A : Around} {E : Value → Shared → Prop} {env : Env} {sc : Scope} {x : Str} {p : Pos} {s : Shared} {ρ : Frm} {σ : Sto} {y : Value} {Q : Value → Shared → Prop} {gl : String → Option V} (W : Wd T mg mb gl) (ok : EnvOk T.objs.size sc env) (S : St T env ρ σ s)
    (hg : globOk sc x = true) (h1 : mg x = some y) (h : Q y s) : wpAny (model prog w) A (eval (.Name x p) env) Q E s := by
  simp only [globOk, Bool.and_eq_true, beq_iff_eq, bne_iff_ne, ne_eq] at hg
  exact Calls.Name_function_global (by rw [ok.scope]; exact ok.kind) (by unfold Env.kindOf; rw [ok.scope]; exact hg.2) (Calls.loadGlobal_global (by rw [ok.globals]; exact W.g.keeps S.base) h1 h) (by simpa using hg.1)

theorem callWith_bt {A : Around} {E : Value → Shared → Prop} {s : Shared} {v : Value} {pos : Pos} {args : List (Bool × Sem Value)} {Q : Value → Shared → Prop} (hv : (∃ id, v = .builtin id) ∨ ∃ t, v = .type t) (hp : args.any (·.1) = false)
    (h : wpAny (model prog w) A (evalArgs v true args []) (fun x s1 => wpAny (model prog w) A (call v ([] ++ x.pos) x.kw) Q E s1) E s) : wpAny (model prog w) A (callWith pos v [] args []) Q E s := by
  rcases hv with ⟨id, rfl⟩ | ⟨t, rfl⟩
  · exact Calls.callWith_builtin hp h
  · exact PySem.callWith_type hp h
theorem val_form (f : Blt) : (∃ id, f.val = .builtin id) ∨ ∃ t, f.val = .type t := by
  cases f <;> first | exact .inl ⟨_, rfl⟩ | exact .inr ⟨_, rfl⟩

theorem okBlt (W : Wd T mg mb C.gl) {f : Blt} {args : MEs} (h : OkEs prog w T C k args) (hB : C.B = T.objs.size) : OkE prog w T C k (.blt f args) := by
  intro sc e hc A env ρ σ Q s R ok S hw
  obtain ⟨p, a, r, pos, rfl, hg, h2⟩ := inv_blt hc
  simp only [wpE] at hw
  refine Call_ (glob_builtin W ok S hg (W.blt f).1 (W.blt f).2 ?_)
  have hst : starEach (a :: r) env = (false, eval a env) :: starEach r env := by
    cases args with
    | nil => cases h2
    | cons e' r' => simp only [chkEs, Bool.and_eq_true] at h2; exact chk_notStar h2.1 _ _
  have hargs : wpAny (model prog w) A (evalArgs f.val true (backTo pos (starEach (a :: r) env)) []) (fun x s1 => wpAny (model prog w) A (call f.val ([] ++ x.pos) x.kw) (Ret T.objs.size σ s Q) No s1) No s := by
    have := h sc _ h2 A env pos ρ σ _ s R ok S hw
    rw [hst] at this ⊢
    refine Calls.evalArgs_plain (wpAny_mono this ?_ fun _ _ q => q)
    rintro ws s1 ⟨vs, σ1, e1, hv, L1, hq⟩
    rw [hB] at hq
    exact retAfter e1 (blt_ok R.hh (by have := R.units; omega) L1 ((S.next e1 L1).room ok) hv hq)
  exact callWith_bt (val_form f) (noStar h2) hargs

theorem okCall (W : Wd T mg mb C.gl) (H : SpOk prog w T mg C k) {f : String} {args : MEs} (h : OkEs prog w T C k args) : OkE prog w T C k (.call f args) := by
  intro sc e hc A env ρ σ Q s R ok S hw
  obtain ⟨p, a, r, pos, rfl, hg, h2⟩ := inv_call hc
  simp only [wpE] at hw
  obtain ⟨hk, hw⟩ := hw
  obtain ⟨fa, o, fd, hm, ho, hd, hcall⟩ := H f hk
  refine Call_ (glob_def W ok S hg hm ?_)
  have hst : starEach (a :: r) env = (false, eval a env) :: starEach r env := by
    cases args with
    | nil => cases h2
    | cons e' r' => simp only [chkEs, Bool.and_eq_true] at h2; exact chk_notStar h2.1 _ _
  have := h sc _ h2 A env pos ρ σ _ s R ok S hw
  rw [hst] at this ⊢
  refine Calls.callWith_function (o := o) (fd := fd) (Calls.evalArgs_plain (wpAny_mono this ?_ fun _ _ q => q))
  rintro ws s1 ⟨vs, σ1, e1, hv, L1, hq⟩
  have S1 := S.next e1 L1
  exact ⟨⟨S1.base _ _ ho, hd⟩, retAfter e1 (hcall A vs σ1 Q ws s1 R S1.base L1 (S1.room ok) hv hq)⟩

theorem meth_slot (m : Meth) : Slot "list" m.name m.id := by
  cases m
  · exact F.slot_list_pop
  · exact F.slot_list_append
  · exact F.slot_list_remove
theorem meth_type (m : Meth) : typeOf (.builtin m.id) = pure (.type "method_descriptor") := by
  cases m
  · exact F.type_list_pop
  · exact F.type_list_append
  · exact F.type_list_remove

theorem okMeth {m : Meth} {o : ME} {args : MEs} (ho : OkE prog w T C k o) (h : OkEs prog w T C k args) (hB : C.B = T.objs.size) : OkE prog w T C k (.meth m o args) := by
  intro sc e hc A env ρ σ Q s R ok S hw
  obtain ⟨y, p, apos, as, pos, rfl, hline, h1, h2, hlen⟩ := inv_meth hc
  simp only [wpE] at hw
  have hfew : ((backTo pos (starEach as env)).all (fun x => !x.1) && (backToKw pos (keywordEach [] env)).all (fun x => x.1.isSome)
      && decide (as.length + ([] : List Keyword).length + (if ([] : List Keyword).isEmpty then 0 else 1) < 30)) = true := by
    have h3 := noStar (env := env) (pos := pos) h2
    have h4 : (backTo pos (starEach as env)).all (fun x => !x.1) = true := by
      rw [List.all_eq_not_any_not]
      simpa using h3
    rw [h4]
    simp [backToKw, keywordEach]
    omega
  refine wpAny_Call_method rfl hfew hline F.plainAttrs_list (meth_slot m) (meth_type m) (wpAny_mono (ho sc _ h1 A env ρ σ _ s R ok S hw) ?_ fun _ _ q => q)
  rintro x s1 ⟨v, σ1, e1, hv, L1, ⟨l, xs, rfl, hl⟩, hw1⟩
  cases hv
  obtain ⟨ws₀, n, hl1, _, _⟩ := L1 l xs hl
  have S1 := S.next e1 L1
  refine ⟨⟨_, hl1, rfl⟩, fun a ha => ?_, ?_⟩
  · cases ha; exact ⟨_, hl1, rfl⟩
  have key : ∀ ws s2, RetL T.objs.size σ1 s1 (fun vs σ2 => wpMeth C.B m (.ref l) vs σ2 Q) ws s2 → wpAny (model prog w) A (call (.builtin m.id) ([.ref l] ++ ws) []) (Ret T.objs.size σ s Q) No s2 := by
    rintro ws s2 ⟨vs, σ2, e2, hvs, L2, hq⟩
    rw [hB] at hq
    obtain ⟨l', e, hh⟩ := meth_ok (prog := prog) (w := w) (A := A) (a := .ref l) (x := .ref l) (by have := R.units; omega) L2 rfl hvs hq
    cases e
    exact retAfter (e1.trans e2) hh
  match as, h2, hlen with
  | [], h2, _ =>
    have := h sc _ h2 A env pos ρ σ1 _ s1 R ok S1 hw1
    refine Calls.callWith_builtin rfl (PySem.evalArgs_none ?_)
    match args, h2 with
    | .nil, _ => exact key [] s1 ⟨[], σ1, .refl _ _ _ _, trivial, L1, hw1⟩
  | [a], h2, _ =>
    have := h sc _ h2 A env pos ρ σ1 _ s1 R ok S1 hw1
    have hst : starEach [a] env = (false, eval a env) :: starEach [] env := by
      cases args with
      | nil => cases h2
      | cons e' r' => simp only [chkEs, Bool.and_eq_true] at h2; exact chk_notStar h2.1 _ _
    rw [hst] at this ⊢
    exact Calls.callWith_builtin rfl (Calls.evalArgs_plain (wpAny_mono this key fun _ _ q => q))

/-! what is iterated -/
theorem thereOf {D : Nat → Prop} {B : Nat} {σ σ' : Sto} {s s' : Shared} (e : Ext D B σ σ' s s') : ∀ b o, s.heap.get? b = some o → ∃ o', s'.heap.get? b = some o' := e.there

theorem okVal {e : ME} (h : OkE prog w T C k e) : OkI prog w T C k (.val e) := by
  intro sc e' hc A env ρ σ Q s R ok S hw
  have hc' : chkE sc e e' = true := by cases e' <;> first | exact hc | cases hc
  simp only [wpI] at hw
  refine wpAny_mono (h sc _ hc' A env ρ σ _ s R ok S hw) ?_ fun _ _ q => q
  rintro x s1 ⟨v, σ1, e1, hv, L1, l, xs, rfl, hl, hq⟩
  cases hv
  exact ⟨xs, some l, σ1, e1, L1, hl, iter_list R.hh e1.there L1 hl, hq⟩

/-- the range object of one int -/
theorem range1 (W : Wd T mg mb C.gl) {e : ME} (h : OkE prog w T C k e) {sc : Scope} {e' : Expr} {p pos : Pos} (hg : globOk sc "range" = true) (hc : chkE sc e e' = true) {A : Around} {env : Env} {ρ : Frm} {σ : Sto} {P : V → Sto → Prop} {s : Shared} {Q : Value → Shared → Prop}
    (R : Rm A k) (ok : EnvOk T.objs.size sc env) (S : St T env ρ σ s) (hw : wpE C e ρ σ P) (hP : ∀ a σ1, P a σ1 → ∃ n, a = .int n)
    (hQ : ∀ n σ1 s1 r t u v, Ext N0 T.objs.size σ σ1 s s1 → LR σ1 s1.heap → s.heap.get? r = none → IsRange s1.heap r 0 n 1 t u v → P (.int n) σ1 → Q (.ref r) s1) :
    wpAny (model prog w) A (eval (.Call (.Name "range" p) [e'] [] pos) env) Q No s := by
  refine Call_ (glob_builtin W ok S hg W.rng.1 W.rng.2 ?_)
  have hst : starEach [e'] env = (false, eval e' env) :: starEach [] env := chk_notStar hc _ _
  rw [hst]
  refine PySem.callWith_type rfl (Calls.evalArgs_plain (Calls.spliced_cons (wpAny_mono (h sc _ hc A env ρ σ _ s R ok S hw) ?_ fun _ _ q => q)))
  rintro x s1 ⟨v, σ1, e1, hv, L1, hp⟩
  obtain ⟨n, rfl⟩ := hP _ _ hp
  obtain ⟨t, rfl⟩ := hv
  refine Calls.spliced_nil (call_range_1 ?_)
  have kk : ∀ b o, s1.heap.get? b = some o → (s1.heap.push { cls := .type "range", data := .fields #[.int 0 s1.toks, .int n t, .int 1 (s1.toks + 1)] }).get? b = some o := fun b o e => Heap.get?_push_of_some _ e
  refine hQ n σ1 _ s1.heap.objs.size s1.toks t (s1.toks + 1) (e1.trans (.grow kk)) (L1.grow kk) ?_ (Heap.get?_push_size _ rfl) hp
  cases q : s.heap.get? s1.heap.objs.size with
  | none => rfl
  | some o => obtain ⟨o', e⟩ := e1.there _ _ q; exact absurd (Heap.lt_size e) (Nat.lt_irrefl _)

theorem okR1 (W : Wd T mg mb C.gl) {e : ME} (h : OkE prog w T C k e) : OkI prog w T C k (.r1 e) := by
  intro sc e' hc A env ρ σ Q s R ok S hw
  simp only [wpI] at hw
  have inv : ∃ p a pos, e' = .Call (.Name "range" p) [a] [] pos ∧ globOk sc "range" = true ∧ chkE sc e a = true := by
    cases e' with
    | Call g as ks pos =>
      match g, as, ks, hc with
      | .Name y p, [a], [], hc =>
        simp only [chkI, Bool.and_eq_true, beq_iff_eq] at hc
        obtain ⟨⟨rfl, h1⟩, h2⟩ := hc
        exact ⟨_, _, _, rfl, h1, h2⟩
    | _ => cases hc
  obtain ⟨p, a, pos, rfl, hg, hc⟩ := inv
  refine range1 W h hg hc R ok S hw (fun a σ1 ⟨n, e, _⟩ => ⟨n, e⟩) ?_
  rintro n σ1 s1 r t u v e1 L1 hr hR ⟨n', e, hs, hq⟩
  cases e
  refine ⟨_, none, σ1, e1, L1, trivial, iter_rangeUp R.hh e1.there hR (by decide) hs, ?_⟩
  rw [Int.sub_zero]
  exact hq

theorem okRev (W : Wd T mg mb C.gl) {e : ME} (h : OkE prog w T C k e) : OkI prog w T C k (.rev e) := by
  intro sc e' hc A env ρ σ Q s R ok S hw
  simp only [wpI] at hw
  have inv : ∃ q p a pos pos', e' = .Call (.Name "reversed" q) [.Call (.Name "range" p) [a] [] pos] [] pos' ∧ globOk sc "reversed" = true ∧ globOk sc "range" = true ∧ chkE sc e a = true := by
    cases e' with
    | Call g as ks pos =>
      match g, as, ks, hc with
      | .Name z q, [.Call (.Name y p) [a] [] _], [], hc =>
        simp only [chkI, Bool.and_eq_true, beq_iff_eq] at hc
        obtain ⟨⟨⟨⟨rfl, h1⟩, rfl⟩, h2⟩, h3⟩ := hc
        exact ⟨_, _, _, _, _, rfl, h1, h2, h3⟩
    | _ => cases hc
  obtain ⟨q, p, a, pos, pos', rfl, hg, hg2, hc⟩ := inv
  refine Call_ (glob_builtin W ok S hg W.rev.1 W.rev.2 ?_)
  refine PySem.callWith_type rfl (Calls.evalArgs_plain (Calls.spliced_cons ?_))
  refine range1 W h hg2 hc R ok S hw (fun a σ1 ⟨n, e, _⟩ => ⟨n, e⟩) ?_
  rintro n σ1 s1 r t u v e1 L1 hr hR ⟨n', e, h0, hs, hq⟩
  cases e
  refine Calls.spliced_nil (call_reversed_range hR h0 hs ?_)
  have kk : ∀ b o, s1.heap.get? b = some o → (s1.heap.push (revIt n)).get? b = some o := fun b o e => Heap.get?_push_of_some _ e
  refine ⟨_, none, σ1, e1.trans (.grow kk), L1.grow kk, trivial, iter_rev R.hh (Heap.get?_push_size _ rfl) h0 ?_, hq⟩
  cases q : s.heap.get? s1.heap.objs.size with
  | none => rfl
  | some o => obtain ⟨o', e⟩ := e1.there _ _ q; exact absurd (Heap.lt_size e) (Nat.lt_irrefl _)

theorem fresh_of {D : Nat → Prop} {B : Nat} {σ σ' : Sto} {s s' : Shared} (e : Ext D B σ σ' s s') : s.heap.get? s'.heap.objs.size = none := by
  cases q : s.heap.get? s'.heap.objs.size with
  | none => rfl
  | some o => obtain ⟨o', e⟩ := e.there _ _ q; exact absurd (Heap.lt_size e) (Nat.lt_irrefl _)

theorem okR2 (W : Wd T mg mb C.gl) {e₁ e₂ : ME} (h₁ : OkE prog w T C k e₁) (h₂ : OkE prog w T C k e₂) : OkI prog w T C k (.r2 e₁ e₂) := by
  intro sc e' hc A env ρ σ Q s R ok S hw
  simp only [wpI] at hw
  have inv : ∃ p a b pos, e' = .Call (.Name "range" p) [a, b] [] pos ∧ globOk sc "range" = true ∧ chkE sc e₁ a = true ∧ chkE sc e₂ b = true := by
    cases e' with
    | Call g as ks pos =>
      match g, as, ks, hc with
      | .Name y p, [a, b], [], hc =>
        simp only [chkI, Bool.and_eq_true, beq_iff_eq] at hc
        obtain ⟨⟨⟨rfl, h1⟩, h2⟩, h3⟩ := hc
        exact ⟨_, _, _, _, rfl, h1, h2, h3⟩
    | _ => cases hc
  obtain ⟨p, a, b, pos, rfl, hg, hc1, hc2⟩ := inv
  refine Call_ (glob_builtin W ok S hg W.rng.1 W.rng.2 ?_)
  have hst : starEach [a, b] env = [(false, eval a env), (false, eval b env)] := by rw [chk_notStar hc1, chk_notStar hc2]; rfl
  rw [hst]
  refine PySem.callWith_type rfl (Calls.evalArgs_plain (Calls.spliced_cons (wpAny_mono (h₁ sc _ hc1 A env ρ σ _ s R ok S hw) ?_ fun _ _ q => q)))
  rintro x s1 ⟨v, σ1, e1, hv, L1, hp⟩
  have S1 := S.next e1 L1
  refine Calls.spliced_cons (wpAny_mono (h₂ sc _ hc2 A env ρ σ1 _ s1 R ok S1 hp) ?_ fun _ _ q => q)
  rintro y s2 ⟨u, σ2, e2, hu, L2, i, j, rfl, rfl, hi, hj, hq⟩
  obtain ⟨t, rfl⟩ := hv
  obtain ⟨t', rfl⟩ := hu
  refine Calls.spliced_nil (call_range_2 ?_)
  have kk : ∀ b o, s2.heap.get? b = some o → (s2.heap.push { cls := .type "range", data := .fields #[.int i t, .int j t', .int 1 s2.toks] }).get? b = some o := fun b o e => Heap.get?_push_of_some _ e
  have e3 := (e1.trans e2).trans (.grow (tk := s2.toks + 1) kk)
  exact ⟨_, none, σ2, e3, L2.grow kk, trivial, iter_rangeUp R.hh e3.there (Heap.get?_push_size _ rfl) hi hj, hq⟩

theorem okDown (W : Wd T mg mb C.gl) {e₁ e₂ : ME} (h₁ : OkE prog w T C k e₁) (h₂ : OkE prog w T C k e₂) : OkI prog w T C k (.down e₁ e₂) := by
  intro sc e' hc A env ρ σ Q s R ok S hw
  simp only [wpI] at hw
  have inv : ∃ p a b x q q' pos, e' = .Call (.Name "range" p) [a, b, .UnaryOp .USub (.Constant (.int 1) x q) q'] [] pos ∧ globOk sc "range" = true ∧ chkE sc e₁ a = true ∧ chkE sc e₂ b = true := by
    cases e' with
    | Call g as ks pos =>
      match g, as, ks, hc with
      | .Name y p, [a, b, .UnaryOp .USub (.Constant (.int 1) x q) q'], [], hc =>
        simp only [chkI, Bool.and_eq_true, beq_iff_eq] at hc
        obtain ⟨⟨⟨rfl, h1⟩, h2⟩, h3⟩ := hc
        exact ⟨_, _, _, _, _, _, _, rfl, h1, h2, h3⟩
    | _ => cases hc
  obtain ⟨p, a, b, x, q, q', pos, rfl, hg, hc1, hc2⟩ := inv
  refine Call_ (glob_builtin W ok S hg W.rng.1 W.rng.2 ?_)
  have hst : starEach [a, b, .UnaryOp .USub (.Constant (.int 1) x q) q'] env = [(false, eval a env), (false, eval b env), (false, eval (.UnaryOp .USub (.Constant (.int 1) x q) q') env)] := by rw [chk_notStar hc1, chk_notStar hc2]; rfl
  rw [hst]
  refine PySem.callWith_type rfl (Calls.evalArgs_plain (Calls.spliced_cons (wpAny_mono (h₁ sc _ hc1 A env ρ σ _ s R ok S hw) ?_ fun _ _ q => q)))
  rintro x1 s1 ⟨v, σ1, e1, hv, L1, hp⟩
  have S1 := S.next e1 L1
  refine Calls.spliced_cons (wpAny_mono (h₂ sc _ hc2 A env ρ σ1 _ s1 R ok S1 hp) ?_ fun _ _ q => q)
  rintro y s2 ⟨u, σ2, e2, hu, L2, i, j, rfl, rfl, hi, hj, hq⟩
  obtain ⟨t, rfl⟩ := hv
  obtain ⟨t', rfl⟩ := hu
  refine Calls.spliced_cons (UnaryOp_ (wpAny_Constant_int (PyProof.Rows.neg_int ?_)))
  refine Calls.spliced_nil (call_range_3 (by decide) ?_ (.inl (PyProof.noPylong_small (by decide))))
  have kk : ∀ b o, s2.heap.get? b = some o → (s2.heap.push { cls := .type "range", data := .fields #[.int i t, .int j t', .int (-1) (s2.toks + 1)] }).get? b = some o := fun b o e => Heap.get?_push_of_some _ e
  have e3 := (e1.trans e2).trans (.grow (tk := s2.toks + 1 + 1) kk)
  exact ⟨_, none, σ2, e3, L2.grow kk, trivial, iter_rangeDown R.hh e3.there (Heap.get?_push_size _ rfl) hi hj, hq⟩
end
end Mini
end

section
open PySem PyProof.Rows
open PySem.SeqAt

namespace Mini

/-! the block of a comprehension -/
theorem relab_eq {scope sc : Scope} {env : Env} (h : env.scope = sc) : relabel scope env = relab scope sc := by subst h; rfl

theorem relab_lookup_aux {sc : Scope} : ∀ (names : List (Str × NameKind)) (x : Str),
    (names.map fun (n, k) => if (k == NameKind.free && sc.kind == .function && sc.names.lookup n == some .cell) then (n, NameKind.cell) else (n, k)).lookup x =
      (names.lookup x).map fun k => if (k == NameKind.free && sc.kind == .function && sc.names.lookup x == some .cell) then NameKind.cell else k
  | [], _ => rfl
  | (n, k) :: r, x => by
    have ih := @relab_lookup_aux sc r x
    show List.lookup x ((if (k == NameKind.free && sc.kind == .function && sc.names.lookup n == some .cell) = true then (n, NameKind.cell) else (n, k)) :: _) = _
    cases hx : x == n with
    | true =>
      have : x = n := by simpa using hx
      subst this
      split <;> simp_all [List.lookup_cons]
    | false => split <;> simp only [List.lookup_cons, hx] <;> exact ih

theorem relab_lookup {scope sc : Scope} (x : Str) : (relab scope sc).names.lookup x = (scope.names.lookup x).map fun k => if (k == NameKind.free && sc.kind == .function && sc.names.lookup x == some .cell) then NameKind.cell else k :=
  relab_lookup_aux scope.names x

theorem relab_local {scope sc : Scope} {x : Str} (h : (relab scope sc).names.lookup x = some .local) : scope.names.lookup x = some .local := by
  rw [relab_lookup] at h
  cases e : scope.names.lookup x with
  | none => rw [e] at h; cases h
  | some k =>
    rw [e] at h
    simp only [Option.map_some, Option.some.injEq] at h
    split at h
    · cases h
    · rw [h]
theorem relab_cellish {scope sc : Scope} {x : Str} (h : (relab scope sc).names.lookup x = some .cell ∨ (relab scope sc).names.lookup x = some .free) : scope.names.lookup x = some .cell ∨ scope.names.lookup x = some .free := by
  rw [relab_lookup] at h
  cases e : scope.names.lookup x with
  | none => rw [e] at h; rcases h with h | h <;> cases h
  | some k =>
    rw [e] at h
    simp only [Option.map_some, Option.some.injEq] at h
    cases k with
    | free => exact .inr rfl
    | cell => exact .inl rfl
    | «local» => rcases h with h | h <;> simp at h
    | globalImplicit => rcases h with h | h <;> simp at h
    | globalExplicit => rcases h with h | h <;> simp at h
theorem relab_of_cell {scope sc : Scope} {x : Str} (h : scope.names.lookup x = some .cell) : (relab scope sc).names.lookup x = some .cell := by
  rw [relab_lookup, h]; rfl
theorem relab_of_local {scope sc : Scope} {x : Str} (h : scope.names.lookup x = some .local) : (relab scope sc).names.lookup x = some .local := by
  rw [relab_lookup, h]; rfl

structure Block (scope sc : Scope) (xs : List String) : Prop where
  kind : scope.kind = .function
  own : ∀ x ∈ xs, x ≠ ".0" ∧ (scope.names.lookup (Str.ofString x) = some .local ∨ scope.names.lookup (Str.ofString x) = some .cell)
  loc : ∀ n, (n, NameKind.local) ∈ scope.names → scope.names.lookup n = some .local ∧ (n = Str.ofString ".0" ∨ ∃ x ∈ xs, Str.ofString x = n)
  cel : ∀ n, (n, NameKind.cell) ∈ scope.names → scope.names.lookup n = some .cell ∧ ∃ x ∈ xs, Str.ofString x = n
  fre : ∀ n, (n, NameKind.free) ∈ scope.names → scope.names.lookup n = some .free ∧ (sc.names.lookup n = some .cell ∨ sc.names.lookup n = some .free)

theorem block_of {scope sc : Scope} {xs : List String} (h : blockOk scope sc xs = true) : Block scope sc xs := by
  unfold blockOk at h
  simp only [Bool.and_eq_true, List.all_eq_true, beq_iff_eq, Bool.or_eq_true, bne_iff_ne, ne_eq] at h
  obtain ⟨⟨h1, h2⟩, h3⟩ := h
  refine ⟨h1, h2, fun n hn => ?_, fun n hn => ?_, fun n hn => ?_⟩
  · have := h3 _ hn
    simpa using this
  · have := h3 _ hn
    simpa using this
  · have := h3 _ hn
    simpa using this

def cellsAt (env : Env) : List (Str × NameKind) → List (Str × Addr)
  | [] => []
  | (n, k) :: r => if k == .free then (match env.cells.lookup n with
    | some c => (n, c) :: cellsAt env r
    | none => cellsAt env r) else cellsAt env r

theorem cellOf_eq {env : Env} {n : Str} {c : Addr} (h : env.cells.lookup n = some c) : cellOf env n = pure c := by unfold cellOf; rw [h]

theorem closureFor_aux {env : Env} : ∀ (names : List (Str × NameKind)) (acc : List (Str × Addr)), (∀ n, (n, NameKind.free) ∈ names → ∃ c, env.cells.lookup n = some c) →
    (forIn names acc fun (x : Str × NameKind) (cs : List (Str × Addr)) => (if x.2 == NameKind.free then (do let c ← cellOf env x.1; pure (.yield ((x.1, c) :: cs))) else pure (.yield cs) : Sem (ForInStep (List (Str × Addr))))) = pure ((cellsAt env names).reverse ++ acc)
  | [], acc, _ => by rw [List.forIn_nil]; rfl
  | (n, k) :: r, acc, h => by
    rw [List.forIn_cons]
    have hr : ∀ n, (n, NameKind.free) ∈ r → ∃ c, env.cells.lookup n = some c := fun m hm => h m (List.mem_cons_of_mem _ hm)
    unfold cellsAt
    by_cases hk : k == NameKind.free
    · have hk' : k = .free := by simpa using hk
      subst hk'
      obtain ⟨c, hc⟩ := h n List.mem_cons_self
      simp only [hk, if_true, hc, cellOf_eq hc, pure_bind]
      rw [closureFor_aux r _ hr]
      simp
    · simp only [hk, Bool.false_eq_true, if_false, pure_bind]
      exact closureFor_aux r acc hr

theorem closureFor_eq {scope : Scope} {env : Env} (h : ∀ n, (n, NameKind.free) ∈ scope.names → ∃ c, env.cells.lookup n = some c) : closureFor scope env = pure (cellsAt env scope.names).reverse := by
  have := closureFor_aux scope.names [] h
  rw [List.append_nil] at this
  unfold closureFor
  rw [← this]
  simp only [bind_pure]

theorem mem_cellsAt {env : Env} : ∀ {names : List (Str × NameKind)} {n : Str} {c : Addr}, (n, c) ∈ cellsAt env names → (n, NameKind.free) ∈ names ∧ env.cells.lookup n = some c
  | [], _, _, h => by cases h
  | (m, k) :: r, n, c, h => by
    unfold cellsAt at h
    split at h
    · rename_i hk
      have hk' : k = .free := by simpa using hk
      subst hk'
      split at h
      · rename_i c' hc
        rcases List.mem_cons.mp h with e | h
        · cases e; exact ⟨List.mem_cons_self, hc⟩
        · exact ⟨List.mem_cons_of_mem _ (mem_cellsAt h).1, (mem_cellsAt h).2⟩
      · exact ⟨List.mem_cons_of_mem _ (mem_cellsAt h).1, (mem_cellsAt h).2⟩
    · exact ⟨List.mem_cons_of_mem _ (mem_cellsAt h).1, (mem_cellsAt h).2⟩
theorem cellsAt_mem {env : Env} : ∀ {names : List (Str × NameKind)} {n : Str} {c : Addr}, (n, NameKind.free) ∈ names → env.cells.lookup n = some c → (n, c) ∈ cellsAt env names
  | [], _, _, h, _ => by cases h
  | (m, k) :: r, n, c, h, e => by
    unfold cellsAt
    rcases List.mem_cons.mp h with q | h
    · cases q
      simp [e]
    · have := cellsAt_mem h e
      split
      · split
        · exact List.mem_cons_of_mem _ this
        · exact this
      · exact this

theorem cellsFrom_app : ∀ (names : List (Str × NameKind)) (n : Nat) (acc : List (Str × Addr)), cellsFrom n names acc = cellsFrom n names [] ++ acc
  | [], _, _ => rfl
  | (x, k) :: r, n, acc => by
    unfold cellsFrom
    split
    · rw [cellsFrom_app r (n + 1) ((x, n) :: acc), cellsFrom_app r (n + 1) [(x, n)], List.append_assoc]; rfl
    · exact cellsFrom_app r n acc
theorem mem_cellsFrom : ∀ {names : List (Str × NameKind)} {k : Nat} {n : Str} {c : Addr}, (n, c) ∈ cellsFrom k names [] → (n, NameKind.cell) ∈ names
  | [], _, _, _, h => by cases h
  | (x, k) :: r, j, n, c, h => by
    unfold cellsFrom at h
    split at h
    · rename_i hk
      have hk' : k = .cell := by simpa using hk
      subst hk'
      rw [cellsFrom_app] at h
      rcases List.mem_append.mp h with h | h
      · exact List.mem_cons_of_mem _ (mem_cellsFrom h)
      · rw [List.mem_singleton] at h; cases h; exact List.mem_cons_self
    · exact List.mem_cons_of_mem _ (mem_cellsFrom h)
theorem cellsFrom_mem : ∀ {names : List (Str × NameKind)} {k : Nat} {n : Str}, (n, NameKind.cell) ∈ names → ∃ c, (n, c) ∈ cellsFrom k names []
  | (x, k) :: r, j, n, h => by
    unfold cellsFrom
    rcases List.mem_cons.mp h with q | h
    · cases q
      simp only [beq_self_eq_true, if_true]
      exact ⟨j, by rw [cellsFrom_app]; exact List.mem_append_right _ List.mem_cons_self⟩
    · split
      · obtain ⟨c, hc⟩ := cellsFrom_mem (k := j + 1) h
        exact ⟨c, by rw [cellsFrom_app]; exact List.mem_append_left _ hc⟩
      · exact cellsFrom_mem h

theorem lookup_of_mem {α : Type} : ∀ {l : List (Str × α)} {n : Str} {c : α}, (n, c) ∈ l → ∃ c', l.lookup n = some c'
  | (x, y) :: r, n, c, h => by
    rw [List.lookup_cons]
    cases e : n == x with
    | true => exact ⟨y, rfl⟩
    | false =>
      rcases List.mem_cons.mp h with q | h
      · cases q; simp at e
      · exact lookup_of_mem h
theorem lookup_app {α : Type} : ∀ {l l' : List (Str × α)} {n : Str} {c : α}, (l ++ l').lookup n = some c → l.lookup n = some c ∨ l'.lookup n = some c
  | [], _, _, _, h => .inr h
  | (x, y) :: r, l', n, c, h => by
    rw [List.cons_append, List.lookup_cons] at h
    rw [List.lookup_cons]
    cases e : n == x with
    | true => rw [e] at h; exact .inl h
    | false => rw [e] at h; exact lookup_app h

section
variable {M : Model} {A : Around} {E : Value → Shared → Prop} {s : Shared}

/-- the env of a comprehension's block, with its own cells -/
def blockEnv (scope : Scope) (cl : List (Str × Addr)) (L : Nat) (env : Env) : Env := compEnvC scope (cellsFrom (L + 1) scope.names cl) L env

theorem newBlock {scope : Scope} {cl : List (Str × Addr)} {env : Env} {Q : Env → Shared → Prop}
    (hQ : ∀ cenv, { cenv with scope := relabel scope env } = blockEnv scope cl s.heap.objs.size env → cenv.locals = s.heap.objs.size →
      Q cenv { s with heap := pushCells (s.heap.push { cls := .type "dict", data := .dict #[] }) scope.names }) :
    wpAny M A (newFunctionEnv scope env.globals cl [] env.qual none .none (some env)) Q E s := by
  simp only [newFunctionEnv, Option.isSome_some, if_true]
  refine wpAny_bind (wpAny_alloc ?_)
  refine wpAny_bind (wpAny_layCells _ (fun name kind cells => by cases hkc : kind == NameKind.cell <;> simp [hkc]) _ _ _ _ ?_)
  rw [show ({ s with heap := s.heap.push { cls := .type "dict", data := .dict #[] } } : Shared).heap.objs.size = s.heap.objs.size + 1 from Heap.size_push ..]
  refine wpAny_bind ?_
  rw [List.forIn_nil]
  exact wpAny_pure (wpAny_pure (hQ _ rfl rfl))
end

/-- what the new block finds -/
theorem block_env {B : Nat} {scope sc : Scope} {xs : List String} {env : Env} {ρ ρ' : Frm} {h : Heap} (F : FR env ρ h) (ok : EnvOk B sc env) (b : Block scope sc xs)
    (h0 : ∀ x ∈ xs, ρ' x = none) (h1 : ∀ x v, ρ' x = some v → ρ x = some v) (hB : B ≤ h.objs.size) :
    EnvOk B (relab scope sc) (blockEnv scope (cellsAt env scope.names).reverse h.objs.size env) ∧
    FR (blockEnv scope (cellsAt env scope.names).reverse h.objs.size env) ρ' (pushCells (h.push { cls := .type "dict", data := .dict #[] }) scope.names) ∧
    (∀ x c, (relab scope sc).names.lookup x = some .cell → scope.names.lookup x = some .cell → (blockEnv scope (cellsAt env scope.names).reverse h.objs.size env).cells.lookup x = some c → h.objs.size ≤ c) := by
  have hE : (blockEnv scope (cellsAt env scope.names).reverse h.objs.size env).cells = cellsFrom (h.objs.size + 1) scope.names [] ++ (cellsAt env scope.names).reverse := cellsFrom_app ..
  have kp : ∀ b o, h.get? b = some o → (pushCells (h.push { cls := .type "dict", data := .dict #[] }) scope.names).get? b = some o := fun b o e => pushCells_keeps _ _ b o (Heap.get?_push_of_some _ e)
  have okC := cellsFrom_ok scope.names (h.push { cls := .type "dict", data := .dict #[] }) (h.objs.size + 1) [] ⟨fun _ _ hm => (nomatch hm), List.Pairwise.nil⟩ (by rw [Heap.size_push]; exact Nat.le_refl _)
  rw [Heap.size_push] at okC
  have kk : ∀ x, env.kindOf x = sc.names.lookup x := fun x => by unfold Env.kindOf; rw [ok.scope]
  have freeAt : ∀ n, (n, NameKind.free) ∈ scope.names → ∃ c w, env.cells.lookup n = some c ∧ h.IsCell c w := fun n hn => by
    obtain ⟨_, q⟩ := b.fre n hn
    exact F.cells n (by rw [kk]; exact q)
  have own_lookup : ∀ x c, scope.names.lookup x = some .cell → (cellsFrom (h.objs.size + 1) scope.names [] ++ (cellsAt env scope.names).reverse).lookup x = some c → (x, c) ∈ cellsFrom (h.objs.size + 1) scope.names [] := fun x c e hl => by
    rcases lookup_app hl with hl | hl
    · exact mem_of_lookup hl
    · have := (mem_cellsAt (List.mem_reverse.mp (mem_of_lookup hl))).1
      rw [(b.fre _ this).1] at e; cases e
  have free_lookup : ∀ x c, scope.names.lookup x = some .free → (cellsFrom (h.objs.size + 1) scope.names [] ++ (cellsAt env scope.names).reverse).lookup x = some c → env.cells.lookup x = some c := fun x c e hl => by
    rcases lookup_app hl with hl | hl
    · have := mem_cellsFrom (mem_of_lookup hl)
      rw [(b.cel _ this).1] at e; cases e
    · exact (mem_cellsAt (List.mem_reverse.mp (mem_of_lookup hl))).2
  have has : ∀ x, (scope.names.lookup x = some .cell ∨ scope.names.lookup x = some .free) → ∃ c, (cellsFrom (h.objs.size + 1) scope.names [] ++ (cellsAt env scope.names).reverse).lookup x = some c := fun x hx => by
    rcases hx with e | e
    · obtain ⟨c, hc⟩ := cellsFrom_mem (k := h.objs.size + 1) (mem_of_lookup e)
      exact lookup_of_mem (List.mem_append_left _ hc)
    · obtain ⟨c, w, hc, _⟩ := freeAt x (mem_of_lookup e)
      exact lookup_of_mem (List.mem_append_right _ (List.mem_reverse.mpr (cellsAt_mem (mem_of_lookup e) hc)))
  have kk' : ∀ x, (blockEnv scope (cellsAt env scope.names).reverse h.objs.size env).kindOf x = (relab scope sc).names.lookup x := fun x => by
    show (relabel scope env).names.lookup x = _
    rw [relab_eq ok.scope]
  refine ⟨⟨relab_eq ok.scope, b.kind, ok.globals, ok.builtins, hB, fun x y c hx hy => ?_, fun x c hx => ?_⟩, ⟨?_, fun x hx => ?_, fun x v hx0 hx hv => ?_⟩, fun x c _ e hl => ?_⟩
  · rw [hE] at hx hy
    have old : ∀ z, (z, c) ∈ cellsAt env scope.names → c < h.objs.size := fun z hz => by
      obtain ⟨m1, m2⟩ := mem_cellsAt hz
      obtain ⟨c', w, e1, e2⟩ := freeAt z m1
      rw [m2] at e1; cases e1
      exact e2.lt
    have nw : ∀ z, (z, c) ∈ cellsFrom (h.objs.size + 1) scope.names [] → h.objs.size + 1 ≤ c := fun z hz => (okC.empty z c hz).2
    rcases lookup_app hx with hx | hx <;> rcases lookup_app hy with hy | hy
    · exact name_of_addr okC.apart (mem_of_lookup hx) (mem_of_lookup hy)
    · exact absurd (old _ (List.mem_reverse.mp (mem_of_lookup hy))) (by have := nw _ (mem_of_lookup hx); exact Nat.not_lt.mpr (Nat.le_of_succ_le this))
    · exact absurd (old _ (List.mem_reverse.mp (mem_of_lookup hx))) (by have := nw _ (mem_of_lookup hy); exact Nat.not_lt.mpr (Nat.le_of_succ_le this))
    · exact ok.inj x y c (mem_cellsAt (List.mem_reverse.mp (mem_of_lookup hx))).2 (mem_cellsAt (List.mem_reverse.mp (mem_of_lookup hy))).2
  · rw [hE] at hx
    rcases lookup_app hx with hx | hx
    · exact Nat.le_trans hB (Nat.le_of_succ_le (okC.empty x c (mem_of_lookup hx)).2)
    · exact ok.cabove x c (mem_cellsAt (List.mem_reverse.mp (mem_of_lookup hx))).2
  · refine ⟨fun _ => none, (Heap.Ns.new h (.type "dict")).keeps (pushCells_keeps _ _), fun x v hx hk hv => ?_⟩
    rw [kk'] at hk
    have := relab_local hk
    rcases (b.loc _ (mem_of_lookup this)).2 with e | ⟨y, hy, e⟩
    · exact absurd (ofString_inj e) hx
    · rw [← ofString_inj e, h0 y hy] at hv; cases hv
  · rw [kk'] at hx
    rw [hE]
    have hx' := relab_cellish hx
    obtain ⟨c, hc⟩ := has x hx'
    rcases hx' with e | e
    · exact ⟨c, none, hc, (okC.empty x c (own_lookup x c e hc)).1⟩
    · obtain ⟨c', w, e1, e2⟩ := freeAt x (mem_of_lookup e)
      have := free_lookup x c e hc
      rw [e1] at this; cases this
      exact ⟨_, w, hc, e2.keeps kp⟩
  · rw [kk'] at hx
    rw [hE]
    have hx' := relab_cellish hx
    obtain ⟨c, hc⟩ := has _ hx'
    rcases hx' with e | e
    · obtain ⟨y, hy, e'⟩ := (b.cel _ (mem_of_lookup e)).2
      rw [← ofString_inj e', h0 y hy] at hv; cases hv
    · obtain ⟨c', w, e1, e2, e3⟩ := F.held x v hx0 (by rw [kk]; exact (b.fre _ (mem_of_lookup e)).2) (h1 _ _ hv)
      have := free_lookup _ c e hc
      rw [e1] at this; cases this
      exact ⟨_, w, hc, e2.keeps kp, e3.keeps (.grow kp)⟩
  · rw [hE] at hl
    exact Nat.le_of_succ_le (okC.empty x c (own_lookup x c e hl)).2

/-! a name is given a value -/
section
variable {prog : Program} {w : World} {A : Around} {E : Value → Shared → Prop} {s : Shared}

def DC (o : Obj) : Prop := (∃ es n, o.data = .dict es n) ∨ ∃ v, o.data = .cell v
theorem DC.seq {o : Obj} (h : DC o) : ∀ xs n, o.data ≠ .seq xs n := by
  rcases h with ⟨_, _, e⟩ | ⟨_, e⟩ <;> rw [e] <;> intro _ _ q <;> cases q

theorem tups_but {h h' : Heap} {a : Nat} (k : ∀ b o, b ≠ a → h.get? b = some o → h'.get? b = some o) (ha : ∀ o, h.get? a = some o → ∀ xs n, o.data ≠ .seq xs n) : Tups h h' := fun b o e c => by
  by_cases q : b = a
  · subst q; exact let ⟨_, _, _, d⟩ := c; absurd d (ha o e _ _)
  · exact k b o q e

theorem nsData {h : Heap} {L : Addr} {m : Str → Option Value} (n : h.Ns L m) : ∃ o es ep, h.get? L = some o ∧ o.data = .dict es ep := let ⟨o, es, ep, e1, e2, _⟩ := n; ⟨o, es, ep, e1, e2⟩

theorem store_ok {B : Nat} {sc : Scope} {env : Env} {ρ : Frm} {x : String} {v : V} {y : Value} {Q : Unit → Shared → Prop} (ok : EnvOk B sc env) (F : FR env ρ s.heap)
    (hk : sc.names.lookup (Str.ofString x) = some .local ∨ sc.names.lookup (Str.ofString x) = some .cell) (hv : VR s.heap v y)
    (h : ∀ h' tk b₀, (b₀ = env.locals ∧ sc.names.lookup (Str.ofString x) = some .local ∨ env.cells.lookup (Str.ofString x) = some b₀ ∧ sc.names.lookup (Str.ofString x) = some .cell) → (∃ o, s.heap.get? b₀ = some o ∧ DC o) →
      (∀ b o, b ≠ b₀ → s.heap.get? b = some o → h'.get? b = some o) → (∃ o, h'.get? b₀ = some o) → FR env (setv ρ x v) h' → Q () { s with heap := h', toks := tk }) :
    wpAny (model prog w) A (storeName env (Str.ofString x) y) Q E s := by
  have kk : ∀ x, env.kindOf x = sc.names.lookup x := fun x => by unfold Env.kindOf; rw [ok.scope]
  have hfk : env.scope.kind = .function := by rw [ok.scope]; exact ok.kind
  rcases hk with hl | hl
  · obtain ⟨m, hn, hm⟩ := F.locs
    obtain ⟨o, es, ep, ho, hd⟩ := nsData hn
    have hns : ∀ xs n, o.data ≠ .seq xs n := by rw [hd]; intro _ _ q; cases q
    refine wpAny_storeName_local (by rw [kk]; exact hl) hn (fun h' hn' hs' => ?_) (by rw [hfk]; rfl)
    have k : ∀ b o, b ≠ env.locals → s.heap.get? b = some o → h'.get? b = some o := fun b o hb e => hs'.extBut b o hb e
    have kt : Tups s.heap h' := tups_but k fun o' e => by rw [ho] at e; cases e; exact hns
    have kc : ∀ c z, s.heap.IsCell c z → h'.IsCell c z := fun c z hc => by
      refine hc.sameBut hs' fun q => ?_
      obtain ⟨o', e1, e2⟩ := hc
      rw [q, ho] at e1; cases e1
      rw [hd] at e2; cases e2
    obtain ⟨o', es', ep', ho', _⟩ := nsData hn'
    refine h h' _ env.locals (.inl ⟨rfl, hl⟩) ⟨o, ho, .inl ⟨_, _, hd⟩⟩ k ⟨o', ho'⟩ ⟨⟨_, hn', fun z u hz hkz hu => ?_⟩, fun z hz => ?_, fun z u hz hkz hu => ?_⟩
    · unfold setv at hu
      by_cases q : z = x
      · subst q
        simp only [if_true, Option.some.injEq] at hu
        subst hu
        exact ⟨y, by simp, hv.keeps kt⟩
      · rw [if_neg q] at hu
        obtain ⟨w', e, hw⟩ := hm z u hz hkz hu
        exact ⟨w', by simp only [if_neg (fun e' => q (ofString_inj e'))]; exact e, hw.keeps kt⟩
    · obtain ⟨c, z', e1, e2⟩ := F.cells z hz
      exact ⟨c, z', e1, kc _ _ e2⟩
    · have hne : z ≠ x := fun q => by subst q; rw [kk, hl] at hkz; rcases hkz with q | q <;> cases q
      rw [setv, if_neg hne] at hu
      obtain ⟨c, z', e1, e2, e3⟩ := F.held z u hz hkz hu
      exact ⟨c, z', e1, kc _ _ e2, e3.keeps kt⟩
  · obtain ⟨c, z, hc, hcell⟩ := F.cells (Str.ofString x) (.inl (by rw [kk]; exact hl))
    obtain ⟨o, ho, hd⟩ := id hcell
    have hns : ∀ xs n, o.data ≠ .seq xs n := by rw [hd]; intro _ _ q; cases q
    refine wpAny_storeName_cell hfk (by rw [kk]; exact hl) hc hcell fun h' hc' hs' => ?_
    have k : ∀ b o, b ≠ c → s.heap.get? b = some o → h'.get? b = some o := fun b o hb e => hs'.extBut b o hb e
    have kt : Tups s.heap h' := tups_but k fun o' e => by rw [ho] at e; cases e; exact hns
    obtain ⟨o', ho', _⟩ := id hc'
    obtain ⟨m, hn, hm⟩ := F.locs
    refine h h' _ c (.inr ⟨hc, hl⟩) ⟨o, ho, .inr ⟨_, hd⟩⟩ k ⟨o', ho'⟩ ⟨⟨m, hn.sameBut hs' ?_, fun z u hz hkz hu => ?_⟩, fun z hz => ?_, fun z u hz hkz hu => ?_⟩
    · obtain ⟨o1, es, ep, ho1, hd1⟩ := nsData hn
      intro q
      rw [q, ho] at ho1; cases ho1
      rw [hd] at hd1; cases hd1
    · have hne : z ≠ x := fun q => by subst q; rw [kk, hl] at hkz; cases hkz
      rw [setv, if_neg hne] at hu
      obtain ⟨w', e, hw⟩ := hm z u hz hkz hu
      exact ⟨w', e, hw.keeps kt⟩
    · by_cases q : z = Str.ofString x
      · subst q; exact ⟨c, some y, hc, hc'⟩
      · obtain ⟨c', z', e1, e2⟩ := F.cells z hz
        exact ⟨c', z', e1, e2.sameBut hs' fun e => q (ok.inj _ _ c (e ▸ e1) hc)⟩
    · unfold setv at hu
      by_cases q : z = x
      · subst q
        simp only [if_true, Option.some.injEq] at hu
        subst hu
        exact ⟨c, y, hc, hc', hv.keeps kt⟩
      · rw [if_neg q] at hu
        obtain ⟨c', z', e1, e2, e3⟩ := F.held z u hz hkz hu
        exact ⟨c', z', e1, e2.sameBut hs' (fun e => q (ofString_inj (ok.inj _ _ c (e ▸ e1) hc))), e3.keeps kt⟩

theorem assign_ok {B : Nat} {sc : Scope} {env : Env} {ρ : Frm} {x : String} {p : Pos} {v : V} {y : Value} {Q : Unit → Shared → Prop} (ok : EnvOk B sc env) (F : FR env ρ s.heap)
    (hk : sc.names.lookup (Str.ofString x) = some .local ∨ sc.names.lookup (Str.ofString x) = some .cell) (hv : VR s.heap v y)
    (h : ∀ h' tk b₀, (b₀ = env.locals ∧ sc.names.lookup (Str.ofString x) = some .local ∨ env.cells.lookup (Str.ofString x) = some b₀ ∧ sc.names.lookup (Str.ofString x) = some .cell) → (∃ o, s.heap.get? b₀ = some o ∧ DC o) →
      (∀ b o, b ≠ b₀ → s.heap.get? b = some o → h'.get? b = some o) → (∃ o, h'.get? b₀ = some o) → FR env (setv ρ x v) h' → Q () { s with heap := h', toks := tk }) :
    wpAny (model prog w) A (assign (.Name (Str.ofString x) p) env y) Q E s := wpAny_assign_Name (store_ok ok F hk hv h)
end
end Mini
end

section
open PySem PyProof.Rows
open PySem.SeqAt

namespace Mini

theorem FR.weaken {env : Env} {ρ ρ' : Frm} {h : Heap} (F : FR env ρ h) (k : ∀ x v, ρ' x = some v → ρ x = some v) : FR env ρ' h :=
  ⟨let ⟨m, n, q⟩ := F.locs; ⟨m, n, fun x v a b c => q x v a b (k _ _ c)⟩, F.cells, fun x v a b c => F.held x v a b (k _ _ c)⟩

def Plain (o : Obj) : Prop := (∀ xs n, o.data ≠ .seq xs n) ∧ (∀ v, o.data ≠ .cell v) ∧ ∀ es n, o.data ≠ .dict es n
theorem Plain.apart {o o' : Obj} (a : Plain o) (b : DC o') : o ≠ o' := fun e => by
  subst e
  rcases b with ⟨_, _, e⟩ | ⟨_, e⟩
  · exact a.2.2 _ _ e
  · exact a.2.1 _ e

theorem FR.but {env : Env} {ρ : Frm} {h h' : Heap} {I : Nat} (F : FR env ρ h) (k : ∀ b o, b ≠ I → h.get? b = some o → h'.get? b = some o) (hI : ∀ o, h.get? I = some o → Plain o) : FR env ρ h' := by
  have kt : Tups h h' := tups_but k fun o e => (hI o e).1
  have kc : ∀ c w, h.IsCell c w → h'.IsCell c w := fun c w ⟨o, ho, hd⟩ => ⟨o, k _ _ (fun q => (hI o (q ▸ ho)).2.1 _ hd) ho, hd⟩
  refine ⟨?_, fun x hx => ?_, fun x v hx hk hv => ?_⟩
  · obtain ⟨m, ⟨o, es, ep, ho, hd, r⟩, hm⟩ := F.locs
    refine ⟨m, ⟨o, es, ep, k _ _ (fun q => (hI o (q ▸ ho)).2.2 _ _ hd) ho, hd, r⟩, fun x v hx hk hv => ?_⟩
    obtain ⟨w, e, hw⟩ := hm x v hx hk hv
    exact ⟨w, e, hw.keeps kt⟩
  · obtain ⟨c, w, e, hc⟩ := F.cells x hx
    exact ⟨c, w, e, kc _ _ hc⟩
  · obtain ⟨c, w, e, hc, hw⟩ := F.held x v hx hk hv
    exact ⟨c, w, e, kc _ _ hc, hw.keeps kt⟩

theorem LR.but {σ : Sto} {h h' : Heap} {I : Nat} (L : LR σ h) (k : ∀ b o, b ≠ I → h.get? b = some o → h'.get? b = some o) (hI : ∀ o, h.get? I = some o → ∀ xs n, o.data ≠ .seq xs n) : LR σ h' := fun a xs e => by
  obtain ⟨ws, n, hl, hv, hz⟩ := L a xs e
  exact ⟨ws, n, k _ _ (fun q => hI _ (q ▸ hl) _ _ rfl) hl, hv.keeps (tups_but k hI), hz⟩

theorem Ext.but {D : Nat → Prop} {B : Nat} {σ σ' : Sto} {s₀ s : Shared} {h' : Heap} {tk : Nat} {I : Nat} (x : Ext D B σ σ' s₀ s) (k : ∀ b o, b ≠ I → s.heap.get? b = some o → h'.get? b = some o) (h0 : s₀.heap.get? I = Option.none) :
    Ext D B σ σ' s₀ { s with heap := h', toks := tk } := by
  have ne : ∀ a o, s₀.heap.get? a = some o → a ≠ I := fun a o e q => by subst q; rw [h0] at e; cases e
  exact ⟨fun a o e c d => k a o (ne a o e) (x.keep a o e c d), x.none, fun a o e => let ⟨o', e'⟩ := x.there a o e; ⟨o', k a o' (ne a o e) e'⟩, x.gens, x.os⟩

/-- a comprehension under way -/
structure CS (T : Heap) (cenv : Env) (s₀ : Shared) (σ₀ : Sto) (D : Addr) (H : List (Addr × Obj)) (ρ : Frm) (acc : List V) (σ : Sto) (s : Shared) : Prop where
  b0 : ∀ a o, T.get? a = some o → s₀.heap.get? a = some o
  st : St T cenv ρ σ s
  ext : Ext N0 T.objs.size σ₀ σ s₀ s
  acc : ∃ ws n, IsL s.heap D (List.toArray ws) n ∧ VRs s.heap acc ws ∧ acc.length ≤ LIM
  hid : σ D = none
  held : ∀ p ∈ H, s.heap.get? p.1 = some p.2 ∧ Plain p.2

section
variable {T : Heap} {cenv : Env} {s₀ : Shared} {σ₀ : Sto} {D : Addr} {H : List (Addr × Obj)} {ρ ρ' : Frm} {acc : List V} {σ σ' : Sto} {s s' : Shared}

theorem CS.weaken (x : CS T cenv s₀ σ₀ D H ρ acc σ s) (k : ∀ x v, ρ' x = some v → ρ x = some v) : CS T cenv s₀ σ₀ D H ρ' acc σ s :=
  ⟨x.b0, ⟨x.st.base, x.st.lists, x.st.frame.weaken k⟩, x.ext, x.acc, x.hid, x.held⟩

theorem CS.next (x : CS T cenv s₀ σ₀ D H ρ acc σ s) (e : Ext N0 T.objs.size σ σ' s s') (L : LR σ' s'.heap) : CS T cenv s₀ σ₀ D H ρ acc σ' s' := by
  obtain ⟨ws, n, hl, hv, hz⟩ := x.acc
  refine ⟨x.b0, x.st.next e L, x.ext.trans e, ⟨ws, n, e.keep _ _ hl (.inl x.hid) id, hv.keeps (e.tups0 x.st.lists), hz⟩, e.none _ _ hl x.hid, fun p hp => ?_⟩
  obtain ⟨h1, h2⟩ := x.held p hp
  exact ⟨e.keep _ _ h1 (.inl (x.st.lists.none_of h1 (.inr h2.1))) id, h2⟩

/-- one object that no list is, and that is newer than the start, has changed -/
theorem CS.chg {h' : Heap} {tk : Nat} {I : Nat} (x : CS T cenv s₀ σ₀ D H ρ acc σ s) (k : ∀ b o, b ≠ I → s.heap.get? b = some o → h'.get? b = some o) (hI : ∀ o, s.heap.get? I = some o → ∀ xs n, o.data ≠ .seq xs n)
    (h0 : s₀.heap.get? I = none) (hH : ∀ p ∈ H, p.1 ≠ I) (F : FR cenv ρ' h') : CS T cenv s₀ σ₀ D H ρ' acc σ { s with heap := h', toks := tk } := by
  obtain ⟨ws, n, hl, hv, hz⟩ := x.acc
  refine ⟨x.b0, ⟨fun a o e => k a o (fun q => ?_) (x.st.base a o e), x.st.lists.but k hI, F⟩, x.ext.but k h0, ⟨ws, n, k _ _ (fun q => hI _ (q ▸ hl) _ _ rfl) hl, hv.keeps (tups_but k hI), hz⟩, x.hid, fun p hp => ?_⟩
  · have := x.b0 a o e
    rw [q, h0] at this; cases this
  · obtain ⟨h1, h2⟩ := x.held p hp
    exact ⟨k _ _ (hH p hp) h1, h2⟩

/-- the hidden list grows -/
theorem CS.snoc {h' : Heap} {n' : Nat} {v : V} {y : Value} {ws : List Value} (x : CS T cenv s₀ σ₀ D H ρ acc σ s) (hv : VRs s.heap acc ws) (hy : VR s.heap v y) (hz : acc.length < LIM) (hl' : IsL h' D (List.toArray (ws ++ [y])) n')
    (k : ∀ b o, b ≠ D → s.heap.get? b = some o → h'.get? b = some o) (h0 : s₀.heap.get? D = none) : CS T cenv s₀ σ₀ D H ρ (acc ++ [v]) σ { s with heap := h' } := by
  obtain ⟨ws', n, hl, _, _⟩ := x.acc
  have hD : ∀ o, s.heap.get? D = some o → o.data = .seq ws'.toArray n ∧ o.cls = .type "list" := fun o e => by
    have hl : s.heap.get? D = some _ := hl
    rw [hl] at e; cases e; exact ⟨rfl, rfl⟩
  have kt : Tups s.heap h' := fun a o e c => k a o (fun q => by subst q; have := (hD o e).2; rw [c.1] at this; exact absurd this (by decide)) e
  refine ⟨x.b0, ⟨fun a o e => k a o (fun q => ?_) (x.st.base a o e), fun a xs e => ?_, x.st.frame.keeps kt fun a o e hd => k a o (fun q => ?_) e⟩, x.ext.but k h0, ⟨_, n', hl', ?_, by rw [List.length_append, List.length_singleton]; exact hz⟩, x.hid, fun p hp => ?_⟩
  · have := x.b0 a o e
    rw [q, h0] at this; cases this
  · obtain ⟨us, m, h1, h2, h3⟩ := x.st.lists a xs e
    exact ⟨us, m, k _ _ (fun q => by rw [q, x.hid] at e; cases e) h1, h2.keeps kt, h3⟩
  · subst q; exact hd _ _ (hD o e).1
  · exact (hv.append (.single hy)).keeps kt
  · obtain ⟨h1, h2⟩ := x.held p hp
    exact ⟨k _ _ (fun q => h2.1 _ _ (hD _ (q ▸ h1)).1) h1, h2⟩
end

section
variable {prog : Program} {w : World} {A : Around} {R : Result → Shared → Prop} {T : Heap}

def Noted (prog : Program) (w : World) (A : Around) (env : Env) (R : Result → Shared → Prop) : Value → Shared → Prop := notedBy (model prog w) A env fun e s' => R (.error e) s'

def TurnRule (prog : Program) (w : World) (A : Around) (code : Code) (it : Addr) (x : Str) (px : Pos) (cenv : Env) (Bd : (Shared → Prop) → Shared → Prop) (R : Result → Shared → Prop) : Prop :=
  ∀ (Inv : Nat → Shared → Prop), (∀ n s, Inv n s → wpAny (model prog w) A (pyNext (.ref it)) (fun r s₁ => match r with
      | none => R (.ok .next) s₁
      | some v => wpAny (model prog w) A (assign (.Name x px) cenv v) (fun _ s₂ => Bd (fun s₃ => ∃ m, m < n ∧ Inv m s₃) s₂) (Noted prog w A cenv R) s₁) (Noted prog w A cenv R) s) →
    ∀ n s, Inv n s → codeAny (model prog w) A code R s

theorem comp_loop {code : Code} {I : Addr} {x : String} {px : Pos} {cenv : Env} {sc : Scope} {Bd : (Shared → Prop) → Shared → Prop} {xs : List V} {src : Option Nat} {Sit : Nat → Heap → Prop} {s₀ : Shared} {σ₀ : Sto} {D : Addr} {H : List (Addr × Obj)} {ρ : Frm}
    {step : V → Sto → List V → (Sto → List V → Prop) → Prop} {K : Sto → List V → Prop} {Lb : Nat → List V → Prop}
    (hrule : TurnRule prog w A code I (Str.ofString x) px cenv Bd R) (W : Src prog w A xs src I Sit) (ok : EnvOk T.objs.size sc cenv) (hρ : ρ x = none)
    (hx : sc.names.lookup (Str.ofString x) = some .local ∨ sc.names.lookup (Str.ofString x) = some .cell)
    (fL : s₀.heap.get? cenv.locals = none) (fC : ∀ c, sc.names.lookup (Str.ofString x) = some .cell → cenv.cells.lookup (Str.ofString x) = some c → s₀.heap.get? c = none) (fI : s₀.heap.get? I = none) (hH : ∀ p ∈ H, p.1 ≠ I)
    (hbody : ∀ i v acc σ s oI (P : Shared → Prop) K, xs[i]? = some v → s.heap.get? I = some oI → Lb i acc → CS T cenv s₀ σ₀ D ((I, oI) :: H) (setv ρ x v) acc σ s → step v σ acc K →
      (∀ σ' acc' s', CS T cenv s₀ σ₀ D ((I, oI) :: H) (setv ρ x v) acc' σ' s' → Lb (i + 1) acc' → K σ' acc' → P s') → Bd P s)
    {acc : List V} {σ : Sto} {s : Shared} (h1 : CS T cenv s₀ σ₀ D H ρ acc σ s) (h2 : Sit 0 s.heap) (h3 : stable src xs σ) (h4 : Lb 0 acc) (h5 : compL step (stable src xs) K xs σ acc)
    (hR : ∀ σ' acc' s', CS T cenv s₀ σ₀ D H ρ acc' σ' s' → K σ' acc' → R (.ok .next) s') : codeAny (model prog w) A code R s := by
  refine hrule (fun n s' => ∃ i acc σ, i ≤ xs.length ∧ n = xs.length - i ∧ CS T cenv s₀ σ₀ D H ρ acc σ s' ∧ Sit i s'.heap ∧ stable src xs σ ∧ Lb i acc ∧ compL step (stable src xs) K (xs.drop i) σ acc) ?_ xs.length s
    ⟨0, acc, σ, Nat.zero_le _, rfl, h1, h2, h3, h4, by simpa using h5⟩
  rintro n s' ⟨i, acc, σ, hi, rfl, C, hst, hsb, hlb, hL⟩
  have plI : ∀ i h, Sit i h → ∀ o, h.get? I = some o → Plain o := fun i h q o e => by
    obtain ⟨o', e', _, a, b, c⟩ := W.own i h q
    rw [e] at e'; cases e'
    exact ⟨a, b, c⟩
  by_cases hlt : i < xs.length
  · have hv : xs[i]? = some xs[i] := List.getElem?_eq_getElem hlt
    refine W.item i _ s' _ _ σ hv hst C.st.lists hsb fun y h' tk hy hst' k => ?_
    dsimp only
    have C1 : CS T cenv s₀ σ₀ D H ρ acc σ { s' with heap := h', toks := tk } := C.chg k (fun o e => (plI _ _ hst o e).1) fI hH (C.st.frame.but k (plI _ _ hst))
    refine assign_ok ok C1.st.frame hx hy fun h'' tk' b₀ hb₀ ⟨ob, hob, hdc⟩ k' ⟨ob', hob'⟩ F' => ?_
    have hIb : I ≠ b₀ := fun q => by
      subst q
      exact (plI _ _ hst' _ hob).apart hdc rfl
    have f0 : s₀.heap.get? b₀ = none := by
      rcases hb₀ with ⟨rfl, _⟩ | ⟨a, b⟩
      · exact fL
      · exact fC _ b a
    have C2 : CS T cenv s₀ σ₀ D H (setv ρ x xs[i]) acc σ { s' with heap := h'', toks := tk' } := C1.chg (tk := tk') k' (fun o e => by
      have hob : h'.get? b₀ = some ob := hob
      have e : h'.get? b₀ = some o := e
      rw [hob] at e; cases e; exact hdc.seq) f0 (fun p hp q => by
        obtain ⟨a, b⟩ := C1.held p hp
        have a : h'.get? p.1 = some p.2 := a
        have hob : h'.get? b₀ = some ob := hob
        rw [q, hob] at a; cases a
        exact b.apart hdc rfl) F'
    have hst2 : Sit (i + 1) h'' := W.frame _ _ _ hst' fun o e => k' _ _ hIb e
    obtain ⟨oI, eI, _, p1, p2, p3⟩ := W.own _ _ hst2
    rw [List.drop_eq_getElem_cons hlt] at hL
    refine hbody i _ acc σ _ oI _ _ hv eI hlb ⟨C2.b0, C2.st, C2.ext, C2.acc, C2.hid, fun p hp => ?_⟩ hL fun σ' acc' s'' C3 hlb' hK => ?_
    · rcases List.mem_cons.mp hp with rfl | hp
      · exact ⟨eI, p1, p2, p3⟩
      · exact C2.held p hp
    · have C4 : CS T cenv s₀ σ₀ D H ρ acc' σ' s'' := ⟨C3.b0, (C3.weaken (ρ' := ρ) fun z u e => by
        unfold setv
        by_cases q : z = x
        · subst q; rw [hρ] at e; cases e
        · rw [if_neg q]; exact e).st, C3.ext, C3.acc, C3.hid, fun p hp => C3.held p (List.mem_cons_of_mem _ hp)⟩
      refine ⟨xs.length - (i + 1), by omega, i + 1, acc', σ', hlt, rfl, C4, W.frame _ _ _ hst2 fun o e => ?_, hK.1, hlb', hK.2⟩
      have e : h''.get? I = some o := e
      rw [eI] at e; cases e
      exact (C3.held (I, oI) List.mem_cons_self).1
  · have hi' : i = xs.length := Nat.le_antisymm hi (Nat.not_lt.mp hlt)
    subst hi'
    refine W.done s' _ _ σ hst C.st.lists hsb fun h' tk k => ?_
    rw [List.drop_length] at hL
    exact hR σ acc _ (C.chg k (fun o e => (plI _ _ hst o e).1) fI hH (C.st.frame.but k (plI _ _ hst))) hL
end
end Mini
end

section
open PySem PyProof.Rows
open PySem.SeqAt

namespace Mini
section
variable {prog : Program} {w : World} {A : Around} {R : Result → Shared → Prop} {T : Heap}

/-- tests, the element, and it goes to the list -/
def LastBd (prog : Program) (w : World) (A : Around) (elt : Expr) (ifs : List Expr) (D : Addr) (cenv : Env) (R : Result → Shared → Prop) (P : Shared → Prop) (s : Shared) : Prop :=
  wpAny (model prog w) A (forIn ifs true fun c r => if r = true then do let ok ← isTrue c cenv (eval c cenv); pure (ForInStep.yield ok) else pure (ForInStep.yield r)) (fun ok s₃ =>
    if ok = true then wpAny (model prog w) A (eval elt cenv) (fun x s₄ => wpAny (model prog w) A (call (.builtin "list.append") [.ref D, x]) (fun _ s₅ => P s₅) (Noted prog w A cenv R) s₄) (Noted prog w A cenv R) s₃
    else P s₃) (Noted prog w A cenv R) s

/-- the inner clause -/
def MidBd (prog : Program) (w : World) (A : Around) (e : Expr) (it2 : Expr) (D : Addr) (cenv : Env) (R : Result → Shared → Prop) (P : Shared → Prop) (s : Shared) : Prop :=
  wpAny (model prog w) A (eval it2 cenv) (fun x s₁ => wpAny (model prog w) A (pyIter x) (fun it s₂ => codeAny (model prog w) A (.compStart e 1 it (.ref D) cenv) (fun r s₃ => match r with
    | .ok _ => P s₃
    | .error x => cameBackBy (model prog w) A cenv (Noted prog w A cenv R) x s₃) s₂) (Noted prog w A cenv R) s₁) (Noted prog w A cenv R) s

theorem rule_one {elt iter : Expr} {ifs : List Expr} {scope : Scope} {pos px : Pos} {I D : Addr} {x : Str} {cenv : Env} :
    TurnRule prog w A (.compLoop (.ListComp elt [⟨.Name x px, iter, ifs, 0⟩] scope pos) 0 (.ref I) (.ref D) cenv) I x px cenv (LastBd prog w A elt ifs D cenv R) R :=
  fun Inv turn n s h => codeAny_compLoop_tests Inv turn n h

theorem compTurn_outer (elt t1 i1 t2 i2 : Expr) (ifs : List Expr) (scope : Scope) (pos : Pos) (it acc : Value) (env : Env) :
    compTurn (.ListComp elt [⟨t1, i1, [], 0⟩, ⟨t2, i2, ifs, 0⟩] scope pos) 0 it acc env = (do
      standAt i1.pos
      match ← pyNext it with
      | none => pure (.done .next)
      | some v =>
        letOwnedTupleGo t1 it v
        assign t1 env v
        let x ← eval i2 env
        standAt i2.pos
        let x ← foldedSetIterable i2 env x
        let _ ← runOwn (.compStart (.ListComp elt [⟨t1, i1, [], 0⟩, ⟨t2, i2, ifs, 0⟩] scope pos) 1 (← holding [x] (pyIter x)) acc env) env
        again (.compLoop (.ListComp elt [⟨t1, i1, [], 0⟩, ⟨t2, i2, ifs, 0⟩] scope pos) 0 it acc env)) := by rfl

theorem rule_outer {elt i1 i2 : Expr} {ifs : List Expr} {scope : Scope} {pos px py : Pos} {I D : Addr} {x y : Str} {cenv : Env} (hs : ∀ z, foldedSetIterable i2 cenv z = pure z) :
    TurnRule prog w A (.compLoop (.ListComp elt [⟨.Name x px, i1, [], 0⟩, ⟨.Name y py, i2, ifs, 0⟩] scope pos) 0 (.ref I) (.ref D) cenv) I x px cenv (MidBd prog w A (.ListComp elt [⟨.Name x px, i1, [], 0⟩, ⟨.Name y py, i2, ifs, 0⟩] scope pos) i2 D cenv R) R := by
  intro Inv turn n s h
  refine codeAny_loop rfl Inv (fun n s hI => ?_) n h
  show wpAny _ A ((compTurn (.ListComp elt [⟨.Name x px, i1, [], 0⟩, ⟨.Name y py, i2, ifs, 0⟩] scope pos) 0 (.ref I) (.ref D) cenv).onRaise (fun x => do noteFrame x cenv; theTreesLotGoes x)) _ _ s
  refine wpAny_noted ?_
  rw [compTurn_outer]
  refine wpAny_bind (wpAny_standAt (wpAny_bind (wpAny_mono (turn n s hI) (fun r s₁ h₁ => ?_) fun _ _ h' => h')))
  cases r with
  | none => exact wpAny_pure h₁
  | some v =>
    refine wpAny_bind (wpAny_of_eq (show letOwnedTupleGo (.Name x px) (.ref I) v = pure () from rfl) ?_)
    refine wpAny_bind (wpAny_mono h₁ (fun _ s₂ h₂ => ?_) fun _ _ h' => h')
    refine wpAny_bind (wpAny_mono h₂ (fun z s₃ h₃ => wpAny_bind (wpAny_standAt (wpAny_bind (wpAny_of_eq (hs z) (wpAny_bind (wpAny_holding (wpAny_mono h₃ (fun it s₄ h₄ => ?_) fun _ _ h' => h'))))))) fun _ _ h' => h')
    refine wpAny_bind (wpAny_runOwn (codeAny_mono h₄ fun r s₅ h₅ => ?_))
    cases r with
    | ok f => exact wpAny_pure ⟨rfl, h₅⟩
    | error x => exact h₅

theorem compTurn_inner (elt t1 i1 t2 i2 : Expr) (ifs : List Expr) (scope : Scope) (pos : Pos) (it acc : Value) (env : Env) :
    compTurn (.ListComp elt [⟨t1, i1, [], 0⟩, ⟨t2, i2, ifs, 0⟩] scope pos) 1 it acc env = (do
      standAt i2.pos
      match ← pyNext it with
      | none => pure (.done .next)
      | some v =>
        letOwnedTupleGo t2 it v
        assign t2 env v
        let mut ok := true
        for c in ifs do
          if ok then ok ← isTrue c env (eval c env)
        if ok then
          (do let _ ← call (.builtin "list.append") [acc, ← eval elt env])
        again (.compLoop (.ListComp elt [⟨t1, i1, [], 0⟩, ⟨t2, i2, ifs, 0⟩] scope pos) 1 it acc env)) := by rfl

theorem rule_inner {elt i1 i2 : Expr} {ifs : List Expr} {scope : Scope} {pos px py : Pos} {I D : Addr} {x y : Str} {cenv : Env} :
    TurnRule prog w A (.compLoop (.ListComp elt [⟨.Name x px, i1, [], 0⟩, ⟨.Name y py, i2, ifs, 0⟩] scope pos) 1 (.ref I) (.ref D) cenv) I y py cenv (LastBd prog w A elt ifs D cenv R) R := by
  intro Inv turn n s h
  refine codeAny_loop rfl Inv (fun n s hI => ?_) n h
  show wpAny _ A ((compTurn (.ListComp elt [⟨.Name x px, i1, [], 0⟩, ⟨.Name y py, i2, ifs, 0⟩] scope pos) 1 (.ref I) (.ref D) cenv).onRaise (fun x => do noteFrame x cenv; theTreesLotGoes x)) _ _ s
  refine wpAny_noted ?_
  rw [compTurn_inner]
  refine wpAny_bind (wpAny_standAt (wpAny_bind (wpAny_mono (turn n s hI) (fun r s₁ h₁ => ?_) fun _ _ h' => h')))
  cases r with
  | none => exact wpAny_pure h₁
  | some v =>
    refine wpAny_bind (wpAny_of_eq (show letOwnedTupleGo (.Name y py) (.ref I) v = pure () from rfl) ?_)
    refine wpAny_bind (wpAny_mono h₁ (fun _ s₂ h₂ => wpAny_bind (wpAny_mono h₂ (fun ok s₃ h₃ => ?_) fun _ _ h' => h')) fun _ _ h' => h')
    cases ok with
    | false => exact wpAny_pure ⟨rfl, h₃⟩
    | true =>
      exact wpAny_bind (wpAny_bind (wpAny_mono h₃ (fun x s₄ h₄ => wpAny_bind (wpAny_mono h₄ (fun _ s₅ h₅ => wpAny_pure (wpAny_pure ⟨rfl, h₅⟩)) fun _ _ h' => h')) fun _ _ h' => h'))

theorem start_inner {elt i1 i2 : Expr} {ifs : List Expr} {t1 t2 : Expr} {scope : Scope} {pos : Pos} {it acc : Value} {env : Env} {s : Shared}
    (h0 : codeAny (model prog w) A (.compLoop (.ListComp elt [⟨t1, i1, [], 0⟩, ⟨t2, i2, ifs, 0⟩] scope pos) 1 it acc env) R s)
    (h : wpAny (model prog w) A (pyIter it) (fun it' s' => codeAny (model prog w) A (.compLoop (.ListComp elt [⟨t1, i1, [], 0⟩, ⟨t2, i2, ifs, 0⟩] scope pos) 1 it' acc env) R s') (notedBy (model prog w) A env fun x s' => R (.error x) s') s) :
    codeAny (model prog w) A (.compStart (.ListComp elt [⟨t1, i1, [], 0⟩, ⟨t2, i2, ifs, 0⟩] scope pos) 1 it acc env) R s := by
  refine codeAny_of_tree ?_
  show wpAny _ _ ((compStart (.ListComp elt [⟨t1, i1, [], 0⟩, ⟨t2, i2, ifs, 0⟩] scope pos) 1 it acc env).onRaise (fun x => do noteFrame x env; standAt theWindowsPlace)) _ _ s
  refine wpAny_notedAt ?_
  unfold compStart
  show wpAny _ _ (ask >>= _) _ _ s
  refine wpAny_bind (wpAny_askSetting (wpAny_ite ?_))
  split
  · first
      | exact wpAny_bind (wpAny_pure (wpAny_pure (And.intro rfl h0)))
      | exact wpAny_pure (And.intro rfl h0)
  · first
      | exact wpAny_bind (wpAny_rule (wpAny_bind (wpAny_standAt (wpAny_bind (wpAny_mono h (fun it' s' h' => wpAny_pure (And.intro rfl h')) fun _ _ x => x)))))
      | (refine wpAny_bind (wpAny_rule ?_); show wpAny _ _ (standAt i2.pos >>= _) _ _ s; exact wpAny_bind (wpAny_standAt (wpAny_bind (wpAny_mono h (fun it' s' h' => wpAny_pure (And.intro rfl h')) fun _ _ x => x))))
end
end Mini
end

section
open PySem PyProof.Rows
open PySem.SeqAt

namespace Mini

theorem chkC_inv {sc : Scope} {c : MT} {ifs : List Expr} (h : chkC sc c ifs = true) : (c = .tt ∧ ifs = []) ∨ ∃ e, ifs = [e] ∧ chkT sc c e = true := by
  unfold chkC at h
  split at h <;> first | exact .inl ⟨rfl, rfl⟩ | exact .inr ⟨_, rfl, h⟩ | cases h

theorem chkI_folded {sc : Scope} {i : MI} {e : Expr} (h : chkI sc i e = true) (env : Env) (x : Value) : foldedSetIterable e env x = pure x := by
  cases e <;> first | rfl | (cases i <;> cases h)

theorem setv_delv (ρ : Frm) (x : String) (v : V) : setv (delv ρ x) x v = setv ρ x v := by
  funext z
  unfold setv delv
  split <;> simp_all
theorem setv_delv2 (ρ : Frm) {x y : String} (h : x ≠ y) (v u : V) : setv (setv (delv (delv ρ y) x) x v) y u = setv (setv ρ x v) y u := by
  funext z
  unfold setv delv
  split
  · rfl
  · split <;> simp_all

section
variable {prog : Program} {w : World} {A : Around} {R : Result → Shared → Prop} {T : Heap} {C : Cx} {k : Nat} {mg mb : Str → Option Value}

theorem last_body {sc : Scope} {cenv : Env} {s₀ : Shared} {σ₀ : Sto} {D : Addr} {H : List (Addr × Obj)} {ρ : Frm} {acc : List V} {σ : Sto} {s : Shared} {elt : ME} {c : MT} {elt' : Expr} {ifs : List Expr} {K K' : Sto → List V → Prop} {P : Shared → Prop}
    (Rr : Rm A k) (ok : EnvOk T.objs.size sc cenv) (hc : OkT prog w T C k c) (he : OkE prog w T C k elt) (hck : chkC sc c ifs = true) (hce : chkE sc elt elt' = true) (f0 : s₀.heap.get? D = none)
    (S : CS T cenv s₀ σ₀ D H ρ acc σ s) (hw : wpT C c ρ σ fun t σ' => if t = true then wpE C elt ρ σ' fun w σ'' => K' σ'' (acc ++ [w]) else K σ' acc) (hK : ∀ σ'' w, K' σ'' (acc ++ [w]) → acc.length < LIM ∧ K σ'' (acc ++ [w]))
    (hP : ∀ σ' acc' s', CS T cenv s₀ σ₀ D H ρ acc' σ' s' → acc'.length ≤ acc.length + 1 → K σ' acc' → P s') : LastBd prog w A elt' ifs D cenv R P s := by
  have go : ∀ t σ1 s1, CS T cenv s₀ σ₀ D H ρ acc σ1 s1 → (if t = true then wpE C elt ρ σ1 fun w σ'' => K' σ'' (acc ++ [w]) else K σ1 acc) →
      (if t = true then wpAny (model prog w) A (eval elt' cenv) (fun x s₄ => wpAny (model prog w) A (call (.builtin "list.append") [.ref D, x]) (fun _ s₅ => P s₅) (Noted prog w A cenv R) s₄) (Noted prog w A cenv R) s1 else P s1) := by
    intro t σ1 s1 S1 h
    cases t with
    | false => exact hP _ _ _ S1 (Nat.le_succ _) h
    | true =>
      simp only [if_true] at h ⊢
      refine wpAny_mono (he sc _ hce A cenv ρ σ1 _ s1 Rr ok S1.st h) ?_ fun _ _ q => q.elim
      rintro x s2 ⟨v, σ2, e2, hv, L2, hk⟩
      have S2 := S1.next e2 L2
      obtain ⟨hlt, hk⟩ := hK _ _ hk
      obtain ⟨ws, n, hl, hvs, hz⟩ := S2.acc
      refine append_at (n := n) hl (fun h' hs' hl' => ?_) (by rw [List.size_toArray, ← hvs.length]; exact limOk hz)
      refine hP _ _ _ (S2.snoc hvs hv hlt (n' := n + 1) (hl'.trans (by rw [List.push_toArray])) (fun b o hb e => hs'.extBut b o hb e) f0) (by rw [List.length_append]; exact Nat.le_refl _) hk
  unfold LastBd
  rcases chkC_inv hck with ⟨rfl, rfl⟩ | ⟨e, rfl, hce⟩
  · refine wpAny_tests_nil ?_
    simp only [wpT] at hw
    exact go true σ s S hw
  · refine wpAny_tests_one (wpAny_mono (hc sc _ hce A cenv ρ σ _ s Rr ok S.st hw) ?_ fun _ _ q => q.elim)
    rintro t s1 ⟨σ1, e1, L1, hq⟩
    exact go t σ1 s1 (S.next e1 L1) hq

theorem comp_core {e iter : Expr} {g : Comprehension} {gs : List Comprehension} {scope sc : Scope} {env : Env} {p : Pos} {it : MI} {ρ ρ₀ : Frm} {σ : Sto} {s : Shared} {xs : List String} {E : Value → Shared → Prop} {use : Option (Value → Sem Unit)} {Q' : Value → Shared → Prop}
    {Q : V → Sto → Prop} {Wi : List V → Option Nat → Sto → Prop}
    (Rr : Rm A k) (ok : EnvOk T.objs.size sc env) (S : St T env ρ σ s) (hi : OkI prog w T C k it) (hci : chkI sc it iter = true) (b : Block scope sc xs) (hcl : clausesOf e = g :: gs) (hg : g.iter = iter)
    (h0 : ∀ x ∈ xs, ρ₀ x = none) (h1 : ∀ x v, ρ₀ x = some v → ρ x = some v) (hw : wpI C it ρ σ Wi)
    (hloop : ∀ vs src σ1 I Sit D cenv s1 R, Wi vs src σ1 → Src prog w A vs src I Sit → EnvOk T.objs.size (relab scope sc) cenv → s.heap.get? I = none → s.heap.get? D = none → s.heap.get? cenv.locals = none →
      (∀ x c, scope.names.lookup x = some .cell → cenv.cells.lookup x = some c → s.heap.get? c = none) → CS T cenv s σ D [] ρ₀ [] σ1 s1 → Sit 0 s1.heap → stable src vs σ1 →
      (∀ σ' acc s', CS T cenv s σ D [] ρ₀ acc σ' s' → alloc T.objs.size σ' acc Q → R (.ok .next) s') → codeAny (model prog w) A (.compStart e 0 (.ref I) (.ref D) cenv) R s1)
    (hfin : ∀ D L m s', Ret T.objs.size σ s Q (.ref D) s' → s.heap.get? L = none → s'.heap.Ns L m → compPost (model prog w) A E use Q' (.ref D) L (.ok .next) s') :
    wpAny (model prog w) A (comprehension e scope env p (newList []) false (eval iter env) use) Q' E s := by
  have kk : ∀ x, env.kindOf x = sc.names.lookup x := fun x => by unfold Env.kindOf; rw [ok.scope]
  have hclo := closureFor_eq (scope := scope) (env := env) fun n hn => by
    obtain ⟨c, w, e, _⟩ := S.frame.cells n (by rw [kk]; exact (b.fre n hn).2)
    exact ⟨c, e⟩
  refine wpAny_comprehension_free (use := use) hcl (fun x => by rw [hg]; exact chkI_folded hci env x) hclo b.kind (fun x hx hl => by obtain ⟨n, kd⟩ := x; cases hl; exact (b.loc _ hx).1) ?_
  refine wpAny_mono (hi sc _ hci A env ρ σ _ s Rr ok S hw) ?_ fun _ _ q => q.elim
  rintro x s1 ⟨vs, src, σ1, e1, L1, hst, hit, hW⟩
  have S1 := S.next e1 L1
  refine hit _ _ fun I Sit h' tk W hS0 hI0 kI => ?_
  have FD : FR env ρ h' := S1.frame.keeps (.grow kI) fun a o e _ => kI a o e
  refine wpAny_newObj_type ?_
  dsimp only
  have kD : ∀ b o, h'.get? b = some o → (h'.push { cls := .type "list", dict := none, data := .seq ([] : List Value).toArray }).get? b = some o := fun b o e => Heap.get?_push_of_some _ e
  generalize hH2 : h'.push { cls := .type "list", dict := none, data := .seq ([] : List Value).toArray } = h2 at kD ⊢
  have F2 : FR env ρ h2 := FD.keeps (.grow kD) fun a o e _ => kD a o e
  have hB2 : T.objs.size ≤ h2.objs.size := by
    obtain ⟨m, hn, _⟩ := F2.locs
    exact Nat.le_trans ok.above (Nat.le_of_lt hn.lt)
  refine newBlock fun cenv hce hcl => ?_
  dsimp only at hce hcl ⊢
  obtain ⟨okc, Fc, fc⟩ := block_env (ρ' := ρ₀) F2 ok b h0 h1 hB2
  rw [hce]
  have kC : ∀ b o, h2.get? b = some o → (pushCells (h2.push { cls := .type "dict", data := .dict #[] }) scope.names).get? b = some o := fun b o e => pushCells_keeps _ _ b o (Heap.get?_push_of_some _ e)
  generalize pushCells (h2.push { cls := .type "dict", data := .dict #[] }) scope.names = h3 at Fc kC ⊢
  have k3 : ∀ b o, s1.heap.get? b = some o → h3.get? b = some o := fun b o e => kC _ _ (kD _ _ (kI _ _ e))
  have old : ∀ a, h2.objs.size ≤ a → s.heap.get? a = none := fun a ha => by
    cases q : s.heap.get? a with
    | none => rfl
    | some o =>
      obtain ⟨o', e'⟩ := e1.there _ _ q
      exact absurd (Heap.lt_size (kD _ _ (kI _ _ e'))) (Nat.not_lt.mpr ha)
  have hD0 : s.heap.get? h'.objs.size = none := by
    cases q : s.heap.get? h'.objs.size with
    | none => rfl
    | some o =>
      obtain ⟨o', e'⟩ := e1.there _ _ q
      exact absurd (Heap.lt_size (kI _ _ e')) (Nat.lt_irrefl _)
  have hL0 : s.heap.get? cenv.locals = none := by rw [hcl]; exact old _ (Nat.le_refl _)
  have hDl : IsL h2 h'.objs.size (List.toArray []) 0 := by rw [← hH2]; exact Heap.get?_push_size _ rfl
  have S3 : CS T (blockEnv scope (cellsAt env scope.names).reverse h2.objs.size env) s σ h'.objs.size [] ρ₀ [] σ1 { s1 with heap := h3, toks := tk } :=
    ⟨S.base, ⟨fun a o e => k3 _ _ (S1.base a o e), L1.grow k3, Fc⟩, e1.trans (.grow k3), ⟨[], 0, kC _ _ hDl, trivial, Nat.zero_le _⟩, (L1.grow kI).fresh (Nat.le_refl _), fun p hp => by cases hp⟩
  refine hloop vs src σ1 I Sit h'.objs.size _ _ _ hW W okc hI0 hD0 (old _ (Nat.le_refl _)) (fun x c e hl => old _ (fc x c (relab_of_cell e) e hl)) S3 (W.frame _ _ _ hS0 fun o e => kC _ _ (kD _ _ e)) hst ?_
  intro σ' acc s' S4 ha
  obtain ⟨m, hn, _⟩ := S4.st.frame.locs
  have hn : s'.heap.Ns h2.objs.size m := hn
  rw [hcl]
  refine hfin _ _ m s' ?_ (old _ (Nat.le_refl _)) hn
  obtain ⟨ws, n, hl, hvs, hz⟩ := S4.acc
  have hBD : T.objs.size ≤ h'.objs.size := by
    obtain ⟨m, hn, _⟩ := FD.locs
    exact Nat.le_trans ok.above (Nat.le_of_lt hn.lt)
  refine ⟨.ref h'.objs.size, upd σ' h'.objs.size acc, ⟨S4.ext.keep, fun a o e q => ?_, S4.ext.there, S4.ext.gens, S4.ext.os⟩, rfl, fun a ys e => ?_, ha _ hBD S4.hid⟩
  · unfold upd
    split
    · rename_i q'; subst q'; rw [hD0] at e; cases e
    · exact S4.ext.none a o e q
  · unfold upd at e
    split at e
    · rename_i q; subst q; cases e; exact ⟨ws, n, hl, hvs, hz⟩
    · exact S4.st.lists a ys e

theorem comp1_run {elt' iter : Expr} {ifs : List Expr} {px pos p : Pos} {scope sc : Scope} {env : Env} {elt : ME} {x : String} {it : MI} {c : MT} {ρ : Frm} {σ : Sto} {s : Shared} {E : Value → Shared → Prop} {use : Option (Value → Sem Unit)} {Q' : Value → Shared → Prop} {Q : V → Sto → Prop}
    (Rr : Rm A k) (ok : EnvOk T.objs.size sc env) (S : St T env ρ σ s) (hi : OkI prog w T C k it) (hc : OkT prog w T C k c) (he : OkE prog w T C k elt) (hci : chkI sc it iter = true) (b : Block scope sc [x]) (hcc : chkC (relab scope sc) c ifs = true) (hce : chkE (relab scope sc) elt elt' = true)
    (hB : C.B = T.objs.size) (hw : wpE C (.comp elt x it c) ρ σ Q)
    (hfin : ∀ D L m s', Ret T.objs.size σ s Q (.ref D) s' → s.heap.get? L = none → s'.heap.Ns L m → compPost (model prog w) A E use Q' (.ref D) L (.ok .next) s') :
    wpAny (model prog w) A (comprehension (.ListComp elt' [⟨.Name (Str.ofString x) px, iter, ifs, 0⟩] scope pos) scope env p (newList []) false (eval iter env) use) Q' E s := by
  simp only [wpE] at hw
  refine comp_core (ρ₀ := delv ρ x) Rr ok S hi hci b rfl rfl (fun z hz => by cases List.mem_singleton.mp hz; simp [delv]) (fun z v e => by unfold delv at e; split at e; cases e; exact e) hw ?_ hfin
  intro vs src σ1 I Sit D cenv s1 R ⟨hlen, hL⟩ W okc hI0 hD0 hL0 hc0 S3 hSit hst hR
  have loop : codeAny (model prog w) A (.compLoop (.ListComp elt' [⟨.Name (Str.ofString x) px, iter, ifs, 0⟩] scope pos) 0 (.ref I) (.ref D) cenv) R s1 := by
    refine comp_loop (Lb := fun i acc => acc.length ≤ i) rule_one W okc (by simp [delv]) ?_ hL0 (fun c h1 h2 => ?_) hI0 (fun p hp => by cases hp) ?_ S3 hSit hst (Nat.le_refl _) hL fun σ' acc s' S4 ha => hR σ' acc s' S4 (hB ▸ ha)
    · rcases (b.own x (List.mem_singleton.mpr rfl)).2 with h | h
      · exact .inl (relab_of_local h)
      · exact .inr (relab_of_cell h)
    · rcases (b.own x (List.mem_singleton.mpr rfl)).2 with h | h
      · rw [relab_of_local h] at h1; cases h1
      · exact hc0 _ _ h h2
    · intro i v acc σ' s' oI P K hv hoI hlb S5 hstep hP
      rw [setv_delv] at S5 hP
      have hlt : acc.length < LIM := by
        have : i < vs.length := by
          rcases Nat.lt_or_ge i vs.length with q | q
          · exact q
          · rw [List.getElem?_eq_none q] at hv; cases hv
        omega
      exact last_body Rr okc hc he hcc hce hD0 S5 hstep (fun σ'' w h => ⟨hlt, h⟩) fun σ'' acc' s'' S6 h1 h2 => hP σ'' acc' s'' S6 (by omega) h2
  exact codeAny_compStart_list loop (W.self 0 _ _ _ hSit loop)

theorem comp2_run {elt' iter iter2 : Expr} {ifs : List Expr} {px py pos p : Pos} {scope sc : Scope} {env : Env} {elt : ME} {x y : String} {it it2 : MI} {c : MT} {ρ : Frm} {σ : Sto} {s : Shared} {E : Value → Shared → Prop} {use : Option (Value → Sem Unit)} {Q' : Value → Shared → Prop} {Q : V → Sto → Prop}
    (Rr : Rm A k) (ok : EnvOk T.objs.size sc env) (S : St T env ρ σ s) (hi : OkI prog w T C k it) (hi2 : OkI prog w T C k it2) (hc : OkT prog w T C k c) (he : OkE prog w T C k elt) (hxy : x ≠ y) (hci : chkI sc it iter = true) (b : Block scope sc [x, y])
    (hci2 : chkI (relab scope sc) it2 iter2 = true) (hcc : chkC (relab scope sc) c ifs = true) (hce : chkE (relab scope sc) elt elt' = true)
    (hB : C.B = T.objs.size) (hw : wpE C (.comp2 elt x it y it2 c) ρ σ Q)
    (hfin : ∀ D L m s', Ret T.objs.size σ s Q (.ref D) s' → s.heap.get? L = none → s'.heap.Ns L m → compPost (model prog w) A E use Q' (.ref D) L (.ok .next) s') :
    wpAny (model prog w) A (comprehension (.ListComp elt' [⟨.Name (Str.ofString x) px, iter, [], 0⟩, ⟨.Name (Str.ofString y) py, iter2, ifs, 0⟩] scope pos) scope env p (newList []) false (eval iter env) use) Q' E s := by
  simp only [wpE] at hw
  have own : ∀ z ∈ [x, y], ((relab scope sc).names.lookup (Str.ofString z) = some .local ∨ (relab scope sc).names.lookup (Str.ofString z) = some .cell) ∧ ((relab scope sc).names.lookup (Str.ofString z) = some .cell → scope.names.lookup (Str.ofString z) = some .cell) := fun z hz => by
    rcases (b.own z hz).2 with h | h
    · exact ⟨.inl (relab_of_local h), fun q => by rw [relab_of_local h] at q; cases q⟩
    · exact ⟨.inr (relab_of_cell h), fun _ => h⟩
  have mx : x ∈ [x, y] := List.mem_cons_self
  have my : y ∈ [x, y] := List.mem_cons_of_mem _ List.mem_cons_self
  refine comp_core (ρ₀ := delv (delv ρ y) x) Rr ok S hi hci b rfl rfl (fun z hz => ?_) (fun z v e => by unfold delv at e; split at e; cases e; split at e; cases e; exact e) hw ?_ hfin
  · rcases List.mem_cons.mp hz with rfl | hz
    · simp [delv]
    · cases List.mem_singleton.mp hz; simp [delv]
  intro vs src σ1 I Sit D cenv s1 R hL W okc hI0 hD0 hL0 hc0 S3 hSit hst hR
  have loop : codeAny (model prog w) A (.compLoop (.ListComp elt' [⟨.Name (Str.ofString x) px, iter, [], 0⟩, ⟨.Name (Str.ofString y) py, iter2, ifs, 0⟩] scope pos) 0 (.ref I) (.ref D) cenv) R s1 := by
    refine comp_loop (Lb := fun _ _ => True) (rule_outer (fun z => chkI_folded hci2 _ z)) W okc (by simp [delv]) (own x mx).1 hL0 (fun c h1 h2 => hc0 _ _ ((own x mx).2 h1) h2) hI0 (fun p hp => by cases hp) ?_ S3 hSit hst trivial hL fun σ' acc s' S4 ha => hR σ' acc s' S4 (hB ▸ ha)
    intro i v acc σ' s' oI P K hv hoI _ S5 hstep hP
    have hey : ∀ z u, setv (delv ρ y) x v z = some u → setv (delv (delv ρ y) x) x v z = some u := fun z u e => by rw [setv_delv]; exact e
    refine wpAny_mono (hi2 _ _ hci2 A cenv (setv (delv ρ y) x v) σ' _ s' Rr okc ⟨S5.st.base, S5.st.lists, S5.st.frame.weaken hey⟩ hstep) ?_ fun _ _ q => q.elim
    rintro z s2 ⟨us, src2, σ2, e2, L2, hst2, hit2, hstep2⟩
    have S6 := (S5.weaken hey).next e2 L2
    refine hit2 _ _ fun J Sjt h' tk W2 hS2 hJ0 kJ => ?_
    have S7 : CS T cenv s σ D [(I, oI)] (setv (delv ρ y) x v) acc σ2 { s2 with heap := h', toks := tk } := by
      obtain ⟨ws, n, hl, hvs, hz⟩ := S6.acc
      exact ⟨S6.b0, ⟨fun a o e => kJ _ _ (S6.st.base a o e), S6.st.lists.grow kJ, S6.st.frame.keeps (.grow kJ) fun a o e _ => kJ a o e⟩, S6.ext.trans (.grow kJ), ⟨ws, n, kJ _ _ hl, hvs.keeps (.grow kJ), hz⟩, S6.hid, fun p hp => ⟨kJ _ _ (S6.held p hp).1, (S6.held p hp).2⟩⟩
    have hIJ : ∀ p ∈ [(I, oI)], p.1 ≠ J := fun p hp q => by
      have := (S5.held p hp).1
      rw [q, hJ0] at this; cases this
    have hJ : s.heap.get? J = none := by
      cases q : s.heap.get? J with
      | none => rfl
      | some o => obtain ⟨o', e'⟩ := S5.ext.there _ _ q; rw [hJ0] at e'; cases e'
    have inner : codeAny (model prog w) A (.compLoop (.ListComp elt' [⟨.Name (Str.ofString x) px, iter, [], 0⟩, ⟨.Name (Str.ofString y) py, iter2, ifs, 0⟩] scope pos) 1 (.ref J) (.ref D) cenv)
        (fun r s₃ => match r with | .ok _ => P s₃ | .error x => cameBackBy (model prog w) A cenv (Noted prog w A cenv R) x s₃) { s2 with heap := h', toks := tk } := by
      refine comp_loop (Lb := fun _ _ => True) rule_inner W2 okc (by simp [setv, delv, Ne.symm hxy]) (own y my).1 hL0 (fun c h1 h2 => hc0 _ _ ((own y my).2 h1) h2) hJ hIJ ?_ S7 hS2 hst2 trivial hstep2 fun σ3 acc3 s3 S8 hK => ?_
      · intro j u acc' σ3 s3 oJ P' K' hu hoJ _ S8 hstep3 hP'
        have e8 : setv (setv (delv ρ y) x v) y u = setv (setv ρ x v) y u := by
          funext z
          unfold setv delv
          split
          · rfl
          · rename_i q; split <;> simp_all
        rw [e8] at S8 hP'
        exact last_body (K' := fun σ'' a => acc'.length < LIM ∧ K' σ'' a) Rr okc hc he hcc hce hD0 S8 hstep3 (fun σ'' w h => h) fun σ'' acc'' s'' S9 h1 h2 => hP' σ'' acc'' s'' S9 trivial h2
      · refine hP σ3 acc3 s3 ?_ trivial hK
        have e9 : ∀ z u, setv (delv (delv ρ y) x) x v z = some u → setv (delv ρ y) x v z = some u := fun z u e => by rw [setv_delv] at e; exact e
        exact S8.weaken e9
    exact start_inner inner (W2.self 0 _ _ _ hS2 inner)
  exact codeAny_compStart_list loop (W.self 0 _ _ _ hSit loop)

theorem Ret.sameBut {B : Nat} {σ : Sto} {s s' : Shared} {Q : V → Sto → Prop} {y : Value} {L : Addr} {m : Str → Option Value} {h' : Heap} (h : Ret B σ s Q y s') (hL : s.heap.get? L = none) (hn : s'.heap.Ns L m) (hs : Heap.SameBut L s'.heap h') : Ret B σ s Q y { s' with heap := h' } := by
  obtain ⟨v, σ', e, hv, Lr, hq⟩ := h
  obtain ⟨o, es, ep, ho, hd⟩ := nsData hn
  have hI : ∀ o, s'.heap.get? L = some o → ∀ xs n, o.data ≠ .seq xs n := fun o' e' => by rw [ho] at e'; cases e'; rw [hd]; intro _ _ q; cases q
  have k : ∀ b o, b ≠ L → s'.heap.get? b = some o → h'.get? b = some o := fun b o hb e => hs.extBut b o hb e
  exact ⟨v, σ', e.but (tk := s'.toks) k hL, hv.keeps (tups_but k hI), Lr.but k hI, hq⟩

theorem okComp {elt : ME} {x : String} {it : MI} {c : MT} (hi : OkI prog w T C k it) (hc : OkT prog w T C k c) (he : OkE prog w T C k elt) (hB : C.B = T.objs.size) : OkE prog w T C k (.comp elt x it c) := by
  intro sc e hck A env ρ σ Q s Rr ok S hw
  obtain ⟨elt', p, iter, ifs, scope, pos, rfl, h1, h2, h3, h4⟩ := inv_comp hck
  rw [eval_ListComp]
  exact comp1_run (use := none) Rr ok S hi hc he h1 (block_of h2) h3 h4 hB hw fun D L m s' hr hL hn => ⟨m, hn, fun h' hs => hr.sameBut hL hn hs⟩

theorem okComp2 {elt : ME} {x y : String} {it it2 : MI} {c : MT} (hi : OkI prog w T C k it) (hi2 : OkI prog w T C k it2) (hc : OkT prog w T C k c) (he : OkE prog w T C k elt) (hB : C.B = T.objs.size) : OkE prog w T C k (.comp2 elt x it y it2 c) := by
  intro sc e hck A env ρ σ Q s Rr ok S hw
  obtain ⟨elt', p, iter, q, iter2, ifs, scope, pos, rfl, hxy, h1, h2, h3, h4, h5⟩ := inv_comp2 hck
  rw [eval_ListComp]
  exact comp2_run (use := none) Rr ok S hi hi2 hc he hxy h1 (block_of h2) h3 h4 h5 hB hw fun D L m s' hr hL hn => ⟨m, hn, fun h' hs => hr.sameBut hL hn hs⟩
end
end Mini
end

section
open PySem PyProof.Rows
open PySem.SeqAt

namespace Mini

/-! statements: which term stands for which text -/
def storeOk (sc : Scope) (x : String) : Bool := sc.names.lookup (Str.ofString x) == some .local || sc.names.lookup (Str.ofString x) == some .cell

def chkNames (sc : Scope) : List String → List Expr → Bool
  | [], [] => true
  | x :: xs, .Name y _ :: ts => y == Str.ofString x && storeOk sc x && chkNames sc xs ts
  | _, _ => false

mutual
def chkS (sc : Scope) : MS → Stmt → Bool
  | .expr e, .Expr (.Call f as ks p) _ => chkE sc e (.Call f as ks p)
  | .asg x e, .Assign [.Name y _] e' _ => y == Str.ofString x && storeOk sc x && chkE sc e e'
  | .sto o i e, .Assign [.Subscript o' i' _] e' _ => chkE sc o o' && chkE sc i i' && chkE sc e e'
  | .unpk xs e, .Assign [.Tuple ts _ _] (.Name y p) _ => chkNames sc xs ts && chkE sc e (.Name y p)
  | .ite c a b, .If c' a' b' _ => chkT sc c c' && chkB sc a a' && chkB sc b b'
  | .whl c b, .While c' b' [] _ => chkT sc c c' && chkB sc b b'
  | .for_ x it b, .For (.Name y _) it' b' [] _ => y == Str.ofString x && storeOk sc x && chkI sc it it' && chkB sc b b'
  | .ret e, .Return (some e') _ => chkE sc e e'
  | .brk, .Break _ => true
  | .cont, .Continue _ => true
  | _, _ => false
def chkB (sc : Scope) : MB → List Stmt → Bool
  | .nil, [] => true
  | .cons s r, s' :: r' => chkS sc s s' && chkB sc r r'
  | _, _ => false
end

theorem storeOk_of {sc : Scope} {x : String} (h : storeOk sc x = true) : sc.names.lookup (Str.ofString x) = some .local ∨ sc.names.lookup (Str.ofString x) = some .cell := by
  unfold storeOk at h
  simpa using h

theorem invS_expr {sc : Scope} {e : ME} {st : Stmt} (h : chkS sc (.expr e) st = true) : ∃ f as ks p pos, st = .Expr (.Call f as ks p) pos ∧ chkE sc e (.Call f as ks p) = true := by
  unfold chkS at h
  split at h
  all_goals first
    | (rename_i heq; cases heq; exact ⟨_, _, _, _, _, rfl, h⟩)
    | (rename_i heq; cases heq; done)
    | (exact ⟨_, _, _, _, _, rfl, h⟩)
    | cases h
theorem invS_asg {sc : Scope} {x : String} {e : ME} {st : Stmt} (h : chkS sc (.asg x e) st = true) : ∃ p e' pos, st = .Assign [.Name (Str.ofString x) p] e' pos ∧ storeOk sc x = true ∧ chkE sc e e' = true := by
  unfold chkS at h
  split at h
  all_goals first
    | (rename_i heq; cases heq; simp only [Bool.and_eq_true, beq_iff_eq] at h; obtain ⟨⟨rfl, h1⟩, h2⟩ := h; exact ⟨_, _, _, rfl, h1, h2⟩)
    | (rename_i heq; cases heq; done)
    | (simp only [Bool.and_eq_true, beq_iff_eq] at h; obtain ⟨⟨rfl, h1⟩, h2⟩ := h; exact ⟨_, _, _, rfl, h1, h2⟩)
    | cases h
theorem invS_sto {sc : Scope} {o i e : ME} {st : Stmt} (h : chkS sc (.sto o i e) st = true) : ∃ o' i' p e' pos, st = .Assign [.Subscript o' i' p] e' pos ∧ chkE sc o o' = true ∧ chkE sc i i' = true ∧ chkE sc e e' = true := by
  unfold chkS at h
  split at h
  all_goals first
    | (rename_i heq; cases heq; simp only [Bool.and_eq_true, beq_iff_eq] at h; obtain ⟨⟨h1, h2⟩, h3⟩ := h; exact ⟨_, _, _, _, _, rfl, h1, h2, h3⟩)
    | (rename_i heq; cases heq; done)
    | (simp only [Bool.and_eq_true, beq_iff_eq] at h; obtain ⟨⟨h1, h2⟩, h3⟩ := h; exact ⟨_, _, _, _, _, rfl, h1, h2, h3⟩)
    | cases h
theorem invS_unpk {sc : Scope} {xs : List String} {e : ME} {st : Stmt} (h : chkS sc (.unpk xs e) st = true) : ∃ ts k tp y p pos, st = .Assign [.Tuple ts k tp] (.Name y p) pos ∧ chkNames sc xs ts = true ∧ chkE sc e (.Name y p) = true := by
  unfold chkS at h
  split at h
  all_goals first
    | (rename_i heq; cases heq; simp only [Bool.and_eq_true, beq_iff_eq] at h; obtain ⟨h1, h2⟩ := h; exact ⟨_, _, _, _, _, _, rfl, h1, h2⟩)
    | (rename_i heq; cases heq; done)
    | (simp only [Bool.and_eq_true, beq_iff_eq] at h; obtain ⟨h1, h2⟩ := h; exact ⟨_, _, _, _, _, _, rfl, h1, h2⟩)
    | cases h
theorem invS_ite {sc : Scope} {c : MT} {a b : MB} {st : Stmt} (h : chkS sc (.ite c a b) st = true) : ∃ c' a' b' pos, st = .If c' a' b' pos ∧ chkT sc c c' = true ∧ chkB sc a a' = true ∧ chkB sc b b' = true := by
  unfold chkS at h
  split at h
  all_goals first
    | (rename_i heq; cases heq; simp only [Bool.and_eq_true, beq_iff_eq] at h; obtain ⟨⟨h1, h2⟩, h3⟩ := h; exact ⟨_, _, _, _, rfl, h1, h2, h3⟩)
    | (rename_i heq; cases heq; done)
    | (simp only [Bool.and_eq_true, beq_iff_eq] at h; obtain ⟨⟨h1, h2⟩, h3⟩ := h; exact ⟨_, _, _, _, rfl, h1, h2, h3⟩)
    | cases h
theorem invS_whl {sc : Scope} {c : MT} {b : MB} {st : Stmt} (h : chkS sc (.whl c b) st = true) : ∃ c' b' pos, st = .While c' b' [] pos ∧ chkT sc c c' = true ∧ chkB sc b b' = true := by
  unfold chkS at h
  split at h
  all_goals first
    | (rename_i heq; cases heq; simp only [Bool.and_eq_true, beq_iff_eq] at h; obtain ⟨h1, h2⟩ := h; exact ⟨_, _, _, rfl, h1, h2⟩)
    | (rename_i heq; cases heq; done)
    | (simp only [Bool.and_eq_true, beq_iff_eq] at h; obtain ⟨h1, h2⟩ := h; exact ⟨_, _, _, rfl, h1, h2⟩)
    | cases h
theorem invS_for {sc : Scope} {x : String} {it : MI} {b : MB} {st : Stmt} (h : chkS sc (.for_ x it b) st = true) : ∃ p it' b' pos, st = .For (.Name (Str.ofString x) p) it' b' [] pos ∧ storeOk sc x = true ∧ chkI sc it it' = true ∧ chkB sc b b' = true := by
  unfold chkS at h
  split at h
  all_goals first
    | (rename_i heq; cases heq; simp only [Bool.and_eq_true, beq_iff_eq] at h; obtain ⟨⟨⟨rfl, h0⟩, h1⟩, h2⟩ := h; exact ⟨_, _, _, _, rfl, h0, h1, h2⟩)
    | (rename_i heq; cases heq; done)
    | (simp only [Bool.and_eq_true, beq_iff_eq] at h; obtain ⟨⟨⟨rfl, h0⟩, h1⟩, h2⟩ := h; exact ⟨_, _, _, _, rfl, h0, h1, h2⟩)
    | cases h
theorem invS_ret {sc : Scope} {e : ME} {st : Stmt} (h : chkS sc (.ret e) st = true) : ∃ e' pos, st = .Return (some e') pos ∧ chkE sc e e' = true := by
  unfold chkS at h
  split at h
  all_goals first
    | (rename_i heq; cases heq; exact ⟨_, _, rfl, h⟩)
    | (rename_i heq; cases heq; done)
    | (exact ⟨_, _, rfl, h⟩)
    | cases h
theorem invS_brk {sc : Scope}  {st : Stmt} (h : chkS sc .brk st = true) : ∃ pos, st = .Break pos := by
  unfold chkS at h
  split at h
  all_goals first
    | (rename_i heq; cases heq; exact ⟨_, rfl⟩)
    | (rename_i heq; cases heq; done)
    | (exact ⟨_, rfl⟩)
    | cases h
theorem invS_cont {sc : Scope}  {st : Stmt} (h : chkS sc .cont st = true) : ∃ pos, st = .Continue pos := by
  unfold chkS at h
  split at h
  all_goals first
    | (rename_i heq; cases heq; exact ⟨_, rfl⟩)
    | (rename_i heq; cases heq; done)
    | (exact ⟨_, rfl⟩)
    | cases h
theorem invB_nil {sc : Scope} {st : List Stmt} (h : chkB sc .nil st = true) : st = [] := by
  cases st with
  | nil => rfl
  | cons a b => simp only [chkB, Bool.false_eq_true] at h
theorem invB_cons {sc : Scope} {m : MS} {r : MB} {st : List Stmt} (h : chkB sc (.cons m r) st = true) : ∃ a b, st = a :: b ∧ chkS sc m a = true ∧ chkB sc r b = true := by
  cases st with
  | nil => simp only [chkB, Bool.false_eq_true] at h
  | cons a b => simp only [chkB, Bool.and_eq_true] at h; exact ⟨_, _, rfl, h.1, h.2⟩

/-- what a frame may change of its own -/
def Df (env : Env) : Nat → Prop := fun a => a = env.locals ∨ ∃ x, env.kindOf x = some .cell ∧ env.cells.lookup x = some a

def flowIs (h : Heap) : Fl → Flow → Prop
  | .next, f => f = .next
  | .brk, f => f = .brk
  | .cont, f => f = .cont
  | .ret v, f => ∃ x, f = .ret x ∧ VR h v x

def RetS (T : Heap) (env : Env) (σ : Sto) (s : Shared) (Q : Fl → Frm → Sto → Prop) (f : Flow) (s' : Shared) : Prop :=
  ∃ fl ρ' σ', Ext (Df env) T.objs.size σ σ' s s' ∧ St T env ρ' σ' s' ∧ flowIs s'.heap fl f ∧ Q fl ρ' σ'

theorem RetS.after {T : Heap} {env : Env} {σ σ' : Sto} {s s' s'' : Shared} {Q : Fl → Frm → Sto → Prop} {f : Flow} (e : Ext (Df env) T.objs.size σ σ' s s') (h : RetS T env σ' s' Q f s'') : RetS T env σ s Q f s'' :=
  let ⟨fl, ρ', σ'', e', r⟩ := h; ⟨fl, ρ', σ'', e.trans e', r⟩

theorem FR.at {env : Env} {ρ : Frm} {h h' : Heap} {I : Nat} (F : FR env ρ h) (k : ∀ b o, b ≠ I → h.get? b = some o → h'.get? b = some o) (hI : ∀ o, h.get? I = some o → ∀ xs n, o.data ≠ .seq xs n)
    (hL : env.locals ≠ I) (hC : ∀ x c, (env.kindOf x = some .cell ∨ env.kindOf x = some .free) → env.cells.lookup x = some c → c ≠ I) : FR env ρ h' := by
  have kt : Tups h h' := tups_but k hI
  refine ⟨?_, fun x hx => ?_, fun x v hx hk hv => ?_⟩
  · obtain ⟨m, ⟨o, es, ep, ho, hd, r⟩, hm⟩ := F.locs
    refine ⟨m, ⟨o, es, ep, k _ _ hL ho, hd, r⟩, fun x v hx hk hv => ?_⟩
    obtain ⟨w, e, hw⟩ := hm x v hx hk hv
    exact ⟨w, e, hw.keeps kt⟩
  · obtain ⟨c, w, e, o, ho, hd⟩ := F.cells x hx
    exact ⟨c, w, e, o, k _ _ (hC x c hx e) ho, hd⟩
  · obtain ⟨c, w, e, ⟨o, ho, hd⟩, hw⟩ := F.held x v hx hk hv
    exact ⟨c, w, e, ⟨o, k _ _ (hC _ c hk e) ho, hd⟩, hw.keeps kt⟩

theorem St.but {T : Heap} {env : Env} {ρ ρ' : Frm} {σ : Sto} {s : Shared} {h' : Heap} {tk : Nat} {I : Nat} (S : St T env ρ σ s) (k : ∀ b o, b ≠ I → s.heap.get? b = some o → h'.get? b = some o) (hI : ∀ o, s.heap.get? I = some o → ∀ xs n, o.data ≠ .seq xs n)
    (hT : T.get? I = none) (F : FR env ρ' h') : St T env ρ' σ { s with heap := h', toks := tk } :=
  ⟨fun a o e => k a o (fun q => by rw [q, hT] at e; cases e) (S.base a o e), S.lists.but k hI, F⟩

theorem Ext.own {D : Nat → Prop} {B : Nat} {σ : Sto} {s : Shared} {h' : Heap} {tk : Nat} {I : Nat} (k : ∀ b o, b ≠ I → s.heap.get? b = some o → h'.get? b = some o) (hD : D I) (ht : ∃ o, h'.get? I = some o) : Ext D B σ σ s { s with heap := h', toks := tk } :=
  ⟨fun a o e _ d => k a o (fun q => d (q ▸ hD)) e, fun _ _ _ e => e, fun a o e => if q : a = I then q ▸ ht else ⟨o, k a o q e⟩, rfl, rfl⟩

section
variable (prog : Program) (w : World) (T : Heap) (C : Cx) (k : Nat)
def OkS (ms : MS) : Prop := ∀ sc st, chkS sc ms st = true → ∀ A env ρ σ Q s, Rm A k → EnvOk T.objs.size sc env → St T env ρ σ s → wpS C ms ρ σ Q → wpAny (model prog w) A (exec st env) (RetS T env σ s Q) No s
def OkB (mb : MB) : Prop := ∀ sc st, chkB sc mb st = true → ∀ A env ρ σ Q s, Rm A k → EnvOk T.objs.size sc env → St T env ρ σ s → wpB C mb ρ σ Q → wpAny (model prog w) A (execs st env) (RetS T env σ s Q) No s
end

section
variable {prog : Program} {w : World} {T : Heap} {C : Cx} {k : Nat} {A : Around} {E : Value → Shared → Prop} {s : Shared}

theorem EnvOk.kk {B : Nat} {sc : Scope} {env : Env} (ok : EnvOk B sc env) (x : Str) : env.kindOf x = sc.names.lookup x := by unfold Env.kindOf; rw [ok.scope]

/-- a name is given a value: the state after it -/
theorem store_st {sc : Scope} {env : Env} {ρ : Frm} {σ : Sto} {x : String} {v : V} {y : Value} {Q : Unit → Shared → Prop} (ok : EnvOk T.objs.size sc env) (S : St T env ρ σ s) (hk : storeOk sc x = true) (hv : VR s.heap v y)
    (h : ∀ h' tk, Ext (Df env) T.objs.size σ σ s { s with heap := h', toks := tk } → St T env (setv ρ x v) σ { s with heap := h', toks := tk } → (∃ b₀, Df env b₀ ∧ (∃ o, s.heap.get? b₀ = some o ∧ DC o) ∧ ∀ b o, b ≠ b₀ → s.heap.get? b = some o → h'.get? b = some o) →
      Q () { s with heap := h', toks := tk }) :
    wpAny (model prog w) A (storeName env (Str.ofString x) y) Q E s := by
  refine store_ok ok S.frame (storeOk_of hk) hv fun h' tk b₀ hb ⟨o, ho, hd⟩ k ht F => ?_
  have hD : Df env b₀ := by
    rcases hb with ⟨rfl, _⟩ | ⟨a, b⟩
    · exact .inl rfl
    · exact .inr ⟨_, by rw [ok.kk]; exact b, a⟩
  have hT : T.get? b₀ = none := by
    refine get_fresh ?_
    rcases hb with ⟨rfl, _⟩ | ⟨a, b⟩
    · exact ok.above
    · exact ok.cabove _ _ a
  exact h h' tk (.own k hD ht) (S.but k (fun o' e => by rw [ho] at e; cases e; exact hd.seq) hT F) ⟨b₀, hD, ⟨o, ho, hd⟩, k⟩

theorem okExpr {e : ME} (h : OkE prog w T C k e) : OkS prog w T C k (.expr e) := by
  intro sc st hc A env ρ σ Q s R ok S hw
  obtain ⟨f, as, ks, p, pos, rfl, hc⟩ := invS_expr hc
  · simp only [wpS] at hw
    refine wpAny_Expr (wpAny_mono (h sc _ hc A env ρ σ _ s R ok S hw) ?_ fun _ _ q => q) (by simp [interactive, ok.scope, ok.kind])
    rintro x s1 ⟨v, σ1, e1, hv, L1, rfl, hq⟩
    cases hv
    exact ⟨.next, ρ, σ1, e1.of0, S.next e1 L1, rfl, hq⟩

theorem okRet {e : ME} (h : OkE prog w T C k e) : OkS prog w T C k (.ret e) := by
  intro sc st hc A env ρ σ Q s R ok S hw
  obtain ⟨e', pos, rfl, hc⟩ := invS_ret hc
  · simp only [wpS] at hw
    refine wpAny_Return_some (wpAny_mono (h sc _ hc A env ρ σ _ s R ok S hw) ?_ fun _ _ q => q)
    rintro x s1 ⟨v, σ1, e1, hv, L1, hq⟩
    exact ⟨.ret v, ρ, σ1, e1.of0, S.next e1 L1, ⟨x, rfl, hv⟩, hq⟩
theorem okBrk : OkS prog w T C k .brk := by
  intro sc st hc A env ρ σ Q s R ok S hw
  obtain ⟨pos, rfl⟩ := invS_brk hc
  simp only [wpS] at hw
  exact wpAny_Break ⟨.brk, ρ, σ, .refl _ _ _ _, S, rfl, hw⟩
theorem okCont : OkS prog w T C k .cont := by
  intro sc st hc A env ρ σ Q s R ok S hw
  obtain ⟨pos, rfl⟩ := invS_cont hc
  simp only [wpS] at hw
  exact wpAny_Continue ⟨.cont, ρ, σ, .refl _ _ _ _, S, rfl, hw⟩

theorem okNilB : OkB prog w T C k .nil := by
  intro sc st hc A env ρ σ Q s R ok S hw
  cases invB_nil hc
  simp only [wpB] at hw
  exact wpAny_execs_nil ⟨.next, ρ, σ, .refl _ _ _ _, S, rfl, hw⟩
theorem okConsB {m : MS} {r : MB} (hm : OkS prog w T C k m) (hr : OkB prog w T C k r) : OkB prog w T C k (.cons m r) := by
  intro sc st hc A env ρ σ Q s R ok S hw
  obtain ⟨s', r', rfl, hc1, hc2⟩ := invB_cons hc
  have hc := And.intro hc1 hc2
  · simp only [wpB] at hw
    refine wpAny_execs_cons (wpAny_mono (hm sc _ hc.1 A env ρ σ _ s R ok S hw) ?_ fun _ _ q => q)
    rintro f s1 ⟨fl, ρ1, σ1, e1, S1, hf, hq⟩
    cases fl with
    | next => cases hf; exact wpAny_mono (hr sc _ hc.2 A env ρ1 σ1 Q s1 R ok S1 hq) (fun _ _ q => q.after e1) fun _ _ q => q
    | brk => cases hf; exact ⟨.brk, ρ1, σ1, e1, S1, rfl, hq⟩
    | cont => cases hf; exact ⟨.cont, ρ1, σ1, e1, S1, rfl, hq⟩
    | ret v => obtain ⟨x, rfl, hx⟩ := hf; exact ⟨.ret v, ρ1, σ1, e1, S1, ⟨x, rfl, hx⟩, hq⟩

theorem okIteS {c : MT} {a b : MB} (hc' : OkT prog w T C k c) (ha : OkB prog w T C k a) (hb : OkB prog w T C k b) : OkS prog w T C k (.ite c a b) := by
  intro sc st hc A env ρ σ Q s R ok S hw
  obtain ⟨c', a', b', pos, rfl, h1, h2, h3⟩ := invS_ite hc
  · simp only [wpS] at hw
    refine wpAny_If (wpAny_mono (hc' sc _ h1 A env ρ σ _ s R ok S hw) ?_ fun _ _ q => q)
    rintro t s1 ⟨σ1, e1, L1, hq⟩
    have S1 := S.next e1 L1
    cases t with
    | true => exact wpAny_mono (ha sc _ h2 A env ρ σ1 Q s1 R ok S1 hq) (fun _ _ q => q.after e1.of0) fun _ _ q => q
    | false => exact wpAny_mono (hb sc _ h3 A env ρ σ1 Q s1 R ok S1 hq) (fun _ _ q => q.after e1.of0) fun _ _ q => q

theorem okWhl {c : MT} {b : MB} (hc' : OkT prog w T C k c) (hb : OkB prog w T C k b) : OkS prog w T C k (.whl c b) := by
  intro sc st hc A env ρ σ Q s R ok S hw
  obtain ⟨c', b', pos, rfl, h1, h2⟩ := invS_whl hc
  · simp only [wpS] at hw
    obtain ⟨I, n₀, hI, hstep⟩ := hw
    refine wpAny_While (codeAny_whileLoop (fun n s' => ∃ ρ' σ', I n ρ' σ' ∧ Ext (Df env) T.objs.size σ σ' s s' ∧ St T env ρ' σ' s') ?_ n₀ ⟨ρ, σ, hI, .refl _ _ _ _, S⟩)
    rintro n s' ⟨ρ', σ', hI', e0, S'⟩
    refine wpAny_mono (hc' sc _ h1 A env ρ' σ' _ s' R ok S' (hstep n ρ' σ' hI')) ?_ fun _ _ q => q.elim
    rintro t s1 ⟨σ1, e1, L1, hq⟩
    have S1 := S'.next e1 L1
    have e01 := e0.trans (e1.of0 (D := Df env))
    cases t with
    | false => exact wpAny_execs_nil ⟨.next, ρ', σ1, e01, S1, rfl, hq⟩
    | true =>
      refine wpAny_mono (hb sc _ h2 A env ρ' σ1 _ s1 R ok S1 hq) ?_ fun _ _ q => q.elim
      rintro f s2 ⟨fl, ρ2, σ2, e2, S2, hf, hq⟩
      have e02 := e01.trans e2
      cases fl with
      | next => cases hf; obtain ⟨m, hm, hI2⟩ := hq; exact ⟨m, hm, ρ2, σ2, hI2, e02, S2⟩
      | cont => cases hf; obtain ⟨m, hm, hI2⟩ := hq; exact ⟨m, hm, ρ2, σ2, hI2, e02, S2⟩
      | brk => cases hf; exact ⟨.next, ρ2, σ2, e02, S2, rfl, hq⟩
      | ret v => obtain ⟨x, rfl, hx⟩ := hf; exact ⟨.ret v, ρ2, σ2, e02, S2, ⟨x, rfl, hx⟩, hq⟩

theorem okFor {x : String} {it : MI} {b : MB} (hi : OkI prog w T C k it) (hb : OkB prog w T C k b) : OkS prog w T C k (.for_ x it b) := by
  intro sc st hc A env ρ σ Q s R ok S hw
  obtain ⟨py, it', b', pos, rfl, h0, h1, h2⟩ := invS_for hc
  · simp only [wpS] at hw
    refine wpAny_For (wpAny_mono (hi sc _ h1 A env ρ σ _ s R ok S hw) ?_ fun _ _ q => q) (fun z => chkI_folded h1 _ z)
    rintro z s1 ⟨xs, src, σ1, e1, L1, hst, hit, hL⟩
    have S1 := S.next e1 L1
    refine hit _ _ fun I Sit h' tk W hS0 hI0 kI => ?_
    have S2 : St T env ρ σ1 { s1 with heap := h', toks := tk } := ⟨fun a o e => kI _ _ (S1.base a o e), S1.lists.grow kI, S1.frame.keeps (.grow kI) fun a o e _ => kI a o e⟩
    have e2 : Ext (Df env) T.objs.size σ σ1 s { s1 with heap := h', toks := tk } := e1.of0.trans (.grow kI)
    have plI : ∀ i h, Sit i h → ∀ o, h.get? I = some o → Plain o := fun i h q o e => by
      obtain ⟨o', e', _, a, b, c⟩ := W.own i h q
      rw [e] at e'; cases e'
      exact ⟨a, b, c⟩
    have hTI : T.get? I = none := by
      cases q : T.get? I with
      | none => rfl
      | some o => have := S.base _ _ q; rw [hI0] at this; cases this
    have hDI : ¬ Df env I := fun q => by
      rcases q with q | ⟨y, q1, q2⟩
      · obtain ⟨m, hn, _⟩ := S.frame.locs
        obtain ⟨o, _, _, ho, _⟩ := nsData hn
        rw [← q, hI0] at ho; cases ho
      · obtain ⟨c, w', e, o, ho, _⟩ := S.frame.cells y (.inl q1)
        rw [q2] at e; cases e
        rw [hI0] at ho; cases ho
    refine codeAny_forLoop (fun n s' => ∃ i ρ' σ', i ≤ xs.length ∧ n = xs.length - i ∧ Ext (Df env) T.objs.size σ σ' s s' ∧ St T env ρ' σ' s' ∧ Sit i s'.heap ∧ stable src xs σ' ∧
      forL (fun v ρ σ K => wpB C b (setv ρ x v) σ K) (stable src xs) Q (xs.drop i) ρ' σ') ?_ xs.length ⟨0, ρ, σ1, Nat.zero_le _, rfl, e2, S2, hS0, hst, by simpa using hL⟩
    rintro n s' ⟨i, ρ', σ', hi', rfl, e3, S3, hS3, hst3, hL3⟩
    have chgI : ∀ (h' : Heap) (tk : Nat), (∀ b o, b ≠ I → s'.heap.get? b = some o → h'.get? b = some o) → Ext (Df env) T.objs.size σ σ' s { s' with heap := h', toks := tk } ∧ St T env ρ' σ' { s' with heap := h', toks := tk } := fun h' tk k =>
      ⟨e3.but k hI0, S3.but k (fun o e => (plI _ _ hS3 o e).1) hTI (S3.frame.but k (plI _ _ hS3))⟩
    by_cases hlt : i < xs.length
    · have hv : xs[i]? = some xs[i] := List.getElem?_eq_getElem hlt
      refine W.item i _ s' _ _ σ' hv hS3 S3.lists hst3 fun y h4 tk4 hy hS4 k4 => ?_
      dsimp only
      obtain ⟨e4, S4⟩ := chgI h4 tk4 k4
      refine wpAny_assign_Name (store_st ok S4 h0 hy fun h5 tk5 e45 S5 ⟨b₀, hb₀, ⟨ob, hob, hdc⟩, k5⟩ => ?_)
      have hne : I ≠ b₀ := fun q => hDI (q ▸ hb₀)
      have hS5 : Sit (i + 1) h5 := W.frame _ _ _ hS4 fun o e => k5 _ _ hne e
      obtain ⟨oI, eI, _, p1, p2, p3⟩ := W.own _ _ hS5
      rw [List.drop_eq_getElem_cons hlt] at hL3
      refine wpAny_mono (hb sc _ h2 A env _ σ' _ _ R ok S5 hL3) ?_ fun _ _ q => q.elim
      rintro f s6 ⟨fl, ρ6, σ6, e56, S6, hf, hq⟩
      have e6 := (e4.trans e45).trans e56
      have hS6 : Sit (i + 1) s6.heap := W.frame _ _ _ hS5 fun o e => e56.keep _ _ e (.inl (S5.lists.none_of eI (.inr p1))) hDI
      cases fl with
      | next => cases hf; exact ⟨xs.length - (i + 1), by omega, i + 1, ρ6, σ6, hlt, rfl, e6, S6, hS6, hq.1, hq.2⟩
      | cont => cases hf; exact ⟨xs.length - (i + 1), by omega, i + 1, ρ6, σ6, hlt, rfl, e6, S6, hS6, hq.1, hq.2⟩
      | brk => cases hf; exact ⟨.next, ρ6, σ6, e6, S6, rfl, hq⟩
      | ret v => obtain ⟨x, rfl, hx⟩ := hf; exact ⟨.ret v, ρ6, σ6, e6, S6, ⟨x, rfl, hx⟩, hq⟩
    · have hi2 : i = xs.length := Nat.le_antisymm hi' (Nat.not_lt.mp hlt)
      subst hi2
      refine W.done s' _ _ σ' hS3 S3.lists hst3 fun h4 tk4 k4 => ?_
      obtain ⟨e4, S4⟩ := chgI h4 tk4 k4
      rw [List.drop_length] at hL3
      exact wpAny_execs_nil ⟨.next, ρ', σ', e4, S4, rfl, hL3⟩
end
end Mini
end

section
open PySem PyProof.Rows
open PySem.SeqAt

namespace Mini
section
variable {prog : Program} {w : World} {T : Heap} {C : Cx} {k : Nat} {A : Around} {E : Value → Shared → Prop} {s : Shared}

theorem setItem_at {l : Addr} {items : Array Value} {n : Nat} {i : Int} {t : Tok} {v : Value} {Q : Unit → Shared → Prop} (ho : IsL s.heap l items n) (h0 : 0 ≤ i) (hfit : i < 2 ^ 63) (hn : i < items.size)
    (hQ : ∀ h' n', IsL h' l (items.setIfInBounds i.toNat v) n' → Heap.SameBut l s.heap h' → Q () { s with heap := h' }) :
    wpAny (model prog w) A (setItem (.ref l) (.int i t) v) Q E s := by
  have hl : s.heap.IsList l items := ⟨_, ho, rfl, n, rfl⟩
  unfold setItem
  try with_reducible refine wpAny_holding ?_
  first | refine wpAny_bind (wpAny_pure ?_) | skip
  refine wpAny_bind (wpAny_sequenceKey hl.typeIs (by decide) ?_)
  refine wpAny_bind (wpAny_callSpecial?_slot (name := Str.ofString "__setitem__") hl.typeIs slot_list_setitem
    (wpAny_call_entry slot_list_setitem hl.typeIs entry_list_setitem ?_ (args_list_setitem _ _ _)))
  show wpAny _ _ (Builtin.List.listSubscript? (.int i t) >>= _) _ _ s
  refine wpAny_bind (wpAny_listSubscript_int (fitsIndex_of h0 hfit) ?_)
  clear hfit
  obtain ⟨j, rfl⟩ := Int.eq_ofNat_of_zero_le h0
  have hj : j < items.size := by omega
  have hx' : items[j]? = some items[j] := Array.getElem?_eq_getElem hj
  show wpAny _ _ ((seqItemAt l j >>= fun r => pure (r.map (j, ·))) >>= _) _ _ s
  refine wpAny_bind (wpAny_bind (wpAny_seqItemAt ho rfl (wpAny_pure ?_)))
  rw [hx']
  show wpAny _ _ (setSeqItemAt l j v >>= _) _ _ s
  have hfin : ∃ n', IsL (s.heap.update l (Obj.mapSeq (·.setIfInBounds j v))) l (items.setIfInBounds j v) n' :=
    ⟨_, Heap.get?_update_self _ ho rfl⟩
  obtain ⟨n', hfin⟩ := hfin
  refine wpAny_bind (wpAny_setSeqItemAt ho rfl ?_)
  first
    | exact wpAny_bind (wpAny_pure (wpAny_pure ⟨.none, rfl, wpAny_pure (hQ _ n' hfin (Heap.SameBut.update ..))⟩))
    | exact wpAny_pure ⟨.none, rfl, wpAny_pure (hQ _ n' hfin (Heap.SameBut.update ..))⟩

theorem St.write {env : Env} {ρ : Frm} {σ : Sto} {h' : Heap} {tk : Nat} {a : Nat} {xs : List V} {ws : List Value} {n : Nat} (S : St T env ρ σ s) (k : ∀ b o, b ≠ a → s.heap.get? b = some o → h'.get? b = some o) (ha : σ a ≠ none) (hB : T.objs.size ≤ a)
    (hl : IsL h' a (List.toArray ws) n) (hv : VRs s.heap xs ws) (hz : xs.length ≤ LIM) : St T env ρ (upd σ a xs) { s with heap := h', toks := tk } := by
  have hseq : ∀ o, s.heap.get? a = some o → ∃ ys m, o.data = .seq ys m := fun o e => by
    cases q : σ a with
    | none => exact absurd q ha
    | some ys =>
      obtain ⟨ws', m, h1, _, _⟩ := S.lists a ys q
      have h1 : s.heap.get? a = some _ := h1
      rw [h1] at e; cases e; exact ⟨_, _, rfl⟩
  have kt : Tups s.heap h' := fun b o e c => k b o (fun q => by subst q; exact ha (S.lists.none_of e (.inl (by rw [c.1]; decide)))) e
  refine ⟨fun b o e => k b o (fun q => ?_) (S.base b o e), S.lists.write k ha hl hv hz, S.frame.keeps kt fun b o e hd => k b o (fun q => ?_) e⟩
  · subst q
    exact absurd (Heap.lt_size e) (Nat.not_lt.mpr hB)
  · subst q
    obtain ⟨ys, m, e'⟩ := hseq o e
    exact hd _ _ e'

theorem okSto {o i e : ME} (ho : OkE prog w T C k o) (hi : OkE prog w T C k i) (he : OkE prog w T C k e) (hB : C.B = T.objs.size) : OkS prog w T C k (.sto o i e) := by
  intro sc st hc A env ρ σ Q s R ok S hw
  obtain ⟨o', i', p, e', pos, rfl, h1, h2, h3⟩ := invS_sto hc
  simp only [wpS] at hw
  refine wpAny_Assign_Subscript (wpAny_mono (he sc _ h3 A env ρ σ _ s R ok S hw) ?_ fun _ _ q => q) (by cases e' <;> rfl)
  rintro x s1 ⟨v, σ1, e1, hv, L1, hw1⟩
  have S1 := S.next e1 L1
  refine wpAny_mono (ho sc _ h1 A env ρ σ1 _ s1 R ok S1 hw1) ?_ fun _ _ q => q
  rintro y s2 ⟨a, σ2, e2, ha, L2, hw2⟩
  have S2 := S1.next e2 L2
  refine wpAny_mono (hi sc _ h2 A env ρ σ2 _ s2 R ok S2 hw2) ?_ fun _ _ q => q
  rintro z s3 ⟨b, σ3, e3, hb, L3, l, xs, j, rfl, hl, rfl, h0, hlt, hBl, hq⟩
  have S3 := S2.next e3 L3
  cases ha
  obtain ⟨t, rfl⟩ := hb
  obtain ⟨ws, n, hL, hvs, hz⟩ := L3 l xs hl
  have hv3 : VR s3.heap v x := (hv.keeps (e2.tups0 L1)).keeps (e3.tups0 L2)
  have hsz : (List.toArray ws).size = xs.length := by rw [List.size_toArray, hvs.length]
  have hL20 : LIM = 1048576 := rfl
  refine setItem_at (n := n) hL h0 (by omega) (by omega) fun h' n' hl' hs' => ?_
  have kk : ∀ b o, b ≠ l → s3.heap.get? b = some o → h'.get? b = some o := fun b o hb e => hs'.extBut b o hb e
  have hl'' : IsL h' l (List.toArray (ws.set j.toNat x)) n' := by
    have : (List.toArray ws).setIfInBounds j.toNat x = List.toArray (ws.set j.toNat x) := by simp
    rw [← this]; exact hl'
  have hne : σ3 l ≠ none := by rw [hl]; intro q; cases q
  rw [hB] at hBl
  refine ⟨.next, ρ, upd σ3 l (xs.set j.toNat v), ((e1.trans e2).trans e3).of0.trans (.write (tk := s3.toks) kk hne hBl ⟨_, hl''⟩), S3.write kk hne hBl hl'' (hvs.set hv3) (by rw [List.length_set]; exact hz), rfl, hq⟩

theorem swaps_not {e : Expr} (h : ∀ elt gens scope pos, e ≠ .ListComp elt gens scope pos) {sc : Scope} {me : ME} (hc : chkE sc me e = true) (t : Option Expr) (l : Nat) (env : Env) : swapsWith e t l env = pure false := by
  cases e <;> first | rfl | exact absurd rfl (h _ _ _ _) | (cases me <;> cases hc)

set_option maxHeartbeats 1000000 in
theorem okAsg {x : String} {e : ME} (he : OkE prog w T C k e) (hcomp : ∀ elt y it c, e = .comp elt y it c → OkI prog w T C k it ∧ OkT prog w T C k c ∧ OkE prog w T C k elt)
    (hcomp2 : ∀ elt y it z it2 c, e = .comp2 elt y it z it2 c → OkI prog w T C k it ∧ OkI prog w T C k it2 ∧ OkT prog w T C k c ∧ OkE prog w T C k elt) (hB : C.B = T.objs.size) : OkS prog w T C k (.asg x e) := by
  intro sc st hc A env ρ σ Q s R ok S hw
  obtain ⟨p, e', pos, rfl, hs, hce⟩ := invS_asg hc
  simp only [wpS] at hw
  have plain : swapsWith e' (some (.Name (Str.ofString x) p)) pos.line env = pure false → wpAny (model prog w) A (exec (.Assign [.Name (Str.ofString x) p] e' pos) env) (RetS T env σ s Q) No s := fun hsw => by
    refine wpAny_Assign_Name (wpAny_mono (he sc _ hce A env ρ σ _ s R ok S hw) ?_ fun _ _ q => q) hsw
    rintro y s1 ⟨v, σ1, e1, hv, L1, hq⟩
    exact store_st ok (S.next e1 L1) hs hv fun h' tk e2 S2 _ => ⟨.next, _, σ1, e1.of0.trans e2, S2, rfl, hq⟩
  by_cases hlc : ∃ elt gens scope pos, e' = .ListComp elt gens scope pos
  · obtain ⟨elt, gens, scope, pos', rfl⟩ := hlc
    have hsw : ∃ b, swapsWith (.ListComp elt gens scope pos') (some (.Name (Str.ofString x) p)) pos.line env = pure b := ⟨_, rfl⟩
    obtain ⟨b, hsw⟩ := hsw
    cases b with
    | false => exact plain hsw
    | true =>
      rw [exec_Assign_Name_used _ _ _ _ hsw]
      refine wpAny_bind (wpAny_standAt (wpAny_bind ?_))
      have fin : ∀ D L m s', Ret T.objs.size σ s (fun v σ1 => Q .next (setv ρ x v) σ1) (.ref D) s' → s.heap.get? L = none → s'.heap.Ns L m →
          compPost (model prog w) A No (some (assign (.Name (Str.ofString x) p) env)) (fun _ s' => RetS T env σ s Q .next s') (.ref D) L (.ok .next) s' := by
        rintro D L m s' ⟨v, σ1, e1, hv, L1, hq⟩ hL hn
        show wpAny _ A (assign (.Name (Str.ofString x) p) env (.ref D)) _ _ _
        refine wpAny_assign_Name (store_st ok (S.next e1 L1) hs hv fun h' tk e2 S2 ⟨b₀, hb₀, ⟨ob, hob, hdc⟩, k'⟩ => ?_)
        have here : ∀ a, Df env a → ∃ o, s.heap.get? a = some o := fun a ha => by
          rcases ha with rfl | ⟨y, q1, q2⟩
          · obtain ⟨m, hn, _⟩ := S.frame.locs
            obtain ⟨o, _, _, ho, _⟩ := nsData hn
            exact ⟨o, ho⟩
          · obtain ⟨c, w', e, o, ho, _⟩ := S.frame.cells y (.inl q1)
            rw [q2] at e; cases e
            exact ⟨o, ho⟩
        have hLb : L ≠ b₀ := fun q => by
          obtain ⟨o, ho⟩ := here b₀ hb₀
          rw [← q, hL] at ho; cases ho
        have hn2 : h'.Ns L m := hn.at' fun o e => k' _ _ hLb e
        refine ⟨m, hn2, fun h'' hs'' => ?_⟩
        obtain ⟨oL, es, ep, hoL, hdL⟩ := nsData hn2
        have hI : ∀ o, h'.get? L = some o → ∀ xs n, o.data ≠ .seq xs n := fun o' e' => by rw [hoL] at e'; cases e'; rw [hdL]; intro _ _ q; cases q
        have k2 : ∀ b o, b ≠ L → h'.get? b = some o → h''.get? b = some o := fun b o hb e => hs''.extBut b o hb e
        have hTL : T.get? L = none := by
          cases q : T.get? L with
          | none => rfl
          | some o => have := S.base _ _ q; rw [hL] at this; cases this
        refine ⟨.next, _, σ1, (e1.of0.trans e2).but (tk := tk) k2 hL, S2.but (tk := tk) k2 hI hTL (S2.frame.at k2 hI (fun q => ?_) fun y c hy e q => ?_), rfl, hq⟩
        · obtain ⟨o, ho⟩ := here _ (.inl rfl)
          rw [q, hL] at ho; cases ho
        · obtain ⟨c', w', e', o, ho, _⟩ := S.frame.cells y hy
          rw [e] at e'; cases e'
          rw [q, hL] at ho; cases ho
      by_cases h1 : ∃ elt y it c, e = .comp elt y it c
      · obtain ⟨elt', y, it, c, rfl⟩ := h1
        obtain ⟨oi, oc, oe⟩ := hcomp _ _ _ _ rfl
        obtain ⟨elt2, p2, iter, ifs, scope2, pos2, heq, g1, g2, g3, g4⟩ := inv_comp hce
        cases heq
        show wpAny _ A (do let _ ← comprehension (.ListComp elt [⟨.Name (Str.ofString y) p2, iter, ifs, 0⟩] scope pos') scope env _ (newList []) false (eval iter env) (some (assign (.Name (Str.ofString x) p) env))) _ _ s
        exact wpAny_bind (wpAny_mono (comp1_run (use := some (assign (.Name (Str.ofString x) p) env)) (E := No) (Q' := fun _ s' => RetS T env σ s Q .next s') R ok S oi oc oe g1 (block_of g2) g3 g4 hB hw fin) (fun _ s' hq => wpAny_pure (wpAny_pure hq)) fun _ _ e => e)
      by_cases h2 : ∃ elt y it z it2 c, e = .comp2 elt y it z it2 c
      · obtain ⟨elt', y, it, z, it2, c, rfl⟩ := h2
        obtain ⟨oi, oi2, oc, oe⟩ := hcomp2 _ _ _ _ _ _ rfl
        obtain ⟨elt2, p2, iter, q2, iter2, ifs, scope2, pos2, heq, hxy, g1, g2, g3, g4, g5⟩ := inv_comp2 hce
        cases heq
        show wpAny _ A (do let _ ← comprehension (.ListComp elt [⟨.Name (Str.ofString y) p2, iter, [], 0⟩, ⟨.Name (Str.ofString z) q2, iter2, ifs, 0⟩] scope pos') scope env _ (newList []) false (eval iter env) (some (assign (.Name (Str.ofString x) p) env))) _ _ s
        exact wpAny_bind (wpAny_mono (comp2_run (use := some (assign (.Name (Str.ofString x) p) env)) (E := No) (Q' := fun _ s' => RetS T env σ s Q .next s') R ok S oi oi2 oc oe hxy g1 (block_of g2) g3 g4 g5 hB hw fin) (fun _ s' hq => wpAny_pure (wpAny_pure hq)) fun _ _ e => e)
      exfalso
      cases e <;> first | exact h1 ⟨_, _, _, _, rfl⟩ | exact h2 ⟨_, _, _, _, _, _, rfl⟩ | cases hce
  · exact plain (swaps_not (fun a b c d q => hlc ⟨a, b, c, d, q⟩) hce _ _ _)

theorem inv_names {sc : Scope} {x : String} {xs : List String} {ts : List Expr} (h : chkNames sc (x :: xs) ts = true) : ∃ p ts', ts = .Name (Str.ofString x) p :: ts' ∧ storeOk sc x = true ∧ chkNames sc xs ts' = true := by
  cases ts with
  | nil => simp only [chkNames, Bool.false_eq_true] at h
  | cons t ts =>
    cases t <;> simp only [chkNames, Bool.false_eq_true, Bool.and_eq_true, beq_iff_eq] at h
    obtain ⟨⟨rfl, h1⟩, h2⟩ := h
    exact ⟨_, _, rfl, h1, h2⟩
theorem inv_names0 {sc : Scope} {ts : List Expr} (h : chkNames sc [] ts = true) : ts = [] := by
  cases ts with
  | nil => rfl
  | cons t ts => simp only [chkNames, Bool.false_eq_true] at h

theorem names_each {sc : Scope} {env : Env} (xs : List String) : ∀ {ts : List Expr}, chkNames sc xs ts = true → (assignEach ts env).length = xs.length ∧ (assignEach ts env).findIdx? (·.1) = none := by
  induction xs with
  | nil => intro ts h; cases inv_names0 h; exact ⟨rfl, rfl⟩
  | cons x xs ih =>
    intro ts h
    obtain ⟨p, ts', rfl, h0, h1⟩ := inv_names h
    obtain ⟨h1, h2⟩ := ih h1
    show ((false, assign (.Name (Str.ofString x) p) env) :: assignEach ts' env).length = _ ∧ ((false, assign (.Name (Str.ofString x) p) env) :: assignEach ts' env).findIdx? (·.1) = none
    refine ⟨by simp [h1], ?_⟩
    rw [List.findIdx?_cons]
    simp [h2]

theorem assign_all {sc : Scope} {env : Env} (ok : EnvOk T.objs.size sc env) {Q : Unit → Shared → Prop} (xs : List String) : ∀ {ts : List Expr} {as : List Nat} {ρ : Frm} {σ : Sto} {s : Shared}, chkNames sc xs ts = true → as.length = xs.length → St T env ρ σ s →
    (∀ s', Ext (Df env) T.objs.size σ σ s s' → St T env (setRefs xs as ρ) σ s' → Q () s') → wpAny (model prog w) A (assignInOrder ((assignEach ts env).map (·.2)) (as.map .ref)) Q E s := by
  induction xs with
  | nil =>
    intro ts as ρ σ s hc hl S h
    cases inv_names0 hc
    cases List.length_eq_zero_iff.mp hl
    exact wpAny_pure (h s (.refl _ _ _ _) S)
  | cons x xs ih =>
    intro ts as ρ σ s hc hl S h
    obtain ⟨p, ts', rfl, h1, h2⟩ := inv_names hc
    cases as with
    | nil => cases hl
    | cons a as =>
      show wpAny _ A (do holding (as.map .ref) (assign (.Name (Str.ofString x) p) env (.ref a)); assignInOrder ((assignEach ts' env).map (·.2)) (as.map .ref)) _ _ _
      refine wpAny_bind (wpAny_holding (wpAny_assign_Name (store_st ok S h1 (v := .ref a) rfl fun h' tk e S' _ => ?_)))
      exact ih h2 (by simpa using hl) S' fun s' e' S'' => h s' (e.trans e') S''

theorem okUnpk {xs : List String} {e : ME} (he : OkE prog w T C k e) : OkS prog w T C k (.unpk xs e) := by
  intro sc st hc A env ρ σ Q s R ok S hw
  obtain ⟨ts, kd, tp, y, p, pos, rfl, h1, h2⟩ := invS_unpk hc
  simp only [wpS] at hw
  refine Assign_Tuple (wpAny_mono (he sc _ h2 A env ρ σ _ s R ok S hw) ?_ fun _ _ q => q)
  rintro z s1 ⟨v, σ1, e1, hv, L1, as, rfl, hlen, hq⟩
  have S1 := S.next e1 L1
  obtain ⟨a, n, rfl, ho⟩ := hv
  obtain ⟨g1, g2⟩ := names_each (env := env) xs h1
  refine wpAny_assign_Tuple (items := (as.map Value.ref).toArray) R.hh ⟨_, ho, rfl, n, rfl⟩ (by rw [g1]; simp [hlen]) g2 fun h' he => ?_
  have kk : ∀ b o, s1.heap.get? b = some o → h'.get? b = some o := fun b o e => he b o (Nat.ne_of_lt (Heap.lt_size e)) e
  have S2 : St T env ρ σ1 { s1 with heap := h' } := ⟨fun a o e => kk _ _ (S1.base a o e), S1.lists.grow kk, S1.frame.keeps (.grow kk) fun a o e _ => kk a o e⟩
  exact assign_all ok xs h1 hlen S2 fun s' e' S' => ⟨.next, _, σ1, (e1.of0.trans (.grow (tk := s1.toks) kk)).trans e', S', rfl, hq⟩
end
end Mini
end

section
open PySem PyProof.Rows
open PySem.SeqAt

namespace Mini
section
variable {prog : Program} {w : World} {T : Heap} {mg mb : Str → Option Value} {C : Cx} {k : Nat} (W : Wd T mg mb C.gl) (H : SpOk prog w T mg C k) (hB : C.B = T.objs.size)
include W H hB

mutual
theorem sE : ∀ e : ME, OkE prog w T C k e
  | .none => okNone
  | .bool b => okBool b
  | .int i => okInt i
  | .var x => okVar x
  | .glob x => okGlob W x
  | .bin _ l r => okBin (sE l) (sE r) hB
  | .neg e => okNeg (sE e)
  | .cmp _ l r => okCmp (sE l) (sE r)
  | .and l r => okAnd (sE l) (sE r)
  | .or l r => okOr (sE l) (sE r)
  | .not e => okNot (sE e)
  | .ite c a b => okIte (sT c) (sE a) (sE b)
  | .sub o i => okSub (sE o) (sE i)
  | .slFrom o lo _ => okSlFrom (sE o) (sE lo) hB
  | .slTo o _ => okSlTo (sE o) hB
  | .sl2 o _ _ => okSl2 (sE o) hB
  | .list es => okList (sEs es) hB
  | .tup es => okTup (sEs es)
  | .comp elt _ it c => okComp (sI it) (sT c) (sE elt) hB
  | .comp2 elt _ it _ it2 c => okComp2 (sI it) (sI it2) (sT c) (sE elt) hB
  | .call _ args => okCall W H (sEs args)
  | .blt _ args => okBlt W (sEs args) hB
  | .meth _ o args => okMeth (sE o) (sEs args) hB
theorem sT : ∀ t : MT, OkT prog w T C k t
  | .tt => okTT
  | .not t => okTNot (sT t)
  | .and l r => okTAnd (sT l) (sT r)
  | .or l r => okTOr (sT l) (sT r)
  | .cmp _ l r => okTCmp (sE l) (sE r)
  | .of e => okTOf (sE e)
theorem sI : ∀ i : MI, OkI prog w T C k i
  | .r1 e => okR1 W (sE e)
  | .r2 a b => okR2 W (sE a) (sE b)
  | .down a b => okDown W (sE a) (sE b)
  | .rev e => okRev W (sE e)
  | .val e => okVal (sE e)
theorem sEs : ∀ es : MEs, OkEs prog w T C k es
  | .nil => okNil
  | .cons e r => okCons (sE e) (sEs r)
end

mutual
theorem sS : ∀ m : MS, OkS prog w T C k m
  | .expr e => okExpr (sE W H hB e)
  | .asg _ e => okAsg (sE W H hB e) (fun _ _ _ _ _ => ⟨sI W H hB _, sT W H hB _, sE W H hB _⟩) (fun _ _ _ _ _ _ _ => ⟨sI W H hB _, sI W H hB _, sT W H hB _, sE W H hB _⟩) hB
  | .sto o i e => okSto (sE W H hB o) (sE W H hB i) (sE W H hB e) hB
  | .unpk _ e => okUnpk (sE W H hB e)
  | .ite c a b => okIteS (sT W H hB c) (sB a) (sB b)
  | .whl c b => okWhl (sT W H hB c) (sB b)
  | .for_ _ it b => okFor (sI W H hB it) (sB b)
  | .ret e => okRet (sE W H hB e)
  | .brk => okBrk
  | .cont => okCont
theorem sB : ∀ m : MB, OkB prog w T C k m
  | .nil => okNilB
  | .cons s r => okConsB (sS s) (sB r)
end
end

/-! calls -/
structure FnOk (T : Heap) (mg : Str → Option Value) (f : String) (d : FD) (fa : Addr) (o : Obj) (fd : FuncData) (body : List Stmt) : Prop where
  at_ : mg (Str.ofString f) = some (.ref fa)
  here : T.get? fa = some o
  data : o.data = .func fd
  bod : fd.body = .stmts body
  clo : fd.closure = []
  globals : fd.globals = mainGlobals
  builtins : fd.builtins = builtinsNs
  co : fd.scope.isCoroutine = false
  gen : fd.scope.isGenerator = false
  kind : fd.scope.kind = .function
  code : T.CodeRec fd.code fd.qualname
  binds : ∀ vals : List Value, vals.length = d.params.length → bindArgs fd ⟨vals, []⟩ = pure ((d.params.map Str.ofString).zip vals)
  chk : chkB fd.scope d.body body = true
  pars : ∀ x ∈ d.params, storeOk fd.scope x = true
  nodup : d.params.Nodup
  names : ∀ n ∈ fd.scope.names, n.2 ≠ .free ∧ (n.2 = .cell → fd.scope.names.lookup n.1 = some .cell)

theorem bindL_out {kindOf : Str → Option NameKind} {y : Str} : ∀ {binds : List (Str × Value)} {m : Str → Option Value}, (∀ p ∈ binds, p.1 ≠ y) → bindL kindOf binds m y = m y
  | [], _, _ => rfl
  | (n, v) :: r, m, h => by
    unfold bindL
    rw [bindL_out fun p hp => h p (List.mem_cons_of_mem _ hp)]
    have : n ≠ y := h (n, v) List.mem_cons_self
    split
    · simp [Ne.symm this]
    · rfl
theorem bindC_out {kindOf : Str → Option NameKind} {y : Str} : ∀ {binds : List (Str × Value)} {m : Str → Option Value}, (∀ p ∈ binds, p.1 ≠ y) → bindC kindOf binds m y = m y
  | [], _, _ => rfl
  | (n, v) :: r, m, h => by
    unfold bindC
    rw [bindC_out fun p hp => h p (List.mem_cons_of_mem _ hp)]
    have : n ≠ y := h (n, v) List.mem_cons_self
    split
    · rfl
    · simp [Ne.symm this]

theorem zip_names {ps : List String} {ws : List Value} {p : Str × Value} (h : p ∈ (ps.map Str.ofString).zip ws) : ∃ x ∈ ps, Str.ofString x = p.1 := by
  obtain ⟨a, b⟩ := p
  have := (List.of_mem_zip h).1
  simpa using this

theorem bind_spec {h : Heap} {kindOf : Str → Option NameKind} : ∀ {ps : List String} {vs : List V} {ws : List Value}, ps.Nodup → ps.length = vs.length → VRs h vs ws → ∀ (m cm : Str → Option Value) (x : String) (v : V), bindF ps vs x = some v →
    (kindOf (Str.ofString x) = some .local → ∃ y, bindL kindOf ((ps.map Str.ofString).zip ws) m (Str.ofString x) = some y ∧ VR h v y) ∧
    (kindOf (Str.ofString x) ≠ some .local → ∃ y, bindC kindOf ((ps.map Str.ofString).zip ws) cm (Str.ofString x) = some y ∧ VR h v y)
  | [], [], _, _, _, _, _, _, _, _, e => by cases e
  | p :: ps, v :: vs, w :: ws, nd, hl, ⟨hv, hr⟩, m, cm, x, u, e => by
    obtain ⟨n1, n2⟩ := List.nodup_cons.mp nd
    unfold bindF at e
    unfold setv at e
    show (kindOf (Str.ofString x) = some .local → ∃ y, bindL kindOf ((Str.ofString p, w) :: (ps.map Str.ofString).zip ws) m (Str.ofString x) = some y ∧ VR h u y) ∧ (kindOf (Str.ofString x) ≠ some .local → ∃ y, bindC kindOf ((Str.ofString p, w) :: (ps.map Str.ofString).zip ws) cm (Str.ofString x) = some y ∧ VR h u y)
    by_cases q : x = p
    · subst q
      rw [if_pos rfl] at e
      cases e
      have out : ∀ q ∈ (ps.map Str.ofString).zip ws, q.1 ≠ Str.ofString x := fun q hq e' => by
        obtain ⟨z, hz, e''⟩ := zip_names hq
        rw [← e''] at e'
        exact n1 (ofString_inj e' ▸ hz)
      refine ⟨fun hk => ⟨w, ?_, hv⟩, fun hk => ⟨w, ?_, hv⟩⟩
      · unfold bindL; rw [bindL_out out, if_pos hk]; simp
      · unfold bindC; rw [bindC_out out, if_neg hk]; simp
    · rw [if_neg q] at e
      have ih := fun m cm => bind_spec (kindOf := kindOf) n2 (by simpa using hl) hr m cm x u e
      exact ⟨fun hk => by unfold bindL; exact (ih _ cm).1 hk, fun hk => by unfold bindC; exact (ih m _).2 hk⟩
  | [], _ :: _, _, _, hl, _, _, _, _, _, _ => by cases hl
  | _ :: _, [], _, _, hl, _, _, _, _, _, _ => by cases hl
  | _ :: _, _ :: _, [], _, _, x, _, _, _, _, _ => x.elim

theorem Ext.under {D : Nat → Prop} {B : Nat} {σ σ' : Sto} {s s₁ s' : Shared} (x : Ext N0 B σ σ s s₁) (y : Ext D B σ σ' s₁ s') (hD : ∀ a o, s.heap.get? a = some o → ¬ D a) : Ext N0 B σ σ' s s' where
  keep a o e c _ := y.keep a o (x.keep a o e c id) c (hD a o e)
  none a o e q := let ⟨_, e'⟩ := x.there a o e; y.none a _ e' (x.none a o e q)
  there a o e := let ⟨_, e'⟩ := x.there a o e; y.there a _ e'
  gens := y.gens.trans x.gens
  os := y.os.trans x.os

section
variable {prog : Program} {w : World} {T : Heap} {mg mb : Str → Option Value} {gl : String → Option V} {P : String → Option FD}

/-- all defs at level k -/
theorem spOk (W : Wd T mg mb gl) (hP : ∀ f d, P f = some d → ∃ fa o fd body, FnOk T mg f d fa o fd body) : ∀ k, SpOk prog w T mg ⟨T.objs.size, Sp T.objs.size gl P k, gl, fun f => (P f).isSome⟩ k := by
  intro k
  induction k with
  | zero =>
    intro f hf
    obtain ⟨d, hd⟩ := Option.isSome_iff_exists.mp hf
    obtain ⟨fa, o, fd, body, F⟩ := hP f d hd
    exact ⟨fa, o, fd, F.at_, F.here, F.data, fun A vs σ Q ws s _ _ _ _ _ h => by exact h.elim⟩
  | succ k ih =>
    intro f hf
    obtain ⟨d, hd⟩ := Option.isSome_iff_exists.mp hf
    obtain ⟨fa, o, fd, body, F⟩ := hP f d hd
    refine ⟨fa, o, fd, F.at_, F.here, F.data, fun A vs σ Q ws s R base L hsz hv h => ?_⟩
    obtain ⟨d', hd', hlen, hw⟩ := h
    rw [hd] at hd'; cases hd'
    have hwl : ws.length = d.params.length := by rw [← hv.length]; exact hlen
    have hkind : ∀ x ∈ (d.params.map Str.ofString).zip ws, fd.scope.names.lookup x.1 = some .local ∨ (fd.scope.names.lookup x.1 = some .cell ∧ ((cellsFrom (s.heap.objs.size + 1) fd.scope.names []).lookup x.1).isSome = true) := fun x hx => by
      obtain ⟨y, hy, e⟩ := zip_names hx
      rw [← e]
      rcases storeOk_of (F.pars y hy) with h | h
      · exact .inl h
      · obtain ⟨c, hc⟩ := cellsFrom_mem (k := s.heap.objs.size + 1) (mem_of_lookup h)
        obtain ⟨c', hc'⟩ := lookup_of_mem hc
        exact .inr ⟨h, by rw [hc']; rfl⟩
    refine wpAny_call (codeAny_call_cells (by have := R.depth; omega) (base _ _ F.here) F.data (W.lim.keeps base) (F.code.keeps base) F.bod (F.binds ws hwl) F.clo hkind (fun s₁ X => ?_) F.co F.gen F.kind)
    generalize henv : callEnvC fd s.heap.objs.size fa = env at X ⊢
    have hsc : env.scope = fd.scope := by rw [← henv]; rfl
    have hloc : env.locals = s.heap.objs.size := by rw [← henv]; rfl
    have hcel : env.cells = cellsFrom (s.heap.objs.size + 1) fd.scope.names [] := by rw [← henv]; rfl
    have ok : EnvOk T.objs.size fd.scope env := ⟨hsc, F.kind, by rw [← henv]; exact F.globals, by rw [← henv]; exact F.builtins, by rw [hloc]; exact hsz, fun x y c hx hy => name_of_addr X.apart (mem_of_lookup hx) (mem_of_lookup hy),
      fun x c hx => by have := X.above x c (mem_of_lookup hx); rw [hloc] at this; exact Nat.le_trans hsz (Nat.le_of_lt this)⟩
    obtain ⟨h', tk, hs1, keep⟩ := X.done
    have k1 : ∀ b o, s.heap.get? b = some o → s₁.heap.get? b = some o := fun b o e => by rw [hs1]; exact keep b o e
    have e1 : Ext N0 T.objs.size σ σ s s₁ := by rw [hs1]; exact .grow keep
    have hv1 : VRs s₁.heap vs ws := hv.keeps (.grow k1)
    have nofree : ∀ x, fd.scope.names.lookup x ≠ some .free := fun x e => (F.names _ (mem_of_lookup e)).1 rfl
    have St1 : St T env (bindF d.params vs) σ s₁ := by
      refine ⟨fun a o e => k1 _ _ (base a o e), L.grow k1, ⟨⟨_, X.toInCall.ns, fun x v hx hk hxv => ?_⟩, fun x hx => ?_, fun x v hx hk hxv => ?_⟩⟩
      · exact (bind_spec F.nodup hlen.symm hv1 _ (fun _ => none) x v hxv).1 hk
      · rw [ok.kk] at hx
        rcases hx with hx | hx
        · obtain ⟨c, hc⟩ := cellsFrom_mem (k := s.heap.objs.size + 1) (mem_of_lookup hx)
          obtain ⟨c', hc'⟩ := lookup_of_mem hc
          rw [← hcel] at hc'
          exact ⟨c', _, hc', X.cell x c' hc'⟩
        · exact absurd hx (nofree x)
      · rw [ok.kk] at hk
        rcases hk with hk | hk
        · obtain ⟨c, hc⟩ := cellsFrom_mem (k := s.heap.objs.size + 1) (mem_of_lookup hk)
          obtain ⟨c', hc'⟩ := lookup_of_mem hc
          rw [← hcel] at hc'
          obtain ⟨y, hy, hr⟩ := (bind_spec (kindOf := env.kindOf) F.nodup hlen.symm hv1 (fun _ => none) (fun _ => none) x v hxv).2 (by rw [ok.kk, hk]; decide)
          exact ⟨c', y, hc', hy ▸ X.cell _ c' hc', hr⟩
        · exact absurd hk (nofree _)
    have R1 : Rm (A.deeper env) k := ⟨R.hh, by show A.depth + 1 + k < recursionLimit; have := R.depth; omega, by show A.units + 3 + 3 * k + 200 < cLine; have := R.units; omega⟩
    have hbody := sB (C := ⟨T.objs.size, Sp T.objs.size gl P k, gl, fun f => (P f).isSome⟩) W ih rfl d.body _ _ F.chk (A.deeper env) env _ σ _ s₁ R1 ok St1 hw
    refine wpAny_mono hbody ?_ fun _ _ q => q.elim
    rintro fl s' ⟨f', ρ', σ', e2, S2, hf, hq⟩
    have hD : ∀ a o, s.heap.get? a = some o → ¬ Df env a := fun a o e q => by
      have hlt := Heap.lt_size e
      rcases q with q | ⟨y, q1, q2⟩
      · rw [q, hloc] at hlt; exact Nat.lt_irrefl _ hlt
      · have := X.above y a (mem_of_lookup q2)
        rw [hloc] at this
        exact Nat.lt_irrefl _ (Nat.lt_trans hlt this)
    have e3 := e1.under e2 hD
    cases f' with
    | next => cases hf; exact ⟨.none, σ', e3, rfl, S2.lists, hq⟩
    | ret v => obtain ⟨x, rfl, hx⟩ := hf; exact ⟨v, σ', e3, hx, S2.lists, hq⟩
    | brk => exact hq.elim
    | cont => exact hq.elim
end
end Mini
end

section
open PySem PyProof.Rows
open PySem.SeqAt

namespace Mini

theorem zip_lookup {n : Str} {v : Value} : ∀ {names : List Str} {vals : List Value}, names.Nodup → (n, v) ∈ names.zip vals → (names.zip vals).lookup n = some v
  | a :: as, b :: bs, nd, h => by
    rw [List.zip_cons_cons] at h ⊢
    rw [List.lookup_cons]
    obtain ⟨n1, n2⟩ := List.nodup_cons.mp nd
    rcases List.mem_cons.mp h with e | h
    · cases e; simp
    · have : n ≠ a := fun e => n1 (e ▸ (List.of_mem_zip h).1)
      have hb : (n == a) = false := by simpa using this
      rw [hb]
      exact zip_lookup n2 h

theorem bind_names {names all : List Str} {vals : List Value} (f : Str → Option Value) (hl : names.length = vals.length) (h : ∀ p ∈ names.zip vals, f p.1 = some p.2) : (names.filterMap fun n => (f n).map (n, ·)) = names.zip vals := by
  induction names generalizing vals with
  | nil => rfl
  | cons a as ih =>
    cases vals with
    | nil => cases hl
    | cons b bs =>
      have h1 := h (a, b) (by simp)
      simp only [List.filterMap_cons, h1, Option.map_some, List.zip_cons_cons]
      rw [ih (by simpa using hl) fun p hp => h p (by rw [List.zip_cons_cons]; exact List.mem_cons_of_mem _ hp)]

theorem bindArgs_plain {fd : FuncData} {vals : List Value} (h1 : fd.params.posonlyargs = []) (h2 : fd.params.kwonlyargs = []) (h3 : fd.params.vararg = none) (h4 : fd.params.kwarg = none) (h5 : fd.defaults = .none)
    (nd : (fd.params.args.map (·.arg)).Nodup) (hl : vals.length = fd.params.args.length) : bindArgs fd ⟨vals, []⟩ = pure ((fd.params.args.map (·.arg)).zip vals) := by
  have hs : seqItems? fd.defaults = pure none := by rw [h5]; rfl
  have hall : ∀ p ∈ (fd.params.args.map (·.arg)).zip vals, ((fd.params.args.map (·.arg)).zip vals).lookup p.1 = some p.2 := fun p hp => zip_lookup nd hp
  have hf : ((fd.params.args.map (·.arg)).filterMap fun n => (((fd.params.args.map (·.arg)).zip vals).lookup n).map (n, ·)) = (fd.params.args.map (·.arg)).zip vals := bind_names (all := []) _ (by simp [hl]) hall
  have hm : ((fd.params.args.map (·.arg)).filter fun n => (((fd.params.args.map (·.arg)).zip vals).lookup n).isNone) = [] := by
    rw [List.filter_eq_nil_iff]
    intro n hn
    obtain ⟨i, hi, e⟩ := List.mem_iff_getElem.mp hn
    have hi' : i < vals.length := by rw [hl]; simpa using hi
    have : (n, vals[i]) ∈ (fd.params.args.map (·.arg)).zip vals := by
      rw [List.mem_iff_getElem]
      exact ⟨i, by simp at hi ⊢; omega, by simp at e ⊢; exact e⟩
    rw [hall _ this]
    simp
  unfold bindArgs
  simp only [h1, h2, h3, h4, hs, List.map_nil, List.nil_append, List.forIn_nil, pure_bind, List.append_nil]
  simp only [List.length_map, hl, Option.getD_none, List.length_nil, List.drop_nil, Nat.sub_zero, List.take_of_length_le, Nat.le_refl, hm, List.drop_length, List.zip_nil_right, List.zip_nil_left]
  rw [if_neg (by simp)]
  simp only [List.isEmpty_nil, Bool.not_true, Bool.false_eq_true, if_false, List.forIn_nil, pure_bind, hf]

/-! the world of a text's main module -/
def freeOk (p : Program) (loose : List Str) (x : Str) : Bool :=
  !startupNames.contains x && !loose.contains x && !((recsOf p).map (·.name)).contains x && !((litsOf p).map (·.1)).contains x && !((clssOf p loose).map (·.name)).contains x

theorem free_of {p : Program} {loose : List Str} {mean : ExcName → Option Value} {mg mb : Str → Option Value} {h : Heap} (T : Top p loose mean mg mb h) {x : Str} (hx : freeOk p loose x = true) : mg x = none := by
  unfold freeOk at hx
  simp only [Bool.and_eq_true, Bool.not_eq_true', List.contains_eq_mem, decide_eq_false_iff_not] at hx
  exact T.free x hx.1.1.1.1 hx.1.1.1.2 hx.1.1.2 hx.1.2 hx.2

def allNames : List Str := ["len", "sum", "max", "min", "sorted", "list", "abs", "range", "reversed"]

theorem wd_of {p : Program} {loose : List Str} {mean : ExcName → Option Value} {mg mb : Str → Option Value} {h : Heap} {gl : String → Option V} (T : Top p loose mean mg mb h) (hx : (allNames.all (freeOk p loose)) = true)
    (hgl : ∀ x v, gl x = some v → ∃ y, mg (Str.ofString x) = some y ∧ VR h v y) : Wd h mg mb gl := by
  have hf : ∀ x ∈ allNames, mg x = none := fun x h => free_of T (List.all_eq_true.mp hx x h)
  refine ⟨T.g, T.b, T.nolimit, fun f => ?_, ?_, ?_, hgl⟩
  · cases f
    · exact ⟨hf "len" (by simp [allNames]), (T.builtins "len" (by decide)).trans rfl⟩
    · exact ⟨hf "sum" (by simp [allNames]), (T.builtins "sum" (by decide)).trans rfl⟩
    · exact ⟨hf "max" (by simp [allNames]), (T.builtins "max" (by decide)).trans rfl⟩
    · exact ⟨hf "min" (by simp [allNames]), (T.builtins "min" (by decide)).trans rfl⟩
    · exact ⟨hf "sorted" (by simp [allNames]), (T.builtins "sorted" (by decide)).trans rfl⟩
    · exact ⟨hf "list" (by simp [allNames]), (T.builtins "list" (by decide)).trans rfl⟩
    · exact ⟨hf "abs" (by simp [allNames]), (T.builtins "abs" (by decide)).trans rfl⟩
  · exact ⟨hf "range" (by simp [allNames]), (T.builtins "range" (by decide)).trans rfl⟩
  · exact ⟨hf "reversed" (by simp [allNames]), (T.builtins "reversed" (by decide)).trans rfl⟩

def recOk (r : DefRec) (f : String) (d : FD) : Bool :=
  r.name == Str.ofString f && r.params.posonlyargs.isEmpty && r.params.kwonlyargs.isEmpty && r.params.vararg.isNone && r.params.kwarg.isNone && (r.params.args.map (·.arg)) == d.params.map Str.ofString && decide d.params.Nodup &&
  d.params.all (storeOk r.scope) && r.scope.kind == .function && !r.scope.isGenerator && !r.scope.isCoroutine && (r.scope.names.all fun x => x.2 != .free && (x.2 != .cell || r.scope.names.lookup x.1 == some .cell)) && chkB r.scope d.body r.body

theorem nodup_map {ps : List String} (h : ps.Nodup) : (ps.map Str.ofString).Nodup := by
  induction ps with
  | nil => exact .nil
  | cons a as ih =>
    obtain ⟨h1, h2⟩ := List.nodup_cons.mp h
    refine List.nodup_cons.mpr ⟨fun hm => ?_, ih h2⟩
    obtain ⟨b, hb, e⟩ := List.mem_map.mp hm
    exact h1 (ofString_inj e ▸ hb)

theorem fnOk_of {p : Program} {loose : List Str} {mean : ExcName → Option Value} {mg mb : Str → Option Value} {h : Heap} (T : Top p loose mean mg mb h) {r : DefRec} (hr : r ∈ recsOf p) {f : String} {d : FD} (hk : recOk r f d = true) :
    ∃ fa o fd body, FnOk h mg f d fa o fd body := by
  unfold recOk at hk
  simp only [Bool.and_eq_true, beq_iff_eq, decide_eq_true_eq, List.isEmpty_iff, Option.isNone_iff_eq_none, Bool.not_eq_true', List.all_eq_true, bne_iff_ne, ne_eq, Bool.or_eq_true] at hk
  obtain ⟨⟨⟨⟨⟨⟨⟨⟨⟨⟨⟨⟨h1, h2⟩, h3⟩, h4⟩, h5⟩, h6⟩, h7⟩, h8⟩, h9⟩, h10⟩, h11⟩, h12⟩, h13⟩ := hk
  obtain ⟨a, o, pm, code, doc, g1, g2, g3, g4⟩ := T.fn r hr
  refine ⟨a, o, _, r.body, by rw [← h1]; exact g1, g2, g3, rfl, rfl, rfl, rfl, h11, h10, h9, g4, fun vals hl => ?_, h13, h8, h7, fun n hn => ⟨(h12 n hn).1, fun e => ?_⟩⟩
  · have hlen : r.params.args.length = d.params.length := by
      have := congrArg List.length h6
      simpa using this
    have hb := bindArgs_plain (fd := Calls.docDef r.name r.params r.body r.scope pm code doc) (vals := vals) h2 h3 h4 h5 rfl (by show (r.params.args.map (·.arg)).Nodup; rw [h6]; exact nodup_map h7) (by show vals.length = r.params.args.length; rw [hlen]; exact hl)
    rw [hb]
    show pure ((r.params.args.map (·.arg)).zip vals) = _
    rw [h6]
  · rcases (h12 n hn).2 with q | q
    · exact absurd e q
    · exact q

theorem mem_of_lookupS {α : Type} : ∀ {l : List (String × α)} {n : String} {c : α}, l.lookup n = some c → (n, c) ∈ l
  | (k, v) :: r, n, c, h => by
    rw [List.lookup_cons] at h
    cases hb : n == k with
    | true => rw [hb] at h; cases h; rw [beq_iff_eq.mp hb]; exact List.mem_cons_self
    | false => rw [hb] at h; exact List.mem_cons_of_mem _ (mem_of_lookupS h)

theorem fns_of {p : Program} {loose : List Str} {mean : ExcName → Option Value} {mg mb : Str → Option Value} {h : Heap} (T : Top p loose mean mg mb h) {tbl : List (String × FD)} (hc : (tbl.all fun x => (recsOf p).any fun r => recOk r x.1 x.2) = true) :
    ∀ f d, tbl.lookup f = some d → ∃ fa o fd body, FnOk h mg f d fa o fd body := fun f d e => by
  have := List.all_eq_true.mp hc _ (mem_of_lookupS e)
  obtain ⟨r, hr, hk⟩ := List.any_eq_true.mp this
  exact fnOk_of T hr hk

/-- the whole call -/
theorem run_law {prog : Program} {p : Program} {loose : List Str} {mean : ExcName → Option Value} {mg mb : Str → Option Value} {w : World} {s : Shared} {gl : String → Option V} {tbl : List (String × FD)} (T : Top p loose mean mg mb s.heap)
    (hx : (allNames.all (freeOk p loose)) = true) (hgl : ∀ x v, gl x = some v → ∃ y, mg (Str.ofString x) = some y ∧ VR s.heap v y) (hc : (tbl.all fun x => (recsOf p).any fun r => recOk r x.1 x.2) = true) {f : String} (hf : (tbl.lookup f).isSome = true) {fa : Addr} (hfa : mg (Str.ofString f) = some (.ref fa))
    {A : Around} {k : Nat} (R : Rm A k) {sa : Addr} {ws : List Value} {ns : List Int} {n : Nat} (hs : IsL s.heap sa ws.toArray n) (hi : IntsAre ws ns) (hlen : ns.length ≤ LIM)
    (hw : ∀ σ : Sto, σ sa = some (ns.map .int) → Sp s.heap.objs.size gl (tbl.lookup ·) k f [.ref sa] σ (fun v _ => v = .bool true)) :
    wpAny (model prog w) A (call (.ref fa) [.ref sa]) (fun x s' => x = .bool true ∧ (∀ b o, s.heap.get? b = some o → s'.heap.get? b = some o) ∧ s'.os = s.os ∧ s'.gens = s.gens) No s := by
  obtain ⟨fa', o, fd, g1, g2, g3, hcall⟩ := spOk (prog := prog) (w := w) (P := (tbl.lookup ·)) (wd_of T hx hgl) (fns_of T hc) k f hf
  rw [hfa] at g1; cases g1
  have L : LR (fun a => if a = sa then some (ns.map .int) else none) s.heap := fun a xs e => by
    dsimp only at e
    split at e
    · rename_i q; subst q; cases e
      exact ⟨ws, n, hs, VRs.ofInts hi, by rw [List.length_map]; exact hlen⟩
    · cases e
  refine wpAny_mono (hcall A [.ref sa] _ (fun v _ => v = .bool true) [.ref sa] s R (fun _ _ e => e) L (Nat.le_refl _) ⟨rfl, trivial⟩ (hw _ (by simp))) ?_ fun _ _ q => q
  rintro x s' ⟨v, σ', e, hv, _, rfl⟩
  exact ⟨hv, fun b o h => e.keep b o h (.inr (Heap.lt_size h)) id, e.os, e.gens⟩
end Mini
end

section
open PySem PyProof.Rows

namespace Mini

/-! plain: max-heaps of ints -/
def atI (xs : List Int) (i : Nat) : Int := xs.getD i 0

theorem atI_set {xs : List Int} {i j : Nat} {v : Int} (hi : i < xs.length) : atI (xs.set i v) j = if j = i then v else atI xs j := by
  unfold atI
  rw [List.getD_eq_getElem?_getD, List.getD_eq_getElem?_getD, List.getElem?_set]
  by_cases h : i = j
  · subst h; simp [hi]
  · rw [if_neg h, if_neg (fun e => h e.symm)]

theorem atI_get {xs : List Int} {i : Nat} (hi : i < xs.length) : xs[i]? = some (atI xs i) := by
  unfold atI
  rw [List.getD_eq_getElem?_getD, List.getElem?_eq_getElem hi]
  rfl

def HF (p : Nat) (xs : List Int) : Prop := ∀ j, 0 < j → j < xs.length → p ≤ (j - 1) / 2 → atI xs j ≤ atI xs ((j - 1) / 2)

inductive Desc (p : Nat) : Nat → Prop
  | here : Desc p p
  | down {j : Nat} : p < j → Desc p ((j - 1) / 2) → Desc p j

theorem Desc.le {p j : Nat} (h : Desc p j) : p ≤ j := by
  cases h with
  | here => exact Nat.le_refl _
  | down h _ => exact Nat.le_of_lt h
theorem Desc.up {p j : Nat} (h : Desc p j) (hlt : p < j) : Desc p ((j - 1) / 2) := by
  cases h with
  | here => exact absurd hlt (Nat.lt_irrefl _)
  | down _ h => exact h
theorem Desc.zero : ∀ j, Desc 0 j := fun j => by
  induction j using Nat.strongRecOn with
  | ind j ih =>
    rcases Nat.eq_zero_or_pos j with rfl | h
    · exact .here
    · exact .down h (ih _ (by omega))

theorem perm_hole {ys : List Int} {i j : Nat} {v : Int} (hi : i < ys.length) (hj : j < ys.length) (hij : i ≠ j) : ((ys.set i (atI ys j)).set j v).Perm (ys.set i v) := by
  rw [List.perm_iff_count]
  intro a
  have hj' : j < (ys.set i (atI ys j)).length := by rw [List.length_set]; exact hj
  have e1 : ys[j] = atI ys j := by
    have := atI_get hj
    rw [List.getElem?_eq_getElem hj] at this
    exact Option.some.inj this
  rw [List.count_set hj', List.count_set hi, List.count_set hi, List.getElem_set_ne hij, e1]
  have hc : (if (atI ys j == a) = true then 1 else 0) ≤ List.count a ys := by
    split
    · rename_i h
      have h : atI ys j = a := by simpa using h
      rw [← h, ← e1]
      exact List.count_pos_iff.mpr (List.getElem_mem hj)
    · exact Nat.zero_le _
  have hc2 : (if (ys[i] == a) = true then 1 else 0) ≤ List.count a ys := by
    split
    · rename_i h
      have h : ys[i] = a := by simpa using h
      rw [← h]
      exact List.count_pos_iff.mpr (List.getElem_mem hi)
    · exact Nat.zero_le _
  omega

structure SD (p : Nat) (orig : List Int) (ys : List Int) (pos : Nat) (new : Int) : Prop where
  lt : pos < ys.length
  desc : Desc p pos
  a : ∀ j, 0 < j → j < ys.length → p ≤ (j - 1) / 2 → j ≠ pos → (j - 1) / 2 ≠ pos → atI ys j ≤ atI ys ((j - 1) / 2)
  b : ∀ j, 0 < j → j < ys.length → (j - 1) / 2 = pos → atI ys j ≤ new
  c : p < pos → ∀ j, 0 < j → j < ys.length → (j - 1) / 2 = pos → atI ys j ≤ atI ys ((pos - 1) / 2)
  perm : (ys.set pos new).Perm orig

theorem SD.step {p : Nat} {orig ys : List Int} {pos : Nat} {new : Int} (h : SD p orig ys pos new) (hp : p < pos) (hl : atI ys ((pos - 1) / 2) < new) : SD p orig (ys.set pos (atI ys ((pos - 1) / 2))) ((pos - 1) / 2) new := by
  have hpos := h.lt
  have hq : (pos - 1) / 2 < pos := by omega
  have hd := h.desc.up hp
  have hle := hd.le
  refine ⟨by rw [List.length_set]; omega, hd, fun j h0 hj hpj h1 h2 => ?_, fun j h0 hj he => ?_, fun hpp j h0 hj he => ?_, ?_⟩
  · rw [List.length_set] at hj
    rw [atI_set hpos, atI_set hpos]
    by_cases e1 : j = pos
    · subst e1; exact absurd rfl h2
    · rw [if_neg e1]
      by_cases e2 : (j - 1) / 2 = pos
      · rw [if_pos e2]; exact h.c hp j h0 hj e2
      · rw [if_neg e2]; exact h.a j h0 hj hpj e1 e2
  · rw [List.length_set] at hj
    rw [atI_set hpos]
    by_cases e1 : j = pos
    · rw [if_pos e1]; omega
    · rw [if_neg e1]
      have := h.a j h0 hj (by omega) e1 (by omega)
      rw [he] at this
      omega
  · rw [List.length_set] at hj
    rw [atI_set hpos, atI_set hpos, if_neg (show ((pos - 1) / 2 - 1) / 2 ≠ pos by omega)]
    have hg := h.a ((pos - 1) / 2) (by omega) (by omega) (hd.up hpp).le (by omega) (by omega)
    by_cases e1 : j = pos
    · rw [if_pos e1]; exact hg
    · rw [if_neg e1]
      have := h.a j h0 hj (by omega) e1 (by omega)
      rw [he] at this
      omega
  · exact (perm_hole hpos (by omega) (by omega)).trans h.perm

theorem SD.done {p : Nat} {orig ys : List Int} {pos : Nat} {new : Int} (h : SD p orig ys pos new) (hx : p < pos → new ≤ atI ys ((pos - 1) / 2)) : HF p (ys.set pos new) := by
  intro j h0 hj hpj
  have hpos := h.lt
  have hle := h.desc.le
  rw [List.length_set] at hj
  rw [atI_set hpos, atI_set hpos]
  by_cases e1 : j = pos
  · subst e1
    rw [if_pos rfl, if_neg (by omega)]
    exact hx (by omega)
  · rw [if_neg e1]
    by_cases e2 : (j - 1) / 2 = pos
    · rw [if_pos e2]; exact h.b j h0 hj e2
    · rw [if_neg e2]; exact h.a j h0 hj hpj e1 e2

structure SU (p : Nat) (orig : List Int) (ys : List Int) (pos : Nat) (new : Int) : Prop where
  lt : pos < ys.length
  desc : Desc p pos
  h1 : HF (p + 1) ys
  h2 : pos ≠ p → HF p ys
  perm : (ys.set pos new).Perm orig

theorem SU.start {p : Nat} {xs : List Int} (hp : p < xs.length) (h : HF (p + 1) xs) : SU p xs xs p (atI xs p) := by
  refine ⟨hp, .here, h, fun e => absurd rfl e, ?_⟩
  have : xs.set p (atI xs p) = xs := by
    have e : xs[p] = atI xs p := by
      have := atI_get hp
      rw [List.getElem?_eq_getElem hp] at this
      exact Option.some.inj this
    rw [← e, List.set_getElem_self]
  rw [this]

theorem SU.step {p : Nat} {orig ys : List Int} {pos c : Nat} {new : Int} (h : SU p orig ys pos new) (hc : (c - 1) / 2 = pos) (h0 : 0 < c) (hlt : c < ys.length) (hmax : ∀ j, 0 < j → j < ys.length → (j - 1) / 2 = pos → atI ys j ≤ atI ys c) :
    SU p orig (ys.set pos (atI ys c)) c new := by
  have hpos := h.lt
  have hle := h.desc.le
  have key : HF p (ys.set pos (atI ys c)) := by
    intro j j0 hj hpj
    rw [List.length_set] at hj
    rw [atI_set hpos, atI_set hpos]
    by_cases e1 : j = pos
    · subst e1
      rw [if_pos rfl, if_neg (by omega)]
      have hne : j ≠ p := by omega
      have g1 := h.h2 hne j j0 hj hpj
      have g2 := h.h2 hne c h0 hlt (by omega)
      rw [hc] at g2
      omega
    · rw [if_neg e1]
      by_cases e2 : (j - 1) / 2 = pos
      · rw [if_pos e2]; exact hmax j j0 hj e2
      · rw [if_neg e2]
        by_cases e3 : pos = p
        · exact h.h1 j j0 hj (by omega)
        · exact h.h2 e3 j j0 hj hpj
  refine ⟨by rw [List.length_set]; exact hlt, .down (by omega) (by rw [hc]; exact h.desc), fun j a b d => key j a b (by omega), fun _ => key, ?_⟩
  exact (perm_hole hpos hlt (by omega)).trans h.perm

theorem SU.leaf {p : Nat} {orig ys : List Int} {pos : Nat} {new : Int} (h : SU p orig ys pos new) (hl : ys.length ≤ 2 * pos + 1) : SD p orig (ys.set pos new) pos new := by
  have hpos := h.lt
  have nochild : ∀ j, 0 < j → j < ys.length → (j - 1) / 2 = pos → False := fun j a b e => by omega
  refine ⟨by rw [List.length_set]; exact hpos, h.desc, fun j h0 hj hpj n1 n2 => ?_, fun j h0 hj e => ?_, fun _ j h0 hj e => ?_, ?_⟩
  · rw [List.length_set] at hj
    rw [atI_set hpos, atI_set hpos, if_neg n1, if_neg n2]
    by_cases e3 : pos = p
    · exact h.h1 j h0 hj (by omega)
    · exact h.h2 e3 j h0 hj hpj
  · rw [List.length_set] at hj; exact (nochild j h0 hj e).elim
  · rw [List.length_set] at hj; exact (nochild j h0 hj e).elim
  · rw [List.set_set]; exact h.perm

theorem SD.append {xs : List Int} {v : Int} (h : HF 0 xs) : SD 0 (xs ++ [v]) (xs ++ [v]) xs.length v := by
  have at1 : ∀ j, j < xs.length → atI (xs ++ [v]) j = atI xs j := fun j hj => by
    unfold atI
    rw [List.getD_eq_getElem?_getD, List.getD_eq_getElem?_getD, List.getElem?_append_left hj]
  refine ⟨by simp, Desc.zero _, fun j h0 hj _ n1 n2 => ?_, fun j h0 hj e => ?_, fun _ j h0 hj e => ?_, ?_⟩
  · rw [List.length_append, List.length_singleton] at hj
    rw [at1 _ (by omega), at1 _ (by omega)]
    exact h j h0 (by omega) (Nat.zero_le _)
  · rw [List.length_append, List.length_singleton] at hj; omega
  · rw [List.length_append, List.length_singleton] at hj; omega
  · have : (xs ++ [v]).set xs.length v = xs ++ [v] := by simp
    rw [this]

theorem HF.top {xs : List Int} (h : HF 0 xs) : ∀ j, j < xs.length → atI xs j ≤ atI xs 0 := fun j => by
  induction j using Nat.strongRecOn with
  | ind j ih =>
    intro hj
    rcases Nat.eq_zero_or_pos j with rfl | h0
    · exact Int.le_refl _
    · exact Int.le_trans (h j h0 hj (Nat.zero_le _)) (ih _ (by omega) (by omega))

theorem HF.half {xs : List Int} {n : Nat} (hn : xs.length / 2 ≤ n) : HF n xs := fun j h0 hj hp => by omega
end Mini
end

section
open PySem PyProof.Rows

namespace Mini
def blk : List MS → MB
  | [] => .nil
  | s :: r => .cons s (blk r)

def d_heappop_max : FD := ⟨["heap"], blk [
  .asg "lastelt" (.meth .pop (.var "heap") .nil),
  .ite (.of (.var "heap")) (blk [
    .asg "returnitem" (.sub (.var "heap") (.int 0)),
    .sto (.var "heap") (.int 0) (.var "lastelt"),
    .expr (.call "_siftup_max" (.cons (.var "heap") (.cons (.int 0) .nil))),
    .ret (.var "returnitem")]) (.nil),
  .ret (.var "lastelt")]⟩

def d_heapify_max : FD := ⟨["x"], blk [
  .asg "n" (.blt .len (.cons (.var "x") .nil)),
  .for_ "i" (.rev (.bin .FloorDiv (.var "n") (.int 2))) (blk [
    .expr (.call "_siftup_max" (.cons (.var "x") (.cons (.var "i") .nil)))])]⟩

def d_siftdown_max : FD := ⟨["heap", "startpos", "pos"], blk [
  .asg "newitem" (.sub (.var "heap") (.var "pos")),
  .whl (.cmp .Gt (.var "pos") (.var "startpos")) (blk [
    .asg "parentpos" (.bin .RShift (.bin .Sub (.var "pos") (.int 1)) (.int 1)),
    .asg "parent" (.sub (.var "heap") (.var "parentpos")),
    .ite (.cmp .Lt (.var "parent") (.var "newitem")) (blk [
      .sto (.var "heap") (.var "pos") (.var "parent"),
      .asg "pos" (.var "parentpos"),
      .cont]) (.nil),
    .brk]),
  .sto (.var "heap") (.var "pos") (.var "newitem")]⟩

def d_siftup_max : FD := ⟨["heap", "pos"], blk [
  .asg "endpos" (.blt .len (.cons (.var "heap") .nil)),
  .asg "startpos" (.var "pos"),
  .asg "newitem" (.sub (.var "heap") (.var "pos")),
  .asg "childpos" (.bin .Add (.bin .Mult (.int 2) (.var "pos")) (.int 1)),
  .whl (.cmp .Lt (.var "childpos") (.var "endpos")) (blk [
    .asg "rightpos" (.bin .Add (.var "childpos") (.int 1)),
    .ite (.and (.cmp .Lt (.var "rightpos") (.var "endpos")) (.not (.cmp .Lt (.sub (.var "heap") (.var "rightpos")) (.sub (.var "heap") (.var "childpos"))))) (blk [
      .asg "childpos" (.var "rightpos")]) (.nil),
    .sto (.var "heap") (.var "pos") (.sub (.var "heap") (.var "childpos")),
    .asg "pos" (.var "childpos"),
    .asg "childpos" (.bin .Add (.bin .Mult (.int 2) (.var "pos")) (.int 1))]),
  .sto (.var "heap") (.var "pos") (.var "newitem"),
  .expr (.call "_siftdown_max" (.cons (.var "heap") (.cons (.var "startpos") (.cons (.var "pos") .nil))))]⟩

def pr (k : Int) : V := .tupI [k / 7, k % 7]

theorem lt_pr (a b : Int) : ltL [a / 7, a % 7] [b / 7, b % 7] = decide (a < b) := by
  simp only [ltL]
  split
  · split
    · have : ¬ a < b := by omega
      simp [this]
    · congr 1
      apply propext
      omega
  · congr 1
    apply propext
    omega

theorem cmp_pr (σ : Sto) (a b : Int) : cmpV σ .Lt (pr a) (pr b) = some (decide (a < b)) := by
  show some (ltL _ _) = _
  rw [lt_pr]

theorem upd_at (σ : Sto) (a : Nat) (xs : List V) : upd σ a xs a = some xs := by simp [upd]
theorem upd_upd (σ : Sto) (a : Nat) (xs ys : List V) : upd (upd σ a xs) a ys = upd σ a ys := by
  funext b
  unfold upd
  split <;> simp_all
theorem upd_self {σ : Sto} {a : Nat} {xs : List V} (h : σ a = some xs) : upd σ a xs = σ := by
  funext b
  unfold upd
  split
  · rename_i q; subst q; exact h.symm
  · rfl
theorem get_pr {xs : List Int} {i : Nat} (hi : i < xs.length) : (xs.map pr)[i]? = some (pr (atI xs i)) := by
  rw [List.getElem?_map, atI_get hi]
  rfl
theorem set_pr (xs : List Int) (i : Nat) (v : Int) : (xs.map pr).set i (pr v) = (xs.set i v).map pr := by rw [List.map_set]

theorem sub_pr {σ : Sto} {h : Nat} {xs : List Int} {i : Int} {j : Nat} (hh : σ h = some (xs.map pr)) (hi : i = (j : Int)) (hj : j < xs.length) : subV σ (.ref h) (.int i) = some (pr (atI xs j)) := by
  subst hi
  simp only [subV, hh, Option.bind_some]
  rw [if_pos (Int.natCast_nonneg j)]
  exact get_pr hj

theorem setv_same (ρ : Frm) (x : String) (v : V) : setv ρ x v x = some v := by simp [setv]
theorem setv_ne (ρ : Frm) {x y : String} (v : V) (h : y ≠ x) : setv ρ x v y = ρ y := by simp [setv, h]

theorem wpBin_int (B : Nat) (op : Operator) (i j : Int) (σ : Sto) (Q : V → Sto → Prop) : wpBin B op (.int i) (.int j) σ Q = ∃ v, binV op (.int i) (.int j) = some v ∧ Q v σ := by cases op <;> rfl

section
variable (σ : Sto) (i j : Int) (a b : V)
theorem c_lt : cmpV σ .Lt (.int i) (.int j) = some (decide (i < j)) := rfl
theorem c_gt : cmpV σ .Gt (.int i) (.int j) = some (decide (j < i)) := rfl
theorem c_le : cmpV σ .LtE (.int i) (.int j) = some (decide (i ≤ j)) := rfl
theorem c_ge : cmpV σ .GtE (.int i) (.int j) = some (decide (j ≤ i)) := rfl
theorem c_eq : cmpV σ .Eq (.int i) (.int j) = some (i == j) := rfl
theorem c_ne : cmpV σ .NotEq (.int i) (.int j) = some (!(i == j)) := rfl
theorem c_is : cmpV σ .Is a .none = some (isNone a) := by cases a <;> rfl
theorem c_isnot : cmpV σ .IsNot a .none = some (!isNone a) := by cases a <;> rfl
theorem t_bool (c : Bool) : truth σ (.bool c) = some c := rfl
theorem t_ref (l : Nat) : truth σ (.ref l) = (σ l).map fun xs => !xs.isEmpty := rfl
theorem n_none : isNone .none = true := rfl
theorem n_ref (l : Nat) : isNone (.ref l) = false := rfl
end


theorem siftdown_spec {B : Nat} {gl : String → Option V} {P : String → Option FD} {k : Nat} {σ : Sto} (hP : P "_siftdown_max" = some d_siftdown_max) {h : Nat} {orig xs : List Int} {p pos : Nat} (hh : σ h = some (xs.map pr)) (hB : B ≤ h)
    (H : SD p orig xs pos (atI xs pos)) {Q : V → Sto → Prop} (hQ : ∀ ws : List Int, HF p ws → ws.Perm orig → Q .none (upd σ h (ws.map pr))) : Sp B gl P (k + 1) "_siftdown_max" [.ref h, .int p, .int pos] σ Q := by
  refine ⟨_, hP, rfl, ?_⟩
  have hlt := H.lt
  simp only [wpB, wpS, wpE, wpT, wpI, wpEs, blk, bindF, wpBin_int, binV, setv, endF, V.ref.injEq, V.int.injEq, V.bool.injEq, V.tupI.injEq, Option.some.injEq, exists_eq_left', exists_eq_left, exists_and_left, String.reduceEq, if_true, if_false, reduceIte, true_and, and_true, decide_true, decide_false, Bool.false_eq_true, Bool.not_true, Bool.not_false, Int.reduceLE, Int.reduceToNat, Int.reducePow, Nat.reducePow, c_lt, c_gt, c_le, c_ge, c_eq, c_ne, c_is, c_isnot, t_bool, t_ref, n_none, n_ref, cmp_pr, decide_eq_true_eq, Bool.not_eq_true', decide_eq_false_iff_not, d_siftdown_max, sub_pr hh rfl H.lt]
  refine ⟨fun n ρ σ' => ∃ ys pos', n = pos' ∧ SD p orig ys pos' (atI xs pos) ∧ σ' = upd σ h (ys.map pr) ∧ ρ "heap" = some (.ref h) ∧ ρ "startpos" = some (.int p) ∧ ρ "pos" = some (.int pos') ∧ ρ "newitem" = some (pr (atI xs pos)), pos, ?_, ?_⟩
  · exact ⟨xs, pos, rfl, H, (upd_self hh).symm, rfl, rfl, rfl, rfl⟩
  · rintro n ρ σ' ⟨ys, pos', rfl, S, rfl, h1, h2, h3, h4⟩
    have hlt := S.lt
    have fin : (p < n → atI xs pos ≤ atI ys ((n - 1) / 2)) → Q .none (upd (upd σ h (ys.map pr)) h ((ys.map pr).set n (pr (atI xs pos)))) := fun hx => by
      rw [set_pr, upd_upd]
      exact hQ _ (S.done hx) S.perm
    simp only [wpB, wpS, wpE, wpT, wpI, wpEs, blk, bindF, wpBin_int, binV, setv, endF, V.ref.injEq, V.int.injEq, V.bool.injEq, V.tupI.injEq, Option.some.injEq, exists_eq_left', exists_eq_left, exists_and_left, String.reduceEq, if_true, if_false, reduceIte, true_and, and_true, decide_true, decide_false, Bool.false_eq_true, Bool.not_true, Bool.not_false, Int.reduceLE, Int.reduceToNat, Int.reducePow, Nat.reducePow, c_lt, c_gt, c_le, c_ge, c_eq, c_ne, c_is, c_isnot, t_bool, t_ref, n_none, n_ref, cmp_pr, decide_eq_true_eq, Bool.not_eq_true', decide_eq_false_iff_not, h1, h2, h3, h4]
    by_cases hp : (p : Int) < n
    · have e1 : ((n : Int) - 1).fdiv 2 = (((n - 1) / 2 : Nat) : Int) := by
        rw [Int.fdiv_eq_ediv_of_nonneg _ (by decide)]; omega
      have hq : (n - 1) / 2 < ys.length := by omega
      simp only [wpB, wpS, wpE, wpT, wpI, wpEs, blk, bindF, wpBin_int, binV, setv, endF, V.ref.injEq, V.int.injEq, V.bool.injEq, V.tupI.injEq, Option.some.injEq, exists_eq_left', exists_eq_left, exists_and_left, String.reduceEq, if_true, if_false, reduceIte, true_and, and_true, decide_true, decide_false, Bool.false_eq_true, Bool.not_true, Bool.not_false, Int.reduceLE, Int.reduceToNat, Int.reducePow, Nat.reducePow, c_lt, c_gt, c_le, c_ge, c_eq, c_ne, c_is, c_isnot, t_bool, t_ref, n_none, n_ref, cmp_pr, decide_eq_true_eq, Bool.not_eq_true', decide_eq_false_iff_not, hp, e1, sub_pr (upd_at σ h _) rfl hq, h1, h2, h3, h4, upd_at, Int.toNat_natCast, Int.natCast_nonneg, List.length_map]
      by_cases hl : atI ys ((n - 1) / 2) < atI xs pos
      · rw [if_pos hl]
        exact ⟨hlt, hB, (n - 1) / 2, by omega, _, S.step (by omega) hl, by rw [set_pr, upd_upd], rfl⟩
      · rw [if_neg hl]
        exact ⟨hlt, hB, fin fun _ => by omega⟩
    · simp only [wpB, wpS, wpE, wpT, wpI, wpEs, blk, bindF, wpBin_int, binV, setv, endF, V.ref.injEq, V.int.injEq, V.bool.injEq, V.tupI.injEq, Option.some.injEq, exists_eq_left', exists_eq_left, exists_and_left, String.reduceEq, if_true, if_false, reduceIte, true_and, and_true, decide_true, decide_false, Bool.false_eq_true, Bool.not_true, Bool.not_false, Int.reduceLE, Int.reduceToNat, Int.reducePow, Nat.reducePow, c_lt, c_gt, c_le, c_ge, c_eq, c_ne, c_is, c_isnot, t_bool, t_ref, n_none, n_ref, cmp_pr, decide_eq_true_eq, Bool.not_eq_true', decide_eq_false_iff_not, hp, upd_at, h4, h1, h3, Int.toNat_natCast, Int.natCast_nonneg, List.length_map]
      exact ⟨hlt, hB, fin fun q => absurd (by omega) hp⟩

theorem up_fin {B : Nat} {σ : Sto} {h : Nat} {xs ys : List Int} {p pos c : Nat} {ci : Int} (e : ci = (c : Int)) (hB : B ≤ h) (hl : ys.length = xs.length) (hz : xs.length ≤ 100000) (S : SU p xs ys pos (atI xs p)) (c1 : (c - 1) / 2 = pos) (c0 : 0 < c) (c2 : c < ys.length)
    (hmax : ∀ j, 0 < j → j < ys.length → (j - 1) / 2 = pos → atI ys j ≤ atI ys c) :
    ∃ v, subV (upd σ h (ys.map pr)) (.ref h) (.int ci) = some v ∧ ∃ x, upd σ h (ys.map pr) h = some x ∧ 0 ≤ (pos : Int) ∧ (pos : Int).toNat < x.length ∧ B ≤ h ∧ ∃ v_1, (if (small 2 && small ci) = true then some (V.int (2 * ci)) else none) = some v_1 ∧
      wpBin B .Add v_1 (.int 1) (upd (upd σ h (ys.map pr)) h (x.set (pos : Int).toNat v)) fun v σ1 => ∃ m, m < 100000 - pos ∧ ∃ ys pos_1, m = 100000 - pos_1 ∧ SU p xs ys pos_1 (atI xs p) ∧ σ1 = upd σ h (ys.map pr) ∧ ys.length = xs.length ∧ ci = (pos_1 : Int) ∧ v = .int (2 * (pos_1 : Int) + 1) := by
  subst e
  have hlt := S.lt
  have hs : (small 2 && small (c : Int)) = true := by
    unfold small
    simp
    omega
  refine ⟨_, sub_pr (upd_at σ h _) rfl c2, _, upd_at σ h _, Int.natCast_nonneg _, by simpa using hlt, hB, .int (2 * (c : Int)), by rw [if_pos hs], ?_⟩
  rw [wpBin_int]
  refine ⟨_, rfl, 100000 - c, by omega, _, c, rfl, S.step c1 c0 c2 hmax, ?_, ?_, rfl, rfl⟩
  · rw [Int.toNat_natCast, set_pr, upd_upd]
  · rw [List.length_set]; exact hl

theorem siftup_spec {B : Nat} {gl : String → Option V} {P : String → Option FD} {k : Nat} {σ : Sto} (hP : P "_siftdown_max" = some d_siftdown_max) (hP2 : P "_siftup_max" = some d_siftup_max) {h : Nat} {xs : List Int} {p : Nat} (hh : σ h = some (xs.map pr)) (hB : B ≤ h)
    (hp : p < xs.length) (hz : xs.length ≤ 100000) (H : HF (p + 1) xs) {Q : V → Sto → Prop} (hQ : ∀ ws : List Int, HF p ws → ws.Perm xs → Q .none (upd σ h (ws.map pr))) : Sp B gl P (k + 2) "_siftup_max" [.ref h, .int p] σ Q := by
  refine ⟨_, hP2, rfl, ?_⟩
  have sm : ∀ n : Nat, n ≤ 100000 → (small 2 && small (n : Int)) = true := fun n hn => by
    unfold small
    simp
    omega
  simp only [wpB, wpS, wpE, wpT, wpI, wpEs, blk, bindF, wpBin_int, binV, setv, endF, V.ref.injEq, V.int.injEq, V.bool.injEq, V.tupI.injEq, Option.some.injEq, exists_eq_left', exists_eq_left, exists_and_left, String.reduceEq, if_true, if_false, reduceIte, true_and, and_true, decide_true, decide_false, Bool.false_eq_true, Bool.not_true, Bool.not_false, Int.reduceLE, Int.reduceToNat, Int.reducePow, Nat.reducePow, c_lt, c_gt, c_le, c_ge, c_eq, c_ne, c_is, c_isnot, t_bool, t_ref, n_none, n_ref, cmp_pr, decide_eq_true_eq, Bool.not_eq_true', decide_eq_false_iff_not, d_siftup_max, sub_pr hh rfl hp, wpBlt, hh, sm p (by omega), List.length_map]
  refine ⟨fun n ρ σ' => ∃ ys pos, n = 100000 - pos ∧ SU p xs ys pos (atI xs p) ∧ σ' = upd σ h (ys.map pr) ∧ ys.length = xs.length ∧ ρ "heap" = some (.ref h) ∧ ρ "startpos" = some (.int p) ∧ ρ "pos" = some (.int pos) ∧ ρ "newitem" = some (pr (atI xs p)) ∧
    ρ "endpos" = some (.int xs.length) ∧ ρ "childpos" = some (.int (2 * pos + 1)), 100000 - p, ?_, ?_⟩
  · exact ⟨xs, p, rfl, SU.start hp H, (upd_self hh).symm, rfl, rfl, rfl, rfl, rfl, rfl, rfl⟩
  · rintro n ρ σ' ⟨ys, pos, rfl, S, rfl, hl, h1, h2, h3, h4, h5, h6⟩
    have hlt := S.lt
    simp only [wpB, wpS, wpE, wpT, wpI, wpEs, blk, bindF, wpBin_int, binV, setv, endF, V.ref.injEq, V.int.injEq, V.bool.injEq, V.tupI.injEq, Option.some.injEq, exists_eq_left', exists_eq_left, exists_and_left, String.reduceEq, if_true, if_false, reduceIte, true_and, and_true, decide_true, decide_false, Bool.false_eq_true, Bool.not_true, Bool.not_false, Int.reduceLE, Int.reduceToNat, Int.reducePow, Nat.reducePow, c_lt, c_gt, c_le, c_ge, c_eq, c_ne, c_is, c_isnot, t_bool, t_ref, n_none, n_ref, cmp_pr, decide_eq_true_eq, Bool.not_eq_true', decide_eq_false_iff_not, h1, h2, h3, h4, h5, h6]
    by_cases hc : (2 * (pos : Int) + 1) < xs.length
    · have hc1 : 2 * pos + 1 < ys.length := by omega
      rw [if_pos hc]
      have g1 := sub_pr (σ := upd σ h (ys.map pr)) (i := 2 * (pos : Int) + 1) (j := 2 * pos + 1) (upd_at σ h _) (by omega) hc1
      by_cases hr : (2 * (pos : Int) + 1 + 1) < xs.length
      · have hr1 : 2 * pos + 2 < ys.length := by omega
        have g2 := sub_pr (σ := upd σ h (ys.map pr)) (i := 2 * (pos : Int) + 1 + 1) (j := 2 * pos + 2) (upd_at σ h _) (by omega) hr1
        rw [if_pos hr]
        refine ⟨_, g2, _, g1, _, cmp_pr _ _ _, ?_⟩
        by_cases hq : atI ys (2 * pos + 2) < atI ys (2 * pos + 1)
        · rw [if_neg (by simp [hq])]
          refine up_fin (c := 2 * pos + 1) (by omega) hB hl hz S (by omega) (by omega) hc1 fun j j0 j1 j2 => ?_
          rcases (show j = 2 * pos + 1 ∨ j = 2 * pos + 2 by omega) with rfl | rfl <;> omega
        · rw [if_pos (by simp [hq])]
          refine up_fin (c := 2 * pos + 2) (by omega) hB hl hz S (by omega) (by omega) hr1 fun j j0 j1 j2 => ?_
          rcases (show j = 2 * pos + 1 ∨ j = 2 * pos + 2 by omega) with rfl | rfl <;> omega
      · rw [if_neg hr]
        refine up_fin (c := 2 * pos + 1) (by omega) hB hl hz S (by omega) (by omega) hc1 fun j j0 j1 j2 => ?_
        rcases (show j = 2 * pos + 1 by omega) with rfl
        omega
    · simp only [wpB, wpS, wpE, wpT, wpI, wpEs, blk, bindF, wpBin_int, binV, setv, endF, V.ref.injEq, V.int.injEq, V.bool.injEq, V.tupI.injEq, Option.some.injEq, exists_eq_left', exists_eq_left, exists_and_left, String.reduceEq, if_true, if_false, reduceIte, true_and, and_true, decide_true, decide_false, Bool.false_eq_true, Bool.not_true, Bool.not_false, Int.reduceLE, Int.reduceToNat, Int.reducePow, Nat.reducePow, c_lt, c_gt, c_le, c_ge, c_eq, c_ne, c_is, c_isnot, t_bool, t_ref, n_none, n_ref, cmp_pr, decide_eq_true_eq, Bool.not_eq_true', decide_eq_false_iff_not, hc, upd_at, h4, h1, h3, h2, Int.toNat_natCast, Int.natCast_nonneg, List.length_map]
      refine ⟨hlt, hB, by rw [hP]; rfl, ?_⟩
      rw [set_pr, upd_upd]
      refine siftdown_spec hP (upd_at σ h _) hB (by rw [atI_set hlt, if_pos rfl]; exact S.leaf (by omega)) fun ws w1 w2 => ⟨rfl, ?_⟩
      rw [upd_upd]
      exact hQ ws w1 w2

theorem forL_ind {step : V → Frm → Sto → (Fl → Frm → Sto → Prop) → Prop} {ok : Sto → Prop} {Q : Fl → Frm → Sto → Prop} {xs : List V} (Inv : Nat → Frm → Sto → Prop)
    (hstep : ∀ i v ρ σ (K : Fl → Frm → Sto → Prop), xs[i]? = some v → Inv i ρ σ → (∀ ρ' σ', Inv (i + 1) ρ' σ' → ok σ' → K .next ρ' σ') → (∀ ρ' σ', Inv (i + 1) ρ' σ' → ok σ' → K .cont ρ' σ') → (∀ ρ' σ', Q .next ρ' σ' → K .brk ρ' σ') → (∀ w ρ' σ', Q (.ret w) ρ' σ' → K (.ret w) ρ' σ') → step v ρ σ K)
    {ρ : Frm} {σ : Sto} (h0 : Inv 0 ρ σ) (hend : ∀ ρ σ, Inv xs.length ρ σ → Q .next ρ σ) : forL step ok Q xs ρ σ := by
  have key : ∀ n i ρ σ, i + n = xs.length → Inv i ρ σ → forL step ok Q (xs.drop i) ρ σ := by
    intro n
    induction n with
    | zero =>
      intro i ρ σ e h
      rw [List.drop_eq_nil_of_le (by omega)]
      unfold forL
      have : i = xs.length := by omega
      subst this
      exact hend _ _ h
    | succ n ih =>
      intro i ρ σ e h
      have hlt : i < xs.length := by omega
      rw [List.drop_eq_getElem_cons hlt]
      unfold forL
      exact hstep i _ ρ σ _ (List.getElem?_eq_getElem hlt) h (fun ρ' σ' h' o => ⟨o, ih _ _ _ (by omega) h'⟩) (fun ρ' σ' h' o => ⟨o, ih _ _ _ (by omega) h'⟩) (fun _ _ q => q) fun _ _ _ q => q
  exact key xs.length 0 ρ σ (by omega) h0

theorem rng_get {a : Int} {n i : Nat} {v : V} (h : (rng a n)[i]? = some v) : i < n ∧ v = .int (a + (i : Int)) := by
  have hi : i < n := by
    rcases Nat.lt_or_ge i n with q | q
    · exact q
    · rw [List.getElem?_eq_none (by simp [rng]; exact q)] at h; cases h
  refine ⟨hi, ?_⟩
  simp [rng, hi] at h
  exact h.symm
theorem rngDown_get {a : Int} {n i : Nat} {v : V} (h : (rngDown a n)[i]? = some v) : i < n ∧ v = .int (a - (i : Int)) := by
  have hi : i < n := by
    rcases Nat.lt_or_ge i n with q | q
    · exact q
    · rw [List.getElem?_eq_none (by simp [rngDown]; exact q)] at h; cases h
  refine ⟨hi, ?_⟩
  simp [rngDown, hi] at h
  exact h.symm

theorem heapify_spec {B : Nat} {gl : String → Option V} {P : String → Option FD} {k : Nat} {σ : Sto} (hP : P "_siftdown_max" = some d_siftdown_max) (hP2 : P "_siftup_max" = some d_siftup_max) (hP3 : P "_heapify_max" = some d_heapify_max) {h : Nat} {xs : List Int} (hh : σ h = some (xs.map pr)) (hB : B ≤ h)
    (hz : xs.length ≤ 100000) {Q : V → Sto → Prop} (hQ : ∀ ws : List Int, HF 0 ws → ws.Perm xs → Q .none (upd σ h (ws.map pr))) : Sp B gl P (k + 3) "_heapify_max" [.ref h] σ Q := by
  refine ⟨_, hP3, rfl, ?_⟩
  have e1 : (xs.length : Int).fdiv 2 = ((xs.length / 2 : Nat) : Int) := by
    rw [Int.fdiv_eq_ediv_of_nonneg _ (by decide)]; omega
  have sm : small ((xs.length / 2 : Nat) : Int) = true := by
    unfold small
    simp
    omega
  simp only [wpB, wpS, wpE, wpT, wpI, wpEs, blk, bindF, wpBin_int, binV, setv, endF, V.ref.injEq, V.int.injEq, V.bool.injEq, V.tupI.injEq, Option.some.injEq, exists_eq_left', exists_eq_left, exists_and_left, String.reduceEq, if_true, if_false, reduceIte, true_and, and_true, decide_true, decide_false, Bool.false_eq_true, Bool.not_true, Bool.not_false, Int.reduceLE, Int.reduceToNat, Int.reducePow, Nat.reducePow, c_lt, c_gt, c_le, c_ge, c_eq, c_ne, c_is, c_isnot, t_bool, t_ref, n_none, n_ref, cmp_pr, decide_eq_true_eq, Bool.not_eq_true', decide_eq_false_iff_not, d_heapify_max, wpBlt, hh, List.length_map, e1]
  rw [if_neg (by decide)]
  refine ⟨_, rfl, _, rfl, Int.natCast_nonneg _, sm, ?_⟩
  refine forL_ind (fun i ρ σ' => ∃ ys : List Int, HF (xs.length / 2 - i) ys ∧ ys.Perm xs ∧ σ' = upd σ h (ys.map pr) ∧ ρ "x" = some (.ref h)) ?_ ⟨xs, HF.half (Nat.le_refl _), .refl _, (upd_self hh).symm, rfl⟩ ?_
  · rintro i v ρ σ' K hv ⟨ys, y1, y2, rfl, y3⟩ hK _ _ _
    obtain ⟨hi, rfl⟩ := rngDown_get hv
    rw [Int.toNat_natCast] at hi
    have hyl := y2.length_eq
    refine ⟨by rw [hP2]; rfl, _, y3, ?_⟩
    have e2 : ((xs.length / 2 : Nat) : Int) - 1 - (i : Int) = ((xs.length / 2 - 1 - i : Nat) : Int) := by omega
    rw [e2]
    have hfy : HF (xs.length / 2 - 1 - i + 1) ys := by
      have : xs.length / 2 - 1 - i + 1 = xs.length / 2 - i := by omega
      rw [this]; exact y1
    refine siftup_spec hP hP2 (upd_at σ h _) hB (by omega) (by omega) hfy fun ws w1 w2 => ⟨rfl, hK _ _ ⟨ws, ?_, w2.trans y2, upd_upd .., by simp [setv, y3]⟩ trivial⟩
    have : xs.length / 2 - (i + 1) = xs.length / 2 - 1 - i := by omega
    rw [this]; exact w1
  · rintro ρ σ' ⟨ys, y1, y2, rfl, y3⟩
    rw [rngDown_length, Int.toNat_natCast, Nat.sub_self] at y1
    exact hQ ys y1 y2

theorem atI_app {xs : List Int} {v : Int} {j : Nat} (hj : j < xs.length) : atI (xs ++ [v]) j = atI xs j := by
  unfold atI
  rw [List.getD_eq_getElem?_getD, List.getD_eq_getElem?_getD, List.getElem?_append_left hj]

theorem heappop_spec {B : Nat} {gl : String → Option V} {P : String → Option FD} {k : Nat} {σ : Sto} (hP : P "_siftdown_max" = some d_siftdown_max) (hP2 : P "_siftup_max" = some d_siftup_max) (hP3 : P "_heappop_max" = some d_heappop_max) {h : Nat} {xs : List Int} (hh : σ h = some (xs.map pr)) (hB : B ≤ h)
    (hz : xs.length ≤ 100000) (hne : xs ≠ []) (H : HF 0 xs) {Q : V → Sto → Prop} (hQ : ∀ (m : Int) (ws : List Int), HF 0 ws → (m :: ws).Perm xs → (∀ x ∈ xs, x ≤ m) → Q (pr m) (upd σ h (ws.map pr))) : Sp B gl P (k + 3) "_heappop_max" [.ref h] σ Q := by
  refine ⟨_, hP3, rfl, ?_⟩
  obtain ⟨init, last, rfl⟩ : ∃ init last, xs = init ++ [last] := ⟨xs.dropLast, xs.getLast hne, (List.dropLast_concat_getLast hne).symm⟩
  have hmax : ∀ x ∈ init ++ [last], x ≤ atI (init ++ [last]) 0 := fun x hx => by
    obtain ⟨j, hj, rfl⟩ := List.mem_iff_getElem.mp hx
    have := H.top j hj
    have e := atI_get hj
    rw [List.getElem?_eq_getElem hj] at e
    rw [Option.some.inj e]
    exact this
  simp only [wpB, wpS, wpE, wpT, wpI, wpEs, blk, bindF, wpBin_int, binV, setv, endF, V.ref.injEq, V.int.injEq, V.bool.injEq, V.tupI.injEq, Option.some.injEq, exists_eq_left', exists_eq_left, exists_and_left, String.reduceEq, if_true, if_false, reduceIte, true_and, and_true, decide_true, decide_false, Bool.false_eq_true, Bool.not_true, Bool.not_false, Int.reduceLE, Int.reduceToNat, Int.reducePow, Nat.reducePow, c_lt, c_gt, c_le, c_ge, c_eq, c_ne, c_is, c_isnot, t_bool, t_ref, n_none, n_ref, cmp_pr, decide_eq_true_eq, Bool.not_eq_true', decide_eq_false_iff_not, d_heappop_max, wpMeth, hh, List.map_append, List.map_cons, List.map_nil, upd_at, Option.map_some]
  refine ⟨⟨_, rfl⟩, init.map pr, pr last, rfl, hB, ?_⟩
  cases init with
  | nil =>
    rw [if_neg (by simp)]
    exact hQ last [] (fun j _ hj => by simp at hj) (.refl _) fun x hx => by simpa [atI] using hmax x hx
  | cons m rest =>
    have hlen : (m :: rest).length = rest.length + 1 := rfl
    rw [if_pos (by simp)]
    have e0 : atI (m :: rest) 0 = m := rfl
    have g0 : subV (upd σ h ((m :: rest).map pr)) (.ref h) (.int 0) = some (pr m) := by
      have := sub_pr (i := 0) (j := 0) (upd_at σ h ((m :: rest).map pr)) rfl (by simp)
      rw [e0] at this
      exact this
    refine ⟨pr m, g0, by simp, hB, by rw [hP2]; rfl, ?_⟩
    rw [show ((m :: rest).map pr).set 0 (pr last) = ((last :: rest).map pr) from rfl, upd_upd]
    have hfl : HF 1 (last :: rest) := fun j j0 j1 j2 => by
      have hj : j < rest.length + 1 := j1
      have h1 := H j j0 (by simp; omega) (Nat.zero_le _)
      rw [atI_app (by simp; omega), atI_app (by simp; omega)] at h1
      have e : ∀ n, 0 < n → atI (last :: rest) n = atI (m :: rest) n := fun n hn => by
        cases n with
        | zero => omega
        | succ n => rfl
      rw [e j j0, e _ (by omega)]
      exact h1
    refine siftup_spec (p := 0) hP hP2 (upd_at σ h _) hB (by simp) (by simp at hz ⊢; omega) hfl fun ws w1 w2 => ⟨rfl, ?_⟩
    rw [upd_upd]
    refine hQ m ws w1 ?_ fun x hx => by simpa [atI] using hmax x hx
    refine (w2.cons m).trans ?_
    show (m :: last :: rest).Perm (m :: (rest ++ [last]))
    exact .cons m (List.perm_append_singleton last rest).symm
end Mini
end

section
open PySem PyProof.Rows

namespace Mini

/-! lists of comprehensions -/
theorem compL_ind {step : V → Sto → List V → (Sto → List V → Prop) → Prop} {ok : Sto → Prop} {K : Sto → List V → Prop} {xs : List V} (Inv : Nat → Sto → List V → Prop)
    (hstep : ∀ i v σ acc (K' : Sto → List V → Prop), xs[i]? = some v → Inv i σ acc → (∀ σ' acc', Inv (i + 1) σ' acc' → ok σ' → K' σ' acc') → step v σ acc K')
    {σ : Sto} {acc : List V} (h0 : Inv 0 σ acc) (hend : ∀ σ acc, Inv xs.length σ acc → K σ acc) : compL step ok K xs σ acc := by
  have key : ∀ n i σ acc, i + n = xs.length → Inv i σ acc → compL step ok K (xs.drop i) σ acc := by
    intro n
    induction n with
    | zero =>
      intro i σ acc e h
      rw [List.drop_eq_nil_of_le (by omega)]
      unfold compL
      have : i = xs.length := by omega
      subst this
      exact hend _ _ h
    | succ n ih =>
      intro i σ acc e h
      have hlt : i < xs.length := by omega
      rw [List.drop_eq_getElem_cons hlt]
      unfold compL
      exact hstep i _ σ acc _ (List.getElem?_eq_getElem hlt) h fun σ' acc' h' o => ⟨o, ih _ _ _ (by omega) h'⟩
  exact key xs.length 0 σ acc (by omega) h0

/-- the store stands still -/
theorem compL_flat {step : V → Sto → List V → (Sto → List V → Prop) → Prop} {ok : Sto → Prop} {K : Sto → List V → Prop} {xs : List V} {σ : Sto} (g : V → List V)
    (hstep : ∀ v ∈ xs, ∀ acc (K' : Sto → List V → Prop), K' σ (acc ++ g v) → step v σ acc K') (hok : ok σ) {acc : List V} (h : K σ (acc ++ xs.flatMap g)) : compL step ok K xs σ acc := by
  induction xs generalizing acc with
  | nil => unfold compL; simpa using h
  | cons v vs ih =>
    unfold compL
    refine hstep v List.mem_cons_self acc _ ⟨hok, ih (fun u hu => hstep u (List.mem_cons_of_mem _ hu)) ?_⟩
    rw [List.flatMap_cons] at h
    rw [List.append_assoc]
    exact h

/-! rows -/
def rowV (n : Nat) (f : Nat → V) : List V := (List.range n).map f
theorem rowV_len (n : Nat) (f : Nat → V) : (rowV n f).length = n := by simp [rowV]
theorem rowV_get {n i : Nat} {f : Nat → V} (h : i < n) : (rowV n f)[i]? = some (f i) := by simp [rowV, h]
theorem rowV_set {n i : Nat} {f : Nat → V} {v : V} : (rowV n f).set i v = rowV n (fun j => if j = i then v else f j) := by
  refine List.ext_getElem? fun j => ?_
  rw [List.getElem?_set]
  by_cases hj : j < n
  · rw [rowV_get hj]
    by_cases e : i = j
    · subst e; rw [rowV_get hj]; simp [rowV_len, hj]
    · rw [if_neg e, rowV_get hj, if_neg (fun q => e q.symm)]
  · have e1 : (rowV n f)[j]? = none := List.getElem?_eq_none (by rw [rowV_len]; omega)
    have e2 : (rowV n (fun j => if j = i then v else f j))[j]? = none := List.getElem?_eq_none (by rw [rowV_len]; omega)
    rw [e1, e2]
    split
    · rw [if_neg (by rw [rowV_len]; omega)]
    · rfl
theorem rowV_snoc (n : Nat) (f : Nat → V) : rowV (n + 1) f = rowV n f ++ [f n] := by simp [rowV, List.range_succ]
theorem rowV_congr {n : Nat} {f g : Nat → V} (h : ∀ i, i < n → f i = g i) : rowV n f = rowV n g := by
  unfold rowV
  exact List.map_congr_left fun i hi => h i (List.mem_range.mp hi)
theorem rng_row (a : Int) (n : Nat) : rng a n = rowV n (fun i => .int (a + (i : Int))) := rfl

def rowI (n : Nat) (f : Nat → Int) : List V := rowV n fun j => .int (f j)
def rowB (n : Nat) (f : Nat → Bool) : List V := rowV n fun j => .bool (f j)

theorem ints_rowI (n : Nat) (f : Nat → Int) : intsOf (rowI n f) = some ((List.range n).map f) := by
  unfold rowI rowV
  induction List.range n with
  | nil => rfl
  | cons a l ih => simp only [List.map_cons, intsOf, ih, Option.map_some]

theorem ints_map (ns : List Int) : intsOf (ns.map .int) = some ns := by
  induction ns with
  | nil => rfl
  | cons a l ih => simp only [List.map_cons, intsOf, ih, Option.map_some]

theorem sub_row {σ : Sto} {l n : Nat} {f : Nat → V} {i : Int} {j : Nat} (h : σ l = some (rowV n f)) (e : i = (j : Int)) (hj : j < n) : subV σ (.ref l) (.int i) = some (f j) := by
  subst e
  simp only [subV, h, Option.bind_some]
  rw [if_pos (Int.natCast_nonneg j)]
  exact rowV_get hj
theorem sub_rowI {σ : Sto} {l n : Nat} {f : Nat → Int} {i : Int} {j : Nat} (h : σ l = some (rowI n f)) (e : i = (j : Int)) (hj : j < n) : subV σ (.ref l) (.int i) = some (.int (f j)) := sub_row h e hj
theorem sub_rowB {σ : Sto} {l n : Nat} {f : Nat → Bool} {i : Int} {j : Nat} (h : σ l = some (rowB n f)) (e : i = (j : Int)) (hj : j < n) : subV σ (.ref l) (.int i) = some (.bool (f j)) := sub_row h e hj
theorem rowI_set {n i : Nat} {f : Nat → Int} {v : Int} : (rowI n f).set i (.int v) = rowI n (fun j => if j = i then v else f j) := by
  unfold rowI
  rw [rowV_set]
  congr 1
  funext j
  dsimp only
  split <;> rfl
theorem rowB_set {n i : Nat} {f : Nat → Bool} {v : Bool} : (rowB n f).set i (.bool v) = rowB n (fun j => if j = i then v else f j) := by
  unfold rowB
  rw [rowV_set]
  congr 1
  funext j
  dsimp only
  split <;> rfl

/-! stores that grow -/
def Sub (σ σ' : Sto) : Prop := ∀ b xs, σ b = some xs → σ' b = some xs
theorem Sub.refl (σ : Sto) : Sub σ σ := fun _ _ e => e
theorem Sub.trans {σ σ' σ'' : Sto} (a : Sub σ σ') (b : Sub σ' σ'') : Sub σ σ'' := fun x xs e => b x xs (a x xs e)
theorem Sub.new {σ : Sto} {a : Nat} {xs : List V} (h : σ a = none) : Sub σ (upd σ a xs) := fun b ys e => by
  unfold upd
  rw [if_neg (fun q => by rw [q, h] at e; cases e)]
  exact e
theorem upd_ne {σ : Sto} {a b : Nat} {xs : List V} (h : b ≠ a) : upd σ a xs b = σ b := by unfold upd; rw [if_neg h]
theorem ne_of_none {σ : Sto} {a b : Nat} {xs : List V} (h : σ a = none) (e : σ b = some xs) : b ≠ a := fun q => by rw [q, h] at e; cases e
theorem Sub.none {σ σ' : Sto} (h : Sub σ σ') {a : Nat} (e : σ' a = none) : σ a = Option.none := by
  cases q : σ a with
  | none => rfl
  | some xs => rw [h a xs q] at e; cases e

/-! matrices: a list of rows -/
structure Mat (n m : Nat) (σ : Sto) (l : Nat) (r : Nat → Nat) (M : Nat → Nat → V) : Prop where
  top : σ l = some (rowV n fun i => .ref (r i))
  row : ∀ i, i < n → σ (r i) = some (rowV m (M i))
  inj : ∀ i j, i < n → j < n → r i = r j → i = j
  off : ∀ i, i < n → r i ≠ l

theorem Mat.sub {n m : Nat} {σ σ' : Sto} {l : Nat} {r : Nat → Nat} {M : Nat → Nat → V} (x : Mat n m σ l r M) (h : Sub σ σ') : Mat n m σ' l r M :=
  ⟨h _ _ x.top, fun i hi => h _ _ (x.row i hi), x.inj, x.off⟩
theorem Mat.same {n m : Nat} {σ σ' : Sto} {l : Nat} {r : Nat → Nat} {M : Nat → Nat → V} (x : Mat n m σ l r M) (h1 : σ' l = σ l) (h2 : ∀ i, i < n → σ' (r i) = σ (r i)) : Mat n m σ' l r M :=
  ⟨h1.trans x.top, fun i hi => (h2 i hi).trans (x.row i hi), x.inj, x.off⟩
theorem Mat.set {n m : Nat} {σ : Sto} {l : Nat} {r : Nat → Nat} {M : Nat → Nat → V} (x : Mat n m σ l r M) {i j : Nat} {v : V} (hi : i < n) :
    Mat n m (upd σ (r i) ((rowV m (M i)).set j v)) l r (fun a b => if a = i ∧ b = j then v else M a b) := by
  refine ⟨?_, fun a ha => ?_, x.inj, x.off⟩
  · rw [upd_ne (Ne.symm (x.off i hi))]; exact x.top
  · by_cases e : a = i
    · subst e
      rw [upd_at, rowV_set]
      congr 1
      refine rowV_congr fun b _ => ?_
      simp
    · rw [upd_ne (fun q => e (x.inj a i ha hi q)), x.row a ha]
      congr 1
      refine rowV_congr fun b _ => ?_
      simp [e]

theorem Mat.setI {n m : Nat} {σ : Sto} {l : Nat} {r : Nat → Nat} {M : Nat → Nat → Int} (x : Mat n m σ l r fun i j => .int (M i j)) {i j : Nat} {v : Int} (hi : i < n) :
    Mat n m (upd σ (r i) ((rowV m fun j => .int (M i j)).set j (.int v))) l r (fun a b => .int (if a = i ∧ b = j then v else M a b)) := by
  have := x.set (i := i) (j := j) (v := .int v) hi
  refine ⟨this.top, fun i hi => (this.row i hi).trans ?_, this.inj, this.off⟩
  congr 1
  refine rowV_congr fun j _ => ?_
  split <;> rfl
theorem Mat.setB {n m : Nat} {σ : Sto} {l : Nat} {r : Nat → Nat} {M : Nat → Nat → Bool} (x : Mat n m σ l r fun i j => .bool (M i j)) {i j : Nat} {v : Bool} (hi : i < n) :
    Mat n m (upd σ (r i) ((rowV m fun j => .bool (M i j)).set j (.bool v))) l r (fun a b => .bool (if a = i ∧ b = j then v else M a b)) := by
  have := x.set (i := i) (j := j) (v := .bool v) hi
  refine ⟨this.top, fun i hi => (this.row i hi).trans ?_, this.inj, this.off⟩
  congr 1
  refine rowV_congr fun j _ => ?_
  split <;> rfl

/-- fresh rows, made one by one -/
structure Made (n m : Nat) (B : Nat) (σ₀ σ : Sto) (acc : List V) (M : Nat → Nat → V) (r : Nat → Nat) : Prop where
  sub : Sub σ₀ σ
  acc : acc = rowV n fun i => .ref (r i)
  row : ∀ i, i < n → σ (r i) = some (rowV m (M i))
  new : ∀ i, i < n → B ≤ r i ∧ σ₀ (r i) = none
  inj : ∀ i j, i < n → j < n → r i = r j → i = j

theorem Made.start {m B : Nat} {σ : Sto} {M : Nat → Nat → V} : Made 0 m B σ σ [] M id := ⟨.refl _, rfl, fun _ h => absurd h (Nat.not_lt_zero _), fun _ h => absurd h (Nat.not_lt_zero _), fun _ _ h => absurd h (Nat.not_lt_zero _)⟩
theorem Made.step {n m B : Nat} {σ₀ σ σ' : Sto} {acc : List V} {M : Nat → Nat → V} {r : Nat → Nat} {a : Nat} (x : Made n m B σ₀ σ acc M r) (hs : Sub σ σ') (hB : B ≤ a) (ha : σ' a = none) :
    Made (n + 1) m B σ₀ (upd σ' a (rowV m (M n))) (acc ++ [.ref a]) M (fun i => if i = n then a else r i) := by
  have hr : ∀ i, i < n → r i ≠ a := fun i hi => ne_of_none ha (hs _ _ (x.row i hi))
  refine ⟨(x.sub.trans hs).trans (.new ha), ?_, fun i hi => ?_, fun i hi => ?_, fun i j hi hj e => ?_⟩
  · rw [rowV_snoc, x.acc]
    congr 1
    · exact rowV_congr fun i hi => by rw [if_neg (by omega)]
    · simp
  · by_cases e : i = n
    · subst e; simp [upd]
    · have hi' : i < n := by omega
      rw [if_neg e, upd_ne (hr i hi')]
      exact hs _ _ (x.row i hi')
  · by_cases e : i = n
    · rw [if_pos e]; exact ⟨hB, (x.sub.trans hs).none ha⟩
    · rw [if_neg e]; exact x.new i (by omega)
  · by_cases e1 : i = n <;> by_cases e2 : j = n
    · omega
    · rw [if_pos e1, if_neg e2] at e; exact absurd e.symm (hr j (by omega))
    · rw [if_neg e1, if_pos e2] at e; exact absurd e (hr i (by omega))
    · rw [if_neg e1, if_neg e2] at e; exact x.inj i j (by omega) (by omega) e
theorem Made.mat {n m B : Nat} {σ₀ σ : Sto} {acc : List V} {M : Nat → Nat → V} {r : Nat → Nat} {l : Nat} (x : Made n m B σ₀ σ acc M r) (hl : σ l = none) : Mat n m (upd σ l acc) l r M := by
  have hr : ∀ i, i < n → r i ≠ l := fun i hi => ne_of_none hl (x.row i hi)
  refine ⟨by rw [upd_at, x.acc], fun i hi => ?_, x.inj, hr⟩
  rw [upd_ne (hr i hi)]
  exact x.row i hi

section
variable (B : Nat) (σ : Sto) (Q : V → Sto → Prop) (a b : Nat) (i j : Int) (v : V) (xs : List Int)
theorem b_len : wpBlt B .len [.ref a] σ Q = ∃ xs, σ a = some xs ∧ Q (.int xs.length) σ := rfl
theorem b_sum : wpBlt B .sum [.ref a] σ Q = ∃ xs ns, σ a = some xs ∧ intsOf xs = some ns ∧ Q (.int ns.sum) σ := rfl
theorem b_max : wpBlt B .max [.ref a] σ Q = ∃ x xs v, σ a = some (x :: xs) ∧ sameKind (x :: xs) = true ∧ bestV gtV x xs = some v ∧ Q v σ := rfl
theorem b_min : wpBlt B .min [.ref a] σ Q = ∃ x xs ns v, σ a = some (x :: xs) ∧ intsOf (x :: xs) = some ns ∧ bestV ltV x xs = some v ∧ Q v σ := rfl
theorem b_max2 : wpBlt B .max [.int i, .int j] σ Q = Q (.int (if i < j then j else i)) σ := rfl
theorem b_min2 : wpBlt B .min [.int i, .int j] σ Q = Q (.int (if j < i then j else i)) σ := rfl
theorem b_sorted : wpBlt B .sorted [.ref a] σ Q = ∃ xs ns, σ a = some xs ∧ intsOf xs = some ns ∧ xs.length < 64 ∧ ∀ ns' : List Int, ns'.Perm ns → ns'.Pairwise (· ≤ ·) → alloc B σ (ns'.map .int) Q := rfl
theorem b_list : wpBlt B .list [.ref a] σ Q = ∃ xs, σ a = some xs ∧ alloc B σ xs Q := rfl
theorem b_listT : wpBlt B .list [.tupI xs] σ Q = (xs.length ≤ LIM ∧ alloc B σ (xs.map .int) Q) := rfl
theorem b_abs : wpBlt B .abs [.int i] σ Q = Q (.int (if i < 0 then -i else i)) σ := rfl
theorem m_pop : wpMeth B .pop (.ref a) [] σ Q = ∃ xs v, σ a = some (xs ++ [v]) ∧ B ≤ a ∧ Q v (upd σ a xs) := rfl
theorem m_append : wpMeth B .append (.ref a) [v] σ Q = ∃ xs, σ a = some xs ∧ B ≤ a ∧ xs.length < LIM ∧ Q .none (upd σ a (xs ++ [v])) := rfl
theorem m_remove : wpMeth B .remove (.ref a) [v] σ Q = ∃ xs ys, σ a = some xs ∧ B ≤ a ∧ comparable v xs = true ∧ removeV v xs = some ys ∧ Q .none (upd σ a ys) := rfl
theorem w_addR : wpBin B .Add (.ref a) (.ref b) σ Q = ∃ xs ys, σ a = some xs ∧ σ b = some ys ∧ xs.length + ys.length ≤ LIM ∧ alloc B σ (xs ++ ys) Q := rfl
theorem w_mulR : wpBin B .Mult (.ref a) (.int i) σ Q = ∃ xs, σ a = some xs ∧ 0 ≤ i ∧ i ≤ 1000 ∧ xs.length ≤ 1000 ∧ alloc B σ (List.replicate i.toNat xs).flatten Q := rfl
end

theorem sm2 : small 2 = true := rfl
theorem sm5 : small 5 = true := rfl
theorem sm6 : small 6 = true := rfl
theorem sm7 : small 7 = true := rfl
theorem sm8 : small 8 = true := rfl
theorem sm36 : small 36 = true := rfl

end Mini
end

section
open PySem PyProof.Rows
namespace Mini
def d_law_tie : FD := ⟨["near", "a", "b", "turned"], blk [
  .ite (.cmp .NotEq (.var "a") (.var "b")) (blk [
    .sto (.sub (.var "near") (.var "a")) (.var "b") (.ite (.of (.var "turned")) (.not (.sub (.sub (.var "near") (.var "a")) (.var "b"))) (.bool true)),
    .sto (.sub (.var "near") (.var "b")) (.var "a") (.sub (.sub (.var "near") (.var "a")) (.var "b"))]) (.nil)]⟩

def d_law_near : FD := ⟨["script"], blk [
  .asg "whole" (.blt .sum (.cons (.var "script") .nil)),
  .asg "step" (.bin .Add (.int 1) (.bin .Mod (.var "whole") (.int 6))),
  .asg "start" (.bin .Mod (.bin .FloorDiv (.var "whole") (.int 6)) (.int 7)),
  .asg "name" (.comp (.bin .Mod (.bin .Add (.bin .Mult (.var "k") (.var "step")) (.var "start")) (.int 7)) "k" (.r1 (.int 7)) .tt),
  .asg "near" (.comp (.bin .Mult (.list (.cons (.bool false) .nil)) (.int 7)) "a" (.r1 (.int 7)) .tt),
  .asg "grown" (.comp (.bin .Mult (.list (.cons (.bool false) .nil)) (.int 7)) "a" (.r1 (.int 7)) .tt),
  .for_ "k" (.r2 (.int 1) (.int 7)) (blk [
    .asg "x" (.bin .Add (.blt .sum (.cons (.slFrom (.var "script") (.bin .Sub (.var "k") (.int 1)) 6) .nil)) (.sub (.glob "_law_SEEDS") (.bin .Sub (.var "k") (.int 1)))),
    .asg "p" (.bin .Mod (.var "x") (.var "k")),
    .expr (.call "_law_tie" (.cons (.var "grown") (.cons (.var "p") (.cons (.var "k") (.cons (.bool false) .nil))))),
    .for_ "q" (.r1 (.var "p")) (blk [
      .ite (.and (.of (.sub (.sub (.var "grown") (.var "p")) (.var "q"))) (.cmp .Eq (.bin .Mod (.bin .FloorDiv (.bin .FloorDiv (.var "x") (.int 8)) (.bin .Pow (.int 2) (.var "q"))) (.int 2)) (.int 1))) (blk [
        .expr (.call "_law_tie" (.cons (.var "grown") (.cons (.var "q") (.cons (.var "k") (.cons (.bool false) .nil)))))]) (.nil)])]),
  .for_ "a" (.r1 (.int 7)) (blk [
    .for_ "b" (.r1 (.int 7)) (blk [
      .sto (.sub (.var "near") (.sub (.var "name") (.var "a"))) (.sub (.var "name") (.var "b")) (.sub (.sub (.var "grown") (.var "a")) (.var "b"))])]),
  .ite (.cmp .Eq (.bin .Mod (.var "whole") (.int 2)) (.int 1)) (blk [
    .asg "size" (.bin .Add (.int 4) (.bin .Mod (.bin .FloorDiv (.var "whole") (.int 2)) (.int 4))),
    .for_ "a" (.r1 (.var "size")) (blk [
      .for_ "b" (.r1 (.var "size")) (blk [
        .sto (.sub (.var "near") (.sub (.var "name") (.var "a"))) (.sub (.var "name") (.var "b")) (.or (.cmp .Eq (.bin .Mod (.bin .Sub (.var "b") (.var "a")) (.var "size")) (.int 1)) (.cmp .Eq (.bin .Mod (.bin .Sub (.var "a") (.var "b")) (.var "size")) (.int 1)))])]),
    .for_ "x" (.val (.slTo (.var "script") 1)) (blk [
      .expr (.call "_law_tie" (.cons (.var "near") (.cons (.bin .Mod (.var "x") (.int 7)) (.cons (.bin .Mod (.bin .FloorDiv (.var "x") (.int 7)) (.int 7)) (.cons (.bool true) .nil)))))])]) (.nil),
  .ret (.var "near")]⟩

def d_law_order : FD := ⟨["near"], blk [
  .asg "counts" (.bin .Mult (.list (.cons (.int 0) .nil)) (.int 7)),
  .asg "heap" (.comp (.tup (.cons (.int 0) (.cons (.var "v") .nil))) "v" (.r1 (.int 7)) .tt),
  .asg "plain" (.blt .list (.cons (.var "heap") .nil)),
  .ite (.cmp .IsNot (.call "_heapify_max" (.cons (.var "heap") .nil)) .none) (blk [
    .ret .none]) (.nil),
  .asg "order" (.list .nil),
  .whl (.cmp .NotEq (.var "plain") (.list .nil)) (blk [
    .asg "due" (.blt .max (.cons (.var "plain") .nil)),
    .expr (.meth .remove (.var "plain") (.cons (.var "due") .nil)),
    .ite (.cmp .NotEq (.call "_heappop_max" (.cons (.var "heap") .nil)) (.var "due")) (blk [
      .ret .none]) (.nil),
    .ite (.and (.cmp .NotIn (.sub (.var "due") (.int 1)) (.var "order")) (.cmp .Eq (.sub (.var "due") (.int 0)) (.sub (.var "counts") (.sub (.var "due") (.int 1))))) (blk [
      .expr (.meth .append (.var "order") (.cons (.sub (.var "due") (.int 1)) .nil)),
      .for_ "v" (.r1 (.int 7)) (blk [
        .ite (.and (.of (.sub (.sub (.var "near") (.sub (.var "due") (.int 1))) (.var "v"))) (.cmp .NotIn (.var "v") (.var "order"))) (blk [
          .sto (.var "counts") (.var "v") (.bin .Add (.sub (.var "counts") (.var "v")) (.int 1)),
          .expr (.meth .append (.var "plain") (.cons (.tup (.cons (.sub (.var "counts") (.var "v")) (.cons (.var "v") .nil))) .nil)),
          .expr (.meth .append (.var "heap") (.cons (.tup (.cons (.sub (.var "counts") (.var "v")) (.cons (.var "v") .nil))) .nil)),
          .ite (.cmp .IsNot (.call "_siftdown_max" (.cons (.var "heap") (.cons (.int 0) (.cons (.bin .Sub (.blt .len (.cons (.var "heap") .nil)) (.int 1)) .nil)))) .none) (blk [
            .ret .none]) (.nil)]) (.nil)])]) (.nil)]),
  .ret (.var "order")]⟩

def d_law_members : FD := ⟨["part"], blk [
  .ret (.comp (.var "v") "v" (.r1 (.int 7)) (.cmp .Eq (.bin .Mod (.bin .FloorDiv (.var "part") (.bin .Pow (.int 2) (.var "v"))) (.int 2)) (.int 1)))]⟩

def d_law_ring : FD := ⟨["ties", "ones"], blk [
  .for_ "part" (.r1 (.int 128)) (blk [
    .asg "members" (.call "_law_members" (.cons (.var "part") .nil)),
    .ite (.and (.cmp .GtE (.sub (.var "ones") (.var "part")) (.int 4)) (.not (.cmp .In (.bool false) (.comp (.cmp .Eq (.sub (.var "ones") (.bin .BitAnd (.sub (.var "ties") (.var "v")) (.var "part"))) (.int 2)) "v" (.val (.var "members")) .tt)))) (blk [
      .asg "seen" (.bin .Pow (.int 2) (.sub (.var "members") (.int 0))),
      .for_ "rounds" (.r1 (.int 4)) (blk [
        .for_ "v" (.val (.var "members")) (blk [
          .ite (.cmp .Eq (.bin .Mod (.bin .FloorDiv (.var "seen") (.bin .Pow (.int 2) (.var "v"))) (.int 2)) (.int 1)) (blk [
            .asg "seen" (.bin .BitOr (.var "seen") (.bin .BitAnd (.sub (.var "ties") (.var "v")) (.var "part")))]) (.nil)])]),
      .ite (.cmp .Eq (.var "seen") (.var "part")) (blk [
        .ret (.bool true)]) (.nil)]) (.nil)]),
  .ret (.bool false)]⟩

def d_law_no_fill : FD := ⟨["order", "ties"], blk [
  .asg "seen" (.int 0),
  .asg "bags" (.list .nil),
  .for_ "v" (.val (.var "order")) (blk [
    .expr (.meth .append (.var "bags") (.cons (.bin .BitAnd (.sub (.var "ties") (.var "v")) (.var "seen")) .nil)),
    .asg "seen" (.bin .Add (.var "seen") (.bin .Pow (.int 2) (.var "v")))]),
  .for_ "bag" (.val (.var "bags")) (blk [
    .for_ "u" (.val (.call "_law_members" (.cons (.var "bag") .nil))) (blk [
      .ite (.cmp .NotEq (.bin .BitAnd (.bin .Sub (.var "bag") (.bin .Pow (.int 2) (.var "u"))) (.sub (.var "ties") (.var "u"))) (.bin .Sub (.var "bag") (.bin .Pow (.int 2) (.var "u")))) (blk [
        .ret .none]) (.nil)])]),
  .ret (.var "bags")]⟩

def d_law_colours : FD := ⟨["order", "near"], blk [
  .asg "colours" (.bin .Mult (.list (.cons (.neg (.int 1)) .nil)) (.int 7)),
  .for_ "v" (.val (.var "order")) (blk [
    .asg "used" (.comp (.sub (.var "colours") (.var "u")) "u" (.r1 (.int 7)) (.of (.sub (.sub (.var "near") (.var "v")) (.var "u")))),
    .asg "c" (.int 0),
    .whl (.cmp .In (.var "c") (.var "used")) (blk [
      .asg "c" (.bin .Add (.var "c") (.int 1))]),
    .sto (.var "colours") (.var "v") (.var "c")]),
  .ret (.bin .Add (.blt .max (.cons (.var "colours") .nil)) (.int 1))]⟩

def d_law : FD := ⟨["script"], blk [
  .asg "near" (.call "_law_near" (.cons (.var "script") .nil)),
  .asg "ties" (.comp (.blt .sum (.cons (.comp (.bin .Pow (.int 2) (.var "u")) "u" (.r1 (.int 7)) (.of (.sub (.sub (.var "near") (.var "v")) (.var "u")))) .nil)) "v" (.r1 (.int 7)) .tt),
  .asg "ones" (.bin .Mult (.list (.cons (.int 0) .nil)) (.int 128)),
  .for_ "part" (.r2 (.int 1) (.int 128)) (blk [
    .sto (.var "ones") (.var "part") (.bin .Add (.sub (.var "ones") (.bin .FloorDiv (.var "part") (.int 2))) (.bin .Mod (.var "part") (.int 2)))]),
  .asg "order" (.call "_law_order" (.cons (.var "near") .nil)),
  .ite (.or (.cmp .Is (.var "order") .none) (.cmp .NotEq (.blt .sorted (.cons (.var "order") .nil)) (.list (.cons (.int 0) (.cons (.int 1) (.cons (.int 2) (.cons (.int 3) (.cons (.int 4) (.cons (.int 5) (.cons (.int 6) .nil)))))))))) (blk [
    .ret (.bool false)]) (.nil),
  .asg "bags" (.call "_law_no_fill" (.cons (.var "order") (.cons (.var "ties") .nil))),
  .asg "ring" (.call "_law_ring" (.cons (.var "ties") (.cons (.var "ones") .nil))),
  .ite (.or (.of (.var "ring")) (.cmp .Is (.var "bags") .none)) (blk [
    .ret (.and (.var "ring") (.cmp .Is (.var "bags") .none))]) (.nil),
  .asg "wholes" (.comp (.bin .Add (.sub (.var "bags") (.var "k")) (.bin .Pow (.int 2) (.sub (.var "order") (.var "k")))) "k" (.r1 (.int 7)) .tt),
  .asg "greatest" (.int 0),
  .asg "most_apart" (.int 0),
  .for_ "part" (.r2 (.int 1) (.int 128)) (blk [
    .asg "members" (.call "_law_members" (.cons (.var "part") .nil)),
    .ite (.not (.cmp .In (.bool false) (.comp (.cmp .Eq (.sub (.var "ones") (.bin .BitAnd (.sub (.var "ties") (.var "v")) (.var "part"))) (.bin .Sub (.sub (.var "ones") (.var "part")) (.int 1))) "v" (.val (.var "members")) .tt))) (blk [
      .asg "greatest" (.blt .max (.cons (.var "greatest") (.cons (.sub (.var "ones") (.var "part")) .nil))),
      .ite (.and (.not (.cmp .In (.bool true) (.comp (.cmp .Eq (.bin .BitAnd (.sub (.var "ties") (.var "v")) (.var "part")) (.var "part")) "v" (.r1 (.int 7)) .tt))) (.cmp .NotIn (.var "part") (.var "wholes"))) (blk [
        .ret (.bool false)]) (.nil)]) (.nil),
    .ite (.not (.cmp .In (.bool true) (.comp (.cmp .NotEq (.bin .BitAnd (.sub (.var "ties") (.var "v")) (.var "part")) (.int 0)) "v" (.val (.var "members")) .tt))) (blk [
      .asg "most_apart" (.blt .max (.cons (.var "most_apart") (.cons (.sub (.var "ones") (.var "part")) .nil)))]) (.nil)]),
  .ite (.or (.cmp .NotEq (.call "_law_colours" (.cons (.var "order") (.cons (.var "near") .nil))) (.var "greatest")) (.cmp .NotEq (.var "greatest") (.bin .Add (.int 1) (.blt .max (.cons (.comp (.sub (.var "ones") (.var "bag")) "bag" (.val (.var "bags")) .tt) .nil))))) (blk [
    .ret (.bool false)]) (.nil),
  .asg "covered" (.int 0),
  .asg "taken" (.int 0),
  .asg "cover" (.int 0),
  .for_ "k" (.down (.int 6) (.neg (.int 1))) (blk [
    .ite (.cmp .Eq (.bin .Mod (.bin .FloorDiv (.var "covered") (.bin .Pow (.int 2) (.sub (.var "order") (.var "k")))) (.int 2)) (.int 0)) (blk [
      .ite (.cmp .NotEq (.bin .BitAnd (.sub (.var "ties") (.sub (.var "order") (.var "k"))) (.var "taken")) (.int 0)) (blk [
        .ret (.bool false)]) (.nil),
      .asg "taken" (.bin .Add (.var "taken") (.bin .Pow (.int 2) (.sub (.var "order") (.var "k")))),
      .asg "covered" (.bin .BitOr (.bin .BitOr (.var "covered") (.sub (.var "ties") (.sub (.var "order") (.var "k")))) (.bin .Pow (.int 2) (.sub (.var "order") (.var "k")))),
      .asg "cover" (.bin .BitOr (.var "cover") (.sub (.var "wholes") (.var "k")))]) (.nil)]),
  .ret (.and (.cmp .Eq (.sub (.var "ones") (.var "taken")) (.var "most_apart")) (.cmp .Eq (.var "cover") (.int 127)))]⟩

def tbl : List (String × FD) := [("_heappop_max", d_heappop_max), ("_heapify_max", d_heapify_max), ("_siftdown_max", d_siftdown_max), ("_siftup_max", d_siftup_max), ("_law_tie", d_law_tie), ("_law_near", d_law_near), ("_law_order", d_law_order), ("_law_members", d_law_members), ("_law_ring", d_law_ring), ("_law_no_fill", d_law_no_fill), ("_law_colours", d_law_colours), ("law", d_law)]
end Mini
end

section
open PySem PyProof.Rows
namespace Mini

theorem nodup_le {α : Type} [DecidableEq α] : ∀ {l m : List α}, l.Nodup → (∀ x ∈ l, x ∈ m) → l.length ≤ m.length
  | [], _, _, _ => Nat.zero_le _
  | a :: l, m, nd, h => by
    obtain ⟨n1, n2⟩ := List.nodup_cons.mp nd
    have ha := h a List.mem_cons_self
    have := nodup_le (l := l) (m := m.erase a) n2 fun x hx => (List.mem_erase_of_ne (fun (e : x = a) => n1 (e ▸ hx))).mpr (h x (List.mem_cons_of_mem _ hx))
    rw [List.length_erase_of_mem ha] at this
    have hp : 0 < m.length := List.length_pos_of_mem ha
    rw [List.length_cons]
    omega

theorem least_ex {p : Nat → Prop} (h : ∃ n, p n) : ∃ n, p n ∧ ∀ m, m < n → ¬ p m := by
  obtain ⟨n, hn⟩ := h
  induction n using Nat.strongRecOn with
  | ind n ih =>
    by_cases q : ∃ m, m < n ∧ p m
    · obtain ⟨m, h1, h2⟩ := q
      exact ih m h1 h2
    · exact ⟨n, hn, fun m h1 h2 => q ⟨m, h1, h2⟩⟩

/-- a graph on seven points -/
structure Gr (E : Nat → Nat → Bool) : Prop where
  sym : ∀ a b, E a b = E b a
  irr : ∀ a, E a a = false
  lt : ∀ a b, E a b = true → a < 7

/-- the visits: where each point stands, and what the choice by most neighbours gives -/
structure Vis (E : Nat → Nat → Bool) (pos : Nat → Nat) : Prop where
  inj : ∀ a b, a < 7 → b < 7 → pos a = pos b → a = b
  mcs : ∀ a b c, a < 7 → b < 7 → c < 7 → pos a < pos b → pos b < pos c → E a c = true → E a b = false → ∃ d, d < 7 ∧ pos d < pos b ∧ E d b = true ∧ E d c = false

structure Cyc (E : Nat → Nat → Bool) (c : Nat → Nat) (m : Nat) : Prop where
  four : 4 ≤ m
  lt : ∀ i, i < m → c i < 7
  inj : ∀ i j, i < j → j < m → c i ≠ c j
  adj : ∀ i j, i < j → j < m → (E (c i) (c j) = true ↔ j = i + 1 ∨ (i = 0 ∧ j = m - 1))

structure Pth (E : Nat → Nat → Bool) (pos : Nat → Nat) (c : Nat → Nat) (k : Nat) : Prop where
  two : 2 ≤ k
  lt : ∀ i, i ≤ k → c i < 7
  inj : ∀ i j, i < j → j ≤ k → c i ≠ c j
  adj : ∀ i j, i < j → j ≤ k → (E (c i) (c j) = true ↔ j = i + 1)
  ends : ∀ i, 0 < i → i < k → pos (c 0) < pos (c i) ∧ pos (c k) < pos (c i)

section
variable {E : Nat → Nat → Bool} {pos : Nat → Nat}

theorem Pth.rev (g : Gr E) {c : Nat → Nat} {k : Nat} (p : Pth E pos c k) : Pth E pos (fun i => c (k - i)) k := by
  refine ⟨p.two, fun i hi => p.lt _ (by omega), fun i j hij hj e => p.inj (k - j) (k - i) (by omega) (by omega) e.symm, fun i j hij hj => ?_, fun i h0 hk => ?_⟩
  · show E (c (k - i)) (c (k - j)) = true ↔ _
    rw [g.sym, p.adj (k - j) (k - i) (by omega) (by omega)]
    omega
  · show pos (c (k - 0)) < pos (c (k - i)) ∧ pos (c (k - k)) < pos (c (k - i))
    have := p.ends (k - i) (by omega) (by omega)
    rw [Nat.sub_zero, Nat.sub_self]
    exact ⟨this.2, this.1⟩

theorem cycle_of_path (g : Gr E) (v : Vis E pos) : ∀ (n : Nat) (c : Nat → Nat) (k : Nat), Pth E pos c k → pos (c 0) ≤ n → pos (c k) ≤ n → ∃ c' m, Cyc E c' m := by
  intro n
  induction n using Nat.strongRecOn with
  | ind n ih =>
    have main : ∀ (c : Nat → Nat) (k : Nat), Pth E pos c k → pos (c 0) < pos (c k) → pos (c k) ≤ n → ∃ c' m, Cyc E c' m := by
      intro c k p hlt hk
      have h2 := p.two
      have e01 : E (c 0) (c 1) = true := (p.adj 0 1 (by omega) (by omega)).mpr rfl
      have e0k : E (c 0) (c k) = false := by
        cases q : E (c 0) (c k) with
        | false => rfl
        | true => have := (p.adj 0 k (by omega) (Nat.le_refl _)).mp q; omega
      have h1k := (p.ends 1 (by omega) (by omega)).2
      obtain ⟨d, d1, d2, d3, d4⟩ := v.mcs (c 0) (c k) (c 1) (p.lt 0 (by omega)) (p.lt k (Nat.le_refl _)) (p.lt 1 (by omega)) hlt h1k e01 e0k
      obtain ⟨j, ⟨j1, j2, j3⟩, j4⟩ := least_ex (p := fun j => 2 ≤ j ∧ j ≤ k ∧ E d (c j) = true) ⟨k, h2, Nat.le_refl _, d3⟩
      have dn : ∀ i, 1 ≤ i → i < j → E d (c i) = false := fun i i1 i2 => by
        cases q : E d (c i) with
        | false => rfl
        | true =>
          by_cases q1 : i = 1
          · subst q1; rw [d4] at q; cases q
          · exact absurd ⟨by omega, by omega, q⟩ (j4 i i2)
      have dne : ∀ i, i ≤ k → c i ≠ d := fun i hi e => by
        by_cases q : i = k
        · subst q; rw [e, g.irr] at d3; cases d3
        · by_cases q0 : i = 0
          · subst q0; rw [e, d3] at e0k; cases e0k
          · have := (p.ends i (by omega) (by omega)).2
            rw [e] at this
            omega
      cases q0 : E d (c 0) with
      | true =>
        refine ⟨fun i => if i ≤ j then c i else d, j + 2, by omega, fun i hi => ?_, fun i i' hii hi' => ?_, fun i i' hii hi' => ?_⟩
        · split
          · exact p.lt i (by omega)
          · exact d1
        · try dsimp only
          rw [if_pos (show i ≤ j by omega)]
          split
          · exact p.inj i i' hii (by omega)
          · exact dne i (by omega)
        · try dsimp only
          rw [if_pos (show i ≤ j by omega)]
          by_cases q1 : i' ≤ j
          · rw [if_pos q1, p.adj i i' hii (by omega)]
            omega
          · rw [if_neg q1, g.sym]
            by_cases q2 : i = 0
            · subst q2; rw [q0]; simp; omega
            · by_cases q3 : i = j
              · subst q3; rw [j3]; simp; omega
              · rw [dn i (by omega) (by omega)]; simp; omega
      | false =>
        have hpk : ∀ i, 0 < i → i ≤ k → pos (c k) ≤ pos (c i) := fun i i0 i1 => by
          by_cases q : i = k
          · subst q; exact Nat.le_refl _
          · exact Nat.le_of_lt (p.ends i i0 (by omega)).2
        have p' : Pth E pos (fun i => if i ≤ j then c i else d) (j + 1) := by
          refine ⟨by omega, fun i hi => ?_, fun i i' hii hi' => ?_, fun i i' hii hi' => ?_, fun i i0 ik => ?_⟩
          · split
            · exact p.lt i (by omega)
            · exact d1
          · try dsimp only
            rw [if_pos (show i ≤ j by omega)]
            split
            · exact p.inj i i' hii (by omega)
            · exact dne i (by omega)
          · try dsimp only
            rw [if_pos (show i ≤ j by omega)]
            by_cases q1 : i' ≤ j
            · rw [if_pos q1, p.adj i i' hii (by omega)]
            · rw [if_neg q1, g.sym]
              by_cases q2 : i = 0
              · subst q2; rw [q0]; simp; omega
              · by_cases q3 : i = j
                · subst q3; rw [j3]; simp; omega
                · rw [dn i (by omega) (by omega)]; simp; omega
          · try dsimp only
            rw [if_pos (Nat.zero_le _), if_pos (show i ≤ j by omega), if_neg (show ¬ j + 1 ≤ j by omega)]
            have := hpk i i0 (by omega)
            omega
        refine ih (pos (c k) - 1) (by omega) _ (j + 1) p' ?_ ?_
        · show pos (if 0 ≤ j then c 0 else d) ≤ _
          rw [if_pos (Nat.zero_le _)]; omega
        · show pos (if j + 1 ≤ j then c (j + 1) else d) ≤ _
          rw [if_neg (show ¬ j + 1 ≤ j by omega)]; omega
    intro c k p h1 h2
    have hne : pos (c 0) ≠ pos (c k) := fun e => by
      have := v.inj _ _ (p.lt 0 (by omega)) (p.lt k (Nat.le_refl _)) e
      have h2 := p.two
      exact p.inj 0 k (by omega) (Nat.le_refl _) this
    rcases Nat.lt_or_ge (pos (c 0)) (pos (c k)) with q | q
    · exact main c k p q h2
    · refine main _ k (p.rev g) ?_ ?_
      · show pos (c (k - 0)) < pos (c (k - k))
        rw [Nat.sub_zero, Nat.sub_self]
        omega
      · show pos (c (k - k)) ≤ n
        rw [Nat.sub_self]
        exact h1

/-- two earlier neighbours of a point that are not tied give a ring without a chord -/
theorem cycle_of_gap (g : Gr E) (v : Vis E pos) {x y z : Nat} (hx : x < 7) (hy : y < 7) (hz : z < 7) (px : pos x < pos z) (py : pos y < pos z) (ex : E z x = true) (ey : E z y = true) (hxy : x ≠ y) (hn : E x y = false) : ∃ c m, Cyc E c m := by
  have p : Pth E pos (fun i => if i = 0 then x else if i = 1 then z else y) 2 := by
    have zx : z ≠ x := fun e => by rw [e] at px; omega
    have zy : z ≠ y := fun e => by rw [e] at py; omega
    refine ⟨Nat.le_refl _, fun i _ => ?_, fun i j hij hj => ?_, fun i j hij hj => ?_, fun i i0 i2 => ?_⟩
    · split
      · exact hx
      · split
        · exact hz
        · exact hy
    · rcases (show (i = 0 ∧ j = 1) ∨ (i = 0 ∧ j = 2) ∨ (i = 1 ∧ j = 2) by omega) with ⟨rfl, rfl⟩ | ⟨rfl, rfl⟩ | ⟨rfl, rfl⟩
      · exact Ne.symm zx
      · exact hxy
      · exact zy
    · rcases (show (i = 0 ∧ j = 1) ∨ (i = 0 ∧ j = 2) ∨ (i = 1 ∧ j = 2) by omega) with ⟨rfl, rfl⟩ | ⟨rfl, rfl⟩ | ⟨rfl, rfl⟩
      · show E x z = true ↔ _
        rw [g.sym, ex]; simp
      · show E x y = true ↔ _
        rw [hn]; simp
      · show E z y = true ↔ _
        rw [ey]; simp
    · have : i = 1 := by omega
      subst this
      exact ⟨px, py⟩
  exact cycle_of_path g v (pos x + pos y) _ 2 p (by show pos x ≤ _; omega) (by show pos y ≤ _; omega)
end
end Mini
end

section
open PySem PyProof.Rows
namespace Mini

/-! counting on seven points -/
def cnt (q : Nat → Bool) : Nat := ((List.range 7).filter q).length

theorem fnd (q : Nat → Bool) : ((List.range 7).filter q).Nodup := List.nodup_range.filter _
theorem mem_f {q : Nat → Bool} {v : Nat} : v ∈ (List.range 7).filter q ↔ v < 7 ∧ q v = true := by rw [List.mem_filter, List.mem_range]

section
variable {q r : Nat → Bool}
theorem cnt_le (h : ∀ v, v < 7 → q v = true → r v = true) : cnt q ≤ cnt r := nodup_le (fnd q) fun v hv => mem_f.mpr ⟨(mem_f.mp hv).1, h v (mem_f.mp hv).1 (mem_f.mp hv).2⟩
theorem cnt_congr (h : ∀ v, v < 7 → q v = r v) : cnt q = cnt r := Nat.le_antisymm (cnt_le fun v hv e => by rw [← h v hv]; exact e) (cnt_le fun v hv e => by rw [h v hv]; exact e)
theorem cnt_lt (h : ∀ v, v < 7 → q v = true → r v = true) {v : Nat} (hv : v < 7) (h1 : r v = true) (h2 : q v = false) : cnt q < cnt r := by
  have := nodup_le (l := v :: (List.range 7).filter q) (m := (List.range 7).filter r) (List.nodup_cons.mpr ⟨(fun z => by rw [(mem_f.mp z).2] at h2; cases h2), fnd q⟩) fun u hu => by
    rcases List.mem_cons.mp hu with rfl | hu
    · exact mem_f.mpr ⟨hv, h1⟩
    · exact mem_f.mpr ⟨(mem_f.mp hu).1, h u (mem_f.mp hu).1 (mem_f.mp hu).2⟩
  exact this
theorem cnt_erase {v : Nat} (hv : v < 7) (h : q v = true) : cnt (fun u => q u && u != v) + 1 = cnt q := by
  refine Nat.le_antisymm ?_ ?_
  · refine nodup_le (l := v :: (List.range 7).filter fun u => q u && u != v) (List.nodup_cons.mpr ⟨(fun z => by have := (mem_f.mp z).2; simp at this), fnd _⟩) fun u hu => ?_
    rcases List.mem_cons.mp hu with rfl | hu
    · exact mem_f.mpr ⟨hv, h⟩
    · have := mem_f.mp hu
      simp only [Bool.and_eq_true] at this
      exact mem_f.mpr ⟨this.1, this.2.1⟩
  · refine nodup_le (m := v :: (List.range 7).filter fun u => q u && u != v) (fnd q) fun u hu => ?_
    by_cases e : u = v
    · rw [e]; exact List.mem_cons_self
    · refine List.mem_cons_of_mem _ (mem_f.mpr ⟨(mem_f.mp hu).1, ?_⟩)
      simp [(mem_f.mp hu).2, e]
theorem cnt_list {l : List Nat} (nd : l.Nodup) (h : ∀ v, v ∈ l ↔ v < 7 ∧ q v = true) : cnt q = l.length :=
  Nat.le_antisymm (nodup_le (fnd q) fun v hv => (h v).mpr (mem_f.mp hv)) (nodup_le nd fun v hv => mem_f.mpr ((h v).mp hv))
theorem cnt_ge {l : List Nat} (nd : l.Nodup) (h : ∀ v ∈ l, v < 7 ∧ q v = true) : l.length ≤ cnt q := nodup_le nd fun v hv => mem_f.mpr (h v hv)
theorem cnt_map {l : List Nat} (f : Nat → Nat) (hinj : ∀ a b, a < 7 → b < 7 → q a = true → q b = true → f a = f b → a = b) (h : ∀ v, v < 7 → q v = true → f v ∈ l) : cnt q ≤ l.length := by
  have key : ∀ xs : List Nat, xs.Nodup → (∀ x ∈ xs, x < 7 ∧ q x = true) → (xs.map f).Nodup := fun xs => by
    induction xs with
    | nil => intro _ _; exact .nil
    | cons a as ih =>
      intro nd hx
      obtain ⟨n1, n2⟩ := List.nodup_cons.mp nd
      refine List.nodup_cons.mpr ⟨fun hm => ?_, ih n2 fun x hxx => hx x (List.mem_cons_of_mem _ hxx)⟩
      obtain ⟨b, hb, e⟩ := List.mem_map.mp hm
      have ha := hx a List.mem_cons_self
      have hb' := hx b (List.mem_cons_of_mem _ hb)
      exact n1 (hinj b a hb'.1 ha.1 hb'.2 ha.2 e ▸ hb)
  have := nodup_le (key _ (fnd q) fun x hx => mem_f.mp hx) (m := l) fun y hy => by
    obtain ⟨x, hx, rfl⟩ := List.mem_map.mp hy
    exact h x (mem_f.mp hx).1 (mem_f.mp hx).2
  rwa [List.length_map] at this
end

/-! masks -/
def pc (p : Nat) : Nat := cnt fun v => p.testBit v

theorem mask_ext {p p' : Nat} (h1 : p < 128) (h2 : p' < 128) (h : ∀ v, v < 7 → p.testBit v = p'.testBit v) : p = p' := by
  refine Nat.eq_of_testBit_eq fun v => ?_
  rcases Nat.lt_or_ge v 7 with q | q
  · exact h v q
  · have e : ∀ x, x < 128 → x.testBit v = false := fun x hx => Nat.testBit_lt_two_pow (Nat.lt_of_lt_of_le hx (by
      have : 2 ^ 7 ≤ 2 ^ v := Nat.pow_le_pow_right (by decide) q
      simpa using this))
    rw [e p h1, e p' h2]

theorem and_lt {a b : Nat} (h : b < 128) : a &&& b < 128 := Nat.lt_of_le_of_lt Nat.and_le_right h
theorem or_lt {a b : Nat} (h1 : a < 128) (h2 : b < 128) : a ||| b < 128 := Nat.or_lt_two_pow (n := 7) h1 h2

theorem pc_half : ∀ p, p < 128 → 1 ≤ p → pc p = pc (p / 2) + p % 2 := by decide +kernel
theorem add_bit : ∀ p, p < 128 → ∀ v, v < 7 → p.testBit v = false → p + 2 ^ v < 128 ∧ ∀ u, u < 7 → (p + 2 ^ v).testBit u = (p.testBit u || u == v) := by decide +kernel
theorem sub_bit : ∀ p, p < 128 → ∀ v, v < 7 → p.testBit v = true → 2 ^ v ≤ p ∧ ∀ u, u < 7 → (p - 2 ^ v).testBit u = (p.testBit u && u != v) := by decide +kernel
theorem test_bit (p v : Nat) : ((p / 2 ^ v) % 2 == 1) = p.testBit v := by
  rw [Nat.testBit_eq_decide_div_mod_eq, Bool.eq_iff_iff]
  simp
theorem pow_bit : ∀ v, v < 7 → 2 ^ v < 128 ∧ ∀ u, u < 7 → (2 ^ v).testBit u = (u == v) := by decide +kernel

def mk7 (f : Nat → Bool) : Nat → Nat
  | 0 => 0
  | n + 1 => mk7 f n + (if f n = true then 2 ^ n else 0)
theorem mk7_ok (f : Nat → Bool) : ∀ n, n ≤ 7 → mk7 f n < 2 ^ n ∧ ∀ u, u < 7 → (mk7 f n).testBit u = (decide (u < n) && f u)
  | 0, _ => ⟨by show 0 < 1; decide, fun u _ => by simp [mk7]⟩
  | n + 1, hn => by
    obtain ⟨h1, h2⟩ := mk7_ok f n (by omega)
    have h128 : mk7 f n < 128 := Nat.lt_of_lt_of_le h1 (by
      have : 2 ^ n ≤ 2 ^ 7 := Nat.pow_le_pow_right (by decide) (by omega)
      simpa using this)
    unfold mk7
    by_cases c : f n = true
    · rw [if_pos c]
      obtain ⟨g1, g2⟩ := add_bit _ h128 n (by omega) (by rw [h2 n (by omega)]; simp)
      refine ⟨by rw [Nat.pow_succ]; omega, fun u hu => ?_⟩
      rw [g2 u hu, h2 u hu, Bool.eq_iff_iff]
      by_cases e : u = n
      · subst e; simp [c]
      · simp [e]; omega
    · rw [if_neg c]
      refine ⟨by rw [Nat.pow_succ]; omega, fun u hu => ?_⟩
      rw [Nat.add_zero, h2 u hu, Bool.eq_iff_iff]
      by_cases e : u = n
      · subst e; simp [c]
      · simp; omega
end Mini
end

section
open PySem PyProof.Rows
namespace Mini

structure Od (pos w : Nat → Nat) : Prop where
  wl : ∀ k, k < 7 → w k < 7
  pw : ∀ k, k < 7 → pos (w k) = k
  pl : ∀ v, v < 7 → pos v < 7
  wp : ∀ v, v < 7 → w (pos v) = v

/-- the earlier neighbours of the k-th point -/
def Bg (E : Nat → Nat → Bool) (pos w : Nat → Nat) (k u : Nat) : Bool := E (w k) u && decide (pos u < k)
/-- with the point itself -/
def Wh (E : Nat → Nat → Bool) (pos w : Nat → Nat) (k u : Nat) : Bool := Bg E pos w k u || u == w k
def Nf (E : Nat → Nat → Bool) (pos w : Nat → Nat) : Prop := ∀ k, k < 7 → ∀ a b, a < 7 → b < 7 → a ≠ b → Bg E pos w k a = true → Bg E pos w k b = true → E a b = true
def Clq (E : Nat → Nat → Bool) (K : Nat → Bool) : Prop := ∀ a b, a < 7 → b < 7 → a ≠ b → K a = true → K b = true → E a b = true

theorem max_ex {p : Nat → Prop} {n : Nat} (h : ∃ k, k < n ∧ p k) : ∃ k, k < n ∧ p k ∧ ∀ j, j < n → p j → j ≤ k := by
  induction n with
  | zero => obtain ⟨k, hk, _⟩ := h; omega
  | succ n ih =>
    by_cases q : p n
    · exact ⟨n, by omega, q, fun j hj _ => by omega⟩
    · obtain ⟨k, hk, hp⟩ := h
      have hkn : k ≠ n := fun e => q (e ▸ hp)
      obtain ⟨k', h1, h2, h3⟩ := ih ⟨k, by omega, hp⟩
      refine ⟨k', by omega, h2, fun j hj hpj => ?_⟩
      have : j ≠ n := fun e => q (e ▸ hpj)
      exact h3 j (by omega) hpj

section
variable {E : Nat → Nat → Bool} {pos w : Nat → Nat}

theorem whole_clq (g : Gr E) (o : Od pos w) (nf : Nf E pos w) {k : Nat} (hk : k < 7) : Clq E (Wh E pos w k) := by
  intro a b ha hb hab h1 h2
  unfold Wh at h1 h2
  simp only [Bool.or_eq_true, beq_iff_eq] at h1 h2
  rcases h1 with h1 | h1 <;> rcases h2 with h2 | h2
  · exact nf k hk a b ha hb hab h1 h2
  · subst h2
    unfold Bg at h1
    simp only [Bool.and_eq_true] at h1
    rw [g.sym]; exact h1.1
  · subst h1
    unfold Bg at h2
    simp only [Bool.and_eq_true] at h2
    exact h2.1
  · exact absurd (h1.trans h2.symm) hab

/-- a clique lies within the whole of its last point -/
theorem clq_in (g : Gr E) (o : Od pos w) {K : Nat → Bool} (c : Clq E K) (hne : ∃ v, v < 7 ∧ K v = true) : ∃ k, k < 7 ∧ K (w k) = true ∧ ∀ u, u < 7 → K u = true → Wh E pos w k u = true := by
  obtain ⟨v, hv, hK⟩ := hne
  obtain ⟨k, h1, h2, h3⟩ := max_ex (n := 7) (p := fun k => K (w k) = true) ⟨pos v, o.pl v hv, by rw [o.wp v hv]; exact hK⟩
  refine ⟨k, h1, h2, fun u hu hKu => ?_⟩
  unfold Wh Bg
  have hle := h3 (pos u) (o.pl u hu) (by rw [o.wp u hu]; exact hKu)
  by_cases e : u = w k
  · simp [e]
  · have hlt : pos u < k := by
      rcases Nat.lt_or_ge (pos u) k with q | q
      · exact q
      · have : pos u = k := by omega
        rw [← this, o.wp u hu] at e
        exact absurd rfl e
    have := c (w k) u (o.wl k h1) hu (Ne.symm e) h2 hKu
    simp [this, hlt]

/-- a clique that can grow no more is a whole -/
theorem clq_max (g : Gr E) (o : Od pos w) (nf : Nf E pos w) {K : Nat → Bool} (c : Clq E K) (hne : ∃ v, v < 7 ∧ K v = true) (hm : ∀ v, v < 7 → ∃ u, u < 7 ∧ K u = true ∧ E v u = false) :
    ∃ k, k < 7 ∧ ∀ u, u < 7 → K u = Wh E pos w k u := by
  obtain ⟨k, h1, h2, h3⟩ := clq_in g o c hne
  refine ⟨k, h1, fun u hu => ?_⟩
  cases hK : K u with
  | true => exact (h3 u hu hK).symm
  | false =>
    cases hW : Wh E pos w k u with
    | false => rfl
    | true =>
      obtain ⟨z, hz, hKz, hE⟩ := hm u hu
      have hne : u ≠ z := fun e => by rw [e, hKz] at hK; cases hK
      have := whole_clq g o nf h1 u z hu hz hne hW (h3 z hz hKz)
      rw [this] at hE; cases hE

theorem cnt_whole (g : Gr E) (o : Od pos w) {k : Nat} (hk : k < 7) : cnt (Wh E pos w k) = cnt (Bg E pos w k) + 1 := by
  have h1 : Wh E pos w k (w k) = true := by unfold Wh; simp
  have h2 := cnt_erase (q := Wh E pos w k) (o.wl k hk) h1
  rw [← h2]
  congr 1
  refine cnt_congr fun u hu => ?_
  by_cases e : u = w k
  · subst e
    have : Bg E pos w k (w k) = false := by unfold Bg; rw [g.irr]; rfl
    rw [this]
    simp
  · have e' : (u == w k) = false := by simpa using e
    show ((Bg E pos w k u || u == w k) && !(u == w k)) = _
    rw [e']
    simp

theorem clq_le (g : Gr E) (o : Od pos w) {K : Nat → Bool} (c : Clq E K) {m : Nat} (hm : ∀ k, k < 7 → cnt (Bg E pos w k) ≤ m) : cnt K ≤ m + 1 := by
  by_cases hne : ∃ v, v < 7 ∧ K v = true
  · obtain ⟨k, h1, h2, h3⟩ := clq_in g o c hne
    have := cnt_le h3
    rw [cnt_whole g o h1] at this
    have := hm k h1
    omega
  · have : cnt K ≤ cnt fun _ => false := cnt_le fun v hv h => absurd ⟨v, hv, h⟩ hne
    have e : cnt (fun _ => false) = 0 := by decide
    omega

/-- the colours by least choice -/
structure Col (E : Nat → Nat → Bool) (pos w : Nat → Nat) (col : Nat → Nat) : Prop where
  off : ∀ k, k < 7 → ∀ u, u < 7 → Bg E pos w k u = true → col u ≠ col (w k)
  low : ∀ k, k < 7 → ∀ c, c < col (w k) → ∃ u, u < 7 ∧ Bg E pos w k u = true ∧ col u = c

theorem col_le {col : Nat → Nat} (c : Col E pos w col) {k : Nat} (hk : k < 7) : col (w k) ≤ cnt (Bg E pos w k) := by
  have := nodup_le (l := List.range (col (w k))) (m := ((List.range 7).filter (Bg E pos w k)).map col) List.nodup_range fun x hx => by
    obtain ⟨u, u1, u2, u3⟩ := c.low k hk x (List.mem_range.mp hx)
    exact List.mem_map.mpr ⟨u, mem_f.mpr ⟨u1, u2⟩, u3⟩
  rw [List.length_range, List.length_map] at this
  exact this

theorem col_ge (g : Gr E) (o : Od pos w) (nf : Nf E pos w) {col : Nat → Nat} (c : Col E pos w col) {k M : Nat} (hk : k < 7) (hM : ∀ v, v < 7 → col v ≤ M) : cnt (Bg E pos w k) ≤ M := by
  have hd : ∀ a b, a < 7 → b < 7 → E a b = true → pos a < pos b → col a ≠ col b := fun a b ha hb he hp => by
    have := c.off (pos b) (o.pl b hb) a ha (by unfold Bg; rw [o.wp b hb, g.sym, he]; simpa using hp)
    rw [o.wp b hb] at this
    exact this
  have := cnt_map (q := Wh E pos w k) (l := List.range (M + 1)) col (fun a b ha hb h1 h2 e => by
    refine Classical.byContradiction fun hne => ?_
    have hE := whole_clq g o nf hk a b ha hb hne h1 h2
    rcases Nat.lt_trichotomy (pos a) (pos b) with q | q | q
    · exact hd a b ha hb hE q e
    · have := congrArg w q
      rw [o.wp a ha, o.wp b hb] at this
      exact hne this
    · exact hd b a hb ha (by rw [g.sym]; exact hE) q e.symm) fun v hv _ => List.mem_range.mpr (by have := hM v hv; omega)
  rw [cnt_whole g o hk, List.length_range] at this
  omega

/-- points taken on the way back -/
def Tk (E : Nat → Nat → Bool) (w : Nat → Nat) (t : Nat → Bool) : Prop := ∀ k, k < 7 → (t (w k) = true ↔ ∀ j, k < j → j < 7 → t (w j) = true → E (w j) (w k) = false)

theorem tk_ind (g : Gr E) (o : Od pos w) {t : Nat → Bool} (h : Tk E w t) : ∀ a b, a < 7 → b < 7 → t a = true → t b = true → E a b = false := by
  have key : ∀ a b, a < 7 → b < 7 → pos a < pos b → t a = true → t b = true → E b a = false := fun a b ha hb hp h1 h2 => by
    have := (h (pos a) (o.pl a ha)).mp (by rw [o.wp a ha]; exact h1) (pos b) hp (o.pl b hb) (by rw [o.wp b hb]; exact h2)
    rw [o.wp a ha, o.wp b hb] at this
    exact this
  intro a b ha hb h1 h2
  rcases Nat.lt_trichotomy (pos a) (pos b) with q | q | q
  · rw [g.sym]; exact key a b ha hb q h1 h2
  · have := congrArg w q
    rw [o.wp a ha, o.wp b hb] at this
    rw [this, g.irr]
  · exact key b a hb ha q h2 h1

theorem tk_cover (g : Gr E) (o : Od pos w) {t : Nat → Bool} (h : Tk E w t) : ∀ u, u < 7 → ∃ k, k < 7 ∧ t (w k) = true ∧ Wh E pos w k u = true := by
  intro u hu
  by_cases q : t u = true
  · exact ⟨pos u, o.pl u hu, by rw [o.wp u hu]; exact q, by unfold Wh; rw [o.wp u hu]; simp⟩
  · have hn : ¬ ∀ j, pos u < j → j < 7 → t (w j) = true → E (w j) (w (pos u)) = false := fun z => q (by
      have := (h (pos u) (o.pl u hu)).mpr z
      rw [o.wp u hu] at this
      exact this)
    have : ∃ j, pos u < j ∧ j < 7 ∧ t (w j) = true ∧ E (w j) u = true := by
      refine Classical.byContradiction fun hc => hn fun j h1 h2 h3 => ?_
      rw [o.wp u hu]
      cases e : E (w j) u with
      | false => rfl
      | true => exact absurd ⟨j, h1, h2, h3, e⟩ hc
    obtain ⟨j, h1, h2, h3, h4⟩ := this
    exact ⟨j, h2, h3, by unfold Wh Bg; simp [h4, h1]⟩

theorem tk_max (g : Gr E) (o : Od pos w) (nf : Nf E pos w) {t : Nat → Bool} (h : Tk E w t) {I : Nat → Bool} (hI : ∀ a b, a < 7 → b < 7 → I a = true → I b = true → E a b = false) : cnt I ≤ cnt t := by
  have hc : ∀ u, ∃ k, u < 7 → (k < 7 ∧ t (w k) = true ∧ Wh E pos w k u = true) := fun u => by
    by_cases hu : u < 7
    · obtain ⟨k, hk⟩ := tk_cover g o h u hu
      exact ⟨k, fun _ => hk⟩
    · exact ⟨0, fun q => absurd q hu⟩
  refine cnt_map (q := I) (l := (List.range 7).filter t) (fun u => w (Classical.choose (hc u))) (fun a b ha hb h1 h2 e => ?_) fun v hv _ => ?_
  · refine Classical.byContradiction fun hne => ?_
    obtain ⟨a1, a2, a3⟩ := Classical.choose_spec (hc a) ha
    obtain ⟨b1, b2, b3⟩ := Classical.choose_spec (hc b) hb
    have hk : Classical.choose (hc a) = Classical.choose (hc b) := by
      have := congrArg pos e
      rw [o.pw _ a1, o.pw _ b1] at this
      exact this
    rw [hk] at a3
    have := whole_clq g o nf b1 a b ha hb hne a3 b3
    rw [hI a b ha hb h1 h2] at this
    cases this
  · obtain ⟨v1, v2, v3⟩ := Classical.choose_spec (hc v) hv
    exact mem_f.mpr ⟨o.wl _ v1, v2⟩
end
end Mini
end

section
open PySem PyProof.Rows
namespace Mini

/-- the masks of the neighbours -/
def Ts (E : Nat → Nat → Bool) (T : Nat → Nat) : Prop := ∀ v, v < 7 → T v < 128 ∧ ∀ u, u < 7 → (T v).testBit u = E v u

def mem7 (p : Nat) : List Nat := (List.range 7).filter fun v => p.testBit v
def stepR (T : Nat → Nat) (p s v : Nat) : Nat := if s.testBit v = true then s ||| (T v &&& p) else s
def roundR (T : Nat → Nat) (p s : Nat) : Nat := (mem7 p).foldl (stepR T p) s
def rounds (T : Nat → Nat) (p s : Nat) : Nat → Nat
  | 0 => s
  | n + 1 => roundR T p (rounds T p s n)
def isRing (T : Nat → Nat) (p : Nat) : Bool := decide (4 ≤ pc p) && (mem7 p).all (fun v => pc (T v &&& p) == 2) && (rounds T p (2 ^ (mem7 p).head!) 4 == p)

section
variable {E : Nat → Nat → Bool} {T : Nat → Nat} {pos w : Nat → Nat} {p : Nat}

theorem mem_mem7 {v : Nat} : v ∈ mem7 p ↔ v < 7 ∧ p.testBit v = true := mem_f
theorem and_bit (t : Ts E T) {v u : Nat} (hv : v < 7) (hu : u < 7) : (T v &&& p).testBit u = (E v u && p.testBit u) := by rw [Nat.testBit_and, (t v hv).2 u hu]
theorem pc_and (t : Ts E T) {v : Nat} (hv : v < 7) : pc (T v &&& p) = cnt fun u => E v u && p.testBit u := cnt_congr fun u hu => and_bit t hv hu

theorem stepR_bit (t : Ts E T) {s v u : Nat} (hv : v < 7) (hu : u < 7) : (stepR T p s v).testBit u = (s.testBit u || (s.testBit v && E v u && p.testBit u)) := by
  unfold stepR
  split
  · rename_i h
    rw [Nat.testBit_or, and_bit t hv hu, h]; simp
  · rename_i h
    have : s.testBit v = false := by simpa using h
    rw [this]; simp
theorem stepR_lt {s v : Nat} (hp : p < 128) (hs : s < 128) : stepR T p s v < 128 := by
  unfold stepR
  split
  · exact or_lt hs (and_lt hp)
  · exact hs

/-- a closed set is not left -/
theorem fold_in (t : Ts E T) {X : Nat → Bool} (hX : ∀ v u, v < 7 → u < 7 → p.testBit v = true → p.testBit u = true → X v = true → E v u = true → X u = true) : ∀ (l : List Nat) (s : Nat), (∀ v ∈ l, v < 7 ∧ p.testBit v = true) →
    (∀ u, u < 7 → s.testBit u = true → X u = true) → ∀ u, u < 7 → (l.foldl (stepR T p) s).testBit u = true → X u = true
  | [], _, _, h, u, hu, e => h u hu e
  | v :: l, s, hl, h, u, hu, e => by
    refine fold_in t hX l (stepR T p s v) (fun x hx => hl x (List.mem_cons_of_mem _ hx)) (fun z hz hb => ?_) u hu e
    obtain ⟨hv, hpv⟩ := hl v List.mem_cons_self
    rw [stepR_bit t hv hz] at hb
    simp only [Bool.or_eq_true, Bool.and_eq_true] at hb
    rcases hb with hb | ⟨⟨h1, h2⟩, h3⟩
    · exact h z hz hb
    · exact hX v z hv hz hpv h3 (h v hv h1) h2
theorem rounds_in (t : Ts E T) {X : Nat → Bool} (hX : ∀ v u, v < 7 → u < 7 → p.testBit v = true → p.testBit u = true → X v = true → E v u = true → X u = true) {s : Nat} (h : ∀ u, u < 7 → s.testBit u = true → X u = true) : ∀ n, ∀ u, u < 7 → (rounds T p s n).testBit u = true → X u = true
  | 0 => h
  | n + 1 => fold_in t hX _ _ (fun v hv => mem_mem7.mp hv) (rounds_in t hX h n)

theorem fold_keep (t : Ts E T) : ∀ (l : List Nat) (s u : Nat), (∀ v ∈ l, v < 7) → u < 7 → s.testBit u = true → (l.foldl (stepR T p) s).testBit u = true
  | [], _, _, _, _, h => h
  | v :: l, s, u, hl, hu, h => fold_keep t l _ u (fun x hx => hl x (List.mem_cons_of_mem _ hx)) hu (by rw [stepR_bit t (hl v List.mem_cons_self) hu, h]; rfl)
theorem fold_adds (t : Ts E T) : ∀ (l : List Nat) (s v u : Nat), (∀ v ∈ l, v < 7) → v ∈ l → u < 7 → s.testBit v = true → E v u = true → p.testBit u = true → (l.foldl (stepR T p) s).testBit u = true
  | x :: l, s, v, u, hl, hm, hu, h, he, hp => by
    have hx := hl x List.mem_cons_self
    have hl' : ∀ y ∈ l, y < 7 := fun y hy => hl y (List.mem_cons_of_mem _ hy)
    by_cases q : v = x
    · subst q
      exact fold_keep t l _ u hl' hu (by rw [stepR_bit t hx hu, h, he, hp]; simp)
    · have hv : v ∈ l := (List.mem_cons.mp hm).resolve_left q
      exact fold_adds t l _ v u hl' hv hu (by rw [stepR_bit t hx (hl' v hv), h]; rfl) he hp
theorem fold_lt (hp : p < 128) : ∀ (l : List Nat) (s : Nat), s < 128 → l.foldl (stepR T p) s < 128
  | [], _, h => h
  | v :: l, s, h => fold_lt hp l _ (stepR_lt hp h)
theorem rounds_lt (hp : p < 128) {s : Nat} (h : s < 128) : ∀ n, rounds T p s n < 128
  | 0 => h
  | n + 1 => fold_lt hp _ _ (rounds_lt hp h n)

theorem head_mem {l : List Nat} (h : l ≠ []) : l.head! ∈ l := by
  cases l with
  | nil => exact absurd rfl h
  | cons a l => exact List.mem_cons_self

/-- with all bags cliques there is no ring -/
theorem no_ring (g : Gr E) (o : Od pos w) (nf : Nf E pos w) (t : Ts E T) : isRing T p = false := by
  cases hr : isRing T p with
  | false => rfl
  | true =>
    exfalso
    unfold isRing at hr
    simp only [Bool.and_eq_true, decide_eq_true_eq, List.all_eq_true, beq_iff_eq] at hr
    obtain ⟨⟨h4, h2⟩, hs⟩ := hr
    have two : ∀ v, v < 7 → p.testBit v = true → (cnt fun u => E v u && p.testBit u) = 2 := fun v hv hp => by
      have := h2 v (mem_mem7.mpr ⟨hv, hp⟩)
      rwa [pc_and t hv] at this
    have hne : mem7 p ≠ [] := fun e => by
      have : pc p = (mem7 p).length := rfl
      rw [e] at this
      simp at this
      omega
    obtain ⟨v0, hv0⟩ : ∃ v, v < 7 ∧ p.testBit v = true := ⟨_, mem_mem7.mp (head_mem hne)⟩
    obtain ⟨k, k1, k2, k3⟩ := max_ex (n := 7) (p := fun k => p.testBit (w k) = true) ⟨pos v0, o.pl v0 hv0.1, by rw [o.wp v0 hv0.1]; exact hv0.2⟩
    have hz := o.wl k k1
    have htwo := two (w k) hz k2
    have hl : ∃ a b, (List.range 7).filter (fun u => E (w k) u && p.testBit u) = [a, b] := by
      unfold cnt at htwo
      match hm : (List.range 7).filter (fun u => E (w k) u && p.testBit u), htwo with
      | [a, b], _ => exact ⟨a, b, rfl⟩
    obtain ⟨a, b, hab⟩ := hl
    have nd := fnd fun u => E (w k) u && p.testBit u
    rw [hab] at nd
    have hne2 : a ≠ b := by simpa using nd
    have inl : ∀ u, u < 7 → (E (w k) u = true ∧ p.testBit u = true ↔ u = a ∨ u = b) := fun u hu => by
      have : u ∈ (List.range 7).filter (fun u => E (w k) u && p.testBit u) ↔ u = a ∨ u = b := by rw [hab]; simp
      rw [← this, mem_f]
      simp [hu]
    have ha7 : a < 7 := (mem_f.mp (show a ∈ (List.range 7).filter (fun u => E (w k) u && p.testBit u) by rw [hab]; simp)).1
    have hb7 : b < 7 := (mem_f.mp (show b ∈ (List.range 7).filter (fun u => E (w k) u && p.testBit u) by rw [hab]; simp)).1
    obtain ⟨ea, pa⟩ := (inl a ha7).mpr (.inl rfl)
    obtain ⟨eb, pb⟩ := (inl b hb7).mpr (.inr rfl)
    have za : w k ≠ a := fun e => by rw [← e, g.irr] at ea; cases ea
    have zb : w k ≠ b := fun e => by rw [← e, g.irr] at eb; cases eb
    have early : ∀ u, u < 7 → p.testBit u = true → w k ≠ u → pos u < k := fun u hu hp hn => by
      have := k3 (pos u) (o.pl u hu) (by rw [o.wp u hu]; exact hp)
      rcases Nat.lt_or_ge (pos u) k with q | q
      · exact q
      · have e : pos u = k := by omega
        rw [← e, o.wp u hu] at hn
        exact absurd rfl hn
    have eab : E a b = true := nf k k1 a b ha7 hb7 hne2 (by unfold Bg; rw [ea]; simpa using early a ha7 pa za) (by unfold Bg; rw [eb]; simpa using early b hb7 pb zb)
    -- the neighbours of x among p are y and z alone
    have only : ∀ x y z, x < 7 → p.testBit x = true → y < 7 → z < 7 → y ≠ z → E x y = true → p.testBit y = true → E x z = true → p.testBit z = true → ∀ u, u < 7 → E x u = true → p.testBit u = true → u = y ∨ u = z := by
      intro x y z hx px hy hz' hyz exy py exz pz u hu exu pu
      refine Classical.byContradiction fun hn => ?_
      have hn1 : u ≠ y := fun e => hn (.inl e)
      have hn2 : u ≠ z := fun e => hn (.inr e)
      have := cnt_ge (q := fun u => E x u && p.testBit u) (l := [u, y, z]) (by simp [hn1, hn2, hyz]) fun v hv => by
        simp only [List.mem_cons, List.not_mem_nil, or_false] at hv
        rcases hv with rfl | rfl | rfl
        · exact ⟨hu, by simp [exu, pu]⟩
        · exact ⟨hy, by simp [exy, py]⟩
        · exact ⟨hz', by simp [exz, pz]⟩
      rw [two x hx px] at this
      simp at this
    have oz : ∀ u, u < 7 → E (w k) u = true → p.testBit u = true → u = a ∨ u = b := fun u hu e1 e2 => (inl u hu).mp ⟨e1, e2⟩
    have oa := only a (w k) b ha7 pa hz hb7 zb (by rw [g.sym]; exact ea) k2 eab pb
    have ob := only b (w k) a hb7 pb hz ha7 za (by rw [g.sym]; exact eb) k2 (by rw [g.sym]; exact eab) pa
    let X : Nat → Bool := fun u => u == w k || u == a || u == b
    have hX : ∀ v u, v < 7 → u < 7 → p.testBit v = true → p.testBit u = true → X v = true → E v u = true → X u = true := by
      intro v u hv hu pv pu hx he
      simp only [X, Bool.or_eq_true, beq_iff_eq] at hx ⊢
      rcases hx with (rfl | rfl) | rfl
      · rcases oz u hu he pu with r | r
        · exact .inl (.inr r)
        · exact .inr r
      · rcases oa u hu he pu with r | r
        · exact .inl (.inl r)
        · exact .inr r
      · rcases ob u hu he pu with r | r
        · exact .inl (.inl r)
        · exact .inl (.inr r)
    obtain ⟨hh1, hh2⟩ := mem_mem7.mp (head_mem hne)
    obtain ⟨q1, q2⟩ := pow_bit _ hh1
    cases hx : X (mem7 p).head! with
    | true =>
      have hin := rounds_in (T := T) (p := p) t hX (s := 2 ^ (mem7 p).head!) (fun u hu hb => by
        rw [q2 u hu] at hb
        have : u = (mem7 p).head! := by simpa using hb
        rw [this]; exact hx) 4
      rw [hs] at hin
      have : pc p ≤ 3 := nodup_le (m := [w k, a, b]) (fnd _) fun u hu => by
        have := hin u (mem_f.mp hu).1 (mem_f.mp hu).2
        simpa [X, or_assoc] using this
      omega
    | false =>
      have hin := rounds_in (T := T) (p := p) (X := fun u => !(X u)) t (fun v u hv hu pv pu hx he => by
        cases hxu : X u with
        | false => rfl
        | true =>
          have := hX u v hu hv pu pv hxu (by rw [g.sym]; exact he)
          rw [this] at hx; cases hx) (s := 2 ^ (mem7 p).head!) (fun u hu hb => by
        rw [q2 u hu] at hb
        have : u = (mem7 p).head! := by simpa using hb
        rw [this, hx]; rfl) 4
      rw [hs] at hin
      have := hin (w k) hz k2
      simp [X] at this
end
end Mini
end

section
open PySem PyProof.Rows
namespace Mini
section
variable {E : Nat → Nat → Bool} {T : Nat → Nat} {c : Nat → Nat} {m : Nat}

theorem Cyc.seven (y : Cyc E c m) : m ≤ 7 := by
  have nd : ((List.range m).map c).Nodup := by
    have key : ∀ n, n ≤ m → ((List.range n).map c).Nodup := fun n => by
      induction n with
      | zero => intro _; exact .nil
      | succ n ih =>
        intro hn
        rw [List.range_succ, List.map_append]
        refine List.nodup_append.mpr ⟨ih (by omega), by simp, fun a ha b hb e => ?_⟩
        obtain ⟨i, hi, rfl⟩ := List.mem_map.mp ha
        simp at hb
        subst hb
        exact y.inj i n (List.mem_range.mp hi) (by omega) e
    exact key m (Nat.le_refl _)
  have := nodup_le (m := List.range 7) nd fun v hv => by
    obtain ⟨i, hi, rfl⟩ := List.mem_map.mp hv
    exact List.mem_range.mpr (y.lt i (List.mem_range.mp hi))
  simpa using this

theorem Cyc.nd (y : Cyc E c m) : ((List.range m).map c).Nodup := by
  have key : ∀ n, n ≤ m → ((List.range n).map c).Nodup := fun n => by
    induction n with
    | zero => intro _; exact .nil
    | succ n ih =>
      intro hn
      rw [List.range_succ, List.map_append]
      refine List.nodup_append.mpr ⟨ih (by omega), by simp, fun a ha b hb e => ?_⟩
      obtain ⟨i, hi, rfl⟩ := List.mem_map.mp ha
      simp at hb
      subst hb
      exact y.inj i n (List.mem_range.mp hi) (by omega) e
  exact key m (Nat.le_refl _)

theorem Cyc.ne (y : Cyc E c m) {i j : Nat} (hi : i < m) (hj : j < m) (h : i ≠ j) : c i ≠ c j := by
  rcases Nat.lt_or_ge i j with q | q
  · exact y.inj i j q hj
  · exact fun e => y.inj j i (by omega) hi e.symm

/-- the next one and the one before -/
theorem Cyc.adj2 (g : Gr E) (y : Cyc E c m) {i j : Nat} (hi : i < m) (hj : j < m) : E (c i) (c j) = true ↔ (j = (if i + 1 = m then 0 else i + 1) ∨ j = (if i = 0 then m - 1 else i - 1)) := by
  have h4 := y.four
  rcases Nat.lt_trichotomy i j with q | q | q
  · rw [y.adj i j q hj]
    split <;> split <;> omega
  · subst q
    rw [g.irr]
    simp only [Bool.false_eq_true, false_iff]
    split <;> split <;> omega
  · rw [g.sym, y.adj j i q hi]
    split <;> split <;> omega

def ringOf (c : Nat → Nat) (m : Nat) : Nat := mk7 (fun u => (List.range m).any fun i => c i == u) 7
theorem ring_bit (c : Nat → Nat) (m : Nat) {u : Nat} (hu : u < 7) : (ringOf c m).testBit u = true ↔ ∃ i, i < m ∧ c i = u := by
  have := (mk7_ok (fun u => (List.range m).any fun i => c i == u) 7 (Nat.le_refl _)).2 u hu
  unfold ringOf
  rw [this]
  simp [hu]
theorem ring_lt (c : Nat → Nat) (m : Nat) : ringOf c m < 128 := (mk7_ok _ 7 (Nat.le_refl _)).1

theorem ring_pc (y : Cyc E c m) : pc (ringOf c m) = m := by
  have := cnt_list (q := fun v => (ringOf c m).testBit v) y.nd fun v => by
    rw [List.mem_map]
    constructor
    · rintro ⟨i, hi, rfl⟩
      exact ⟨y.lt i (List.mem_range.mp hi), (ring_bit c m (y.lt i (List.mem_range.mp hi))).mpr ⟨i, List.mem_range.mp hi, rfl⟩⟩
    · rintro ⟨hv, hb⟩
      obtain ⟨i, hi, e⟩ := (ring_bit c m hv).mp hb
      exact ⟨i, List.mem_range.mpr hi, e⟩
  rw [List.length_map, List.length_range] at this
  exact this

theorem ring_two (g : Gr E) (t : Ts E T) (y : Cyc E c m) {i : Nat} (hi : i < m) : pc (T (c i) &&& ringOf c m) = 2 := by
  have h4 := y.four
  rw [pc_and t (y.lt i hi)]
  have hn : (if i + 1 = m then 0 else i + 1) < m := by split <;> omega
  have hp : (if i = 0 then m - 1 else i - 1) < m := by split <;> omega
  have hne : (if i + 1 = m then 0 else i + 1) ≠ (if i = 0 then m - 1 else i - 1) := by split <;> split <;> omega
  refine cnt_list (l := [c (if i + 1 = m then 0 else i + 1), c (if i = 0 then m - 1 else i - 1)]) ?_ fun v => ?_
  · have := y.ne hn hp hne
    simp [this]
  · simp only [List.mem_cons, List.not_mem_nil, or_false]
    constructor
    · rintro (rfl | rfl)
      · exact ⟨y.lt _ hn, by rw [(y.adj2 g hi hn).mpr (.inl rfl), (ring_bit c m (y.lt _ hn)).mpr ⟨_, hn, rfl⟩]; rfl⟩
      · exact ⟨y.lt _ hp, by rw [(y.adj2 g hi hp).mpr (.inr rfl), (ring_bit c m (y.lt _ hp)).mpr ⟨_, hp, rfl⟩]; rfl⟩
    · rintro ⟨hv, hb⟩
      simp only [Bool.and_eq_true] at hb
      obtain ⟨j, hj, rfl⟩ := (ring_bit c m hv).mp hb.2
      rcases (y.adj2 g hi hj).mp hb.1 with e | e
      · left; rw [e]
      · right; rw [e]

theorem rounds_keep (t : Ts E T) {p s : Nat} : ∀ n u, u < 7 → s.testBit u = true → (rounds T p s n).testBit u = true
  | 0, _, _, h => h
  | n + 1, u, hu, h => fold_keep t _ _ u (fun v hv => (mem_mem7.mp hv).1) hu (rounds_keep t n u hu h)
theorem rounds_add (t : Ts E T) {p s n v u : Nat} (hv : v < 7) (hpv : p.testBit v = true) (hu : u < 7) (hpu : p.testBit u = true) (he : E v u = true) (h : (rounds T p s n).testBit v = true) : (rounds T p s (n + 1)).testBit u = true :=
  fold_adds t _ _ v u (fun x hx => (mem_mem7.mp hx).1) (mem_mem7.mpr ⟨hv, hpv⟩) hu h he hpu

theorem ring_reach (g : Gr E) (t : Ts E T) (y : Cyc E c m) {s : Nat} (hs : s < m) : ∀ n, n ≤ 4 → ∀ i, i ≤ n → (rounds T (ringOf c m) (2 ^ c s) n).testBit (c ((s + i) % m)) = true ∧ (rounds T (ringOf c m) (2 ^ c s) n).testBit (c ((s + m - i) % m)) = true := by
  have h4 := y.four
  have hm : 0 < m := by omega
  have md : ∀ x, x % m < m := fun x => Nat.mod_lt _ hm
  have inr : ∀ x, (ringOf c m).testBit (c (x % m)) = true := fun x => (ring_bit c m (y.lt _ (md x))).mpr ⟨_, md x, rfl⟩
  intro n
  induction n with
  | zero =>
    intro _ i hi
    have : i = 0 := by omega
    subst this
    rw [Nat.add_zero, Nat.sub_zero, Nat.add_mod_right, Nat.mod_eq_of_lt hs]
    have := (pow_bit (c s) (y.lt s hs)).2 (c s) (y.lt s hs)
    show (2 ^ c s).testBit (c s) = true ∧ (2 ^ c s).testBit (c s) = true
    rw [this]
    simp
  | succ n ih =>
    intro hn i hi
    have up : ∀ x y', (y' = x + 1 ∨ (x + 1 = m ∧ y' = 0)) → x < m → y' < m → E (c x) (c y') = true ∧ E (c y') (c x) = true := fun x y' hxy hx hy => by
      have : E (c x) (c y') = true := (y.adj2 g hx hy).mpr (.inl (by split <;> omega))
      exact ⟨this, by rw [g.sym]; exact this⟩
    have modn : ∀ x, ((x + 1) % m = x % m + 1 ∨ (x % m + 1 = m ∧ (x + 1) % m = 0)) := fun x => by
      have h1 := md x
      rcases Nat.lt_or_ge (x % m + 1) m with q | q
      · left
        rw [Nat.add_mod, Nat.mod_eq_of_lt (show 1 < m by omega), Nat.mod_eq_of_lt q]
      · right
        have e : x % m + 1 = m := by omega
        refine ⟨e, ?_⟩
        rw [Nat.add_mod, Nat.mod_eq_of_lt (show 1 < m by omega), e, Nat.mod_self]
    rcases Nat.lt_or_ge i (n + 1) with q | q
    · obtain ⟨g1, g2⟩ := ih (by omega) i (by omega)
      exact ⟨fold_keep t _ _ _ (fun v hv => (mem_mem7.mp hv).1) (y.lt _ (md _)) g1, fold_keep t _ _ _ (fun v hv => (mem_mem7.mp hv).1) (y.lt _ (md _)) g2⟩
    · have ei : i = n + 1 := by omega
      subst ei
      obtain ⟨g1, g2⟩ := ih (by omega) n (Nat.le_refl _)
      refine ⟨rounds_add t (y.lt _ (md _)) (inr _) (y.lt _ (md _)) (inr _) (up _ _ (modn (s + n)) (md _) (md _)).1 g1, ?_⟩
      have e : s + m - n = (s + m - (n + 1)) + 1 := by omega
      rw [e] at g2
      exact rounds_add t (y.lt _ (md _)) (inr _) (y.lt _ (md _)) (inr _) (up _ _ (modn (s + m - (n + 1))) (md _) (md _)).2 g2

theorem ring_of_cycle (g : Gr E) (t : Ts E T) (y : Cyc E c m) : isRing T (ringOf c m) = true := by
  have h4 := y.four
  have h7 := y.seven
  have hm : 0 < m := by omega
  have hne : mem7 (ringOf c m) ≠ [] := fun e => by
    have : pc (ringOf c m) = (mem7 (ringOf c m)).length := rfl
    rw [e, ring_pc y] at this
    simp at this
    omega
  obtain ⟨hh1, hh2⟩ := mem_mem7.mp (head_mem hne)
  obtain ⟨s, hs, es⟩ := (ring_bit c m hh1).mp hh2
  unfold isRing
  simp only [Bool.and_eq_true, decide_eq_true_eq, List.all_eq_true, beq_iff_eq]
  refine ⟨⟨by rw [ring_pc y]; exact h4, fun v hv => ?_⟩, ?_⟩
  · obtain ⟨v1, v2⟩ := mem_mem7.mp hv
    obtain ⟨i, hi, rfl⟩ := (ring_bit c m v1).mp v2
    exact ring_two g t y hi
  · rw [← es]
    have hsl : 2 ^ c s < 128 := (pow_bit _ (y.lt s hs)).1
    refine mask_ext (rounds_lt (ring_lt c m) hsl 4) (ring_lt c m) fun u hu => ?_
    rw [Bool.eq_iff_iff]
    constructor
    · intro h
      exact rounds_in (T := T) (p := ringOf c m) (X := fun u => (ringOf c m).testBit u) t (fun v u _ _ _ pu _ _ => pu) (s := 2 ^ c s) (fun u hu hb => by
        rw [(pow_bit _ (y.lt s hs)).2 u hu] at hb
        have : u = c s := by simpa using hb
        rw [this, es]; exact hh2) 4 u hu h
    · intro h
      obtain ⟨j, hj, rfl⟩ := (ring_bit c m hu).mp h
      have hr := ring_reach g t y hs 4 (Nat.le_refl _)
      have key : ∃ i, i ≤ 4 ∧ (j = (s + i) % m ∨ j = (s + m - i) % m) := by
        rcases (show m = 4 ∨ m = 5 ∨ m = 6 ∨ m = 7 by omega) with rfl | rfl | rfl | rfl
        · exact ⟨(j + 4 - s) % 4, by omega, by left; omega⟩
        · exact ⟨(j + 5 - s) % 5, by omega, by left; omega⟩
        · by_cases q : (j + 6 - s) % 6 ≤ 4
          · exact ⟨(j + 6 - s) % 6, q, by left; omega⟩
          · exact ⟨6 - (j + 6 - s) % 6, by omega, by right; omega⟩
        · by_cases q : (j + 7 - s) % 7 ≤ 4
          · exact ⟨(j + 7 - s) % 7, q, by left; omega⟩
          · exact ⟨7 - (j + 7 - s) % 7, by omega, by right; omega⟩
      obtain ⟨i, i4, e | e⟩ := key
      · rw [e]; exact (hr i i4).1
      · rw [e]; exact (hr i i4).2
end
end Mini
end

section
open PySem PyProof.Rows
namespace Mini

def gl0 : String → Option V := fun x => if x = "_law_SEEDS" then some (.tupI [11, 29, 54, 77, 202, 465]) else none
def P0 : String → Option FD := (tbl.lookup ·)

theorem LIM_eq : LIM = 1048576 := rfl

theorem Sub.upd {σ σ' : Sto} (h : Sub σ σ') {a : Nat} {xs : List V} (ha : σ a = Option.none) : Sub σ (Mini.upd σ' a xs) := fun b ys e => by
  unfold Mini.upd
  rw [if_neg (fun q => by rw [q, ha] at e; cases e)]
  exact h b ys e

def natL (rs : List Nat) : List V := rs.map fun (n : Nat) => V.int (n : Int)
theorem natL_len (rs : List Nat) : (natL rs).length = rs.length := by unfold natL; rw [List.length_map]
theorem natL_snoc (rs : List Nat) (u : Nat) : natL rs ++ [V.int (u : Int)] = natL (rs ++ [u]) := by unfold natL; simp
theorem natL_get {rs : List Nat} {i : Nat} {v : V} (h : (natL rs)[i]? = some v) : ∃ hi : i < rs.length, v = .int ((rs[i] : Nat) : Int) := by
  unfold natL at h
  rw [List.getElem?_map] at h
  obtain ⟨u, h1, h2⟩ := Option.map_eq_some_iff.mp h
  obtain ⟨hi, e⟩ := List.getElem?_eq_some_iff.mp h1
  exact ⟨hi, by rw [e]; exact h2.symm⟩
theorem sub_nat {σ : Sto} {l : Nat} {rs : List Nat} {i : Nat} (h : σ l = some (natL rs)) (hi : i < rs.length) : subV σ (.ref l) (.int (i : Int)) = some (.int ((rs[i] : Nat) : Int)) := by
  simp only [subV, h, Option.bind_some]
  rw [if_pos (Int.natCast_nonneg i)]
  unfold natL
  simp [hi]
theorem ints_natL (rs : List Nat) : intsOf (natL rs) = some (rs.map fun (n : Nat) => (n : Int)) := by
  have : natL rs = (rs.map fun (n : Nat) => (n : Int)).map .int := by unfold natL; rw [List.map_map]; rfl
  rw [this, ints_map]

theorem int_lit_beq (a b : Nat) : ((a : Int) == (b : Int)) = (a == b) := by
  rw [Bool.eq_iff_iff, beq_iff_eq, beq_iff_eq]
  omega

theorem in_nat (u : Nat) : ∀ rs : List Nat, inV (.int u) (natL rs) = some (rs.contains u)
  | [] => rfl
  | r :: rs => by
    have ih := in_nat u rs
    unfold natL at ih ⊢
    rw [List.map_cons]
    simp only [inV, eqS, ih, int_lit_beq, List.contains_cons]
    congr 2
    rw [Bool.eq_iff_iff]
    simp
    exact eq_comm
theorem in_bools (b : Bool) : ∀ bs : List Bool, inV (.bool b) (bs.map .bool) = some (bs.any (· == b))
  | [] => rfl
  | r :: rs => by
    have ih := in_bools b rs
    rw [List.map_cons]
    simp only [inV, eqS, ih, List.any_cons]
theorem in_ints (u : Int) : ∀ rs : List Int, inV (.int u) (rs.map .int) = some (rs.contains u)
  | [] => rfl
  | r :: rs => by
    have ih := in_ints u rs
    rw [List.map_cons]
    simp only [inV, eqS, ih, List.contains_cons]
    congr 2
    rw [Bool.eq_iff_iff]
    simp
    exact eq_comm

theorem bit_test (p k : Nat) : ((p : Int).fdiv (2 ^ k)).fmod 2 = (((p / 2 ^ k) % 2 : Nat) : Int) := by
  have h2 : (0 : Int) ≤ 2 ^ k := Int.pow_nonneg (by decide)
  rw [Int.fdiv_eq_ediv_of_nonneg _ h2, Int.fmod_eq_emod_of_nonneg _ (by decide)]
  have : ((2 : Int) ^ k) = ((2 ^ k : Nat) : Int) := by simp
  rw [this]
  omega

theorem bit_one (p k : Nat) : ((((p / 2 ^ k) % 2 : Nat) : Int) == 1) = p.testBit k := by
  rw [← test_bit]
  exact int_lit_beq _ 1
theorem bit_nil (p k : Nat) : ((((p / 2 ^ k) % 2 : Nat) : Int) == 0) = !p.testBit k := by
  rw [← test_bit]
  show ((((p / 2 ^ k) % 2 : Nat) : Int) == ((0 : Nat) : Int)) = _
  rw [int_lit_beq, Bool.eq_iff_iff]
  simp
  
theorem small_pow {k : Nat} (hk : k ≤ 10) : small (2 ^ k) = true := by
  have h1 : (2 : Int) ^ k = ((2 ^ k : Nat) : Int) := by simp
  have h2 : 2 ^ k ≤ 2 ^ 10 := Nat.pow_le_pow_right (by decide) hk
  unfold small
  rw [h1]
  simp only [Bool.and_eq_true, decide_eq_true_eq]
  generalize 2 ^ k = n at h2
  omega

theorem pow_cast (k : Nat) : (2 : Int) ^ k = ((2 ^ k : Nat) : Int) := by simp

theorem bin_pow (k : Nat) (hk : k ≤ 1000) : binV .Pow (.int 2) (.int (k : Int)) = some (.int ((2 ^ k : Nat) : Int)) := by
  simp only [binV]
  rw [if_pos ⟨trivial, Int.natCast_nonneg k, by omega⟩]
  simp
theorem bin_fdiv (x : Int) (k : Nat) (hk : k ≤ 10) : binV .FloorDiv (.int x) (.int ((2 ^ k : Nat) : Int)) = some (.int (x.fdiv (2 ^ k))) := by
  have h := small_pow hk
  rw [pow_cast] at h
  simp only [binV]
  rw [if_neg, pow_cast]
  rw [h]
  have hpos : 0 < 2 ^ k := Nat.pow_pos (by decide)
  rintro (q | q)
  · omega
  · cases q
theorem bin_mod2 (x : Int) : binV .Mod (.int x) (.int 2) = some (.int (x.fmod 2)) := by
  simp only [binV]
  rw [if_neg (by decide)]
theorem bin_and (a b : Nat) : binV .BitAnd (.int (a : Int)) (.int (b : Int)) = some (.int ((a &&& b : Nat) : Int)) := by
  simp only [binV]
  rw [bitAnd_pp (Int.natCast_nonneg a) (Int.natCast_nonneg b)]
  simp
theorem bin_or (a b : Nat) : binV .BitOr (.int (a : Int)) (.int (b : Int)) = some (.int ((a ||| b : Nat) : Int)) := by
  simp only [binV, Builtin.bitOr]
  have e : ∀ n : Nat, Builtin.bitNot (Builtin.bitNot (n : Int)) = (n : Int) := fun n => by unfold Builtin.bitNot; omega
  have h : ∀ n : Nat, decide (0 ≤ Builtin.bitNot (n : Int)) = false := fun n => by unfold Builtin.bitNot; simp; omega
  have : Builtin.bitAnd (Builtin.bitNot (a : Int)) (Builtin.bitNot (b : Int)) = Builtin.bitNot ((a ||| b : Nat) : Int) := by
    unfold Builtin.bitAnd
    rw [h a, h b]
    dsimp only
    rw [e, e]
    simp
  rw [this, e]
theorem bin_add (a b : Nat) : binV .Add (.int (a : Int)) (.int (b : Int)) = some (.int ((a + b : Nat) : Int)) := by simp [binV]
theorem bin_sub {a b : Nat} (h : b ≤ a) : binV .Sub (.int (a : Int)) (.int (b : Int)) = some (.int ((a - b : Nat) : Int)) := by
  simp only [binV]
  congr 2
  omega

def gFil (p : Nat → Bool) (v : V) : List V := match v with
  | .int w => if p w.toNat = true then [V.int w] else []
  | _ => []
def gBoo (f : Nat → Bool) (v : V) : List V := match v with
  | .int w => [V.bool (f w.toNat)]
  | _ => []
def gInt (f : Nat → Int) (v : V) : List V := match v with
  | .int w => [V.int (f w.toNat)]
  | _ => []
def gSom (p : Nat → Bool) (f : Nat → Int) (v : V) : List V := match v with
  | .int w => if p w.toNat = true then [V.int (f w.toNat)] else []
  | _ => []
theorem gFil_at (p : Nat → Bool) (w : Nat) : gFil p (.int (w : Int)) = if p w = true then [V.int (w : Int)] else [] := rfl
theorem gBoo_at (f : Nat → Bool) (w : Nat) : gBoo f (.int (w : Int)) = [V.bool (f w)] := rfl
theorem gInt_at (f : Nat → Int) (w : Nat) : gInt f (.int (w : Int)) = [V.int (f w)] := rfl
theorem gSom_at (p : Nat → Bool) (f : Nat → Int) (w : Nat) : gSom p f (.int (w : Int)) = if p w = true then [V.int (f w)] else [] := rfl
theorem flat_filter (p : Nat → Bool) (n : Nat) : (rng 0 n).flatMap (gFil p) = natL ((List.range n).filter p) := by
  unfold rng natL
  rw [List.flatMap_map]
  induction List.range n with
  | nil => rfl
  | cons a as ih =>
    rw [List.flatMap_cons, ih, List.filter_cons, Int.zero_add, gFil_at]
    split <;> simp
theorem flat_bools (f : Nat → Bool) (rs : List Nat) : (natL rs).flatMap (gBoo f) = (rs.map f).map .bool := by
  unfold natL
  rw [List.flatMap_map, List.map_map]
  induction rs with
  | nil => rfl
  | cons a as ih =>
    rw [List.flatMap_cons, ih, List.map_cons, gBoo_at]
    rfl
theorem flat_some (p : Nat → Bool) (f : Nat → Int) (n : Nat) : (rng 0 n).flatMap (gSom p f) = (((List.range n).filter p).map f).map .int := by
  unfold rng
  rw [List.flatMap_map]
  induction List.range n with
  | nil => rfl
  | cons a as ih =>
    rw [List.flatMap_cons, ih, List.filter_cons, Int.zero_add, gSom_at]
    split <;> simp
theorem flat_ints (f : Nat → Int) (rs : List Nat) : (natL rs).flatMap (gInt f) = (rs.map f).map .int := by
  unfold natL
  rw [List.flatMap_map, List.map_map]
  induction rs with
  | nil => rfl
  | cons a as ih =>
    rw [List.flatMap_cons, ih, List.map_cons, gInt_at]
    rfl
theorem rng_natL (n : Nat) : rng 0 n = natL (List.range n) := by
  unfold rng natL
  simp

/-! pairs -/
theorem pr_key {c : Int} {v : Nat} (hv : v < 7) : pr (7 * c + (v : Int)) = .tupI [c, (v : Int)] := by
  unfold pr
  congr 1
  have e1 : (7 * c + (v : Int)) / 7 = c := by omega
  have e2 : (7 * c + (v : Int)) % 7 = (v : Int) := by omega
  rw [e1, e2]
theorem eq_pr (a b : Int) : eqS (pr a) (pr b) = some (decide (a = b)) := by
  show some (decide ([a / 7, a % 7] = [b / 7, b % 7])) = _
  congr 2
  apply propext
  constructor
  · intro e
    simp only [List.cons.injEq, and_true] at e
    omega
  · rintro rfl; rfl
theorem ne_pr (σ : Sto) (a b : Int) : cmpV σ .NotEq (pr a) (pr b) = some (!decide (a = b)) := by
  show (eqS (pr a) (pr b)).map (!·) = _
  rw [eq_pr]
  rfl

theorem max_spec : ∀ (ns : List Int) (a : Int), ∃ m, bestV gtV (pr a) (ns.map pr) = some (pr m) ∧ m ∈ a :: ns ∧ ∀ x ∈ a :: ns, x ≤ m
  | [], a => ⟨a, rfl, List.mem_cons_self, fun x hx => by simp at hx; omega⟩
  | b :: ns, a => by
    have hg : gtV (pr b) (pr a) = some (decide (a < b)) := by
      show some (ltL [a / 7, a % 7] [b / 7, b % 7]) = _
      rw [lt_pr]
    simp only [List.map_cons, bestV, hg]
    by_cases q : a < b
    · simp only [q, decide_true]
      obtain ⟨m, h1, h2, h3⟩ := max_spec ns b
      refine ⟨m, h1, List.mem_cons_of_mem _ h2, fun x hx => ?_⟩
      rcases List.mem_cons.mp hx with rfl | hx
      · have := h3 b List.mem_cons_self; omega
      · exact h3 x hx
    · simp only [q, decide_false]
      obtain ⟨m, h1, h2, h3⟩ := max_spec ns a
      refine ⟨m, h1, ?_, fun x hx => ?_⟩
      · rcases List.mem_cons.mp h2 with rfl | h2
        · exact List.mem_cons_self
        · exact List.mem_cons_of_mem _ (List.mem_cons_of_mem _ h2)
      · rcases List.mem_cons.mp hx with rfl | hx
        · exact h3 _ List.mem_cons_self
        · rcases List.mem_cons.mp hx with rfl | hx
          · have := h3 a List.mem_cons_self; omega
          · exact h3 x (List.mem_cons_of_mem _ hx)
theorem max_ints : ∀ (ns : List Int) (a : Int), ∃ m, bestV gtV (.int a) (ns.map .int) = some (.int m) ∧ m ∈ a :: ns ∧ ∀ x ∈ a :: ns, x ≤ m
  | [], a => ⟨a, rfl, List.mem_cons_self, fun x hx => by simp at hx; omega⟩
  | b :: ns, a => by
    simp only [List.map_cons, bestV, gtV]
    by_cases q : a < b
    · simp only [q, decide_true]
      obtain ⟨m, h1, h2, h3⟩ := max_ints ns b
      refine ⟨m, h1, List.mem_cons_of_mem _ h2, fun x hx => ?_⟩
      rcases List.mem_cons.mp hx with rfl | hx
      · have := h3 b List.mem_cons_self; omega
      · exact h3 x hx
    · simp only [q, decide_false]
      obtain ⟨m, h1, h2, h3⟩ := max_ints ns a
      refine ⟨m, h1, ?_, fun x hx => ?_⟩
      · rcases List.mem_cons.mp h2 with rfl | h2
        · exact List.mem_cons_self
        · exact List.mem_cons_of_mem _ (List.mem_cons_of_mem _ h2)
      · rcases List.mem_cons.mp hx with rfl | hx
        · exact h3 _ List.mem_cons_self
        · rcases List.mem_cons.mp hx with rfl | hx
          · have := h3 a List.mem_cons_self; omega
          · exact h3 x (List.mem_cons_of_mem _ hx)
theorem same_pr (a : Int) (ns : List Int) : sameKind (pr a :: ns.map pr) = true := by
  show (ns.map pr).all _ = true
  rw [List.all_map, List.all_eq_true]
  intro x _
  rfl
theorem same_int (a : Int) (ns : List Int) : sameKind (.int a :: ns.map .int) = true := by
  show (ns.map V.int).all _ = true
  rw [List.all_map, List.all_eq_true]
  intro x _
  rfl
theorem comp_pr (m : Int) (ns : List Int) : comparable (pr m) (ns.map pr) = true := by
  unfold comparable
  rw [List.all_map, List.all_eq_true]
  intro x _
  show (eqS (pr x) (pr m)).isSome = true
  rw [eq_pr]
  rfl
theorem remove_pr (m : Int) : ∀ ns : List Int, m ∈ ns → removeV (pr m) (ns.map pr) = some ((ns.erase m).map pr)
  | a :: ns, h => by
    simp only [List.map_cons, removeV, eq_pr]
    by_cases q : a = m
    · subst q
      simp
    · rw [decide_eq_false q]
      have hm : m ∈ ns := (List.mem_cons.mp h).resolve_left (fun e => q e.symm)
      rw [remove_pr m ns hm, List.erase_cons_tail (by simpa using q)]
      rfl

/-- the first entry and the list's greatest are one -/
theorem pop_same {hs ps ws : List Int} {m m' : Int} (hp : hs.Perm ps) (h1 : m ∈ ps) (h2 : ∀ x ∈ ps, x ≤ m) (g1 : (m' :: ws).Perm hs) (g2 : ∀ x ∈ hs, x ≤ m') : m' = m ∧ ws.Perm (ps.erase m) := by
  have hm' : m' ∈ ps := hp.mem_iff.mp (g1.mem_iff.mp List.mem_cons_self)
  have e1 := h2 m' hm'
  have e2 := g2 m (hp.mem_iff.mpr h1)
  have e : m' = m := by omega
  subst e
  refine ⟨rfl, ?_⟩
  have := (g1.trans hp).erase m'
  rwa [List.erase_cons_head] at this

theorem eq_nil {σ : Sto} {a b : Nat} {ps : List Int} (ha : σ a = some (ps.map pr)) (hb : σ b = some []) : cmpV σ .NotEq (.ref a) (.ref b) = some (!ps.isEmpty) := by
  cases ps with
  | nil => simp [cmpV, eqV, ha, hb, eqLL, intsOf]
  | cons p ps => simp [cmpV, eqV, ha, hb, eqLL]

theorem Mat.congr {n m : Nat} {σ : Sto} {l : Nat} {r : Nat → Nat} {M M' : Nat → Nat → V} (x : Mat n m σ l r M) (h : ∀ i j, i < n → j < m → M i j = M' i j) : Mat n m σ l r M' :=
  ⟨x.top, fun i hi => (x.row i hi).trans (congrArg some (rowV_congr fun j hj => h i j hi hj)), x.inj, x.off⟩
theorem rowI_congr {n : Nat} {f g : Nat → Int} (h : ∀ i, i < n → f i = g i) : rowI n f = rowI n g := rowV_congr fun i hi => by rw [h i hi]
theorem rowI_natL (n : Nat) (f : Nat → Nat) : rowI n (fun i => ((f i : Nat) : Int)) = natL ((List.range n).map f) := by
  unfold rowI rowV natL
  rw [List.map_map]
  rfl

/-- the remainder by n as a natural number -/
theorem modn (x : Int) {n : Nat} (hn : 0 < n) : ∃ j : Nat, j < n ∧ x.fmod (n : Int) = (j : Int) := by
  rw [Int.fmod_eq_emod_of_nonneg _ (by omega)]
  have h1 := Int.emod_nonneg x (b := (n : Int)) (by omega)
  have h2 := Int.emod_lt_of_pos x (b := (n : Int)) (by omega)
  exact ⟨(x % (n : Int)).toNat, by omega, by omega⟩
end Mini
end

section
open PySem PyProof.Rows
namespace Mini

theorem members_spec {B k : Nat} {σ : Sto} {p : Nat} {Q : V → Sto → Prop} (hQ : ∀ σ' a, Sub σ σ' → σ' a = some (natL (mem7 p)) → Q (.ref a) σ') : Sp B gl0 P0 (k + 1) "_law_members" [.int (p : Int)] σ Q := by
  refine ⟨_, rfl, rfl, ?_⟩
  simp only [wpB, wpS, wpE, wpT, wpI, wpEs, blk, bindF, wpBin_int, binV, setv, endF, V.ref.injEq, V.int.injEq, V.bool.injEq, V.tupI.injEq, Option.some.injEq, exists_eq_left', exists_eq_left, exists_and_left, String.reduceEq, if_true, if_false, reduceIte, true_and, and_true, decide_true, decide_false, Bool.false_eq_true, Bool.not_true, Bool.not_false, Int.reduceLE, Int.reduceToNat, Int.reducePow, Nat.reducePow, c_lt, c_gt, c_le, c_ge, c_eq, c_ne, c_is, c_isnot, t_bool, t_ref, n_none, n_ref, cmp_pr, decide_eq_true_eq, Bool.not_eq_true', decide_eq_false_iff_not, b_len, b_sum, b_max, b_min, b_max2, b_min2, b_sorted, b_list, b_listT, b_abs, Int.reduceEq, reduceCtorEq, or_self, or_false, false_or, sm2, sm5, sm6, sm7, sm8, sm36, m_pop, m_append, m_remove, w_addR, w_mulR, d_law_members]
  refine ⟨by rw [rng_length]; decide, ?_⟩
  refine compL_flat (gFil fun j => p.testBit j) (fun v hv acc K' hK' => ?_) trivial ?_
  · obtain ⟨j, hj⟩ := List.getElem?_of_mem hv
    obtain ⟨hj7, rfl⟩ := rng_get hj
    have hj7 : j < 7 := hj7
    rw [Int.zero_add] at hK' ⊢
    rw [wpBin_int]
    refine ⟨_, bin_pow j (by omega), ?_⟩
    rw [wpBin_int]
    refine ⟨_, bin_fdiv _ j (by omega), ?_⟩
    rw [wpBin_int]
    refine ⟨_, bin_mod2 _, _, rfl, ?_⟩
    rw [bit_test, bit_one]
    have hK2 : K' σ (acc ++ if p.testBit j = true then [V.int (j : Int)] else []) := hK'
    split
    · rename_i q; rw [if_pos q] at hK2; exact hK2
    · rename_i q; rw [if_neg q, List.append_nil] at hK2; exact hK2
  · intro b hbB hbn
    refine hQ _ b (.new hbn) ?_
    rw [upd_at, List.nil_append, flat_filter (fun j => p.testBit j)]
    rfl

theorem rowI_lt {n : Nat} {f : Nat → Int} {i : Nat} {v : V} (h : (rowI n f)[i]? = some v) : i < n ∧ v = .int (f i) := by
  have hi : i < n := by
    rcases Nat.lt_or_ge i n with q | q
    · exact q
    · rw [List.getElem?_eq_none (by unfold rowI; rw [rowV_len]; exact q)] at h; cases h
  refine ⟨hi, ?_⟩
  unfold rowI at h
  rw [rowV_get hi] at h
  cases h
  rfl

def ringB : MB := blk [
    .asg "members" (.call "_law_members" (.cons (.var "part") .nil)),
    .ite (.and (.cmp .GtE (.sub (.var "ones") (.var "part")) (.int 4)) (.not (.cmp .In (.bool false) (.comp (.cmp .Eq (.sub (.var "ones") (.bin .BitAnd (.sub (.var "ties") (.var "v")) (.var "part"))) (.int 2)) "v" (.val (.var "members")) .tt)))) (blk [
      .asg "seen" (.bin .Pow (.int 2) (.sub (.var "members") (.int 0))),
      .for_ "rounds" (.r1 (.int 4)) (blk [
        .for_ "v" (.val (.var "members")) (blk [
          .ite (.cmp .Eq (.bin .Mod (.bin .FloorDiv (.var "seen") (.bin .Pow (.int 2) (.var "v"))) (.int 2)) (.int 1)) (blk [
            .asg "seen" (.bin .BitOr (.var "seen") (.bin .BitAnd (.sub (.var "ties") (.var "v")) (.var "part")))]) (.nil)])]),
      .ite (.cmp .Eq (.var "seen") (.var "part")) (blk [
        .ret (.bool true)]) (.nil)]) (.nil)]

theorem ring_eq : d_law_ring = ⟨["ties", "ones"], blk [.for_ "part" (.r1 (.int 128)) ringB, .ret (.bool false)]⟩ := rfl

theorem take_succ_get {l : List Nat} {j : Nat} (h : j < l.length) : l.take (j + 1) = l.take j ++ [l[j]] := by
  rw [List.take_add_one, List.getElem?_eq_getElem h]
  rfl

theorem ring_walk {B k : Nat} {σ : Sto} {t o : Nat} {T : Nat → Nat} {p : Nat} {ρ : Frm} {K : Fl → Frm → Sto → Prop} (hp : p < 128) (ht : σ t = some (rowI 7 fun v => ((T v : Nat) : Int))) (ho : σ o = some (rowI 128 fun v => ((pc v : Nat) : Int)))
    (hT : ∀ v, v < 7 → T v < 128) (q1 : ρ "ties" = some (.ref t)) (q2 : ρ "ones" = some (.ref o)) (q3 : ρ "part" = some (.int (p : Int)))
    (hyes : ∀ ρ' σ', isRing T p = true → Sub σ σ' → K (.ret (.bool true)) ρ' σ') (hno : ∀ ρ' σ', isRing T p = false → Sub σ σ' → ρ' "ties" = some (.ref t) → ρ' "ones" = some (.ref o) → K .next ρ' σ') :
    wpB ⟨B, Sp B gl0 P0 (k + 1), gl0, fun f => (P0 f).isSome⟩ ringB ρ σ K := by
  simp only [wpB, wpS, wpE, wpT, wpI, wpEs, blk, bindF, wpBin_int, binV, setv, endF, V.ref.injEq, V.int.injEq, V.bool.injEq, V.tupI.injEq, Option.some.injEq, exists_eq_left', exists_eq_left, exists_and_left, String.reduceEq, if_true, if_false, reduceIte, true_and, and_true, decide_true, decide_false, Bool.false_eq_true, Bool.not_true, Bool.not_false, Int.reduceLE, Int.reduceToNat, Int.reducePow, Nat.reducePow, c_lt, c_gt, c_le, c_ge, c_eq, c_ne, c_is, c_isnot, t_bool, t_ref, n_none, n_ref, cmp_pr, decide_eq_true_eq, Bool.not_eq_true', decide_eq_false_iff_not, b_len, b_sum, b_max, b_min, b_max2, b_min2, b_sorted, b_list, b_listT, b_abs, Int.reduceEq, reduceCtorEq, or_self, or_false, false_or, sm2, sm5, sm6, sm7, sm8, sm36, m_pop, m_append, m_remove, w_addR, w_mulR, ringB, q1, q2, q3]
  refine ⟨rfl, ?_⟩
  refine members_spec fun σ1 a s1 ha => ?_
  have ht1 := s1 _ _ ht
  have ho1 := s1 _ _ ho
  have hpcs : ∀ v, v < 7 → T v &&& p < 128 := fun v _ => and_lt hp
  refine ⟨_, sub_rowI (j := p) ho1 rfl hp, _, rfl, ?_⟩
  by_cases c1 : 4 ≤ pc p
  · rw [if_pos (by simp; omega)]
    refine ⟨a, rfl, _, ha, ?_, ?_⟩
    · rw [natL_len]
      have : (mem7 p).length ≤ 7 := Nat.le_trans (List.length_filter_le _ _) (by simp)
      have := LIM_eq
      omega
    refine compL_flat (gBoo fun w => pc (T w &&& p) == 2) (fun v hv acc K' hK' => ?_) ha ?_
    · unfold natL at hv
      obtain ⟨w, hw, rfl⟩ := List.mem_map.mp hv
      have hw7 := (mem_mem7.mp hw).1
      refine ⟨_, sub_rowI (j := w) ht1 rfl hw7, ?_⟩
      rw [wpBin_int]
      refine ⟨_, bin_and _ _, _, sub_rowI (j := T w &&& p) ho1 rfl (hpcs w hw7), _, rfl, ?_⟩
      have hK2 : K' σ1 (acc ++ [V.bool (pc (T w &&& p) == 2)]) := hK'
      have e : (((pc (T w &&& p) : Nat) : Int) == 2) = (pc (T w &&& p) == 2) := int_lit_beq _ 2
      rw [e]
      exact hK2
    · rw [List.nil_append, flat_bools fun w => pc (T w &&& p) == 2]
      intro b hbB hbn
      have s2 : Sub σ1 (upd σ1 b (((mem7 p).map fun w => pc (T w &&& p) == 2).map .bool)) := .new hbn
      have hb2 := upd_at σ1 b (((mem7 p).map fun w => pc (T w &&& p) == 2).map V.bool)
      generalize upd σ1 b (((mem7 p).map fun w => pc (T w &&& p) == 2).map V.bool) = σ2 at s2 hb2
      have ht2 := s2 _ _ ht1
      have ha2 := s2 _ _ ha
      have hs := s1.trans s2
      have hany : cmpV σ2 .In (.bool false) (.ref b) = some (((mem7 p).map fun w => pc (T w &&& p) == 2).any (· == false)) := by
        simp only [cmpV, hb2, Option.bind_some, in_bools]
      refine ⟨_, hany, ?_⟩
      by_cases c2 : ((mem7 p).all fun w => pc (T w &&& p) == 2) = true
      · have e2 : ((mem7 p).map fun w => pc (T w &&& p) == 2).any (· == false) = false := by
          rw [List.any_map, List.any_eq_false]
          intro x hx
          have := List.all_eq_true.mp c2 x hx
          simp at this ⊢
          exact this
        rw [e2, if_pos (by rfl)]
        have hne : mem7 p ≠ [] := fun e => by
          have : pc p = (mem7 p).length := rfl
          rw [e] at this
          simp at this
          omega
        obtain ⟨x, xs, hx⟩ : ∃ x xs, mem7 p = x :: xs := by
          cases hm : mem7 p with
          | nil => exact absurd hm hne
          | cons x xs => exact ⟨x, xs, rfl⟩
        have hx7 : x < 7 := (mem_mem7.mp (show x ∈ mem7 p by rw [hx]; exact List.mem_cons_self)).1
        have e0 : subV σ2 (.ref a) (.int 0) = some (.int (x : Int)) := by
          have := sub_nat (i := 0) ha2 (by rw [hx]; simp)
          simpa [hx] using this
        refine ⟨_, e0, ?_⟩
        rw [wpBin_int]
        refine ⟨_, bin_pow x (by omega), rfl, ?_⟩
        have hx2 : 2 ^ x < 128 := (pow_bit x hx7).1
        have hring : isRing T p = (rounds T p (2 ^ x) 4 == p) := by
          have hh : (mem7 p).head! = x := by rw [hx]; rfl
          unfold isRing
          rw [c2, hh]
          simp [c1]
        refine forL_ind (fun i ρ σ' => σ' = σ2 ∧ ρ "seen" = some (.int ((rounds T p (2 ^ x) i : Nat) : Int)) ∧ ρ "ties" = some (.ref t) ∧ ρ "ones" = some (.ref o) ∧ ρ "part" = some (.int (p : Int)) ∧ ρ "members" = some (.ref a)) ?_
          ⟨rfl, by simp [setv, rounds], by simp [setv, q1], by simp [setv, q2], by simp [setv, q3], by simp [setv]⟩ ?_
        · rintro i v ρ1 σ' K1 hv ⟨rfl, r1, r2, r3, r4, r5⟩ hK1 _ _ _
          refine ⟨_, by simpa [setv] using r5, a, rfl, _, ha2, ?_⟩
          refine forL_ind (fun j ρ σ'' => σ'' = σ' ∧ ρ "seen" = some (.int ((((mem7 p).take j).foldl (stepR T p) (rounds T p (2 ^ x) i) : Nat) : Int)) ∧ ρ "ties" = some (.ref t) ∧ ρ "ones" = some (.ref o) ∧ ρ "part" = some (.int (p : Int)) ∧ ρ "members" = some (.ref a)) ?_
            ⟨rfl, by simpa [setv] using r1, by simpa [setv] using r2, by simpa [setv] using r3, by simpa [setv] using r4, by simpa [setv] using r5⟩ ?_
          · rintro j v ρ2 σ'' K2 hv2 ⟨rfl, u1, u2, u3, u4, u5⟩ hK2 _ _ _
            obtain ⟨hj, rfl⟩ := natL_get hv2
            have hin : (mem7 p)[j] ∈ mem7 p := List.getElem_mem hj
            have hj7 := (mem_mem7.mp hin).1
            have hnext : ∀ ρ', ρ' "seen" = some (.int ((stepR T p (((mem7 p).take j).foldl (stepR T p) (rounds T p (2 ^ x) i)) (mem7 p)[j] : Nat) : Int)) → ρ' "ties" = some (.ref t) → ρ' "ones" = some (.ref o) → ρ' "part" = some (.int (p : Int)) → ρ' "members" = some (.ref a) → K2 .next ρ' σ'' := fun ρ' z1 z2 z3 z4 z5 => by
              refine hK2 _ _ ⟨rfl, ?_, z2, z3, z4, z5⟩ ha2
              rw [take_succ_get hj, List.foldl_append]
              exact z1
            generalize hs' : ((mem7 p).take j).foldl (stepR T p) (rounds T p (2 ^ x) i) = s at u1 hnext
            generalize (mem7 p)[j] = y at hj7 hnext
            refine ⟨_, by simpa [setv] using u1, ?_⟩
            rw [wpBin_int]
            refine ⟨_, bin_pow y (by omega), ?_⟩
            rw [wpBin_int]
            refine ⟨_, bin_fdiv _ y (by omega), ?_⟩
            rw [wpBin_int]
            refine ⟨_, bin_mod2 _, _, rfl, ?_⟩
            rw [bit_test, bit_one]
            by_cases c : s.testBit y = true
            · rw [if_pos c]
              refine ⟨_, by simpa [setv] using u1, _, by simpa [setv] using u2, _, sub_rowI (j := y) ht2 rfl hj7, _, by simpa [setv] using u4, ?_⟩
              rw [wpBin_int]
              refine ⟨_, bin_and _ _, ?_⟩
              rw [wpBin_int]
              refine ⟨_, bin_or _ _, ?_⟩
              refine hnext _ ?_ (by simp [setv, u2]) (by simp [setv, u3]) (by simp [setv, u4]) (by simp [setv, u5])
              unfold stepR
              rw [if_pos c]
              simp [setv]
            · rw [if_neg c]
              refine hnext _ ?_ (by simp [setv, u2]) (by simp [setv, u3]) (by simp [setv, u4]) (by simp [setv, u5])
              unfold stepR
              rw [if_neg c]
              simp [setv, u1]
          · rintro ρ2 σ'' ⟨rfl, u1, u2, u3, u4, u5⟩
            rw [natL_len, List.take_length] at u1
            exact hK1 _ _ ⟨rfl, u1, u2, u3, u4, u5⟩ trivial
        · rintro ρ1 σ' ⟨rfl, r1, r2, r3, r4, r5⟩
          rw [rng_length] at r1
          have r1 : ρ1 "seen" = some (.int ((rounds T p (2 ^ x) 4 : Nat) : Int)) := r1
          refine ⟨_, r1, _, r4, _, rfl, ?_⟩
          rw [int_lit_beq, ← hring]
          cases hr : isRing T p with
          | true =>
            rw [if_pos rfl]
            exact hyes _ _ hr hs
          | false =>
            rw [if_neg (by simp)]
            exact hno _ _ hr hs r2 r3
      · have c2' : ((mem7 p).all fun w => pc (T w &&& p) == 2) = false := by simpa using c2
        have e2 : ((mem7 p).map fun w => pc (T w &&& p) == 2).any (· == false) = true := by
          rw [List.any_map, List.any_eq_true]
          rw [List.all_eq_false] at c2'
          obtain ⟨x, hx, hx2⟩ := c2'
          exact ⟨x, hx, by simp at hx2 ⊢; exact hx2⟩
        rw [e2, if_neg (by simp)]
        refine hno _ _ ?_ hs (by simp [setv, q1]) (by simp [setv, q2])
        unfold isRing
        rw [c2']
        simp
  · rw [if_neg (by simp; omega)]
    refine hno _ _ ?_ s1 (by simp [setv, q1]) (by simp [setv, q2])
    unfold isRing
    simp [c1]

theorem ring_spec {B k : Nat} {σ : Sto} {t o : Nat} {T : Nat → Nat} (ht : σ t = some (rowI 7 fun v => ((T v : Nat) : Int))) (ho : σ o = some (rowI 128 fun v => ((pc v : Nat) : Int))) (hT : ∀ v, v < 7 → T v < 128)
    {Q : V → Sto → Prop} (hQ : ∀ σ' b, Sub σ σ' → (b = true ↔ ∃ p, p < 128 ∧ isRing T p = true) → Q (.bool b) σ') : Sp B gl0 P0 (k + 2) "_law_ring" [.ref t, .ref o] σ Q := by
  refine ⟨_, rfl, rfl, ?_⟩
  rw [ring_eq]
  simp only [wpB, wpS, wpE, wpT, wpI, wpEs, blk, bindF, wpBin_int, binV, setv, endF, V.ref.injEq, V.int.injEq, V.bool.injEq, V.tupI.injEq, Option.some.injEq, exists_eq_left', exists_eq_left, exists_and_left, String.reduceEq, if_true, if_false, reduceIte, true_and, and_true, decide_true, decide_false, Bool.false_eq_true, Bool.not_true, Bool.not_false, Int.reduceLE, Int.reduceToNat, Int.reducePow, Nat.reducePow, c_lt, c_gt, c_le, c_ge, c_eq, c_ne, c_is, c_isnot, t_bool, t_ref, n_none, n_ref, cmp_pr, decide_eq_true_eq, Bool.not_eq_true', decide_eq_false_iff_not, b_len, b_sum, b_max, b_min, b_max2, b_min2, b_sorted, b_list, b_listT, b_abs, Int.reduceEq, reduceCtorEq, or_self, or_false, false_or, sm2, sm5, sm6, sm7, sm8, sm36, m_pop, m_append, m_remove, w_addR, w_mulR]
  refine ⟨rfl, ?_⟩
  refine forL_ind (fun i ρ σ' => Sub σ σ' ∧ (∀ p, p < i → isRing T p = false) ∧ ρ "ties" = some (.ref t) ∧ ρ "ones" = some (.ref o)) ?_ ⟨.refl _, fun p hp => absurd hp (Nat.not_lt_zero _), rfl, rfl⟩ ?_
  · rintro i v ρ σ' K hv ⟨s1, s2, s3, s4⟩ hK _ _ hR
    obtain ⟨hi, rfl⟩ := rng_get hv
    have hi : i < 128 := hi
    rw [Int.zero_add]
    refine ring_walk hi (s1 _ _ ht) (s1 _ _ ho) hT (by simp [setv, s3]) (by simp [setv, s4]) (by simp [setv]) (fun ρ' σ'' hr s => ?_) fun ρ' σ'' hr s z1 z2 => ?_
    · exact hR _ _ _ (hQ _ _ (s1.trans s) ⟨fun _ => ⟨i, hi, hr⟩, fun _ => rfl⟩)
    · refine hK _ _ ⟨s1.trans s, fun p hp => ?_, z1, z2⟩ trivial
      by_cases e : p = i
      · subst e; exact hr
      · exact s2 p (by omega)
  · rintro ρ σ' ⟨s1, s2, s3, s4⟩
    rw [rng_length] at s2
    refine hQ _ _ s1 ⟨fun h => (by cases h), fun ⟨p, hp, hr⟩ => ?_⟩
    rw [s2 p hp] at hr
    cases hr
end Mini
end

section
open PySem PyProof.Rows
namespace Mini

def seenM (w : Nat → Nat) : Nat → Nat
  | 0 => 0
  | k + 1 => seenM w k + 2 ^ w k
def bagM (T w : Nat → Nat) (k : Nat) : Nat := T (w k) &&& seenM w k
def goodB (T : Nat → Nat) (p : Nat) : Bool := (mem7 p).all fun u => ((p - 2 ^ u) &&& T u) == p - 2 ^ u

section
variable {E : Nat → Nat → Bool} {T : Nat → Nat} {pos w : Nat → Nat}

theorem seenM_ok (o : Od pos w) : ∀ k, k ≤ 7 → seenM w k < 128 ∧ ∀ u, u < 7 → (seenM w k).testBit u = decide (pos u < k)
  | 0, _ => ⟨(by show 0 < 128; omega), fun u _ => by simp [seenM]⟩
  | k + 1, hk => by
    obtain ⟨h1, h2⟩ := seenM_ok o k (by omega)
    have hw := o.wl k (by omega)
    have hp := o.pw k (by omega)
    obtain ⟨g1, g2⟩ := add_bit _ h1 (w k) hw (by rw [h2 _ hw, hp]; simp)
    refine ⟨g1, fun u hu => ?_⟩
    show (seenM w k + 2 ^ w k).testBit u = _
    rw [g2 u hu, h2 u hu, Bool.eq_iff_iff]
    simp only [Bool.or_eq_true, decide_eq_true_eq, beq_iff_eq]
    constructor
    · rintro (q | q)
      · omega
      · subst q; omega
    · intro q
      by_cases e : pos u = k
      · right; rw [← e, o.wp u hu]
      · left; omega

theorem bag_lt (o : Od pos w) {k : Nat} (hk : k < 7) : bagM T w k < 128 := and_lt (seenM_ok o k (by omega)).1
theorem bag_bit (o : Od pos w) (t : Ts E T) {k u : Nat} (hk : k < 7) (hu : u < 7) : (bagM T w k).testBit u = Bg E pos w k u := by
  unfold bagM Bg
  rw [Nat.testBit_and, (t (w k) (o.wl k hk)).2 u hu, (seenM_ok o k (by omega)).2 u hu]

theorem good_iff (t : Ts E T) {p : Nat} (hp : p < 128) : goodB T p = true ↔ ∀ a b, a < 7 → b < 7 → a ≠ b → p.testBit a = true → p.testBit b = true → E a b = true := by
  unfold goodB
  rw [List.all_eq_true]
  constructor
  · intro h a b ha hb hab pa pb
    have h1 := h a (mem_mem7.mpr ⟨ha, pa⟩)
    have h1 : ((p - 2 ^ a) &&& T a) = p - 2 ^ a := by simpa using h1
    have h2 : ((p - 2 ^ a) &&& T a).testBit b = (p - 2 ^ a).testBit b := by rw [h1]
    rw [Nat.testBit_and, (sub_bit p hp a ha pa).2 b hb, (t a ha).2 b hb, pb] at h2
    have hne : (b != a) = true := by simp [Ne.symm hab]
    rw [hne] at h2
    simpa using h2
  · intro h a ha
    obtain ⟨ha, pa⟩ := mem_mem7.mp ha
    obtain ⟨s1, s2⟩ := sub_bit p hp a ha pa
    rw [beq_iff_eq]
    refine mask_ext (and_lt (t a ha).1) (Nat.lt_of_le_of_lt (Nat.sub_le _ _) hp) fun b hb => ?_
    rw [Nat.testBit_and, s2 b hb, (t a ha).2 b hb]
    cases hpb : p.testBit b with
    | false => simp
    | true =>
      by_cases e : b = a
      · subst e; simp
      · rw [h a b ha hb (Ne.symm e) pa hpb]; simp

theorem nf_iff (o : Od pos w) (t : Ts E T) : (∀ k, k < 7 → goodB T (bagM T w k) = true) ↔ Nf E pos w := by
  constructor
  · intro h k hk a b ha hb hab h1 h2
    exact (good_iff t (bag_lt o hk)).mp (h k hk) a b ha hb hab (by rw [bag_bit o t hk ha]; exact h1) (by rw [bag_bit o t hk hb]; exact h2)
  · intro h k hk
    exact (good_iff t (bag_lt o hk)).mpr fun a b ha hb hab h1 h2 => h k hk a b ha hb hab (by rw [← bag_bit o t hk ha]; exact h1) (by rw [← bag_bit o t hk hb]; exact h2)
end

theorem no_fill_spec {B k : Nat} {σ : Sto} {o t : Nat} {T w pos : Nat → Nat} (od : Od pos w) (ho : σ o = some (rowI 7 fun k => ((w k : Nat) : Int))) (ht : σ t = some (rowI 7 fun v => ((T v : Nat) : Int)))
    {Q : V → Sto → Prop} (hQ0 : ∀ σ', Sub σ σ' → (∃ k, k < 7 ∧ goodB T (bagM T w k) = false) → Q .none σ')
    (hQ1 : ∀ σ' b, Sub σ σ' → (∀ k, k < 7 → goodB T (bagM T w k) = true) → σ' b = some (rowI 7 fun k => ((bagM T w k : Nat) : Int)) → Q (.ref b) σ') : Sp B gl0 P0 (k + 2) "_law_no_fill" [.ref o, .ref t] σ Q := by
  refine ⟨_, rfl, rfl, ?_⟩
  simp only [wpB, wpS, wpE, wpT, wpI, wpEs, blk, bindF, wpBin_int, binV, setv, endF, V.ref.injEq, V.int.injEq, V.bool.injEq, V.tupI.injEq, Option.some.injEq, exists_eq_left', exists_eq_left, exists_and_left, String.reduceEq, if_true, if_false, reduceIte, true_and, and_true, decide_true, decide_false, Bool.false_eq_true, Bool.not_true, Bool.not_false, Int.reduceLE, Int.reduceToNat, Int.reducePow, Nat.reducePow, c_lt, c_gt, c_le, c_ge, c_eq, c_ne, c_is, c_isnot, t_bool, t_ref, n_none, n_ref, cmp_pr, decide_eq_true_eq, Bool.not_eq_true', decide_eq_false_iff_not, b_len, b_sum, b_max, b_min, b_max2, b_min2, b_sorted, b_list, b_listT, b_abs, Int.reduceEq, reduceCtorEq, or_self, or_false, false_or, sm2, sm5, sm6, sm7, sm8, sm36, m_pop, m_append, m_remove, w_addR, w_mulR, d_law_no_fill]
  refine ⟨by simp [LIM], fun bb hbB hbn => ?_⟩
  dsimp only
  have ho1 : upd σ bb [] o = some (rowI 7 fun k => ((w k : Nat) : Int)) := (Sub.new hbn) _ _ ho
  refine ⟨_, ho1, ?_⟩
  refine forL_ind (fun i ρ σ' => Sub σ σ' ∧ σ' bb = some (rowI i fun k => ((bagM T w k : Nat) : Int)) ∧ ρ "bags" = some (.ref bb) ∧ ρ "ties" = some (.ref t) ∧ ρ "seen" = some (.int ((seenM w i : Nat) : Int))) ?_ ⟨.new hbn, upd_at .., rfl, rfl, rfl⟩ ?_
  · rintro i v ρ σ' K hv ⟨s1, s2, s3, s4, s5⟩ hK _ _ _
    obtain ⟨hi, rfl⟩ := rowI_lt hv
    have hw := od.wl i hi
    refine ⟨_, by simpa [setv] using s3, ⟨bb, rfl, _, s2⟩, _, by simpa [setv] using s4, _, sub_rowI (j := w i) (s1 _ _ ht) rfl hw, _, by simpa [setv] using s5, ?_⟩
    rw [wpBin_int]
    refine ⟨_, bin_and _ _, ?_⟩
    rw [m_append]
    refine ⟨_, s2, hbB, by unfold rowI; rw [rowV_len, LIM_eq]; omega, rfl, _, by simpa [setv] using s5, ?_⟩
    rw [wpBin_int]
    refine ⟨_, bin_pow _ (by omega), ?_⟩
    rw [wpBin_int]
    refine ⟨_, bin_add _ _, ?_⟩
    refine hK _ _ ⟨s1.upd hbn, ?_, by simp [setv, s3], by simp [setv, s4], by simp [setv, seenM]⟩ ?_
    · rw [upd_at]; unfold rowI; rw [rowV_snoc]; rfl
    · show upd σ' bb _ o = some _
      rw [upd_ne (ne_of_none hbn ho)]; exact s1 _ _ ho
  · rintro ρ σ1 ⟨s1, s2, s3, s4, s5⟩
    have hlen : (rowI 7 fun k => ((w k : Nat) : Int)).length = 7 := by unfold rowI; rw [rowV_len]
    rw [hlen] at s2
    refine ⟨_, s3, bb, rfl, _, s2, ?_⟩
    refine forL_ind (fun i ρ σ' => Sub σ1 σ' ∧ (∀ k, k < i → goodB T (bagM T w k) = true) ∧ ρ "bags" = some (.ref bb) ∧ ρ "ties" = some (.ref t)) ?_ ⟨.refl _, fun k hk => absurd hk (Nat.not_lt_zero _), s3, s4⟩ ?_
    · rintro i v ρ σ2 K hv ⟨u1, u2, u3, u4⟩ hK _ _ hR
      obtain ⟨hi, rfl⟩ := rowI_lt hv
      have hR0 : (∃ k, k < 7 ∧ goodB T (bagM T w k) = false) → ∀ σ', Sub σ1 σ' → ∀ ρ', K (.ret .none) ρ' σ' := fun he σ' hs ρ' => hR _ _ _ (hQ0 _ (s1.trans hs) he)
      have hp := bag_lt (T := T) od hi
      have hnext : goodB T (bagM T w i) = true → ∀ ρ' σ', Sub σ1 σ' → ρ' "bags" = some (.ref bb) → ρ' "ties" = some (.ref t) → K .next ρ' σ' := fun hg ρ' σ' z1 z2 z3 => by
        refine hK _ _ ⟨z1, fun k hk => ?_, z2, z3⟩ (z1 _ _ s2)
        by_cases e : k = i
        · subst e; exact hg
        · exact u2 k (by omega)
      have hbad : goodB T (bagM T w i) = false → ∀ ρ' σ', Sub σ1 σ' → K (.ret .none) ρ' σ' := fun hg ρ' σ' hs => hR0 ⟨i, hi, hg⟩ σ' hs ρ'
      clear hR0 hK hR
      generalize bagM T w i = p at hp hnext hbad
      refine ⟨rfl, ?_⟩
      refine members_spec fun σ3 a v1 ha => ?_
      refine ⟨a, rfl, _, ha, ?_⟩
      have v2 := u1.trans v1
      have ht3 := v2 _ _ (s1 _ _ ht)
      refine forL_ind (fun j ρ σ' => σ' = σ3 ∧ (∀ u ∈ (mem7 p).take j, ((p - 2 ^ u) &&& T u) = p - 2 ^ u) ∧ ρ "bags" = some (.ref bb) ∧ ρ "ties" = some (.ref t) ∧ ρ "bag" = some (.int (p : Int))) ?_ ⟨rfl, fun u hu => (by simp at hu), by simp [setv, u3], by simp [setv, u4], by simp [setv]⟩ ?_
      · rintro j v ρ σ4 K2 hv2 ⟨rfl, x2, x3, x4, x5⟩ hK2 _ _ hR2
        obtain ⟨hj, rfl⟩ := natL_get hv2
        obtain ⟨hj7, hjp⟩ := mem_mem7.mp (List.getElem_mem hj)
        have hle := (sub_bit p hp _ hj7 hjp).1
        have htk := take_succ_get hj
        have hin : (mem7 p)[j] ∈ mem7 p := List.getElem_mem hj
        generalize (mem7 p)[j] = y at hj7 hjp hle htk hin
        refine ⟨_, by simpa [setv] using x5, ?_⟩
        rw [wpBin_int]
        refine ⟨_, bin_pow y (by omega), ?_⟩
        rw [wpBin_int]
        refine ⟨_, bin_sub hle, _, by simpa [setv] using x4, _, sub_rowI (j := y) ht3 rfl hj7, ?_⟩
        rw [wpBin_int]
        refine ⟨_, bin_and _ _, _, by simpa [setv] using x5, ?_⟩
        rw [wpBin_int]
        refine ⟨_, bin_pow y (by omega), ?_⟩
        rw [wpBin_int]
        refine ⟨_, bin_sub hle, _, rfl, ?_⟩
        rw [int_lit_beq]
        by_cases c : ((p - 2 ^ y) &&& T y) = p - 2 ^ y
        · rw [if_neg (by simp [c])]
          refine hK2 _ _ ⟨rfl, fun u hu => ?_, by simp [setv, x3], by simp [setv, x4], by simp [setv, x5]⟩ ha
          rw [htk] at hu
          rcases List.mem_append.mp hu with q | q
          · exact x2 u q
          · rw [List.mem_singleton.mp q]; exact c
        · rw [if_pos (by simpa using c)]
          refine hR2 _ _ _ (hbad ?_ _ _ v2)
          unfold goodB
          rw [List.all_eq_false]
          exact ⟨y, hin, by simpa using c⟩
      · rintro ρ4 σ4 ⟨rfl, x2, x3, x4, x5⟩
        refine hnext ?_ _ _ v2 x3 x4
        unfold goodB
        rw [List.all_eq_true]
        intro u hu
        rw [natL_len, List.take_length] at x2
        rw [beq_iff_eq]
        exact x2 u hu
    · rintro ρ4 σ4 ⟨u1, u2, u3, u4⟩
      have hlen2 : (rowI 7 fun k => ((bagM T w k : Nat) : Int)).length = 7 := by unfold rowI; rw [rowV_len]
      rw [hlen2] at u2
      exact ⟨_, u3, hQ1 _ _ (s1.trans u1) u2 (u1 _ _ s2)⟩
end Mini
end

section
open PySem PyProof.Rows
namespace Mini

structure ColI (E : Nat → Nat → Bool) (pos w : Nat → Nat) (i : Nat) (col : Nat → Int) : Prop where
  off : ∀ k, k < i → ∀ u, u < 7 → Bg E pos w k u = true → col u ≠ col (w k)
  low : ∀ k, k < i → ∀ c : Nat, (c : Int) < col (w k) → ∃ u, u < 7 ∧ Bg E pos w k u = true ∧ col u = c
  nn : ∀ k, k < i → 0 ≤ col (w k)
  un : ∀ k, i ≤ k → k < 7 → col (w k) = -1

section
variable {E : Nat → Nat → Bool} {pos w : Nat → Nat}

theorem ColI.step (o : Od pos w) {i : Nat} {col : Nat → Int} (x : ColI E pos w i col) (hi : i < 7) {c : Nat} (h1 : ∀ u, u < 7 → E (w i) u = true → col u ≠ c) (h2 : ∀ c' : Nat, c' < c → ∃ u, u < 7 ∧ E (w i) u = true ∧ col u = c') :
    ColI E pos w (i + 1) (fun v => if v = w i then (c : Int) else col v) := by
  have hne : ∀ k, k < 7 → k ≠ i → w k ≠ w i := fun k hk hn e => by
    have := congrArg pos e
    rw [o.pw k hk, o.pw i hi] at this
    exact hn this
  have hbg : ∀ k u, k ≤ i → u < 7 → Bg E pos w k u = true → u ≠ w i := fun k u hk hu hb e => by
    unfold Bg at hb
    simp only [Bool.and_eq_true, decide_eq_true_eq] at hb
    rw [e, o.pw i hi] at hb
    omega
  refine ⟨fun k hk u hu hb => ?_, fun k hk c' hc' => ?_, fun k hk => ?_, fun k hk hk7 => ?_⟩
  · try dsimp only
    rw [if_neg (hbg k u (by omega) hu hb)]
    by_cases e : k = i
    · subst e
      rw [if_pos rfl]
      unfold Bg at hb
      simp only [Bool.and_eq_true] at hb
      exact h1 u hu hb.1
    · rw [if_neg (hne k (by omega) e)]
      exact x.off k (by omega) u hu hb
  · try dsimp only at hc' ⊢
    by_cases e : k = i
    · subst e
      rw [if_pos rfl] at hc'
      obtain ⟨u, hu, he, hcol⟩ := h2 c' (by omega)
      have hp : pos u < k := by
        rcases Nat.lt_or_ge (pos u) k with q | q
        · exact q
        · have := x.un (pos u) q (o.pl u hu)
          rw [o.wp u hu, hcol] at this
          omega
      have hb : Bg E pos w k u = true := by unfold Bg; simp [he, hp]
      exact ⟨u, hu, hb, by rw [if_neg (hbg k u (Nat.le_refl _) hu hb)]; exact hcol⟩
    · rw [if_neg (hne k (by omega) e)] at hc'
      obtain ⟨u, hu, hb, hcol⟩ := x.low k (by omega) c' hc'
      exact ⟨u, hu, hb, by rw [if_neg (hbg k u (by omega) hu hb)]; exact hcol⟩
  · try dsimp only
    split
    · omega
    · rename_i e
      exact x.nn k (by
        have : k ≠ i := fun z => e (by rw [z])
        omega)
  · try dsimp only
    rw [if_neg (hne k hk7 (by omega))]
    exact x.un k (by omega) hk7

theorem ColI.col (o : Od pos w) {col : Nat → Int} (x : ColI E pos w 7 col) : Col E pos w (fun v => (col v).toNat) := by
  have nn : ∀ v, v < 7 → 0 ≤ col v := fun v hv => by
    have := x.nn (pos v) (o.pl v hv)
    rwa [o.wp v hv] at this
  refine ⟨fun k hk u hu hb e => x.off k hk u hu hb ?_, fun k hk c hc => ?_⟩
  · have := nn u hu
    have := nn _ (o.wl k hk)
    try dsimp only at e
    omega
  · obtain ⟨u, hu, hb, e⟩ := x.low k hk c (by omega)
    exact ⟨u, hu, hb, by omega⟩
end

def colW : MB := blk [.asg "c" (.bin .Add (.var "c") (.int 1))]

theorem colours_spec {B k : Nat} {σ : Sto} {o l : Nat} {r : Nat → Nat} {E : Nat → Nat → Bool} {w pos : Nat → Nat} (od : Od pos w) (ho : σ o = some (rowI 7 fun k => ((w k : Nat) : Int))) (hM : Mat 7 7 σ l r fun i j => .bool (E i j))
    {Q : V → Sto → Prop} (hQ : ∀ σ' (col : Nat → Nat) (m : Nat), Sub σ σ' → Col E pos w col → (∃ v, v < 7 ∧ col v = m) → (∀ v, v < 7 → col v ≤ m) → Q (.int ((m : Int) + 1)) σ') : Sp B gl0 P0 (k + 1) "_law_colours" [.ref o, .ref l] σ Q := by
  refine ⟨_, rfl, rfl, ?_⟩
  simp only [wpB, wpS, wpE, wpT, wpI, wpEs, blk, bindF, wpBin_int, binV, setv, endF, V.ref.injEq, V.int.injEq, V.bool.injEq, V.tupI.injEq, Option.some.injEq, exists_eq_left', exists_eq_left, exists_and_left, String.reduceEq, if_true, if_false, reduceIte, true_and, and_true, decide_true, decide_false, Bool.false_eq_true, Bool.not_true, Bool.not_false, Int.reduceLE, Int.reduceToNat, Int.reducePow, Nat.reducePow, c_lt, c_gt, c_le, c_ge, c_eq, c_ne, c_is, c_isnot, t_bool, t_ref, n_none, n_ref, cmp_pr, decide_eq_true_eq, Bool.not_eq_true', decide_eq_false_iff_not, b_len, b_sum, b_max, b_min, b_max2, b_min2, b_sorted, b_list, b_listT, b_abs, Int.reduceEq, reduceCtorEq, or_self, or_false, false_or, sm2, sm5, sm6, sm7, sm8, sm36, m_pop, m_append, m_remove, w_addR, w_mulR, d_law_colours]
  refine ⟨by simp [LIM], fun a haB han => ?_⟩
  have s1 : Sub σ (upd σ a [V.int (-1)]) := .new han
  have ha1 := upd_at σ a [V.int (-1)]
  generalize upd σ a [V.int (-1)] = σ1 at s1 ha1
  simp only [wpB, wpS, wpE, wpT, wpI, wpEs, blk, bindF, wpBin_int, binV, setv, endF, V.ref.injEq, V.int.injEq, V.bool.injEq, V.tupI.injEq, Option.some.injEq, exists_eq_left', exists_eq_left, exists_and_left, String.reduceEq, if_true, if_false, reduceIte, true_and, and_true, decide_true, decide_false, Bool.false_eq_true, Bool.not_true, Bool.not_false, Int.reduceLE, Int.reduceToNat, Int.reducePow, Nat.reducePow, c_lt, c_gt, c_le, c_ge, c_eq, c_ne, c_is, c_isnot, t_bool, t_ref, n_none, n_ref, cmp_pr, decide_eq_true_eq, Bool.not_eq_true', decide_eq_false_iff_not, b_len, b_sum, b_max, b_min, b_max2, b_min2, b_sorted, b_list, b_listT, b_abs, Int.reduceEq, reduceCtorEq, or_self, or_false, false_or, sm2, sm5, sm6, sm7, sm8, sm36, m_pop, m_append, m_remove, w_addR, w_mulR, ha1]
  refine ⟨by simp, fun cc hcB hcn => ?_⟩
  have s2 : Sub σ1 (upd σ1 cc (rowI 7 fun _ => -1)) := .new hcn
  have hc2 := upd_at σ1 cc (rowI 7 fun _ => -1)
  rw [show (List.replicate 7 [V.int (-1)]).flatten = rowI 7 fun _ => -1 from rfl]
  have hcn' := s1.none hcn
  generalize upd σ1 cc (rowI 7 fun _ => -1) = σ2 at s2 hc2
  have s := s1.trans s2
  dsimp only
  refine ⟨_, s _ _ ho, ?_⟩
  have hoc : o ≠ cc := ne_of_none hcn' ho
  have hMc : ∀ {σ' : Sto}, Sub σ σ' → Mat 7 7 σ' l r fun i j => .bool (E i j) := fun h => hM.sub h
  refine forL_ind (fun i ρ σ' => Sub σ σ' ∧ (∃ col, σ' cc = some (rowI 7 col) ∧ ColI E pos w i col) ∧ ρ "colours" = some (.ref cc) ∧ ρ "near" = some (.ref l)) ?_
    ⟨s, ⟨_, hc2, ⟨fun k hk => absurd hk (Nat.not_lt_zero _), fun k hk => absurd hk (Nat.not_lt_zero _), fun k hk => absurd hk (Nat.not_lt_zero _), fun _ _ _ => rfl⟩⟩, rfl, rfl⟩ ?_
  · rintro i v ρ σ3 K hv ⟨t1, ⟨col, t2, t3⟩, t4, t5⟩ hK _ _ _
    obtain ⟨hi, rfl⟩ := rowI_lt hv
    have hw := od.wl i hi
    have m3 := hMc t1
    refine ⟨by rw [rng_length]; decide, ?_⟩
    refine compL_flat (gSom (fun u => E (w i) u) col) (fun v hv acc K' hK' => ?_) trivial ?_
    · obtain ⟨j, hj⟩ := List.getElem?_of_mem hv
      obtain ⟨hj7, rfl⟩ := rng_get hj
      have hj7 : j < 7 := hj7
      rw [Int.zero_add] at hK' ⊢
      refine ⟨_, by simpa [setv] using t5, _, sub_row (f := fun i => .ref (r i)) (j := w i) m3.top rfl hw, _, sub_row (f := fun j => .bool (E (w i) j)) (j := j) (m3.row _ hw) rfl hj7, _, rfl, ?_⟩
      have hK2 : K' σ3 (acc ++ if E (w i) j = true then [V.int (col j)] else []) := hK'
      by_cases c : E (w i) j = true
      · rw [if_pos c] at hK2 ⊢
        exact ⟨_, by simpa [setv] using t4, _, sub_rowI (j := j) t2 rfl hj7, hK2⟩
      · rw [if_neg c] at hK2 ⊢
        rw [List.append_nil] at hK2
        exact hK2
    · rw [List.nil_append, flat_some (fun u => E (w i) u) col]
      have hmem : ∀ z : Int, z ∈ ((List.range 7).filter fun u => E (w i) u).map col ↔ ∃ u, u < 7 ∧ E (w i) u = true ∧ col u = z := fun z => by
        rw [List.mem_map]
        constructor
        · rintro ⟨v, hv, e⟩
          rw [List.mem_filter, List.mem_range] at hv
          exact ⟨v, hv.1, hv.2, e⟩
        · rintro ⟨v, h1, h2, e⟩
          exact ⟨v, List.mem_filter.mpr ⟨List.mem_range.mpr h1, h2⟩, e⟩
      have hlen : (((List.range 7).filter fun u => E (w i) u).map col).length ≤ 7 := by
        rw [List.length_map]
        exact Nat.le_trans (List.length_filter_le _ _) (by simp)
      generalize ((List.range 7).filter fun u => E (w i) u).map col = us at hmem hlen
      intro b hbB hbn
      have s4 : Sub σ3 (upd σ3 b (us.map .int)) := .new hbn
      have hb4 := upd_at σ3 b (us.map V.int)
      generalize upd σ3 b (us.map V.int) = σ4 at s4 hb4
      refine ⟨fun n ρ σ' => ∃ c : Nat, n = 8 - c ∧ σ' = σ4 ∧ (∀ j : Nat, j < c → (j : Int) ∈ us) ∧ ρ "c" = some (.int (c : Int)) ∧ ρ "used" = some (.ref b) ∧ ρ "colours" = some (.ref cc) ∧ ρ "near" = some (.ref l) ∧ ρ "v" = some (.int ((w i : Nat) : Int)), 8,
        ⟨0, rfl, rfl, fun j hj => absurd hj (Nat.not_lt_zero _), by simp [setv], by simp [setv], by simp [setv, t4], by simp [setv, t5], by simp [setv]⟩, ?_⟩
      rintro n ρ5 σ5 ⟨c, rfl, rfl, h1, h2, h3, h4, h5, h6⟩
      have hin : cmpV σ5 .In (.int (c : Int)) (.ref b) = some (us.contains (c : Int)) := by
        simp only [cmpV, hb4, Option.bind_some, in_ints]
      refine ⟨_, h2, _, h3, _, hin, ?_⟩
      have hc7 : c ≤ us.length := by
        have := nodup_le (l := (List.range c).map fun (j : Nat) => (j : Int)) (m := us) (List.Pairwise.map _ (fun a b (h : a ≠ b) e => h (by omega)) List.nodup_range) fun x hx => by
          obtain ⟨j, hj, rfl⟩ := List.mem_map.mp hx
          exact h1 j (List.mem_range.mp hj)
        simpa using this
      by_cases q : us.contains (c : Int) = true
      · rw [if_pos q]
        refine ⟨_, h2, ?_⟩
        rw [wpBin_int]
        refine ⟨_, rfl, 8 - (c + 1), by omega, c + 1, rfl, rfl, fun j hj => ?_, by simp [setv], by simp [setv, h3], by simp [setv, h4], by simp [setv, h5], by simp [setv, h6]⟩
        by_cases e : j = c
        · subst e; simpa using q
        · exact h1 j (by omega)
      · rw [if_neg q]
        have hq : ¬ (c : Int) ∈ us := by simpa using q
        refine ⟨_, h2, _, h4, _, h6, cc, rfl, _, s4 _ _ t2, _, rfl, Int.natCast_nonneg _, by unfold rowI; rw [rowV_len, Int.toNat_natCast]; exact hw, hcB, ?_⟩
        rw [Int.toNat_natCast, rowI_set]
        refine hK _ _ ⟨(t1.trans s4).upd hcn', ⟨_, upd_at .., t3.step od hi (fun u hu he e => hq ((hmem _).mpr ⟨u, hu, he, e⟩)) fun c' hc' => (hmem _).mp (h1 c' hc')⟩, h4, h5⟩ ?_
        show upd σ5 cc _ o = some _
        rw [upd_ne hoc]; exact s4 _ _ (t1 _ _ ho)
  · rintro ρ σ3 ⟨t1, ⟨col, t2, t3⟩, t4, t5⟩
    have hlen : (rowI 7 fun k => ((w k : Nat) : Int)).length = 7 := by unfold rowI; rw [rowV_len]
    rw [hlen] at t3
    refine ⟨_, t4, ?_⟩
    rw [b_max]
    have hL : rowI 7 col = V.int (col 0) :: (((List.range 6).map fun i => col (i + 1)).map .int) := rfl
    obtain ⟨m, m1, m2, m3⟩ := max_ints ((List.range 6).map fun i => col (i + 1)) (col 0)
    have hL2 : col 0 :: (List.range 6).map (fun i => col (i + 1)) = (List.range 7).map col := rfl
    rw [hL2] at m2 m3
    have nn : ∀ v, v < 7 → 0 ≤ col v := fun v hv => by
      have := t3.nn (pos v) (od.pl v hv)
      rwa [od.wp v hv] at this
    obtain ⟨v, hv, e⟩ := List.mem_map.mp m2
    have hv := List.mem_range.mp hv
    have hv0 := nn v hv
    refine ⟨_, _, _, t2.trans (congrArg some hL), same_int _ _, m1, ?_⟩
    rw [wpBin_int]
    refine ⟨_, rfl, ?_⟩
    have := hQ σ3 _ m.toNat t1 (t3.col od) ⟨v, hv, by rw [e]⟩ fun u hu => by
      have := m3 _ (List.mem_map.mpr ⟨u, List.mem_range.mpr hu, rfl⟩)
      omega
    rwa [Int.toNat_of_nonneg (by omega)] at this
end Mini
end

section
open PySem PyProof.Rows
namespace Mini

def tieM (M : Nat → Nat → Bool) (a b : Nat) (tn : Bool) : Nat → Nat → Bool := fun x y =>
  if a = b then M x y else if (x = a ∧ y = b) ∨ (x = b ∧ y = a) then (if tn = true then !(M a b) else true) else M x y

structure SI (M : Nat → Nat → Bool) : Prop where
  sym : ∀ a b, a < 7 → b < 7 → M a b = M b a
  irr : ∀ a, a < 7 → M a a = false

theorem SI.tie {M : Nat → Nat → Bool} (x : SI M) (a b : Nat) (tn : Bool) : SI (tieM M a b tn) := by
  refine ⟨fun u v hu hv => ?_, fun u hu => ?_⟩
  · unfold tieM
    split
    · exact x.sym u v hu hv
    · by_cases c : (u = a ∧ v = b) ∨ (u = b ∧ v = a)
      · have c' : (v = a ∧ u = b) ∨ (v = b ∧ u = a) := by
          rcases c with c | c
          · exact .inr ⟨c.2, c.1⟩
          · exact .inl ⟨c.2, c.1⟩
        rw [if_pos c, if_pos c']
      · have c' : ¬ ((v = a ∧ u = b) ∨ (v = b ∧ u = a)) := fun q => c (by
          rcases q with q | q
          · exact .inr ⟨q.2, q.1⟩
          · exact .inl ⟨q.2, q.1⟩)
        rw [if_neg c, if_neg c']
        exact x.sym u v hu hv
  · unfold tieM
    split
    · exact x.irr u hu
    · rename_i hab
      rw [if_neg]
      · exact x.irr u hu
      · rintro (⟨h1, h2⟩ | ⟨h1, h2⟩)
        · exact hab (h1.symm.trans h2)
        · exact hab (h2.symm.trans h1)

def Fr (rn : Nat → Nat) (σ σ' : Sto) : Prop := ∀ x, (∀ i, i < 7 → x ≠ rn i) → σ' x = σ x
theorem Fr.refl (rn : Nat → Nat) (σ : Sto) : Fr rn σ σ := fun _ _ => rfl
theorem Fr.trans {rn : Nat → Nat} {σ σ' σ'' : Sto} (a : Fr rn σ σ') (b : Fr rn σ' σ'') : Fr rn σ σ'' := fun x h => (b x h).trans (a x h)
theorem Fr.upd {rn : Nat → Nat} {σ σ' : Sto} (a : Fr rn σ σ') {i : Nat} (hi : i < 7) {xs : List V} : Fr rn σ (Mini.upd σ' (rn i) xs) := fun x h => (upd_ne (h i hi)).trans (a x h)
theorem Fr.sub {rn : Nat → Nat} {σ₀ σ σ' : Sto} (a : Fr rn σ σ') (s : Sub σ₀ σ) (h : ∀ i, i < 7 → σ₀ (rn i) = none) : Sub σ₀ σ' := fun x xs e => by
  rw [a x fun i hi => ne_of_none (h i hi) e]
  exact s x xs e

theorem tie_spec {B k : Nat} {σ : Sto} {l : Nat} {r : Nat → Nat} {M : Nat → Nat → Bool} {a b : Nat} {tn : Bool} (hM : Mat 7 7 σ l r fun i j => .bool (M i j)) (hB : ∀ i, i < 7 → B ≤ r i) (ha : a < 7) (hb : b < 7)
    {Q : V → Sto → Prop} (hQ : ∀ σ', Mat 7 7 σ' l r (fun i j => .bool (tieM M a b tn i j)) → Fr r σ σ' → Q .none σ') : Sp B gl0 P0 (k + 1) "_law_tie" [.ref l, .int (a : Int), .int (b : Int), .bool tn] σ Q := by
  refine ⟨_, rfl, rfl, ?_⟩
  have f1 : subV σ (.ref l) (.int (a : Int)) = some (.ref (r a)) := sub_row (f := fun i => .ref (r i)) hM.top rfl ha
  have f2 : subV σ (.ref (r a)) (.int (b : Int)) = some (.bool (M a b)) := sub_row (f := fun j => .bool (M a j)) (hM.row a ha) rfl hb
  simp only [wpB, wpS, wpE, wpT, wpI, wpEs, blk, bindF, wpBin_int, binV, setv, endF, V.ref.injEq, V.int.injEq, V.bool.injEq, V.tupI.injEq, Option.some.injEq, exists_eq_left', exists_eq_left, exists_and_left, String.reduceEq, if_true, if_false, reduceIte, true_and, and_true, decide_true, decide_false, Bool.false_eq_true, Bool.not_true, Bool.not_false, Int.reduceLE, Int.reduceToNat, Int.reducePow, Nat.reducePow, c_lt, c_gt, c_le, c_ge, c_eq, c_ne, c_is, c_isnot, t_bool, t_ref, n_none, n_ref, cmp_pr, decide_eq_true_eq, Bool.not_eq_true', decide_eq_false_iff_not, b_len, b_sum, b_max, b_min, b_max2, b_min2, b_sorted, b_list, b_listT, b_abs, Int.reduceEq, reduceCtorEq, or_self, or_false, false_or, sm2, sm5, sm6, sm7, sm8, sm36, m_pop, m_append, m_remove, w_addR, w_mulR, d_law_tie, f1, f2, hM.row a ha]
  by_cases c : a = b
  · subst c
    rw [if_neg (by simp)]
    refine hQ σ ?_ (.refl _ _)
    have : tieM M a a tn = M := by
      funext x y
      unfold tieM
      rw [if_pos rfl]
    rw [this]
    exact hM
  · rw [if_pos (by rw [int_lit_beq]; simpa using c)]
    have key : ∀ v : Bool, v = (if tn = true then !(M a b) else true) → (0 ≤ (b : Int) ∧ (b : Int).toNat < (rowV 7 fun j => V.bool (M a j)).length ∧ B ≤ r a ∧
        ∃ v_1, subV (upd σ (r a) ((rowV 7 fun j => V.bool (M a j)).set (b : Int).toNat (.bool v))) (.ref l) (.int (a : Int)) = some v_1 ∧ ∃ v_2, subV (upd σ (r a) ((rowV 7 fun j => V.bool (M a j)).set (b : Int).toNat (.bool v))) v_1 (.int (b : Int)) = some v_2 ∧
          ∃ v_3, subV (upd σ (r a) ((rowV 7 fun j => V.bool (M a j)).set (b : Int).toNat (.bool v))) (.ref l) (.int (b : Int)) = some v_3 ∧ ∃ l_1, v_3 = .ref l_1 ∧ ∃ x, upd σ (r a) ((rowV 7 fun j => V.bool (M a j)).set (b : Int).toNat (.bool v)) l_1 = some x ∧ 0 ≤ (a : Int) ∧ (a : Int).toNat < x.length ∧ B ≤ l_1 ∧
            Q .none (upd (upd σ (r a) ((rowV 7 fun j => V.bool (M a j)).set (b : Int).toNat (.bool v))) l_1 (x.set (a : Int).toNat v_2))) := by
      intro v hv
      rw [Int.toNat_natCast, Int.toNat_natCast]
      have m1 := hM.setB (i := a) (j := b) (v := v) ha
      have e1 : Fr r σ (upd σ (r a) ((rowV 7 fun j => V.bool (M a j)).set b (.bool v))) := (Fr.refl r σ).upd ha
      generalize upd σ (r a) ((rowV 7 fun j => V.bool (M a j)).set b (.bool v)) = σ1 at m1 e1
      refine ⟨Int.natCast_nonneg _, by rw [rowV_len]; exact hb, hB a ha, _, sub_row (f := fun i => .ref (r i)) m1.top rfl ha, _, sub_row (f := fun y => .bool (if a = a ∧ y = b then v else M a y)) (m1.row a ha) rfl hb, _,
        sub_row (f := fun i => .ref (r i)) m1.top rfl hb, _, rfl, _, m1.row b hb, Int.natCast_nonneg _, by rw [rowV_len]; exact ha, hB b hb, ?_⟩
      rw [if_pos ⟨rfl, rfl⟩]
      have m2 := m1.setB (i := b) (j := a) (v := v) hb
      refine hQ _ (m2.congr fun x y _ _ => ?_) (e1.upd hb)
      congr 1
      unfold tieM
      rw [if_neg c, ← hv]
      by_cases c1 : x = b ∧ y = a
      · rw [if_pos c1, if_pos (.inr c1)]
      · rw [if_neg c1]
        by_cases c2 : x = a ∧ y = b
        · rw [if_pos c2, if_pos (.inl c2)]
        · rw [if_neg c2, if_neg (fun q => q.elim c2 c1)]
    cases tn with
    | true =>
      rw [if_pos rfl]
      exact key _ rfl
    | false =>
      rw [if_neg (by simp)]
      exact key _ rfl

def dblB (s e : ME) : MS := .for_ "a" (.r1 s) (blk [.for_ "b" (.r1 s) (blk [.sto (.sub (.var "near") (.sub (.var "name") (.var "a"))) (.sub (.var "name") (.var "b")) e])])

theorem dbl_walk {C : Cx} {s e : ME} {sz : Nat} {ρ : Frm} {σ : Sto} {n nA : Nat} {rn nm : Nat → Nat} {M F : Nat → Nat → Bool} {K : Fl → Frm → Sto → Prop} (hsz : sz ≤ 7)
    (hs : ∀ (ρ' : Frm) (σ' : Sto) (Q : V → Sto → Prop), (∀ x, x ≠ "a" → x ≠ "b" → ρ' x = ρ x) → Q (.int (sz : Int)) σ' → wpE C s ρ' σ' Q)
    (he : ∀ (ρ' : Frm) (σ' : Sto) (a b : Nat) (Q : V → Sto → Prop), (∀ x, x ≠ "a" → x ≠ "b" → ρ' x = ρ x) → Fr rn σ σ' → a < sz → b < sz → ρ' "a" = some (.int (a : Int)) → ρ' "b" = some (.int (b : Int)) → Q (.bool (F a b)) σ' → wpE C e ρ' σ' Q)
    (hM : Mat 7 7 σ n rn fun i j => .bool (M i j)) (hB : ∀ i, i < 7 → C.B ≤ rn i) (hN : σ nA = some (rowI 7 fun k => ((nm k : Nat) : Int))) (hNo : ∀ i, i < 7 → nA ≠ rn i) (hl : ∀ k, k < 7 → nm k < 7) (hinj : ∀ j k, j < 7 → k < 7 → nm j = nm k → j = k)
    (q1 : ρ "near" = some (.ref n)) (q2 : ρ "name" = some (.ref nA))
    (hK : ∀ (ρ' : Frm) (σ' : Sto) (M' : Nat → Nat → Bool), (∀ x, x ≠ "a" → x ≠ "b" → ρ' x = ρ x) → Fr rn σ σ' → Mat 7 7 σ' n rn (fun i j => .bool (M' i j)) → (∀ a b, a < 7 → b < 7 → M' (nm a) (nm b) = if a < sz ∧ b < sz then F a b else M (nm a) (nm b)) → K .next ρ' σ') :
    wpS C (dblB s e) ρ σ K := by
  have hsm : small (sz : Int) = true := by unfold small; simp; omega
  simp only [wpB, wpS, wpE, wpT, wpI, wpEs, blk, bindF, wpBin_int, binV, setv, endF, V.ref.injEq, V.int.injEq, V.bool.injEq, V.tupI.injEq, Option.some.injEq, exists_eq_left', exists_eq_left, exists_and_left, String.reduceEq, if_true, if_false, reduceIte, true_and, and_true, decide_true, decide_false, Bool.false_eq_true, Bool.not_true, Bool.not_false, Int.reduceLE, Int.reduceToNat, Int.reducePow, Nat.reducePow, c_lt, c_gt, c_le, c_ge, c_eq, c_ne, c_is, c_isnot, t_bool, t_ref, n_none, n_ref, cmp_pr, decide_eq_true_eq, Bool.not_eq_true', decide_eq_false_iff_not, b_len, b_sum, b_max, b_min, b_max2, b_min2, b_sorted, b_list, b_listT, b_abs, Int.reduceEq, reduceCtorEq, or_self, or_false, false_or, sm2, sm5, sm6, sm7, sm8, sm36, m_pop, m_append, m_remove, w_addR, w_mulR, dblB]
  refine hs _ _ _ (fun _ _ _ => rfl) ⟨_, rfl, hsm, ?_⟩
  refine forL_ind (fun i ρ' σ' => (∀ x, x ≠ "a" → x ≠ "b" → ρ' x = ρ x) ∧ Fr rn σ σ' ∧ ∃ M' : Nat → Nat → Bool, Mat 7 7 σ' n rn (fun i j => .bool (M' i j)) ∧ ∀ a b, a < 7 → b < 7 → M' (nm a) (nm b) = if a < i ∧ b < sz then F a b else M (nm a) (nm b)) ?_
    ⟨fun _ _ _ => rfl, .refl _ _, M, hM, fun a b _ _ => by rw [if_neg (by omega)]⟩ ?_
  · rintro i v ρ1 σ1 K1 hv ⟨t1, t2, M1, t3, t4⟩ hK1 _ _ _
    obtain ⟨hi, rfl⟩ := rng_get hv
    rw [Int.toNat_natCast] at hi
    rw [Int.zero_add]
    have t1' : ∀ x, x ≠ "a" → x ≠ "b" → setv ρ1 "a" (.int (i : Int)) x = ρ x := fun x h1 h2 => by simp [setv, h1, t1 x h1 h2]
    refine hs _ _ _ t1' ⟨_, rfl, hsm, ?_⟩
    refine forL_ind (fun j ρ' σ' => (∀ x, x ≠ "a" → x ≠ "b" → ρ' x = ρ x) ∧ ρ' "a" = some (.int (i : Int)) ∧ Fr rn σ σ' ∧ ∃ M' : Nat → Nat → Bool, Mat 7 7 σ' n rn (fun i j => .bool (M' i j)) ∧
        ∀ a b, a < 7 → b < 7 → M' (nm a) (nm b) = if (a < i ∧ b < sz) ∨ (a = i ∧ b < j) then F a b else M (nm a) (nm b)) ?_
      ⟨t1', by simp [setv], t2, M1, t3, fun a b ha hb => by rw [t4 a b ha hb]; congr 1; simp⟩ ?_
    · rintro j v ρ2 σ2 K2 hv ⟨u1, u2, u3, M2, u4, u5⟩ hK2 _ _ _
      obtain ⟨hj, rfl⟩ := rng_get hv
      rw [Int.toNat_natCast] at hj
      rw [Int.zero_add]
      have u1' : ∀ x, x ≠ "a" → x ≠ "b" → setv ρ2 "b" (.int (j : Int)) x = ρ x := fun x h1 h2 => by simp [setv, h2, u1 x h1 h2]
      refine he _ _ i j _ u1' u3 hi hj (by simp [setv, u2]) (by simp [setv]) ?_
      have hN2 : σ2 nA = some (rowI 7 fun k => ((nm k : Nat) : Int)) := (u3 nA hNo).trans hN
      have hi7 : i < 7 := by omega
      have hj7 : j < 7 := by omega
      have h1 := u1' "near" (by decide) (by decide)
      have h2 := u1' "name" (by decide) (by decide)
      have hx : (setv ρ2 "b" (.int (j : Int))) "a" = some (.int (i : Int)) := by simp [setv, u2]
      have hy : (setv ρ2 "b" (.int (j : Int))) "b" = some (.int (j : Int)) := by simp [setv]
      refine ⟨_, h1.trans q1, _, h2.trans q2, _, hx, _, sub_rowI (j := i) hN2 rfl hi7, _, sub_row (f := fun i => .ref (rn i)) (j := nm i) u4.top rfl (hl i hi7), _, h2.trans q2, _, sub_rowI (j := j) hN2 rfl hj7, _, rfl, _, u4.row _ (hl i hi7), _, rfl, Int.natCast_nonneg _,
        by rw [rowV_len, Int.toNat_natCast]; exact hl j hj7, hB _ (hl i hi7), ?_⟩
      rw [Int.toNat_natCast]
      refine hK2 _ _ ⟨u1', hx, u3.upd (hl i hi7), _, u4.setB (i := nm i) (j := nm j) (v := F i j) (hl i hi7), fun a b ha hb => ?_⟩ trivial
      by_cases c : nm a = nm i ∧ nm b = nm j
      · have ea := hinj a i ha hi7 c.1
        have eb := hinj b j hb hj7 c.2
        subst ea; subst eb
        rw [if_pos c, if_pos (by omega)]
      · rw [if_neg c, u5 a b ha hb]
        have hne : ¬ (a = i ∧ b = j) := fun q => c ⟨by rw [q.1], by rw [q.2]⟩
        by_cases d : (a < i ∧ b < sz) ∨ (a = i ∧ b < j)
        · rw [if_pos d, if_pos (by omega)]
        · rw [if_neg d, if_neg (by omega)]
    · rintro ρ2 σ2 ⟨u1, u2, u3, M2, u4, u5⟩
      rw [rng_length, Int.toNat_natCast] at u5
      refine hK1 _ _ ⟨u1, u3, M2, u4, fun a b ha hb => ?_⟩ trivial
      rw [u5 a b ha hb]
      by_cases d : (a < i ∧ b < sz) ∨ (a = i ∧ b < sz)
      · rw [if_pos d, if_pos (by omega)]
      · rw [if_neg d, if_neg (by omega)]
  · rintro ρ1 σ1 ⟨t1, t2, M1, t3, t4⟩
    rw [rng_length, Int.toNat_natCast] at t4
    exact hK _ _ M1 t1 t2 t3 t4
end Mini
end

section
open PySem PyProof.Rows
namespace Mini

theorem name_inj : ∀ s, s < 6 → ∀ t, t < 7 → ∀ j, j < 7 → ∀ k, k < 7 → (j * (1 + s) + t) % 7 = (k * (1 + s) + t) % 7 → j = k := by decide +kernel
theorem name_sur : ∀ s, s < 6 → ∀ t, t < 7 → ∀ x, x < 7 → ∃ k, k < 7 ∧ (k * (1 + s) + t) % 7 = x := by
  intro s hs t ht x hx
  have := nodup_le (l := x :: (List.range 7).map fun k => (k * (1 + s) + t) % 7) (m := List.range 7)
  refine Classical.byContradiction fun hn => ?_
  have := this (List.nodup_cons.mpr ⟨fun hm => ?_, ?_⟩) fun y hy => ?_
  · simp at this
  · obtain ⟨k, hk, e⟩ := List.mem_map.mp hm
    exact hn ⟨k, List.mem_range.mp hk, e⟩
  · refine List.pairwise_map.mpr (List.Pairwise.imp_of_mem (fun {a b} ha hb hab e => hab ?_) List.nodup_range)
    exact name_inj s hs t ht a (List.mem_range.mp ha) b (List.mem_range.mp hb) e
  · rcases List.mem_cons.mp hy with rfl | hy
    · exact List.mem_range.mpr hx
    · obtain ⟨k, _, rfl⟩ := List.mem_map.mp hy
      exact List.mem_range.mpr (Nat.mod_lt _ (by decide))

def growQ : MB := blk [
      .ite (.and (.of (.sub (.sub (.var "grown") (.var "p")) (.var "q"))) (.cmp .Eq (.bin .Mod (.bin .FloorDiv (.bin .FloorDiv (.var "x") (.int 8)) (.bin .Pow (.int 2) (.var "q"))) (.int 2)) (.int 1))) (blk [
        .expr (.call "_law_tie" (.cons (.var "grown") (.cons (.var "q") (.cons (.var "k") (.cons (.bool false) .nil)))))]) (.nil)]
def growB : MB := blk [
    .asg "x" (.bin .Add (.blt .sum (.cons (.slFrom (.var "script") (.bin .Sub (.var "k") (.int 1)) 6) .nil)) (.sub (.glob "_law_SEEDS") (.bin .Sub (.var "k") (.int 1)))),
    .asg "p" (.bin .Mod (.var "x") (.var "k")),
    .expr (.call "_law_tie" (.cons (.var "grown") (.cons (.var "p") (.cons (.var "k") (.cons (.bool false) .nil))))),
    .for_ "q" (.r1 (.var "p")) growQ]
def ringX : ME := .or (.cmp .Eq (.bin .Mod (.bin .Sub (.var "b") (.var "a")) (.var "size")) (.int 1)) (.cmp .Eq (.bin .Mod (.bin .Sub (.var "a") (.var "b")) (.var "size")) (.int 1))
def flipB : MB := blk [
      .expr (.call "_law_tie" (.cons (.var "near") (.cons (.bin .Mod (.var "x") (.int 7)) (.cons (.bin .Mod (.bin .FloorDiv (.var "x") (.int 7)) (.int 7)) (.cons (.bool true) .nil)))))]
def ringS : MS := .ite (.cmp .Eq (.bin .Mod (.var "whole") (.int 2)) (.int 1)) (blk [
    .asg "size" (.bin .Add (.int 4) (.bin .Mod (.bin .FloorDiv (.var "whole") (.int 2)) (.int 4))),
    dblB (.var "size") ringX,
    .for_ "x" (.val (.slTo (.var "script") 1)) flipB]) (.nil)
theorem near_eq : d_law_near = ⟨["script"], blk [
  .asg "whole" (.blt .sum (.cons (.var "script") .nil)),
  .asg "step" (.bin .Add (.int 1) (.bin .Mod (.var "whole") (.int 6))),
  .asg "start" (.bin .Mod (.bin .FloorDiv (.var "whole") (.int 6)) (.int 7)),
  .asg "name" (.comp (.bin .Mod (.bin .Add (.bin .Mult (.var "k") (.var "step")) (.var "start")) (.int 7)) "k" (.r1 (.int 7)) .tt),
  .asg "near" (.comp (.bin .Mult (.list (.cons (.bool false) .nil)) (.int 7)) "a" (.r1 (.int 7)) .tt),
  .asg "grown" (.comp (.bin .Mult (.list (.cons (.bool false) .nil)) (.int 7)) "a" (.r1 (.int 7)) .tt),
  .for_ "k" (.r2 (.int 1) (.int 7)) growB,
  dblB (.int 7) (.sub (.sub (.var "grown") (.var "a")) (.var "b")),
  ringS,
  .ret (.var "near")]⟩ := rfl

structure GV (sa g : Nat) (ρ ρ' : Frm) : Prop where
  same : ∀ x, x ≠ "k" → x ≠ "x" → x ≠ "p" → x ≠ "q" → ρ' x = ρ x
  script : ρ' "script" = some (.ref sa)
  grown : ρ' "grown" = some (.ref g)
theorem GV.setv {sa g : Nat} {ρ ρ' : Frm} (x : GV sa g ρ ρ') {y : String} {v : V} (h : y = "k" ∨ y = "x" ∨ y = "p" ∨ y = "q") : GV sa g ρ (setv ρ' y v) := by
  refine ⟨fun z h1 h2 h3 h4 => ?_, ?_, ?_⟩
  · have : z ≠ y := fun e => by subst e; rcases h with h | h | h | h <;> contradiction
    simp [Mini.setv, this, x.same z h1 h2 h3 h4]
  · have : "script" ≠ y := fun e => by subst e; rcases h with h | h | h | h <;> contradiction
    simp [Mini.setv, this, x.script]
  · have : "grown" ≠ y := fun e => by subst e; rcases h with h | h | h | h <;> contradiction
    simp [Mini.setv, this, x.grown]

structure GS (σa σ : Sto) (g : Nat) (rg : Nat → Nat) : Prop where
  sub : Sub σa σ
  mat : ∃ G : Nat → Nat → Bool, Mat 7 7 σ g rg (fun i j => .bool (G i j)) ∧ SI G
theorem GS.more {σa σ σ' : Sto} {g : Nat} {rg : Nat → Nat} (x : GS σa σ g rg) (h : Sub σ σ') : GS σa σ' g rg := by
  obtain ⟨h1, G, h2, h3⟩ := x
  exact ⟨h1.trans h, G, h2.sub h, h3⟩
theorem GS.tie {B k : Nat} {σa σ : Sto} {g : Nat} {rg : Nat → Nat} (x : GS σa σ g rg) (hr : ∀ i, i < 7 → B ≤ rg i ∧ σa (rg i) = none) {a b : Nat} {tn : Bool} (ha : a < 7) (hb : b < 7) {Q : V → Sto → Prop} (hQ : ∀ σ', GS σa σ' g rg → Q .none σ') :
    Sp B gl0 P0 (k + 1) "_law_tie" [.ref g, .int (a : Int), .int (b : Int), .bool tn] σ Q := by
  obtain ⟨h1, G, h2, h3⟩ := x
  exact tie_spec h2 (fun i hi => (hr i hi).1) ha hb fun σ' m f => hQ _ ⟨f.sub h1 fun i hi => (hr i hi).2, _, m, h3.tie a b tn⟩

theorem grow_walk {B k : Nat} {σa σ : Sto} {sa g i : Nat} {rg : Nat → Nat} {ns : List Int} {ρ ρ₀ : Frm} {K : Fl → Frm → Sto → Prop} (hi : i < 6) (hs : σa sa = some (ns.map .int)) (hr : ∀ i, i < 7 → B ≤ rg i ∧ σa (rg i) = none) (x : GS σa σ g rg) (q : GV sa g ρ₀ ρ)
    (hk : ρ "k" = some (.int ((1 + i : Nat) : Int)))
    (hK : ∀ ρ' σ', GV sa g ρ₀ ρ' → GS σa σ' g rg → K .next ρ' σ') : wpB ⟨B, Sp B gl0 P0 (k + 1), gl0, fun f => (P0 f).isSome⟩ growB ρ σ K := by
  have e1 : ((1 + i : Nat) : Int) - 1 = (i : Int) := by omega
  simp only [wpB, wpS, wpE, wpT, wpI, wpEs, blk, bindF, wpBin_int, binV, setv, endF, V.ref.injEq, V.int.injEq, V.bool.injEq, V.tupI.injEq, Option.some.injEq, exists_eq_left', exists_eq_left, exists_and_left, String.reduceEq, if_true, if_false, reduceIte, true_and, and_true, decide_true, decide_false, Bool.false_eq_true, Bool.not_true, Bool.not_false, Int.reduceLE, Int.reduceToNat, Int.reducePow, Nat.reducePow, c_lt, c_gt, c_le, c_ge, c_eq, c_ne, c_is, c_isnot, t_bool, t_ref, n_none, n_ref, cmp_pr, decide_eq_true_eq, Bool.not_eq_true', decide_eq_false_iff_not, b_len, b_sum, b_max, b_min, b_max2, b_min2, b_sorted, b_list, b_listT, b_abs, Int.reduceEq, reduceCtorEq, or_self, or_false, false_or, sm2, sm5, sm6, sm7, sm8, sm36, m_pop, m_append, m_remove, w_addR, w_mulR, growB, q.script, q.grown, hk, e1]
  refine ⟨_, x.sub _ _ hs, _, ints_map ns, by decide, fun ms hms b hbB hbn => ?_⟩
  have x1 := x.more (Sub.new (xs := ms.map V.int) hbn)
  have hb1 := upd_at σ b (ms.map V.int)
  generalize upd σ b (ms.map V.int) = σ1 at x1 hb1
  dsimp only
  rw [b_sum]
  refine ⟨_, _, hb1, ints_map ms, _, rfl, ?_⟩
  generalize ms.sum = y
  have hseed : ∃ z : Int, subV σ1 (.tupI [11, 29, 54, 77, 202, 465]) (.int (i : Int)) = some (.int z) := by
    have h6 : i = 0 ∨ i = 1 ∨ i = 2 ∨ i = 3 ∨ i = 4 ∨ i = 5 := by omega
    rcases h6 with rfl | rfl | rfl | rfl | rfl | rfl <;> exact ⟨_, rfl⟩
  obtain ⟨z, hz⟩ := hseed
  refine ⟨_, hz, ?_⟩
  rw [wpBin_int]
  refine ⟨_, rfl, ?_⟩
  rw [wpBin_int]
  obtain ⟨p, hp, ep⟩ := modn (y + z) (n := 1 + i) (by omega)
  have ep2 : binV .Mod (.int (y + z)) (.int ((1 + i : Nat) : Int)) = some (.int (p : Int)) := by
    simp only [binV]
    rw [if_neg (by omega), ep]
  refine ⟨_, ep2, rfl, ?_⟩
  generalize y + z = xx
  refine x1.tie hr (by omega) (by omega) fun σ2 x2 => ⟨rfl, (p : Int), rfl, by unfold small; simp; omega, ?_⟩
  rw [Int.toNat_natCast]
  refine forL_ind (fun j ρ σ' => GV sa g ρ₀ ρ ∧ GS σa σ' g rg ∧ ρ "k" = some (.int ((1 + i : Nat) : Int)) ∧ ρ "x" = some (.int xx) ∧ ρ "p" = some (.int (p : Int))) ?_
    ⟨(q.setv (by simp)).setv (by simp), x2, by simp [setv, hk], by simp [setv], by simp [setv]⟩ ?_
  · rintro j v ρ1 σ3 K1 hv ⟨t1, t2, t3, t4, t5⟩ hK1 _ _ _
    obtain ⟨hj, rfl⟩ := rng_get hv
    rw [Int.zero_add]
    have hnext : ∀ σ', GS σa σ' g rg → K1 .next (setv ρ1 "q" (.int (j : Int))) σ' := fun σ' h => hK1 _ _ ⟨t1.setv (by simp), h, by simp [setv, t3], by simp [setv, t4], by simp [setv, t5]⟩ trivial
    have t2' := t2
    obtain ⟨_, G, mG, _⟩ := t2'
    have hp7 : p < 7 := by omega
    have hj7 : j < 7 := by omega
    have f1 : subV σ3 (.ref g) (.int (p : Int)) = some (.ref (rg p)) := sub_row (f := fun i => .ref (rg i)) mG.top rfl hp7
    have f2 : subV σ3 (.ref (rg p)) (.int (j : Int)) = some (.bool (G p j)) := sub_row (f := fun j => .bool (G p j)) (mG.row p hp7) rfl hj7
    simp only [wpB, wpS, wpE, wpT, wpI, wpEs, blk, bindF, wpBin_int, binV, setv, endF, V.ref.injEq, V.int.injEq, V.bool.injEq, V.tupI.injEq, Option.some.injEq, exists_eq_left', exists_eq_left, exists_and_left, String.reduceEq, if_true, if_false, reduceIte, true_and, and_true, decide_true, decide_false, Bool.false_eq_true, Bool.not_true, Bool.not_false, Int.reduceLE, Int.reduceToNat, Int.reducePow, Nat.reducePow, c_lt, c_gt, c_le, c_ge, c_eq, c_ne, c_is, c_isnot, t_bool, t_ref, n_none, n_ref, cmp_pr, decide_eq_true_eq, Bool.not_eq_true', decide_eq_false_iff_not, b_len, b_sum, b_max, b_min, b_max2, b_min2, b_sorted, b_list, b_listT, b_abs, Int.reduceEq, reduceCtorEq, or_self, or_false, false_or, sm2, sm5, sm6, sm7, sm8, sm36, m_pop, m_append, m_remove, w_addR, w_mulR, growQ, t1.grown, t3, t4, t5, f1, f2]
    by_cases c : G p j = true
    · rw [if_pos c]
      have hpw : (if 0 ≤ (j : Int) ∧ (j : Int) ≤ 1000 then some (V.int (2 ^ (j : Int).toNat)) else none) = some (.int ((2 ^ j : Nat) : Int)) := by
        rw [if_pos (by omega)]
        simp
      refine ⟨_, hpw, ?_⟩
      rw [wpBin_int]
      refine ⟨_, bin_fdiv _ j (by omega), ?_⟩
      rw [wpBin_int]
      refine ⟨_, bin_mod2 _, _, rfl, ?_⟩
      by_cases c2 : ((((xx.fdiv 8).fdiv (2 ^ j)).fmod 2) == 1) = true
      · rw [if_pos c2]
        exact ⟨rfl, t2.tie hr hj7 (by omega) fun σ4 x4 => ⟨rfl, hnext _ x4⟩⟩
      · rw [if_neg c2]
        exact hnext _ t2
    · rw [if_neg c]
      exact hnext _ t2
  · rintro ρ1 σ3 ⟨t1, t2, t3, t4, t5⟩
    exact hK _ _ t1 t2

theorem blank_walk {B : Nat} {σ : Sto} {Q : V → Sto → Prop} (hQ : ∀ l r σ', Sub σ σ' → Mat 7 7 σ' l r (fun _ _ => .bool false) → (∀ i, i < 7 → B ≤ r i ∧ σ (r i) = none) → σ l = none → Q (.ref l) σ') :
    (rng 0 7).length ≤ LIM ∧ compL (fun _ σ acc K => [V.bool false].length ≤ LIM ∧ alloc B σ [V.bool false] fun a σ1 => wpBin B Operator.Mult a (V.int 7) σ1 fun w σ'' => K σ'' (acc ++ [w])) (stable none (rng 0 7)) (fun σ2 acc => alloc B σ2 acc Q) (rng 0 7) σ [] := by
  refine ⟨by rw [rng_length]; decide, ?_⟩
  refine compL_ind (fun i σ' acc => ∃ r, Made i 7 B σ σ' acc (fun _ _ => .bool false) r) ?_ ⟨_, Made.start⟩ ?_
  · rintro i v σ' acc K hv ⟨r, m⟩ hK
    refine ⟨by simp [LIM], fun a haB han => ?_⟩
    simp only [wpB, wpS, wpE, wpT, wpI, wpEs, blk, bindF, wpBin_int, binV, setv, endF, V.ref.injEq, V.int.injEq, V.bool.injEq, V.tupI.injEq, Option.some.injEq, exists_eq_left', exists_eq_left, exists_and_left, String.reduceEq, if_true, if_false, reduceIte, true_and, and_true, decide_true, decide_false, Bool.false_eq_true, Bool.not_true, Bool.not_false, Int.reduceLE, Int.reduceToNat, Int.reducePow, Nat.reducePow, c_lt, c_gt, c_le, c_ge, c_eq, c_ne, c_is, c_isnot, t_bool, t_ref, n_none, n_ref, cmp_pr, decide_eq_true_eq, Bool.not_eq_true', decide_eq_false_iff_not, b_len, b_sum, b_max, b_min, b_max2, b_min2, b_sorted, b_list, b_listT, b_abs, Int.reduceEq, reduceCtorEq, or_self, or_false, false_or, sm2, sm5, sm6, sm7, sm8, sm36, m_pop, m_append, m_remove, w_addR, w_mulR, upd_at]
    refine ⟨by simp, fun b hbB hbn => ?_⟩
    exact hK _ _ ⟨_, m.step (.new han) hbB hbn⟩ trivial
  · rintro σ1 acc ⟨r, m⟩
    rw [rng_length] at m
    have m : Made 7 7 B σ σ1 acc (fun _ _ => .bool false) r := m
    intro l hlB hln
    exact hQ l r _ (m.sub.trans (.new hln)) (m.mat hln) m.new (m.sub.none hln)

def ringF (sz a b : Nat) : Bool := (((b : Int) - (a : Int)).fmod (sz : Int) == 1) || (((a : Int) - (b : Int)).fmod (sz : Int) == 1)
theorem ringF_sym (sz a b : Nat) : ringF sz a b = ringF sz b a := by unfold ringF; rw [Bool.or_comm]
theorem ringF_irr (sz a : Nat) : ringF sz a a = false := by unfold ringF; rw [Int.sub_self, Int.zero_fmod]; rfl

theorem SI.of {M F : Nat → Nat → Bool} {nm : Nat → Nat} (hs : ∀ x, x < 7 → ∃ k, k < 7 ∧ nm k = x) (h : ∀ a b, a < 7 → b < 7 → M (nm a) (nm b) = F a b) (f : SI F) : SI M := by
  refine ⟨fun a b ha hb => ?_, fun a ha => ?_⟩
  · obtain ⟨i, hi, rfl⟩ := hs a ha
    obtain ⟨j, hj, rfl⟩ := hs b hb
    rw [h i j hi hj, h j i hj hi]
    exact f.sym i j hi hj
  · obtain ⟨i, hi, rfl⟩ := hs a ha
    rw [h i i hi hi]
    exact f.irr i hi

theorem ring_walkS {B k : Nat} {σ₀ σ : Sto} {sa n nA : Nat} {rn nm : Nat → Nat} {ns : List Int} {whole : Int} {M : Nat → Nat → Bool} {ρ : Frm} {K : Fl → Frm → Sto → Prop} (hs : σ₀ sa = some (ns.map .int)) (hsub : Sub σ₀ σ) (hr : ∀ i, i < 7 → B ≤ rn i ∧ σ₀ (rn i) = none)
    (hM : Mat 7 7 σ n rn fun i j => .bool (M i j)) (hS : SI M) (hN : σ nA = some (rowI 7 fun k => ((nm k : Nat) : Int))) (hNo : ∀ i, i < 7 → nA ≠ rn i) (hl : ∀ k, k < 7 → nm k < 7) (hinj : ∀ j k, j < 7 → k < 7 → nm j = nm k → j = k) (hsur : ∀ x, x < 7 → ∃ k, k < 7 ∧ nm k = x)
    (q1 : ρ "near" = some (.ref n)) (q2 : ρ "name" = some (.ref nA)) (q3 : ρ "whole" = some (.int whole)) (q4 : ρ "script" = some (.ref sa))
    (hK : ∀ ρ' σ' M', Sub σ₀ σ' → Mat 7 7 σ' n rn (fun i j => .bool (M' i j)) → SI M' → ρ' "near" = some (.ref n) → K .next ρ' σ') :
    wpS ⟨B, Sp B gl0 P0 (k + 1), gl0, fun f => (P0 f).isSome⟩ ringS ρ σ K := by
  simp only [wpB, wpS, wpE, wpT, wpI, wpEs, blk, bindF, wpBin_int, binV, setv, endF, V.ref.injEq, V.int.injEq, V.bool.injEq, V.tupI.injEq, Option.some.injEq, exists_eq_left', exists_eq_left, exists_and_left, String.reduceEq, if_true, if_false, reduceIte, true_and, and_true, decide_true, decide_false, Bool.false_eq_true, Bool.not_true, Bool.not_false, Int.reduceLE, Int.reduceToNat, Int.reducePow, Nat.reducePow, c_lt, c_gt, c_le, c_ge, c_eq, c_ne, c_is, c_isnot, t_bool, t_ref, n_none, n_ref, cmp_pr, decide_eq_true_eq, Bool.not_eq_true', decide_eq_false_iff_not, b_len, b_sum, b_max, b_min, b_max2, b_min2, b_sorted, b_list, b_listT, b_abs, Int.reduceEq, reduceCtorEq, or_self, or_false, false_or, sm2, sm5, sm6, sm7, sm8, sm36, m_pop, m_append, m_remove, w_addR, w_mulR, ringS, q1, q2, q3, q4]
  by_cases c : (whole.fmod 2 == 1) = true
  · rw [if_pos c]
    obtain ⟨z, hz4, ez⟩ := modn (whole.fdiv 2) (n := 4) (by omega)
    have ez : (whole.fdiv 2).fmod 4 = (z : Int) := ez
    have esz : 4 + (whole.fdiv 2).fmod 4 = ((4 + z : Nat) : Int) := by omega
    rw [esz]
    have hsz : 4 + z ≤ 7 := by omega
    have hsz0 : ¬ (((4 + z : Nat) : Int) = 0) := by omega
    generalize 4 + z = sz at hsz hsz0
    refine dbl_walk (sz := sz) (F := ringF sz) hsz (fun ρ' σ' Q h hQ => ?_) (fun ρ' σ' a b Q h f ha hb h1 h2 hQ => ?_) hM (fun i hi => (hr i hi).1) hN hNo hl hinj (by simp [setv, q1]) (by simp [setv, q2]) (fun ρ' σ' M' h f m hm => ?_)
    · have h3 : ρ' "size" = some (.int (sz : Int)) := (h "size" (by decide) (by decide)).trans (by simp [setv])
      simp only [wpB, wpS, wpE, wpT, wpI, wpEs, blk, bindF, wpBin_int, binV, setv, endF, V.ref.injEq, V.int.injEq, V.bool.injEq, V.tupI.injEq, Option.some.injEq, exists_eq_left', exists_eq_left, exists_and_left, String.reduceEq, if_true, if_false, reduceIte, true_and, and_true, decide_true, decide_false, Bool.false_eq_true, Bool.not_true, Bool.not_false, Int.reduceLE, Int.reduceToNat, Int.reducePow, Nat.reducePow, c_lt, c_gt, c_le, c_ge, c_eq, c_ne, c_is, c_isnot, t_bool, t_ref, n_none, n_ref, cmp_pr, decide_eq_true_eq, Bool.not_eq_true', decide_eq_false_iff_not, b_len, b_sum, b_max, b_min, b_max2, b_min2, b_sorted, b_list, b_listT, b_abs, Int.reduceEq, reduceCtorEq, or_self, or_false, false_or, sm2, sm5, sm6, sm7, sm8, sm36, m_pop, m_append, m_remove, w_addR, w_mulR, h3]
      exact hQ
    · have h3 : ρ' "size" = some (.int (sz : Int)) := (h "size" (by decide) (by decide)).trans (by simp [setv])
      simp only [wpB, wpS, wpE, wpT, wpI, wpEs, blk, bindF, wpBin_int, binV, setv, endF, V.ref.injEq, V.int.injEq, V.bool.injEq, V.tupI.injEq, Option.some.injEq, exists_eq_left', exists_eq_left, exists_and_left, String.reduceEq, if_true, if_false, reduceIte, true_and, and_true, decide_true, decide_false, Bool.false_eq_true, Bool.not_true, Bool.not_false, Int.reduceLE, Int.reduceToNat, Int.reducePow, Nat.reducePow, c_lt, c_gt, c_le, c_ge, c_eq, c_ne, c_is, c_isnot, t_bool, t_ref, n_none, n_ref, cmp_pr, decide_eq_true_eq, Bool.not_eq_true', decide_eq_false_iff_not, b_len, b_sum, b_max, b_min, b_max2, b_min2, b_sorted, b_list, b_listT, b_abs, Int.reduceEq, reduceCtorEq, or_self, or_false, false_or, sm2, sm5, sm6, sm7, sm8, sm36, m_pop, m_append, m_remove, w_addR, w_mulR, ringX, h1, h2, h3, hsz0]
      unfold ringF at hQ
      by_cases d : (((b : Int) - (a : Int)).fmod (sz : Int) == 1) = true
      · rw [d, Bool.true_or] at hQ
        rw [if_pos d, d]
        exact hQ
      · rw [if_neg d]
        have d' : (((b : Int) - (a : Int)).fmod (sz : Int) == 1) = false := by simpa using d
        rw [d', Bool.false_or] at hQ
        exact hQ
    · have hS' : SI M' := SI.of hsur hm ⟨fun a b ha hb => by
        by_cases d : a < sz ∧ b < sz
        · rw [if_pos d, if_pos ⟨d.2, d.1⟩]; exact ringF_sym sz a b
        · rw [if_neg d, if_neg (fun q => d ⟨q.2, q.1⟩)]; exact hS.sym _ _ (hl a ha) (hl b hb), fun a ha => by
        split
        · exact ringF_irr sz a
        · exact hS.irr _ (hl a ha)⟩
      have h4 : ρ' "script" = some (.ref sa) := (h "script" (by decide) (by decide)).trans (by simp [setv, q4])
      have h5 : ρ' "near" = some (.ref n) := (h "near" (by decide) (by decide)).trans (by simp [setv, q1])
      have hsub' : Sub σ₀ σ' := f.sub hsub fun i hi => (hr i hi).2
      dsimp only
      refine ⟨_, h4, sa, rfl, _, hsub' _ _ hs, _, ints_map ns, fun ms hms b hbB hbn => ⟨b, rfl, _, upd_at .., ?_⟩⟩
      have hsub2 := hsub'.trans (Sub.new (xs := ms.map V.int) hbn)
      have m2 := m.sub (Sub.new (xs := ms.map V.int) hbn)
      have hb2 := upd_at σ' b (ms.map V.int)
      have hbr : ∀ i, i < 7 → b ≠ rn i := fun i hi => Ne.symm (ne_of_none hbn (m.row i hi))
      generalize upd σ' b (ms.map V.int) = σ2 at hsub2 m2 hb2
      refine forL_ind (fun i ρ' σ' => Sub σ₀ σ' ∧ σ' b = some (ms.map .int) ∧ (∃ M', Mat 7 7 σ' n rn (fun i j => .bool (M' i j)) ∧ SI M') ∧ ρ' "near" = some (.ref n)) ?_ ⟨hsub2, hb2, ⟨M', m2, hS'⟩, h5⟩ ?_
      · rintro i v ρ1 σ3 K1 hv ⟨t1, t2, ⟨M3, t3, t4⟩, t5⟩ hK1 _ _ _
        have hx : ∃ x : Int, v = .int x := by
          rw [List.getElem?_map] at hv
          obtain ⟨x, _, e⟩ := Option.map_eq_some_iff.mp hv
          exact ⟨x, e.symm⟩
        obtain ⟨x, rfl⟩ := hx
        obtain ⟨a1, ha1, ea1⟩ := modn x (n := 7) (by omega)
        obtain ⟨b1, hb1, eb1⟩ := modn (x.fdiv 7) (n := 7) (by omega)
        have ea1 : x.fmod 7 = (a1 : Int) := ea1
        have eb1 : (x.fdiv 7).fmod 7 = (b1 : Int) := eb1
        simp only [wpB, wpS, wpE, wpT, wpI, wpEs, blk, bindF, wpBin_int, binV, setv, endF, V.ref.injEq, V.int.injEq, V.bool.injEq, V.tupI.injEq, Option.some.injEq, exists_eq_left', exists_eq_left, exists_and_left, String.reduceEq, if_true, if_false, reduceIte, true_and, and_true, decide_true, decide_false, Bool.false_eq_true, Bool.not_true, Bool.not_false, Int.reduceLE, Int.reduceToNat, Int.reducePow, Nat.reducePow, c_lt, c_gt, c_le, c_ge, c_eq, c_ne, c_is, c_isnot, t_bool, t_ref, n_none, n_ref, cmp_pr, decide_eq_true_eq, Bool.not_eq_true', decide_eq_false_iff_not, b_len, b_sum, b_max, b_min, b_max2, b_min2, b_sorted, b_list, b_listT, b_abs, Int.reduceEq, reduceCtorEq, or_self, or_false, false_or, sm2, sm5, sm6, sm7, sm8, sm36, m_pop, m_append, m_remove, w_addR, w_mulR, flipB, t5, eb1]
        simp only [wpB, wpS, wpE, wpT, wpI, wpEs, blk, bindF, wpBin_int, binV, setv, endF, V.ref.injEq, V.int.injEq, V.bool.injEq, V.tupI.injEq, Option.some.injEq, exists_eq_left', exists_eq_left, exists_and_left, String.reduceEq, if_true, if_false, reduceIte, true_and, and_true, decide_true, decide_false, Bool.false_eq_true, Bool.not_true, Bool.not_false, Int.reduceLE, Int.reduceToNat, Int.reducePow, Nat.reducePow, c_lt, c_gt, c_le, c_ge, c_eq, c_ne, c_is, c_isnot, t_bool, t_ref, n_none, n_ref, cmp_pr, decide_eq_true_eq, Bool.not_eq_true', decide_eq_false_iff_not, b_len, b_sum, b_max, b_min, b_max2, b_min2, b_sorted, b_list, b_listT, b_abs, Int.reduceEq, reduceCtorEq, or_self, or_false, false_or, sm2, sm5, sm6, sm7, sm8, sm36, m_pop, m_append, m_remove, w_addR, w_mulR, ea1]
        refine ⟨rfl, ?_⟩
        refine tie_spec t3 (fun i hi => (hr i hi).1) ha1 hb1 fun σ4 m4 f4 => ⟨rfl, ?_⟩
        have g2 : σ4 b = some (ms.map V.int) := (f4 b hbr).trans t2
        exact hK1 _ _ ⟨f4.sub t1 fun i hi => (hr i hi).2, g2, ⟨_, m4, t4.tie a1 b1 true⟩, by simp [setv, t5]⟩ g2
      · rintro ρ1 σ3 ⟨t1, t2, ⟨M3, t3, t4⟩, t5⟩
        exact hK _ _ M3 t1 t3 t4 t5
  · rw [if_neg c]
    exact hK _ _ M hsub hM hS q1

set_option maxRecDepth 100000 in
set_option maxHeartbeats 2000000 in
theorem near_spec {B k : Nat} {σ : Sto} {sa : Nat} {ns : List Int} (hs : σ sa = some (ns.map .int)) (hlen : ns.length ≤ 63)
    {Q : V → Sto → Prop} (hQ : ∀ σ' l r M, Sub σ σ' → Mat 7 7 σ' l r (fun i j => .bool (M i j)) → SI M → Q (.ref l) σ') : Sp B gl0 P0 (k + 2) "_law_near" [.ref sa] σ Q := by
  refine ⟨_, rfl, rfl, ?_⟩
  rw [near_eq]
  simp only [wpB, wpS, wpE, wpT, wpI, wpEs, blk, bindF, wpBin_int, binV, setv, endF, V.ref.injEq, V.int.injEq, V.bool.injEq, V.tupI.injEq, Option.some.injEq, exists_eq_left', exists_eq_left, exists_and_left, String.reduceEq, if_true, if_false, reduceIte, true_and, and_true, decide_true, decide_false, Bool.false_eq_true, Bool.not_true, Bool.not_false, Int.reduceLE, Int.reduceToNat, Int.reducePow, Nat.reducePow, c_lt, c_gt, c_le, c_ge, c_eq, c_ne, c_is, c_isnot, t_bool, t_ref, n_none, n_ref, cmp_pr, decide_eq_true_eq, Bool.not_eq_true', decide_eq_false_iff_not, b_len, b_sum, b_max, b_min, b_max2, b_min2, b_sorted, b_list, b_listT, b_abs, Int.reduceEq, reduceCtorEq, or_self, or_false, false_or, sm2, sm5, sm6, sm7, sm8, sm36, m_pop, m_append, m_remove, w_addR, w_mulR]
  refine ⟨_, hs, _, ints_map ns, ?_⟩
  generalize ns.sum = whole
  obtain ⟨s, hs6, es⟩ := modn whole (n := 6) (by omega)
  obtain ⟨t, ht7, et⟩ := modn (whole.fdiv 6) (n := 7) (by omega)
  have es : whole.fmod 6 = (s : Int) := es
  have et : (whole.fdiv 6).fmod 7 = (t : Int) := et
  rw [es, et]
  refine ⟨by rw [rng_length]; decide, ?_⟩
  refine compL_flat (gInt fun k => (((k * (1 + s) + t) % 7 : Nat) : Int)) (fun v hv acc K' hK' => ?_) trivial ?_
  · obtain ⟨j, hj⟩ := List.getElem?_of_mem hv
    obtain ⟨hj7, rfl⟩ := rng_get hj
    have hj7 : j < 7 := hj7
    rw [Int.zero_add] at hK' ⊢
    rw [wpBin_int]
    have e1 : binV .Mult (.int (j : Int)) (.int (1 + (s : Int))) = some (.int ((j * (1 + s) : Nat) : Int)) := by
      simp only [binV]
      rw [if_pos (by unfold small; simp; omega)]
      simp
    refine ⟨_, e1, ?_⟩
    rw [wpBin_int]
    refine ⟨_, bin_add _ _, ?_⟩
    rw [wpBin_int]
    have e2 : binV .Mod (.int ((j * (1 + s) + t : Nat) : Int)) (.int 7) = some (.int (((j * (1 + s) + t) % 7 : Nat) : Int)) := by
      simp only [binV]
      rw [if_neg (by decide), Int.fmod_eq_emod_of_nonneg _ (by decide)]
      rfl
    exact ⟨_, e2, hK'⟩
  · rw [List.nil_append, rng_natL, flat_ints]
    have e3 : (((List.range 7).map fun k => (((k * (1 + s) + t) % 7 : Nat) : Int)).map V.int) = rowI 7 fun k => (((k * (1 + s) + t) % 7 : Nat) : Int) := by
      unfold rowI rowV
      rw [List.map_map]
      rfl
    rw [e3]
    have hl : ∀ k, k < 7 → (k * (1 + s) + t) % 7 < 7 := fun k _ => Nat.mod_lt _ (by decide)
    have hinj : ∀ j k, j < 7 → k < 7 → (j * (1 + s) + t) % 7 = (k * (1 + s) + t) % 7 → j = k := fun j k hj hk => name_inj s hs6 t ht7 j hj k hk
    have hsur := name_sur s hs6 t ht7
    generalize hnm : (fun k => (k * (1 + s) + t) % 7) = nm
    have hnm' : ∀ k, (k * (1 + s) + t) % 7 = nm k := fun k => by rw [← hnm]
    simp only [hnm'] at hl hinj hsur ⊢
    intro nA hnB hnn
    have s1 : Sub σ (upd σ nA (rowI 7 fun k => ((nm k : Nat) : Int))) := .new hnn
    have hn1 := upd_at σ nA (rowI 7 fun k => ((nm k : Nat) : Int))
    generalize upd σ nA (rowI 7 fun k => ((nm k : Nat) : Int)) = σ1 at s1 hn1
    refine blank_walk fun n rn σ2 s2 m2 hr2 _ => ?_
    refine blank_walk fun g rg σ3 s3 m3 hr3 hg3 => ⟨rfl, ?_⟩
    have hNo : ∀ i, i < 7 → nA ≠ rn i := fun i hi => ne_of_none (hr2 i hi).2 hn1
    refine forL_ind (fun i ρ σ' => GV sa g (setv (setv (setv (setv (setv (setv (setv (fun x => none) "script" (V.ref sa)) "whole" (V.int whole)) "step" (V.int (1 + (s : Int)))) "start" (V.int (t : Int))) "name" (.ref nA)) "near" (.ref n)) "grown" (.ref g)) ρ ∧ GS σ2 σ' g rg) ?_
      ⟨⟨fun _ _ _ _ _ => rfl, rfl, rfl⟩, ⟨s3, _, m3, fun _ _ _ _ => rfl, fun _ _ => rfl⟩⟩ ?_
    · rintro i v ρ σ4 K hv ⟨t1, t2⟩ hK _ _ _
      obtain ⟨hi, rfl⟩ := rng_get hv
      have hi : i < 6 := hi
      have ek : (1 + (i : Int)) = ((1 + i : Nat) : Int) := by omega
      rw [ek]
      exact grow_walk hi (s2 _ _ (s1 _ _ hs)) hr3 t2 (t1.setv (by simp)) (by simp [setv]) fun ρ' σ' h1 h2 => hK _ _ ⟨h1, h2⟩ trivial
    · rintro ρ σ4 ⟨t1, t2⟩
      obtain ⟨t2, G, mG, hG⟩ := t2
      have q1 : ρ "near" = some (.ref n) := (t1.same "near" (by decide) (by decide) (by decide) (by decide)).trans (by simp [setv])
      have q2 : ρ "name" = some (.ref nA) := (t1.same "name" (by decide) (by decide) (by decide) (by decide)).trans (by simp [setv])
      have q3 : ρ "whole" = some (.int whole) := (t1.same "whole" (by decide) (by decide) (by decide) (by decide)).trans (by simp [setv])
      have q4 := t1.script
      have q5 := t1.grown
      have hn4 := t2 _ _ (s2 _ _ hn1)
      have hr0 : ∀ i, i < 7 → B ≤ rn i ∧ σ (rn i) = none := fun i hi => ⟨(hr2 i hi).1, s1.none (hr2 i hi).2⟩
      have hgr : ∀ i, i < 7 → g ≠ rn i := fun i hi => Ne.symm (ne_of_none hg3 (m2.row i hi))
      have hrr : ∀ i j, i < 7 → j < 7 → rg j ≠ rn i := fun i j hi hj e => by
        have := (hr3 j hj).2
        rw [e, m2.row i hi] at this
        cases this
      dsimp only
      refine dbl_walk (sz := 7) (F := G) (Nat.le_refl _) (fun ρ' σ' Q h hQ => ?_) (fun ρ' σ' a b Q h f ha hb h1 h2 hQ => ?_) (m2.sub t2) (fun i hi => (hr2 i hi).1) hn4 hNo hl hinj q1 q2 (fun ρ' σ' M' h f m hm => ?_)
      · simp only [wpB, wpS, wpE, wpT, wpI, wpEs, blk, bindF, wpBin_int, binV, setv, endF, V.ref.injEq, V.int.injEq, V.bool.injEq, V.tupI.injEq, Option.some.injEq, exists_eq_left', exists_eq_left, exists_and_left, String.reduceEq, if_true, if_false, reduceIte, true_and, and_true, decide_true, decide_false, Bool.false_eq_true, Bool.not_true, Bool.not_false, Int.reduceLE, Int.reduceToNat, Int.reducePow, Nat.reducePow, c_lt, c_gt, c_le, c_ge, c_eq, c_ne, c_is, c_isnot, t_bool, t_ref, n_none, n_ref, cmp_pr, decide_eq_true_eq, Bool.not_eq_true', decide_eq_false_iff_not, b_len, b_sum, b_max, b_min, b_max2, b_min2, b_sorted, b_list, b_listT, b_abs, Int.reduceEq, reduceCtorEq, or_self, or_false, false_or, sm2, sm5, sm6, sm7, sm8, sm36, m_pop, m_append, m_remove, w_addR, w_mulR]
        exact hQ
      · have h3 : ρ' "grown" = some (.ref g) := (h "grown" (by decide) (by decide)).trans q5
        have mG' := mG.same (f g hgr) fun j hj => f (rg j) fun i hi => hrr i j hi hj
        have f1 : subV σ' (.ref g) (.int (a : Int)) = some (.ref (rg a)) := sub_row (f := fun i => .ref (rg i)) mG'.top rfl ha
        have f2 : subV σ' (.ref (rg a)) (.int (b : Int)) = some (.bool (G a b)) := sub_row (f := fun j => .bool (G a j)) (mG'.row a ha) rfl hb
        simp only [wpB, wpS, wpE, wpT, wpI, wpEs, blk, bindF, wpBin_int, binV, setv, endF, V.ref.injEq, V.int.injEq, V.bool.injEq, V.tupI.injEq, Option.some.injEq, exists_eq_left', exists_eq_left, exists_and_left, String.reduceEq, if_true, if_false, reduceIte, true_and, and_true, decide_true, decide_false, Bool.false_eq_true, Bool.not_true, Bool.not_false, Int.reduceLE, Int.reduceToNat, Int.reducePow, Nat.reducePow, c_lt, c_gt, c_le, c_ge, c_eq, c_ne, c_is, c_isnot, t_bool, t_ref, n_none, n_ref, cmp_pr, decide_eq_true_eq, Bool.not_eq_true', decide_eq_false_iff_not, b_len, b_sum, b_max, b_min, b_max2, b_min2, b_sorted, b_list, b_listT, b_abs, Int.reduceEq, reduceCtorEq, or_self, or_false, false_or, sm2, sm5, sm6, sm7, sm8, sm36, m_pop, m_append, m_remove, w_addR, w_mulR, h1, h2, h3, f1, f2]
        exact hQ
      · have hS' : SI M' := SI.of hsur (fun a b ha hb => (hm a b ha hb).trans (if_pos ⟨ha, hb⟩)) hG
        have s24 : Sub σ σ4 := (s1.trans s2).trans t2
        dsimp only
        refine ring_walkS (σ₀ := σ) (nA := nA) (nm := nm) hs (f.sub s24 fun i hi => (hr0 i hi).2) hr0 m hS' ((f nA hNo).trans hn4) hNo hl hinj hsur ((h "near" (by decide) (by decide)).trans q1) ((h "name" (by decide) (by decide)).trans q2) ((h "whole" (by decide) (by decide)).trans q3) ((h "script" (by decide) (by decide)).trans q4) fun ρ2 σ6 M2 z1 z2 z3 z4 => ?_
        exact ⟨_, z4, hQ _ _ _ _ z1 z2 z3⟩
end Mini
end

section
open PySem PyProof.Rows
namespace Mini

def Mc (E : Nat → Nat → Bool) (os : List Nat) : Prop := ∀ pre u post, os = pre ++ u :: post → ∀ w, w < 7 → w ∉ pre → pre.countP (fun d => E d w) ≤ pre.countP (fun d => E d u)

section
variable {E : Nat → Nat → Bool} {os : List Nat} {u : Nat} {c : Nat → Int} {ps : List Int}

theorem Mc.nil : Mc E [] := fun pre u post h => by simp at h
theorem Mc.snoc (m : Mc E os) (h : ∀ w, w < 7 → w ∉ os → os.countP (fun d => E d w) ≤ os.countP (fun d => E d u)) : Mc E (os ++ [u]) := by
  intro pre x post e
  rcases List.eq_nil_or_concat post with rfl | ⟨post', y, rfl⟩
  · obtain ⟨e1, e2⟩ := List.append_inj' e rfl
    subst e1
    cases e2
    exact h
  · rw [List.concat_eq_append, ← List.cons_append, ← List.append_assoc] at e
    obtain ⟨e1, _⟩ := List.append_inj' e rfl
    exact m pre x post' e1

/-- what the visits keep -/
structure OrI (E : Nat → Nat → Bool) (os : List Nat) (c : Nat → Int) (ps : List Int) : Prop where
  nd : os.Nodup
  lt : ∀ v, v ∈ os → v < 7
  mc : Mc E os
  cnt : ∀ v, v < 7 → v ∉ os → c v = ((os.countP fun d => E d v : Nat) : Int)
  ent : ∀ k, k ∈ ps → ∃ v : Nat, ∃ c' : Int, v < 7 ∧ k = 7 * c' + (v : Int) ∧ (v ∉ os → c' ≤ c v)
  has : ∀ v : Nat, v < 7 → v ∉ os → 7 * c v + (v : Int) ∈ ps

/-- within the visit of u -/
structure OrV (E : Nat → Nat → Bool) (os : List Nat) (u : Nat) (c : Nat → Int) (i : Nat) (c' : Nat → Int) (ps : List Int) : Prop where
  cc : ∀ v, v < 7 → c' v = if v < i ∧ E u v = true ∧ v ∉ os ++ [u] then c v + 1 else c v
  ent : ∀ k, k ∈ ps → ∃ v : Nat, ∃ d : Int, v < 7 ∧ k = 7 * d + (v : Int) ∧ (v ∉ os ++ [u] → d ≤ c' v)
  has : ∀ v : Nat, v < 7 → v ∉ os ++ [u] → 7 * c' v + (v : Int) ∈ ps

theorem OrI.len (x : OrI E os c ps) : os.length ≤ 7 := by
  have := nodup_le (m := List.range 7) x.nd fun v hv => List.mem_range.mpr (x.lt v hv)
  simpa using this

theorem OrI.stale (x : OrI E os c ps) {d : Int} (h : u ∈ os ∨ d ≠ c u) (hu : u < 7) : OrI E os c (ps.erase (7 * d + (u : Int))) := by
  refine ⟨x.nd, x.lt, x.mc, x.cnt, fun k hk => x.ent k (List.mem_of_mem_erase hk), fun v hv hn => ?_⟩
  refine (List.mem_erase_of_ne fun e => ?_).mpr (x.has v hv hn)
  have ev : v = u := by omega
  subst ev
  rcases h with h | h
  · exact hn h
  · omega

theorem OrI.visit (x : OrI E os c ps) (hu : u < 7) (hn : u ∉ os) : OrV E os u c 0 c (ps.erase (7 * c u + (u : Int))) := by
  refine ⟨fun v _ => by rw [if_neg (by omega)], fun k hk => ?_, fun v hv hnv => ?_⟩
  · obtain ⟨v, d, h1, h2, h3⟩ := x.ent k (List.mem_of_mem_erase hk)
    exact ⟨v, d, h1, h2, fun q => h3 fun z => q (List.mem_append_left _ z)⟩
  · have hv1 : v ∉ os := fun z => hnv (List.mem_append_left _ z)
    have hv2 : v ≠ u := fun z => hnv (by rw [z]; simp)
    refine (List.mem_erase_of_ne fun e => ?_).mpr (x.has v hv hv1)
    omega

theorem OrV.skip {i : Nat} {c' : Nat → Int} (x : OrV E os u c i c' ps) (h : ¬ (E u i = true ∧ i ∉ os ++ [u])) : OrV E os u c (i + 1) c' ps := by
  refine ⟨fun v hv => ?_, x.ent, x.has⟩
  rw [x.cc v hv]
  by_cases q : v = i
  · subst q
    rw [if_neg (by omega), if_neg (fun z => h z.2)]
  · by_cases q2 : v < i ∧ E u v = true ∧ v ∉ os ++ [u]
    · rw [if_pos q2, if_pos ⟨by omega, q2.2⟩]
    · rw [if_neg q2, if_neg (fun z => q2 ⟨by omega, z.2⟩)]

theorem OrV.bump {i : Nat} {c' : Nat → Int} (x : OrV E os u c i c' ps) (hi : i < 7) (h : E u i = true ∧ i ∉ os ++ [u]) : OrV E os u c (i + 1) (fun v => if v = i then c' i + 1 else c' v) (ps ++ [7 * (c' i + 1) + (i : Int)]) := by
  refine ⟨fun v hv => ?_, fun k hk => ?_, fun v hv hn => ?_⟩
  · by_cases q : v = i
    · subst q
      rw [if_pos rfl, x.cc v hv, if_neg (by omega), if_pos ⟨by omega, h⟩]
    · rw [if_neg q, x.cc v hv]
      by_cases q2 : v < i ∧ E u v = true ∧ v ∉ os ++ [u]
      · rw [if_pos q2, if_pos ⟨by omega, q2.2⟩]
      · rw [if_neg q2, if_neg (fun z => q2 ⟨by omega, z.2⟩)]
  · rcases List.mem_append.mp hk with hk | hk
    · obtain ⟨v, d, h1, h2, h3⟩ := x.ent k hk
      refine ⟨v, d, h1, h2, fun q => ?_⟩
      have := h3 q
      split
      · rename_i e; subst e; omega
      · exact this
    · rw [List.mem_singleton.mp hk]
      exact ⟨i, _, hi, rfl, fun _ => by rw [if_pos rfl]; exact Int.le_refl _⟩
  · by_cases q : v = i
    · subst q
      rw [if_pos rfl]
      simp
    · rw [if_neg q]
      exact List.mem_append_left _ (x.has v hv hn)

theorem OrV.done {ps' : List Int} {c' : Nat → Int} (y : OrI E os c ps) (hu : u < 7) (hn : u ∉ os) (hmax : ∀ x ∈ ps, x ≤ 7 * c u + (u : Int)) (x : OrV E os u c 7 c' ps') : OrI E (os ++ [u]) c' ps' := by
  have hle : ∀ w, w < 7 → w ∉ os → os.countP (fun d => E d w) ≤ os.countP (fun d => E d u) := fun w hw hwn => by
    have := hmax _ (y.has w hw hwn)
    have h1 := y.cnt w hw hwn
    have h2 := y.cnt u hu hn
    omega
  refine ⟨?_, fun v hv => ?_, y.mc.snoc hle, fun v hv hvn => ?_, x.ent, x.has⟩
  · refine List.nodup_append.mpr ⟨y.nd, by simp, fun a ha b hb e => ?_⟩
    rw [List.mem_singleton.mp hb] at e
    subst e
    exact hn ha
  · rcases List.mem_append.mp hv with hv | hv
    · exact y.lt v hv
    · rw [List.mem_singleton.mp hv]; exact hu
  · have hv1 : v ∉ os := fun z => hvn (List.mem_append_left _ z)
    rw [x.cc v hv, List.countP_append, y.cnt v hv hv1]
    by_cases q : E u v = true
    · rw [if_pos ⟨hv, q, hvn⟩]
      simp [q]
    · rw [if_neg (fun z => q z.2.1)]
      simp [q]

theorem OrI.full (x : OrI E os c []) : ∀ v, v ∈ os ↔ v < 7 := fun v => by
  refine ⟨x.lt v, fun hv => Classical.byContradiction fun hn => ?_⟩
  have := x.has v hv hn
  cases this

/-! the order as places -/
theorem len_seven (nd : os.Nodup) (h : ∀ v, v ∈ os ↔ v < 7) : os.length = 7 := by
  have h1 := nodup_le (m := List.range 7) nd fun v hv => List.mem_range.mpr ((h v).mp hv)
  have h2 := nodup_le (l := List.range 7) (m := os) List.nodup_range fun v hv => (h v).mpr (List.mem_range.mp hv)
  simp at h1 h2
  omega

theorem od_of (nd : os.Nodup) (h : ∀ v, v ∈ os ↔ v < 7) : Od (fun v => os.idxOf v) (fun k => os.getD k 0) := by
  have hl := len_seven nd h
  have hg : ∀ k, k < 7 → ∃ hk : k < os.length, os.getD k 0 = os[k] := fun k hk => ⟨by omega, by rw [List.getD_eq_getElem?_getD, List.getElem?_eq_getElem (by omega)]; rfl⟩
  refine ⟨fun k hk => ?_, fun k hk => ?_, fun v hv => ?_, fun v hv => ?_⟩
  · obtain ⟨hk', e⟩ := hg k hk
    try dsimp only
    rw [e]
    exact (h _).mp (List.getElem_mem hk')
  · obtain ⟨hk', e⟩ := hg k hk
    try dsimp only
    rw [e]
    exact nd.idxOf_getElem k hk'
  · have := List.idxOf_lt_length_of_mem ((h v).mpr hv)
    omega
  · have hm := (h v).mpr hv
    have hlt := List.idxOf_lt_length_of_mem hm
    try dsimp only
    rw [List.getD_eq_getElem?_getD, List.getElem?_eq_getElem hlt]
    exact List.getElem_idxOf hlt

theorem row_of (nd : os.Nodup) (h : ∀ v, v ∈ os ↔ v < 7) : natL os = rowI 7 fun k => ((os.getD k 0 : Nat) : Int) := by
  have hl := len_seven nd h
  rw [rowI_natL]
  congr 1
  refine List.ext_getElem (by simp [hl]) fun i h1 h2 => ?_
  simp
  rw [List.getElem?_eq_getElem h1]
  rfl

theorem vis_of (nd : os.Nodup) (h : ∀ v, v ∈ os ↔ v < 7) (m : Mc E os) : Vis E (fun v => os.idxOf v) := by
  have hl := len_seven nd h
  have od := od_of nd h
  refine ⟨fun a b ha hb e => ?_, fun a b c ha hb hc hab hbc hac hnab => ?_⟩
  · have := congrArg (fun k => os.getD k 0) e
    have h1 := od.wp a ha
    have h2 := od.wp b hb
    try dsimp only at this h1 h2
    rw [h1, h2] at this
    exact this
  · have hb' := (h b).mpr hb
    have hlt := List.idxOf_lt_length_of_mem hb'
    have eb : os[os.idxOf b] = b := List.getElem_idxOf hlt
    have hsplit : os = os.take (os.idxOf b) ++ b :: os.drop (os.idxOf b + 1) := by
      have := List.take_append_drop (os.idxOf b) os
      rw [List.drop_eq_getElem_cons hlt, eb] at this
      exact this.symm
    have hmem : ∀ x, x < 7 → (x ∈ os.take (os.idxOf b) ↔ os.idxOf x < os.idxOf b) := fun x hx => by
      have hxm := (h x).mpr hx
      have hxl := List.idxOf_lt_length_of_mem hxm
      constructor
      · intro hm
        obtain ⟨j, hj, e⟩ := List.mem_take_iff_getElem.mp hm
        have : os.idxOf x = j := by
          rw [← e]
          exact nd.idxOf_getElem j _
        omega
      · intro hlt2
        exact List.mem_take_iff_getElem.mpr ⟨os.idxOf x, by omega, List.getElem_idxOf hxl⟩
    have hcn : c ∉ os.take (os.idxOf b) := fun z => by
      have := (hmem c hc).mp z
      omega
    have hle := m _ b _ hsplit c hc hcn
    refine Classical.byContradiction fun hno => ?_
    have himp : ∀ d, d ∈ os.take (os.idxOf b) → E d b = true → E d c = true := fun d hd he => by
      have hd7 := (h d).mp (List.mem_of_mem_take hd)
      have hpd := (hmem d hd7).mp hd
      cases q : E d c with
      | true => rfl
      | false => exact absurd ⟨d, hd7, hpd, he, q⟩ hno
    have ha' := (hmem a ha).mpr hab
    have hlt2 : (os.take (os.idxOf b)).countP (fun d => E d b) < (os.take (os.idxOf b)).countP (fun d => E d c) := by
      generalize os.take (os.idxOf b) = l at himp ha'
      clear hle hcn hmem hsplit
      have hmono : ∀ l : List Nat, (∀ d, d ∈ l → E d b = true → E d c = true) → l.countP (fun d => E d b) ≤ l.countP (fun d => E d c) := fun l hl => List.countP_mono_left fun x hx hb => hl x hx hb
      induction l with
      | nil => cases ha'
      | cons x xs ih =>
        have hxs : ∀ d, d ∈ xs → E d b = true → E d c = true := fun d hd => himp d (List.mem_cons_of_mem _ hd)
        rw [List.countP_cons, List.countP_cons]
        rcases List.mem_cons.mp ha' with e | hm
        · subst e
          have := hmono xs hxs
          rw [hac, hnab]
          simp
          omega
        · have := ih hxs hm
          have hx := himp x List.mem_cons_self
          cases q : E x b with
          | true => rw [hx q]; simp; omega
          | false => simp; omega
    omega
end
end Mini
end

section
open PySem PyProof.Rows
namespace Mini

def ordV : MB := blk [
        .ite (.and (.of (.sub (.sub (.var "near") (.sub (.var "due") (.int 1))) (.var "v"))) (.cmp .NotIn (.var "v") (.var "order"))) (blk [
          .sto (.var "counts") (.var "v") (.bin .Add (.sub (.var "counts") (.var "v")) (.int 1)),
          .expr (.meth .append (.var "plain") (.cons (.tup (.cons (.sub (.var "counts") (.var "v")) (.cons (.var "v") .nil))) .nil)),
          .expr (.meth .append (.var "heap") (.cons (.tup (.cons (.sub (.var "counts") (.var "v")) (.cons (.var "v") .nil))) .nil)),
          .ite (.cmp .IsNot (.call "_siftdown_max" (.cons (.var "heap") (.cons (.int 0) (.cons (.bin .Sub (.blt .len (.cons (.var "heap") .nil)) (.int 1)) .nil)))) .none) (blk [
            .ret .none]) (.nil)]) (.nil)]
def ordW : MB := blk [
    .asg "due" (.blt .max (.cons (.var "plain") .nil)),
    .expr (.meth .remove (.var "plain") (.cons (.var "due") .nil)),
    .ite (.cmp .NotEq (.call "_heappop_max" (.cons (.var "heap") .nil)) (.var "due")) (blk [
      .ret .none]) (.nil),
    .ite (.and (.cmp .NotIn (.sub (.var "due") (.int 1)) (.var "order")) (.cmp .Eq (.sub (.var "due") (.int 0)) (.sub (.var "counts") (.sub (.var "due") (.int 1))))) (blk [
      .expr (.meth .append (.var "order") (.cons (.sub (.var "due") (.int 1)) .nil)),
      .for_ "v" (.r1 (.int 7)) ordV]) (.nil)]
theorem order_eq : d_law_order = ⟨["near"], blk [
  .asg "counts" (.bin .Mult (.list (.cons (.int 0) .nil)) (.int 7)),
  .asg "heap" (.comp (.tup (.cons (.int 0) (.cons (.var "v") .nil))) "v" (.r1 (.int 7)) .tt),
  .asg "plain" (.blt .list (.cons (.var "heap") .nil)),
  .ite (.cmp .IsNot (.call "_heapify_max" (.cons (.var "heap") .nil)) .none) (blk [
    .ret .none]) (.nil),
  .asg "order" (.list .nil),
  .whl (.cmp .NotEq (.var "plain") (.list .nil)) ordW,
  .ret (.var "order")]⟩ := rfl

/-- where the order's lists lie -/
structure OA (B : Nat) (σ₀ : Sto) (aC aH aP aO : Nat) : Prop where
  C : B ≤ aC ∧ σ₀ aC = none
  H : B ≤ aH ∧ σ₀ aH = none
  P : B ≤ aP ∧ σ₀ aP = none
  O : B ≤ aO ∧ σ₀ aO = none
  ch : aC ≠ aH
  cp : aC ≠ aP
  co : aC ≠ aO
  hp : aH ≠ aP
  ho : aH ≠ aO
  po : aP ≠ aO

structure OS (σ₀ : Sto) (aC aH aP aO : Nat) (c : Nat → Int) (hs ps : List Int) (os : List Nat) (σ : Sto) : Prop where
  sub : Sub σ₀ σ
  C : σ aC = some (rowI 7 c)
  H : σ aH = some (hs.map pr)
  P : σ aP = some (ps.map pr)
  O : σ aO = some (natL os)

section
variable {B : Nat} {σ₀ σ : Sto} {aC aH aP aO : Nat} {c : Nat → Int} {hs ps : List Int} {os : List Nat}
theorem OS.more {σ' : Sto} (x : OS σ₀ aC aH aP aO c hs ps os σ) (s : Sub σ σ') : OS σ₀ aC aH aP aO c hs ps os σ' := ⟨x.sub.trans s, s _ _ x.C, s _ _ x.H, s _ _ x.P, s _ _ x.O⟩
theorem OS.setC (A : OA B σ₀ aC aH aP aO) (x : OS σ₀ aC aH aP aO c hs ps os σ) {j : Nat} {v : Int} : OS σ₀ aC aH aP aO (fun a => if a = j then v else c a) hs ps os (upd σ aC ((rowI 7 c).set j (.int v))) :=
  ⟨x.sub.upd A.C.2, by rw [upd_at, rowI_set], by rw [upd_ne (Ne.symm A.ch)]; exact x.H, by rw [upd_ne (Ne.symm A.cp)]; exact x.P, by rw [upd_ne (Ne.symm A.co)]; exact x.O⟩
theorem OS.setH (A : OA B σ₀ aC aH aP aO) (x : OS σ₀ aC aH aP aO c hs ps os σ) {hs' : List Int} : OS σ₀ aC aH aP aO c hs' ps os (upd σ aH (hs'.map pr)) :=
  ⟨x.sub.upd A.H.2, by rw [upd_ne A.ch]; exact x.C, upd_at .., by rw [upd_ne (Ne.symm A.hp)]; exact x.P, by rw [upd_ne (Ne.symm A.ho)]; exact x.O⟩
theorem OS.setP (A : OA B σ₀ aC aH aP aO) (x : OS σ₀ aC aH aP aO c hs ps os σ) {ps' : List Int} : OS σ₀ aC aH aP aO c hs ps' os (upd σ aP (ps'.map pr)) :=
  ⟨x.sub.upd A.P.2, by rw [upd_ne A.cp]; exact x.C, by rw [upd_ne A.hp]; exact x.H, upd_at .., by rw [upd_ne (Ne.symm A.po)]; exact x.O⟩
theorem OS.setO (A : OA B σ₀ aC aH aP aO) (x : OS σ₀ aC aH aP aO c hs ps os σ) {os' : List Nat} : OS σ₀ aC aH aP aO c hs ps os' (upd σ aO (natL os')) :=
  ⟨x.sub.upd A.O.2, by rw [upd_ne A.co]; exact x.C, by rw [upd_ne A.ho]; exact x.H, by rw [upd_ne A.po]; exact x.P, upd_at ..⟩
end

structure OF (l aC aH aP aO : Nat) (ρ : Frm) : Prop where
  n : ρ "near" = some (.ref l)
  c : ρ "counts" = some (.ref aC)
  h : ρ "heap" = some (.ref aH)
  p : ρ "plain" = some (.ref aP)
  o : ρ "order" = some (.ref aO)
theorem OF.setv {l aC aH aP aO : Nat} {ρ : Frm} (x : OF l aC aH aP aO ρ) {y : String} {v : V} (h : y = "due" ∨ y = "v") : OF l aC aH aP aO (setv ρ y v) := by
  have hne : ∀ z : String, z ≠ "due" → z ≠ "v" → z ≠ y := fun z h1 h2 e => by subst e; rcases h with h | h; exact h1 h; exact h2 h
  refine ⟨?_, ?_, ?_, ?_, ?_⟩
  · rw [setv_ne _ _ (hne _ (by decide) (by decide))]; exact x.n
  · rw [setv_ne _ _ (hne _ (by decide) (by decide))]; exact x.c
  · rw [setv_ne _ _ (hne _ (by decide) (by decide))]; exact x.h
  · rw [setv_ne _ _ (hne _ (by decide) (by decide))]; exact x.p
  · rw [setv_ne _ _ (hne _ (by decide) (by decide))]; exact x.o

set_option maxRecDepth 100000 in
set_option maxHeartbeats 2000000 in
theorem ordV_walk {B k : Nat} {σ₀ σ : Sto} {l : Nat} {r : Nat → Nat} {E : Nat → Nat → Bool} {aC aH aP aO : Nat} {c : Nat → Int} {hs ps : List Int} {os : List Nat} {u v : Nat} {d : Int} {ρ : Frm} {K : Fl → Frm → Sto → Prop}
    (hM : Mat 7 7 σ₀ l r fun i j => .bool (E i j)) (A : OA B σ₀ aC aH aP aO) (x : OS σ₀ aC aH aP aO c hs ps os σ) (hu : u < 7) (hv : v < 7) (hz : ps.length ≤ 900) (hz' : hs.length ≤ 900) (hf : HF 0 hs) (q : OF l aC aH aP aO ρ)
    (q6 : ρ "due" = some (.tupI [d, (u : Int)])) (q7 : ρ "v" = some (.int (v : Int)))
    (hskip : ¬ (E u v = true ∧ v ∉ os) → K .next ρ σ)
    (hdo : E u v = true → v ∉ os → ∀ σ' hs', OS σ₀ aC aH aP aO (fun a => if a = v then c v + 1 else c a) hs' (ps ++ [7 * (c v + 1) + (v : Int)]) os σ' → HF 0 hs' → hs'.Perm (hs ++ [7 * (c v + 1) + (v : Int)]) → K .next ρ σ') :
    wpB ⟨B, Sp B gl0 P0 (k + 1), gl0, fun f => (P0 f).isSome⟩ ordV ρ σ K := by
  have m := hM.sub x.sub
  have f0 : subV σ (.tupI [d, (u : Int)]) (.int 1) = some (.int (u : Int)) := rfl
  have f1 : subV σ (.ref l) (.int (u : Int)) = some (.ref (r u)) := sub_row (f := fun i => .ref (r i)) m.top rfl hu
  have f2 : subV σ (.ref (r u)) (.int (v : Int)) = some (.bool (E u v)) := sub_row (f := fun j => .bool (E u j)) (m.row u hu) rfl hv
  have hin : cmpV σ .NotIn (.int (v : Int)) (.ref aO) = some (!(os.contains v)) := by
    simp only [cmpV, x.O, Option.bind_some, in_nat, Option.map_some]
  simp only [wpB, wpS, wpE, wpT, wpI, wpEs, blk, bindF, wpBin_int, binV, setv, endF, V.ref.injEq, V.int.injEq, V.bool.injEq, V.tupI.injEq, Option.some.injEq, exists_eq_left', exists_eq_left, exists_and_left, String.reduceEq, if_true, if_false, reduceIte, true_and, and_true, decide_true, decide_false, Bool.false_eq_true, Bool.not_true, Bool.not_false, Int.reduceLE, Int.reduceToNat, Int.reducePow, Nat.reducePow, c_lt, c_gt, c_le, c_ge, c_eq, c_ne, c_is, c_isnot, t_bool, t_ref, n_none, n_ref, cmp_pr, decide_eq_true_eq, Bool.not_eq_true', decide_eq_false_iff_not, b_len, b_sum, b_max, b_min, b_max2, b_min2, b_sorted, b_list, b_listT, b_abs, Int.reduceEq, reduceCtorEq, or_self, or_false, false_or, sm2, sm5, sm6, sm7, sm8, sm36, m_pop, m_append, m_remove, w_addR, w_mulR, ordV, q.n, q.c, q.h, q.p, q.o, q6, q7, f0, f1, f2, hin, sub_rowI x.C rfl hv, x.C]
  by_cases c1 : E u v = true
  · rw [if_pos c1]
    by_cases c2 : os.contains v = true
    · rw [if_neg (by simpa using c2)]
      exact hskip fun z => z.2 (by simpa using c2)
    · have c3 : v ∉ os := by simpa using c2
      rw [if_pos (by simp [c3])]
      refine ⟨Int.natCast_nonneg _, by unfold rowI; rw [rowV_len, Int.toNat_natCast]; exact hv, A.C.1, ?_⟩
      rw [Int.toNat_natCast]
      have x1 : OS σ₀ aC aH aP aO (fun a => if a = v then c v + 1 else c a) hs ps os _ := x.setC (j := v) (v := c v + 1) A
      generalize upd σ aC ((rowI 7 c).set v (.int (c v + 1))) = σ1 at x1
      have e1 : subV σ1 (.ref aC) (.int (v : Int)) = some (.int (c v + 1)) := (sub_rowI x1.C rfl hv).trans (by rw [if_pos rfl])
      have hl := LIM_eq
      refine ⟨⟨_, x1.P⟩, _, e1, .inl ⟨_, _, rfl, _, x1.P, A.P.1, by rw [List.length_map]; omega, ?_⟩⟩
      rw [← pr_key hv, show ps.map pr ++ [pr (7 * (c v + 1) + (v : Int))] = (ps ++ [7 * (c v + 1) + (v : Int)]).map pr by simp]
      have x2 := x1.setP (ps' := ps ++ [7 * (c v + 1) + (v : Int)]) A
      generalize upd σ1 aP ((ps ++ [7 * (c v + 1) + (v : Int)]).map pr) = σ2 at x2
      have e2 : subV σ2 (.ref aC) (.int (v : Int)) = some (.int (c v + 1)) := (sub_rowI x2.C rfl hv).trans (by rw [if_pos rfl])
      refine ⟨⟨_, x2.H⟩, _, e2, .inl ⟨_, _, rfl, _, x2.H, A.H.1, by rw [List.length_map]; omega, rfl, _, upd_at .., ?_⟩⟩
      rw [← pr_key hv, show hs.map pr ++ [pr (7 * (c v + 1) + (v : Int))] = (hs ++ [7 * (c v + 1) + (v : Int)]).map pr by simp]
      generalize hkey : 7 * (c v + 1) + (v : Int) = y at x2 hdo
      have e3 : (((hs ++ [y]).map pr).length : Int) - 1 = (hs.length : Int) := by simp
      have e4 : atI (hs ++ [y]) hs.length = y := by
        unfold atI
        simp
      rw [e3]
      refine siftdown_spec (p := 0) (pos := hs.length) (orig := hs ++ [y]) rfl (upd_at _ aH _) A.H.1 (by rw [e4]; exact SD.append hf) fun ws w1 w2 => ?_
      rw [upd_upd, if_neg (by simp [isNone])]
      exact hdo c1 c3 _ ws (x2.setH A) w1 w2
  · rw [if_neg c1]
    exact hskip fun z => c1 z.1

set_option maxRecDepth 100000 in
set_option maxHeartbeats 2000000 in
theorem ordW_walk {B k : Nat} {σ₀ σ : Sto} {l : Nat} {r : Nat → Nat} {E : Nat → Nat → Bool} {aC aH aP aO : Nat} {c : Nat → Int} {hs ps : List Int} {os : List Nat} {ρ : Frm} {K : Fl → Frm → Sto → Prop}
    (hM : Mat 7 7 σ₀ l r fun i j => .bool (E i j)) (A : OA B σ₀ aC aH aP aO) (x : OS σ₀ aC aH aP aO c hs ps os σ) (y : OrI E os c ps) (hz : 8 * (7 - os.length) + ps.length ≤ 63) (hf : HF 0 hs) (hp : hs.Perm ps) (hne : ps ≠ []) (q : OF l aC aH aP aO ρ)
    (hK : ∀ ρ' σ' c' hs' ps' os', OS σ₀ aC aH aP aO c' hs' ps' os' σ' → OrI E os' c' ps' → HF 0 hs' → hs'.Perm ps' → 8 * (7 - os'.length) + ps'.length < 8 * (7 - os.length) + ps.length → OF l aC aH aP aO ρ' → K .next ρ' σ') :
    wpB ⟨B, Sp B gl0 P0 (k + 3), gl0, fun f => (P0 f).isSome⟩ ordW ρ σ K := by
  obtain ⟨p0, ps0, rfl⟩ : ∃ p0 ps0, ps = p0 :: ps0 := by
    cases ps with
    | nil => exact absurd rfl hne
    | cons a b => exact ⟨a, b, rfl⟩
  obtain ⟨m, m1, m2, m3⟩ := max_spec ps0 p0
  have hlen2 := hp.length_eq
  obtain ⟨u, d, hu, rfl, hd⟩ := y.ent m m2
  have hel : ((p0 :: ps0).erase (7 * d + (u : Int))).length + 1 = (p0 :: ps0).length := by
    rw [List.length_erase_of_mem m2]
    simp
  have hlos := y.len
  simp only [wpB, wpS, wpE, wpT, wpI, wpEs, blk, bindF, wpBin_int, binV, setv, endF, V.ref.injEq, V.int.injEq, V.bool.injEq, V.tupI.injEq, Option.some.injEq, exists_eq_left', exists_eq_left, exists_and_left, String.reduceEq, if_true, if_false, reduceIte, true_and, and_true, decide_true, decide_false, Bool.false_eq_true, Bool.not_true, Bool.not_false, Int.reduceLE, Int.reduceToNat, Int.reducePow, Nat.reducePow, c_lt, c_gt, c_le, c_ge, c_eq, c_ne, c_is, c_isnot, t_bool, t_ref, n_none, n_ref, cmp_pr, decide_eq_true_eq, Bool.not_eq_true', decide_eq_false_iff_not, b_len, b_sum, b_max, b_min, b_max2, b_min2, b_sorted, b_list, b_listT, b_abs, Int.reduceEq, reduceCtorEq, or_self, or_false, false_or, sm2, sm5, sm6, sm7, sm8, sm36, m_pop, m_append, m_remove, w_addR, w_mulR, ordW, q.n, q.c, q.h, q.p, q.o, x.P]
  refine ⟨_, _, rfl, same_pr _ _, _, m1, ⟨_, rfl⟩, A.P.1, comp_pr _ _, _, remove_pr _ _ m2, rfl, ?_⟩
  have x1 := x.setP (ps' := (p0 :: ps0).erase (7 * d + (u : Int))) A
  have hzz : hs ≠ [] := fun e => by subst e; simp at hlen2
  refine heappop_spec rfl rfl rfl x1.H A.H.1 (by omega) hzz hf fun m' ws w1 w2 w3 => ?_
  obtain ⟨rfl, w4⟩ := pop_same hp m2 m3 w2 w3
  have x2 := x1.setH (hs' := ws) A
  generalize upd (upd σ aP (((p0 :: ps0).erase (7 * d + (u : Int))).map pr)) aH (ws.map pr) = σ2 at x2
  refine ⟨_, ne_pr .., ?_⟩
  rw [if_neg (by simp), pr_key hu]
  have hin : cmpV σ2 .NotIn (.int (u : Int)) (.ref aO) = some (!(os.contains u)) := by
    simp only [cmpV, x2.O, Option.bind_some, in_nat, Option.map_some]
  have hstale : (u ∈ os ∨ d ≠ c u) → K .next (setv ρ "due" (.tupI [d, (u : Int)])) σ2 := fun h =>
    hK _ _ _ _ _ _ x2 (y.stale h hu) w1 w4 (by omega) (q.setv (by simp))
  refine ⟨.int (u : Int), rfl, _, hin, ?_⟩
  by_cases c2 : os.contains u = true
  · rw [if_neg (by simpa using c2)]
    exact hstale (.inl (by simpa using c2))
  · have c3 : u ∉ os := by simpa using c2
    rw [if_pos (by simpa using c3)]
    refine ⟨.int d, rfl, .int (u : Int), rfl, _, sub_rowI x2.C rfl hu, _, rfl, ?_⟩
    by_cases c4 : d = c u
    · subst c4
      rw [if_pos (by simp)]
      have hl := LIM_eq
      have hel' : ((p0 :: ps0).erase (7 * c u + (u : Int))).length = ps0.length := by
        rw [List.length_cons] at hel
        omega
      refine ⟨⟨_, x2.O⟩, .int (u : Int), rfl, _, x2.O, A.O.1, by rw [natL_len]; omega, ?_⟩
      rw [natL_snoc]
      have x3 := x2.setO (os' := os ++ [u]) A
      generalize upd σ2 aO (natL (os ++ [u])) = σ3 at x3
      have v0 := y.visit hu c3
      have hos7 : os.length + 1 ≤ 7 := by
        have := nodup_le (l := u :: os) (m := List.range 7) (List.nodup_cons.mpr ⟨c3, y.nd⟩) fun z hz => by
          rcases List.mem_cons.mp hz with rfl | hz
          · exact List.mem_range.mpr hu
          · exact List.mem_range.mpr (y.lt z hz)
        simpa using this
      rw [List.length_cons] at hz hK
      refine forL_ind (fun i ρ σ' => ∃ c' hs' ps', OS σ₀ aC aH aP aO c' hs' ps' (os ++ [u]) σ' ∧ OrV E os u c i c' ps' ∧ HF 0 hs' ∧ hs'.Perm ps' ∧ ps'.length ≤ ps0.length + i ∧ OF l aC aH aP aO ρ ∧ ρ "due" = some (.tupI [c u, (u : Int)])) ?_
        ⟨c, ws, _, x3, v0, w1, w4, by omega, q.setv (by simp), by simp [setv]⟩ ?_
      · rintro i v ρ' σ' K' hv ⟨c', hs', ps', z1, z2, z3, z4, z5, z6, z7⟩ hK' _ _ _
        obtain ⟨hi, rfl⟩ := rng_get hv
        have hi : i < 7 := hi
        rw [Int.zero_add]
        have hlz := z4.length_eq
        refine ordV_walk (k := k + 2) (u := u) (v := i) (d := c u) hM A z1 hu hi (by omega) (by omega) z3 (z6.setv (by simp)) (by simp [setv, z7]) (by simp [setv]) (fun hn => ?_) fun h1 h2 σ4 hs4 x4 g1 g2 => ?_
        · exact hK' _ _ ⟨c', hs', ps', z1, z2.skip hn, z3, z4, by omega, z6.setv (by simp), by simp [setv, z7]⟩ trivial
        · exact hK' _ _ ⟨_, hs4, _, x4, z2.bump hi ⟨h1, h2⟩, g1, g2.trans (z4.append_right _), by simp; omega, z6.setv (by simp), by simp [setv, z7]⟩ trivial
      · rintro ρ' σ' ⟨c', hs', ps', z1, z2, z3, z4, z5, z6, z7⟩
        rw [rng_length] at z2 z5
        have z2 : OrV E os u c 7 c' ps' := z2
        have z5 : ps'.length ≤ ps0.length + 7 := z5
        exact hK _ _ _ _ _ _ z1 (z2.done y hu c3 m3) z3 z4 (by rw [List.length_append, List.length_singleton]; omega) z6
    · rw [if_neg (by simpa using c4)]
      exact hstale (.inr c4)

def gKey (v : V) : List V := match v with
  | .int w => [V.tupI [0, w]]
  | _ => []
theorem key0_map : ∀ n, n ≤ 7 → (rng 0 n).flatMap gKey = ((List.range n).map fun (j : Nat) => (j : Int)).map pr
  | 0, _ => rfl
  | n + 1, h => by
    have ih := key0_map n (by omega)
    have e : rng 0 (n + 1) = rng 0 n ++ [.int (n : Int)] := by
      unfold rng
      rw [List.range_succ, List.map_append]
      simp
    rw [e, List.flatMap_append, ih, List.range_succ, List.map_append, List.map_append]
    congr 1
    have := pr_key (c := 0) (v := n) (by omega)
    simp at this
    simp [this, gKey]

set_option maxRecDepth 100000 in
set_option maxHeartbeats 2000000 in
theorem order_spec {B k : Nat} {σ : Sto} {l : Nat} {r : Nat → Nat} {E : Nat → Nat → Bool} (hM : Mat 7 7 σ l r fun i j => .bool (E i j))
    {Q : V → Sto → Prop} (hQ : ∀ σ' b os, Sub σ σ' → σ' b = some (natL os) → os.Nodup → (∀ v, v ∈ os ↔ v < 7) → Mc E os → Q (.ref b) σ') : Sp B gl0 P0 (k + 4) "_law_order" [.ref l] σ Q := by
  refine ⟨_, rfl, rfl, ?_⟩
  rw [order_eq]
  have hl := LIM_eq
  simp only [wpB, wpS, wpE, wpT, wpI, wpEs, blk, bindF, wpBin_int, binV, setv, endF, V.ref.injEq, V.int.injEq, V.bool.injEq, V.tupI.injEq, Option.some.injEq, exists_eq_left', exists_eq_left, exists_and_left, String.reduceEq, if_true, if_false, reduceIte, true_and, and_true, decide_true, decide_false, Bool.false_eq_true, Bool.not_true, Bool.not_false, Int.reduceLE, Int.reduceToNat, Int.reducePow, Nat.reducePow, c_lt, c_gt, c_le, c_ge, c_eq, c_ne, c_is, c_isnot, t_bool, t_ref, n_none, n_ref, cmp_pr, decide_eq_true_eq, Bool.not_eq_true', decide_eq_false_iff_not, b_len, b_sum, b_max, b_min, b_max2, b_min2, b_sorted, b_list, b_listT, b_abs, Int.reduceEq, reduceCtorEq, or_self, or_false, false_or, sm2, sm5, sm6, sm7, sm8, sm36, m_pop, m_append, m_remove, w_addR, w_mulR]
  refine ⟨by simp [LIM], fun t htB htn => ?_⟩
  have s1 : Sub σ (upd σ t [V.int 0]) := .new htn
  have ht1 := upd_at σ t [V.int 0]
  generalize upd σ t [V.int 0] = σ1 at s1 ht1
  simp only [wpB, wpS, wpE, wpT, wpI, wpEs, blk, bindF, wpBin_int, binV, setv, endF, V.ref.injEq, V.int.injEq, V.bool.injEq, V.tupI.injEq, Option.some.injEq, exists_eq_left', exists_eq_left, exists_and_left, String.reduceEq, if_true, if_false, reduceIte, true_and, and_true, decide_true, decide_false, Bool.false_eq_true, Bool.not_true, Bool.not_false, Int.reduceLE, Int.reduceToNat, Int.reducePow, Nat.reducePow, c_lt, c_gt, c_le, c_ge, c_eq, c_ne, c_is, c_isnot, t_bool, t_ref, n_none, n_ref, cmp_pr, decide_eq_true_eq, Bool.not_eq_true', decide_eq_false_iff_not, b_len, b_sum, b_max, b_min, b_max2, b_min2, b_sorted, b_list, b_listT, b_abs, Int.reduceEq, reduceCtorEq, or_self, or_false, false_or, sm2, sm5, sm6, sm7, sm8, sm36, m_pop, m_append, m_remove, w_addR, w_mulR, ht1]
  refine ⟨by simp, fun aC hCB hCn => ?_⟩
  rw [show (List.replicate 7 [V.int 0]).flatten = rowI 7 fun _ => 0 from rfl]
  have s2 : Sub σ1 (upd σ1 aC (rowI 7 fun _ => 0)) := .new hCn
  have hC2 := upd_at σ1 aC (rowI 7 fun _ => 0)
  have hC0 : σ aC = none := s1.none hCn
  generalize upd σ1 aC (rowI 7 fun _ => 0) = σ2 at s2 hC2
  have s02 := s1.trans s2
  dsimp only
  refine ⟨by rw [rng_length]; decide, ?_⟩
  refine compL_flat gKey (fun v hv acc K' hK' => ?_) trivial ?_
  · obtain ⟨j, hj⟩ := List.getElem?_of_mem hv
    obtain ⟨hj7, rfl⟩ := rng_get hj
    exact .inl ⟨_, _, rfl, hK'⟩
  · rw [List.nil_append, key0_map 7 (Nat.le_refl _)]
    generalize hks : ((List.range 7).map fun (j : Nat) => (j : Int)) = ks
    have hklen : ks.length = 7 := by rw [← hks]; rfl
    intro aH hHB hHn
    have s3 : Sub σ2 (upd σ2 aH (ks.map pr)) := .new hHn
    have hH3 := upd_at σ2 aH (ks.map pr)
    have hH0 : σ aH = none := s02.none hHn
    have ch : aC ≠ aH := ne_of_none hHn hC2
    generalize upd σ2 aH (ks.map pr) = σ3 at s3 hH3
    rw [b_list]
    refine ⟨_, hH3, fun aP hPB hPn => ?_⟩
    have s4 : Sub σ3 (upd σ3 aP (ks.map pr)) := .new hPn
    have hP4 := upd_at σ3 aP (ks.map pr)
    have s03 := s02.trans s3
    have hP0 : σ aP = none := s03.none hPn
    have cp : aC ≠ aP := ne_of_none hPn (s3 _ _ hC2)
    have hp : aH ≠ aP := ne_of_none hPn hH3
    have s04 := s03.trans s4
    have hC4 := s4 _ _ (s3 _ _ hC2)
    have hH4 := s4 _ _ hH3
    generalize upd σ3 aP (ks.map pr) = σ4 at s4 hP4 s04 hC4 hH4
    refine ⟨rfl, ?_⟩
    refine heapify_spec rfl rfl rfl hH4 hHB (by omega) fun ws w1 w2 => ?_
    have hH5 := upd_at σ4 aH (ws.map pr)
    have hC5 : upd σ4 aH (ws.map pr) aC = some (rowI 7 fun _ => 0) := (upd_ne ch).trans hC4
    have hP5 : upd σ4 aH (ws.map pr) aP = some (ks.map pr) := (upd_ne (Ne.symm hp)).trans hP4
    have s05 := s04.upd (xs := ws.map pr) hH0
    generalize upd σ4 aH (ws.map pr) = σ5 at hH5 hC5 hP5 s05
    rw [if_neg (by simp [isNone])]
    refine ⟨by simp [LIM], fun aO hOB hOn => ?_⟩
    have s6 : Sub σ5 (upd σ5 aO []) := .new hOn
    have hO6 := upd_at σ5 aO []
    have A : OA B σ aC aH aP aO := ⟨⟨hCB, hC0⟩, ⟨hHB, hH0⟩, ⟨hPB, hP0⟩, ⟨hOB, s05.none hOn⟩, ch, cp, ne_of_none hOn hC5, hp, ne_of_none hOn hH5, ne_of_none hOn hP5⟩
    have x : OS σ aC aH aP aO (fun _ => 0) ws ks [] _ := ⟨s05.trans s6, s6 _ _ hC5, s6 _ _ hH5, s6 _ _ hP5, hO6⟩
    generalize upd σ5 aO [] = σ6 at x
    have y : OrI E [] (fun _ => 0) ks := by
      refine ⟨.nil, fun v hv => (by cases hv), .nil, fun v _ _ => rfl, fun k hk => ?_, fun v hv _ => ?_⟩
      · rw [← hks] at hk
        obtain ⟨j, hj, rfl⟩ := List.mem_map.mp hk
        exact ⟨j, 0, List.mem_range.mp hj, by simp, fun _ => Int.le_refl _⟩
      · rw [← hks]
        exact List.mem_map.mpr ⟨v, List.mem_range.mpr hv, by simp⟩
    refine ⟨fun n ρ σ' => ∃ c hs ps os, OS σ aC aH aP aO c hs ps os σ' ∧ OrI E os c ps ∧ HF 0 hs ∧ hs.Perm ps ∧ n = 8 * (7 - os.length) + ps.length ∧ n ≤ 63 ∧ OF l aC aH aP aO ρ, _,
      ⟨_, _, _, _, x, y, w1, w2, rfl, by rw [hklen]; decide, ⟨by simp [setv], by simp [setv], by simp [setv], by simp [setv], by simp [setv]⟩⟩, ?_⟩
    rintro n ρ σ' ⟨c, hs, ps, os, z1, z2, z3, z4, rfl, z6, z7⟩
    refine ⟨_, z7.p, by simp, fun b hbB hbn => ?_⟩
    have z8 := z1.more (Sub.new (xs := []) hbn)
    have hb8 := upd_at σ' b []
    generalize upd σ' b [] = σ'' at z8 hb8
    refine ⟨_, eq_nil z8.P hb8, ?_⟩
    cases hps : ps with
    | nil =>
      subst hps
      rw [if_neg (by simp)]
      exact ⟨_, z7.o, hQ _ _ _ z8.sub z8.O z2.nd z2.full z2.mc⟩
    | cons p ps0 =>
      rw [if_pos (by simp)]
      rw [← hps]
      refine ordW_walk hM A z8 z2 z6 z3 z4 (by rw [hps]; simp) z7 fun ρ' σ3 c' hs' ps' os' g1 g2 g3 g4 g5 g6 => ?_
      exact ⟨_, g5, c', hs', ps', os', g1, g2, g3, g4, rfl, by omega, g6⟩
end Mini
end

section
open PySem PyProof.Rows
namespace Mini

/-- the graph of the rows -/
def Eof (M : Nat → Nat → Bool) (a b : Nat) : Bool := decide (a < 7) && decide (b < 7) && M a b
theorem Eof_at {M : Nat → Nat → Bool} {a b : Nat} (ha : a < 7) (hb : b < 7) : Eof M a b = M a b := by simp [Eof, ha, hb]
theorem Eof_gr {M : Nat → Nat → Bool} (h : SI M) : Gr (Eof M) := by
  refine ⟨fun a b => ?_, fun a => ?_, fun a b e => ?_⟩
  · by_cases ha : a < 7 <;> by_cases hb : b < 7
    · rw [Eof_at ha hb, Eof_at hb ha, h.sym a b ha hb]
    · simp [Eof, ha, hb]
    · simp [Eof, ha, hb]
    · simp [Eof, ha, hb]
  · by_cases ha : a < 7
    · rw [Eof_at ha ha, h.irr a ha]
    · simp [Eof, ha]
  · unfold Eof at e
    simp only [Bool.and_eq_true, decide_eq_true_eq] at e
    exact e.1.1

def Tm (E : Nat → Nat → Bool) (v : Nat) : Nat := mk7 (E v) 7
theorem Tm_ts (E : Nat → Nat → Bool) : Ts E (Tm E) := fun v _ => by
  obtain ⟨h1, h2⟩ := mk7_ok (E v) 7 (Nat.le_refl _)
  exact ⟨h1, fun u hu => by unfold Tm; rw [h2 u hu]; simp [hu]⟩
theorem sum_bits (p : Nat → Bool) : ∀ n, (((List.range n).filter p).map fun u => ((2 ^ u : Nat) : Int)).sum = ((mk7 p n : Nat) : Int)
  | 0 => rfl
  | n + 1 => by
    have ih := sum_bits p n
    rw [List.range_succ, List.filter_append, List.map_append, List.sum_append, ih]
    show _ = ((mk7 p n + (if p n = true then 2 ^ n else 0) : Nat) : Int)
    by_cases c : p n = true
    · rw [if_pos c]
      simp [c]
    · rw [if_neg c]
      simp [c]

theorem pc_zero : pc 0 = 0 := by decide
theorem mem7_ne {p : Nat} (hp : p < 128) (h : 1 ≤ p) : ∃ v, v < 7 ∧ p.testBit v = true := by
  refine Classical.byContradiction fun hn => ?_
  have : p = 0 := mask_ext hp (by decide) fun v hv => by
    cases q : p.testBit v with
    | false => simp
    | true => exact absurd ⟨v, hv, q⟩ hn
  omega

section
variable {E : Nat → Nat → Bool} {T : Nat → Nat} {pos w : Nat → Nat} {p : Nat}

def clqM (T : Nat → Nat) (p : Nat) : Bool := (mem7 p).all fun v => ((pc (T v &&& p) : Nat) : Int) == ((pc p : Nat) : Int) - 1
def growM (T : Nat → Nat) (p : Nat) : Bool := (List.range 7).any fun v => (T v &&& p) == p
def apM (T : Nat → Nat) (p : Nat) : Bool := !((mem7 p).any fun v => (T v &&& p) != 0)
def wholeM (T w : Nat → Nat) (k : Nat) : Nat := bagM T w k + 2 ^ w k

theorem clqM_iff (g : Gr E) (t : Ts E T) : clqM T p = true ↔ Clq E (fun v => p.testBit v) := by
  unfold clqM
  rw [List.all_eq_true]
  constructor
  · intro h a b ha hb hab pa pb
    have h1 := h a (mem_mem7.mpr ⟨ha, pa⟩)
    rw [beq_iff_eq, pc_and t ha] at h1
    have h2 := cnt_erase (q := fun u => p.testBit u) ha pa
    cases q : E a b with
    | true => rfl
    | false =>
      have := cnt_lt (q := fun u => E a u && p.testBit u) (r := fun u => p.testBit u && u != a) (fun u hu hb => by
        simp only [Bool.and_eq_true] at hb
        have hne : u ≠ a := fun e => by rw [e, g.irr] at hb; cases hb.1
        simp [hb.2, hne]) hb (by simp [pb, Ne.symm hab]) (by simp [q])
      unfold pc at h1
      omega
  · intro h a ha
    obtain ⟨ha, pa⟩ := mem_mem7.mp ha
    have h2 := cnt_erase (q := fun u => p.testBit u) ha pa
    rw [beq_iff_eq, pc_and t ha]
    have : cnt (fun u => E a u && p.testBit u) = cnt (fun u => p.testBit u && u != a) := cnt_congr fun u hu => by
      by_cases e : u = a
      · subst e
        rw [g.irr]
        simp
      · cases pu : p.testBit u with
        | false => simp
        | true =>
          have := h a u ha hu (Ne.symm e) pa pu
          simp [this, e]
    rw [this]
    unfold pc
    omega

theorem growM_no (t : Ts E T) (hp : p < 128) (h : growM T p = false) : ∀ v, v < 7 → ∃ u, u < 7 ∧ p.testBit u = true ∧ E v u = false := by
  intro v hv
  unfold growM at h
  rw [List.any_eq_false] at h
  have h1 := h v (List.mem_range.mpr hv)
  refine Classical.byContradiction fun hn => h1 ?_
  rw [beq_iff_eq]
  refine mask_ext (and_lt hp) hp fun u hu => ?_
  rw [and_bit t hv hu]
  cases pu : p.testBit u with
  | false => simp
  | true =>
    cases q : E v u with
    | true => rfl
    | false => exact absurd ⟨u, hu, pu, q⟩ hn

theorem apM_iff (t : Ts E T) (hp : p < 128) : apM T p = true ↔ ∀ a b, a < 7 → b < 7 → p.testBit a = true → p.testBit b = true → E a b = false := by
  unfold apM
  rw [Bool.not_eq_true', List.any_eq_false]
  constructor
  · intro h a b ha hb pa pb
    have h1 := h a (mem_mem7.mpr ⟨ha, pa⟩)
    have h1 : T a &&& p = 0 := by simpa using h1
    have h2 := and_bit (p := p) t ha hb
    rw [h1, pb] at h2
    simpa using h2.symm
  · intro h a ha
    obtain ⟨ha, pa⟩ := mem_mem7.mp ha
    have : T a &&& p = 0 := mask_ext (and_lt hp) (by decide) fun u hu => by
      rw [and_bit t ha hu]
      cases pu : p.testBit u with
      | false => simp
      | true => rw [h a u ha hu pa pu]; simp
    simp [this]

theorem whole_ok (o : Od pos w) (t : Ts E T) (g : Gr E) {k : Nat} (hk : k < 7) : wholeM T w k < 128 ∧ ∀ u, u < 7 → (wholeM T w k).testBit u = Wh E pos w k u := by
  have hw := o.wl k hk
  obtain ⟨h1, h2⟩ := add_bit (bagM T w k) (bag_lt o hk) (w k) hw (by
    rw [bag_bit o t hk hw]
    unfold Bg
    rw [g.irr]
    rfl)
  refine ⟨h1, fun u hu => ?_⟩
  unfold wholeM Wh
  rw [h2 u hu, bag_bit o t hk hu]

/-- a clique that can grow no more is a whole, as masks -/
theorem max_whole (g : Gr E) (o : Od pos w) (t : Ts E T) (nf : Nf E pos w) (hp : p < 128) (h1 : 1 ≤ p) (hc : clqM T p = true) (hg : growM T p = false) : ∃ k, k < 7 ∧ p = wholeM T w k := by
  obtain ⟨k, hk, h⟩ := clq_max g o nf ((clqM_iff g t).mp hc) (mem7_ne hp h1) (growM_no t hp hg)
  refine ⟨k, hk, mask_ext hp (whole_ok o t g hk).1 fun u hu => ?_⟩
  rw [(whole_ok o t g hk).2 u hu]
  exact h u hu

theorem pc_bag (o : Od pos w) (t : Ts E T) {k : Nat} (hk : k < 7) : pc (bagM T w k) = cnt (Bg E pos w k) := cnt_congr fun u hu => bag_bit o t hk hu

/-- what the loop over all sets keeps -/
structure PtI (T : Nat → Nat) (n : Nat) (G A : Nat) : Prop where
  g1 : ∀ p, 1 ≤ p → p < n → clqM T p = true → pc p ≤ G
  g2 : G = 0 ∨ ∃ p, p < 128 ∧ clqM T p = true ∧ pc p = G
  a1 : ∀ p, 1 ≤ p → p < n → apM T p = true → pc p ≤ A
  a2 : A = 0 ∨ ∃ p, p < 128 ∧ apM T p = true ∧ pc p = A
theorem PtI.start : PtI T 1 0 0 := ⟨fun p h1 h2 => by omega, .inl rfl, fun p h1 h2 => by omega, .inl rfl⟩
theorem PtI.step {n G A : Nat} (x : PtI T n G A) (hn : n < 128) : PtI T (n + 1) (if clqM T n = true then (if G < pc n then pc n else G) else G) (if apM T n = true then (if A < pc n then pc n else A) else A) := by
  refine ⟨fun p h1 h2 h3 => ?_, ?_, fun p h1 h2 h3 => ?_, ?_⟩
  · by_cases e : p = n
    · subst e
      rw [if_pos h3]
      split <;> omega
    · have := x.g1 p h1 (by omega) h3
      split
      · split <;> omega
      · exact this
  · split
    · split
      · exact .inr ⟨n, hn, by assumption, rfl⟩
      · exact x.g2
    · exact x.g2
  · by_cases e : p = n
    · subst e
      rw [if_pos h3]
      split <;> omega
    · have := x.a1 p h1 (by omega) h3
      split
      · split <;> omega
      · exact this
  · split
    · split
      · exact .inr ⟨n, hn, by assumption, rfl⟩
      · exact x.a2
    · exact x.a2

theorem great_eq (g : Gr E) (o : Od pos w) (t : Ts E T) (nf : Nf E pos w) {G A M : Nat} (x : PtI T 128 G A) (h1 : ∃ k, k < 7 ∧ pc (bagM T w k) = M) (h2 : ∀ k, k < 7 → pc (bagM T w k) ≤ M) : G = 1 + M := by
  refine Nat.le_antisymm ?_ ?_
  · rcases x.g2 with e | ⟨p, hp, hc, e⟩
    · omega
    · have := clq_le g o ((clqM_iff g t).mp hc) (m := M) fun k hk => by rw [← pc_bag o t hk]; exact h2 k hk
      unfold pc at e
      omega
  · obtain ⟨k, hk, e⟩ := h1
    obtain ⟨w1, w2⟩ := whole_ok o t g hk
    have hc : clqM T (wholeM T w k) = true := (clqM_iff g t).mpr fun a b ha hb hab pa pb => by
      have pa : Wh E pos w k a = true := (w2 a ha).symm.trans pa
      have pb : Wh E pos w k b = true := (w2 b hb).symm.trans pb
      exact whole_clq g o nf hk a b ha hb hab pa pb
    have hpos : 1 ≤ wholeM T w k := by
      unfold wholeM
      have : 0 < 2 ^ w k := Nat.pow_pos (by decide)
      omega
    have h3 := x.g1 _ hpos w1 hc
    have h4 : pc (wholeM T w k) = cnt (Wh E pos w k) := cnt_congr fun u hu => w2 u hu
    rw [h4, cnt_whole g o hk, ← pc_bag o t hk, e] at h3
    omega

theorem colour_eq (g : Gr E) (o : Od pos w) (t : Ts E T) (nf : Nf E pos w) {M m : Nat} {col : Nat → Nat} (c : Col E pos w col) (c1 : ∃ v, v < 7 ∧ col v = m) (c2 : ∀ v, v < 7 → col v ≤ m) (h1 : ∃ k, k < 7 ∧ pc (bagM T w k) = M) (h2 : ∀ k, k < 7 → pc (bagM T w k) ≤ M) : m = M := by
  refine Nat.le_antisymm ?_ ?_
  · obtain ⟨v, hv, e⟩ := c1
    have h3 := col_le c (o.pl v hv)
    rw [o.wp v hv, ← pc_bag o t (o.pl v hv)] at h3
    have := h2 _ (o.pl v hv)
    omega
  · obtain ⟨k, hk, e⟩ := h1
    have := col_ge g o nf c hk c2
    rw [← pc_bag o t hk] at this
    omega

/-- what the walk back keeps -/
structure TkI (E : Nat → Nat → Bool) (pos w : Nat → Nat) (i : Nat) (t cv cr : Nat) : Prop where
  tl : t < 128
  cl : cv < 128
  rl : cr < 128
  tb : ∀ k, k < 7 → t.testBit (w k) = true → 7 - i ≤ k
  tk : ∀ k, 7 - i ≤ k → k < 7 → (t.testBit (w k) = true ↔ ∀ j, k < j → j < 7 → t.testBit (w j) = true → E (w j) (w k) = false)
  cv : ∀ u, u < 7 → (cv.testBit u = true ↔ ∃ v, v < 7 ∧ t.testBit v = true ∧ (E v u = true ∨ u = v))
  cr : ∀ u, u < 7 → (cr.testBit u = true ↔ ∃ k, k < 7 ∧ t.testBit (w k) = true ∧ Wh E pos w k u = true)

theorem TkI.start : TkI E pos w 0 0 0 0 := ⟨by decide, by decide, by decide, fun k _ h => by simp at h, fun k h1 h2 => by omega, fun u _ => by simp, fun u _ => by simp⟩

theorem TkI.off {i t cv cr k : Nat} (x : TkI E pos w i t cv cr) (hk : k = 6 - i) (hi : i < 7) : t.testBit (w k) = false := by
  cases q : t.testBit (w k) with
  | false => rfl
  | true =>
    have := x.tb k (by omega) q
    omega

theorem TkI.skip (o : Od pos w) {i t cv cr k : Nat} (x : TkI E pos w i t cv cr) (hk : k = 6 - i) (hi : i < 7) (h : cv.testBit (w k) = true) : TkI E pos w (i + 1) t cv cr := by
  have hoff := x.off hk hi
  refine ⟨x.tl, x.cl, x.rl, fun k' hk' hb => ?_, fun k' h1 h2 => ?_, x.cv, x.cr⟩
  · have := x.tb k' hk' hb
    omega
  · by_cases e : k' = k
    · subst e
      constructor
      · intro q; rw [hoff] at q; cases q
      · intro q
        obtain ⟨v, hv, hb, hE⟩ := (x.cv _ (o.wl k' h2)).mp h
        rcases hE with hE | hE
        · have hpv := x.tb (pos v) (o.pl v hv) (by rw [o.wp v hv]; exact hb)
          have := q (pos v) (by omega) (o.pl v hv) (by rw [o.wp v hv]; exact hb)
          rw [o.wp v hv, hE] at this
          cases this
        · rw [hE]; exact hb
    · exact x.tk k' (by omega) h2

theorem TkI.none (o : Od pos w) (ts : Ts E T) {i t cv cr k : Nat} (x : TkI E pos w i t cv cr) (g : Gr E) (hk : k = 6 - i) (hi : i < 7) (h : cv.testBit (w k) = false) : T (w k) &&& t = 0 := by
  have hw := o.wl k (by omega)
  refine mask_ext (and_lt x.tl) (by decide) fun u hu => ?_
  rw [and_bit ts hw hu]
  cases q : E (w k) u with
  | false => simp
  | true =>
    cases q2 : t.testBit u with
    | false => simp
    | true =>
      have := (x.cv _ hw).mpr ⟨u, hu, q2, .inl (by rw [g.sym]; exact q)⟩
      rw [this] at h
      cases h

theorem TkI.take (o : Od pos w) (ts : Ts E T) (g : Gr E) {i t cv cr k : Nat} (x : TkI E pos w i t cv cr) (hk : k = 6 - i) (hi : i < 7) (h : cv.testBit (w k) = false) :
    TkI E pos w (i + 1) (t + 2 ^ w k) ((cv ||| T (w k)) ||| 2 ^ w k) (cr ||| wholeM T w k) := by
  have hk7 : k < 7 := by omega
  have hw := o.wl k hk7
  have hoff := x.off hk hi
  obtain ⟨a1, a2⟩ := add_bit t x.tl (w k) hw hoff
  obtain ⟨p1, p2⟩ := pow_bit (w k) hw
  obtain ⟨w1, w2⟩ := whole_ok o ts g hk7
  have hinj : ∀ k', k' < 7 → (w k' = w k ↔ k' = k) := fun k' hk' => by
    constructor
    · intro e
      have := congrArg pos e
      rwa [o.pw k' hk', o.pw k hk7] at this
    · rintro rfl; rfl
  have tb' : ∀ k', k' < 7 → ((t + 2 ^ w k).testBit (w k') = true ↔ t.testBit (w k') = true ∨ k' = k) := fun k' hk' => by
    rw [a2 _ (o.wl k' hk'), Bool.or_eq_true, beq_iff_eq, hinj k' hk']
  refine ⟨a1, or_lt (or_lt x.cl (ts _ hw).1) p1, or_lt x.rl w1, fun k' hk' hb => ?_, fun k' h1 h2 => ?_, fun u hu => ?_, fun u hu => ?_⟩
  · rcases (tb' k' hk').mp hb with q | q
    · have := x.tb k' hk' q
      omega
    · omega
  · by_cases e : k' = k
    · subst e
      constructor
      · intro _ j hj hj7 hb
        rcases (tb' j hj7).mp hb with q | q
        · cases q2 : E (w j) (w k') with
          | false => rfl
          | true =>
            have := (x.cv _ hw).mpr ⟨w j, o.wl j hj7, q, .inl q2⟩
            rw [this] at h; cases h
        · omega
      · intro _
        exact (tb' k' h2).mpr (.inr rfl)
    · rw [tb' k' h2]
      constructor
      · rintro (q | q) j hj hj7 hb
        · rcases (tb' j hj7).mp hb with q3 | q3
          · exact (x.tk k' (by omega) h2).mp q j hj hj7 q3
          · omega
        · exact absurd q e
      · intro q
        left
        refine (x.tk k' (by omega) h2).mpr fun j hj hj7 hb => q j hj hj7 ((tb' j hj7).mpr (.inl hb))
  · rw [Nat.testBit_or, Nat.testBit_or, Bool.or_eq_true, Bool.or_eq_true, x.cv u hu, (ts _ hw).2 u hu, p2 u hu, beq_iff_eq]
    constructor
    · rintro ((⟨v, h1, h2, h3⟩ | q) | q)
      · exact ⟨v, h1, by rw [a2 v h1, h2]; rfl, h3⟩
      · exact ⟨w k, hw, by rw [a2 _ hw]; simp, .inl q⟩
      · exact ⟨w k, hw, by rw [a2 _ hw]; simp, .inr q⟩
    · rintro ⟨v, h1, h2, h3⟩
      rw [a2 v h1, Bool.or_eq_true, beq_iff_eq] at h2
      rcases h2 with h2 | h2
      · exact .inl (.inl ⟨v, h1, h2, h3⟩)
      · subst h2
        rcases h3 with h3 | h3
        · exact .inl (.inr h3)
        · exact .inr h3
  · rw [Nat.testBit_or, Bool.or_eq_true, x.cr u hu, w2 u hu]
    constructor
    · rintro (⟨k', h1, h2, h3⟩ | q)
      · exact ⟨k', h1, (tb' k' h1).mpr (.inl h2), h3⟩
      · exact ⟨k, hk7, (tb' k hk7).mpr (.inr rfl), q⟩
    · rintro ⟨k', h1, h2, h3⟩
      rcases (tb' k' h1).mp h2 with q | q
      · exact .inl ⟨k', h1, q, h3⟩
      · subst q; exact .inr h3

theorem TkI.tkE {t cv cr : Nat} (x : TkI E pos w 7 t cv cr) : Tk E w (fun v => t.testBit v) := fun k hk => x.tk k (by omega) hk
theorem TkI.full (g : Gr E) (o : Od pos w) {t cv cr : Nat} (x : TkI E pos w 7 t cv cr) : cr = 127 := by
  refine mask_ext x.rl (by decide) fun u hu => ?_
  have h1 : cr.testBit u = true := (x.cr u hu).mpr (tk_cover g o x.tkE u hu)
  have h2 : ∀ u, u < 7 → (127).testBit u = true := by decide
  rw [h1, h2 u hu]
theorem TkI.most (g : Gr E) (o : Od pos w) (nf : Nf E pos w) (ts : Ts E T) {t cv cr G A : Nat} (x : TkI E pos w 7 t cv cr) (y : PtI T 128 G A) : pc t = A := by
  refine Nat.le_antisymm ?_ ?_
  · by_cases h0 : t = 0
    · subst h0
      rw [pc_zero]
      exact Nat.zero_le _
    · exact y.a1 t (by omega) x.tl ((apM_iff ts x.tl).mpr (tk_ind g o x.tkE))
  · rcases y.a2 with e | ⟨p, hp, h1, h2⟩
    · omega
    · rw [← h2]
      exact tk_max g o nf x.tkE ((apM_iff ts hp).mp h1)
end
end Mini
end

section
open PySem PyProof.Rows
namespace Mini

def onesB : MB := blk [
    .sto (.var "ones") (.var "part") (.bin .Add (.sub (.var "ones") (.bin .FloorDiv (.var "part") (.int 2))) (.bin .Mod (.var "part") (.int 2)))]
def partC : MB := blk [
      .asg "greatest" (.blt .max (.cons (.var "greatest") (.cons (.sub (.var "ones") (.var "part")) .nil))),
      .ite (.and (.not (.cmp .In (.bool true) (.comp (.cmp .Eq (.bin .BitAnd (.sub (.var "ties") (.var "v")) (.var "part")) (.var "part")) "v" (.r1 (.int 7)) .tt))) (.cmp .NotIn (.var "part") (.var "wholes"))) (blk [
        .ret (.bool false)]) (.nil)]
def partD : MS := .ite (.not (.cmp .In (.bool true) (.comp (.cmp .NotEq (.bin .BitAnd (.sub (.var "ties") (.var "v")) (.var "part")) (.int 0)) "v" (.val (.var "members")) .tt))) (blk [
      .asg "most_apart" (.blt .max (.cons (.var "most_apart") (.cons (.sub (.var "ones") (.var "part")) .nil)))]) (.nil)
def partB : MB := blk [
    .asg "members" (.call "_law_members" (.cons (.var "part") .nil)),
    .ite (.not (.cmp .In (.bool false) (.comp (.cmp .Eq (.sub (.var "ones") (.bin .BitAnd (.sub (.var "ties") (.var "v")) (.var "part"))) (.bin .Sub (.sub (.var "ones") (.var "part")) (.int 1))) "v" (.val (.var "members")) .tt))) partC (.nil),
    partD]
def takeB : MB := blk [
    .ite (.cmp .Eq (.bin .Mod (.bin .FloorDiv (.var "covered") (.bin .Pow (.int 2) (.sub (.var "order") (.var "k")))) (.int 2)) (.int 0)) (blk [
      .ite (.cmp .NotEq (.bin .BitAnd (.sub (.var "ties") (.sub (.var "order") (.var "k"))) (.var "taken")) (.int 0)) (blk [
        .ret (.bool false)]) (.nil),
      .asg "taken" (.bin .Add (.var "taken") (.bin .Pow (.int 2) (.sub (.var "order") (.var "k")))),
      .asg "covered" (.bin .BitOr (.bin .BitOr (.var "covered") (.sub (.var "ties") (.sub (.var "order") (.var "k")))) (.bin .Pow (.int 2) (.sub (.var "order") (.var "k")))),
      .asg "cover" (.bin .BitOr (.var "cover") (.sub (.var "wholes") (.var "k")))]) (.nil)]
def tiesE : ME := .comp (.blt .sum (.cons (.comp (.bin .Pow (.int 2) (.var "u")) "u" (.r1 (.int 7)) (.of (.sub (.sub (.var "near") (.var "v")) (.var "u")))) .nil)) "v" (.r1 (.int 7)) .tt
def law2 : MB := blk [
  .asg "order" (.call "_law_order" (.cons (.var "near") .nil)),
  .ite (.or (.cmp .Is (.var "order") .none) (.cmp .NotEq (.blt .sorted (.cons (.var "order") .nil)) (.list (.cons (.int 0) (.cons (.int 1) (.cons (.int 2) (.cons (.int 3) (.cons (.int 4) (.cons (.int 5) (.cons (.int 6) .nil)))))))))) (blk [
    .ret (.bool false)]) (.nil),
  .asg "bags" (.call "_law_no_fill" (.cons (.var "order") (.cons (.var "ties") .nil))),
  .asg "ring" (.call "_law_ring" (.cons (.var "ties") (.cons (.var "ones") .nil))),
  .ite (.or (.of (.var "ring")) (.cmp .Is (.var "bags") .none)) (blk [
    .ret (.and (.var "ring") (.cmp .Is (.var "bags") .none))]) (.nil),
  .asg "wholes" (.comp (.bin .Add (.sub (.var "bags") (.var "k")) (.bin .Pow (.int 2) (.sub (.var "order") (.var "k")))) "k" (.r1 (.int 7)) .tt),
  .asg "greatest" (.int 0),
  .asg "most_apart" (.int 0),
  .for_ "part" (.r2 (.int 1) (.int 128)) partB,
  .ite (.or (.cmp .NotEq (.call "_law_colours" (.cons (.var "order") (.cons (.var "near") .nil))) (.var "greatest")) (.cmp .NotEq (.var "greatest") (.bin .Add (.int 1) (.blt .max (.cons (.comp (.sub (.var "ones") (.var "bag")) "bag" (.val (.var "bags")) .tt) .nil))))) (blk [
    .ret (.bool false)]) (.nil),
  .asg "covered" (.int 0),
  .asg "taken" (.int 0),
  .asg "cover" (.int 0),
  .for_ "k" (.down (.int 6) (.neg (.int 1))) takeB,
  .ret (.and (.cmp .Eq (.sub (.var "ones") (.var "taken")) (.var "most_apart")) (.cmp .Eq (.var "cover") (.int 127)))]
theorem law_eq : d_law = ⟨["script"], .cons (.asg "near" (.call "_law_near" (.cons (.var "script") .nil))) (.cons (.asg "ties" tiesE)
  (.cons (.asg "ones" (.bin .Mult (.list (.cons (.int 0) .nil)) (.int 128))) (.cons (.for_ "part" (.r2 (.int 1) (.int 128)) onesB) law2)))⟩ := rfl

/-! one set of points -/
structure PF (o t wh : Nat) (ρ : Frm) : Prop where
  o : ρ "ones" = some (.ref o)
  t : ρ "ties" = some (.ref t)
  w : ρ "wholes" = some (.ref wh)

theorem any_false (l : List Nat) (f : Nat → Bool) : (l.map f).any (· == false) = !(l.all f) := by
  rw [List.any_map, Bool.eq_iff_iff, List.any_eq_true, Bool.not_eq_true', List.all_eq_false]
  simp
theorem any_true (l : List Nat) (f : Nat → Bool) : (l.map f).any (· == true) = l.any f := by
  rw [List.any_map]
  congr 1
  funext x
  simp

theorem max_nat (a b : Nat) : (if (a : Int) < (b : Int) then (b : Int) else (a : Int)) = ((if a < b then b else a : Nat) : Int) := by
  by_cases c : a < b
  · rw [if_pos c, if_pos (by omega)]
  · rw [if_neg c, if_neg (by omega)]

theorem mem_len {p : Nat} : (mem7 p).length ≤ LIM := by
  have : (mem7 p).length ≤ 7 := Nat.le_trans (List.length_filter_le _ _) (by simp)
  have := LIM_eq
  omega

theorem partD_walk {B : Nat} {sp : String → List V → Sto → (V → Sto → Prop) → Prop} {kn : String → Bool} {σ : Sto} {o t a : Nat} {T : Nat → Nat} {p A : Nat} {ρ : Frm} {K : Fl → Frm → Sto → Prop} (hp : p < 128) (ht : σ t = some (rowI 7 fun v => ((T v : Nat) : Int))) (ho : σ o = some (rowI 128 fun v => ((pc v : Nat) : Int)))
    (ha : σ a = some (natL (mem7 p))) (q1 : ρ "ties" = some (.ref t)) (q2 : ρ "ones" = some (.ref o)) (q3 : ρ "part" = some (.int (p : Int))) (q4 : ρ "members" = some (.ref a)) (q6 : ρ "most_apart" = some (.int (A : Int)))
    (hK : ∀ ρ' σ', Sub σ σ' → (∀ x, x ≠ "most_apart" → ρ' x = ρ x) → ρ' "most_apart" = some (.int ((if apM T p = true then (if A < pc p then pc p else A) else A : Nat) : Int)) → K .next ρ' σ') :
    wpS ⟨B, sp, gl0, kn⟩ partD ρ σ K := by
  simp only [wpB, wpS, wpE, wpT, wpI, wpEs, blk, bindF, wpBin_int, binV, setv, endF, V.ref.injEq, V.int.injEq, V.bool.injEq, V.tupI.injEq, Option.some.injEq, exists_eq_left', exists_eq_left, exists_and_left, String.reduceEq, if_true, if_false, reduceIte, true_and, and_true, decide_true, decide_false, Bool.false_eq_true, Bool.not_true, Bool.not_false, Int.reduceLE, Int.reduceToNat, Int.reducePow, Nat.reducePow, c_lt, c_gt, c_le, c_ge, c_eq, c_ne, c_is, c_isnot, t_bool, t_ref, n_none, n_ref, cmp_pr, decide_eq_true_eq, Bool.not_eq_true', decide_eq_false_iff_not, b_len, b_sum, b_max, b_min, b_max2, b_min2, b_sorted, b_list, b_listT, b_abs, Int.reduceEq, reduceCtorEq, or_self, or_false, false_or, sm2, sm5, sm6, sm7, sm8, sm36, m_pop, m_append, m_remove, w_addR, w_mulR, partD, q1, q2, q3, q4, q6]
  refine ⟨_, ha, by rw [natL_len]; exact mem_len, ?_⟩
  refine compL_flat (gBoo fun v => (T v &&& p) != 0) (fun v hv acc K' hK' => ?_) ha ?_
  · unfold natL at hv
    obtain ⟨w, hw, rfl⟩ := List.mem_map.mp hv
    have hw7 := (mem_mem7.mp hw).1
    refine ⟨_, sub_rowI (j := w) ht rfl hw7, ?_⟩
    rw [wpBin_int]
    refine ⟨_, bin_and _ _, _, rfl, ?_⟩
    have e : (((T w &&& p : Nat) : Int) == 0) = (T w &&& p == 0) := int_lit_beq _ 0
    rw [e]
    exact hK'
  · rw [List.nil_append, flat_bools]
    intro b hbB hbn
    have s2 : Sub σ (upd σ b (((mem7 p).map fun v => (T v &&& p) != 0).map .bool)) := .new hbn
    have hb2 := upd_at σ b (((mem7 p).map fun v => (T v &&& p) != 0).map V.bool)
    generalize upd σ b (((mem7 p).map fun v => (T v &&& p) != 0).map V.bool) = σ2 at s2 hb2
    have hany : cmpV σ2 .In (.bool true) (.ref b) = some (!(apM T p)) := by
      simp only [cmpV, hb2, Option.bind_some, in_bools, any_true]
      unfold apM
      rw [Bool.not_not]
    refine ⟨_, hany, ?_⟩
    cases c : apM T p with
    | true =>
      rw [c] at hK
      rw [if_pos (by rfl)]
      refine ⟨_, sub_rowI (j := p) (s2 _ _ ho) rfl hp, ?_⟩
      rw [b_max2, max_nat]
      exact hK _ _ s2 (fun x hx => by simp [setv, hx]) (by simp [setv])
    | false =>
      rw [c] at hK
      rw [if_neg (by simp)]
      exact hK _ _ s2 (fun x _ => rfl) (by simpa using q6)

theorem partC_walk {B : Nat} {sp : String → List V → Sto → (V → Sto → Prop) → Prop} {kn : String → Bool} {σ : Sto} {o t wh : Nat} {T : Nat → Nat} {ws : List Nat} {p G : Nat} {ρ : Frm} {K : Fl → Frm → Sto → Prop} (hp : p < 128) (ht : σ t = some (rowI 7 fun v => ((T v : Nat) : Int))) (ho : σ o = some (rowI 128 fun v => ((pc v : Nat) : Int)))
    (hw : σ wh = some (natL ws)) (q1 : ρ "ties" = some (.ref t)) (q2 : ρ "ones" = some (.ref o)) (q3 : ρ "part" = some (.int (p : Int))) (q4 : ρ "wholes" = some (.ref wh)) (q5 : ρ "greatest" = some (.int (G : Int)))
    (hmax : growM T p = false → p ∈ ws)
    (hK : ∀ ρ' σ', Sub σ σ' → (∀ x, x ≠ "greatest" → ρ' x = ρ x) → ρ' "greatest" = some (.int ((if G < pc p then pc p else G : Nat) : Int)) → K .next ρ' σ') :
    wpB ⟨B, sp, gl0, kn⟩ partC ρ σ K := by
  simp only [wpB, wpS, wpE, wpT, wpI, wpEs, blk, bindF, wpBin_int, binV, setv, endF, V.ref.injEq, V.int.injEq, V.bool.injEq, V.tupI.injEq, Option.some.injEq, exists_eq_left', exists_eq_left, exists_and_left, String.reduceEq, if_true, if_false, reduceIte, true_and, and_true, decide_true, decide_false, Bool.false_eq_true, Bool.not_true, Bool.not_false, Int.reduceLE, Int.reduceToNat, Int.reducePow, Nat.reducePow, c_lt, c_gt, c_le, c_ge, c_eq, c_ne, c_is, c_isnot, t_bool, t_ref, n_none, n_ref, cmp_pr, decide_eq_true_eq, Bool.not_eq_true', decide_eq_false_iff_not, b_len, b_sum, b_max, b_min, b_max2, b_min2, b_sorted, b_list, b_listT, b_abs, Int.reduceEq, reduceCtorEq, or_self, or_false, false_or, sm2, sm5, sm6, sm7, sm8, sm36, m_pop, m_append, m_remove, w_addR, w_mulR, partC, q1, q2, q3, q4, q5, sub_rowI (j := p) ho rfl hp, max_nat]
  refine ⟨by rw [rng_length]; decide, ?_⟩
  have hK2 : ∀ σ', Sub σ σ' → K .next (setv ρ "greatest" (.int ((if G < pc p then pc p else G : Nat) : Int))) σ' := fun σ' s => hK _ _ s (fun x hx => by simp [setv, hx]) (by simp [setv])
  refine compL_flat (gBoo fun v => (T v &&& p) == p) (fun v hv acc K' hK' => ?_) trivial ?_
  · obtain ⟨j, hj⟩ := List.getElem?_of_mem hv
    obtain ⟨hj7, rfl⟩ := rng_get hj
    have hj7 : j < 7 := hj7
    rw [Int.zero_add] at hK' ⊢
    refine ⟨_, sub_rowI (j := j) ht rfl hj7, ?_⟩
    rw [wpBin_int]
    refine ⟨_, bin_and _ _, _, rfl, ?_⟩
    rw [int_lit_beq]
    exact hK'
  · rw [List.nil_append, rng_natL, flat_bools]
    intro b hbB hbn
    have s2 : Sub σ (upd σ b (((List.range 7).map fun v => (T v &&& p) == p).map .bool)) := .new hbn
    have hb2 := upd_at σ b (((List.range 7).map fun v => (T v &&& p) == p).map V.bool)
    generalize upd σ b (((List.range 7).map fun v => (T v &&& p) == p).map V.bool) = σ2 at s2 hb2
    have hany : cmpV σ2 .In (.bool true) (.ref b) = some (growM T p) := by
      simp only [cmpV, hb2, Option.bind_some, in_bools, any_true]
      rfl
    refine ⟨_, hany, ?_⟩
    cases c : growM T p with
    | true =>
      rw [if_neg (by simp)]
      exact hK2 _ s2
    | false =>
      rw [if_pos rfl]
      have hin : cmpV σ2 .NotIn (.int (p : Int)) (.ref wh) = some (!(ws.contains p)) := by
        simp only [cmpV, s2 _ _ hw, Option.bind_some, in_nat, Option.map_some]
      refine ⟨_, hin, ?_⟩
      rw [if_neg (by simpa using hmax c)]
      exact hK2 _ s2

theorem part_walk {B k : Nat} {σ : Sto} {o t wh : Nat} {T : Nat → Nat} {ws : List Nat} {p G A : Nat} {ρ : Frm} {K : Fl → Frm → Sto → Prop} (hp : p < 128) (ht : σ t = some (rowI 7 fun v => ((T v : Nat) : Int))) (ho : σ o = some (rowI 128 fun v => ((pc v : Nat) : Int))) (hw : σ wh = some (natL ws))
    (q1 : ρ "ties" = some (.ref t)) (q2 : ρ "ones" = some (.ref o)) (q3 : ρ "part" = some (.int (p : Int))) (q4 : ρ "wholes" = some (.ref wh)) (q5 : ρ "greatest" = some (.int (G : Int))) (q6 : ρ "most_apart" = some (.int (A : Int)))
    (hmax : clqM T p = true → growM T p = false → p ∈ ws)
    (hK : ∀ ρ' σ', Sub σ σ' → (∀ x, x ≠ "members" → x ≠ "greatest" → x ≠ "most_apart" → ρ' x = ρ x) → ρ' "greatest" = some (.int ((if clqM T p = true then (if G < pc p then pc p else G) else G : Nat) : Int)) →
      ρ' "most_apart" = some (.int ((if apM T p = true then (if A < pc p then pc p else A) else A : Nat) : Int)) → K .next ρ' σ') :
    wpB ⟨B, Sp B gl0 P0 (k + 1), gl0, fun f => (P0 f).isSome⟩ partB ρ σ K := by
  simp only [wpB, wpS, wpE, wpT, wpI, wpEs, blk, bindF, wpBin_int, binV, setv, endF, V.ref.injEq, V.int.injEq, V.bool.injEq, V.tupI.injEq, Option.some.injEq, exists_eq_left', exists_eq_left, exists_and_left, String.reduceEq, if_true, if_false, reduceIte, true_and, and_true, decide_true, decide_false, Bool.false_eq_true, Bool.not_true, Bool.not_false, Int.reduceLE, Int.reduceToNat, Int.reducePow, Nat.reducePow, c_lt, c_gt, c_le, c_ge, c_eq, c_ne, c_is, c_isnot, t_bool, t_ref, n_none, n_ref, cmp_pr, decide_eq_true_eq, Bool.not_eq_true', decide_eq_false_iff_not, b_len, b_sum, b_max, b_min, b_max2, b_min2, b_sorted, b_list, b_listT, b_abs, Int.reduceEq, reduceCtorEq, or_self, or_false, false_or, sm2, sm5, sm6, sm7, sm8, sm36, m_pop, m_append, m_remove, w_addR, w_mulR, partB, q1, q2, q3, q4, q5, q6]
  refine ⟨rfl, ?_⟩
  refine members_spec fun σ1 a s1 ha => ?_
  have ht1 := s1 _ _ ht
  have ho1 := s1 _ _ ho
  have hw1 := s1 _ _ hw
  have hpo : subV σ1 (.ref o) (.int (p : Int)) = some (.int ((pc p : Nat) : Int)) := sub_rowI (j := p) ho1 rfl hp
  refine ⟨a, rfl, _, ha, by rw [natL_len]; exact mem_len, ?_⟩
  refine compL_flat (gBoo fun v => ((pc (T v &&& p) : Nat) : Int) == ((pc p : Nat) : Int) - 1) (fun v hv acc K' hK' => ?_) ha ?_
  · unfold natL at hv
    obtain ⟨w, hw, rfl⟩ := List.mem_map.mp hv
    have hw7 := (mem_mem7.mp hw).1
    refine ⟨_, sub_rowI (j := w) ht1 rfl hw7, ?_⟩
    rw [wpBin_int]
    refine ⟨_, bin_and _ _, _, sub_rowI (j := T w &&& p) ho1 rfl (and_lt hp), _, hpo, ?_⟩
    rw [wpBin_int]
    exact ⟨_, rfl, _, rfl, hK'⟩
  · rw [List.nil_append, flat_bools]
    intro b hbB hbn
    have s2 : Sub σ1 (upd σ1 b (((mem7 p).map fun v => ((pc (T v &&& p) : Nat) : Int) == ((pc p : Nat) : Int) - 1).map .bool)) := .new hbn
    have hb2 := upd_at σ1 b (((mem7 p).map fun v => ((pc (T v &&& p) : Nat) : Int) == ((pc p : Nat) : Int) - 1).map V.bool)
    generalize upd σ1 b (((mem7 p).map fun v => ((pc (T v &&& p) : Nat) : Int) == ((pc p : Nat) : Int) - 1).map V.bool) = σ2 at s2 hb2
    have hany : cmpV σ2 .In (.bool false) (.ref b) = some (!(clqM T p)) := by
      simp only [cmpV, hb2, Option.bind_some, in_bools, any_false]
      rfl
    refine ⟨_, hany, ?_⟩
    have ht2 := s2 _ _ ht1
    have ho2 := s2 _ _ ho1
    have ha2 := s2 _ _ ha
    cases c : clqM T p with
    | true =>
      rw [c] at hK
      rw [if_pos (by rfl)]
      refine partC_walk (G := G) hp ht2 ho2 (s2 _ _ hw1) (by simp [setv, q1]) (by simp [setv, q2]) (by simp [setv, q3]) (by simp [setv, q4]) (by simp [setv, q5]) (hmax c) fun ρ3 σ3 s3 h1 h2 => ?_
      have g : ∀ x, x ≠ "greatest" → x ≠ "members" → ρ3 x = ρ x := fun x h3 h4 => by rw [h1 x h3, setv_ne _ _ h4]
      refine partD_walk (A := A) hp (s3 _ _ ht2) (s3 _ _ ho2) (s3 _ _ ha2) ((g _ (by decide) (by decide)).trans q1) ((g _ (by decide) (by decide)).trans q2) ((g _ (by decide) (by decide)).trans q3) ((h1 _ (by decide)).trans (by simp [setv])) ((g _ (by decide) (by decide)).trans q6) fun ρ4 σ4 s4 h3 h4 => ?_
      exact hK _ _ (((s1.trans s2).trans s3).trans s4) (fun x g1 g2 g3 => (h3 x g3).trans (g x g2 g1)) ((h3 _ (by decide)).trans h2) h4
    | false =>
      rw [c] at hK
      rw [if_neg (by simp)]
      refine partD_walk (A := A) hp ht2 ho2 ha2 (by simp [setv, q1]) (by simp [setv, q2]) (by simp [setv, q3]) (by simp [setv]) (by simp [setv, q6]) fun ρ4 σ4 s4 h3 h4 => ?_
      exact hK _ _ ((s1.trans s2).trans s4) (fun x g1 g2 g3 => by rw [h3 x g3, setv_ne _ _ g1]) (by rw [h3 _ (by decide)]; simp [setv, q5]) h4
end Mini
end

section
open PySem PyProof.Rows
namespace Mini

theorem take_walk {B : Nat} {sp : String → List V → Sto → (V → Sto → Prop) → Prop} {kn : String → Bool} {σ : Sto} {od t wh : Nat} {E : Nat → Nat → Bool} {T w pos : Nat → Nat} {i k tk cv cr : Nat} {ρ : Frm} {K : Fl → Frm → Sto → Prop}
    (g : Gr E) (o : Od pos w) (ts : Ts E T) (hi : i < 7) (hk : k = 6 - i) (ht : σ t = some (rowI 7 fun v => ((T v : Nat) : Int))) (ho : σ od = some (rowI 7 fun k => ((w k : Nat) : Int))) (hw : σ wh = some (rowI 7 fun k => ((wholeM T w k : Nat) : Int)))
    (q1 : ρ "ties" = some (.ref t)) (q2 : ρ "order" = some (.ref od)) (q3 : ρ "wholes" = some (.ref wh)) (q4 : ρ "k" = some (.int (k : Int))) (q5 : ρ "covered" = some (.int (cv : Int))) (q6 : ρ "taken" = some (.int (tk : Int))) (q7 : ρ "cover" = some (.int (cr : Int)))
    (x : TkI E pos w i tk cv cr)
    (hK : ∀ ρ' tk' cv' cr', TkI E pos w (i + 1) tk' cv' cr' → (∀ x, x ≠ "covered" → x ≠ "taken" → x ≠ "cover" → ρ' x = ρ x) → ρ' "covered" = some (.int ((cv' : Nat) : Int)) → ρ' "taken" = some (.int ((tk' : Nat) : Int)) → ρ' "cover" = some (.int ((cr' : Nat) : Int)) → K .next ρ' σ) :
    wpB ⟨B, sp, gl0, kn⟩ takeB ρ σ K := by
  have hk7 : k < 7 := by omega
  have hw7 := o.wl k hk7
  have f1 : subV σ (.ref od) (.int (k : Int)) = some (.int ((w k : Nat) : Int)) := sub_rowI (j := k) ho rfl hk7
  have f2 : subV σ (.ref t) (.int ((w k : Nat) : Int)) = some (.int ((T (w k) : Nat) : Int)) := sub_rowI (j := w k) ht rfl hw7
  have f3 : subV σ (.ref wh) (.int (k : Int)) = some (.int ((wholeM T w k : Nat) : Int)) := sub_rowI (j := k) hw rfl hk7
  simp only [wpB, wpS, wpE, wpT, wpI, wpEs, blk, bindF, wpBin_int, binV, setv, endF, V.ref.injEq, V.int.injEq, V.bool.injEq, V.tupI.injEq, Option.some.injEq, exists_eq_left', exists_eq_left, exists_and_left, String.reduceEq, if_true, if_false, reduceIte, true_and, and_true, decide_true, decide_false, Bool.false_eq_true, Bool.not_true, Bool.not_false, Int.reduceLE, Int.reduceToNat, Int.reducePow, Nat.reducePow, c_lt, c_gt, c_le, c_ge, c_eq, c_ne, c_is, c_isnot, t_bool, t_ref, n_none, n_ref, cmp_pr, decide_eq_true_eq, Bool.not_eq_true', decide_eq_false_iff_not, b_len, b_sum, b_max, b_min, b_max2, b_min2, b_sorted, b_list, b_listT, b_abs, Int.reduceEq, reduceCtorEq, or_self, or_false, false_or, sm2, sm5, sm6, sm7, sm8, sm36, m_pop, m_append, m_remove, w_addR, w_mulR, takeB, q1, q2, q3, q4, q5, q6, q7, f1, f2, f3]
  have hpw : (if 0 ≤ ((w k : Nat) : Int) ∧ ((w k : Nat) : Int) ≤ 1000 then some (V.int (2 ^ ((w k : Nat) : Int).toNat)) else none) = some (.int ((2 ^ w k : Nat) : Int)) := by
    rw [if_pos (by omega)]
    simp
  refine ⟨_, hpw, ?_⟩
  rw [wpBin_int]
  refine ⟨_, bin_fdiv _ (w k) (by omega), ?_⟩
  rw [wpBin_int]
  refine ⟨_, bin_mod2 _, _, rfl, ?_⟩
  rw [bit_test, bit_nil]
  cases c : cv.testBit (w k) with
  | true =>
    rw [if_neg (by simp)]
    exact hK _ _ _ _ (x.skip o hk hi c) (fun _ _ _ _ => rfl) q5 q6 q7
  | false =>
    rw [if_pos (by rfl)]
    refine ⟨_, f1, _, f2, ?_⟩
    rw [wpBin_int]
    refine ⟨_, bin_and _ _, _, rfl, ?_⟩
    rw [x.none o ts g hk hi c, if_neg (by simp)]
    refine ⟨_, f1, ?_⟩
    rw [wpBin_int]
    refine ⟨_, bin_pow _ (by omega), ?_⟩
    rw [wpBin_int]
    refine ⟨_, bin_add _ _, _, f1, _, f2, ?_⟩
    rw [wpBin_int]
    refine ⟨_, bin_or _ _, _, f1, ?_⟩
    rw [wpBin_int]
    refine ⟨_, bin_pow _ (by omega), ?_⟩
    rw [wpBin_int]
    refine ⟨_, bin_or _ _, _, f3, ?_⟩
    rw [wpBin_int]
    refine ⟨_, bin_or _ _, ?_⟩
    exact hK _ _ _ _ (x.take o ts g hk hi c) (fun x h1 h2 h3 => by simp [setv, h1, h2, h3]) (by simp [setv]) (by simp [setv]) (by simp [setv])

theorem ones_walk {B : Nat} {sp : String → List V → Sto → (V → Sto → Prop) → Prop} {kn : String → Bool} {σ : Sto} {o i : Nat} {ρ : Frm} {K : Fl → Frm → Sto → Prop} (hi : i < 127) (hB : B ≤ o) (ho : σ o = some (rowI 128 fun v => ((if v < 1 + i then pc v else 0 : Nat) : Int)))
    (q1 : ρ "ones" = some (.ref o)) (q2 : ρ "part" = some (.int ((1 + i : Nat) : Int)))
    (hK : K .next ρ (upd σ o (rowI 128 fun v => ((if v < 1 + (i + 1) then pc v else 0 : Nat) : Int)))) : wpB ⟨B, sp, gl0, kn⟩ onesB ρ σ K := by
  simp only [wpB, wpS, wpE, wpT, wpI, wpEs, blk, bindF, wpBin_int, binV, setv, endF, V.ref.injEq, V.int.injEq, V.bool.injEq, V.tupI.injEq, Option.some.injEq, exists_eq_left', exists_eq_left, exists_and_left, String.reduceEq, if_true, if_false, reduceIte, true_and, and_true, decide_true, decide_false, Bool.false_eq_true, Bool.not_true, Bool.not_false, Int.reduceLE, Int.reduceToNat, Int.reducePow, Nat.reducePow, c_lt, c_gt, c_le, c_ge, c_eq, c_ne, c_is, c_isnot, t_bool, t_ref, n_none, n_ref, cmp_pr, decide_eq_true_eq, Bool.not_eq_true', decide_eq_false_iff_not, b_len, b_sum, b_max, b_min, b_max2, b_min2, b_sorted, b_list, b_listT, b_abs, Int.reduceEq, reduceCtorEq, or_self, or_false, false_or, sm2, sm5, sm6, sm7, sm8, sm36, m_pop, m_append, m_remove, w_addR, w_mulR, onesB, q1, q2, ho]
  have e1 : (((1 + i : Nat) : Int)).fdiv 2 = (((1 + i) / 2 : Nat) : Int) := by
    rw [Int.fdiv_eq_ediv_of_nonneg _ (by decide)]
    omega
  have e2 : (((1 + i : Nat) : Int)).fmod 2 = (((1 + i) % 2 : Nat) : Int) := by
    rw [Int.fmod_eq_emod_of_nonneg _ (by decide)]
    omega
  rw [e1, e2]
  refine ⟨_, sub_rowI (j := (1 + i) / 2) ho rfl (by omega), ?_⟩
  rw [wpBin_int]
  refine ⟨_, bin_add _ _, _, ho, Int.natCast_nonneg _, by unfold rowI; rw [rowV_len, Int.toNat_natCast]; omega, hB, ?_⟩
  rw [Int.toNat_natCast, rowI_set, if_pos (by omega), ← pc_half (1 + i) (by omega) (by omega)]
  have e3 : (rowI 128 fun j => if j = 1 + i then ((pc (1 + i) : Nat) : Int) else ((if j < 1 + i then pc j else 0 : Nat) : Int)) = rowI 128 fun v => ((if v < 1 + (i + 1) then pc v else 0 : Nat) : Int) := by
    refine rowV_congr fun j _ => ?_
    congr 1
    dsimp only
    by_cases c : j = 1 + i
    · rw [if_pos c, if_pos (by omega), c]
    · rw [if_neg c]
      by_cases d : j < 1 + i
      · rw [if_pos d, if_pos (by omega)]
      · rw [if_neg d, if_neg (by omega)]
  rw [e3]
  exact hK

theorem ties_walk {B : Nat} {σ : Sto} {l : Nat} {r : Nat → Nat} {E : Nat → Nat → Bool} {kn : String → Bool} {sp : String → List V → Sto → (V → Sto → Prop) → Prop} {ρ : Frm} (hM : Mat 7 7 σ l r fun i j => .bool (E i j)) (q1 : ρ "near" = some (.ref l)) {Q : V → Sto → Prop}
    (hQ : ∀ σ' t, Sub σ σ' → σ' t = some (rowI 7 fun v => ((Tm E v : Nat) : Int)) → Q (.ref t) σ') :
    wpE ⟨B, sp, gl0, kn⟩ tiesE ρ σ Q := by
  simp only [wpB, wpS, wpE, wpT, wpI, wpEs, blk, bindF, wpBin_int, binV, setv, endF, V.ref.injEq, V.int.injEq, V.bool.injEq, V.tupI.injEq, Option.some.injEq, exists_eq_left', exists_eq_left, exists_and_left, String.reduceEq, if_true, if_false, reduceIte, true_and, and_true, decide_true, decide_false, Bool.false_eq_true, Bool.not_true, Bool.not_false, Int.reduceLE, Int.reduceToNat, Int.reducePow, Nat.reducePow, c_lt, c_gt, c_le, c_ge, c_eq, c_ne, c_is, c_isnot, t_bool, t_ref, n_none, n_ref, cmp_pr, decide_eq_true_eq, Bool.not_eq_true', decide_eq_false_iff_not, b_len, b_sum, b_max, b_min, b_max2, b_min2, b_sorted, b_list, b_listT, b_abs, Int.reduceEq, reduceCtorEq, or_self, or_false, false_or, sm2, sm5, sm6, sm7, sm8, sm36, m_pop, m_append, m_remove, w_addR, w_mulR, tiesE, q1]
  refine ⟨by rw [rng_length]; decide, ?_⟩
  refine compL_ind (fun i σ' acc => Sub σ σ' ∧ acc = rowI i fun v => ((Tm E v : Nat) : Int)) ?_ ⟨.refl _, rfl⟩ ?_
  · rintro i v σ1 acc K hv ⟨s1, rfl⟩ hK
    obtain ⟨hi, rfl⟩ := rng_get hv
    have hi : i < 7 := hi
    rw [Int.zero_add]
    have m := hM.sub s1
    refine ⟨by rw [rng_length]; decide, ?_⟩
    refine compL_flat (gSom (fun u => E i u) fun u => ((2 ^ u : Nat) : Int)) (fun v hv acc K' hK' => ?_) trivial ?_
    · obtain ⟨j, hj⟩ := List.getElem?_of_mem hv
      obtain ⟨hj7, rfl⟩ := rng_get hj
      have hj7 : j < 7 := hj7
      rw [Int.zero_add] at hK' ⊢
      refine ⟨_, sub_row (f := fun i => .ref (r i)) (j := i) m.top rfl hi, _, sub_row (f := fun j => .bool (E i j)) (j := j) (m.row _ hi) rfl hj7, _, rfl, ?_⟩
      have hK2 : K' σ1 (acc ++ if E i j = true then [V.int ((2 ^ j : Nat) : Int)] else []) := hK'
      by_cases c : E i j = true
      · rw [if_pos c] at hK2 ⊢
        rw [wpBin_int]
        exact ⟨_, bin_pow _ (by omega), hK2⟩
      · rw [if_neg c] at hK2 ⊢
        rw [List.append_nil] at hK2
        exact hK2
    · rw [List.nil_append, flat_some]
      intro b hbB hbn
      rw [b_sum]
      refine ⟨_, _, upd_at .., ints_map _, ?_⟩
      rw [sum_bits]
      refine hK _ _ ⟨s1.trans (.new hbn), ?_⟩ trivial
      unfold rowI
      rw [rowV_snoc]
      rfl
  · rintro σ1 acc ⟨s1, rfl⟩
    rw [rng_length]
    intro b hbB hbn
    exact hQ _ b (s1.trans (.new hbn)) (upd_at ..)
end Mini
end

section
open PySem PyProof.Rows
namespace Mini

theorem ring_bad {E : Nat → Nat → Bool} {T pos w : Nat → Nat} (g : Gr E) (o : Od pos w) (v : Vis E pos) (t : Ts E T) (h : ∃ k, k < 7 ∧ goodB T (bagM T w k) = false) : ∃ p, p < 128 ∧ isRing T p = true := by
  obtain ⟨k, hk, hb⟩ := h
  have hn : ¬ ∀ a b, a < 7 → b < 7 → a ≠ b → (bagM T w k).testBit a = true → (bagM T w k).testBit b = true → E a b = true := fun z => by
    have := (good_iff t (bag_lt o hk)).mpr z
    rw [this] at hb
    cases hb
  have : ∃ a b, a < 7 ∧ b < 7 ∧ a ≠ b ∧ (bagM T w k).testBit a = true ∧ (bagM T w k).testBit b = true ∧ E a b = false := by
    refine Classical.byContradiction fun hc => hn fun a b ha hb hab pa pb => ?_
    cases q : E a b with
    | true => rfl
    | false => exact absurd ⟨a, b, ha, hb, hab, pa, pb, q⟩ hc
  obtain ⟨a, b, ha, hb, hab, pa, pb, q⟩ := this
  rw [bag_bit o t hk ha] at pa
  rw [bag_bit o t hk hb] at pb
  unfold Bg at pa pb
  simp only [Bool.and_eq_true, decide_eq_true_eq] at pa pb
  obtain ⟨c, m, y⟩ := cycle_of_gap g v ha hb (o.wl k hk) (by rw [o.pw k hk]; exact pa.2) (by rw [o.pw k hk]; exact pb.2) pa.1 pb.1 hab q
  exact ⟨ringOf c m, ring_lt c m, ring_of_cycle g t y⟩

theorem seven_perm {os : List Nat} (nd : os.Nodup) (h : ∀ v, v ∈ os ↔ v < 7) : (os.map fun (n : Nat) => (n : Int)).Perm [0, 1, 2, 3, 4, 5, 6] := by
  have h1 : os.Perm (List.range 7) := by
    rw [List.perm_iff_count]
    intro a
    have c1 : os.count a = if a ∈ os then 1 else 0 := nd.count
    have c2 : (List.range 7).count a = if a ∈ List.range 7 then 1 else 0 := List.nodup_range.count
    rw [c1, c2]
    by_cases q : a < 7
    · rw [if_pos ((h a).mpr q), if_pos (List.mem_range.mpr q)]
    · rw [if_neg (fun z => q ((h a).mp z)), if_neg (fun z => q (List.mem_range.mp z))]
  exact h1.map _

theorem sorted_seven {ns : List Int} (h1 : ns.Perm [0, 1, 2, 3, 4, 5, 6]) (h2 : ns.Pairwise (· ≤ ·)) : ns = [0, 1, 2, 3, 4, 5, 6] :=
  List.Perm.eq_of_pairwise (le := (· ≤ ·)) (fun a b _ _ x y => Int.le_antisymm x y) h2 (by decide) h1

structure LF (l t oa od bg wh : Nat) (ρ : Frm) : Prop where
  near : ρ "near" = some (.ref l)
  ties : ρ "ties" = some (.ref t)
  ones : ρ "ones" = some (.ref oa)
  order : ρ "order" = some (.ref od)
  bags : ρ "bags" = some (.ref bg)
  wholes : ρ "wholes" = some (.ref wh)
theorem LF.keep {l t oa od bg wh : Nat} {ρ ρ' : Frm} (x : LF l t oa od bg wh ρ) (h : ∀ y, y = "near" ∨ y = "ties" ∨ y = "ones" ∨ y = "order" ∨ y = "bags" ∨ y = "wholes" → ρ' y = ρ y) : LF l t oa od bg wh ρ' :=
  ⟨(h _ (by simp)).trans x.near, (h _ (by simp)).trans x.ties, (h _ (by simp)).trans x.ones, (h _ (by simp)).trans x.order, (h _ (by simp)).trans x.bags, (h _ (by simp)).trans x.wholes⟩

set_option maxRecDepth 100000 in
set_option maxHeartbeats 2000000 in
theorem law2_walk {B k : Nat} {σ : Sto} {l t oa : Nat} {r : Nat → Nat} {E : Nat → Nat → Bool} {ρ : Frm} {K : Fl → Frm → Sto → Prop} (g : Gr E) (hM : Mat 7 7 σ l r fun i j => .bool (E i j)) (ht : σ t = some (rowI 7 fun v => ((Tm E v : Nat) : Int)))
    (ho : σ oa = some (rowI 128 fun v => ((pc v : Nat) : Int))) (q1 : ρ "near" = some (.ref l)) (q2 : ρ "ties" = some (.ref t)) (q3 : ρ "ones" = some (.ref oa)) (hK : ∀ ρ σ, K (.ret (.bool true)) ρ σ) :
    wpB ⟨B, Sp B gl0 P0 (k + 4), gl0, fun f => (P0 f).isSome⟩ law2 ρ σ K := by
  have ts := Tm_ts E
  have hT : ∀ v, v < 7 → Tm E v < 128 := fun v hv => (ts v hv).1
  generalize Tm E = T at ht ts hT
  simp only [wpB, wpS, wpE, wpT, wpI, wpEs, blk, bindF, wpBin_int, binV, setv, endF, V.ref.injEq, V.int.injEq, V.bool.injEq, V.tupI.injEq, Option.some.injEq, exists_eq_left', exists_eq_left, exists_and_left, String.reduceEq, if_true, if_false, reduceIte, true_and, and_true, decide_true, decide_false, Bool.false_eq_true, Bool.not_true, Bool.not_false, Int.reduceLE, Int.reduceToNat, Int.reducePow, Nat.reducePow, c_lt, c_gt, c_le, c_ge, c_eq, c_ne, c_is, c_isnot, t_bool, t_ref, n_none, n_ref, cmp_pr, decide_eq_true_eq, Bool.not_eq_true', decide_eq_false_iff_not, b_len, b_sum, b_max, b_min, b_max2, b_min2, b_sorted, b_list, b_listT, b_abs, Int.reduceEq, reduceCtorEq, or_self, or_false, false_or, sm2, sm5, sm6, sm7, sm8, sm36, m_pop, m_append, m_remove, w_addR, w_mulR, law2, q1, q2, q3]
  refine ⟨rfl, ?_⟩
  refine order_spec hM fun σ1 od os s1 hos nd full mc => ?_
  have hperm := seven_perm nd full
  have hlen := len_seven nd full
  obtain ⟨pos, w, o, vis, hod⟩ : ∃ pos w : Nat → Nat, Od pos w ∧ Vis E pos ∧ σ1 od = some (rowI 7 fun k => ((w k : Nat) : Int)) := ⟨_, fun k => os.getD k 0, od_of nd full, vis_of nd full mc, hos.trans (congrArg some (row_of nd full))⟩
  have ht1 := s1 _ _ ht
  have ho1 := s1 _ _ ho
  rw [if_neg (by simp [isNone]), b_sorted]
  refine ⟨_, _, hos, ints_natL os, by rw [natL_len]; omega, fun ns hp1 hp2 => ?_⟩
  have ens := sorted_seven (hp1.trans hperm) hp2
  subst ens
  intro b1 hb1B hb1n
  refine ⟨by decide, fun b2 hb2B hb2n => ?_⟩
  have s2 := Sub.new (xs := ([0, 1, 2, 3, 4, 5, 6] : List Int).map V.int) hb1n
  have e1 := upd_at σ1 b1 (([0, 1, 2, 3, 4, 5, 6] : List Int).map V.int)
  generalize upd σ1 b1 (([0, 1, 2, 3, 4, 5, 6] : List Int).map V.int) = σ2 at s2 e1 hb2n
  have s3 := Sub.new (xs := [V.int 0, V.int 1, V.int 2, V.int 3, V.int 4, V.int 5, V.int 6]) hb2n
  have e2 := s3 _ _ e1
  have e3 := upd_at σ2 b2 [V.int 0, V.int 1, V.int 2, V.int 3, V.int 4, V.int 5, V.int 6]
  generalize upd σ2 b2 [V.int 0, V.int 1, V.int 2, V.int 3, V.int 4, V.int 5, V.int 6] = σ3 at s3 e2 e3
  refine ⟨false, by simp [cmpV, eqV, e2, e3, eqLL, intsOf], ?_⟩
  rw [if_neg (by simp)]
  have s13 := s2.trans s3
  have ht3 := s13 _ _ ht1
  have ho3 := s13 _ _ ho1
  have hod3 := s13 _ _ hod
  have m3 := (hM.sub s1).sub s13
  refine ⟨rfl, ?_⟩
  refine no_fill_spec (k := k + 2) o hod3 ht3 (fun σ4 s4 hbad => ?_) fun σ4 bg s4 hgood hbg => ?_
  · refine ⟨rfl, ?_⟩
    refine ring_spec (k := k + 2) (s4 _ _ ht3) (s4 _ _ ho3) hT fun σ5 b s5 hb => ?_
    have hb' : b = true := hb.mpr (ring_bad g o vis ts hbad)
    subst hb'
    refine ⟨_, rfl, ?_⟩
    rw [if_pos rfl]
    refine ⟨_, rfl, ?_⟩
    rw [if_pos rfl]
    exact hK _ _
  · refine ⟨rfl, ?_⟩
    have nf := (nf_iff o ts).mp hgood
    refine ring_spec (k := k + 2) (s4 _ _ ht3) (s4 _ _ ho3) hT fun σ5 b s5 hb => ?_
    have hb' : b = false := by
      cases b with
      | false => rfl
      | true =>
        obtain ⟨p, _, hr⟩ := hb.mp rfl
        rw [no_ring g o nf ts] at hr
        cases hr
    subst hb'
    refine ⟨_, rfl, ?_⟩
    rw [if_neg (by simp), if_neg (by simp [isNone])]
    have s35 := s4.trans s5
    have ht5 := s35 _ _ ht3
    have ho5 := s35 _ _ ho3
    have hod5 := s35 _ _ hod3
    have m5 := m3.sub s35
    have hbg5 := s5 _ _ hbg
    refine ⟨by rw [rng_length]; decide, ?_⟩
    refine compL_flat (gInt fun k => ((wholeM T w k : Nat) : Int)) (fun v hv acc K' hK' => ?_) trivial ?_
    · obtain ⟨j, hj⟩ := List.getElem?_of_mem hv
      obtain ⟨hj7, rfl⟩ := rng_get hj
      have hj7 : j < 7 := hj7
      rw [Int.zero_add] at hK' ⊢
      refine ⟨_, sub_rowI (j := j) hbg5 rfl hj7, _, sub_rowI (j := j) hod5 rfl hj7, ?_⟩
      rw [wpBin_int]
      refine ⟨_, bin_pow _ (by have := o.wl j hj7; omega), ?_⟩
      rw [wpBin_int]
      exact ⟨_, bin_add _ _, hK'⟩
    · rw [List.nil_append, rng_natL, flat_ints]
      have e4 : (((List.range 7).map fun k => ((wholeM T w k : Nat) : Int)).map V.int) = rowI 7 fun k => ((wholeM T w k : Nat) : Int) := by
        unfold rowI rowV
        rw [List.map_map]
        rfl
      rw [e4]
      intro wh hwB hwn
      have s6 := Sub.new (xs := rowI 7 fun k => ((wholeM T w k : Nat) : Int)) hwn
      have hw6 := upd_at σ5 wh (rowI 7 fun k => ((wholeM T w k : Nat) : Int))
      generalize upd σ5 wh (rowI 7 fun k => ((wholeM T w k : Nat) : Int)) = σ6 at s6 hw6
      have ht6 := s6 _ _ ht5
      have ho6 := s6 _ _ ho5
      have hod6 := s6 _ _ hod5
      have m6 := m5.sub s6
      have hbg6 := s6 _ _ hbg5
      refine ⟨rfl, rfl, ?_⟩
      have hKey : ∀ y : String, y = "near" ∨ y = "ties" ∨ y = "ones" ∨ y = "order" ∨ y = "bags" ∨ y = "wholes" → y ≠ "part" ∧ y ≠ "members" ∧ y ≠ "greatest" ∧ y ≠ "most_apart" ∧ y ≠ "k" ∧ y ≠ "covered" ∧ y ≠ "taken" ∧ y ≠ "cover" := fun y hy => by
        rcases hy with rfl | rfl | rfl | rfl | rfl | rfl <;> simp
      refine forL_ind (fun i ρ σ' => Sub σ6 σ' ∧ LF l t oa od bg wh ρ ∧ ∃ G A : Nat, PtI T (1 + i) G A ∧ ρ "greatest" = some (.int (G : Int)) ∧ ρ "most_apart" = some (.int (A : Int))) ?_
        ⟨.refl _, ⟨by simp [setv, q1], by simp [setv, q2], by simp [setv, q3], by simp [setv], by simp [setv], by simp [setv]⟩, 0, 0, PtI.start, by simp [setv], by simp [setv]⟩ ?_
      · rintro i v ρ' σ7 K' hv ⟨u1, u2, G, A, u3, u4, u5⟩ hK' _ _ _
        obtain ⟨hi, rfl⟩ := rng_get hv
        have hi : i < 127 := hi
        have ei : (1 + (i : Int)) = ((1 + i : Nat) : Int) := by omega
        rw [ei]
        have u6 : LF l t oa od bg wh (setv ρ' "part" (.int ((1 + i : Nat) : Int))) := u2.keep fun y hy => by rw [setv_ne _ _ (hKey y hy).1]
        have hw7 : σ7 wh = some (natL ((List.range 7).map (wholeM T w))) := (u1 _ _ hw6).trans (congrArg some (rowI_natL 7 (wholeM T w)))
        refine part_walk (G := G) (A := A) (p := 1 + i) (by omega) (u1 _ _ ht6) (u1 _ _ ho6) hw7 u6.ties u6.ones (by simp [setv]) u6.wholes (by simp [setv, u4]) (by simp [setv, u5]) (fun h1 h2 => ?_) fun ρ2 σ8 v1 v2 v3 v4 => ?_
        · obtain ⟨k, hk, e⟩ := max_whole g o ts nf (by omega) (by omega) h1 h2
          exact List.mem_map.mpr ⟨k, List.mem_range.mpr hk, e.symm⟩
        · have := u3.step (T := T) (by omega)
          exact hK' _ _ ⟨u1.trans v1, u6.keep fun y hy => v2 y (hKey y hy).2.1 (hKey y hy).2.2.1 (hKey y hy).2.2.2.1, _, _, this, v3, v4⟩ trivial
      · rintro ρ2 σ7 ⟨u1, u2, G, A, u3, u4, u5⟩
        rw [rng_length] at u3
        have u3 : PtI T 128 G A := u3
        refine ⟨rfl, _, u2.order, _, u2.near, ?_⟩
        refine colours_spec (k := k + 3) o (u1 _ _ hod6) (m6.sub u1) fun σ8 col m s8 c1 c2 c3 => ?_
        have hpb : ∃ M, (∃ k, k < 7 ∧ pc (bagM T w k) = M) ∧ (∀ k, k < 7 → pc (bagM T w k) ≤ M) ∧ bestV gtV (.int ((pc (bagM T w 0) : Nat) : Int)) (((List.range 6).map fun i => ((pc (bagM T w (i + 1)) : Nat) : Int)).map .int) = some (.int ((M : Nat) : Int)) := by
          obtain ⟨mm, m1, m2, m3⟩ := max_ints ((List.range 6).map fun i => ((pc (bagM T w (i + 1)) : Nat) : Int)) ((pc (bagM T w 0) : Nat) : Int)
          have hL2 : ((pc (bagM T w 0) : Nat) : Int) :: (List.range 6).map (fun i => ((pc (bagM T w (i + 1)) : Nat) : Int)) = (List.range 7).map fun i => ((pc (bagM T w i) : Nat) : Int) := rfl
          rw [hL2] at m2 m3
          obtain ⟨kk, hkk, e⟩ := List.mem_map.mp m2
          refine ⟨pc (bagM T w kk), ⟨kk, List.mem_range.mp hkk, rfl⟩, fun k hk => ?_, by rw [m1, ← e]⟩
          have := m3 _ (List.mem_map.mpr ⟨k, List.mem_range.mpr hk, rfl⟩)
          omega
        obtain ⟨M, hM1, hM2, hM3⟩ := hpb
        have hG := great_eq g o ts nf u3 hM1 hM2
        have hm := colour_eq g o ts nf c1 c2 c3 hM1 hM2
        refine ⟨_, u4, _, rfl, ?_⟩
        rw [if_neg (by simp; omega)]
        have hbg8 := s8 _ _ (u1 _ _ hbg6)
        refine ⟨_, u4, _, u2.bags, bg, rfl, _, hbg8, by unfold rowI; rw [rowV_len]; decide, ?_⟩
        rw [rowI_natL] at hbg8 ⊢
        refine compL_flat (gInt fun p => ((pc p : Nat) : Int)) (fun v hv acc K' hK' => ?_) hbg8 ?_
        · unfold natL at hv
          obtain ⟨p, hp, rfl⟩ := List.mem_map.mp hv
          obtain ⟨kk, hkk, rfl⟩ := List.mem_map.mp hp
          exact ⟨_, u2.ones, _, sub_rowI (j := bagM T w kk) (s8 _ _ (u1 _ _ ho6)) rfl (bag_lt o (List.mem_range.mp hkk)), hK'⟩
        · have e5 : ((((List.range 7).map (bagM T w)).map fun p => ((pc p : Nat) : Int)).map V.int) = V.int ((pc (bagM T w 0) : Nat) : Int) :: (((List.range 6).map fun i => ((pc (bagM T w (i + 1)) : Nat) : Int)).map V.int) := rfl
          rw [List.nil_append, flat_ints, e5]
          intro b hbB hbn
          have s9 := Sub.new (xs := V.int ((pc (bagM T w 0) : Nat) : Int) :: (((List.range 6).map fun i => ((pc (bagM T w (i + 1)) : Nat) : Int)).map V.int)) hbn
          have hb9 := upd_at σ8 b (V.int ((pc (bagM T w 0) : Nat) : Int) :: (((List.range 6).map fun i => ((pc (bagM T w (i + 1)) : Nat) : Int)).map V.int))
          generalize upd σ8 b (V.int ((pc (bagM T w 0) : Nat) : Int) :: (((List.range 6).map fun i => ((pc (bagM T w (i + 1)) : Nat) : Int)).map V.int)) = σ9 at s9 hb9
          rw [b_max]
          refine ⟨_, _, _, hb9, same_int _ _, hM3, ?_⟩
          rw [wpBin_int]
          refine ⟨_, rfl, _, rfl, ?_⟩
          rw [if_neg (by simp; omega)]
          refine ⟨rfl, ?_⟩
          have s69 := (u1.trans s8).trans s9
          refine forL_ind (fun i ρ σ' => σ' = σ9 ∧ LF l t oa od bg wh ρ ∧ ρ "most_apart" = some (.int (A : Int)) ∧ ∃ tk cv cr : Nat, TkI E pos w i tk cv cr ∧ ρ "covered" = some (.int (cv : Int)) ∧ ρ "taken" = some (.int (tk : Int)) ∧ ρ "cover" = some (.int (cr : Int))) ?_
            ⟨rfl, u2.keep fun y hy => by rw [setv_ne _ _ (hKey y hy).2.2.2.2.2.2.2, setv_ne _ _ (hKey y hy).2.2.2.2.2.2.1, setv_ne _ _ (hKey y hy).2.2.2.2.2.1], by simp [setv, u5], 0, 0, 0, TkI.start, by simp [setv], by simp [setv], by simp [setv]⟩ ?_
          · rintro i v ρ3 σ' K' hv ⟨rfl, x1, x2, tk, cv, cr, x3, x4, x5, x6⟩ hK' _ _ _
            obtain ⟨hi, rfl⟩ := rngDown_get hv
            have hi : i < 7 := hi
            have ei : (6 - (i : Int)) = ((6 - i : Nat) : Int) := by omega
            rw [ei]
            have x7 : LF l t oa od bg wh (setv ρ3 "k" (.int ((6 - i : Nat) : Int))) := x1.keep fun y hy => by rw [setv_ne _ _ (hKey y hy).2.2.2.2.1]
            refine take_walk g o ts hi rfl (s69 _ _ ht6) (s69 _ _ hod6) (s69 _ _ hw6) x7.ties x7.order x7.wholes (by simp [setv]) (by simp [setv, x4]) (by simp [setv, x5]) (by simp [setv, x6]) x3 fun ρ4 tk' cv' cr' y1 y2 y3 y4 y5 => ?_
            exact hK' _ _ ⟨rfl, x7.keep fun y hy => y2 y (hKey y hy).2.2.2.2.2.1 (hKey y hy).2.2.2.2.2.2.1 (hKey y hy).2.2.2.2.2.2.2, by rw [y2 _ (by decide) (by decide) (by decide)]; simp [setv, x2], tk', cv', cr', y1, y3, y4, y5⟩ trivial
          · rintro ρ3 σ' ⟨rfl, x1, x2, tk, cv, cr, x3, x4, x5, x6⟩
            rw [rngDown_length] at x3
            have x3 : TkI E pos w 7 tk cv cr := x3
            dsimp only
            refine ⟨_, x1.ones, _, x5, _, sub_rowI (j := tk) (s69 _ _ ho6) rfl x3.tl, _, x2, _, rfl, ?_⟩
            have h1 := x3.most g o nf ts u3
            have h2 := x3.full g o
            rw [h1, if_pos (by simp)]
            refine ⟨_, x6, _, rfl, ?_⟩
            rw [h2]
            exact hK _ _

theorem zeros : ∀ n, (List.replicate n [V.int 0]).flatten = rowV n fun _ => V.int 0
  | 0 => rfl
  | n + 1 => by rw [List.replicate_succ', List.flatten_append, zeros n, rowV_snoc]; rfl
theorem zeros_pc : (rowV 128 fun _ => V.int 0) = rowI 128 fun v => ((if v < 1 + 0 then pc v else 0 : Nat) : Int) := by
  refine rowV_congr fun v _ => ?_
  dsimp only
  split
  · rename_i h
    have : v = 0 := by omega
    subst this
    rw [pc_zero]
    rfl
  · rfl

set_option maxRecDepth 100000 in
set_option maxHeartbeats 2000000 in
theorem law_true (B : Nat) (σ : Sto) (sa : Nat) (ns : List Int) (h : σ sa = some (ns.map .int)) (hl : ns.length ≤ 63) :
    Sp B gl0 P0 6 "law" [.ref sa] σ (fun v _ => v = .bool true) := by
  refine ⟨_, rfl, rfl, ?_⟩
  rw [law_eq]
  simp only [wpB, wpS, wpE, wpT, wpI, wpEs, blk, bindF, wpBin_int, binV, setv, endF, V.ref.injEq, V.int.injEq, V.bool.injEq, V.tupI.injEq, Option.some.injEq, exists_eq_left', exists_eq_left, exists_and_left, String.reduceEq, if_true, if_false, reduceIte, true_and, and_true, decide_true, decide_false, Bool.false_eq_true, Bool.not_true, Bool.not_false, Int.reduceLE, Int.reduceToNat, Int.reducePow, Nat.reducePow, c_lt, c_gt, c_le, c_ge, c_eq, c_ne, c_is, c_isnot, t_bool, t_ref, n_none, n_ref, cmp_pr, decide_eq_true_eq, Bool.not_eq_true', decide_eq_false_iff_not, b_len, b_sum, b_max, b_min, b_max2, b_min2, b_sorted, b_list, b_listT, b_abs, Int.reduceEq, reduceCtorEq, or_self, or_false, false_or, sm2, sm5, sm6, sm7, sm8, sm36, m_pop, m_append, m_remove, w_addR, w_mulR]
  refine ⟨rfl, ?_⟩
  refine near_spec (k := 3) h hl fun σ1 l r M s1 mM sI => ?_
  have g := Eof_gr sI
  have mE : Mat 7 7 σ1 l r fun i j => .bool (Eof M i j) := mM.congr fun i j hi hj => by rw [Eof_at hi hj]
  generalize Eof M = E at g mE
  refine ties_walk mE (by simp [setv]) fun σ2 t s2 ht => ?_
  have m2 := mE.sub s2
  refine ⟨by simp [LIM], fun t1 ht1B ht1n => ?_⟩
  have s3 : Sub σ2 (upd σ2 t1 [V.int 0]) := .new ht1n
  have ht1 := upd_at σ2 t1 [V.int 0]
  generalize upd σ2 t1 [V.int 0] = σ3 at s3 ht1
  simp only [wpB, wpS, wpE, wpT, wpI, wpEs, blk, bindF, wpBin_int, binV, setv, endF, V.ref.injEq, V.int.injEq, V.bool.injEq, V.tupI.injEq, Option.some.injEq, exists_eq_left', exists_eq_left, exists_and_left, String.reduceEq, if_true, if_false, reduceIte, true_and, and_true, decide_true, decide_false, Bool.false_eq_true, Bool.not_true, Bool.not_false, Int.reduceLE, Int.reduceToNat, Int.reducePow, Nat.reducePow, c_lt, c_gt, c_le, c_ge, c_eq, c_ne, c_is, c_isnot, t_bool, t_ref, n_none, n_ref, cmp_pr, decide_eq_true_eq, Bool.not_eq_true', decide_eq_false_iff_not, b_len, b_sum, b_max, b_min, b_max2, b_min2, b_sorted, b_list, b_listT, b_abs, Int.reduceEq, reduceCtorEq, or_self, or_false, false_or, sm2, sm5, sm6, sm7, sm8, sm36, m_pop, m_append, m_remove, w_addR, w_mulR, ht1]
  refine ⟨by simp, fun oa hoB hon => ?_⟩
  rw [zeros, zeros_pc]
  have s4 : Sub σ3 (upd σ3 oa (rowI 128 fun v => ((if v < 1 + 0 then pc v else 0 : Nat) : Int))) := .new hon
  have ho4 := upd_at σ3 oa (rowI 128 fun v => ((if v < 1 + 0 then pc v else 0 : Nat) : Int))
  have hon2 : σ2 oa = none := s3.none hon
  have s24 := s3.trans s4
  generalize upd σ3 oa (rowI 128 fun v => ((if v < 1 + 0 then pc v else 0 : Nat) : Int)) = σ4 at s4 ho4 s24
  refine ⟨rfl, rfl, ?_⟩
  refine forL_ind (fun i ρ σ' => Sub σ2 σ' ∧ σ' oa = some (rowI 128 fun v => ((if v < 1 + i then pc v else 0 : Nat) : Int)) ∧ ρ "near" = some (.ref l) ∧ ρ "ties" = some (.ref t) ∧ ρ "ones" = some (.ref oa)) ?_
    ⟨s24, ho4, by simp [setv], by simp [setv], by simp [setv]⟩ ?_
  · rintro i v ρ σ5 K hv ⟨u1, u2, u3, u4, u5⟩ hK _ _ _
    obtain ⟨hi, rfl⟩ := rng_get hv
    have hi : i < 127 := hi
    have ei : (1 + (i : Int)) = ((1 + i : Nat) : Int) := by omega
    rw [ei]
    refine ones_walk hi hoB u2 (by simp [setv, u5]) (by simp [setv]) ?_
    exact hK _ _ ⟨u1.upd hon2, upd_at .., by simp [setv, u3], by simp [setv, u4], by simp [setv, u5]⟩ trivial
  · rintro ρ σ5 ⟨u1, u2, u3, u4, u5⟩
    rw [rng_length] at u2
    have u2 : σ5 oa = some (rowI 128 fun v => ((if v < 1 + 127 then pc v else 0 : Nat) : Int)) := u2
    have e : (rowI 128 fun v => ((if v < 1 + 127 then pc v else 0 : Nat) : Int)) = rowI 128 fun v => ((pc v : Nat) : Int) := rowV_congr fun j hj => by dsimp only; rw [if_pos (by omega)]
    exact law2_walk (k := 1) g (m2.sub u1) (u1 _ _ ht) (u2.trans (congrArg some e)) u3 u4 u5 fun _ _ => rfl
end Mini
end

open PySem PySem.W PyProof.Rows PySem.SeqAt

set_option maxRecDepth 100000 in
set_option maxHeartbeats 8000000 in
theorem PySem.Challenge.cw_dj5006_01_holds : PySem.Challenge.rw_dj5006_01.Holds := by
  w_on; o_law; k_head; (case hw => w_witness2)
  k_fill
  intro w s₀ s₁ mg mb G Y fa o pm cd doc dV kV ho hd hcd hD hmg hg args vals as hpre hlay hrd hwl hlo
  have KX := kIn_of Y
  refine Ground.open G ?_
  intro T B D TE TW
  wrow_args hpre hlay hrd hwl hlo
  rename_i ns hs hlay0 hL1 hr1 hl2 as1 as2 sa ws as3 hL ra w1 r0 hI hr hcond hcond'
  clear G
  have hN : mg "_law_SEEDS" = some (.ref 43) := by
    obtain ⟨o', es, ep, h1, h2, h3, h4⟩ := T.g
    have h5 := KX 3 _ rfl
    have h1' : s₁.heap.get? 3 = some o' := h1
    rw [h1'] at h5
    cases h5
    cases h2
    exact (h4 _).symm.trans rfl
  have hV : Mini.VR s₁.heap (.tupI [11, 29, 54, 77, 202, 465]) (.ref 43) :=
    ⟨43, _, _, rfl, KX 43 _ rfl, .cons _ _ (.cons _ _ (.cons _ _ (.cons _ _ (.cons _ _ (.cons _ _ .nil)))))⟩
  have hSc : IsL s₁.heap sa ws.toArray 0 := by
    cases w1 with
    | list h1 h2 =>
      obtain ⟨o', g1, g2, n, g3⟩ := hL
      rw [h1] at g1
      cases g1
      cases g3
      exact h1
  have hlen : ns.length ≤ 63 := by omega
  have main := Mini.run_law (prog := Challenge.rw_dj5006_01.row.prog) (w := w) (A := callerA) (k := 6) (f := "law") (fa := fa) (tbl := Mini.tbl) (gl := Mini.gl0) T (by decide +kernel) (fun x v e => by
      unfold Mini.gl0 at e
      split at e
      · rename_i q; subst q; cases e; exact ⟨_, hN, hV⟩
      · cases e) (by decide +kernel) rfl hmg ⟨rfl, by decide, by decide⟩ hSc hI (by have : Mini.LIM = 1048576 := rfl; omega)
    (fun σ hσ => Mini.law_true _ σ sa ns hσ hlen)
  refine wpAny_mono main ?_ fun _ _ q => q.elim
  rintro x s' ⟨rfl, hk, hos, hgens⟩
  refine GoodW.toG ⟨.inl ⟨_, .bool true, [], rfl, fun _ => rfl, .bool true, ?_, fun _ => ⟨.nil, fun a h => nomatch h⟩⟩, hk, hos, hgens.trans hg⟩
  unfold Challenge.rw_dj5006_01
  with_unfolding_all rfl
