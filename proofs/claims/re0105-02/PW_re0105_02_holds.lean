import PyProof.Rows.All
import Wide.All
import OpenK.AllK
import Wide.FinOn
import KE.KItem
import KE.KRevSl
import KE.KSortAsk
import PySem.Challenge.RW_re0105_02
set_option linter.all false
set_option linter.unusedVariables false
set_option linter.unusedSimpArgs false
set_option linter.unusedSectionVars false
set_option Elab.async false
set_option genSizeOf false
set_option genInjectivity false
section
open PySem
namespace Mine

/- the evaluator's values -/
inductive V where
  | none
  | bool (b : Bool)
  | int (i : Int)
  | str (s : List Nat)
  | lit (s : List Nat)
  | flt (b : UInt64)
  | ref (l : Nat)
  deriving Inhabited

/- the owned tuple of a zip: within, being filled, handed out -/
inductive ZF where
  | free | busy
  | out (l : Nat)

/- the iterators: a range's, a list's or a tuple's (b), a list's from behind, two abreast -/
inductive It where
  | rng (x step : Int) (left : Nat)
  | seq (b : Bool) (l : Nat) (i : Nat)
  | rev (l : Nat) (k : Nat)
  | zip (i j t : Nat) (f : ZF)

/- the evaluator's own objects -/
inductive O where
  | ns (es : List (Str × V))
  | cell (v : Option V)
  | list (vs : List V)
  | xl (vs : List V) (its : Array Value)
  | tup (vs : List V)
  | dict (es : List (Int × V))
  | fn (params : List Str) (body : List Stmt) (scope : Scope) (cells : List (Str × Nat))
  | it (I : It)
  | gone
  deriving Inhabited


/- what a contract gives: a plain thing, or a tuple of them -/
inductive D where
  | val (v : V)
  | tup (vs : List V)

structure Rho where
  scope : Scope
  loc : Nat
  cells : List (Str × Nat)
  tab : Option Nat

inductive Fl where
  | next | brk | cont
  | ret (v : V)

/- a function of the text -/
structure Fn where
  params : List Str
  body : List Stmt
  scope : Scope
  tab : Option Nat

/- what the evaluator knows of the text: its functions, its int names, the contracts -/
structure Env0 where
  fn : Str → Option Fn
  glob : Str → Option Int
  con : Str → List V → Option D
  gen : Str → Bool
  lev : Nat
  nest : Str

inductive Bi where
  | len | range | reversed | zip | divmod | max | min | int | sum | sorted

inductive Me where
  | replace | count | join | bitLength | append | reverse


noncomputable def nbeq : List Nat → List Nat → Bool
  | [], [] => true
  | a :: x, b :: y => match Nat.beq a b with
    | true => nbeq x y
    | false => false
  | _, _ => false

noncomputable def seq (x y : Str) : Bool := nbeq x.cps.toList y.cps.toList

noncomputable def find {α : Type} (x : Str) : List (Str × α) → Option α
  | [] => .none
  | (y, v) :: r => match seq x y with
    | true => some v
    | false => find x r

noncomputable def put {α : Type} (x : Str) (v : α) : List (Str × α) → List (Str × α)
  | [] => [(x, v)]
  | (y, w) :: r => match seq x y with
    | true => (x, v) :: r
    | false => (y, w) :: put x v r

noncomputable def f0 : UInt64 := 0
noncomputable def f1 : UInt64 := 4607182418800017408
noncomputable def f2 : UInt64 := 4611686018427387904
noncomputable def isF (a b : UInt64) : Bool := Nat.beq a.toNat b.toNat
theorem isF_of {a b : UInt64} (h : isF a b = true) : a = b := UInt64.toNat_inj.mp (Nat.eq_of_beq_eq_true h)
/- the operations on lists, and a float's sum -/
class Fns where
  fadd : UInt64 → UInt64 → UInt64
  vget : List V → Nat → Option V
  nbeq : List Nat → List Nat → Bool
  seq : Str → Str → Bool
  find : {α : Type} → Str → List (Str × α) → Option α
  put : {α : Type} → Str → α → List (Str × α) → List (Str × α)
noncomputable instance plainFns : Fns where
  fadd := Float64.add
  vget vs k := vs[k]?
  nbeq := Mine.nbeq
  seq := Mine.seq
  find := Mine.find
  put := Mine.put
/- a heap of own objects, and its laws -/
class Ops where
  T : Type
  get : T → Nat → Option O
  set : T → Nat → O → T
  app : T → List O → T
  len : T → Nat
  lt : ∀ {H : T} {l : Nat} {o : O}, get H l = some o → l < len H
  app_len : ∀ (H : T) (L : List O), len (app H L) = len H + L.length
  app_lt : ∀ {H : T} {l : Nat} (L : List O), l < len H → get (app H L) l = get H l
  app_ge : ∀ {H : T} {l : Nat} (L : List O), len H ≤ l → get (app H L) l = L[l - len H]?
  set_len : ∀ (H : T) (l : Nat) (o : O), len (set H l o) = len H
  set_eq : ∀ {H : T} {l : Nat} (o : O), l < len H → get (set H l o) l = some o
  set_ne : ∀ {H : T} {l k : Nat} (o : O), l ≠ k → get (set H l o) k = get H k
  app_app : ∀ (H : T) (L M : List O), app (app H L) M = app H (L ++ M)
noncomputable abbrev Hp [Ops] := Ops.T
structure Ih [Ops] where
  e : Expr → Rho → Hp → Option (V × Hp)
  t : Expr → Rho → Hp → Option (Bool × Hp)
  s : List Stmt → Rho → Hp → Option (Fl × Hp)
  c : Bool
/- a heap as a list -/
noncomputable instance listOps : Ops where
  T := List O
  get H l := H[l]?
  set H l o := H.set l o
  app H L := H ++ L
  len H := H.length
  lt h := (List.getElem?_eq_some_iff.mp h).1
  app_len _ _ := List.length_append
  app_lt _ h := List.getElem?_append_left h
  app_ge _ h := List.getElem?_append_right h
  set_len _ _ _ := List.length_set
  set_eq _ h := List.getElem?_set_self h
  set_ne _ h := List.getElem?_set_ne h
  app_app _ _ _ := List.append_assoc ..

section
variable [Fns] [Ops]

noncomputable def norm : V → V
  | .lit s => .str s
  | v => v

noncomputable def memS (x : Str) : List Str → Bool
  | [] => false
  | y :: r => match seq x y with
    | true => true
    | false => memS x r

noncomputable def nodupS : List Str → Bool
  | [] => true
  | x :: r => match memS x r with
    | true => false
    | false => nodupS r

noncomputable def kind (ρ : Rho) (x : Str) : Option NameKind := match Fns.seq x "__debug__" with
  | true => .none
  | false => match Fns.seq x "__classdict__" with
    | true => .none
    | false => Fns.find x ρ.scope.names

noncomputable def cellAt (ρ : Rho) (H : Hp) (x : Str) : Option V := match Fns.find x ρ.cells with
  | some c => match Ops.get H (c) with
    | some (.cell (some v)) => some v
    | _ => .none
  | .none => .none

noncomputable def ldName (G : Env0) (ρ : Rho) (H : Hp) (x : Str) : Option V := match kind ρ x with
  | some .local => match Ops.get H (ρ.loc) with
    | some (.ns es) => Fns.find x es
    | _ => .none
  | some .cell => cellAt ρ H x
  | some .free => cellAt ρ H x
  | some .globalImplicit => match G.glob x with
    | some i => some (.int i)
    | .none => .none
  | _ => .none

noncomputable def stName (ρ : Rho) (H : Hp) (x : Str) (v : V) : Option Hp := match kind ρ x with
  | some .local => match Ops.get H (ρ.loc) with
    | some (.ns es) => some (Ops.set H ρ.loc (.ns (Fns.put x v es)))
    | _ => .none
  | some .cell => match Fns.find x ρ.cells with
    | some c => match Ops.get H (c) with
      | some (.cell _) => some (Ops.set H c (.cell (some v)))
      | _ => .none
    | .none => .none
  | _ => .none

noncomputable def const : Const → Option V
  | .none => some .none
  | .bool b => some (.bool b)
  | .int i => some (.int i)
  | .float x => some (.flt x)
  | .str s => some (.lit s.cps.toList)
  | _ => .none

noncomputable def ieq (a b : Int) : Bool := match a, b with
  | .ofNat m, .ofNat n => Nat.beq m n
  | .negSucc m, .negSucc n => Nat.beq m n
  | _, _ => false

noncomputable abbrev ilt (a b : Int) : Bool := W.Z.ltB a b

noncomputable abbrev ile (a b : Int) : Bool := W.Z.leB a b

noncomputable def fits (n : Nat) : Bool := Nat.ble n 8000

noncomputable def litNat (i : Int) : Option Nat := match i with
  | .ofNat n => match fits n with
    | true => some n
    | false => .none
  | .negSucc _ => .none

noncomputable def rep {α : Type} (l : List α) : Nat → List α
  | 0 => []
  | n + 1 => l ++ rep l n

noncomputable def alloc (H : Hp) (o : O) : Option (V × Hp) := some (.ref (Ops.len H), Ops.app H [o])

noncomputable def ib (a : Int) : Nat := Builtin.Int.intBits a

noncomputable def quot (a b : Int) : UInt64 := Float64.ofFrac (decide (a < 0) != decide (b < 0)) a.natAbs b.natAbs

noncomputable def binI (op : Operator) (a b : Int) : Option V := match op with
  | .Add => some (.int (a + b))
  | .Sub => some (.int (a - b))
  | .Mult => match fits (ib a + ib b) with
    | true => some (.int (a * b))
    | false => .none
  | .FloorDiv => match ieq b 0, fits (ib b) with
    | false, true => some (.int (Int.fdiv a b))
    | _, _ => .none
  | .Mod => match ieq b 0 with
    | true => .none
    | false => some (.int (Int.fmod a b))
  | .Pow => match litNat b with
    | some n => match fits (ib a * n) with
      | true => some (.int (a ^ n))
      | false => .none
    | .none => .none
  | .LShift => match litNat b with
    | some n => match fits (ib a) with
      | true => some (.int (a * 2 ^ n))
      | false => .none
    | .none => .none
  | .RShift => match litNat b with
    | some n => some (.int (Int.fdiv a (2 ^ n)))
    | .none => .none
  | .BitXor => some (.int (Builtin.bitXor a b))
  | .Div => match ieq b 0, Float64.isInf (quot a b) with
    | false, false => some (.flt (quot a b))
    | _, _ => .none
  | _ => .none

noncomputable def binF (op : Operator) (a b : UInt64) : Option V := match op with
  | .Add => some (.flt (Fns.fadd a b))
  | .Sub => some (.flt (Float64.sub a b))
  | .Mult => some (.flt (Float64.mul a b))
  | .Div => match Float64.isZero b with
    | true => .none
    | false => some (.flt (Float64.div a b))
  | .Mod => match Float64.isZero b with
    | true => .none
    | false => some (.flt (Float64.divmod a b).2)
  | _ => .none

noncomputable def binFI (op : Operator) (a : UInt64) (b : Int) : Option V := match op with
  | .Sub => match Float64.isInf (Float64.ofInt b) with
    | true => .none
    | false => some (.flt (Float64.sub a (Float64.ofInt b)))
  | _ => .none

noncomputable def binIF (op : Operator) (a : Int) (b : UInt64) : Option V := match op with
  | .Div => match Float64.isInf (Float64.ofInt a), Float64.isZero b with
    | false, false => some (.flt (Float64.div (Float64.ofInt a) b))
    | _, _ => .none
  | _ => .none

noncomputable def binS (op : Operator) (a b : List Nat) : Option V := match op with
  | .Add => match fits (a.length + b.length) with
    | true => some (.str (a ++ b))
    | false => .none
  | _ => .none

noncomputable def binSI (op : Operator) (a : List Nat) (b : Int) : Option V := match op with
  | .Mult => match litNat b with
    | some n => match fits (a.length * n) with
      | true => some (.str (rep a n))
      | false => .none
    | .none => .none
  | _ => .none

noncomputable def binP (op : Operator) (a b : V) : Option V := match a, b with
  | .int a, .int b => binI op a b
  | .flt a, .flt b => binF op a b
  | .flt a, .int b => binFI op a b
  | .int a, .flt b => binIF op a b
  | .str a, .str b => binS op a b
  | .str a, .int b => binSI op a b
  | _, _ => .none

noncomputable def binV (op : Operator) (a b : V) (H : Hp) : Option (V × Hp) := match a, b with
  | .ref l, .ref m => match op with
    | .Add => match Ops.get H (l), Ops.get H (m) with
      | some (.list xs), some (.list ys) => match fits (xs.length + ys.length) with
        | true => alloc H (.list (xs ++ ys))
        | false => .none
      | _, _ => .none
    | _ => .none
  | .ref l, .int b => match op with
    | .Mult => match Ops.get H (l) with
      | some (.list xs) => match b with
        | .ofNat n => match fits n, fits (xs.length * n) with
          | true, true => alloc H (.list (rep xs n))
          | _, _ => .none
        | .negSucc k => match fits k with
          | true => alloc H (.list [])
          | false => .none
      | _ => .none
    | _ => .none
  | a, b => match binP op a b with
    | some v => some (v, H)
    | .none => .none

noncomputable def unV (op : UnaryOp) (a : V) : Option V := match a with
  | .int a => match op with
    | .USub => some (.int (-a))
    | .Invert => some (.int (Builtin.bitNot a))
    | _ => .none
  | _ => .none

noncomputable def feq (a b : UInt64) : Bool := match Float64.cmp a b with
  | some .eq => true
  | _ => false

noncomputable def eqs (f : V → V → Option Bool) : List V → List V → Option Bool
  | [], [] => some true
  | a :: x, b :: y => match f a b with
    | some r => match eqs f x y with
      | some q => some (r && q)
      | .none => .none
    | .none => .none
  | [], _ :: _ => some false
  | _ :: _, [] => some false

noncomputable def fltEq (a b : UInt64) : Option Bool := match Float64.cmp a b with
  | some .eq => some true
  | _ => .none

noncomputable def eqH (H : Hp) : Nat → V → V → Option Bool
  | _, .int a, .int b => some (ieq a b)
  | _, .str a, .str b => some (Fns.nbeq a b)
  | _, .flt a, .flt b => fltEq a b
  | n + 1, .ref l, .ref m => match Nat.beq l m with
    | true => .none
    | false => match Ops.get H (l), Ops.get H (m) with
      | some (.list xs), some (.list ys) => match Nat.beq xs.length ys.length with
        | true => eqs (eqH H n) xs ys
        | false => some false
      | some (.tup xs), some (.tup ys) => match Nat.beq xs.length ys.length with
        | true => eqs (eqH H n) xs ys
        | false => .none
      | _, _ => .none
  | _, _, _ => .none

noncomputable def eqV (H : Hp) (a b : V) : Option Bool := match a, b with
  | .flt a, .flt b => some (feq a b)
  | a, b => eqH H 4 a b

noncomputable def strsOf : List V → Option (List (List Nat))
  | [] => some []
  | .str a :: r => match strsOf r with
    | some l => some (a :: l)
    | .none => .none
  | _ :: _ => .none

noncomputable def among (x : List Nat) : List (List Nat) → Bool
  | [] => false
  | y :: r => match Fns.nbeq y x with
    | true => true
    | false => among x r

noncomputable def hasSign (c : Nat) : List Nat → Bool
  | [] => false
  | d :: r => match Nat.beq c d with
    | true => true
    | false => hasSign c r

noncomputable def cmpV_Eq (a b : V) (H : Hp)  : Option Bool := eqV H a b

noncomputable def cmpV_Ne (a b : V) (H : Hp)  : Option Bool := match eqV H a b with
    | some t => some (!t)
    | .none => .none

noncomputable def cmpV_Lt (a b : V) (H : Hp)  : Option Bool := match a, b with
    | .int a, .int b => some (ilt a b)
    | _, _ => .none

noncomputable def cmpV_LtE (a b : V) (H : Hp)  : Option Bool := match a, b with
    | .int a, .int b => some (ile a b)
    | _, _ => .none

noncomputable def cmpV_Gt (a b : V) (H : Hp)  : Option Bool := match a, b with
    | .int a, .int b => some (ilt b a)
    | _, _ => .none

noncomputable def cmpV_GtE (a b : V) (H : Hp)  : Option Bool := match a, b with
    | .int a, .int b => some (ile b a)
    | _, _ => .none

noncomputable def cmpV_In (a b : V) (H : Hp)  : Option Bool := match a, b with
    | .str x, .ref l => match Ops.get H (l) with
      | some (.list vs) => match strsOf vs with
        | some ls => some (among x ls)
        | .none => .none
      | _ => .none
    | _, _ => .none

noncomputable def cmpV_NotIn (a b : V) (H : Hp)  : Option Bool := match a, b with
    | .str x, .ref l => match Ops.get H (l) with
      | some (.list vs) => match strsOf vs with
        | some ls => some (!among x ls)
        | .none => .none
      | _ => .none
    | .str [c], .str y => some (!hasSign c y)
    | _, _ => .none

noncomputable def cmpV (op : CmpOp) (a b : V) (H : Hp) : Option Bool := match op with
  | .Eq => cmpV_Eq a b H
  | .NotEq => cmpV_Ne a b H
  | .Lt => cmpV_Lt a b H
  | .LtE => cmpV_LtE a b H
  | .Gt => cmpV_Gt a b H
  | .GtE => cmpV_GtE a b H
  | .In => cmpV_In a b H
  | .NotIn => cmpV_NotIn a b H
  | _ => .none

noncomputable def truthV (H : Hp) : V → Option Bool
  | .none => some false
  | .bool b => some b
  | .int i => some (!ieq i 0)
  | .ref l => match Ops.get H (l) with
    | some (.list vs) => match fits vs.length with
      | true => some (match vs with | [] => false | _ :: _ => true)
      | false => .none
    | _ => .none
  | _ => .none

noncomputable def place (i : Int) (n : Nat) : Option Nat := match i with
  | .ofNat k => match fits k, Nat.blt k n with
    | true, true => some k
    | _, _ => .none
  | .negSucc k => match fits k, Nat.blt k n with
    | true, true => some (n - 1 - k)
    | _, _ => .none

noncomputable def findI (k : Int) : List (Int × V) → Option V
  | [] => .none
  | (j, v) :: r => match ieq j k with
    | true => some v
    | false => findI k r

noncomputable def itemV (a i : V) (H : Hp) : Option V := match i with
  | .int i => match a with
    | .str s => match place i s.length with
      | some k => match s[k]? with
        | some c => some (.str [c])
        | .none => .none
      | .none => .none
    | .ref l => match Ops.get H (l) with
      | some (.list vs) => match place i vs.length with
        | some k => Fns.vget vs k
        | .none => .none
      | some (.tup vs) => match place i vs.length with
        | some k => Fns.vget vs k
        | .none => .none
      | some (.dict es) => findI i es
      | _ => .none
    | _ => .none
  | _ => .none

noncomputable def clip (n : Nat) (d : Nat) : Option V → Option Nat
  | .none => some d
  | some (.int (.ofNat k)) => some (min k n)
  | _ => .none

noncomputable def cut {α : Type} (l : List α) (a b : Nat) : List α := (l.take b).drop a

noncomputable def sliceV (a : V) (lo hi st : Option V) (H : Hp) : Option (V × Hp) := match a with
  | .str s => match fits s.length with
    | true => match st with
      | .none => match clip s.length 0 lo, clip s.length s.length hi with
        | some x, some y => some (.str (cut s x y), H)
        | _, _ => .none
      | some (.int (.negSucc 0)) => match lo, hi with
        | .none, .none => some (.str s.reverse, H)
        | _, _ => .none
      | _ => .none
    | false => .none
  | .ref l => match Ops.get H (l), st with
    | some (.list vs), .none => match fits vs.length with
      | true => match clip vs.length 0 lo, clip vs.length vs.length hi with
        | some x, some y => alloc H (.list (cut vs x y))
        | _, _ => .none
      | false => .none
    | some (.xl vs _), .none => match fits vs.length with
      | true => match clip vs.length 0 lo, clip vs.length vs.length hi with
        | some x, some y => alloc H (.list (cut vs x y))
        | _, _ => .none
      | false => .none
    | _, _ => .none
  | _ => .none

noncomputable def setV (a i v : V) (H : Hp) : Option Hp := match a, i with
  | .ref l, .int i => match Ops.get H (l) with
    | some (.list vs) => match litNat i with
      | some k => match Nat.blt k vs.length with
        | true => some (Ops.set H l (.list (vs.set k v)))
        | false => .none
      | .none => .none
    | _ => .none
  | _, _ => .none

noncomputable def items (H : Hp) (l : Nat) : Option (List V) := match Ops.get H (l) with
  | some (.list vs) => some vs
  | some (.tup vs) => some vs
  | _ => .none

noncomputable def biOf (x : Str) : Option Bi := Fns.find x [("len", .len), ("range", .range), ("reversed", .reversed), ("zip", .zip), ("divmod", .divmod), ("max", .max), ("min", .min), ("int", .int), ("sum", .sum), ("sorted", .sorted)]

noncomputable def fmax (a b : UInt64) : UInt64 := match Float64.gt b a with
  | true => b
  | false => a

noncomputable def fmin (a b : UInt64) : UInt64 := match Float64.lt b a with
  | true => b
  | false => a

noncomputable def inP (op : Operator) (a b : V) : Option V := match a, b with
  | .int a, .int b => match op with
    | .Add => some (.int (a + b))
    | .Sub => some (.int (a - b))
    | _ => .none
  | .str a, .str b => match op with
    | .Add => match fits (a.length + b.length) with
      | true => some (.str (a ++ b))
      | false => .none
    | _ => .none
  | _, _ => .none

noncomputable def isSet : Expr → Bool
  | .Set _ _ _ => true
  | _ => false

noncomputable def evs (ih : Ih) (ρ : Rho) : List Expr → Hp → Option (List V × Hp)
  | [], H => some ([], H)
  | .Starred _ _ :: _, _ => .none
  | e :: r, H => match ih.e e ρ H with
    | some (v, H) => match evs ih ρ r H with
      | some (vs, H) => some (v :: vs, H)
      | .none => .none
    | .none => .none

noncomputable def closure (ρ : Rho) : List (Str × NameKind) → List (Str × Nat) → Option (List (Str × Nat))
  | [], cs => some cs
  | (x, .free) :: r, cs => match Fns.find x ρ.cells with
    | some c => closure ρ r ((x, c) :: cs)
    | .none => .none
  | _ :: r, cs => closure ρ r cs

noncomputable def chain (ih : Ih) (ρ : Rho) (a : V) : List CmpOp → List Expr → Hp → Option (Bool × Hp)
  | [op], [r], H => match ih.e r ρ H with
    | some (b, H) => match cmpV op (norm a) (norm b) H with
      | some t => some (t, H)
      | .none => .none
    | .none => .none
  | op :: op' :: ops, r :: rs, H => match ih.e r ρ H with
    | some (b, H) => match cmpV op (norm a) (norm b) H with
      | some true => chain ih ρ b (op' :: ops) rs H
      | some false => some (false, H)
      | .none => .none
    | .none => .none
  | _, _, _ => .none

noncomputable def tests (ih : Ih) (ρ : Rho) (op : BoolOp) : List Expr → Hp → Option (Bool × Hp)
  | [], H => some (match op with | .And => true | .Or => false, H)
  | e :: r, H => match ih.t e ρ H with
    | some (b, H) => match op, b with
      | .And, false => some (false, H)
      | .Or, true => some (true, H)
      | _, _ => tests ih ρ op r H
    | .none => .none

noncomputable def bools (ih : Ih) (ρ : Rho) (op : BoolOp) : List Expr → Hp → Option (V × Hp)
  | [], _ => .none
  | [e], H => ih.e e ρ H
  | e :: r, H => match ih.e e ρ H with
    | some (.bool b, H) => match op, b with
      | .And, false => some (.bool false, H)
      | .Or, true => some (.bool true, H)
      | _, _ => bools ih ρ op r H
    | _ => .none

noncomputable def optE (ih : Ih) (ρ : Rho) (e : Option Expr) (H : Hp) : Option (Option V × Hp) := match e with
  | .none => some (.none, H)
  | some e => match ih.e e ρ H with
    | some (v, H) => some (some v, H)
    | .none => .none

noncomputable def plainArgs (a : Arguments) : Option (List Str) := match a with
  | ⟨[], as, .none, [], [], .none, []⟩ => match nodupS (as.map (·.arg)) with
    | true => some (as.map (·.arg))
    | false => .none
  | _ => .none

noncomputable def notSlice : Expr → Bool
  | .Slice _ _ _ _ => false
  | _ => true

end
end Mine
end
section
open PySem
namespace Mine
section
variable [Fns] [Ops]

noncomputable def noRef : V → Bool
  | .ref _ => false
  | _ => true
noncomputable def noRefs : List V → Bool
  | [] => true
  | v :: r => match noRef v with
    | true => noRefs r
    | false => false

noncomputable def itAt (p : Nat) (H : Hp) : Option It := match Ops.get H p with
  | some (.it I) => some I
  | _ => .none

noncomputable def listAt (l : Nat) (H : Hp) : Option (List V) := match Ops.get H l with
  | some (.list vs) => some vs
  | _ => .none

noncomputable def tupAt (l : Nat) (H : Hp) : Option (List V) := match Ops.get H l with
  | some (.tup vs) => some vs
  | _ => .none

noncomputable def drawn (p : Nat) (I : It) (H : Hp) (o : Option V) : Option V × Hp := match o with
  | some v => (some v, Ops.set H p (.it I))
  | .none => (.none, Ops.set H p .gone)

noncomputable def seqAt (b : Bool) (l : Nat) (H : Hp) : Option (List V) := match b with
  | true => tupAt l H
  | false => listAt l H

noncomputable def nextQ (p : Nat) (b : Bool) (l i : Nat) (H : Hp) : Option (Option V × Hp) := match seqAt b l H with
  | some vs => some (drawn p (.seq b l (i + 1)) H (Fns.vget vs i))
  | .none => .none

noncomputable def nextR (p : Nat) (x st : Int) (k : Nat) (H : Hp) : Option (Option V × Hp) := match k with
  | 0 => some (.none, Ops.set H p .gone)
  | k + 1 => some (some (.int x), Ops.set H p (.it (.rng (x + st) st k)))

noncomputable def nextV (p l k : Nat) (H : Hp) : Option (Option V × Hp) := match k with
  | 0 => some (.none, Ops.set H p .gone)
  | k + 1 => match listAt l H with
    | some vs => match Fns.vget vs k with
      | some v => some (some v, Ops.set H p (.it (.rev l k)))
      | .none => .none
    | .none => .none

noncomputable def next1 (p : Nat) (I : It) (H : Hp) : Option (Option V × Hp) := match I with
  | .rng x st k => nextR p x st k H
  | .seq b l i => nextQ p b l i H
  | .rev l k => nextV p l k H
  | .zip _ _ _ _ => .none

noncomputable def isTup : Expr → Bool
  | .Tuple _ _ _ => true
  | _ => false

noncomputable def seqItAt (p : Nat) (H : Hp) : Option (Bool × Nat × Nat) := match itAt p H with
  | some (.seq b l i) => some (b, l, i)
  | _ => .none

noncomputable def nextS (p : Nat) (H : Hp) : Option (Option V × Hp) := match seqItAt p H with
  | some (b, l, i) => nextQ p b l i H
  | .none => .none

noncomputable def pairOf : List V → Option (V × V)
  | [a, b] => some (a, b)
  | _ => .none

noncomputable def pairAt (r : Nat) (H : Hp) : Option (V × V) := match tupAt r H with
  | some vs => pairOf vs
  | .none => .none

noncomputable def prK (k : Bool) (a b v : V) : List V := match k with
  | false => [v, b]
  | true => [a, v]

noncomputable def fillZ (i r : Nat) (k : Bool) (H : Hp) : Option (Bool × Hp) := match nextS i H with
  | some (some v, H) => match pairAt r H with
    | some (a, b) => some (true, Ops.set H r (.tup (prK k a b v)))
    | .none => .none
  | some (.none, H) => some (false, H)
  | .none => .none

noncomputable def zipAt (p : Nat) (b : Bool) (H : Hp) : Option (Nat × Nat × Nat) := match itAt p H with
  | some (.zip i j r .free) => match b with
    | false => some (i, j, r)
    | true => .none
  | some (.zip i j r .busy) => match b with
    | true => some (i, j, r)
    | false => .none
  | _ => .none

noncomputable def endZ (p : Nat) (H : Hp) : Option (Option V × Hp) := match zipAt p true H with
  | some _ => some (.none, Ops.set H p .gone)
  | .none => .none

noncomputable def outZ (p r : Nat) (H : Hp) : Option (Option V × Hp) := match zipAt p true H with
  | some (i, j, q) => match pairAt r H with
    | some (a, b) => some (some (.ref (Ops.len H)), Ops.set (Ops.app H [O.tup [a, b]]) p (.it (.zip i j q .free)))
    | .none => .none
  | .none => .none

noncomputable def nextZ (p i j r : Nat) (H : Hp) : Option (Option V × Hp) := match fillZ i r false (Ops.set H p (.it (.zip i j r .busy))) with
  | some (true, H) => match fillZ j r true H with
    | some (true, H) => outZ p r H
    | some (false, H) => endZ p H
    | .none => .none
  | some (false, H) => endZ p H
  | .none => .none

noncomputable def isZip : It → Bool
  | .zip _ _ _ _ => true
  | _ => false

noncomputable def after1 (p : Nat) (q : Option V × Hp) : Option (Option V × Hp) := match q with
  | (.none, H) => some (.none, H)
  | (some v, H) => match itAt p H with
    | some I => match isZip I with
      | true => .none
      | false => some (some v, H)
    | .none => .none

noncomputable def nextIt (t : Expr) (p : Nat) (H : Hp) : Option (Option V × Hp) := match zipAt p false H with
  | some (i, j, r) => match isTup t with
    | true => nextZ p i j r H
    | false => .none
  | .none => match itAt p H with
    | some I => match next1 p I H with
      | some q => after1 p q
      | .none => .none
    | .none => .none

noncomputable def flts : List V → Option (List UInt64)
  | [] => some []
  | .flt a :: r => match flts r with
    | some l => some (a :: l)
    | .none => .none
  | _ :: _ => .none

noncomputable def truncI (a : UInt64) : Option Int := match Float64.decode a with
  | .fin n m e => some (Float64.truncOf n m e)
  | _ => .none

noncomputable def seqLen (a : V) (H : Hp) : Option Nat := match a with
  | .str s => some s.length
  | .ref l => match Ops.get H l with
    | some (.list xs) => some xs.length
    | some (.xl xs _) => some xs.length
    | _ => .none
  | _ => .none

noncomputable def one : List V → Option V
  | [a] => some a
  | _ => .none

noncomputable def two : List V → Option (V × V)
  | [a, b] => some (a, b)
  | _ => .none

noncomputable def listOf (a : V) (H : Hp) : Option (Nat × List V) := match a with
  | .ref l => match Ops.get H l with
    | some (.list xs) => some (l, xs)
    | _ => .none
  | _ => .none

noncomputable def biV_len (vs : List V) (H : Hp) : Option (V × Hp) := match one vs with
  | some a => match seqLen a H with
    | some n => match fits n with
      | true => some (.int (n : Int), H)
      | false => .none
    | .none => .none
  | .none => .none

noncomputable def divmod2 (a b : V) (H : Hp) : Option (V × Hp) := match a, b with
  | .int a, .int b => match ieq b 0, fits (ib b) with
    | false, true => alloc H (.tup [.int (Int.fdiv a b), .int (Int.fmod a b)])
    | _, _ => .none
  | _, _ => .none

noncomputable def biV_divmod (vs : List V) (H : Hp) : Option (V × Hp) := match two vs with
  | some (a, b) => divmod2 a b H
  | .none => .none

noncomputable def three (f : UInt64 → UInt64 → UInt64) (vs : List V) : Option UInt64 := match flts vs with
  | some [a, b, c] => some (f (f a b) c)
  | _ => .none

noncomputable def max1 (vs : List V) (H : Hp) : Option V := match one vs with
  | some a => match listOf a H with
    | some (_, xs) => match three fmax xs with
      | some m => some (.flt m)
      | .none => .none
    | .none => .none
  | .none => .none

noncomputable def biV_max (vs : List V) (H : Hp) : Option V := match three fmax vs with
  | some m => some (.flt m)
  | .none => max1 vs H

noncomputable def biV_min (vs : List V) : Option V := match three fmin vs with
  | some m => some (.flt m)
  | .none => .none

noncomputable def vFlt : V → Option UInt64
  | .flt a => some a
  | _ => .none

noncomputable def biV_int (vs : List V) : Option V := match one vs with
  | some a => match vFlt a with
    | some a => match truncI a with
      | some i => some (.int i)
      | .none => .none
    | .none => .none
  | .none => .none

noncomputable def vInt : V → Option Int
  | .int a => some a
  | _ => .none

noncomputable def with1 (H : Hp) (o : Option V) : Option (V × Hp) := match o with
  | some v => some (v, H)
  | .none => .none

noncomputable def intsOf : List V → Option (List Int)
  | [] => some []
  | v :: r => match vInt v with
    | some a => match intsOf r with
      | some l => some (a :: l)
      | .none => .none
    | .none => .none

noncomputable def isum : List Int → Int
  | [] => 0
  | a :: r => a + isum r

noncomputable def biV_sum (vs : List V) (H : Hp) : Option V := match one vs with
  | some a => match listOf a H with
    | some (_, xs) => match intsOf xs with
      | some is => some (.int (isum is))
      | .none => .none
    | .none => .none
  | .none => .none

noncomputable def ltRa : List Int → List Int → Bool
  | [], [] => false
  | [], _ :: _ => true
  | _ :: _, [] => false
  | a :: x, b :: y => match ieq a b with
    | true => ltRa x y
    | false => ilt a b

/- a sort told by its questions -/
noncomputable def askRun {α : Type} (f : Nat → Nat → Option Bool) : W.KasT α → Option α
  | .ret a => some a
  | .ask i j k => match f i j with
    | some b => askRun f (k b)
    | .none => .none

/- the same sort, on lists -/
noncomputable def getN (l : List Nat) (i : Nat) : Nat := List.rec (motive := fun _ => Nat → Nat) (fun _ => 0) (fun h _ ih n => Nat.rec (motive := fun _ => Nat) h (fun k _ => ih k) n) l i
noncomputable def setN (l : List Nat) (i x : Nat) : List Nat := List.rec (motive := fun _ => Nat → List Nat) (fun _ => []) (fun h t ih n => Nat.rec (motive := fun _ => List Nat) (x :: t) (fun k _ => h :: ih k) n) l i
noncomputable def lits : List Nat := [0, 1, 2, 3, 4, 5, 6, 7, 8, 9, 10, 11, 12, 13, 14, 15, 16, 17, 18, 19, 20, 21, 22, 23, 24, 25, 26, 27, 28, 29, 30, 31]
noncomputable def forceN {β : Type} (i : Nat) (k : Nat → β) : List Nat → β := List.rec (motive := fun _ => β) (k i) (fun a _ ih => Bool.rec (motive := fun _ => β) ih (k a) (Nat.beq i a))
noncomputable def forceNs {β : Type} (l : List Nat) (k : List Nat → β) : β := List.rec (motive := fun _ => (List Nat → β) → β) (fun k => k []) (fun h _ ih k => forceN h (fun h => ih fun t => k (h :: t)) lits) l k
noncomputable def swapL (l : List Nat) (a b : Nat) : List Nat := match Nat.blt a l.length with
  | true => match Nat.blt b l.length with
    | true => setN (setN l a (getN l b)) b (getN l a)
    | false => l
  | false => l
noncomputable def swapsL (u v : Nat → Nat) : Nat → List Nat → List Nat
  | 0, l => l
  | d + 1, l => swapL (swapsL u v d l) (u d) (v d)
noncomputable def revL (l : List Nat) (i j : Nat) : List Nat := swapsL (fun k => i + k) (fun k => j - 1 - k) ((j - i) / 2) l
noncomputable def bubL (l : List Nat) (s d : Nat) : List Nat := swapsL (fun k => s - k) (fun k => s - k - 1) d l
section
variable (f : Nat → Nat → Option Bool)
noncomputable def ascL (l : List Nat) : Nat → Nat → Option Nat
  | 0, n => some n
  | k + 1, n => match f (getN l n) (getN l (n - 1)) with
    | some true => some n
    | some false => ascL l k (n + 1)
    | .none => .none
noncomputable def descL : Nat → List Nat → Nat → Nat → Option (List Nat × Nat × Nat)
  | 0, l, n, q => some (l, n, q)
  | k + 1, l, n, q => match f (getN l n) (getN l (n - 1)) with
    | some true => match Nat.blt 0 q with
      | true => forceNs (revL l (n - (q + 1)) n) fun l => descL k l (n + 1) 0
      | false => descL k l (n + 1) 0
    | some false => match f (getN l (n - 1)) (getN l n) with
      | some true => some (l, n, q)
      | some false => descL k l (n + 1) (q + 1)
      | .none => .none
    | .none => .none
noncomputable def tailL (n nrem : Nat) (l : List Nat) : Option (Nat × List Nat) := forceNs (revL l 0 n) fun l => match ascL f l (nrem - n) n with
  | some m => some (m, l)
  | .none => .none
noncomputable def descsL (n nrem : Nat) (l : List Nat) : Option (Nat × List Nat) := match descL f (nrem - (n + 1)) l (n + 1) 0 with
  | some (l, m, q) => match Nat.blt 0 q with
    | true => forceNs (revL l (m - (q + 1)) m) fun l => tailL f m nrem l
    | false => tailL f m nrem l
  | .none => .none
noncomputable def countL (nrem : Nat) (l : List Nat) : Option (Nat × List Nat) := match ascL f l (nrem - 1) 1 with
  | some n => match Nat.beq n nrem with
    | true => some (n, l)
    | false => match Nat.blt 1 n with
      | true => match f (getN l 0) (getN l (n - 1)) with
        | some true => some (n, l)
        | some false => forceNs (revL l 0 n) fun l => descsL f n nrem l
        | .none => .none
      | false => descsL f n nrem l
  | .none => .none
noncomputable def placeL (l : List Nat) (k : Nat) : Nat → Nat → Nat → Option Nat
  | 0, a, _ => some a
  | n + 1, a, b => match Nat.ble b a with
    | true => some a
    | false => match f (getN l k) (getN l ((a + b) / 2)) with
      | some true => placeL l k n a ((a + b) / 2)
      | some false => placeL l k n ((a + b) / 2 + 1) b
      | .none => .none
noncomputable def binsL : Nat → List Nat → Nat → Option (List Nat)
  | 0, l, _ => some l
  | n + 1, l, k => match placeL f l k k 0 k with
    | some a => forceNs (bubL l k (k - a)) fun l => binsL n l (k + 1)
    | .none => .none
noncomputable def sortL (n : Nat) : Option (List Nat) := match countL f n (List.range n) with
  | some (m, l) => match Nat.blt m n with
    | true => binsL f (n - max m 1) l (max m 1)
    | false => some l
  | .none => .none
end
noncomputable def getR (l : List (List Int)) (i : Nat) : List Int := List.rec (motive := fun _ => Nat → List Int) (fun _ => []) (fun h _ ih n => Nat.rec (motive := fun _ => List Int) h (fun k _ => ih k) n) l i
noncomputable def cmpR (n : Nat) (rows : List (List Int)) (i j : Nat) : Option Bool := match Nat.blt i n with
  | true => match Nat.blt j n with
    | true => some (ltRa (getR rows i) (getR rows j))
    | false => .none
  | false => .none

noncomputable def rowsOf (H : Hp) : List V → Option (List (List Int))
  | [] => some []
  | v :: r => match listOf v H with
    | some (_, xs) => match intsOf xs with
      | some is => match rowsOf H r with
        | some l => some (is :: l)
        | .none => .none
      | .none => .none
    | .none => .none

noncomputable def sortP (xs : List V) (rows : List (List Int)) : Option (List Nat) := match Nat.ble 2 xs.length with
  | true => match Nat.blt xs.length 64 with
    | true => sortL (cmpR xs.length rows) xs.length
    | false => .none
  | false => .none

noncomputable def biV_sorted (vs : List V) (H : Hp) : Option (V × Hp) := match one vs with
  | some a => match listOf a H with
    | some (_, xs) => match rowsOf H xs with
      | some rows => match sortP xs rows with
        | some p => alloc H (.list (p.map fun i => xs.getD i .none))
        | .none => .none
      | .none => .none
    | .none => .none
  | .none => .none

noncomputable def biV (b : Bi) (vs : List V) (H : Hp) : Option (V × Hp) := match b with
  | .len => biV_len vs H
  | .divmod => biV_divmod vs H
  | .max => with1 H (biV_max vs H)
  | .min => with1 H (biV_min vs)
  | .int => with1 H (biV_int vs)
  | .sum => with1 H (biV_sum vs H)
  | .sorted => biV_sorted vs H
  | .range => .none
  | .reversed => .none
  | .zip => .none

noncomputable def meOf (x : Str) : Option Me := Fns.find x [("append", .append), ("count", .count), ("replace", .replace), ("join", .join), ("bit_length", .bitLength), ("reverse", .reverse)]

noncomputable def repl1 (c d : Nat) : List Nat → List Nat
  | [] => []
  | x :: r => match Nat.beq x c with
    | true => d :: repl1 c d r
    | false => x :: repl1 c d r

noncomputable def count1 (c : Nat) : List Nat → Nat
  | [] => 0
  | x :: r => match Nat.beq x c with
    | true => count1 c r + 1
    | false => count1 c r

noncomputable def cat : List (List Nat) → List Nat
  | [] => []
  | x :: r => x ++ cat r

noncomputable def meV_append (o : V) (vs : List V) (H : Hp) : Option (V × Hp) := match one vs with
  | some v => match listOf o H with
    | some (l, xs) => match fits xs.length with
      | true => some (.none, Ops.set H l (.list (xs ++ [v])))
      | false => .none
    | .none => .none
  | .none => .none

noncomputable def noVs : List V → Bool
  | [] => true
  | _ => false

noncomputable def meV_reverse (o : V) (vs : List V) (H : Hp) : Option (V × Hp) := match noVs vs with
  | true => match listOf o H with
    | some (l, xs) => match fits xs.length with
      | true => some (.none, Ops.set H l (.list xs.reverse))
      | false => .none
    | .none => .none
  | false => .none

noncomputable def vStr : V → Option (List Nat)
  | .str a => some a
  | _ => .none

noncomputable def sign1 : List Nat → Option Nat
  | [c] => some c
  | _ => .none

noncomputable def meV_count (o : V) (vs : List V) : Option V := match one vs with
  | some a => match vStr o with
    | some s => match vStr a with
      | some c => match sign1 c with
        | some c => some (.int (count1 c s : Int))
        | .none => .none
      | .none => .none
    | .none => .none
  | .none => .none

noncomputable def noNs : List Nat → Bool
  | [] => true
  | _ => false

noncomputable def meV_join (o : V) (vs : List V) (H : Hp) : Option V := match one vs with
  | some a => match vStr o with
    | some s => match noNs s with
      | true => match listOf a H with
        | some (_, xs) => match strsOf xs with
          | some ls => match fits (cat ls).length with
            | true => some (.str (cat ls))
            | false => .none
          | .none => .none
        | .none => .none
      | false => .none
    | .none => .none
  | .none => .none

noncomputable def vRef : V → Option Nat
  | .ref l => some l
  | _ => .none

noncomputable def meV_bitLength (o : V) (vs : List V) : Option V := match noVs vs with
  | true => match vInt o with
    | some i => some (.int (ib i : Int))
    | .none => .none
  | false => .none

noncomputable def meV (m : Me) (o : V) (vs : List V) (H : Hp) : Option (V × Hp) := match m with
  | .append => meV_append o vs H
  | .reverse => meV_reverse o vs H
  | .count => with1 H (meV_count o vs)
  | .replace => .none
  | .join => with1 H (meV_join o vs H)
  | .bitLength => with1 H (meV_bitLength o vs)

noncomputable def isSome {α : Type} : Option α → Bool
  | some _ => true
  | .none => false

noncomputable def recvOk (m : Me) (o : V) (H : Hp) : Bool := match m with
  | .append => isSome (listOf o H)
  | .reverse => isSome (listOf o H)
  | .bitLength => isSome (vInt o)
  | .count => isSome (vStr o)
  | .join => isSome (vStr o)
  | .replace => isSome (vStr o)

noncomputable def realize (d : D) (H : Hp) : Option (V × Hp) := match d with
  | .val v => some (v, H)
  | .tup vs => alloc H (.tup vs)

noncomputable def layCells : List (Str × NameKind) → List (Str × Nat) → Hp → List (Str × Nat) × Hp
  | [], cs, H => (cs, H)
  | (x, .cell) :: r, cs, H => layCells r ((x, (Ops.len H)) :: cs) (Ops.app H [.cell .none])
  | _ :: r, cs, H => layCells r cs H

noncomputable def bindAll (ρ : Rho) : List (Str × V) → Hp → Option Hp
  | [], H => some H
  | (x, v) :: r, H => match stName ρ H x v with
    | some H => bindAll ρ r H
    | .none => .none

noncomputable def isFun : ScopeKind → Bool
  | .function => true
  | _ => false

noncomputable def plainScope (s : Scope) : Bool := match isFun s.kind with
  | true => match s.isGenerator with
    | false => match s.isCoroutine with
      | false => true
      | true => false
    | true => false
  | false => false

noncomputable def enterB (tab : Option Nat) (scope : Scope) (binds : List (Str × V)) (n : Nat) (q : List (Str × Nat) × Hp) : Option (Rho × Hp) := match bindAll ⟨scope, n, q.1, tab⟩ binds q.2 with
  | some H => some (⟨scope, n, q.1, tab⟩, H)
  | .none => .none

noncomputable def enter (tab : Option Nat) (scope : Scope) (cs : List (Str × Nat)) (params : List Str) (vs : List V) (H : Hp) : Option (Rho × Hp) := match Nat.beq params.length vs.length with
  | true => match plainScope scope with
    | true => enterB tab scope (params.zip vs) (Ops.len H) (layCells scope.names cs (Ops.app H [.ns []]))
    | false => .none
  | false => .none

noncomputable def resF (f : Fl) (H : Hp) : Option (V × Hp) := match f with
  | .ret v => some (v, H)
  | .next => some (.none, H)
  | .brk => .none
  | .cont => .none

noncomputable def result (o : Option (Fl × Hp)) : Option (V × Hp) := match o with
  | some (f, H) => resF f H
  | .none => .none

noncomputable def callRun (ih : Ih) (tab : Option Nat) (scope : Scope) (cs : List (Str × Nat)) (ps : List Str) (body : List Stmt) (vs : List V) (H : Hp) : Option (V × Hp) := match enter tab scope cs ps vs H with
  | some (ρ, H) => result (ih.s body ρ H)
  | .none => .none

noncomputable def conOf (ih : Ih) (G : Env0) (f : Str) (vs : List V) : Option D := match ih.c with
  | true => match noRefs vs with
    | true => G.con f vs
    | false => .none
  | false => .none

noncomputable def callFn (ih : Ih) (G : Env0) (f : Str) (vs : List V) (H : Hp) : Option (V × Hp) := match conOf ih G f vs with
  | some d => realize d H
  | .none => match G.fn f with
    | some F => callRun ih F.tab F.scope [] F.params F.body vs H
    | .none => .none

noncomputable def callClo (ih : Ih) (v : V) (vs : List V) (H : Hp) : Option (V × Hp) := match vRef v with
  | some l => match Ops.get H l with
    | some (.fn ps body scope cs) => callRun ih .none scope cs ps body vs H
    | _ => .none
  | .none => .none

noncomputable def range1 (b : V) : Option (Int × Int) := match vInt b with
  | some b => some (0, b)
  | .none => .none

noncomputable def range2 (a b : V) : Option (Int × Int) := match vInt a with
  | some a => match vInt b with
    | some b => some (a, b)
    | .none => .none
  | .none => .none

noncomputable def rangeOf (vs : List V) : Option (Int × Int) := match one vs with
  | some b => range1 b
  | .none => match two vs with
    | some (a, b) => range2 a b
    | .none => .none

noncomputable def smallI (a : Int) : Bool := fits a.natAbs

noncomputable def allocIt (I : It) (H : Hp) : Option (Nat × Hp) := some ((Ops.len H), Ops.app H [.it I])

noncomputable def isGlobal (ρ : Rho) (x : Str) : Bool := match kind ρ x with
  | some .globalImplicit => true
  | _ => false

noncomputable def seqKind (l : Nat) (H : Hp) : Option Bool := match Ops.get H l with
  | some (.list _) => some false
  | some (.tup _) => some true
  | _ => .none

noncomputable def nameCall : Expr → Option (Str × List Expr)
  | .Call (.Name f _) args [] _ => some (f, args)
  | _ => .none

noncomputable def biCall (ρ : Rho) (e : Expr) : Option (Bi × List Expr) := match nameCall e with
  | some (f, args) => match isGlobal ρ f with
    | true => match biOf f with
      | some b => some (b, args)
      | .none => .none
    | false => .none
  | .none => .none

noncomputable def isStar : Expr → Bool
  | .Starred _ _ => true
  | _ => false

noncomputable def evRange (ih : Ih) (ρ : Rho) (args : List Expr) (H : Hp) : Option ((Int × Int) × Hp) := match evs ih ρ args H with
  | some (vs, H) => match rangeOf vs with
    | some r => some (r, H)
    | .none => .none
  | .none => .none

noncomputable def rngIt (ih : Ih) (ρ : Rho) (args : List Expr) (H : Hp) : Option (Nat × Hp) := match evRange ih ρ args H with
  | some ((a, b), H) => match smallI a, smallI b with
    | true, true => allocIt (.rng a 1 (b - a).toNat) H
    | _, _ => .none
  | .none => .none

noncomputable def rngRev (ih : Ih) (ρ : Rho) (args : List Expr) (H : Hp) : Option (Nat × Hp) := match evRange ih ρ args H with
  | some ((a, b), H) => match smallI a, smallI b with
    | true, true => allocIt (.rng (a + ((b - a).toNat - 1 : Int)) (-1) (b - a).toNat) H
    | _, _ => .none
  | .none => .none

noncomputable def evPlainIt (ih : Ih) (e : Expr) (ρ : Rho) (H : Hp) : Option (Nat × Hp) := match ih.e e ρ H with
  | some (v, H) => match vRef v with
    | some l => match seqKind l H with
      | some b => allocIt (.seq b l 0) H
      | .none => .none
    | .none => .none
  | .none => .none

noncomputable def zip2 (a b : V) (H : Hp) : Option (Nat × Hp) := match vRef a with
  | some l => match vRef b with
    | some m => match seqKind l H with
      | some b1 => match seqKind m H with
        | some b2 => some (Ops.len H + 3, Ops.app H [.it (.seq b1 l 0), .it (.seq b2 m 0), .tup [.none, .none], .it (.zip (Ops.len H) (Ops.len H + 1) (Ops.len H + 2) .free)])
        | .none => .none
      | .none => .none
    | .none => .none
  | .none => .none

noncomputable def zipIt (ih : Ih) (ρ : Rho) (args : List Expr) (H : Hp) : Option (Nat × Hp) := match evs ih ρ args H with
  | some (vs, H) => match two vs with
    | some (a, b) => zip2 a b H
    | .none => .none
  | .none => .none

noncomputable def oneE : List Expr → Option Expr
  | [a] => some a
  | _ => .none

noncomputable def revList (ih : Ih) (ρ : Rho) (a : Expr) (H : Hp) : Option (Nat × Hp) := match ih.e a ρ H with
  | some (v, H) => match listOf v H with
    | some (l, vs) => allocIt (.rev l vs.length) H
    | .none => .none
  | .none => .none

noncomputable def revIt (ih : Ih) (ρ : Rho) (args : List Expr) (H : Hp) : Option (Nat × Hp) := match oneE args with
  | some a => match isStar a with
    | true => .none
    | false => match biCall ρ a with
      | some (.range, args') => rngRev ih ρ args' H
      | _ => revList ih ρ a H
  | .none => .none

noncomputable def biIter (ih : Ih) (ρ : Rho) (b : Bi) (args : List Expr) (H : Hp) : Option (Nat × Hp) := match b with
  | .range => rngIt ih ρ args H
  | .zip => zipIt ih ρ args H
  | .reversed => revIt ih ρ args H
  | .len => .none
  | .divmod => .none
  | .max => .none
  | .min => .none
  | .int => .none
  | .sum => .none
  | .sorted => .none

noncomputable def evIter (ih : Ih) (e : Expr) (ρ : Rho) (H : Hp) : Option (Nat × Hp) := match biCall ρ e with
  | some (b, args) => biIter ih ρ b args H
  | .none => match isSet e with
    | true => .none
    | false => evPlainIt ih e ρ H

noncomputable def nameOf : Expr → Option Str
  | .Name x _ => some x
  | _ => .none

noncomputable def assignL (ρ : Rho) : List Expr → List V → Hp → Option Hp
  | [], [], H => some H
  | t :: ts, v :: vs, H => match nameOf t with
    | some x => match stName ρ H x v with
      | some H => assignL ρ ts vs H
      | .none => .none
    | .none => .none
  | [], _ :: _, _ => .none
  | _ :: _, [], _ => .none

noncomputable def assignTup (ρ : Rho) (ts : List Expr) (v : V) (H : Hp) : Option Hp := match vRef v with
  | some l => match tupAt l H with
    | some vs => assignL ρ ts vs H
    | .none => .none
  | .none => .none

noncomputable def assignSub (ih : Ih) (ρ : Rho) (o i : Expr) (v : V) (H : Hp) : Option Hp := match ih.e o ρ H with
  | some (ov, H) => match ih.e i ρ H with
    | some (iv, H) => setV ov iv v H
    | .none => .none
  | .none => .none

noncomputable def assignT (ih : Ih) (ρ : Rho) (t : Expr) (v : V) (H : Hp) : Option Hp := match t with
  | .Name x _ => stName ρ H x v
  | .Tuple ts _ _ => assignTup ρ ts v H
  | .Subscript o i _ => assignSub ih ρ o i v H
  | _ => .none

noncomputable def ifsOk (ih : Ih) (ρ : Rho) : List Expr → Hp → Option (Bool × Hp)
  | [], H => some (true, H)
  | e :: r, H => match ih.t e ρ H with
    | some (true, H) => ifsOk ih ρ r H
    | some (false, H) => some (false, H)
    | .none => .none

noncomputable def loopC (t : Expr) (step : V → Hp → Option Hp) : Nat → Nat → Hp → Option Hp
  | 0, _, _ => .none
  | k + 1, p, H => match nextIt t p H with
    | some (some v, H) => match step v H with
      | some H => loopC t step k p H
      | .none => .none
    | some (.none, H) => some H
    | .none => .none

noncomputable def turns : Nat := 2000

noncomputable def sync (g : Comprehension) : Bool := ieq g.is_async 0

noncomputable def syncs : List Comprehension → Bool
  | [] => true
  | g :: r => match sync g with
    | true => syncs r
    | false => false

noncomputable def turnC (ih : Ih) (ρ : Rho) (t : Expr) (ifs : List Expr) (inn : Hp → Option Hp) (v : V) (H : Hp) : Option Hp := match assignT ih ρ t v H with
  | some H => match ifsOk ih ρ ifs H with
    | some (true, H) => inn H
    | some (false, H) => some H
    | .none => .none
  | .none => .none

noncomputable def innC (ih : Ih) (ρ : Rho) (emit : Hp → Option Hp) (rest : Nat → Hp → Option Hp) : List Comprehension → Hp → Option Hp
  | [], H => emit H
  | g :: _, H => match evIter ih g.iter ρ H with
    | some (p, H) => match itAt p H with
      | some _ => rest p H
      | .none => .none
    | .none => .none

noncomputable def clauses (ih : Ih) (ρ : Rho) (emit : Hp → Option Hp) : List Comprehension → Nat → Hp → Option Hp
  | [], _, _ => .none
  | g :: gs, p, H => loopC g.target (turnC ih ρ g.target g.ifs (innC ih ρ emit (clauses ih ρ emit gs) gs)) turns p H

noncomputable def compScope (ρ : Rho) (scope : Scope) : Scope :=
  { scope with names := scope.names.map fun (n, k) => if (k == .free && ρ.scope.kind == .function && find n ρ.scope.names == some .cell) then (n, .cell) else (n, k) }

noncomputable def isLoc : Option NameKind → Bool
  | some .local => true
  | _ => false

noncomputable def isLocK : NameKind → Bool
  | .local => true
  | _ => false

noncomputable def namesOk (all : List (Str × NameKind)) : List (Str × NameKind) → Bool
  | [] => true
  | p :: r => match isLocK p.2 with
    | true => match isLoc (find p.1 all) with
      | true => namesOk all r
      | false => false
    | false => namesOk all r

noncomputable def emitL (ih : Ih) (elt : Expr) (la : Nat) (ρ : Rho) (H : Hp) : Option Hp := match ih.e elt ρ H with
  | some (v, H) => match listAt la H with
    | some vs => match fits vs.length with
      | true => some (Ops.set H la (.list (vs ++ [v])))
      | false => .none
    | .none => .none
  | .none => .none

noncomputable def compOk (scope : Scope) (gens : List Comprehension) : Bool := match isFun scope.kind with
  | true => match namesOk scope.names scope.names with
    | true => syncs gens
    | false => false
  | false => false

noncomputable def compRho (ρ : Rho) (scope : Scope) (n : Nat) (cs : List (Str × Nat)) : Rho := ⟨compScope ρ scope, n + 1, cs, .none⟩

noncomputable def finC (fin : Option (V → Hp → Option Hp)) (v : V) (H : Hp) : Option Hp := match fin with
  | some f => f v H
  | .none => some H

noncomputable def compEnd (fin : Option (V → Hp → Option Hp)) (n : Nat) (H : Hp) : Option (V × Hp) := match finC fin (.ref n) H with
  | some H => match Ops.get H (n + 1) with
    | some (.ns _) => some (.ref n, Ops.set H (n + 1) .gone)
    | _ => .none
  | .none => .none

noncomputable def compRun (ih : Ih) (ρ : Rho) (elt : Expr) (gens : List Comprehension) (scope : Scope) (fin : Option (V → Hp → Option Hp)) (n p : Nat) (q : List (Str × Nat) × Hp) : Option (V × Hp) := match itAt p q.2 with
  | some _ => match clauses ih (compRho ρ scope n q.1) (emitL ih elt n (compRho ρ scope n q.1)) gens p q.2 with
    | some H => compEnd fin n H
    | .none => .none
  | .none => .none

noncomputable def comp (ih : Ih) (ρ : Rho) (elt : Expr) (gens : List Comprehension) (scope : Scope) (fin : Option (V → Hp → Option Hp)) (H : Hp) : Option (V × Hp) := match gens with
  | [] => .none
  | g :: gs => match compOk scope (g :: gs) with
    | true => match evIter ih g.iter ρ H with
      | some (p, H) => match closure ρ scope.names [] with
        | some cs => compRun ih ρ elt (g :: gs) scope fin (Ops.len H) p (layCells scope.names cs (Ops.app H [.list [], .ns []]))
        | .none => .none
      | .none => .none
    | false => .none

noncomputable def dictAt (l : Nat) (H : Hp) : Option (List (Int × V)) := match Ops.get H l with
  | some (.dict es) => some es
  | _ => .none

noncomputable def emitD (ih : Ih) (k v : Expr) (la : Nat) (ρ : Rho) (H : Hp) : Option Hp := match ih.e k ρ H with
  | some (kv, H) => match vInt kv with
    | some i => match ih.e v ρ H with
      | some (w, H) => match dictAt la H with
        | some es => match fits es.length with
          | true => some (Ops.set H la (.dict ((i, w) :: es)))
          | false => .none
        | .none => .none
      | .none => .none
    | .none => .none
  | .none => .none

noncomputable def compRunD (ih : Ih) (ρ : Rho) (k v : Expr) (g : Comprehension) (scope : Scope) (fin : Option (V → Hp → Option Hp)) (n p : Nat) (q : List (Str × Nat) × Hp) : Option (V × Hp) := match itAt p q.2 with
  | some _ => match loopC g.target (turnC ih (compRho ρ scope n q.1) g.target g.ifs (emitD ih k v n (compRho ρ scope n q.1))) turns p q.2 with
    | some H => compEnd fin n H
    | .none => .none
  | .none => .none

noncomputable def oneG : List Comprehension → Option Comprehension
  | [g] => some g
  | _ => .none

noncomputable def compD (ih : Ih) (ρ : Rho) (k v : Expr) (gens : List Comprehension) (scope : Scope) (fin : Option (V → Hp → Option Hp)) (H : Hp) : Option (V × Hp) := match oneG gens with
  | some g => match compOk scope [g] with
    | true => match evIter ih g.iter ρ H with
      | some (p, H) => match closure ρ scope.names [] with
        | some cs => compRunD ih ρ k v g scope fin (Ops.len H) p (layCells scope.names cs (Ops.app H [.dict [], .ns []]))
        | .none => .none
      | .none => .none
    | false => .none
  | .none => .none

noncomputable def isName : Expr → Bool
  | .Name _ _ => true
  | _ => false

noncomputable def isCall0 : Expr → Bool
  | .Call f _ _ _ => isName f
  | _ => false

noncomputable def methodOk (o : Expr) (apos : Pos) (args : List Expr) (pos : Pos) : Bool := match isCall0 o, Nat.beq apos.endLine pos.line with
  | false, true => Nat.blt args.length 30
  | _, _ => false

noncomputable def lit1 (c : Option V) : Option Nat := match c with
  | some (.lit z) => sign1 z
  | _ => .none

noncomputable def replM (ih : Ih) (ρ : Rho) (o : V) (a : Expr) (c : Const) (H : Hp) : Option (V × Hp) := match isStar a, lit1 (const c), vStr o with
  | false, some z, some s => match fits s.length with
    | true => match ih.e a ρ H with
      | some (v, H) => match lit1 (some v) with
        | some y => some (.str (repl1 y z s), H)
        | .none => .none
      | .none => .none
    | false => .none
  | _, _, _ => .none

noncomputable def stepMp (ih : Ih) (ρ : Rho) (m : Me) (o : V) (args : List Expr) (H : Hp) : Option (V × Hp) := match recvOk m o H with
  | true => match evs ih ρ args H with
    | some (vs, H) => meV m o (vs.map norm) H
    | .none => .none
  | false => .none

noncomputable def constOf : Expr → Option Const
  | .Constant c _ _ => some c
  | _ => .none

noncomputable def twoE : List Expr → Option (Expr × Expr)
  | [a, b] => some (a, b)
  | _ => .none

noncomputable def stepMr (ih : Ih) (ρ : Rho) (o : V) (args : List Expr) (H : Hp) : Option (V × Hp) := match twoE args with
  | some (a, b) => match constOf b with
    | some c => replM ih ρ o a c H
    | .none => .none
  | .none => .none

noncomputable def stepMe (ih : Ih) (ρ : Rho) (m : Me) (o : V) (args : List Expr) (H : Hp) : Option (V × Hp) := match m with
  | .replace => stepMr ih ρ o args H
  | .append => stepMp ih ρ .append o args H
  | .reverse => stepMp ih ρ .reverse o args H
  | .bitLength => stepMp ih ρ .bitLength o args H
  | .count => stepMp ih ρ .count o args H
  | .join => stepMp ih ρ .join o args H

noncomputable def stepE_Constant (ih : Ih) (G : Env0) (ρ : Rho) (H : Hp) (c : Const) : Option (V × Hp) := match const c with
    | some v => some (v, H)
    | .none => .none

noncomputable def stepE_Name (ih : Ih) (G : Env0) (ρ : Rho) (H : Hp) (x : Str) : Option (V × Hp) := match ldName G ρ H x with
    | some v => some (v, H)
    | .none => .none

noncomputable def stepE_BinOp (ih : Ih) (G : Env0) (ρ : Rho) (H : Hp) (l : Expr) (op : Operator) (r : Expr) : Option (V × Hp) := match ih.e l ρ H with
    | some (a, H) => match ih.e r ρ H with
      | some (b, H) => binV op (norm a) (norm b) H
      | .none => .none
    | .none => .none

noncomputable def stepE_UnaryOp (ih : Ih) (G : Env0) (ρ : Rho) (H : Hp) (op : UnaryOp) (x : Expr) : Option (V × Hp) := match ih.e x ρ H with
    | some (a, H) => match unV op a with
      | some v => some (v, H)
      | .none => .none
    | .none => .none

noncomputable def fltOf : Const → Option UInt64
  | .float x => some x
  | _ => .none

noncomputable def fltLits : List Expr → Option (List UInt64)
  | [] => some []
  | e :: r => match constOf e with
    | some c => match fltOf c with
      | some x => match fltLits r with
        | some l => some (x :: l)
        | .none => .none
      | .none => .none
    | .none => .none

noncomputable def tupOf : Expr → Option (List Expr)
  | .Tuple es _ _ => some es
  | _ => .none

noncomputable def isEq1 : List CmpOp → Bool
  | [.Eq] => true
  | _ => false

noncomputable def litCmp (ops : List CmpOp) (rs : List Expr) : Option (List UInt64) := match isEq1 ops with
  | true => match oneE rs with
    | some r => match tupOf r with
      | some es => fltLits es
      | .none => .none
    | .none => .none
  | false => .none

noncomputable def okF (a b : UInt64) : Bool := match feq a b with
  | true => true
  | false => !Nat.beq a.toNat b.toNat

noncomputable def eqLits : List UInt64 → List UInt64 → Option Bool
  | a :: x, b :: y => match okF a b with
    | true => match eqLits x y with
      | some r => some (feq a b && r)
      | .none => .none
    | false => .none
  | [], [] => some true
  | [], _ :: _ => .none
  | _ :: _, [] => .none

noncomputable def cmpLit (a : V) (ls : List UInt64) (H : Hp) : Option (V × Hp) := match vRef a with
  | some l => match tupAt l H with
    | some vs => match flts vs with
      | some fs => match fits ls.length with
        | true => match eqLits fs ls with
          | some r => some (.bool r, Ops.app H [.tup (ls.map .flt)])
          | .none => .none
        | false => .none
      | .none => .none
    | .none => .none
  | .none => .none

noncomputable def cmpChain (ih : Ih) (ρ : Rho) (a : V) (ops : List CmpOp) (rs : List Expr) (H : Hp) : Option (V × Hp) := match chain ih ρ a ops rs H with
  | some (b, H) => some (.bool b, H)
  | .none => .none

noncomputable def stepE_Compare (ih : Ih) (G : Env0) (ρ : Rho) (H : Hp) (l : Expr) (ops : List CmpOp) (rs : List Expr) : Option (V × Hp) := match ih.e l ρ H with
  | some (a, H) => match litCmp ops rs with
    | some ls => cmpLit a ls H
    | .none => cmpChain ih ρ a ops rs H
  | .none => .none

noncomputable def stepE_BoolOp (ih : Ih) (G : Env0) (ρ : Rho) (H : Hp) (op : BoolOp) (es : List Expr) : Option (V × Hp) := bools ih ρ op es H

noncomputable def stepE_IfExp (ih : Ih) (G : Env0) (ρ : Rho) (H : Hp) (t b o : Expr) : Option (V × Hp) := match ih.t t ρ H with
    | some (true, H) => ih.e b ρ H
    | some (false, H) => ih.e o ρ H
    | .none => .none

noncomputable def stepE_List (ih : Ih) (G : Env0) (ρ : Rho) (H : Hp) (es : List Expr) : Option (V × Hp) := match evs ih ρ es H with
    | some (vs, H) => match fits vs.length with
      | true => alloc H (.list vs)
      | false => .none
    | .none => .none

noncomputable def stepE_Tuple (ih : Ih) (G : Env0) (ρ : Rho) (H : Hp) (es : List Expr) : Option (V × Hp) := match evs ih ρ es H with
    | some (vs, H) => match fits vs.length with
      | true => alloc H (.tup vs)
      | false => .none
    | .none => .none

noncomputable def sliceOf : Expr → Option (Option Expr × Option Expr × Option Expr)
  | .Slice lo hi st _ => some (lo, hi, st)
  | _ => .none

noncomputable def stepE_Slice (ih : Ih) (ρ : Rho) (a : V) (lo hi st : Option Expr) (H : Hp) : Option (V × Hp) := match optE ih ρ lo H with
  | some (lo, H) => match optE ih ρ hi H with
    | some (hi, H) => match optE ih ρ st H with
      | some (st, H) => sliceV a lo hi st H
      | .none => .none
    | .none => .none
  | .none => .none

noncomputable def stepE_Item (ih : Ih) (ρ : Rho) (a : V) (i : Expr) (H : Hp) : Option (V × Hp) := match ih.e i ρ H with
  | some (b, H) => match itemV a (norm b) H with
    | some v => some (v, H)
    | .none => .none
  | .none => .none

noncomputable def stepE_Subscript (ih : Ih) (G : Env0) (ρ : Rho) (H : Hp) (v i : Expr) : Option (V × Hp) := match ih.e v ρ H with
  | some (a, H) => match sliceOf i with
    | some (lo, hi, st) => stepE_Slice ih ρ (norm a) lo hi st H
    | .none => stepE_Item ih ρ (norm a) i H
  | .none => .none

noncomputable def callG (ih : Ih) (G : Env0) (ρ : Rho) (H : Hp) (f : Str) (args : List Expr) : Option (V × Hp) := match evs ih ρ args H with
  | some (vs, H) => match biOf f with
    | some b => biV b (vs.map norm) H
    | .none => callFn ih G f vs H
  | .none => .none

noncomputable def callF (ih : Ih) (G : Env0) (ρ : Rho) (H : Hp) (f : Str) (args : List Expr) : Option (V × Hp) := match ldName G ρ H f with
  | some fv => match evs ih ρ args H with
    | some (vs, H) => callClo ih fv vs H
    | .none => .none
  | .none => .none

noncomputable def stepE_CallN (ih : Ih) (G : Env0) (ρ : Rho) (H : Hp) (f : Str) (args : List Expr) : Option (V × Hp) := match kind ρ f with
  | some .globalImplicit => callG ih G ρ H f args
  | some .cell => callF ih G ρ H f args
  | some .free => callF ih G ρ H f args
  | _ => .none

noncomputable def stepE_CallA (ih : Ih) (G : Env0) (ρ : Rho) (H : Hp) (o : Expr) (m : Str) (apos : Pos) (args : List Expr) (pos : Pos) : Option (V × Hp) := match methodOk o apos args pos with
    | true => match ih.e o ρ H with
      | some (ov, H) => match meOf m with
        | some m => stepMe ih ρ m (norm ov) args H
        | .none => .none
      | .none => .none
    | false => .none

noncomputable def stepE_ListComp (ih : Ih) (G : Env0) (ρ : Rho) (H : Hp) (elt : Expr) (gens : List Comprehension) (scope : Scope) : Option (V × Hp) := comp ih ρ elt gens scope .none H

noncomputable def stepE_Call (ih : Ih) (G : Env0) (ρ : Rho) (H : Hp) (f : Expr) (args : List Expr) (kws : List Keyword) (pos : Pos) : Option (V × Hp) := match kws with
  | [] => match f with
    | .Name f _ => stepE_CallN ih G ρ H f args
    | .Attribute o m apos => stepE_CallA ih G ρ H o m apos args pos
    | _ => .none
  | _ => .none

noncomputable def stepE (ih : Ih) (G : Env0) (e : Expr) (ρ : Rho) (H : Hp) : Option (V × Hp) := match e with
  | .Constant c _ _ => stepE_Constant ih G ρ H c
  | .Name x _ => stepE_Name ih G ρ H x
  | .BinOp l op r _ => stepE_BinOp ih G ρ H l op r
  | .UnaryOp op x _ => stepE_UnaryOp ih G ρ H op x
  | .Compare l ops rs _ => stepE_Compare ih G ρ H l ops rs
  | .BoolOp op es _ => stepE_BoolOp ih G ρ H op es
  | .IfExp t b o _ => stepE_IfExp ih G ρ H t b o
  | .List es _ => stepE_List ih G ρ H es
  | .Tuple es _ _ => stepE_Tuple ih G ρ H es
  | .Subscript v i _ => stepE_Subscript ih G ρ H v i
  | .Call f args kws pos => stepE_Call ih G ρ H f args kws pos
  | .ListComp elt gens scope _ => stepE_ListComp ih G ρ H elt gens scope
  | _ => .none

noncomputable def boolOf : Expr → Option (BoolOp × List Expr)
  | .BoolOp op es _ => some (op, es)
  | _ => .none

noncomputable def cmpOf : Expr → Option (Expr × List CmpOp × List Expr × Pos)
  | .Compare l ops rs p => some (l, ops, rs, p)
  | _ => .none

noncomputable def noTest : Expr → Bool
  | .BoolOp _ _ _ => true
  | .Compare _ _ _ _ => true
  | .IfExp _ _ _ _ => true
  | .UnaryOp .Not _ _ => true
  | _ => false

noncomputable def stepT (ih : Ih) (e : Expr) (ρ : Rho) (H : Hp) : Option (Bool × Hp) := match boolOf e with
  | some (op, es) => tests ih ρ op es H
  | .none => match cmpOf e with
    | some (l, ops, rs, _) => match ih.e l ρ H with
      | some (a, H) => chain ih ρ a ops rs H
      | .none => .none
    | .none => match noTest e with
      | true => .none
      | false => match ih.e e ρ H with
        | some (v, H) => match truthV H v with
          | some b => some (b, H)
          | .none => .none
        | .none => .none

noncomputable def afterF (rec : Hp → Option (Fl × Hp)) (f : Fl) (H : Hp) : Option (Fl × Hp) := match f with
  | .next => rec H
  | .cont => rec H
  | .brk => some (.next, H)
  | .ret v => some (.ret v, H)

noncomputable def afterW (rec : Hp → Option (Fl × Hp)) (o : Option (Fl × Hp)) : Option (Fl × Hp) := match o with
  | some (f, H) => afterF rec f H
  | .none => .none

noncomputable def loopW (test : Hp → Option (Bool × Hp)) (body : Hp → Option (Fl × Hp)) : Nat → Hp → Option (Fl × Hp)
  | 0, _ => .none
  | k + 1, H => match test H with
    | some (true, H) => afterW (loopW test body k) (body H)
    | some (false, H) => some (.next, H)
    | .none => .none

noncomputable def loopF (t : Expr) (asg : V → Hp → Option Hp) (body : Hp → Option (Fl × Hp)) : Nat → Nat → Hp → Option (Fl × Hp)
  | 0, _, _ => .none
  | k + 1, p, H => match nextIt t p H with
    | some (some v, H) => match asg v H with
      | some H => afterW (loopF t asg body k p) (body H)
      | .none => .none
    | some (.none, H) => some (.next, H)
    | .none => .none

noncomputable def itemsG (i : Nat) (e : Bool) : List Nat → List (Nat × List Nat)
  | [] => match e with
    | true => [(i - 1, [92])]
    | false => []
  | c :: r => match e with
    | true => (i, [92, c]) :: itemsG (i + 1) false r
    | false => match Nat.beq c 92 with
      | true => itemsG (i + 1) true r
      | false => (i, [c]) :: itemsG (i + 1) false r

noncomputable def evGenV (v : V) (H : Hp) : Option (List (Nat × List Nat) × Hp) := match vStr (norm v) with
  | some x => some (itemsG 0 false x, H)
  | .none => .none

noncomputable def evGenA (ih : Ih) (ρ : Rho) (args : List Expr) (H : Hp) : Option (List (Nat × List Nat) × Hp) := match evs ih ρ args H with
  | some (vs, H) => match one vs with
    | some v => evGenV v H
    | .none => .none
  | .none => .none

noncomputable def evGen (ih : Ih) (G : Env0) (ρ : Rho) (it : Expr) (H : Hp) : Option (List (Nat × List Nat) × Hp) := match ih.c with
  | true => match nameCall it with
    | some (f, args) => match isGlobal ρ f with
      | true => match G.gen f with
        | true => evGenA ih ρ args H
        | false => .none
      | false => .none
    | .none => .none
  | false => .none

noncomputable def loopG (asg : V → Hp → Option Hp) (body : Hp → Option (Fl × Hp)) : List (Nat × List Nat) → Hp → Option (Fl × Hp)
  | [], H => some (.next, H)
  | (p, u) :: us, H => match asg (.ref (Ops.len H)) (Ops.app H [.tup [.int p, .str u]]) with
    | some H => afterW (loopG asg body us) (body H)
    | .none => .none

noncomputable def noAnn : List Arg → Bool
  | [] => true
  | a :: r => match a.annotation with
    | .none => noAnn r
    | some _ => false

noncomputable def isComp : Expr → Bool
  | .ListComp _ _ _ _ => true
  | .SetComp _ _ _ _ => true
  | .DictComp _ _ _ _ _ => true
  | _ => false

noncomputable def assignP (ih : Ih) (ρ : Rho) (t e : Expr) (H : Hp) : Option (Fl × Hp) := match ih.e e ρ H with
  | some (v, H) => match assignT ih ρ t v H with
    | some H => some (.next, H)
    | .none => .none
  | .none => .none

noncomputable def isOwnK : NameKind → Bool
  | .local => true
  | .cell => true
  | _ => false

noncomputable def notOwn (x : Str) : List (Str × NameKind) → Bool
  | [] => true
  | (y, k) :: r => match seq y x with
    | true => match isOwnK k with
      | true => false
      | false => notOwn x r
    | false => notOwn x r

noncomputable def nameAt : Expr → Option (Str × Pos)
  | .Name x p => some (x, p)
  | _ => .none

noncomputable def assignCx (ih : Ih) (ρ : Rho) (x : Str) (elt : Expr) (gens : List Comprehension) (scope : Scope) (H : Hp) : Option (Fl × Hp) := match comp ih ρ elt gens scope (some fun v H => stName ρ H x v) H with
  | some (_, H) => some (.next, H)
  | .none => .none

noncomputable def assignC (ih : Ih) (ρ : Rho) (t : Expr) (elt : Expr) (gens : List Comprehension) (scope : Scope) (pos : Pos) (H : Hp) : Option (Fl × Hp) := match nameAt t with
  | some (x, p) => match isLoc (kind ρ x) with
    | true => match Nat.beq p.line pos.line with
      | true => match notOwn x scope.names with
        | true => assignCx ih ρ x elt gens scope H
        | false => .none
      | false => .none
    | false => .none
  | .none => .none

noncomputable def namesOf (ρ : Rho) (line : Nat) : List Expr → Option (List Str)
  | [] => some []
  | t :: r => match nameAt t with
    | some (x, p) => match isLoc (kind ρ x) with
      | true => match Nat.beq p.line line with
        | true => match namesOf ρ line r with
          | some l => some (x :: l)
          | .none => .none
        | false => .none
      | false => .none
    | .none => .none

noncomputable def lineOf : List Expr → Nat
  | .Name _ p :: _ => p.line
  | _ => 0

noncomputable def noStar : List Expr → Bool
  | [] => true
  | e :: r => match isStar e with
    | true => false
    | false => noStar r

noncomputable def twoThree (k : Nat) : Bool := match Nat.beq k 2 with
  | true => true
  | false => Nat.beq k 3

noncomputable def assignOk (ρ : Rho) (ts vs : List Expr) : Option (List Str) := match twoThree ts.length, Nat.beq vs.length ts.length with
  | true, true => match noStar vs with
    | true => match namesOf ρ (lineOf ts) ts with
      | some names => match nodupS names with
        | true => match vs.all (foldedForSure 8), vs.all (constantsAlone 8) with
          | false, false => some names
          | _, _ => .none
        | false => .none
      | .none => .none
    | false => .none
  | _, _ => .none

noncomputable def assignX (ih : Ih) (ρ : Rho) (names : List Str) (e : Expr) (H : Hp) : Option (Fl × Hp) := match ih.e e ρ H with
  | some (v, H) => match vRef v with
    | some l => match tupAt l H with
      | some ws => match Nat.beq ws.length names.length with
        | true => match bindAll ρ (names.reverse.zip ws.reverse) H with
          | some H => some (.next, H)
          | .none => .none
        | false => .none
      | .none => .none
    | .none => .none
  | .none => .none

noncomputable def assignW (ih : Ih) (ρ : Rho) (ts vs : List Expr) (e : Expr) (H : Hp) : Option (Fl × Hp) := match assignOk ρ ts vs with
  | some names => assignX ih ρ names e H
  | .none => .none

noncomputable def stepS_Expr (ih : Ih) (G : Env0) (ρ : Rho) (H : Hp) (e : Expr) : Option (Fl × Hp) := match isComp e with
  | true => .none
  | false => match ih.e e ρ H with
    | some (v, H) => match vRef v with
      | some _ => .none
      | .none => some (.next, H)
    | .none => .none

noncomputable def stepS_Ret (ih : Ih) (G : Env0) (ρ : Rho) (H : Hp) (e : Expr) : Option (Fl × Hp) := match ih.e e ρ H with
    | some (v, H) => some (.ret v, H)
    | .none => .none

noncomputable def lcOf : Expr → Option (Expr × List Comprehension × Scope × Pos)
  | .ListComp elt gens scope pos => some (elt, gens, scope, pos)
  | _ => .none

noncomputable def isSeqT : Expr → Bool
  | .Tuple _ _ _ => true
  | .List _ _ => true
  | _ => false

noncomputable def swapNo (t e : Expr) : Bool := match isSeqT t with
  | true => match tupOf e with
    | some _ => false
    | .none => true
  | false => true

noncomputable def isCellK : Option NameKind → Bool
  | some .cell => true
  | _ => false

noncomputable def isCellT (ρ : Rho) (t : Expr) : Bool := match nameAt t with
  | some (x, _) => isCellK (kind ρ x)
  | .none => false

noncomputable def stepS_LC (ih : Ih) (ρ : Rho) (H : Hp) (t e elt : Expr) (gens : List Comprehension) (scope : Scope) (pos : Pos) : Option (Fl × Hp) := match isCellT ρ t with
  | true => assignP ih ρ t e H
  | false => assignC ih ρ t elt gens scope pos H

noncomputable def dcOf : Expr → Option (Expr × Expr × List Comprehension × Scope × Pos)
  | .DictComp k v gens scope pos => some (k, v, gens, scope, pos)
  | _ => .none

noncomputable def assignDx (ih : Ih) (ρ : Rho) (x : Str) (k v : Expr) (gens : List Comprehension) (scope : Scope) (H : Hp) : Option (Fl × Hp) := match compD ih ρ k v gens scope (some fun v H => stName ρ H x v) H with
  | some (_, H) => some (.next, H)
  | .none => .none

noncomputable def assignD (ih : Ih) (ρ : Rho) (t : Expr) (k v : Expr) (gens : List Comprehension) (scope : Scope) (pos : Pos) (H : Hp) : Option (Fl × Hp) := match nameAt t with
  | some (x, p) => match isLoc (kind ρ x) with
    | true => match Nat.beq p.line pos.line with
      | true => match notOwn x scope.names with
        | true => assignDx ih ρ x k v gens scope H
        | false => .none
      | false => .none
    | false => .none
  | .none => .none

noncomputable def stepS_Assign (ih : Ih) (G : Env0) (ρ : Rho) (H : Hp) (t e : Expr) : Option (Fl × Hp) := match lcOf e with
  | some (elt, gens, scope, pos) => stepS_LC ih ρ H t e elt gens scope pos
  | .none => match dcOf e with
    | some (k, v, gens, scope, pos) => assignD ih ρ t k v gens scope pos H
    | .none => match isComp e with
      | true => .none
      | false => match swapNo t e with
        | true => assignP ih ρ t e H
        | false => match tupOf t with
          | some ts => match tupOf e with
            | some vs => assignW ih ρ ts vs e H
            | .none => .none
          | .none => .none

noncomputable def stepS_AugN (ih : Ih) (G : Env0) (ρ : Rho) (H : Hp) (x : Str) (op : Operator) (e : Expr) : Option (Fl × Hp) := match ldName G ρ H x with
    | some old => match ih.e e ρ H with
      | some (v, H) => match inP op (norm old) (norm v) with
        | some r => match stName ρ H x r with
          | some H => some (.next, H)
          | .none => .none
        | .none => .none
      | .none => .none
    | .none => .none

noncomputable def stepS_AugS (ih : Ih) (G : Env0) (ρ : Rho) (H : Hp) (o i : Expr) (op : Operator) (e : Expr) : Option (Fl × Hp) := match notSlice i with
  | true => match ih.e o ρ H with
    | some (ov, H) => match ih.e i ρ H with
      | some (iv, H) => match itemV ov iv H with
        | some old => match ih.e e ρ H with
          | some (v, H) => match inP op (norm old) (norm v) with
            | some r => match setV ov iv r H with
              | some H => some (.next, H)
              | .none => .none
            | .none => .none
          | .none => .none
        | .none => .none
      | .none => .none
    | .none => .none
  | false => .none

noncomputable def stepS_If (ih : Ih) (G : Env0) (ρ : Rho) (H : Hp) (t : Expr) (b o : List Stmt) : Option (Fl × Hp) := match ih.t t ρ H with
    | some (true, H) => ih.s b ρ H
    | some (false, H) => ih.s o ρ H
    | .none => .none

noncomputable def stepS_While (ih : Ih) (G : Env0) (ρ : Rho) (H : Hp) (t : Expr) (b : List Stmt) : Option (Fl × Hp) := loopW (ih.t t ρ) (ih.s b ρ) turns H

noncomputable def stepS_For (ih : Ih) (G : Env0) (ρ : Rho) (H : Hp) (t it : Expr) (b : List Stmt) : Option (Fl × Hp) := match evGen ih G ρ it H with
    | some (us, H) => loopG (assignT ih ρ t) (ih.s b ρ) us H
    | .none => match evIter ih it ρ H with
      | some (I, H) => loopF t (assignT ih ρ t) (ih.s b ρ) turns I H
      | .none => .none

noncomputable def defC (ρ : Rho) (H : Hp) (args : Arguments) (ps : List Str) (body : List Stmt) (scope : Scope) (bind : Str) : Option (Fl × Hp) := match noAnn args.args with
  | true => match closure ρ scope.names [] with
    | some cs => match stName ρ (Ops.app H [.fn ps body scope cs]) bind (.ref (Ops.len H)) with
      | some H => some (.next, H)
      | .none => .none
    | .none => .none
  | false => .none

noncomputable def stepS_Def (ih : Ih) (G : Env0) (ρ : Rho) (H : Hp) (name : Str) (args : Arguments) (body : List Stmt) (scope : Scope) (bind : Str) : Option (Fl × Hp) := match ρ.tab with
  | some _ => match Fns.seq name G.nest, Fns.seq bind G.nest with
    | true, true => match plainArgs args with
      | some ps => defC ρ H args ps body scope bind
      | .none => .none
    | _, _ => .none
  | .none => .none

noncomputable def stepS_Return (ih : Ih) (G : Env0) (ρ : Rho) (H : Hp) (e : Option Expr) : Option (Fl × Hp) := match e with
  | some e => stepS_Ret ih G ρ H e
  | .none => some (.ret .none, H)

noncomputable def stepS_As (ih : Ih) (G : Env0) (ρ : Rho) (H : Hp) (ts : List Expr) (e : Expr) : Option (Fl × Hp) := match ts with
  | [t] => stepS_Assign ih G ρ H t e
  | _ => .none

noncomputable def stepS_Aug (ih : Ih) (G : Env0) (ρ : Rho) (H : Hp) (t : Expr) (op : Operator) (e : Expr) : Option (Fl × Hp) := match t with
  | .Name x _ => stepS_AugN ih G ρ H x op e
  | .Subscript o i _ => stepS_AugS ih G ρ H o i op e
  | _ => .none

noncomputable def noSts : List Stmt → Bool
  | [] => true
  | _ => false

noncomputable def stepS (ih : Ih) (G : Env0) (s : Stmt) (ρ : Rho) (H : Hp) : Option (Fl × Hp) := match s with
  | .Expr e _ => stepS_Expr ih G ρ H e
  | .Break _ => some (.brk, H)
  | .Return e _ => stepS_Return ih G ρ H e
  | .Assign ts e _ => stepS_As ih G ρ H ts e
  | .AugAssign t op e _ => stepS_Aug ih G ρ H t op e
  | .If t b o _ => stepS_If ih G ρ H t b o
  | .While t b o _ => match noSts o with
    | true => stepS_While ih G ρ H t b
    | false => .none
  | .For t it b o _ => match noSts o with
    | true => stepS_For ih G ρ H t it b
    | false => .none
  | .FunctionDef name args body [] .none [] scope .none bind _ => stepS_Def ih G ρ H name args body scope bind
  | _ => .none

noncomputable def afterSF (rec : Hp → Option (Fl × Hp)) (f : Fl) (H : Hp) : Option (Fl × Hp) := match f with
  | .next => rec H
  | .brk => some (.brk, H)
  | .cont => some (.cont, H)
  | .ret v => some (.ret v, H)

noncomputable def afterS (rec : Hp → Option (Fl × Hp)) (o : Option (Fl × Hp)) : Option (Fl × Hp) := match o with
  | some (f, H) => afterSF rec f H
  | .none => .none

noncomputable def stepSs (ih : Ih) (G : Env0) (ρ : Rho) : List Stmt → Hp → Option (Fl × Hp)
  | [], H => some (.next, H)
  | s :: r, H => afterS (stepSs ih G ρ r) (stepS ih G s ρ H)

noncomputable def ev (G : Env0) : Nat → Ih
  | 0 => ⟨fun _ _ _ => .none, fun _ _ _ => .none, fun _ _ _ => .none, false⟩
  | n + 1 => ⟨stepE (ev G n) G, stepT (ev G n), fun ss ρ H => stepSs (ev G n) G ρ ss H, Nat.ble G.lev (n + 1)⟩

noncomputable def run (G : Env0) (n : Nat) (f : Str) (vs : List V) (H : Hp) : Option (V × Hp) := match G.fn f with
  | some F => callRun (ev G n) F.tab F.scope [] F.params F.body vs H
  | .none => .none

end
end Mine
end
section
open PySem PySem.W PyProof.Rows
namespace Mine
theorem getN_eq : ∀ (l : List Nat) (i : Nat), getN l i = l.getD i 0
  | [], _ => rfl
  | _ :: _, 0 => rfl
  | _ :: t, i + 1 => getN_eq t i
theorem setN_eq : ∀ (l : List Nat) (i x : Nat), setN l i x = l.set i x
  | [], _, _ => rfl
  | _ :: _, 0, _ => rfl
  | h :: t, i + 1, x => congrArg (h :: ·) (setN_eq t i x)
theorem forceN_eq {β : Type} (i : Nat) (k : Nat → β) : ∀ l : List Nat, forceN i k l = k i
  | [] => rfl
  | a :: r => by
    show (Bool.rec (motive := fun _ => β) (forceN i k r) (k a) (Nat.beq i a) : β) = k i
    cases h : Nat.beq i a with
    | true => rw [Nat.eq_of_beq_eq_true h]
    | false => exact forceN_eq i k r
theorem forceNs_eq {β : Type} : ∀ (l : List Nat) (k : List Nat → β), forceNs l k = k l
  | [], _ => rfl
  | h :: t, k => by
    show forceN h (fun h => forceNs t fun t => k (h :: t)) lits = k (h :: t)
    rw [forceN_eq, forceNs_eq]
theorem getA (l : List Nat) (i : Nat) : l.toArray.getD i 0 = getN l i := by
  rw [getN_eq]; simp
theorem swapL_eq (l : List Nat) (a b : Nat) : l.toArray.swapIfInBounds a b = (swapL l a b).toArray := by
  unfold swapL
  rw [Array.swapIfInBounds_def]
  rw [S.blt_dec, S.blt_dec]
  by_cases ha : a < l.length
  · by_cases hb : b < l.length
    · simp only [ha, hb, decide_true, List.size_toArray, dite_true]
      apply Array.toList_inj.mp
      rw [Array.toList_swap]
      simp [setN_eq, getN_eq, ha, hb]
    · simp [ha, hb]
  · simp [ha]
theorem swapsL_eq (u v : Nat → Nat) (l : List Nat) : ∀ d : Nat, (List.range d).foldl (fun a k => a.swapIfInBounds (u k) (v k)) l.toArray = (swapsL u v d l).toArray
  | 0 => rfl
  | d + 1 => by
    rw [List.range_succ, List.foldl_append, swapsL_eq u v l d]
    exact swapL_eq _ _ _
theorem rev_eq (l : List Nat) (i j : Nat) : kas_rev l.toArray i j = (revL l i j).toArray := swapsL_eq _ _ l _
theorem bub_eq (l : List Nat) (s d : Nat) : bubble l.toArray s d = (bubL l s d).toArray := swapsL_eq _ _ l _
section
variable {f : Nat → Nat → Option Bool}
theorem ask_ask {α : Type} (i j : Nat) (k : Bool → KasT α) : askRun f (.ask i j k) = match f i j with | some b => askRun f (k b) | .none => .none := by
  rw [askRun]
  try (cases f i j <;> rfl)
theorem ask_bind {α β : Type} (g : α → KasT β) : ∀ t : KasT α, askRun f (t.bind g) = match askRun f t with | some a => askRun f (g a) | .none => .none
  | .ret _ => rfl
  | .ask i j k => by
    show askRun f (.ask i j fun b => (k b).bind g) = _
    rw [ask_ask, ask_ask]
    cases f i j with
    | none => rfl
    | some b => exact ask_bind g (k b)
theorem asc_eq (l : List Nat) : ∀ k n, askRun f (kas_asc l.toArray k n) = ascL f l k n
  | 0, n => rfl
  | k + 1, n => by
    show askRun f (.ask (l.toArray.getD n 0) (l.toArray.getD (n - 1) 0) fun b => if b = true then .ret n else kas_asc l.toArray k (n + 1)) = _
    rw [ask_ask, getA, getA]
    unfold ascL
    cases f (getN l n) (getN l (n - 1)) with
    | none => rfl
    | some b => cases b with
      | true => rfl
      | false => exact asc_eq l k (n + 1)
theorem desc_eq : ∀ (k : Nat) (l : List Nat) (n q : Nat), askRun f (kas_desc k l.toArray n q) = (match descL f k l n q with | some (l', m, q') => some (l'.toArray, m, q') | .none => .none)
  | 0, l, n, q => rfl
  | k + 1, l, n, q => by
    show askRun f (.ask (l.toArray.getD n 0) (l.toArray.getD (n - 1) 0) fun b => if b = true then (if q > 0 then kas_desc k (kas_rev l.toArray (n - (q + 1)) n) (n + 1) 0 else kas_desc k l.toArray (n + 1) 0)
      else .ask (l.toArray.getD (n - 1) 0) (l.toArray.getD n 0) fun d => if d = true then .ret (l.toArray, n, q) else kas_desc k l.toArray (n + 1) (q + 1)) = _
    rw [ask_ask, getA, getA]
    unfold descL
    cases f (getN l n) (getN l (n - 1)) with
    | none => rfl
    | some b => cases b with
      | true =>
        simp only [if_true]
        rw [S.blt_dec]
        by_cases hq : 0 < q
        · simp only [hq, decide_true, if_true, forceNs_eq]
          rw [rev_eq]
          exact desc_eq k _ _ _
        · simp only [hq, decide_false, if_false, gt_iff_lt]
          exact desc_eq k _ _ _
      | false =>
        simp only [Bool.false_eq_true, if_false]
        rw [ask_ask]
        cases f (getN l (n - 1)) (getN l n) with
        | none => rfl
        | some b => cases b with
          | true => rfl
          | false => exact desc_eq k l (n + 1) (q + 1)
noncomputable abbrev natP (o : Option (Nat × List Nat)) : Option (Nat × Array Nat) := match o with | some (m, l) => some (m, l.toArray) | .none => .none
theorem tail_eq (n nrem : Nat) (l : List Nat) : askRun f (kas_tail3 n nrem l.toArray) = natP (tailL f n nrem l) := by
  unfold kas_tail3 tailL
  rw [ask_bind, rev_eq, asc_eq, forceNs_eq]
  cases ascL f (revL l 0 n) (nrem - n) n <;> rfl
theorem descs_eq (n nrem : Nat) (l : List Nat) : askRun f (kas_descPart n nrem l.toArray) = natP (descsL f n nrem l) := by
  unfold kas_descPart descsL
  rw [ask_bind, desc_eq]
  cases h : descL f (nrem - (n + 1)) l (n + 1) 0 with
  | none => rfl
  | some p =>
    obtain ⟨l', m, q⟩ := p
    show askRun f (if q > 0 then kas_tail3 m nrem (kas_rev l'.toArray (m - (q + 1)) m) else kas_tail3 m nrem l'.toArray) = _
    simp only
    rw [S.blt_dec]
    by_cases hq : 0 < q
    · simp only [hq, decide_true, if_true, forceNs_eq, gt_iff_lt]
      rw [rev_eq]; exact tail_eq _ _ _
    · simp only [hq, decide_false, if_false, gt_iff_lt]
      exact tail_eq _ _ _
theorem count_eq (nrem : Nat) (l : List Nat) : askRun f (kas_count nrem l.toArray) = natP (countL f nrem l) := by
  unfold kas_count countL
  rw [ask_bind, asc_eq]
  cases ascL f l (nrem - 1) 1 with
  | none => rfl
  | some n =>
    show askRun f (if (n == nrem) = true then .ret (n, l.toArray) else if n > 1 then .ask (l.toArray.getD 0 0) (l.toArray.getD (n - 1) 0) fun c => if c = true then .ret (n, l.toArray) else kas_descPart n nrem (kas_rev l.toArray 0 n) else kas_descPart n nrem l.toArray) = _
    simp only
    cases h : Nat.beq n nrem with
    | true =>
      rw [if_pos (beq_iff_eq.mpr (Nat.eq_of_beq_eq_true h))]
      rfl
    | false =>
      rw [if_neg (fun q => Nat.ne_of_beq_eq_false h (beq_iff_eq.mp q))]
      rw [S.blt_dec]
      by_cases hq : 1 < n
      · simp only [hq, decide_true, if_true, gt_iff_lt]
        rw [ask_ask, getA, getA]
        cases f (getN l 0) (getN l (n - 1)) with
        | none => rfl
        | some b => cases b with
          | true => rfl
          | false =>
            simp only [Bool.false_eq_true, if_false, forceNs_eq]
            rw [rev_eq]; exact descs_eq _ _ _
      · simp only [hq, decide_false, if_false, gt_iff_lt]
        exact descs_eq _ _ _
theorem place_eq (l : List Nat) (k : Nat) : ∀ n a b, askRun f (kas_place l.toArray k n a b) = placeL f l k n a b
  | 0, a, b => rfl
  | n + 1, a, b => by
    unfold kas_place placeL
    cases h : Nat.ble b a with
    | true => rw [if_pos (Nat.le_of_ble_eq_true h)]; rfl
    | false =>
      rw [if_neg (fun q => by have := Nat.ble_eq_true_of_le q; rw [h] at this; cases this)]
      rw [ask_ask, getA, getA]
      simp only
      cases f (getN l k) (getN l ((a + b) / 2)) with
      | none => rfl
      | some c => cases c with
        | true => exact place_eq l k n _ _
        | false => exact place_eq l k n _ _
theorem bins_eq : ∀ (n : Nat) (l : List Nat) (k : Nat), askRun f (kas_bin n l.toArray k) = (binsL f n l k).map List.toArray
  | 0, l, k => rfl
  | n + 1, l, k => by
    unfold kas_bin binsL
    rw [ask_bind, place_eq]
    cases placeL f l k k 0 k with
    | none => rfl
    | some a =>
      simp only [forceNs_eq]
      rw [bub_eq]; exact bins_eq n _ _
theorem sort_eq (n : Nat) : askRun f (kas_sort n) = (sortL f n).map List.toArray := by
  unfold kas_sort sortL
  rw [ask_bind, count_eq]
  cases countL f n (List.range n) with
  | none => rfl
  | some p =>
    obtain ⟨m, l⟩ := p
    show askRun f (if m < n then kas_bin (n - max m 1) l.toArray (max m 1) else .ret l.toArray) = _
    simp only
    rw [S.blt_dec]
    by_cases hq : m < n
    · simp only [hq, decide_true, if_true]
      exact bins_eq _ _ _
    · simp only [hq, decide_false, if_false]
      rfl
end
theorem getR_eq : ∀ (l : List (List Int)) (i : Nat), getR l i = l.getD i []
  | [], _ => rfl
  | _ :: _, 0 => rfl
  | _ :: t, i + 1 => getR_eq t i
end Mine
end
section
open PySem PyProof.Rows

namespace Mine
variable [Ops]

/- what holds of a result, if there is one -/
noncomputable def Yes {α : Type} (P : α → Prop) : Option α → Prop
  | .none => True
  | some a => P a
noncomputable abbrev YesH {α : Type} (P : α → Hp → Prop) (o : Option (α × Hp)) : Prop := Yes (fun p => P p.1 p.2) o
section
variable {α γ : Type} {P : α → Prop} {Q : γ → Prop}
omit [Ops] in
theorem Yes.get {o : Option α} {a : α} (h : Yes P o) (e : o = some a) : P a := by rw [e] at h; exact h
omit [Ops] in
theorem Yes.of {o : Option α} (h : ∀ a, o = some a → P a) : Yes P o := by
  cases o with
  | none => trivial
  | some a => exact h a rfl
omit [Ops] in
theorem Yes.mono {P' : α → Prop} {o : Option α} (h : Yes P o) (k : ∀ a, P a → P' a) : Yes P' o := by
  cases o with
  | none => trivial
  | some a => exact k a h
omit [Ops] in
theorem Yes.bind {α γ : Type} {P : α → Prop} {Q : γ → Prop} {o : Option α} {K : α → Option γ} (p : Yes P o) (h : ∀ a, P a → Yes Q (K a)) : Yes Q (o.bind K) := by
  cases o with
  | none => exact trivial
  | some q => exact h _ p
omit [Ops] in
theorem Yes.ok {a : α} (h : P a) : Yes P (some a) := h
omit [Ops] in
theorem Yes.t {b : Bool} {o : Option γ} (h : b = true → Yes Q o) : Yes Q (match (generalizing := false) b with | true => o | false => .none) := by
  cases b with
  | true => exact h rfl
  | false => trivial
omit [Ops] in
theorem Yes.f {b : Bool} {o : Option γ} (h : b = false → Yes Q o) : Yes Q (match (generalizing := false) b with | true => .none | false => o) := by
  cases b with
  | true => trivial
  | false => exact h rfl
omit [Ops] in
theorem Yes.b {b : Bool} {o o' : Option γ} (h : b = true → Yes Q o) (h' : b = false → Yes Q o') : Yes Q (match (generalizing := false) b with | true => o | false => o') := by
  cases b with
  | true => exact h rfl
  | false => exact h' rfl
omit [Ops] in
theorem Yes.n {x : Option Nat} {K : Nat → Option γ} (h : ∀ n, x = some n → Yes Q (K n)) : Yes Q (match (generalizing := false) x with | some n => K n | .none => .none) := by
  cases x with
  | none => trivial
  | some n => exact h n rfl
omit [Ops] in
theorem Yes.v {x : Option V} {K : V → Option γ} (h : ∀ n, x = some n → Yes Q (K n)) : Yes Q (match (generalizing := false) x with | some n => K n | .none => .none) := by
  cases x with
  | none => trivial
  | some n => exact h n rfl
theorem Yes.h {x : Option Hp} {K : Hp → Option γ} (h : ∀ n, x = some n → Yes Q (K n)) : Yes Q (match (generalizing := false) x with | some n => K n | .none => .none) := by
  cases x with
  | none => trivial
  | some n => exact h n rfl
omit [Ops] in
theorem Yes.i {x : Option It} {K : It → Option γ} (h : ∀ n, x = some n → Yes Q (K n)) : Yes Q (match (generalizing := false) x with | some n => K n | .none => .none) := by
  cases x with
  | none => trivial
  | some n => exact h n rfl
theorem Yes.vh {x : Option (V × Hp)} {K : V → Hp → Option γ} {P : V → Hp → Prop} (p : YesH P x) (h : ∀ a H, P a H → Yes Q (K a H)) : Yes Q (match (generalizing := false) x with | some (a, H) => K a H | .none => .none) := by
  cases x with
  | none => trivial
  | some n => exact h n.1 n.2 p
theorem Yes.vsh {x : Option (List V × Hp)} {K : List V → Hp → Option γ} {P : List V → Hp → Prop} (p : YesH P x) (h : ∀ a H, P a H → Yes Q (K a H)) : Yes Q (match (generalizing := false) x with | some (a, H) => K a H | .none => .none) := by
  cases x with
  | none => trivial
  | some n => exact h n.1 n.2 p
theorem Yes.oh {x : Option (Option V × Hp)} {K : Option V → Hp → Option γ} {P : Option V → Hp → Prop} (p : YesH P x) (h : ∀ a H, P a H → Yes Q (K a H)) : Yes Q (match (generalizing := false) x with | some (a, H) => K a H | .none => .none) := by
  cases x with
  | none => trivial
  | some n => exact h n.1 n.2 p
theorem Yes.nh {x : Option (Nat × Hp)} {K : Nat → Hp → Option γ} {P : Nat → Hp → Prop} (p : YesH P x) (h : ∀ a H, P a H → Yes Q (K a H)) : Yes Q (match (generalizing := false) x with | some (a, H) => K a H | .none => .none) := by
  cases x with
  | none => trivial
  | some n => exact h n.1 n.2 p
theorem Yes.bh {x : Option (Bool × Hp)} {K : Bool → Hp → Option γ} {P : Bool → Hp → Prop} (p : YesH P x) (h : ∀ a H, P a H → Yes Q (K a H)) : Yes Q (match (generalizing := false) x with | some (a, H) => K a H | .none => .none) := by
  cases x with
  | none => trivial
  | some n => exact h n.1 n.2 p
end

/- what stands around: the program, the world, the heap at the law's call, the code tables -/
structure Cx where
  prog : Program
  w : World
  h0 : Heap
  tabs : List Addr
  codes : List Addr
  quals : List Str
  nest : Str
  lev : Nat
  frozen : Bool
  mg : Str → Option Value
  mb : Str → Option Value

/- the address of each location, and what the tokens of written texts stay below -/
structure Th where
  l : List Addr
  n : Nat
instance : GetElem? Th Nat Addr fun θ i => i < θ.l.length where
  getElem θ i h := θ.l[i]
  getElem? θ i := θ.l[i]?
instance : Membership Addr Th := ⟨fun θ a => a ∈ θ.l⟩
instance : HAppend Th (List Addr) Th := ⟨fun θ ys => ⟨θ.l ++ ys, θ.n⟩⟩

noncomputable def VR (θ : Th) : V → Value → Prop
  | .none, a => a = .none
  | .bool b, a => a = .bool b
  | .int i, a => ∃ t, True ∧ a = .int i t
  | .str s, a => ∃ t, t ≠ 0 ∧ a = .str ⟨⟨s⟩⟩ t
  | .lit s, a => ∃ t, t ≠ 0 ∧ t < θ.n ∧ a = .str ⟨⟨s⟩⟩ t
  | .flt b, a => ∃ t, t ≠ 0 ∧ t < θ.n ∧ a = .float b t
  | .ref l, a => ∃ x, θ[l]? = some x ∧ a = .ref x

noncomputable def AR (θ : Th) : List V → List Value → Prop
  | [], [] => True
  | v :: vs, a :: as => VR θ v a ∧ AR θ vs as
  | _, _ => False

noncomputable def CR (θ : Th) : List (Str × Nat) → List (Str × Addr) → Prop
  | [], [] => True
  | p :: ps, q :: qs => p.1 = q.1 ∧ θ[p.2]? = some q.2 ∧ CR θ ps qs
  | _, _ => False

noncomputable def NsR (θ : Th) (es : List (Str × V)) (m : Str → Option Value) : Prop := ∀ x v, find x es = some v → ∃ a, m x = some a ∧ VR θ v a

structure FnR (C : Cx) (θ : Th) (h : Heap) (tab : Option Nat) (ps : List Str) (body : List Stmt) (scope : Scope) (cs : List (Str × Nat)) (fd : FuncData) : Prop where
  tab : ∀ k, tab = some k → C.frozen = false ∧ ∃ c, C.codes[k]? = some c ∧ fd.code = .ref c ∧ C.quals[k]? = some (fd.qualname ++ ".<locals>." ++ C.nest)
  body : fd.body = .stmts body
  scope : fd.scope = scope
  params : plainArgs fd.params = some ps
  globals : fd.globals = mainGlobals
  builtins : fd.builtins = builtinsNs
  dflt : fd.defaults = .none
  kwd : fd.kwdefaults = .none
  clo : CR θ cs fd.closure
  code : ∃ c o vs t, fd.code = .ref c ∧ c ∉ θ ∧ c ∉ C.tabs ∧ h.get? c = some o ∧ o.data = .fields vs ∧ vs[1]? = some (.str fd.qualname t)

noncomputable def ZR (θ : Th) : ZF → Value → Prop
  | .free, a => a = .none
  | .busy, a => a = .ellipsis
  | .out l, a => ∃ x, θ[l]? = some x ∧ a = rawInt x

noncomputable def itCls : Bool → String
  | true => "tuple_iterator"
  | false => "list_iterator"

noncomputable def ItR (C : Cx) (θ : Th) (h : Heap) : It → Obj → Prop
  | .rng x st k, o => o = { cls := .type "range_iterator", dict := none, data := .fields #[rawInt x, rawInt k, rawInt st], slots := #[] }
  | .seq b l i, o => ∃ x, θ[l]? = some x ∧ o.cls = .type (itCls b) ∧ o.data = .fields #[.ref x, .int i 0]
  | .rev l k, o => ∃ x, θ[l]? = some x ∧ o.cls = .type "list_reverseiterator" ∧ o.data = .fields #[.ref x, rawInt ((k : Int) - 1)]
  | .zip i j t f, o => ∃ x y z r a, θ[i]? = some x ∧ θ[j]? = some y ∧ θ[t]? = some z ∧ r ∉ θ ∧ r ∉ C.tabs ∧ IsPair h r (.ref x) (.ref y) ∧ ZR θ f a ∧
      o = { cls := .type "zip", dict := none, data := .fields #[a, .bool false, .bool false, .ref r, .ref z], slots := #[] }

/- an iterator at its end may be gone -/
noncomputable def live : O → Bool
  | .gone => false
  | _ => true

noncomputable def OR (C : Cx) (θ : Th) (h : Heap) : O → Obj → Prop
  | .ns es, o => ∃ es' ep, o.data = .dict es' ep ∧ StrKeys es' ∧ NsR θ es (nsFind es')
  | .cell v, o => ∃ v', o.data = .cell v' ∧ match v, v' with
    | .none, .none => True
    | some v, some a => VR θ v a
    | _, _ => False
  | .list vs, o => ∃ a n, o = { cls := .type "list", dict := none, data := .seq a n, slots := #[] } ∧ AR θ vs a.toList
  | .xl vs its, o => o = { cls := .type "list", data := .seq its } ∧ AR θ vs its.toList
  | .tup vs, o => ∃ a n, o = { cls := .type "tuple", dict := none, data := .seq a n, slots := #[] } ∧ AR θ vs a.toList
  | .dict es, o => o.cls = .type "dict" ∧ ∃ es' ep, o.data = .dict es' ep ∧ es'.size ≤ es.length ∧ IntKeys es' ∧ ∀ k v, findI k es = some v → ∃ a, findBy Value.isInt es' k = some a ∧ VR θ v a
  | .fn ps body scope cs, o => ∃ fd, o.data = .func fd ∧ FnR C θ h none ps body scope cs fd
  | .it I, o => ItR C θ h I o
  | .gone, _ => True

/- the tables of nested functions' codes -/
noncomputable def TabOk (C : Cx) (θ : Th) (h : Heap) : Prop := ∀ (k : Nat) (P : Addr), C.tabs[k]? = some P → ∃ c q ps, C.codes[k]? = some c ∧ C.quals[k]? = some q ∧ h.IsCode c P ps ∧ c ∉ θ ∧ P ∉ θ ∧
  ∀ pos v, codeAmong pos ps.toList = some v → ∃ c' o vs t, v = .ref c' ∧ c' ∉ θ ∧ c' ∉ C.tabs ∧ h.get? c' = some o ∧ o.data = .fields vs ∧ vs[1]? = some (.str q t)
omit [Ops] in
theorem TabOk.mono {C : Cx} {θ θ' : Th} {h h' : Heap} (x : TabOk C θ h) (hk : ∀ a o, h.get? a = some o → a ∉ θ → h'.get? a = some o) (hn : ∀ a o, h.get? a = some o → a ∉ θ → a ∉ θ') : TabOk C θ' h' := fun k P e => by
  obtain ⟨c, q, ps, e1, e2, ⟨o, vs, file, tf, flags, tg, inF, text, tt, op, a, r1, r2, r3, r4, r5, r6, b, r⟩, e4, e5, e6⟩ := x k P e
  refine ⟨c, q, ps, e1, e2, ⟨o, vs, file, tf, flags, tg, inF, text, tt, op, hk _ _ a e4, r1, r2, r3, r4, r5, r6, hk _ _ b e5, r⟩, hn _ _ a e4, hn _ _ b e5, fun pos v hv => ?_⟩
  obtain ⟨c', o', vs', t, q1, q2, q3, q4, q5, q6⟩ := e6 pos v hv
  exact ⟨c', o', vs', t, q1, hn _ _ q4 q2, q3, hk _ _ q4 q2, q5, q6⟩

structure St (C : Cx) (θ : Th) (H : Hp) (s : Shared) : Prop where
  len : θ.l.length = (Ops.len H)
  own : ∀ (l : Nat) (o : O), Ops.get H l = some o → live o = true → ∃ x o', θ[l]? = some x ∧ s.heap.get? x = some o' ∧ OR C θ s.heap o o'
  nodup : θ.l.Nodup
  low : ∀ x ∈ θ, C.h0.objs.size ≤ x
  lt : ∀ x ∈ θ, x < s.heap.objs.size
  tok : s.toks ≠ 0
  bnd : θ.n ≤ s.toks
  bare : AllBare s.gens
  top : ∀ a o, C.h0.get? a = some o → a ∉ C.tabs → s.heap.get? a = some o
  big : C.h0.objs.size ≤ s.heap.objs.size
  tab : TabOk C θ s.heap

/- a table's things -/
noncomputable def tabOf (h : Heap) (P : Addr) : List Value := match h.get? P with
  | some o => match o.data with
    | .fields vs => vs.toList
    | _ => []
  | none => []

/- what a run adds to the tables -/
structure TNew (C : Cx) (s s' : Shared) : Prop where
  am : ∀ P ∈ C.tabs, ∀ pos v, codeAmong pos (tabOf s'.heap P) = some v → codeAmong pos (tabOf s.heap P) = some v ∨ ∀ c, v = .ref c → s.heap.objs.size ≤ c
  ob : ∀ P ∈ C.tabs, ∀ ps, s.heap.get? P = some { cls := .none, data := .fields ps } → ∃ more, s'.heap.get? P = some { cls := .none, data := .fields (ps ++ more) }

/- what a run leaves as it was -/
structure Go (C : Cx) (θ : Th) (s : Shared) (θ' : Th) (s' : Shared) : Prop where
  pre : ∃ ys, θ'.l = θ.l ++ ys ∧ ∀ y ∈ ys, s.heap.objs.size ≤ y
  nle : θ.n ≤ θ'.n
  size : s.heap.objs.size ≤ s'.heap.objs.size
  keep : ∀ a o, s.heap.get? a = some o → a ∉ θ → a ∉ C.tabs → s'.heap.get? a = some o
  os : s'.os = s.os
  gens : ∀ (g : Nat) (x : GenState), s.gens[g]? = some x → s'.gens[g]? = some x
  tabs : C.frozen = true → ∀ a o, s.heap.get? a = some o → a ∉ θ → s'.heap.get? a = some o
  toks : s.toks ≤ s'.toks
  tnew : TNew C s s'

theorem tnew_keep {C : Cx} {θ : Th} {H : Hp} {s s' : Shared} (S : St C θ H s) (hk : ∀ a o, s.heap.get? a = some o → a ∉ θ → s'.heap.get? a = some o) : TNew C s s' := ⟨fun P hP pos v hv => by
  obtain ⟨k, hk', e⟩ := List.mem_iff_getElem.mp hP
  obtain ⟨c, q, ps, e1, e2, ⟨o, vs, file, tf, flags, tg, inF, text, tt, op, a, r1, r2, r3, r4, r5, r6, b, r⟩, e4, e5, e6⟩ := S.tab k P (by rw [List.getElem?_eq_getElem hk', e])
  refine .inl ?_
  unfold tabOf at hv ⊢
  rw [hk _ _ b e5] at hv
  rw [b]; exact hv, fun P hP ps e => by
  obtain ⟨k, hk', e'⟩ := List.mem_iff_getElem.mp hP
  obtain ⟨c, q, ps', e1, e2, e3, e4, e5, e6⟩ := S.tab k P (by rw [List.getElem?_eq_getElem hk', e'])
  exact ⟨#[], by rw [Array.append_empty]; exact hk _ _ e e5⟩⟩
omit [Ops] in
theorem TNew.refl {C : Cx} {s s' : Shared} (h : s'.heap = s.heap) : TNew C s s' := ⟨fun P _ pos v e => .inl (h ▸ e), fun P _ ps e => ⟨#[], by rw [Array.append_empty, h]; exact e⟩⟩

section
variable {C : Cx} {θ θ' θ'' : Th} {s s' s'' : Shared}
theorem Go.refl : Go C θ s θ s := ⟨⟨[], by simp, fun _ h => nomatch h⟩, Nat.le_refl _, Nat.le_refl _, fun _ _ e _ _ => e, rfl, fun _ _ e => e, fun _ _ _ e _ => e, Nat.le_refl _, TNew.refl rfl⟩
omit [Ops] in
theorem Go.trans (x : Go C θ s θ' s') (y : Go C θ' s' θ'' s'') : Go C θ s θ'' s'' := by
  obtain ⟨ys, e1, hy⟩ := x.pre
  obtain ⟨zs, e2, hz⟩ := y.pre
  refine ⟨⟨ys ++ zs, by rw [e2, e1]; simp, fun z h => ?_⟩, Nat.le_trans x.nle y.nle, Nat.le_trans x.size y.size, fun a o e n t => ?_, y.os.trans x.os, fun g v e => y.gens g v (x.gens g v e), fun f a o e n => ?_, Nat.le_trans x.toks y.toks, ⟨fun P hP pos v hv => ?_, fun P hP ps e => ?_⟩⟩
  · rcases List.mem_append.mp h with h | h
    · exact hy z h
    · exact Nat.le_trans x.size (hz z h)
  · refine y.keep a o (x.keep a o e n t) (fun h => ?_) t
    have h : a ∈ θ'.l := h
    rw [e1] at h
    rcases List.mem_append.mp h with h | h
    · exact n h
    · exact absurd (Heap.lt_size e) (Nat.not_lt.mpr (hy a h))
  · refine y.tabs f a o (x.tabs f a o e n) (fun h => ?_)
    have h : a ∈ θ'.l := h
    rw [e1] at h
    rcases List.mem_append.mp h with h | h
    · exact n h
    · exact absurd (Heap.lt_size e) (Nat.not_lt.mpr (hy a h))
  · rcases y.tnew.am P hP pos v hv with h | h
    · exact x.tnew.am P hP pos v h
    · exact .inr fun c e => Nat.le_trans x.size (h c e)
  · obtain ⟨m1, h1⟩ := x.tnew.ob P hP ps e
    obtain ⟨m2, h2⟩ := y.tnew.ob P hP _ h1
    exact ⟨m1 ++ m2, by rw [← Array.append_assoc]; exact h2⟩
omit [Ops] in
theorem Go.getE (x : Go C θ s θ' s') {l : Nat} {a : Addr} (e : θ[l]? = some a) : θ'[l]? = some a := by
  obtain ⟨ys, e1, _⟩ := x.pre
  have e : θ.l[l]? = some a := e
  show θ'.l[l]? = some a
  rw [e1, List.getElem?_append_left (List.getElem?_eq_some_iff.mp e).1]; exact e
end

/- one begins with the other -/
noncomputable def Ext (θ θ' : Th) : Prop := (∀ (l : Nat) (a : Addr), θ[l]? = some a → θ'[l]? = some a) ∧ θ.n ≤ θ'.n
omit [Ops] in
theorem Ext.refl (θ : Th) : Ext θ θ := ⟨fun _ _ e => e, Nat.le_refl _⟩
omit [Ops] in
theorem Ext.trans {θ θ' θ'' : Th} (x : Ext θ θ') (y : Ext θ' θ'') : Ext θ θ'' := ⟨fun l a e => y.1 l a (x.1 l a e), Nat.le_trans x.2 y.2⟩
theorem Go.ext {C : Cx} {θ θ' : Th} {s s' : Shared} (x : Go C θ s θ' s') : Ext θ θ' := ⟨fun _ _ e => x.getE e, x.nle⟩
omit [Ops] in
theorem Ext.app (θ : Th) (ys : List Addr) : Ext θ (θ ++ ys) := ⟨fun l a e => by
  have e : θ.l[l]? = some a := e
  show (θ.l ++ ys)[l]? = some a
  rw [List.getElem?_append_left (List.getElem?_eq_some_iff.mp e).1]; exact e, Nat.le_refl _⟩
omit [Ops] in
theorem Ext.up (θ : Th) {n : Nat} (h : θ.n ≤ n) : Ext θ { θ with n := n } := ⟨fun _ _ e => e, h⟩
omit [Ops] in
theorem mem_app {θ : Th} {ys : List Addr} {a : Addr} : a ∈ θ ++ ys ↔ a ∈ θ ∨ a ∈ ys := List.mem_append
omit [Ops] in
theorem mem_at {θ : Th} {l : Nat} {x : Addr} (h : θ[l]? = some x) : x ∈ θ := List.mem_of_getElem? (l := θ.l) h

omit [Ops] in
theorem VR.mono {θ θ' : Th} (x : Ext θ θ') : ∀ {v : V} {a : Value}, VR θ v a → VR θ' v a
  | .none, _, h => h
  | .bool _, _, h => h
  | .int _, _, h => h
  | .str _, _, h => h
  | .lit _, _, ⟨t, h1, h2, h3⟩ => ⟨t, h1, Nat.lt_of_lt_of_le h2 x.2, h3⟩
  | .flt _, _, ⟨t, h1, h2, h3⟩ => ⟨t, h1, Nat.lt_of_lt_of_le h2 x.2, h3⟩
  | .ref _, _, ⟨y, e, h⟩ => ⟨y, x.1 _ _ e, h⟩
omit [Ops] in
theorem VR.norm {θ : Th} : ∀ {v : V} {a : Value}, VR θ v a → VR θ (norm v) a
  | .none, _, h => h
  | .bool _, _, h => h
  | .int _, _, h => h
  | .str _, _, h => h
  | .lit _, _, ⟨t, h1, _, h3⟩ => ⟨t, h1, h3⟩
  | .flt _, _, h => h
  | .ref _, _, h => h
theorem AR.mono {θ θ' : Th} (x : Ext θ θ') : ∀ {vs : List V} {as : List Value}, AR θ vs as → AR θ' vs as
  | [], [], _ => trivial
  | _ :: _, _ :: _, h => ⟨h.1.mono x, AR.mono x h.2⟩
omit [Ops] in
theorem CR.mono {θ θ' : Th} (x : Ext θ θ') : ∀ {vs : List (Str × Nat)} {as : List (Str × Addr)}, CR θ vs as → CR θ' vs as
  | [], [], _ => trivial
  | _ :: _, _ :: _, h => ⟨h.1, x.1 _ _ h.2.1, CR.mono x h.2.2⟩
theorem NsR.mono {θ θ' : Th} (x : Ext θ θ') {es : List (Str × V)} {m : Str → Option Value} (h : NsR θ es m) : NsR θ' es m := fun y v e =>
  let ⟨a, h1, h2⟩ := h y v e; ⟨a, h1, h2.mono x⟩
omit [Ops] in
theorem AR.length {θ : Th} : ∀ {vs : List V} {as : List Value}, AR θ vs as → vs.length = as.length
  | [], [], _ => rfl
  | _ :: _, _ :: _, h => congrArg (· + 1) (AR.length h.2)
omit [Ops] in
theorem AR.get {θ : Th} : ∀ {vs : List V} {as : List Value}, AR θ vs as → ∀ {i : Nat} {v : V}, vs[i]? = some v → ∃ a, as[i]? = some a ∧ VR θ v a
  | _ :: _, _ :: _, h, 0, _, e => by cases e; exact ⟨_, rfl, h.1⟩
  | _ :: _, _ :: _, h, i + 1, _, e => by
    obtain ⟨a, h1, h2⟩ := AR.get h.2 (i := i) (by simpa using e)
    exact ⟨a, by simpa using h1, h2⟩
omit [Ops] in
theorem AR.app {θ : Th} : ∀ {vs ws : List V} {as bs : List Value}, AR θ vs as → AR θ ws bs → AR θ (vs ++ ws) (as ++ bs)
  | [], _, [], _, _, h => h
  | _ :: _, _, _ :: _, _, h, g => ⟨h.1, AR.app h.2 g⟩
theorem AR.snoc {θ : Th} {vs : List V} {as : List Value} {v : V} {a : Value} (h : AR θ vs as) (g : VR θ v a) : AR θ (vs ++ [v]) (as ++ [a]) := h.app ⟨g, trivial⟩
omit [Ops] in
theorem AR.set {θ : Th} : ∀ {vs : List V} {as : List Value}, AR θ vs as → ∀ (i : Nat) {v : V} {a : Value}, VR θ v a → AR θ (vs.set i v) (as.set i a)
  | [], [], _, _, _, _, _ => trivial
  | _ :: _, _ :: _, h, 0, _, _, g => ⟨g, h.2⟩
  | _ :: _, _ :: _, h, i + 1, _, _, g => ⟨h.1, AR.set h.2 i g⟩
theorem AR.reverse {θ : Th} : ∀ {vs : List V} {as : List Value}, AR θ vs as → AR θ vs.reverse as.reverse
  | [], [], _ => trivial
  | v :: vs, a :: as, h => by rw [List.reverse_cons, List.reverse_cons]; exact (AR.reverse h.2).snoc h.1
omit [Ops] in
theorem AR.take {θ : Th} : ∀ {vs : List V} {as : List Value}, AR θ vs as → ∀ n, AR θ (vs.take n) (as.take n)
  | [], [], _, n => by simp; trivial
  | _ :: _, _ :: _, _, 0 => trivial
  | _ :: _, _ :: _, h, n + 1 => ⟨h.1, AR.take h.2 n⟩
omit [Ops] in
theorem AR.drop {θ : Th} : ∀ {vs : List V} {as : List Value}, AR θ vs as → ∀ n, AR θ (vs.drop n) (as.drop n)
  | [], [], _, n => by simp; trivial
  | _ :: _, _ :: _, h, 0 => h
  | _ :: _, _ :: _, h, n + 1 => AR.drop h.2 n

omit [Ops] in
theorem nbeq_iff : ∀ {x y : List Nat}, nbeq x y = true ↔ x = y
  | [], [] => ⟨fun _ => rfl, fun _ => rfl⟩
  | [], _ :: _ => ⟨fun h => (nomatch h), fun h => (nomatch h)⟩
  | _ :: _, [] => ⟨fun h => (nomatch h), fun h => (nomatch h)⟩
  | a :: x, b :: y => by
    show (match Nat.beq a b with | true => nbeq x y | false => false) = true ↔ _
    cases h : Nat.beq a b with
    | true =>
      have := Nat.eq_of_beq_eq_true h
      subst this
      simp [nbeq_iff (x := x) (y := y)]
    | false =>
      have := Nat.ne_of_beq_eq_false h
      simp [this]
theorem nbeq_eq (x y : List Nat) : nbeq x y = (x == y) := by
  rw [Bool.eq_iff_iff, nbeq_iff]; simp
theorem seq_iff {x y : Str} : seq x y = true ↔ x = y := by
  unfold seq
  rw [nbeq_iff]
  obtain ⟨⟨x⟩⟩ := x
  obtain ⟨⟨y⟩⟩ := y
  simp
theorem seq_false {x y : Str} (h : seq x y = false) : x ≠ y := fun e => by
  rw [seq_iff.mpr e] at h; cases h
theorem seq_ne {x y : Str} (h : x ≠ y) : seq x y = false := by
  cases e : seq x y with
  | false => rfl
  | true => exact absurd (seq_iff.mp e) h
theorem seq_self (x : Str) : seq x x = true := seq_iff.mpr rfl

theorem find_lookup {α : Type} (x : Str) : ∀ l : List (Str × α), find x l = l.lookup x
  | [] => rfl
  | (y, a) :: r => by
    rw [List.lookup_cons]
    show (match seq x y with | true => some a | false => find x r) = _
    by_cases h : x = y
    · subst h; rw [seq_self]; simp
    · rw [seq_ne h, find_lookup x r]
      have : (x == y) = false := beq_eq_false_iff_ne.mpr h
      rw [this]
theorem find_put {α : Type} (x : Str) (v : α) (y : Str) : ∀ l : List (Str × α), find y (put x v l) = if y = x then some v else find y l
  | [] => by
    show (match seq y x with | true => some v | false => .none) = _
    by_cases h : y = x
    · subst h; rw [seq_self]; simp
    · rw [seq_ne h, if_neg h]; rfl
  | (z, a) :: r => by
    unfold put
    by_cases h : x = z
    · subst h
      rw [seq_self]
      show (match seq y x with | true => some v | false => find y r) = _
      by_cases q : y = x
      · subst q; rw [seq_self]; simp
      · rw [seq_ne q, if_neg q]
        show _ = (match seq y x with | true => some a | false => find y r)
        rw [seq_ne q]
    · rw [seq_ne h]
      show (match seq y z with | true => some a | false => find y (put x v r)) = _
      by_cases q : y = z
      · subst q
        rw [seq_self, if_neg (fun e => h e.symm)]
        show _ = (match seq y y with | true => some a | false => find y r)
        rw [seq_self]
      · rw [seq_ne q]
        show find y (put x v r) = _
        rw [find_put x v y r]
        show _ = if y = x then some v else (match seq y z with | true => some a | false => find y r)
        rw [seq_ne q]
theorem NsR.put {θ : Th} {es : List (Str × V)} {m : Str → Option Value} (h : NsR θ es m) {x : Str} {v : V} {a : Value} (g : VR θ v a) : NsR θ (put x v es) fun y => if y = x then some a else m y := by
  intro y u e
  rw [find_put] at e
  by_cases q : y = x
  · rw [if_pos q] at e; cases e; exact ⟨a, if_pos q, g⟩
  · rw [if_neg q] at e
    obtain ⟨b, h1, h2⟩ := h y u e
    exact ⟨b, (if_neg q).trans h1, h2⟩
theorem CR.find {θ : Th} {x : Str} {c : Nat} : ∀ {cs : List (Str × Nat)} {ds : List (Str × Addr)}, CR θ cs ds → find x cs = some c → ∃ a, ds.lookup x = some a ∧ θ[c]? = some a
  | (y, d) :: cs, (z, a) :: ds, h, e => by
    obtain ⟨h1, h2, h3⟩ := h
    have e' : (match seq x y with | true => some d | false => Mine.find x cs) = some c := e
    obtain rfl : y = z := h1
    by_cases q : x = y
    · subst q
      rw [seq_self] at e'; cases e'
      exact ⟨a, by simp, h2⟩
    · rw [seq_ne q] at e'
      obtain ⟨b, h4, h5⟩ := CR.find h3 e'
      refine ⟨b, ?_, h5⟩
      rw [List.lookup_cons, beq_eq_false_iff_ne.mpr q]; exact h4

theorem FnR.mono {C : Cx} {θ θ' : Th} {h h' : Heap} (x : Ext θ θ') (hk : ∀ a o, h.get? a = some o → a ∉ θ → a ∉ C.tabs → h'.get? a = some o)
    (hn : ∀ a o, h.get? a = some o → a ∉ θ → a ∉ θ') {tab ps body scope cs fd} (r : FnR C θ h tab ps body scope cs fd) : FnR C θ' h' tab ps body scope cs fd := by
  obtain ⟨c, o, vs, t, e1, e2, e3, e4, e5, e6⟩ := r.code
  exact ⟨r.tab, r.body, r.scope, r.params, r.globals, r.builtins, r.dflt, r.kwd, r.clo.mono x, c, o, vs, t, e1, hn c o e4 e2, e3, hk c o e4 e2 e3, e5, e6⟩
omit [Ops] in
theorem ZR.mono {θ θ' : Th} (x : Ext θ θ') : ∀ {f : ZF} {a : Value}, ZR θ f a → ZR θ' f a
  | .free, _, h => h
  | .busy, _, h => h
  | .out _, _, ⟨y, e, h⟩ => ⟨y, x.1 _ _ e, h⟩
theorem ItR.mono {C : Cx} {θ θ' : Th} {h h' : Heap} (x : Ext θ θ') (hk : ∀ a o, h.get? a = some o → a ∉ θ → a ∉ C.tabs → h'.get? a = some o)
    (hn : ∀ a o, h.get? a = some o → a ∉ θ → a ∉ θ') : ∀ {I : It} {o : Obj}, ItR C θ h I o → ItR C θ' h' I o
  | .rng _ _ _, _, r => r
  | .seq _ _ _, _, ⟨y, e, r⟩ => ⟨y, x.1 _ _ e, r⟩
  | .rev _ _, _, ⟨y, e, r⟩ => ⟨y, x.1 _ _ e, r⟩
  | .zip _ _ _ _, _, ⟨p, q, z, r, a, e1, e2, e3, e4, e5, e6, e7, e8⟩ => ⟨p, q, z, r, a, x.1 _ _ e1, x.1 _ _ e2, x.1 _ _ e3, hn _ _ e6 e4, e5, hk _ _ e6 e4 e5, e7.mono x, e8⟩
theorem OR.mono {C : Cx} {θ θ' : Th} {h h' : Heap} (x : Ext θ θ') (hk : ∀ a o, h.get? a = some o → a ∉ θ → a ∉ C.tabs → h'.get? a = some o)
    (hn : ∀ a o, h.get? a = some o → a ∉ θ → a ∉ θ') {o : O} {o' : Obj} (r : OR C θ h o o') : OR C θ' h' o o' := by
  cases o with
  | ns es => obtain ⟨es', ep, h1, h2, h3⟩ := r; exact ⟨es', ep, h1, h2, h3.mono x⟩
  | cell v =>
    obtain ⟨v', h1, h2⟩ := r
    refine ⟨v', h1, ?_⟩
    cases v <;> cases v' <;> first | exact h2 | exact VR.mono x h2
  | list vs => obtain ⟨a, n, h2, h3⟩ := r; exact ⟨a, n, h2, h3.mono x⟩
  | tup vs => obtain ⟨a, n, h2, h3⟩ := r; exact ⟨a, n, h2, h3.mono x⟩
  | dict es =>
    obtain ⟨h0, es', ep, h1, h2, h3, h4⟩ := r
    exact ⟨h0, es', ep, h1, h2, h3, fun k v e => let ⟨a, e1, e2⟩ := h4 k v e; ⟨a, e1, e2.mono x⟩⟩
  | fn ps body scope cs => obtain ⟨fd, h1, h2⟩ := r; exact ⟨fd, h1, h2.mono x hk hn⟩
  | it I => exact ItR.mono x hk hn r
  | gone => exact r
  | xl vs its => exact ⟨r.1, r.2.mono x⟩

section
variable {C : Cx} {θ : Th} {H : Hp} {s : Shared}

/- nothing of ours is turned: the rest may be -/
theorem St.same (S : St C θ H s) {s' : Shared} (hk : ∀ a o, s.heap.get? a = some o → s'.heap.get? a = some o) (hz : s.heap.objs.size ≤ s'.heap.objs.size) (ht : s.toks ≤ s'.toks) (hb : s'.gens = s.gens) (ho : s'.os = s.os) :
    St C θ H s' ∧ Go C θ s θ s' :=
  ⟨⟨S.len, fun l o e v => let ⟨x, o', h1, h2, h3⟩ := S.own l o e v; ⟨x, o', h1, hk _ _ h2, h3.mono (Ext.refl θ) (fun a o e _ _ => hk a o e) (fun _ _ _ n => n)⟩, S.nodup, S.low,
    fun x h => Nat.lt_of_lt_of_le (S.lt x h) hz, fun e => S.tok (Nat.le_zero.mp (e ▸ ht)), Nat.le_trans S.bnd ht, hb ▸ S.bare, fun a o e n => hk a o (S.top a o e n), Nat.le_trans S.big hz, S.tab.mono (fun a o e _ => hk a o e) (fun _ _ _ n => n)⟩,
   ⟨⟨[], by simp, fun _ h => nomatch h⟩, Nat.le_refl _, hz, fun a o e _ _ => hk a o e, ho, fun g v e => hb ▸ e, fun _ a o e _ => hk a o e, ht, tnew_keep S fun a o e _ => hk a o e⟩⟩

/- a higher bound -/
theorem St.rise (S : St C θ H s) {n : Nat} (h1 : θ.n ≤ n) (h2 : n ≤ s.toks) : St C { θ with n := n } H s ∧ Go C θ s { θ with n := n } s :=
  ⟨⟨S.len, fun l o e v => let ⟨x, o', h3, h4, h5⟩ := S.own l o e v; ⟨x, o', h3, h4, h5.mono (Ext.up θ h1) (fun a o e _ _ => e) (fun _ _ _ n => n)⟩, S.nodup, S.low, S.lt, S.tok, h2, S.bare, S.top, S.big, S.tab.mono (fun _ _ e _ => e) (fun _ _ _ n => n)⟩,
   ⟨⟨[], by simp, fun _ h => nomatch h⟩, h1, Nat.le_refl _, fun a o e _ _ => e, rfl, fun _ _ e => e, fun _ a o e _ => e, Nat.le_refl _, TNew.refl rfl⟩⟩

theorem St.inj (S : St C θ H s) {i j : Nat} {x : Addr} (h1 : θ[i]? = some x) (h2 : θ[j]? = some x) : i = j := by
  exact (List.getElem?_inj (l := θ.l) (List.getElem?_eq_some_iff.mp h1).1 S.nodup).mp (h1.trans h2.symm)

theorem St.ltl (S : St C θ H s) {l : Nat} {x : Addr} (hx : θ[l]? = some x) : l < Ops.len H := S.len ▸ (List.getElem?_eq_some_iff.mp (hx : θ.l[l]? = some x)).1
/- one object of ours is turned -/
theorem St.upd (S : St C θ H s) {l : Nat} {x : Addr} {o : O} {o' : Obj} {s' : Shared} (hx : θ[l]? = some x) (h1 : s'.heap.get? x = some o') (hr : OR C θ s.heap o o') (hs : ∀ b o, b ≠ x → s.heap.get? b = some o → s'.heap.get? b = some o)
    (hz : s.heap.objs.size ≤ s'.heap.objs.size) (ht : s.toks ≤ s'.toks) (hg : s'.gens = s.gens) (ho : s'.os = s.os) : St C θ (Ops.set H l o) s' ∧ Go C θ s θ s' := by
  have hm : x ∈ θ := mem_at hx
  have hk : ∀ a o, s.heap.get? a = some o → a ∉ θ → a ∉ C.tabs → s'.heap.get? a = some o := fun a o e n _ => hs a o (fun q => n (q ▸ hm)) e
  refine ⟨⟨by rw [Ops.set_len]; exact S.len, fun k p e hv => ?_, S.nodup, S.low, fun y h => Nat.lt_of_lt_of_le (S.lt y h) hz, fun e => S.tok (Nat.le_zero.mp (e ▸ ht)), Nat.le_trans S.bnd ht, hg ▸ S.bare, fun a p e n => ?_, Nat.le_trans S.big hz, S.tab.mono (fun a o e n => hs a o (fun q => n (q ▸ hm)) e) (fun _ _ _ n => n)⟩, ⟨⟨[], by simp, fun _ h => nomatch h⟩, Nat.le_refl _, hz, hk, ho, fun g v e => hg ▸ e, fun _ a o e n => hs a o (fun q => n (q ▸ hm)) e, ht, tnew_keep S fun a o e n => hs a o (fun q => n (q ▸ hm)) e⟩⟩
  · by_cases q : l = k
    · subst q
      rw [Ops.set_eq o (S.ltl hx)] at e
      cases e
      exact ⟨x, o', hx, h1, hr.mono (Ext.refl θ) hk (fun _ _ _ n => n)⟩
    · rw [Ops.set_ne o q] at e
      obtain ⟨y, p', g1, g2, g3⟩ := S.own k p e hv
      exact ⟨y, p', g1, hs y p' (fun z => q (S.inj hx (z ▸ g1))) g2, g3.mono (Ext.refl θ) hk (fun _ _ _ n => n)⟩
  · have g := S.top a p e n
    refine hs a p (fun z => ?_) g
    exact Nat.not_lt.mpr (S.low x hm) (z ▸ Heap.lt_size e)

/- one object of ours may be gone -/
theorem St.kill (S : St C θ H s) {l : Nat} {x : Addr} {s' : Shared} (hx : θ[l]? = some x) (hs : ∀ b o, b ≠ x → s.heap.get? b = some o → s'.heap.get? b = some o)
    (hz : s.heap.objs.size ≤ s'.heap.objs.size) (ht : s.toks ≤ s'.toks) (hg : s'.gens = s.gens) (ho : s'.os = s.os) : St C θ (Ops.set H l .gone) s' ∧ Go C θ s θ s' := by
  have hm : x ∈ θ := mem_at hx
  have hk : ∀ a o, s.heap.get? a = some o → a ∉ θ → a ∉ C.tabs → s'.heap.get? a = some o := fun a o e n _ => hs a o (fun q => n (q ▸ hm)) e
  refine ⟨⟨by rw [Ops.set_len]; exact S.len, fun k p e hv => ?_, S.nodup, S.low, fun y h => Nat.lt_of_lt_of_le (S.lt y h) hz, fun e => S.tok (Nat.le_zero.mp (e ▸ ht)), Nat.le_trans S.bnd ht, hg ▸ S.bare, fun a p e n => ?_, Nat.le_trans S.big hz, S.tab.mono (fun a o e n => hs a o (fun q => n (q ▸ hm)) e) (fun _ _ _ n => n)⟩, ⟨⟨[], by simp, fun _ h => nomatch h⟩, Nat.le_refl _, hz, hk, ho, fun g v e => hg ▸ e, fun _ a o e n => hs a o (fun q => n (q ▸ hm)) e, ht, tnew_keep S fun a o e n => hs a o (fun q => n (q ▸ hm)) e⟩⟩
  · by_cases q : l = k
    · subst q
      rw [Ops.set_eq _ (S.ltl hx)] at e
      cases e; cases hv
    · rw [Ops.set_ne _ q] at e
      obtain ⟨y, p', g1, g2, g3⟩ := S.own k p e hv
      exact ⟨y, p', g1, hs y p' (fun z => q (S.inj hx (z ▸ g1))) g2, g3.mono (Ext.refl θ) hk (fun _ _ _ n => n)⟩
  · have g := S.top a p e n
    refine hs a p (fun z => ?_) g
    exact Nat.not_lt.mpr (S.low x hm) (z ▸ Heap.lt_size e)

/- one object more -/
theorem St.new (S : St C θ H s) {x : Addr} {o : O} {o' : Obj} {s' : Shared} (hx : s.heap.objs.size ≤ x) (h1 : s'.heap.get? x = some o') (hr : OR C (θ ++ [x]) s'.heap o o') (hk : ∀ b o, s.heap.get? b = some o → s'.heap.get? b = some o)
    (ht : s.toks ≤ s'.toks) (hg : s'.gens = s.gens) (ho : s'.os = s.os) : St C (θ ++ [x]) (Ops.app H [o]) s' ∧ Go C θ s (θ ++ [x]) s' := by
  have hn : x ∉ θ := fun h => Nat.not_lt.mpr hx (S.lt x h)
  have hz : s.heap.objs.size ≤ s'.heap.objs.size := Nat.le_trans hx (Nat.le_of_lt (Heap.lt_size h1))
  have hnew : ∀ a o, s.heap.get? a = some o → a ∉ θ → a ∉ θ ++ [x] := fun a o e n h => by
    rcases mem_app.mp h with h | h
    · exact n h
    · rw [List.mem_singleton] at h
      exact Nat.not_lt.mpr hx (h ▸ Heap.lt_size e)
  have hb : C.h0.objs.size ≤ x := Nat.le_trans S.big hx
  refine ⟨⟨by show (θ.l ++ [x]).length = _; rw [Ops.app_len, List.length_append, S.len]; rfl, fun k p e hv => ?_, ?_, ?_, ?_, fun e => S.tok (Nat.le_zero.mp (e ▸ ht)), Nat.le_trans S.bnd ht, hg ▸ S.bare, fun a p e n => hk a p (S.top a p e n), Nat.le_trans S.big hz, S.tab.mono (fun a o e _ => hk a o e) hnew⟩, ⟨⟨[x], rfl, fun y h => by rw [List.mem_singleton.mp h]; exact hx⟩, Nat.le_refl _, hz, fun a o e _ _ => hk a o e, ho, fun g v e => hg ▸ e, fun _ a o e _ => hk a o e, ht, tnew_keep S fun a o e _ => hk a o e⟩⟩
  · by_cases q : k < (Ops.len H)
    · rw [Ops.app_lt _ q] at e
      obtain ⟨y, p', g1, g2, g3⟩ := S.own k p e hv
      exact ⟨y, p', (Ext.app θ [x]).1 _ _ g1, hk _ _ g2, g3.mono (Ext.app θ [x]) (fun a o e _ _ => hk a o e) hnew⟩
    · rw [Ops.app_ge _ (Nat.not_lt.mp q)] at e
      have : k - (Ops.len H) = 0 := by
        have := (List.getElem?_eq_some_iff.mp e).1
        simp at this
        omega
      rw [this] at e
      cases e
      have hk' : k = θ.l.length := by rw [S.len]; omega
      subst hk'
      exact ⟨x, o', by show (θ.l ++ [x])[θ.l.length]? = some x; simp, h1, hr⟩
  · exact List.nodup_append.mpr ⟨S.nodup, List.nodup_cons.mpr ⟨fun h => (nomatch h), List.nodup_nil⟩, fun a h b h' e => by
      rw [List.mem_singleton] at h'
      subst h'
      subst e
      exact hn h⟩
  · intro y h
    rcases mem_app.mp h with h | h
    · exact S.low y h
    · rw [List.mem_singleton.mp h]; exact hb
  · intro y h
    rcases mem_app.mp h with h | h
    · exact Nat.lt_of_lt_of_le (S.lt y h) hz
    · rw [List.mem_singleton.mp h]; exact Heap.lt_size h1
end

end Mine
end
section
open PySem PyProof.Rows
namespace Mine
variable [Ops]

/- where a run may stand -/
structure Nx (C : Cx) (θ : Th) (s s' : Shared) (p : Th → Hp → Prop) : Prop where
  ex : ∃ θ' H', Go C θ s θ' s' ∧ St C θ' H' s' ∧ p θ' H'
theorem Nx.mk' {C : Cx} {θ θ' : Th} {H' : Hp} {s s' : Shared} {p : Th → Hp → Prop} (g : Go C θ s θ' s') (S : St C θ' H' s') (h : p θ' H') : Nx C θ s s' p := ⟨θ', H', g, S, h⟩
theorem Nx.elim {C : Cx} {θ : Th} {s s' : Shared} {p : Th → Hp → Prop} {G : Prop} (x : Nx C θ s s' p) (k : ∀ θ' H', Go C θ s θ' s' → St C θ' H' s' → p θ' H' → G) : G :=
  let ⟨θ', H', g, S, h⟩ := x.ex; k θ' H' g S h

/- from a state that is as H says, the tree ends, raises nothing, and P holds of what it gives -/
noncomputable def Tri (C : Cx) (A : Around) (θ : Th) (H : Hp) {α : Type} (t : Sem α) (P : α → Th → Hp → Prop) : Prop :=
  ∀ s, St C θ H s → wpAny (model C.prog C.w) A t (fun a s' => Nx C θ s s' (P a)) (fun _ _ => False) s

noncomputable abbrev TriV (C : Cx) (A : Around) (θ : Th) (H : Hp) (t : Sem Value) (v : V) (H' : Hp) : Prop := Tri C A θ H t fun a θ' H'' => H'' = H' ∧ VR θ' v a
noncomputable abbrev TriB (C : Cx) (A : Around) (θ : Th) (H : Hp) (t : Sem Bool) (b : Bool) (H' : Hp) : Prop := Tri C A θ H t fun a _ H'' => H'' = H' ∧ a = b
noncomputable abbrev TriU (C : Cx) (A : Around) (θ : Th) (H : Hp) (t : Sem Unit) (H' : Hp) : Prop := Tri C A θ H t fun _ _ H'' => H'' = H'

section
variable {C : Cx} {A : Around} {θ : Th} {H H' : Hp} {α β : Type}

theorem Tri.pure {a : α} {P : α → Th → Hp → Prop} (h : P a θ H) : Tri C A θ H (pure a) P := fun s S => wpAny_pure (.mk' Go.refl S h)

theorem Tri.bind {m : Sem α} {f : α → Sem β} {P : α → Th → Hp → Prop} {P' : β → Th → Hp → Prop} (h : Tri C A θ H m P) (k : ∀ a θ' H', Ext θ θ' → P a θ' H' → Tri C A θ' H' (f a) P') : Tri C A θ H (m >>= f) P' := fun s S =>
  wpAny_bind (wpAny_mono (h s S) (fun a s' h' => h'.elim fun θ' H' g S' p => wpAny_mono (k a θ' H' g.ext p s' S') (fun b s'' h'' => h''.elim fun _ _ g' S'' p' => .mk' (g.trans g') S'' p') fun _ _ h'' => h'') fun _ _ h' => h')

theorem Tri.mono {t : Sem α} {P P' : α → Th → Hp → Prop} (h : Tri C A θ H t P) (k : ∀ a θ' H', Ext θ θ' → P a θ' H' → P' a θ' H') : Tri C A θ H t P' := fun s S =>
  wpAny_mono (h s S) (fun a _ h' => h'.elim fun θ' H' g S' p => .mk' g S' (k a θ' H' g.ext p)) fun _ _ h' => h'

theorem Tri.of_eq {t t' : Sem α} {P : α → Th → Hp → Prop} (e : t = t') (h : Tri C A θ H t' P) : Tri C A θ H t P := e ▸ h

theorem Tri.standAt {p : Pos} {P : Unit → Th → Hp → Prop} (h : P () θ H) : Tri C A θ H (standAt p) P := fun s S => wpAny_standAt (.mk' Go.refl S h)
theorem Tri.at {p : Pos} {f : Unit → Sem β} {P : β → Th → Hp → Prop} (h : Tri C A θ H (f ()) P) : Tri C A θ H (PySem.standAt p >>= f) P := fun s S => wpAny_bind (wpAny_standAt (h s S))
theorem Tri.rule {x : String} {f : Unit → Sem β} {P : β → Th → Hp → Prop} (h : Tri C A θ H (f ()) P) : Tri C A θ H (PySem.rule x >>= f) P := fun s S => wpAny_bind (wpAny_rule (h s S))
theorem Tri.point {f : Unit → Sem β} {P : β → Th → Hp → Prop} (h : Tri C A θ H (f ()) P) : Tri C A θ H (PySem.point >>= f) P := fun s S => wpAny_bind (wpAny_point (h s S))
theorem Tri.holding {vs : List Value} {t : Sem α} {P : α → Th → Hp → Prop} (h : Tri C A θ H t P) : Tri C A θ H (holding vs t) P := fun s S => wpAny_holding (h s S)
theorem Tri.operate {vs : List Value} {t : Sem Value} {P : Value → Th → Hp → Prop} (h : Tri C A θ H t P) : Tri C A θ H (operate vs t) P := fun s S => fun Γ p hΓ => by
  rw [Sem.wp_operate]; exact h s S Γ p hΓ

theorem Tri.val {t : Sem Value} {v : V} {H' : Hp} {f : Value → Sem β} {P : β → Th → Hp → Prop} (h : TriV C A θ H t v H') (k : ∀ a θ', Ext θ θ' → VR θ' v a → Tri C A θ' H' (f a) P) : Tri C A θ H (t >>= f) P :=
  Tri.bind h fun a θ' H'' x q => q.1 ▸ k a θ' x q.2
theorem Tri.bool {t : Sem Bool} {v : Bool} {H' : Hp} {f : Bool → Sem β} {P : β → Th → Hp → Prop} (h : TriB C A θ H t v H') (k : ∀ θ', Ext θ θ' → Tri C A θ' H' (f v) P) : Tri C A θ H (t >>= f) P :=
  Tri.bind h fun a θ' H'' x q => q.1 ▸ q.2 ▸ k θ' x
theorem Tri.unit {t : Sem Unit} {H' : Hp} {f : Unit → Sem β} {P : β → Th → Hp → Prop} (h : TriU C A θ H t H') (k : ∀ θ', Ext θ θ' → Tri C A θ' H' (f ()) P) : Tri C A θ H (t >>= f) P :=
  Tri.bind h fun a θ' H'' x q => q ▸ k θ' x

/- ends -/
theorem St.tokd {s : Shared} (S : St C θ H s) (k : Nat) (hk : s.toks ≤ k) : St C θ H { s with toks := k } ∧ Go C θ s θ { s with toks := k } := S.same (fun _ _ e => e) (Nat.le_refl _) hk rfl rfl
theorem fin_tok {s : Shared} (S : St C θ H s) {k : Nat} (hk : s.toks ≤ k) {p : Th → Hp → Prop} (h : p θ H) : Nx C θ s { s with toks := k } p := .mk' (S.tokd k hk).2 (S.tokd k hk).1 h
theorem fin_same {s : Shared} (S : St C θ H s) {p : Th → Hp → Prop} (h : p θ H) : Nx C θ s s p := .mk' Go.refl S h
theorem fin_heap {s : Shared} (S : St C θ H s) {h' : Heap} {k : Nat} (hk : s.toks ≤ k) (hz : s.heap.objs.size ≤ h'.objs.size) (hh : ∀ a o, s.heap.get? a = some o → h'.get? a = some o) {p : Th → Hp → Prop} (h : p θ H) :
    Nx C θ s { s with heap := h', toks := k } p :=
  let x := S.same (s' := { s with heap := h', toks := k }) hh hz hk rfl rfl
  .mk' x.2 x.1 h
theorem fin_new {s : Shared} (S : St C θ H s) (o : O) {o' : Obj} (hf : o'.isFreed = false) (hr : OR C (θ ++ [s.heap.objs.size]) (s.heap.push o') o o') {k : Nat} (hk : s.toks ≤ k) {p : Th → Hp → Prop} (h : p (θ ++ [s.heap.objs.size]) (Ops.app H [o])) :
    Nx C θ s { s with heap := s.heap.push o', toks := k } p :=
  let x := S.new (s' := { s with heap := s.heap.push o', toks := k }) (Nat.le_refl _) (Heap.get?_push_size _ hf) hr (fun _ _ e => Heap.get?_push_of_some _ e) hk rfl rfl
  .mk' x.2 x.1 h
theorem fin_upd {s : Shared} (S : St C θ H s) {l : Nat} {x : Addr} (o : O) {o' : Obj} {h' : Heap} (hx : θ[l]? = some x) (h1 : h'.get? x = some o') (hr : OR C θ s.heap o o') (hs : ∀ b o, b ≠ x → s.heap.get? b = some o → h'.get? b = some o)
    (hz : s.heap.objs.size ≤ h'.objs.size) {k : Nat} (hk : s.toks ≤ k) {p : Th → Hp → Prop} (h : p θ (Ops.set H l o)) :
    Nx C θ s { s with heap := h', toks := k } p :=
  let y := S.upd (s' := { s with heap := h', toks := k }) hx h1 hr hs hz hk rfl rfl
  .mk' y.2 y.1 h
theorem new_ref {x : Addr} (h : θ.l.length = (Ops.len H)) : VR (θ ++ [x]) (.ref (Ops.len H)) (.ref x) := ⟨x, (h ▸ List.getElem?_concat_length : (θ.l ++ [x])[(Ops.len H)]? = some x), rfl⟩

/- numbers -/
theorem ieq_eq : ∀ a b : Int, ieq a b = (a == b)
  | .ofNat m, .ofNat n => by rw [Bool.eq_iff_iff, beq_iff_eq, Int.ofNat.injEq]; exact (Nat.beq_eq : (Nat.beq m n = true) = (m = n)) ▸ Iff.rfl
  | .negSucc m, .negSucc n => by rw [Bool.eq_iff_iff, beq_iff_eq, Int.negSucc_inj]; exact (Nat.beq_eq : (Nat.beq m n = true) = (m = n)) ▸ Iff.rfl
  | .ofNat m, .negSucc n => rfl
  | .negSucc m, .ofNat n => rfl
theorem ieq_iff {a b : Int} : ieq a b = true ↔ a = b := by rw [ieq_eq]; exact beq_iff_eq
theorem ieq_false {a b : Int} (h : ieq a b = false) : a ≠ b := fun e => Bool.false_ne_true (h.symm.trans (ieq_iff.mpr e))
theorem ilt_eq (a b : Int) : ilt a b = decide (a < b) := Bool.eq_iff_iff.mpr ((W.Z.ltB_iff a b : ilt a b = true ↔ a < b).trans decide_eq_true_iff.symm)
theorem ile_eq (a b : Int) : ile a b = decide (a ≤ b) := Bool.eq_iff_iff.mpr ((W.Z.leB_iff a b : ile a b = true ↔ a ≤ b).trans decide_eq_true_iff.symm)
theorem fits_le {n : Nat} (h : fits n = true) : n ≤ 8000 := Nat.le_of_ble_eq_true h
theorem fits_to {n k : Nat} (h : fits n = true) (hk : 8000 ≤ k) : n ≤ k := Nat.le_trans (fits_le h) hk
theorem fits_sz {n : Nat} (h : fits n = true) : n ≤ sizeLine := Nat.le_trans (fits_le h) (by decide)
/- a literal that may be an exponent, a shift, a number of times -/
noncomputable def Lit (i : Int) (n : Nat) : Prop := i = (n : Int) ∧ n ≤ 8000
theorem litNat_yes : ∀ i : Int, Yes (Lit i) (litNat i)
  | .ofNat n => Yes.t fun q => Yes.ok ⟨rfl, fits_le q⟩
  | .negSucc _ => trivial
theorem Lit.lo {i : Int} {n : Nat} (h : Lit i n) : 0 ≤ i := h.1 ▸ Int.natCast_nonneg n
theorem Lit.hi {i : Int} {n : Nat} (h : Lit i n) : i < 2 ^ 63 := h.1 ▸ Int.lt_of_le_of_lt (Int.ofNat_le.mpr h.2) (by decide)
theorem Lit.toNat {i : Int} {n : Nat} (h : Lit i n) : i.toNat = n := h.1 ▸ Int.toNat_natCast n

theorem fin_v {s : Shared} (S : St C θ H s) {v : V} {a : Value} (h : VR θ v a) : Nx C θ s s fun θ' H' => H' = H ∧ VR θ' v a := .mk' Go.refl S ⟨rfl, h⟩
theorem fin_int {s : Shared} (S : St C θ H s) (i : Int) : Nx C θ s { s with toks := s.toks + 1 } fun θ' H' => H' = H ∧ VR θ' (.int i) (.int i s.toks) := fin_tok S (Nat.le_succ _) ⟨rfl, s.toks, trivial, rfl⟩
/- a float is made anew: its token is above all earlier ones -/
noncomputable def FltR (θ : Th) (i : UInt64) (a : Value) (θ' : Th) : Prop := ∃ t, t ≠ 0 ∧ θ.n ≤ t ∧ t < θ'.n ∧ a = .float i t
theorem FltR.vr {θ θ' : Th} {i : UInt64} {a : Value} (h : FltR θ i a θ') : VR θ' (.flt i) a := let ⟨t, h1, _, h3, h4⟩ := h; ⟨t, h1, h3, h4⟩
theorem fin_fltN {s : Shared} (S : St C θ H s) (i : UInt64) : Nx C θ s { s with toks := s.toks + 1 } fun θ' H' => H' = H ∧ FltR θ i (.float i s.toks) θ' :=
  let x := S.tokd (s.toks + 1) (Nat.le_succ _)
  let y := x.1.rise (n := s.toks + 1) (Nat.le_succ_of_le S.bnd) (Nat.le_refl _)
  .mk' (x.2.trans y.2) y.1 ⟨rfl, s.toks, S.tok, S.bnd, Nat.lt_succ_self _, rfl⟩
theorem Nx.mono' {s s' : Shared} {p q : Th → Hp → Prop} (x : Nx C θ s s' p) (k : ∀ θ' H', p θ' H' → q θ' H') : Nx C θ s s' q := x.elim fun θ' H' g S h => .mk' g S (k θ' H' h)
theorem fin_flt {s : Shared} (S : St C θ H s) (i : UInt64) : Nx C θ s { s with toks := s.toks + 1 } fun θ' H' => H' = H ∧ VR θ' (.flt i) (.float i s.toks) := (fin_fltN S i).mono' fun _ _ h => ⟨h.1, h.2.vr⟩
theorem fin_str {s : Shared} (S : St C θ H s) (i : List Nat) : Nx C θ s { s with toks := s.toks + 1 } fun θ' H' => H' = H ∧ VR θ' (.str i) (.str ⟨⟨i⟩⟩ s.toks) := fin_tok S (Nat.le_succ _) ⟨rfl, s.toks, S.tok, rfl⟩
/- a written text is made anew: its token is above all earlier ones -/
noncomputable def LitR (θ : Th) (i : List Nat) (a : Value) (θ' : Th) : Prop := ∃ t, t ≠ 0 ∧ θ.n ≤ t ∧ t < θ'.n ∧ a = .str ⟨⟨i⟩⟩ t
theorem LitR.vr {θ θ' : Th} {i : List Nat} {a : Value} (h : LitR θ i a θ') : VR θ' (.lit i) a := let ⟨t, h1, _, h3, h4⟩ := h; ⟨t, h1, h3, h4⟩
theorem fin_lit {s : Shared} (S : St C θ H s) (i : List Nat) : Nx C θ s { s with toks := s.toks + 1 } fun θ' H' => H' = H ∧ LitR θ i (.str ⟨⟨i⟩⟩ s.toks) θ' :=
  let x := S.tokd (s.toks + 1) (Nat.le_succ _)
  let y := x.1.rise (n := s.toks + 1) (Nat.le_succ_of_le S.bnd) (Nat.le_refl _)
  .mk' (x.2.trans y.2) y.1 ⟨rfl, s.toks, S.tok, S.bnd, Nat.lt_succ_self _, rfl⟩
theorem Nx.mono {s s' : Shared} {p q : Th → Hp → Prop} (x : Nx C θ s s' p) (k : ∀ θ' H', p θ' H' → q θ' H') : Nx C θ s s' q := x.elim fun θ' H' g S h => .mk' g S (k θ' H' h)

/- the heads of values -/
section
variable {x : Value} {P : Value → Prop}
theorem VR.int {i : Int} (h : VR θ (.int i) x) (k : ∀ t, True → P (.int i t)) : P x := let ⟨t, ht, e⟩ := h; e ▸ k t ht
theorem VR.flt {i : UInt64} (h : VR θ (.flt i) x) (k : ∀ t, t ≠ 0 → P (.float i t)) : P x := let ⟨t, ht, _, e⟩ := h; e ▸ k t ht
theorem VR.fltb {i : UInt64} (h : VR θ (.flt i) x) (k : ∀ t, t ≠ 0 ∧ t < θ.n → P (.float i t)) : P x := let ⟨t, ht, h2, e⟩ := h; e ▸ k t ⟨ht, h2⟩
theorem VR.str {i : List Nat} (h : VR θ (.str i) x) (k : ∀ t, t ≠ 0 → P (.str ⟨⟨i⟩⟩ t)) : P x := let ⟨t, ht, e⟩ := h; e ▸ k t ht
theorem VR.ref {l : Nat} (h : VR θ (.ref l) x) (k : ∀ p, θ[l]? = some p → P (.ref p)) : P x := let ⟨t, ht, e⟩ := h; e ▸ k t ht
end

/- the operators -/
section
variable {a b : Int} {t u : Tok} {n : Nat} {s : Shared}
noncomputable abbrev BinT (C : Cx) (A : Around) (θ : Th) (H : Hp) (op : Operator) (x y : Value) (v : V) : Prop := TriV C A θ H (binaryOp op x y) v H
theorem small_int {n : Nat} (h : n ≤ 8000) : Builtin.Int.intTooBig n = false := decide_eq_false (Int.not_lt.mpr (Int.ofNat_le.mpr (Nat.le_trans h (by decide : 8000 ≤ bitsLine))))
theorem bin_mul (q : fits (ib a + ib b) = true) : BinT C A θ H .Mult (.int a t) (.int b u) (.int (a * b)) := fun s S => by
  refine mul_int (fin_int S _) ?_
  unfold IntMulOk
  have e : Builtin.Int.intTooBig (Builtin.Int.intBits a + Builtin.Int.intBits b) = false := small_int (fits_le q)
  simp [e]
theorem log_le {a b : Int} (hb : b ≠ 0) (q : fits (ib b) = true) : Builtin.divisionGoesByPylong a b = false := by
  have := fits_le q
  have hz : (b == 0) = false := beq_eq_false_iff_ne.mpr hb
  unfold ib Builtin.Int.intBits at this
  rw [hz] at this
  simp only [Bool.false_eq_true, if_false] at this
  unfold Builtin.divisionGoesByPylong
  simp only [hz, Bool.false_eq_true, if_false]
  have : ¬ (b.natAbs.log2 / 30 + 1 > 300) := by omega
  simp [this]
theorem bin_pow (q : Lit b n) (q2 : fits (ib a * n) = true) : BinT C A θ H .Pow (.int a t) (.int b u) (.int (a ^ n)) := fun s S => by
  refine pow_int q.lo ?_ ?_
  · rw [q.1, ← Int.natCast_mul]
    exact Int.ofNat_le.mpr (Nat.le_trans (fits_le q2) (by decide))
  · rw [q.toNat]; exact fin_int S _
theorem bin_shl (q : Lit b n) (q2 : fits (ib a) = true) : BinT C A θ H .LShift (.int a t) (.int b u) (.int (a * 2 ^ n)) := fun s S => by
  obtain ⟨rfl, hn⟩ := q
  refine lshift_int (Int.natCast_nonneg n) ?_ ?_
  · have := fits_le q2
    unfold ib at this
    omega
  · rw [Int.toNat_natCast]; exact fin_int S _
theorem bin_div (q1 : ieq b 0 = false) (q2 : Float64.isInf (quot a b) = false) : BinT C A θ H .Div (.int a t) (.int b u) (.flt (quot a b)) := fun s S =>
  AutoIntOps.truediv_2 (fun e => ieq_false q1 (eq_of_beq e)) (fun z => Bool.false_ne_true (q2.symm.trans z)) (fin_flt S _)
theorem Yes.ft {α : Type} {Q : α → Prop} {b c : Bool} {o : Option α} (h : b = false → c = true → Yes Q o) : Yes Q (match (generalizing := false) b, c with | false, true => o | _, _ => .none) := by
  cases b <;> cases c <;> first | exact trivial | exact h rfl rfl
theorem Yes.ff {α : Type} {Q : α → Prop} {b c : Bool} {o : Option α} (h : b = false → c = false → Yes Q o) : Yes Q (match (generalizing := false) b, c with | false, false => o | _, _ => .none) := by
  cases b <;> cases c <;> first | exact trivial | exact h rfl rfl
theorem Yes.tt {α : Type} {Q : α → Prop} {b c : Bool} {o : Option α} (h : b = true → c = true → Yes Q o) : Yes Q (match (generalizing := false) b, c with | true, true => o | _, _ => .none) := by
  cases b <;> cases c <;> first | exact trivial | exact h rfl rfl
theorem Yes.n' {α : Type} {P : Nat → Prop} {Q : α → Prop} {x : Option Nat} {K : Nat → Option α} (p : Yes P x) (h : ∀ n, P n → Yes Q (K n)) : Yes Q (match (generalizing := false) x with | some n => K n | .none => .none) := by
  cases x with
  | none => trivial
  | some n => exact h n p
theorem binI_yes : ∀ op, Yes (BinT C A θ H op (.int a t) (.int b u)) (binI op a b)
  | .Add => fun s S => add_int (fin_int S _)
  | .Sub => fun s S => sub_int (fin_int S _)
  | .Mult => Yes.t bin_mul
  | .Pow => Yes.n' (litNat_yes b) fun n q => Yes.t (bin_pow q)
  | .Mod => by refine Yes.f fun q => ?_; exact fun s S => mod_int' (ieq_false q) (fin_int S _)
  | .BitXor => fun s S => xor_int (fin_int S _)
  | .Div => Yes.ff bin_div
  | .FloorDiv => by refine Yes.ft fun q1 q2 => ?_; exact fun s S => floordiv_int (ieq_false q1) (fin_int S _) (.inl (log_le (ieq_false q1) q2))
  | .LShift => Yes.n' (litNat_yes b) fun n q => Yes.t (bin_shl q)
  | .RShift => by refine Yes.n' (litNat_yes b) fun n q => ?_; exact fun s S => rshift_int q.lo (by rw [q.toNat]; exact fin_int S _)
  | .BitOr => trivial
  | .BitAnd => trivial
  | .MatMult => trivial
theorem not_t {b : Bool} (q : b = false) : ¬ b = true := fun z => Bool.false_ne_true (q.symm.trans z)
section
variable {a b : UInt64}
theorem binF_yes : ∀ op, Yes (BinT C A θ H op (.float a t) (.float b u)) (binF op a b)
  | .Add => fun s S => AutoFloatOps.add_0 (fin_flt S _)
  | .Sub => fun s S => AutoFloatOps.sub_0 (fin_flt S _)
  | .Mult => fun s S => AutoFloatOps.mul_0 (fin_flt S _)
  | .Div => by refine Yes.f fun q => ?_; exact fun s S => AutoFloatOps.truediv_1 (not_t q) (fin_flt S _)
  | .Mod => by refine Yes.f fun q => ?_; exact fun s S => AutoFloatOps.mod_1 (not_t q) (fin_flt S _)
  | .Pow | .FloorDiv | .LShift | .RShift | .BitXor | .BitOr | .BitAnd | .MatMult => trivial
end
theorem binFI_yes {a : UInt64} : ∀ op, Yes (BinT C A θ H op (.float a t) (.int b u)) (binFI op a b)
  | .Sub => by refine Yes.f fun q => ?_; exact fun s S => AutoFloatOps.sub_fi_1 (not_t q) (fin_flt S _)
  | .Add | .Mult | .Div | .Mod | .Pow | .FloorDiv | .LShift | .RShift | .BitXor | .BitOr | .BitAnd | .MatMult => trivial
theorem binIF_yes {b : UInt64} : ∀ op, Yes (BinT C A θ H op (.int a t) (.float b u)) (binIF op a b)
  | .Div => by refine Yes.ff fun q1 q2 => ?_; exact fun s S => AutoFloatOps.truediv_if_2 (not_t q1) (not_t q2) (fin_flt S _)
  | .Add | .Mult | .Sub | .Mod | .Pow | .FloorDiv | .LShift | .RShift | .BitXor | .BitOr | .BitAnd | .MatMult => trivial
end
end
end Mine
end
section
open PySem PyProof.Rows
namespace Mine
variable [Ops]
section
variable {C : Cx} {A : Around} {θ : Th} {H H' : Hp} {α β : Type}

omit [Ops] in
theorem str_len (a : List Nat) : (⟨⟨a⟩⟩ : Str).length = a.length := rfl
omit [Ops] in
theorem str_app (a b : List Nat) : (⟨⟨a⟩⟩ : Str) ++ (⟨⟨b⟩⟩ : Str) = ⟨⟨a ++ b⟩⟩ := by
  show (⟨(⟨a⟩ : Array Nat) ++ ⟨b⟩⟩ : Str) = _
  simp
theorem Made.strOk {s : Shared} (S : St C θ H s) {x : Str} {a : List Nat} (e : x = ⟨⟨a⟩⟩) (hz : a.length ≤ sizeLine) : (Made.str x).post (fun a' s' => Nx C θ s s' fun θ' H' => H' = H ∧ VR θ' (.str a) a') s := e ▸ ⟨hz, fin_str S _⟩

theorem fin_add {s : Shared} (S : St C θ H s) {t u : Tok} (ht : t ≠ 0) (hu : u ≠ 0) : ∀ {a b : List Nat}, fits (a.length + b.length) = true →
    (if (⟨⟨a⟩⟩ : Str).length == 0 then Made.val (.str ⟨⟨b⟩⟩ u) else if (⟨⟨b⟩⟩ : Str).length == 0 then Made.val (.str ⟨⟨a⟩⟩ t) else Made.str (⟨⟨a⟩⟩ ++ ⟨⟨b⟩⟩)).post (fun a' s' => Nx C θ s s' fun θ' H' => H' = H ∧ VR θ' (.str (a ++ b)) a') s
  | [], b, _ => fin_v S ⟨u, hu, rfl⟩
  | c :: a, [], _ => fin_v S ⟨t, ht, by rw [List.append_nil]⟩
  | c :: a, d :: b, q => Made.strOk S (str_app _ _) (by rw [List.length_append]; exact fits_sz q)

section
variable {t u : Tok} {a b : List Nat}
theorem binS_yes (ht : t ≠ 0) (hu : u ≠ 0) : ∀ op, Yes (BinT C A θ H op (.str ⟨⟨a⟩⟩ t) (.str ⟨⟨b⟩⟩ u)) (binS op a b)
  | .Add => by refine Yes.t fun q => ?_; exact fun s S => P.add_str (fin_add S ht hu q)
  | .Sub | .Mult | .Div | .Mod | .Pow | .FloorDiv | .LShift | .RShift | .BitXor | .BitOr | .BitAnd | .MatMult => trivial
end

omit [Ops] in
theorem rep_fold (a : List Nat) : ∀ (n : Nat) (z : List Nat), (List.replicate n (⟨a⟩ : Array Nat)).foldl (· ++ ·) ⟨z⟩ = ⟨z ++ rep a n⟩
  | 0, z => congrArg _ (List.append_nil z).symm
  | n + 1, z => by
    have : (⟨z⟩ : Array Nat) ++ (⟨a⟩ : Array Nat) = ⟨z ++ a⟩ := by simp
    rw [List.replicate_succ, List.foldl_cons, this, rep_fold a n, List.append_assoc]; rfl
omit [Ops] in
theorem rep_len {α : Type} (a : List α) : ∀ n, (rep a n).length = a.length * n
  | 0 => rfl
  | n + 1 => List.length_append.trans ((congrArg _ (rep_len a n)).trans ((Nat.add_comm _ _).trans (Nat.mul_succ _ _).symm))
omit [Ops] in
theorem rep_nil {α : Type} : ∀ n, rep ([] : List α) n = []
  | 0 => rfl
  | n + 1 => rep_nil n

omit [Ops] in
theorem mul_room {l n : Nat} (h : l * n ≤ 8000) (hn : n ≤ 8000) (h0 : n ≠ 0) : (l : Int) ≤ (2 ^ 63 - 1) / (n : Int) := by
  have hn0 : 0 < (n : Int) := Int.natCast_pos.mpr (Nat.pos_of_ne_zero h0)
  exact (Int.le_ediv_iff_mul_le hn0).mpr (Int.le_trans (Int.ofNat_le.mpr h) (by decide))
theorem bin_rep {s : Shared} (S : St C θ H s) {a : List Nat} {t u : Tok} {n : Nat} {b : Int} (ht : t ≠ 0) (q : Lit b n) (q2 : fits (a.length * n) = true) :
    wpAny (model C.prog C.w) A (binaryOp .Mult (.str ⟨⟨a⟩⟩ t) (.int b u)) (fun a' s' => Nx C θ s s' fun θ' H' => H' = H ∧ VR θ' (.str (rep a n)) a') (fun _ _ => False) s := by
  refine P.mul_str ?_ (fun h1 _ => ?_) (fun _ _ => ?_) ?_
  · rw [decide_eq_false (Int.not_lt.mpr (Int.le_trans (by decide) q.lo)), decide_eq_false (Int.not_le.mpr q.hi)]; rfl
  · obtain ⟨rfl, hn⟩ := q
    exact Int.not_lt.mpr (mul_room (fits_le q2) hn fun e => h1 (by rw [e]; decide))
  · rw [q.toNat]
    exact decide_eq_false (Nat.not_lt.mpr (fits_sz q2))
  · obtain ⟨rfl, hn⟩ := q
    split
    · rename_i q3
      obtain rfl : n = 0 := by omega
      exact ⟨by decide, fin_str S []⟩
    · split
      · rename_i q4
        refine fin_v S ⟨t, ht, ?_⟩
        rcases (by simpa [str_len] using q4 : (n : Int) = 1 ∨ a = []) with e | e
        · obtain rfl : n = 1 := by omega
          simp [rep]
        · rw [e, rep_nil]
      · exact Made.strOk S (congrArg Str.mk (rep_fold a n [])) ((rep_len a n).symm ▸ fits_sz q2)
section
variable {t u : Tok} {a : List Nat} {b : Int}
theorem binSI_yes (ht : t ≠ 0) : ∀ op, Yes (BinT C A θ H op (.str ⟨⟨a⟩⟩ t) (.int b u)) (binSI op a b)
  | .Mult => by refine Yes.n' (litNat_yes b) fun n q => Yes.t fun q2 => ?_; exact fun s S => bin_rep S ht q q2
  | .Add | .Sub | .Div | .Mod | .Pow | .FloorDiv | .LShift | .RShift | .BitXor | .BitOr | .BitAnd | .MatMult => trivial
end

theorem binP_yes {op : Operator} {a b : V} {x y : Value} (hx : VR θ a x) (hy : VR θ b y) : Yes (BinT C A θ H op x y) (binP op a b) := by
  cases a <;> cases b <;> first
    | exact trivial
    | (apply hx.int; intro t ht; apply hy.int; intro u hu; exact binI_yes op)
    | (apply hx.flt; intro t ht; apply hy.flt; intro u hu; exact binF_yes op)
    | (apply hx.flt; intro t ht; apply hy.int; intro u hu; exact binFI_yes op)
    | (apply hx.int; intro t ht; apply hy.flt; intro u hu; exact binIF_yes op)
    | (apply hx.str; intro t ht; apply hy.str; intro u hu; exact binS_yes ht hu op)
    | (apply hx.str; intro t ht; apply hy.int; intro u hu; exact binSI_yes ht op)

noncomputable abbrev InT (C : Cx) (A : Around) (θ : Th) (H : Hp) (op : Operator) (x y : Value) (v : V) : Prop := TriV C A θ H (inplaceOp op x y) v H
theorem inI_yes {a b : Int} {t u : Tok} : ∀ op, Yes (InT C A θ H op (.int a t) (.int b u)) (inP op (.int a) (.int b))
  | .Add => fun s S => iadd_int (fin_int S _)
  | .Sub => fun s S => AutoIntOps.isub_0 (fin_int S _)
  | .Mult | .Div | .Mod | .Pow | .FloorDiv | .LShift | .RShift | .BitXor | .BitOr | .BitAnd | .MatMult => trivial
theorem inS_yes {a b : List Nat} {t u : Tok} (ht : t ≠ 0) (hu : u ≠ 0) : ∀ op, Yes (InT C A θ H op (.str ⟨⟨a⟩⟩ t) (.str ⟨⟨b⟩⟩ u)) (inP op (.str a) (.str b))
  | .Add => by refine Yes.t fun q => ?_; exact fun s S => P.iadd_str (fin_add S ht hu q)
  | .Sub | .Mult | .Div | .Mod | .Pow | .FloorDiv | .LShift | .RShift | .BitXor | .BitOr | .BitAnd | .MatMult => trivial
theorem inP_yes {op : Operator} {a b : V} {x y : Value} (hx : VR θ a x) (hy : VR θ b y) : Yes (InT C A θ H op x y) (inP op a b) := by
  cases a <;> cases b <;> first
    | exact trivial
    | (apply hx.int; intro t ht; apply hy.int; intro u hu; exact inI_yes op)
    | (apply hx.str; intro t ht; apply hy.str; intro u hu; exact inS_yes ht hu op)

theorem unI_yes {a : Int} {t : Tok} : ∀ op, Yes (fun v => TriV C A θ H (unaryOp op (.int a t)) v H) (unV op (.int a))
  | .USub => fun s S => neg_int (fin_int S _)
  | .Invert => fun s S => invert_int (fin_int S _)
  | .UAdd | .Not => trivial
theorem unV_yes {op : UnaryOp} {a : V} {x : Value} (hx : VR θ a x) : Yes (fun v => TriV C A θ H (unaryOp op x) v H) (unV op a) := by
  cases a <;> first | exact trivial | (apply hx.int; intro t ht; exact unI_yes op)

theorem lit_tri {i : List Nat} {env : Env} : Tri C A θ H (constValue env (.str ⟨⟨i⟩⟩)) fun a θ' H' => H' = H ∧ LitR θ i a θ' := fun s S => wpAny_mkText (fin_lit S _)
theorem const_yes {env : Env} : ∀ c, Yes (fun v => TriV C A θ H (constValue env c) v H) (const c)
  | .none => fun s S => wpAny_pure (fin_v S rfl)
  | .bool b => fun s S => wpAny_pure (fin_v S rfl)
  | .int i => fun s S => wpAny_mkInt (fin_int S _)
  | .float x => fun s S => wpAny_bind (wpAny_fresh (wpAny_pure (fin_flt S _)))
  | .str x => lit_tri.mono fun _ _ _ _ q => ⟨q.1, q.2.vr⟩
  | .bytes _ | .ellipsis => trivial
  | .complex _ _ => trivial
theorem lit_yes {env : Env} {c : Const} {i : List Nat} (h : const c = some (.lit i)) : Tri C A θ H (constValue env c) fun a θ' H' => H' = H ∧ LitR θ i a θ' := by
  cases c with
  | str x => cases h; exact lit_tri
  | _ => cases h
end
end Mine
end
section
open PySem PyProof.Rows
namespace Mine
variable [Ops]
/- matches of the evaluator's shapes -/
section
variable {α γ : Type} {P : α → Prop} {Q : γ → Prop}
omit [Ops] in
theorem Yes.kind {o : Option NameKind} {P : NameKind → Prop} {a b c d : Option γ} (p : Yes P o) (h1 : P .local → Yes Q a) (h2 : P .cell → Yes Q b) (h3 : P .free → Yes Q c) (h4 : P .globalImplicit → Yes Q d) :
    Yes Q (match (generalizing := false) o with | some .local => a | some .cell => b | some .free => c | some .globalImplicit => d | _ => .none) := by
  cases o with
  | none => trivial
  | some k => cases k <;> first | exact trivial | exact h1 p | exact h2 p | exact h3 p | exact h4 p
omit [Ops] in
theorem Yes.kind2 {o : Option NameKind} {P : NameKind → Prop} {a b : Option γ} (p : Yes P o) (h1 : P .local → Yes Q a) (h2 : P .cell → Yes Q b) :
    Yes Q (match (generalizing := false) o with | some .local => a | some .cell => b | _ => .none) := by
  cases o with
  | none => trivial
  | some k => cases k <;> first | exact trivial | exact h1 p | exact h2 p
omit [Ops] in
theorem Yes.ns {o : Option O} {K : List (Str × V) → Option γ} (h : ∀ es, o = some (.ns es) → Yes Q (K es)) : Yes Q (match (generalizing := false) o with | some (.ns es) => K es | _ => .none) := by
  cases o with
  | none => trivial
  | some k => cases k <;> first | exact trivial | exact h _ rfl
omit [Ops] in
theorem Yes.list {o : Option O} {K : List V → Option γ} (h : ∀ es, o = some (.list es) → Yes Q (K es)) : Yes Q (match (generalizing := false) o with | some (.list es) => K es | _ => .none) := by
  cases o with
  | none => trivial
  | some k => cases k <;> first | exact trivial | exact h _ rfl
omit [Ops] in
theorem Yes.tup {o : Option O} {K : List V → Option γ} (h : ∀ es, o = some (.tup es) → Yes Q (K es)) : Yes Q (match (generalizing := false) o with | some (.tup es) => K es | _ => .none) := by
  cases o with
  | none => trivial
  | some k => cases k <;> first | exact trivial | exact h _ rfl
omit [Ops] in
theorem Yes.dict {o : Option O} {K : List (Int × V) → Option γ} (h : ∀ es, o = some (.dict es) → Yes Q (K es)) : Yes Q (match (generalizing := false) o with | some (.dict es) => K es | _ => .none) := by
  cases o with
  | none => trivial
  | some k => cases k <;> first | exact trivial | exact h _ rfl
omit [Ops] in
theorem Yes.cell {o : Option O} {a : Option γ} (h : ∀ v, o = some (.cell v) → Yes Q a) : Yes Q (match (generalizing := false) o with | some (.cell _) => a | _ => .none) := by
  cases o with
  | none => trivial
  | some k => cases k <;> first | exact trivial | exact h _ rfl
omit [Ops] in
theorem Yes.cellv {o : Option O} {K : V → Option γ} (h : ∀ v, o = some (.cell (some v)) → Yes Q (K v)) : Yes Q (match (generalizing := false) o with | some (.cell (some v)) => K v | _ => .none) := by
  cases o with
  | none => trivial
  | some k => cases k <;> first | exact trivial | (rename_i v; cases v <;> first | exact trivial | exact h _ rfl)
omit [Ops] in
theorem Yes.int {o : Option Int} {K : Int → Option γ} (h : ∀ v, o = some v → Yes Q (K v)) : Yes Q (match (generalizing := false) o with | some v => K v | .none => .none) := by
  cases o with
  | none => trivial
  | some k => exact h _ rfl
theorem Yes.ret {o : Option V} {P : V → Prop} {R : V × Hp → Prop} {H : Hp} (p : Yes P o) (h : ∀ v, P v → R (v, H)) : Yes R (match (generalizing := false) o with | some v => some (v, H) | .none => .none) := by
  cases o with
  | none => trivial
  | some k => exact h _ p
end

structure EnvR (C : Cx) (θ : Th) (ρ : Rho) (env : Env) : Prop where
  scope : env.scope = ρ.scope
  kind : ρ.scope.kind = .function
  loc : θ[ρ.loc]? = some env.locals
  cells : CR θ ρ.cells env.cells
  globals : env.globals = mainGlobals
  builtins : env.builtins = builtinsNs
  tab : ∀ k, ρ.tab = some k → C.frozen = false ∧ ∃ c, C.codes[k]? = some c ∧ env.code = .ref c ∧ C.quals[k]? = some (env.qual ++ C.nest)
omit [Ops] in
theorem EnvR.mono {C : Cx} {θ θ' : Th} {ρ : Rho} {env : Env} (x : Ext θ θ') (R : EnvR C θ ρ env) : EnvR C θ' ρ env := ⟨R.scope, R.kind, x.1 _ _ R.loc, R.cells.mono x, R.globals, R.builtins, R.tab⟩

noncomputable def biVal : Bi → Value
  | .len => .builtin "len"
  | .range => .type "range"
  | .reversed => .type "reversed"
  | .zip => .type "zip"
  | .divmod => .builtin "divmod"
  | .max => .builtin "max"
  | .min => .builtin "min"
  | .int => .type "int"
  | .sum => .builtin "sum"
  | .sorted => .builtin "sorted"

/- what the top has left -/
structure Top (C : Cx) (G : Env0) : Prop where
  gns : C.h0.Ns mainGlobals C.mg
  bns : C.h0.Ns builtinsNs C.mb
  stat : C.h0.Ns cStatics fun _ => none
  tabs : ∀ t ∈ C.tabs, t < C.h0.objs.size
  tnd : C.tabs.Nodup
  cnt : ∀ c ∈ C.codes, c ∉ C.tabs
  cl : C.codes.length = C.tabs.length
  clt : ∀ c ∈ C.codes, c < C.h0.objs.size
  low : mainGlobals ∉ C.tabs ∧ builtinsNs ∉ C.tabs ∧ cStatics ∉ C.tabs
  glob : ∀ x i, G.glob x = some i → ∃ t, t ≠ 0 ∧ C.mg x = some (.int i t)
  bi : ∀ x b, biOf x = some b → C.mg x = none ∧ C.mb x = some (biVal b)
  nest : G.nest = C.nest
  lev : G.lev = C.lev
  blt : ∃ bm o, C.mg "__builtins__" = some (.ref bm) ∧ bm ≠ builtinsNs ∧ bm ∉ C.tabs ∧ C.h0.get? bm = some o ∧ o.cls = .type "module" ∧ o.dict = some builtinsNs ∧ o.data = .plain
  code : ∀ (k : Nat) (c P : Addr), C.codes[k]? = some c → C.tabs[k]? = some P → ∃ o vs, C.h0.get? c = some o ∧ o.cls = .type "code" ∧ o.data = .fields vs ∧ vs[11]? = some (.ref P)
  fn : ∀ f F, G.fn f = some F → ∃ a o fd, C.mg f = some (.ref a) ∧ a ∉ C.tabs ∧ C.h0.get? a = some o ∧ o.data = .func fd ∧ FnR C ⟨[], 0⟩ C.h0 F.tab F.params F.body F.scope [] fd

theorem Top.ns {C : Cx} {θ : Th} {H : Hp} {s : Shared} (S : St C θ H s) {a : Addr} {m : Str → Option Value} (h : C.h0.Ns a m) (n : a ∉ C.tabs) : s.heap.Ns a m :=
  let ⟨o, es, ep, ho, r⟩ := h; ⟨o, es, ep, S.top a o ho n, r⟩
theorem Top.limit {C : Cx} {G : Env0} (T : Top C G) {θ : Th} {H : Hp} {s : Shared} (S : St C θ H s) : s.heap.NoLimit :=
  ⟨_, Top.ns S T.stat T.low.2.2, rfl⟩

section
variable {C : Cx} {G : Env0} {A : Around} {θ : Th} {H H' : Hp} {ρ : Rho} {env : Env} {α β : Type}
structure KN (env : Env) (x : Str) (k : NameKind) : Prop where
  of : env.kindOf x = some k
  d : (x == ("__debug__" : Str)) = false
  c : (x == ("__classdict__" : Str)) = false
theorem kind_yes (R : EnvR C θ ρ env) {x : Str} : Yes (KN env x) (Mine.kind ρ x) :=
  Yes.f fun q1 => Yes.f fun q2 => Yes.of fun k e => ⟨by unfold Env.kindOf; rw [R.scope, ← find_lookup]; exact e, beq_eq_false_iff_ne.mpr (seq_false q1), beq_eq_false_iff_ne.mpr (seq_false q2)⟩
omit [Ops] in
theorem EnvR.fn (R : EnvR C θ ρ env) : env.scope.kind = .function := R.scope ▸ R.kind

/- what stands at a place -/
theorem St.at' {s : Shared} (S : St C θ H s) {l : Nat} {o : O} {x : Addr} (h : Ops.get H l = some o) (e : θ[l]? = some x) (v : live o = true) : ∃ o', s.heap.get? x = some o' ∧ OR C θ s.heap o o' :=
  let ⟨y, o', h1, h2, h3⟩ := S.own _ _ h v
  ⟨o', Option.some.inj (e.symm.trans h1) ▸ h2, h3⟩
theorem St.nsAt {s : Shared} (S : St C θ H s) {l : Nat} {es : List (Str × V)} {x : Addr} (h : Ops.get H l = some (.ns es)) (e : θ[l]? = some x) : ∃ m, s.heap.Ns x m ∧ NsR θ es m :=
  let ⟨o', h2, es', ep, h3, h4, h5⟩ := S.at' h e rfl
  ⟨_, ⟨o', es', ep, h2, h3, h4, fun _ => rfl⟩, h5⟩
theorem St.cellAt {s : Shared} (S : St C θ H s) {l : Nat} {v : Option V} {x : Addr} (h : Ops.get H l = some (.cell v)) (e : θ[l]? = some x) : ∃ v', s.heap.IsCell x v' :=
  let ⟨o', h2, v', h3, h4⟩ := S.at' h e rfl
  ⟨v', ⟨o', h2, h3⟩⟩
theorem St.cellvAt {s : Shared} (S : St C θ H s) {l : Nat} {v : V} {x : Addr} (h : Ops.get H l = some (.cell (some v))) (e : θ[l]? = some x) : ∃ a, s.heap.IsCell x (some a) ∧ VR θ v a :=
  match S.at' h e rfl with
  | ⟨o', h2, some a, h3, h4⟩ => ⟨a, ⟨o', h2, h3⟩, h4⟩
  | ⟨o', h2, none, h3, h4⟩ => h4.elim
theorem St.listAt {s : Shared} (S : St C θ H s) {l : Nat} {vs : List V} {x : Addr} (h : Ops.get H l = some (.list vs)) (e : θ[l]? = some x) : ∃ a n, IsL s.heap x a n ∧ AR θ vs a.toList :=
  let ⟨o', h2, a, n, h4, h5⟩ := S.at' h e rfl
  ⟨a, n, h2.trans (congrArg some h4), h5⟩
theorem St.xlAt {s : Shared} (S : St C θ H s) {l : Nat} {vs : List V} {its : Array Value} {x : Addr} (h : Ops.get H l = some (.xl vs its)) (e : θ[l]? = some x) : IsL s.heap x its 0 ∧ AR θ vs its.toList :=
  let ⟨o', h2, h4, h5⟩ := S.at' h e rfl
  ⟨h2.trans (congrArg some h4), h5⟩
theorem St.tupAt {s : Shared} (S : St C θ H s) {l : Nat} {vs : List V} {x : Addr} (h : Ops.get H l = some (.tup vs)) (e : θ[l]? = some x) : ∃ a n, IsT s.heap x a n ∧ AR θ vs a.toList :=
  let ⟨o', h2, a, n, h4, h5⟩ := S.at' h e rfl
  ⟨a, n, h2.trans (congrArg some h4), h5⟩

noncomputable abbrev LdT (C : Cx) (A : Around) (θ : Th) (H : Hp) (env : Env) (x : Str) (v : V) : Prop := TriV C A θ H (loadName env x) v H
theorem cellAt_yes (R : EnvR C θ ρ env) {x : Str} {T : V → Prop} (k : ∀ a v, env.cells.lookup x = some a → (∀ s, St C θ H s → ∃ u, s.heap.IsCell a (some u) ∧ VR θ v u) → T v) : Yes T (Mine.cellAt ρ H x) :=
  Yes.n fun c hc => Yes.cellv fun v hl =>
    let ⟨a, h1, h2⟩ := R.cells.find hc
    k a v h1 fun s S => S.cellvAt hl h2
theorem loadName_yes (T : Top C G) (R : EnvR C θ ρ env) {x : Str} : Yes (LdT C A θ H env x) (ldName G ρ H x) :=
  Yes.kind (kind_yes R)
    (fun K => Yes.ns fun es hl => Yes.of fun v h => fun s S =>
      let ⟨m, hn, hr⟩ := S.nsAt hl R.loc
      let ⟨a, e1, e2⟩ := hr x v h
      wpAny_loadName_local R.fn K.of hn e1 (fin_v S e2))
    (fun K => cellAt_yes R fun a v h1 k s S =>
      let ⟨u, h3, h5⟩ := k s S
      wpAny_loadName_cell R.fn K.of h1 h3 (fin_v S h5))
    (fun K => cellAt_yes R fun a v h1 k s S =>
      let ⟨u, h3, h5⟩ := k s S
      wpAny_loadName_free R.fn K.of h1 h3 (fin_v S h5) K.c)
    (fun K => Yes.int fun i hi => fun s S => by
      obtain ⟨t, ht, e⟩ := T.glob x i hi
      refine (?_ : wpAny (model C.prog C.w) A (loadName env x) _ _ s)
      unfold loadName
      simp only [Env.blockKind, R.fn, K.of, ScopeKind.isAnnotationScope, Bool.false_and, Bool.false_eq_true, if_false]
      exact Calls.loadGlobal_global (env := env) (by rw [R.globals]; exact Top.ns S T.gns T.low.1) e (fin_v S ⟨t, trivial, rfl⟩))
theorem kind_dbg {x : Str} {y : V} (h : ldName G ρ H x = some y) : (x == ("__debug__" : Str)) = false := by
  cases e : seq x "__debug__" with
  | false => exact beq_eq_false_iff_ne.mpr (seq_false e)
  | true =>
    have k : kind ρ x = none := by
      show (match seq x "__debug__" with | true => _ | false => _) = none
      rw [e]
    have : ldName G ρ H x = none := by
      unfold ldName
      rw [k]
    rw [this] at h; cases h
theorem name_yes (T : Top C G) (R : EnvR C θ ρ env) {x : Str} {pos : Pos} : Yes (fun v => TriV C A θ H (eval (.Name x pos) env) v H) (ldName G ρ H x) := Yes.of fun v h s S =>
  wpAny_Name ((loadName_yes T R).get h s S) (kind_dbg h)

omit [Ops] in
theorem sameBut_get {h h' : Heap} {x : Addr} (hs : Heap.SameBut x h h') : ∀ b o, b ≠ x → h.get? b = some o → h'.get? b = some o := fun b o n e => (hs.2 b n).trans e

noncomputable abbrev SvT (C : Cx) (A : Around) (θ : Th) (H : Hp) (env : Env) (x : Str) (a : Value) (H' : Hp) : Prop := TriU C A θ H (storeName env x a) H'
theorem stName_yes (R : EnvR C θ ρ env) {x : Str} {v : V} {a : Value} (hv : VR θ v a) : Yes (SvT C A θ H env x a) (stName ρ H x v) :=
  Yes.kind2 (kind_yes R)
    (fun K => Yes.ns fun es hl => Yes.ok fun s S => by
      obtain ⟨m, hn, hr⟩ := S.nsAt hl R.loc
      refine wpAny_storeName_local K.of hn (fun h' hn' hs' => ?_) (by rw [R.fn]; rfl)
      obtain ⟨o', es', ep, g1, g2, g3, g4⟩ := hn'
      exact fin_upd S (.ns (put x v es)) R.loc g1 ⟨es', ep, g2, g3, fun y u e => let ⟨b, e1, e2⟩ := hr.put (x := x) hv y u e; ⟨b, (g4 y).trans e1, e2⟩⟩ (sameBut_get hs') (Nat.le_of_eq hs'.1.symm) (Nat.le_succ _) rfl)
    (fun K => Yes.n fun c hc => Yes.cell fun u hl => Yes.ok fun s S => by
      obtain ⟨b, h1, h2⟩ := R.cells.find hc
      obtain ⟨v', h3⟩ := S.cellAt hl h2
      refine wpAny_storeName_cell R.fn K.of h1 h3 fun h' hc' hs' => ?_
      obtain ⟨o', g1, g2⟩ := hc'
      exact fin_upd S (.cell (some v)) h2 g1 ⟨some a, g2, hv⟩ (sameBut_get hs') (Nat.le_of_eq hs'.1.symm) (Nat.le_refl _) rfl)
theorem bindName_yes (R : EnvR C θ ρ env) {x : Str} {v : V} {a : Value} (hv : VR θ v a) : Yes (fun H' => TriU C A θ H (bindName env x a) H') (stName ρ H x v) := (stName_yes R hv).mono fun _ h s S => wpAny_bindName (h s S)
end
end Mine
end
section
open PySem PyProof.Rows
namespace Mine
variable [Ops]
section
variable {C : Cx} {G : Env0} {A : Around} {θ : Th} {H H' : Hp} {ρ : Rho} {env : Env} {α β : Type}

/- what a tree gives, and the heap after it -/
noncomputable abbrev VT (C : Cx) (A : Around) (θ : Th) (H : Hp) (t : Sem Value) (v : V) (H' : Hp) : Prop := TriV C A θ H t v H'

/- new objects -/
theorem arr_size {vs : List V} {as : List Value} (h : AR θ vs as) (hz : fits vs.length = true) : as.toArray.size ≤ sizeLine := by
  rw [List.size_toArray, ← h.length]; exact fits_sz hz
theorem newList_sound {vs : List V} {as : List Value} (h : AR θ vs as) (hz : fits vs.length = true) : TriV C A θ H (newList as) (.ref (Ops.len H)) (Ops.app H [.list vs]) := fun s S =>
  wpAny_newObj_type (fin_new S (.list vs) rfl ⟨as.toArray, 0, rfl, h.mono (Ext.app _ _)⟩ (Nat.le_refl _) ⟨rfl, new_ref S.len⟩) (arr_size h hz)
theorem newTuple_sound {vs : List V} {as : List Value} (h : AR θ vs as) (hz : fits vs.length = true) : TriV C A θ H (newTuple as) (.ref (Ops.len H)) (Ops.app H [.tup vs]) := fun s S =>
  wpAny_newObj_type (fin_new S (.tup vs) rfl ⟨as.toArray, 0, rfl, h.mono (Ext.app _ _)⟩ (Nat.le_refl _) ⟨rfl, new_ref S.len⟩) (arr_size h hz)

omit [Ops] in
theorem AR.size {vs : List V} {a : Array Value} (h : AR θ vs a.toList) : a.size = vs.length := by rw [h.length]; exact Array.length_toList.symm
theorem AR.le {vs : List V} {a : Array Value} (h : AR θ vs a.toList) {k : Nat} (q : vs.length ≤ k) : a.size ≤ k := h.size ▸ q

omit [Ops] in
theorem rep_foldA (a : List Value) : ∀ (n : Nat) (z : List Value), (List.replicate n (⟨a⟩ : Array Value)).foldl (fun x y => x ++ y) ⟨z⟩ = ⟨z ++ rep a n⟩
  | 0, z => congrArg _ (List.append_nil z).symm
  | n + 1, z => by
    have : (⟨z⟩ : Array Value) ++ (⟨a⟩ : Array Value) = ⟨z ++ a⟩ := by simp
    rw [List.replicate_succ, List.foldl_cons, this, rep_foldA a n, List.append_assoc]; rfl
omit [Ops] in
theorem AR.rep {vs : List V} {as : List Value} (h : AR θ vs as) : ∀ n, AR θ (Mine.rep vs n) (Mine.rep as n)
  | 0 => trivial
  | n + 1 => h.app (AR.rep h n)
theorem AR.repA {vs : List V} : ∀ {a : Array Value}, AR θ vs a.toList → ∀ n, AR θ (Mine.rep vs n) (List.foldl (fun x1 x2 => x1 ++ x2) #[] (List.replicate (if a.isEmpty = true then 0 else n) a)).toList
  | ⟨[]⟩, h, n => by
    cases vs with
    | nil => rw [rep_nil]; exact trivial
    | cons v vs => exact h.elim
  | ⟨x :: a⟩, h, n => by
    rw [if_neg (by intro e; cases e), rep_foldA (x :: a) n []]
    exact AR.rep h n

omit [Ops] in
theorem mulList {s : Shared} {l : Addr} {items : Array Value} {k : Nat} {x : Int} {u : Tok} {Q : Value → Shared → Prop} {E : Value → Shared → Prop} {prog : Program} {w : World} (hl : IsL s.heap l items k)
    (hlo : -(2 ^ 63 : Int) ≤ x) (hhi : x < 2 ^ 63) (hsz : items.size * x.toNat ≤ sizeLine)
    (h : Q (.ref s.heap.objs.size) { s with heap := s.heap.push { cls := .type "list", data := .seq (List.foldl (fun x1 x2 => x1 ++ x2) #[] (List.replicate (if items.isEmpty = true then 0 else x.toNat) items)) } }) :
    wpAny (model prog w) A (binaryOp .Mult (.ref l) (.int x u)) Q E s :=
  wpAny_binaryOp_repeat_ref (T := "list") (U := "int") (by decide) ⟨_, hl, rfl⟩ (fun s' => typeIs_int s' x u) noFill_list_mul F.fills_int_mul F.slot_int_rmul repeat_list F.slot_int_index.lookup
    (call_meets F.slot_int_rmul (typeIs_int s x u) F.entry_int_rmul (F.args_int_rmul_2 _ _) (int___rmul___int_list x u l items k)
      ⟨hl, rfl, ⟨_, hl, rfl⟩, call_meets F.slot_list_mul ⟨_, hl, rfl⟩ F.entry_list_mul (F.args_list_mul_2 _ _)
        (AutoListH.list___mul___list_int_3 l items k x u (by simp [Builtin.List.listFitsIndex]; omega) (by unfold sizeLine at hsz; omega) (by simp [Builtin.List.listTooLong]; exact hsz))
        ⟨hl, h⟩⟩)
theorem mul_tri {xs : List V} {l : Nat} {p : Addr} {i : Int} {u : Tok} {n : Nat} (hl : Ops.get H l = some (.list xs)) (e1 : θ[l]? = some p) (hn : i.toNat = n) (hlo : -(2 ^ 63 : Int) ≤ i) (hhi : i < 2 ^ 63) (hz : xs.length * n ≤ sizeLine) :
    TriV C A θ H (binaryOp .Mult (.ref p) (.int i u)) (.ref (Ops.len H)) (Ops.app H [.list (rep xs n)]) := fun s S => by
  obtain ⟨a1, n1, g1, r1⟩ := S.listAt hl e1
  subst hn
  exact mulList g1 hlo hhi (r1.size ▸ hz) (fin_new S (.list (rep xs i.toNat)) rfl ⟨_, 0, rfl, (r1.repA _).mono (Ext.app _ _)⟩ (Nat.le_refl _) ⟨rfl, new_ref S.len⟩)
theorem add_tri {xs ys : List V} {l m : Nat} {p p' : Addr} (h1 : Ops.get H l = some (.list xs)) (h2 : Ops.get H m = some (.list ys)) (e1 : θ[l]? = some p) (e2 : θ[m]? = some p') (q : fits (xs.length + ys.length) = true) :
    TriV C A θ H (binaryOp .Add (.ref p) (.ref p')) (.ref (Ops.len H)) (Ops.app H [.list (xs ++ ys)]) := fun s S => by
  obtain ⟨a1, n1, g1, r1⟩ := S.listAt h1 e1
  obtain ⟨a2, n2, g2, r2⟩ := S.listAt h2 e2
  refine P.add_list g1 g2 ?_ (by rw [r1.size, r2.size]; exact fits_sz q)
  refine fin_new S (.list (xs ++ ys)) rfl ⟨a1 ++ a2, 0, rfl, ?_⟩ (Nat.le_refl _) ⟨rfl, new_ref S.len⟩
  rw [Array.toList_append]
  exact (r1.app r2).mono (Ext.app _ _)

noncomputable abbrev BvT (C : Cx) (A : Around) (θ : Th) (H : Hp) (op : Operator) (x y : Value) (v : V) (H' : Hp) : Prop := TriV C A θ H (binaryOp op x y) v H'
omit [Ops] in
theorem Yes.lists {α : Type} {Q : α → Prop} {o o' : Option O} {K : List V → List V → Option α} (h : ∀ xs ys, o = some (.list xs) → o' = some (.list ys) → Yes Q (K xs ys)) : Yes Q (match (generalizing := false) o, o' with | some (.list xs), some (.list ys) => K xs ys | _, _ => .none) := by
  cases o with
  | none => trivial
  | some k => cases k <;> first | exact trivial | (cases o' with
    | none => trivial
    | some k => cases k <;> first | exact trivial | exact h _ _ rfl rfl)
omit [Ops] in
theorem Yes.intc {α : Type} {Q : α → Prop} {i : Int} {K K' : Nat → Option α} (h : ∀ n : Nat, i = (n : Int) → Yes Q (K n)) (h' : ∀ n, i = .negSucc n → Yes Q (K' n)) : Yes Q (match (generalizing := false) i with | .ofNat n => K n | .negSucc n => K' n) := by
  cases i with
  | ofNat n => exact h n rfl
  | negSucc n => exact h' n rfl
theorem binV_ref {op : Operator} {l m : Nat} {p p' : Addr} (e1 : θ[l]? = some p) (e2 : θ[m]? = some p') : YesH (BvT C A θ H op (.ref p) (.ref p')) (binV op (.ref l) (.ref m) H) := by
  cases op <;> first
    | exact trivial
    | exact Yes.lists fun xs ys h1 h2 => Yes.t fun q => Yes.ok (add_tri h1 h2 e1 e2 q)
omit [Ops] in
theorem neg_lo {k : Nat} (h : k ≤ 8000) : -(2 ^ 63 : Int) ≤ Int.negSucc k ∧ Int.negSucc k < 2 ^ 63 := by omega
theorem binV_mul {op : Operator} {l : Nat} {p : Addr} {i : Int} {u : Tok} (e1 : θ[l]? = some p) : YesH (BvT C A θ H op (.ref p) (.int i u)) (binV op (.ref l) (.int i) H) := by
  cases op <;> first
    | exact trivial
    | exact Yes.list fun xs h1 => Yes.intc (fun n e => Yes.tt fun q1 q => Yes.ok (e ▸ mul_tri h1 e1 (Int.toNat_natCast n) (Lit.lo (n := n) ⟨rfl, fits_le q1⟩ |> Int.le_trans (by decide)) (Lit.hi ⟨rfl, fits_le q1⟩) (fits_sz q)))
        (fun k e => Yes.t fun q => Yes.ok (e ▸ mul_tri (n := 0) h1 e1 rfl (neg_lo (fits_le q)).1 (neg_lo (fits_le q)).2 (by rw [Nat.mul_zero]; exact Nat.zero_le _)))
theorem binV_yes {op : Operator} {a b : V} {x y : Value} (hx : VR θ a x) (hy : VR θ b y) : YesH (BvT C A θ H op x y) (binV op a b H) := by
  cases a <;> cases b <;> first
    | (apply hx.ref; intro p e1; apply hy.ref; intro p' e2; exact binV_ref e1 e2)
    | (apply hx.ref; intro p e1; apply hy.int; intro p' e2; exact binV_mul e1)
    | exact (binP_yes hx hy).ret fun v h => h
end
end Mine
end
section
open PySem PyProof.Rows SeqAt
set_option maxRecDepth 100000
namespace Mine
variable [Ops]
section
variable {C : Cx} {G : Env0} {A : Around} {θ : Th} {H H' : Hp} {ρ : Rho} {env : Env} {α β : Type}

theorem fits_hi {n : Nat} (q : fits n = true) : (n : Int) < 2 ^ 63 := Lit.hi (n := n) ⟨rfl, fits_le q⟩
/- an index, as the model asks it -/
structure PlR (i : Int) (n k : Nat) : Prop where
  seq : seqIndex? i n = some k
  lt : k < n
  lo : -(n : Int) ≤ i
  neg : i < 0 → (i + n).toNat = k
  pos : 0 ≤ i → i.toNat = k
  r1 : -(2 ^ 63 : Int) ≤ i
  r2 : i < 2 ^ 63
theorem pl_pos {k n : Nat} (q1 : fits k = true) (lt : k < n) : PlR (Int.ofNat k) n k where
  seq := by
    unfold seqIndex?
    rw [if_neg (Int.not_lt.mpr (Int.natCast_nonneg k) : ¬ Int.ofNat k < 0)]
    show (if (decide (0 ≤ (k : Int)) && decide ((k : Int) < (n : Int))) = true then some k else none) = some k
    rw [decide_eq_true (Int.natCast_nonneg k), decide_eq_true (Int.ofNat_lt.mpr lt)]; rfl
  lt := lt
  lo := Int.le_trans (Int.neg_nonpos_of_nonneg (Int.natCast_nonneg n)) (Int.natCast_nonneg k)
  neg h := absurd h (Int.not_lt.mpr (Int.natCast_nonneg k))
  pos _ := rfl
  r1 := Int.le_trans (by decide) (Int.natCast_nonneg k)
  r2 := Lit.hi (n := k) ⟨rfl, fits_le q1⟩
theorem pl_neg {k n : Nat} (q1 : fits k = true) (lt : k < n) : PlR (Int.negSucc k) n (n - 1 - k) := by
  have e : Int.negSucc k + (n : Int) = ((n - 1 - k : Nat) : Int) := by omega
  exact {
    seq := by
      unfold seqIndex?
      rw [if_pos (Int.negSucc_lt_zero k), e]
      show (if (decide (0 ≤ ((n - 1 - k : Nat) : Int)) && decide (((n - 1 - k : Nat) : Int) < (n : Int))) = true then some (n - 1 - k) else none) = _
      rw [decide_eq_true (Int.natCast_nonneg _), decide_eq_true (Int.ofNat_lt.mpr (by omega))]; rfl
    lt := by omega
    lo := by omega
    neg := fun _ => by rw [e]; rfl
    pos := fun h => absurd (Int.negSucc_lt_zero k) (Int.not_lt.mpr h)
    r1 := (neg_lo (fits_le q1)).1
    r2 := (neg_lo (fits_le q1)).2 }
theorem place_yes : ∀ (i : Int) (n : Nat), Yes (PlR i n) (place i n)
  | .ofNat k, n => Yes.tt fun q1 q2 => Yes.ok (pl_pos q1 (W.X.blt_true q2))
  | .negSucc k, n => Yes.tt fun q1 q2 => Yes.ok (pl_neg q1 (W.X.blt_true q2))

noncomputable abbrev ItT (C : Cx) (A : Around) (θ : Th) (H : Hp) (x y : Value) (v : V) : Prop := TriV C A θ H (getItem x y) v H
section
variable {i : Int} {u t : Tok} {l : Nat} {p : Addr}
theorem item_str {cs : List Nat} {k c : Nat} (pr : PlR i cs.length k) (hc : cs[k]? = some c) : ItT C A θ H (.str ⟨⟨cs⟩⟩ t) (.int i u) (.str [c]) := fun s S =>
  P.getItem_str (c := c) (by rw [decide_eq_false (Int.not_lt.mpr pr.r1), decide_eq_false (Int.not_le.mpr pr.r2)]; rfl)
    (by rw [str_len, pr.seq]; show (⟨cs⟩ : Array Nat)[k]? = some c; simpa using hc) (fin_str S [c])
theorem item_list {vs : List V} {k : Nat} {v : V} (e1 : θ[l]? = some p) (hl : Ops.get H l = some (.list vs)) (pr : PlR i vs.length k) (h : vs[k]? = some v) : ItT C A θ H (.ref p) (.int i u) v := fun s S => by
  obtain ⟨a1, n1, g1, r1⟩ := S.listAt hl e1
  obtain ⟨b, e2, e3⟩ := r1.get h
  have e2' : a1[k]? = some b := Array.getElem?_toList.symm.trans e2
  rcases Int.lt_or_le i 0 with hn | hn
  · exact wpAny_getItem_list_neg g1.isList hn (r1.size ▸ pr.lo) pr.r1 (by rw [r1.size, pr.neg hn]; exact e2') (fin_v S e3)
  · exact wpAny_getItem_list g1.isList hn pr.r2 (by rw [pr.pos hn]; exact e2') (fin_v S e3)
theorem item_tup {vs : List V} {k : Nat} {v : V} (e1 : θ[l]? = some p) (hl : Ops.get H l = some (.tup vs)) (pr : PlR i vs.length k) (h : vs[k]? = some v) : ItT C A θ H (.ref p) (.int i u) v := fun s S => by
  obtain ⟨a1, n1, g1, r1⟩ := S.tupAt hl e1
  obtain ⟨b, e2, e3⟩ := r1.get h
  exact P.getItem_tuple g1 pr.r1 pr.r2 (r1.size ▸ pr.seq) (Array.getElem?_toList.symm.trans e2) (fin_v S e3)
end
omit [Ops] in
theorem Yes.seqs {γ : Type} {Q : γ → Prop} {o : Option O} {K K' : List V → Option γ} {K2 : List (Int × V) → Option γ} (h : ∀ es, o = some (.list es) → Yes Q (K es)) (h' : ∀ es, o = some (.tup es) → Yes Q (K' es)) (h2 : ∀ es, o = some (.dict es) → Yes Q (K2 es)) :
    Yes Q (match (generalizing := false) o with | some (.list es) => K es | some (.tup es) => K' es | some (.dict es) => K2 es | _ => .none) := by
  cases o with
  | none => trivial
  | some k => cases k <;> first | exact trivial | exact h _ rfl | exact h' _ rfl | exact h2 _ rfl
theorem St.dictAt {s : Shared} (S : St C θ H s) {l : Nat} {es : List (Int × V)} {x : Addr} (h : Ops.get H l = some (.dict es)) (e : θ[l]? = some x) : ∃ f, s.heap.IntMap x f ∧ s.heap.DictLe x es.length ∧ ∀ k v, findI k es = some v → ∃ a, f k = some a ∧ VR θ v a := by
  obtain ⟨o, g1, g2, es', ep, g3, g4, g5, g6⟩ := S.at' h e rfl
  refine ⟨_, ⟨o, es', ep, g1, g2, g3, g5, fun _ => rfl⟩, fun o2 es2 ep2 e1 e2 => ?_, g6⟩
  rw [g1] at e1; injection e1 with e1; subst e1
  rw [g3] at e2; injection e2 with e2; subst e2
  exact g4
theorem item_dict {es : List (Int × V)} {v : V} {p : Addr} {l : Nat} {i : Int} {u : Tok} (e1 : θ[l]? = some p) (hl : Ops.get H l = some (.dict es)) (h : findI i es = some v) : ItT C A θ H (.ref p) (.int i u) v := fun s S => by
  obtain ⟨f, h1, h2, h3⟩ := S.dictAt hl e1
  obtain ⟨a, e2, r⟩ := h3 i v h
  exact wpAny_getItem_intMap h1 e2 (fin_tok S (Nat.le_succ _) ⟨rfl, r⟩)
theorem itemV_yes {a i : V} {x y : Value} (hx : VR θ a x) (hy : VR θ i y) : Yes (ItT C A θ H x y) (itemV a i H) := by
  cases i <;> first | exact trivial | (apply hy.int; intro u hu; cases a <;> first
    | exact trivial
    | (apply hx.str; intro t ht; exact Yes.n' (place_yes _ _) fun k P => Yes.n fun c hc => Yes.ok (item_str P hc))
    | (apply hx.ref; intro p e1; exact Yes.seqs (fun vs hl => Yes.n' (place_yes _ _) fun k P => Yes.of fun v h => item_list e1 hl P h)
        (fun vs hl => Yes.n' (place_yes _ _) fun k P => Yes.of fun v h => item_tup e1 hl P h) fun es hl => Yes.of fun v h => item_dict e1 hl h))

theorem fin_mapSeq {s : Shared} (S : St C θ H s) {l : Nat} {x : Addr} {a : Array Value} {n : Nat} (g : IsL s.heap x a n) (hx : θ[l]? = some x) {vs : List V} {f : Array Value → Array Value} (h : AR θ vs (f a).toList) {p : Th → Hp → Prop} (hp : p θ (Ops.set H l (.list vs))) :
    Nx C θ s { s with heap := s.heap.update x (Obj.mapSeq f) } p :=
  fin_upd S (.list vs) hx (g.update _) ⟨_, _, rfl, h⟩ (fun b o n e => (Heap.get?_update_other _ _ (Ne.symm n)).trans e) (Nat.le_of_eq (Heap.size_after_update ..).symm) (Nat.le_refl _) hp
theorem set_tri {l k : Nat} {p : Addr} {i : Int} {u : Tok} {vs : List V} {v : V} {z : Value} (e1 : θ[l]? = some p) (hz : VR θ v z) (hl : Ops.get H l = some (.list vs)) (q : Lit i k) (lt : k < vs.length) : TriU C A θ H (setItem (.ref p) (.int i u) z) (Ops.set H l (.list (vs.set k v))) := fun s S => by
  obtain ⟨a1, n1, g1, r1⟩ := S.listAt hl e1
  refine W.ki_setAt g1 q.lo q.hi (by rw [q.1, r1.size]; exact Int.ofNat_lt.mpr lt) ?_
  rw [q.toNat]
  exact fin_mapSeq S g1 e1 (by rw [Array.toList_setIfInBounds]; exact r1.set k hz) rfl
theorem setV_yes {a i v : V} {x y z : Value} (hx : VR θ a x) (hy : VR θ i y) (hz : VR θ v z) : Yes (fun H' => TriU C A θ H (setItem x y z) H') (setV a i v H) := by
  cases a <;> cases i <;> first
    | exact trivial
    | (apply hx.ref; intro p e1; apply hy.int; intro u hu; exact Yes.list fun vs hl => Yes.n' (litNat_yes _) fun k q => Yes.t fun lt => Yes.ok (set_tri e1 hz hl q (W.X.blt_true lt)))

theorem truth_list {vs : List V} {l : Nat} {p : Addr} (e1 : θ[l]? = some p) (hl : Ops.get H l = some (.list vs)) (q : fits vs.length = true) : TriB C A θ H (truthy (.ref p)) (match (generalizing := false) vs with | [] => false | _ :: _ => true) H := fun s S => by
  obtain ⟨a1, n1, g1, r1⟩ := S.listAt hl e1
  refine wpAny_truthy_list g1.isList (by rw [r1.size]; exact fits_hi q) (fin_tok S (Nat.le_add_right _ 2) ⟨rfl, ?_⟩)
  obtain ⟨a1⟩ := a1
  cases vs <;> cases a1 <;> first | rfl | exact r1.elim
theorem truthV_yes {v : V} {a : Value} (hv : VR θ v a) : Yes (fun b => TriB C A θ H (truthy a) b H) (truthV H v) := by
  cases v with
  | none => obtain rfl := hv; exact fun s S => wpAny_pure (fin_same S ⟨rfl, rfl⟩)
  | bool b => obtain rfl := hv; exact fun s S => wpAny_truthy_bool (fin_same S ⟨rfl, rfl⟩)
  | int i =>
    apply hv.int; intro t ht
    exact fun s S => truthy_int (fin_same S ⟨rfl, by rw [ieq_eq]; rfl⟩)
  | ref l => apply hv.ref; intro p e1; exact Yes.list fun vs hl => Yes.t fun q => Yes.ok (truth_list e1 hl q)
  | _ => trivial
end
end Mine
end
section
open PySem PyProof.Rows SeqAt
set_option maxRecDepth 100000
namespace Mine
variable [Ops]
section
variable {C : Cx} {G : Env0} {A : Around} {θ : Th} {H H' : Hp} {ρ : Rho} {env : Env} {α β : Type}

omit [Ops] in
theorem feq_cmp {a b : UInt64} : feq a b = (Float64.cmp a b == some Ordering.eq) := by
  unfold feq
  cases h : Float64.cmp a b with
  | none => rfl
  | some o => cases o <;> rfl
omit [Ops] in
theorem fltEq_yes {a b : UInt64} : Yes (fun r => r = true ∧ (Float64.cmp a b == some Ordering.eq) = true) (fltEq a b) := by
  unfold fltEq
  cases Float64.cmp a b with
  | none => trivial
  | some o => cases o <;> first | exact trivial | exact ⟨rfl, rfl⟩

omit [Ops] in
theorem sharing_off {M : Model} {E : Value → Shared → Prop} {s : Shared} {t : Tok} {Q : Bool → Shared → Prop} (hn : s.heap.Ns cStatics fun _ => none) (h : Q false s) : wpAny M A (sharingNotTold t) Q E s := by
  unfold sharingNotTold
  exact wpAny_bind (wpAny_nsGet hn (wpAny_pure h))
omit [Ops] in
theorem tok_b {t : Tok} (ht : t ≠ 0) : (t == 0) = false := beq_eq_false_iff_ne.mpr ht

theorem isSame_floats {M : Model} {E : Value → Shared → Prop} {s : Shared} {p q : UInt64} {t u : Tok} {Q : Bool → Shared → Prop} (hn : s.heap.Ns cStatics fun _ => none) (ht : t ≠ 0) (hu : u ≠ 0) (h : ∀ r, Q r s) :
    wpAny M A (isSame (.float p t) (.float q u)) Q E s := by
  show wpAny M A (isSame.created (p == q && !Float64.isNaN p) t u) Q E s
  unfold isSame.created
  rw [tok_b ht, tok_b hu]
  simp only [Bool.or_self, Bool.false_eq_true, if_false]
  refine wpAny_ite ?_
  split
  · exact wpAny_pure (h _)
  · refine wpAny_ite ?_
    split
    · exact wpAny_pure (h _)
    · refine wpAny_bind (sharing_off hn ?_)
      simp only [Bool.false_eq_true, if_false]
      refine wpAny_bind (sharing_off hn ?_)
      simp only [Bool.false_eq_true, if_false]
      exact wpAny_bind (wpAny_rule (wpAny_bind (wpAny_askSetting (wpAny_pure (h _)))))

theorem eqAt_float {s : Shared} {p q : UInt64} {t u : Tok} (hn : s.heap.Ns cStatics fun _ => none) (ht : t ≠ 0) (hu : u ≠ 0) (h : (Float64.cmp p q == some Ordering.eq) = true) : EqAt A s (.float p t) (.float q u) true := fun prog w E Q hq => by
  unfold eqBool
  refine wpAny_holding ?_
  refine wpAny_ite ?_
  split
  · exact wpAny_bind (wpAny_rule (wpAny_pure hq))
  · refine wpAny_bind (isSame_floats hn ht hu fun r => ?_)
    cases r with
    | true => exact wpAny_pure hq
    | false =>
      simp only [Bool.false_eq_true, if_false]
      refine wpAny_bind (m := richCompare .Eq (.float p t) (.float q u)) (AutoFloatOps.eq_0 (prog := prog) (w := w) ?_)
      rw [h]
      exact wpAny_truthy_bool hq

/- what the pairs say, as a function of the place -/
noncomputable def eqAtJ (f : V → V → Option Bool) (xs ys : List V) (j : Nat) : Bool := match xs[j]?, ys[j]? with
  | some x, some y => (f x y).getD false
  | _, _ => false
/- the pairs have answers, and r is their all -/
structure EqsR (f : V → V → Option Bool) (xs ys : List V) (r : Bool) : Prop where
  each : ∀ (j : Nat) (x y : V), xs[j]? = some x → ys[j]? = some y → f x y = some (eqAtJ f xs ys j)
  all : (List.range xs.length).all (eqAtJ f xs ys) = r
omit [Ops] in
theorem Yes.bo {γ : Type} {Q : γ → Prop} {o : Option Bool} {P : Bool → Prop} {K : Bool → Option γ} (p : Yes P o) (h : ∀ b, P b → Yes Q (K b)) : Yes Q (match (generalizing := false) o with | some b => K b | .none => .none) := by
  cases o with
  | none => trivial
  | some b => exact h b p
omit [Ops] in
theorem Yes.self {γ : Type} {o : Option γ} : Yes (fun a => o = some a) o := Yes.of fun _ e => e
omit [Ops] in
theorem EqsR.cons {f : V → V → Option Bool} {a b : V} {xs ys : List V} {r q : Bool} (h1 : f a b = some r) (g : EqsR f xs ys q) : EqsR f (a :: xs) (b :: ys) (r && q) where
  each
    | 0, x, y, e1, e2 => by
      obtain rfl := Option.some.inj e1
      obtain rfl := Option.some.inj e2
      show f a b = some ((f a b).getD false)
      rw [h1]; rfl
    | j + 1, x, y, e1, e2 => g.each j x y e1 e2
  all := by
    rw [List.length_cons, List.range_succ_eq_map, List.all_cons, List.all_map, ← g.all, show eqAtJ f (a :: xs) (b :: ys) 0 = r from (by show (f a b).getD false = r; rw [h1]; rfl)]
    rfl
theorem eqs_yes {f : V → V → Option Bool} : ∀ {xs ys : List V}, xs.length = ys.length → Yes (EqsR f xs ys) (eqs f xs ys)
  | [], [], _ => Yes.ok ⟨fun j x y e => (nomatch e), rfl⟩
  | a :: xs, b :: ys, hl => Yes.bo Yes.self fun r h1 => Yes.bo (eqs_yes (Nat.succ.inj hl)) fun q g => Yes.ok (g.cons h1)
  | [], _ :: _, hl => (nomatch hl)
  | _ :: _, [], hl => (nomatch hl)

omit [Ops] in
theorem AR.at {vs : List V} {a : Array Value} (h : AR θ vs a.toList) (j : Nat) (hj : j < a.size) : ∃ v, vs[j]? = some v ∧ VR θ v a[j] := by
  obtain ⟨b, e1, e2⟩ := h.get (List.getElem?_eq_getElem (h.size ▸ hj : j < vs.length))
  refine ⟨_, List.getElem?_eq_getElem (h.size ▸ hj), ?_⟩
  rw [Array.getElem?_toList, Array.getElem?_eq_getElem hj] at e1
  exact Option.some.inj e1 ▸ e2

/- what a level's pairs are, below it -/
noncomputable abbrev Below (θ : Th) (H : Hp) (s : Shared) (n : Nat) : Prop := ∀ (A : Around) (v w : V) (a b : Value), VR θ v a → VR θ w b → A.units + n < cLine → Yes (EqAt A s a b) (eqH H n v w)
theorem pairs_at {s : Shared} {n : Nat} (ih : Below θ H s n) {xs ys : List V} {r : Bool} (g : EqsR (eqH H n) xs ys r) {a1 a2 : Array Value} (r1 : AR θ xs a1.toList) (r2 : AR θ ys a2.toList) (hu : A.units + (n + 1) < cLine) :
    ∀ j (h1 : j < a1.size) (h2 : j < a2.size), EqAt A.in1 s a1[j] a2[j] (eqAtJ (eqH H n) xs ys j) := fun j j1 j2 =>
  let ⟨v1, z1, z2⟩ := r1.at j j1
  let ⟨v2, z3, z4⟩ := r2.at j j2
  (ih A.in1 v1 v2 _ _ z2 z4 (by show A.units + 1 + n < cLine; rw [Nat.add_assoc, Nat.add_comm 1 n]; exact hu)).get (g.each j v1 v2 z1 z3)
/- the two roads of a comparison -/
structure RcR (A : Around) (s : Shared) (p p' : Addr) (r : Bool) : Prop where
  ne : p ≠ p'
  eq : RcAt A s (.ref p) (.ref p') r
  neq : RcNeAt A s (.ref p) (.ref p') (!r)
omit [Ops] in
theorem Yes.seqs2 {γ : Type} {Q : γ → Prop} {o o' : Option O} {K K' : List V → List V → Option γ} (h : ∀ xs ys, o = some (.list xs) → o' = some (.list ys) → Yes Q (K xs ys)) (h' : ∀ xs ys, o = some (.tup xs) → o' = some (.tup ys) → Yes Q (K' xs ys)) :
    Yes Q (match (generalizing := false) o, o' with | some (.list xs), some (.list ys) => K xs ys | some (.tup xs), some (.tup ys) => K' xs ys | _, _ => .none) := by
  cases o with
  | none => trivial
  | some k => cases k <;> first | exact trivial | (cases o' with
    | none => trivial
    | some k => cases k <;> first | exact trivial | exact h _ _ rfl rfl | exact h' _ _ rfl rfl)
section
variable {s : Shared} {n : Nat} {xs ys : List V} {p p' : Addr} {r : Bool}
theorem rc_lists (ne : p ≠ p') (ih : Below θ H s n) (hu : A.units + (n + 1) < cLine) (hl : xs.length = ys.length) (g : EqsR (eqH H n) xs ys r) {a1 a2 : Array Value} {n1 n2 : Nat} (g1 : IsL s.heap p a1 n1) (g2 : IsL s.heap p' a2 n2) (r1 : AR θ xs a1.toList) (r2 : AR θ ys a2.toList) : RcR A s p p' r := by
  have hs : a1.size = a2.size := by rw [r1.size, r2.size, hl]
  have t1 := RcAt.lists (A := A) g1.isList g2.isList hs (by omega) (pairs_at ih g r1 r2 hu)
  have t2 := RcNeAt.lists (A := A) g1.isList g2.isList hs (by omega) (pairs_at ih g r1 r2 hu)
  rw [r1.size, g.all] at t1 t2
  exact ⟨ne, t1, t2⟩
omit [Ops] in
theorem rc_lens (ne : p ≠ p') (hu : A.units + (n + 1) < cLine) (hl : xs.length ≠ ys.length) {a1 a2 : Array Value} {n1 n2 : Nat} (g1 : IsL s.heap p a1 n1) (g2 : IsL s.heap p' a2 n2) (r1 : AR θ xs a1.toList) (r2 : AR θ ys a2.toList) : RcR A s p p' false := by
  have hs : a1.size ≠ a2.size := by rw [r1.size, r2.size]; exact hl
  exact ⟨ne, RcAt.lists_lengths g1.isList g2.isList (by simpa using hs) (by omega), RcNeAt.lists_lengths g1.isList g2.isList (by simpa using hs) (by omega)⟩
theorem rc_tups (ne : p ≠ p') (ih : Below θ H s n) (hu : A.units + (n + 1) < cLine) (hl : xs.length = ys.length) (g : EqsR (eqH H n) xs ys r) {a1 a2 : Array Value} {n1 n2 : Nat} (g1 : IsT s.heap p a1 n1) (g2 : IsT s.heap p' a2 n2) (r1 : AR θ xs a1.toList) (r2 : AR θ ys a2.toList) : RcR A s p p' r := by
  have t1 := RcAt.tuples (A := A) ⟨_, g1, rfl, n1, rfl⟩ ⟨_, g2, rfl, n2, rfl⟩ (by omega) (pairs_at ih g r1 r2 hu)
  have t2 := RcNeAt.tuples (A := A) ⟨_, g1, rfl, n1, rfl⟩ ⟨_, g2, rfl, n2, rfl⟩ (by omega) (pairs_at ih g r1 r2 hu)
  rw [r1.size, r2.size, ← hl, Nat.min_self, g.all, beq_self_eq_true, Bool.and_true] at t1 t2
  exact ⟨ne, t1, t2⟩
theorem rc_yes (S : St C θ H s) (ih : Below θ H s n) {l m : Nat} (e1 : θ[l]? = some p) (e2 : θ[m]? = some p') (hu : A.units + (n + 1) < cLine) : Yes (RcR A s p p') (eqH H (n + 1) (.ref l) (.ref m)) := by
  show Yes _ (match Nat.beq l m with | true => .none | false => _)
  refine Yes.f fun q => ?_
  have hne : p ≠ p' := fun z => Nat.ne_of_beq_eq_false q (S.inj e1 (z ▸ e2))
  exact Yes.seqs2
    (fun xs ys h1 h2 =>
      let ⟨a1, n1, g1, r1⟩ := S.listAt h1 e1
      let ⟨a2, n2, g2, r2⟩ := S.listAt h2 e2
      Yes.b (fun ql => (eqs_yes (Nat.eq_of_beq_eq_true ql)).mono fun r g => rc_lists hne ih hu (Nat.eq_of_beq_eq_true ql) g g1 g2 r1 r2) fun ql => Yes.ok (rc_lens hne hu (Nat.ne_of_beq_eq_false ql) g1 g2 r1 r2))
    (fun xs ys h1 h2 =>
      let ⟨a1, n1, g1, r1⟩ := S.tupAt h1 e1
      let ⟨a2, n2, g2, r2⟩ := S.tupAt h2 e2
      Yes.t fun ql => (eqs_yes (Nat.eq_of_beq_eq_true ql)).mono fun r g => rc_tups hne ih hu (Nat.eq_of_beq_eq_true ql) g g1 g2 r1 r2)
end
theorem eqAt_flat {s : Shared} (hn : s.heap.Ns cStatics fun _ => none) {n : Nat} {v w : V} {a b : Value} (hv : VR θ v a) (hw : VR θ w b) (hr : ∀ l m, v = .ref l → w = .ref m → Yes (EqAt A s a b) (eqH H n v w)) : Yes (EqAt A s a b) (eqH H n v w) := by
  cases v <;> cases w <;> first
    | exact hr _ _ rfl rfl
    | (cases n <;> exact trivial)
    | (apply hv.int; intro t ht; apply hw.int; intro u hu; cases n <;> exact Yes.ok (ieq_eq _ _ ▸ (MeetsSeq.EqGives.int _ _ _ _).at A s))
    | (apply hv.str; intro t ht; apply hw.str; intro u hu; cases n <;> (show EqAt A s _ _ (nbeq _ _); rw [nbeq_eq]; exact (SeqRoads2.EqGives.str _ _ _ _).at A s))
    | (apply hv.flt; intro t ht; apply hw.flt; intro u hu; cases n <;> exact fltEq_yes.mono fun r q => q.1 ▸ eqAt_float hn ht hu q.2)
theorem eqAt_yes {s : Shared} (S : St C θ H s) (hn : s.heap.Ns cStatics fun _ => none) : ∀ n, Below θ H s n
  | 0, A, v, w, a, b, hv, hw, hu => eqAt_flat hn hv hw fun l m e1 e2 => by subst e1 e2; exact trivial
  | n + 1, A, v, w, a, b, hv, hw, hu => eqAt_flat hn hv hw fun l m q1 q2 => by
    subst q1 q2
    apply hv.ref; intro p e1; apply hw.ref; intro p' e2
    exact (rc_yes S (eqAt_yes S hn n) e1 e2 hu).mono fun r x => EqAt.of_refs x.ne x.eq
end
end Mine
end
section
open PySem PyProof.Rows SeqAt
set_option maxRecDepth 100000
namespace Mine
variable [Ops]
section
variable {C : Cx} {G : Env0} {A : Around} {θ : Th} {H H' : Hp} {ρ : Rho} {env : Env} {α β : Type}

noncomputable abbrev StrsR (as : List Value) (ls : List (List Nat)) : Prop := StrsAre as (ls.map fun l => ⟨⟨l⟩⟩)
omit [Ops] in
theorem Yes.ls {γ : Type} {Q : γ → Prop} {o : Option (List (List Nat))} {P : List (List Nat) → Prop} {K : List (List Nat) → Option γ} (p : Yes P o) (h : ∀ b, P b → Yes Q (K b)) : Yes Q (match (generalizing := false) o with | some b => K b | .none => .none) := by
  cases o with
  | none => trivial
  | some b => exact h b p
theorem strsOf_yes : ∀ {vs : List V} {as : List Value}, AR θ vs as → Yes (StrsR as) (strsOf vs)
  | [], [], _ => .nil
  | .str a :: vs, b :: as, r => Yes.ls (strsOf_yes r.2) fun l hl => Yes.ok (r.1.str (P := fun b => StrsR (b :: as) (a :: l)) fun t _ => .cons _ _ hl)
  | .none :: _, _ :: _, _ | .bool _ :: _, _ :: _, _ | .int _ :: _, _ :: _, _ | .lit _ :: _, _ :: _, _ | .flt _ :: _, _ :: _, _ | .ref _ :: _, _ :: _, _ => trivial
theorem str_beq (x y : List Nat) : ((⟨⟨y⟩⟩ : Str) == (⟨⟨x⟩⟩ : Str)) = nbeq y x := by
  rw [nbeq_eq, Bool.eq_iff_iff]
  simp
theorem among_any (x : List Nat) : ∀ ls : List (List Nat), (ls.map fun l => (⟨⟨l⟩⟩ : Str)).any (· == (⟨⟨x⟩⟩ : Str)) = among x ls
  | [] => rfl
  | y :: r => by
    rw [List.map_cons, List.any_cons, among_any x r, str_beq]
    show _ = (match nbeq y x with | true => true | false => among x r)
    cases nbeq y x <;> rfl
omit [Ops] in
theorem hasSign_mem (c : Nat) : ∀ y : List Nat, hasSign c y = decide (c ∈ (⟨⟨y⟩⟩ : Str).cps.toList)
  | [] => rfl
  | d :: r => by
    have ih := hasSign_mem c r
    show (match Nat.beq c d with | true => true | false => hasSign c r) = _
    cases h : Nat.beq c d with
    | true =>
      obtain rfl := Nat.eq_of_beq_eq_true h
      exact (decide_eq_true List.mem_cons_self).symm
    | false =>
      have := Nat.ne_of_beq_eq_false h
      simp only [ih]
      simp [this]

noncomputable abbrev CmT (C : Cx) (A : Around) (θ : Th) (H : Hp) (op : CmpOp) (x y : Value) (r : Bool) : Prop := Tri C A θ H (compareOp op x y) fun v θ' H'' => H'' = H ∧ v = .bool r
theorem fin_b {s : Shared} (S : St C θ H s) {a b : Bool} (e : b = a) : Nx C θ s s fun θ' H' => H' = H ∧ Value.bool a = .bool b := fin_same S ⟨rfl, congrArg _ e.symm⟩
structure EqNe (C : Cx) (A : Around) (θ : Th) (H : Hp) (x y : Value) (r : Bool) : Prop where
  eq : CmT C A θ H .Eq x y r
  ne : CmT C A θ H .NotEq x y (!r)
theorem eqS_yes {a b : List Nat} {t u : Tok} : Yes (EqNe C A θ H (.str ⟨⟨a⟩⟩ t) (.str ⟨⟨b⟩⟩ u)) (eqV H (.str a) (.str b)) := by
  show EqNe C A θ H _ _ (nbeq a b)
  rw [nbeq_eq]
  exact ⟨fun s S => P.eq_str (fin_same S ⟨rfl, rfl⟩), fun s S => P.ne_str (fin_same S ⟨rfl, rfl⟩)⟩
section
variable {a b : V} {x y : Value}
theorem eqV_yes (T : Top C G) (hu : A.units + 8 < cLine) (hx : VR θ a x) (hy : VR θ b y) : Yes (EqNe C A θ H x y) (eqV H a b) := by
  cases a <;> cases b <;> first
    | exact trivial
    | (apply hx.flt; intro t _; apply hy.flt; intro u _; exact Yes.ok ⟨fun s S => AutoFloatOps.eq_0 (fin_b S feq_cmp), fun s S => AutoFloatOps.ne_0 (fin_b S (congrArg (!·) feq_cmp))⟩)
    | (apply hx.int; intro t _; apply hy.int; intro u _; exact Yes.ok ⟨fun s S => eq_int (fin_b S (ieq_eq _ _)), fun s S => ne_int (fin_b S (congrArg (!·) (ieq_eq _ _)))⟩)
    | (apply hx.str; intro t _; apply hy.str; intro u _; exact eqS_yes)
    | (apply hx.ref; intro p e1; apply hy.ref; intro p' e2
       have key := fun s (S : St C θ H s) => rc_yes (A := A) (n := 3) S (eqAt_yes S (Top.ns S T.stat T.low.2.2) 3) e1 e2 (by omega)
       exact Yes.of fun r h => ⟨fun s S => ((key s S).get h).eq _ _ _ _ (fin_same S ⟨rfl, rfl⟩), fun s S => ((key s S).get h).neq _ _ _ _ (fin_same S ⟨rfl, rfl⟩)⟩)
theorem in_yes {z : List Nat} {t : Tok} {l : Nat} {p : Addr} (e1 : θ[l]? = some p) : Yes (CmT C A θ H .In (.str ⟨⟨z⟩⟩ t) (.ref p)) (cmpV .In (.str z) (.ref l) H) :=
  Yes.list fun vs hl => Yes.ls Yes.self fun ls h => Yes.ok fun s S =>
    let ⟨a1, n1, g1, r1⟩ := S.listAt hl e1
    in_list_strs (vs := a1.toList) g1.isList ((strsOf_yes r1).get h) (fin_b S (among_any _ _).symm)
theorem notin_yes {z : List Nat} {t : Tok} {l : Nat} {p : Addr} (e1 : θ[l]? = some p) : Yes (CmT C A θ H .NotIn (.str ⟨⟨z⟩⟩ t) (.ref p)) (cmpV .NotIn (.str z) (.ref l) H) :=
  Yes.list fun vs hl => Yes.ls Yes.self fun ls h => Yes.ok fun s S =>
    let ⟨a1, n1, g1, r1⟩ := S.listAt hl e1
    notin_list_strs (vs := a1.toList) g1.isList ((strsOf_yes r1).get h) (fin_b S (congrArg not (among_any _ _).symm))
omit [Ops] in
theorem Yes.ii {γ : Type} {Q : γ → Prop} {a b : V} {x y : Value} {K : Int → Int → Option γ} (hx : VR θ a x) (hy : VR θ b y) (h : ∀ i j t u, x = .int i t → y = .int j u → Yes Q (K i j)) : Yes Q (match (generalizing := false) a, b with | .int i, .int j => K i j | _, _ => .none) := by
  cases a <;> first | exact trivial | (cases b <;> first | exact trivial | exact let ⟨t, _, e1⟩ := hx; let ⟨u, _, e2⟩ := hy; h _ _ t u e1 e2)
theorem cmpV_yes (T : Top C G) (hu : A.units + 8 < cLine) (hx : VR θ a x) (hy : VR θ b y) : ∀ op, Yes (CmT C A θ H op x y) (cmpV op a b H)
  | .Eq => (eqV_yes T hu hx hy).mono fun r e => e.eq
  | .NotEq => Yes.bo (eqV_yes T hu hx hy) fun r e => Yes.ok e.ne
  | .Lt => Yes.ii hx hy fun i j t u e1 e2 => Yes.ok fun s S => e1 ▸ e2 ▸ lt_int (fin_b S (ilt_eq _ _))
  | .LtE => Yes.ii hx hy fun i j t u e1 e2 => Yes.ok fun s S => e1 ▸ e2 ▸ le_int (fin_b S (ile_eq _ _))
  | .Gt => Yes.ii hx hy fun i j t u e1 e2 => Yes.ok fun s S => e1 ▸ e2 ▸ gt_int (fin_b S (ilt_eq _ _))
  | .GtE => Yes.ii hx hy fun i j t u e1 e2 => Yes.ok fun s S => e1 ▸ e2 ▸ ge_int (fin_b S (ile_eq _ _))
  | .In => by
    cases a <;> cases b <;> first | exact trivial | (apply hx.str; intro t _; apply hy.ref; intro p e1; exact in_yes e1)
  | .NotIn => by
    cases a <;> cases b <;> first
      | exact trivial
      | (apply hx.str; intro t _; apply hy.ref; intro p e1; exact notin_yes e1)
      | (rename_i z w
         cases z with
         | nil => exact trivial
         | cons c z => cases z with
           | nil => apply hx.str; intro t _; apply hy.str; intro u _; exact Yes.ok fun s S => P.notIn_str (fin_b S (by rw [StrLaws.found_one, hasSign_mem]))
           | cons _ _ => exact trivial)
  | .Is | .IsNot => trivial
end
end
end Mine
end
section
open PySem PyProof.Rows SeqAt
set_option maxRecDepth 100000
namespace Mine
variable [Ops]

/- a run never shrinks the heap -/
omit [Ops] in
theorem runs_size {M : Model} {Γ : Ctx} {p : Pos} {t : Sem Fin} {fs : List Frame} {s s' : Shared} {e : End} (h : Runs M Γ p t fs s e s') : s.heap.objs.size ≤ s'.heap.objs.size := by
  induction h <;> (try simp only [Shared.setGen, Heap.size_push, Heap.size_after_update] at *) <;> omega
theorem wakes_size {M : Model} {Γ : Ctx} {p : Pos} {g : Nat} {r : Resume} {s s' : Shared} {res : GenResult} (h : Wakes M Γ p g r s res s') : s.heap.objs.size ≤ s'.heap.objs.size := by
  unfold Wakes at h
  split at h
  · exact h.elim
  · split at h
    · obtain ⟨e₁, s₁, hr, _, _, rfl⟩ := h; exact (runs_size hr : (s.setGen g .running).heap.objs.size ≤ s₁.heap.objs.size)
    · rw [h.2]; exact Nat.le_refl _
    · rw [h.2]; exact Nat.le_refl _
  · obtain ⟨e₁, s₁, hr, _, _, rfl⟩ := h; exact (runs_size hr : (s.setGen g .running).heap.objs.size ≤ s₁.heap.objs.size)
  · rw [h.2]; exact Nat.le_refl _
  · rw [h.2]; exact Nat.le_refl _
theorem wp_size {α : Type} (M : Model) (Γ : Ctx) (n : Nat) (t : Sem α) : ∀ (Q : α → Pos → Shared → Prop) (E : Value → Pos → Shared → Prop) (p : Pos) (s : Shared), n ≤ s.heap.objs.size → Sem.wp M Γ t Q E p s →
    Sem.wp M Γ t (fun a p' s' => n ≤ s'.heap.objs.size ∧ Q a p' s') (fun e p' s' => n ≤ s'.heap.objs.size ∧ E e p' s') p s := by
  induction t with
  | pure a => intro Q E p s hn h; exact ⟨hn, h⟩
  | raise e => intro Q E p s hn h; exact ⟨hn, h⟩
  | unsupported _ => intro Q E p s _ h; exact h
  | finish _ => intro Q E p s _ h; exact h
  | rule _ k ih => intro Q E p s hn h; exact ih () Q E p s hn h
  | «at» p' k ih => intro Q E p s hn h; exact ih () Q E p' s hn h
  | load a _ k ih => intro Q E p s hn h; obtain ⟨o, ho, h⟩ := h; exact ⟨o, ho, ih o Q E p s hn h⟩
  | update a _ f k ih => intro Q E p s hn h; exact ⟨h.1, ih () Q E p _ (by show n ≤ (s.heap.update a f).objs.size; rw [Heap.size_after_update]; exact hn) h.2⟩
  | loadIfAlive a k ih => intro Q E p s hn h; exact ih _ Q E p s hn h
  | point _ k ih => intro Q E p s hn h; exact ih () Q E p s hn h
  | register _ _ => intro Q E p s _ h; exact h
  | alloc o k ih => intro Q E p s hn h; exact ih _ Q E p _ (by show n ≤ (s.heap.push o).objs.size; rw [Heap.size_push]; omega) h
  | fresh k ih => intro Q E p s hn h; exact ih _ Q E p _ hn h
  | ask k ih => intro Q E p s hn h; exact ih _ Q E p s hn h
  | choose src m k ih => intro Q E p s hn h; exact ⟨h.1, ih _ Q E p _ hn h.2⟩
  | os q _ k ih => intro Q E p s hn h; exact ih _ Q E p _ hn h
  | call c hd _ _ k ih => intro Q E p s hn h; obtain ⟨r, s', hr, h⟩ := h; exact ⟨r, s', hr, ih r Q E p s' (Nat.le_trans hn (runs_size hr)) h⟩
  | handled own k ih => intro Q E p s hn h; exact ih _ Q E p s hn h
  | genState g k ih => intro Q E p s hn h; obtain ⟨st, hs, h⟩ := h; exact ⟨st, hs, ih _ Q E p s hn h⟩
  | newGen c k ih => intro Q E p s hn h; exact ih _ Q E p _ hn h
  | resume g r _ k ih => intro Q E p s hn h; obtain ⟨res, s', hw, h⟩ := h; exact ⟨res, s', hw, ih res Q E p s' (Nat.le_trans hn (wakes_size hw)) h⟩
  | yield _ _ _ _ => intro Q E p s _ h; exact h
  | stack k ih => intro Q E p s hn h; exact ih _ Q E p s hn h
  | fork _ _ => intro Q E p s _ h; exact h
  | thread k ih => intro Q E p s hn h; exact ih _ Q E p s hn h
  | await _ _ _ _ _ => intro Q E p s _ h; exact h
theorem wpAny_sized {α : Type} {M : Model} {A : Around} {s : Shared} {t : Sem α} {Q : α → Shared → Prop} {E : Value → Shared → Prop}
    (h : wpAny M A t (fun a s' => s.toks ≤ s'.toks → s.heap.objs.size ≤ s'.heap.objs.size → Q a s') E s) : wpAny M A t Q E s := by
  refine wpAny_with_toks (n := s.toks) (Nat.le_refl _) (fun Γ p hΓ => ?_)
  have := wp_size M Γ s.heap.objs.size t _ _ p s (Nat.le_refl _) (h Γ p hΓ)
  exact Sem.wp_mono M Γ t (fun a p' s' x hk => x.2 hk x.1) (fun e p' s' x _ => x.2) p s this

section
variable {C : Cx} {G : Env0} {A : Around} {θ : Th} {H H' : Hp} {ρ : Rho} {env : Env} {α β : Type}

theorem Tri.of {t : Sem α} {P : α → Th → Hp → Prop} (h : ∀ s, St C θ H s → wpAny (model C.prog C.w) A t (fun a s' => s.toks ≤ s'.toks → s.heap.objs.size ≤ s'.heap.objs.size → Nx C θ s s' (P a)) (fun _ _ => False) s) :
    Tri C A θ H t P := fun s S => wpAny_sized (h s S)

/- the greatest, the least of three floats -/
noncomputable def n3 (a b c : UInt64) : Nat → UInt64
  | 0 => a
  | 1 => b
  | _ => c
noncomputable def i3 (a b c : UInt64) (t u x : Tok) : Array Value := #[.float a t, .float b u, .float c x]
omit [Ops] in
theorem i3_at {a b c : UInt64} {t u x : Tok} {i : Nat} {v : Value} (h : (i3 a b c t u x)[i]? = some v) : ∃ k, v = .float (n3 a b c i) k := by
  match i, h with
  | 0, h => exact ⟨t, by simpa [i3, n3] using h.symm⟩
  | 1, h => exact ⟨u, by simpa [i3, n3] using h.symm⟩
  | 2, h => exact ⟨x, by simpa [i3, n3] using h.symm⟩
  | i + 3, h => simp [i3] at h
theorem cmp3_gt {prog : Program} {w : World} {a b c : UInt64} {t u x : Tok} : CmpOf prog w A .Gt (fun i v => (i3 a b c t u x)[i]? = some v) fun i j => Float64.gt (n3 a b c i) (n3 a b c j) := fun i j vi vj s Q E hi hj h => by
  obtain ⟨k, rfl⟩ := i3_at hi
  obtain ⟨l, rfl⟩ := i3_at hj
  exact AutoFloatOps.gt_0 h
theorem cmp3_lt {prog : Program} {w : World} {a b c : UInt64} {t u x : Tok} : CmpOf prog w A .Lt (fun i v => (i3 a b c t u x)[i]? = some v) fun i j => Float64.lt (n3 a b c i) (n3 a b c j) := fun i j vi vj s Q E hi hj h => by
  obtain ⟨k, rfl⟩ := i3_at hi
  obtain ⟨l, rfl⟩ := i3_at hj
  exact AutoFloatOps.lt_0 h
omit [Ops] in
theorem best_gt {a b c : UInt64} {t u x : Tok} (ht : t ≠ 0 ∧ t < θ.n) (hu : u ≠ 0 ∧ u < θ.n) (hx : x ≠ 0 ∧ x < θ.n) {v : Value} (h : (i3 a b c t u x)[argBest (fun i j => Float64.gt (n3 a b c i) (n3 a b c j)) 2]? = some v) : VR θ (.flt (fmax (fmax a b) c)) v := by
  unfold fmax
  cases h1 : Float64.gt b a with
  | true =>
    cases h2 : Float64.gt c b with
    | true => exact ⟨x, hx.1, hx.2, by simpa [i3, argBest, n3, h1, h2] using h.symm⟩
    | false => exact ⟨u, hu.1, hu.2, by simpa [i3, argBest, n3, h1, h2] using h.symm⟩
  | false =>
    cases h2 : Float64.gt c a with
    | true => exact ⟨x, hx.1, hx.2, by simpa [i3, argBest, n3, h1, h2] using h.symm⟩
    | false => exact ⟨t, ht.1, ht.2, by simpa [i3, argBest, n3, h1, h2] using h.symm⟩
omit [Ops] in
theorem best_lt {a b c : UInt64} {t u x : Tok} (ht : t ≠ 0 ∧ t < θ.n) (hu : u ≠ 0 ∧ u < θ.n) (hx : x ≠ 0 ∧ x < θ.n) {v : Value} (h : (i3 a b c t u x)[argBest (fun i j => Float64.lt (n3 a b c i) (n3 a b c j)) 2]? = some v) : VR θ (.flt (fmin (fmin a b) c)) v := by
  unfold fmin
  cases h1 : Float64.lt b a with
  | true =>
    cases h2 : Float64.lt c b with
    | true => exact ⟨x, hx.1, hx.2, by simpa [i3, argBest, n3, h1, h2] using h.symm⟩
    | false => exact ⟨u, hu.1, hu.2, by simpa [i3, argBest, n3, h1, h2] using h.symm⟩
  | false =>
    cases h2 : Float64.lt c a with
    | true => exact ⟨x, hx.1, hx.2, by simpa [i3, argBest, n3, h1, h2] using h.symm⟩
    | false => exact ⟨t, ht.1, ht.2, by simpa [i3, argBest, n3, h1, h2] using h.symm⟩

theorem max3_sound {a b c : UInt64} {x y z : Value} (hh : A.handled = none) (hx : VR θ (.flt a) x) (hy : VR θ (.flt b) y) (hz : VR θ (.flt c) z) : TriV C A θ H (call (.builtin "max") [x, y, z]) (.flt (fmax (fmax a b) c)) H := by
  apply hx.fltb; intro t ht; apply hy.fltb; intro u hu; apply hz.fltb; intro k hk
  refine Tri.of fun s S => ?_
  have hT : (s.heap.push { cls := .type "tuple", data := .seq #[.float a t, .float b u, .float c k] }).IsTuple s.heap.objs.size (i3 a b c t u k) := ⟨_, Heap.get?_push_size _ rfl, rfl, 0, rfl⟩
  have hsz : (s.heap.push { cls := .type "tuple", data := .seq #[.float a t, .float b u, .float c k] }).objs.size = s.heap.objs.size + 1 := Heap.size_push ..
  refine call_max_three (wpAny_pyIter_tuple hT ?_)
  refine ⟨_, [_, s.heap.objs.size], [_], _, _, _, _, rfl, Walks.tuple (A := A.in1) hh _ s.heap.objs.size (by rw [hsz]; exact Nat.ne_of_lt (Nat.lt_succ_self _)) (i3 a b c t u k),
    ⟨⟨_, Heap.get?_push_size _ rfl, rfl, rfl⟩, hT.push _⟩, fun d hd => ?_, by simp [i3], cmp3_gt, fun v h' tk hP hk' => ?_⟩
  · show d < ((s.heap.push _).push _).objs.size
    rw [Heap.size_push, hsz]
    rcases List.mem_cons.mp hd with rfl | hd
    · rw [hsz]; exact Nat.lt_succ_self _
    · rcases List.mem_cons.mp hd with rfl | hd
      · exact Nat.lt_succ_of_lt (Nat.lt_succ_self _)
      · cases hd
  · have hold : ∀ d o, s.heap.get? d = some o → h'.get? d = some o := fun d o e => by
      refine hk' d o (fun hm => ?_) (Heap.get?_push_of_some _ (Heap.get?_push_of_some _ e))
      rcases List.mem_cons.mp hm with e1 | hm
      · have := Heap.lt_size e; rw [e1, hsz] at this; exact Nat.lt_irrefl _ (Nat.lt_of_succ_lt this)
      · cases hm
    intro hk0 hz0
    exact fin_heap S hk0 hz0 hold ⟨rfl, best_gt ht hu hk (by simpa [i3] using hP)⟩

theorem min3_sound {a b c : UInt64} {x y z : Value} (hh : A.handled = none) (hx : VR θ (.flt a) x) (hy : VR θ (.flt b) y) (hz : VR θ (.flt c) z) : TriV C A θ H (call (.builtin "min") [x, y, z]) (.flt (fmin (fmin a b) c)) H := by
  apply hx.fltb; intro t ht; apply hy.fltb; intro u hu; apply hz.fltb; intro k hk
  refine Tri.of fun s S => ?_
  have hT : (s.heap.push { cls := .type "tuple", data := .seq #[.float a t, .float b u, .float c k] }).IsTuple s.heap.objs.size (i3 a b c t u k) := ⟨_, Heap.get?_push_size _ rfl, rfl, 0, rfl⟩
  have hsz : (s.heap.push { cls := .type "tuple", data := .seq #[.float a t, .float b u, .float c k] }).objs.size = s.heap.objs.size + 1 := Heap.size_push ..
  refine call_min_three (wpAny_pyIter_tuple hT ?_)
  refine ⟨_, [_, s.heap.objs.size], [_], _, _, _, _, rfl, Walks.tuple (A := A.in1) hh _ s.heap.objs.size (by rw [hsz]; exact Nat.ne_of_lt (Nat.lt_succ_self _)) (i3 a b c t u k),
    ⟨⟨_, Heap.get?_push_size _ rfl, rfl, rfl⟩, hT.push _⟩, fun d hd => ?_, by simp [i3], cmp3_lt, fun v h' tk hP hk' => ?_⟩
  · show d < ((s.heap.push _).push _).objs.size
    rw [Heap.size_push, hsz]
    rcases List.mem_cons.mp hd with rfl | hd
    · rw [hsz]; exact Nat.lt_succ_self _
    · rcases List.mem_cons.mp hd with rfl | hd
      · exact Nat.lt_succ_of_lt (Nat.lt_succ_self _)
      · cases hd
  · have hold : ∀ d o, s.heap.get? d = some o → h'.get? d = some o := fun d o e => by
      refine hk' d o (fun hm => ?_) (Heap.get?_push_of_some _ (Heap.get?_push_of_some _ e))
      rcases List.mem_cons.mp hm with e1 | hm
      · have := Heap.lt_size e; rw [e1, hsz] at this; exact Nat.lt_irrefl _ (Nat.lt_of_succ_lt this)
      · cases hm
    intro hk0 hz0
    exact fin_heap S hk0 hz0 hold ⟨rfl, best_lt ht hu hk (by simpa [i3] using hP)⟩

omit [Ops] in
theorem AR.floats3 {a b c : UInt64} : ∀ {r : Array Value}, AR θ [.flt a, .flt b, .flt c] r.toList → ∃ t u x, (t ≠ 0 ∧ t < θ.n) ∧ (u ≠ 0 ∧ u < θ.n) ∧ (x ≠ 0 ∧ x < θ.n) ∧ r = i3 a b c t u x
  | ⟨[]⟩, h => h.elim
  | ⟨[_]⟩, h => h.2.elim
  | ⟨[_, _]⟩, h => h.2.2.elim
  | ⟨[_, _, _]⟩, ⟨⟨t, ht, ht', e1⟩, ⟨u, hu, hu', e2⟩, ⟨x, hx, hx', e3⟩, _⟩ => ⟨t, u, x, ⟨ht, ht'⟩, ⟨hu, hu'⟩, ⟨hx, hx'⟩, by rw [e1, e2, e3]; rfl⟩
  | ⟨_ :: _ :: _ :: _ :: _⟩, h => h.2.2.2.elim
theorem maxL_sound {l : Nat} {a b c : UInt64} {x : Value} (hh : A.handled = none) (hx : VR θ (.ref l) x) (hl : Ops.get H l = some (.list [.flt a, .flt b, .flt c])) : TriV C A θ H (call (.builtin "max") [x]) (.flt (fmax (fmax a b) c)) H := by
  apply hx.ref; intro p e1
  refine Tri.of fun s S => ?_
  obtain ⟨a1, n1, g1, r1⟩ := S.listAt hl e1
  obtain ⟨t, u, k, ht, hu, hk, rfl⟩ := r1.floats3
  have hL : s.heap.IsList p (i3 a b c t u k) := g1.isList
  refine call_max_walk (wpAny_pyIter_list hL ?_)
  refine ⟨_, [_, p], [_], _, _, _, _, rfl, Walks.list (A := A.in1) hh _ p (Nat.ne_of_lt (Heap.lt_size g1)) (i3 a b c t u k),
    ⟨⟨_, Heap.get?_push_size _ rfl, rfl, rfl⟩, hL.push _⟩, fun d hd => ?_, by simp [i3], cmp3_gt, fun v h' tk hP hk' => ?_⟩
  · show d < (s.heap.push _).objs.size
    rw [Heap.size_push]
    rcases List.mem_cons.mp hd with rfl | hd
    · exact Nat.lt_succ_self _
    · rcases List.mem_cons.mp hd with rfl | hd
      · exact Nat.lt_succ_of_lt (Heap.lt_size g1)
      · cases hd
  · have hold : ∀ d o, s.heap.get? d = some o → h'.get? d = some o := fun d o e => by
      refine hk' d o (fun hm => ?_) (Heap.get?_push_of_some _ e)
      rcases List.mem_cons.mp hm with e1 | hm
      · exact Nat.lt_irrefl _ (e1 ▸ Heap.lt_size e)
      · cases hm
    intro hk0 hz0
    exact fin_heap S hk0 hz0 hold ⟨rfl, best_gt ht hu hk (by simpa [i3] using hP)⟩
end
end Mine
end
section
open PySem PyProof.Rows
namespace Mine
variable [Ops]

/- room for n levels more -/
structure Room (A : Around) (n : Nat) : Prop where
  hh : A.handled = none
  depth : A.depth + n < 900
  units : A.units + 3 * n < 9000
omit [Ops] in
theorem Room.le {A : Around} {n : Nat} (h : Room A (n + 1)) : Room A n := ⟨h.hh, by have := h.depth; omega, by have := h.units; omega⟩
omit [Ops] in
theorem Room.cmp {A : Around} {n : Nat} (h : Room A n) : A.units + 8 < cLine := by have := h.units; unfold cLine; omega

noncomputable def FlR (θ : Th) : Fl → Flow → Prop
  | .next, f => f = .next
  | .brk, f => f = .brk
  | .cont, f => f = .cont
  | .ret v, f => ∃ a, f = .ret a ∧ VR θ v a
noncomputable abbrev TriF (C : Cx) (A : Around) (θ : Th) (H : Hp) (t : Sem Flow) (f : Fl) (H' : Hp) : Prop := Tri C A θ H t fun a θ' H'' => H'' = H' ∧ FlR θ' f a

/- wherever the surroundings stand (the addresses are known at the run alone) -/
noncomputable abbrev AtE (C : Cx) (A : Around) (ρ : Rho) (env : Env) (H : Hp) (x : Expr) (v : V) (H' : Hp) : Prop := ∀ {θ}, EnvR C θ ρ env → TriV C A θ H (eval x env) v H'
noncomputable abbrev AtT (C : Cx) (A : Around) (ρ : Rho) (env : Env) (H : Hp) (x : Expr) (b : Bool) (H' : Hp) : Prop := ∀ {θ}, EnvR C θ ρ env → TriB C A θ H (isTrue x env (eval x env)) b H'
noncomputable abbrev AtS (C : Cx) (A : Around) (ρ : Rho) (env : Env) (H : Hp) (x : List Stmt) (f : Fl) (H' : Hp) : Prop := ∀ {θ}, EnvR C θ ρ env → TriF C A θ H (execs x env) f H'
/- what the level below is known to do -/
structure IhS (C : Cx) (ih : Ih) (n : Nat) : Prop where
  e : ∀ {A ρ env H}, Room A n → ∀ x, YesH (AtE C A ρ env H x) (ih.e x ρ H)
  t : ∀ {A ρ env H}, Room A n → ∀ x, YesH (AtT C A ρ env H x) (ih.t x ρ H)
  s : ∀ {A ρ env H}, Room A n → ∀ x, YesH (AtS C A ρ env H x) (ih.s x ρ H)
  c : ih.c = true → C.lev ≤ n
  noset : ∀ x ρ H, isSet x = true → ih.e x ρ H = .none

section
variable {C : Cx} {G : Env0} {A : Around} {θ : Th} {H H' : Hp} {ρ : Rho} {env : Env} {α β : Type} {ih : Ih} {n : Nat}

theorem Tri.hold {vs : List Value} {t : Sem α} {f : α → Sem β} {P : β → Th → Hp → Prop} (h : Tri C A θ H (t >>= f) P) : Tri C A θ H (PySem.holding vs t >>= f) P := fun s S => fun Γ p hΓ => by
  have := h s S Γ p hΓ
  rw [Sem.wp_bind'] at this ⊢
  rw [Sem.wp_holding]
  exact this
theorem Tri.oper {vs : List Value} {t : Sem Value} {f : Value → Sem β} {P : β → Th → Hp → Prop} (h : Tri C A θ H (t >>= f) P) : Tri C A θ H (PySem.operate vs t >>= f) P := fun s S => fun Γ p hΓ => by
  have := h s S Γ p hΓ
  rw [Sem.wp_bind'] at this ⊢
  rw [Sem.wp_operate]
  exact this
theorem Tri.release {vs ks : List Value} {f : Unit → Sem β} {P : β → Th → Hp → Prop} (h : Tri C A θ H (f ()) P) : Tri C A θ H (PySem.release vs ks >>= f) P := fun s S => fun Γ p hΓ => by
  have := h s S Γ p hΓ
  rw [Sem.wp_bind', Sem.wp_release]
  exact this
theorem Tri.letGo {base : Expr} {o r : Value} {f : Unit → Sem β} {P : β → Th → Hp → Prop} (h : Tri C A θ H (f ()) P) : Tri C A θ H (letTemporaryGo base o r >>= f) P := fun s S =>
  wpAny_bind (wpAny_letTemporaryGo (h s S))

noncomputable abbrev TriL (C : Cx) (A : Around) (θ : Th) (H : Hp) (t : Sem (List Value)) (vs : List V) (H' : Hp) : Prop := Tri C A θ H t fun as θ' H'' => H'' = H' ∧ AR θ' vs as

omit [Ops] in
theorem starEach_cons (e : Expr) (r : List Expr) (env : Env) (h : ∀ x p, e ≠ .Starred x p) : starEach (e :: r) env = (false, eval e env) :: starEach r env := by
  cases e <;> first | rfl | exact (h _ _ rfl).elim

omit [Ops] in
theorem star_or (e : Expr) : (∃ x p, e = .Starred x p) ∨ ∀ x p, e ≠ .Starred x p := by
  cases e <;> first | exact .inl ⟨_, _, rfl⟩ | exact .inr fun _ _ q => Expr.noConfusion q
theorem evs_cons {e : Expr} {r : List Expr} (h : ∀ x p, e ≠ .Starred x p) : evs ih ρ (e :: r) H = (match (generalizing := false) ih.e e ρ H with
    | some (v, H) => (match (generalizing := false) evs ih ρ r H with
      | some (vs, H) => some (v :: vs, H)
      | .none => .none)
    | .none => .none) := by
  cases e <;> first | rfl | exact (h _ _ rfl).elim
/- the arguments, read in turn -/
structure EvR (C : Cx) (A : Around) (ρ : Rho) (env : Env) (pos : Pos) (H : Hp) (es : List Expr) (vs : List V) (H' : Hp) : Prop where
  plain : (backTo pos (starEach es env)).all (fun x => !x.1) = true
  tri : ∀ {θ}, EnvR C θ ρ env → TriL C A θ H (spliced (backTo pos (starEach es env))) vs H'
theorem EvR.cons {pos : Pos} {e : Expr} {r : List Expr} {v : V} {vs : List V} {H1 : Hp} (h1 : ∀ x p, e ≠ .Starred x p) (p : AtE C A ρ env H e v H1) (q : EvR C A ρ env pos H1 r vs H') : EvR C A ρ env pos H (e :: r) (v :: vs) H' where
  plain := by rw [starEach_cons e r env h1]; exact q.plain
  tri R := by
    rw [starEach_cons e r env h1]
    show Tri C A _ H (spliced ((false, eval e env) :: backTo pos (starEach r env))) _
    rw [spliced]
    refine Tri.val (p R) fun a θ1 x1 r1 => ?_
    simp only [Bool.false_eq_true, if_false, pure_bind]
    exact Tri.hold (Tri.bind (q.tri (R.mono x1)) fun as θ2 H2 x2 z => z.1 ▸ Tri.pure ⟨rfl, r1.mono x2, z.2⟩)
theorem evs_yes (I : IhS C ih n) (hA : Room A n) (pos : Pos) : ∀ (es : List Expr) {H : Hp}, YesH (EvR C A ρ env pos H es) (evs ih ρ es H)
  | [], H => Yes.ok ⟨rfl, fun _ => Tri.pure ⟨rfl, trivial⟩⟩
  | e :: r, H => by
    rcases star_or e with ⟨x, p, rfl⟩ | h1
    · exact trivial
    rw [evs_cons h1]
    exact Yes.vh (I.e hA e) fun v H1 p => Yes.vsh (evs_yes I hA pos r) fun vs H2 q => Yes.ok (q.cons h1 p)

/- comparisons -/
omit [Ops] in
theorem marked_of (op : CmpOp) {r : Expr} (t : Sem Value) (h : isSet r = false) : markedBehindIn op r t = t := by
  unfold markedBehindIn behindInMarks
  cases r <;> first | rfl | cases h
theorem truthy_bool_sound {b : Bool} : TriB C A θ H (truthy (.bool b)) b H := fun s S => wpAny_truthy_bool (fin_same S ⟨rfl, rfl⟩)
end
end Mine
end
section
open PySem PyProof.Rows
namespace Mine
variable [Ops]
section
variable {C : Cx} {G : Env0} {A : Around} {θ : Th} {H H' : Hp} {ρ : Rho} {env : Env} {α β : Type} {ih : Ih} {n : Nat}
/- a chain of comparisons, as a value and as a test -/
structure ChR (C : Cx) (A : Around) (θ : Th) (H : Hp) (pos : Pos) (x : Value) (ops : List CmpOp) (ts : List (Sem Value)) (b : Bool) (H' : Hp) : Prop where
  v : TriV C A θ H (compareChain pos x ops ts) (.bool b) H'
  t : TriB C A θ H (testChain pos x ops ts) b H'
noncomputable abbrev AtC (C : Cx) (A : Around) (ρ : Rho) (env : Env) (pos : Pos) (H : Hp) (a : V) (ops : List CmpOp) (rs : List Expr) (b : Bool) (H' : Hp) : Prop :=
  ∀ {θ x}, EnvR C θ ρ env → VR θ a x → ChR C A θ H pos x ops (markedEach ops rs (evalEach rs env)) b H'
theorem isSet_or (I : IhS C ih n) (x : Expr) {Q : V × Hp → Prop} (h : isSet x = false → Yes Q (ih.e x ρ H)) : Yes Q (ih.e x ρ H) := by
  cases e : isSet x with
  | false => exact h e
  | true => rw [I.noset x ρ H e]; trivial
theorem e_ns (I : IhS C ih n) (hA : Room A n) (x : Expr) : YesH (fun v H' => AtE C A ρ env H x v H' ∧ isSet x = false) (ih.e x ρ H) := isSet_or I x fun e => (I.e hA x).mono fun _ p => ⟨p, e⟩
theorem ch_one {r : Expr} {op : CmpOp} {v a : V} {H1 : Hp} {t : Bool} {pos : Pos} (p : AtE C A ρ env H r v H1) (hs : isSet r = false) (q : ∀ {θ x y}, VR θ (norm a) x → VR θ (norm v) y → CmT C A θ H1 op x y t) : AtC C A ρ env pos H a [op] [r] t H1 := fun {θ x} R hx => by
  have e : markedEach [op] [r] (evalEach [r] env) = [eval r env] := by
    show [markedBehindIn op r (eval r env)] = _
    rw [marked_of op _ hs]
  rw [e]
  constructor
  · show Tri C A θ H (PySem.holding [x] (eval r env) >>= _) _
    exact Tri.hold (Tri.val (p R) fun y θ1 x1 r1 => Tri.at (Tri.operate (q (hx.mono x1).norm r1.norm)))
  · show Tri C A θ H (PySem.holding [x] (eval r env) >>= _) _
    exact Tri.hold (Tri.val (p R) fun y θ1 x1 r1 => Tri.at (Tri.oper (Tri.bind (q (hx.mono x1).norm r1.norm) fun v θ2 H2 x2 z => z.1 ▸ z.2 ▸ Tri.holding truthy_bool_sound)))
/- one link of a longer chain: it goes on, or it ends -/
theorem ch_link {r : Expr} {rs : List Expr} {op op' : CmpOp} {ops : List CmpOp} {v a : V} {H1 H2 : Hp} {t b : Bool} {pos : Pos} (p : AtE C A ρ env H r v H1) (q : ∀ {θ x y}, VR θ (norm a) x → VR θ (norm v) y → CmT C A θ H1 op x y t)
    (k : t = true → AtC C A ρ env pos H1 v (op' :: ops) rs b H2) (k' : t = false → b = false ∧ H2 = H1) : AtC C A ρ env pos H a (op :: op' :: ops) (r :: rs) b H2 := fun {θ x} R hx => by
  constructor
  · show Tri C A θ H (PySem.holding [x] (eval r env) >>= _) _
    refine Tri.hold (Tri.val (p R) fun y θ1 x1 r1 => Tri.at (Tri.hold (Tri.bind (q (hx.mono x1).norm r1.norm) fun c θ2 H2' x2 z => ?_)))
    obtain ⟨rfl, rfl⟩ := z
    refine Tri.release (Tri.hold (Tri.bool truthy_bool_sound fun θ3 x3 => ?_))
    cases t with
    | true => exact (k rfl (R.mono (x1.trans (x2.trans x3))) (r1.mono (x2.trans x3))).v
    | false => obtain ⟨rfl, rfl⟩ := k' rfl; exact Tri.pure ⟨rfl, rfl⟩
  · show Tri C A θ H (PySem.holding [x] (eval r env) >>= _) _
    refine Tri.hold (Tri.val (p R) fun y θ1 x1 r1 => Tri.at (Tri.hold (Tri.bind (q (hx.mono x1).norm r1.norm) fun c θ2 H2' x2 z => ?_)))
    obtain ⟨rfl, rfl⟩ := z
    refine Tri.release (Tri.hold (Tri.bool truthy_bool_sound fun θ3 x3 => ?_))
    cases t with
    | true => exact (k rfl (R.mono (x1.trans (x2.trans x3))) (r1.mono (x2.trans x3))).t
    | false => obtain ⟨rfl, rfl⟩ := k' rfl; exact Tri.pure ⟨rfl, rfl⟩
omit [Ops] in
theorem Yes.bo2 {γ : Type} {Q : γ → Prop} {o : Option Bool} {P : Bool → Prop} {a c : Option γ} (p : Yes P o) (h : P true → Yes Q a) (h' : P false → Yes Q c) : Yes Q (match (generalizing := false) o with | some true => a | some false => c | .none => .none) := by
  cases o with
  | none => trivial
  | some b => cases b with
    | true => exact h p
    | false => exact h' p
/- a comparison, wherever it stands -/
theorem cmp_at (T : Top C G) (hA : Room A n) {H : Hp} {op : CmpOp} {a b : V} : Yes (fun r => ∀ {θ x y}, VR θ a x → VR θ b y → CmT C A θ H op x y r) (cmpV op a b H) := Yes.of fun r h _ _ _ hx hy => (cmpV_yes T hA.cmp hx hy op).get h
theorem chain_yes (I : IhS C ih n) (T : Top C G) (hA : Room A n) (pos : Pos) : ∀ (ops : List CmpOp) (rs : List Expr) {H : Hp} {a : V}, YesH (AtC C A ρ env pos H a ops rs) (chain ih ρ a ops rs H)
  | [op], [r], H, a => Yes.vh (e_ns I hA r) fun v H1 p => Yes.bo (cmp_at T hA) fun t q => ch_one p.1 p.2 q
  | op :: op' :: ops, r :: rs, H, a => Yes.vh (I.e hA r) fun v H1 p => Yes.bo2 (cmp_at T hA)
      (fun q => (chain_yes I T hA pos (op' :: ops) rs).mono fun w k => ch_link p q (fun _ => k) fun e => Bool.noConfusion e)
      (fun q => ch_link p q (fun e => Bool.noConfusion e) fun _ => ⟨rfl, rfl⟩)
  | [], _, _, _ => trivial
  | [_], [], _, _ => trivial
  | _ :: _ :: _, [], _, _ => trivial
  | [_], _ :: _ :: _, _, _ => trivial
end
end Mine
end
section
open PySem PyProof.Rows
namespace Mine
variable [Ops]
section
variable {C : Cx} {G : Env0} {A : Around} {θ : Th} {H H' : Hp} {ρ : Rho} {env : Env} {α β : Type} {ih : Ih} {n : Nat}

/- a bound as it is told -/
noncomputable def OptR (θ : Th) : Option V → Value → Prop
  | .none, a => a = .none
  | some v, a => VR θ v a
omit [Ops] in
theorem OptR.mono {θ θ' : Th} (x : Ext θ θ') : ∀ {v : Option V} {a : Value}, OptR θ v a → OptR θ' v a
  | .none, _, h => h
  | some _, _, h => VR.mono x h

noncomputable abbrev AtTs (C : Cx) (A : Around) (ρ : Rho) (env : Env) (H : Hp) (op : BoolOp) (es : List Expr) (b : Bool) (H' : Hp) : Prop := ∀ {θ}, EnvR C θ ρ env → TriB C A θ H (allTrue op es env) b H'
theorem tests_yes (I : IhS C ih n) (hA : Room A n) : ∀ (op : BoolOp) (es : List Expr) {H : Hp}, YesH (AtTs C A ρ env H op es) (tests ih ρ op es H)
  | .And, [], H => by
    intro R; rw [arm_allTrue_nil]; exact Tri.pure ⟨rfl, rfl⟩
  | .Or, [], H => by
    intro R; rw [arm_allTrue_nil]; exact Tri.pure ⟨rfl, rfl⟩
  | .And, e :: r, H => Yes.bh (I.t hA e) fun c H1 p => by
    cases c with
    | false => exact fun {θ} R => by rw [arm_allTrue_cons]; exact Tri.bool (p R) fun θ1 x1 => Tri.pure ⟨rfl, rfl⟩
    | true => exact (tests_yes I hA .And r).mono fun w k {θ} R => by rw [arm_allTrue_cons]; exact Tri.bool (p R) fun θ1 x1 => k (R.mono x1)
  | .Or, e :: r, H => Yes.bh (I.t hA e) fun c H1 p => by
    cases c with
    | true => exact fun {θ} R => by rw [arm_allTrue_cons]; exact Tri.bool (p R) fun θ1 x1 => Tri.pure ⟨rfl, rfl⟩
    | false => exact (tests_yes I hA .Or r).mono fun w k {θ} R => by rw [arm_allTrue_cons]; exact Tri.bool (p R) fun θ1 x1 => k (R.mono x1)

noncomputable abbrev AtO (C : Cx) (A : Around) (ρ : Rho) (env : Env) (H : Hp) (e : Option Expr) (v : Option V) (H' : Hp) : Prop := ∀ {θ}, EnvR C θ ρ env → Tri C A θ H (valueOrNone (evalOpt e env)) fun a θ' H'' => H'' = H' ∧ OptR θ' v a
theorem optE_yes (I : IhS C ih n) (hA : Room A n) : ∀ (e : Option Expr), YesH (AtO C A ρ env H e) (optE ih ρ e H)
  | .none => by
    intro R; exact Tri.pure ⟨rfl, rfl⟩
  | some e => Yes.vh (I.e hA e) fun v H1 p => by
    show AtO C A ρ env H (some e) (some v) H1
    intro θ R; exact p R
end
end Mine
end
section
open PySem PyProof.Rows
namespace Mine
variable [Ops]
section
variable {C : Cx} {G : Env0} {A : Around} {θ : Th} {H H' : Hp} {ρ : Rho} {env : Env} {α β : Type} {ih : Ih} {n : Nat}
theorem Yes.vbool {γ : Type} {Q : γ → Prop} {x : Option (V × Hp)} {K : Bool → Hp → Option γ} {P : V → Hp → Prop} (p : YesH P x) (h : ∀ b H, P (.bool b) H → Yes Q (K b H)) : Yes Q (match (generalizing := false) x with | some (.bool b, H) => K b H | _ => .none) := by
  cases x with
  | none => trivial
  | some w =>
    obtain ⟨v, H⟩ := w
    cases v <;> first | exact trivial | exact h _ _ p
noncomputable abbrev AtB (C : Cx) (A : Around) (ρ : Rho) (env : Env) (pos : Pos) (H : Hp) (op : BoolOp) (es : List Expr) (v : V) (H' : Hp) : Prop := ∀ {θ}, EnvR C θ ρ env → TriV C A θ H (boolOp pos op (evalEach es env)) v H'
theorem b_link {e e' : Expr} {r : List Expr} {op : BoolOp} {pos : Pos} {c : Bool} {v : V} {H1 H2 : Hp} (p : AtE C A ρ env H e (.bool c) H1)
    (k : ∀ {θ}, EnvR C θ ρ env → TriV C A θ H1 (match (generalizing := false) op, c with | .And, false => pure (.bool c) | .Or, true => pure (.bool c) | _, _ => boolOp pos op (evalEach (e' :: r) env)) v H2) : AtB C A ρ env pos H op (e :: e' :: r) v H2 := fun {θ} R => by
  show Tri C A θ H (eval e env >>= _) _
  refine Tri.val (p R) fun a θ1 x1 r1 => Tri.at (Tri.hold ?_)
  obtain rfl : a = .bool c := r1
  refine Tri.bool truthy_bool_sound fun θ2 x2 => ?_
  have := k (R.mono (x1.trans x2))
  cases op <;> cases c <;> exact this
theorem bools_yes (I : IhS C ih n) (hA : Room A n) (pos : Pos) : ∀ (op : BoolOp) (es : List Expr) {H : Hp}, YesH (AtB C A ρ env pos H op es) (bools ih ρ op es H)
  | _, [], H => trivial
  | _, [e], H => (I.e hA e).mono fun w p => p
  | .And, e :: e' :: r, H => Yes.vbool (I.e hA e) fun c H1 p => by
    cases c with
    | false => exact b_link p fun R => Tri.pure ⟨rfl, rfl⟩
    | true => exact (bools_yes I hA pos .And (e' :: r)).mono fun w k => b_link (c := _) p fun {θ} R => by exact k R
  | .Or, e :: e' :: r, H => Yes.vbool (I.e hA e) fun c H1 p => by
    cases c with
    | true => exact b_link p fun R => Tri.pure ⟨rfl, rfl⟩
    | false => exact (bools_yes I hA pos .Or (e' :: r)).mono fun w k => b_link (c := _) p fun {θ} R => by exact k R
end
end Mine
end
section
open PySem PyProof.Rows
namespace Mine
variable [Ops]
section
variable {C : Cx} {G : Env0} {A : Around} {θ : Th} {H H' : Hp} {ρ : Rho} {env : Env} {α β : Type} {ih : Ih} {n : Nat}
/- what is read at a place: its own reading is the builtin one -/
noncomputable def Base (H : Hp) : V → Prop
  | .str _ => True
  | .ref l => match Ops.get H l with
    | some (.list _) => True
    | some (.tup _) => True
    | some (.xl _ _) => True
    | some (.dict _) => True
    | _ => False
  | _ => False
omit [Ops] in
theorem inPy_type {s : Shared} {x : Value} {T id : String} {Q : Bool → Shared → Prop} {E : Value → Shared → Prop} (hT : s.TypeIs x T) (hl : typeLookup (.type T) "__getitem__" = pure (some (.builtin id))) (hQ : Q false s) : wpAny (model C.prog C.w) A (getitemInPython x) Q E s := by
  rw [getitemInPython_of_ne hT.not_modules]
  exact wpAny_bind (wpAny_specialOf hT hl (wpAny_pure hQ))
theorem inPy_at {a : V} {x : Value} {s : Shared} {Q : Bool → Shared → Prop} {E : Value → Shared → Prop} (S : St C θ H s) (hx : VR θ a x) (ha : Base H a) (hQ : Q false s) : wpAny (model C.prog C.w) A (getitemInPython x) Q E s := by
  cases a with
  | str z => apply hx.str; intro t ht; exact inPy_type (typeIs_str s _ t) F.slot_str_getitem.lookup hQ
  | ref l =>
    apply hx.ref; intro p e1
    have ha : (match Ops.get H l with | some (.list _) => True | some (.tup _) => True | some (.xl _ _) => True | some (.dict _) => True | _ => False) := ha
    cases e : Ops.get H l with
    | none => rw [e] at ha; exact ha.elim
    | some o =>
      rw [e] at ha
      cases o with
      | list vs => obtain ⟨a1, n1, g1, r1⟩ := S.listAt e e1; exact inPy_type g1.isList.typeIs F.slot_list_getitem.lookup hQ
      | tup vs => obtain ⟨a1, n1, g1, r1⟩ := S.tupAt e e1; exact inPy_type ⟨_, g1, rfl⟩ F.slot_tuple_getitem.lookup hQ
      | xl vs its => obtain ⟨g1, r1⟩ := S.xlAt e e1; exact inPy_type g1.isList.typeIs F.slot_list_getitem.lookup hQ
      | dict es => obtain ⟨f, h1, _⟩ := S.dictAt e e1; exact inPy_type h1.typeIs slot_dict_getitem.lookup hQ
      | _ => exact ha.elim
  | _ => exact ha.elim
theorem inPy_tri {a : V} {x : Value} (hx : VR θ a x) (ha : Base H a) : TriB C A θ H (getitemInPython x) false H := fun s S => inPy_at S hx ha (fin_same S ⟨rfl, rfl⟩)
theorem base_ref {l : Nat} {o : O} (h : Ops.get H l = some o) (k : match o with | .list _ => True | .tup _ => True | .xl _ _ => True | .dict _ => True | _ => False) : Base H (.ref l) := by
  show (match Ops.get H l with | some (.list _) => True | some (.tup _) => True | some (.xl _ _) => True | some (.dict _) => True | _ => False)
  rw [h]
  cases o <;> exact k
theorem item_base {a i : V} : Yes (fun _ => Base H a) (itemV a i H) := by
  cases i <;> first | exact trivial | (cases a <;> first
    | exact trivial
    | exact Yes.of fun _ _ => trivial
    | exact Yes.seqs (fun vs hl => Yes.of fun _ _ => base_ref hl trivial) (fun vs hl => Yes.of fun _ _ => base_ref hl trivial) (fun vs hl => Yes.of fun _ _ => base_ref hl trivial))
omit [Ops] in
theorem subscripted_item {i : Expr} (h : notSlice i = true) (x y : Value) : subscripted i false x y = operate [x, y] (getItem x y) := by
  cases i <;> first | rfl | cases h
theorem item_at {e i : Expr} {pos : Pos} {a b v : V} {H1 H2 : Hp} (hn : notSlice i = true) (p : AtE C A ρ env H e a H1) (q : AtE C A ρ env H1 i b H2) (h : itemV (norm a) (norm b) H2 = some v) : AtE C A ρ env H (.Subscript e i pos) v H2 := fun {θ} R => by
  rw [eval_Subscript]
  refine Tri.val (p R) fun x θ1 x1 r1 => Tri.hold (Tri.val (q (R.mono x1)) fun y θ2 x2 r2 => Tri.at (Tri.bool (inPy_tri (r1.mono x2).norm (item_base.get h)) fun θ3 x3 => ?_))
  rw [subscripted_item hn]
  exact Tri.oper (Tri.val ((itemV_yes (r1.mono (x2.trans x3)).norm (r2.mono x3).norm).get h) fun z θ4 x4 r4 => Tri.letGo (Tri.pure ⟨rfl, r4⟩))
end
end Mine
end
section
open PySem PyProof.Rows
namespace Mine
variable [Ops]

omit [Ops] in
theorem take_range {α : Type} (m : List α) : ∀ c, (List.range c).filterMap (fun k => m[k]?) = m.take c
  | 0 => by simp
  | c + 1 => by
    rw [List.range_succ, List.filterMap_append, take_range m c, List.take_add_one]
    congr 1
theorem cut_range {α : Type} (l : List α) (a b : Nat) : (sliceRange (a : Int) (b : Int) 1).filterMap (fun k => l[k]?) = cut l a b := by
  rw [sliceRange_one, List.filterMap_map]
  have : ((fun k => l[k]?) ∘ fun k => a + k) = fun k => (l.drop a)[k]? := by
    funext k; simp
  rw [this, take_range]
  unfold cut
  rw [List.take_drop]
  by_cases h : a ≤ b
  · rw [Nat.add_sub_cancel' h]
  · have h1 : a + (b - a) = a := by omega
    rw [h1]
    have h2 : (l.take a).drop a = [] := by simp
    have h3 : (l.take b).drop a = [] := by simp; omega
    rw [h2, h3]
omit [Ops] in
theorem filterMap_same {α β : Type} {f g : α → Option β} : ∀ {l : List α}, (∀ x ∈ l, f x = g x) → l.filterMap f = l.filterMap g
  | [], _ => rfl
  | a :: l, h => by
    rw [List.filterMap_cons, List.filterMap_cons, h a (List.mem_cons_self ..), filterMap_same fun x m => h x (List.mem_cons_of_mem _ m)]
theorem rev_range {α : Type} (l : List α) : (sliceRange ((l.length : Int) - 1) (-1) (-1)).filterMap (fun k => l[k]?) = l.reverse := by
  rw [W.krv_sliceRange, List.filterMap_map]
  have : (List.range l.length).filterMap ((fun k => l[k]?) ∘ fun k => l.length - 1 - k) = (List.range l.length).filterMap fun k => l.reverse[k]? := by
    refine filterMap_same fun k hk => ?_
    have := List.mem_range.mp hk
    rw [List.getElem?_reverse this]; rfl
  rw [this, take_range, ← List.length_reverse, List.take_length]

omit [Ops] in
theorem cut_whole {α : Type} {z : List α} {i j : Nat} (h1 : j ≤ z.length) (h2 : j - i = z.length) : cut z i j = z := by
  unfold cut
  by_cases h0 : z.length = 0
  · rw [List.length_eq_zero_iff.mp h0]; simp
  · have e1 : i = 0 := by omega
    have e2 : j = z.length := by omega
    subst e1; subst e2; simp
omit [Ops] in
theorem cut_len {α : Type} (z : List α) (i j : Nat) : (cut z i j).length ≤ z.length := by
  unfold cut
  rw [List.length_drop, List.length_take]; omega
omit [Ops] in
theorem AR.cut {θ : Th} {vs : List V} {as : List Value} (h : AR θ vs as) (i j : Nat) : AR θ (Mine.cut vs i j) (Mine.cut as i j) := (h.take j).drop i

/- a bound, cut to the length -/
structure ClR (n d : Nat) (a : Value) (k : Nat) : Prop where
  ex : ∃ p : Option (Int × Tok), a = partValue p ∧ IsPart a (p.map (·.1)) ∧ (match p.map (·.1) with | none => (d : Int) | some i => let i := if i < 0 then i + n else i; max 0 (min i n)) = (k : Int)
  le : d ≤ n → k ≤ n
omit [Ops] in
theorem clip_yes {θ : Th} {n d : Nat} {a : Value} : ∀ {o : Option V}, OptR θ o a → Yes (ClR n d a) (clip n d o)
  | .none, hr => ⟨⟨none, hr, by rw [show a = .none from hr]; exact .none, rfl⟩, id⟩
  | some (.int (.ofNat j)), ⟨t, ht, e⟩ => ⟨⟨some (Int.ofNat j, t), e, e ▸ .int _ _, by
      show max 0 (min (if Int.ofNat j < 0 then Int.ofNat j + n else Int.ofNat j) (n : Int)) = _
      rw [if_neg (Int.not_lt.mpr (Int.natCast_nonneg j) : ¬ Int.ofNat j < 0)]
      simp only [Int.ofNat_eq_natCast]
      omega⟩, fun _ => Nat.min_le_right _ _⟩
  | some (.int (.negSucc _)), _ => trivial
  | some .none, _ | some (.bool _), _ | some (.str _), _ | some (.lit _), _ | some (.flt _), _ | some (.ref _), _ => trivial
end Mine
end
section
open PySem PyProof.Rows
namespace Mine
variable [Ops]
section
variable {C : Cx} {G : Env0} {A : Around} {θ : Th} {H H' : Hp} {ρ : Rho} {env : Env} {α β : Type} {ih : Ih} {n : Nat}

noncomputable abbrev SlAt (s : Shared) (sl : Addr) (l u w : Value) : Prop := ∃ o, s.heap.get? sl = some o ∧ o.cls = .type "slice" ∧ o.data = .fields #[l, u, w]
/- a slice of x, the slice object being at hand -/
noncomputable abbrev SlT (C : Cx) (A : Around) (θ : Th) (H : Hp) (x l u w : Value) (v : V) (H' : Hp) : Prop := ∀ s sl, St C θ H s → SlAt s sl l u w →
  wpAny (model C.prog C.w) A (getItem x (.ref sl)) (fun a s' => Nx C θ s s' fun θ' H'' => H'' = H' ∧ VR θ' v a) (fun _ _ => False) s
theorem slice_pick {z : Array Value} {n i j : Nat} {p q : Option (Int × Tok)} (hz : z.size = n)
    (hp : (match p.map (·.1) with | none => ((0 : Nat) : Int) | some i => let i := if i < 0 then i + n else i; max 0 (min i n)) = (i : Int))
    (hq : (match q.map (·.1) with | none => (n : Int) | some i => let i := if i < 0 then i + n else i; max 0 (min i n)) = (j : Int)) : slicePick z (p.map (·.1)) (q.map (·.1)) none = ⟨cut z.toList i j⟩ := by
  have e0 : (sliceBounds (p.map (·.1)) (q.map (·.1)) none z.size) = ((i : Int), (j : Int), 1) := by
    unfold sliceBounds
    rw [hz]
    show (_, _, (1 : Int)) = _
    congr 1
    congr 1
  unfold slicePick
  rw [e0]
  show List.toArray _ = _
  rw [← cut_range]
  congr 1
  exact filterMap_same fun k _ => by simp
theorem slice_list {vs : List V} {i j : Nat} {s : Shared} {sl p0 : Addr} {l u : Value} {its : Array Value} {n1 : Nat} (S : St C θ H s) (ho : SlAt s sl l u .none) (g1 : IsL s.heap p0 its n1) (r1 : AR θ vs its.toList) (hf : fits vs.length = true) (ci : ClR vs.length 0 l i) (cj : ClR vs.length vs.length u j) :
    wpAny (model C.prog C.w) A (getItem (.ref p0) (.ref sl)) (fun a s' => Nx C θ s s' fun θ' H'' => H'' = Ops.app H [.list (cut vs i j)] ∧ VR θ' (.ref (Ops.len H)) a) (fun _ _ => False) s := by
  obtain ⟨p, rfl, pl, hp⟩ := ci.ex
  obtain ⟨q, rfl, pu, hq⟩ := cj.ex
  refine wpAny_getItem_list_slice (vs := .none) (st := none) g1.isList ho pl pu .none (by simp) ?_ (by rw [r1.size]; exact fits_sz hf)
  refine fin_new S (.list (cut vs i j)) rfl ⟨_, 0, rfl, ?_⟩ (Nat.le_refl _) ⟨rfl, new_ref S.len⟩
  rw [slice_pick r1.size hp hq]
  exact (r1.cut i j).mono (Ext.app _ _)
theorem slice_str {z : List Nat} {i j : Nat} {t : Tok} {s : Shared} {sl : Addr} {l u : Value} (ht : t ≠ 0) (S : St C θ H s) (ho : SlAt s sl l u .none) (hf : fits z.length = true) (ci : ClR z.length 0 l i) (cj : ClR z.length z.length u j) :
    wpAny (model C.prog C.w) A (getItem (.str ⟨⟨z⟩⟩ t) (.ref sl)) (fun a s' => Nx C θ s s' fun θ' H'' => H'' = H ∧ VR θ' (.str (cut z i j)) a) (fun _ _ => False) s := by
  obtain ⟨p, rfl, _, hp⟩ := ci.ex
  obtain ⟨q, rfl, _, hq⟩ := cj.ex
  have e : slicePicked ⟨⟨z⟩⟩ p q none = sliceRange (i : Int) (j : Int) 1 := by
    unfold slicePicked Builtin.Str.strSliceIndices
    show sliceRange _ _ 1 = _
    congr 1
  have e2 : ((slicePicked ⟨⟨z⟩⟩ p q none).filterMap ((⟨⟨z⟩⟩ : Str).cps[·]?)) = cut z i j := by
    rw [e, ← cut_range]
    exact filterMap_same fun k _ => by simp
  refine wpAny_getItem_str_slice (l := p) (u := q) (st := none) ho rfl ?_
  unfold sliceMade
  split
  · rename_i hc
    simp only [Option.map_none, Option.getD_none, beq_self_eq_true, Bool.true_and] at hc
    have hc' := eq_of_beq hc
    rw [e, sliceRange_one, List.length_map, List.length_range] at hc'
    exact fin_same S ⟨rfl, t, ht, by rw [cut_whole (cj.le (Nat.le_refl _)) hc']⟩
  · rw [e2]
    exact ⟨Nat.le_trans (List.size_toArray ▸ cut_len z i j) (fits_sz hf), fin_str S _⟩
theorem slice_rev {z : List Nat} {t k : Tok} {s : Shared} {sl : Addr} (S : St C θ H s) (ho : SlAt s sl .none .none (.int (Int.negSucc 0) k)) (hf : fits z.length = true) :
    wpAny (model C.prog C.w) A (getItem (.str ⟨⟨z⟩⟩ t) (.ref sl)) (fun a s' => Nx C θ s s' fun θ' H'' => H'' = H ∧ VR θ' (.str z.reverse) a) (fun _ _ => False) s := by
  refine wpAny_getItem_str_slice (l := none) (u := none) (st := some (Int.negSucc 0, k)) ho (by show (Int.negSucc 0 == (0 : Int)) = false; decide) ?_
  have e : slicePicked ⟨⟨z⟩⟩ none none (some (Int.negSucc 0, k)) = sliceRange ((z.length : Int) - 1) (-1) (-1) := by
    unfold slicePicked Builtin.Str.strSliceIndices
    rfl
  have e2 : ((slicePicked ⟨⟨z⟩⟩ none none (some (Int.negSucc 0, k))).filterMap ((⟨⟨z⟩⟩ : Str).cps[·]?)) = z.reverse := by
    rw [e, ← rev_range]
    exact filterMap_same fun k _ => by simp
  unfold sliceMade
  rw [if_neg (by simp), e2]
  exact ⟨(by rw [List.size_toArray, List.length_reverse]; exact fits_sz hf : z.reverse.toArray.size ≤ sizeLine), fin_str S _⟩
end
end Mine
end
section
open PySem PyProof.Rows
namespace Mine
variable [Ops]
section
variable {C : Cx} {G : Env0} {A : Around} {θ : Th} {H H' : Hp} {ρ : Rho} {env : Env} {α β : Type} {ih : Ih} {n : Nat}
omit [Ops] in
theorem Yes.n2 {γ : Type} {Q : γ → Prop} {x y : Option Nat} {P P' : Nat → Prop} {K : Nat → Nat → Option γ} (p : Yes P x) (q : Yes P' y) (h : ∀ i j, P i → P' j → Yes Q (K i j)) : Yes Q (match (generalizing := false) x, y with | some i, some j => K i j | _, _ => .none) := by
  cases x <;> first | exact trivial | (cases y <;> first | exact trivial | exact h _ _ p q)
theorem sliceV_yes {a : V} {lo hi st : Option V} {x l u w : Value} (hx : VR θ a x) (hl : OptR θ lo l) (hu : OptR θ hi u) (hw : OptR θ st w) : YesH (SlT C A θ H x l u w) (sliceV a lo hi st H) := by
  cases a with
  | str z =>
    apply hx.str; intro t ht
    refine Yes.t fun hf => ?_
    cases st with
    | none => obtain rfl := hw; exact Yes.n2 (clip_yes hl) (clip_yes hu) fun i j ci cj s sl S ho => slice_str ht S ho hf ci cj
    | some sv => cases sv with
      | int i => cases i with
        | ofNat k => exact trivial
        | negSucc k => cases k with
          | succ k => exact trivial
          | zero => cases lo with
            | some _ => exact trivial
            | none => cases hi with
              | some _ => exact trivial
              | none => obtain rfl := hl; obtain rfl := hu; obtain ⟨k, hk, rfl⟩ := hw; exact fun s sl S ho => slice_rev S ho hf
      | _ => exact trivial
  | ref l0 =>
    apply hx.ref; intro p e1
    show Yes _ (match Ops.get H l0, st with | some (.list vs), .none => _ | some (.xl vs _), .none => _ | _, _ => .none)
    cases e : Ops.get H l0 with
    | none => exact trivial
    | some o => cases o with
      | list vs => cases st with
        | some _ => exact trivial
        | none => obtain rfl := hw; exact Yes.t fun hf => Yes.n2 (clip_yes hl) (clip_yes hu) fun i j ci cj s sl S ho => let ⟨a1, n1, g1, r1⟩ := S.listAt e e1; slice_list S ho g1 r1 hf ci cj
      | xl vs its => cases st with
        | some _ => exact trivial
        | none => obtain rfl := hw; exact Yes.t fun hf => Yes.n2 (clip_yes hl) (clip_yes hu) fun i j ci cj s sl S ho => let ⟨g1, r1⟩ := S.xlAt e e1; slice_list S ho g1 r1 hf ci cj
      | _ => exact trivial
  | _ => exact trivial
end
end Mine
end
section
open PySem PyProof.Rows
namespace Mine
variable [Ops]
section
variable {C : Cx} {G : Env0} {A : Around} {θ : Th} {H H' : Hp} {ρ : Rho} {env : Env} {α β : Type} {ih : Ih} {n : Nat}
theorem slice_base {a : V} {lo hi st : Option V} : Yes (fun _ => Base H a) (sliceV a lo hi st H) := by
  cases a with
  | str z => exact Yes.of fun _ _ => trivial
  | ref l0 =>
    show Yes _ (match Ops.get H l0, st with | some (.list vs), .none => _ | some (.xl vs _), .none => _ | _, _ => .none)
    cases e : Ops.get H l0 with
    | none => exact trivial
    | some o => cases o with
      | list vs => exact Yes.of fun _ _ => base_ref e trivial
      | xl vs its => exact Yes.of fun _ _ => base_ref e trivial
      | _ => exact trivial
  | _ => exact trivial
omit [Ops] in
theorem subscripted_slice (l u st : Option Expr) (p : Pos) (x y : Value) : subscripted (.Slice l u st p) false x y = operate (match st with | none => [y, x] | some _ => [x, y]) (getItem x y) := by
  cases st <;> rfl
theorem slice_at {e : Expr} {l u st : Option Expr} {pos p : Pos} {a v : V} {lo hi sv : Option V} {H1 H2 H3 H4 H5 : Hp} (p1 : AtE C A ρ env H e a H1) (p2 : AtO C A ρ env H1 l lo H2) (p3 : AtO C A ρ env H2 u hi H3) (p4 : AtO C A ρ env H3 st sv H4)
    (h5 : sliceV (norm a) lo hi sv H4 = some (v, H5)) : AtE C A ρ env H (.Subscript e (.Slice l u st p) pos) v H5 := fun {θ} R => by
  rw [eval_Subscript]
  refine Tri.val (p1 R) fun x θ1 x1 r1 => Tri.hold ?_
  rw [arm_eval_Slice]
  simp only [bind_assoc]
  refine Tri.bind (p2 (R.mono x1)) fun lv θ2 H2' x2 z2 => z2.1 ▸ Tri.hold (Tri.bind (p3 (R.mono (x1.trans x2))) fun uv θ3 H3' x3 z3 => z3.1 ▸ Tri.hold (Tri.bind (p4 (R.mono (x1.trans (x2.trans x3)))) fun sv' θ4 H4' x4 z4 => z4.1 ▸ ?_))
  intro s S
  have S1 := S.same (s' := { s with heap := s.heap.push { cls := .type "slice", data := .fields #[lv, uv, sv'] } }) (fun _ _ e => Heap.get?_push_of_some _ e) (by show _ ≤ (s.heap.push _).objs.size; rw [Heap.size_push]; exact Nat.le_succ _) (Nat.le_refl _) rfl rfl
  have rx := (r1.mono (x2.trans (x3.trans x4))).norm
  refine wpAny_bind (wpAny_newObj_type (wpAny_bind (wpAny_standAt (wpAny_bind (inPy_at S1.1 rx (slice_base.get h5) ?_)))))
  rw [subscripted_slice]
  have fin := (sliceV_yes (C := C) (A := A) rx (z2.2.mono (x3.trans x4)) (z3.2.mono x4) z4.2).get h5 _ s.heap.objs.size S1.1 ⟨_, Heap.get?_push_size _ rfl, rfl, rfl⟩
  refine wpAny_bind (wpAny_operating (wpAny_mono fin (fun r s2 hb => ?_) fun _ _ h => h))
  exact wpAny_bind (wpAny_letTemporaryGo (wpAny_pure (hb.elim fun θ5 H5' g5 S5 q => .mk' (S1.2.trans g5) S5 q)))
end
end Mine
end
section
open PySem PyProof.Rows
set_option maxRecDepth 100000
namespace Mine
variable [Ops]
section
variable {C : Cx} {G : Env0} {A : Around} {θ : Th} {H H' : Hp} {ρ : Rho} {env : Env} {α β : Type} {ih : Ih} {n : Nat}

omit [Ops] in
theorem AR.norm : ∀ {vs : List V} {as : List Value}, AR θ vs as → AR θ (vs.map Mine.norm) as
  | [], [], _ => trivial
  | _ :: _, _ :: _, h => ⟨h.1.norm, AR.norm h.2⟩

omit [Ops] in
theorem evalArgs_any {M : Model} {E : Value → Shared → Prop} {s : Shared} {f : Value} {args : List (Bool × Sem Value)} {Q : Args → Shared → Prop} (hp : args.all (fun x => !x.1) = true)
    (h : wpAny M A (spliced args) (fun vs s' => Q ⟨vs, []⟩ s') E s) : wpAny M A (evalArgs f true args []) Q E s := by
  match args, hp, h with
  | [], _, h =>
    unfold evalArgs
    show wpAny M A (spliced [] >>= _) Q E s
    refine wpAny_bind (wpAny_mono h (fun vs s' h' => ?_) fun _ _ x => x)
    refine wpAny_bind (wpAny_pure ?_)
    refine wpAny_holding ?_
    exact wpAny_bind (wpAny_pure (wpAny_bind (wpAny_pure (wpAny_pure h'))))
  | (false, x) :: rest, _, h => exact Calls.evalArgs_plain h
omit [Ops] in
theorem any_false {args : List (Bool × Sem Value)} (hp : args.all (fun x => !x.1) = true) : args.any (·.1) = false := by
  induction args with
  | nil => rfl
  | cons a r ih =>
    rw [List.all_cons, Bool.and_eq_true] at hp
    rw [List.any_cons, ih hp.2]
    cases h : a.1 <;> simp_all

omit [Ops] in
theorem AR.one {v : V} : ∀ {as : List Value}, AR θ [v] as → ∃ x, as = [x] ∧ VR θ v x
  | [], h => h.elim
  | [x], h => ⟨x, rfl, h.1⟩
  | _ :: _ :: _, h => h.2.elim
theorem AR.two {v w : V} : ∀ {as : List Value}, AR θ [v, w] as → ∃ x y, as = [x, y] ∧ VR θ v x ∧ VR θ w y
  | [], h => h.elim
  | _ :: as, h => let ⟨y, e, r⟩ := AR.one h.2; ⟨_, y, congrArg _ e, h.1, r⟩
theorem AR.three {v w u : V} : ∀ {as : List Value}, AR θ [v, w, u] as → ∃ x y z, as = [x, y, z] ∧ VR θ v x ∧ VR θ w y ∧ VR θ u z
  | [], h => h.elim
  | _ :: as, h => let ⟨y, z, e, r⟩ := AR.two h.2; ⟨_, y, z, congrArg _ e, h.1, r⟩
/- a call of a builtin or a type with plain arguments -/
theorem callB_at {pos : Pos} {f : Value} (hf : (∃ id, f = .builtin id) ∨ ∃ T, f = .type T) {first : List Value} {args : List Expr} {vs : List V} {H1 : Hp} {P : Value → Th → Hp → Prop} (q : EvR C A ρ env pos H args vs H1) (R : EnvR C θ ρ env)
    (k : ∀ as θ1, Ext θ θ1 → AR θ1 vs as → Tri C A θ1 H1 (call f (first ++ as)) P) : Tri C A θ H (callWith pos f first (backTo pos (starEach args env)) []) P := fun s S => by
  have e' : wpAny (model C.prog C.w) A (spliced (backTo pos (starEach args env))) (fun as s1 => wpAny (model C.prog C.w) A (call f (first ++ as)) (fun a s' => Nx C θ s s' (P a)) (fun _ _ => False) s1) (fun _ _ => False) s :=
    wpAny_mono (q.tri R s S) (fun as s1 hs => hs.elim fun θ1 H2 g S1 z => wpAny_mono (k as θ1 g.ext z.2 s1 (z.1 ▸ S1)) (fun a s' h => h.elim fun θ2 H3 g2 S2 p => .mk' (g.trans g2) S2 p) fun _ _ h => h) fun _ _ h => h
  rcases hf with ⟨id, rfl⟩ | ⟨T, rfl⟩
  · exact Calls.callWith_builtin (any_false q.plain) (evalArgs_any q.plain e')
  · exact PySem.callWith_type (any_false q.plain) (evalArgs_any q.plain e')
end
end Mine
end
section
open PySem PyProof.Rows SeqAt MeetsSeq MeetsSeq2 MeetsSeq3 SeqRoads2
open AutoSeq1 (wpAny_loadPart')
set_option maxRecDepth 100000
namespace Mine
variable [Ops]
noncomputable abbrev numV (p : Int × Tok) : Value := .int p.1 p.2
theorem lt_loop (l b : Addr) (xs ys : List (Int × Tok)) (n n2 : Nat) (k : Nat) :
    ∀ i : Nat, xs.length - i = k → i ≤ xs.length → i ≤ ys.length → Meets (Builtin.«list.__eq__.loop» ⟨[.ref l, .ref b, rawInt i, rawInt 0], []⟩)
      (fun A R s => s.heap.get? l = some (seqObj "list" (xs.map numV).toArray n) ∧ s.heap.get? b = some (seqObj "list" (ys.map numV).toArray n2) ∧
        R (.ok (.ret (.bool (ltRa ((xs.drop i).map (·.1)) ((ys.drop i).map (·.1)))))) s) := by
  induction k with
  | zero =>
    intro i hk h1 h2 prog w A R s h
    obtain ⟨hp, g, d, tk, os⟩ := s; obtain ⟨hl, hb, h⟩ := h
    unfold seqObj at hl hb
    wp_walk using wpAny_loadPart' hl, wpAny_loadPart' hb
    have hi : i = xs.length := by omega
    have hi1 : (xs.map numV).toArray[((i : Nat) : Int).toNat]? = none := by simp; omega
    rw [hi1]
    have hd : xs.drop i = [] := by simp; omega
    rw [hd] at h
    wp_walk using wpAny_loadPart' hl, wpAny_loadPart' hb
    have e : (decide ((xs.map numV).toArray.size < (ys.map numV).toArray.size)) = ltRa [] ((ys.drop i).map (·.1)) := by
      cases e : ys.drop i with
      | nil =>
        have := List.drop_eq_nil_iff.mp e
        simp [ltRa]; omega
      | cons y r =>
        have : i < ys.length := by
          rcases Nat.lt_or_ge i ys.length with q | q
          · exact q
          · rw [List.drop_eq_nil_iff.mpr q] at e; cases e
        simp [ltRa]; omega
    show R (.ok (.ret (.bool (decide ((xs.map numV).toArray.size < (ys.map numV).toArray.size))))) _
    rw [e]; exact h
  | succ k ih =>
    intro i hk h1 h2 prog w A R s h
    obtain ⟨hp, g, d, tk, os⟩ := s; obtain ⟨hl, hb, h⟩ := h
    have hl0 := hl
    have hb0 := hb
    unfold seqObj at hl hb
    wp_walk using wpAny_loadPart' hl, wpAny_loadPart' hb
    have hlt : i < xs.length := by omega
    have hi1 : (xs.map numV).toArray[((i : Nat) : Int).toNat]? = some (numV xs[i]) := by simp [hlt]
    have hd : xs.drop i = xs[i] :: xs.drop (i + 1) := List.drop_eq_getElem_cons hlt
    rw [hi1]
    rcases Nat.lt_or_ge i ys.length with hlt2 | hge
    · have hi2 : (ys.map numV).toArray[((i : Nat) : Int).toNat]? = some (numV ys[i]) := by simp [hlt2]
      have hd2 : ys.drop i = ys[i] :: ys.drop (i + 1) := List.drop_eq_getElem_cons hlt2
      have hc : ((i : Int) + 1) = ((i + 1 : Nat) : Int) := by push_cast; rfl
      rw [hi2]
      rw [hd, hd2] at h
      have h' : R (.ok (.ret (.bool (match ieq xs[i].1 ys[i].1 with | true => ltRa ((xs.drop (i + 1)).map (·.1)) ((ys.drop (i + 1)).map (·.1)) | false => ilt xs[i].1 ys[i].1)))) ⟨hp, g, d, tk, os⟩ := h
      have he := (MeetsSeq.EqGives.int xs[i].1 ys[i].1 xs[i].2 ys[i].2).at A.in1 ⟨hp, g, d, tk, os⟩
      refine wpAny_bind (he prog w _ _ ?_)
      rw [← ieq_eq]
      cases hb' : ieq xs[i].1 ys[i].1 with
      | true =>
        rw [hb'] at h'
        wp_walk
        rw [hc]
        exact ⟨plainId_quiet plain_eq_loop _, codeAny_builtin entry_eq_loop (by
          rw [Around.under_plainId plain_eq_loop _]
          exact ih (i + 1) (by omega) (by omega) (by omega) prog w A R _ ⟨hl0, hb0, h'⟩)⟩
      | false =>
        rw [hb'] at h'
        wp_walk using wpAny_loadPart' hl, wpAny_loadPart' hb
        rw [hi1, hi2]
        refine wpAny_bind (wpAny_lt_int (prog := prog) (w := w) (a := xs[i].1) (b := ys[i].1) (wpAny_pure ?_))
        rw [← ilt_eq]
        exact h'
    · have hi2 : (ys.map numV).toArray[((i : Nat) : Int).toNat]? = none := by simp; omega
      rw [hi2]
      wp_walk using wpAny_loadPart' hl, wpAny_loadPart' hb
      have hd2 : ys.drop i = [] := List.drop_eq_nil_iff.mpr hge
      rw [hd, hd2] at h
      show R (.ok (.ret (.bool (decide ((xs.map numV).toArray.size < (ys.map numV).toArray.size))))) _
      rw [show decide ((xs.map numV).toArray.size < (ys.map numV).toArray.size) = false by simp; omega]
      exact h
theorem list_lt (l b : Addr) (xs ys : List (Int × Tok)) (n n2 : Nat) : Meets (Builtin.«list.__lt__» ⟨[.ref l, .ref b], []⟩)
      (fun A R s => s.heap.get? l = some (seqObj "list" (xs.map numV).toArray n) ∧ s.heap.get? b = some (seqObj "list" (ys.map numV).toArray n2) ∧
        R (.ok (.ret (.bool (ltRa (xs.map (·.1)) (ys.map (·.1)))))) s) := by
  intro prog w A R s h
  obtain ⟨hp, g, d, tk, os⟩ := s; obtain ⟨hl, hb, h⟩ := h
  have hl0 := hl
  have hb0 := hb
  unfold seqObj at hl hb
  have f3 := AutoSeq1.sub_list_list
  wp_walk using wpAny_loadPart' hl, wpAny_loadPart' hb
  exact ⟨plainId_quiet plain_eq_loop _, codeAny_builtin entry_eq_loop (by
    rw [Around.under_plainId plain_eq_loop _]
    exact lt_loop l b xs ys n n2 _ 0 rfl (Nat.zero_le _) (Nat.zero_le _) prog w A R _ ⟨hl0, hb0, h⟩)⟩
theorem key_lt {prog : Program} {w : World} {A : Around} {E : Value → Shared → Prop} {s : Shared} {l b : Addr} {xs ys : List (Int × Tok)} {n n2 : Nat} {Q : Bool → Shared → Prop} (hu : A.units < cLine)
    (hl : s.heap.get? l = some (seqObj "list" (xs.map numV).toArray n)) (hb : s.heap.get? b = some (seqObj "list" (ys.map numV).toArray n2)) (h : Q (ltRa (xs.map (·.1)) (ys.map (·.1))) s) : wpAny (model prog w) A (keyLt' oneType' (.ref l) (.ref b)) Q E s := by
  rw [keyLt'_oneType, oneLt'_eq]
  simp only [if_true]
  refine wpAny_bind (wpAny_cRoomFor hu ?_)
  refine wpAny_bind (wpAny_callSpecialIfBound?_slot (T := "list") ⟨_, hl, rfl⟩ F.slot_list_lt (call_meets F.slot_list_lt ⟨_, hl, rfl⟩ F.entry_list_lt (F.args_list_lt_2 _ _) (list_lt l b xs ys n n2) ⟨hl, hb, ?_⟩))
  exact wpAny_truthy_bool h

omit [Ops] in
theorem ask_run {α : Type} {f : Nat → Nat → Option Bool} {cmp : Nat → Nat → (Bool → Shared → Prop) → Shared → Prop} {s : Shared} {Q : α → Shared → Prop} (hc : ∀ i j b C, f i j = some b → C b s → cmp i j C s) : ∀ {t : W.KasT α} {a : α}, askRun f t = some a → Q a s → t.kasWp cmp Q s
  | .ret a, _, e, h => by injection e with e; subst e; exact h
  | .ask i j k, _, e, h => by
    rw [ask_ask] at e
    cases q : f i j with
    | none => rw [q] at e; cases e
    | some b => rw [q] at e; exact hc i j b _ q (ask_run hc e h)
/- all is kept but one -/
noncomputable def Keep (a : Addr) (h h' : Heap) : Prop := ∀ b o, b ≠ a → h.get? b = some o → h'.get? b = some o
omit [Ops] in
theorem Keep.trans {a : Addr} {h h' h'' : Heap} (x : Keep a h h') (y : Keep a h' h'') : Keep a h h'' := fun b o n e => y b o n (x b o n e)
omit [Ops] in
theorem keep_update (h : Heap) (a : Addr) (g : Obj → Obj) : Keep a h (h.update a g) := fun b o n e => (Heap.get?_update_other _ _ (Ne.symm n)).trans e
omit [Ops] in
theorem keep_push (h : Heap) (a : Addr) (o : Obj) : Keep a h (h.push o) := fun b o n e => Heap.get?_push_of_some _ e
section
variable {prog : Program} {w : World} {A : Around} {E : Value → Shared → Prop} {s : Shared} {a : Addr} {vs : List Value}
theorem sort_own {n : Nat} {p : Array Nat} {f : Nat → Nat → Option Bool} {P : PySem.Fin → Shared → Prop} (ho : s.heap.get? a = some (seqObj "list" vs.toArray n)) (h2 : 2 ≤ vs.length) (h64 : vs.length < 64)
    (hT : ∀ h', Keep a s.heap h' → ∀ v ∈ vs, W.Looks (model prog w) h' (typeOf v) (.type "list"))
    (hc : ∀ h' i j b (C : Bool → Shared → Prop) s', Keep a s.heap h' → s'.heap = h' → f i j = some b → C b s' → wpAny (model prog w) A (keyLt' oneType' (vs.getD i Value.none) (vs.getD j Value.none)) C (fun _ _ => False) s')
    (hr : askRun f (W.kas_sort vs.length) = some p)
    (h : ∀ h' c, Keep a s.heap h' → s.heap.objs.size ≤ h'.objs.size → h'.get? a = some (seqObj "list" (p.toList.map fun i => vs.getD i Value.none).toArray c) → P (.done (.ret .none)) { s with heap := h' }) :
    wpAny (model prog w) A (Builtin.«list.sort» ⟨[.ref a], []⟩) P E s := by
  have ha : a < s.heap.objs.size := Heap.lt_size ho
  obtain ⟨e1, ho1⟩ : ∃ e1, (s.heap.update a (Obj.mapSeq fun _ => (#[] : Array Value))).get? a = some (seqObj "list" #[] e1) := ⟨_, get?_update_seq ho fun _ => #[]⟩
  have K1 : Keep a s.heap (((s.heap.update a (Obj.mapSeq fun _ => (#[] : Array Value))).push (seqObj "tuple" vs.toArray 0)).push (seqObj "list" #[] 0)) := ((keep_update _ _ _).trans (keep_push _ _ _)).trans (keep_push _ _ _)
  have ho3 : (((s.heap.update a (Obj.mapSeq fun _ => (#[] : Array Value))).push (seqObj "tuple" vs.toArray 0)).push (seqObj "list" #[] 0)).get? a = some (seqObj "list" #[] e1) := Heap.get?_push_of_some _ (Heap.get?_push_of_some _ ho1)
  rw [list_sort_plain]
  refine wpAny_bind (listItems_at ho rfl ?_)
  refine wpAny_bind (listUpdate_at ho rfl ?_ (by rw [List.size_toArray, sizeLine_eq]; omega) (Nat.zero_le _))
  refine wpAny_bind (seqEpoch_at ho1 rfl ?_)
  refine wpAny_bind (wpAny_newTuple ?_ (by show vs.length ≤ _; rw [sizeLine_eq]; omega))
  refine wpAny_bind (wpAny_newList ?_ (Nat.zero_le _))
  refine wpAny_holding ?_
  generalize hh : (((s.heap.update a (Obj.mapSeq fun _ => (#[] : Array Value))).push (seqObj "tuple" vs.toArray 0)).push (seqObj "list" #[] 0)) = h3 at K1 ho3
  show wpAny (model prog w) A _ P E { s with heap := h3 }
  have hz : s.heap.objs.size ≤ h3.objs.size := by
    rw [← hh, Heap.size_push, Heap.size_push, Heap.size_update]; omega
  dsimp only
  have hn2 : ¬ vs.toArray.size < 2 := by rw [List.size_toArray]; omega
  rw [if_neg hn2, if_neg hn2]
  refine wpAny_bind (W.kas_kind h2 (hT h3 K1) (by decide) (by decide) ?_)
  have est : SortSt.mk' oneType' (vs.toArray.zip vs.toArray) #[] 7 none = W.kas_st oneType' (PyProof.Rows.pairsOf vs) (List.toArray (List.range vs.length)) := by
    have e := W.kas_range (PyProof.Rows.pairsOf vs)
    rw [PyProof.Rows.pairsOf_size] at e
    show SortSt.mk' oneType' (PyProof.Rows.pairsOf vs) #[] 7 none = SortSt.mk' oneType' ((List.toArray (List.range vs.length)).map (W.kas_item (PyProof.Rows.pairsOf vs))) #[] 7 none
    rw [e]
  have ask : (W.kas_sort vs.length).kasWp (W.kas_ask prog w A oneType' vs) (fun q s' => q = p ∧ s' = { s with heap := h3 }) { s with heap := h3 } :=
    ask_run (s := { s with heap := h3 }) (f := f) (Q := fun q s' => q = p ∧ s' = { s with heap := h3 }) (fun i j b C e hC => hc h3 i j b C _ K1 rfl e hC) hr ⟨rfl, rfl⟩
  rw [W.kas_ask_eq] at ask
  have run := W.kas_runs (E := E) (Q := fun _ st' s' => ∃ q : Array Nat, q.size = vs.length ∧ arrOf st' = q.map (W.kas_item (PyProof.Rows.pairsOf vs)) ∧ failedOf st' = none ∧ q = p ∧ s' = { s with heap := h3 })
    h2 h64 (fun p' st' s' a1 a2 a3 a4 => ⟨p', a1, a2, a3, a4⟩) ask
  rw [← est] at run
  refine wpAny_bind (wpAny_mono run ?_ fun _ _ e => e)
  rintro ⟨⟨⟩, st'⟩ s' ⟨q, hp, har, hf, rfl, rfl⟩
  dsimp only
  have hout : (arrOf st').map (·.2) = List.toArray (q.toList.map fun i => vs.getD i Value.none) := by
    apply Array.toList_inj.mp
    rw [har, Array.map_map, Array.toList_map]
    exact List.map_congr_left fun i _ => by show (W.kas_item (PyProof.Rows.pairsOf vs) i).2 = _; rw [W.kas_item_eq]
  have hsz : (List.toArray (q.toList.map fun i => vs.getD i Value.none)).size = vs.length := by rw [List.size_toArray, List.length_map, Array.length_toList, hp]
  rw [hout]
  obtain ⟨c2, hc2⟩ : ∃ c2, (h3.update a (Obj.mapSeq fun _ => List.toArray (q.toList.map fun i => vs.getD i Value.none))).get? a = some (seqObj "list" (List.toArray (q.toList.map fun i => vs.getD i Value.none)) c2) := ⟨_, get?_update_seq ho3 fun _ => List.toArray (q.toList.map fun i => vs.getD i Value.none)⟩
  refine wpAny_bind (seqEpoch_at ho3 rfl ?_)
  refine wpAny_bind (listUpdate_at ho3 rfl ?_ (Nat.zero_le _) (Nat.le_trans (Nat.le_of_eq hsz) (by rw [sizeLine_eq]; omega)))
  rw [hf]
  simp only [bne_self_eq_false, Bool.false_eq_true, if_false]
  exact wpAny_pure (h _ c2 (K1.trans (keep_update _ _ _)) (by rw [Heap.size_update]; exact hz) hc2)
/- the sorted list of a list -/
theorem sorted_own {l : Addr} {p : Array Nat} {f : Nat → Nat → Option Bool} {Q : Value → Shared → Prop} (hl : s.heap.IsList l vs.toArray) (h2 : 2 ≤ vs.length) (h64 : vs.length < 64)
    (hT : ∀ h', (∀ b o, s.heap.get? b = some o → h'.get? b = some o) → ∀ v ∈ vs, W.Looks (model prog w) h' (typeOf v) (.type "list"))
    (hc : ∀ h' i j b (C : Bool → Shared → Prop) s', (∀ b o, s.heap.get? b = some o → h'.get? b = some o) → s'.heap = h' → f i j = some b → C b s' → wpAny (model prog w) A.in1.in1 (keyLt' oneType' (vs.getD i Value.none) (vs.getD j Value.none)) C (fun _ _ => False) s')
    (hr : askRun f (W.kas_sort vs.length) = some p)
    (h : ∀ h' c, (∀ b o, s.heap.get? b = some o → h'.get? b = some o) → s.heap.objs.size ≤ h'.objs.size → h'.get? (s.heap.objs.size + 1) = some (seqObj "list" (p.toList.map fun i => vs.getD i Value.none).toArray c) → Q (.ref (s.heap.objs.size + 1)) { s with heap := h' }) :
    wpAny (model prog w) A (call (.builtin "sorted") [.ref l]) Q E s := by
  refine Calls.call_function_entry kind_sorted plain_sorted entry_sorted (args_sorted1 _) ?_
  unfold Builtin.«sorted»
  refine wpAny_bind (m := checkCount "sorted" 1 1 _) (wpAny_pure ?_)
  refine wpAny_bind (collect_list hl ?_ (by rw [sizeLine_eq]; omega))
  refine wpAny_bind (wpAny_newList ?_ (by rw [sizeLine_eq]; omega))
  have hsz : ((s.heap.push (seqObj "list" #[] 0)).update s.heap.objs.size (Obj.mapSeq (· ++ vs.toArray))).objs.size = s.heap.objs.size + 1 := by
    rw [Heap.size_update, size_push']
  have hoL : (((s.heap.push (seqObj "list" #[] 0)).update s.heap.objs.size (Obj.mapSeq (· ++ vs.toArray))).push (seqObj "list" vs.toArray 0)).get? (s.heap.objs.size + 1) = some (seqObj "list" vs.toArray 0) := by
    rw [← hsz]; exact Heap.get?_push_size _ rfl
  have keep : ∀ b o, s.heap.get? b = some o → (((s.heap.push (seqObj "list" #[] 0)).update s.heap.objs.size (Obj.mapSeq (· ++ vs.toArray))).push (seqObj "list" vs.toArray 0)).get? b = some o := fun b o q =>
    Heap.get?_push_of_some _ ((Heap.get?_update_ne _ _ _ _ (Nat.ne_of_lt (Heap.lt_size q))).trans (Heap.get?_push_of_some _ q))
  have fresh : ∀ b o, s.heap.get? b = some o → b ≠ s.heap.objs.size + 1 := fun b o q => Nat.ne_of_lt (Nat.lt_succ_of_lt (Heap.lt_size q))
  generalize hh : ((s.heap.push (seqObj "list" #[] 0)).update s.heap.objs.size (Obj.mapSeq (· ++ vs.toArray))).push (seqObj "list" vs.toArray 0) = h2' at hoL keep
  have hz : s.heap.objs.size ≤ h2'.objs.size := by rw [← hh, Heap.size_push, hsz]; omega
  show wpAny _ _ _ _ _ { s with heap := h2' }
  rw [hsz]
  refine wpAny_bind (wpAny_holding (wpAny_call_entry slot_list_sort ⟨_, hoL, rfl⟩ entry_list_sort ?body (args_list_sort _)))
  case body =>
    exact sort_own (s := { s with heap := h2' }) hoL h2 h64 (fun h' K => hT h' fun b o e => K b o (fresh b o e) (keep b o e)) (fun h' i j b C s' K e => hc h' i j b C s' (fun b o e => K b o (fresh b o e) (keep b o e)) e) hr
      fun h' c K z e => ⟨_, rfl, wpAny_pure ⟨_, rfl, h h' c (fun b o e => K b o (fresh b o e) (keep b o e)) (Nat.le_trans hz z) e⟩⟩
end
end Mine
end
section
open PySem PyProof.Rows
set_option maxRecDepth 100000
namespace Mine
variable [Ops]
section
variable {C : Cx} {G : Env0} {A : Around} {θ : Th} {H H' : Hp} {ρ : Rho} {env : Env} {α β γ : Type} {ih : Ih} {n : Nat} {vs : List V} {as : List Value}

omit [Ops] in
theorem Yes.one {P : List Value → γ → Prop} {K : V → Option γ} (r : AR θ vs as) (h : ∀ a x, VR θ a x → Yes (P [x]) (K a)) : Yes (P as) (match (generalizing := false) one vs with | some a => K a | .none => .none) := by
  cases vs with
  | nil => exact trivial
  | cons a vs => cases vs with
    | cons => exact trivial
    | nil => cases as with
      | nil => exact r.elim
      | cons x as => cases as with
        | nil => exact h a x r.1
        | cons => exact r.2.elim
theorem Yes.two {P : List Value → γ → Prop} {K : V → V → Option γ} (r : AR θ vs as) (h : ∀ a b x y, VR θ a x → VR θ b y → Yes (P [x, y]) (K a b)) : Yes (P as) (match (generalizing := false) two vs with | some (a, b) => K a b | .none => .none) := by
  cases vs with
  | nil => exact trivial
  | cons a vs => cases vs with
    | nil => exact trivial
    | cons b vs => cases vs with
      | cons => exact trivial
      | nil =>
        obtain ⟨x, y, rfl, r1, r2⟩ := AR.two r
        exact h a b x y r1 r2
theorem Yes.lst {P : Value → γ → Prop} {a : V} {x : Value} {K : Nat → List V → Option γ} (hx : VR θ a x) (h : ∀ l xs p, θ[l]? = some p → Ops.get H l = some (.list xs) → Yes (P (.ref p)) (K l xs)) : Yes (P x) (match (generalizing := false) listOf a H with | some (l, xs) => K l xs | .none => .none) := by
  cases a with
  | ref l =>
    apply hx.ref; intro p e1
    rw [show listOf (.ref l) H = (match Ops.get H l with | some (.list xs) => some (l, xs) | _ => .none) from rfl]
    cases e : Ops.get H l with
    | none => exact trivial
    | some o => cases o with
      | list xs => exact h l xs p e1 e
      | _ => exact trivial
  | _ => exact trivial
theorem with1_yes {P : V → Hp → Prop} {o : Option V} (h : Yes (fun v => P v H) o) : YesH P (with1 H o) := by
  cases o <;> exact h
omit [Ops] in
theorem Yes.fo {Q : γ → Prop} {o : Option UInt64} {P : UInt64 → Prop} {K : UInt64 → Option γ} {b : Option γ} (p : Yes P o) (h : ∀ m, P m → Yes Q (K m)) (h' : Yes Q b) : Yes Q (match (generalizing := false) o with | some m => K m | .none => b) := by
  cases o with
  | none => exact h'
  | some m => exact h m p

noncomputable abbrev BiT (C : Cx) (A : Around) (θ : Th) (b : Bi) (as : List Value) (H : Hp) (v : V) (H' : Hp) : Prop := TriV C A θ H (call (biVal b) as) v H'
theorem fin_len {s : Shared} (S : St C θ H s) (i : Int) : Nx C θ s { s with toks := s.toks + 1 + 1 } fun θ' H' => H' = H ∧ VR θ' (.int i) (.int i (s.toks + 1)) := fin_tok S (Nat.le_add_right _ 2) ⟨rfl, s.toks + 1, trivial, rfl⟩
theorem len_at {p : Addr} {xs : List V} {its : Array Value} {s : Shared} (S : St C θ H s) (g : s.heap.IsList p its) (r : AR θ xs its.toList) (hf : fits xs.length = true) : wpAny (model C.prog C.w) A (call (.builtin "len") [.ref p]) (fun a s' => Nx C θ s s' fun θ' H' => H' = H ∧ VR θ' (.int (xs.length : Int)) a) (fun _ _ => False) s :=
  PyProof.Rows.len_list g (by rw [r.size]; exact fits_hi hf) (by rw [r.size]; exact fin_len S _)
noncomputable abbrev LnT (C : Cx) (A : Around) (θ : Th) (H : Hp) (x : Value) (n : Nat) : Prop := fits n = true → TriV C A θ H (call (.builtin "len") [x]) (.int (n : Int)) H
theorem seqLen_yes {a : V} {x : Value} (hx : VR θ a x) : Yes (LnT C A θ H x) (seqLen a H) := by
  cases a with
  | str z =>
    apply hx.str; intro t ht
    exact fun hf s S => P.len_str (Int.not_le.mpr (fits_hi hf)) (fin_len S _)
  | ref l =>
    apply hx.ref; intro p e1
    rw [show seqLen (.ref l) H = (match Ops.get H l with | some (.list xs) => some xs.length | some (.xl xs _) => some xs.length | _ => .none) from rfl]
    cases e : Ops.get H l with
    | none => exact trivial
    | some o => cases o with
      | list xs => exact fun hf s S => let ⟨a1, n1, g1, r1⟩ := S.listAt e e1; len_at S g1.isList r1 hf
      | xl xs its => exact fun hf s S => len_at S (S.xlAt e e1).1.isList (S.xlAt e e1).2 hf
      | _ => exact trivial
  | _ => exact trivial
theorem biLen_yes (r : AR θ vs as) : YesH (BiT C A θ .len as H) (biV_len vs H) :=
  Yes.one (P := fun as (p : V × Hp) => BiT C A θ .len as H p.1 p.2) r fun a x hx => Yes.n' (seqLen_yes hx) fun n h => Yes.t h
theorem dm_tri {a b : Int} {t u : Tok} (q1 : ieq b 0 = false) (q2 : fits (ib b) = true) : BiT C A θ .divmod [.int a t, .int b u] H (.ref (Ops.len H)) (Ops.app H [.tup [.int (Int.fdiv a b), .int (Int.fmod a b)]]) := fun s S =>
  divmod_int (ieq_false q1) (fin_new S (.tup [.int (Int.fdiv a b), .int (Int.fmod a b)]) rfl ⟨#[.int (Int.fdiv a b) s.toks, .int (Int.fmod a b) (s.toks + 1)], 0, rfl, ⟨s.toks, trivial, rfl⟩, ⟨s.toks + 1, trivial, rfl⟩, trivial⟩ (Nat.le_add_right _ 2) ⟨rfl, new_ref S.len⟩) (.inl (log_le (ieq_false q1) q2))
theorem biDm_yes (r : AR θ vs as) : YesH (BiT C A θ .divmod as H) (biV_divmod vs H) :=
  Yes.two (P := fun as (p : V × Hp) => BiT C A θ .divmod as H p.1 p.2) r fun a b x y hx hy => Yes.ii hx hy fun i j t u e1 e2 => by
    subst e1; subst e2
    exact Yes.ft fun q1 q2 => dm_tri q1 q2

omit [Ops] in
theorem flts_yes : ∀ vs : List V, Yes (fun l => vs = l.map .flt) (flts vs)
  | [] => rfl
  | v :: r => by
    cases v with
    | flt a =>
      show Yes _ (match flts r with | some l => some (a :: l) | .none => .none)
      have := flts_yes r
      revert this
      cases flts r with
      | none => exact fun h => trivial
      | some l => exact fun h => congrArg (V.flt a :: ·) h
    | _ => exact trivial
noncomputable def Three (f : UInt64 → UInt64 → UInt64) (vs : List V) (m : UInt64) : Prop := ∃ a b c, vs = [.flt a, .flt b, .flt c] ∧ m = f (f a b) c
theorem three_yes (f : UInt64 → UInt64 → UInt64) (vs : List V) : Yes (Three f vs) (three f vs) := by
  unfold three
  have h := flts_yes vs
  revert h
  cases flts vs with
  | none => exact fun _ => trivial
  | some l => cases l with
    | nil => exact fun _ => trivial
    | cons a l => cases l with
      | nil => exact fun _ => trivial
      | cons b l => cases l with
        | nil => exact fun _ => trivial
        | cons c l => cases l with
          | nil => exact fun h => ⟨a, b, c, h, rfl⟩
          | cons => exact fun _ => trivial
theorem max_args {m : UInt64} (hh : A.handled = none) (r : AR θ vs as) (h : Three fmax vs m) : TriV C A θ H (call (.builtin "max") as) (.flt m) H := by
  obtain ⟨a, b, c, rfl, rfl⟩ := h
  obtain ⟨x, y, z, rfl, r1, r2, r3⟩ := AR.three r
  exact max3_sound hh r1 r2 r3
theorem min_args {m : UInt64} (hh : A.handled = none) (r : AR θ vs as) (h : Three fmin vs m) : TriV C A θ H (call (.builtin "min") as) (.flt m) H := by
  obtain ⟨a, b, c, rfl, rfl⟩ := h
  obtain ⟨x, y, z, rfl, r1, r2, r3⟩ := AR.three r
  exact min3_sound hh r1 r2 r3
theorem max_list {m : UInt64} {l : Nat} {p : Addr} (hh : A.handled = none) (e1 : θ[l]? = some p) (e : Ops.get H l = some (.list vs)) (h : Three fmax vs m) : TriV C A θ H (call (.builtin "max") [.ref p]) (.flt m) H := by
  obtain ⟨a, b, c, rfl, rfl⟩ := h
  exact maxL_sound hh ⟨p, e1, rfl⟩ e
noncomputable abbrev BvA (C : Cx) (A : Around) (θ : Th) (b : Bi) (H : Hp) (as : List Value) (v : V) : Prop := BiT C A θ b as H v H
theorem biMax_yes (hh : A.handled = none) (r : AR θ vs as) : Yes (BvA C A θ .max H as) (biV_max vs H) :=
  Yes.fo (three_yes fmax vs) (fun m h => Yes.ok (max_args hh r h)) (Yes.one (P := BvA C A θ .max H) r fun a x hx => Yes.lst (P := fun x => BvA C A θ .max H [x]) hx fun l xs p e1 e => Yes.fo (three_yes fmax xs) (fun m h => Yes.ok (max_list hh e1 e h)) trivial)
theorem biMin_yes (hh : A.handled = none) (r : AR θ vs as) : Yes (BvA C A θ .min H as) (biV_min vs) :=
  Yes.fo (three_yes fmin vs) (fun m h => Yes.ok (min_args hh r h)) trivial
omit [Ops] in
theorem Yes.ofI {Q : γ → Prop} {o : Option Int} {P : Int → Prop} {K : Int → Option γ} (p : Yes P o) (h : ∀ m, P m → Yes Q (K m)) : Yes Q (match (generalizing := false) o with | some m => K m | .none => .none) := by
  cases o with
  | none => exact trivial
  | some m => exact h m p
theorem Yes.vflt {P : Value → γ → Prop} {a : V} {x : Value} {K : UInt64 → Option γ} (hx : VR θ a x) (h : ∀ i t, Yes (P (.float i t)) (K i)) : Yes (P x) (match (generalizing := false) vFlt a with | some i => K i | .none => .none) := by
  cases a with
  | flt i => apply hx.flt; intro t ht; exact h i t
  | _ => exact trivial
omit [Ops] in
theorem trunc_yes {a : UInt64} : Yes (fun i => ∃ n m e, Float64.decode a = .fin n m e ∧ i = Float64.truncOf n m e) (truncI a) := by
  unfold truncI
  cases e : Float64.decode a with
  | fin n m e1 => exact ⟨n, m, e1, rfl, rfl⟩
  | _ => exact trivial
theorem biInt_yes (r : AR θ vs as) : Yes (BvA C A θ .int H as) (biV_int vs) :=
  Yes.one (P := BvA C A θ .int H) r fun a x hx => Yes.vflt (P := fun x => BvA C A θ .int H [x]) hx fun i t => Yes.ofI trunc_yes fun k ⟨n, m, e, h1, h2⟩ => by
    subst h2; exact fun s S => call_int_float h1 (fin_int S _)
/- the sum of a list of ints -/
omit [Ops] in
theorem Yes.il {Q : γ → Prop} {o : Option (List Int)} {P : List Int → Prop} {K : List Int → Option γ} (p : Yes P o) (h : ∀ a, P a → Yes Q (K a)) : Yes Q (match (generalizing := false) o with | some a => K a | .none => .none) := by
  cases o with
  | none => exact trivial
  | some q => exact h _ p
theorem AR.ints : ∀ {vs : List V} {as : List Value}, AR θ vs as → Yes (fun is => ∃ xs : List (Int × Tok), as = xs.map (fun p => .int p.1 p.2) ∧ is = xs.map (·.1)) (intsOf vs)
  | [], [], _ => ⟨[], rfl, rfl⟩
  | v :: vs, a :: as, r => by
    cases v with
    | int i =>
      obtain ⟨t, ht, e⟩ := r.1
      exact Yes.il (AR.ints r.2) fun l ⟨xs, h1, h2⟩ => ⟨(i, t) :: xs, by rw [e, h1]; rfl, congrArg (i :: ·) h2⟩
    | _ => exact trivial
omit [Ops] in
theorem isum_pre : ∀ (xs : List Int) (f : Nat → Int), (∀ i, i < xs.length → f i = xs.getD i 0) → isum xs = preSum f xs.length
  | [], f, h => rfl
  | x :: xs, f, h => by
    have e : ∀ n, preSum f (n + 1) = f 0 + preSum (fun i => f (i + 1)) n := fun n => by
      induction n with
      | zero => show 0 + f 0 = f 0 + 0; rw [Int.zero_add, Int.add_zero]
      | succ n ih => show preSum f (n + 1) + f (n + 1) = f 0 + (preSum (fun i => f (i + 1)) n + f (n + 1)); rw [ih, Int.add_assoc]
    show x + isum xs = preSum f (xs.length + 1)
    rw [e, isum_pre xs (fun i => f (i + 1)) fun i hi => h (i + 1) (Nat.succ_lt_succ hi), h 0 (Nat.succ_pos _)]
    rfl
theorem sum_at {l : Nat} {xs : List V} {p : Addr} {is : List Int} (hh : A.handled = none) (e1 : θ[l]? = some p) (hl : Ops.get H l = some (.list xs)) (h : intsOf xs = some is) : TriV C A θ H (call (.builtin "sum") [.ref p]) (.int (isum is)) H := Tri.of fun s S => by
  obtain ⟨a1, n1, g1, r1⟩ := S.listAt hl e1
  obtain ⟨ys, h1, h2⟩ := r1.ints.get h
  have ha : a1 = intItems ys.toArray := by
    apply Array.toList_inj.mp
    rw [h1]; unfold intItems; simp
  have hs : preSum (numAt ys.toArray) ys.toArray.size = isum is := by
    rw [h2, isum_pre _ (numAt ys.toArray) fun i hi => by unfold numAt; simp [List.getD]]
    simp
  refine sum_intListG hh (ha ▸ g1.isList) fun h' tk t' hk => ?_
  rw [hs]
  intro hk0 hz0
  exact fin_heap S hk0 hz0 hk ⟨rfl, t', trivial, rfl⟩
theorem biSum_yes (hh : A.handled = none) (r : AR θ vs as) : Yes (BvA C A θ .sum H as) (biV_sum vs H) :=
  Yes.one (P := BvA C A θ .sum H) r fun a x hx => Yes.lst (P := fun x => BvA C A θ .sum H [x]) hx fun l xs p e1 hl => Yes.il Yes.self fun is h => Yes.ok (sum_at hh e1 hl h)
/- a list of lists of ints, sorted -/
noncomputable def RowAt (s : Shared) (v : Value) (r : List Int) : Prop := ∃ (p : Addr) (zs : List (Int × Tok)) (n : Nat), v = .ref p ∧ s.heap.get? p = some (seqObj "list" (zs.map numV).toArray n) ∧ r = zs.map (·.1)
theorem Yes.lst' {Q : γ → Prop} {a : V} {x : Value} {K : Nat → List V → Option γ} (hx : VR θ a x) (h : ∀ l xs p, x = .ref p → θ[l]? = some p → Ops.get H l = some (.list xs) → Yes Q (K l xs)) : Yes Q (match (generalizing := false) listOf a H with | some (l, xs) => K l xs | .none => .none) :=
  Yes.lst (P := fun x' q => x = x' → Q q) (K := fun l xs => K l xs) hx (fun l xs p e1 hl => Yes.of fun q e ex => (h l xs p ex e1 hl).get e) |>.mono fun q f => f rfl
omit [Ops] in
theorem Yes.lli {Q : γ → Prop} {o : Option (List (List Int))} {P : List (List Int) → Prop} {K : List (List Int) → Option γ} (p : Yes P o) (h : ∀ a, P a → Yes Q (K a)) : Yes Q (match (generalizing := false) o with | some a => K a | .none => .none) := by
  cases o with
  | none => exact trivial
  | some q => exact h _ p
omit [Ops] in
theorem Yes.an {Q : γ → Prop} {o : Option (List Nat)} {P : List Nat → Prop} {K : List Nat → Option γ} (p : Yes P o) (h : ∀ a, P a → Yes Q (K a)) : Yes Q (match (generalizing := false) o with | some a => K a | .none => .none) := by
  cases o with
  | none => exact trivial
  | some q => exact h _ p
theorem rows_at {s : Shared} (S : St C θ H s) : ∀ {xs : List V} {as : List Value}, AR θ xs as → Yes (fun rows => ∀ i, i < as.length → RowAt s (as.getD i .none) (rows.getD i [])) (rowsOf H xs)
  | [], [], _ => fun i hi => nomatch hi
  | v :: xs, a :: as, r => Yes.lst' r.1 fun l ys p e e1 hl => Yes.il Yes.self fun is h => Yes.lli (rows_at S r.2) fun rows h2 => by
    obtain ⟨a1, n1, g1, r1⟩ := S.listAt hl e1
    obtain ⟨zs, q1, q2⟩ := r1.ints.get h
    have ha : a1 = (zs.map numV).toArray := Array.toList_inj.mp (by rw [q1])
    intro i hi
    cases i with
    | zero => exact ⟨p, zs, n1, e, ha ▸ g1, q2⟩
    | succ i => exact h2 i (Nat.lt_of_succ_lt_succ hi)
omit [Ops] in
theorem AR.getD {xs : List V} {as : List Value} (r : AR θ xs as) (i : Nat) : VR θ (xs.getD i .none) (as.getD i .none) := by
  rw [List.getD_eq_getElem?_getD, List.getD_eq_getElem?_getD]
  cases e : xs[i]? with
  | some v =>
    obtain ⟨a, e2, e3⟩ := r.get e
    rw [e2]; exact e3
  | none =>
    rw [List.getElem?_eq_none (l := as) (r.length ▸ List.getElem?_eq_none_iff.mp e)]
    rfl
theorem AR.pick {xs : List V} {as : List Value} (r : AR θ xs as) : ∀ is : List Nat, AR θ (is.map fun i => xs.getD i .none) (is.map fun i => as.getD i .none)
  | [] => trivial
  | i :: is => ⟨r.getD i, r.pick is⟩
omit [Ops] in
theorem cmpR_yes (n : Nat) (rows : List (List Int)) (i j : Nat) : Yes (fun b => i < n ∧ j < n ∧ b = ltRa (rows.getD i []) (rows.getD j [])) (cmpR n rows i j) :=
  Yes.t fun h1 => Yes.t fun h2 => Yes.ok ⟨W.X.blt_true h1, W.X.blt_true h2, by rw [getR_eq, getR_eq]⟩
theorem sorted_at {l : Nat} {xs : List V} {p : Addr} {rows : List (List Int)} {q : List Nat} (hu : A.units + 8 < cLine) (e1 : θ[l]? = some p) (hl : Ops.get H l = some (.list xs)) (h2 : Nat.ble 2 xs.length = true) (h64 : Nat.blt xs.length 64 = true) (hr : rowsOf H xs = some rows)
    (h : sortL (cmpR xs.length rows) xs.length = some q) : TriV C A θ H (call (.builtin "sorted") [.ref p]) (.ref (Ops.len H)) (Ops.app H [.list (q.map fun i => xs.getD i .none)]) := fun s S => by
  obtain ⟨a1, n1, g1, r1⟩ := S.listAt hl e1
  have hrow := (rows_at S r1).get hr
  have hlen := r1.length
  have at_ : ∀ h' : Heap, (∀ b o, s.heap.get? b = some o → h'.get? b = some o) → ∀ v ∈ a1.toList, W.Looks (model C.prog C.w) h' (typeOf v) (.type "list") := fun h' k v m => by
    obtain ⟨i, hi, e⟩ := List.mem_iff_getElem.mp m
    obtain ⟨p', zs, n', e2, e3, _⟩ := hrow i hi
    rw [List.getD_eq_getElem?_getD, List.getElem?_eq_getElem hi] at e2
    have e2 : a1.toList[i] = .ref p' := e2
    rw [← e, e2]
    exact fun A Q E s' k' hq => wpAny_typeOf (T := "list") ⟨_, k' _ _ (k _ _ e3), rfl⟩ hq
  have hs : askRun (cmpR xs.length rows) (W.kas_sort xs.length) = some q.toArray := by rw [sort_eq, h]; rfl
  refine sorted_own (vs := a1.toList) (p := q.toArray) (f := cmpR xs.length rows) (by rw [Array.toArray_toList]; exact g1.isList) (hlen ▸ Nat.le_of_ble_eq_true h2) (hlen ▸ W.X.blt_true h64) at_ (fun h' i j b Cc s' k e hf hC => ?_) (hlen ▸ hs) fun h' c k hz e => ?_
  · obtain ⟨hi, hj, hb⟩ := (cmpR_yes xs.length rows i j).get hf
    obtain ⟨p1, zs1, n1', q1, q2, q3⟩ := hrow i (hlen ▸ hi)
    obtain ⟨p2, zs2, n2', q4, q5, q6⟩ := hrow j (hlen ▸ hj)
    rw [q1, q4]
    subst e
    exact key_lt (show A.units + 1 + 1 < cLine by omega) (k _ _ q2) (k _ _ q5) (by rw [← q3, ← q6, ← hb]; exact hC)
  · have x := S.new (s' := { s with heap := h' }) (o := .list (q.map fun i => xs.getD i .none)) (x := s.heap.objs.size + 1) (Nat.le_succ _) e ⟨_, c, rfl, (r1.mono (Ext.app θ _)).pick _⟩ k (Nat.le_refl _) rfl rfl
    refine .mk' x.2 x.1 ⟨rfl, s.heap.objs.size + 1, ?_, rfl⟩
    show (θ.l ++ [_])[(Ops.len H)]? = _
    rw [← S.len]; exact List.getElem?_concat_length
omit [Ops] in
theorem sortP_yes (xs : List V) (rows : List (List Int)) : Yes (fun q => Nat.ble 2 xs.length = true ∧ Nat.blt xs.length 64 = true ∧ sortL (cmpR xs.length rows) xs.length = some q) (sortP xs rows) :=
  Yes.t fun h1 => Yes.t fun h2 => Yes.of fun q h => ⟨h1, h2, h⟩
theorem biSorted_yes (hu : A.units + 8 < cLine) (r : AR θ vs as) : YesH (BiT C A θ .sorted as H) (biV_sorted vs H) :=
  Yes.one (P := fun as (q : V × Hp) => BiT C A θ .sorted as H q.1 q.2) r fun a x hx => Yes.lst (P := fun x (q : V × Hp) => BiT C A θ .sorted [x] H q.1 q.2) hx fun l xs p e1 hl => Yes.lli Yes.self fun rows hr => Yes.an (sortP_yes xs rows) fun q h =>
    Yes.ok (sorted_at hu e1 hl h.1 h.2.1 hr h.2.2)
theorem biV_yes (hh : A.handled = none) (hu : A.units + 8 < cLine) (r : AR θ vs as) : ∀ b, YesH (BiT C A θ b as H) (biV b vs H)
  | .len => biLen_yes r
  | .divmod => biDm_yes r
  | .max => with1_yes (biMax_yes hh r)
  | .min => with1_yes (biMin_yes hh r)
  | .int => with1_yes (biInt_yes r)
  | .sum => with1_yes (biSum_yes hh r)
  | .sorted => biSorted_yes hu r
  | .range => trivial
  | .reversed => trivial
  | .zip => trivial
end
end Mine
end
section
open PySem PyProof.Rows
set_option maxRecDepth 100000
namespace Mine
variable [Ops]

noncomputable def meId : Me → String
  | .append => "list.append"
  | .reverse => "list.reverse"
  | .count => "str.count"
  | .replace => "str.replace"
  | .join => "str.join"
  | .bitLength => "int.bit_length"
noncomputable def meT : Me → String
  | .append => "list"
  | .reverse => "list"
  | .count => "str"
  | .replace => "str"
  | .join => "str"
  | .bitLength => "int"

/- a search finds one of the rows -/
theorem find_yes {α : Type} {P : Str → α → Prop} {x : Str} : ∀ {l : List (Str × α)}, (∀ p ∈ l, P p.1 p.2) → Yes (P x) (find x l)
  | [], _ => trivial
  | (y, v) :: r, h => Yes.b (fun q => by rw [seq_iff.mp q]; exact h (y, v) (List.mem_cons_self ..)) fun _ => find_yes fun p hp => h p (List.mem_cons_of_mem _ hp)
structure MeR (x : Str) (m : Me) : Prop where
  slot : Slot (meT m) x (meId m)
  plain : PlainAttrs (meT m)
  ty : typeOf (.builtin (meId m)) = pure (.type "method_descriptor")
theorem meOf_yes {x : Str} : Yes (MeR x) (meOf x) := find_yes (List.forall_mem_cons.mpr ⟨⟨F.slot_list_append, F.plainAttrs_list, F.type_list_append⟩, List.forall_mem_cons.mpr ⟨⟨F.slot_str_count, F.plainAttrs_str, F.type_str_count⟩,
  List.forall_mem_cons.mpr ⟨⟨F.slot_str_replace, F.plainAttrs_str, F.type_str_replace⟩, List.forall_mem_cons.mpr ⟨⟨F.slot_str_join, F.plainAttrs_str, F.type_str_join⟩, List.forall_mem_cons.mpr ⟨⟨F.slot_int_bit_length, F.plainAttrs_int, F.type_int_bit_length⟩,
  List.forall_mem_cons.mpr ⟨⟨F.slot_list_reverse, F.plainAttrs_list, F.type_list_reverse⟩, fun _ h => nomatch h⟩⟩⟩⟩⟩⟩)

omit [Ops] in
theorem repl1_app (c d : Nat) : ∀ a b : List Nat, repl1 c d (a ++ b) = repl1 c d a ++ repl1 c d b
  | [], _ => rfl
  | k :: r, b => by
    show (match Nat.beq k c with | true => d :: repl1 c d (r ++ b) | false => k :: repl1 c d (r ++ b)) = (match Nat.beq k c with | true => d :: repl1 c d r | false => k :: repl1 c d r) ++ _
    rw [repl1_app c d r b]
    cases Nat.beq k c <;> rfl
omit [Ops] in
theorem repl1_free (c d : Nat) : ∀ l : List Nat, c ∉ l → repl1 c d l = l
  | [], _ => rfl
  | k :: r, h => by
    have h1 : Nat.beq k c = false := by
      cases e : Nat.beq k c with
      | false => rfl
      | true => exact absurd (Nat.eq_of_beq_eq_true e ▸ List.mem_cons_self ..) h
    show (match Nat.beq k c with | true => d :: repl1 c d r | false => k :: repl1 c d r) = _
    rw [h1, repl1_free c d r fun m => h (List.mem_cons_of_mem _ m)]
omit [Ops] in
theorem repl1_one (c d : Nat) : repl1 c d [c] = [d] := by
  show (match Nat.beq c c with | true => [d] | false => [c]) = _
  rw [Nat.beq_refl]
theorem repl1_join (c d : Nat) : ∀ parts : List Str, (∀ p ∈ parts, c ∉ p.cps.toList) → repl1 c d (Str.join ⟨#[c]⟩ parts).cps.toList = (Str.join ⟨#[d]⟩ parts).cps.toList
  | [], _ => rfl
  | [p], h => repl1_free c d _ (h p (List.mem_singleton.mpr rfl))
  | p :: q :: r, h => by
    have ih := repl1_join c d (q :: r) fun a ha => h a (List.mem_cons_of_mem _ ha)
    show repl1 c d (p ++ ⟨#[c]⟩ ++ Str.join ⟨#[c]⟩ (q :: r)).cps.toList = (p ++ ⟨#[d]⟩ ++ Str.join ⟨#[d]⟩ (q :: r)).cps.toList
    simp only [Str.cps_append, Array.toList_append]
    rw [repl1_app, repl1_app, ih, repl1_free c d _ (h p (List.mem_cons_self ..))]
    show p.cps.toList ++ repl1 c d [c] ++ _ = _
    rw [repl1_one]
theorem replace_repl1 (x : List Nat) (c d : Nat) : Txt.replace ⟨⟨x⟩⟩ ⟨#[c]⟩ ⟨#[d]⟩ = ⟨⟨repl1 c d x⟩⟩ := by
  have : (Txt.replace ⟨⟨x⟩⟩ ⟨#[c]⟩ ⟨#[d]⟩).cps.toList = repl1 c d x := by
    rw [StrLaws.replace_one, ← repl1_join c d _ (StrLaws.split_free ⟨⟨x⟩⟩ c), StrLaws.join_split]
  generalize Txt.replace ⟨⟨x⟩⟩ ⟨#[c]⟩ ⟨#[d]⟩ = y at this
  obtain ⟨⟨y⟩⟩ := y
  simp at this
  rw [this]

omit [Ops] in
theorem count_count1 (x : List Nat) (c : Nat) : Txt.count ⟨⟨x⟩⟩ ⟨#[c]⟩ = (count1 c x : Int) := by
  rw [count_cnt]
  show cnt c x = _
  induction x with
  | nil => rfl
  | cons k r ih =>
    rw [cnt_cons, ih]
    show _ = (((match Nat.beq k c with | true => count1 c r + 1 | false => count1 c r : Nat)) : Int)
    cases e : Nat.beq k c with
    | true => rw [if_pos (Nat.eq_of_beq_eq_true e)]; show (1 : Int) + _ = ((count1 c r + 1 : Nat) : Int); omega
    | false => rw [if_neg (Nat.ne_of_beq_eq_false e)]; show (0 : Int) + _ = ((count1 c r : Nat) : Int); omega

omit [Ops] in
theorem cat_len : ∀ ls : List (List Nat), (cat ls).length = ((ls.map fun l => (⟨⟨l⟩⟩ : Str)).map (·.length)).sum
  | [] => rfl
  | x :: r => by
    show (x ++ cat r).length = _
    rw [List.length_append, cat_len r]
    rfl

omit [Ops] in
theorem join_cat : ∀ ls : List (List Nat), Str.join ⟨⟨[]⟩⟩ (ls.map fun l => (⟨⟨l⟩⟩ : Str)) = ⟨⟨cat ls⟩⟩
  | [] => rfl
  | [x] => by show (⟨⟨x⟩⟩ : Str) = ⟨⟨x ++ []⟩⟩; rw [List.append_nil]
  | x :: y :: r => by
    show (⟨⟨x⟩⟩ : Str) ++ ⟨⟨[]⟩⟩ ++ Str.join ⟨⟨[]⟩⟩ ((y :: r).map fun l => (⟨⟨l⟩⟩ : Str)) = ⟨⟨x ++ cat (y :: r)⟩⟩
    rw [join_cat (y :: r)]
    show Str.mk (_ ++ _ ++ _) = _
    simp

section
variable {C : Cx} {G : Env0} {A : Around} {θ : Th} {H H' : Hp} {ρ : Rho} {env : Env} {α β γ : Type} {ih : Ih} {n : Nat} {vs : List V} {as : List Value} {o : V} {x : Value}

/- the texts of a list, with their tokens -/
structure StrsT (as : List Value) (ls : List (List Nat)) (l : List (Str × Tok)) : Prop where
  as : as = strValues l
  ls : l.map (·.1) = ls.map (fun l => ⟨⟨l⟩⟩)
  tok : ∀ p ∈ l, p.2 ≠ 0
omit [Ops] in
theorem strs_toks : ∀ {vs : List V} {as : List Value}, AR θ vs as → Yes (fun ls => ∃ l, StrsT as ls l) (strsOf vs)
  | [], [], _ => ⟨[], rfl, rfl, fun _ h => nomatch h⟩
  | v :: vs, a :: as, r => by
    cases v with
    | str z =>
      refine Yes.ls (strs_toks r.2) fun ls ⟨l, h⟩ => ?_
      obtain ⟨t, ht, e⟩ := r.1
      exact ⟨(⟨⟨z⟩⟩, t) :: l, by rw [e, h.as]; rfl, congrArg (_ :: ·) h.ls, List.forall_mem_cons.mpr ⟨ht, h.tok⟩⟩
    | _ => exact trivial

structure RcT (s : Shared) (x : Value) (T : String) : Prop where
  ty : s.TypeIs x T
  dict : ∀ a, x = .ref a → ∃ ob, s.heap.get? a = some ob ∧ ob.dict = none
theorem rc_list {s : Shared} (S : St C θ H s) (hx : VR θ o x) (h : isSome (listOf o H) = true) : RcT s x "list" := by
  have : Yes (fun _ => RcT s x "list") (listOf o H) := by
    cases o with
    | ref l =>
      apply hx.ref; intro p e1
      exact Yes.list fun xs hl => Yes.ok (let ⟨a1, n1, g1, r1⟩ := S.listAt hl e1; ⟨⟨_, g1, rfl⟩, fun a e => by cases e; exact ⟨_, g1, rfl⟩⟩)
    | _ => exact trivial
  revert this h
  cases listOf o H with
  | none => exact fun h => nomatch h
  | some p => exact fun _ h => h
theorem rc_str {s : Shared} (hx : VR θ o x) (h : isSome (vStr o) = true) : RcT s x "str" := by
  cases o with
  | str l => apply hx.str; intro t ht; exact ⟨typeIs_str _ _ _, fun a e => nomatch e⟩
  | _ => cases h
theorem rc_int {s : Shared} (hx : VR θ o x) (h : isSome (vInt o) = true) : RcT s x "int" := by
  cases o with
  | int l => apply hx.int; intro t ht; exact ⟨typeIs_int _ _ _, fun a e => nomatch e⟩
  | _ => cases h
theorem recv_type {s : Shared} (S : St C θ H s) (hx : VR θ o x) : ∀ m, recvOk m o H = true → RcT s x (meT m)
  | .append, h => rc_list S hx h
  | .reverse, h => rc_list S hx h
  | .bitLength, h => rc_int hx h
  | .count, h => rc_str hx h
  | .join, h => rc_str hx h
  | .replace, h => rc_str hx h

noncomputable abbrev MeT' (C : Cx) (A : Around) (θ : Th) (m : Me) (x : Value) (as : List Value) (H : Hp) (v : V) (H' : Hp) : Prop := TriV C A θ H (call (.builtin (meId m)) (x :: as)) v H'
noncomputable abbrev MeA (C : Cx) (A : Around) (θ : Th) (m : Me) (H : Hp) (x : Value) (as : List Value) (v : V) : Prop := MeT' C A θ m x as H v H
theorem Yes.vstr {P : Value → γ → Prop} {a : V} {x : Value} {K : List Nat → Option γ} (hx : VR θ a x) (h : ∀ i t, t ≠ 0 → Yes (P (.str ⟨⟨i⟩⟩ t)) (K i)) : Yes (P x) (match (generalizing := false) vStr a with | some i => K i | .none => .none) := by
  cases a with
  | str i => apply hx.str; intro t ht; exact h i t ht
  | _ => exact trivial
theorem Yes.vint {P : Value → γ → Prop} {a : V} {x : Value} {K : Int → Option γ} (hx : VR θ a x) (h : ∀ i t, Yes (P (.int i t)) (K i)) : Yes (P x) (match (generalizing := false) vInt a with | some i => K i | .none => .none) := by
  cases a with
  | int i => apply hx.int; intro t ht; exact h i t
  | _ => exact trivial
omit [Ops] in
theorem Yes.noVs {P : List Value → γ → Prop} {K : Option γ} (r : AR θ vs as) (h : Yes (P []) K) : Yes (P as) (match (generalizing := false) noVs vs with | true => K | false => .none) := by
  cases vs with
  | cons => exact trivial
  | nil => cases as with
    | nil => exact h
    | cons => exact r.elim
omit [Ops] in
theorem sign1_yes (c : List Nat) : Yes (fun k => c = [k]) (sign1 c) := by
  cases c with
  | nil => exact trivial
  | cons a c => cases c with
    | nil => exact rfl
    | cons => exact trivial
theorem append_tri {l : Nat} {xs : List V} {p : Addr} {u : V} {a : Value} (e1 : θ[l]? = some p) (hl : Ops.get H l = some (.list xs)) (hf : fits xs.length = true) (ra : VR θ u a) : MeT' C A θ .append (.ref p) [a] H .none (Ops.set H l (.list (xs ++ [u]))) := fun s S => by
  obtain ⟨a1, n1, g1, r1⟩ := S.listAt hl e1
  refine call_meets F.slot_list_append ⟨_, g1, rfl⟩ F.entry_list_append (F.args_list_append_2 _ _) (list_append p a1 n1 a (by rw [r1.size]; exact fits_sz hf)) ⟨g1, ?_⟩
  refine fin_upd S (.list (xs ++ [u])) e1 (g1.update _) ⟨_, _, rfl, ?_⟩ (fun b o n e => (Heap.get?_update_other _ _ (Ne.symm n)).trans e) (Nat.le_of_eq (Heap.size_after_update ..).symm) (Nat.le_refl _) ⟨rfl, rfl⟩
  rw [Array.toList_push]
  exact r1.snoc ra
theorem reverse_tri {l : Nat} {xs : List V} {p : Addr} (e1 : θ[l]? = some p) (hl : Ops.get H l = some (.list xs)) (hf : fits xs.length = true) : MeT' C A θ .reverse (.ref p) [] H .none (Ops.set H l (.list xs.reverse)) := fun s S => by
  obtain ⟨a1, n1, g1, r1⟩ := S.listAt hl e1
  refine call_meets F.slot_list_reverse ⟨_, g1, rfl⟩ F.entry_list_reverse (F.args_list_reverse_1 _) (AutoSeq1.list_reverse_list_0 p a1 n1 (by rw [r1.size]; exact fits_sz hf)) ⟨g1, ?_⟩
  refine fin_upd S (.list xs.reverse) e1 (g1.update _) ⟨_, _, rfl, ?_⟩ (fun b o n e => (Heap.get?_update_other _ _ (Ne.symm n)).trans e) (Nat.le_of_eq (Heap.size_after_update ..).symm) (Nat.le_refl _) ⟨rfl, rfl⟩
  rw [Array.toList_reverse]
  exact r1.reverse
theorem count_tri {z : List Nat} {c : Nat} {t u : Tok} : MeA C A θ .count H (.str ⟨⟨z⟩⟩ t) [.str ⟨⟨[c]⟩⟩ u] (.int (count1 c z : Int)) := fun s S =>
  SC.count (by rw [count_count1]; exact fin_int S _)
omit [Ops] in
theorem one_text {pr : Str × Tok} {ls : List (List Nat)} (h : [pr].map (·.1) = ls.map fun l => (⟨⟨l⟩⟩ : Str)) : pr.1 = ⟨⟨cat ls⟩⟩ := by
  cases ls with
  | nil => cases h
  | cons z r => cases r with
    | nil => injection h with h; exact (show pr.1 = ⟨⟨z⟩⟩ from h).trans (congrArg (fun l => (⟨⟨l⟩⟩ : Str)) (List.append_nil z).symm)
    | cons => injection h with _ h; cases h
theorem join_tri {l : Nat} {xs : List V} {p : Addr} {t : Tok} {ls : List (List Nat)} (e1 : θ[l]? = some p) (hl : Ops.get H l = some (.list xs)) (hs : strsOf xs = some ls) (hf : fits (cat ls).length = true) : MeA C A θ .join H (.str ⟨⟨[]⟩⟩ t) [.ref p] (.str (cat ls)) := fun s S => by
  obtain ⟨a1, n1, g1, r1⟩ := S.listAt hl e1
  obtain ⟨ps, q⟩ := (strs_toks r1).get hs
  have hJ : JoinOk ⟨⟨[]⟩⟩ (ps.map (·.1)) = true := joinOk_of (by
    rw [q.ls, ← cat_len]
    show (cat ls).length + _ * 0 ≤ _
    rw [Nat.mul_zero]; exact Nat.le_trans (fits_le hf) (by decide))
  have e : a1 = (strValues ps).toArray := by rw [← q.as]
  subst e
  have hJ' : Builtin.Str.tooLong ((ps.map (·.1)).toArray.foldl (· + ·.length + (⟨⟨[]⟩⟩ : Str).length) 0) = false := by
    unfold JoinOk at hJ
    rwa [Bool.not_eq_true'] at hJ
  refine call_meets F.slot_str_join (typeIs_str _ _ _) F.entry_str_join (F.args_str_join_2 _ _) (meets_str_join_list ⟨⟨[]⟩⟩ t p ps hJ') ⟨g1.isList, ?_⟩
  have hg : Builtin.Str.glued ⟨⟨[]⟩⟩ (ps.map (·.1)) = ⟨⟨cat ls⟩⟩ := by
    rw [StrLaws.glued_eq_join, q.ls, join_cat]
  have hm := Made.strOk S hg (fits_sz hf)
  cases ps with
  | nil => exact hm
  | cons pr ps => cases ps with
    | cons => exact hm
    | nil => exact fin_same S ⟨rfl, pr.2, q.tok pr (List.mem_singleton.mpr rfl), congrArg (Value.str · pr.2) (one_text q.ls)⟩
theorem meV_yes (hx : VR θ o x) (r : AR θ vs as) : ∀ m, YesH (MeT' C A θ m x as H) (meV m o vs H)
  | .append => Yes.one (P := fun as (p : V × Hp) => MeT' C A θ .append x as H p.1 p.2) r fun u a ra => Yes.lst (P := fun x (p : V × Hp) => MeT' C A θ .append x [a] H p.1 p.2) hx fun l xs p e1 hl => Yes.t fun hf => Yes.ok (append_tri e1 hl hf ra)
  | .reverse => Yes.noVs (P := fun as (p : V × Hp) => MeT' C A θ .reverse x as H p.1 p.2) r (Yes.lst (P := fun x (p : V × Hp) => MeT' C A θ .reverse x [] H p.1 p.2) hx fun l xs p e1 hl => Yes.t fun hf => Yes.ok (reverse_tri e1 hl hf))
  | .count => with1_yes (Yes.one (P := MeA C A θ .count H x) r fun u a ra => Yes.vstr (P := fun x => MeA C A θ .count H x [a]) hx fun z t _ => Yes.vstr (P := fun a => MeA C A θ .count H (.str ⟨⟨z⟩⟩ t) [a]) ra fun c w _ => Yes.n' (sign1_yes c) fun k e => by
      subst e; exact count_tri)
  | .replace => trivial
  | .join => with1_yes (Yes.one (P := MeA C A θ .join H x) r fun u a ra => Yes.vstr (P := fun x => MeA C A θ .join H x [a]) hx fun z t _ => by
      cases z with
      | cons => exact trivial
      | nil => exact Yes.lst (P := fun a => MeA C A θ .join H (.str ⟨⟨[]⟩⟩ t) [a]) ra fun l xs p e1 hl => Yes.ls (Yes.of fun ls h => h) fun ls hs => Yes.t fun hf => Yes.ok (join_tri e1 hl hs hf))
  | .bitLength => with1_yes (Yes.noVs (P := MeA C A θ .bitLength H x) r (Yes.vint (P := fun x => MeA C A θ .bitLength H x []) hx fun i t s S => call_int_bit_length (fin_int S _)))
end
end Mine
end
section
open PySem PyProof.Rows Builtin.Str
set_option maxRecDepth 100000
namespace Mine
variable [Ops]
section
variable {C : Cx} {G : Env0} {A : Around} {θ : Th} {H H' : Hp} {ρ : Rho} {env : Env} {α β γ : Type} {ih : Ih} {n : Nat}

/- a call of a builtin or a type, whatever is known of the arguments -/
theorem callG_at (pos : Pos) {f : Value} (hf : (∃ id, f = .builtin id) ∨ ∃ T, f = .type T) {first : List Value} {args : List Expr} {P0 : List Value → Th → Hp → Prop} {P : Value → Th → Hp → Prop}
    (hp : (backTo pos (starEach args env)).all (fun x => !x.1) = true) (h : Tri C A θ H (spliced (backTo pos (starEach args env))) P0)
    (k : ∀ as θ1 H1, Ext θ θ1 → P0 as θ1 H1 → Tri C A θ1 H1 (call f (first ++ as)) P) : Tri C A θ H (callWith pos f first (backTo pos (starEach args env)) []) P := fun s S => by
  have e' : wpAny (model C.prog C.w) A (spliced (backTo pos (starEach args env))) (fun as s1 => wpAny (model C.prog C.w) A (call f (first ++ as)) (fun a s' => Nx C θ s s' (P a)) (fun _ _ => False) s1) (fun _ _ => False) s :=
    wpAny_mono (h s S) (fun as s1 hs => hs.elim fun θ1 H2 g S1 z => wpAny_mono (k as θ1 H2 g.ext z s1 S1) (fun a s' h => h.elim fun θ2 H3 g2 S2 p => .mk' (g.trans g2) S2 p) fun _ _ h => h) fun _ _ h => h
  rcases hf with ⟨id, rfl⟩ | ⟨T, rfl⟩
  · exact Calls.callWith_builtin (any_false hp) (evalArgs_any hp e')
  · exact PySem.callWith_type (any_false hp) (evalArgs_any hp e')

omit [Ops] in
theorem base_of {o : Expr} (h : isCall0 o = false) (m : Str) (t : Sem Value) : attributeBase o m env t = t := by
  cases o with
  | Call f a k p => cases f with
    | Name x q => exact Bool.noConfusion h
    | _ => rfl
  | _ => rfl

structure MOk (o : Expr) (args : List Expr) (apos pos : Pos) : Prop where
  c0 : isCall0 o = false
  line : (apos.endLine == pos.line) = true
  few : args.length < 30
omit [Ops] in
theorem methodOk_of {o : Expr} {args : List Expr} {apos pos : Pos} (h : methodOk o apos args pos = true) : MOk o args apos pos := by
  unfold methodOk at h
  revert h
  cases h1 : isCall0 o with
  | true => exact fun h => Bool.noConfusion h
  | false => cases h2 : Nat.beq apos.endLine pos.line with
    | false => exact fun h => Bool.noConfusion h
    | true => exact fun h => ⟨h1, Nat.eq_of_beq_eq_true h2 ▸ beq_self_eq_true _, W.X.blt_true h⟩

/- replace, with the tokens -/
theorem replace_tok {x : List Nat} {y z : Nat} {t u v : Tok} (T : Top C G) (ht : t ≠ 0) (hu : u ≠ 0) (hv : v ≠ 0) (huv : u ≠ v) (hf : x.length ≤ 8000) :
    TriV C A θ H (call (.builtin "str.replace") [.str ⟨⟨x⟩⟩ t, .str ⟨⟨[y]⟩⟩ u, .str ⟨⟨[z]⟩⟩ v]) (.str (repl1 y z x)) H := fun s S => by
  have hn : NoneBooked s.heap := ⟨_, Top.ns S T.stat T.low.2.2, rfl⟩
  have hb : (⟨⟨x⟩⟩ : Str).length + ((⟨⟨x⟩⟩ : Str).length + 1) * (⟨⟨[z]⟩⟩ : Str).length ≤ 16777216 := by
    show x.length + (x.length + 1) * 1 ≤ _
    omega
  have hl : Builtin.Str.tooLong ((⟨⟨x⟩⟩ : Str).length + (occurrences ⟨⟨x⟩⟩ ⟨⟨[y]⟩⟩ 0 (⟨⟨x⟩⟩ : Str).length ((⟨⟨x⟩⟩ : Str).length + 1)).length * (⟨⟨[z]⟩⟩ : Str).length) = false := by
    have h1 := StrLaws.occ_length_le ⟨⟨x⟩⟩ ⟨⟨[y]⟩⟩ 0 (⟨⟨x⟩⟩ : Str).length ((⟨⟨x⟩⟩ : Str).length + 1)
    have h2 := Nat.mul_le_mul_right (⟨⟨[z]⟩⟩ : Str).length h1
    unfold Builtin.Str.tooLong sizeLine
    exact decide_eq_false (by omega)
  have e := replace_repl1 x y z
  refine call_givesAt F.slot_str_replace (typeIs_str _ _ _) F.entry_str_replace (F.args_str_replace_3 _ _ _)
    (gives_str_replace2 ⟨⟨x⟩⟩ ⟨⟨[y]⟩⟩ ⟨⟨[z]⟩⟩ t u v fun _ => ⟨by simp [hu, hv], by simp [huv], hl⟩) hn ?_
  unfold Txt.replace at e
  cases hc : ((occurrences ⟨⟨x⟩⟩ ⟨⟨[y]⟩⟩ 0 (⟨⟨x⟩⟩ : Str).length ((⟨⟨x⟩⟩ : Str).length + 1)).isEmpty || ((⟨⟨[y]⟩⟩ : Str).length == 0 && (⟨⟨[z]⟩⟩ : Str).length == 0)) with
  | true =>
    rw [hc] at e
    simp only [if_true] at e ⊢
    exact fin_same S ⟨rfl, t, ht, by rw [e]⟩
  | false =>
    rw [hc] at e
    simp only [Bool.false_eq_true, if_false] at e ⊢
    have hz := fits_replaced (x := ⟨⟨x⟩⟩) (z := ⟨⟨[z]⟩⟩) ⟨⟨[y]⟩⟩ hb
    cases hyz : ((⟨⟨[y]⟩⟩ : Str) == ⟨⟨[z]⟩⟩) with
    | false =>
      simp only [Bool.false_eq_true, if_false]
      refine ⟨hz, ?_⟩
      rw [e]
      exact fin_str S _
    | true =>
      simp only [if_true]
      have e2 := eq_of_beq hyz
      refine ⟨fin_same S ⟨rfl, t, ht, ?_⟩, ?_⟩
      · rw [← e, e2, StrLaws.glued_between_self]
      · rw [e]
        exact ⟨by rw [e] at hz; exact hz, fin_str S _⟩


noncomputable abbrev PlainA (pos : Pos) (args : List Expr) (env : Env) : Prop := (backTo pos (starEach args env)).all (fun x => !x.1) = true
/- a method's call -/
theorem meth_at {o : Expr} {m : Str} {apos pos : Pos} {args : List Expr} {mm : Me} {ov v : V} {H1 : Hp} (hm : MeR m mm) (k : MOk o args apos pos) (p : AtE C A ρ env H o ov H1) (hr : recvOk mm (norm ov) H1 = true) (hp : PlainA pos args env)
    (hc : ∀ {θ x}, EnvR C θ ρ env → VR θ (norm ov) x → TriV C A θ H1 (callWith pos (.builtin (meId mm)) [x] (backTo pos (starEach args env)) []) v H') : AtE C A ρ env H (.Call (.Attribute o m apos) args [] pos) v H' := fun {θ} R s S =>
  wpAny_Call_method (base_of k.c0 m _) (by rw [hp]; exact decide_eq_true k.few) k.line hm.plain hm.slot hm.ty (wpAny_mono (p R s S) (fun x s1 hs => hs.elim fun θ1 H2 g S1 z => by
    obtain ⟨e1, r1⟩ := z
    subst e1
    have rc := recv_type S1 r1.norm mm hr
    exact ⟨rc.ty, rc.dict, wpAny_mono (hc (R.mono g.ext) r1.norm s1 S1) (fun a s2 hb => hb.elim fun θ2 H3 g2 S2 p => .mk' (g.trans g2) S2 p) fun _ _ h => h⟩) fun _ _ h => h)
noncomputable abbrev AtM (C : Cx) (A : Around) (ρ : Rho) (env : Env) (H : Hp) (o : Expr) (m : Str) (apos : Pos) (args : List Expr) (pos : Pos) (v : V) (H' : Hp) : Prop := AtE C A ρ env H (.Call (.Attribute o m apos) args [] pos) v H'
section
variable {o : Expr} {m : Str} {apos pos : Pos} {args : List Expr} {ov : V} {H1 : Hp}
theorem stepMp_yes (I : IhS C ih n) (hA : Room A n) {mm : Me} (hm : MeR m mm) (k : MOk o args apos pos) (p : AtE C A ρ env H o ov H1) : YesH (AtM C A ρ env H o m apos args pos) (stepMp ih ρ mm (norm ov) args H1) :=
  Yes.t fun hr => Yes.vsh (evs_yes I hA pos args) fun vs H2 q => Yes.of fun v h => meth_at hm k p hr q.plain fun R rx => callB_at (.inl ⟨_, rfl⟩) q R fun as θ1 x1 r1 => (meV_yes (rx.mono x1) r1.norm mm).get h

/- the arguments of replace: their tokens are not the same -/
noncomputable abbrev RpA (y z : Nat) (H1 : Hp) (as : List Value) (θ' : Th) (H' : Hp) : Prop := H' = H1 ∧ ∃ t u, t ≠ 0 ∧ u ≠ 0 ∧ t ≠ u ∧ as = [.str ⟨⟨[y]⟩⟩ t, .str ⟨⟨[z]⟩⟩ u]
theorem replArgs (pos : Pos) {a : Expr} {c : Const} {k : _} {p : Pos} {y z : Nat} (ha : isStar a = false) (q : AtE C A ρ env H a (.lit [y]) H1) (h2 : const c = some (.lit [z])) (R : EnvR C θ ρ env) :
    Tri C A θ H (spliced (backTo pos (starEach [a, .Constant c k p] env))) (RpA y z H1) := by
  rw [starEach_cons a _ env (by intro x p e; subst e; cases ha)]
  show Tri C A θ H (spliced ((false, eval a env) :: (false, constValue env c) :: backTo pos (starEach [] env))) _
  rw [spliced]
  refine Tri.val (q R) fun x θ1 x1 r1 => ?_
  simp only [Bool.false_eq_true, if_false, pure_bind]
  obtain ⟨t, ht, htn, rfl⟩ := r1
  refine Tri.hold ?_
  have q : Tri C A θ1 H1 (spliced ((false, constValue env c) :: backTo pos (starEach [] env))) fun as θ' H' => H' = H1 ∧ ∃ u, u ≠ 0 ∧ θ1.n ≤ u ∧ as = [.str ⟨⟨[z]⟩⟩ u] := by
    rw [spliced]
    refine Tri.bind (lit_yes (env := env) h2) fun x2 θ2 H2 x2' h => ?_
    obtain ⟨rfl, u, hu, hun, hun2, rfl⟩ := h
    simp only [Bool.false_eq_true, if_false, pure_bind]
    refine Tri.hold ?_
    show Tri C A θ2 _ (pure [] >>= _) _
    simp only [pure_bind]
    exact Tri.pure ⟨rfl, u, hu, hun, rfl⟩
  refine Tri.bind q fun as θ2 H3 x2 h => ?_
  obtain ⟨rfl, u, hu, hun, rfl⟩ := h
  exact Tri.pure ⟨rfl, t, u, ht, hu, Nat.ne_of_lt (Nat.lt_of_lt_of_le htn hun), rfl⟩
omit [Ops] in
theorem lit1_yes (c : Option V) : Yes (fun z => c = some (.lit [z])) (lit1 c) := by
  cases c with
  | none => exact trivial
  | some v => cases v with
    | lit z => exact (sign1_yes z).mono fun k e => congrArg (fun z => some (V.lit z)) e
    | _ => exact trivial
omit [Ops] in
theorem Yes.fnn {γ : Type} {Q : γ → Prop} {b : Bool} {x : Option Nat} {y : Option (List Nat)} {P : Nat → Prop} {P' : List Nat → Prop} {K : Nat → List Nat → Option γ} (p : Yes P x) (q : Yes P' y) (h : b = false → ∀ i j, P i → P' j → Yes Q (K i j)) :
    Yes Q (match (generalizing := false) b, x, y with | false, some i, some j => K i j | _, _, _ => .none) := by
  cases b <;> cases x <;> cases y <;> first | exact trivial | exact h rfl _ _ p q
omit [Ops] in
theorem plain2 {a : Expr} {c : Const} {k : _} {p : Pos} (ha : isStar a = false) : PlainA pos [a, .Constant c k p] env := by
  show (backTo pos (starEach (a :: _) env)).all _ = true
  rw [starEach_cons a _ env (by intro x p e; subst e; cases ha)]; rfl
omit [Ops] in
theorem vStr_yes (v : V) : Yes (fun s => v = .str s) (vStr v) := by
  cases v <;> first | exact rfl | exact trivial
theorem repl_at (T : Top C G) (hm : MeR m .replace) {a : Expr} {c : Const} {kk : _} {pp : Pos} {H2 : Hp} {z y : Nat} {s : List Nat} (k : MOk o [a, .Constant c kk pp] apos pos) (p : AtE C A ρ env H o ov H1) (ha : isStar a = false) (hz : const c = some (.lit [z])) (hs : norm ov = .str s)
    (hf : fits s.length = true) (q : AtE C A ρ env H1 a (.lit [y]) H2) : AtM C A ρ env H o m apos [a, .Constant c kk pp] pos (.str (repl1 y z s)) H2 :=
  meth_at hm k p (by rw [hs]; rfl) (plain2 ha) fun {θ x} R rx => by
    rw [hs] at rx
    apply rx.str; intro t ht
    refine callG_at pos (.inl ⟨_, rfl⟩) (plain2 ha) (replArgs pos ha q hz R) fun as θ2 H3 x2 h => ?_
    obtain ⟨rfl, t1, u1, a1, a2, a3, rfl⟩ := h
    exact replace_tok T ht a1 a2 a3 (fits_le hf)
theorem replM_yes (I : IhS C ih n) (T : Top C G) (hA : Room A n) (hm : MeR m .replace) {a : Expr} {c : Const} {kk : _} {pp : Pos} (k : MOk o [a, .Constant c kk pp] apos pos) (p : AtE C A ρ env H o ov H1) :
    YesH (AtM C A ρ env H o m apos [a, .Constant c kk pp] pos) (replM ih ρ (norm ov) a c H1) :=
  Yes.fnn (lit1_yes _) (vStr_yes _) fun ha z s hz hs => Yes.t fun hf => Yes.vh (I.e hA a) fun v H2 q => Yes.n' (lit1_yes _) fun y hy => by
    injection hy with hy; subst hy
    exact repl_at T hm k p ha hz hs hf q
omit [Ops] in
theorem Yes.me {γ : Type} {Q : γ → Prop} {o : Option Me} {P : Me → Prop} {K : Me → Option γ} (p : Yes P o) (h : ∀ m, P m → Yes Q (K m)) : Yes Q (match (generalizing := false) o with | some m => K m | .none => .none) := by
  cases o with
  | none => exact trivial
  | some m => exact h m p
omit [Ops] in
theorem constOf_yes (e : Expr) : Yes (fun c => ∃ k p, e = .Constant c k p) (constOf e) := by
  cases e <;> first | exact trivial | exact ⟨_, _, rfl⟩
omit [Ops] in
theorem twoE_yes (l : List Expr) : Yes (fun p => l = [p.1, p.2]) (twoE l) := by
  cases l with
  | nil => exact trivial
  | cons a r => cases r with
    | nil => exact trivial
    | cons b r => cases r with
      | nil => exact rfl
      | cons => exact trivial
omit [Ops] in
theorem Yes.ee {γ : Type} {Q : γ → Prop} {o : Option (Expr × Expr)} {P : Expr × Expr → Prop} {K : Expr → Expr → Option γ} (p : Yes P o) (h : ∀ a b, P (a, b) → Yes Q (K a b)) : Yes Q (match (generalizing := false) o with | some (a, b) => K a b | .none => .none) := by
  cases o with
  | none => exact trivial
  | some m => exact h _ _ p
omit [Ops] in
theorem Yes.cn {γ : Type} {Q : γ → Prop} {o : Option Const} {P : Const → Prop} {K : Const → Option γ} (p : Yes P o) (h : ∀ a, P a → Yes Q (K a)) : Yes Q (match (generalizing := false) o with | some a => K a | .none => .none) := by
  cases o with
  | none => exact trivial
  | some m => exact h _ p
theorem stepMr_yes (I : IhS C ih n) (T : Top C G) (hA : Room A n) (hm : MeR m .replace) (k : MOk o args apos pos) (p : AtE C A ρ env H o ov H1) : YesH (AtM C A ρ env H o m apos args pos) (stepMr ih ρ (norm ov) args H1) :=
  Yes.ee (twoE_yes args) fun a b e => Yes.cn (constOf_yes b) fun c ⟨kk, pp, e2⟩ => by
    subst e2; subst e
    exact replM_yes I T hA hm k p
theorem stepMe_yes (I : IhS C ih n) (T : Top C G) (hA : Room A n) (k : MOk o args apos pos) (p : AtE C A ρ env H o ov H1) : ∀ {mm}, MeR m mm → YesH (AtM C A ρ env H o m apos args pos) (stepMe ih ρ mm (norm ov) args H1)
  | .replace, hm => stepMr_yes I T hA hm k p
  | .append, hm => stepMp_yes I hA hm k p
  | .reverse, hm => stepMp_yes I hA hm k p
  | .bitLength, hm => stepMp_yes I hA hm k p
  | .count, hm => stepMp_yes I hA hm k p
  | .join, hm => stepMp_yes I hA hm k p
theorem callA_yes (I : IhS C ih n) (T : Top C G) (hA : Room A n) : YesH (AtM C A ρ env H o m apos args pos) (stepE_CallA ih G ρ H o m apos args pos) :=
  Yes.t fun k => Yes.vh (I.e hA o) fun ov H1 p => Yes.me meOf_yes fun mm hm => stepMe_yes I T hA (methodOk_of k) p hm
end
end
end Mine
end
section
open PySem PyProof.Rows
set_option maxRecDepth 100000
namespace Mine
variable [Ops]

noncomputable def OVR (θ : Th) : Option V → Option Value → Prop
  | .none, r => r = none
  | some v, r => ∃ a, r = some a ∧ VR θ v a
omit [Ops] in
theorem OVR.mono {θ θ' : Th} (x : Ext θ θ') : ∀ {v : Option V} {r : Option Value}, OVR θ v r → OVR θ' v r
  | .none, _, h => h
  | some _, _, ⟨a, e, h⟩ => ⟨a, e, h.mono x⟩

theorem wpAny_with_sizes {α : Type} {M : Model} {A : Around} {s : Shared} {t : Sem α} {Q : α → Shared → Prop} {E : Value → Shared → Prop}
    (h : wpAny M A t (fun a s' => s.heap.objs.size ≤ s'.heap.objs.size → Q a s') (fun a s' => s.heap.objs.size ≤ s'.heap.objs.size → E a s') s) : wpAny M A t Q E s := fun Γ p hΓ => by
  have := wp_size M Γ s.heap.objs.size t _ _ p s (Nat.le_refl _) (h Γ p hΓ)
  exact Sem.wp_mono M Γ t (fun a p' s' x => x.2 x.1) (fun e p' s' x => x.2 x.1) p s this

section
variable {prog : Program} {w : World} {A : Around} {E : Value → Shared → Prop} {s : Shared}
omit [Ops] in
theorem nextOf_tup_item {it t : Addr} {i : Nat} {items} {x : Value} {Q : Value → Shared → Prop} (hit : s.heap.IsTupleIter it t i)
    (ht : s.heap.IsTuple t items) (hx : items[i]? = some x)
    (hQ : ∀ h', h'.IsTupleIter it t (i + 1) → Heap.SameBut it s.heap h' → Q x { s with heap := h' }) :
    wpAny (model prog w) A (Builtin.SmallTypes.nextOf (.ref it)) Q E s := by
  obtain ⟨o, ho, hc, hd⟩ := id hit
  obtain ⟨ol, hol, _, nl, hdl⟩ := ht
  unfold Builtin.SmallTypes.nextOf
  refine wpAny_bind (wpAny_callSpecial?_slot (name := Str.ofString "__next__") hit.typeIs F.slot_tuple_iterator_next
    (wpAny_call_entry F.slot_tuple_iterator_next hit.typeIs F.entry_tuple_iterator_next ?_ (F.args_tuple_iterator_next_1 _)))
  show wpAny _ _ (field (.ref it) 0 >>= _) _ _ s
  refine wpAny_bind (wpAny_field ho hd (x := .ref t) rfl ?_)
  show wpAny _ _ (if (Value.ref t == Value.none) = true then _ else _) _ _ s
  rw [if_neg (show ¬ ((Value.ref t == Value.none) = true) from Bool.false_ne_true)]
  show wpAny _ _ (field (.ref it) 1 >>= _) _ _ s
  refine wpAny_bind (wpAny_field ho hd (x := .int i 0) rfl ?_)
  show wpAny _ _ (seqItems? (.ref t) >>= _) _ _ s
  refine wpAny_bind (wpAny_seqItems hol hdl ?_)
  simp only [Int.toNat_natCast, hx]
  refine wpAny_bind (wpAny_setField ho hd (by simp) (wpAny_pure ⟨x, rfl, wpAny_pure (hQ _ ?_ (Heap.SameBut.update ..))⟩))
  exact ⟨_, Heap.get?_update_self _ ho (Obj.isFreed_of_fields (Obj.data_mapFields hd _)), (Obj.cls_mapFields ..).trans hc, by
    rw [Obj.data_mapFields hd]; simp [rawInt]⟩
omit [Ops] in
theorem nextOf_tup_end {it t : Addr} {i : Nat} {items} {Q : Value → Shared → Prop} (hh : A.handled = none)
    (hit : s.heap.IsTupleIter it t i) (ht : s.heap.IsTuple t items) (hx : items[i]? = none)
    (hE : ∀ h' e, Heap.ExtBut it s.heap h' → (∃ o, h'.get? e = some o ∧ o.cls = .type "StopIteration") → E (.ref e) { s with heap := h' }) :
    wpAny (model prog w) A (Builtin.SmallTypes.nextOf (.ref it)) Q E s := by
  obtain ⟨o, ho, hc, hd⟩ := id hit
  obtain ⟨ol, hol, _, nl, hdl⟩ := ht
  unfold Builtin.SmallTypes.nextOf
  refine wpAny_bind (wpAny_callSpecial?_slot (name := Str.ofString "__next__") hit.typeIs F.slot_tuple_iterator_next
    (wpAny_call_entry F.slot_tuple_iterator_next hit.typeIs F.entry_tuple_iterator_next ?_ (F.args_tuple_iterator_next_1 _)))
  show wpAny _ _ (field (.ref it) 0 >>= _) _ _ s
  refine wpAny_bind (wpAny_field ho hd (x := .ref t) rfl ?_)
  show wpAny _ _ (if (Value.ref t == Value.none) = true then _ else _) _ _ s
  rw [if_neg (show ¬ ((Value.ref t == Value.none) = true) from Bool.false_ne_true)]
  show wpAny _ _ (field (.ref it) 1 >>= _) _ _ s
  refine wpAny_bind (wpAny_field ho hd (x := .int i 0) rfl ?_)
  show wpAny _ _ (seqItems? (.ref t) >>= _) _ _ s
  refine wpAny_bind (wpAny_seqItems hol hdl ?_)
  simp only [Int.toNat_natCast, hx]
  refine wpAny_bind (wpAny_rule (wpAny_bind (wpAny_setField ho hd (by simp) ?_)))
  show wpAny _ _ (newExc (.type "StopIteration") [] >>= _) _ _ _
  refine wpAny_bind ?_
  simp only [newExc, newTuple]
  refine wpAny_bind (wpAny_newObj_type ?_ (by size_fits))
  refine wpAny_bind (m := firstArgMember _ _) (wpAny_of_eq (a := Value.none) (by first | rfl | (simp only [firstArgMember]; rfl)) ?_)
  refine wpAny_newObj_type ?_ (by size_fits)
  simp only [raiseNew]
  refine wpAny_bind (wpAny_handled ?_)
  first | rw [show A.in1.handled = none from hh] | rw [hh]
  refine wpAny_bind (wpAny_pure (wpAny_throw ?_))
  exact hE _ _ (((Heap.SameBut.update ..).extBut.push _).push _) ⟨_, Heap.get?_push_size _ rfl, rfl⟩
end

section
variable {C : Cx} {G : Env0} {A : Around} {θ : Th} {H H' : Hp} {ρ : Rho} {env : Env} {α β γ : Type} {ih : Ih} {n : Nat}

/- an iterator of ours, turned; or gone, and things made -/
theorem fin_it {s : Shared} (S : St C θ H s) {p : Nat} {x : Addr} (I : It) {h' : Heap} {k : Nat} (hx : θ[p]? = some x) (h1 : ∃ o, h'.get? x = some o ∧ ItR C θ s.heap I o) (hs : Heap.ExtBut x s.heap h')
    (hz : s.heap.objs.size ≤ h'.objs.size) (hk : s.toks ≤ k) {P : Th → Hp → Prop} (h : P θ (Ops.set H p (.it I))) : Nx C θ s { s with heap := h', toks := k } P :=
  let ⟨o, g1, g2⟩ := h1
  fin_upd S (.it I) hx g1 g2 (fun b o n e => hs b o n e) hz hk h
theorem St.itAt {s : Shared} (S : St C θ H s) {p : Nat} {I : It} {x : Addr} (h : Ops.get H p = some (.it I)) (e : θ[p]? = some x) : ∃ o, s.heap.get? x = some o ∧ ItR C θ s.heap I o :=
  S.at' h e rfl
theorem fin_gone {s : Shared} (S : St C θ H s) {p : Nat} {x : Addr} {h' : Heap} {k : Nat} (hx : θ[p]? = some x) (hs : Heap.ExtBut x s.heap h')
    (hz : s.heap.objs.size ≤ h'.objs.size) (hk : s.toks ≤ k) {P : Th → Hp → Prop} (h : P θ (Ops.set H p .gone)) : Nx C θ s { s with heap := h', toks := k } P :=
  let y := S.kill (s' := { s with heap := h', toks := k }) hx (fun b o n e => hs b o n e) hz hk rfl rfl
  .mk' y.2 y.1 h

theorem itAt_yes (p : Nat) : Yes (fun I => Ops.get H p = some (.it I)) (itAt p H) := by
  show Yes _ (match Ops.get H p with | some (.it I) => some I | _ => .none)
  cases Ops.get H p with
  | none => exact trivial
  | some o => cases o with
    | it I => exact rfl
    | _ => exact trivial
theorem listAt_yes (p : Nat) : Yes (fun vs => Ops.get H p = some (.list vs)) (listAt p H) := Yes.list fun vs e => Yes.ok e
theorem tupAt_yes (p : Nat) : Yes (fun vs => Ops.get H p = some (.tup vs)) (tupAt p H) := Yes.tup fun vs e => Yes.ok e
omit [Ops] in
theorem Yes.vs {Q : γ → Prop} {o : Option (List V)} {P : List V → Prop} {K : List V → Option γ} (p : Yes P o) (h : ∀ m, P m → Yes Q (K m)) : Yes Q (match (generalizing := false) o with | some m => K m | .none => .none) := by
  cases o with
  | none => exact trivial
  | some m => exact h m p

/- a draw -/
noncomputable abbrev NxP (C : Cx) (A : Around) (θ : Th) (H : Hp) (x : Addr) (ov : Option V) (H' : Hp) : Prop := Tri C A θ H (pyNext (.ref x)) fun r θ' H'' => H'' = H' ∧ OVR θ' ov r
section
variable {p l i k : Nat} {x y : Addr} {vs : List V}
theorem range_yes (hh : A.handled = none) (hx : θ[p]? = some x) {a st : Int} : ∀ k, Ops.get H p = some (.it (.rng a st k)) → YesH (NxP C A θ H x) (nextR p a st k H)
  | 0, hp => Tri.of fun s S => by
    obtain ⟨o, g1, g2⟩ := S.itAt hp hx
    have g2' : o = _ := g2
    subst g2'
    exact wpAny_pyNext_range_end hh g1 (by decide) fun h' hs hk hz => fin_gone S hx hs hz hk ⟨rfl, rfl⟩
  | k + 1, hp => Tri.of fun s S => by
    obtain ⟨o, g1, g2⟩ := S.itAt hp hx
    have g2' : o = _ := g2
    subst g2'
    refine wpAny_pyNext_range_item g1 (Int.ofNat_lt.mpr (Nat.succ_pos k)) fun h' hi hs hk hz => ?_
    rw [show ((k + 1 : Nat) : Int) - 1 = (k : Int) from Int.add_sub_cancel (k : Int) 1] at hi
    exact fin_it S (.rng (a + st) st k) hx ⟨_, hi, rfl⟩ hs.extBut hz hk ⟨rfl, _, rfl, s.toks, trivial, rfl⟩
structure SqA (θ : Th) (s : Shared) (b : Bool) (x y : Addr) (i : Nat) : Prop where
  cls : ∃ o, s.heap.get? x = some o ∧ o.cls = .type (itCls b) ∧ o.data = .fields #[.ref y, .int i 0]
theorem St.sq {s : Shared} {b : Bool} (S : St C θ H s) (hx : θ[p]? = some x) (hp : Ops.get H p = some (.it (.seq b l i))) : ∃ y, θ[l]? = some y ∧ SqA θ s b x y i :=
  let ⟨o, g1, y, g2, g3⟩ := S.itAt hp hx
  ⟨y, g2, o, g1, g3⟩
omit [Ops] in
theorem AR.none {vs : List V} {a : Array Value} (h : AR θ vs a.toList) {i : Nat} (e : vs[i]? = .none) : a[i]? = .none := Array.getElem?_eq_none (by rw [h.size]; exact List.getElem?_eq_none_iff.mp e)
omit [Ops] in
theorem AR.some {vs : List V} {a : Array Value} (h : AR θ vs a.toList) {i : Nat} {v : V} (e : vs[i]? = .some v) : ∃ c, a[i]? = .some c ∧ VR θ v c := let ⟨c, e1, e2⟩ := h.get e; ⟨c, by rw [← Array.getElem?_toList]; exact e1, e2⟩
theorem draw_list (hh : A.handled = none) (hx : θ[p]? = some x) (hp : Ops.get H p = some (.it (.seq false l i))) (hl : Ops.get H l = some (.list vs)) (q : Option V × Hp) (hq : q = drawn p (.seq false l (i + 1)) H vs[i]?) : NxP C A θ H x q.1 q.2 := Tri.of fun s S => by
  obtain ⟨y, g2, g3⟩ := S.sq hx hp
  obtain ⟨a1, n1, q1, r1⟩ := S.listAt hl g2
  subst hq
  cases hv : vs[i]? with
  | none => exact wpAny_pyNext_list_end hh g3.cls q1.isList (r1.none hv) fun h' hs hk hz => fin_gone S hx hs hz hk ⟨rfl, rfl⟩
  | some v =>
    obtain ⟨c, e1, e2⟩ := r1.some hv
    exact wpAny_pyNext_list_item g3.cls q1.isList e1 fun h' hi hs hk hz => let ⟨o2, k1, k2⟩ := hi; fin_it S (.seq false l (i + 1)) hx ⟨o2, k1, y, g2, k2⟩ hs.extBut hz hk ⟨rfl, _, rfl, e2⟩
theorem draw_tup (hh : A.handled = none) (hx : θ[p]? = some x) (hp : Ops.get H p = some (.it (.seq true l i))) (hl : Ops.get H l = some (.tup vs)) (q : Option V × Hp) (hq : q = drawn p (.seq true l (i + 1)) H vs[i]?) : NxP C A θ H x q.1 q.2 := Tri.of fun s S => by
  obtain ⟨y, g2, g3⟩ := S.sq hx hp
  obtain ⟨a1, n1, q1, r1⟩ := S.tupAt hl g2
  have ht : s.heap.IsTuple y a1 := ⟨_, q1, rfl, n1, rfl⟩
  subst hq
  cases hv : vs[i]? with
  | none => exact wpAny_pyNext_tuple_end hh g3.cls ht (r1.none hv) fun h' hs hk hz => fin_gone S hx hs hz hk ⟨rfl, rfl⟩
  | some v =>
    obtain ⟨c, e1, e2⟩ := r1.some hv
    exact wpAny_pyNext_tuple_item g3.cls ht e1 fun h' hi hs hk hz => let ⟨o2, k1, k2⟩ := hi; fin_it S (.seq true l (i + 1)) hx ⟨o2, k1, y, g2, k2⟩ hs.extBut hz hk ⟨rfl, _, rfl, e2⟩
theorem nextQ_yes (hh : A.handled = none) (hx : θ[p]? = some x) : ∀ b, Ops.get H p = some (.it (.seq b l i)) → YesH (NxP C A θ H x) (nextQ p b l i H)
  | false, hp => Yes.vs (listAt_yes l) fun vs hl => draw_list hh hx hp hl _ rfl
  | true, hp => Yes.vs (tupAt_yes l) fun vs hl => draw_tup hh hx hp hl _ rfl
theorem rev_end (hh : A.handled = none) (hx : θ[p]? = some x) (hp : Ops.get H p = some (.it (.rev l 0))) : NxP C A θ H x .none (Ops.set H p .gone) := Tri.of fun s S => by
  obtain ⟨o, g1, y, g2, g3, g4⟩ := S.itAt hp hx
  exact wpAny_pyNext_rev_end hh ⟨o, g1, g3, g4⟩ fun h' hs hk hz => fin_gone S hx hs hz hk ⟨rfl, rfl⟩
theorem rev_item {v : V} (hx : θ[p]? = some x) (hp : Ops.get H p = some (.it (.rev l (k + 1)))) (hl : Ops.get H l = some (.list vs)) (hv : vs[k]? = some v) : NxP C A θ H x (some v) (Ops.set H p (.it (.rev l k))) := Tri.of fun s S => by
  obtain ⟨o, g1, y, g2, g3, g4⟩ := S.itAt hp hx
  obtain ⟨a1, n1, q1, r1⟩ := S.listAt hl g2
  obtain ⟨c, e1, e2⟩ := r1.some hv
  rw [show ((k + 1 : Nat) : Int) - 1 = (k : Int) from Int.add_sub_cancel (k : Int) 1] at g4
  exact wpAny_pyNext_rev_item ⟨o, g1, g3, g4⟩ q1.isList e1 fun h' hi hs hk hz => let ⟨o2, k1, k2⟩ := hi; fin_it S (.rev l k) hx ⟨o2, k1, y, g2, k2⟩ hs.extBut hz hk ⟨rfl, _, rfl, e2⟩
theorem nextV_yes (hh : A.handled = none) (hx : θ[p]? = some x) : ∀ k, Ops.get H p = some (.it (.rev l k)) → YesH (NxP C A θ H x) (nextV p l k H)
  | 0, hp => Yes.ok (rev_end hh hx hp)
  | k + 1, hp => Yes.vs (listAt_yes l) fun vs hl => Yes.v fun v hv => Yes.ok (rev_item hx hp hl hv)
theorem next1_yes (hh : A.handled = none) (hx : θ[p]? = some x) : ∀ I, Ops.get H p = some (.it I) → YesH (NxP C A θ H x) (next1 p I H)
  | .rng _ _ k, hp => range_yes hh hx k hp
  | .seq b _ _, hp => nextQ_yes hh hx b hp
  | .rev _ k, hp => nextV_yes hh hx k hp
  | .zip _ _ _ _, _ => trivial

/- a draw from a list's or a tuple's iterator, within a zip -/
noncomputable def NoR (C : Cx) (A : Around) (θ : Th) (H : Hp) (x : Addr) (ov : Option V) (H' : Hp) : Prop := ∀ {s : Shared} {Q : Value → Shared → Prop} {E : Value → Shared → Prop}, St C θ H s → (∀ a v s', ov = some v → Go C θ s θ s' → St C θ H' s' → VR θ v a → Q a s') →
  (∀ e s', ov = .none → Go C θ s θ s' → St C θ H' s' → (∃ o, s'.heap.get? e = some o ∧ o.cls = .type "StopIteration") → E (.ref e) s') → wpAny (model C.prog C.w) A (Builtin.SmallTypes.nextOf (.ref x)) Q E s
theorem of_itm {b : Bool} {s : Shared} {v : V} {a : Value} {h' : Heap} (S : St C θ H s) (hx : θ[p]? = some x) (g2 : θ[l]? = some y) (hi : ∃ o, h'.get? x = some o ∧ o.cls = .type (itCls b) ∧ o.data = .fields #[.ref y, .int (i + 1 : Nat) 0]) (hs : Heap.SameBut x s.heap h') :
    St C θ (Ops.set H p (.it (.seq b l (i + 1)))) { s with heap := h' } ∧ Go C θ s θ { s with heap := h' } :=
  let ⟨o2, k1, k2⟩ := hi
  S.upd (s' := { s with heap := h' }) (o := .it (.seq b l (i + 1))) hx k1 ⟨y, g2, k2⟩ (fun b o n e => hs.extBut b o n e) (Nat.le_of_eq hs.1.symm) (Nat.le_refl _) rfl rfl
theorem of_list (hh : A.handled = none) (hx : θ[p]? = some x) (hp : Ops.get H p = some (.it (.seq false l i))) (hl : Ops.get H l = some (.list vs)) (q : Option V × Hp) (hq : q = drawn p (.seq false l (i + 1)) H vs[i]?) : NoR C A θ H x q.1 q.2 := fun {s Q E} S hQ hE => by
  obtain ⟨y, g2, g3⟩ := S.sq hx hp
  obtain ⟨a1, n1, q1, r1⟩ := S.listAt hl g2
  subst hq
  refine wpAny_with_sizes ?_
  cases hv : vs[i]? with
  | none =>
    rw [hv] at hE
    exact wpAny_nextOf_list_end hh g3.cls q1.isList (r1.none hv) fun h' e hs he hz => have u := S.kill (s' := { s with heap := h' }) hx (fun b o n e => hs b o n e) hz (Nat.le_refl _) rfl rfl; hE e _ rfl u.2 u.1 he
  | some v =>
    rw [hv] at hQ
    obtain ⟨c, e1, e2⟩ := r1.some hv
    exact wpAny_nextOf_list_item g3.cls q1.isList e1 fun h' hi hs _ => have u := of_itm (b := false) (i := i) (v := v) (a := c) S hx g2 hi hs; hQ c v _ rfl u.2 u.1 e2
theorem of_tup (hh : A.handled = none) (hx : θ[p]? = some x) (hp : Ops.get H p = some (.it (.seq true l i))) (hl : Ops.get H l = some (.tup vs)) (q : Option V × Hp) (hq : q = drawn p (.seq true l (i + 1)) H vs[i]?) : NoR C A θ H x q.1 q.2 := fun {s Q E} S hQ hE => by
  obtain ⟨y, g2, g3⟩ := S.sq hx hp
  obtain ⟨a1, n1, q1, r1⟩ := S.tupAt hl g2
  have ht : s.heap.IsTuple y a1 := ⟨_, q1, rfl, n1, rfl⟩
  subst hq
  refine wpAny_with_sizes ?_
  cases hv : vs[i]? with
  | none =>
    rw [hv] at hE
    exact nextOf_tup_end hh g3.cls ht (r1.none hv) fun h' e hs he hz => have u := S.kill (s' := { s with heap := h' }) hx (fun b o n e => hs b o n e) hz (Nat.le_refl _) rfl rfl; hE e _ rfl u.2 u.1 he
  | some v =>
    rw [hv] at hQ
    obtain ⟨c, e1, e2⟩ := r1.some hv
    exact nextOf_tup_item g3.cls ht e1 fun h' hi hs _ => have u := of_itm (b := true) (i := i) (v := v) (a := c) S hx g2 hi hs; hQ c v _ rfl u.2 u.1 e2
theorem ofQ_yes (hh : A.handled = none) (hx : θ[p]? = some x) : ∀ b, Ops.get H p = some (.it (.seq b l i)) → YesH (NoR C A θ H x) (nextQ p b l i H)
  | false, hp => Yes.vs (listAt_yes l) fun vs hl => of_list hh hx hp hl _ rfl
  | true, hp => Yes.vs (tupAt_yes l) fun vs hl => of_tup hh hx hp hl _ rfl
theorem seqItAt_yes : Yes (fun q => Ops.get H p = some (.it (.seq q.1 q.2.1 q.2.2))) (seqItAt p H) := by
  unfold seqItAt
  have h := itAt_yes (H := H) p
  revert h
  cases itAt p H with
  | none => exact fun _ => trivial
  | some I => cases I with
    | seq b l i => exact fun h => h
    | _ => exact fun _ => trivial
theorem nextS_yes (hh : A.handled = none) (hx : θ[p]? = some x) : YesH (NoR C A θ H x) (nextS p H) := by
  unfold nextS
  have h := seqItAt_yes (H := H) (p := p)
  revert h
  cases seqItAt p H with
  | none => exact fun _ => trivial
  | some q => exact fun h => ofQ_yes hh hx q.1 h
end
end
end Mine
end
section
open PySem PyProof.Rows
set_option maxRecDepth 100000
namespace Mine
variable [Ops]
section
variable {C : Cx} {G : Env0} {A : Around} {θ : Th} {H H' : Hp} {ρ : Rho} {env : Env} {α β γ : Type} {ih : Ih} {n : Nat}

omit [Ops] in
theorem wpAny_updateTup {prog : Program} {w : World} {E : Value → Shared → Prop} {s : Shared} {T : Addr} {a : Array Value} {m : Nat} {x : Value} {k : Nat} {Q : Unit → Shared → Prop} (hT : IsT s.heap T a m) (hz : a.size = 2)
    (h : ∀ h' m', IsT h' T (a.setIfInBounds k x) m' → Heap.SameBut T s.heap h' → Q () { s with heap := h' }) :
    wpAny (model prog w) A (updateSeq T (·.setIfInBounds k x)) Q E s := by
  refine wpAny_updateSeq hT rfl ?_ (by rw [hz]; decide) (by show (a.setIfInBounds k x).size ≤ _; rw [Array.size_setIfInBounds, hz]; decide)
  have e := Heap.get?_update_self (Obj.mapSeq (·.setIfInBounds k x)) hT rfl
  exact h _ _ e (Heap.SameBut.update ..)


theorem pairAt_yes {r : Nat} : Yes (fun q => Ops.get H r = some (.tup [q.1, q.2])) (pairAt r H) :=
  Yes.vs (tupAt_yes r) fun vs e => by
    cases vs with
    | nil => exact trivial
    | cons a vs => cases vs with
      | nil => exact trivial
      | cons b vs => cases vs with
        | nil => exact e
        | cons => exact trivial
theorem zipAt_yes {p : Nat} : ∀ b, Yes (fun q => Ops.get H p = some (.it (.zip q.1 q.2.1 q.2.2 (match (generalizing := false) b with | true => .busy | false => .free)))) (zipAt p b H) := fun b => by
  unfold zipAt
  have h := itAt_yes (H := H) p
  revert h
  cases itAt p H with
  | none => exact fun _ => trivial
  | some I => cases I with
    | zip i j r f => cases f <;> cases b <;> first | exact fun h => h | exact fun _ => trivial
    | _ => exact fun _ => trivial

/- one turn of the loop within a zip's step -/
noncomputable def Stop (s : Shared) (e : Addr) : Prop := ∃ o, s.heap.get? e = some o ∧ o.cls = .type "StopIteration"
section
variable {B : Type} {prog : Program} {w : World}
noncomputable def BodyOk (prog : Program) (w : World) (A : Around) (z TO : Addr) (f : Value × Nat → B → Sem (ForInStep B)) (r0 : B) : Prop := ∀ (it : Value) (k : Nat) {Q : ForInStep B → Shared → Prop} {E : Value → Shared → Prop} {s : Shared},
  wpAny (model prog w) A (Builtin.SmallTypes.nextOf it) (fun x s1 => ∃ a m, IsT s1.heap TO a m ∧ a.size = 2 ∧ ∀ h' m', IsT h' TO (a.setIfInBounds k x) m' → Heap.SameBut TO s1.heap h' → Q (.yield r0) { s1 with heap := h' })
    (fun e s1 => wpAny (model prog w) A (setField (.ref z) 0 .none) (fun _ s2 => E e s2) E s1) s → wpAny (model prog w) A (f (it, k) r0) Q E s
noncomputable def FillR (C : Cx) (A : Around) (θ : Th) (i r : Nat) (k : Bool) (H : Hp) (b : Bool) (H' : Hp) : Prop := ∀ {B : Type} {x z TO : Addr} {f : Value × Nat → B → Sem (ForInStep B)} {r0 : B} {s : Shared} {Q : ForInStep B → Shared → Prop} {E : Value → Shared → Prop},
  θ[i]? = some x → θ[r]? = some TO → BodyOk C.prog C.w A z TO f r0 → St C θ H s → (b = true → ∀ s', Go C θ s θ s' → St C θ H' s' → Q (.yield r0) s') →
  (b = false → ∀ e s', Go C θ s θ s' → St C θ H' s' → Stop s' e → wpAny (model C.prog C.w) A (setField (.ref z) 0 .none) (fun _ s2 => E (.ref e) s2) E s') → wpAny (model C.prog C.w) A (f (.ref x, k.toNat) r0) Q E s
theorem Yes.nx {Q : γ → Prop} {x : Option (Option V × Hp)} {P : Option V → Hp → Prop} {K : V → Hp → Option γ} {K' : Hp → Option γ} (p : YesH P x) (h : ∀ v H, P (some v) H → Yes Q (K v H)) (h' : ∀ H, P .none H → Yes Q (K' H)) :
    Yes Q (match (generalizing := false) x with | some (some v, H) => K v H | some (.none, H) => K' H | .none => .none) := by
  cases x with
  | none => exact trivial
  | some q =>
    obtain ⟨o, H⟩ := q
    cases o with
    | none => exact h' H p
    | some v => exact h v H p
omit [Ops] in
theorem Yes.vv {Q : γ → Prop} {x : Option (V × V)} {P : V × V → Prop} {K : V → V → Option γ} (p : Yes P x) (h : ∀ a b, P (a, b) → Yes Q (K a b)) : Yes Q (match (generalizing := false) x with | some (a, b) => K a b | .none => .none) := by
  cases x with
  | none => exact trivial
  | some q => exact h q.1 q.2 p
theorem AR.pair {a b : V} {xs : Array Value} (h : AR θ [a, b] xs.toList) : ∃ p q, xs = #[p, q] ∧ VR θ a p ∧ VR θ b q := by
  obtain ⟨p, q, e, h1, h2⟩ := AR.two h
  exact ⟨p, q, Array.toList_inj.mp e, h1, h2⟩
omit [Ops] in
theorem prK_ar {a b v : V} {p q x : Value} (r1 : VR θ a p) (r2 : VR θ b q) (r3 : VR θ v x) : ∀ k, AR θ (prK k a b v) ((#[p, q] : Array Value).setIfInBounds k.toNat x).toList
  | false => ⟨r3, r2, trivial⟩
  | true => ⟨r1, r3, trivial⟩
theorem fill_some {i r : Nat} {k : Bool} {v a b : V} {H1 : Hp} (p : ∀ {x}, θ[i]? = some x → NoR C A θ H x (some v) H1) (hr : Ops.get H1 r = some (.tup [a, b])) : FillR C A θ i r k H true (Ops.set H1 r (.tup (prK k a b v))) := fun hx hT hf S hQ hE =>
  hf _ _ (p hx S (fun a' v' s' ev g S' ra => by
    injection ev with ev; subst ev
    obtain ⟨a1, m, gT, rT⟩ := S'.tupAt hr hT
    obtain ⟨q1, q2, e, r1, r2⟩ := rT.pair
    subst e
    exact ⟨_, m, gT, rfl, fun h' m' i1 i2 => have u := S'.upd (s' := { s' with heap := h' }) (o := .tup (prK k a b v)) hT i1 ⟨_, m', rfl, prK_ar r1 r2 ra k⟩ (fun b o n e => i2.extBut b o n e) (Nat.le_of_eq i2.1.symm) (Nat.le_refl _) rfl rfl; hQ rfl _ (g.trans u.2) u.1⟩) fun e s' ev => nomatch ev)
theorem fill_none {i r : Nat} {k : Bool} {H1 : Hp} (p : ∀ {x}, θ[i]? = some x → NoR C A θ H x .none H1) : FillR C A θ i r k H false H1 := fun hx hT hf S hQ hE =>
  hf _ _ (p hx S (fun a' v' s' ev => nomatch ev) fun e s' _ g S' he => hE rfl e s' g S' he)
theorem nextS_yes' {i : Nat} (hh : A.handled = none) : YesH (fun ov H' => ∀ {x}, θ[i]? = some x → NoR C A θ H x ov H') (nextS i H) := Yes.of fun _ h _ hx => (nextS_yes hh hx).get h
theorem fill_yes (hh : A.handled = none) {i r : Nat} {k : Bool} : YesH (FillR C A θ i r k H) (fillZ i r k H) :=
  Yes.nx (nextS_yes' hh) (fun v H1 p => Yes.vv pairAt_yes fun a b hr => fill_some p hr) fun H1 p => fill_none p

omit [Ops] in
theorem forIn2 {M : Model} {a b : Value × Nat} {r0 : B} {f : Value × Nat → B → Sem (ForInStep B)} {Q : B → Shared → Prop} {E : Value → Shared → Prop} {s : Shared}
    (h : wpAny M A (f a r0) (fun r s => ∃ v, r = .yield v ∧ wpAny M A (f b v) (fun r s => ∃ v, r = .yield v ∧ Q v s) E s) E s) : wpAny M A (forIn [a, b] r0 f) Q E s := by
  simp only [List.forIn_cons, List.forIn_nil]
  refine wpAny_bind (wpAny_mono h (fun r s hr => ?_) fun _ _ h => h)
  obtain ⟨v, rfl, h⟩ := hr
  refine wpAny_bind (wpAny_mono h (fun r s hr => ?_) fun _ _ h => h)
  obtain ⟨v, rfl, h⟩ := hr
  exact wpAny_pure h
end

/- the head of a zip's step -/
theorem zip_open {p i j r : Nat} {z : Addr} {s : Shared} {Q : Option Value → Shared → Prop} {E : Value → Shared → Prop} (S : St C θ H s) (hx : θ[p]? = some z) (hp : Ops.get H p = some (.it (.zip i j r .free)))
    (k : ∀ {B : Type} {f : Value × Nat → B → Sem (ForInStep B)} {r0 : B} {x1 x2 x3 : Addr} {s1 : Shared} {Q1 : B → Shared → Prop} {E1 : Value → Shared → Prop}, θ[i]? = some x1 → θ[j]? = some x2 → θ[r]? = some x3 → BodyOk C.prog C.w A.in1 z x3 f r0 →
      Go C θ s θ s1 → St C θ (Ops.set H p (.it (.zip i j r .busy))) s1 → (∀ e s', Stop s' e → Q none s' → E1 (.ref e) s') →
      (∀ s' q1 q2 m, IsT s'.heap x3 #[q1, q2] m → (∃ TI y f0, IsZip (s'.heap.push { cls := .type "tuple", data := .seq #[q1, q2] }) z TI y f0 ∧ ∀ h7, IsZip h7 z TI y (rawInt s'.heap.objs.size) → Heap.SameBut z (s'.heap.push { cls := .type "tuple", data := .seq #[q1, q2] }) h7 → Q (some (.ref s'.heap.objs.size)) { s' with heap := h7 }) → Q1 r0 s') →
      wpAny (model C.prog C.w) A.in1 (forIn [(.ref x1, 0), (.ref x2, 1)] r0 f) Q1 E1 s1) :
    wpAny (model C.prog C.w) A (pyNext (.ref z)) Q E s := by
  obtain ⟨oz, gz, x1, x2, x3, TI, f0, e1, e2, e3, e4, e5, e6, e7, rfl⟩ := S.itAt hp hx
  have e7' : f0 = .none := e7
  subst e7'
  have hz : IsZip s.heap z TI x3 .none := gz
  have hT : s.TypeIs (.ref z) "zip" := ⟨_, hz, rfl⟩
  unfold pyNext
  refine wpAny_bind (wpAny_attempt (wpAny_callSpecial?_slot (name := Str.ofString "__next__") hT F.slot_zip_next
    (wpAny_call_entry F.slot_zip_next hT F.entry_zip_next ?_ (F.args_zip_next_1 _))))
  show wpAny _ _ (field (.ref z) 2 >>= _) _ _ _
  refine wpAny_bind (wpAny_field hz rfl (x := .bool false) rfl ?_)
  show wpAny _ _ (field (.ref z) 3 >>= _) _ _ _
  refine wpAny_bind (wpAny_field hz rfl (x := .ref TI) rfl ?_)
  refine wpAny_bind (wpAny_seqItems e6 rfl ?_)
  show wpAny _ _ (Builtin.SmallTypes.ownedTupleIsFree (.ref z) >>= _) _ _ _
  refine wpAny_bind ?_
  unfold Builtin.SmallTypes.ownedTupleIsFree
  refine wpAny_bind (wpAny_field hz rfl (x := .none) rfl (wpAny_pure ?_))
  simp only [if_true]
  refine wpAny_bind (wpAny_rule ?_)
  refine wpAny_bind (wpAny_field hz rfl (x := .ref x3) rfl ?_)
  refine wpAny_bind (wpAny_setField_rec hz (by simp) fun h₁ hz₁ hs₁ => ?_)
  have u := S.upd (s' := { s with heap := h₁ }) (o := .it (.zip i j r .busy)) hx hz₁ ⟨x1, x2, x3, TI, .ellipsis, e1, e2, e3, e4, e5, e6, rfl, rfl⟩ (fun b o n e => hs₁.extBut b o n e) (Nat.le_of_eq hs₁.1.symm) (Nat.le_refl _) rfl rfl
  refine wpAny_bind (k e1 e2 e3 ?_ u.2 u.1 (fun e s' he hq => ?_) fun s' q1 q2 m hT hq => ?_)
  · exact fun it k Q E s h => wpAny_bind (wpAny_onRaise (wpAny_bind (wpAny_mono h (fun x s1 ⟨a, m, hT, hz, hk⟩ => wpAny_pure (wpAny_bind (wpAny_seqItems hT rfl (wpAny_bind (wpAny_updateTup hT hz fun h' m' i1 i2 => wpAny_bind (wpAny_letGo (wpAny_pure (hk h' m' i1 i2)))))))) fun e s1 he => he)))
  · obtain ⟨o, ho, hc⟩ := he
    exact wpAny_bind (wpAny_isInstance (T := "StopIteration") (b := true) ⟨o, ho, hc⟩ isSubtype_stop (wpAny_pure hq))
  · obtain ⟨TI, y, f0, g1, g2⟩ := hq
    refine wpAny_bind (wpAny_seqItems hT rfl ?_)
    refine wpAny_bind (wpAny_newTuple ?_)
    refine wpAny_bind (m := Builtin.SmallTypes.ownedTupleHandOut (.ref z) _) ?_
    unfold Builtin.SmallTypes.ownedTupleHandOut
    refine wpAny_bind (wpAny_setField_rec g1 (by simp) fun h₇ hz₇ hs₇ => ?_)
    have hz7 : IsZip h₇ z TI y (rawInt s'.heap.objs.size) := hz₇
    refine wpAny_setField_rec hz7 (by simp) fun h₈ hz₈ hs₈ => ?_
    exact wpAny_pure ⟨_, rfl, wpAny_pure (g2 h₈ hz₈ (hs₇.trans hs₈))⟩
end
end Mine
end
section
open PySem PyProof.Rows
set_option maxRecDepth 100000
namespace Mine
variable [Ops]
section
variable {C : Cx} {G : Env0} {A : Around} {θ : Th} {H H' : Hp} {ρ : Rho} {env : Env} {α β γ : Type} {ih : Ih} {n : Nat}

/- a draw for a target: what it gives is let go after the assignment -/
noncomputable def NitR (C : Cx) (A : Around) (θ : Th) (H : Hp) (t : Expr) (z : Addr) (ov : Option V) (H' : Hp) : Prop := ∀ {s : Shared} {Q : Option Value → Shared → Prop} {E : Value → Shared → Prop}, St C θ H s →
  (ov = .none → ∀ s', Nx C θ s s' (fun _ H'' => H'' = H') → Q none s') →
  (∀ v, ov = some v → ∀ a s', wpAny (model C.prog C.w) A (letOwnedTupleGo t (.ref z) a) (fun _ s2 => Nx C θ s s2 fun θ' H'' => H'' = H' ∧ VR θ' v a) (fun _ _ => False) s' → Q (some a) s') →
  wpAny (model C.prog C.w) A (pyNext (.ref z)) Q E s

section
variable {p i j r : Nat} {z : Addr} {t : Expr}
noncomputable abbrev busy (H : Hp) (p : Nat) : Prop := ∃ i j r, Ops.get H p = some (.it (.zip i j r .busy))
/- the end of a zip -/
theorem zip_over {H2 : Hp} {s s2 : Shared} {Q : Option Value → Shared → Prop} {E1 : Value → Shared → Prop} {e : Addr} (hx : θ[p]? = some z) (hb : busy H2 p) (Ga : Go C θ s θ s2) (Sa : St C θ H2 s2) (he : Stop s2 e)
    (hE : ∀ e s', Stop s' e → Q none s' → E1 (.ref e) s') (hN : ∀ s', Nx C θ s s' (fun _ H'' => H'' = Ops.set H2 p .gone) → Q none s') : wpAny (model C.prog C.w) A (setField (.ref z) 0 .none) (fun _ s3 => E1 (.ref e) s3) E1 s2 := by
  obtain ⟨i, j, r, hp2⟩ := hb
  obtain ⟨oz2, gz2, y1, y2, y3, TI2, f2, k1, k2, k3, k4, k5, k6, k7, rfl⟩ := Sa.itAt hp2 hx
  obtain ⟨oe, hoe, hce⟩ := he
  have hez : e ≠ z := fun q => by subst q; rw [gz2] at hoe; cases hoe; simp at hce
  refine wpAny_setField_rec gz2 (by simp) fun h₃ _ hs₃ => ?_
  have u := Sa.kill (s' := { s2 with heap := h₃ }) hx (fun b o n e => hs₃.extBut b o n e) (Nat.le_of_eq hs₃.1.symm) (Nat.le_refl _) rfl rfl
  exact hE e _ ⟨oe, hs₃.extBut _ _ hez hoe, hce⟩ (hN _ (.mk' (Ga.trans u.2) u.1 rfl))
noncomputable abbrev FlT (C : Cx) (A : Around) (θ : Th) (i r : Nat) (k : Bool) (H : Hp) (b : Bool) (H' : Hp) : Prop := FillR C A.in1 θ i r k H b H'
noncomputable abbrev bz (H : Hp) (p i j r : Nat) : Hp := Ops.set H p (.it (.zip i j r .busy))
theorem zip_end1 {H2 : Hp} (hx : θ[p]? = some z) (hp : Ops.get H p = some (.it (.zip i j r .free))) (f1 : FlT C A θ i r false (bz H p i j r) false H2) (hb : busy H2 p) : NitR C A θ H t z .none (Ops.set H2 p .gone) := fun S hN hQ =>
  zip_open S hx hp fun e1 e2 e3 hf g S1 hE hq => forIn2 (f1 e1 e3 hf S1 (fun h => nomatch h) fun _ e s' g2 S2 he => zip_over hx hb (g.trans g2) S2 he hE (hN rfl))
theorem zip_end2 {H2 H3 : Hp} (hx : θ[p]? = some z) (hp : Ops.get H p = some (.it (.zip i j r .free))) (f1 : FlT C A θ i r false (bz H p i j r) true H2) (f2 : FlT C A θ j r true H2 false H3) (hb : busy H3 p) : NitR C A θ H t z .none (Ops.set H3 p .gone) := fun S hN hQ =>
  zip_open S hx hp fun e1 e2 e3 hf g S1 hE hq => forIn2 (f1 e1 e3 hf S1 (fun _ s' g2 S2 => ⟨_, rfl, f2 e2 e3 hf S2 (fun h => nomatch h) fun _ e s' g3 S3 he => zip_over hx hb (g.trans (g2.trans g3)) S3 he hE (hN rfl)⟩) fun h => nomatch h)
/- the pair is handed out -/
theorem zip_hand {H3 : Hp} {a b : V} {i' j' q : Nat} {s s3 : Shared} {Q : Option Value → Shared → Prop} {q1 q2 : Value} (ht : isTup t = true) (hx : θ[p]? = some z) (hp : Ops.get H3 p = some (.it (.zip i' j' q .busy))) (r1 : VR θ a q1) (r2 : VR θ b q2) (Ga : Go C θ s θ s3) (Sa : St C θ H3 s3)
    (hQ : ∀ x s', wpAny (model C.prog C.w) A (letOwnedTupleGo t (.ref z) x) (fun _ s2 => Nx C θ s s2 fun θ' H'' => H'' = Ops.set (Ops.app H3 [O.tup [a, b]]) p (.it (.zip i' j' q .free)) ∧ VR θ' (.ref (Ops.len H3)) x) (fun _ _ => False) s' → Q (some x) s') :
    ∃ TI y f0, IsZip (s3.heap.push { cls := .type "tuple", data := .seq #[q1, q2] }) z TI y f0 ∧ ∀ h7, IsZip h7 z TI y (rawInt s3.heap.objs.size) → Heap.SameBut z (s3.heap.push { cls := .type "tuple", data := .seq #[q1, q2] }) h7 → Q (some (.ref s3.heap.objs.size)) { s3 with heap := h7 } := by
  have u := Sa.new (s' := { s3 with heap := s3.heap.push { cls := .type "tuple", data := .seq #[q1, q2] } }) (o := .tup [a, b]) (Nat.le_refl _) (Heap.get?_push_size _ rfl) ⟨_, 0, rfl, r1.mono (Ext.app _ _), r2.mono (Ext.app _ _), trivial⟩ (fun _ _ e => Heap.get?_push_of_some _ e) (Nat.le_refl _) rfl rfl
  have hx6 := (Ext.app θ [s3.heap.objs.size]).1 _ _ hx
  have hp6 : Ops.get (Ops.app H3 [O.tup [a, b]]) p = some (.it (.zip i' j' q .busy)) := (Ops.app_lt _ (Ops.lt hp)).trans hp
  obtain ⟨oz6, gz6, y1, y2, y3, TI6, f6, k1, k2, k3, k4, k5, k6, k7, rfl⟩ := u.1.itAt hp6 hx6
  refine ⟨TI6, y3, f6, gz6, fun h7 hz7 hs7 => hQ _ _ ?_⟩
  obtain ⟨es, x0, ps, rfl⟩ : ∃ es x0 ps, t = .Tuple es x0 ps := by cases t <;> first | exact ⟨_, _, _, rfl⟩ | cases ht
  refine wpAny_letOwnedTupleGo_zip hz7 fun h₉ hz₉ hs₉ => ?_
  have h97 := hs₉.1.trans hs7.1
  have u9 := u.1.upd (s' := { s3 with heap := h₉ }) (o := .it (.zip i' j' q .free)) hx6 hz₉ ⟨y1, y2, y3, TI6, .none, k1, k2, k3, k4, k5, k6, rfl, rfl⟩ (fun b o n e => hs₉.extBut b o n (hs7.extBut b o n e)) (Nat.le_of_eq h97.symm) (Nat.le_refl _) rfl rfl
  exact .mk' (Ga.trans (u.2.trans u9.2)) u9.1 ⟨rfl, new_ref Sa.len⟩
theorem zip_out {H2 H3 : Hp} {a b : V} {i' j' q : Nat} (ht : isTup t = true) (hx : θ[p]? = some z) (hp : Ops.get H p = some (.it (.zip i j r .free))) (f1 : FlT C A θ i r false (bz H p i j r) true H2) (f2 : FlT C A θ j r true H2 true H3)
    (hb : Ops.get H3 p = some (.it (.zip i' j' q .busy))) (hr : Ops.get H3 r = some (.tup [a, b])) : NitR C A θ H t z (some (.ref (Ops.len H3))) (Ops.set (Ops.app H3 [O.tup [a, b]]) p (.it (.zip i' j' q .free))) := fun S hN hQ =>
  zip_open S hx hp fun e1 e2 e3 hf g S1 hE hq => forIn2 (f1 e1 e3 hf S1 (fun _ s' g2 S2 => ⟨_, rfl, f2 e2 e3 hf S2 (fun _ s3 g3 S3 => ⟨_, rfl, by
    obtain ⟨a1, m, gT, rT⟩ := S3.tupAt hr e3
    obtain ⟨q1, q2, e, r1, r2⟩ := rT.pair
    subst e
    exact hq s3 q1 q2 m gT (zip_hand ht hx hb r1 r2 (g.trans (g2.trans g3)) S3 (hQ _ rfl))⟩) fun h => nomatch h⟩) fun h => nomatch h)
theorem Yes.bh2 {Q : γ → Prop} {x : Option (Bool × Hp)} {P : Bool → Hp → Prop} {K K' : Hp → Option γ} (p : YesH P x) (h : ∀ H, P true H → Yes Q (K H)) (h' : ∀ H, P false H → Yes Q (K' H)) :
    Yes Q (match (generalizing := false) x with | some (true, H) => K H | some (false, H) => K' H | .none => .none) := by
  cases x with
  | none => exact trivial
  | some q =>
    obtain ⟨o, H⟩ := q
    cases o with
    | true => exact h H p
    | false => exact h' H p
omit [Ops] in
theorem Yes.n3 {Q : γ → Prop} {x : Option (Nat × Nat × Nat)} {P : Nat × Nat × Nat → Prop} {K : Nat → Nat → Nat → Option γ} (p : Yes P x) (h : ∀ i j k, P (i, j, k) → Yes Q (K i j k)) : Yes Q (match (generalizing := false) x with | some (i, j, k) => K i j k | .none => .none) := by
  cases x with
  | none => exact trivial
  | some q => exact h _ _ _ p
omit [Ops] in
theorem Yes.n3' {Q : γ → Prop} {x : Option (Nat × Nat × Nat)} {P : Nat × Nat × Nat → Prop} {K : Option γ} (p : Yes P x) (h : ∀ i j k, P (i, j, k) → Yes Q K) : Yes Q (match (generalizing := false) x with | some _ => K | .none => .none) := by
  cases x with
  | none => exact trivial
  | some q => exact h _ _ _ p
omit [Ops] in
theorem Yes.n3o {Q : γ → Prop} {x : Option (Nat × Nat × Nat)} {P : Nat × Nat × Nat → Prop} {K : Nat → Nat → Nat → Option γ} {K' : Option γ} (p : Yes P x) (h : ∀ i j k, P (i, j, k) → Yes Q (K i j k)) (h' : Yes Q K') : Yes Q (match (generalizing := false) x with | some (i, j, k) => K i j k | .none => K') := by
  cases x with
  | none => exact h'
  | some q => exact h _ _ _ p
theorem zip_yes (hh : A.handled = none) (ht : isTup t = true) (hx : θ[p]? = some z) (hp : Ops.get H p = some (.it (.zip i j r .free))) : YesH (NitR C A θ H t z) (nextZ p i j r H) :=
  Yes.bh2 (fill_yes (A := A.in1) hh) (fun H2 f1 => Yes.bh2 (fill_yes (A := A.in1) hh) (fun H3 f2 => Yes.n3 (zipAt_yes true) fun i' j' q hb => Yes.vv pairAt_yes fun a b hr => by
    exact zip_out ht hx hp f1 f2 hb hr) fun H3 f2 => Yes.n3' (zipAt_yes true) fun i' j' q hb => by
    exact zip_end2 hx hp f1 f2 ⟨_, _, _, hb⟩) fun H2 f1 => Yes.n3' (zipAt_yes true) fun i' j' q hb => by
    exact zip_end1 hx hp f1 ⟨_, _, _, hb⟩

/- after a draw from what is no zip, its object still stands -/
theorem it_cls {x : Addr} {I : It} {s : Shared} (S : St C θ H s) (hx : θ[p]? = some x) (hp : Ops.get H p = some (.it I)) (hI : isZip I = false) : ∃ o c, s.heap.get? x = some o ∧ o.cls = .type c ∧ ["enumerate", "zip", "dict_itemiterator", "dict_reverseitemiterator", "odict_iterator", "itertools.zip_longest", "itertools.pairwise"].contains c = false := by
  obtain ⟨o, g1, g2⟩ := S.itAt hp hx
  cases I with
  | rng a b c => have g2' : o = _ := g2; exact ⟨o, "range_iterator", g1, by rw [g2'], rfl⟩
  | seq b l i => obtain ⟨y, _, h3, _⟩ := g2; exact ⟨o, _, g1, h3, by cases b <;> rfl⟩
  | rev l k => obtain ⟨y, _, h3, _⟩ := g2; exact ⟨o, _, g1, h3, rfl⟩
  | zip => exact Bool.noConfusion hI
theorem letOwned_plain {x : Addr} {I : It} {v : Value} {s : Shared} (S : St C θ H s) (hx : θ[p]? = some x) (hp : Ops.get H p = some (.it I)) (hI : isZip I = false) {Q : Unit → Shared → Prop} {E : Value → Shared → Prop} (hQ : Q () s) :
    wpAny (model C.prog C.w) A (letOwnedTupleGo t (.ref x) v) Q E s := by
  obtain ⟨o, c, g1, hc, hn⟩ := it_cls S hx hp hI
  cases t with
  | Tuple es x0 ps =>
    cases v with
    | ref y =>
      unfold letOwnedTupleGo
      refine wpAny_bind (wpAny_load g1 ?_)
      rw [hc]
      cases o.data <;> first
        | exact wpAny_pure hQ
        | (simp only [hn, Bool.false_and, Bool.false_eq_true, if_false]; exact wpAny_pure hQ)
    | _ => exact wpAny_pure hQ
  | List es ps =>
    cases v with
    | ref y =>
      unfold letOwnedTupleGo
      refine wpAny_bind (wpAny_load g1 ?_)
      rw [hc]
      cases o.data <;> first
        | exact wpAny_pure hQ
        | (simp only [hn, Bool.false_and, Bool.false_eq_true, if_false]; exact wpAny_pure hQ)
    | _ => exact wpAny_pure hQ
  | _ => exact wpAny_pure hQ

theorem nit_none {H1 : Hp} (p : NxP C A θ H z .none H1) : NitR C A θ H t z .none H1 := fun {s Q E} S hN hQ =>
  wpAny_mono (p s S) (fun r s1 hb => hb.elim fun θ1 H1 g S1 ⟨e, o1⟩ => by
    rw [show r = none from o1]; exact hN rfl s1 (.mk' g S1 e)) fun _ _ x => x.elim
theorem nit_some {H1 : Hp} {v : V} {I : It} (q : NxP C A θ H z (some v) H1) (hx : θ[p]? = some z) (hp : Ops.get H1 p = some (.it I)) (hI : isZip I = false) : NitR C A θ H t z (some v) H1 := fun {s Q E} S hN hQ =>
  wpAny_mono (q s S) (fun r s1 hb => hb.elim fun θ1 H2 g S1 ⟨e, o1⟩ => by
    obtain ⟨a, rfl, ra⟩ := o1
    subst e
    exact hQ v rfl a s1 (letOwned_plain S1 (g.getE hx) hp hI (.mk' g S1 ⟨rfl, ra⟩))) fun _ _ x => x.elim
omit [Ops] in
theorem Yes.itI {Q : γ → Prop} {o : Option It} {P : It → Prop} {K : It → Option γ} (p : Yes P o) (h : ∀ m, P m → Yes Q (K m)) : Yes Q (match (generalizing := false) o with | some m => K m | .none => .none) := by
  cases o with
  | none => exact trivial
  | some m => exact h m p
theorem after1_yes (hx : θ[p]? = some z) : ∀ q : Option V × Hp, NxP C A θ H z q.1 q.2 → YesH (NitR C A θ H t z) (after1 p q)
  | (.none, H1), h => nit_none h
  | (some v, H1), h => Yes.itI (itAt_yes p) fun I hp => by
    refine Yes.f fun hI => ?_; exact nit_some h hx hp hI
theorem Yes.ovh {Q : γ → Prop} {x : Option (Option V × Hp)} {P : Option V → Hp → Prop} {K : Option V × Hp → Option γ} (p : YesH P x) (h : ∀ q, P q.1 q.2 → Yes Q (K q)) : Yes Q (match (generalizing := false) x with | some q => K q | .none => .none) := by
  cases x with
  | none => exact trivial
  | some q => exact h q p
theorem nextIt_yes (hh : A.handled = none) (hx : θ[p]? = some z) : YesH (NitR C A θ H t z) (nextIt t p H) :=
  Yes.n3o (zipAt_yes false) (fun i j r hp => Yes.t fun ht => zip_yes hh ht hx hp) (Yes.itI (itAt_yes p) fun I hp => Yes.ovh (next1_yes hh hx I hp) fun q h => after1_yes hx q h)

/- an iterator gives itself -/
theorem itSelf {x : Addr} {I : It} {s : Shared} (S : St C θ H s) (hx : θ[p]? = some x) (hp : Ops.get H p = some (.it I)) {Q : Value → Shared → Prop} {E : Value → Shared → Prop} (hQ : Q (.ref x) s) : wpAny (model C.prog C.w) A (pyIter (.ref x)) Q E s := by
  obtain ⟨o, g1, g2⟩ := S.itAt hp hx
  cases I with
  | rng a b c => have g2' : o = _ := g2; subst g2'; exact wpAny_pyIter_rangeiter g1 hQ
  | seq b l i =>
    obtain ⟨y, _, h3, h4⟩ := g2
    cases b with
    | true => exact wpAny_pyIter_tupleiter ⟨o, g1, h3, h4⟩ hQ
    | false => exact wpAny_pyIter_listiter ⟨o, g1, h3, h4⟩ hQ
  | rev l k => obtain ⟨y, _, h3, h4⟩ := g2; exact wpAny_pyIter_revIter ⟨o, g1, h3, h4⟩ hQ
  | zip i j r f => obtain ⟨x1, x2, x3, TI, f0, e1, e2, e3, e4, e5, e6, e7, rfl⟩ := g2; exact wpAny_pyIter_zip g1 hQ
theorem Tri.release' {vs ks : List Value} {P : Unit → Th → Hp → Prop} (h : P () θ H) : Tri C A θ H (PySem.release vs ks) P := fun s S => fun Γ p hΓ => by
  rw [Sem.wp_release]
  exact fin_same S h
end
end
end Mine
end
section
open PySem PyProof.Rows
set_option maxRecDepth 100000
namespace Mine
variable [Ops]

omit [Ops] in
theorem sub_ri_reversed : isSubtype (.type "range_iterator") (.type "reversed") = pure false := by rw [isSubtype_type]; kernel_rfl

omit [Ops] in
theorem meets_range_reversed (r : Addr) (a b c : Int) (t u v : Tok) (hc0 : ¬(!(Builtin.Range.rangeFitsLong a && Builtin.Range.rangeFitsLong b && Builtin.Range.rangeFitsLong c && Builtin.Range.rangeFitsLong (-c) && Builtin.Range.rangeFitsLong (a - c) && Builtin.Range.rangeFitsLong (Builtin.Range.rangeSize a b c))) = true) :
    Meets (Builtin.«range.__reversed__» ⟨[.ref r], []⟩) (fun _ R s => s.heap.get? r = some { cls := .type "range", dict := none, data := .fields #[.int a t, .int b u, .int c v], slots := #[] } ∧ R (.ok (.ret (Value.ref s.heap.objs.size))) { s with heap := s.heap.push { cls := Value.type (if (Builtin.Range.rangeFitsLong a && Builtin.Range.rangeFitsLong b && Builtin.Range.rangeFitsLong c && Builtin.Range.rangeFitsLong (-c) && Builtin.Range.rangeFitsLong (a - c) && Builtin.Range.rangeFitsLong (Builtin.Range.rangeSize a b c)) = true then "range_iterator" else "longrange_iterator"), data := Data.fields #[rawInt (a + (Builtin.Range.rangeSize a b c - 1) * c), rawInt (Builtin.Range.rangeSize a b c), rawInt (-c)] }, toks := s.toks }) :=
  .of_wp fun prog w A R s h => by obtain ⟨hp, g, d, tk, os⟩ := s; obtain ⟨hl, h⟩ := h; wp_walk; exact ⟨_, rfl, h⟩

noncomputable def SeqIs (b : Bool) (h : Heap) (l : Addr) (items : Array Value) : Prop := match b with
  | true => h.IsTuple l items
  | false => h.IsList l items
omit [Ops] in
theorem SeqIs.push {b : Bool} {h : Heap} {l : Addr} {items : Array Value} (x : SeqIs b h l items) (o : Obj) : SeqIs b (h.push o) l items := by
  cases b with
  | true => exact Heap.IsTuple.push x o
  | false => exact Heap.IsList.push x o

section
variable {prog : Program} {w : World} {A : Around} {E : Value → Shared → Prop} {s : Shared}
omit [Ops] in
theorem pyIter_seq {b : Bool} {l : Addr} {items} {Q : Value → Shared → Prop} (hl : SeqIs b s.heap l items)
    (hQ : Q (.ref s.heap.objs.size) { s with heap := s.heap.push { cls := .type (itCls b), data := .fields #[.ref l, .int 0 0] } }) :
    wpAny (model prog w) A (pyIter (.ref l)) Q E s := by
  cases b with
  | true => exact wpAny_pyIter_tuple hl hQ
  | false => exact wpAny_pyIter_list hl hQ
end

noncomputable abbrev zp1 (b1 : Bool) (h : Heap) (l1 : Addr) : Heap := h.push { cls := .type (itCls b1), data := .fields #[.ref l1, .int 0 0] }
noncomputable abbrev zp2 (b1 b2 : Bool) (h : Heap) (l1 l2 : Addr) : Heap := (zp1 b1 h l1).push { cls := .type (itCls b2), data := .fields #[.ref l2, .int 0 0] }
noncomputable abbrev zp3 (b1 b2 : Bool) (h : Heap) (l1 l2 : Addr) : Heap := (zp2 b1 b2 h l1 l2).push { cls := .type "tuple", data := .seq #[.ref h.objs.size, .ref (zp1 b1 h l1).objs.size] }
noncomputable abbrev zp4 (b1 b2 : Bool) (h : Heap) (l1 l2 : Addr) : Heap := (zp3 b1 b2 h l1 l2).push { cls := .type "tuple", data := .seq #[.none, .none] }
noncomputable abbrev zp5 (b1 b2 : Bool) (h : Heap) (l1 l2 : Addr) : Heap := (zp4 b1 b2 h l1 l2).push { cls := .type "zip", data := .fields #[.none, .bool false, .bool false, .ref (zp2 b1 b2 h l1 l2).objs.size, .ref (zp3 b1 b2 h l1 l2).objs.size] }

theorem meets_zip (b1 b2 : Bool) (l1 l2 : Addr) (xs ys : Array Value) :
    Meets (Builtin.«zip.__new__» ⟨[.type "zip", .ref l1, .ref l2], []⟩) (fun _ R s => SeqIs b1 s.heap l1 xs ∧ SeqIs b2 s.heap l2 ys ∧
      R (.ok (.ret (.ref (zp4 b1 b2 s.heap l1 l2).objs.size))) { s with heap := zp5 b1 b2 s.heap l1 l2 }) :=
  .of_wp fun prog w A R s h => by
    obtain ⟨hp, g, d, tk, os⟩ := s; obtain ⟨hl1, hl2, h⟩ := h
    have hsub := sub_zip
    have hL1 : SeqIs b1 (Shared.heap ⟨hp, g, d, tk, os⟩) l1 xs := hl1
    have hL2 : SeqIs b2 (Shared.heap ⟨hp.push { cls := .type (itCls b1), data := .fields #[.ref l1, .int 0 0] }, g, d, tk, os⟩) l2 ys := SeqIs.push hl2 _
    wp_walk using pyIter_seq hL1, pyIter_seq hL2
    exact ⟨_, rfl, h⟩

section
variable {C : Cx} {G : Env0} {A : Around} {θ : Th} {H H' : Hp} {ρ : Rho} {env : Env} {α β γ : Type} {ih : Ih} {n : Nat}

theorem code_rev_range {prog : Program} {w : World} {E : Value → Shared → Prop} {s : Shared} {r : Addr} {a b : Int} {t u v : Tok} {Q₁ : Value → Shared → Prop} (hr : IsRange s.heap r a b 1 t u v) (h1 : -8000 ≤ a ∧ a ≤ 8000) (h2 : -8000 ≤ b ∧ b ≤ 8000)
    (h : Q₁ (.ref s.heap.objs.size) { s with heap := s.heap.push { cls := .type "range_iterator", data := .fields #[rawInt (a + (((b - a).toNat : Int) - 1)), rawInt ((b - a).toNat : Int), rawInt (-1)] } }) :
    codeAny (model prog w) A (.call (.builtin "reversed.__new__") ⟨[.type "reversed", .ref r], []⟩) (wants Q₁ E) s := by
  have hT : s.TypeIs (.ref r) "range" := ⟨_, hr, rfl⟩
  refine codeAny_of_tree ?_
  show wpAny _ A.in1 (do checkBuiltinCall "reversed.__new__" ⟨[.type "reversed", .ref r], []⟩; again (.builtin "reversed.__new__" ⟨[.type "reversed", .ref r], []⟩)) _ _ s
  refine wpAny_bind (wpAny_of_eq (F.newCall_reversed_1 _) (wpAny_pure ⟨plainId_quiet F.plain_reversed_new _, codeAny_builtin F.entry_reversed_new ?_⟩))
  rw [Around.under_plainId F.plain_reversed_new _]
  unfold Builtin.«reversed.__new__»
  refine wpAny_bind (wpAny_of_eq (newClass_reversed _) ?_)
  try dsimp only
  refine wpAny_bind (wpAny_of_eq (a := ()) (by first | rfl | kernel_rfl) ?_)
  refine wpAny_bind (wpAny_of_eq (a := ()) (by first | rfl | kernel_rfl) ?_)
  try dsimp only
  refine wpAny_bind (wpAny_specialOf hT F.slot_range_reversed.lookup ?_)
  try dsimp only
  refine wpAny_bind (wpAny_of_eq (F.slot_range_reversed.bind _) ?_)
  try dsimp only
  rw [if_neg (show ¬ ((Value.builtin "range.__reversed__" == Value.none) = true) from Bool.false_ne_true)]
  refine wpAny_bind (wpAny_rule ?_)
  have e : Builtin.Range.rangeSize a b 1 = ((b - a).toNat : Int) := rangeSize_nat a b
  have sm : (Builtin.Range.rangeFitsLong a && Builtin.Range.rangeFitsLong b && Builtin.Range.rangeFitsLong 1 && Builtin.Range.rangeFitsLong (-1) && Builtin.Range.rangeFitsLong (a - 1) && Builtin.Range.rangeFitsLong (Builtin.Range.rangeSize a b 1)) = true := by
    rw [e]
    unfold Builtin.Range.rangeFitsLong
    simp only [Bool.and_eq_true, decide_eq_true_eq]
    refine ⟨⟨⟨⟨⟨⟨?_, ?_⟩, ?_, ?_⟩, ?_, ?_⟩, ?_, ?_⟩, ?_, ?_⟩, ?_, ?_⟩ <;> omega
  refine wpAny_bind (m := runValue (.call (.builtin "range.__reversed__") ⟨[.ref r], []⟩)) (show wpAny _ _ (call (.builtin "range.__reversed__") [.ref r]) _ _ _ from
    call_meets F.slot_range_reversed hT F.entry_range_reversed (F.args_range_reversed_1 _) (meets_range_reversed r a b 1 t u v (by rw [sm]; simp)) ⟨hr, ?_⟩)
  rw [sm, e]
  simp only [if_true, Int.mul_one]
  first
  | exact wpAny_pure h
  | exact wpAny_bind (wpAny_pure (wpAny_pure h))
  | exact wpAny_pure ⟨_, rfl, h⟩

theorem call_rev_range {prog : Program} {w : World} {E : Value → Shared → Prop} {s : Shared} {r : Addr} {a b : Int} {t u v : Tok} {Q : Value → Shared → Prop} (hr : IsRange s.heap r a b 1 t u v) (h1 : -8000 ≤ a ∧ a ≤ 8000) (h2 : -8000 ≤ b ∧ b ≤ 8000)
    (h : Q (.ref s.heap.objs.size) { s with heap := s.heap.push { cls := .type "range_iterator", data := .fields #[rawInt (a + (((b - a).toNat : Int) - 1)), rawInt ((b - a).toNat : Int), rawInt (-1)] } }) :
    wpAny (model prog w) A (call (.type "reversed") [.ref r]) Q E s := by
  refine callType_other (U := "range_iterator") (Q₁ := fun obj s₁ => obj = .ref s.heap.objs.size ∧ s₁ = { s with heap := s.heap.push { cls := .type "range_iterator", data := .fields #[rawInt (a + (((b - a).toNat : Int) - 1)), rawInt ((b - a).toNat : Int), rawInt (-1)] } }) (by decide +kernel) F.create_reversed ⟨_, _, F.mro_reversed⟩ F.made_reversed sub_ri_reversed (F.typeCall_reversed_1 _) (code_rev_range hr h1 h2 ⟨rfl, rfl⟩) ?_
  rintro obj s₁ ⟨rfl, rfl⟩
  exact ⟨⟨_, Heap.get?_push_size _ rfl, rfl⟩, h⟩

theorem seqKind_yes {s : Shared} (S : St C θ H s) {l : Nat} {x : Addr} (e : θ[l]? = some x) : Yes (fun b => ∃ items, SeqIs b s.heap x items) (seqKind l H) := by
  show Yes _ (match Ops.get H l with | some (.list _) => some false | some (.tup _) => some true | _ => .none)
  cases hl : Ops.get H l with
  | none => exact trivial
  | some o => cases o with
    | list vs => exact let ⟨a1, n1, g1, r1⟩ := S.listAt hl e; ⟨a1, g1.isList⟩
    | tup vs => exact let ⟨a1, n1, g1, r1⟩ := S.tupAt hl e; ⟨a1, ⟨_, g1, rfl, n1, rfl⟩⟩
    | _ => exact trivial

/- the iterator of a loop is made -/
noncomputable abbrev ItMade (C : Cx) (θ : Th) (H' : Hp) (p : Nat) (s : Shared) (it : Value) (s2 : Shared) : Prop := ∃ a, it = .ref a ∧ Nx C θ s s2 fun θ' H'' => H'' = H' ∧ θ'[p]? = some a
noncomputable def Iters (C : Cx) (A : Around) (θ : Th) (H : Hp) (e : Expr) (env : Env) (p : Nat) (H' : Hp) : Prop :=
  ∀ s, St C θ H s → wpAny (model C.prog C.w) A (eval e env) (fun x s1 => wpAny (model C.prog C.w) A (pyIter x) (ItMade C θ H' p s) (fun _ _ => False) s1) (fun _ _ => False) s
theorem St.newIt {s0 s : Shared} {θ0 : Th} (g : Go C θ0 s0 θ s) (S : St C θ H s) (I : It) {o : Obj} (hf : o.isFreed = false) (hr : ItR C (θ ++ [s.heap.objs.size]) (s.heap.push o) I o) : ItMade C θ0 (Ops.app H [.it I]) (Ops.len H) s0 (.ref s.heap.objs.size) { s with heap := s.heap.push o } :=
  have x := S.new (s' := { s with heap := s.heap.push o }) (o := .it I) (Nat.le_refl _) (Heap.get?_push_size _ hf) hr (fun _ _ e => Heap.get?_push_of_some _ e) (Nat.le_refl _) rfl rfl
  ⟨_, rfl, .mk' (g.trans x.2) x.1 ⟨rfl, by
    show (θ.l ++ [s.heap.objs.size])[(Ops.len H)]? = _
    rw [← S.len]; exact List.getElem?_concat_length⟩⟩
noncomputable abbrev ItE (C : Cx) (A : Around) (ρ : Rho) (env : Env) (H : Hp) (e : Expr) (p : Nat) (H' : Hp) : Prop := ∀ {θ}, EnvR C θ ρ env → Iters C A θ H e env p H'
theorem plain_at {e : Expr} {v : V} {l : Nat} {b : Bool} {H1 : Hp} (q : AtE C A ρ env H e v H1) (e1 : v = .ref l) (h : seqKind l H1 = some b) : ItE C A ρ env H e (Ops.len H1) (Ops.app H1 [.it (.seq b l 0)]) := fun R s S =>
  wpAny_mono (q R s S) (fun x s1 hs => hs.elim fun θ1 H2 g S1 ⟨e2, r1⟩ => by
    subst e2; subst e1
    apply r1.ref; intro y e1
    obtain ⟨items, hq⟩ := (seqKind_yes S1 e1).get h
    refine pyIter_seq hq ?_
    exact S1.newIt g (.seq b l 0) (by cases b <;> rfl) ⟨y, (Ext.app _ _).1 _ _ e1, rfl, rfl⟩) fun _ _ x => x
omit [Ops] in
theorem vRef_yes (v : V) : Yes (fun l => v = .ref l) (vRef v) := by
  cases v <;> first | exact rfl | exact trivial
theorem plainIt_yes (I : IhS C ih n) (hA : Room A n) {e : Expr} : YesH (ItE C A ρ env H e) (evPlainIt ih e ρ H) :=
  Yes.vh (I.e hA e) fun v H1 q => Yes.n' (vRef_yes v) fun l e1 => Yes.bo Yes.self fun b hb => by
    exact plain_at q e1 hb
end
end Mine
end
section
open PySem PyProof.Rows
set_option maxRecDepth 100000
namespace Mine
variable [Ops]
section
variable {C : Cx} {G : Env0} {A : Around} {θ : Th} {H H' : Hp} {ρ : Rho} {env : Env} {α β γ : Type} {ih : Ih} {n : Nat} {vs : List V} {as : List Value}

omit [Ops] in
theorem isGlobal_of {x : Str} (h : isGlobal ρ x = true) : kind ρ x = some .globalImplicit := by
  unfold isGlobal at h
  revert h
  cases kind ρ x with
  | none => exact fun h => Bool.noConfusion h
  | some k => cases k <;> first | exact fun _ => rfl | exact fun h => Bool.noConfusion h
structure BcR (ρ : Rho) (e : Expr) (q : Bi × List Expr) : Prop where
  ex : ∃ f p pos, e = .Call (.Name f p) q.2 [] pos ∧ kind ρ f = some .globalImplicit ∧ biOf f = some q.1
omit [Ops] in
theorem nameCall_yes (e : Expr) : Yes (fun q => ∃ p pos, e = .Call (.Name q.1 p) q.2 [] pos) (nameCall e) := by
  cases e with
  | Call f a k p => cases f with
    | Name x q => cases k with
      | nil => exact ⟨_, _, rfl⟩
      | cons => exact trivial
    | _ => exact trivial
  | _ => exact trivial
omit [Ops] in
theorem Yes.nc {Q : γ → Prop} {o : Option (Str × List Expr)} {P : Str × List Expr → Prop} {K : Str → List Expr → Option γ} (p : Yes P o) (h : ∀ a b, P (a, b) → Yes Q (K a b)) : Yes Q (match (generalizing := false) o with | some (a, b) => K a b | .none => .none) := by
  cases o with
  | none => exact trivial
  | some q => exact h _ _ p
omit [Ops] in
theorem Yes.bi {Q : γ → Prop} {o : Option Bi} {P : Bi → Prop} {K : Bi → Option γ} (p : Yes P o) (h : ∀ a, P a → Yes Q (K a)) : Yes Q (match (generalizing := false) o with | some a => K a | .none => .none) := by
  cases o with
  | none => exact trivial
  | some q => exact h _ p
theorem biCall_yes (e : Expr) : Yes (BcR ρ e) (biCall ρ e) :=
  Yes.nc (nameCall_yes e) fun f args ⟨p, pos, e1⟩ => Yes.t fun hg => Yes.bi Yes.self fun b hb => ⟨f, p, pos, e1, isGlobal_of hg, hb⟩
theorem biName_tri (T : Top C G) (R : EnvR C θ ρ env) {x : Str} {b : Bi} {pos : Pos} (h1 : kind ρ x = some .globalImplicit) (h2 : biOf x = some b) : Tri C A θ H (eval (.Name x pos) env) fun a θ' H' => H' = H ∧ a = biVal b := fun s S =>
  have kn := (kind_yes R).get h1
  have e := T.bi x b h2
  Calls.Name_function_global R.fn kn.of (Calls.loadGlobal_builtin (env := env) (by rw [R.globals]; exact Top.ns S T.gns T.low.1) e.1 (by rw [R.builtins]; exact Top.ns S T.bns T.low.2.1) e.2 (fin_same S ⟨rfl, rfl⟩)) kn.d
omit [Ops] in
theorem biVal_is : ∀ b, (∃ id, biVal b = .builtin id) ∨ ∃ T, biVal b = .type T
  | .len => .inl ⟨_, rfl⟩
  | .range => .inr ⟨_, rfl⟩
  | .reversed => .inr ⟨_, rfl⟩
  | .zip => .inr ⟨_, rfl⟩
  | .divmod => .inl ⟨_, rfl⟩
  | .max => .inl ⟨_, rfl⟩
  | .min => .inl ⟨_, rfl⟩
  | .int => .inr ⟨_, rfl⟩
  | .sum => .inl ⟨_, rfl⟩
  | .sorted => .inl ⟨_, rfl⟩
/- the arguments, wherever they stand -/
noncomputable abbrev EvA (C : Cx) (A : Around) (ρ : Rho) (env : Env) (H : Hp) (es : List Expr) (vs : List V) (H' : Hp) : Prop := ∀ pos, EvR C A ρ env pos H es vs H'
theorem evA_yes (I : IhS C ih n) (hA : Room A n) (es : List Expr) {H : Hp} : YesH (EvA C A ρ env H es) (evs ih ρ es H) := Yes.of fun _ h pos => (evs_yes I hA pos es).get h
/- a call of a builtin by its name -/
theorem bi_at (T : Top C G) {e : Expr} {b : Bi} {args : List Expr} {H1 : Hp} {P : Value → Th → Hp → Prop} (hc : BcR ρ e (b, args)) (q : EvA C A ρ env H args vs H1) (R : EnvR C θ ρ env)
    (k : ∀ as θ1, Ext θ θ1 → AR θ1 vs as → Tri C A θ1 H1 (call (biVal b) as) P) : Tri C A θ H (eval e env) P := by
  obtain ⟨f, p, pos, e1, h1, h2⟩ := hc.ex
  subst e1
  rw [arm_eval_Call_Name']
  refine Tri.bind (biName_tri T R h1 h2) fun a θ0 H0 x0 z => ?_
  obtain ⟨rfl, rfl⟩ := z
  exact callB_at (first := []) (biVal_is b) (q pos) (R.mono x0) fun as θ1 x1 r1 => k as θ1 (x0.trans x1) r1

/- a range -/
noncomputable abbrev IsRg (C : Cx) (θ : Th) (H : Hp) (a b : Int) (s : Shared) (v : Value) (s' : Shared) : Prop := ∃ r t u w, v = .ref r ∧ ∃ θ', Go C θ s θ' s' ∧ St C θ' H s' ∧ IsRange s'.heap r a b 1 t u w
noncomputable def RgC (C : Cx) (A : Around) (θ : Th) (H : Hp) (as : List Value) (q : Int × Int) : Prop := ∀ s, St C θ H s → wpAny (model C.prog C.w) A (call (.type "range") as) (IsRg C θ H q.1 q.2 s) (fun _ _ => False) s
theorem fin_range {s : Shared} (S : St C θ H s) {a b : Int} {t u v : Tok} {k : Nat} (hk : s.toks ≤ k) : IsRg C θ H a b s (.ref s.heap.objs.size) { s with heap := s.heap.push { cls := .type "range", data := .fields #[.int a t, .int b u, .int 1 v] }, toks := k } :=
  have y := S.same (s' := { s with heap := s.heap.push { cls := .type "range", data := .fields #[.int a t, .int b u, .int 1 v] }, toks := k }) (fun _ _ e => Heap.get?_push_of_some _ e) (by show _ ≤ (s.heap.push _).objs.size; rw [Heap.size_push]; exact Nat.le_succ _) hk rfl rfl
  ⟨_, _, _, _, rfl, θ, y.2, y.1, Heap.get?_push_size _ rfl⟩
theorem range_tri1 (i : Int) (t : Tok) : RgC C A θ H [.int i t] (0, i) := fun s S => call_range_1 (fin_range S (Nat.le_add_right _ 2))
theorem range_tri2 (i : Int) (t : Tok) (j : Int) (u : Tok) : RgC C A θ H [.int i t, .int j u] (i, j) := fun s S => call_range_2 (fin_range S (Nat.le_succ _))
omit [Ops] in
theorem Yes.oneO {P : List Value → γ → Prop} {K : V → Option γ} {K' : Option γ} (r : AR θ vs as) (h : ∀ a x, VR θ a x → Yes (P [x]) (K a)) (h' : Yes (P as) K') : Yes (P as) (match (generalizing := false) Mine.one vs with | some a => K a | .none => K') := by
  cases vs with
  | nil => exact h'
  | cons a vs => cases vs with
    | cons => exact h'
    | nil => cases as with
      | nil => exact r.elim
      | cons x as => cases as with
        | nil => exact h a x r.1
        | cons => exact r.2.elim
theorem rangeOf_yes (r : AR θ vs as) : Yes (RgC C A θ H as) (rangeOf vs) :=
  Yes.oneO (P := RgC C A θ H) r (fun a x hx => Yes.vint (P := fun x => RgC C A θ H [x]) hx fun i t => Yes.ok (range_tri1 i t))
    (Yes.two (P := RgC C A θ H) r fun a b x y hx hy => Yes.vint (P := fun x => RgC C A θ H [x, y]) hx fun i t => Yes.vint (P := fun y => RgC C A θ H [.int i t, y]) hy fun j u => Yes.ok (range_tri2 i t j u))
noncomputable def RgE (C : Cx) (A : Around) (ρ : Rho) (env : Env) (H : Hp) (args : List Expr) (q : Int × Int) (H1 : Hp) : Prop := ∀ {θ e s}, EnvR C θ ρ env → BcR ρ e (.range, args) → St C θ H s → wpAny (model C.prog C.w) A (eval e env) (IsRg C θ H1 q.1 q.2 s) (fun _ _ => False) s
omit [Ops] in
theorem Yes.ii' {Q : γ → Prop} {o : Option (Int × Int)} {P : Int × Int → Prop} {K : Int × Int → Option γ} (p : Yes P o) (h : ∀ a, P a → Yes Q (K a)) : Yes Q (match (generalizing := false) o with | some a => K a | .none => .none) := by
  cases o with
  | none => exact trivial
  | some q => exact h _ p
theorem bi_wp (T : Top C G) {e : Expr} {b : Bi} {args : List Expr} {H1 : Hp} {s : Shared} {Q : Value → Shared → Prop} (hc : BcR ρ e (b, args)) (q : EvA C A ρ env H args vs H1) (R : EnvR C θ ρ env) (S : St C θ H s)
    (k : ∀ as θ1 s1, Go C θ s θ1 s1 → St C θ1 H1 s1 → AR θ1 vs as → wpAny (model C.prog C.w) A (call (biVal b) as) Q (fun _ _ => False) s1) : wpAny (model C.prog C.w) A (eval e env) Q (fun _ _ => False) s := by
  obtain ⟨f, p, pos, e1, h1, h2⟩ := hc.ex
  subst e1
  rw [arm_eval_Call_Name']
  refine wpAny_bind (wpAny_mono (biName_tri T R h1 h2 s S) (fun a s0 hs => ?_) fun _ _ x => x)
  refine hs.elim fun θ0 H0 G0 S0 z => ?_
  obtain ⟨rfl, rfl⟩ := z
  have e' : wpAny (model C.prog C.w) A (spliced (backTo pos (starEach args env))) (fun as s1 => wpAny (model C.prog C.w) A (call (biVal b) ([] ++ as)) Q (fun _ _ => False) s1) (fun _ _ => False) s0 :=
    wpAny_mono ((q pos).tri (R.mono G0.ext) s0 S0) (fun as s1 hs => hs.elim fun θ1 H2 g S1 z => k as θ1 s1 (G0.trans g) (z.1 ▸ S1) z.2) fun _ _ h => h
  have hp := (q pos).plain
  rcases biVal_is b with ⟨id, hf⟩ | ⟨T, hf⟩
  · rw [hf] at e' ⊢
    exact Calls.callWith_builtin (any_false hp) (evalArgs_any hp e')
  · rw [hf] at e' ⊢
    exact PySem.callWith_type (any_false hp) (evalArgs_any hp e')
theorem evRange_yes (I : IhS C ih n) (T : Top C G) (hA : Room A n) {args : List Expr} : YesH (RgE C A ρ env H args) (evRange ih ρ args H) :=
  Yes.vsh (evA_yes I hA args) fun vs H1 q => Yes.ii' Yes.self fun r hr => by
    intro θ e s R hc S
    exact bi_wp T hc q R S fun as θ1 s1 g S1 r1 => wpAny_mono ((rangeOf_yes r1).get hr s1 S1) (fun v s2 hv => by
      obtain ⟨r, t, u, w, e, θ2, g2, S2, h2⟩ := hv
      exact ⟨r, t, u, w, e, θ2, g.trans g2, S2, h2⟩) fun _ _ x => x
theorem smallI_le {a : Int} (h : smallI a = true) : -8000 ≤ a ∧ a ≤ 8000 := by
  have := fits_le h
  omega
omit [Ops] in
theorem small_range {a b : Int} (b1 : -8000 ≤ a ∧ a ≤ 8000) (b2 : -8000 ≤ b ∧ b ≤ 8000) (e1 : Builtin.Range.rangeSize a b 1 = ((b - a).toNat : Int)) : Builtin.Range.small a b 1 = true := by
  unfold Builtin.Range.small
  rw [e1]
  have : Builtin.Range.rangeFitsLong (b + (1 - 1)) = true := by
    unfold Builtin.Range.rangeFitsLong
    simp only [Bool.and_eq_true, decide_eq_true_eq]
    omega
  simp only [Int.zero_lt_one, gt_iff_lt, if_true, this, Bool.or_true, Bool.and_true]
  unfold Builtin.Range.rangeFitsLong
  simp only [Bool.and_eq_true, decide_eq_true_eq]
  refine ⟨⟨⟨⟨?_, ?_⟩, ?_, ?_⟩, ?_, ?_⟩, ?_, ?_⟩ <;> omega
/- an iterator by a builtin's call -/
noncomputable abbrev ItB (C : Cx) (A : Around) (ρ : Rho) (env : Env) (b : Bi) (args : List Expr) (H : Hp) (p : Nat) (H' : Hp) : Prop := ∀ {e}, BcR ρ e (b, args) → ItE C A ρ env H e p H'
theorem rng_at {args : List Expr} {a b : Int} {H1 : Hp} (h : RgE C A ρ env H args (a, b) H1) (q1 : smallI a = true) (q2 : smallI b = true) : ItB C A ρ env .range args H (Ops.len H1) (Ops.app H1 [.it (.rng a 1 (b - a).toNat)]) := fun hc _ R s S =>
  wpAny_mono (h R hc S) (fun v s2 hv => by
    obtain ⟨r, t, u, w, e, θ2, g2, S2, h2⟩ := hv
    subst e
    have e1 : Builtin.Range.rangeSize a b 1 = ((b - a).toNat : Int) := rangeSize_nat a b
    refine wpAny_pyIter_range h2 (small_range (smallI_le q1) (smallI_le q2) e1) ?_
    rw [e1]
    exact S2.newIt g2 (.rng a 1 (b - a).toNat) rfl rfl) fun _ _ x => x
theorem Yes.ih2 {Q : γ → Prop} {o : Option ((Int × Int) × Hp)} {P : Int × Int → Hp → Prop} {K : Int → Int → Hp → Option γ} (p : YesH P o) (h : ∀ a b H, P (a, b) H → Yes Q (K a b H)) : Yes Q (match (generalizing := false) o with | some ((a, b), H) => K a b H | .none => .none) := by
  cases o with
  | none => exact trivial
  | some q => exact h _ _ _ p
theorem rngIt_yes (I : IhS C ih n) (T : Top C G) (hA : Room A n) {args : List Expr} : YesH (ItB C A ρ env .range args H) (rngIt ih ρ args H) :=
  Yes.ih2 (evRange_yes I T hA) fun a b H1 h => Yes.tt fun q1 q2 => by exact rng_at h q1 q2

omit [Ops] in
/- a call of reversed by its name -/
theorem isStar_ne {a : Expr} (h : isStar a = false) : ∀ x p, a ≠ .Starred x p := by
  intro x p e
  subst e
  cases h
theorem rev_wp (T : Top C G) {e a : Expr} (hc : BcR ρ e (.reversed, [a])) (hs : isStar a = false) (R : EnvR C θ ρ env) {Q : Value → Shared → Prop} {s : Shared} (S : St C θ H s)
    (hQ : ∀ θ1 s1, Go C θ s θ1 s1 → St C θ1 H s1 → wpAny (model C.prog C.w) A (eval a env) (fun v s2 => wpAny (model C.prog C.w) A (call (.type "reversed") [v]) Q (fun _ _ => False) s2) (fun _ _ => False) s1) :
    wpAny (model C.prog C.w) A (eval e env) Q (fun _ _ => False) s := by
  obtain ⟨f, p, pos, e1, h1, h2⟩ := hc.ex
  subst e1
  rw [arm_eval_Call_Name']
  refine wpAny_bind (wpAny_mono (biName_tri T R h1 h2 s S) (fun a' s0 hs => ?_) fun _ _ x => x)
  refine hs.elim fun θ0 H0 G0 S0 z => ?_
  obtain ⟨rfl, rfl⟩ := z
  rw [starEach_cons a [] env (isStar_ne ‹isStar a = false›)]
  have e' : wpAny (model C.prog C.w) A (spliced [(false, eval a env)]) (fun as s1 => wpAny (model C.prog C.w) A (call (.type "reversed") ([] ++ as)) Q (fun _ _ => False) s1) (fun _ _ => False) s0 := by
    show wpAny _ _ (eval a env >>= _) _ _ _
    exact wpAny_bind (wpAny_mono (hQ θ0 s0 G0 S0) (fun v s2 hv => wpAny_bind (wpAny_pure (wpAny_bind (wpAny_holding (wpAny_pure (wpAny_pure hv)))))) fun _ _ x => x)
  exact PySem.callWith_type (T := "reversed") (args := backTo pos [(false, eval a env)]) rfl (evalArgs_any rfl e')
theorem revRange_at (T : Top C G) {a : Expr} {args : List Expr} {x y : Int} {H1 : Hp} (hs : isStar a = false) (hc' : BcR ρ a (.range, args)) (h : RgE C A ρ env H args (x, y) H1) (q1 : smallI x = true) (q2 : smallI y = true) :
    ItB C A ρ env .reversed [a] H (Ops.len H1) (Ops.app H1 [.it (.rng (x + ((y - x).toNat - 1 : Int)) (-1) (y - x).toNat)]) := fun hc _ R s S =>
  rev_wp T hc hs R S fun θ1 s1 g1 S1 => wpAny_mono (h (R.mono g1.ext) hc' S1) (fun v s2 hv => by
    obtain ⟨r, t, u, w, e, θ2, g2, S2, h2⟩ := hv
    subst e
    refine call_rev_range h2 (smallI_le q1) (smallI_le q2) ?_
    exact wpAny_pyIter_rangeiter (x := x + (((y - x).toNat : Int) - 1)) (left := ((y - x).toNat : Int)) (step := -1) (Heap.get?_push_size _ rfl) (S2.newIt (g1.trans g2) (.rng (x + (((y - x).toNat : Int) - 1)) (-1) (y - x).toNat) rfl rfl)) fun _ _ x => x
theorem listOf_ref {v : V} {x : Value} {l : Nat} (r : VR θ v x) (h : listOf v H = some (l, vs)) : ∃ y, θ[l]? = some y ∧ x = .ref y ∧ Ops.get H l = some (.list vs) := by
  have := Yes.lst (K := fun l xs => some (l, xs)) (P := fun x q => ∃ y, θ[q.1]? = some y ∧ x = .ref y ∧ Ops.get H (q.1) = some (.list q.2)) r fun l xs p e1 e2 => ⟨p, e1, rfl, e2⟩
  rw [h] at this
  exact this
theorem revList_at (T : Top C G) {a : Expr} {l : Nat} {v : V} {H1 : Hp} (hs : isStar a = false) (q : AtE C A ρ env H a v H1) (hl : listOf v H1 = some (l, vs)) : ItB C A ρ env .reversed [a] H (Ops.len H1) (Ops.app H1 [.it (.rev l vs.length)]) := fun hc _ R s S =>
  rev_wp T hc hs R S fun θ1 s1 g1 S1 => wpAny_mono (q (R.mono g1.ext) s1 S1) (fun x s2 hb => hb.elim fun θ2 H2 g2 S2 ⟨e2, r2⟩ => by
    subst e2
    obtain ⟨y, e1, e3, hl⟩ := listOf_ref r2 hl
    subst e3
    obtain ⟨a1, n1, k1, r1⟩ := S2.listAt hl e1
    refine call_reversed_list k1.isList ?_
    rw [r1.size]
    exact wpAny_pyIter_revIter (l := y) (i := (vs.length : Int) - 1) ⟨revObj y ((vs.length : Int) - 1), Heap.get?_push_size _ rfl, rfl, rfl⟩ (S2.newIt (o := revObj y ((vs.length : Int) - 1)) (g1.trans g2) (.rev l vs.length) rfl ⟨y, (Ext.app _ _).1 _ _ e1, rfl, rfl⟩)) fun _ _ x => x
omit [Ops] in
theorem oneE_yes (l : List Expr) : Yes (fun a => l = [a]) (oneE l) := by
  cases l with
  | nil => exact trivial
  | cons a r => cases r with
    | nil => exact rfl
    | cons => exact trivial
omit [Ops] in
theorem Yes.ex {Q : γ → Prop} {o : Option Expr} {P : Expr → Prop} {K : Expr → Option γ} (p : Yes P o) (h : ∀ a, P a → Yes Q (K a)) : Yes Q (match (generalizing := false) o with | some a => K a | .none => .none) := by
  cases o with
  | none => exact trivial
  | some q => exact h _ p
omit [Ops] in
theorem Yes.ls' {Q : γ → Prop} {o : Option (Nat × List V)} {P : Nat → List V → Prop} {K : Nat → List V → Option γ} (p : Yes (fun q => P q.1 q.2) o) (h : ∀ a b, P a b → Yes Q (K a b)) : Yes Q (match (generalizing := false) o with | some (a, b) => K a b | .none => .none) := by
  cases o with
  | none => exact trivial
  | some q => exact h _ _ p
omit [Ops] in
theorem Yes.brg {Q : γ → Prop} {o : Option (Bi × List Expr)} {P : Bi × List Expr → Prop} {K : List Expr → Option γ} {K' : Option γ} (p : Yes P o) (h : ∀ a, P (.range, a) → Yes Q (K a)) (h' : Yes Q K') : Yes Q (match (generalizing := false) o with | some (.range, a) => K a | _ => K') := by
  cases o with
  | none => exact h'
  | some q =>
    obtain ⟨b, a⟩ := q
    cases b <;> first | exact h a p | exact h'
theorem rngRev_yes (I : IhS C ih n) (T : Top C G) (hA : Room A n) {a : Expr} {args : List Expr} (hs : isStar a = false) (hc' : BcR ρ a (.range, args)) : YesH (ItB C A ρ env .reversed [a] H) (rngRev ih ρ args H) :=
  Yes.ih2 (evRange_yes I T hA) fun x y H1 h => Yes.tt fun q1 q2 => by exact revRange_at T hs hc' h q1 q2
theorem revList_yes (I : IhS C ih n) (T : Top C G) (hA : Room A n) {a : Expr} (hs : isStar a = false) : YesH (ItB C A ρ env .reversed [a] H) (revList ih ρ a H) :=
  Yes.vh (I.e hA a) fun v H1 q => Yes.ls' (Yes.of fun _ h => h) fun l vs hl => by exact revList_at T hs q hl
theorem revIt_yes (I : IhS C ih n) (T : Top C G) (hA : Room A n) {args : List Expr} : YesH (ItB C A ρ env .reversed args H) (revIt ih ρ args H) :=
  Yes.ex (oneE_yes args) fun a e => by
    subst e
    refine Yes.f fun hs => ?_
    exact Yes.brg (biCall_yes a) (fun args' hc' => rngRev_yes I T hA hs hc') (revList_yes I T hA hs)
end
end Mine
end
section
open PySem PyProof.Rows
set_option maxRecDepth 100000
namespace Mine
variable [Ops]
section
variable {C : Cx} {G : Env0} {A : Around} {θ : Th} {H H' : Hp} {ρ : Rho} {env : Env} {α β γ : Type} {ih : Ih} {n : Nat} {vs : List V} {as : List Value}

omit [Ops] in
theorem ne_add (n k m : Nat) (h : k ≠ m) (q : n + k = n + m) : False := h (Nat.add_left_cancel q)
omit [Ops] in
theorem Th.get_eq (θ : Th) (i : Nat) : θ[i]? = θ.l[i]? := rfl
theorem Th.at4 {θ : Th} {k : Nat} (h : θ.l.length = k) (a b c d : Addr) (i : Nat) : ((((θ ++ [a]) ++ [b]) ++ [c]) ++ [d] : Th)[k + i]? = [a, b, c, d][i]? := by
  have e : ((((θ ++ [a]) ++ [b]) ++ [c]) ++ [d] : Th).l = θ.l ++ [a, b, c, d] := by
    show (((θ.l ++ _) ++ _) ++ _) ++ _ = _
    simp
  rw [Th.get_eq, e, ← h, List.getElem?_append_right (Nat.le_add_right _ _), Nat.add_sub_cancel_left]
omit [Ops] in
theorem Th.not4 {θ : Th} {x a b c d : Addr} (h : x ∉ θ) (ha : x ≠ a) (hb : x ≠ b) (hc : x ≠ c) (hd : x ≠ d) : x ∉ ((((θ ++ [a]) ++ [b]) ++ [c]) ++ [d] : Th) := fun q =>
  (mem_app.mp q).elim (fun q => (mem_app.mp q).elim (fun q => (mem_app.mp q).elim (fun q => (mem_app.mp q).elim h fun q => ha (List.mem_singleton.mp q)) fun q => hb (List.mem_singleton.mp q)) fun q => hc (List.mem_singleton.mp q)) fun q => hd (List.mem_singleton.mp q)
/- a zip's objects -/
theorem zip_objs (T : Top C G) {θ1 : Th} {s1 : Shared} {H1 : Hp} {b1 b2 : Bool} {l m : Nat} {a b : Addr} (S1 : St C θ1 H1 s1) (e1 : θ1[l]? = some a) (e2 : θ1[m]? = some b) :
    IsZip (zp5 b1 b2 s1.heap a b) (s1.heap.objs.size + 4) (s1.heap.objs.size + 2) (s1.heap.objs.size + 3) .none ∧ (zp4 b1 b2 s1.heap a b).objs.size = s1.heap.objs.size + 4 ∧
    Nx C θ1 s1 { s1 with heap := zp5 b1 b2 s1.heap a b } fun θ' H'' => H'' = Ops.app H1 [.it (.seq b1 l 0), .it (.seq b2 m 0), .tup [.none, .none], .it (.zip (Ops.len H1) ((Ops.len H1) + 1) ((Ops.len H1) + 2) .free)] ∧ θ'[(Ops.len H1) + 3]? = some (s1.heap.objs.size + 4) := by
  have z1 : (zp1 b1 s1.heap a).objs.size = s1.heap.objs.size + 1 := Heap.size_push ..
  have z2 : (zp2 b1 b2 s1.heap a b).objs.size = s1.heap.objs.size + 2 := by rw [Heap.size_push, z1]
  have z3 : (zp3 b1 b2 s1.heap a b).objs.size = s1.heap.objs.size + 3 := by rw [Heap.size_push, z2]
  have z4 : (zp4 b1 b2 s1.heap a b).objs.size = s1.heap.objs.size + 4 := by rw [Heap.size_push, z3]
  have len := S1.len
  -- one after the other
  have x1 := S1.new (s' := { s1 with heap := zp1 b1 s1.heap a }) (o := .it (.seq b1 l 0)) (Nat.le_refl _) (Heap.get?_push_size _ (by cases b1 <;> rfl)) ⟨a, (Ext.app _ _).1 _ _ e1, rfl, rfl⟩ (fun _ _ e => Heap.get?_push_of_some _ e) (Nat.le_refl _) rfl rfl
  have x2 := x1.1.new (s' := { s1 with heap := zp2 b1 b2 s1.heap a b }) (o := .it (.seq b2 m 0)) (x := s1.heap.objs.size + 1) (Nat.le_of_eq z1) (by have := Heap.get?_push_size (zp1 b1 s1.heap a) (o := { cls := .type (itCls b2), data := .fields #[.ref b, .int 0 0] }) (by cases b2 <;> rfl); rw [z1] at this; exact this) ⟨b, (Ext.app _ _).1 _ _ ((Ext.app _ _).1 _ _ e2), rfl, rfl⟩ (fun _ _ e => Heap.get?_push_of_some _ e) (Nat.le_refl _) rfl rfl
  have hTI : IsPair (zp3 b1 b2 s1.heap a b) (s1.heap.objs.size + 2) (.ref s1.heap.objs.size) (.ref (s1.heap.objs.size + 1)) := by
    have := Heap.get?_push_size (zp2 b1 b2 s1.heap a b) (o := { cls := .type "tuple", data := .seq #[.ref s1.heap.objs.size, .ref (s1.heap.objs.size + 1)] }) rfl
    rw [z2] at this
    show (zp3 b1 b2 s1.heap a b).get? _ = _
    unfold zp3
    rw [z1]; exact this
  have x3 := x2.1.same (s' := { s1 with heap := zp3 b1 b2 s1.heap a b }) (fun _ _ e => Heap.get?_push_of_some _ e) (by show (zp2 b1 b2 s1.heap a b).objs.size ≤ (zp3 b1 b2 s1.heap a b).objs.size; rw [z2, z3]; omega) (Nat.le_refl _) rfl rfl
  have x4 := x3.1.new (s' := { s1 with heap := zp4 b1 b2 s1.heap a b }) (o := .tup [.none, .none]) (x := s1.heap.objs.size + 3) (Nat.le_of_eq z3) (by have := Heap.get?_push_size (zp3 b1 b2 s1.heap a b) (o := { cls := .type "tuple", data := .seq #[.none, .none] }) rfl; rw [z3] at this; exact this) ⟨#[.none, .none], 0, rfl, rfl, rfl, trivial⟩ (fun _ _ e => Heap.get?_push_of_some _ e) (Nat.le_refl _) rfl rfl
  have hn : s1.heap.objs.size + 2 ∉ ((((θ1 ++ [s1.heap.objs.size]) ++ [s1.heap.objs.size + 1]) ++ [s1.heap.objs.size + 3]) ++ [s1.heap.objs.size + 4] : Th) :=
    Th.not4 (fun q => Nat.not_lt.mpr (Nat.le_add_right _ 2) (S1.lt _ q)) (ne_add _ 2 0 (by decide)) (ne_add _ 2 1 (by decide)) (ne_add _ 2 3 (by decide)) (ne_add _ 2 4 (by decide))
  have ht : s1.heap.objs.size + 2 ∉ C.tabs := fun q => Nat.not_lt.mpr (Nat.le_add_right _ 2) (Nat.lt_of_lt_of_le (T.tabs _ q) S1.big)
  have at4 := Th.at4 (θ := θ1) len s1.heap.objs.size (s1.heap.objs.size + 1) (s1.heap.objs.size + 3) (s1.heap.objs.size + 4)
  have hz5 : IsZip (zp5 b1 b2 s1.heap a b) (s1.heap.objs.size + 4) (s1.heap.objs.size + 2) (s1.heap.objs.size + 3) .none := by
    have := Heap.get?_push_size (zp4 b1 b2 s1.heap a b) (o := { cls := .type "zip", data := .fields #[.none, .bool false, .bool false, .ref (zp2 b1 b2 s1.heap a b).objs.size, .ref (zp3 b1 b2 s1.heap a b).objs.size] }) rfl
    rw [z4, z2, z3] at this
    show (zp5 b1 b2 s1.heap a b).get? _ = _
    unfold zp5
    rw [z2, z3]; exact this
  have x5 := x4.1.new (s' := { s1 with heap := zp5 b1 b2 s1.heap a b }) (o := .it (.zip (Ops.len H1) ((Ops.len H1) + 1) ((Ops.len H1) + 2) .free)) (x := s1.heap.objs.size + 4) (Nat.le_of_eq z4) hz5
    ⟨s1.heap.objs.size, s1.heap.objs.size + 1, s1.heap.objs.size + 3, s1.heap.objs.size + 2, .none, at4 0, at4 1, at4 2, hn, ht, Heap.get?_push_of_some _ (Heap.get?_push_of_some _ hTI), rfl, rfl⟩ (fun _ _ e => Heap.get?_push_of_some _ e) (Nat.le_refl _) rfl rfl
  refine ⟨hz5, z4, .mk' (x1.2.trans (x2.2.trans (x3.2.trans (x4.2.trans x5.2)))) x5.1 ⟨?_, at4 3⟩⟩
  rw [Ops.app_app, Ops.app_app, Ops.app_app]; rfl
theorem zip_at (T : Top C G) {args : List Expr} {l m : Nat} {b1 b2 : Bool} {H1 : Hp} (q : EvA C A ρ env H args [.ref l, .ref m] H1) (hJ : seqKind l H1 = some b1) (hK : seqKind m H1 = some b2) :
    ItB C A ρ env .zip args H ((Ops.len H1) + 3) (Ops.app H1 [.it (.seq b1 l 0), .it (.seq b2 m 0), .tup [.none, .none], .it (.zip (Ops.len H1) ((Ops.len H1) + 1) ((Ops.len H1) + 2) .free)]) := fun hc _ R s S => by
  refine bi_wp T hc q R S fun as θ1 s1 g1 S1 r1 => ?_
  obtain ⟨x, y, rfl, r1, r2⟩ := AR.two r1
  apply r1.ref; intro a e1; apply r2.ref; intro b e2
  obtain ⟨xs, i1⟩ := (seqKind_yes S1 e1).get hJ
  obtain ⟨ys, i2⟩ := (seqKind_yes S1 e2).get hK
  obtain ⟨hz5, z4, nx⟩ := zip_objs (b1 := b1) (b2 := b2) T S1 e1 e2
  refine callType_new F.called_zip (by decide) (F.typeCall_zip_2 _ _) (F.newCall_zip_2 _ _) (fun obj => F.args_object_init_3 obj _ _) F.entry_zip_new
    (meets_zip b1 b2 a b xs ys) ⟨i1, i2, ?_⟩
  rw [z4]
  exact ⟨⟨_, hz5, rfl⟩, wpAny_pyIter_zip hz5 ⟨_, rfl, nx.elim fun θ' H'' g S h => .mk' (g1.trans g) S h⟩⟩
omit [Ops] in
theorem two_yes (vs : List V) : Yes (fun q => vs = [q.1, q.2]) (two vs) := by
  cases vs with
  | nil => exact trivial
  | cons a vs => cases vs with
    | nil => exact trivial
    | cons b vs => cases vs with
      | nil => exact rfl
      | cons => exact trivial
theorem zipIt_yes (I : IhS C ih n) (T : Top C G) (hA : Room A n) {args : List Expr} : YesH (ItB C A ρ env .zip args H) (zipIt ih ρ args H) :=
  Yes.vsh (evA_yes I hA args) fun vs H1 q => Yes.vv (two_yes vs) fun a b e => Yes.n' (vRef_yes a) fun l e1 => Yes.n' (vRef_yes b) fun m e2 => Yes.bo Yes.self fun b1 h1 => Yes.bo Yes.self fun b2 h2 => by
    subst e; subst e1; subst e2
    exact zip_at T q h1 h2
theorem biIter_yes (I : IhS C ih n) (T : Top C G) (hA : Room A n) {args : List Expr} : ∀ b, YesH (ItB C A ρ env b args H) (biIter ih ρ b args H)
  | .range => rngIt_yes I T hA
  | .zip => zipIt_yes I T hA
  | .reversed => revIt_yes I T hA
  | .len | .divmod | .max | .min | .int | .sum | .sorted => trivial
/- the iterator of a loop's head -/
structure ItA (C : Cx) (A : Around) (ρ : Rho) (env : Env) (H : Hp) (e : Expr) (p : Nat) (H' : Hp) : Prop where
  it : ItE C A ρ env H e p H'
  set : ∀ x, foldedSetIterable e env x = pure x
omit [Ops] in
theorem Yes.bio {Q : γ → Prop} {o : Option (Bi × List Expr)} {P : Bi × List Expr → Prop} {K : Bi → List Expr → Option γ} {K' : Option γ} (p : Yes P o) (h : ∀ b a, P (b, a) → Yes Q (K b a)) (h' : Yes Q K') : Yes Q (match (generalizing := false) o with | some (b, a) => K b a | .none => K') := by
  cases o with
  | none => exact h'
  | some q => exact h _ _ p
omit [Ops] in
theorem fold_call {e : Expr} {q : Bi × List Expr} (h : BcR ρ e q) : ∀ x, foldedSetIterable e env x = pure x := by
  obtain ⟨f, p, pos, e1, _, _⟩ := h.ex
  subst e1; exact fun _ => rfl
omit [Ops] in
theorem fold_noset {e : Expr} (h : isSet e = false) : ∀ x, foldedSetIterable e env x = pure x := by
  cases e <;> first | exact fun _ => rfl | exact Bool.noConfusion h
theorem evIter_yes (I : IhS C ih n) (T : Top C G) (hA : Room A n) (e : Expr) : YesH (ItA C A ρ env H e) (evIter ih e ρ H) :=
  Yes.bio (biCall_yes e) (fun b args hc => (biIter_yes I T hA b).mono fun q h => ⟨h hc, fold_call hc⟩) (by
    refine Yes.f fun hs => ?_
    exact (plainIt_yes I hA).mono fun q h => ⟨h, fold_noset hs⟩)
end
end Mine
end
section
open PySem PyProof.Rows
set_option maxRecDepth 100000
namespace Mine
variable [Ops]
section
variable {C : Cx} {G : Env0} {A : Around} {θ : Th} {H H' : Hp} {ρ : Rho} {env : Env} {α β γ : Type} {ih : Ih} {n : Nat}

/- targets -/
noncomputable abbrev AtAs (C : Cx) (A : Around) (ρ : Rho) (env : Env) (H : Hp) (t : Expr) (v : V) (H' : Hp) : Prop := ∀ {θ a}, EnvR C θ ρ env → VR θ v a → TriU C A θ H (assign t env a) H'
structure AsgR (C : Cx) (A : Around) (θ : Th) (env : Env) (H : Hp) (ts : List Expr) (as : List Value) (H' : Hp) : Prop where
  len : (assignEach ts env).length = as.length
  star : (assignEach ts env).findIdx? (·.1) = none
  tri : TriU C A θ H (assignInOrder ((assignEach ts env).map (·.2)) as) H'
noncomputable abbrev AtL (C : Cx) (A : Around) (ρ : Rho) (env : Env) (H : Hp) (ts : List Expr) (vs : List V) (H' : Hp) : Prop := ∀ {θ as}, EnvR C θ ρ env → AR θ vs as → AsgR C A θ env H ts as H'
omit [Ops] in
theorem nameOf_yes (t : Expr) : Yes (fun x => ∃ p, t = .Name x p) (nameOf t) := by
  cases t <;> first | exact ⟨_, rfl⟩ | exact trivial
theorem assign_name {x : Str} {p : Pos} {v : V} : Yes (fun H' => AtAs C A ρ env H (.Name x p) v H') (stName ρ H x v) := Yes.of fun H' h _ _ R hv s S => wpAny_bind (wpAny_standAt ((bindName_yes R hv).get h s S))
theorem AsgR.cons {x : Str} {p : Pos} {ts : List Expr} {v : V} {vs : List V} {H1 : Hp} (h1 : AtAs C A ρ env H (.Name x p) v H1) (h2 : AtL C A ρ env H1 ts vs H') : AtL C A ρ env H (.Name x p :: ts) (v :: vs) H' := fun {θ as} R r => by
  cases as with
  | nil => exact r.elim
  | cons a as =>
    have q := h2 R r.2
    have q' : ∀ {θ1}, Ext θ θ1 → AsgR C A θ1 env H1 ts as H' := fun x => h2 (R.mono x) (r.2.mono x)
    refine ⟨congrArg (· + 1) q.len, ?_, ?_⟩
    · show List.findIdx? _ ((false, assign (.Name x p) env) :: assignEach ts env) = none
      rw [List.findIdx?_cons, q.star]; rfl
    · show Tri C A θ H (PySem.holding as (assign (.Name x p) env a) >>= fun _ => assignInOrder _ as) _
      exact Tri.hold (Tri.unit (h1 R r.1) fun θ1 x1 => (q' x1).tri)
theorem AsgR.nil' : ∀ {as : List Value}, AR θ [] as → AsgR C A θ env H [] as H
  | [], _ => ⟨rfl, rfl, Tri.pure rfl⟩
  | _ :: _, r => r.elim
omit [Ops] in
theorem Yes.str {Q : γ → Prop} {o : Option Str} {P : Str → Prop} {K : Str → Option γ} (p : Yes P o) (h : ∀ a, P a → Yes Q (K a)) : Yes Q (match (generalizing := false) o with | some a => K a | .none => .none) := by
  cases o with
  | none => exact trivial
  | some q => exact h _ p
theorem Yes.hp {Q : γ → Prop} {o : Option Hp} {P : Hp → Prop} {K : Hp → Option γ} (p : Yes P o) (h : ∀ a, P a → Yes Q (K a)) : Yes Q (match (generalizing := false) o with | some a => K a | .none => .none) := by
  cases o with
  | none => exact trivial
  | some q => exact h _ p
theorem assignL_yes : ∀ (ts : List Expr) (vs : List V) {H : Hp}, Yes (fun H' => AtL C A ρ env H ts vs H') (assignL ρ ts vs H)
  | [], [], H => by intro R r; exact AsgR.nil' r
  | t :: ts, v :: vs, H => Yes.str (nameOf_yes t) fun x ⟨p, e⟩ => by
    subst e
    exact Yes.hp (assign_name (p := p)) fun H1 h1 => (assignL_yes ts vs).mono fun H2 h2 => AsgR.cons h1 h2
  | [], _ :: _, _ => trivial
  | _ :: _, [], _ => trivial
theorem tup_at {ts : List Expr} {l : Nat} {vs : List V} {c : Nat} {p : Pos} (hA : A.handled = none) (hl : Ops.get H l = some (.tup vs)) (q : AtL C A ρ env H ts vs H') : AtAs C A ρ env H (.Tuple ts c p) (.ref l) H' := fun {θ a} R hv => Tri.of fun s S => by
  obtain ⟨y, e1, rfl⟩ := hv
  obtain ⟨a1, n1, g1, r1⟩ := S.tupAt hl e1
  have k := q R r1
  rw [arm_assign_Tuple]
  refine wpAny_bind (wpAny_standAt ?_)
  unfold unpack
  have e : (assignEach ts env).length = a1.size := by rw [k.len]; exact Array.length_toList
  rw [e, k.star]
  refine wpAny_bind (wpAny_holding (wpAny_sized (wpAny_unpackItems_tuple hA ⟨_, g1, rfl, n1, rfl⟩ fun h' hs hk hz => ?_)))
  have u := S.same (s' := { s with heap := h' }) (fun b o e => hs b o (Nat.ne_of_lt (Heap.lt_size e)) e) hz hk rfl rfl
  exact wpAny_mono (k.tri _ u.1) (fun _ s2 hb _ _ => hb.elim fun θ2 H2 g2 S2 p2 => .mk' (u.2.trans g2) S2 p2) fun _ _ x => x
theorem sub_at {o i : Expr} {p : Pos} {ov iv v : V} {H1 H2 : Hp} (p1 : AtE C A ρ env H o ov H1) (p2 : AtE C A ρ env H1 i iv H2) (h : setV ov iv v H2 = some H') : AtAs C A ρ env H (.Subscript o i p) v H' := fun {θ a} R hv => by
  rw [arm_assign_Subscript]
  exact Tri.hold (Tri.val (p1 R) fun x θ1 x1 r1 => Tri.hold (Tri.val (p2 (R.mono x1)) fun y θ2 x2 r2 => Tri.at (Tri.hold (Tri.unit ((setV_yes (r1.mono x2) r2 (hv.mono (x1.trans x2))).get h) fun θ3 x3 => Tri.release' rfl))))
theorem assignT_yes (I : IhS C ih n) (hA : Room A n) (t : Expr) {v : V} : Yes (fun H' => AtAs C A ρ env H t v H') (assignT ih ρ t v H) := by
  cases t with
  | Name x p => exact assign_name
  | Tuple ts c p => exact Yes.n' (vRef_yes v) fun l e => Yes.vs (tupAt_yes l) fun vs hl => (assignL_yes ts vs).mono fun H2 q => e ▸ tup_at hA.hh hl q
  | Subscript o i p => exact Yes.vh (I.e hA o) fun ov H1 p1 => Yes.vh (I.e hA i) fun iv H2 p2 => Yes.of fun H3 h => sub_at p1 p2 h
  | _ => exact trivial
end
end Mine
end
section
open PySem PyProof.Rows
set_option maxRecDepth 100000
namespace Mine
variable [Ops]
section
variable {C : Cx} {G : Env0} {A : Around} {θ : Th} {H H' : Hp} {ρ : Rho} {env : Env} {α β γ : Type} {ih : Ih} {n : Nat}

omit [Ops] in
theorem noNote {M : Model} {A : Around} {env : Env} {E : Value → Shared → Prop} (e : Value) (s : Shared) (h : False) : notedBy M A env E e s := h.elim
/- how a block ends -/
noncomputable abbrev Ends (C : Cx) (θ : Th) (s : Shared) (f : Fl) (H' : Hp) (fl : Flow) (s' : Shared) : Prop := Nx C θ s s' fun θ' H'' => H'' = H' ∧ FlR θ' f fl
/- a loop's turn may go on from here -/
noncomputable def Inv (C : Cx) (θ : Th) (s : Shared) (rec : Nat → Hp → Option (Fl × Hp)) (q : Fl × Hp) (j : Nat) (s' : Shared) : Prop := ∃ θ1 H1, Go C θ s θ1 s' ∧ St C θ1 H1 s' ∧ rec j H1 = some q
noncomputable def Out (C : Cx) (θ : Th) (s : Shared) (q : Fl × Hp) (r : Result) (s' : Shared) : Prop := ∃ fl, r = .ok fl ∧ Ends C θ s q.1 q.2 fl s'
section
variable {s s1 : Shared} {θ1 : Th} {H1 H2 : Hp} {q : Fl × Hp}
theorem turn_end {body : List Stmt} {fl : Fl} {rec : Nat → Hp → Option (Fl × Hp)} {k : Nat} {E : Value → Shared → Prop} (p : AtS C A ρ env H1 body fl H2) (R : EnvR C θ ρ env) (g : Go C θ s θ1 s1) (S : St C θ1 H1 s1) (h : afterF (rec k) fl H2 = some q) :
    wpAny (model C.prog C.w) A (execs body env) (fun f s3 => match f with
      | .next | .cont => ∃ m, m < k + 1 ∧ Inv C θ s rec q m s3
      | .brk => Out C θ s q (.ok .next) s3
      | .ret v => Out C θ s q (.ok (.ret v)) s3) (notedBy (model C.prog C.w) A env E) s1 := by
  refine wpAny_mono (p (R.mono g.ext) s1 S) (fun f s3 hb => hb.elim fun θ3 H5 g3 S3 ⟨e, rf⟩ => ?_) fun _ _ x => noNote _ _ x
  subst e
  cases fl with
  | next => rw [show f = .next from rf]; exact ⟨k, Nat.lt_succ_self _, θ3, _, g.trans g3, S3, h⟩
  | cont => rw [show f = .cont from rf]; exact ⟨k, Nat.lt_succ_self _, θ3, _, g.trans g3, S3, h⟩
  | brk => rw [show f = .brk from rf]; injection h with h; subst h; exact ⟨.next, rfl, .mk' (g.trans g3) S3 ⟨rfl, rfl⟩⟩
  | ret v =>
    obtain ⟨a, rfl, ra⟩ := rf
    injection h with h; subst h; exact ⟨.ret a, rfl, .mk' (g.trans g3) S3 ⟨rfl, a, rfl, ra⟩⟩
theorem Yes.fh {Q : γ → Prop} {x : Option (Fl × Hp)} {P : Fl → Hp → Prop} {K : Fl → Hp → Option γ} (p : YesH P x) (h : ∀ a H, P a H → Yes Q (K a H)) : Yes Q (match (generalizing := false) x with | some (a, H) => K a H | .none => .none) := by
  cases x with
  | none => exact trivial
  | some n => exact h n.1 n.2 p
theorem no_else {E : Value → Shared → Prop} (g : Go C θ s θ1 s1) (S : St C θ1 H1 s1) : wpAny (model C.prog C.w) A (execs [] env) (fun f s3 => Out C θ s (.next, H1) (.ok f) s3) E s1 := by
  rw [show execs [] env = pure .next from rfl]
  exact wpAny_pure ⟨.next, rfl, .mk' g S ⟨rfl, rfl⟩⟩
/- a turn of while -/
noncomputable abbrev WTurn (C : Cx) (A : Around) (θ : Th) (env : Env) (s s1 : Shared) (test : Expr) (body : List Stmt) (rec : Nat → Hp → Option (Fl × Hp)) (k : Nat) (q : Fl × Hp) : Prop :=
  wpAny (model C.prog C.w) A (isTrue test env (eval test env)) (fun b s₂ =>
    if b then wpAny (model C.prog C.w) A (execs body env) (fun f s₃ => match f with
        | .next | .cont => ∃ m, m < k + 1 ∧ Inv C θ s rec q m s₃
        | .brk => Out C θ s q (.ok .next) s₃
        | .ret v => Out C θ s q (.ok (.ret v)) s₃) (notedBy (model C.prog C.w) A env fun e s' => Out C θ s q (.error e) s') s₂
    else wpAny (model C.prog C.w) A (execs [] env) (fun f s₃ => Out C θ s q (.ok f) s₃) (notedBy (model C.prog C.w) A env fun e s' => Out C θ s q (.error e) s') s₂)
    (notedBy (model C.prog C.w) A env fun e s' => Out C θ s q (.error e) s') s1
theorem while_turn {test : Expr} {body : List Stmt} (I : IhS C ih n) (hA : Room A n) (R : EnvR C θ ρ env) (g : Go C θ s θ1 s1) (S : St C θ1 H1 s1) (k : Nat) : Yes (WTurn C A θ env s s1 test body (loopW (ih.t test ρ) (ih.s body ρ)) k) (loopW (ih.t test ρ) (ih.s body ρ) (k + 1) H1) :=
  Yes.bh2 (I.t hA test) (fun H2 p => Yes.fh (I.s hA body) fun fl H3 ps => Yes.of fun q h => wpAny_mono (p (R.mono g.ext) s1 S) (fun b s2 hb => hb.elim fun θ2 H4 g2 S2 ⟨e, e2⟩ => by
      subst e; subst e2
      simp only [if_true]
      exact turn_end ps R (g.trans g2) S2 h) fun _ _ x => noNote _ _ x)
    fun H2 p => Yes.ok (wpAny_mono (p (R.mono g.ext) s1 S) (fun b s2 hb => hb.elim fun θ2 H4 g2 S2 ⟨e, e2⟩ => by
      subst e; subst e2
      simp only [Bool.false_eq_true, if_false]
      exact no_else (g.trans g2) S2) fun _ _ x => noNote _ _ x)
theorem while_at {test : Expr} {body : List Stmt} (I : IhS C ih n) (hA : Room A n) (R : EnvR C θ ρ env) {k : Nat} (h : loopW (ih.t test ρ) (ih.s body ρ) k H = some q) (S : St C θ H s) : codeAny (model C.prog C.w) A (.whileLoop test body [] env) (Out C θ s q) s :=
  codeAny_whileLoop (Inv C θ s (loopW (ih.t test ρ) (ih.s body ρ)) q) (fun k s1 hI => by
    obtain ⟨θ1, H1, g1, S1, h1⟩ := hI
    cases k with
    | zero => cases h1
    | succ k => exact (while_turn I hA R g1 S1 k).get h1) k ⟨θ, H, Go.refl, S, h⟩
noncomputable abbrev FTurn (C : Cx) (A : Around) (θ : Th) (env : Env) (s s1 : Shared) (t : Expr) (it : Value) (body : List Stmt) (rec : Nat → Hp → Option (Fl × Hp)) (k : Nat) (q : Fl × Hp) : Prop :=
  wpAny (model C.prog C.w) A (pyNext it) (fun r s₁ => match r with
      | none => wpAny (model C.prog C.w) A (execs [] env) (fun f s₃ => Out C θ s q (.ok f) s₃) (notedBy (model C.prog C.w) A env fun e s' => Out C θ s q (.error e) s') s₁
      | some v => wpAny (model C.prog C.w) A (letOwnedTupleGo t it v) (fun _ s₁' =>
          wpAny (model C.prog C.w) A (assign t env v) (fun _ s₂ => wpAny (model C.prog C.w) A (execs body env) (fun f s₃ => match f with
            | .next | .cont => ∃ m, m < k + 1 ∧ Inv C θ s rec q m s₃
            | .brk => Out C θ s q (.ok .next) s₃
            | .ret v => Out C θ s q (.ok (.ret v)) s₃) (notedBy (model C.prog C.w) A env fun e s' => Out C θ s q (.error e) s') s₂) (notedBy (model C.prog C.w) A env fun e s' => Out C θ s q (.error e) s') s₁') (notedBy (model C.prog C.w) A env fun e s' => Out C θ s q (.error e) s') s₁) (notedBy (model C.prog C.w) A env fun e s' => Out C θ s q (.error e) s') s1
theorem nextAt_yes (hh : A.handled = none) (t : Expr) (p : Nat) : YesH (fun ov H' => ∀ {θ z}, θ[p]? = some z → NitR C A θ H t z ov H') (nextIt t p H) := Yes.of fun _ h _ _ hx => (nextIt_yes hh hx).get h
noncomputable abbrev recF (ih : Ih) (ρ : Rho) (t : Expr) (body : List Stmt) (p k : Nat) (H : Hp) : Option (Fl × Hp) := loopF t (assignT ih ρ t) (ih.s body ρ) k p H
theorem for_item {t : Expr} {body : List Stmt} {z : Addr} {p k : Nat} {v : V} {H3 H4 : Hp} {fl : Fl} (R : EnvR C θ ρ env) (hz : θ[p]? = some z) (g : Go C θ s θ1 s1) (S : St C θ1 H1 s1) (p1 : ∀ {θ z}, θ[p]? = some z → NitR C A θ H1 t z (some v) H2)
    (p2 : AtAs C A ρ env H2 t v H3) (p3 : AtS C A ρ env H3 body fl H4) (h : afterF (recF ih ρ t body p k) fl H4 = some q) : FTurn C A θ env s s1 t (.ref z) body (recF ih ρ t body p) k q :=
  p1 (g.getE hz) S (fun e => nomatch e) fun v' e a s2 hl => by
    injection e with e; subst e
    exact wpAny_mono hl (fun _ s3 hb => hb.elim fun θ2 H5 g2 S2 ⟨e, ra⟩ => by
      subst e
      exact wpAny_mono (p2 (R.mono (g.trans g2).ext) ra s3 S2) (fun _ s4 hb => hb.elim fun θ3 H6 g3 S3 e => by
        subst e
        exact turn_end p3 R (g.trans (g2.trans g3)) S3 h) fun _ _ x => noNote _ _ x) fun _ _ x => noNote _ _ x
theorem for_stop {t : Expr} {body : List Stmt} {z : Addr} {p k : Nat} (hz : θ[p]? = some z) (g : Go C θ s θ1 s1) (S : St C θ1 H1 s1) (p1 : ∀ {θ z}, θ[p]? = some z → NitR C A θ H1 t z .none H2) : FTurn C A θ env s s1 t (.ref z) body (recF ih ρ t body p) k (.next, H2) :=
  p1 (g.getE hz) S (fun _ s2 hb => hb.elim fun θ2 H5 g2 S2 e => by
    subst e
    exact no_else (g.trans g2) S2) fun _ e => nomatch e
theorem for_turn {t : Expr} {body : List Stmt} {z : Addr} {p : Nat} (I : IhS C ih n) (hA : Room A n) (R : EnvR C θ ρ env) (hz : θ[p]? = some z) (g : Go C θ s θ1 s1) (S : St C θ1 H1 s1) (k : Nat) : Yes (FTurn C A θ env s s1 t (.ref z) body (recF ih ρ t body p) k) (recF ih ρ t body p (k + 1) H1) :=
  Yes.nx (nextAt_yes hA.hh t p) (fun v H2 p1 => Yes.hp (assignT_yes I hA t) fun H3 p2 => Yes.fh (I.s hA body) fun fl H4 p3 => Yes.of fun q h => for_item R hz g S p1 p2 p3 h)
    fun H2 p1 => Yes.ok (for_stop hz g S p1)
theorem for_at {t : Expr} {body : List Stmt} {z : Addr} {p : Nat} (I : IhS C ih n) (hA : Room A n) (R : EnvR C θ ρ env) {k : Nat} (hz : θ[p]? = some z) (h : loopF t (assignT ih ρ t) (ih.s body ρ) k p H = some q) (S : St C θ H s) : codeAny (model C.prog C.w) A (.forLoop t (.ref z) body [] env) (Out C θ s q) s :=
  codeAny_forLoop_any (Inv C θ s (recF ih ρ t body p) q) (fun k s1 hI => by
    obtain ⟨θ1, H1, g1, S1, h1⟩ := hI
    cases k with
    | zero => cases h1
    | succ k => exact (for_turn I hA R hz g1 S1 k).get h1) k ⟨θ, H, Go.refl, S, h⟩
noncomputable abbrev At1 (C : Cx) (A : Around) (ρ : Rho) (env : Env) (H : Hp) (x : Stmt) (f : Fl) (H' : Hp) : Prop := ∀ {θ}, EnvR C θ ρ env → TriF C A θ H (exec x env) f H'
theorem execFor_yes {t it : Expr} {body : List Stmt} {p : Pos} {z : Nat} {H1 : Hp} (I : IhS C ih n) (hA : Room A n) (k : ItA C A ρ env H it z H1) : YesH (At1 C A ρ env H (.For t it body [] p)) (loopF t (assignT ih ρ t) (ih.s body ρ) turns z H1) := Yes.of fun q h => by
  intro θ R s S
  refine wpAny_For (wpAny_mono (k.it R s S) (fun x s1 hb => wpAny_mono hb (fun it s2 hc => ?_) fun _ _ x => x) fun _ _ x => x) k.set
  obtain ⟨z, rfl, nx⟩ := hc
  refine nx.elim fun θ1 H2 g1 S1 ⟨e, hz⟩ => ?_
  subst e
  exact codeAny_mono (for_at I hA (R.mono g1.ext) hz h S1) fun r s' hr => let ⟨fl, e, nx⟩ := hr; e ▸ nx.elim fun θ2 H3 g2 S2 z => .mk' (g1.trans g2) S2 z
theorem execWhile_yes {t : Expr} {body : List Stmt} {p : Pos} (I : IhS C ih n) (hA : Room A n) : YesH (At1 C A ρ env H (.While t body [] p)) (loopW (ih.t t ρ) (ih.s body ρ) turns H) := Yes.of fun q h => by
  intro θ R s S
  rw [exec_While]
  exact wpAny_bind (wpAny_standAt (wpAny_runOwn (codeAny_mono (while_at I hA R h S) fun r s' hr => let ⟨fl, e, nx⟩ := hr; e ▸ nx)))
end
end
end Mine
end
section
open PySem PyProof.Rows
set_option maxRecDepth 100000
namespace Mine
variable [Ops]

omit [Ops] in
theorem compTurn_last {elt : Expr} {gens : List Comprehension} {scope : Scope} {pos : Pos} {depth : Nat} {it acc : Value} {env : Env} {target iter : Expr} {ifs : List Expr} (hg : gens[depth]? = some ⟨target, iter, ifs, 0⟩) (hn : gens[depth + 1]? = none) :
    compTurn (.ListComp elt gens scope pos) depth it acc env = (do
      standAt iter.pos
      match ← pyNext it with
      | none => pure (.done .next)
      | some v =>
        letOwnedTupleGo target it v
        assign target env v
        let mut ok := true
        for c in ifs do
          if ok then ok ← isTrue c env (eval c env)
        if ok then
          (do let _ ← call (.builtin "list.append") [acc, ← eval elt env])
        again (.compLoop (.ListComp elt gens scope pos) depth it acc env)) := by
  have z : ((0 : Int) != 0) = false := rfl
  unfold compTurn
  simp only [hg, hn, z, Bool.false_eq_true, if_false]
  rfl

omit [Ops] in
theorem compTurn_more {elt : Expr} {gens : List Comprehension} {scope : Scope} {pos : Pos} {depth : Nat} {it acc : Value} {env : Env} {target iter t2 i2 : Expr} {ifs ifs2 : List Expr} (hg : gens[depth]? = some ⟨target, iter, ifs, 0⟩) (hn : gens[depth + 1]? = some ⟨t2, i2, ifs2, 0⟩) :
    compTurn (.ListComp elt gens scope pos) depth it acc env = (do
      standAt iter.pos
      match ← pyNext it with
      | none => pure (.done .next)
      | some v =>
        letOwnedTupleGo target it v
        assign target env v
        let mut ok := true
        for c in ifs do
          if ok then ok ← isTrue c env (eval c env)
        if ok then
          let x ← eval i2 env
          standAt i2.pos
          let x ← foldedSetIterable i2 env x
          let _ ← runOwn (.compStart (.ListComp elt gens scope pos) (depth + 1) (← holding [x] (pyIter x)) acc env) env
          again (.compLoop (.ListComp elt gens scope pos) depth it acc env)
        else
        again (.compLoop (.ListComp elt gens scope pos) depth it acc env)) := by
  have z : ((0 : Int) != 0) = false := rfl
  unfold compTurn
  simp only [hg, hn, z, Bool.false_eq_true, if_false]
  rfl

section
variable {C : Cx} {G : Env0} {A : Around} {θ : Th} {H H' : Hp} {ρ : Rho} {env : Env} {α β : Type} {ih : Ih} {n : Nat}

/- a new object of ours -/
noncomputable abbrev AtNew (H : Hp) (o : O) (a : Addr) (θ' : Th) (H' : Hp) : Prop := H' = Ops.app H [o] ∧ θ'[(Ops.len H)]? = some a
theorem alloc_tri {o : O} {o' : Obj} (hf : o'.isFreed = false) (hr : ∀ θ h, OR C θ h o o') : Tri C A θ H (PySem.alloc o') (AtNew H o) := fun s S => wpAny_alloc (
  have x := S.new (s' := { s with heap := s.heap.push o' }) (o := o) (Nat.le_refl _) (Heap.get?_push_size _ hf) (hr _ _) (fun _ _ e => Heap.get?_push_of_some _ e) (Nat.le_refl _) rfl rfl
  .mk' x.2 x.1 ⟨rfl, by
    show (θ.l ++ [_])[(Ops.len H)]? = _
    rw [← S.len]; exact List.getElem?_concat_length⟩)
/- the cells of a frame -/
theorem layCells_tri (f : Str × NameKind → List (Str × Addr) → Sem (ForInStep (List (Str × Addr))))
    (hf : ∀ name kind cells, f (name, kind) cells = if kind == .cell then (do let a ← PySem.alloc { cls := .type "cell", data := .cell none }; pure (.yield ((name, a) :: cells))) else pure (.yield cells)) :
    ∀ (names : List (Str × NameKind)) {cs : List (Str × Nat)} {ds : List (Str × Addr)} {H : Hp} {θ : Th}, CR θ cs ds →
      Tri C A θ H (forIn names ds f) fun ds' θ' H' => H' = (layCells names cs H).2 ∧ CR θ' (layCells names cs H).1 ds'
  | [], cs, ds, H, θ, r => by rw [List.forIn_nil]; exact Tri.pure ⟨rfl, r⟩
  | (x, k) :: names, cs, ds, H, θ, r => by
    have eqn : layCells ((x, k) :: names) cs H = if k == .cell then layCells names ((x, (Ops.len H)) :: cs) (Ops.app H [.cell none]) else layCells names cs H := by cases k <;> rfl
    rw [List.forIn_cons, hf, eqn]
    cases hk : (k == NameKind.cell) with
    | false =>
      simp only [Bool.false_eq_true, if_false, pure_bind]
      exact layCells_tri f hf names r
    | true =>
      simp only [if_true, bind_assoc, pure_bind]
      exact Tri.bind (alloc_tri (o := .cell none) rfl fun _ _ => ⟨none, rfl, trivial⟩) fun a θ1 H1 x1 h => h.1 ▸ layCells_tri f hf names (cs := (x, (Ops.len H)) :: cs) ⟨rfl, h.2, r.mono x1⟩
noncomputable abbrev cloF (env : Env) (x : Str × NameKind) (c : List (Str × Addr)) : Sem (ForInStep (List (Str × Addr))) := if x.2 == .free then (do let a ← cellOf env x.1; pure (ForInStep.yield ((x.1, a) :: c))) else pure (ForInStep.yield c)
noncomputable def CloR (θ : Th) (env : Env) (names : List (Str × NameKind)) (ds : List (Str × Addr)) (cs' : List (Str × Nat)) : Prop := ∃ ds', (forIn names ds (cloF env) : Sem _) = pure ds' ∧ CR θ cs' ds'
omit [Ops] in
theorem CloR.skip {x : Str} {k : NameKind} {names : List (Str × NameKind)} {ds : List (Str × Addr)} {cs' : List (Str × Nat)} (hk : (k == NameKind.free) = false) (h : CloR θ env names ds cs') : CloR θ env ((x, k) :: names) ds cs' := by
  obtain ⟨ds', e1, e2⟩ := h
  refine ⟨ds', ?_, e2⟩
  rw [List.forIn_cons]
  simp only [cloF, hk, Bool.false_eq_true, if_false, pure_bind]
  exact e1
omit [Ops] in
theorem CloR.take {x : Str} {a : Addr} {names : List (Str × NameKind)} {ds : List (Str × Addr)} {cs' : List (Str × Nat)} (e1 : env.cells.lookup x = some a) (h : CloR θ env names ((x, a) :: ds) cs') : CloR θ env ((x, .free) :: names) ds cs' := by
  obtain ⟨ds', e3, e4⟩ := h
  refine ⟨ds', ?_, e4⟩
  have : cellOf env x = pure a := by unfold cellOf; rw [e1]
  rw [List.forIn_cons]
  simp only [cloF, beq_self_eq_true, if_true, this, pure_bind]
  exact e3
theorem closure_yes (R : EnvR C θ ρ env) : ∀ (names : List (Str × NameKind)) {cs : List (Str × Nat)} {ds : List (Str × Addr)}, CR θ cs ds → Yes (CloR θ env names ds) (closure ρ names cs)
  | [], cs, ds, r => Yes.ok ⟨ds, List.forIn_nil .., r⟩
  | (x, k) :: names, cs, ds, r => by
    cases k with
    | free => exact Yes.n fun c hc => let ⟨a, e1, e2⟩ := R.cells.find hc; (closure_yes R names (cs := (x, c) :: cs) (ds := (x, a) :: ds) ⟨rfl, e2, r⟩).mono fun _ h => h.take e1
    | «local» => exact (closure_yes R names r).mono fun _ h => h.skip rfl
    | cell => exact (closure_yes R names r).mono fun _ h => h.skip rfl
    | globalExplicit => exact (closure_yes R names r).mono fun _ h => h.skip rfl
    | globalImplicit => exact (closure_yes R names r).mono fun _ h => h.skip rfl
theorem closureFor_yes (R : EnvR C θ ρ env) {scope : Scope} : Yes (fun cs => ∃ ds, closureFor scope env = pure ds ∧ CR θ cs ds) (closure ρ scope.names []) :=
  (closure_yes R scope.names (cs := []) (ds := []) trivial).mono fun cs ⟨ds, e1, e2⟩ => ⟨ds, by
    unfold closureFor
    have : (forIn scope.names ([] : List (Str × Addr)) fun (x : Str × NameKind) (cs : List (Str × Addr)) => (match x with | (name, kind) => if kind == .free then (do let a ← cellOf env name; pure (ForInStep.yield ((name, a) :: cs))) else pure (ForInStep.yield cs) : Sem _)) = pure ds := e1
    simp only [bind_pure]
    exact this, e2⟩
theorem compScope_eq (R : EnvR C θ ρ env) (scope : Scope) : compScope ρ scope = relabel scope env := by
  unfold compScope relabel
  congr 1
  refine List.map_congr_left fun x _ => ?_
  have : env.kindOf x.1 = Mine.find x.1 ρ.scope.names := by
    unfold Env.kindOf
    rw [R.scope, ← find_lookup]
  simp only [this, R.scope]
/- the frame of a comprehension's block -/
structure NewE (H : Hp) (scope : Scope) (cs : List (Str × Nat)) (env cenv : Env) (θ' : Th) (H' : Hp) : Prop where
  heap : H' = (layCells scope.names cs (Ops.app H [.ns []])).2
  loc : θ'[(Ops.len H)]? = some cenv.locals
  cells : CR θ' (layCells scope.names cs (Ops.app H [.ns []])).1 cenv.cells
  globals : cenv.globals = env.globals
  builtins : cenv.builtins = env.builtins
omit [Ops] in
theorem ns_new (θ : Th) (h : Heap) : OR C θ h (.ns []) { cls := .type "dict", data := .dict #[] } := ⟨#[], 0, rfl, fun e he => by simp at he, fun _ _ h => by cases h⟩
theorem newEnvC_tri {scope : Scope} {cs : List (Str × Nat)} {ds : List (Str × Addr)} (hc : CR θ cs ds) : Tri C A θ H (newFunctionEnv scope env.globals ds [] env.qual none .none (some env)) (NewE H scope cs env) := by
  unfold newFunctionEnv
  simp only [Option.isSome_some, if_true]
  refine Tri.bind (alloc_tri rfl ns_new) fun a θ1 H1 x1 h => ?_
  obtain ⟨rfl, e⟩ := h
  refine Tri.bind (layCells_tri _ (fun name kind cells => by cases hkc : kind == NameKind.cell <;> simp) scope.names (hc.mono x1)) fun ds' θ2 H2 x2 h => ?_
  simp only [List.forIn_nil, pure_bind]
  exact Tri.pure ⟨h.1, x2.1 _ _ e, h.2, rfl, rfl⟩
end
end Mine
end
section
open PySem PyProof.Rows
set_option maxRecDepth 100000
namespace Mine
variable [Ops]
section
variable {C : Cx} {G : Env0} {A : Around} {θ : Th} {H H' : Hp} {ρ : Rho} {env : Env} {α β γ : Type} {ih : Ih} {n : Nat}

noncomputable abbrev testF (env : Env) : Expr → Bool → Sem (ForInStep Bool) := fun c r => if r = true then do let ok ← isTrue c env (eval c env); pure (ForInStep.yield ok) else pure (ForInStep.yield r)
omit [Ops] in
theorem tests_false (env : Env) : ∀ ifs : List Expr, (forIn ifs false (testF env) : Sem Bool) = pure false
  | [] => by rw [List.forIn_nil]
  | c :: r => by
    rw [List.forIn_cons]
    simp only [testF, Bool.false_eq_true, if_false, pure_bind]
    exact tests_false env r
noncomputable abbrev AtI (C : Cx) (A : Around) (ρ : Rho) (env : Env) (H : Hp) (ifs : List Expr) (b : Bool) (H' : Hp) : Prop := ∀ {θ}, EnvR C θ ρ env → TriB C A θ H (forIn ifs true (testF env)) b H'
theorem ifs_stop {c : Expr} {r : List Expr} {H1 : Hp} (p : AtT C A ρ env H c false H1) : AtI C A ρ env H (c :: r) false H1 := fun R => by
  rw [List.forIn_cons]
  simp only [testF, if_true, bind_assoc, pure_bind]
  exact Tri.bool (p R) fun θ1 x1 => Tri.of_eq (tests_false env r) (Tri.pure ⟨rfl, rfl⟩)
theorem ifs_go {c : Expr} {r : List Expr} {H1 : Hp} {b : Bool} (p : AtT C A ρ env H c true H1) (q : AtI C A ρ env H1 r b H') : AtI C A ρ env H (c :: r) b H' := fun R => by
  rw [List.forIn_cons]
  simp only [testF, if_true, bind_assoc, pure_bind]
  exact Tri.bool (p R) fun θ1 x1 => q (R.mono x1)
theorem ifs_yes (I : IhS C ih n) (hA : Room A n) : ∀ (ifs : List Expr) {H : Hp}, YesH (AtI C A ρ env H ifs) (ifsOk ih ρ ifs H)
  | [], H => by intro R; rw [List.forIn_nil]; exact Tri.pure ⟨rfl, rfl⟩
  | c :: r, H => Yes.bh2 (I.t hA c) (fun H1 p => (ifs_yes I hA r).mono fun _ q => ifs_go p q) fun H1 p => by intro θ R; exact ifs_stop p R

theorem sync_zero {g : Comprehension} (h : sync g = true) : g = ⟨g.target, g.iter, g.ifs, 0⟩ := by
  have e : g.is_async = 0 := ieq_iff.mp h
  cases g
  exact congrArg _ e
omit [Ops] in
theorem syncs_all : ∀ {gens : List Comprehension}, syncs gens = true → ∀ g ∈ gens, sync g = true
  | [], _, g, hg => nomatch hg
  | a :: r, h, g, hg => by
    unfold syncs at h
    cases ha : sync a with
    | false => rw [ha] at h; exact Bool.noConfusion h
    | true =>
      rw [ha] at h
      cases hg with
      | head => exact ha
      | tail _ hg => exact syncs_all h g hg

/- the emission of a comprehension -/
noncomputable abbrev emitS (elt : Expr) (acc : Value) (env : Env) : Sem Unit := (do let _ ← call (.builtin "list.append") [acc, ← eval elt env])
noncomputable abbrev tailS (t : Expr) (ifs : List Expr) (env : Env) (inner : Sem Unit) (K : Sem Fin) (v : Value) : Sem Fin := assign t env v >>= fun _ => forIn ifs true (testF env) >>= fun ok => if ok = true then inner >>= fun _ => K else K
noncomputable abbrev turnS (t it : Expr) (ifs : List Expr) (z : Value) (env : Env) (inner : Sem Unit) (K : Sem Fin) : Sem Fin := standAt it.pos >>= fun _ => pyNext z >>= fun r => match r with
  | none => pure (.done .next)
  | some v => letOwnedTupleGo t z v >>= fun _ => tailS t ifs env inner K v
/- what a turn does inside -/
noncomputable abbrev InnR (C : Cx) (A : Around) (θ : Th) (inner : Sem Unit) (inn : Hp → Option Hp) : Prop := ∀ Ha, Yes (fun Hb => ∀ {θ'}, Ext θ θ' → TriU C A θ' Ha inner Hb) (inn Ha)
noncomputable def TailR (C : Cx) (A : Around) (θ : Th) (H : Hp) (t : Expr) (ifs : List Expr) (env : Env) (inner : Sem Unit) (v : V) (H' : Hp) : Prop := ∀ {θ' a s K} {Q : Fin → Shared → Prop}, Ext θ θ' → VR θ' v a → St C θ' H s →
  (∀ s', Nx C θ' s s' (fun _ H'' => H'' = H') → wpAny (model C.prog C.w) A K Q (fun _ _ => False) s') → wpAny (model C.prog C.w) A (tailS t ifs env inner K a) Q (fun _ _ => False) s
theorem tail_in {t : Expr} {ifs : List Expr} {inner : Sem Unit} {v : V} {H1 H2 : Hp} (R : EnvR C θ ρ env) (p1 : AtAs C A ρ env H t v H1) (p2 : AtI C A ρ env H1 ifs true H2) (p3 : ∀ {θ'}, Ext θ θ' → TriU C A θ' H2 inner H') : TailR C A θ H t ifs env inner v H' := fun x ra S k =>
  wpAny_bind (wpAny_mono (p1 (R.mono x) ra _ S) (fun _ s1 hb => hb.elim fun θ1 Ha g1 S1 e => by
    subst e
    exact wpAny_bind (wpAny_mono (p2 (R.mono (x.trans g1.ext)) s1 S1) (fun ok s2 hb => hb.elim fun θ2 Hb g2 S2 ⟨e, e2⟩ => by
      subst e; subst e2
      simp only [if_true]
      exact wpAny_bind (wpAny_mono (p3 (x.trans (g1.trans g2).ext) s2 S2) (fun _ s3 hb => hb.elim fun θ3 Hc g3 S3 e => k s3 (.mk' (g1.trans (g2.trans g3)) S3 e)) fun _ _ x => x)) fun _ _ x => x)) fun _ _ x => x)
theorem tail_out {t : Expr} {ifs : List Expr} {inner : Sem Unit} {v : V} {H1 H2 : Hp} (R : EnvR C θ ρ env) (p1 : AtAs C A ρ env H t v H1) (p2 : AtI C A ρ env H1 ifs false H2) : TailR C A θ H t ifs env inner v H2 := fun x ra S k =>
  wpAny_bind (wpAny_mono (p1 (R.mono x) ra _ S) (fun _ s1 hb => hb.elim fun θ1 Ha g1 S1 e => by
    subst e
    exact wpAny_bind (wpAny_mono (p2 (R.mono (x.trans g1.ext)) s1 S1) (fun ok s2 hb => hb.elim fun θ2 Hb g2 S2 ⟨e, e2⟩ => by
      subst e; subst e2
      simp only [Bool.false_eq_true, if_false]
      exact k s2 (.mk' (g1.trans g2) S2 rfl)) fun _ _ x => x)) fun _ _ x => x)
theorem turnC_yes (I : IhS C ih n) (hA : Room A n) (R : EnvR C θ ρ env) (t : Expr) (ifs : List Expr) {inner : Sem Unit} {inn : Hp → Option Hp} (hin : InnR C A θ inner inn) {v : V} : Yes (TailR C A θ H t ifs env inner v) (turnC ih ρ t ifs inn v H) :=
  Yes.hp (assignT_yes I hA t) fun H1 p1 => Yes.bh2 (ifs_yes I hA ifs) (fun H2 p2 => (hin H2).mono fun H3 p3 => by
    exact tail_in R p1 p2 p3) fun H2 p2 => by
    exact tail_out R p1 p2
section
variable {s s1 : Shared} {θ1 : Th} {H1 : Hp} {t it : Expr} {ifs : List Expr} {inner : Sem Unit} {inn : Hp → Option Hp} {p : Nat} {z : Addr}
noncomputable def CTurn (C : Cx) (A : Around) (θ : Th) (env : Env) (s s1 : Shared) (t it : Expr) (ifs : List Expr) (z : Addr) (inner : Sem Unit) (rec : Hp → Option Hp) (H' : Hp) : Prop := ∀ {c : Code} {Q : Fin → Shared → Prop}, (∀ s', Nx C θ s s' (fun _ H'' => H'' = H') → Q (.done .next) s') →
  (∀ θ2 s2 H2, Go C θ s θ2 s2 → St C θ2 H2 s2 → rec H2 = some H' → Q (.again c) s2) → wpAny (model C.prog C.w) A (turnS t it ifs (.ref z) env inner (again c)) Q (fun _ _ => False) s1
theorem clause_item {v : V} {H2 H3 : Hp} {rec : Hp → Option Hp} (hz : θ[p]? = some z) (g : Go C θ s θ1 s1) (S : St C θ1 H1 s1) (p1 : ∀ {θ z}, θ[p]? = some z → NitR C A θ H1 t z (some v) H2) (p2 : TailR C A θ H2 t ifs env inner v H3) (h : rec H3 = some H') : CTurn C A θ env s s1 t it ifs z inner rec H' := fun hd hk =>
  wpAny_bind (wpAny_standAt (wpAny_bind (p1 (g.getE hz) S (fun e => nomatch e) fun v' e a s2 hl => by
    injection e with e; subst e
    exact wpAny_bind (wpAny_mono hl (fun _ s3 hb => hb.elim fun θ2 H5 g2 S2 ⟨e, ra⟩ => by
      subst e
      exact p2 (g.trans g2).ext ra S2 fun s4 hb => hb.elim fun θ3 H6 g3 S3 e => wpAny_pure (hk θ3 s4 _ (g.trans (g2.trans g3)) S3 (e ▸ h))) fun _ _ x => x))))
theorem clause_stop {H2 : Hp} {rec : Hp → Option Hp} (hz : θ[p]? = some z) (g : Go C θ s θ1 s1) (S : St C θ1 H1 s1) (p1 : ∀ {θ z}, θ[p]? = some z → NitR C A θ H1 t z .none H2) : CTurn C A θ env s s1 t it ifs z inner rec H2 := fun hd hk =>
  wpAny_bind (wpAny_standAt (wpAny_bind (p1 (g.getE hz) S (fun _ s2 hb => hb.elim fun θ2 H5 g2 S2 e => wpAny_pure (hd s2 (.mk' (g.trans g2) S2 e))) fun _ e => nomatch e)))
theorem clause_turn (I : IhS C ih n) (hA : Room A n) (R : EnvR C θ ρ env) (hin : InnR C A θ inner inn) (hz : θ[p]? = some z) (g : Go C θ s θ1 s1) (S : St C θ1 H1 s1) (k : Nat) :
    Yes (CTurn C A θ env s s1 t it ifs z inner (loopC t (turnC ih ρ t ifs inn) k p)) (loopC t (turnC ih ρ t ifs inn) (k + 1) p H1) :=
  Yes.nx (nextAt_yes hA.hh t p) (fun v H2 p1 => Yes.hp (turnC_yes I hA R t ifs hin) fun H3 p2 => Yes.of fun H' h => by
    intro c Q hd hk; exact clause_item hz g S p1 p2 h hd hk) fun H2 p1 => by
    intro c Q hd hk; exact clause_stop hz g S p1 hd hk
noncomputable abbrev ClOut (C : Cx) (θ : Th) (s : Shared) (H' : Hp) (r : Result) (s' : Shared) : Prop := r = .ok .next ∧ Nx C θ s s' fun _ H'' => H'' = H'
/- the loop of one clause -/
theorem clause_at (I : IhS C ih n) (hA : Room A n) {e : Expr} {depth : Nat} {acc : Value} (hfr : (Code.compLoop e depth (.ref z) acc env).isFrame = false)
    (hq : (Code.compLoop e depth (.ref z) acc env).quiet = true) (hu : ∀ A : Around, A.under (Code.compLoop e depth (.ref z) acc env) = A)
    (heq : compTurn e depth (.ref z) acc env = turnS t it ifs (.ref z) env inner (again (.compLoop e depth (.ref z) acc env)))
    (R : EnvR C θ ρ env) (hz : θ[p]? = some z) (hin : InnR C A θ inner inn) {k : Nat} (h : loopC t (turnC ih ρ t ifs inn) k p H = some H') (S : St C θ H s) :
    codeAny (model C.prog C.w) A (.compLoop e depth (.ref z) acc env) (ClOut C θ s H') s := by
  refine codeAny_loop hq (fun k s' => ∃ θ1 H1, Go C θ s θ1 s' ∧ St C θ1 H1 s' ∧ loopC t (turnC ih ρ t ifs inn) k p H1 = some H') (fun k s1 hI => ?_) k ⟨θ, H, Go.refl, S, h⟩
  obtain ⟨θ1, H1, g1, S1, h1⟩ := hI
  rw [hu]
  have hd : (model C.prog C.w).den (.compLoop e depth (.ref z) acc env) = (compTurn e depth (.ref z) acc env).onRaise (fun x => do noteFrame x env; theTreesLotGoes x) := by
    show (if (Code.compLoop e depth (.ref z) acc env).isFrame then _ else _) = _
    rw [hfr]; rfl
  rw [hd, heq]
  refine wpAny_noted ?_
  refine wpAny_mono (E := fun _ _ => False) ?_ (fun _ _ x => x) fun _ _ x => noNote _ _ x
  cases k with
  | zero => cases h1
  | succ k => exact (clause_turn I hA R hin hz g1 S1 k).get h1 (fun s' nx => ⟨rfl, nx⟩) fun θ2 s2 H2 g2 S2 h2 => ⟨rfl, k, Nat.lt_succ_self _, θ2, H2, g2, S2, h2⟩
end

omit [Ops] in
theorem compStart_self {e : Expr} {depth : Nat} {acc : Value} {z : Addr} (hfr : (Code.compStart e depth (.ref z) acc env).isFrame = false) (hq : (Code.compLoop e depth (.ref z) acc env).quiet = true) (hu : ∀ A : Around, A.under (Code.compStart e depth (.ref z) acc env) = A)
    (ha : ((clausesOf e)[depth]?).elim false (·.is_async != 0) = false) {s : Shared} (hs : ∀ {Q : Value → Shared → Prop} {E : Value → Shared → Prop}, Q (.ref z) s → wpAny (model C.prog C.w) A (pyIter (.ref z)) Q E s) {R : Result → Shared → Prop}
    (h : codeAny (model C.prog C.w) A (.compLoop e depth (.ref z) acc env) R s) : codeAny (model C.prog C.w) A (.compStart e depth (.ref z) acc env) R s := by
  refine codeAny_of_tree ?_
  rw [hu]
  have hd : (model C.prog C.w).den (.compStart e depth (.ref z) acc env) = (compStart e depth (.ref z) acc env).onRaise (fun x => do noteFrame x env; standAt theWindowsPlace) := by
    show (if (Code.compStart e depth (.ref z) acc env).isFrame then _ else _) = _
    rw [hfr]; rfl
  rw [hd]
  refine wpAny_notedAt ?_
  unfold compStart
  rw [ha]
  simp only [Bool.false_eq_true, if_false]
  refine wpAny_bind (wpAny_askSetting (wpAny_ite ?_))
  split
  · first
      | exact wpAny_pure (And.intro hq h)
      | exact wpAny_bind (wpAny_pure (wpAny_pure (And.intro hq h)))
  · refine wpAny_bind (wpAny_rule ?_)
    have fin : wpAny (model C.prog C.w) A (do again (.compLoop e depth (← pyIter (.ref z)) acc env)) (fun fin s' => match fin with
        | .done f => R (.ok f) s'
        | .again c' => c'.quiet = true ∧ codeAny (model C.prog C.w) A c' R s') (notedBy (model C.prog C.w) A env fun x s' => R (.error x) s') s :=
      wpAny_bind (hs (wpAny_pure ⟨hq, h⟩))
    split
    · exact wpAny_bind (wpAny_standAt fin)
    · exact fin
theorem compStart_gen {e : Expr} {depth : Nat} {acc : Value} {p : Nat} {z : Addr} {J : It} (hfr : (Code.compStart e depth (.ref z) acc env).isFrame = false) (hq : (Code.compLoop e depth (.ref z) acc env).quiet = true) (hu : ∀ A : Around, A.under (Code.compStart e depth (.ref z) acc env) = A)
    (ha : ((clausesOf e)[depth]?).elim false (·.is_async != 0) = false) {s : Shared} (S : St C θ H s) (hz : θ[p]? = some z) (hp : Ops.get H p = some (.it J)) {R : Result → Shared → Prop}
    (h : codeAny (model C.prog C.w) A (.compLoop e depth (.ref z) acc env) R s) : codeAny (model C.prog C.w) A (.compStart e depth (.ref z) acc env) R s := compStart_self hfr hq hu ha (itSelf S hz hp) h
end
end Mine
end
section
open PySem PyProof.Rows
set_option maxRecDepth 100000
namespace Mine
variable [Ops]
section
variable {C : Cx} {G : Env0} {A : Around} {θ : Th} {H H' : Hp} {ρ : Rho} {env : Env} {α β γ : Type} {ih : Ih} {n : Nat}

/- a list comprehension's emission -/
noncomputable def EmR (C : Cx) (A : Around) (ρ : Rho) (env : Env) (elt : Expr) (la : Nat) (H : Hp) (H' : Hp) : Prop := ∀ {θ a}, EnvR C θ ρ env → θ[la]? = some a → TriU C A θ H (emitS elt (.ref a) env) H'
theorem emit_yes (I : IhS C ih n) (hA : Room A n) {elt : Expr} {la : Nat} : Yes (EmR C A ρ env elt la H) (emitL ih elt la ρ H) :=
  Yes.vh (I.e hA elt) fun v H1 p => Yes.vs (listAt_yes la) fun vs hl => Yes.t fun hf => by
    intro θ a R ha
    exact Tri.val (p R) fun x θ1 x1 r1 => Tri.bind (append_tri (x1.1 _ _ ha) hl hf r1) fun b θ2 H2 x2 h2 => Tri.pure h2.1
/- the loops of a comprehension -/
section
variable {elt : Expr} {gens : List Comprehension} {scope : Scope} {pos : Pos} {la : Nat}
noncomputable def LoopR (C : Cx) (A : Around) (ρ : Rho) (env : Env) (elt : Expr) (gens : List Comprehension) (scope : Scope) (pos : Pos) (la : Nat) (depth p : Nat) (H H' : Hp) : Prop := ∀ {θ z a s}, EnvR C θ ρ env → θ[p]? = some z → θ[la]? = some a → St C θ H s →
  codeAny (model C.prog C.w) A (.compLoop (.ListComp elt gens scope pos) depth (.ref z) (.ref a) env) (ClOut C θ s H') s
/- a clause within a clause -/
noncomputable abbrev innS (elt : Expr) (gens : List Comprehension) (scope : Scope) (pos : Pos) (depth : Nat) (g2 : Comprehension) (acc : Value) (env : Env) : Sem Unit := do
  let x ← eval g2.iter env
  standAt g2.iter.pos
  let x ← foldedSetIterable g2.iter env x
  let _ ← runOwn (.compStart (.ListComp elt gens scope pos) (depth + 1) (← holding [x] (pyIter x)) acc env) env
theorem inn_at {g2 : Comprehension} {depth p : Nat} {J : It} {H1 H2 : Hp} {a : Addr} (h0 : ((clausesOf (.ListComp elt gens scope pos))[depth + 1]?).elim false (·.is_async != 0) = false) (k : ItA C A ρ env H g2.iter p H1) (hJ : Ops.get H1 p = some (.it J)) (q : LoopR C A ρ env elt gens scope pos la (depth + 1) p H1 H2) (R : EnvR C θ ρ env) (ha : θ[la]? = some a) : TriU C A θ H (innS elt gens scope pos depth g2 (.ref a) env) H2 := fun s S => by
  refine wpAny_bind (wpAny_mono (k.it R s S) (fun v s1 hb => ?_) fun _ _ x => x)
  refine wpAny_bind (wpAny_standAt ?_)
  rw [k.set]
  simp only [pure_bind]
  refine wpAny_bind (wpAny_holding (wpAny_mono hb (fun it s2 hc => ?_) fun _ _ x => x))
  obtain ⟨z, rfl, nx⟩ := hc
  refine nx.elim fun θ2 Hx g3 S2 ⟨e, hz⟩ => ?_
  subst e
  exact wpAny_bind (wpAny_runOwn (compStart_gen rfl rfl (fun _ => rfl) h0 S2 hz hJ (codeAny_mono (q (R.mono g3.ext) hz (g3.getE ha) S2) fun r s4 hr => hr.1 ▸ hr.2.elim fun θ4 H4 g4 S4 e => wpAny_pure (.mk' (g3.trans g4) S4 e))))
omit [Ops] in
theorem drop_get {depth : Nat} {g : Comprehension} {gs : List Comprehension} (hd : gens.drop depth = g :: gs) : gens[depth]? = some g ∧ gens[depth + 1]? = gs[0]? ∧ gens.drop (depth + 1) = gs :=
  ⟨by have : (gens.drop depth)[0]? = some g := by rw [hd]; rfl
      simpa using this, by
      have : (gens.drop depth)[1]? = gs[0]? := by rw [hd]; rfl
      simpa using this, by rw [← List.drop_drop, hd]; rfl⟩
omit [Ops] in
theorem compMore {depth : Nat} {z : Value} {acc : Value} {env : Env} {g g2 : Comprehension} (hg : gens[depth]? = some ⟨g.target, g.iter, g.ifs, 0⟩) (hn : gens[depth + 1]? = some ⟨g2.target, g2.iter, g2.ifs, 0⟩) :
    compTurn (.ListComp elt gens scope pos) depth z acc env = turnS g.target g.iter g.ifs z env (innS elt gens scope pos depth g2 acc env) (again (.compLoop (.ListComp elt gens scope pos) depth z acc env)) := by
  rw [compTurn_more hg hn]
  simp only [turnS, tailS, innS, bind_assoc, pure_bind]
  try rfl
theorem loops_yes (I : IhS C ih n) (T : Top C G) (hA : Room A n) (hs : ∀ g ∈ gens, sync g = true) : ∀ (gs : List Comprehension) (depth : Nat), gens.drop depth = gs → ∀ (p : Nat) {H : Hp}, Yes (LoopR C A ρ env elt gens scope pos la depth p H) (clauses ih ρ (emitL ih elt la ρ) gs p H)
  | [], _, _, _, _ => trivial
  | [g], depth, hd, p, H => Yes.of fun H' h => by
    intro θ z a s R hz ha S
    have hg0 := sync_zero (hs g (List.mem_of_mem_drop (hd ▸ List.mem_cons_self ..)))
    obtain ⟨hget, hget1, hdr⟩ := drop_get hd
    rw [hg0] at hget
    exact clause_at I hA (inner := emitS elt (.ref a) env) rfl rfl (fun _ => rfl) (compTurn_last hget hget1) R hz (fun Ha => (emit_yes I hA).mono fun Hb q {θ'} x => q (R.mono x) (x.1 _ _ ha)) h S
  | g :: g2 :: gs, depth, hd, p, H => Yes.of fun H' h => by
    intro θ z a s R hz ha S
    have hm : ∀ g' ∈ g :: g2 :: gs, sync g' = true := fun g' m => hs g' (List.mem_of_mem_drop (hd ▸ m))
    have hg0 := sync_zero (hm g (List.mem_cons_self ..))
    have hg2 := sync_zero (hm g2 (List.mem_cons_of_mem _ (List.mem_cons_self ..)))
    obtain ⟨hget, hget1, hdr⟩ := drop_get hd
    have hget2 : gens[depth + 1]? = some ⟨g2.target, g2.iter, g2.ifs, 0⟩ := by rw [hget1, ← hg2]; rfl
    rw [hg0] at hget
    refine clause_at I hA (it := g.iter) (inner := innS elt gens scope pos depth g2 (.ref a) env) rfl rfl (fun _ => rfl) (compMore hget hget2) R hz (fun Ha => ?_) h S
    exact Yes.nh (evIter_yes I T hA g2.iter) fun p2 H3 k => Yes.itI (itAt_yes p2) fun J hJ => (loops_yes I T hA hs (g2 :: gs) (depth + 1) hdr p2).mono fun Hb q {θ'} x =>
      inn_at (show ((gens)[depth + 1]?).elim false (·.is_async != 0) = false by rw [hget2]; rfl) k hJ q (R.mono x) (x.1 _ _ ha)
end

omit [Ops] in
theorem isLoc_of {k : Option NameKind} (h : isLoc k = true) : k = some .local := by
  cases k with
  | none => exact Bool.noConfusion h
  | some k => cases k <;> first | rfl | exact Bool.noConfusion h
omit [Ops] in
theorem isLocK_of {k : NameKind} : isLocK k = true ↔ k = .local := by
  cases k <;> first | exact ⟨fun _ => rfl, fun _ => rfl⟩ | exact ⟨fun h => Bool.noConfusion h, fun h => NameKind.noConfusion h⟩
theorem namesOk_of {all : List (Str × NameKind)} : ∀ {l : List (Str × NameKind)}, namesOk all l = true → ∀ x ∈ l, x.2 = .local → all.lookup x.1 = some .local
  | [], _, x, hx, _ => nomatch hx
  | p :: r, h, x, hx, hl => by
    unfold namesOk at h
    cases hk : isLocK p.2 with
    | false =>
      rw [hk] at h
      cases hx with
      | head => rw [isLocK_of.mpr hl] at hk; exact Bool.noConfusion hk
      | tail _ hx => exact namesOk_of h x hx hl
    | true =>
      rw [hk] at h
      cases hf : isLoc (find p.1 all) with
      | false => rw [hf] at h; exact Bool.noConfusion h
      | true =>
        rw [hf] at h
        cases hx with
        | head => rw [← find_lookup]; exact isLoc_of hf
        | tail _ hx => exact namesOk_of h x hx hl
omit [Ops] in
theorem isFun_of {k : ScopeKind} (h : isFun k = true) : k = .function := by
  cases k <;> first | rfl | cases h
structure COk (scope : Scope) (gens : List Comprehension) : Prop where
  k : scope.kind = .function
  n : ∀ x ∈ scope.names, x.2 = .local → scope.names.lookup x.1 = some .local
  s : ∀ g ∈ gens, sync g = true
theorem compOk_of {scope : Scope} {gens : List Comprehension} (h : compOk scope gens = true) : COk scope gens := by
  unfold compOk at h
  cases h1 : isFun scope.kind with
  | false => rw [h1] at h; exact Bool.noConfusion h
  | true =>
    rw [h1] at h
    cases h2 : namesOk scope.names scope.names with
    | false => rw [h2] at h; exact Bool.noConfusion h
    | true => rw [h2] at h; exact ⟨isFun_of h1, namesOk_of h2, syncs_all h⟩

/- what is done with the list -/
noncomputable def UseR (C : Cx) (A : Around) (ρ : Rho) (env : Env) : Option (V → Hp → Option Hp) → Option (Value → Sem Unit) → Prop
  | .none, .none => True
  | some f, some u => ∀ v H, Yes (fun H' => ∀ {θ a}, EnvR C θ ρ env → VR θ v a → TriU C A θ H (u a) H') (f v H)
  | _, _ => False
noncomputable abbrev CmQ (C : Cx) (θ : Th) (s : Shared) (use : Option (Value → Sem Unit)) (v : V) (H' : Hp) (a : Value) (s' : Shared) : Prop := Nx C θ s s' fun θ' H'' => H'' = H' ∧ (use = none → VR θ' v a)
theorem gone_at {θ4 : Th} {s s5 : Shared} {H3 : Hp} {k : Nat} {L : Addr} {use : Option (Value → Sem Unit)} {es : List (Str × V)} {v : V} {a : Value} (S4 : St C θ4 H3 s5) (g : Go C θ s θ4 s5) (hl : θ4[k]? = some L) (hns : Ops.get H3 k = some (.ns es)) (hv : use = none → VR θ4 v a) :
    ∃ m, s5.heap.Ns L m ∧ ∀ h', Heap.SameBut L s5.heap h' → CmQ C θ s use v (Ops.set H3 k .gone) a { s5 with heap := h' } := by
  obtain ⟨m, hm, _⟩ := S4.nsAt hns hl
  refine ⟨m, hm, fun h' hs => ?_⟩
  have u := S4.kill (s' := { s5 with heap := h' }) hl (fun b o n e => hs.extBut b o n e) (Nat.le_of_eq hs.1.symm) (Nat.le_refl _) rfl rfl
  exact .mk' (g.trans u.2) u.1 ⟨rfl, hv⟩
noncomputable def EndR (C : Cx) (A : Around) (ρ : Rho) (env : Env) (use : Option (Value → Sem Unit)) (k : Nat) (H : Hp) (v : V) (H' : Hp) : Prop := ∀ {θ θ4 s s5 aa L}, EnvR C θ ρ env → St C θ4 H s5 → Go C θ s θ4 s5 → θ4[k]? = some aa → θ4[k + 1]? = some L →
  compPost (model C.prog C.w) A (fun _ _ => False) use (CmQ C θ s use v H') (.ref aa) L (.ok .next) s5
theorem end_none {k : Nat} {es : List (Str × V)} (hns : Ops.get H (k + 1) = some (.ns es)) : EndR C A ρ env none k H (.ref k) (Ops.set H (k + 1) .gone) := fun R S g ha hl => gone_at S g hl hns fun _ => ⟨_, ha, rfl⟩
theorem end_some {k : Nat} {es : List (Str × V)} {H1 : Hp} {u : Value → Sem Unit} (q : ∀ {θ a}, EnvR C θ ρ env → VR θ (.ref k) a → TriU C A θ H (u a) H1) (hns : Ops.get H1 (k + 1) = some (.ns es)) : EndR C A ρ env (some u) k H (.ref k) (Ops.set H1 (k + 1) .gone) := fun {θ θ4 s s5 aa L} R S g ha hl =>
  wpAny_mono (q (R.mono g.ext) ⟨aa, ha, rfl⟩ s5 S) (fun _ s6 hb => hb.elim fun θ5 Hz g5 S5 e => by
    subst e
    obtain ⟨m, hm, k⟩ := gone_at (use := some u) (v := .ref k) (a := .none) S5 (g.trans g5) (g5.getE hl) hns fun e => nomatch e
    exact ⟨m, hm, fun h' hs => k h' hs⟩) fun _ _ x => x
theorem compEnd_yes {fin : Option (V → Hp → Option Hp)} {use : Option (Value → Sem Unit)} (hu : UseR C A ρ env fin use) (k : Nat) : YesH (EndR C A ρ env use k H) (compEnd fin k H) := by
  cases fin with
  | none => cases use with
    | none => exact Yes.ns fun es hns => by intro θ θ4 s s5 aa L R S g ha hl; exact end_none hns R S g ha hl
    | some => exact hu.elim
  | some f => cases use with
    | none => exact hu.elim
    | some u => exact Yes.hp (hu (.ref k) H) fun H1 q => Yes.ns fun es hns => by intro θ θ4 s s5 aa L R S g ha hl; exact end_some q hns R S g ha hl
end
end Mine
end
section
open PySem PyProof.Rows
set_option maxRecDepth 100000
namespace Mine
variable [Ops]
section
variable {C : Cx} {G : Env0} {A : Around} {θ : Th} {H H' : Hp} {ρ : Rho} {env : Env} {α β γ : Type} {ih : Ih} {n : Nat}
variable {elt : Expr} {gens : List Comprehension} {scope : Scope} {pos pos' : Pos} {use : Option (Value → Sem Unit)}

noncomputable def CompR (C : Cx) (A : Around) (ρ : Rho) (env : Env) (elt : Expr) (gens : List Comprehension) (scope : Scope) (use : Option (Value → Sem Unit)) (H : Hp) (v : V) (H' : Hp) : Prop := ∀ {pos pos' θ s}, EnvR C θ ρ env → St C θ H s →
  wpAny (model C.prog C.w) A (comprehension (.ListComp elt gens scope pos) scope env pos' (newList []) (firstAsync gens) (firstIter gens env) use) (CmQ C θ s use v H') (fun _ _ => False) s
/- a comprehension's own state: its list, its names -/
structure CmS (C : Cx) (ρ : Rho) (env cenv : Env) (scope : Scope) (cs : List (Str × Nat)) (θ : Th) (s : Shared) (k : Nat) (θ3 : Th) (H2 : Hp) (aa z : Addr) (p : Nat) (s4 : Shared) : Prop where
  R : EnvR C θ3 (compRho ρ scope k cs) { cenv with scope := relabel scope env }
  R0 : EnvR C θ ρ env
  S : St C θ3 H2 s4
  g : Go C θ s θ3 s4
  z : θ3[p]? = some z
  a : θ3[k]? = some aa
theorem run_at (I : IhS C ih n) (T : Top C G) (hA : Room A n) {g : Comprehension} {gs : List Comprehension} {cenv : Env} {cs : List (Str × Nat)} {s s4 : Shared} {k p : Nat} {θ3 : Th} {aa z : Addr} {J : It} {H2 : Hp} {v : V} (c : COk scope (g :: gs)) (m : CmS C ρ env cenv scope cs θ s k θ3 H aa z p s4) (hJ : Ops.get H p = some (.it J))
    (h : clauses ih (compRho ρ scope k cs) (emitL ih elt k (compRho ρ scope k cs)) (g :: gs) p H = some H2) (q : EndR C A ρ env use k H2 v H') :
    codeAny (model C.prog C.w) A (.compStart (.ListComp elt (g :: gs) scope pos) 0 (.ref z) (.ref aa) { cenv with scope := relabel scope env }) (compPost (model C.prog C.w) A (fun _ _ => False) use (CmQ C θ s use v H') (.ref aa) cenv.locals) s4 := by
  have hg0 := sync_zero (c.s g (List.mem_cons_self ..))
  refine compStart_gen rfl rfl (fun _ => rfl) (by show (((g :: gs)[0]?).elim false (·.is_async != 0)) = false; rw [hg0]; rfl) m.S m.z hJ
    (codeAny_mono ((loops_yes I T hA c.s (g :: gs) 0 rfl p).get h m.R m.z m.a m.S) fun r s5 hr => ?_)
  obtain ⟨e, nx⟩ := hr
  subst e
  refine nx.elim fun θ4 H4 g4 S4 e => ?_
  subst e
  exact q m.R0 S4 (m.g.trans g4) (g4.getE m.a) (g4.getE m.R.loc)
theorem comp_at {g : Comprehension} {gs : List Comprehension} {p : Nat} {H1 : Hp} {cs : List (Str × Nat)} {v : V} (c : COk scope (g :: gs)) (k : ItA C A ρ env H g.iter p H1) (hcl : closure ρ scope.names [] = some cs)
    (q : ∀ {cenv θ s θ3 s4 aa z}, CmS C ρ env cenv scope (layCells scope.names cs (Ops.app H1 [.list [], .ns []])).1 θ s (Ops.len H1) θ3 (layCells scope.names cs (Ops.app H1 [.list [], .ns []])).2 aa z p s4 → ∀ {pos}, codeAny (model C.prog C.w) A (.compStart (.ListComp elt (g :: gs) scope pos) 0 (.ref z) (.ref aa) { cenv with scope := relabel scope env }) (compPost (model C.prog C.w) A (fun _ _ => False) use (CmQ C θ s use v H') (.ref aa) cenv.locals) s4) :
    CompR C A ρ env elt (g :: gs) scope use H v H' := fun {pos pos' θ s} R S => by
  have hg0 := sync_zero (c.s g (List.mem_cons_self ..))
  obtain ⟨ds, hclos, rds⟩ := (closureFor_yes R).get hcl
  rw [show firstAsync (g :: gs) = false by rw [hg0]; rfl, show firstIter (g :: gs) env = eval g.iter env by rw [hg0]; rfl]
  refine wpAny_comprehension_free (g := g) (gs := gs) rfl k.set hclos c.k c.n ?_
  refine wpAny_mono (k.it R s S) (fun x s1 hb => wpAny_mono hb (fun it s2 hc => ?_) fun _ _ x => x) fun _ _ x => x
  obtain ⟨z, rfl, nx⟩ := hc
  refine nx.elim fun θ1 Hz g1 S1 ⟨e, hz⟩ => ?_
  subst e
  refine wpAny_mono (newList_sound (θ := θ1) (vs := []) (as := []) trivial (by decide) s2 S1) (fun acc s3 hb => hb.elim fun θ2 Hx g2 S2 ⟨e, ra⟩ => ?_) fun _ _ x => x
  obtain ⟨aa, haa, rfl⟩ := ra
  subst e
  refine wpAny_mono (newEnvC_tri (A := A) (scope := scope) (rds.mono (g1.trans g2).ext) s3 S2) (fun cenv s4 hb => hb.elim fun θ3 Hy g3 S3 e => ?_) fun _ _ x => x
  have happ : Ops.app (Ops.app Hz [O.list []]) [O.ns []] = Ops.app Hz [O.list [], .ns []] := Ops.app_app _ _ _
  have hloc := e.loc
  have hcells := e.cells
  have hh := e.heap
  rw [Ops.app_len] at hloc
  rw [happ] at hcells hh
  subst hh
  exact q ⟨⟨(compScope_eq R scope).symm, c.k, hloc, hcells, e.globals.trans R.globals, e.builtins.trans R.builtins, fun k e => nomatch e⟩, R, S3, g1.trans (g2.trans g3), (g2.trans g3).getE hz, g3.getE haa⟩
theorem compRun_yes (I : IhS C ih n) (T : Top C G) (hA : Room A n) {fin : Option (V → Hp → Option Hp)} (hu : UseR C A ρ env fin use) {g : Comprehension} {gs : List Comprehension} {p : Nat} {H1 : Hp} {cs : List (Str × Nat)} (c : COk scope (g :: gs)) (k : ItA C A ρ env H g.iter p H1) (hcl : closure ρ scope.names [] = some cs) :
    YesH (CompR C A ρ env elt (g :: gs) scope use H) (compRun ih ρ elt (g :: gs) scope fin (Ops.len H1) p (layCells scope.names cs (Ops.app H1 [.list [], .ns []]))) :=
  Yes.itI (itAt_yes p) fun J hJ => Yes.h fun H3 h => (compEnd_yes hu (Ops.len H1)).mono fun r q => by
    intro pos pos' θ s R S
    exact comp_at c k hcl (fun m => run_at I T hA c m hJ h q) R S
omit [Ops] in
theorem Yes.cs {Q : γ → Prop} {o : Option (List (Str × Nat))} {P : List (Str × Nat) → Prop} {K : List (Str × Nat) → Option γ} (p : Yes P o) (h : ∀ a, P a → Yes Q (K a)) : Yes Q (match (generalizing := false) o with | some a => K a | .none => .none) := by
  cases o with
  | none => exact trivial
  | some q => exact h _ p
theorem comp_yes (I : IhS C ih n) (T : Top C G) (hA : Room A n) {fin : Option (V → Hp → Option Hp)} (hu : UseR C A ρ env fin use) : ∀ gens, YesH (CompR C A ρ env elt gens scope use H) (comp ih ρ elt gens scope fin H)
  | [] => trivial
  | g :: gs => Yes.t fun hc => Yes.nh (evIter_yes I T hA g.iter) fun p H1 k => Yes.cs Yes.self fun cs hcl => by
    exact compRun_yes I T hA hu (compOk_of hc) k hcl
end
end Mine
end
section
open PySem PyProof.Rows
set_option maxRecDepth 100000
namespace Mine
variable [Ops]
section
variable {C : Cx} {G : Env0} {A : Around} {θ : Th} {H H' : Hp} {ρ : Rho} {env : Env} {α β γ : Type} {ih : Ih} {n : Nat}
variable {kx vx : Expr} {g : Comprehension} {scope : Scope} {pos pos' : Pos} {use : Option (Value → Sem Unit)} {la : Nat}

/- a dict comprehension's emission -/
noncomputable abbrev emitDS (kx vx : Expr) (D : Addr) (env : Env) : Sem Unit := do
  let kv ← eval kx env
  let vv ← holding [kv] (eval vx env)
  standAt { kx.pos with endLine := vx.pos.endLine, endCol := vx.pos.endCol }
  holding [kv, vv] (dictSet D kv vv)
noncomputable def EmD (C : Cx) (A : Around) (ρ : Rho) (env : Env) (kx vx : Expr) (la : Nat) (H : Hp) (H' : Hp) : Prop := ∀ {θ a}, EnvR C θ ρ env → θ[la]? = some a → TriU C A θ H (emitDS kx vx a env) H'
theorem dictAt_yes (p : Nat) : Yes (fun es => Ops.get H p = some (.dict es)) (dictAt p H) := Yes.dict fun es e => Yes.ok e
theorem dset_tri {es : List (Int × V)} {i : Int} {t : Tok} {w : V} {wv : Value} {x : Addr} (e1 : θ[la]? = some x) (hl : Ops.get H la = some (.dict es)) (hf : fits es.length = true) (rw' : VR θ w wv) : TriU C A θ H (dictSet x (.int i t) wv) (Ops.set H la (.dict ((i, w) :: es))) := fun s S => by
  obtain ⟨f, h1, h2, h3⟩ := S.dictAt hl e1
  refine wpAny_dictSet_int_le h1 h2 (fits_sz hf) fun h' k1 k2 k3 => ?_
  obtain ⟨o', es', ep, g1, g2, g3, g4, g5⟩ := k1
  refine fin_upd S (.dict ((i, w) :: es)) e1 g1 ⟨g2, es', ep, g3, k2 _ _ _ g1 g3, g4, fun k v e => ?_⟩ (fun b o n e => k3.extBut b o n e) (Nat.le_of_eq k3.1.symm) (Nat.le_succ _) rfl
  rw [g5]
  have e : (match ieq i k with | true => some w | false => findI k es) = some v := e
  cases q : ieq i k with
  | true =>
    rw [q] at e
    injection e with e
    subst e
    exact ⟨wv, if_pos (ieq_iff.mp q).symm, rw'⟩
  | false =>
    rw [q] at e
    obtain ⟨a, e2, r⟩ := h3 k v e
    exact ⟨a, (if_neg fun z => ieq_false q z.symm).trans e2, r⟩
theorem emitD_at {v w : V} {i : Int} {es : List (Int × V)} {H1 H2 : Hp} (p1 : AtE C A ρ env H kx v H1) (e : v = .int i) (p2 : AtE C A ρ env H1 vx w H2) (hl : Ops.get H2 la = some (.dict es)) (hf : fits es.length = true) : EmD C A ρ env kx vx la H (Ops.set H2 la (.dict ((i, w) :: es))) := fun {θ a} R ha => by
  subst e
  refine Tri.val (p1 R) fun x θ1 x1 r1 => ?_
  apply r1.int; intro t _
  exact Tri.hold (Tri.val (p2 (R.mono x1)) fun y θ2 x2 r2 => Tri.at (Tri.holding (dset_tri ((x1.trans x2).1 _ _ ha) hl hf r2)))
omit [Ops] in
theorem vInt_yes (v : V) : Yes (fun i => v = .int i) (vInt v) := by
  cases v <;> first | exact rfl | exact trivial
omit [Ops] in
theorem Yes.esD {Q : γ → Prop} {o : Option (List (Int × V))} {P : List (Int × V) → Prop} {K : List (Int × V) → Option γ} (p : Yes P o) (h : ∀ m, P m → Yes Q (K m)) : Yes Q (match (generalizing := false) o with | some m => K m | .none => .none) := by
  cases o with
  | none => exact trivial
  | some m => exact h m p
theorem emitD_yes (I : IhS C ih n) (hA : Room A n) : Yes (EmD C A ρ env kx vx la H) (emitD ih kx vx la ρ H) :=
  Yes.vh (I.e hA kx) fun v H1 p1 => Yes.ofI (vInt_yes v) fun i e => Yes.vh (I.e hA vx) fun w H2 p2 => Yes.esD (dictAt_yes la) fun es hl => Yes.t fun hf => by
    intro θ a R ha; exact emitD_at p1 e p2 hl hf R ha

noncomputable def LoopD (C : Cx) (A : Around) (ρ : Rho) (env : Env) (kx vx : Expr) (g : Comprehension) (scope : Scope) (pos : Pos) (la p : Nat) (H H' : Hp) : Prop := ∀ {θ z a s}, EnvR C θ ρ env → θ[p]? = some z → θ[la]? = some a → St C θ H s →
  codeAny (model C.prog C.w) A (.compLoop (.DictComp kx vx [g] scope pos) 0 (.ref z) (.ref a) env) (ClOut C θ s H') s
omit [Ops] in
theorem compDict (hg : g = ⟨g.target, g.iter, g.ifs, 0⟩) (z : Value) (a : Addr) (env : Env) : compTurn (.DictComp kx vx [g] scope pos) 0 z (.ref a) env = turnS g.target g.iter g.ifs z env (emitDS kx vx a env) (again (.compLoop (.DictComp kx vx [g] scope pos) 0 z (.ref a) env)) := by
  rw [hg]
  exact compTurn_dict kx vx g.target g.iter g.ifs scope pos z a env
theorem loopD_yes (I : IhS C ih n) (hA : Room A n) (hs : sync g = true) (p : Nat) : Yes (LoopD C A ρ env kx vx g scope pos la p H) (loopC g.target (turnC ih ρ g.target g.ifs (emitD ih kx vx la ρ)) turns p H) := Yes.of fun H' h => by
  intro θ z a s R hz ha S
  exact clause_at I hA (inner := emitDS kx vx a env) rfl rfl (fun _ => rfl) (compDict (sync_zero hs) _ _ _) R hz (fun Ha => (emitD_yes I hA).mono fun Hb q {θ'} x => q (R.mono x) (x.1 _ _ ha)) h S

noncomputable def CompD (C : Cx) (A : Around) (ρ : Rho) (env : Env) (kx vx : Expr) (g : Comprehension) (scope : Scope) (use : Option (Value → Sem Unit)) (H : Hp) (v : V) (H' : Hp) : Prop := ∀ {pos pos' θ s}, EnvR C θ ρ env → St C θ H s →
  wpAny (model C.prog C.w) A (comprehension (.DictComp kx vx [g] scope pos) scope env pos' newDict (firstAsync [g]) (firstIter [g] env) use) (CmQ C θ s use v H') (fun _ _ => False) s
theorem runD_at (I : IhS C ih n) (T : Top C G) (hA : Room A n) {cenv : Env} {cs : List (Str × Nat)} {s s4 : Shared} {k p : Nat} {θ3 : Th} {aa z : Addr} {J : It} {H2 : Hp} {v : V} (c : COk scope [g]) (m : CmS C ρ env cenv scope cs θ s k θ3 H aa z p s4) (hJ : Ops.get H p = some (.it J))
    (h : loopC g.target (turnC ih (compRho ρ scope k cs) g.target g.ifs (emitD ih kx vx k (compRho ρ scope k cs))) turns p H = some H2) (q : EndR C A ρ env use k H2 v H') :
    codeAny (model C.prog C.w) A (.compStart (.DictComp kx vx [g] scope pos) 0 (.ref z) (.ref aa) { cenv with scope := relabel scope env }) (compPost (model C.prog C.w) A (fun _ _ => False) use (CmQ C θ s use v H') (.ref aa) cenv.locals) s4 := by
  have hg0 := sync_zero (c.s g (List.mem_cons_self ..))
  refine compStart_gen rfl rfl (fun _ => rfl) (by show (([g][0]?).elim false (·.is_async != 0)) = false; rw [hg0]; rfl) m.S m.z hJ
    (codeAny_mono ((loopD_yes I hA (c.s g (List.mem_cons_self ..)) p).get h m.R m.z m.a m.S) fun r s5 hr => ?_)
  obtain ⟨e, nx⟩ := hr
  subst e
  refine nx.elim fun θ4 H4 g4 S4 e => ?_
  subst e
  exact q m.R0 S4 (m.g.trans g4) (g4.getE m.a) (g4.getE m.R.loc)
theorem newDict_tri : TriV C A θ H newDict (.ref (Ops.len H)) (Ops.app H [.dict []]) := fun s S => by
  show wpAny _ _ (newObj (.type "dict") (.dict #[])) _ _ _
  exact wpAny_newObj_type (fin_new S (.dict []) rfl ⟨rfl, #[], 0, rfl, Nat.le_refl _, fun e he => by simp at he, fun k v e => nomatch e⟩ (Nat.le_refl _) ⟨rfl, new_ref S.len⟩) (by size_fits)
theorem compD_at {p : Nat} {H1 : Hp} {cs : List (Str × Nat)} {v : V} (c : COk scope [g]) (k : ItA C A ρ env H g.iter p H1) (hcl : closure ρ scope.names [] = some cs)
    (q : ∀ {cenv θ s θ3 s4 aa z}, CmS C ρ env cenv scope (layCells scope.names cs (Ops.app H1 [.dict [], .ns []])).1 θ s (Ops.len H1) θ3 (layCells scope.names cs (Ops.app H1 [.dict [], .ns []])).2 aa z p s4 → ∀ {pos}, codeAny (model C.prog C.w) A (.compStart (.DictComp kx vx [g] scope pos) 0 (.ref z) (.ref aa) { cenv with scope := relabel scope env }) (compPost (model C.prog C.w) A (fun _ _ => False) use (CmQ C θ s use v H') (.ref aa) cenv.locals) s4) :
    CompD C A ρ env kx vx g scope use H v H' := fun {pos pos' θ s} R S => by
  have hg0 := sync_zero (c.s g (List.mem_cons_self ..))
  obtain ⟨ds, hclos, rds⟩ := (closureFor_yes R).get hcl
  rw [show firstAsync [g] = false by rw [hg0]; rfl, show firstIter [g] env = eval g.iter env by rw [hg0]; rfl]
  refine wpAny_comprehension_free (g := g) (gs := []) rfl k.set hclos c.k c.n ?_
  refine wpAny_mono (k.it R s S) (fun x s1 hb => wpAny_mono hb (fun it s2 hc => ?_) fun _ _ x => x) fun _ _ x => x
  obtain ⟨z, rfl, nx⟩ := hc
  refine nx.elim fun θ1 Hz g1 S1 ⟨e, hz⟩ => ?_
  subst e
  refine wpAny_mono (newDict_tri (θ := θ1) s2 S1) (fun acc s3 hb => hb.elim fun θ2 Hx g2 S2 ⟨e, ra⟩ => ?_) fun _ _ x => x
  obtain ⟨aa, haa, rfl⟩ := ra
  subst e
  refine wpAny_mono (newEnvC_tri (A := A) (scope := scope) (rds.mono (g1.trans g2).ext) s3 S2) (fun cenv s4 hb => hb.elim fun θ3 Hy g3 S3 e => ?_) fun _ _ x => x
  have happ : Ops.app (Ops.app Hz [O.dict []]) [O.ns []] = Ops.app Hz [O.dict [], .ns []] := Ops.app_app _ _ _
  have hloc := e.loc
  have hcells := e.cells
  have hh := e.heap
  rw [Ops.app_len] at hloc
  rw [happ] at hcells hh
  subst hh
  exact q ⟨⟨(compScope_eq R scope).symm, c.k, hloc, hcells, e.globals.trans R.globals, e.builtins.trans R.builtins, fun k e => nomatch e⟩, R, S3, g1.trans (g2.trans g3), (g2.trans g3).getE hz, g3.getE haa⟩
theorem compRunD_yes (I : IhS C ih n) (T : Top C G) (hA : Room A n) {fin : Option (V → Hp → Option Hp)} (hu : UseR C A ρ env fin use) {p : Nat} {H1 : Hp} {cs : List (Str × Nat)} (c : COk scope [g]) (k : ItA C A ρ env H g.iter p H1) (hcl : closure ρ scope.names [] = some cs) :
    YesH (CompD C A ρ env kx vx g scope use H) (compRunD ih ρ kx vx g scope fin (Ops.len H1) p (layCells scope.names cs (Ops.app H1 [.dict [], .ns []]))) :=
  Yes.itI (itAt_yes p) fun J hJ => Yes.h fun H3 h => (compEnd_yes hu (Ops.len H1)).mono fun r q => by
    intro pos pos' θ s R S
    exact compD_at c k hcl (fun m => runD_at I T hA c m hJ h q) R S
omit [Ops] in
theorem oneG_yes (l : List Comprehension) : Yes (fun a => l = [a]) (oneG l) := by
  cases l with
  | nil => exact trivial
  | cons a r => cases r with
    | nil => exact rfl
    | cons => exact trivial
omit [Ops] in
theorem Yes.cg {Q : γ → Prop} {o : Option Comprehension} {P : Comprehension → Prop} {K : Comprehension → Option γ} (p : Yes P o) (h : ∀ m, P m → Yes Q (K m)) : Yes Q (match (generalizing := false) o with | some m => K m | .none => .none) := by
  cases o with
  | none => exact trivial
  | some m => exact h m p
theorem compD_yes (I : IhS C ih n) (T : Top C G) (hA : Room A n) {fin : Option (V → Hp → Option Hp)} (hu : UseR C A ρ env fin use) (gens : List Comprehension) : YesH (fun v H' => ∃ g, gens = [g] ∧ CompD C A ρ env kx vx g scope use H v H') (compD ih ρ kx vx gens scope fin H) :=
  Yes.cg (oneG_yes gens) fun g e => Yes.t fun hc => Yes.nh (evIter_yes I T hA g.iter) fun p H1 k => Yes.cs Yes.self fun cs hcl => (compRunD_yes I T hA hu (compOk_of hc) k hcl).mono fun q h => ⟨g, e, h⟩
end
end Mine
end
section
open PySem PyProof.Rows
set_option maxRecDepth 100000
namespace Mine
variable [Ops]

theorem memS_iff {x : Str} : ∀ {l : List Str}, memS x l = true ↔ x ∈ l
  | [] => ⟨fun h => (nomatch h), fun h => (nomatch h)⟩
  | y :: r => by
    unfold memS
    by_cases h : x = y
    · subst h; rw [seq_self]; simp
    · rw [seq_ne h, List.mem_cons]
      simp only [h, false_or]
      exact memS_iff
theorem nodupS_iff : ∀ {l : List Str}, nodupS l = true → l.Nodup
  | [], _ => List.nodup_nil
  | x :: r, h => by
    unfold nodupS at h
    cases hm : memS x r with
    | true => rw [hm] at h; exact Bool.noConfusion h
    | false =>
      rw [hm] at h
      exact List.nodup_cons.mpr ⟨fun q => Bool.false_ne_true (hm.symm.trans (memS_iff.mpr q)), nodupS_iff h⟩

omit [Ops] in
theorem lookup_zip {α : Type} : ∀ {ps : List Str} {as : List α}, ps.Nodup → ps.length = as.length → ps.filterMap (fun n => ((ps.zip as).lookup n).map (n, ·)) = ps.zip as
  | [], [], _, _ => rfl
  | p :: ps, a :: as, h, hl => by
    rw [List.zip_cons_cons, List.filterMap_cons]
    have e : ((p, a) :: ps.zip as).lookup p = some a := by simp
    rw [e]
    show (p, a) :: _ = _
    congr 1
    have h2 := (List.nodup_cons.mp h)
    rw [← lookup_zip h2.2 (by simpa using hl)]
    refine filterMap_same fun x hx => ?_
    have hne : (x == p) = false := beq_eq_false_iff_ne.mpr fun q => h2.1 (q ▸ hx)
    rw [List.lookup_cons, hne]
    rw [lookup_zip h2.2 (by simpa using hl)]

omit [Ops] in
theorem lookup_zip_some {α : Type} : ∀ {ps : List Str} {as : List α} {n : Str}, n ∈ ps → ps.length = as.length → ((ps.zip as).lookup n).isSome = true
  | p :: ps, a :: as, n, h, hl => by
    rw [List.zip_cons_cons, List.lookup_cons]
    cases e : n == p with
    | true => rfl
    | false =>
      rcases List.mem_cons.mp h with rfl | h
      · simp at e
      · exact lookup_zip_some h (by simpa using hl)

/- plain parameters -/
structure PlA (a : Arguments) (ps : List Str) : Prop where
  ex : ∃ ar, a = ⟨[], ar, .none, [], [], .none, []⟩ ∧ ps = ar.map (·.arg)
  nd : ps.Nodup
theorem plainArgs_yes (a : Arguments) : Yes (PlA a) (plainArgs a) := by
  obtain ⟨po, ar, va, ko, kd, kw, df⟩ := a
  cases po with
  | cons => exact trivial
  | nil => cases va with
    | some => exact trivial
    | none => cases ko with
      | cons => exact trivial
      | nil => cases kd with
        | cons => exact trivial
        | nil => cases kw with
          | some => exact trivial
          | none => cases df with
            | cons => exact trivial
            | nil => exact Yes.t fun h => Yes.ok ⟨⟨ar, rfl, rfl⟩, nodupS_iff h⟩
theorem bindArgs_plain {fd : FuncData} {ps : List Str} {as : List Value} (hp : plainArgs fd.params = some ps) (hd : fd.defaults = .none) (hl : ps.length = as.length) : bindArgs fd ⟨as, []⟩ = pure (ps.zip as) := by
  obtain ⟨⟨ar, hq, rfl⟩, hnd⟩ := (plainArgs_yes _).get hp
  unfold bindArgs
  rw [hq, hd]
  have hmiss : ((List.map (fun x => x.arg) ar).filter fun n => ((List.zip (List.map (fun x => x.arg) ar) as).lookup n).isNone) = [] := by
    refine List.filter_eq_nil_iff.mpr fun x hx => ?_
    have := lookup_zip_some hx hl
    rw [Option.isNone_iff_eq_none]
    intro q
    rw [q] at this; cases this
  have hgt : ¬ (as.length > (List.map (fun x => x.arg) ar).length) := by rw [hl]; exact Nat.lt_irrefl _
  have hs : (seqItems? Value.none : Sem _) = pure none := rfl
  have he : ((none : Option (Array Value)).getD #[]).toList = [] := rfl
  have hz := lookup_zip hnd hl
  have hl' := hl
  simp only [List.map_nil, List.nil_append, List.append_nil, List.forIn_nil, pure_bind, hs, he, List.drop_nil, List.length_nil, Nat.sub_zero, List.take_length, hmiss, List.isEmpty_nil, Bool.not_true, Bool.false_eq_true, if_false, List.zip_nil_right, hgt, decide_false, Bool.false_and, Nat.zero_sub, hz]
end Mine
end
section
open PySem PyProof.Rows
set_option maxRecDepth 100000
namespace Mine
variable [Ops]

noncomputable def PR (θ : Th) : List (Str × V) → List (Str × Value) → Prop
  | [], [] => True
  | p :: ps, q :: qs => p.1 = q.1 ∧ VR θ p.2 q.2 ∧ PR θ ps qs
  | _, _ => False
omit [Ops] in
theorem PR.mono {θ θ' : Th} (x : Ext θ θ') : ∀ {vs : List (Str × V)} {as : List (Str × Value)}, PR θ vs as → PR θ' vs as
  | [], [], _ => trivial
  | _ :: _, _ :: _, h => ⟨h.1, h.2.1.mono x, PR.mono x h.2.2⟩
omit [Ops] in
theorem PR.zip {θ : Th} : ∀ {ps : List Str} {vs : List V} {as : List Value}, AR θ vs as → PR θ (ps.zip vs) (ps.zip as)
  | [], _, _, _ => by simp [PR]
  | _ :: _, [], [], _ => trivial
  | _ :: _, _ :: _, _ :: _, h => ⟨rfl, h.1, PR.zip h.2⟩

section
variable {C : Cx} {G : Env0} {A : Around} {θ : Th} {H H' : Hp} {ρ : Rho} {env : Env} {α β γ : Type} {ih : Ih} {n : Nat}

noncomputable def BaR (C : Cx) (A : Around) (ρ : Rho) (H : Hp) (ps : List (Str × V)) (H' : Hp) : Prop := ∀ {env θ} {qs : List (Str × Value)} {f : Str × Value → PUnit → Sem (ForInStep PUnit)}, (∀ x v u, f (x, v) u = (storeName env x v >>= fun _ => Pure.pure (ForInStep.yield PUnit.unit))) →
  EnvR C θ ρ env → PR θ ps qs → TriU C A θ H (forIn qs PUnit.unit f) H'
theorem BaR.nil : BaR C A ρ H [] H := fun {env θ qs f} hf R r => by
  cases qs with
  | nil => rw [List.forIn_nil]; exact Tri.pure rfl
  | cons => exact r.elim
theorem BaR.cons {x : Str} {v : V} {ps : List (Str × V)} {H1 : Hp} (h1 : stName ρ H x v = some H1) (q : BaR C A ρ H1 ps H') : BaR C A ρ H ((x, v) :: ps) H' := fun {env θ qs f} hf R r => by
  cases qs with
  | nil => exact r.elim
  | cons p qs =>
    obtain ⟨y, a⟩ := p
    obtain ⟨e, r1, r2⟩ := r
    have e' : x = y := e
    subst e'
    rw [List.forIn_cons, hf]
    simp only [bind_assoc, pure_bind]
    exact Tri.unit ((stName_yes R r1).get h1) fun θ1 x1 => q hf (R.mono x1) (r2.mono x1)
theorem bindAll_yes : ∀ (ps : List (Str × V)) {H : Hp}, Yes (BaR C A ρ H ps) (bindAll ρ ps H)
  | [], H => by intro hf R r; exact BaR.nil hf R r
  | (x, v) :: ps, H => Yes.h fun H1 h1 => (bindAll_yes ps).mono fun H2 q => by intro env θ qs f hf R r; exact BaR.cons h1 q hf R r
structure PlS (s : Scope) : Prop where
  k : s.kind = .function
  g : s.isGenerator = false
  c : s.isCoroutine = false
omit [Ops] in
theorem plainScope_of {s : Scope} (h : plainScope s = true) : PlS s := by
  unfold plainScope at h
  cases h1 : isFun s.kind with
  | false => rw [h1] at h; exact Bool.noConfusion h
  | true =>
    rw [h1] at h
    cases h2 : s.isGenerator with
    | true => rw [h2] at h; exact Bool.noConfusion h
    | false =>
      rw [h2] at h
      cases h3 : s.isCoroutine with
      | true => rw [h3] at h; exact Bool.noConfusion h
      | false => exact ⟨isFun_of h1, h2, h3⟩
structure EnR (tab : Option Nat) (scope : Scope) (cs : List (Str × Nat)) (ps : List Str) (vs : List V) (H : Hp) (ρ : Rho) (H1 : Hp) : Prop where
  len : ps.length = vs.length
  pl : PlS scope
  rho : ρ = ⟨scope, (Ops.len H), (layCells scope.names cs (Ops.app H [.ns []])).1, tab⟩
  bind : bindAll ρ (ps.zip vs) (layCells scope.names cs (Ops.app H [.ns []])).2 = some H1
theorem enter_yes {tab : Option Nat} {scope : Scope} {cs : List (Str × Nat)} {ps : List Str} {vs : List V} : Yes (fun q => EnR tab scope cs ps vs H q.1 q.2) (enter tab scope cs ps vs H) :=
  Yes.t fun h1 => Yes.t fun h2 => Yes.h fun H1 h3 => Yes.ok ⟨Nat.eq_of_beq_eq_true h1, plainScope_of h2, rfl, h3⟩

omit [Ops] in
theorem ns_newF (θ : Th) (h : Heap) : OR C θ h (.ns []) { cls := .type "frame", data := .dict #[] } := ⟨#[], 0, rfl, fun e he => by simp at he, fun _ _ h => by cases h⟩
/- the frame of a call -/
theorem newEnvB_tri {tab : Option Nat} {ps : List Str} {body : List Stmt} {scope : Scope} {cs : List (Str × Nat)} {fd : FuncData} {vs : List V} {as : List Value} {H1 : Hp} {a : Addr} {hp : Heap} (F : FnR C θ hp tab ps body scope cs fd) (r : AR θ vs as) (k2 : scope.kind = .function) (k5 : ρ = ⟨scope, (Ops.len H), (layCells scope.names cs (Ops.app H [.ns []])).1, tab⟩)
    (k6 : bindAll ρ (ps.zip vs) (layCells scope.names cs (Ops.app H [.ns []])).2 = some H1) :
    Tri C A θ H (newFunctionEnv fd.scope fd.globals fd.closure (ps.zip as) (fd.qualname ++ ".<locals>.") (some a) fd.code none fd.builtins) fun env θ' H' => H' = H1 ∧ EnvR C θ' ρ env := by
  unfold newFunctionEnv
  simp only [Option.isSome_none, Bool.false_eq_true, if_false]
  refine Tri.bind (alloc_tri (o := .ns []) rfl ns_newF) fun l θ1 H2 x1 h1 => ?_
  obtain ⟨rfl, e⟩ := h1
  rw [F.scope]
  refine Tri.bind (layCells_tri _ (fun name kind cells => by cases hkc : kind == NameKind.cell <;> simp [hkc]) scope.names (F.clo.mono x1)) fun ds' θ2 H2 x2 h2 => ?_
  have R2 : EnvR C θ2 ρ { scope := scope, locals := l, globals := fd.globals, cells := ds', qual := fd.qualname ++ ".<locals>.", func := some a, code := fd.code, frame := some l, builtins := fd.builtins } := by
    subst k5
    exact ⟨rfl, k2, x2.1 _ _ e, h2.2, F.globals, F.builtins, fun k hk => F.tab k hk⟩
  exact Tri.unit (h2.1 ▸ (bindAll_yes _).get k6 (fun x v u => rfl) R2 (PR.zip (r.mono (x1.trans x2)))) fun θ3 x3 => Tri.pure ⟨rfl, R2.mono x3⟩
noncomputable def retOf : Flow → Value
  | .ret v => v
  | _ => .none
noncomputable def ResR : Fl → V → Prop
  | .ret w, v => v = w
  | .next, v => v = .none
  | _, _ => False
theorem result_yes {P : Fl → Hp → Prop} {o : Option (Fl × Hp)} (p : YesH P o) : YesH (fun v H' => ∃ f, P f H' ∧ ResR f v) (result o) := Yes.fh p fun f H h => by
  cases f with
  | ret v => exact ⟨_, h, rfl⟩
  | next => exact ⟨_, h, rfl⟩
  | _ => exact trivial
omit [Ops] in
theorem ResR.vr {f : Fl} {v : V} {fl : Flow} (h : ResR f v) (r : FlR θ f fl) : VR θ v (retOf fl) := by
  cases f with
  | next => rw [show fl = .next from r, show v = .none from h]; exact rfl
  | brk => exact h.elim
  | cont => exact h.elim
  | ret w =>
    obtain ⟨a, rfl, ra⟩ := r
    exact (show v = w from h) ▸ ra
/- a call of a function object -/
noncomputable def CallR (C : Cx) (A : Around) (tab : Option Nat) (scope : Scope) (cs : List (Str × Nat)) (ps : List Str) (body : List Stmt) (vs : List V) (H : Hp) (v : V) (H' : Hp) : Prop := ∀ {θ as a o fd s}, St C θ H s → s.heap.get? a = some o → o.data = .func fd → FnR C θ s.heap tab ps body scope cs fd → AR θ vs as →
  wpAny (model C.prog C.w) A (call (.ref a) as) (fun r s' => Nx C θ s s' fun θ' H'' => H'' = H' ∧ VR θ' v r) (fun _ _ => False) s
omit [Ops] in
theorem Room.deep (hA : Room A (n + 1)) (env : Env) : Room (A.deeper env) n := ⟨hA.hh, by have := hA.depth; show A.depth + 1 + n < 900; omega, by have := hA.units; show A.units + 3 + 3 * n < 9000; omega⟩
omit [Ops] in
theorem Room.lim (hA : Room A (n + 1)) : A.depth < recursionLimit := by have := hA.depth; unfold recursionLimit; omega
theorem call_at (I : IhS C ih n) (T : Top C G) (hA : Room A (n + 1)) {tab : Option Nat} {ps : List Str} {body : List Stmt} {scope : Scope} {cs : List (Str × Nat)} {vs : List V} {H1 : Hp} {v : V} (e : EnR tab scope cs ps vs H ρ H1) (hr : result (ih.s body ρ H1) = some (v, H')) : CallR C A tab scope cs ps body vs H v H' := fun {θ as a o fd s} S ho hd F r => by
  obtain ⟨c, oc, vs', t, e1, e2, e3, e4, e5, e6⟩ := F.code
  refine wpAny_call ?_
  refine codeAny_call_function hA.lim ho hd (by rw [F.scope]; exact e.pl.c) (by rw [F.scope]; exact e.pl.g) F.body ⟨c, oc, vs', t, e1, e4, e5, e6⟩ ?_
  refine wpAny_of_eq (bindArgs_plain F.params F.dflt (by rw [e.len]; exact r.length)) ?_
  refine wpAny_mono (newEnvB_tri (A := A.in1) F r e.pl.k e.rho e.bind s S) (fun env s1 hb => hb.elim fun θ1 Hx g1 S1 ⟨e, R1⟩ => ?_) fun _ _ x => x.elim
  subst e
  refine ⟨T.limit S1, codeAny_func ?_⟩
  obtain ⟨f, p, q⟩ := (result_yes (I.s (hA.deep env) body)).get hr
  refine wpAny_mono (p R1 s1 S1) (fun fl s2 hb => hb.elim fun θ2 Hy g2 S2 ⟨e, rf⟩ => ?_) fun _ _ x => x.elim
  have := q.vr rf
  cases fl <;> exact .mk' (g1.trans g2) S2 ⟨e, this⟩
theorem Yes.rh {Q : γ → Prop} {o : Option (Rho × Hp)} {P : Rho → Hp → Prop} {K : Rho → Hp → Option γ} (p : Yes (fun q => P q.1 q.2) o) (h : ∀ a b, P a b → Yes Q (K a b)) : Yes Q (match (generalizing := false) o with | some (a, b) => K a b | .none => .none) := by
  cases o with
  | none => exact trivial
  | some q => exact h _ _ p
theorem callRun_yes (I : IhS C ih n) (T : Top C G) (hA : Room A (n + 1)) {tab : Option Nat} {ps : List Str} {body : List Stmt} {scope : Scope} {cs : List (Str × Nat)} {vs : List V} : YesH (CallR C A tab scope cs ps body vs H) (callRun ih tab scope cs ps body vs H) :=
  Yes.rh enter_yes fun ρ H1 e => Yes.of fun q hr => by intro θ as a o fd s S ho hd F r; exact call_at I T hA e hr S ho hd F r
end
end Mine
end
section
open PySem PyProof.Rows
set_option maxRecDepth 100000
namespace Mine
variable [Ops]

/- what a call of a function object gives -/
noncomputable abbrev GivV (C : Cx) (θ : Th) (s : Shared) (v : V) (H' : Hp) (r : Value) (s' : Shared) : Prop := Nx C θ s s' fun θ' H'' => H'' = H' ∧ VR θ' v r
/- the contracts hold -/
structure ConS (C : Cx) (G : Env0) : Prop where
  is : ∀ f vs d, G.con f vs = some d → ∃ F, G.fn f = some F
  con : ∀ {f vs d a A θ H H' s as v}, G.con f vs = some d → noRefs vs = true → Room A C.lev → St C θ H s → AR θ vs as → C.mg f = some (.ref a) → realize d H = some (v, H') →
    wpAny (model C.prog C.w) A (call (.ref a) as) (GivV C θ s v H') (fun _ _ => False) s
omit [Ops] in
theorem Room.down {A : Around} {n : Nat} (h : Room A n) : ∀ {m : Nat}, m ≤ n → Room A m := fun {m} hm => ⟨h.hh, Nat.lt_of_le_of_lt (Nat.add_le_add_left hm _) h.depth, Nat.lt_of_le_of_lt (Nat.add_le_add_left (Nat.mul_le_mul_left 3 hm) _) h.units⟩
section
variable {C : Cx} {G : Env0} {A : Around} {θ : Th} {H H' : Hp} {ρ : Rho} {env : Env} {α β γ : Type} {ih : Ih} {n : Nat}

omit [Ops] in
theorem callWith_fn {M : Model} {E : Value → Shared → Prop} {s : Shared} {pos : Pos} {a : Addr} {args : List (Bool × Sem Value)} {Q : Value → Shared → Prop}
    (h : wpAny M A (evalArgs (.ref a) true args []) (fun x s₁ => (∃ o fd, s₁.heap.get? a = some o ∧ o.data = .func fd) ∧ wpAny M A (call (.ref a) x.pos x.kw) Q E s₁) E s) :
    wpAny M A (callWith pos (.ref a) [] args []) Q E s := by
  unfold callWith
  refine wpAny_bind (wpAny_holding (wpAny_mono h (fun x s₁ h₁ => wpAny_bind (wpAny_standAt ?_)) fun _ _ x => x))
  obtain ⟨⟨o, fd, ho, hd⟩, hc⟩ := h₁
  have tail : ∀ {t : Sem Value}, wpAny M A t Q E s₁ → wpAny M A (t >>= fun r => holding [r] point >>= fun _ => pure r) Q E s₁ :=
    fun ht => wpAny_bind (wpAny_mono ht (fun r s₂ hr => wpAny_bind (wpAny_holding (wpAny_point (wpAny_pure hr)))) fun _ _ x => x)
  have kp : ∀ {β : Type} {k : Keeper → Sem β} {Q : β → Shared → Prop}, wpAny M A (k .frame) Q E s₁ → wpAny M A (keeperOf (.ref a) >>= k) Q E s₁ := fun hk => by
    unfold keeperOf
    simp only [bind_assoc]
    refine wpAny_bind (wpAny_load ho ?_)
    rw [hd]
    simp only [pure_bind]
    exact hk
  refine kp ?_
  cases hs : (args.any (·.1) || ([] : List (Option Str × Sem Value)).any (·.1.isNone))
  · simp only
    split
    · exact tail hc
    · exact tail (by unfold callMarked; exact Calls.wpAny_keep hc)
  · exact tail (by unfold callMarked; exact Calls.wpAny_keep hc)

/- a function object at an address -/
structure FnAt (C : Cx) (A : Around) (a : Addr) (vs : List V) (H : Hp) (v : V) (H' : Hp) (θ : Th) (s : Shared) : Prop where
  ob : ∃ o fd, s.heap.get? a = some o ∧ o.data = .func fd
  go : ∀ {as}, AR θ vs as → wpAny (model C.prog C.w) A (call (.ref a) as) (GivV C θ s v H') (fun _ _ => False) s
/- a call by a name, of a function object -/
theorem callName_at {f : Str} {p pos : Pos} {args : List Expr} {vs : List V} {H1 : Hp} {v : V} {s : Shared} {P : Addr → Th → Prop} (q : EvA C A ρ env H args vs H1) (R : EnvR C θ ρ env) (S : St C θ H s)
    (hn : Tri C A θ H (eval (.Name f p) env) fun x θ' H' => H' = H ∧ ∃ a, x = .ref a ∧ P a θ') (hP : ∀ {a θ θ'}, Ext θ θ' → P a θ → P a θ')
    (hQ : ∀ {a θ1 s1}, P a θ1 → St C θ1 H1 s1 → FnAt C A a vs H1 v H' θ1 s1) :
    wpAny (model C.prog C.w) A (eval (.Call (.Name f p) args [] pos) env) (GivV C θ s v H') (fun _ _ => False) s := by
  rw [arm_eval_Call_Name']
  refine wpAny_bind (wpAny_mono (hn s S) (fun x s0 hs => ?_) fun _ _ x => x)
  refine hs.elim fun θ0 H0 G0 S0 ⟨e, a, e2, pa⟩ => ?_
  subst e; subst e2
  refine callWith_fn (evalArgs_any (q pos).plain (wpAny_mono ((q pos).tri (R.mono G0.ext) s0 S0) (fun as s1 hs => hs.elim fun θ1 H2 g S1 ⟨e1, r1⟩ => ?_) fun _ _ h => h))
  subst e1
  have k := hQ (hP g.ext pa) S1
  exact ⟨k.ob, wpAny_mono (k.go r1) (fun r s' hb => hb.elim fun θ' H2 g' S' r' => .mk' (G0.trans (g.trans g')) S' r') fun _ _ x => x⟩
/- a function of the text -/
structure TxF (C : Cx) (F : Fn) (a : Addr) : Prop where
  at_ : ∀ {θ : Th} {H : Hp} {s : Shared}, St C θ H s → ∃ o fd, s.heap.get? a = some o ∧ o.data = .func fd ∧ FnR C θ s.heap F.tab F.params F.body F.scope [] fd
theorem Top.fn_at (T : Top C G) {f : Str} {F : Fn} (hF : G.fn f = some F) : ∃ a, C.mg f = some (.ref a) ∧ TxF C F a := by
  obtain ⟨a, o, fd, e1, e2, e3, e4, e5⟩ := T.fn f F hF
  refine ⟨a, e1, ⟨fun {θ H s} S => ⟨o, fd, S.top a o e3 e2, e4, ?_⟩⟩⟩
  obtain ⟨c, oc, vs, t, q1, q2, q3, q4, q5, q6⟩ := e5.code
  have hclo : fd.closure = [] := by
    have := e5.clo
    cases hc : fd.closure with
    | nil => rfl
    | cons x y => rw [hc] at this; exact this.elim
  exact ⟨e5.tab, e5.body, e5.scope, e5.params, e5.globals, e5.builtins, e5.dflt, e5.kwd, by rw [hclo]; trivial, c, oc, vs, t, q1, fun hm => Nat.not_lt.mpr (S.low c hm) (Heap.lt_size q4), q3, S.top c oc q4 q3, q5, q6⟩
/- a function of the text is called -/
noncomputable def CfR (C : Cx) (A : Around) (f : Str) (vs : List V) (H : Hp) (v : V) (H' : Hp) : Prop := ∃ a, C.mg f = some (.ref a) ∧ ∀ {θ s}, St C θ H s → FnAt C A a vs H v H' θ s
omit [Ops] in
theorem Yes.biO {Q : γ → Prop} {o : Option Bi} {P : Bi → Prop} {K : Bi → Option γ} {K' : Option γ} (p : Yes P o) (h : ∀ a, P a → Yes Q (K a)) (h' : Yes Q K') : Yes Q (match (generalizing := false) o with | some a => K a | .none => K') := by
  cases o with
  | none => exact h'
  | some q => exact h _ p
omit [Ops] in
theorem Yes.kind3 {Q : γ → Prop} {o : Option NameKind} {P : NameKind → Prop} {a b : Option γ} (p : Yes P o) (h1 : P .globalImplicit → Yes Q a) (h2 : Yes Q b) :
    Yes Q (match (generalizing := false) o with | some .globalImplicit => a | some .cell => b | some .free => b | _ => .none) := by
  cases o with
  | none => exact trivial
  | some k => cases k <;> first | exact h1 p | exact h2 | exact trivial
theorem conOf_yes {f : Str} {vs : List V} : Yes (fun d => ih.c = true ∧ noRefs vs = true ∧ G.con f vs = some d) (conOf ih G f vs) :=
  Yes.t fun hc => Yes.t fun h => Yes.of fun d h2 => ⟨hc, h, h2⟩
theorem con_at (I : IhS C ih n) (T : Top C G) (K : ConS C G) (hA : Room A n) {f : Str} {vs : List V} {d : D} {v : V} (hc : ih.c = true) (h1 : noRefs vs = true) (h2 : G.con f vs = some d) (h : realize d H = some (v, H')) : CfR C A f vs H v H' := by
  obtain ⟨F, hF⟩ := K.is f vs d h2
  obtain ⟨a, ha, tx⟩ := T.fn_at hF
  exact ⟨a, ha, fun {θ s} S => ⟨let ⟨o, fd, e1, e2, _⟩ := tx.at_ S; ⟨o, fd, e1, e2⟩, fun {as} r => K.con h2 h1 (hA.down (I.c hc)) S r ha h⟩⟩
theorem run_tx (T : Top C G) {f : Str} {F : Fn} {vs : List V} {v : V} (hF : G.fn f = some F) (q : CallR C A F.tab F.scope [] F.params F.body vs H v H') : CfR C A f vs H v H' := by
  obtain ⟨a, ha, tx⟩ := T.fn_at hF
  refine ⟨a, ha, fun {θ s} S => ?_⟩
  obtain ⟨o, fd, e1, e2, e3⟩ := tx.at_ S
  exact ⟨⟨o, fd, e1, e2⟩, fun {as} r => q S e1 e2 e3 r⟩
omit [Ops] in
theorem Yes.dO {Q : γ → Prop} {o : Option D} {P : D → Prop} {K : D → Option γ} {K' : Option γ} (p : Yes P o) (h : ∀ a, P a → Yes Q (K a)) (h' : Yes Q K') : Yes Q (match (generalizing := false) o with | some a => K a | .none => K') := by
  cases o with
  | none => exact h'
  | some q => exact h _ p
omit [Ops] in
theorem Yes.fnn' {Q : γ → Prop} {o : Option Fn} {P : Fn → Prop} {K : Fn → Option γ} (p : Yes P o) (h : ∀ a, P a → Yes Q (K a)) : Yes Q (match (generalizing := false) o with | some a => K a | .none => .none) := by
  cases o with
  | none => exact trivial
  | some q => exact h _ p
theorem callFn_yes (I : IhS C ih n) (T : Top C G) (K : ConS C G) (hA : Room A (n + 1)) {f : Str} {vs : List V} : YesH (CfR C A f vs H) (callFn ih G f vs H) :=
  Yes.dO conOf_yes (fun d ⟨hc, h1, h2⟩ => Yes.of fun q h => con_at I T K hA.le hc h1 h2 h) (Yes.fnn' Yes.self fun F hF => (callRun_yes I T hA).mono fun q h => run_tx T hF h)
/- a function of the text by its name -/
theorem callFn_at (T : Top C G) {f : Str} {p pos : Pos} {args : List Expr} {vs : List V} {H1 : Hp} {v : V} (hk : kind ρ f = some .globalImplicit) (q : EvA C A ρ env H args vs H1) (h : CfR C A f vs H1 v H') : AtE C A ρ env H (.Call (.Name f p) args [] pos) v H' := fun {θ} R s S => by
  obtain ⟨a, ha, h⟩ := h
  have kn := (kind_yes R).get hk
  refine callName_at (P := fun a' _ => a' = a) q R S (fun s S => Calls.Name_function_global R.fn kn.of (Calls.loadGlobal_global (env := env) (by rw [R.globals]; exact Top.ns S T.gns T.low.1) ha (fin_same S ⟨rfl, a, rfl, rfl⟩)) kn.d) (fun _ e => e) fun e S1 => ?_
  subst e
  exact h S1
/- a function of a heap's object -/
noncomputable def CloC (C : Cx) (A : Around) (l : Nat) (vs : List V) (H : Hp) (v : V) (H' : Hp) : Prop := ∀ {θ s a}, θ[l]? = some a → St C θ H s → FnAt C A a vs H v H' θ s
omit [Ops] in
theorem Yes.fnO {Q : γ → Prop} {o : Option O} {K : List Str → List Stmt → Scope → List (Str × Nat) → Option γ} (h : ∀ a b c d, o = some (.fn a b c d) → Yes Q (K a b c d)) : Yes Q (match (generalizing := false) o with | some (.fn a b c d) => K a b c d | _ => .none) := by
  cases o with
  | none => exact trivial
  | some q => cases q with
    | fn a b c d => exact h a b c d rfl
    | _ => exact trivial
theorem clo_at {l : Nat} {ps : List Str} {body : List Stmt} {scope : Scope} {cs : List (Str × Nat)} {vs : List V} {v : V} (hl : Ops.get H l = some (.fn ps body scope cs)) (q : CallR C A .none scope cs ps body vs H v H') : CloC C A l vs H v H' := fun {θ s a} ha S => by
  obtain ⟨o, h2, fd, h3, h4⟩ := S.at' hl ha rfl
  exact ⟨⟨o, fd, h2, h3⟩, fun {as} r => q S h2 h3 h4 r⟩
theorem callClo_yes (I : IhS C ih n) (T : Top C G) (hA : Room A (n + 1)) {fv : V} {vs : List V} : YesH (fun v H' => ∃ l, fv = .ref l ∧ CloC C A l vs H v H') (callClo ih fv vs H) :=
  Yes.n' (vRef_yes fv) fun l e => Yes.fnO fun ps body scope cs hl => (callRun_yes I T hA).mono fun q h => ⟨l, e, clo_at hl h⟩
theorem callClo_at (T : Top C G) {f : Str} {p pos : Pos} {args : List Expr} {vs : List V} {H1 : Hp} {v : V} {l : Nat} (hf : ldName G ρ H f = some (.ref l)) (q : EvA C A ρ env H args vs H1) (h : CloC C A l vs H1 v H') : AtE C A ρ env H (.Call (.Name f p) args [] pos) v H' := fun {θ} R s S =>
  callName_at (P := fun a θ => θ[l]? = some a) q R S (Tri.mono ((name_yes T R).get hf) fun a θ' H'' x h => ⟨h.1, let ⟨y, e, e2⟩ := h.2; ⟨y, e2, e⟩⟩) (fun x e => x.1 _ _ e) fun ha S1 => h ha S1
/- the names' calls -/
section
variable {f : Str} {p pos : Pos} {args : List Expr}
noncomputable abbrev AtN (C : Cx) (A : Around) (ρ : Rho) (env : Env) (H : Hp) (f : Str) (p : Pos) (args : List Expr) (pos : Pos) (v : V) (H' : Hp) : Prop := AtE C A ρ env H (.Call (.Name f p) args [] pos) v H'
theorem callG_yes (I : IhS C ih n) (T : Top C G) (K : ConS C G) (hA : Room A (n + 1)) (hk : kind ρ f = some .globalImplicit) : YesH (AtN C A ρ env H f p args pos) (callG ih G ρ H f args) :=
  Yes.vsh (evA_yes I hA.le args) fun vs H1 q => Yes.biO Yes.self (fun b hb => Yes.of fun r h => by
    intro θ R
    exact bi_at T ⟨f, p, pos, rfl, hk, hb⟩ q R fun as θ1 x1 r1 => (biV_yes hA.hh hA.cmp r1.norm b).get h) ((callFn_yes I T K hA).mono fun r h => callFn_at T hk q h)
theorem callF_yes (I : IhS C ih n) (T : Top C G) (hA : Room A (n + 1)) : YesH (AtN C A ρ env H f p args pos) (callF ih G ρ H f args) :=
  Yes.v fun fv hf => Yes.vsh (evA_yes I hA.le args) fun vs H1 q => (callClo_yes I T hA).mono fun r ⟨l, e, h⟩ => callClo_at T (e ▸ hf) q h
theorem callN_yes (I : IhS C ih n) (T : Top C G) (K : ConS C G) (hA : Room A (n + 1)) : YesH (AtN C A ρ env H f p args pos) (stepE_CallN ih G ρ H f args) :=
  Yes.kind3 Yes.self (fun hk => callG_yes I T K hA hk) (callF_yes I T hA)
end
end
end Mine
end
section
open PySem PyProof.Rows
set_option maxRecDepth 100000
namespace Mine
variable [Ops]

omit [Ops] in
theorem among_snoc {pos : Pos} {a b : Int} {c v : Value} (l : List Value) (h : TriplesOk l) (hv : codeAmong pos (l ++ [rawInt a, rawInt b, c]) = some v) : codeAmong pos l = some v ∨ v = c := by
  fun_induction TriplesOk l with
  | case1 =>
    simp only [List.nil_append, codeAmong, rawInt] at hv
    split at hv
    · cases hv; exact .inr rfl
    · cases hv
  | case2 a' t b' u x rest ih =>
    simp only [List.cons_append, codeAmong] at hv ⊢
    split at hv
    · rename_i hc; rw [if_pos hc]; exact .inl hv
    · rename_i hc; rw [if_neg hc]; exact ih h hv
  | case3 l h1 h2 => exact h.elim

/- a code object's parts -/
structure CdP (h : Heap) (P : Addr) (ps : Array Value) : Prop where
  tab : ∃ op, h.get? P = some op ∧ op.data = .fields ps
  tri : TriplesOk ps.toList
omit [Ops] in
theorem isCode_parts {h : Heap} {c P : Addr} {ps : Array Value} (x : h.IsCode c P ps) : CdP h P ps :=
  let ⟨o, vs, file, tf, flags, tg, inF, text, tt, op, r⟩ := x
  ⟨⟨op, r.2.2.2.2.2.2.2.1, r.2.2.2.2.2.2.2.2.1⟩, r.2.2.2.2.2.2.2.2.2.1⟩
omit [Ops] in
theorem tabOf_at {h : Heap} {P : Addr} {ps : Array Value} (x : ∃ op, h.get? P = some op ∧ op.data = .fields ps) : tabOf h P = ps.toList := by
  obtain ⟨op, e1, e2⟩ := x
  unfold tabOf
  rw [e1]
  show (match op.data with | .fields vs => vs.toList | _ => []) = _
  rw [e2]

section
variable {C : Cx} {G : Env0} {A : Around} {θ : Th} {H H' : Hp} {ρ : Rho} {env : Env} {α β : Type} {ih : Ih} {n : Nat}

noncomputable abbrev psN (ps : Array Value) (pos : Pos) (c' : Addr) : Array Value := ps ++ #[rawInt pos.line, rawInt pos.col, .ref c']
/- a code object is made, and laid in the table -/
structure FnNew (s : Shared) (P c : Addr) (ps : Array Value) (pos : Pos) (q : Str) (c' : Addr) (h' : Heap) : Prop where
  ext : Heap.ExtBut P s.heap h'
  ge : s.heap.objs.size ≤ c'
  ok : h'.IsCode c P (psN ps pos c')
  cr : h'.CodeRec (.ref c') q
  tb : s.heap.get? P = some { cls := .none, data := .fields ps } → h'.get? P = some { cls := .none, data := .fields (psN ps pos c') }
/- the table at k -/
structure KT (C : Cx) (θ : Th) (s : Shared) (env : Env) (k : Nat) (P c : Addr) (ps : Array Value) : Prop where
  hP : C.tabs[k]? = some P
  hc : C.codes[k]? = some c
  code : env.code = .ref c
  qual : C.quals[k]? = some (env.qual ++ C.nest)
  ok : s.heap.IsCode c P ps
  cθ : c ∉ θ
  pθ : P ∉ θ
  am : ∀ pos v, codeAmong pos ps.toList = some v → ∃ c' o vs t, v = .ref c' ∧ c' ∉ θ ∧ c' ∉ C.tabs ∧ s.heap.get? c' = some o ∧ o.data = .fields vs ∧ vs[1]? = some (.str (env.qual ++ C.nest) t)
theorem EnvR.kt (T : Top C G) (R : EnvR C θ ρ env) {k : Nat} (hk : ρ.tab = some k) {s : Shared} (S : St C θ H s) : C.frozen = false ∧ ∃ P c ps, KT C θ s env k P c ps := by
  obtain ⟨hfz, c, hc, hcode, hqual⟩ := R.tab k hk
  have hkl : k < C.tabs.length := T.cl ▸ (List.getElem?_eq_some_iff.mp hc).1
  have hP := List.getElem?_eq_getElem hkl
  obtain ⟨c1, q1, ps, e1, e2, e3, e4, e5, e6⟩ := S.tab k _ hP
  rw [hc] at e1; injection e1 with e1; subst e1
  rw [hqual] at e2; injection e2 with e2; subst e2
  exact ⟨hfz, _, _, ps, hP, hc, hcode, hqual, e3, e4, e5, e6⟩
section
variable {k : Nat} {P c : Addr} {ps : Array Value} {s : Shared} {pos : Pos} {c' : Addr} {h' : Heap} {q : Str}
omit [Ops] in
theorem KT.mem (K : KT C θ s env k P c ps) : P ∈ C.tabs := List.mem_of_getElem? K.hP
theorem fnNew_wp (T : Top C G) (S : St C θ H s) (K : KT C θ s env k P c ps) {fl : Nat} {name : Str} {p : Arguments} {scope : Scope} {body : FuncBody} (ham : codeAmong pos ps.toList = none) {Q : Value → Shared → Prop} {E : Value → Shared → Prop} (hQ : ∀ c' h' tk, FnNew s P c ps pos q c' h' → Q (.ref c') { s with heap := h', toks := tk }) :
    wpAny (model C.prog C.w) A (functionCode env pos fl name q p scope body) Q E s := by
  by_cases hT : s.heap.get? P = some { cls := .none, data := .fields ps }
  · obtain ⟨oc, vc, f1, f2, f3, f4⟩ := T.code k c P K.hc K.hP
    have htab : s.heap.TableAt c P ps := ⟨⟨oc, vc, S.top c oc f1 (T.cnt c (List.mem_of_getElem? K.hc)), f2, f3, f4⟩, hT⟩
    exact wpAny_functionCodeX K.code K.ok htab ham fun c' h' tk h1 h2 h3 h4 h5 h6 _ => hQ c' h' tk ⟨h1, h2, h4, h5, fun _ => h6.2⟩
  · exact wpAny_functionCode K.code K.ok ham fun c' h' tk h1 h2 h3 h4 h5 => hQ c' h' tk ⟨h1, h2, h4, h5, fun h => (hT h).elim⟩
theorem FnNew.out (N : FnNew s P c ps pos q c' h') (T : Top C G) (S : St C θ H s) : c' ∉ θ ∧ c' ∉ C.tabs := ⟨fun q => Nat.not_lt.mpr N.ge (S.lt _ q), fun q => Nat.not_lt.mpr (Nat.le_trans S.big N.ge) (T.tabs _ q)⟩
theorem FnNew.keep (N : FnNew s P c ps pos q c' h') (K : KT C θ s env k P c ps) : ∀ a o, s.heap.get? a = some o → a ∉ C.tabs → h'.get? a = some o := fun a o e n => N.ext a o (fun q => n (q ▸ K.mem)) e
omit [Ops] in
theorem psN_list : (psN ps pos c').toList = ps.toList ++ [rawInt pos.line, rawInt pos.col, .ref c'] := Array.toList_append ..
theorem FnNew.tabOk (N : FnNew s P c ps pos (env.qual ++ C.nest) c' h') (T : Top C G) (S : St C θ H s) (K : KT C θ s env k P c ps) : TabOk C θ h' := fun k2 P2 hP2 => by
  by_cases hkk : k2 = k
  · subst hkk
    rw [K.hP] at hP2; injection hP2 with hP2; subst hP2
    refine ⟨c, _, _, K.hc, K.qual, N.ok, K.cθ, K.pθ, fun pos' v hv => ?_⟩
    rw [psN_list] at hv
    rcases among_snoc _ (isCode_parts K.ok).tri hv with hv | rfl
    · obtain ⟨c3, o3, vs3, t3, g1, g2, g3, g4, g5⟩ := K.am pos' v hv
      exact ⟨c3, o3, vs3, t3, g1, g2, g3, N.keep K _ _ g4 g3, g5⟩
    · obtain ⟨cr, orc, vsr, tr, r1, r2⟩ := N.cr
      injection r1 with r1; subst r1
      exact ⟨c', orc, vsr, tr, rfl, (N.out T S).1, (N.out T S).2, r2⟩
  · have hne : P2 ≠ P := fun q => hkk ((List.getElem?_inj (List.getElem?_eq_some_iff.mp hP2).1 T.tnd).mp (hP2.trans (q ▸ K.hP.symm)))
    obtain ⟨c2, q2, ps2, f1, f2, f3, f4, f5, f6⟩ := S.tab k2 P2 hP2
    refine ⟨c2, q2, ps2, f1, f2, f3.extBut N.ext (fun q => T.cnt c2 (List.mem_of_getElem? f1) (q ▸ K.mem)) hne, f4, f5, fun pos' v hv => ?_⟩
    obtain ⟨c3, o3, vs3, t3, g1, g2, g3, g4, g5⟩ := f6 pos' v hv
    exact ⟨c3, o3, vs3, t3, g1, g2, g3, N.keep K _ _ g4 g3, g5⟩
theorem FnNew.tnew (N : FnNew s P c ps pos q c' h') (S : St C θ H s) (K : KT C θ s env k P c ps) {tk : Nat} : TNew C s { s with heap := h', toks := tk } := ⟨fun P2 hP2 pos' v hv => by
  by_cases q : P2 = P
  · subst q
    have hv : codeAmong pos' (tabOf h' P2) = some v := hv
    rw [tabOf_at (isCode_parts N.ok).tab, psN_list] at hv
    rw [tabOf_at (isCode_parts K.ok).tab]
    exact (among_snoc _ (isCode_parts K.ok).tri hv).imp id fun e c5 e2 => by injection e.symm.trans e2 with e3; exact e3 ▸ N.ge
  · obtain ⟨k2, hk2, e⟩ := List.mem_iff_getElem.mp hP2
    obtain ⟨c2, q2, ps2, f1, f2, f3, f4⟩ := S.tab k2 P2 (by rw [List.getElem?_eq_getElem hk2, e])
    obtain ⟨op, e1, e2⟩ := (isCode_parts f3).tab
    have hv : codeAmong pos' (tabOf h' P2) = some v := hv
    rw [tabOf_at ⟨op, N.ext _ _ q e1, e2⟩] at hv
    exact .inl (by rw [tabOf_at ⟨op, e1, e2⟩]; exact hv), fun P2 hP2 ps2 he2 => by
  by_cases q : P2 = P
  · subst q
    obtain ⟨op, e1, e2⟩ := (isCode_parts K.ok).tab
    rw [he2] at e1; injection e1 with e1; subst e1
    injection e2 with e2; subst e2
    exact ⟨_, N.tb he2⟩
  · exact ⟨#[], by rw [Array.append_empty]; exact N.ext _ _ q he2⟩⟩
theorem FnNew.st (N : FnNew s P c ps pos (env.qual ++ C.nest) c' h') (T : Top C G) (hfz : C.frozen = false) (S : St C θ H s) (K : KT C θ s env k P c ps) {tk : Nat} (h1 : s.toks ≤ tk) (h2 : s.heap.objs.size ≤ h'.objs.size) : Go C θ s θ { s with heap := h', toks := tk } ∧ St C θ H { s with heap := h', toks := tk } :=
  have hθ := N.keep K
  ⟨⟨⟨[], (List.append_nil _).symm, fun _ h => nomatch h⟩, Nat.le_refl _, h2, fun a o e _ n => hθ a o e n, rfl, fun _ _ e => e, fun f => Bool.noConfusion (hfz.symm.trans f), h1, N.tnew S K⟩,
   ⟨S.len, fun l o e v => let ⟨x, o', g1, g2, g3⟩ := S.own l o e v; ⟨x, o', g1, N.ext _ _ (fun q => K.pθ (q ▸ mem_at g1)) g2, g3.mono (Ext.refl θ) (fun a o e _ n => hθ a o e n) (fun _ _ _ n => n)⟩, S.nodup, S.low, fun x h => Nat.lt_of_lt_of_le (S.lt x h) h2, fun e => S.tok (Nat.le_zero.mp (e ▸ h1)), Nat.le_trans S.bnd h1, S.bare, fun a o e n => hθ a o (S.top a o e n) n, Nat.le_trans S.big h2, N.tabOk T S K⟩⟩
/- the code of a function that is made within -/
structure CdR (C : Cx) (θ : Th) (s : Shared) (q : Str) (c' : Addr) : Prop where
  no : c' ∉ θ
  nt : c' ∉ C.tabs
  cr : s.heap.CodeRec (.ref c') q
omit [Ops] in
theorem code_old {p : Arguments} {scope : Scope} {body : FuncBody} {fl : Nat} {name : Str} {v : Value} {Q : Value → Shared → Prop} {E : Value → Shared → Prop} (K : KT C θ s env k P c ps) (ham : codeAmong pos ps.toList = some v) (hQ : Q v s) : wpAny (model C.prog C.w) A (functionCode env pos fl name q p scope body) Q E s := by
  obtain ⟨o, vs, file, tf, flags, tg, inF, text, tt, op, r⟩ := K.ok
  unfold functionCode codeAt
  rw [K.code, if_neg (show ¬ ((Value.ref c == Value.none) = true) from Bool.false_ne_true)]
  refine wpAny_bind (wpAny_fieldsOf r.1 r.2.1 ?_)
  rw [r.2.2.1]
  refine wpAny_bind (wpAny_fieldsOf r.2.2.2.2.2.2.2.1 r.2.2.2.2.2.2.2.2.1 ?_)
  rw [ham]
  exact wpAny_pure hQ
theorem fnCode_wp (T : Top C G) (R : EnvR C θ ρ env) (hk : ρ.tab = some k) (S : St C θ H s) {fl : Nat} {name : Str} {p : Arguments} {scope : Scope} {body : FuncBody} (hq : q = env.qual ++ C.nest) :
    wpAny (model C.prog C.w) A (functionCode env pos fl name q p scope body) (fun v s' => ∃ c', v = .ref c' ∧ Go C θ s θ s' ∧ St C θ H s' ∧ CdR C θ s' q c') (fun _ _ => False) s := by
  obtain ⟨hfz, P, c, ps, K⟩ := R.kt T hk S
  subst hq
  refine wpAny_sized ?_
  cases ham : codeAmong pos ps.toList with
  | none => exact fnNew_wp T S K ham fun c' h' tk N h1 h2 => ⟨c', rfl, (N.st T hfz S K h1 h2).1, (N.st T hfz S K h1 h2).2, (N.out T S).1, (N.out T S).2, N.cr⟩
  | some v =>
    obtain ⟨c3, o3, vs3, t3, e, g2, g3, g4⟩ := K.am pos v ham
    exact code_old K ham fun _ _ => ⟨c3, e, Go.refl, S, g2, g3, c3, o3, vs3, t3, rfl, g4⟩
end

omit [Ops] in
theorem noAnn_of : ∀ {as : List Arg} (e : Env), noAnn as = true → annotationsOf as e = []
  | [], _, _ => rfl
  | ⟨n, .none, p⟩ :: r, e, h => noAnn_of (as := r) e h
  | ⟨n, .some a, p⟩ :: r, e, h => nomatch h

theorem exec_def_eq (name : Str) (as : List Arg) (body : List Stmt) (scope : Scope) (pos : Pos) (env : Env) (hn : noAnn as = true) :
    exec (.FunctionDef name ⟨[], as, .none, [], [], .none, []⟩ body [] .none [] scope .none name pos) env = (do
      standAt pos
      let f ← holding [] (do
        let kdv ← holding [] (pure [] : Sem (List (Option Value)))
        holding ([] ++ kdv.filterMap id) (makeFunction name (qualnameIn env name name) ⟨[], as, .none, [], [], .none, []⟩ (.stmts body) scope env [] kdv [] pos pos.line))
      standAt pos
      bindName env name f
      pure .next) := by
  have e0 : annTrees ⟨[], as, .none, [], [], .none, []⟩ none env = [] := by
    show annotationsOf (as ++ [] ++ Option.toList none ++ [] ++ Option.toList none) env ++ [] = []
    simp only [List.append_nil, Option.toList_none]
    exact noAnn_of env hn
  rw [exec_def, e0]
  rfl

noncomputable abbrev defS (env : Env) (pos : Pos) (bind : Str) (as : List Arg) (body : List Stmt) (scope : Scope) (ds : List (Str × Addr)) (ct : Value) : Sem Value := do
  let code ← functionCode env pos pos.line bind (qualnameIn env bind bind) ⟨[], as, .none, [], [], .none, []⟩ scope (.stmts body)
  let bu ← builtinsFor env.globals env.builtins
  let nm ← nsGet env.globals "__name__"
  let doc ← match docOf body with
    | some s => mkText s
    | none => pure .none
  newObj (.type "function") (.func { name := bind, qualname := qualnameIn env bind bind, params := ⟨[], as, .none, [], [], .none, []⟩, body := .stmts body, scope := scope, globals := env.globals, closure := ds, closureTuple := ct, code := code, builtins := bu, defaults := .none, kwdefaults := .none, annotations := none, pyModule := nm.getD .none, doc := doc })


end
end Mine
end
section
open PySem PyProof.Rows
set_option maxRecDepth 100000
namespace Mine
variable [Ops]
section
variable {C : Cx} {G : Env0} {A : Around} {θ : Th} {H H' : Hp} {ρ : Rho} {env : Env} {α β γ : Type} {ih : Ih} {n : Nat}
variable {bind : Str} {as : List Arg} {body : List Stmt} {scope : Scope} {pos : Pos} {k : Nat} {ps : List Str} {cs : List (Str × Nat)} {ds : List (Str × Addr)} {ct : Value}

noncomputable abbrev fdOf (C : Cx) (env : Env) (bind : Str) (as : List Arg) (body : List Stmt) (scope : Scope) (ds : List (Str × Addr)) (ct : Value) (c' : Addr) (doc : Value) : FuncData :=
  { name := bind, qualname := qualnameIn env bind bind, params := ⟨[], as, .none, [], [], .none, []⟩, body := .stmts body, scope := scope, globals := env.globals, closure := ds, closureTuple := ct, code := .ref c', builtins := builtinsNs, defaults := .none, kwdefaults := .none, annotations := none, pyModule := (C.mg "__name__").getD .none, doc := doc }
noncomputable abbrev DefT (θ0 : Th) (C : Cx) (H : Hp) (s0 : Shared) (ps : List Str) (body : List Stmt) (scope : Scope) (cs : List (Str × Nat)) (f : Value) (s' : Shared) : Prop := Nx C θ0 s0 s' fun θ' H' => H' = Ops.app H [.fn ps body scope cs] ∧ VR θ' (.ref (Ops.len H)) f
theorem mk_fn {θ0 : Th} {s0 s2 : Shared} {c' : Addr} (doc : Value) (hp : plainArgs ⟨[], as, .none, [], [], .none, []⟩ = some ps) (hg : env.globals = mainGlobals) (rds : CR θ cs ds) (g : Go C θ0 s0 θ s2) (S2 : St C θ H s2) (cd : CdR C θ s2 (qualnameIn env bind bind) c') :
    wpAny (model C.prog C.w) A (newObj (.type "function") (.func (fdOf C env bind as body scope ds ct c' doc))) (DefT θ0 C H s0 ps body scope cs) (fun _ _ => False) s2 := by
  refine wpAny_newObj_type ?_ (by size_fits)
  obtain ⟨c, o, vs, t, e, q1, q2, q3⟩ := cd.cr
  injection e with e; subst e
  have hne : c' ∉ θ ++ [s2.heap.objs.size] := fun q => (mem_app.mp q).elim cd.no fun q => Nat.lt_irrefl _ ((List.mem_singleton.mp q) ▸ Heap.lt_size q1)
  have x := S2.new (s' := { s2 with heap := s2.heap.push { cls := .type "function", data := .func (fdOf C env bind as body scope ds ct c' doc) } }) (o := .fn ps body scope cs) (Nat.le_refl _) (Heap.get?_push_size _ rfl)
    ⟨_, rfl, ⟨(fun k e => nomatch e), rfl, rfl, hp, hg, rfl, rfl, rfl, rds.mono (Ext.app _ _), c', o, vs, t, rfl, hne, cd.nt, Heap.get?_push_of_some _ q1, q2, q3⟩⟩
    (fun _ _ e => Heap.get?_push_of_some _ e) (Nat.le_refl _) rfl rfl
  exact .mk' (g.trans x.2) x.1 ⟨rfl, new_ref S2.len⟩
omit [Ops] in
theorem CdR.up {s s' : Shared} {q : Str} {c' : Addr} (h : CdR C θ s q c') (e : s'.heap = s.heap) : CdR C θ s' q c' := ⟨h.no, h.nt, e ▸ h.cr⟩
theorem defS_tri (T : Top C G) (R : EnvR C θ ρ env) (hk : ρ.tab = some k) (hp : plainArgs ⟨[], as, .none, [], [], .none, []⟩ = some ps)
    (rds : CR θ cs ds) (hq : qualnameIn env bind bind = env.qual ++ C.nest) : Tri C A θ H (defS env pos bind as body scope ds ct) fun f θ' H' => H' = Ops.app H [.fn ps body scope cs] ∧ VR θ' (.ref (Ops.len H)) f := by
  intro s S
  refine wpAny_bind (wpAny_mono (fnCode_wp T R hk S hq) (fun v s1 hv => ?_) fun _ _ x => x)
  obtain ⟨c', e, g1, S1, cd⟩ := hv
  subst e
  have hgl : s1.heap.Ns env.globals C.mg := by rw [R.globals]; exact Top.ns S1 T.gns T.low.1
  obtain ⟨bm, ob, b1, b2, b3, b5, b6, b7, b8⟩ := T.blt
  refine wpAny_bind (wpAny_builtinsFor hgl b1 b2 (S1.top _ _ b5 b3) b6 b7 b8 ?_)
  refine wpAny_bind (wpAny_nsGet hgl ?_)
  cases docOf body with
  | some t =>
    have x := S1.tokd (s1.toks + 1) (Nat.le_succ _)
    exact wpAny_bind (wpAny_mkText (mk_fn _ hp R.globals rds (g1.trans x.2) x.1 (cd.up rfl)))
  | none => exact wpAny_bind (wpAny_pure (mk_fn _ hp R.globals rds g1 S1 cd))
theorem ct_tri : Tri C A θ H (newTextTuple (List.map (fun x => Value.ref x.2) (ds.mergeSort fun a b => a.1.cps.toList ≤ b.1.cps.toList))) fun _ _ H' => H' = H := fun s S => wpAny_newTextTuple (
  have x := S.same (s' := { s with heap := s.heap.push { cls := .type "tuple", data := .seq (List.map (fun x => Value.ref x.2) (ds.mergeSort fun a b => a.1.cps.toList ≤ b.1.cps.toList)).toArray } }) (fun _ _ e => Heap.get?_push_of_some _ e) (by show _ ≤ (s.heap.push _).objs.size; rw [Heap.size_push]; exact Nat.le_succ _) (Nat.le_refl _) rfl rfl
  .mk' x.2 x.1 rfl)
theorem def_at (T : Top C G) {θ0 : Th} (R : EnvR C θ0 ρ env) (hk : ρ.tab = some k) (hp : plainArgs ⟨[], as, .none, [], [], .none, []⟩ = some ps) (ha : noAnn as = true)
    (hc : closure ρ scope.names [] = some cs) (hq : qualnameIn env bind bind = env.qual ++ C.nest) (hs : stName ρ (Ops.app H [.fn ps body scope cs]) bind (.ref (Ops.len H)) = some H') : TriF C A θ0 H (exec (.FunctionDef bind ⟨[], as, .none, [], [], .none, []⟩ body [] .none [] scope .none bind pos) env) .next H' := by
  obtain ⟨ds, hclo, rds⟩ := (closureFor_yes R).get hc
  rw [exec_def_eq _ as body scope pos env ha]
  refine Tri.at (Tri.hold ?_)
  refine Tri.bind (P := fun f θ' H' => H' = Ops.app H [.fn ps body scope cs] ∧ VR θ' (.ref (Ops.len H)) f) ?_ fun f θ1 H1 x1 h1 => ?_
  · refine Tri.hold ?_
    refine Tri.bind (P := fun kdv θ' H' => kdv = [] ∧ H' = H) (Tri.pure ⟨rfl, rfl⟩) fun kdv θ0 H0 x0 h0 => ?_
    obtain ⟨rfl, rfl⟩ := h0
    refine Tri.holding ?_
    rw [makeFunction_eq]
    show Tri C A θ0 _ (makeTail bind (qualnameIn env bind bind) ⟨[], as, .none, [], [], .none, []⟩ (.stmts body) scope env .none .none none pos pos.line) _
    unfold makeTail
    rw [hclo]
    simp only [pure_bind]
    have q : ∀ {θ2 ct}, Ext θ0 θ2 → Tri C A θ2 H0 (defS env pos bind as body scope ds ct) fun f θ' H' => H' = Ops.app H0 [.fn ps body scope cs] ∧ VR θ' (.ref (Ops.len H0)) f := fun x2 => defS_tri T (R.mono (x0.trans x2)) hk hp (rds.mono (x0.trans x2)) hq
    unfold defS at q
    split
    · have q := q (ct := .none) (Ext.refl _)
      cases hdoc : docOf body <;> simp only [hdoc] at q ⊢ <;> exact q
    · refine Tri.bind ct_tri fun ct θ2 H2 x2 h2 => ?_
      subst h2
      have q := q (ct := ct) x2
      cases hdoc : docOf body <;> simp only [hdoc] at q ⊢ <;> exact q
  · obtain ⟨rfl, r1⟩ := h1
    exact Tri.at (Tri.unit ((bindName_yes (R.mono x1) r1).get hs) fun θ2 x2 => Tri.pure ⟨rfl, rfl⟩)
theorem st_kind (R : EnvR C θ ρ env) {x : Str} {v : V} : Yes (fun _ => (env.kindOf x == some NameKind.globalExplicit) = false) (stName ρ H x v) :=
  Yes.kind2 (kind_yes R) (fun kn => Yes.of fun _ _ => by rw [kn.of]; rfl) fun kn => Yes.of fun _ _ => by rw [kn.of]; rfl
theorem plainArgs_yes' (a : Arguments) : Yes (fun ps => plainArgs a = some ps ∧ ∃ as, a = ⟨[], as, .none, [], [], .none, []⟩) (plainArgs a) := Yes.of fun ps h => ⟨h, let ⟨ar, e, _⟩ := ((plainArgs_yes a).get h).ex; ⟨ar, e⟩⟩
omit [Ops] in
theorem Yes.ss {Q : γ → Prop} {o : Option (List Str)} {P : List Str → Prop} {K : List Str → Option γ} (p : Yes P o) (h : ∀ a, P a → Yes Q (K a)) : Yes Q (match (generalizing := false) o with | some a => K a | .none => .none) := by
  cases o with
  | none => exact trivial
  | some q => exact h _ p
theorem def_yes (T : Top C G) {name : Str} {args : Arguments} : YesH (At1 C A ρ env H (.FunctionDef name args body [] .none [] scope .none bind pos)) (stepS_Def ih G ρ H name args body scope bind) :=
  Yes.n (x := ρ.tab) fun k hk => Yes.tt fun hn hb => Yes.ss (plainArgs_yes' args) fun ps ⟨hp, as, e⟩ => Yes.t fun ha => Yes.cs Yes.self fun cs hc => Yes.h fun H1 hs => by
    intro θ R
    obtain rfl : bind = name := (seq_iff.mp hb).trans (seq_iff.mp hn).symm
    subst e
    exact def_at T R hk hp ha hc (by unfold qualnameIn; rw [(st_kind R).get hs, seq_iff.mp hn, T.nest]; rfl) hs
end
end Mine
end
section
open PySem PyProof.Rows SeqAt
set_option maxRecDepth 100000
namespace Mine
variable [Ops]
section
variable {C : Cx} {G : Env0} {A : Around} {θ : Th} {H H' : Hp} {ρ : Rho} {env : Env} {α β γ : Type} {ih : Ih} {n : Nat}

/- floats that are written: their tokens are new -/
theorem eqAt_floatN {s : Shared} {p q : UInt64} {t u : Tok} (hn : s.heap.Ns cStatics fun _ => none) (ht : t ≠ 0) (hu : u ≠ 0) (hne : t ≠ u) (h : okF p q = true) : EqAt A s (.float p t) (.float q u) (feq p q) := by
  unfold okF at h
  cases e : feq p q with
  | true => exact eqAt_float hn ht hu (by rw [← feq_cmp]; exact e)
  | false =>
    rw [e] at h
    have hb : p ≠ q := fun z => by
      subst z
      rw [show Nat.beq p.toNat p.toNat = true from Nat.beq_refl _] at h
      exact Bool.noConfusion h
    intro prog w E Q hq
    unfold eqBool
    refine wpAny_holding ?_
    have h0 : ¬ ((Value.float p t == Value.float q u) = true) := fun z => by
      have := eq_of_beq z
      injection this with z1 z2
      exact hb z1
    rw [if_neg h0]
    show wpAny _ _ (isSame (.float p t) (.float q u) >>= _) _ _ _
    refine wpAny_bind ?_
    show wpAny _ _ (isSame.created (p == q && !Float64.isNaN p) t u) _ _ _
    unfold isSame.created
    rw [tok_b ht, tok_b hu]
    simp only [Bool.or_self, Bool.false_eq_true, if_false]
    rw [if_neg (show ¬ ((t == u) = true) from fun z => hne (eq_of_beq z))]
    have hc : (p == q) = false := beq_eq_false_iff_ne.mpr hb
    rw [hc]
    simp only [Bool.false_and, Bool.not_false, if_true]
    refine wpAny_pure ?_
    simp only [Bool.false_eq_true, if_false]
    refine wpAny_bind (m := richCompare .Eq (.float p t) (.float q u)) (AutoFloatOps.eq_0 (prog := prog) (w := w) ?_)
    rw [← feq_cmp, e]
    exact wpAny_truthy_bool hq
/- written floats, in turn -/
noncomputable def LitE : List Expr → List UInt64 → Prop
  | [], [] => True
  | e :: es, x :: xs => (∃ k p, e = .Constant (.float x) k p) ∧ LitE es xs
  | _, _ => False
omit [Ops] in
theorem fltOf_yes (c : Const) : Yes (fun x => c = .float x) (fltOf c) := by
  cases c <;> first | exact rfl | exact trivial
omit [Ops] in
theorem Yes.lu {Q : γ → Prop} {o : Option (List UInt64)} {P : List UInt64 → Prop} {K : List UInt64 → Option γ} (p : Yes P o) (h : ∀ m, P m → Yes Q (K m)) : Yes Q (match (generalizing := false) o with | some m => K m | .none => .none) := by
  cases o with
  | none => exact trivial
  | some m => exact h m p
theorem fltLits_yes : ∀ es : List Expr, Yes (LitE es) (fltLits es)
  | [] => trivial
  | e :: r => Yes.cn (constOf_yes e) fun c ⟨k, p, e1⟩ => Yes.fo (fltOf_yes c) (fun x e2 => Yes.lu (fltLits_yes r) fun l h => ⟨⟨k, p, by rw [e1, e2]⟩, h⟩) trivial
noncomputable def FlA (n k : Nat) : List UInt64 → List Value → Prop
  | [], [] => True
  | x :: xs, a :: as => (∃ t, t ≠ 0 ∧ n ≤ t ∧ t < k ∧ a = .float x t) ∧ FlA n k xs as
  | _, _ => False
omit [Ops] in
theorem FlA.mono {n k m l : Nat} (h1 : m ≤ n) (h2 : k ≤ l) : ∀ {xs : List UInt64} {as : List Value}, FlA n k xs as → FlA m l xs as
  | [], [], _ => trivial
  | _ :: _, _ :: _, ⟨⟨t, a, b, c, d⟩, r⟩ => ⟨⟨t, a, Nat.le_trans h1 b, Nat.lt_of_lt_of_le c h2, d⟩, FlA.mono h1 h2 r⟩
theorem lits_wp {pos : Pos} : ∀ (es : List Expr) {ls : List UInt64} {s : Shared}, LitE es ls → s.toks ≠ 0 → wpAny (model C.prog C.w) A (spliced (backTo pos (starEach es env))) (fun as s' => ∃ k, s' = { s with toks := k } ∧ s.toks ≤ k ∧ FlA s.toks k ls as) (fun _ _ => False) s
  | [], ls, s, h, ht => by
    cases ls with
    | nil => exact wpAny_pure ⟨s.toks, rfl, Nat.le_refl _, trivial⟩
    | cons => exact h.elim
  | e :: es, ls, s, h, ht => by
    cases ls with
    | nil => exact h.elim
    | cons x xs =>
    obtain ⟨⟨k, p, e1⟩, h⟩ := h
    subst e1
    rw [starEach_cons _ es env (by intro y q z; cases z)]
    show wpAny _ _ (spliced ((false, constValue env (.float x)) :: backTo pos (starEach es env))) _ _ _
    rw [spliced]
    refine wpAny_bind (wpAny_bind (wpAny_fresh (wpAny_pure ?_)))
    simp only [Bool.false_eq_true, if_false, pure_bind]
    refine wpAny_bind (wpAny_holding (wpAny_mono (lits_wp es (s := { s with toks := s.toks + 1 }) h (Nat.succ_ne_zero _)) (fun as s' hs => ?_) fun _ _ x => x))
    obtain ⟨k', e', h1, h2⟩ := hs
    subst e'
    exact wpAny_pure ⟨k', rfl, Nat.le_trans (Nat.le_succ _) h1, ⟨s.toks, ht, Nat.le_refl _, h1, rfl⟩, h2.mono (Nat.le_succ _) (Nat.le_refl _)⟩
omit [Ops] in
theorem FlA.ar {n k : Nat} {θ : Th} (hk : k ≤ θ.n) : ∀ {xs : List UInt64} {as : List Value}, FlA n k xs as → AR θ (xs.map .flt) as
  | [], [], _ => trivial
  | _ :: _, _ :: _, ⟨⟨t, a, b, c, d⟩, r⟩ => ⟨⟨t, a, Nat.lt_of_lt_of_le c hk, d⟩, FlA.ar hk r⟩
/- pairs of floats, the first's tokens below the second's -/
theorem fl_pairs {n k : Nat} {s : Shared} (hn : s.heap.Ns cStatics fun _ => none) : ∀ {xs ys : List UInt64} {as bs : List Value} {θ : Th} {r : Bool}, θ.n ≤ n → AR θ (xs.map .flt) as → FlA n k ys bs → eqLits xs ys = some r →
    as.length = bs.length ∧ ∃ e : Nat → Bool, (∀ j (h1 : j < as.length) (h2 : j < bs.length), EqAt A s as[j] bs[j] (e j)) ∧ (List.range as.length).all e = r
  | [], [], [], [], θ, r, _, _, _, h => ⟨rfl, fun _ => true, fun j h1 => (nomatch h1), by injection h⟩
  | x :: xs, y :: ys, a :: as, b :: bs, θ, r, hθ, ra, rb, h => by
    have h' : Yes (fun r => okF x y = true ∧ ∃ q, eqLits xs ys = some q ∧ r = (feq x y && q)) (eqLits (x :: xs) (y :: ys)) := Yes.t fun ho => Yes.bo Yes.self fun q hq => ⟨ho, q, hq, rfl⟩
    obtain ⟨ho, q, hq, e1⟩ := h'.get h
    obtain ⟨⟨t, t1, t2, ea⟩, ra⟩ := ra
    obtain ⟨⟨u, u1, u2, u3, eb⟩, rb⟩ := rb
    obtain ⟨hl, e, he, hall⟩ := fl_pairs hn hθ ra rb hq
    refine ⟨congrArg (· + 1) hl, fun j => match j with | 0 => feq x y | j + 1 => e j, fun j h1 h2 => ?_, ?_⟩
    · cases j with
      | zero =>
        show EqAt A s a b (feq x y)
        rw [ea, eb]
        exact eqAt_floatN hn t1 u1 (Nat.ne_of_lt (Nat.lt_of_lt_of_le t2 (Nat.le_trans hθ u2))) ho
      | succ j => exact he j (Nat.lt_of_succ_lt_succ h1) (Nat.lt_of_succ_lt_succ h2)
    · rw [List.length_cons, List.range_succ_eq_map, List.all_cons, List.all_map, e1, ← hall]
      rfl
  | [], _ :: _, _, _, _, _, _, _, _, h => by cases h
  | _ :: _, [], _, _, _, _, _, _, _, h => by cases h
  | [], [], _ :: _, _, _, _, _, ra, _, _ => ra.elim
  | [], [], [], _ :: _, _, _, _, _, rb, _ => rb.elim
  | _ :: _, _ :: _, [], _, _, _, _, ra, _, _ => ra.elim
  | _ :: _, _ :: _, _ :: _, [], _, _, _, _, rb, _ => rb.elim
omit [Ops] in
theorem Yes.leE {Q : γ → Prop} {o : Option (List Expr)} {P : List Expr → Prop} {K : List Expr → Option γ} (p : Yes P o) (h : ∀ a, P a → Yes Q (K a)) : Yes Q (match (generalizing := false) o with | some a => K a | .none => .none) := by
  cases o with
  | none => exact trivial
  | some q => exact h _ p
omit [Ops] in
theorem wpAny_operate' {M : Model} {vs : List Value} {t : Sem Value} {Q E : Value → Shared → Prop} {s : Shared} (h : wpAny M A t Q E s) : wpAny M A (PySem.operate vs t) Q E s := fun Γ p hΓ => by
  rw [Sem.wp_operate]; exact h Γ p hΓ
omit [Ops] in
theorem isEq1_of {ops : List CmpOp} (h : isEq1 ops = true) : ops = [.Eq] := by
  cases ops with
  | nil => exact Bool.noConfusion h
  | cons o r => cases r with
    | nil => cases o <;> first | rfl | exact Bool.noConfusion h
    | cons => cases o <;> exact Bool.noConfusion h
structure LcR (ops : List CmpOp) (rs : List Expr) (ls : List UInt64) : Prop where
  ops : ops = [.Eq]
  ex : ∃ es c p, rs = [.Tuple es c p] ∧ LitE es ls
omit [Ops] in
theorem tupOf_yes (e : Expr) : Yes (fun q => ∃ a p, e = .Tuple q a p) (tupOf e) := by
  cases e <;> first | exact trivial | exact ⟨_, _, rfl⟩
theorem litCmp_yes {ops : List CmpOp} {rs : List Expr} : Yes (LcR ops rs) (litCmp ops rs) :=
  Yes.t fun h => Yes.ex (oneE_yes rs) fun r e => Yes.leE (tupOf_yes r) fun es ⟨c, p, e2⟩ => (fltLits_yes es).mono fun ls hl => ⟨isEq1_of h, es, c, p, by rw [e, e2], hl⟩
theorem cmpLit_at (T : Top C G) (hA : Room A n) {l : Expr} {ops : List CmpOp} {rs : List Expr} {ls fs : List UInt64} {pos : Pos} {H1 : Hp} {m : Nat} {r : Bool} (p1 : AtE C A ρ env H l (.ref m) H1) (q : LcR ops rs ls) (hl : Ops.get H1 m = some (.tup (fs.map .flt))) (hf : fits ls.length = true) (he : eqLits fs ls = some r) :
    AtE C A ρ env H (.Compare l ops rs pos) (.bool r) (Ops.app H1 [.tup (ls.map .flt)]) := fun {θ} R => by
  obtain ⟨es, c, p, e1, hE⟩ := q.ex
  rw [q.ops, e1]
  show Tri C A _ H (eval _ env >>= _) _
  refine Tri.val (p1 R) fun x θ1 x1 r1 => ?_
  apply r1.ref; intro a ea
  have e : markedEach [.Eq] [.Tuple es c p] (evalEach [.Tuple es c p] env) = [eval (.Tuple es c p) env] := rfl
  rw [e]
  show Tri C A θ1 H1 (PySem.holding [.ref a] (eval (.Tuple es c p) env) >>= _) _
  refine Tri.hold fun s S => ?_
  obtain ⟨a1, n1, g1, ra⟩ := S.tupAt hl ea
  show wpAny _ _ ((PySem.standAt _ >>= fun _ => spliced _ >>= fun v => newTuple v) >>= _) _ _ _
  refine wpAny_bind (wpAny_bind (wpAny_standAt (wpAny_bind (wpAny_mono (lits_wp es hE S.tok) (fun as s' hs => ?_) fun _ _ x => x))))
  obtain ⟨k, e', hk, hfl⟩ := hs
  subst e'
  have hlen : as.length = ls.length := by
    have := (hfl.ar (θ := ⟨[], k⟩) (Nat.le_refl _)).length
    rw [List.length_map] at this; exact this.symm
  have u1 := S.tokd k hk
  have u2 := u1.1.rise (n := k) (Nat.le_trans S.bnd hk) (Nat.le_refl _)
  have ho : ({ s with toks := k, heap := s.heap.push { cls := .type "tuple", data := .seq as.toArray } } : Shared).heap.get? s.heap.objs.size = some { cls := .type "tuple", data := .seq as.toArray } := Heap.get?_push_size _ rfl
  have u3 := u2.1.new (s' := { s with toks := k, heap := s.heap.push { cls := .type "tuple", data := .seq as.toArray } }) (o := .tup (ls.map .flt)) (Nat.le_refl _) ho ⟨as.toArray, 0, rfl, (hfl.ar (Nat.le_refl _)).mono (Ext.app _ _)⟩ (fun _ _ e => Heap.get?_push_of_some _ e) (Nat.le_refl _) rfl rfl
  refine wpAny_newTuple ?_ (by rw [hlen]; exact fits_sz hf)
  refine wpAny_bind (wpAny_standAt ?_)
  obtain ⟨hsz, ef, hp, hall⟩ := fl_pairs (A := A.in1) (s := { s with toks := k, heap := s.heap.push { cls := .type "tuple", data := .seq as.toArray } }) (n := s.toks) (k := k) (Top.ns u3.1 T.stat T.low.2.2) S.bnd ra hfl he
  have t1 := RcAt.tuples (A := A) (s := { s with toks := k, heap := s.heap.push { cls := .type "tuple", data := .seq as.toArray } }) (l := a) (b := s.heap.objs.size) (items := a1) (items2 := as.toArray) (e := ef) ⟨_, Heap.get?_push_of_some _ g1, rfl, n1, rfl⟩ ⟨_, ho, rfl, 0, rfl⟩ (by have := hA.units; unfold cLine; omega)
    (fun j h1 h2 => hp j (by rw [Array.length_toList]; exact h1) (by simpa using h2))
  have hs2 : a1.size = as.toArray.size := by rw [List.size_toArray, ← Array.length_toList]; exact hsz
  rw [Array.length_toList] at hall
  rw [← hs2, Nat.min_self, beq_self_eq_true, Bool.and_true, hall] at t1
  exact wpAny_operate' (t1 _ _ _ _ (.mk' (u1.2.trans (u2.2.trans u3.2)) u3.1 ⟨rfl, rfl⟩))
omit [Ops] in
theorem flts_ref {vs : List V} {fs : List UInt64} (h : flts vs = some fs) : vs = fs.map .flt := (flts_yes vs).get h
theorem cmpLit_yes (T : Top C G) (hA : Room A n) {l : Expr} {ops : List CmpOp} {rs : List Expr} {ls : List UInt64} {pos : Pos} {a : V} {H1 : Hp} (p1 : AtE C A ρ env H l a H1) (q : LcR ops rs ls) : YesH (AtE C A ρ env H (.Compare l ops rs pos)) (cmpLit a ls H1) :=
  Yes.n' (vRef_yes a) fun m e => Yes.vs (tupAt_yes m) fun vs hl => Yes.lu Yes.self fun fs hfs => Yes.t fun hf => Yes.bo Yes.self fun r he => by
    intro θ R
    subst e
    exact cmpLit_at T hA p1 q (flts_ref hfs ▸ hl) hf he R
end
end Mine
end
section
open PySem PyProof.Rows
set_option maxRecDepth 100000
namespace Mine
variable [Ops]
section
variable {C : Cx} {G : Env0} {A : Around} {θ : Th} {H H' : Hp} {ρ : Rho} {env : Env} {α β γ : Type} {ih : Ih} {n : Nat}

/- the arms -/
section
variable {v : V} {H1 H2 H3 : Hp} {pos : Pos} {a b : V} {l r x : Expr}
theorem bin_at {op : Operator} (p1 : AtE C A ρ env H l a H1) (p2 : AtE C A ρ env H1 r b H2) (h : binV op (norm a) (norm b) H2 = some (v, H3)) : AtE C A ρ env H (.BinOp l op r pos) v H3 := fun R => by
  rw [eval_BinOp]
  exact Tri.val (p1 R) fun x θ1 x1 r1 => Tri.hold (Tri.val (p2 (R.mono x1)) fun y θ2 x2 r2 => Tri.at (Tri.operate ((binV_yes (r1.mono x2).norm r2.norm).get h)))
theorem un_at {op : UnaryOp} (p1 : AtE C A ρ env H x a H1) (h : unV op a = some v) : AtE C A ρ env H (.UnaryOp op x pos) v H1 := fun R => by
  show Tri C A _ H (eval _ env >>= _) _
  exact Tri.val (p1 R) fun x θ1 x1 r1 => Tri.at (Tri.holding ((unV_yes r1).get h))
theorem cmp_at' {ops : List CmpOp} {rs : List Expr} {c : Bool} (p1 : AtE C A ρ env H l a H1) (p2 : AtC C A ρ env pos H1 a ops rs c H2) : AtE C A ρ env H (.Compare l ops rs pos) (.bool c) H2 := fun R => by
  show Tri C A _ H (eval _ env >>= _) _
  exact Tri.val (p1 R) fun x θ1 x1 r1 => (p2 (R.mono x1) r1).v
theorem cmp_t {ops : List CmpOp} {rs : List Expr} {c : Bool} (p1 : AtE C A ρ env H l a H1) (p2 : AtC C A ρ env pos H1 a ops rs c H2) : AtT C A ρ env H (.Compare l ops rs pos) c H2 := fun R => by
  show Tri C A _ H (eval _ env >>= _) _
  exact Tri.val (p1 R) fun x θ1 x1 r1 => (p2 (R.mono x1) r1).t
theorem if_t {t b o : Expr} (p1 : AtT C A ρ env H t true H1) (p2 : AtE C A ρ env H1 b v H2) : AtE C A ρ env H (.IfExp t b o pos) v H2 := fun R => by
  show Tri C A _ H (isTrue _ env (eval _ env) >>= _) _
  exact Tri.bool (p1 R) fun θ1 x1 => p2 (R.mono x1)
theorem if_f {t b o : Expr} (p1 : AtT C A ρ env H t false H1) (p2 : AtE C A ρ env H1 o v H2) : AtE C A ρ env H (.IfExp t b o pos) v H2 := fun R => by
  show Tri C A _ H (isTrue _ env (eval _ env) >>= _) _
  exact Tri.bool (p1 R) fun θ1 x1 => p2 (R.mono x1)
theorem list_at {es : List Expr} {vs : List V} (q : EvA C A ρ env H es vs H1) (hf : fits vs.length = true) : AtE C A ρ env H (.List es pos) (.ref (Ops.len H1)) (Ops.app H1 [.list vs]) := fun R => by
  show Tri C A _ H (PySem.standAt _ >>= fun _ => spliced _ >>= _) _
  exact Tri.at (Tri.bind ((q _).tri R) fun as θ1 H2 x1 h2 => h2.1 ▸ newList_sound h2.2 hf)
theorem tuple_at {es : List Expr} {vs : List V} {c : Nat} (q : EvA C A ρ env H es vs H1) (hf : fits vs.length = true) : AtE C A ρ env H (.Tuple es c pos) (.ref (Ops.len H1)) (Ops.app H1 [.tup vs]) := fun R => by
  show Tri C A _ H (PySem.standAt _ >>= fun _ => spliced _ >>= _) _
  exact Tri.at (Tri.bind ((q _).tri R) fun as θ1 H2 x1 h2 => h2.1 ▸ newTuple_sound h2.2 hf)
theorem comp_e {elt : Expr} {gens : List Comprehension} {scope : Scope} (q : CompR C A ρ env elt gens scope none H v H1) : AtE C A ρ env H (.ListComp elt gens scope pos) v H1 := fun R s S => by
  rw [eval_ListComp]
  exact wpAny_mono (q R S) (fun a s' hb => hb.mono fun θ' H'' h => ⟨h.1, h.2 rfl⟩) fun _ _ x => x
end
noncomputable abbrev AtEv (C : Cx) (A : Around) (ρ : Rho) (env : Env) (H : Hp) (e : Expr) (v : V) (H' : Hp) : Prop := AtE C A ρ env H e v H'
section
variable {pos : Pos}
theorem constE_yes {c : Const} {k : _} : YesH (AtE C A ρ env H (.Constant c k pos)) (stepE_Constant ih G ρ H c) :=
  Yes.v fun v h => by
    intro θ R; exact (const_yes (env := env) c).get h
theorem nameE_yes (T : Top C G) {x : Str} : YesH (AtE C A ρ env H (.Name x pos)) (stepE_Name ih G ρ H x) :=
  Yes.v fun v h => by
    intro θ R; exact (name_yes T R).get h
theorem binE_yes (I : IhS C ih n) (hA : Room A n) {op : Operator} (l r : Expr) : YesH (AtE C A ρ env H (.BinOp l op r pos)) (stepE_BinOp ih G ρ H l op r) :=
  Yes.vh (I.e hA l) fun a H1 p1 => Yes.vh (I.e hA r) fun b H2 p2 => Yes.of fun q h => bin_at p1 p2 h
theorem unE_yes (I : IhS C ih n) (hA : Room A n) {op : UnaryOp} (x : Expr) : YesH (AtE C A ρ env H (.UnaryOp op x pos)) (stepE_UnaryOp ih G ρ H op x) :=
  Yes.vh (I.e hA x) fun a H1 p1 => Yes.v fun v h => by
    intro θ R; exact un_at p1 h R
omit [Ops] in
theorem Yes.luO {Q : γ → Prop} {o : Option (List UInt64)} {P : List UInt64 → Prop} {K : List UInt64 → Option γ} {K' : Option γ} (p : Yes P o) (h : ∀ m, P m → Yes Q (K m)) (h' : Yes Q K') : Yes Q (match (generalizing := false) o with | some m => K m | .none => K') := by
  cases o with
  | none => exact h'
  | some m => exact h m p
theorem cmpE_yes (I : IhS C ih n) (T : Top C G) (hA : Room A n) (l : Expr) (ops : List CmpOp) (rs : List Expr) : YesH (AtE C A ρ env H (.Compare l ops rs pos)) (stepE_Compare ih G ρ H l ops rs) :=
  Yes.vh (I.e hA l) fun a H1 p1 => Yes.luO litCmp_yes (fun ls q => cmpLit_yes T hA p1 q) (Yes.bh (chain_yes I T hA pos ops rs) fun b H2 p2 => by
    intro θ R; exact cmp_at' p1 p2 R)
theorem ifE_yes (I : IhS C ih n) (hA : Room A n) (t b o : Expr) : YesH (AtE C A ρ env H (.IfExp t b o pos)) (stepE_IfExp ih G ρ H t b o) :=
  Yes.bh2 (I.t hA t) (fun H1 p1 => (I.e hA b).mono fun q p2 => if_t p1 p2) fun H1 p1 => (I.e hA o).mono fun q p2 => if_f p1 p2
theorem listE_yes (I : IhS C ih n) (hA : Room A n) (es : List Expr) : YesH (AtE C A ρ env H (.List es pos)) (stepE_List ih G ρ H es) :=
  Yes.vsh (evA_yes I hA es) fun vs H1 q => Yes.t fun hf => by
    intro θ R; exact list_at q hf R
theorem tupleE_yes (I : IhS C ih n) (hA : Room A n) (es : List Expr) {c : Nat} : YesH (AtE C A ρ env H (.Tuple es c pos)) (stepE_Tuple ih G ρ H es) :=
  Yes.vsh (evA_yes I hA es) fun vs H1 q => Yes.t fun hf => by
    intro θ R; exact tuple_at q hf R
omit [Ops] in
theorem sliceOf_yes (i : Expr) : Yes (fun q => ∃ p, i = .Slice q.1 q.2.1 q.2.2 p) (sliceOf i) := by
  cases i <;> first | exact trivial | exact ⟨_, rfl⟩
omit [Ops] in
theorem sliceOf_none {i : Expr} (h : sliceOf i = .none) : notSlice i = true := by
  cases i <;> first | rfl | cases h
omit [Ops] in
theorem Yes.sl {Q : γ → Prop} {o : Option (Option Expr × Option Expr × Option Expr)} {K : Option Expr → Option Expr → Option Expr → Option γ} {K' : Option γ} (h : ∀ a b c, o = some (a, b, c) → Yes Q (K a b c)) (h' : o = .none → Yes Q K') : Yes Q (match (generalizing := false) o with | some (a, b, c) => K a b c | .none => K') := by
  cases o with
  | none => exact h' rfl
  | some q => exact h _ _ _ rfl
theorem subE_yes (I : IhS C ih n) (hA : Room A n) (e i : Expr) : YesH (AtE C A ρ env H (.Subscript e i pos)) (stepE_Subscript ih G ρ H e i) :=
  Yes.vh (I.e hA e) fun a H1 p1 => Yes.sl (fun lo hi st hs => by
    obtain ⟨p, e⟩ := (sliceOf_yes i).get hs
    subst e
    exact Yes.oh (optE_yes I hA lo) fun lo' H2 p2 => Yes.oh (optE_yes I hA hi) fun hi' H3 p3 => Yes.oh (optE_yes I hA st) fun st' H4 p4 => Yes.of fun q h => slice_at p1 p2 p3 p4 h) fun hs => Yes.vh (I.e hA i) fun b H2 p2 => Yes.v fun v h => by
    intro θ R; exact item_at (sliceOf_none hs) p1 p2 h R
theorem lcE_yes (I : IhS C ih n) (T : Top C G) (hA : Room A n) {elt : Expr} (gens : List Comprehension) {scope : Scope} : YesH (AtE C A ρ env H (.ListComp elt gens scope pos)) (stepE_ListComp ih G ρ H elt gens scope) :=
  (comp_yes I T hA (use := none) (fin := .none) trivial gens).mono fun q h => comp_e h
theorem callE_yes (I : IhS C ih n) (T : Top C G) (K : ConS C G) (hA : Room A (n + 1)) (f : Expr) (args : List Expr) (kws : List Keyword) : YesH (AtE C A ρ env H (.Call f args kws pos)) (stepE_Call ih G ρ H f args kws pos) := by
  cases kws with
  | cons => exact trivial
  | nil => cases f with
    | Name f p => exact callN_yes I T K hA
    | Attribute o m p => exact callA_yes I T hA.le
    | _ => exact trivial
theorem stepE_yes (I : IhS C ih n) (T : Top C G) (K : ConS C G) (hA : Room A (n + 1)) (e : Expr) : YesH (AtE C A ρ env H e) (stepE ih G e ρ H) := by
  cases e with
  | Constant c k p => exact constE_yes (ih := ih) (G := G)
  | Name x p => exact nameE_yes (ih := ih) T
  | BinOp l op r p => exact binE_yes (G := G) I hA.le l r
  | UnaryOp op x p => exact unE_yes (G := G) I hA.le x
  | Compare l ops rs p => exact cmpE_yes I T hA.le l ops rs
  | BoolOp op es p => exact bools_yes I hA.le p op es
  | IfExp t b o p => exact ifE_yes (G := G) I hA.le t b o
  | List es p => exact listE_yes (G := G) I hA.le es
  | Tuple es c p => exact tupleE_yes (G := G) I hA.le es
  | Subscript v i p => exact subE_yes (G := G) I hA.le v i
  | Call f args kws p => exact callE_yes I T K hA f args kws
  | ListComp elt gens scope p => exact lcE_yes I T hA.le gens
  | _ => exact trivial
end

omit [Ops] in
theorem boolOf_yes (e : Expr) : Yes (fun q => ∃ p, e = .BoolOp q.1 q.2 p) (boolOf e) := by
  cases e <;> first | exact trivial | exact ⟨_, rfl⟩
omit [Ops] in
theorem cmpOf_yes (e : Expr) : Yes (fun q => e = .Compare q.1 q.2.1 q.2.2.1 q.2.2.2) (cmpOf e) := by
  cases e <;> first | exact trivial | exact rfl
omit [Ops] in
theorem isTrue_plain' {e : Expr} {t : Sem Value} (h : noTest e = false) : isTrue e env t = (do
      let v ← t
      standAt e.pos
      holding [v] (truthy v)) := by
  cases e with
  | BoolOp op es p => exact Bool.noConfusion h
  | Compare l o r p => exact Bool.noConfusion h
  | IfExp a b c p => exact Bool.noConfusion h
  | UnaryOp op x p => cases op <;> first | rfl | exact Bool.noConfusion h
  | _ => rfl
theorem plainT_at {e : Expr} {v : V} {b : Bool} {H1 : Hp} (h : noTest e = false) (p : AtE C A ρ env H e v H1) (hb : truthV H1 v = some b) : AtT C A ρ env H e b H1 := fun R => by
  rw [isTrue_plain' h]
  exact Tri.val (p R) fun x θ1 x1 r1 => Tri.at (Tri.holding ((truthV_yes r1).get hb))
omit [Ops] in
theorem Yes.bool {Q : γ → Prop} {o : Option (BoolOp × List Expr)} {P : BoolOp × List Expr → Prop} {K : BoolOp → List Expr → Option γ} {K' : Option γ} (p : Yes P o) (h : ∀ a b, P (a, b) → Yes Q (K a b)) (h' : Yes Q K') : Yes Q (match (generalizing := false) o with | some (a, b) => K a b | .none => K') := by
  cases o with
  | none => exact h'
  | some q => exact h _ _ p
omit [Ops] in
theorem Yes.cmp {Q : γ → Prop} {o : Option (Expr × List CmpOp × List Expr × Pos)} {P : Expr × List CmpOp × List Expr × Pos → Prop} {K : Expr → List CmpOp → List Expr → Option γ} {K' : Option γ} (p : Yes P o) (h : ∀ a b c d, P (a, b, c, d) → Yes Q (K a b c)) (h' : Yes Q K') : Yes Q (match (generalizing := false) o with | some (a, b, c, _) => K a b c | .none => K') := by
  cases o with
  | none => exact h'
  | some q => exact h _ _ _ _ p
theorem stepT_yes (I : IhS C ih n) (T : Top C G) (hA : Room A n) (e : Expr) : YesH (AtT C A ρ env H e) (stepT ih e ρ H) :=
  Yes.bool (boolOf_yes e) (fun op es ⟨p, e1⟩ => by
    subst e1; exact tests_yes I hA op es) (Yes.cmp (cmpOf_yes e) (fun l ops rs p e1 => by
    subst e1
    exact Yes.vh (I.e hA l) fun a H1 p1 => (chain_yes I T hA p ops rs).mono fun q p2 => cmp_t p1 p2) (by
    refine Yes.f fun hn => ?_
    exact Yes.vh (I.e hA e) fun v H1 p => Yes.bo Yes.self fun b hb => by
      intro θ R; exact plainT_at hn p hb R))
end
end Mine
end
section
open PySem PyProof.Rows
set_option maxRecDepth 100000
namespace Mine
variable [Ops]
section
variable {C : Cx} {G : Env0} {A : Around} {θ : Th} {H H' : Hp} {ρ : Rho} {env : Env} {α β γ : Type} {ih : Ih} {n : Nat}

omit [Ops] in
theorem swaps_no {e : Expr} (h : isComp e = false) (t : Option Expr) (l : Nat) (env : Env) : swapsWith e t l env = pure false := by
  cases e <;> first | rfl | exact Bool.noConfusion h
omit [Ops] in
theorem assign_store (t : Expr) (env : Env) (v : Value) (hs : isStar t = false) : assignAll v ((assignEach [t] env).map (·.2)) = assign t env v := by
  cases t <;> first | rfl | exact Bool.noConfusion hs
theorem asg_star {t : Expr} {v : V} (h : assignT ih ρ t v H = some H') : isStar t = false := by
  cases t <;> first | rfl | cases h
omit [Ops] in
theorem swapped_no {t e : Expr} (h : swapNo t e = true) (env : Env) : swappedStores [t] e env = pure none := by
  cases t with
  | Tuple x y z => cases e <;> first | rfl | exact Bool.noConfusion h
  | List x y => cases e <;> first | rfl | exact Bool.noConfusion h
  | _ => rfl
theorem assignP_at {t e : Expr} {pos : Pos} {v : V} {H1 H2 : Hp} (hc : isComp e = false) (hw : swapNo t e = true) (hs : isStar t = false) (p1 : AtE C A ρ env H e v H1) (p2 : AtAs C A ρ env H1 t v H2) : At1 C A ρ env H (.Assign [t] e pos) .next H2 := fun R => by
  rw [exec_Assign]
  refine Tri.at ?_
  show Tri C A _ H (swapsWith e (some t) pos.line env >>= _) _
  rw [swaps_no hc, pure_bind]
  simp only [Bool.false_eq_true, if_false]
  refine Tri.val (p1 R) fun x θ1 x1 r1 => ?_
  rw [swapped_no hw, pure_bind]
  show Tri C A θ1 H1 (assignAll x ((assignEach [t] env).map (·.2)) >>= _) _
  rw [assign_store _ _ _ hs]
  exact Tri.unit (p2 (R.mono x1) r1) fun θ2 x2 => Tri.pure ⟨rfl, rfl⟩
theorem assignP_yes (I : IhS C ih n) (hA : Room A n) {t e : Expr} {pos : Pos} (hc : isComp e = false) (hw : swapNo t e = true) : YesH (At1 C A ρ env H (.Assign [t] e pos)) (assignP ih ρ t e H) :=
  Yes.vh (I.e hA e) fun v H1 p1 => Yes.hp (Yes.of fun H2 h => (⟨asg_star h, fun R hv => (assignT_yes I hA t).get h R hv⟩ : isStar t = false ∧ AtAs C A ρ env H1 t v H2)) fun H2 q => by
    intro θ R; exact assignP_at hc hw q.1 p1 q.2 R

theorem notOwn_any {x : Str} : ∀ {l : List (Str × NameKind)}, notOwn x l = true → (l.any fun (n, k) => n == x && (k == .local || k == .cell)) = false
  | [], _ => rfl
  | (y, k) :: r, h => by
    unfold notOwn at h
    rw [List.any_cons]
    cases hs : seq y x with
    | false =>
      rw [hs] at h
      have : (y == x) = false := beq_eq_false_iff_ne.mpr (seq_false hs)
      rw [notOwn_any h]; show ((y == x && (k == .local || k == .cell)) || false) = false; rw [this]; rfl
    | true =>
      rw [hs] at h
      cases hk : isOwnK k with
      | true => rw [hk] at h; exact Bool.noConfusion h
      | false =>
        rw [hk] at h
        rw [notOwn_any h]
        cases k <;> first | exact Bool.noConfusion hk | simp
omit [Ops] in
theorem R_block (R : EnvR C θ ρ env) : env.blockKind = .function := by
  unfold Env.blockKind
  rw [R.fn]; rfl
theorem swaps_yes (R : EnvR C θ ρ env) {x : Str} {p : Pos} {elt : Expr} {gens : List Comprehension} {scope : Scope} {epos pos : Pos} (hl : isLoc (kind ρ x) = true) (hp : Nat.beq p.line epos.line = true) (hno : notOwn x scope.names = true) :
    swapsWith (.ListComp elt gens scope epos) (some (.Name x p)) pos.line env = pure true := by
  show (pure (env.blockKind == .function && env.kindOf x == some .local && p.line == (Expr.ListComp elt gens scope epos).pos.line && !(scope.names.any fun (n, k) => n == x && (k == .local || k == .cell))) : Sem Bool) = _
  rw [R_block R, ((kind_yes R).get (isLoc_of hl)).of, notOwn_any hno, show p.line = (Expr.ListComp elt gens scope epos).pos.line from Nat.eq_of_beq_eq_true hp]
  simp
theorem assignC_at {x : Str} {p : Pos} {elt : Expr} {gens : List Comprehension} {scope : Scope} {epos pos : Pos} {v : V} {H1 : Hp} (hl : isLoc (kind ρ x) = true) (hp : Nat.beq p.line epos.line = true) (hno : notOwn x scope.names = true)
    (q : CompR C A ρ env elt gens scope (some (assign (.Name x p) env)) H v H1) : At1 C A ρ env H (.Assign [.Name x p] (.ListComp elt gens scope epos) pos) .next H1 := fun R s S => by
  rw [exec_Assign_Name_used x p (.ListComp elt gens scope epos) pos (swaps_yes R hl hp hno)]
  exact wpAny_bind (wpAny_standAt (wpAny_bind (wpAny_bind (wpAny_mono (q R S) (fun a s' hb => wpAny_pure (wpAny_pure (hb.mono fun θ' H'' h => ⟨h.1, rfl⟩))) fun _ _ x => x))))
omit [Ops] in
theorem nameAt_yes (t : Expr) : Yes (fun q => t = .Name q.1 q.2) (nameAt t) := by
  cases t <;> first | exact rfl | exact trivial
omit [Ops] in
theorem Yes.sp {Q : γ → Prop} {o : Option (Str × Pos)} {P : Str × Pos → Prop} {K : Str → Pos → Option γ} (p : Yes P o) (h : ∀ a b, P (a, b) → Yes Q (K a b)) : Yes Q (match (generalizing := false) o with | some (a, b) => K a b | .none => .none) := by
  cases o with
  | none => exact trivial
  | some q => exact h _ _ p
theorem Yes.vh' {Q : γ → Prop} {x : Option (V × Hp)} {K : Hp → Option γ} {P : V → Hp → Prop} (p : YesH P x) (h : ∀ a H, P a H → Yes Q (K H)) : Yes Q (match (generalizing := false) x with | some (_, H) => K H | .none => .none) := by
  cases x with
  | none => exact trivial
  | some n => exact h n.1 n.2 p
theorem assignC_yes (I : IhS C ih n) (T : Top C G) (hA : Room A n) {t elt : Expr} {gens : List Comprehension} {scope : Scope} {epos pos : Pos} : YesH (At1 C A ρ env H (.Assign [t] (.ListComp elt gens scope epos) pos)) (assignC ih ρ t elt gens scope epos H) :=
  Yes.sp (nameAt_yes t) fun x p e => Yes.t fun hl => Yes.t fun hp => Yes.t fun hno => Yes.vh' (comp_yes I T hA (use := some (assign (.Name x p) env)) (fin := some fun v H => stName ρ H x v) (fun v H => (assign_name (p := p)).mono fun _ h => h) gens) fun v H1 q => by
    intro θ R
    subst e
    exact assignC_at hl hp hno q R
/- a cell for its target -/
omit [Ops] in
theorem swaps_cell {x : Str} {p : Pos} {elt : Expr} {gens : List Comprehension} {scope : Scope} {epos : Pos} (h : env.kindOf x = some .cell) (l : Nat) : swapsWith (.ListComp elt gens scope epos) (some (.Name x p)) l env = pure false := by
  show (pure (env.blockKind == .function && env.kindOf x == some .local && p.line == (Expr.ListComp elt gens scope epos).pos.line && !(scope.names.any fun (n, k) => n == x && (k == .local || k == .cell))) : Sem Bool) = _
  rw [h, show (some NameKind.cell == some NameKind.local) = false from rfl, Bool.and_false, Bool.false_and, Bool.false_and]
theorem assignK_at {x : Str} {p : Pos} {elt : Expr} {gens : List Comprehension} {scope : Scope} {epos pos : Pos} {v : V} {H1 H2 : Hp} (hk : kind ρ x = some .cell) (p1 : AtE C A ρ env H (.ListComp elt gens scope epos) v H1) (p2 : AtAs C A ρ env H1 (.Name x p) v H2) : At1 C A ρ env H (.Assign [.Name x p] (.ListComp elt gens scope epos) pos) .next H2 := fun R => by
  rw [exec_Assign]
  refine Tri.at ?_
  show Tri C A _ H (swapsWith (.ListComp elt gens scope epos) (some (.Name x p)) pos.line env >>= _) _
  rw [swaps_cell ((kind_yes R).get hk).of, pure_bind]
  simp only [Bool.false_eq_true, if_false]
  refine Tri.val (p1 R) fun y θ1 x1 r1 => ?_
  rw [show swappedStores [Expr.Name x p] (.ListComp elt gens scope epos) env = pure none from rfl, pure_bind]
  show Tri C A θ1 H1 (assignAll y ((assignEach [Expr.Name x p] env).map (·.2)) >>= _) _
  rw [assign_store _ _ _ rfl]
  exact Tri.unit (p2 (R.mono x1) r1) fun θ2 x2 => Tri.pure ⟨rfl, rfl⟩
omit [Ops] in
theorem isCellK_of {k : Option NameKind} (h : isCellK k = true) : k = some .cell := by
  cases k with
  | none => exact Bool.noConfusion h
  | some k => cases k <;> first | rfl | exact Bool.noConfusion h
theorem isCellT_of {t : Expr} (h : isCellT ρ t = true) : ∃ x p, t = .Name x p ∧ kind ρ x = some .cell := by
  unfold isCellT at h
  have y := nameAt_yes t
  cases e : nameAt t with
  | none => rw [e] at h; exact Bool.noConfusion h
  | some q => rw [e] at h y; exact ⟨q.1, q.2, y, isCellK_of h⟩
theorem stepLC_yes (I : IhS C ih n) (T : Top C G) (hA : Room A n) {t elt : Expr} {gens : List Comprehension} {scope : Scope} {epos pos : Pos} : YesH (At1 C A ρ env H (.Assign [t] (.ListComp elt gens scope epos) pos)) (stepS_LC ih ρ H t (.ListComp elt gens scope epos) elt gens scope epos) :=
  Yes.b (fun h => by
    obtain ⟨x, p, e, hk⟩ := isCellT_of h
    subst e
    exact Yes.vh (I.e hA _) fun v H1 p1 => Yes.hp (assign_name (p := p)) fun H2 p2 => by
      intro θ R; exact assignK_at hk p1 p2 R) fun _ => assignC_yes I T hA
/- a dict comprehension for a name -/
theorem swapsD_yes (R : EnvR C θ ρ env) {x : Str} {p : Pos} {kx vx : Expr} {gens : List Comprehension} {scope : Scope} {epos pos : Pos} (hl : isLoc (kind ρ x) = true) (hp : Nat.beq p.line epos.line = true) (hno : notOwn x scope.names = true) :
    swapsWith (.DictComp kx vx gens scope epos) (some (.Name x p)) pos.line env = pure true := by
  show (pure (env.blockKind == .function && env.kindOf x == some .local && p.line == (Expr.DictComp kx vx gens scope epos).pos.line && !(scope.names.any fun (n, k) => n == x && (k == .local || k == .cell))) : Sem Bool) = _
  rw [R_block R, ((kind_yes R).get (isLoc_of hl)).of, notOwn_any hno, show p.line = (Expr.DictComp kx vx gens scope epos).pos.line from Nat.eq_of_beq_eq_true hp]
  simp
theorem assignD_at {x : Str} {p : Pos} {kx vx : Expr} {g : Comprehension} {scope : Scope} {epos pos : Pos} {v : V} {H1 : Hp} (hl : isLoc (kind ρ x) = true) (hp : Nat.beq p.line epos.line = true) (hno : notOwn x scope.names = true)
    (q : CompD C A ρ env kx vx g scope (some (assign (.Name x p) env)) H v H1) : At1 C A ρ env H (.Assign [.Name x p] (.DictComp kx vx [g] scope epos) pos) .next H1 := fun R s S => by
  rw [exec_Assign_Name_used x p (.DictComp kx vx [g] scope epos) pos (swapsD_yes R hl hp hno)]
  exact wpAny_bind (wpAny_standAt (wpAny_bind (wpAny_bind (wpAny_mono (q R S) (fun a s' hb => wpAny_pure (wpAny_pure (hb.mono fun θ' H'' h => ⟨h.1, rfl⟩))) fun _ _ x => x))))
theorem assignD_yes (I : IhS C ih n) (T : Top C G) (hA : Room A n) {t kx vx : Expr} {gens : List Comprehension} {scope : Scope} {epos pos : Pos} : YesH (At1 C A ρ env H (.Assign [t] (.DictComp kx vx gens scope epos) pos)) (assignD ih ρ t kx vx gens scope epos H) :=
  Yes.sp (nameAt_yes t) fun x p e => Yes.t fun hl => Yes.t fun hp => Yes.t fun hno => Yes.vh' (compD_yes I T hA (use := some (assign (.Name x p) env)) (fin := some fun v H => stName ρ H x v) (fun v H => (assign_name (p := p)).mono fun _ h => h) gens) fun v H1 q => by
    obtain ⟨g, eg, q⟩ := q
    intro θ R
    subst e; subst eg
    exact assignD_at hl hp hno q R
end
end Mine
end
section
open PySem PyProof.Rows
set_option maxRecDepth 100000
namespace Mine
variable [Ops]
section
variable {C : Cx} {G : Env0} {A : Around} {θ : Th} {H H' : Hp} {ρ : Rho} {env : Env} {α β γ : Type} {ih : Ih} {n : Nat}

/- names that are stored in one go -/
structure NmR (env : Env) (line : Nat) (ts : List Expr) (names : List Str) : Prop where
  len : names.length = ts.length
  fm : ∀ f : Expr → Option Str, (∀ id pos, f (.Name id pos) = if env.kindOf id == some .local && pos.line == line then some id else none) → ts.filterMap f = names
  hd : ts = [] ∨ ∃ x p r, ts = .Name x p :: r
theorem namesOf_yes (R : EnvR C θ ρ env) {line : Nat} : ∀ ts : List Expr, Yes (NmR env line ts) (namesOf ρ line ts)
  | [] => ⟨rfl, fun _ _ => rfl, .inl rfl⟩
  | t :: ts => Yes.sp (nameAt_yes t) fun x p e => Yes.t fun h1 => Yes.t fun h2 => Yes.ss (namesOf_yes R ts) fun l k => Yes.ok (by
    have e : t = .Name x p := e
    subst e
    refine ⟨congrArg (· + 1) k.len, fun f hf => ?_, .inr ⟨x, p, ts, rfl⟩⟩
    rw [List.filterMap_cons, hf, ((kind_yes R).get (isLoc_of h1)).of, Nat.eq_of_beq_eq_true h2, k.fm f hf]
    simp only [beq_self_eq_true, Bool.and_self, if_true])
omit [Ops] in
theorem noStar_any (f : Expr → Bool) (hf : ∀ e, f e = isStar e) : ∀ {vs : List Expr}, noStar vs = true → vs.any f = false
  | [], _ => rfl
  | e :: r, h => by
    unfold noStar at h
    cases hs : isStar e with
    | true => rw [hs] at h; exact Bool.noConfusion h
    | false =>
      rw [hs] at h
      rw [List.any_cons, noStar_any f hf h, hf, hs]; rfl
omit [Ops] in
theorem twoThree_of {k : Nat} (h : twoThree k = true) : (k == 2 || k == 3) = true := by
  unfold twoThree at h
  cases h2 : Nat.beq k 2 with
  | true => rw [Nat.eq_of_beq_eq_true h2]; rfl
  | false => rw [h2] at h; rw [Nat.eq_of_beq_eq_true h]; rfl
omit [Ops] in
theorem isStar_fun : (fun | .Starred .. => true | _ => false : Expr → Bool) = isStar := funext fun e => by cases e <;> rfl
structure AsK (ρ : Rho) (ts vs : List Expr) (names : List Str) : Prop where
  two : twoThree ts.length = true
  len : Nat.beq vs.length ts.length = true
  star : noStar vs = true
  nm : namesOf ρ (lineOf ts) ts = some names
  nd : nodupS names = true
  fold : vs.all (foldedForSure 8) = false
  con : vs.all (constantsAlone 8) = false
theorem assignOk_yes (ts vs : List Expr) : Yes (AsK ρ ts vs) (assignOk ρ ts vs) :=
  Yes.tt fun h1 h2 => Yes.t fun h3 => Yes.ss Yes.self fun names h4 => Yes.t fun h5 => Yes.ff fun h6 h7 => Yes.ok ⟨h1, h2, h3, h4, h5, h6, h7⟩
theorem swapped_yes (R : EnvR C θ ρ env) {ts vs : List Expr} {a b : _} {c d : Pos} {names : List Str} (k : AsK ρ ts vs names) : swappedStores [.Tuple ts a c] (.Tuple vs b d) env = pure (some names) := by
  have key := (namesOf_yes R ts).get k.nm
  have hl : (ts.head?.map (·.pos.line)).getD 0 = lineOf ts := by
    rcases key.hd with rfl | ⟨x, p, r, rfl⟩ <;> rfl
  unfold swappedStores
  simp only
  rw [hl, twoThree_of k.two, Nat.eq_of_beq_eq_true k.len, R_block R, noStar_any _ (fun e => by cases e <;> rfl) k.star, key.fm _ (fun _ _ => rfl), key.len, eraseDups_of_nodup _ (nodupS_iff k.nd), key.len, k.fold, k.con]
  simp

theorem bindRev_tri : ∀ {names : List Str} {vs : List V} {as : List Value} {H H' : Hp} {θ : Th}, EnvR C θ ρ env → AR θ vs as → names.length = vs.length → bindAll ρ (names.zip vs) H = some H' →
    TriU C A θ H (assignInOrder (names.map fun n => bindName env n) as) H'
  | [], [], [], H, H', θ, R, r, hl, h => by injection h with h; exact Tri.pure h
  | x :: ns, v :: vs, a :: as, H, H', θ, R, r, hl, h => by
    have y : Yes (fun H' => TriU C A θ H (assignInOrder ((x :: ns).map fun n => bindName env n) (a :: as)) H') (bindAll ρ ((x, v) :: ns.zip vs) H) :=
      Yes.h fun H1 h1 => Yes.of fun H2 h2 => Tri.hold (Tri.unit ((bindName_yes R r.1).get h1) fun θ1 x1 => bindRev_tri (R.mono x1) (r.2.mono x1) (Nat.succ.inj hl) h2)
    exact y.get h
  | [], _ :: _, _, _, _, _, _, _, hl, _ => nomatch hl
  | _ :: _, [], _, _, _, _, _, _, hl, _ => nomatch hl
  | _, _ :: _, [], _, _, _, _, r, _, _ => r.elim
  | _, [], _ :: _, _, _, _, _, r, _, _ => r.elim
theorem assignX_at (hA : Room A n) {ts vs : List Expr} {a b : _} {c d pos : Pos} {names : List Str} {l : Nat} {ws : List V} {H1 : Hp} (k : AsK ρ ts vs names) (p : AtE C A ρ env H (.Tuple vs b d) (.ref l) H1) (hl : Ops.get H1 l = some (.tup ws)) (hlen : Nat.beq ws.length names.length = true)
    (hb : bindAll ρ (names.reverse.zip ws.reverse) H1 = some H') : At1 C A ρ env H (.Assign [.Tuple ts a c] (.Tuple vs b d) pos) .next H' := fun R s S => by
  refine Assign_Tuple_swapped (names := names) ?_ (show swapsWithSole [.Tuple ts a c] (.Tuple vs b d) pos.line env = pure false from swaps_no (e := .Tuple vs b d) rfl (some (.Tuple ts a c)) pos.line env) (swapped_yes R k)
  refine wpAny_mono (p R s S) (fun x s1 hx => hx.elim fun θ1 Hx g1 S1 ⟨e, y, e1, e2⟩ => ?_) fun _ _ x => x
  subst e; subst e2
  obtain ⟨a1, n1, q1, r1⟩ := S1.tupAt hl e1
  have hn : names.length = a1.size := by rw [r1.size]; exact (Nat.eq_of_beq_eq_true hlen).symm
  rw [hn]
  refine wpAny_sized (wpAny_unpackItems_tuple hA.hh ⟨_, q1, rfl, n1, rfl⟩ fun h' hs hk hz => ?_)
  have u := S1.same (s' := { s1 with heap := h' }) (fun b o e => hs b o (Nat.ne_of_lt (Heap.lt_size e)) e) hz hk rfl rfl
  exact wpAny_mono (bindRev_tri (A := A) (R.mono g1.ext) r1.reverse (by rw [List.length_reverse, List.length_reverse]; exact (Nat.eq_of_beq_eq_true hlen).symm) hb _ u.1) (fun _ s3 hb => hb.elim fun θ3 H3 g3 S3 e => .mk' (g1.trans (u.2.trans g3)) S3 ⟨e, rfl⟩) fun _ _ x => x
theorem assignW_yes (I : IhS C ih n) (hA : Room A n) {ts vs : List Expr} {a b : _} {c d pos : Pos} : YesH (At1 C A ρ env H (.Assign [.Tuple ts a c] (.Tuple vs b d) pos)) (assignW ih ρ ts vs (.Tuple vs b d) H) :=
  Yes.ss (assignOk_yes ts vs) fun names k => Yes.vh (I.e hA _) fun v H1 p => Yes.n' (vRef_yes v) fun l e => Yes.vs (tupAt_yes l) fun ws hl => Yes.t fun hlen => Yes.h fun H2 hb => by
    intro θ R
    subst e
    exact assignX_at hA k p hl hlen hb R
omit [Ops] in
theorem lcOf_yes (e : Expr) : Yes (fun q => e = .ListComp q.1 q.2.1 q.2.2.1 q.2.2.2) (lcOf e) := by
  cases e <;> first | exact trivial | exact rfl
omit [Ops] in
theorem Yes.lc {Q : γ → Prop} {o : Option (Expr × List Comprehension × Scope × Pos)} {P : Expr × List Comprehension × Scope × Pos → Prop} {K : Expr → List Comprehension → Scope → Pos → Option γ} {K' : Option γ} (p : Yes P o) (h : ∀ a b c d, P (a, b, c, d) → Yes Q (K a b c d)) (h' : Yes Q K') :
    Yes Q (match (generalizing := false) o with | some (a, b, c, d) => K a b c d | .none => K') := by
  cases o with
  | none => exact h'
  | some q => exact h _ _ _ _ p
omit [Ops] in
theorem Yes.le {Q : γ → Prop} {o : Option (List Expr)} {P : List Expr → Prop} {K : List Expr → Option γ} (p : Yes P o) (h : ∀ a, P a → Yes Q (K a)) : Yes Q (match (generalizing := false) o with | some a => K a | .none => .none) := by
  cases o with
  | none => exact trivial
  | some q => exact h _ p
section
variable {pos : Pos}
omit [Ops] in
theorem dcOf_yes (e : Expr) : Yes (fun q => e = .DictComp q.1 q.2.1 q.2.2.1 q.2.2.2.1 q.2.2.2.2) (dcOf e) := by
  cases e <;> first | exact trivial | exact rfl
omit [Ops] in
theorem Yes.dc {Q : γ → Prop} {o : Option (Expr × Expr × List Comprehension × Scope × Pos)} {P : Expr × Expr × List Comprehension × Scope × Pos → Prop} {K : Expr → Expr → List Comprehension → Scope → Pos → Option γ} {K' : Option γ} (p : Yes P o) (h : ∀ a b c d e, P (a, b, c, d, e) → Yes Q (K a b c d e)) (h' : Yes Q K') :
    Yes Q (match (generalizing := false) o with | some (a, b, c, d, e) => K a b c d e | .none => K') := by
  cases o with
  | none => exact h'
  | some q => exact h _ _ _ _ _ p
theorem assignS_yes (I : IhS C ih n) (T : Top C G) (hA : Room A n) (t e : Expr) : YesH (At1 C A ρ env H (.Assign [t] e pos)) (stepS_Assign ih G ρ H t e) :=
  Yes.lc (lcOf_yes e) (fun elt gens scope p e1 => by
    have e1 : e = .ListComp elt gens scope p := e1
    subst e1
    exact stepLC_yes I T hA) (Yes.dc (dcOf_yes e) (fun kx vx gens scope p e1 => by
    have e1 : e = .DictComp kx vx gens scope p := e1
    subst e1
    exact assignD_yes I T hA) (by
    refine Yes.f fun hc => ?_
    refine Yes.b (fun hw => assignP_yes I hA hc hw) fun hw => ?_
    exact Yes.le (tupOf_yes t) fun ts ⟨a, c, e1⟩ => Yes.le (tupOf_yes e) fun vs ⟨b, d, e2⟩ => by
      subst e1; subst e2
      exact assignW_yes I hA))

omit [Ops] in
theorem plain_val {v : V} {a : Value} (h : VR θ v a) (hv : vRef v = .none) : ∀ x, a ≠ .ref x := by
  intro x e
  subst e
  cases v with
  | ref l => cases hv
  | none => cases h
  | bool => cases h
  | int => obtain ⟨_, _, h⟩ := h; cases h
  | str => obtain ⟨_, _, h⟩ := h; cases h
  | lit => obtain ⟨_, _, _, h⟩ := h; cases h
  | flt => obtain ⟨_, _, _, h⟩ := h; cases h
theorem expr_at {e : Expr} {v : V} {H1 : Hp} (hc : isComp e = false) (p : AtE C A ρ env H e v H1) (hv : vRef v = .none) : At1 C A ρ env H (.Expr e pos) .next H1 := fun R => by
  rw [exec_Expr _ _ _ (by unfold interactive; rw [R.fn]; rfl) (swaps_no hc _ _ _)]
  refine Tri.at (Tri.val (p R) fun x θ1 x1 r1 => ?_)
  rw [dropValue_plain (plain_val r1 hv)]
  exact Tri.pure ⟨rfl, rfl⟩
omit [Ops] in
theorem Yes.non {Q : γ → Prop} {o : Option Nat} {K : Option γ} (h : o = .none → Yes Q K) : Yes Q (match (generalizing := false) o with | some _ => .none | .none => K) := by
  cases o with
  | none => exact h rfl
  | some q => exact trivial
theorem exprS_yes (I : IhS C ih n) (hA : Room A n) (e : Expr) : YesH (At1 C A ρ env H (.Expr e pos)) (stepS_Expr ih G ρ H e) := by
  refine Yes.f fun hc => ?_
  exact Yes.vh (I.e hA e) fun v H1 p => Yes.non fun hv => by
    intro θ R; exact expr_at hc p hv R
theorem ret_at {e : Expr} {v : V} {H1 : Hp} (p : AtE C A ρ env H e v H1) : At1 C A ρ env H (.Return (some e) pos) (.ret v) H1 := fun R => by
  rw [exec_Return_some]
  exact Tri.at (Tri.val (p R) fun x θ1 x1 r1 => Tri.pure ⟨rfl, x, rfl, r1⟩)
theorem ret_none : At1 C A ρ env H (.Return none pos) (.ret .none) H := fun R => by
  rw [exec_Return_none]
  exact Tri.at (Tri.pure ⟨rfl, .none, rfl, rfl⟩)
theorem retS_yes (I : IhS C ih n) (hA : Room A n) (e : Option Expr) : YesH (At1 C A ρ env H (.Return e pos)) (stepS_Return ih G ρ H e) := by
  cases e with
  | none => exact ret_none
  | some e => exact Yes.vh (I.e hA e) fun v H1 p => by intro θ R; exact ret_at p R
omit [Ops] in
theorem augStore_item {i : Expr} (h : notSlice i = true) (ov iv new : Value) : augStore i ov iv new = (do
    holding [new, ov, iv] (setItem ov iv new)
    release [new, ov, iv] []
    pure .next) := by
  cases i <;> first | rfl | exact Bool.noConfusion h
theorem augN_at (T : Top C G) {x : Str} {p : Pos} {op : Operator} {e : Expr} {old v r : V} {H1 H2 : Hp} (h0 : ldName G ρ H x = some old) (p1 : AtE C A ρ env H e v H1) (h1 : inP op (norm old) (norm v) = some r) (h2 : stName ρ H1 x r = some H2) : At1 C A ρ env H (.AugAssign (.Name x p) op e pos) .next H2 := fun R => by
  rw [exec_AugAssign_Name]
  exact Tri.at (Tri.val ((loadName_yes T R).get h0) fun x θ1 x1 r1 => Tri.hold (Tri.val (p1 (R.mono x1)) fun y θ2 x2 r2 => Tri.at (Tri.oper (Tri.val ((inP_yes (r1.mono x2).norm r2.norm).get h1) fun z θ3 x3 r3 =>
    Tri.at (Tri.unit ((bindName_yes (R.mono (x1.trans (x2.trans x3))) r3).get h2) fun θ4 x4 => Tri.pure ⟨rfl, rfl⟩)))))
theorem augN_yes (I : IhS C ih n) (T : Top C G) (hA : Room A n) {x : Str} {p : Pos} {op : Operator} (e : Expr) : YesH (At1 C A ρ env H (.AugAssign (.Name x p) op e pos)) (stepS_AugN ih G ρ H x op e) :=
  Yes.v fun old h0 => Yes.vh (I.e hA e) fun v H1 p1 => Yes.v fun r h1 => Yes.h fun H2 h2 => by
    intro θ R; exact augN_at T h0 p1 h1 h2 R
theorem augS_at {o i e : Expr} {p : Pos} {op : Operator} {ov iv old v r : V} {H1 H2 H3 H4 : Hp} (hn : notSlice i = true) (p1 : AtE C A ρ env H o ov H1) (p2 : AtE C A ρ env H1 i iv H2) (h0 : itemV ov iv H2 = some old) (p3 : AtE C A ρ env H2 e v H3) (h1 : inP op (norm old) (norm v) = some r) (h2 : setV ov iv r H3 = some H4) : At1 C A ρ env H (.AugAssign (.Subscript o i p) op e pos) .next H4 := fun R => by
  show Tri C A _ H (PySem.standAt _ >>= fun _ => eval _ env >>= _) _
  refine Tri.at (Tri.val (p1 R) fun x θ1 x1 r1 => Tri.hold (Tri.val (p2 (R.mono x1)) fun y θ2 x2 r2 => Tri.hold ?_))
  simp only [bind_assoc]
  refine Tri.at (Tri.val ((itemV_yes (r1.mono x2) r2).get h0) fun z θ3 x3 r3 => Tri.hold (Tri.val (p3 (R.mono (x1.trans (x2.trans x3)))) fun w θ4 x4 r4 => Tri.at (Tri.oper (Tri.val ((inP_yes (r3.mono x4).norm r4.norm).get h1) fun u θ5 x5 r5 => Tri.at ?_))))
  rw [augStore_item hn]
  have x35 := x3.trans (x4.trans x5)
  exact Tri.hold (Tri.unit ((setV_yes (r1.mono (x2.trans x35)) (r2.mono x35) r5).get h2) fun θ6 x6 => Tri.release (Tri.pure ⟨rfl, rfl⟩))
theorem augS_yes (I : IhS C ih n) (hA : Room A n) {o i : Expr} {p : Pos} {op : Operator} (e : Expr) : YesH (At1 C A ρ env H (.AugAssign (.Subscript o i p) op e pos)) (stepS_AugS ih G ρ H o i op e) :=
  Yes.t fun hn => Yes.vh (I.e hA o) fun ov H1 p1 => Yes.vh (I.e hA i) fun iv H2 p2 => Yes.v fun old h0 => Yes.vh (I.e hA e) fun v H3 p3 => Yes.v fun r h1 => Yes.h fun H4 h2 => by
    intro θ R; exact augS_at hn p1 p2 h0 p3 h1 h2 R
theorem aug_yes (I : IhS C ih n) (T : Top C G) (hA : Room A n) (t : Expr) {op : Operator} (e : Expr) : YesH (At1 C A ρ env H (.AugAssign t op e pos)) (stepS_Aug ih G ρ H t op e) := by
  cases t with
  | Name x p => exact augN_yes I T hA e
  | Subscript o i p => exact augS_yes (G := G) I hA e
  | _ => exact trivial
theorem ifS_t {t : Expr} {b o : List Stmt} {H1 : Hp} {f : Fl} (p1 : AtT C A ρ env H t true H1) (p2 : AtS C A ρ env H1 b f H') : At1 C A ρ env H (.If t b o pos) f H' := fun R => by
  rw [exec_If]
  refine Tri.at (Tri.bool (p1 R) fun θ1 x1 => ?_)
  simp only [if_true]
  exact p2 (R.mono x1)
theorem ifS_f {t : Expr} {b o : List Stmt} {H1 : Hp} {f : Fl} (p1 : AtT C A ρ env H t false H1) (p2 : AtS C A ρ env H1 o f H') : At1 C A ρ env H (.If t b o pos) f H' := fun R => by
  rw [exec_If]
  refine Tri.at (Tri.bool (p1 R) fun θ1 x1 => ?_)
  simp only [Bool.false_eq_true, if_false]
  exact p2 (R.mono x1)
theorem ifS_yes (I : IhS C ih n) (hA : Room A n) (t : Expr) (b o : List Stmt) : YesH (At1 C A ρ env H (.If t b o pos)) (stepS_If ih G ρ H t b o) :=
  Yes.bh2 (I.t hA t) (fun H1 p1 => (I.s hA b).mono fun q p2 => ifS_t p1 p2) fun H1 p1 => (I.s hA o).mono fun q p2 => ifS_f p1 p2
end
end
end Mine
end
section
open PySem PyProof.Rows
set_option maxRecDepth 100000
namespace Mine
variable [Ops]
section
variable {C : Cx} {G : Env0} {A : Around} {θ : Th} {H H' : Hp} {ρ : Rho} {env : Env} {α β γ : Type} {ih : Ih} {n : Nat}

/- a generator's call at the head of a loop -/
structure GvR (ih : Ih) (G : Env0) (ρ : Rho) (H : Hp) (it : Expr) (U : List (Nat × List Nat)) (H1 : Hp) : Prop where
  c : ih.c = true
  ex : ∃ f p args pos v x, it = .Call (.Name f p) args [] pos ∧ kind ρ f = some .globalImplicit ∧ G.gen f = true ∧ evs ih ρ args H = some ([v], H1) ∧ norm v = .str x ∧ U = itemsG 0 false x
omit [Ops] in
theorem one_yes (vs : List V) : Yes (fun a => vs = [a]) (one vs) := by
  cases vs with
  | nil => exact trivial
  | cons a vs => cases vs with
    | nil => exact rfl
    | cons => exact trivial
omit [Ops] in
theorem Yes.ns' {Q : γ → Prop} {o : Option (List Nat)} {P : List Nat → Prop} {K : List Nat → Option γ} (p : Yes P o) (h : ∀ a, P a → Yes Q (K a)) : Yes Q (match (generalizing := false) o with | some a => K a | .none => .none) := by
  cases o with
  | none => exact trivial
  | some q => exact h _ p
theorem evGen_yes (it : Expr) : Yes (fun q => GvR ih G ρ H it q.1 q.2) (evGen ih G ρ it H) :=
  Yes.t fun hc => Yes.nc (nameCall_yes it) fun f args ⟨p, pos, e⟩ => Yes.t fun hg => Yes.t fun hG => Yes.vsh (P := fun vs H1 => evs ih ρ args H = some (vs, H1)) (Yes.of fun _ h => h) fun vs H1 he => Yes.v fun v hv => Yes.ns' (vStr_yes (norm v)) fun x hx =>
    ⟨hc, f, p, args, pos, v, x, e, isGlobal_of hg, hG, (one_yes vs).get hv ▸ he, hx, rfl⟩
/- what is to be shown of the generator -/
structure GenH (C : Cx) (G : Env0) : Prop where
  loop : ∀ {ih : Ih} {n : Nat} {A : Around} {H H1 : Hp} {ρ : Rho} {env : Env} {it t : Expr} {body : List Stmt} {p : Pos} {U : List (Nat × List Nat)}, IhS C ih n → Room A n → GvR ih G ρ H it U H1 →
    YesH (At1 C A ρ env H (.For t it body [] p)) (loopG (assignT ih ρ t) (ih.s body ρ) U H1)
theorem GenH.none (h : ∀ f, G.gen f = false) : GenH C G where
  loop := fun I hA g => by
    obtain ⟨f, p, args, pos, v, x, e, hk, hG, _⟩ := g.ex
    exact Bool.noConfusion ((h f).symm.trans hG)
theorem Yes.gU {Q : γ → Prop} {o : Option (List (Nat × List Nat) × Hp)} {P : List (Nat × List Nat) → Hp → Prop} {K : List (Nat × List Nat) → Hp → Option γ} {K' : Option γ} (p : Yes (fun q => P q.1 q.2) o) (h : ∀ a b, P a b → Yes Q (K a b)) (h' : Yes Q K') : Yes Q (match (generalizing := false) o with | some (a, b) => K a b | .none => K') := by
  cases o with
  | none => exact h'
  | some q => exact h _ _ p
section
variable {pos : Pos}
theorem forS_yes (I : IhS C ih n) (T : Top C G) (GH : GenH C G) (hA : Room A n) {t it : Expr} {b : List Stmt} : YesH (At1 C A ρ env H (.For t it b [] pos)) (stepS_For ih G ρ H t it b) :=
  Yes.gU (evGen_yes it) (fun U H1 g => GH.loop I hA g) (Yes.nh (evIter_yes I T hA it) fun z H1 k => execFor_yes I hA k)
theorem asS_yes (I : IhS C ih n) (T : Top C G) (hA : Room A n) (ts : List Expr) (e : Expr) : YesH (At1 C A ρ env H (.Assign ts e pos)) (stepS_As ih G ρ H ts e) := by
  cases ts with
  | nil => exact trivial
  | cons t r => cases r with
    | nil => exact assignS_yes I T hA t e
    | cons => exact trivial
theorem brk_at : At1 C A ρ env H (.Break pos) .brk H := fun R => Tri.at (Tri.pure ⟨rfl, rfl⟩)
omit [Ops] in
theorem noSts_of {o : List Stmt} (h : noSts o = true) : o = [] := by
  cases o with
  | nil => rfl
  | cons => exact Bool.noConfusion h
theorem whileS_yes (I : IhS C ih n) (hA : Room A n) {t : Expr} {b o : List Stmt} : YesH (At1 C A ρ env H (.While t b o pos)) (match (generalizing := false) noSts o with | true => stepS_While ih G ρ H t b | false => .none) :=
  Yes.t fun h => noSts_of h ▸ execWhile_yes I hA
theorem forS_yes' (I : IhS C ih n) (T : Top C G) (GH : GenH C G) (hA : Room A n) {t it : Expr} {b o : List Stmt} : YesH (At1 C A ρ env H (.For t it b o pos)) (match (generalizing := false) noSts o with | true => stepS_For ih G ρ H t it b | false => .none) :=
  Yes.t fun h => noSts_of h ▸ forS_yes I T GH hA
theorem stepS_yes (I : IhS C ih n) (T : Top C G) (GH : GenH C G) (hA : Room A (n + 1)) (st : Stmt) : YesH (At1 C A ρ env H st) (stepS ih G st ρ H) := by
  cases st with
  | Expr e p => exact exprS_yes (G := G) I hA.le e
  | Break p => exact brk_at
  | Return e p => exact retS_yes (G := G) I hA.le e
  | Assign ts e p => exact asS_yes I T hA.le ts e
  | AugAssign t op e p => exact aug_yes I T hA.le t e
  | If t b o p => exact ifS_yes (G := G) I hA.le t b o
  | While t b o p => exact whileS_yes (G := G) I hA.le
  | For t it b o p => exact forS_yes' I T GH hA.le
  | FunctionDef name args body decs ret ps scope cm bind p =>
    cases decs with
    | cons => exact trivial
    | nil => cases ret with
      | some => exact trivial
      | none => cases ps with
        | cons => exact trivial
        | nil => cases cm with
          | some => exact trivial
          | none => exact def_yes (ih := ih) T
  | _ => exact trivial
end
theorem ss_next {st : Stmt} {r : List Stmt} {H1 : Hp} {f : Fl} (p : At1 C A ρ env H st .next H1) (q : AtS C A ρ env H1 r f H') : AtS C A ρ env H (st :: r) f H' := fun {θ} R => by
  show Tri C A θ H (exec st env >>= fun f => match f with | .next => execs r env | f => pure f) _
  refine Tri.bind (p R) fun fl θ1 H2 x1 h2 => ?_
  obtain ⟨rfl, rf⟩ := h2
  rw [show fl = .next from rf]
  exact q (R.mono x1)
theorem ss_stop {st : Stmt} {r : List Stmt} {f : Fl} {H1 : Hp} (hf : (f matches .next) = false) (p : At1 C A ρ env H st f H1) : AtS C A ρ env H (st :: r) f H1 := fun {θ} R => by
  show Tri C A θ H (exec st env >>= fun f => match f with | .next => execs r env | f => pure f) _
  refine Tri.bind (p R) fun fl θ1 H2 x1 h2 => ?_
  obtain ⟨rfl, rf⟩ := h2
  cases f with
  | next => exact Bool.noConfusion hf
  | brk => rw [show fl = .brk from rf]; exact Tri.pure ⟨rfl, rfl⟩
  | cont => rw [show fl = .cont from rf]; exact Tri.pure ⟨rfl, rfl⟩
  | ret v =>
    obtain ⟨a, rfl, ra⟩ := rf
    exact Tri.pure ⟨rfl, a, rfl, ra⟩
theorem stepSs_yes (I : IhS C ih n) (T : Top C G) (GH : GenH C G) (hA : Room A (n + 1)) : ∀ (ss : List Stmt) {H : Hp}, YesH (AtS C A ρ env H ss) (stepSs ih G ρ ss H)
  | [], H => by intro R; exact Tri.pure ⟨rfl, rfl⟩
  | st :: r, H => Yes.fh (stepS_yes I T GH hA st) fun f H1 p => by
    cases f with
    | next => exact (stepSs_yes I T GH hA r).mono fun q h => ss_next p h
    | brk => intro θ R; exact ss_stop rfl p R
    | cont => intro θ R; exact ss_stop rfl p R
    | ret v => intro θ R; exact ss_stop rfl p R
theorem ev_yes (T : Top C G) (K : ConS C G) (GH : GenH C G) : ∀ n, IhS C (ev G n) n
  | 0 => { e := fun _ _ => trivial, t := fun _ _ => trivial, s := fun _ _ => trivial, c := fun h => (nomatch h), noset := fun _ _ _ _ => rfl }
  | n + 1 => ⟨fun hA x => stepE_yes (ev_yes T K GH n) T K hA x, fun hA x => stepT_yes (ev_yes T K GH n) T hA.le x, fun hA x => stepSs_yes (ev_yes T K GH n) T GH hA x,
    fun h => by rw [← T.lev]; exact Nat.le_of_ble_eq_true h, fun x ρ H h => by
      cases x with
      | Set a b => rfl
      | _ => exact Bool.noConfusion h⟩
/- a run of a function is a call of it -/
theorem run_sound (T : Top C G) (K : ConS C G) (GH : GenH C G) {f : Str} {vs : List V} {as : List Value} {v : V} {s : Shared} {a : Addr} (hA : Room A (n + 1)) (S : St C θ H s) (r : AR θ vs as) (ha : C.mg f = some (.ref a)) (h : run G n f vs H = some (v, H')) :
    wpAny (model C.prog C.w) A (call (.ref a) as) (GivV C θ s v H') (fun _ _ => False) s := by
  have y : YesH (CfR C A f vs H) (run G n f vs H) := Yes.fnn' Yes.self fun F hF => (callRun_yes (ev_yes T K GH n) T hA).mono fun q h => run_tx T hF h
  obtain ⟨a', e, k⟩ := y.get h
  rw [ha] at e; injection e with e; injection e with e; subst e
  exact (k S).go r
end
end Mine
end
section
open PySem PyProof.Rows
namespace Mine
variable [Ops]
section
variable {C : Cx} {G : Env0} {A : Around} {θ : Th} {H H' : Hp} {ρ : Rho} {env : Env} {ih : Ih} {n : Nat}
theorem IhS.ge (I : IhS C ih n) (hA : Room A n) (R : EnvR C θ ρ env) {e : Expr} {v : V} (h : ih.e e ρ H = some (v, H')) : TriV C A θ H (eval e env) v H' := (I.e hA e).get h R
theorem IhS.gt (I : IhS C ih n) (hA : Room A n) (R : EnvR C θ ρ env) {e : Expr} {b : Bool} (h : ih.t e ρ H = some (b, H')) : TriB C A θ H (isTrue e env (eval e env)) b H' := (I.t hA e).get h R
theorem IhS.gs (I : IhS C ih n) (hA : Room A n) (R : EnvR C θ ρ env) {e : List Stmt} {f : Fl} (h : ih.s e ρ H = some (f, H')) : TriF C A θ H (execs e env) f H' := (I.s hA e).get h R
theorem assignT_sound (I : IhS C ih n) (hA : Room A n) (R : EnvR C θ ρ env) {t : Expr} {v : V} {a : Value} (hv : VR θ v a) (h : assignT ih ρ t v H = some H') : TriU C A θ H (assign t env a) H' := (assignT_yes I hA t).get h R hv
theorem kind_of (R : EnvR C θ ρ env) {x : Str} {k : NameKind} (h : Mine.kind ρ x = some k) : env.kindOf x = some k ∧ (x == ("__debug__" : Str)) = false ∧ (x == ("__classdict__" : Str)) = false := ⟨((kind_yes R).get h).of, ((kind_yes R).get h).d, ((kind_yes R).get h).c⟩
theorem fnName_tri (T : Top C G) (R : EnvR C θ ρ env) {f : Str} {pos : Pos} {a : Addr} (h1 : Mine.kind ρ f = some .globalImplicit) (h2 : C.mg f = some (.ref a)) : Tri C A θ H (eval (.Name f pos) env) fun x θ' H' => H' = H ∧ x = .ref a := fun s S =>
  Calls.Name_function_global R.fn ((kind_yes R).get h1).of (Calls.loadGlobal_global (env := env) (by rw [R.globals]; exact Top.ns S T.gns T.low.1) h2 (fin_same S ⟨rfl, rfl⟩)) ((kind_yes R).get h1).d
theorem callName_wp {f : Str} {p pos : Pos} {args : List Expr} {vs : List V} {H1 : Hp} {a : Addr} (q : EvA C A ρ env H args vs H1) (R : EnvR C θ ρ env) {Q : Value → Shared → Prop} {s : Shared} (S : St C θ H s)
    (hn : Tri C A θ H (eval (.Name f p) env) fun x θ' H' => H' = H ∧ x = .ref a)
    (hQ : ∀ as θ1 s1, Go C θ s θ1 s1 → St C θ1 H1 s1 → AR θ1 vs as → (∃ o fd, s1.heap.get? a = some o ∧ o.data = .func fd) ∧ wpAny (model C.prog C.w) A (call (.ref a) as) Q (fun _ _ => False) s1) :
    wpAny (model C.prog C.w) A (eval (.Call (.Name f p) args [] pos) env) Q (fun _ _ => False) s := by
  rw [arm_eval_Call_Name']
  refine wpAny_bind (wpAny_mono (hn s S) (fun x s0 hs => hs.elim fun θ0 H0 G0 S0 ⟨e, e2⟩ => ?_) fun _ _ x => x)
  subst e; subst e2
  exact callWith_fn (evalArgs_any (q pos).plain (wpAny_mono ((q pos).tri (R.mono G0.ext) s0 S0) (fun as s1 hs => hs.elim fun θ1 H2 g S1 ⟨e1, r1⟩ => hQ as θ1 s1 (G0.trans g) (e1 ▸ S1) r1) fun _ _ h => h))
end
end Mine
end
section
open PySem PyProof.Rows
set_option maxRecDepth 100000
namespace Mine
open Sem (wp)

section
variable {M : Model} {A : Around} {R : GenEnd} {Y : Protocol} {n : Nat} {s₀ : Shared} {c : Code} {fs : List Frame} {s : Shared} {env : Env}
  {K : Flow → Sem Fin} {H : Value → Sem Fin} {gd : Bool → Bool} {lv : List Value → List Value}

theorem seg_If {test : Expr} {body orelse : List Stmt} {pos : Pos}
    (h : wpAny M (A.over c fs) (isTrue test env (eval test env)) (fun b s' => if b = true then Seg M A R Y n s₀ c ((execs body env).wrap K H gd lv) fs s' else Seg M A R Y n s₀ c ((execs orelse env).wrap K H gd lv) fs s')
      (fun x s' => Seg M A R Y n s₀ c (H x) fs s') s) :
    Seg M A R Y n s₀ c ((exec (.If test body orelse pos) env).wrap K H gd lv) fs s := by
  show Seg M A R Y n s₀ c (.at pos fun _ => (isTrue test env (eval test env) >>= fun b => if b then execs body env else execs orelse env).wrap K H gd lv) fs s
  refine seg_at ?_
  rw [Sem.bind_eq_wrap', Sem.wrap_wrap]
  refine seg_wrap (wpAny_mono h (fun b s' hb => ?_) fun _ _ x => x)
  cases b with
  | true => simpa using hb
  | false => simpa using hb

theorem seg_plain {st : Stmt} (h : wpAny M (A.over c fs) (exec st env) (fun f s' => Seg M A R Y n s₀ c (K f) fs s') (fun x s' => Seg M A R Y n s₀ c (H x) fs s') s) :
    Seg M A R Y n s₀ c ((exec st env).wrap K H gd lv) fs s := seg_wrap h

theorem seg_For {t it : Expr} {body orelse : List Stmt} {pos : Pos} (hs : ∀ x, foldedSetIterable it env x = pure x)
    (h : wpAny M (A.over c fs) (eval it env) (fun x s1 => wpAny M (A.over c fs) (pyIter x) (fun z s2 => ∀ p, Seg M A R Y n s₀ (.forLoop t z body orelse env) (M.den (.forLoop t z body orelse env))
      (.ret (fun r => ((match r with | .ok f => (.pure f : Sem Flow) | .error e => .raise e).onRaise fun (x : Value) => do
        if (← field x 1) == Value.none then unsupported "frame.own-activation:exception-without-traceback"
        setFlight x env.frame).wrap K H gd lv) none (gd false) (lv []) c p [] :: fs) s2) (fun _ _ => False) s1) (fun _ _ => False) s) :
    Seg M A R Y n s₀ c ((exec (.For t it body orelse pos) env).wrap K H gd lv) fs s := by
  rw [exec_For]
  show Seg M A R Y n s₀ c (.at pos fun _ => (eval it env >>= fun x => foldedSetIterable it env x >>= fun x => standAt it.pos >>= fun _ => holding [x] (pyIter x) >>= fun z => runOwn (.forLoop t z body orelse env) env).wrap K H gd lv) fs s
  refine seg_at ?_
  rw [Sem.bind_eq_wrap', Sem.wrap_wrap]
  refine seg_wrap (wpAny_mono h (fun x s1 h1 => ?_) fun _ _ x => x.elim)
  rw [hs, pure_bind, Sem.bind_eq_wrap', Sem.wrap_wrap]
  refine seg_wrap (wpAny_standAt ?_)
  rw [Sem.bind_eq_wrap', Sem.wrap_wrap]
  refine seg_wrap (wpAny_holding (wpAny_mono h1 (fun z s2 h2 => ?_) fun _ _ x => x.elim))
  exact seg_call h2
end

section
variable {prog : Program} {w : World} {A : Around} {R : GenEnd} {Y : Protocol} {n : Nat} {s₀ : Shared} {fs : List Frame} {s : Shared} {env : Env}

noncomputable abbrev raiseH (env : Env) (e : Value) : Sem Fin := (do noteFrame e env; theTreesLotGoes e : Sem Unit).wrap (fun _ => .raise e) .raise id id

theorem seg_forLoop {t : Expr} {z : Value} {body : List Stmt}
    (h : wpAny (model prog w) (A.over (.forLoop t z body [] env) fs) (pyNext z) (fun r s1 => match r with
      | none => Seg (model prog w) A R Y n s₀ (.block [] env) (.pure (.done .next)) fs s1
      | some v => wpAny (model prog w) (A.over (.forLoop t z body [] env) fs) (letOwnedTupleGo t z v) (fun _ s2 => wpAny (model prog w) (A.over (.forLoop t z body [] env) fs) (assign t env v) (fun _ s3 =>
          Seg (model prog w) A R Y n s₀ (.forLoop t z body [] env) ((execs body env).wrap (fun f => match f with
            | .next | .cont => .pure (.again (.forLoop t z body [] env))
            | .brk => .pure (.done .next)
            | .ret v => .pure (.done (.ret v))) (raiseH env) id id) fs s3) (fun _ _ => False) s2) (fun _ _ => False) s1) (fun _ _ => False) s) :
    Seg (model prog w) A R Y n s₀ (.forLoop t z body [] env) ((model prog w).den (.forLoop t z body [] env)) fs s := by
  show Seg _ A R Y n s₀ _ ((forTurn t z body [] env).onRaise (fun x => do noteFrame x env; theTreesLotGoes x)) fs s
  unfold forTurn
  rw [Sem.onRaise_eq_wrap, Sem.bind_eq_wrap', Sem.wrap_wrap]
  refine seg_wrap (wpAny_standAt ?_)
  rw [Sem.onRaise_eq_wrap, Sem.bind_eq_wrap', Sem.wrap_wrap, Sem.wrap_wrap]
  refine seg_wrap (wpAny_mono h (fun r s1 h1 => ?_) fun _ _ x => x.elim)
  cases r with
  | none =>
    show Seg _ A R Y n s₀ _ (.pure (.again (.block [] env))) fs s1
    exact seg_again rfl h1
  | some v =>
    show Seg _ A R Y n s₀ _ (Sem.wrap _ _ _ _ (letOwnedTupleGo t z v >>= fun _ => assign t env v >>= fun _ => _)) fs s1
    rw [Sem.bind_eq_wrap', Sem.wrap_wrap]
    refine seg_wrap (wpAny_mono h1 (fun _ s2 h2 => ?_) fun _ _ x => x.elim)
    rw [Sem.bind_eq_wrap', Sem.wrap_wrap]
    refine seg_wrap (wpAny_mono h2 (fun _ s3 h3 => ?_) fun _ _ x => x.elim)
    rw [Sem.bind_eq_wrap', Sem.wrap_wrap]
    rw [Sem.wrap_congr (execs body env) _ _ (K' := fun f => match f with
            | .next | .cont => .pure (.again (.forLoop t z body [] env))
            | .brk => .pure (.done .next)
            | .ret v => .pure (.done (.ret v))) (H' := raiseH env)
        (fun f => by cases f <;> rfl)
        (fun e => by first | exact Sem.bind_eq_wrap _ _ | (show (do noteFrame e env; theTreesLotGoes e : Sem Unit).bind (fun _ => .raise e) = _; rw [Sem.bind_eq_wrap]))]
    exact h3
end
end Mine
end
section
open PySem PyProof.Rows
set_option maxRecDepth 100000
namespace Mine

/- the generator's names -/
noncomputable def esG (x : V) (p : Int) (e : Bool) : Option (List Nat) → List (Str × V)
  | .none => [("addr", x), ("pos", .int p), ("escape", .bool e)]
  | some c => [("addr", x), ("pos", .int p), ("escape", .bool e), ("ch", .str c)]

/- the generator's text, in parts -/
structure GenAst where
  s0 : Stmt
  s1 : Stmt
  t : Expr
  it : Expr
  ip : Pos
  ia : Expr
  inp : Pos
  p : Pos
  te : Expr
  e1 : Expr
  y1 : Pos
  q1 : Pos
  c1 : Stmt
  te2 : Expr
  c2 : Stmt
  e2 : Expr
  y2 : Pos
  q2 : Pos
  q3 : Pos
  q4 : Pos
  te3 : Expr
  e3 : Expr
  y3 : Pos
  q5 : Pos
  q6 : Pos
noncomputable def GenAst.body (a : GenAst) : List Stmt := [a.s0, a.s1,
  .For a.t a.it [.If a.te [.Expr (.Yield (some a.e1) a.y1) a.q1, a.c1] [.If a.te2 [a.c2] [.Expr (.Yield (some a.e2) a.y2) a.q2] a.q3] a.q4] [] a.p,
  .If a.te3 [.Expr (.Yield (some a.e3) a.y3) a.q5] [] a.q6]

/- what the parts compute: G has no functions -/
structure GenSem (G : Env0) (scope : Scope) (a : GenAst) : Prop where
  isit : a.it = .Call (.Name "enumerate" a.inp) [a.ia] [] a.ip
  ist : isTup a.t = true
  kd : kind ⟨scope, 0, [], .none⟩ "enumerate" = some .globalImplicit
  s0a : ∃ p q k r, a.s0 = .Assign [.Name "pos" p] (.Constant (.int 0) k q) r
  s1a : ∃ p q k r, a.s1 = .Assign [.Name "escape" p] (.Constant (.bool false) k q) r
  ian : ∃ p, a.ia = .Name "addr" p
  kpos : kind ⟨scope, 0, [], .none⟩ "pos" = some .local
  kesc : kind ⟨scope, 0, [], .none⟩ "escape" = some .local
  kadd : kind ⟨scope, 0, [], .none⟩ "addr" = some .local
  asg : ∀ x p e oc i c, assignT (ev G 9) ⟨scope, 0, [], .none⟩ a.t (.ref 1) [.ns (esG (.str x) p e oc), .tup [.int i, .str c]] = some [.ns (esG (.str x) i e (some c)), .tup [.int i, .str c]]
  te : ∀ x p e c, (ev G 9).t a.te ⟨scope, 0, [], .none⟩ [.ns (esG (.str x) p e (some c))] = some (e, [.ns (esG (.str x) p e (some c))])
  e1 : ∀ x p c, (ev G 9).e a.e1 ⟨scope, 0, [], .none⟩ [.ns (esG (.str x) p true (some [c]))] = some (.ref 1, [.ns (esG (.str x) p true (some [c])), .tup [.int p, .str [92, c]]])
  c1 : ∀ x p c, (ev G 9).s [a.c1] ⟨scope, 0, [], .none⟩ [.ns (esG (.str x) p true (some c))] = some (.next, [.ns (esG (.str x) p false (some c))])
  te2 : ∀ x p c, (ev G 9).t a.te2 ⟨scope, 0, [], .none⟩ [.ns (esG (.str x) p false (some [c]))] = some (nbeq [c] [92], [.ns (esG (.str x) p false (some [c]))])
  c2 : ∀ x p c, (ev G 9).s [a.c2] ⟨scope, 0, [], .none⟩ [.ns (esG (.str x) p false (some c))] = some (.next, [.ns (esG (.str x) p true (some c))])
  e2 : ∀ x p c, (ev G 9).e a.e2 ⟨scope, 0, [], .none⟩ [.ns (esG (.str x) p false (some c))] = some (.ref 1, [.ns (esG (.str x) p false (some c)), .tup [.int p, .str c]])
  te3 : ∀ x p e oc, (ev G 9).t a.te3 ⟨scope, 0, [], .none⟩ [.ns (esG (.str x) p e oc)] = some (e, [.ns (esG (.str x) p e oc)])
  e3 : ∀ x p oc, (ev G 9).e a.e3 ⟨scope, 0, [], .none⟩ [.ns (esG (.str x) p true oc)] = some (.ref 1, [.ns (esG (.str x) p true oc), .tup [.int p, .lit [92]]])
  fk : isFun scope.kind = true
  co : scope.isCoroutine = false
  gn : scope.isGenerator = true

noncomputable def stmtAt (ss : List Stmt) (i : Nat) : Stmt := ss.getD i default
noncomputable def astFor : Stmt → Expr × Expr × List Stmt × Pos
  | .For t it b _ p => (t, it, b, p)
  | _ => (default, default, [], default)
noncomputable def astIf : Stmt → Expr × List Stmt × List Stmt × Pos
  | .If t b o p => (t, b, o, p)
  | _ => (default, [], [], default)
noncomputable def astYield : Stmt → Expr × Pos × Pos
  | .Expr (.Yield (some e) y) q => (e, y, q)
  | _ => (default, default, default)
noncomputable def astCall : Expr → Pos × Expr × Pos
  | .Call (.Name _ np) (a :: _) _ p => (np, a, p)
  | _ => (default, default, default)
/- the parts, read off the text -/
noncomputable def astOf (ss : List Stmt) : GenAst :=
  let f := astFor (stmtAt ss 2)
  let i := astIf (stmtAt f.2.2.1 0)
  let j := astIf (stmtAt i.2.2.1 0)
  let k := astIf (stmtAt ss 3)
  let a := astCall f.2.1
  let y1 := astYield (stmtAt i.2.1 0)
  let y2 := astYield (stmtAt j.2.2.1 0)
  let y3 := astYield (stmtAt k.2.1 0)
  { s0 := stmtAt ss 0, s1 := stmtAt ss 1, t := f.1, it := f.2.1, ip := a.2.2, ia := a.2.1, inp := a.1, p := f.2.2.2, te := i.1, e1 := y1.1, y1 := y1.2.1, q1 := y1.2.2, c1 := stmtAt i.2.1 1,
    te2 := j.1, c2 := stmtAt j.2.1 0, e2 := y2.1, y2 := y2.2.1, q2 := y2.2.2, q3 := j.2.2.2, q4 := i.2.2.2, te3 := k.1, e3 := y3.1, y3 := y3.2.1, q5 := y3.2.2, q6 := k.2.2.2 }
end Mine
end
section
open PySem PyProof.Rows
set_option maxRecDepth 100000
namespace Mine

/- what a stretch of the generator leaves: all but its own things -/
structure Kp (Z : List Addr) (s s' : Shared) : Prop where
  size : s.heap.objs.size ≤ s'.heap.objs.size
  toks : s.toks ≤ s'.toks
  gens : ∀ (g : Nat) (x : GenState), s.gens[g]? = some x → s'.gens[g]? = some x
  os : s'.os = s.os
  keep : ∀ a o, s.heap.get? a = some o → a ∉ Z → s'.heap.get? a = some o
theorem Kp.refl (Z : List Addr) (s : Shared) : Kp Z s s := ⟨Nat.le_refl _, Nat.le_refl _, fun _ _ e => e, rfl, fun _ _ e _ => e⟩
theorem Kp.trans {Z : List Addr} {s s' s'' : Shared} (x : Kp Z s s') (y : Kp Z s' s'') : Kp Z s s'' :=
  ⟨Nat.le_trans x.size y.size, Nat.le_trans x.toks y.toks, fun g v e => y.gens g v (x.gens g v e), y.os.trans x.os, fun a o e n => y.keep a o (x.keep a o e n) n⟩
theorem Kp.of_go {C : Cx} {θ θ' : Th} {s s' : Shared} {Z : List Addr} (hf : C.frozen = true) (hz : ∀ a ∈ θ, a ∈ Z) (g : Go C θ s θ' s') : Kp Z s s' :=
  ⟨g.size, g.toks, g.gens, g.os, fun a o e n => g.tabs hf a o e fun h => n (hz a h)⟩
theorem Kp.heap {Z : List Addr} {s : Shared} {h' : Heap} {k : Nat} (hz : s.heap.objs.size ≤ h'.objs.size) (hk : s.toks ≤ k) (h : ∀ a o, s.heap.get? a = some o → a ∉ Z → h'.get? a = some o) : Kp Z s { s with heap := h', toks := k } :=
  ⟨hz, hk, fun _ _ e => e, rfl, h⟩

/- what the consumer leaves to the generator -/
structure GK (C : Cx) (Z : List Addr) (s s' : Shared) : Prop where
  base : St C ⟨[], 0⟩ [] s'
  size : s.heap.objs.size ≤ s'.heap.objs.size
  toks : s.toks ≤ s'.toks
  keep : ∀ a o, a ∈ Z → s.heap.get? a = some o → s'.heap.get? a = some o

theorem no_own {l : Nat} {o : O} (e : @Ops.get listOps ([] : List O) l = some o) : False := nomatch (List.getElem?_nil.symm.trans e : none = some o)
theorem St.base0 {C : Cx} {s : Shared} (h1 : s.toks ≠ 0) (h2 : AllBare s.gens) (h3 : ∀ a o, C.h0.get? a = some o → a ∉ C.tabs → s.heap.get? a = some o) (h4 : C.h0.objs.size ≤ s.heap.objs.size) (h5 : TabOk C ⟨[], 0⟩ s.heap) : St C ⟨[], 0⟩ [] s :=
  ⟨rfl, fun l o e => (no_own e).elim, List.nodup_nil, fun x h => (nomatch h), fun x h => (nomatch h), h1, Nat.zero_le _, h2, h3, h4, h5⟩
theorem St.base {Oi : Ops} {C : Cx} {θ : Th} {H : @Hp Oi} {s : Shared} (S : @St Oi C θ H s) : @St listOps C ⟨[], 0⟩ [] s :=
  St.base0 S.tok S.bare S.top S.big fun k P e => by
    obtain ⟨c, q, ps, e1, e2, e3, e4, e5, e6⟩ := S.tab k P e
    refine ⟨c, q, ps, e1, e2, e3, fun h => (nomatch h), fun h => (nomatch h), fun pos v hv => ?_⟩
    obtain ⟨c', o, vs, t, q1, q2, q3, q4⟩ := e6 pos v hv
    exact ⟨c', o, vs, t, q1, fun h => (nomatch h), q3, q4⟩

theorem St.single {C : Cx} {G : Env0} (T : Top C G) {L k : Nat} {es : List (Str × V)} {s s' : Shared} (S : St C ⟨[L], k⟩ [.ns es] s) (B : St C ⟨[], 0⟩ [] s') (hL : ∀ o, s.heap.get? L = some o → s'.heap.get? L = some o) (ht : s.toks ≤ s'.toks) : St C ⟨[L], k⟩ [.ns es] s' := by
  obtain ⟨x, o', g1, g2, es', ep, g3, g4, g5⟩ := S.own 0 (.ns es) rfl rfl
  have hx : x = L := by
    have : ([L] : List Addr)[0]? = some x := g1
    simpa using this.symm
  subst hx
  have hlow : C.h0.objs.size ≤ x := S.low x (List.mem_singleton.mpr rfl)
  refine ⟨rfl, fun l o e hv => ?_, S.nodup, S.low, fun y h => ?_, B.tok, Nat.le_trans S.bnd ht, B.bare, B.top, B.big, fun k P e => ?_⟩
  · cases l with
    | zero => cases e; exact ⟨x, o', rfl, hL _ g2, es', ep, g3, g4, g5⟩
    | succ l => cases (show (none : Option O) = some _ from e)
  · rw [List.mem_singleton.mp h]; exact Heap.lt_size (hL _ g2)
  · obtain ⟨c, q, ps, e1, e2, e3, e4, e5, e6⟩ := B.tab k P e
    have hc : c < C.h0.objs.size := T.clt c (List.mem_of_getElem? e1)
    have hP : P < C.h0.objs.size := T.tabs P (List.mem_of_getElem? e)
    refine ⟨c, q, ps, e1, e2, e3, fun h => ?_, fun h => ?_, fun pos v hv => ?_⟩
    · rw [List.mem_singleton.mp h] at hc; exact Nat.not_lt.mpr hlow hc
    · rw [List.mem_singleton.mp h] at hP; exact Nat.not_lt.mpr hlow hP
    · obtain ⟨c', o, vs, t, q1, q2, q3, q4, q5, q6⟩ := e6 pos v hv
      refine ⟨c', o, vs, t, q1, fun h => ?_, q3, q4, q5, q6⟩
      rw [List.mem_singleton.mp h, hL _ g2] at q4
      cases q4
      rw [g3] at q5; cases q5

/- an object that nothing of ours leans on -/
structure Quiet (o : Obj) : Prop where
  fld : ∀ vs q t, o.data = .fields vs → vs[1]? ≠ some (.str q t)
  sq : ∀ xs n, o.data ≠ .seq xs n

/- what a yield tells -/
noncomputable def Yp (C : Cx) (Z : List Addr) (U : List (Nat × List Nat)) : Protocol := fun k s₀ v s₁ kap =>
  ∃ p u T m tk tk', U[U.length - 1 - k]? = some (p, u) ∧ k < U.length ∧ v = .ref T ∧ True ∧ tk' ≠ 0 ∧ s₀.heap.objs.size ≤ T ∧ IsT s₁.heap T #[.int (p : Nat) tk, .str ⟨⟨u⟩⟩ tk'] m ∧ Kp Z s₀ s₁ ∧ (∀ z ∈ Z, C.h0.objs.size ≤ z ∧ ∃ o, s₁.heap.get? z = some o ∧ Quiet o) ∧ St C ⟨[], 0⟩ [] s₁ ∧
    ∀ s'', GK C Z s₁ s'' → kap (.send .none) s''

noncomputable def Rp (C : Cx) (Z : List Addr) : GenEnd := fun n s₀ r s₁ => r = .ok (.ret .none) ∧ n = 0 ∧ Kp Z s₀ s₁ ∧ St C ⟨[], 0⟩ [] s₁

section
variable {C : Cx} {G : Env0} {A : Around} {scope : Scope} {a : GenAst} {env : Env} {L ea ia : Addr} {ty : String} {x : List Nat} {t : Tok}

/- the generator at rest -/
structure GI (C : Cx) (scope : Scope) (env : Env) (L : Addr) (x : List Nat) (p : Int) (e : Bool) (oc : Option (List Nat)) (k : Nat) (s : Shared) : Prop where
  st : St C ⟨[L], k⟩ [.ns (esG (.str x) p e oc)] s

theorem one_of {θ' : Th} {k : Nat} {s s' : Shared} {o : O} (g : Go C ⟨[L], k⟩ s θ' s') (S' : St C θ' [o] s') : θ' = ⟨[L], θ'.n⟩ := by
  obtain ⟨ys, e, _⟩ := g.pre
  have hl := S'.len
  rw [e] at hl
  have hl : ys.length + 1 = 0 + 1 := hl
  have : ys = [] := List.length_eq_zero_iff.mp (Nat.succ.inj hl)
  subst this
  obtain ⟨l, n⟩ := θ'
  simp at e
  rw [e]
end
end Mine
end
section
open PySem PyProof.Rows
set_option maxRecDepth 100000
namespace Mine

noncomputable def plainV : V → Bool
  | .int _ => true
  | .str _ => true
  | .bool _ => true
  | .none => true
  | _ => false
theorem VR.plain {θ θ' : Th} : ∀ {v : V} {a : Value}, plainV v = true → VR θ v a → VR θ' v a
  | .none, _, _, h => h
  | .bool _, _, _, h => h
  | .int _, _, _, h => h
  | .str _, _, _, h => h
  | .lit _, _, q, _ => by cases q
  | .flt _, _, q, _ => by cases q
  | .ref _, _, q, _ => by cases q
noncomputable def plainNs : List (Str × V) → Bool
  | [] => true
  | (_, v) :: r => plainV v && plainNs r
theorem find_plain {x : Str} {v : V} : ∀ {es : List (Str × V)}, plainNs es = true → find x es = some v → plainV v = true
  | (y, w) :: r, hp, h => by
    unfold plainNs at hp
    rw [Bool.and_eq_true] at hp
    unfold find at h
    split at h
    · cases h; exact hp.1
    · exact find_plain hp.2 h
theorem NsR.plain {θ θ' : Th} {es : List (Str × V)} {m : Str → Option Value} (hp : plainNs es = true) (h : NsR θ es m) : NsR θ' es m := fun y v e =>
  let ⟨a, h1, h2⟩ := h y v e; ⟨a, h1, h2.plain (find_plain hp e)⟩
theorem esG_plain (x : List Nat) (p : Int) (e : Bool) (oc : Option (List Nat)) : plainNs (esG (.str x) p e oc) = true := by cases oc <;> rfl

section
variable {C : Cx} {G : Env0} {A : Around} {L k : Nat} {es : List (Str × V)} {s s' : Shared}

theorem St.objL (S : St C ⟨[L], k⟩ [.ns es] s) : ∃ o, s.heap.get? L = some o ∧ ∃ es' ep, o.data = .dict es' ep ∧ StrKeys es' ∧ NsR ⟨[L], k⟩ es (nsFind es') := by
  obtain ⟨x, o', g1, g2, es', ep, g3, g4, g5⟩ := S.own 0 (.ns es) rfl rfl
  have hx : x = L := by
    have : ([L] : List Addr)[0]? = some x := g1
    simpa using this.symm
  subst hx
  exact ⟨o', g2, es', ep, g3, g4, g5⟩

/- one object more that already stands -/
theorem St.two (hp : plainNs es = true) (S : St C ⟨[L], k⟩ [.ns es] s) {x : Addr} {vs : List V} {ar : Array Value} {m : Nat} (hx : IsT s.heap x ar m) (hlow : C.h0.objs.size ≤ x) (hv : ∀ θ, AR θ vs ar.toList) : St C ⟨[L, x], k⟩ [.ns es, .tup vs] s := by
  obtain ⟨o', g2, es', ep, g3, g4, g5⟩ := S.objL
  have hne : L ≠ x := fun q => by
    subst q
    have := g2.symm.trans hx
    cases this; cases g3
  refine ⟨rfl, fun l o e hl => ?_, ?_, fun y h => ?_, fun y h => ?_, S.tok, S.bnd, S.bare, S.top, S.big, fun kk P e => ?_⟩
  · cases l with
    | zero => cases e; exact ⟨L, o', rfl, g2, es', ep, g3, g4, g5.plain hp⟩
    | succ l =>
      cases l with
      | zero => cases e; exact ⟨x, _, rfl, hx, ar, m, rfl, hv _⟩
      | succ l => cases (show (none : Option O) = some _ from e)
  · exact List.nodup_cons.mpr ⟨fun h => hne (List.mem_singleton.mp h), List.nodup_cons.mpr ⟨fun h => (nomatch h), List.nodup_nil⟩⟩
  · rcases List.mem_cons.mp h with h | h
    · exact S.low y (List.mem_singleton.mpr h)
    · rw [List.mem_singleton.mp h]; exact hlow
  · rcases List.mem_cons.mp h with h | h
    · exact S.lt y (List.mem_singleton.mpr h)
    · rw [List.mem_singleton.mp h]; exact Heap.lt_size hx
  · obtain ⟨c, q, ps, e1, e2, e3, e4, e5, e6⟩ := S.tab kk P e
    have notx : ∀ (c : Addr) (o : Obj) (vs : Array Value), s.heap.get? c = some o → o.data = .fields vs → c ≠ x := fun c o vs h1 h2 h3 => by
      subst h3
      have := h1.symm.trans hx
      cases this; cases h2
    obtain ⟨o, vs0, file, tf, flags, tg, inF, text, tt, op, a, r1, r2, r3, r4, r5, r6, b, r7, r8, r9⟩ := id e3
    refine ⟨c, q, ps, e1, e2, e3, fun h => ?_, fun h => ?_, fun pos v hv => ?_⟩
    · rcases List.mem_cons.mp h with h | h
      · exact e4 (List.mem_singleton.mpr h)
      · exact notx c o vs0 a r1 (List.mem_singleton.mp h)
    · rcases List.mem_cons.mp h with h | h
      · exact e5 (List.mem_singleton.mpr h)
      · exact notx P op ps b r7 (List.mem_singleton.mp h)
    · obtain ⟨c', o1, vs1, t1, q1, q2, q3, q4, q5, q6⟩ := e6 pos v hv
      refine ⟨c', o1, vs1, t1, q1, fun h => ?_, q3, q4, q5, q6⟩
      rcases List.mem_cons.mp h with h | h
      · exact q2 (List.mem_singleton.mpr h)
      · exact notx c' o1 vs1 q4 q5 (List.mem_singleton.mp h)

/- and less -/
theorem St.fst (hp : plainNs es = true) {θ : Th} {o2 : O} (S : St C θ [.ns es, o2] s) (hθ : θ.l[0]? = some L) : St C ⟨[L], θ.n⟩ [.ns es] s := by
  obtain ⟨x, o', g1, g2, es', ep, g3, g4, g5⟩ := S.own 0 (.ns es) rfl rfl
  have hx : x = L := by
    have g1' : θ.l[0]? = some x := g1
    rw [hθ] at g1'; cases g1'; rfl
  subst hx
  have hm : x ∈ θ := mem_at g1
  refine ⟨rfl, fun l o e hl => ?_, List.nodup_cons.mpr ⟨fun h => (nomatch h), List.nodup_nil⟩, fun y h => ?_, fun y h => ?_, S.tok, S.bnd, S.bare, S.top, S.big, fun kk P e => ?_⟩
  · cases l with
    | zero => cases e; exact ⟨x, o', rfl, g2, es', ep, g3, g4, g5.plain hp⟩
    | succ l => cases (show (none : Option O) = some _ from e)
  · rw [List.mem_singleton.mp h]; exact S.low x hm
  · rw [List.mem_singleton.mp h]; exact S.lt x hm
  · obtain ⟨c, q, ps, e1, e2, e3, e4, e5, e6⟩ := S.tab kk P e
    refine ⟨c, q, ps, e1, e2, e3, fun h => e4 (by rw [List.mem_singleton.mp h]; exact hm), fun h => e5 (by rw [List.mem_singleton.mp h]; exact hm), fun pos v hv => ?_⟩
    obtain ⟨c', o1, vs1, t1, q1, q2, q3, q4, q5, q6⟩ := e6 pos v hv
    exact ⟨c', o1, vs1, t1, q1, fun h => q2 (by rw [List.mem_singleton.mp h]; exact hm), q3, q4, q5, q6⟩

/- hidden things change -/
theorem Base.hide {G : Env0} (T : Top C G) (B : St C ⟨[], 0⟩ [] s) {W : List Addr} {h' : Heap} {k : Nat} (hW : ∀ z ∈ W, C.h0.objs.size ≤ z ∧ ∀ o vs q t, s.heap.get? z = some o → o.data = .fields vs → vs[1]? ≠ some (.str q t))
    (hz : s.heap.objs.size ≤ h'.objs.size) (hk : s.toks ≤ k) (h : ∀ a o, s.heap.get? a = some o → a ∉ W → h'.get? a = some o) : St C ⟨[], 0⟩ [] { s with heap := h', toks := k } := by
  refine ⟨rfl, fun l o e => (no_own e).elim, List.nodup_nil, fun x h => (nomatch h), fun x h => (nomatch h), fun e => B.tok (Nat.le_zero.mp (e ▸ hk)), Nat.zero_le _, B.bare, fun a o e n => h a o (B.top a o e n) fun hm => Nat.not_lt.mpr (hW a hm).1 (Heap.lt_size e), Nat.le_trans B.big hz, fun kk P e => ?_⟩
  obtain ⟨c, q, ps, e1, e2, e3, e4, e5, e6⟩ := B.tab kk P e
  obtain ⟨o, vs0, file, tf, flags, tg, inF, text, tt, op, a, r1, r2, r3, r4, r5, r6, b, r⟩ := e3
  have hc : c ∉ W := fun hm => Nat.not_lt.mpr (hW c hm).1 (T.clt c (List.mem_of_getElem? e1))
  have hP : P ∉ W := fun hm => Nat.not_lt.mpr (hW P hm).1 (T.tabs P (List.mem_of_getElem? e))
  refine ⟨c, q, ps, e1, e2, ⟨o, vs0, file, tf, flags, tg, inF, text, tt, op, h _ _ a hc, r1, r2, r3, r4, r5, r6, h _ _ b hP, r⟩, e4, e5, fun pos v hv => ?_⟩
  obtain ⟨c', o1, vs1, t1, q1, q2, q3, q4, q5, q6⟩ := e6 pos v hv
  exact ⟨c', o1, vs1, t1, q1, q2, q3, h _ _ q4 (fun hm => (hW c' hm).2 o1 vs1 q t1 q4 q5 q6), q5, q6⟩
end
end Mine
end
section
open PySem PyProof.Rows
set_option maxRecDepth 100000
namespace Mine

/- the generator's frame -/
structure GEnv (scope : Scope) (L : Addr) (env : Env) : Prop where
  scope : env.scope = scope
  loc : env.locals = L
  cells : env.cells = []
  globals : env.globals = mainGlobals
  builtins : env.builtins = builtinsNs

section
variable {C : Cx} {G : Env0} {A : Around} {scope : Scope} {a : GenAst} {env : Env} {L ea ia : Addr} {ty : String} {x : List Nat} {tx : Tok} {k : Nat} {s : Shared}

theorem GEnv.envR (E : GEnv scope L env) (GS : GenSem G scope a) {θ : Th} (h : θ.l[0]? = some L) : EnvR C θ ⟨scope, 0, [], .none⟩ env :=
  ⟨E.scope, isFun_of GS.fk, by rw [E.loc]; exact h, by rw [E.cells]; trivial, E.globals, E.builtins, fun k e => by cases e⟩

/- a piece of the frame's own, run by the evaluator -/
theorem piece {α : Type} {t : Sem α} {P : α → Th → Prop} {o o' : O} (hf : C.frozen = true) (S : St C ⟨[L], k⟩ [o] s) (h : Tri C A ⟨[L], k⟩ [o] t fun v θ' H' => H' = [o'] ∧ P v θ') :
    wpAny (model C.prog C.w) A t (fun v s' => ∃ k', St C ⟨[L], k'⟩ [o'] s' ∧ Kp [L] s s' ∧ P v ⟨[L], k'⟩) (fun _ _ => False) s :=
  wpAny_mono (h s S) (fun v s' hb => by
    obtain ⟨θ', H', g, S', rfl, p⟩ := hb
    have e := one_of g S'
    rw [e] at S' p
    exact ⟨θ'.n, S', Kp.of_go hf (fun a h => h) g, p⟩) fun _ _ x => x

theorem Kp.mono {Z Z' : List Addr} {s s' : Shared} (h : ∀ a ∈ Z, a ∈ Z') (x : Kp Z s s') : Kp Z' s s' := ⟨x.size, x.toks, x.gens, x.os, fun a o e n => x.keep a o e fun m => n (h a m)⟩

/- a yielded pair -/
theorem pair_piece {e : Expr} {p : Int} {es : List (Str × V)} {u : V} (hf : C.frozen = true) (hp : plainNs es = true) (S : St C ⟨[L], k⟩ [.ns es] s) (h : TriV C A ⟨[L], k⟩ [.ns es] (eval e env) (.ref 1) [.ns es, .tup [.int p, u]]) :
    wpAny (model C.prog C.w) A (eval e env) (fun v s' => ∃ k' T m a b θ, St C ⟨[L], k'⟩ [.ns es] s' ∧ Kp [L] s s' ∧ v = .ref T ∧ s.heap.objs.size ≤ T ∧ IsT s'.heap T #[a, b] m ∧ VR θ (.int p) a ∧ VR θ u b) (fun _ _ => False) s :=
  wpAny_mono (h s S) (fun v s' hb => by
    obtain ⟨θ', H', g, S', rfl, T, e1, rfl⟩ := hb
    obtain ⟨ys, e, hy⟩ := g.pre
    have h0 : θ'.l[0]? = some L := by rw [e]; rfl
    obtain ⟨a1, n1, g1, r1⟩ := S'.tupAt (l := 1) rfl e1
    obtain ⟨a1⟩ := a1
    match a1, r1 with
    | [a, b], r1 =>
      have e1' : θ'.l[1]? = some T := e1
      have hT : T ∈ ys := by
        rw [e] at e1'
        have : ys[0]? = some T := by simpa using e1'
        exact List.mem_of_getElem? this
      exact ⟨θ'.n, T, n1, a, b, θ', S'.fst hp h0, Kp.of_go hf (fun a h => h) g, rfl, hy T hT, g1, r1.1, r1.2.1⟩) fun _ _ x => x
end
end Mine
end
section
open PySem PyProof.Rows
set_option maxRecDepth 100000
namespace Mine

section
variable {prog : Program} {w : World} {A : Around} {E : Value → Shared → Prop} {s : Shared}

theorem nextOf_str {ia : Addr} {x : Str} {t : Tok} {i c : Nat} {Q : Value → Shared → Prop} (hit : s.heap.IsStrIter ia (strIterType x) x t i) (hx : x.cps[i]? = some c)
    (hQ : ∀ h', h'.IsStrIter ia (strIterType x) x t (i + 1) → Heap.SameBut ia s.heap h' → Q (.str ⟨#[c]⟩ s.toks) { s with heap := h', toks := s.toks + 1 }) :
    wpAny (model prog w) A (Builtin.SmallTypes.nextOf (.ref ia)) Q E s := by
  cases ha : x.cps.all (· < 128)
  · have e : strIterType x = "str_iterator" := by unfold strIterType; rw [ha]; rfl
    rw [e] at hit hQ
    exact wpAny_nextOf_wide_item hit hx hQ
  · have e : strIterType x = "str_ascii_iterator" := by unfold strIterType; rw [ha]; rfl
    rw [e] at hit hQ
    exact wpAny_nextOf_ascii_item hit hx hQ

/- what one draw of an enumerate over a text leaves -/
structure EnumDrawn (ea ia : Addr) (x : Str) (t : Tok) (i c : Nat) (s : Shared) (h' : Heap) : Prop where
  out : IsEnumOut h' ea ia ((i : Int) + 1) (.str ⟨#[c]⟩ s.toks) s.heap.objs.size
  it : h'.IsStrIter ia (strIterType x) x t (i + 1)
  tup : h'.get? s.heap.objs.size = some { cls := .type "tuple", data := .seq #[.int i (s.toks + 1), .str ⟨#[c]⟩ s.toks] }
  size : h'.objs.size = s.heap.objs.size + 1
  keep : ∀ b o, b ≠ ea → b ≠ ia → s.heap.get? b = some o → h'.get? b = some o

theorem enum_next {ea ia : Addr} {x : Str} {t : Tok} {i c : Nat} {old : Value} {Q : Value → Shared → Prop} (hit : s.heap.IsStrIter ia (strIterType x) x t i) (hx : x.cps[i]? = some c) (he : IsEnum s.heap ea ia i old) (hne : ea ≠ ia)
    (hQ : ∀ h', EnumDrawn ea ia x t i c s h' → Q (.ref s.heap.objs.size) { s with heap := h', toks := s.toks + 1 + 1 }) :
    wpAny (model prog w) A (Builtin.«enumerate.__next__» ⟨[.ref ea], []⟩) (fun fin s' => ∃ v, fin = .done (.ret v) ∧ Q v s') E s := by
  obtain ⟨hp, gs, d, tk, os⟩ := s
  have hel : ea < hp.objs.size := Heap.lt_size he
  show wpAny _ _ (field (.ref ea) 2 >>= _) _ _ _
  refine wpAny_bind (wpAny_field he rfl (x := .ref ia) rfl (wpAny_bind (nextOf_str hit hx fun ha hita hsa => ?_)))
  have hea : IsEnum ha ea ia i old := (hsa.2 ea hne).trans he
  show wpAny _ _ (field (.ref ea) 3 >>= _) _ _ ⟨ha, gs, d, tk + 1, os⟩
  refine wpAny_bind (wpAny_field hea rfl (x := rawInt i) rfl ?_)
  show wpAny _ _ (field (.ref ea) 4 >>= _) _ _ ⟨ha, gs, d, tk + 1, os⟩
  refine wpAny_bind (wpAny_field hea rfl (x := .none) rfl ?_)
  show wpAny _ _ (mkInt i >>= _) _ _ ⟨ha, gs, d, tk + 1, os⟩
  refine wpAny_bind (wpAny_mkInt ?_)
  show wpAny _ _ (setField (.ref ea) 3 (rawInt ((i : Int) + 1)) >>= _) _ _ ⟨ha, gs, d, tk + 1 + 1, os⟩
  refine wpAny_bind (wpAny_setField_rec hea (by simp) fun hb heb hsb => ?_)
  replace heb : IsEnum hb ea ia ((i : Int) + 1) old := heb
  show wpAny _ _ (setField (.ref ea) 4 .none >>= _) _ _ ⟨hb, gs, d, tk + 1 + 1, os⟩
  refine wpAny_bind (wpAny_setField_rec heb (by simp) fun hc hec hsc => ?_)
  replace hec : IsEnum hc ea ia ((i : Int) + 1) old := hec
  show wpAny _ _ (newTuple [.int i (tk + 1), .str ⟨#[c]⟩ tk] >>= _) _ _ ⟨hc, gs, d, tk + 1 + 1, os⟩
  refine wpAny_bind (wpAny_newTuple ?_)
  have zb : hb.objs.size = ha.objs.size := hsb.1
  have zc : hc.objs.size = hb.objs.size := hsc.1
  have za : ha.objs.size = hp.objs.size := hsa.1
  have z : hc.objs.size = hp.objs.size := zc.trans (zb.trans za)
  have kc : ∀ b o, b ≠ ea → ha.get? b = some o → hc.get? b = some o := fun b o n q => hsc.extBut b o n (hsb.extBut b o n q)
  generalize hd : hc.push { cls := .type "tuple", data := .seq #[.int i (tk + 1), .str ⟨#[c]⟩ tk] } = hD
  have hed : IsEnum hD ea ia ((i : Int) + 1) old := by rw [← hd]; exact Heap.get?_push_of_some _ hec
  have kd : ∀ b o, b ≠ ea → ha.get? b = some o → hD.get? b = some o := fun b o n q => by rw [← hd]; exact Heap.get?_push_of_some _ (kc b o n q)
  have td : hD.get? hp.objs.size = some { cls := .type "tuple", data := .seq #[.int i (tk + 1), .str ⟨#[c]⟩ tk] } := by rw [← hd, ← z]; exact Heap.get?_push_size _ rfl
  have zd : hD.objs.size = hp.objs.size + 1 := by rw [← hd, Heap.size_push, z]
  show wpAny _ _ (Builtin.SmallTypes.ownedTupleIsFree (.ref ea) >>= _) _ _ ⟨hD, gs, d, tk + 1 + 1, os⟩
  rw [z]
  refine wpAny_bind ?_
  unfold Builtin.SmallTypes.ownedTupleIsFree
  refine wpAny_bind (wpAny_field hed rfl (x := .none) rfl (wpAny_pure ?_))
  simp only [if_true]
  refine wpAny_bind (wpAny_rule (wpAny_bind (wpAny_field hed rfl (x := old) rfl (wpAny_bind (wpAny_setField_rec hed (by simp) fun h1 he1 hs1 => ?_)))))
  replace he1 : IsEnum h1 ea ia ((i : Int) + 1) (.str ⟨#[c]⟩ tk) := he1
  show wpAny _ _ (Builtin.SmallTypes.ownedTupleHandOut (.ref ea) (.ref hp.objs.size) >>= _) _ _ ⟨h1, gs, d, tk + 1 + 1, os⟩
  refine wpAny_bind ?_
  unfold Builtin.SmallTypes.ownedTupleHandOut
  refine wpAny_bind (wpAny_setField_rec he1 (by simp) fun h2 he2 hs2 => ?_)
  replace he2 : IsEnumOut h2 ea ia ((i : Int) + 1) (.str ⟨#[c]⟩ tk) hp.objs.size := he2
  refine wpAny_setField_rec he2 (by simp) fun h3 he3 hs3 => ?_
  have k3 : ∀ b o, b ≠ ea → hD.get? b = some o → h3.get? b = some o := fun b o n q => hs3.extBut b o n (hs2.extBut b o n (hs1.extBut b o n q))
  refine wpAny_bind (wpAny_letGo (wpAny_pure ⟨_, rfl, hQ h3 ⟨he3, ?_, k3 _ _ (Nat.ne_of_gt hel) td, ?_, fun b o n1 n2 q => k3 b o n1 (kd b o n1 ((hsa.2 b n2).trans q))⟩⟩))
  · obtain ⟨o, ho, r⟩ := hita
    exact ⟨o, k3 _ _ (Ne.symm hne) (kd _ _ (Ne.symm hne) ho), r⟩
  · have z1 : h1.objs.size = hD.objs.size := hs1.1
    have z2 : h2.objs.size = h1.objs.size := hs2.1
    have z3 : h3.objs.size = h2.objs.size := hs3.1
    show h3.objs.size = hp.objs.size + 1
    rw [z3, z2, z1, zd]

theorem pyNext_enum {ea ia : Addr} {x : Str} {t : Tok} {i c : Nat} {old : Value} {Q : Option Value → Shared → Prop} (hit : s.heap.IsStrIter ia (strIterType x) x t i) (hx : x.cps[i]? = some c) (he : IsEnum s.heap ea ia i old) (hne : ea ≠ ia)
    (hQ : ∀ h', EnumDrawn ea ia x t i c s h' → Q (some (.ref s.heap.objs.size)) { s with heap := h', toks := s.toks + 1 + 1 }) :
    wpAny (model prog w) A (pyNext (.ref ea)) Q E s := by
  have hT : s.TypeIs (.ref ea) "enumerate" := ⟨_, he, rfl⟩
  unfold pyNext
  exact wpAny_bind (wpAny_attempt (wpAny_callSpecial?_slot (name := Str.ofString "__next__") hT F.slot_enumerate_next
    (wpAny_call_entry F.slot_enumerate_next hT F.entry_enumerate_next
      (enum_next hit hx he hne fun h' d => wpAny_pure (hQ h' d)) (F.args_enumerate_next_1 _))))

theorem pyNext_enum_end {ea ia : Addr} {x : Str} {t : Tok} {i : Nat} {old : Value} {Q : Option Value → Shared → Prop} (hh : A.handled = none) (hit : s.heap.IsStrIter ia (strIterType x) x t i) (hx : i = x.cps.size) (he : IsEnum s.heap ea ia i old)
    (hQ : ∀ h', Heap.ExtBut ia s.heap h' → Q none { s with heap := h' }) : wpAny (model prog w) A (pyNext (.ref ea)) Q E s := by
  subst hx
  cases ha : x.cps.all (· < 128)
  · have e : strIterType x = "str_iterator" := by unfold strIterType; rw [ha]; rfl
    rw [e] at hit
    exact wpAny_pyNext_enum_endD (Draws.strWide (A := A.in1) hh ia x t) he hit hQ
  · have e : strIterType x = "str_ascii_iterator" := by unfold strIterType; rw [ha]; rfl
    rw [e] at hit
    exact wpAny_pyNext_enum_endD (Draws.strAscii (A := A.in1) hh ia x t) he hit hQ
end
end Mine
end
section
open PySem PyProof.Rows
set_option maxRecDepth 100000
namespace Mine
open Builtin Builtin.Str

section
variable {prog : Program} {w : World} {A : Around} {E : Value → Shared → Prop} {s : Shared}

/- the end of a text's signs: the iterator lets the text go -/
theorem nextOf_str_end {ia : Addr} {x : Str} {t : Tok} {i : Nat} {Q : Value → Shared → Prop} (hh : A.handled = none) (hit : s.heap.IsStrIter ia (strIterType x) x t i) (hx : x.cps[i]? = none)
    (hE : ∀ h' e, Heap.ExtBut ia s.heap h' → (∃ o, h'.get? e = some o ∧ o.cls = .type "StopIteration") → (∃ o, h'.get? ia = some o ∧ o.data = .fields #[.none, .int i 0]) → E (.ref e) { s with heap := h' }) :
    wpAny (model prog w) A (Builtin.SmallTypes.nextOf (.ref ia)) Q E s := by
  have go : ∀ (o : Obj), s.heap.get? ia = some o → o.data = .fields #[.str x t, .int i 0] → ∀ (B : Around), B.handled = none → ∀ {P : PySem.Fin → Shared → Prop},
      (∀ h' e, Heap.ExtBut ia s.heap h' → (∃ o, h'.get? e = some o ∧ o.cls = .type "StopIteration") → (∃ o, h'.get? ia = some o ∧ o.data = .fields #[.none, .int i 0]) → E (.ref e) { s with heap := h' }) →
      ∀ {h1 : Heap}, Heap.SameBut ia s.heap h1 → (∃ o, h1.get? ia = some o ∧ o.data = .fields #[.none, .int i 0]) →
      wpAny (model prog w) B (newExc (.type "StopIteration") [] >>= raiseNew) P E { s with heap := h1 } := by
    intro o ho hd B hB P hE h1 hs ⟨o1, ho1, hd1⟩
    refine wpAny_bind ?_
    simp only [newExc, newTuple]
    refine wpAny_bind (wpAny_newObj_type ?_ (by size_fits))
    refine wpAny_bind (m := firstArgMember _ _) (wpAny_of_eq (a := Value.none) (by first | rfl | (simp only [firstArgMember]; rfl)) ?_)
    refine wpAny_newObj_type ?_ (by size_fits)
    simp only [raiseNew]
    refine wpAny_bind (wpAny_handled ?_)
    rw [hB]
    refine wpAny_bind (wpAny_pure (wpAny_throw ?_))
    exact hE _ _ ((hs.extBut.push _).push _) ⟨_, Heap.get?_push_size _ rfl, rfl⟩ ⟨o1, Heap.get?_push_of_some _ (Heap.get?_push_of_some _ ho1), hd1⟩
  obtain ⟨o, ho, hc, hd⟩ := id hit
  unfold Builtin.SmallTypes.nextOf
  cases ha : x.cps.all (· < 128)
  · have e : strIterType x = "str_iterator" := by unfold strIterType; rw [ha]; rfl
    rw [e] at hit
    refine wpAny_bind (wpAny_callSpecial?_slot (name := Str.ofString "__next__") hit.typeIs F.slot_str_iterator_next
      (wpAny_call_entry F.slot_str_iterator_next hit.typeIs F.entry_str_iterator_next ?_ (F.args_str_iterator_next_1 _)))
    show wpAny _ _ (field (.ref ia) 0 >>= _) _ _ s
    refine wpAny_bind (wpAny_field ho hd (x := .str x t) rfl ?_)
    show wpAny _ _ (field (.ref ia) 1 >>= _) _ _ s
    refine wpAny_bind (wpAny_field ho hd (x := .int i 0) rfl ?_)
    simp only [Int.toNat_natCast, hx]
    refine wpAny_bind (wpAny_rule (wpAny_bind (wpAny_setField ho hd (by simp) (wpAny_bind (wpAny_letGo ?_)))))
    refine go o ho hd _ (by first | exact hh | (show A.in1.handled = none; exact hh)) hE (Heap.SameBut.update ..) ?_
    exact ⟨_, Heap.get?_update_self _ ho (Obj.isFreed_of_fields (Obj.data_mapFields hd _)), by rw [Obj.data_mapFields hd]; simp⟩
  · have e : strIterType x = "str_ascii_iterator" := by unfold strIterType; rw [ha]; rfl
    rw [e] at hit
    refine wpAny_bind (wpAny_callSpecial?_slot (name := Str.ofString "__next__") hit.typeIs F.slot_str_ascii_iterator_next
      (wpAny_call_entry F.slot_str_ascii_iterator_next hit.typeIs F.entry_str_ascii_iterator_next ?_ (F.args_str_ascii_iterator_next_1 _)))
    show wpAny _ _ (field (.ref ia) 0 >>= _) _ _ s
    refine wpAny_bind (wpAny_field ho hd (x := .str x t) rfl ?_)
    show wpAny _ _ (field (.ref ia) 1 >>= _) _ _ s
    refine wpAny_bind (wpAny_field ho hd (x := .int i 0) rfl ?_)
    simp only [Int.toNat_natCast, hx]
    refine wpAny_bind (wpAny_rule (wpAny_bind (wpAny_setField ho hd (by simp) (wpAny_bind (wpAny_letGo ?_)))))
    refine go o ho hd _ (by first | exact hh | (show A.in1.handled = none; exact hh)) hE (Heap.SameBut.update ..) ?_
    exact ⟨_, Heap.get?_update_self _ ho (Obj.isFreed_of_fields (Obj.data_mapFields hd _)), by rw [Obj.data_mapFields hd]; simp⟩

theorem pyNext_enum_over {ea ia : Addr} {x : Str} {t : Tok} {i : Nat} {old : Value} {Q : Option Value → Shared → Prop} (hh : A.handled = none) (hit : s.heap.IsStrIter ia (strIterType x) x t i) (hx : x.cps[i]? = none) (he : IsEnum s.heap ea ia i old)
    (hQ : ∀ h', Heap.ExtBut ia s.heap h' → (∃ o, h'.get? ia = some o ∧ o.data = .fields #[.none, .int i 0]) → Q none { s with heap := h' }) : wpAny (model prog w) A (pyNext (.ref ea)) Q E s := by
  have hT : s.TypeIs (.ref ea) "enumerate" := ⟨_, he, rfl⟩
  unfold pyNext
  refine wpAny_bind (wpAny_attempt (wpAny_callSpecial?_slot (name := Str.ofString "__next__") hT F.slot_enumerate_next
    (wpAny_call_entry F.slot_enumerate_next hT F.entry_enumerate_next ?_ (F.args_enumerate_next_1 _))))
  show wpAny _ _ (field (.ref ea) 2 >>= _) _ _ _
  refine wpAny_bind (wpAny_field he rfl (x := .ref ia) rfl (wpAny_bind (nextOf_str_end (by first | exact hh | (show A.in1.handled = none; exact hh)) hit hx fun h' e hb hs hi => ?_)))
  obtain ⟨o, ho, hc⟩ := hs
  refine wpAny_bind (wpAny_isInstance (T := "StopIteration") (b := true) ⟨o, ho, hc⟩ isSubtype_stop (wpAny_pure (hQ _ hb hi)))
end
end Mine
end
section
open PySem PyProof.Rows
set_option maxRecDepth 100000
namespace Mine

section
variable {C : Cx} {G : Env0} {A : Around} {scope : Scope} {a : GenAst} {env : Env} {L ea ia : Addr} {x : List Nat} {t : Tok} {s s' : Shared}

/- the generator's names, and what else holds -/
structure GS0 (C : Cx) (L : Addr) (x : List Nat) (p : Int) (e : Bool) (oc : Option (List Nat)) (X : Heap → Prop) (s : Shared) : Prop where
  st : ∃ k, St C ⟨[L], k⟩ [.ns (esG (.str x) p e oc)] s
  ex : X s.heap

/- the iterators at one place of the text -/
noncomputable def GaI (ea ia : Addr) (x : List Nat) (t : Tok) (i : Nat) (h : Heap) : Prop := (∃ old, IsEnum h ea ia (i : Nat) old) ∧ h.IsStrIter ia (strIterType ⟨⟨x⟩⟩) ⟨⟨x⟩⟩ t i
noncomputable abbrev GQ (C : Cx) (L ea ia : Addr) (x : List Nat) (t : Tok) (i : Nat) (p : Int) (e : Bool) (oc : Option (List Nat)) (s : Shared) : Prop := GS0 C L x p e oc (GaI ea ia x t i) s

structure GZ (C : Cx) (L ea ia : Addr) : Prop where
  ne1 : L ≠ ea
  ne2 : L ≠ ia
  ne3 : ea ≠ ia
  low1 : C.h0.objs.size ≤ ea
  low2 : C.h0.objs.size ≤ ia

/- what the iterators alone tell -/
structure Own (ea ia : Addr) (X : Heap → Prop) : Prop where
  mv : ∀ h h' : Heap, (∀ b o, b = ea ∨ b = ia → h.get? b = some o → h'.get? b = some o) → X h → X h'
  qe : ∀ h, X h → ∃ o, h.get? ea = some o ∧ Quiet o
  qi : ∀ h, X h → ∃ o, h.get? ia = some o ∧ Quiet o
theorem Quiet.enum {o : Obj} {a b c d e : Value} (h : o.data = .fields #[a, .bool false, b, c, d, e]) : Quiet o := ⟨fun vs q t g1 g2 => (by rw [h] at g1; cases g1; cases g2), fun xs n g => (by rw [h] at g; cases g)⟩
theorem Quiet.two {o : Obj} {a : Value} {i : Int} (h : o.data = .fields #[a, .int i 0]) : Quiet o := ⟨fun vs q t g1 g2 => (by rw [h] at g1; cases g1; cases g2), fun xs n g => (by rw [h] at g; cases g)⟩
theorem GaI.own (i : Nat) : Own ea ia (GaI ea ia x t i) where
  mv := fun h h' k ⟨⟨old, he⟩, o, ho, r⟩ => ⟨⟨old, k _ _ (.inl rfl) he⟩, o, k _ _ (.inr rfl) ho, r⟩
  qe := fun h ⟨⟨old, he⟩, _⟩ => ⟨_, he, Quiet.enum rfl⟩
  qi := fun h ⟨_, o, ho, _, hd⟩ => ⟨o, ho, Quiet.two hd⟩
/- the iterators at the end -/
noncomputable def GaE (ea ia : Addr) (i : Nat) (h : Heap) : Prop := (∃ old, IsEnum h ea ia (i : Nat) old) ∧ ∃ o, h.get? ia = some o ∧ o.data = .fields #[.none, .int i 0]
theorem GaE.own (i : Nat) : Own ea ia (GaE ea ia i) where
  mv := fun h h' k ⟨⟨old, he⟩, o, ho, r⟩ => ⟨⟨old, k _ _ (.inl rfl) he⟩, o, k _ _ (.inr rfl) ho, r⟩
  qe := fun h ⟨⟨old, he⟩, _⟩ => ⟨_, he, Quiet.enum rfl⟩
  qi := fun h ⟨_, o, ho, hd⟩ => ⟨o, ho, Quiet.two hd⟩

theorem GS0.piece {X : Heap → Prop} (hX : Own ea ia X) {p p' : Int} {e e' : Bool} {oc oc' : Option (List Nat)} {k : Nat} (Z : GZ C L ea ia) (q : GS0 C L x p e oc X s) (S : St C ⟨[L], k⟩ [.ns (esG (.str x) p' e' oc')] s') (K : Kp [L] s s') : GS0 C L x p' e' oc' X s' :=
  ⟨⟨k, S⟩, hX.mv _ _ (fun b o h g => K.keep _ _ g fun m => by
    rcases h with h | h
    · exact Z.ne1 ((List.mem_singleton.mp m).symm.trans h)
    · exact Z.ne2 ((List.mem_singleton.mp m).symm.trans h)) q.ex⟩

theorem GS0.back {X : Heap → Prop} (hX : Own ea ia X) {T : Top C G} {p : Int} {e : Bool} {oc : Option (List Nat)} (q : GS0 C L x p e oc X s) (K : GK C [L, ea, ia] s s') : GS0 C L x p e oc X s' := by
  obtain ⟨k, S⟩ := q.st
  exact ⟨⟨k, S.single T K.base (fun o g => K.keep _ _ (by simp) g) K.toks⟩, hX.mv _ _ (fun b o h g => K.keep _ _ (by rcases h with h | h <;> simp [h]) g) q.ex⟩

theorem GS0.quiet {X : Heap → Prop} (hX : Own ea ia X) (Z : GZ C L ea ia) {p : Int} {e : Bool} {oc : Option (List Nat)} (q : GS0 C L x p e oc X s) : ∀ z ∈ [L, ea, ia], C.h0.objs.size ≤ z ∧ ∃ o, s.heap.get? z = some o ∧ Quiet o := fun z hz => by
  obtain ⟨k, S⟩ := q.st
  obtain ⟨o, g, es', ep, g1, _⟩ := S.objL
  simp only [List.mem_cons, List.not_mem_nil, or_false] at hz
  rcases hz with h | h | h
  · subst h; exact ⟨S.low _ (List.mem_singleton.mpr rfl), o, g, ⟨fun vs q t h1 => (by rw [g1] at h1; cases h1), fun xs n h1 => (by rw [g1] at h1; cases h1)⟩⟩
  · subst h; exact ⟨Z.low1, hX.qe _ q.ex⟩
  · subst h; exact ⟨Z.low2, hX.qi _ q.ex⟩

theorem hides (Z : GZ C L ea ia) {it : Int} {f1 f2 : Value}
    (q : s.heap.get? ea = some { cls := .type "enumerate", dict := none, data := .fields #[f1, .bool false, .ref ia, rawInt it, .none, f2], slots := #[] }) (si : ∃ i, s.heap.IsStrIter ia (strIterType ⟨⟨x⟩⟩) ⟨⟨x⟩⟩ t i) :
    ∀ z ∈ [ea, ia], C.h0.objs.size ≤ z ∧ ∀ o vs w t, s.heap.get? z = some o → o.data = .fields vs → vs[1]? ≠ some (.str w t) := fun z hz => by
  rcases List.mem_cons.mp hz with h | h
  · subst h
    refine ⟨Z.low1, fun o vs w t h1 h2 h3 => ?_⟩
    have := h1.symm.trans q
    cases this; cases h2; cases h3
  · have h := List.mem_singleton.mp h
    subst h
    refine ⟨Z.low2, fun o vs w t h1 h2 h3 => ?_⟩
    obtain ⟨i, o', ho, hc, hd⟩ := si
    have := h1.symm.trans ho
    cases this
    rw [hd] at h2; cases h2; cases h3

theorem room_loop {A : Around} (hA : Room A 20) {t : Expr} {z : Value} {b body : List Stmt} {k : Result → Sem Fin} {g : Bool} {l : List Value} {p : Pos} : Room (A.over (.forLoop t z b [] env) [.ret k none g l (.func body env) p []]) 9 :=
  ⟨hA.hh, by
    have := hA.depth
    show A.depth + 1 + 0 + 9 < 900
    omega, by
    have := hA.units
    show A.units + 3 + 0 + 3 * 9 < 9000
    omega⟩
theorem room_func {A : Around} (hA : Room A 20) {body : List Stmt} : Room (A.over (.func body env) []) 9 :=
  ⟨hA.hh, by
    have := hA.depth
    show A.depth + 0 + 1 + 9 < 900
    omega, by
    have := hA.units
    show A.units + 0 + 3 + 3 * 9 < 9000
    omega⟩

/- one draw, with the names written -/
theorem draw {i c : Nat} {p : Int} {e : Bool} {oc : Option (List Nat)} (hf : C.frozen = true) (T : Top C G) (K : ConS C G) (GH : GenH C G) (GS : GenSem G scope a) (E : GEnv scope L env) (Z : GZ C L ea ia) (hA : Room A 9) (q : GQ C L ea ia x t i p e oc s) (hx : x[i]? = some c) :
    wpAny (model C.prog C.w) A (pyNext (.ref ea)) (fun r s1 => ∃ v, r = some v ∧ wpAny (model C.prog C.w) A (letOwnedTupleGo a.t (.ref ea) v) (fun _ s2 => wpAny (model C.prog C.w) A (assign a.t env v) (fun _ s3 =>
      GQ C L ea ia x t (i + 1) i e (some [c]) s3 ∧ Kp [L, ea, ia] s s3) (fun _ _ => False) s2) (fun _ _ => False) s1) (fun _ _ => False) s := by
  obtain ⟨k, S⟩ := q.st
  obtain ⟨⟨old, he⟩, si⟩ := q.ex
  have hn := hides Z he ⟨i, si⟩
  refine pyNext_enum si (by simpa using hx) he Z.ne3 fun h1 d => ⟨_, rfl, ?_⟩
  have hLs : L < s.heap.objs.size := S.lt L (List.mem_singleton.mpr rfl)
  have hel : ea < s.heap.objs.size := Heap.lt_size he
  have hil : ia < s.heap.objs.size := by obtain ⟨o, ho, _⟩ := si; exact Heap.lt_size ho
  have B1 : St C ⟨[], 0⟩ [] { s with heap := h1, toks := s.toks + 1 + 1 } := Base.hide T S.base hn (by rw [d.size]; exact Nat.le_succ _) (by omega) fun b o g n => d.keep b o (fun q => n (by simp [q])) (fun q => n (by simp [q])) g
  obtain ⟨es, x1, pos, ht⟩ : ∃ es x1 pos, a.t = .Tuple es x1 pos := by
    have := GS.ist
    unfold isTup at this
    split at this
    · rename_i h; exact ⟨_, _, _, h⟩
    · cases this
  rw [ht]
  refine wpAny_letOwnedTupleGo_enum d.out fun h2 he2 hs2 => ?_
  replace he2 : IsEnum h2 ea ia ((i : Int) + 1) (.str ⟨#[c]⟩ s.toks) := he2
  have hn1 : ∀ z ∈ [ea, ia], C.h0.objs.size ≤ z ∧ ∀ o vs w t, h1.get? z = some o → o.data = .fields vs → vs[1]? ≠ some (.str w t) :=
    hides (s := { s with heap := h1, toks := s.toks + 1 + 1 }) Z d.out ⟨_, d.it⟩
  have hz2 : h2.objs.size = h1.objs.size := hs2.1
  have B2 : St C ⟨[], 0⟩ [] { s with heap := h2, toks := s.toks + 1 + 1 } := Base.hide T B1 hn1 (by rw [hz2]; exact Nat.le_refl _) (Nat.le_refl _) fun b o g n => hs2.extBut b o (fun q => n (by simp [q])) g
  have keepL : ∀ b o, b ≠ ea → b ≠ ia → s.heap.get? b = some o → h2.get? b = some o := fun b o n1 n2 g => hs2.extBut b o n1 (d.keep b o n1 n2 g)
  have S2 : St C ⟨[L], k⟩ [.ns (esG (.str x) p e oc)] { s with heap := h2, toks := s.toks + 1 + 1 } := S.single T B2 (fun o g => keepL L o Z.ne1 Z.ne2 g) (by show s.toks ≤ s.toks + 1 + 1; omega)
  have hT : IsT h2 s.heap.objs.size #[.int i (s.toks + 1), .str ⟨#[c]⟩ s.toks] 0 := by
    have := hs2.extBut _ _ (Nat.ne_of_gt hel) d.tup
    exact this
  have S3 := S2.two (esG_plain x p e oc) (vs := [.int i, .str [c]]) hT S.big fun θ => ⟨⟨_, trivial, rfl⟩, ⟨_, S.tok, rfl⟩, trivial⟩
  have R : EnvR C ⟨[L, s.heap.objs.size], k⟩ ⟨scope, 0, [], .none⟩ env := E.envR GS rfl
  have hI := ev_yes T K GH 9
  have := assignT_sound hI hA R (v := .ref 1) (a := .ref s.heap.objs.size) ⟨_, rfl, rfl⟩ (GS.asg x p e oc i [c]) _ S3
  rw [ht] at this
  refine wpAny_mono this (fun _ s3 hb => ?_) fun _ _ y => y
  obtain ⟨θ', H', g, S', rfl⟩ := hb
  obtain ⟨ys, e1, hy⟩ := g.pre
  have h0 : θ'.l[0]? = some L := by rw [e1]; rfl
  have keep3 : ∀ b o, h2.get? b = some o → b ≠ L → b ≠ s.heap.objs.size → s3.heap.get? b = some o := fun b o g1 n1 n2 => g.tabs hf b o g1 fun m => by
    have m : b ∈ [L, s.heap.objs.size] := m
    rcases List.mem_cons.mp m with h | h
    · exact n1 h
    · exact n2 (List.mem_singleton.mp h)
  refine ⟨⟨⟨_, S'.fst (esG_plain _ _ _ _) h0⟩, ⟨.str ⟨#[c]⟩ s.toks, ?_⟩, ?_⟩, ?_⟩
  · have := keep3 ea _ he2 (Ne.symm Z.ne1) (Nat.ne_of_lt hel)
    rw [show ((i + 1 : Nat) : Int) = (i : Int) + 1 by push_cast; rfl]
    exact this
  · obtain ⟨o, ho, r⟩ := d.it
    exact ⟨o, keep3 ia o (hs2.extBut _ _ (Ne.symm Z.ne3) ho) (Ne.symm Z.ne2) (Nat.ne_of_lt hil), r⟩
  · refine ⟨?_, ?_, g.gens, g.os, fun b o g1 n => ?_⟩
    · have := g.size
      have e2 : ({ s with heap := h2, toks := s.toks + 1 + 1 } : Shared).heap.objs.size = s.heap.objs.size + 1 := hz2.trans d.size
      omega
    · have := g.toks
      have e2 : ({ s with heap := h2, toks := s.toks + 1 + 1 } : Shared).toks = s.toks + 1 + 1 := rfl
      omega
    · have n1 : b ≠ L := fun q => n (by simp [q])
      have n2 : b ≠ ea := fun q => n (by simp [q])
      have n3 : b ≠ ia := fun q => n (by simp [q])
      exact keep3 b o (keepL b o n2 n3 g1) n1 (Nat.ne_of_lt (Heap.lt_size g1))
end
end Mine
end
section
open PySem PyProof.Rows
set_option maxRecDepth 100000
namespace Mine

section
variable {C : Cx} {G : Env0} {A : Around} {scope : Scope} {a : GenAst} {env : Env} {L ea ia : Addr} {x : List Nat} {t : Tok} {s s' : Shared} {U : List (Nat × List Nat)}

theorem interactive_of (E : GEnv scope L env) (GS : GenSem G scope a) : interactive env = false := by
  unfold interactive
  have : env.scope.kind = .function := E.scope ▸ isFun_of GS.fk
  rw [this]; rfl

theorem Kp.wide {ea ia : Addr} (K : Kp [L] s s') : Kp [L, ea, ia] s s' := K.mono fun a h => by rw [List.mem_singleton.mp h]; simp

/- a yield of the generator -/
theorem yields {X : Heap → Prop} (hX : Own ea ia X) {e1 : Expr} {py qy : Pos} {c : Code} {fs : List Frame} {K : Flow → Sem Fin} {H : Value → Sem Fin} {s₀ : Shared} {n : Nat} {p : Nat} {e : Bool} {oc : Option (List Nat)} {u : List Nat} {uv : V} (hf : C.frozen = true) (T : Top C G) (Kc : ConS C G) (GH : GenH C G) (GS : GenSem G scope a) (E : GEnv scope L env) (Z : GZ C L ea ia)
    (hA : Room (A.over c fs) 9) (h1 : splitAtGen fs = none) (h2 : fs.any Frame.guarded = false) (q : GS0 C L x p e oc X s) (hk : Kp [L, ea, ia] s₀ s)
    (he : (ev G 9).e e1 ⟨scope, 0, [], .none⟩ [.ns (esG (.str x) p e oc)] = some (.ref 1, [.ns (esG (.str x) p e oc), .tup [.int p, uv]])) (hu : norm uv = .str u)
    (hU : U[U.length - 1 - n]? = some (p, u)) (hn : n < U.length)
    (h : ∀ s'', GS0 C L x p e oc X s'' → Seg (model C.prog C.w) A (Rp C [L, ea, ia]) (Yp C [L, ea, ia] U) n s'' c (K .next) fs s'') :
    Seg (model C.prog C.w) A (Rp C [L, ea, ia]) (Yp C [L, ea, ia] U) (n + 1) s₀ c ((exec (.Expr (.Yield (some e1) py) qy) env).wrap K H id id) fs s := by
  obtain ⟨k, S⟩ := q.st
  have R : EnvR C ⟨[L], k⟩ ⟨scope, 0, [], .none⟩ env := E.envR GS rfl
  refine seg_Expr_Yield h1 rfl h2 (wpAny_mono (pair_piece hf (esG_plain x p e oc) S ((ev_yes T Kc GH 9).ge hA R he)) (fun v s' hb kap hkap => ?_) fun _ _ y => y.elim) (E.scope ▸ GS.co) (interactive_of E GS)
  obtain ⟨k', T1, m, x1, x2, θ, S', K1, rfl, hsz, hT, r1, r2⟩ := hb
  have q' := q.piece hX Z S' K1
  have K2 := hk.trans (K1.wide (ea := ea) (ia := ia))
  obtain ⟨t1, ht1, rfl⟩ := r1
  have r2 := r2.norm
  rw [hu] at r2
  obtain ⟨t2, ht2, rfl⟩ := r2
  exact ⟨p, u, T1, m, t1, t2, hU, hn, rfl, ht1, ht2, Nat.le_trans hk.size hsz, hT, K2, q'.quiet hX Z, S'.base, fun s'' g => hkap .none s'' (h s'' (GS0.back (T := T) hX q' g))⟩

/- the last words -/
theorem tail_seg {X : Heap → Prop} (hX : Own ea ia X) {K0 : Flow → Sem Fin} {H0 : Value → Sem Fin} {s₀ : Shared} {i : Nat} {p : Int} {e : Bool} {oc : Option (List Nat)} (hf : C.frozen = true) (T : Top C G) (Kc : ConS C G) (GH : GenH C G) (GS : GenSem G scope a) (E : GEnv scope L env) (Z : GZ C L ea ia)
    (hA : Room (A.over (.func a.body env) []) 9) (hK : K0 .next = leafOf (.ok (.ret .none))) (hp : e = true → p = ((i - 1 : Nat) : Int)) (hU : ∃ V, U = V ++ itemsG i e []) (q : GS0 C L x p e oc X s) (hk : Kp [L, ea, ia] s₀ s) :
    Seg (model C.prog C.w) A (Rp C [L, ea, ia]) (Yp C [L, ea, ia] U) (itemsG i e []).length s₀ (.func a.body env) ((execs [.If a.te3 [.Expr (.Yield (some a.e3) a.y3) a.q5] [] a.q6] env).wrap K0 H0 id id) [] s := by
  obtain ⟨k, S⟩ := q.st
  have R : EnvR C ⟨[L], k⟩ ⟨scope, 0, [], .none⟩ env := E.envR GS rfl
  refine seg_execs_cons (seg_If (wpAny_mono (piece (P := fun b _ => b = e) hf S ((ev_yes T Kc GH 9).gt hA R (GS.te3 x p e oc))) (fun b s1 hb => ?_) fun _ _ y => y.elim))
  obtain ⟨k1, S1, K1, rfl⟩ := hb
  have q1 := q.piece hX Z S1 K1
  have hk1 := hk.trans (K1.wide (ea := ea) (ia := ia))
  cases b with
  | true =>
    rw [if_pos rfl]
    have e0 := hp rfl
    subst e0
    obtain ⟨V, hV⟩ := hU
    have hV : U = V ++ [(i - 1, [92])] := hV
    refine seg_execs_cons (yields hX (n := 0) (u := [92]) hf T Kc GH GS E Z hA rfl rfl q1 hk1 (GS.e3 x _ oc) rfl (by rw [hV]; simp) (by rw [hV]; simp) fun s2 q2 => ?_)
    refine seg_execs_nil (seg_execs_nil ?_)
    rw [hK]
    obtain ⟨k2, S2⟩ := q2.st
    exact seg_end _ ⟨rfl, rfl, Kp.refl _ _, S2.base⟩
  | false =>
    rw [if_neg Bool.false_ne_true]
    refine seg_execs_nil (seg_execs_nil ?_)
    rw [hK]
    exact seg_end _ ⟨rfl, rfl, hk1, S1.base⟩

noncomputable def loopBody (a : GenAst) : List Stmt := [.If a.te [.Expr (.Yield (some a.e1) a.y1) a.q1, a.c1] [.If a.te2 [a.c2] [.Expr (.Yield (some a.e2) a.y2) a.q2] a.q3] a.q4]

theorem items_last {U V : List (Nat × List Nat)} {y : Nat × List Nat} {r : List (Nat × List Nat)} (h : U = V ++ y :: r) : U[U.length - 1 - r.length]? = some y ∧ r.length < U.length := by
  subst h
  refine ⟨?_, by rw [List.length_append, List.length_cons]; omega⟩
  have : (V ++ y :: r).length - 1 - r.length = V.length := by rw [List.length_append, List.length_cons]; omega
  rw [this]; simp

theorem loop_seg {K0 : Flow → Sem Fin} {H0 : Value → Sem Fin} {k : Result → Sem Fin} {gd : Bool} {lv : List Value} (hf : C.frozen = true) (T : Top C G) (Kc : ConS C G) (GH : GenH C G) (GS : GenSem G scope a) (E : GEnv scope L env) (Z : GZ C L ea ia) (hA : Room A 20) (hgd : gd = false)
    (hK : K0 .next = leafOf (.ok (.ret .none))) (hk0 : k (.ok .next) = (execs [.If a.te3 [.Expr (.Yield (some a.e3) a.y3) a.q5] [] a.q6] env).wrap K0 H0 id id) :
    ∀ (r : List Nat) (i : Nat) (p : Int) (e : Bool) (oc : Option (List Nat)) (s₀ s : Shared) (pc : Pos), x.drop i = r → i ≤ x.length → (e = true → p = ((i - 1 : Nat) : Int)) → (∃ V, U = V ++ itemsG i e r) → GQ C L ea ia x t i p e oc s → Kp [L, ea, ia] s₀ s →
      Seg (model C.prog C.w) A (Rp C [L, ea, ia]) (Yp C [L, ea, ia] U) (itemsG i e r).length s₀ (.forLoop a.t (.ref ea) (loopBody a) [] env) ((model C.prog C.w).den (.forLoop a.t (.ref ea) (loopBody a) [] env)) [.ret k none gd lv (.func a.body env) pc []] s
  | [], i, p, e, oc, s₀, s, pc, hr, hi, hp, hU, q, hk => by
    have hl : i = x.length := by
      have := congrArg List.length hr
      simp at this; omega
    obtain ⟨⟨old, he⟩, si⟩ := q.ex
    refine seg_forLoop (wpAny_with_sizes (pyNext_enum_over (room_loop hA).hh si (by simp [hl]) he fun h1 hx h1i hz => ?_))
    replace hz : s.heap.objs.size ≤ h1.objs.size := hz
    obtain ⟨kk, S⟩ := q.st
    have B1 : St C ⟨[], 0⟩ [] { s with heap := h1 } := Base.hide T S.base (k := s.toks) (hides Z he ⟨i, si⟩) hz (Nat.le_refl _) fun b o g n => hx b o (fun q => n (by simp [q])) g
    have S1 : St C ⟨[L], kk⟩ [.ns (esG (.str x) p e oc)] { s with heap := h1 } := S.single T B1 (fun o g => hx L o Z.ne2 g) (Nat.le_refl _)
    refine seg_leaf (.ok .next) ?_
    rw [hk0]
    refine tail_seg (GaE.own i) hf T Kc GH GS E Z (room_func hA) hK hp hU ⟨⟨kk, S1⟩, ⟨old, hx _ _ Z.ne3 he⟩, h1i⟩ (hk.trans ?_)
    exact ⟨hz, Nat.le_refl _, fun _ _ g => g, rfl, fun b o g n => hx b o (fun q => n (by simp [q])) g⟩
  | c :: r, i, p, e, oc, s₀, s, pc, hr, hi, hp, hU, q, hk => by
    have hL := room_loop hA (t := a.t) (z := .ref ea) (b := loopBody a) (env := env) (body := a.body) (k := k) (g := gd) (l := lv) (p := pc)
    have hlt : i < x.length := by
      have := congrArg List.length hr
      simp at this; omega
    have hx : x[i]? = some c := by
      have := congrArg (·[0]?) hr
      simpa using this
    have hr' : x.drop (i + 1) = r := by
      have := congrArg (List.drop 1) hr
      simpa [List.drop_drop, Nat.add_comm] using this
    have IH := fun p e oc s₀ s => loop_seg (K0 := K0) (H0 := H0) (k := k) (gd := gd) (lv := lv) hf T Kc GH GS E Z hA hgd hK hk0 r (i + 1) p e oc s₀ s pc hr' hlt
    refine seg_forLoop (wpAny_mono (draw hf T Kc GH GS E Z hL q hx) (fun r1 s1 h1 => ?_) fun _ _ y => y.elim)
    obtain ⟨v, rfl, h1⟩ := h1
    refine wpAny_mono h1 (fun _ s2 h2 => wpAny_mono h2 (fun _ s3 h3 => ?_) fun _ _ y => y) fun _ _ y => y
    obtain ⟨q3, k3⟩ := h3
    have hk3 := hk.trans k3
    have hX := GaI.own (ea := ea) (ia := ia) (x := x) (t := t) (i + 1)
    obtain ⟨kk, S3⟩ := q3.st
    have R : ∀ k, EnvR C ⟨[L], k⟩ ⟨scope, 0, [], .none⟩ env := fun k => E.envR GS rfl
    refine seg_execs_cons (seg_If (wpAny_mono (piece (P := fun b _ => b = e) hf S3 ((ev_yes T Kc GH 9).gt hL (R _) (GS.te x i e [c]))) (fun b s4 hb => ?_) fun _ _ y => y.elim))
    obtain ⟨k4, S4, K4, rfl⟩ := hb
    have q4 := q3.piece hX Z S4 K4
    have hk4 := hk3.trans (K4.wide (ea := ea) (ia := ia))
    cases b with
    | true =>
      rw [if_pos rfl]
      obtain ⟨V, hV⟩ := hU
      have hV : U = V ++ (i, [92, c]) :: itemsG (i + 1) false r := hV
      obtain ⟨u1, u2⟩ := items_last hV
      refine seg_execs_cons (yields hX (n := (itemsG (i + 1) false r).length) (u := [92, c]) hf T Kc GH GS E Z hL rfl (by rw [hgd]; rfl) q4 hk4 (GS.e1 x i c) rfl u1 u2 fun s5 q5 => ?_)
      obtain ⟨k5, S5⟩ := q5.st
      refine seg_wrap (wpAny_mono (piece (P := fun f θ => FlR θ .next f) hf S5 ((ev_yes T Kc GH 9).gs hL (R _) (GS.c1 x i [c]))) (fun f s6 hb => ?_) fun _ _ y => y.elim)
      obtain ⟨k6, S6, K6, hfl⟩ := hb
      cases hfl
      refine seg_execs_nil (seg_again rfl ?_)
      exact IH i false (some [c]) s5 s6 (fun h => (nomatch h)) ⟨V ++ [(i, [92, c])], by rw [hV]; simp⟩ (q5.piece hX Z S6 K6) (K6.wide (ea := ea) (ia := ia))
    | false =>
      rw [if_neg Bool.false_ne_true]
      refine seg_execs_cons (seg_If (wpAny_mono (piece (P := fun b _ => b = nbeq [c] [92]) hf S4 ((ev_yes T Kc GH 9).gt hL (R _) (GS.te2 x i c))) (fun b s5 hb => ?_) fun _ _ y => y.elim))
      obtain ⟨k5, S5, K5, hb5⟩ := hb
      have q5 := q4.piece hX Z S5 K5
      have hk5 := hk4.trans (K5.wide (ea := ea) (ia := ia))
      have hb6 : b = Nat.beq c 92 := by
        rw [hb5]
        show (match Nat.beq c 92 with | true => nbeq [] [] | false => false) = _
        cases Nat.beq c 92 <;> rfl
      clear hb5
      have hI : itemsG i false (c :: r) = match Nat.beq c 92 with
          | true => itemsG (i + 1) true r
          | false => (i, [c]) :: itemsG (i + 1) false r := rfl
      rw [← hb6] at hI
      cases b with
      | true =>
        rw [if_pos rfl]
        have hI : itemsG i false (c :: r) = itemsG (i + 1) true r := hI
        rw [hI] at hU ⊢
        refine seg_wrap (wpAny_mono (piece (P := fun f θ => FlR θ .next f) hf S5 ((ev_yes T Kc GH 9).gs hL (R _) (GS.c2 x i [c]))) (fun f s6 hb => ?_) fun _ _ y => y.elim)
        obtain ⟨k6, S6, K6, hfl⟩ := hb
        cases hfl
        refine seg_execs_nil (seg_execs_nil (seg_again rfl ?_))
        exact IH i true (some [c]) s₀ s6 (fun h => rfl) hU (q5.piece hX Z S6 K6) (hk5.trans (K6.wide (ea := ea) (ia := ia)))
      | false =>
        rw [if_neg Bool.false_ne_true]
        have hI : itemsG i false (c :: r) = (i, [c]) :: itemsG (i + 1) false r := hI
        rw [hI] at hU ⊢
        obtain ⟨V, hV⟩ := hU
        obtain ⟨u1, u2⟩ := items_last hV
        refine seg_execs_cons (yields hX (n := (itemsG (i + 1) false r).length) (u := [c]) hf T Kc GH GS E Z hL rfl (by rw [hgd]; rfl) q5 hk5 (GS.e2 x i [c]) rfl u1 u2 fun s6 q6 => ?_)
        refine seg_execs_nil (seg_execs_nil (seg_execs_nil (seg_again rfl ?_)))
        exact IH i false (some [c]) s6 s6 (fun h => (nomatch h)) ⟨V ++ [(i, [c])], by rw [hV]; simp⟩ q6 (Kp.refl _ _)
end
end Mine
end
section
open PySem PyProof.Rows
set_option maxRecDepth 100000
namespace Mine

section
variable {C : Cx} {G : Env0} {A : Around} {scope : Scope} {a : GenAst} {env : Env} {L ea ia : Addr} {x : List Nat} {t : Tok} {s s' : Shared} {U : List (Nat × List Nat)}

/- a name of the frame is stored: the heap grows by nothing -/
theorem store_exact {es : List (Str × V)} {y : Str} {v : V} {b : Value} {k : Nat} (hf : C.frozen = true) (GS : GenSem G scope a) (E : GEnv scope L env) (S : St C ⟨[L], k⟩ [.ns es] s) (hk : kind ⟨scope, 0, [], .none⟩ y = some .local) (hv : VR ⟨[L], k⟩ v b) :
    wpAny (model C.prog C.w) A (storeName env y b) (fun _ s' => St C ⟨[L], k⟩ [.ns (put y v es)] s' ∧ Kp [L] s s' ∧ s'.heap.objs.size = s.heap.objs.size) (fun _ _ => False) s := by
  have R : EnvR C ⟨[L], k⟩ ⟨scope, 0, [], .none⟩ env := E.envR GS rfl
  have hfn : env.scope.kind = .function := R.scope ▸ R.kind
  obtain ⟨k1, k2, _⟩ := kind_of R hk
  obtain ⟨m, hn, hr⟩ := S.nsAt (l := 0) rfl R.loc
  refine wpAny_storeName_local k1 hn (fun h' hn' hs' => ?_) (by rw [hfn]; rfl)
  obtain ⟨o', es', ep, g1, g2, g3, g4⟩ := hn'
  have := hr.put (x := y) hv
  have x := S.upd (l := 0) (x := env.locals) (o := .ns (put y v es)) (o' := o') (s' := { s with heap := h', toks := s.toks + 1 }) R.loc g1 ⟨es', ep, g2, g3, fun y u e => by
    obtain ⟨b, e1, e2⟩ := this y u e
    exact ⟨b, (g4 y).trans e1, e2⟩⟩ (sameBut_get hs') (Nat.le_of_eq hs'.1.symm) (Nat.le_succ _) rfl rfl
  exact ⟨x.1, Kp.of_go hf (fun a h => h) x.2, hs'.1⟩

structure GenNames (C : Cx) : Prop where
  en : C.mg "enumerate" = none ∧ C.mb "enumerate" = some (.type "enumerate")

/- the generator from its start -/
theorem func_seg {k : Nat} (hf : C.frozen = true) (T : Top C G) (Kc : ConS C G) (GH : GenH C G) (GS : GenSem G scope a) (N : GenNames C) (E : GEnv scope L env) (hA : Room A 20) (S : St C ⟨[L], k⟩ [.ns [("addr", .str x)]] s) :
    Seg (model C.prog C.w) A (Rp C [L, s.heap.objs.size + 1, s.heap.objs.size]) (Yp C [L, s.heap.objs.size + 1, s.heap.objs.size] (itemsG 0 false x)) (itemsG 0 false x).length s (.func a.body env) ((model C.prog C.w).den (.func a.body env)) [] s := by
  have hLs : L < s.heap.objs.size := S.lt L (List.mem_singleton.mpr rfl)
  have Z : GZ C L (s.heap.objs.size + 1) s.heap.objs.size := ⟨Nat.ne_of_lt (Nat.lt_succ_of_lt hLs), Nat.ne_of_lt hLs, Nat.succ_ne_self _, Nat.le_succ_of_le S.big, S.big⟩
  have hF := room_func hA (body := a.body) (env := env)
  have R : ∀ k, EnvR C ⟨[L], k⟩ ⟨scope, 0, [], .none⟩ env := fun k => E.envR GS rfl
  obtain ⟨p0, q0, k0, r0, h0⟩ := GS.s0a
  obtain ⟨p1, q1, k1, r1, h1⟩ := GS.s1a
  obtain ⟨pa, ha⟩ := GS.ian
  refine seg_func ?_
  show Seg _ _ _ _ _ _ _ ((execs (a.s0 :: a.s1 :: .For a.t a.it (loopBody a) [] a.p :: [.If a.te3 [.Expr (.Yield (some a.e3) a.y3) a.q5] [] a.q6]) env).wrap _ _ _ _) _ _
  rw [h0, h1]
  refine seg_execs_cons (seg_plain (wpAny_Assign_Name (wpAny_Constant_int ?_)))
  have S0 := (S.tokd (s.toks + 1) (Nat.le_succ _)).1
  refine wpAny_mono (store_exact hf GS E S0 GS.kpos (v := .int 0) ⟨_, trivial, rfl⟩) (fun _ s1 hb => ?_) fun _ _ y => y.elim
  obtain ⟨S1, K1, z1⟩ := hb
  refine seg_execs_cons (seg_plain (wpAny_Assign_Name (wpAny_Constant_bool ?_)))
  refine wpAny_mono (store_exact hf GS E S1 GS.kesc (v := .bool false) rfl) (fun _ s2 hb => ?_) fun _ _ y => y.elim
  obtain ⟨S2, K2, z2⟩ := hb
  have S2 : St C ⟨[L], k⟩ [.ns (esG (.str x) 0 false .none)] s2 := S2
  have K02 : Kp [L] s s2 := (Kp.trans (s := s) (s' := { s with toks := s.toks + 1 }) ⟨Nat.le_refl _, Nat.le_succ _, fun _ _ g => g, rfl, fun _ _ g _ => g⟩ K1).trans K2
  have z : s2.heap.objs.size = s.heap.objs.size := z2.trans z1
  refine seg_execs_cons (seg_For (fun v => by rw [GS.isit]; rfl) ?_)
  rw [GS.isit, ha, arm_eval_Call_Name']
  obtain ⟨m1, m2⟩ := N.en
  obtain ⟨n1, n2, _⟩ := kind_of (R k) GS.kd
  have hfn : env.scope.kind = .function := (R k).scope ▸ (R k).kind
  refine wpAny_bind (Calls.Name_function_global hfn n1 (Calls.loadGlobal_builtin (env := env) (by rw [E.globals]; exact Top.ns S2 T.gns T.low.1) m1 (by rw [E.builtins]; exact Top.ns S2 T.bns T.low.2.1) m2 ?_) n2)
  refine PySem.callWith_type (first := []) rfl (evalArgs_any rfl ?_)
  show wpAny _ _ (spliced ((false, eval (.Name "addr" pa) env) :: [])) _ _ _
  rw [spliced]
  obtain ⟨mm, hn, hr⟩ := S2.nsAt (l := 0) rfl (R k).loc
  obtain ⟨av, e1, e2⟩ := hr "addr" (.str x) rfl
  obtain ⟨ta, hta, rfl⟩ := e2
  obtain ⟨j1, j2, _⟩ := kind_of (R k) GS.kadd
  refine wpAny_bind (wpAny_Name (wpAny_loadName_local hfn j1 hn e1 ?_) j2)
  simp only [Bool.false_eq_true, if_false, pure_bind]
  refine wpAny_bind (wpAny_holding (wpAny_pure (wpAny_pure ?_)))
  refine call_enumerate_str fun h3 he hi hz hk => ?_
  rw [z] at he hi hz
  rw [z]
  have hi : h3.IsStrIter s.heap.objs.size (strIterType ⟨⟨x⟩⟩) ⟨⟨x⟩⟩ ta 0 := hi
  refine wpAny_pyIter_enum he ?_
  have S3 := (S2.same (s' := { s2 with heap := h3 }) hk (by show s2.heap.objs.size ≤ h3.objs.size; omega) (Nat.le_refl _) rfl rfl).1
  have K3 : Kp [L, s.heap.objs.size + 1, s.heap.objs.size] s { s2 with heap := h3 } := (K02.wide).trans ⟨by show s2.heap.objs.size ≤ h3.objs.size; omega, Nat.le_refl _, fun _ _ g => g, rfl, fun b o g _ => hk b o g⟩
  intro p
  exact loop_seg (K0 := fun f => .pure (.done (.ret (match f with | .ret v => v | _ => .none)))) (H0 := _) hf T Kc GH GS E Z hA rfl rfl rfl x 0 0 false .none s _ p rfl (Nat.zero_le _) (fun h => (nomatch h)) ⟨[], rfl⟩ ⟨⟨k, S3⟩, ⟨_, he⟩, hi⟩ K3
end
end Mine
end
section
open PySem PyProof.Rows
set_option maxRecDepth 100000
namespace Mine

section
variable {prog : Program} {w : World} {A : Around} {E : Value → Shared → Prop} {s : Shared}

/- one more of a generator: what stands after it is a state that is asleep -/
theorem pyNext_genQ {a : Addr} {g n : Nat} {gs : GenState} {R : GenEnd} {Y : Protocol} {Q : Option Value → Shared → Prop} (hh : A.handled = none) (hl : s.heap.NoLimit) (hroom : A.depth < recursionLimit)
    (hg : s.heap.IsGen a g) (hgs : s.gens[g]? = some gs) (hgo : gs.Goes (model prog w) A.in1 R Y n (.send .none) (s.setGen g .running))
    (hR : ∀ r s₁, R n (s.setGen g .running) r s₁ → r = .ok (.ret .none))
    (hY : ∀ v s₁ gs', gs'.bare = true → Y (n - 1) (s.setGen g .running) v s₁ (fun r' s'' => match n with
        | 0 => False
        | m + 1 => gs'.Goes (model prog w) A.in1 R Y m r' s'') → Q (some v) (s₁.setGen g gs'))
    (hP : ∀ r s₁, R n (s.setGen g .running) r s₁ → ∀ h', (∀ b o, s₁.heap.get? b = some o → h'.get? b = some o) → Q none { s₁.setGen g .finished with heap := h' }) :
    wpAny (model prog w) A (pyNext (.ref a)) Q E s := by
  unfold pyNext
  refine wpAny_bind (wpAny_attempt (wpAny_callSpecial?_slot (name := Str.ofString "__next__") hg.typeIs slot_gen_next
    (wpAny_call_entry slot_gen_next hg.typeIs entry_gen_next ?_ (args_gen_next _))))
  show wpAny _ A.in1 (Builtin.Generator.genWake (.ref a) (.send .none)) _ _ s
  unfold Builtin.Generator.genWake
  refine wpAny_bind (wpAny_holding (wpAny_genNumber hg (wpAny_bind (wpAny_genState hgs ?_))))
  cases gs with
  | running => exact hgo.elim
  | finished => exact hgo.elim
  | _ =>
    refine wpAny_bind (wpAny_roomToWake hl hroom ?_)
    show wpAny _ A.in1 (.resume g (.send .none) [] _) _ _ s
    refine wpAny_resumeQ hgs hgo (fun r s₁ hx => ?_) (fun v s₁ gs' hb hv => wpAny_pure ⟨v, rfl, wpAny_pure (hY v s₁ gs' hb hv)⟩)
    have e := hR r s₁ hx
    subst e
    show wpAny _ A.in1 (newExc (.type "StopIteration") [] >>= _) _ _ _
    refine wpAny_bind ?_
    simp only [newExc, newTuple]
    refine wpAny_bind (wpAny_newObj_type ?_ (by size_fits))
    refine wpAny_bind (m := firstArgMember _ _) (wpAny_of_eq (a := Value.none) (by first | rfl | (simp only [firstArgMember]; rfl)) ?_)
    refine wpAny_newObj_type ?_ (by size_fits)
    simp only [raiseNew]
    refine wpAny_bind (wpAny_bind (wpAny_handled ?_))
    rw [show A.in1.handled = none from hh]
    refine wpAny_throw ?_
    refine wpAny_bind (wpAny_isInstance (T := "StopIteration") (b := true) ⟨_, Heap.get?_push_size _ rfl, rfl⟩ isSubtype_stop ?_)
    exact wpAny_pure (hP _ s₁ hx _ fun b o hb => Heap.get?_push_of_some _ (Heap.get?_push_of_some _ hb))
end

section
variable [Ops] {C : Cx} {G : Env0} {A : Around} {θ : Th} {H : Hp} {s s' : Shared}

/- hidden things change: ours stand -/
theorem St.quiet (T : Top C G) (S : St C θ H s) {W : List Addr} (hk : ∀ a o, s.heap.get? a = some o → a ∉ W → s'.heap.get? a = some o) (hW : ∀ z ∈ W, z ∉ θ ∧ C.h0.objs.size ≤ z ∧ ∀ o, s.heap.get? z = some o → Quiet o)
    (hz : s.heap.objs.size ≤ s'.heap.objs.size) (ht : s.toks ≤ s'.toks) (hb : AllBare s'.gens) : St C θ H s' := by
  have fld : ∀ a o vs q t, s.heap.get? a = some o → o.data = .fields vs → vs[1]? = some (.str q t) → s'.heap.get? a = some o := fun a o vs q t h1 h2 h3 => hk a o h1 fun m => ((hW a m).2.2 o h1).fld vs q t h2 h3
  have sq : ∀ a o xs n, s.heap.get? a = some o → o.data = .seq xs n → s'.heap.get? a = some o := fun a o xs n h1 h2 => hk a o h1 fun m => ((hW a m).2.2 o h1).sq xs n h2
  have fn : ∀ {tab ps body scope cs fd}, FnR C θ s.heap tab ps body scope cs fd → FnR C θ s'.heap tab ps body scope cs fd := fun {tab ps body scope cs fd} r => by
    obtain ⟨c, o, vs, t, e1, e2, e3, e4, e5, e6⟩ := r.code
    exact ⟨r.tab, r.body, r.scope, r.params, r.globals, r.builtins, r.dflt, r.kwd, r.clo, c, o, vs, t, e1, e2, e3, fld c o vs _ t e4 e5 e6, e5, e6⟩
  refine ⟨S.len, fun l o e v => ?_, S.nodup, S.low, fun x h => Nat.lt_of_lt_of_le (S.lt x h) hz, fun e => S.tok (Nat.le_zero.mp (e ▸ ht)), Nat.le_trans S.bnd ht, hb, fun a o e n => hk a o (S.top a o e n) fun m => Nat.not_lt.mpr (hW a m).2.1 (Heap.lt_size e), Nat.le_trans S.big hz, fun kk P e => ?_⟩
  · obtain ⟨x, o', h1, h2, h3⟩ := S.own l o e v
    refine ⟨x, o', h1, hk x o' h2 fun m => (hW x m).1 (mem_at h1), ?_⟩
    cases o with
    | ns es => exact h3
    | cell v => exact h3
    | list vs => exact h3
    | tup vs => exact h3
    | dict es => exact h3
    | fn ps body scope cs => obtain ⟨fd, g1, g2⟩ := h3; exact ⟨fd, g1, fn g2⟩
    | gone => exact h3
    | xl vs its => exact h3
    | it I =>
      cases I with
      | rng a b c => exact h3
      | seq b l i => exact h3
      | rev l k => exact h3
      | zip i j t f =>
        obtain ⟨p, q, z, r, a, e1, e2, e3, e4, e5, e6, e7, e8⟩ := h3
        exact ⟨p, q, z, r, a, e1, e2, e3, e4, e5, sq _ _ _ _ e6 rfl, e7, e8⟩
  · obtain ⟨c, q, ps, e1, e2, e3, e4, e5, e6⟩ := S.tab kk P e
    obtain ⟨o, vs0, file, tf, flags, tg, inF, text, tt, op, a, r1, r2, r3, r4, r5, r6, b, r⟩ := e3
    have hc : c ∉ W := fun hm => Nat.not_lt.mpr (hW c hm).2.1 (T.clt c (List.mem_of_getElem? e1))
    have hP : P ∉ W := fun hm => Nat.not_lt.mpr (hW P hm).2.1 (T.tabs P (List.mem_of_getElem? e))
    refine ⟨c, q, ps, e1, e2, ⟨o, vs0, file, tf, flags, tg, inF, text, tt, op, hk _ _ a hc, r1, r2, r3, r4, r5, r6, hk _ _ b hP, r⟩, e4, e5, fun pos v hv => ?_⟩
    obtain ⟨c', o1, vs1, t1, q1, q2, q3, q4, q5, q6⟩ := e6 pos v hv
    exact ⟨c', o1, vs1, t1, q1, q2, q3, fld c' o1 vs1 _ t1 q4 q5 q6, q5, q6⟩

/- a thing of plain things becomes ours -/
theorem St.take (S : St C θ H s) {x : Addr} {p : O} {o' : Obj} (hx : s.heap.get? x = some o') (hn : x ∉ θ) (hlow : C.h0.objs.size ≤ x) (T : Top C G) (hsq : ∃ xs n, o'.data = .seq xs n) (hnp : ∀ a b, o' ≠ { cls := .type "tuple", data := .seq #[.ref a, .ref b] })
    (hv : OR C (θ ++ [x]) s.heap p o') : St C (θ ++ [x]) (Ops.app H [p]) s := by
  have nf : ∀ (c : Addr) (o : Obj) (ws : Array Value), s.heap.get? c = some o → o.data = .fields ws → c ≠ x := fun c o ws h1 h2 h3 => by
    subst h3
    have := h1.symm.trans hx
    cases this
    obtain ⟨xs, n, h⟩ := hsq
    rw [h] at h2; cases h2
  have np : ∀ (r : Addr) (a b : Addr), IsPair s.heap r (.ref a) (.ref b) → r ≠ x := fun r a b h1 h3 => by
    subst h3
    have := h1.symm.trans hx
    cases this
    exact hnp a b rfl
  have app : ∀ {c : Addr}, c ∉ θ → c ≠ x → c ∉ θ ++ [x] := fun {c} h1 h2 h => by
    rcases mem_app.mp h with h | h
    · exact h1 h
    · exact h2 (List.mem_singleton.mp h)
  refine ⟨by show (θ.l ++ [x]).length = _; rw [Ops.app_len, List.length_append, S.len]; rfl, fun k o e v => ?_, ?_, fun y h => ?_, fun y h => ?_, S.tok, S.bnd, S.bare, S.top, S.big, fun kk P e => ?_⟩
  · by_cases q : k < (Ops.len H)
    · rw [Ops.app_lt _ q] at e
      obtain ⟨y, o', g1, g2, g3⟩ := S.own k o e v
      refine ⟨y, o', (Ext.app θ [x]).1 _ _ g1, g2, ?_⟩
      have X := Ext.app θ [x]
      cases o with
      | ns es => obtain ⟨es', ep, h1, h2, h3⟩ := g3; exact ⟨es', ep, h1, h2, h3.mono X⟩
      | cell cv =>
        obtain ⟨v', h1, h2⟩ := g3
        refine ⟨v', h1, ?_⟩
        cases cv <;> cases v' <;> first | exact h2 | exact VR.mono X h2
      | list vs => obtain ⟨a, n, h2, h3⟩ := g3; exact ⟨a, n, h2, h3.mono X⟩
      | tup vs => obtain ⟨a, n, h2, h3⟩ := g3; exact ⟨a, n, h2, h3.mono X⟩
      | dict es => obtain ⟨h0, es', ep, h1, h2, h3, h4⟩ := g3; exact ⟨h0, es', ep, h1, h2, h3, fun k v e => let ⟨a, e1, e2⟩ := h4 k v e; ⟨a, e1, e2.mono X⟩⟩
      | fn ps body scope cs =>
        obtain ⟨fd, g1, r⟩ := g3
        obtain ⟨c, o, vs, t, e1, e2, e3, e4, e5, e6⟩ := r.code
        exact ⟨fd, g1, r.tab, r.body, r.scope, r.params, r.globals, r.builtins, r.dflt, r.kwd, r.clo.mono X, c, o, vs, t, e1, app e2 (nf c o vs e4 e5), e3, e4, e5, e6⟩
      | gone => exact g3
      | xl vs its => exact ⟨g3.1, g3.2.mono X⟩
      | it I =>
        cases I with
        | rng a b c => exact g3
        | seq b l i => obtain ⟨y, e, r⟩ := g3; exact ⟨y, X.1 _ _ e, r⟩
        | rev l k => obtain ⟨y, e, r⟩ := g3; exact ⟨y, X.1 _ _ e, r⟩
        | zip i j t f =>
          obtain ⟨p, q, z, r, a, e1, e2, e3, e4, e5, e6, e7, e8⟩ := g3
          exact ⟨p, q, z, r, a, X.1 _ _ e1, X.1 _ _ e2, X.1 _ _ e3, app e4 (np _ _ _ e6), e5, e6, e7.mono X, e8⟩
    · rw [Ops.app_ge _ (Nat.not_lt.mp q)] at e
      have hk : k - (Ops.len H) = 0 := by
        cases hd : k - (Ops.len H) with
        | zero => rfl
        | succ d => rw [hd] at e; simp at e
      rw [hk] at e
      cases e
      have hk' : k = θ.l.length := by rw [S.len]; omega
      exact ⟨x, _, by show (θ.l ++ [x])[k]? = _; rw [hk']; simp, hx, hv⟩
  · exact List.nodup_append.mpr ⟨S.nodup, List.nodup_cons.mpr ⟨fun h => (nomatch h), List.nodup_nil⟩, fun a h b h' => fun e => hn (by rw [← List.mem_singleton.mp h']; exact e ▸ h)⟩
  · rcases mem_app.mp h with h | h
    · exact S.low y h
    · rw [List.mem_singleton.mp h]; exact hlow
  · rcases mem_app.mp h with h | h
    · exact S.lt y h
    · rw [List.mem_singleton.mp h]; exact Heap.lt_size hx
  · obtain ⟨c, q, ps, e1, e2, e3, e4, e5, e6⟩ := S.tab kk P e
    have hc : c < C.h0.objs.size := T.clt c (List.mem_of_getElem? e1)
    have hP : P < C.h0.objs.size := T.tabs P (List.mem_of_getElem? e)
    refine ⟨c, q, ps, e1, e2, e3, app e4 fun h => Nat.not_lt.mpr hlow (h ▸ hc), app e5 fun h => Nat.not_lt.mpr hlow (h ▸ hP), fun pos v hv => ?_⟩
    obtain ⟨c', o1, vs1, t1, q1, q2, q3, q4, q5, q6⟩ := e6 pos v hv
    exact ⟨c', o1, vs1, t1, q1, app q2 (nf c' o1 vs1 q4 q5), q3, q4, q5, q6⟩

/- a pair of plain things becomes ours -/
theorem St.adopt (S : St C θ H s) {x : Addr} {p : Int} {u : Str} {tk tk' : Tok} {m : Nat} {vs : List V} (hx : IsT s.heap x #[.int p tk, .str u tk'] m) (hn : x ∉ θ) (hlow : C.h0.objs.size ≤ x) (T : Top C G) (hv : ∀ θ, AR θ vs [.int p tk, .str u tk']) :
    St C (θ ++ [x]) (Ops.app H [.tup vs]) s :=
  S.take hx hn hlow T ⟨_, _, rfl⟩ (fun a b e => by cases e) ⟨_, m, rfl, hv _⟩
end
end Mine
end
section
open PySem PyProof.Rows
set_option maxRecDepth 100000
namespace Mine

/- what the generator sees of it all -/
noncomputable def Cx.fz (C : Cx) : Cx := { C with frozen := true }
noncomputable def Env0.bare (G : Env0) : Env0 := { G with fn := fun _ => .none, con := fun _ _ => .none, gen := fun _ => false }

theorem Top.fz {C : Cx} {G : Env0} (T : Top C G) : Top C.fz G.bare :=
  ⟨T.gns, T.bns, T.stat, T.tabs, T.tnd, T.cnt, T.cl, T.clt, T.low, T.glob, T.bi, T.nest, T.lev, T.blt, T.code, fun _ _ h => (nomatch h)⟩
theorem ConS.bare {C : Cx} {G : Env0} : ConS C.fz G.bare := ⟨fun _ _ _ h => (nomatch h), fun h => (nomatch h)⟩
theorem GenH.bare {C : Cx} {G : Env0} : GenH C.fz G.bare := GenH.none fun _ => rfl
theorem St.fz {C : Cx} {s : Shared} (S : St C ⟨[], 0⟩ [] s) : St C.fz ⟨[], 0⟩ [] s :=
  ⟨S.len, fun l o e => (no_own e).elim, S.nodup, S.low, S.lt, S.tok, S.bnd, S.bare, S.top, S.big, S.tab⟩
theorem St.unfz {C : Cx} {s : Shared} (S : St C.fz ⟨[], 0⟩ [] s) : St C ⟨[], 0⟩ [] s :=
  ⟨S.len, fun l o e => (no_own e).elim, S.nodup, S.low, S.lt, S.tok, S.bnd, S.bare, S.top, S.big, S.tab⟩

theorem AllBare.set {s : Shared} (h : AllBare s.gens) (g : Nat) {x : GenState} (hx : x.bare = true) : AllBare (s.setGen g x).gens := fun y hy => by
  rcases Array.mem_or_eq_of_mem_setIfInBounds hy with h' | h'
  · exact h y h'
  · rw [h']; exact hx
theorem setGen_other {s : Shared} {g j : Nat} {x : GenState} (h : j ≠ g) : (s.setGen g x).gens[j]? = s.gens[j]? := by
  show (s.gens.setIfInBounds g x)[j]? = _
  rw [Array.getElem?_setIfInBounds_ne (Ne.symm h)]
theorem St.setGen [Ops] {C : Cx} {θ : Th} {H : Hp} {s : Shared} (S : St C θ H s) (g : Nat) {x : GenState} (hx : x.bare = true) : St C θ H (s.setGen g x) :=
  ⟨S.len, S.own, S.nodup, S.low, S.lt, S.tok, S.bnd, AllBare.set S.bare g hx, S.top, S.big, S.tab⟩

/- what the generator's turn leaves -/
structure Gd (W : List Addr) (g : Nat) (s s' : Shared) : Prop where
  size : s.heap.objs.size ≤ s'.heap.objs.size
  toks : s.toks ≤ s'.toks
  os : s'.os = s.os
  keep : ∀ a o, s.heap.get? a = some o → a ∉ W → s'.heap.get? a = some o
  gens : ∀ (j : Nat) (x : GenState), j ≠ g → s.gens[j]? = some x → s'.gens[j]? = some x

section
variable {C : Cx} {G : Env0} {A : Around} {θ θ' : Th} {s s' s'' : Shared} {za g : Nat} {U : List (Nat × List Nat)} {Z Z' : List Addr} {k : Nat}

theorem GK.refl (S : St C ⟨[], 0⟩ [] s) : GK C Z s s := ⟨S, Nat.le_refl _, Nat.le_refl _, fun _ _ _ e => e⟩

/- the generator's object, with k items left -/
structure GL (C : Cx) (A : Around) (za g : Nat) (U : List (Nat × List Nat)) (Z : List Addr) (k : Nat) (s : Shared) : Prop where
  gen : s.heap.IsGen za g
  gs : ∃ gs, s.gens[g]? = some gs ∧ ∀ s'', GK C.fz Z s s'' → ∃ Z', (∀ z ∈ Z', z ∈ Z ∨ s''.heap.objs.size ≤ z) ∧ gs.Goes (model C.prog C.w) A.in1 (Rp C.fz Z') (Yp C.fz Z' U) k (.send .none) s''
  hid : ∀ z ∈ Z, C.h0.objs.size ≤ z ∧ ∃ o, s.heap.get? z = some o ∧ Quiet o
  low : C.h0.objs.size ≤ za
  out : za ∉ Z

/- what the consumer does leaves it -/
theorem GL.go (T : Top C G) (L : GL C A za g U Z k s) (g1 : Go C θ s θ' s') (hd : ∀ z ∈ Z, z ∉ θ) (hz : za ∉ θ) : GL C A za g U Z k s' := by
  have nt : ∀ a, C.h0.objs.size ≤ a → a ∉ C.tabs := fun a h m => Nat.not_lt.mpr h (T.tabs a m)
  have keep : ∀ z o, z ∈ Z → s.heap.get? z = some o → s'.heap.get? z = some o := fun z o m e => g1.keep z o e (hd z m) (nt z (L.hid z m).1)
  obtain ⟨o, nm, qn, ho, r⟩ := L.gen
  obtain ⟨gs, h1, h2⟩ := L.gs
  refine ⟨⟨o, nm, qn, g1.keep za o ho hz (nt za L.low), r⟩, ⟨gs, g1.gens g gs h1, fun s'' K => h2 s'' ⟨K.base, Nat.le_trans g1.size K.size, Nat.le_trans g1.toks K.toks, fun a o m e => K.keep a o m (keep a o m e)⟩⟩, fun z m => ?_, L.low, L.out⟩
  obtain ⟨h3, o, h4, h5⟩ := L.hid z m
  exact ⟨h3, o, keep z o m h4, h5⟩

theorem gen_next [Ops] {H : Hp} (T : Top C G) (hh : A.handled = none) (hroom : A.depth < recursionLimit) (S : St C θ H s) (L : GL C A za g U Z k s) (hd : ∀ z ∈ Z, z ∉ θ) {Q : Option Value → Shared → Prop} {E : Value → Shared → Prop}
    (hQ : ∀ Z' m p u x n tk tk' s', k = m + 1 → U[U.length - 1 - m]? = some (p, u) → True → tk' ≠ 0 → s.heap.objs.size ≤ x → IsT s'.heap x #[.int (p : Nat) tk, .str ⟨⟨u⟩⟩ tk'] n → Gd Z g s s' → St C θ H s' → GL C A za g U Z' m s' → (∀ z ∈ Z', z ∈ Z ∨ s.heap.objs.size ≤ z) → Q (some (.ref x)) s')
    (hE : ∀ s', k = 0 → Gd Z g s s' → St C θ H s' → Q none s') :
    wpAny (model C.prog C.w) A (pyNext (.ref za)) Q E s := by
  obtain ⟨gs, h1, h2⟩ := L.gs
  have hs := S.setGen g (x := .running) rfl
  obtain ⟨Z', hZ, hgo⟩ := h2 (s.setGen g .running) ⟨hs.base.fz, Nat.le_refl _, Nat.le_refl _, fun _ _ _ e => e⟩
  have hZ : ∀ z ∈ Z', z ∈ Z ∨ s.heap.objs.size ≤ z := hZ
  have hza : za < s.heap.objs.size := by obtain ⟨o, nm, qn, ho, _⟩ := L.gen; exact Heap.lt_size ho
  have hW : ∀ z ∈ Z', z ∉ θ ∧ C.h0.objs.size ≤ z ∧ ∀ o, s.heap.get? z = some o → Quiet o := fun z m => by
    rcases hZ z m with h | h
    · obtain ⟨q1, o, q2, q3⟩ := L.hid z h
      exact ⟨hd z h, q1, fun o' e => by rw [q2] at e; cases e; exact q3⟩
    · exact ⟨fun hm => Nat.not_lt.mpr h (S.lt z hm), Nat.le_trans S.big h, fun o e => absurd (Heap.lt_size e) (Nat.not_lt.mpr h)⟩
  have keepZ : ∀ (a : Addr) o, s.heap.get? a = some o → a ∉ Z → a ∉ Z' := fun a o e n m => by
    rcases hZ a m with h | h
    · exact n h
    · exact Nat.not_lt.mpr h (Heap.lt_size e)
  have nza : za ∉ Z' := fun m => by
    rcases hZ za m with h | h
    · exact L.out h
    · exact Nat.not_lt.mpr h hza
  refine wpAny_with_sizes (pyNext_genQ hh (T.limit S) hroom L.gen h1 hgo (fun r s1 h => h.1) (fun v s1 gs' hb hY _ => ?_) fun r s1 hR h' hk hsz => ?_)
  · obtain ⟨p, u, x, n, tk, tk', e1, e2, rfl, e3, e4, e5, e6, K, hh1, B, kap⟩ := hY
    cases k with
    | zero => exact (kap s1 (GK.refl B)).elim
    | succ m =>
      have K : Kp Z' (s.setGen g .running) s1 := K
      refine hQ Z' m p u x n tk tk' (s1.setGen g gs') rfl e1 e3 e4 e5 e6 ⟨K.size, K.toks, K.os, fun a o e h => K.keep a o e (keepZ a o e h), fun j y hj e => ?_⟩ ?_ ⟨?_, ⟨gs', setGen_self (gs := .running) (K.gens g .running (setGen_self h1)), fun s'' GK1 => ?_⟩, hh1, L.low, nza⟩ hZ
      · rw [setGen_other hj]
        refine K.gens j y ?_
        rw [setGen_other hj]; exact e
      · exact S.quiet T (W := Z') (fun a o e h => K.keep a o e h) hW K.size K.toks (AllBare.set (@St.bare listOps _ _ _ _ B) g hb)
      · obtain ⟨o, nm, qn, ho, r⟩ := L.gen
        exact ⟨o, nm, qn, K.keep za o ho nza, r⟩
      · exact ⟨Z', fun z m => .inl m, kap s'' ⟨GK1.base, GK1.size, GK1.toks, GK1.keep⟩⟩
  · obtain ⟨rfl, hk0, K, B⟩ := hR
    have K : Kp Z' (s.setGen g .running) s1 := K
    have keep : ∀ a o, s.heap.get? a = some o → a ∉ Z' → h'.get? a = some o := fun a o e h => hk a o (K.keep a o e h)
    refine hE { s1.setGen g .finished with heap := h' } hk0 ⟨hsz, K.toks, K.os, fun a o e h => keep a o e (keepZ a o e h), fun j y hj e => ?_⟩ ?_
    · show (s1.setGen g .finished).gens[j]? = _
      rw [setGen_other hj]
      refine K.gens j y ?_
      rw [setGen_other hj]; exact e
    · exact S.quiet T (W := Z') (s' := { s1.setGen g .finished with heap := h' }) keep hW hsz K.toks (AllBare.set (@St.bare listOps _ _ _ _ B) g rfl)
end
end Mine
end
section
open PySem PyProof.Rows
set_option maxRecDepth 100000
namespace Mine

section
variable [Ops] {C : Cx} {G : Env0} {A : Around} {θ θ' θ0 : Th} {H H' : Hp} {ρ : Rho} {env : Env} {ih : Ih} {n : Nat} {s s' sb : Shared} {za g : Nat} {U us : List (Nat × List Nat)} {Z Z' : List Addr} {k : Nat}

theorem letGo_gen {t : Expr} {v : Value} {Q : Unit → Shared → Prop} {E : Value → Shared → Prop} (hg : s.heap.IsGen za g) (h : Q () s) : wpAny (model C.prog C.w) A (letOwnedTupleGo t (.ref za) v) Q E s := by
  obtain ⟨⟨cls, dct, dat, sl⟩, nm, qn, ho, hc, hd, hs⟩ := hg
  replace hc : cls = .type "generator" := hc
  subst hc
  replace hd : dat = .fields #[.int g 0, nm, qn] := hd
  subst hd
  unfold letOwnedTupleGo
  cases t <;> first
    | exact wpAny_pure h
    | (cases v <;> first
        | exact wpAny_pure h
        | (refine wpAny_bind (wpAny_load ho ?_)
           simp only
           rw [if_neg (by simp)]
           exact wpAny_pure h))

theorem Go.gd (T : Top C G) (S : St C θ H s) (hb : C.h0.objs.size ≤ sb.heap.objs.size) (x : Go C θ0 sb θ s) (d : Gd Z g s s') (hz : ∀ z ∈ Z, sb.heap.objs.size ≤ z) (hg : sb.gens.size ≤ g) : Go C θ0 sb θ s' where
  pre := x.pre
  nle := x.nle
  size := Nat.le_trans x.size d.size
  keep := fun a o e h t => d.keep a o (x.keep a o e h t) fun m => Nat.not_lt.mpr (hz a m) (Heap.lt_size e)
  os := d.os.trans x.os
  gens := fun j y e => d.gens j y (fun q => by
    subst q
    exact absurd (Array.getElem?_eq_some_iff.mp e).1 (Nat.not_lt.mpr hg)) (x.gens j y e)
  tabs := fun f a o e h => d.keep a o (x.tabs f a o e h) fun m => Nat.not_lt.mpr (hz a m) (Heap.lt_size e)
  toks := Nat.le_trans x.toks d.toks
  tnew := ⟨fun P hP pos v hv => by
    obtain ⟨k, hk, e⟩ := List.mem_iff_getElem.mp hP
    obtain ⟨c, q, ps, e1, e2, ⟨o, vs, file, tf, flags, tg, inF, text, tt, op, a, r1, r2, r3, r4, r5, r6, b, r⟩, e4, e5, e6⟩ := S.tab k P (by rw [List.getElem?_eq_getElem hk, e])
    refine x.tnew.am P hP pos v ?_
    unfold tabOf at hv ⊢
    rw [d.keep _ _ b fun m => Nat.not_lt.mpr (Nat.le_trans hb (hz P m)) (T.tabs P hP)] at hv
    rw [b]; exact hv, fun P hP ps e => by
    obtain ⟨m, h⟩ := x.tnew.ob P hP ps e
    exact ⟨m, d.keep _ _ h fun m => Nat.not_lt.mpr (Nat.le_trans hb (hz P m)) (T.tabs P hP)⟩⟩
theorem Go.more (x : Go C θ0 sb θ s) {a : Addr} (h : sb.heap.objs.size ≤ a) : Go C θ0 sb (θ ++ [a]) s := by
  obtain ⟨ys, e, hy⟩ := x.pre
  refine ⟨⟨ys ++ [a], by show θ.l ++ [a] = _; rw [e]; simp, fun y m => ?_⟩, x.nle, x.size, x.keep, x.os, x.gens, x.tabs, x.toks, x.tnew⟩
  rcases List.mem_append.mp m with m | m
  · exact hy y m
  · rw [List.mem_singleton.mp m]; exact h

/- a consumer's state amid the loop -/
structure LI (C : Cx) (A : Around) (θ0 : Th) (sb : Shared) (za g : Nat) (U : List (Nat × List Nat)) (Z : List Addr) (θ : Th) (H : Hp) (us : List (Nat × List Nat)) (s : Shared) : Prop where
  go : Go C θ0 sb θ s
  st : St C θ H s
  gl : GL C A za g U Z us.length s
  nz : ∀ z ∈ Z, z ∉ θ ∧ sb.heap.objs.size ≤ z
  na : za ∉ θ
  ng : sb.gens.size ≤ g
  sb : C.h0.objs.size ≤ sb.heap.objs.size
  us : ∃ V, U = V ++ us

theorem LI.step (T : Top C G) (L : LI C A θ0 sb za g U Z θ H us s) (x : Go C θ s θ' s') (S' : St C θ' H' s') : LI C A θ0 sb za g U Z θ' H' us s' := by
  obtain ⟨ys, e, hy⟩ := x.pre
  have out : ∀ a, a ∉ θ → a < s.heap.objs.size → a ∉ θ' := fun a h1 h2 h => by
    have h : a ∈ θ'.l := h
    rw [e] at h
    rcases List.mem_append.mp h with h | h
    · exact h1 h
    · exact Nat.not_lt.mpr (hy a h) h2
  refine ⟨L.go.trans x, S', L.gl.go T x (fun z m => (L.nz z m).1) L.na, fun z m => ⟨out z (L.nz z m).1 ?_, (L.nz z m).2⟩, out za L.na ?_, L.ng, L.sb, L.us⟩
  · obtain ⟨_, o, ho, _⟩ := L.gl.hid z m; exact Heap.lt_size ho
  · obtain ⟨o, nm, qn, ho, _⟩ := L.gl.gen; exact Heap.lt_size ho

noncomputable def GInv (C : Cx) (A : Around) (θ0 : Th) (sb : Shared) (za : Addr) (g : Nat) (U : List (Nat × List Nat)) (rec : List (Nat × List Nat) → Hp → Option (Fl × Hp)) (q : Fl × Hp) (k : Nat) (s' : Shared) : Prop := ∃ θ1 H1 Z1 us1, LI C A θ0 sb za g U Z1 θ1 H1 us1 s' ∧ us1.length = k ∧ rec us1 H1 = some q
section
variable {body : List Stmt} {rec : List (Nat × List Nat) → Hp → Option (Fl × Hp)} {q : Fl × Hp} {r : List (Nat × List Nat)} {t : Expr}
theorem gen_end {fl : Fl} {H1 H2 : Hp} {E : Value → Shared → Prop} (T : Top C G) (R : EnvR C θ0 ρ env) (L : LI C A θ0 sb za g U Z θ H1 r s) (p : AtS C A ρ env H1 body fl H2) (h : afterF (rec r) fl H2 = some q) :
    wpAny (model C.prog C.w) A (execs body env) (fun f s3 => match f with
      | .next | .cont => ∃ m, m < r.length + 1 ∧ GInv C A θ0 sb za g U rec q m s3
      | .brk => Out C θ0 sb q (.ok .next) s3
      | .ret v => Out C θ0 sb q (.ok (.ret v)) s3) (notedBy (model C.prog C.w) A env E) s := by
  refine wpAny_mono (p (R.mono L.go.ext) s L.st) (fun f s3 hb => hb.elim fun θ3 H5 g3 S3 ⟨e, rf⟩ => ?_) fun _ _ x => noNote _ _ x
  subst e
  cases fl with
  | next => rw [show f = .next from rf]; exact ⟨r.length, Nat.lt_succ_self _, θ3, _, Z, r, L.step T g3 S3, rfl, h⟩
  | cont => rw [show f = .cont from rf]; exact ⟨r.length, Nat.lt_succ_self _, θ3, _, Z, r, L.step T g3 S3, rfl, h⟩
  | brk => rw [show f = .brk from rf]; injection h with h; subst h; exact ⟨.next, rfl, .mk' (L.go.trans g3) S3 ⟨rfl, rfl⟩⟩
  | ret v =>
    obtain ⟨a, rfl, ra⟩ := rf
    injection h with h; subst h; exact ⟨.ret a, rfl, .mk' (L.go.trans g3) S3 ⟨rfl, a, rfl, ra⟩⟩
noncomputable abbrev GTurn (C : Cx) (A : Around) (θ0 : Th) (env : Env) (sb : Shared) (za : Addr) (g : Nat) (U : List (Nat × List Nat)) (rec : List (Nat × List Nat) → Hp → Option (Fl × Hp)) (t : Expr) (body : List Stmt) (k : Nat) (x : Value) (s : Shared) (q : Fl × Hp) : Prop :=
  wpAny (model C.prog C.w) A (assign t env x) (fun _ s₂ => wpAny (model C.prog C.w) A (execs body env) (fun f s₃ => match f with
            | .next | .cont => ∃ m, m < k + 1 ∧ GInv C A θ0 sb za g U rec q m s₃
            | .brk => Out C θ0 sb q (.ok .next) s₃
            | .ret v => Out C θ0 sb q (.ok (.ret v)) s₃) (notedBy (model C.prog C.w) A env fun e s' => Out C θ0 sb q (.error e) s') s₂) (notedBy (model C.prog C.w) A env fun e s' => Out C θ0 sb q (.error e) s') s
theorem gen_turn (I : IhS C ih n) (T : Top C G) (hA : Room A n) (R : EnvR C θ0 ρ env) {v : V} {x : Value} (L : LI C A θ0 sb za g U Z θ H r s) (hv : VR θ v x) :
    Yes (GTurn C A θ0 env sb za g U (loopG (assignT ih ρ t) (ih.s body ρ)) t body r.length x s) (match (generalizing := false) assignT ih ρ t v H with | some H => afterW (loopG (assignT ih ρ t) (ih.s body ρ) r) (ih.s body ρ H) | .none => .none) :=
  Yes.hp (assignT_yes I hA t) fun H1 p1 => Yes.fh (I.s hA body) fun fl H2 p2 => Yes.of fun q h => wpAny_mono (p1 (R.mono L.go.ext) hv s L.st) (fun _ s4 hb => hb.elim fun θ4 H4 g4 S4 e => by
    subst e
    exact gen_end T R (L.step T g4 S4) p2 h) fun _ _ x => noNote _ _ x
end
/- one draw of the generator -/
noncomputable def GDr (C : Cx) (A : Around) (θ0 : Th) (sb : Shared) (za g : Nat) (U : List (Nat × List Nat)) (θ : Th) (H : Hp) (us : List (Nat × List Nat)) (r : Option Value) (s' : Shared) : Prop :=
  (us = [] ∧ r = none ∧ Go C θ0 sb θ s' ∧ St C θ H s') ∨ ∃ p u us' x Z', us = (p, u) :: us' ∧ r = some (.ref x) ∧ s'.heap.IsGen za g ∧ LI C A θ0 sb za g U Z' (θ ++ [x]) (Ops.app H [.tup [.int (p : Nat), .str u]]) us' s' ∧ VR (θ ++ [x]) (.ref (Ops.len H)) (.ref x)
theorem gen_draw (T : Top C G) (hA : Room A n) (L : LI C A θ0 sb za g U Z θ H us s) : wpAny (model C.prog C.w) A (pyNext (.ref za)) (GDr C A θ0 sb za g U θ H us) (fun _ _ => False) s := by
  have hroom : A.depth < recursionLimit := by have := hA.depth; unfold recursionLimit; omega
  refine gen_next T hA.hh hroom L.st L.gl (fun z m => (L.nz z m).1) (fun Z' m p u x nn tk tk' s2 hm hU ht ht' hx hT hd S2 L2 hZ => ?_) fun s2 hk hd S2 => .inl ⟨List.length_eq_zero_iff.mp hk, rfl, Go.gd T L.st L.sb L.go hd (fun z m => (L.nz z m).2) L.ng, S2⟩
  cases us with
  | nil => cases hm
  | cons y r =>
    obtain ⟨p', u'⟩ := y
    have hm' : r.length = m := by simpa using hm
    subst hm'
    obtain ⟨V, hV⟩ := L.us
    obtain ⟨e1, _⟩ := items_last hV
    rw [e1] at hU
    cases hU
    have nx : x ∉ θ := fun hm => Nat.not_lt.mpr hx (L.st.lt x hm)
    have lz : ∀ z ∈ Z', z ∉ θ ∧ sb.heap.objs.size ≤ z := fun z m => by
      rcases hZ z m with q | q
      · exact L.nz z q
      · exact ⟨fun hm => Nat.not_lt.mpr q (L.st.lt z hm), Nat.le_trans L.go.size q⟩
    have S3 := S2.adopt (vs := [.int p, .str u]) hT nx (Nat.le_trans L.st.big hx) T fun θ => ⟨⟨_, ht, rfl⟩, ⟨_, ht', rfl⟩, trivial⟩
    have hza : za ≠ x := fun q => by
      obtain ⟨o, nm, qn, ho, _⟩ := L.gl.gen
      exact absurd (Heap.lt_size ho) (Nat.not_lt.mpr (q ▸ hx))
    refine .inr ⟨p, u, r, x, Z', rfl, rfl, L2.gen, ⟨(Go.gd T L.st L.sb L.go hd (fun z m => (L.nz z m).2) L.ng).more (Nat.le_trans L.go.size hx), S3, L2, fun z m => ⟨fun hm => ?_, (lz z m).2⟩, fun hm => ?_, L.ng, L.sb, ⟨V ++ [(p, u)], by rw [hV]; simp⟩⟩, ⟨x, by rw [Th.get_eq]; show (θ.l ++ [x])[(Ops.len H)]? = _; rw [← L.st.len]; exact List.getElem?_concat_length, rfl⟩⟩
    · rcases mem_app.mp hm with q | q
      · exact (lz z m).1 q
      · obtain ⟨_, o, ho, hq⟩ := L2.hid z m
        rw [List.mem_singleton.mp q] at ho
        rw [hT] at ho; cases ho
        exact hq.sq _ _ rfl
    · rcases mem_app.mp hm with q | q
      · exact L.na q
      · exact hza (List.mem_singleton.mp q)
theorem forGen_sound {t : Expr} {body : List Stmt} {q : Fl × Hp} (I : IhS C ih n) (T : Top C G) (hA : Room A n) (R : EnvR C θ0 ρ env) (L : LI C A θ0 sb za g U Z θ H us s) (h : loopG (assignT ih ρ t) (ih.s body ρ) us H = some q) :
    codeAny (model C.prog C.w) A (.forLoop t (.ref za) body [] env) (Out C θ0 sb q) s := by
  refine codeAny_forLoop_any (GInv C A θ0 sb za g U (loopG (assignT ih ρ t) (ih.s body ρ)) q) (fun k s1 hI => ?_) us.length ⟨θ, H, Z, us, L, rfl, h⟩
  obtain ⟨θ1, H1, Z1, us1, L1, rfl, h1⟩ := hI
  refine wpAny_mono (gen_draw T hA L1) (fun r s2 hb => ?_) fun _ _ x => noNote _ _ x
  rcases hb with ⟨rfl, rfl, g2, S2⟩ | ⟨p, u, us', x, Z', rfl, rfl, hg, L3, hv⟩
  · injection h1 with h1
    subst h1
    rw [show execs [] env = pure .next from rfl]
    exact wpAny_pure ⟨.next, rfl, .mk' g2 S2 ⟨rfl, rfl⟩⟩
  · exact letGo_gen hg ((gen_turn I T hA R L3 hv).get h1)
end
end Mine
end
section
open PySem PyProof.Rows
set_option maxRecDepth 100000
namespace Mine

/- what the top has of the generator -/
structure GTop (C : Cx) (G : Env0) : Prop where
  gen : ∀ f, G.gen f = true → ∃ a o fd scope ast, C.mg f = some (.ref a) ∧ a ∉ C.tabs ∧ C.h0.get? a = some o ∧ o.data = .func fd ∧ FnR C ⟨[], 0⟩ C.h0 .none ["addr"] (GenAst.body ast) scope [] fd ∧ GenSem G.bare scope ast ∧
    layCells scope.names [] [.ns []] = ([], [.ns []])
  names : G.gen = (fun _ => false) ∨ GenNames C
  lev : 30 ≤ C.lev

section
variable {C : Cx} {G : Env0}

theorem FnR.fz {h : Heap} {ps : List Str} {body : List Stmt} {scope : Scope} {fd : FuncData} (r : FnR C ⟨[], 0⟩ h .none ps body scope [] fd) : FnR C.fz ⟨[], 0⟩ h .none ps body scope [] fd :=
  ⟨fun _ e => (nomatch e), r.body, r.scope, r.params, r.globals, r.builtins, r.dflt, r.kwd, r.clo, r.code⟩

theorem gens_size {a b : Array GenState} (h : ∀ (g : Nat) (x : GenState), a[g]? = some x → b[g]? = some x) : a.size ≤ b.size := by
  rcases Nat.lt_or_ge b.size a.size with q | q
  · have := h b.size a[b.size] (by simp [q])
    simp at this
  · exact q

/- the generator's frame, new -/
structure GFrame (C : Cx) (scope : Scope) (x : List Nat) (s1 : Shared) (genv : Env) (s2 : Shared) : Prop where
  st : ∃ k, St C.fz ⟨[genv.locals], k⟩ [.ns [("addr", .str x)]] s2
  E : GEnv scope genv.locals genv
  low : s1.heap.objs.size ≤ genv.locals
  lt : genv.locals < s2.heap.objs.size
  keep : ∀ b o, s1.heap.get? b = some o → s2.heap.get? b = some o
  size : s1.heap.objs.size ≤ s2.heap.objs.size
  toks : s1.toks ≤ s2.toks
  gens : ∀ (g : Nat) (x : GenState), s1.gens[g]? = some x → s2.gens[g]? = some x
  os : s2.os = s1.os
  bare : AllBare s2.gens
  big : C.h0.objs.size ≤ s2.heap.objs.size
  limit : s2.heap.NoLimit
  obj : ∃ oL, s2.heap.get? genv.locals = some oL ∧ Quiet oL
theorem gen_frame {A : Around} {scope : Scope} {ast : GenAst} {fd : FuncData} {a : Addr} {x : List Nat} {tk : Tok} {s1 : Shared} (T : Top C G) (e5 : FnR C ⟨[], 0⟩ C.h0 .none ["addr"] (GenAst.body ast) scope [] fd) (GS : GenSem G.bare scope ast) (hlay : layCells scope.names [] [.ns []] = ([], [.ns []])) (htk : tk ≠ 0) (B : St C ⟨[], 0⟩ [] s1) :
    wpAny (model C.prog C.w) A.in1 (newFunctionEnv fd.scope fd.globals fd.closure ((["addr"] : List Str).zip [.str ⟨⟨x⟩⟩ tk]) (fd.qualname ++ ".<locals>.") (some a) fd.code none fd.builtins) (GFrame C scope x s1) (fun _ _ => False) s1 := by
  have k6 : bindAll ⟨scope, 0, [], .none⟩ ((["addr"] : List Str).zip [.str x]) [.ns []] = some [.ns [("addr", .str x)]] := by
    have h1 : stName ⟨scope, 0, [], .none⟩ [.ns []] "addr" (.str x) = some [.ns [("addr", .str x)]] := by
      unfold stName
      rw [GS.kadd]
      rfl
    show bindAll _ [("addr", V.str x)] _ = _
    unfold bindAll
    rw [h1]
    rfl
  have e5' : FnR C.fz ⟨[], 0⟩ C.h0 .none ["addr"] (GenAst.body ast) scope [] fd := e5.fz
  have mk := newEnvB_tri (C := C.fz) (A := A.in1) (θ := ⟨[], 0⟩) (H := []) (a := a) (vs := [.str x]) (as := [.str ⟨⟨x⟩⟩ tk]) (H1 := [.ns [("addr", .str x)]]) (ρ := ⟨scope, 0, [], .none⟩) e5' ⟨⟨tk, htk, rfl⟩, trivial⟩ (isFun_of GS.fk) (by show _ = (⟨scope, 0, (layCells scope.names [] [.ns []]).1, .none⟩ : Rho); rw [hlay]) (by show bindAll _ _ (layCells scope.names [] [.ns []]).2 = _; rw [hlay]; exact k6) s1 B.fz
  refine wpAny_mono mk (fun genv s2 hb => ?_) fun _ _ x => x.elim
  obtain ⟨⟨θ2, H3, g2, S2, rfl, R2⟩⟩ := hb
  obtain ⟨ys, ey, hy⟩ := g2.pre
  have ey : θ2.l = ys := ey
  have hlen : θ2.l.length = 1 := S2.len
  have hloc : θ2.l[0]? = some genv.locals := R2.loc
  have hθ : θ2 = ⟨[genv.locals], θ2.n⟩ := by
    obtain ⟨l, k⟩ := θ2
    match l, hlen, hloc with
    | [y], _, h => simp at h; subst h; rfl
  rw [hθ] at S2
  obtain ⟨oL, gL, es', ep, dL, _⟩ := S2.objL
  exact ⟨⟨_, S2⟩, ⟨R2.scope, rfl, by
    have := R2.cells
    cases hc : genv.cells with
    | nil => rfl
    | cons p q => rw [hc] at this; exact this.elim, R2.globals, R2.builtins⟩, hy _ (by rw [← ey, hθ]; simp), S2.lt _ (List.mem_singleton.mpr rfl), fun b o e => g2.tabs rfl b o e fun h => (nomatch h), g2.size, g2.toks, g2.gens, g2.os, S2.bare, S2.big, T.fz.limit S2,
    oL, gL, ⟨fun vs q t h1 => (by rw [dL] at h1; cases h1), fun xs n h1 => (by rw [dL] at h1; cases h1)⟩⟩

section
variable [Ops]
/- a generator's object, new -/
noncomputable def GNew (C : Cx) (A : Around) (θ : Th) (s : Shared) (U : List (Nat × List Nat)) (H1 : Hp) (v : Value) (s' : Shared) : Prop := ∃ za g θ1 s1 Z, v = .ref za ∧ s'.heap.IsGen za g ∧ Go C θ s θ1 s1 ∧ LI C A θ1 s1 za g U Z θ1 H1 U s'
theorem gen_mk {ih : Ih} {n : Nat} {A : Around} {H H1 : Hp} {ρ : Rho} {env : Env} {it : Expr} {U : List (Nat × List Nat)} {θ : Th} {s : Shared} (T : Top C G) (GT : GTop C G) (I : IhS C ih n) (hA : Room A n) (gv : GvR ih G ρ H it U H1) (R : EnvR C θ ρ env) (S : St C θ H s) :
    wpAny (model C.prog C.w) A (eval it env) (GNew C A θ s U H1) (fun _ _ => False) s := by
  obtain ⟨fn, p0, args, pos, v, x, rfl, hk, hg, hv, hx, rfl⟩ := gv.ex
  obtain ⟨a, o, fd, scope, ast, e1, e2, e3, e4, e5, GS, hlay⟩ := GT.gen fn hg
  have N : GenNames C := by
    rcases GT.names with q | q
    · rw [q] at hg; cases hg
    · exact q
  have hn : 30 ≤ n := Nat.le_trans GT.lev (I.c gv.c)
  have hdep := hA.depth
  have hunits := hA.units
  refine callName_wp (fun pos => (evs_yes I hA pos args).get hv) R S (fnName_tri T R hk e1) fun as θ1 s1 g1 S1 r1 => ?_
  match as, r1 with
  | [av], r1 =>
    obtain ⟨r1, _⟩ := r1
    have r1 := r1.norm
    rw [hx] at r1
    obtain ⟨tk, htk, rfl⟩ := r1
    have ho := S1.top a o e3 e2
    refine ⟨⟨o, fd, ho, e4⟩, wpAny_call ?_⟩
    obtain ⟨c, oc, vs', tc, q1, q2, q3, q4, q5, q6⟩ := e5.code
    refine codeAny_call_generator (by unfold recursionLimit; omega) ho e4 (by rw [e5.scope]; exact GS.co) (by rw [e5.scope]; exact GS.gn) e5.body ⟨c, oc, vs', tc, q1, S1.top c oc q4 q3, q5, q6⟩ ?_
    refine wpAny_of_eq (bindArgs_plain e5.params e5.dflt rfl) ?_
    refine wpAny_mono (gen_frame T e5 GS hlay htk S1.base) (fun genv s2 g2 => ?_) fun _ _ x => x.elim
    obtain ⟨k2, S2⟩ := g2.st
    have hLlow := g2.low
    have hLlt := g2.lt
    have E := g2.E
    have keep2 := g2.keep
    refine ⟨g2.limit, ?_⟩
    -- the generator's object
    generalize hs3 : ({ s2 with gens := s2.gens.push (.fresh (.func (GenAst.body ast) genv)), toks := s2.toks + 1 + 1, heap := s2.heap.push { cls := .type "generator", data := .fields #[.int s2.gens.size 0, .str fd.name s2.toks, .str fd.qualname (s2.toks + 1)] } } : Shared) = s3
    have hp3 : s3.heap = s2.heap.push { cls := .type "generator", data := .fields #[.int s2.gens.size 0, .str fd.name s2.toks, .str fd.qualname (s2.toks + 1)] } := by rw [← hs3]
    have hg3 : s3.gens = s2.gens.push (.fresh (.func (GenAst.body ast) genv)) := by rw [← hs3]
    have ht3 : s3.toks = s2.toks + 1 + 1 := by rw [← hs3]
    have ho3 : s3.os = s2.os := by rw [← hs3]
    have keep3 : ∀ b o, s2.heap.get? b = some o → s3.heap.get? b = some o := fun b o e => by rw [hp3]; exact Heap.get?_push_of_some _ e
    have hz3 : s3.heap.objs.size = s2.heap.objs.size + 1 := by rw [hp3, Heap.size_push]
    have hza : s3.heap.get? s2.heap.objs.size = some { cls := .type "generator", data := .fields #[.int s2.gens.size 0, .str fd.name s2.toks, .str fd.qualname (s2.toks + 1)] } := by rw [hp3]; exact Heap.get?_push_size _ rfl
    have hgen : s3.heap.IsGen s2.heap.objs.size s2.gens.size := ⟨_, _, _, hza, rfl, rfl, rfl⟩
    have hbare : AllBare s3.gens := by rw [hg3]; exact AllBare.push g2.bare rfl
    have S3 : St C θ1 H1 s3 := S1.quiet T (W := []) (fun b o e _ => keep3 b o (keep2 b o e)) (fun z m => (nomatch m)) (by have := g2.size; omega) (by have := g2.toks; omega) hbare
    have g13 : Go C θ1 s1 θ1 s3 := by
      refine ⟨⟨[], by simp, fun _ m => (nomatch m)⟩, Nat.le_refl _, by have := g2.size; omega, fun b o e _ _ => keep3 b o (keep2 b o e), ho3.trans g2.os, fun j y e => ?_, fun _ b o e _ => keep3 b o (keep2 b o e), by have := g2.toks; omega, tnew_keep S1 fun b o e _ => keep3 b o (keep2 b o e)⟩
      rw [hg3]
      have := g2.gens j y e
      rw [Array.getElem?_push, if_neg (Nat.ne_of_lt (Array.getElem?_eq_some_iff.mp this).1)]
      exact this
    refine ⟨s2.heap.objs.size, s2.gens.size, θ1, s1, [genv.locals], rfl, hgen, g1, ⟨g13, S3, ⟨hgen, ⟨.fresh (.func (GenAst.body ast) genv), ?_, fun s'' K => ?_⟩, fun z m => ?_, ?_, ?_⟩, fun z m => ?_, ?_, ?_, S1.big, ⟨[], rfl⟩⟩⟩
    · rw [hg3]; exact Array.getElem?_push_size ..
    · have SL := S2.single T.fz K.base (fun o e => K.keep _ _ (List.mem_singleton.mpr rfl) (keep3 _ _ e)) (by have := K.toks; omega)
      refine ⟨[genv.locals, s''.heap.objs.size + 1, s''.heap.objs.size], fun z m => ?_, rfl, func_seg (C := C.fz) (G := G.bare) rfl T.fz ConS.bare GenH.bare GS ⟨N.en⟩ E ⟨hA.hh, by show A.depth + 20 < 900; omega, by show A.units + 1 + 3 * 20 < 9000; omega⟩ SL⟩
      simp only [List.mem_cons, List.not_mem_nil, or_false] at m
      rcases m with m | m | m
      · exact .inl (by rw [m]; exact List.mem_singleton.mpr rfl)
      · exact .inr (by rw [m]; exact Nat.le_succ _)
      · exact .inr (by rw [m]; exact Nat.le_refl _)
    · rw [List.mem_singleton.mp m]
      obtain ⟨oL, gL, qL⟩ := g2.obj
      exact ⟨Nat.le_trans S1.big hLlow, oL, keep3 _ _ gL, qL⟩
    · exact g2.big
    · exact fun m => Nat.lt_irrefl _ ((List.mem_singleton.mp m) ▸ hLlt)
    · rw [List.mem_singleton.mp m]
      exact ⟨fun h => Nat.not_lt.mpr hLlow (S1.lt _ h), hLlow⟩
    · exact fun h => Nat.not_lt.mpr g2.size (S1.lt _ h)
    · exact gens_size g2.gens
  | [], r1 => exact r1.elim
  | _ :: _ :: _, r1 => exact r1.2.elim
theorem GvR.call {ih : Ih} {H H1 : Hp} {ρ : Rho} {it : Expr} {U : List (Nat × List Nat)} (gv : GvR ih G ρ H it U H1) (env : Env) (x : Value) : foldedSetIterable it env x = pure x := by
  obtain ⟨fn, p0, args, pos, v, y, rfl, _⟩ := gv.ex
  rfl
theorem genH (T : Top C G) (GT : GTop C G) : GenH C G where
  loop := fun {ih n A H H1 ρ env it t body p U} I hA gv => Yes.of fun q h2 {θ} R s S =>
    wpAny_For (wpAny_mono (gen_mk T GT I hA gv R S) (fun v s3 hb => by
      obtain ⟨za, g, θ1, s1, Z, rfl, hgen, g1, L⟩ := hb
      exact wpAny_pyIter_gen hgen (codeAny_mono (forGen_sound I T hA (R.mono g1.ext) L h2) fun r s' hr => by
        obtain ⟨fl, rfl, nx⟩ := hr
        exact nx.elim fun θ3 H4 g3 S4 z => .mk' (g1.trans g3) S4 z)) fun _ _ x => x) (gv.call env)
end
end
end Mine
end
section
open PySem PyProof.Rows
set_option maxRecDepth 100000
namespace Mine
variable [Ops]

/- the turns of a list comprehension over the generator's items -/
noncomputable def loopCG (step : V → Hp → Option Hp) : List (Nat × List Nat) → Hp → Option Hp
  | [], H => some H
  | (p, u) :: us, H => match step (.ref (Ops.len H)) (Ops.app H [.tup [.int p, .str u]]) with
    | some H => loopCG step us H
    | .none => .none
noncomputable def genRun (ih : Ih) (ρ : Rho) (elt : Expr) (g : Comprehension) (scope : Scope) (fin : Option (V → Hp → Option Hp)) (n : Nat) (U : List (Nat × List Nat)) (q : List (Str × Nat) × Hp) : Option (V × Hp) := match loopCG (turnC ih (compRho ρ scope n q.1) g.target g.ifs (emitL ih elt n (compRho ρ scope n q.1))) U q.2 with
  | some H => compEnd fin n H
  | .none => .none
noncomputable def genComp (ih : Ih) (ρ : Rho) (elt : Expr) (g : Comprehension) (scope : Scope) (fin : Option (V → Hp → Option Hp)) (U : List (Nat × List Nat)) (H : Hp) : Option (V × Hp) := match compOk scope [g] with
  | true => match closure ρ scope.names [] with
    | some cs => genRun ih ρ elt g scope fin (Ops.len H) U (layCells scope.names cs (Ops.app H [.list [], .ns []]))
    | .none => .none
  | false => .none

section
variable {C : Cx} {G : Env0} {A : Around} {θ θ' θ0 θ3 : Th} {H H' : Hp} {ρ : Rho} {env : Env} {ih : Ih} {n : Nat} {s s' sb : Shared} {za g : Nat} {U us : List (Nat × List Nat)} {Z Z' : List Addr} {k : Nat}
variable {elt : Expr} {cl : Comprehension} {scope : Scope} {pos : Pos} {la : Nat} {use : Option (Value → Sem Unit)}

noncomputable def GCOut (C : Cx) (θ0 θ3 : Th) (sb : Shared) (H' : Hp) (r : Result) (s' : Shared) : Prop := r = .ok .next ∧ ∃ θ4, Go C θ0 sb θ4 s' ∧ Ext θ3 θ4 ∧ St C θ4 H' s'
theorem genLoop_at (I : IhS C ih n) (T : Top C G) (hA : Room A n) (hs : sync cl = true) {a : Addr} (R : EnvR C θ3 ρ env) (ha : θ3[la]? = some a) (x3 : Ext θ3 θ) (L : LI C A θ0 sb za g U Z θ H us s)
    (h : loopCG (turnC ih ρ cl.target cl.ifs (emitL ih elt la ρ)) us H = some H') :
    codeAny (model C.prog C.w) A (.compLoop (.ListComp elt [cl] scope pos) 0 (.ref za) (.ref a) env) (GCOut C θ0 θ3 sb H') s := by
  refine codeAny_loop rfl (fun k s' => ∃ θ1 H1 Z1 us1, LI C A θ0 sb za g U Z1 θ1 H1 us1 s' ∧ Ext θ3 θ1 ∧ us1.length = k ∧ loopCG (turnC ih ρ cl.target cl.ifs (emitL ih elt la ρ)) us1 H1 = some H') (fun k s1 hI => ?_) us.length ⟨θ, H, Z, us, L, x3, rfl, h⟩
  obtain ⟨θ1, H1, Z1, us1, L1, x1, rfl, h1⟩ := hI
  show wpAny _ A ((compTurn (.ListComp elt [cl] scope pos) 0 (.ref za) (.ref a) env).onRaise (fun x => do noteFrame x env; theTreesLotGoes x)) _ _ _
  have hc : ([cl] : List Comprehension)[0]? = some ⟨cl.target, cl.iter, cl.ifs, 0⟩ := by rw [← sync_zero hs]; rfl
  rw [compTurn_last (elt := elt) (gens := [cl]) (depth := 0) hc rfl]
  refine wpAny_noted (wpAny_mono (E := fun _ _ => False) ?_ (fun _ _ x => x) fun _ _ x => noNote _ _ x)
  refine wpAny_bind (wpAny_standAt (wpAny_bind (wpAny_mono (gen_draw T hA L1) (fun r s2 hb => ?_) fun _ _ x => x)))
  rcases hb with ⟨rfl, rfl, g2, S2⟩ | ⟨p, u, us', x, Z', rfl, rfl, hg, L3, hv⟩
  · injection h1 with h1
    subst h1
    exact wpAny_pure ⟨rfl, θ1, g2, x1, S2⟩
  · refine wpAny_bind (letGo_gen hg ?_)
    have x2 : Ext θ3 (θ1 ++ [x]) := x1.trans (Ext.app θ1 [x])
    have y : Yes (fun Hb => wpAny (model C.prog C.w) A (tailS cl.target cl.ifs env (emitS elt (.ref a) env) (again (.compLoop (.ListComp elt [cl] scope pos) 0 (.ref za) (.ref a) env)) (.ref x)) (fun fin s' => match fin with
        | .done f => GCOut C θ0 θ3 sb Hb (.ok f) s'
        | .again c' => c' = .compLoop (.ListComp elt [cl] scope pos) 0 (.ref za) (.ref a) env ∧ ∃ m, m < us'.length + 1 ∧ ∃ θ1 H1 Z1 us1, LI C A θ0 sb za g U Z1 θ1 H1 us1 s' ∧ Ext θ3 θ1 ∧ us1.length = m ∧ loopCG (turnC ih ρ cl.target cl.ifs (emitL ih elt la ρ)) us1 H1 = some Hb) (fun _ _ => False) s2)
        (match (generalizing := false) turnC ih ρ cl.target cl.ifs (emitL ih elt la ρ) (.ref (Ops.len H1)) (Ops.app H1 [.tup [.int p, .str u]]) with
          | some H => loopCG (turnC ih ρ cl.target cl.ifs (emitL ih elt la ρ)) us' H
          | .none => .none) := by
      refine Yes.hp (turnC_yes I hA R cl.target cl.ifs (inner := emitS elt (.ref a) env) fun Ha => (emit_yes I hA).mono fun Hb q {θ'} x => q (R.mono x) (x.1 _ _ ha)) fun H3 p3 => Yes.of fun H4 h4 => ?_
      refine p3 x2 hv L3.st fun s4 nx => nx.elim fun θ4 H5 g4 S4 e => ?_
      subst e
      exact wpAny_pure ⟨rfl, us'.length, Nat.lt_succ_self _, θ4, _, Z', us', L3.step T g4 S4, x2.trans g4.ext, rfl, h4⟩
    exact y.get h1

/- the comprehension's own state, over a generator -/
structure GmS (C : Cx) (A : Around) (ρ : Rho) (env cenv : Env) (scope : Scope) (cs : List (Str × Nat)) (θ : Th) (s : Shared) (k : Nat) (θ1 : Th) (s1 : Shared) (θ3 : Th) (H2 : Hp) (aa za : Addr) (g : Nat) (U : List (Nat × List Nat)) (Z : List Addr) (s4 : Shared) : Prop where
  R : EnvR C θ3 (compRho ρ scope k cs) { cenv with scope := relabel scope env }
  R0 : EnvR C θ ρ env
  go : Go C θ s θ1 s1
  L : LI C A θ1 s1 za g U Z θ3 H2 U s4
  gen : s4.heap.IsGen za g
  a : θ3[k]? = some aa
theorem genComp_at {cs : List (Str × Nat)} {v : V} {H1 : Hp} (T : Top C G) (GT : GTop C G) (I : IhS C ih n) (hA : Room A n) (gv : GvR ih G ρ H cl.iter U H1) (c : COk scope [cl]) (hcl : closure ρ scope.names [] = some cs)
    (q : ∀ {cenv θ s θ1 s1 θ3 s4 aa za g Z}, GmS C A ρ env cenv scope (layCells scope.names cs (Ops.app H1 [.list [], .ns []])).1 θ s (Ops.len H1) θ1 s1 θ3 (layCells scope.names cs (Ops.app H1 [.list [], .ns []])).2 aa za g U Z s4 → ∀ {pos}, codeAny (model C.prog C.w) A (.compStart (.ListComp elt [cl] scope pos) 0 (.ref za) (.ref aa) { cenv with scope := relabel scope env }) (compPost (model C.prog C.w) A (fun _ _ => False) use (CmQ C θ s use v H') (.ref aa) cenv.locals) s4) :
    CompR C A ρ env elt [cl] scope use H v H' := fun {pos pos' θ s} R S => by
  have hg0 := sync_zero (c.s cl (List.mem_cons_self ..))
  obtain ⟨ds, hclos, rds⟩ := (closureFor_yes R).get hcl
  rw [show firstAsync [cl] = false by rw [hg0]; rfl, show firstIter [cl] env = eval cl.iter env by rw [hg0]; rfl]
  refine wpAny_comprehension_free (g := cl) (gs := []) rfl (gv.call env) hclos c.k c.n ?_
  refine wpAny_mono (gen_mk T GT I hA gv R S) (fun x s1 hb => ?_) fun _ _ x => x
  obtain ⟨za, g, θ1, s0, Z, rfl, hgen, g1, L⟩ := hb
  refine wpAny_pyIter_gen hgen ?_
  refine wpAny_mono (newList_sound (θ := θ1) (vs := []) (as := []) trivial (by decide) s1 L.st) (fun acc s3 hb => hb.elim fun θ2 Hx g2 S2 ⟨e, ra⟩ => ?_) fun _ _ x => x
  obtain ⟨aa, haa, rfl⟩ := ra
  subst e
  refine wpAny_mono (newEnvC_tri (A := A) (scope := scope) (rds.mono (g1.trans (L.go.trans g2)).ext) s3 S2) (fun cenv s4 hb => hb.elim fun θ3 Hy g3 S3 e => ?_) fun _ _ x => x
  have happ : Ops.app (Ops.app H1 [O.list []]) [O.ns []] = Ops.app H1 [O.list [], .ns []] := Ops.app_app _ _ _
  have hloc := e.loc
  have hcells := e.cells
  have hh := e.heap
  rw [Ops.app_len] at hloc
  rw [happ] at hcells hh
  subst hh
  have L4 := (L.step T g2 S2).step T g3 S3
  exact q ⟨⟨(compScope_eq R scope).symm, c.k, hloc, hcells, e.globals.trans R.globals, e.builtins.trans R.builtins, fun k e => nomatch e⟩, R, g1, L4, L4.gl.gen, g3.getE haa⟩
theorem genRun_at {cenv : Env} {cs : List (Str × Nat)} {s1 s4 : Shared} {θ1 : Th} {aa : Addr} {H2 : Hp} {v : V} (I : IhS C ih n) (T : Top C G) (hA : Room A n) (c : COk scope [cl]) (m : GmS C A ρ env cenv scope cs θ s k θ1 s1 θ3 H aa za g U Z s4)
    (h : loopCG (turnC ih (compRho ρ scope k cs) cl.target cl.ifs (emitL ih elt k (compRho ρ scope k cs))) U H = some H2) (q : EndR C A ρ env use k H2 v H') :
    codeAny (model C.prog C.w) A (.compStart (.ListComp elt [cl] scope pos) 0 (.ref za) (.ref aa) { cenv with scope := relabel scope env }) (compPost (model C.prog C.w) A (fun _ _ => False) use (CmQ C θ s use v H') (.ref aa) cenv.locals) s4 := by
  have hg0 := sync_zero (c.s cl (List.mem_cons_self ..))
  refine compStart_self rfl rfl (fun _ => rfl) (by show (([cl][0]?).elim false (·.is_async != 0)) = false; rw [hg0]; rfl) (fun hQ => wpAny_pyIter_gen m.gen hQ)
    (codeAny_mono (genLoop_at I T hA (c.s cl (List.mem_cons_self ..)) m.R m.a (Ext.refl _) m.L h) fun r s5 hr => ?_)
  obtain ⟨rfl, θ4, g4, x4, S4⟩ := hr
  exact q m.R0 S4 (m.go.trans g4) (x4.1 _ _ m.a) (x4.1 _ _ m.R.loc)
theorem genComp_yes (I : IhS C ih n) (T : Top C G) (GT : GTop C G) (hA : Room A n) {fin : Option (V → Hp → Option Hp)} (hu : UseR C A ρ env fin use) {H1 : Hp} (gv : GvR ih G ρ H cl.iter U H1) : YesH (CompR C A ρ env elt [cl] scope use H) (genComp ih ρ elt cl scope fin U H1) :=
  Yes.t fun hc => Yes.cs Yes.self fun cs hcl => Yes.h fun H3 h => (compEnd_yes hu (Ops.len H1)).mono fun r q => by
    intro pos pos' θ s R S
    exact genComp_at T GT I hA gv (compOk_of hc) hcl (fun m => genRun_at I T hA (compOk_of hc) m h q) R S
/- a name's assignment of a comprehension over the generator -/
noncomputable def asgGen (ih : Ih) (ρ : Rho) (x : Str) (p epos : Pos) (elt : Expr) (g : Comprehension) (scope : Scope) (U : List (Nat × List Nat)) (H : Hp) : Option Hp := match isLoc (kind ρ x) with
  | true => match Nat.beq p.line epos.line with
    | true => match notOwn x scope.names with
      | true => match genComp ih ρ elt g scope (some fun v H => stName ρ H x v) U H with
        | some (_, H) => some H
        | .none => .none
      | false => .none
    | false => .none
  | false => .none
theorem asgGen_yes (I : IhS C ih n) (T : Top C G) (GT : GTop C G) (hA : Room A n) {x : Str} {p epos : Pos} {H1 : Hp} (gv : GvR ih G ρ H cl.iter U H1) : Yes (fun H' => At1 C A ρ env H (.Assign [.Name x p] (.ListComp elt [cl] scope epos) pos) .next H') (asgGen ih ρ x p epos elt cl scope U H1) :=
  Yes.t fun hl => Yes.t fun hp => Yes.t fun hno => Yes.vh' (genComp_yes I T GT hA (use := some (assign (.Name x p) env)) (fin := some fun v H => stName ρ H x v) (fun v H => (assign_name (p := p)).mono fun _ h => h) gv) fun v H2 q => by
    intro θ R
    exact assignC_at hl hp hno q R
end
end Mine
end
section
open PySem PyProof.Rows
set_option maxRecDepth 100000
namespace Mine

/- what is said of a state, its own objects apart -/
structure StF (C : Cx) (θ : Th) (s : Shared) : Prop where
  nodup : θ.l.Nodup
  low : ∀ x ∈ θ, C.h0.objs.size ≤ x
  lt : ∀ x ∈ θ, x < s.heap.objs.size
  tok : s.toks ≠ 0
  bnd : θ.n ≤ s.toks
  bare : AllBare s.gens
  top : ∀ a o, C.h0.get? a = some o → a ∉ C.tabs → s.heap.get? a = some o
  big : C.h0.objs.size ≤ s.heap.objs.size
  tab : TabOk C θ s.heap
theorem St.f [Ops] {C : Cx} {θ : Th} {H : Hp} {s : Shared} (S : St C θ H s) : StF C θ s := ⟨S.nodup, S.low, S.lt, S.tok, S.bnd, S.bare, S.top, S.big, S.tab⟩
theorem StF.nil {C : Cx} {n : Nat} {s : Shared} (F : StF C ⟨[], n⟩ s) : St C ⟨[], n⟩ [] s :=
  ⟨rfl, fun l o e => (no_own e).elim, F.nodup, F.low, F.lt, F.tok, F.bnd, F.bare, F.top, F.big, F.tab⟩
theorem tabOk_sub {C : Cx} {θ θ' : Th} {h : Heap} (x : TabOk C θ h) (hm : ∀ y ∈ θ', y ∈ θ) : TabOk C θ' h := fun k P e => by
  obtain ⟨c, q, ps, e1, e2, e3, e4, e5, e6⟩ := x k P e
  refine ⟨c, q, ps, e1, e2, e3, fun h => e4 (hm _ h), fun h => e5 (hm _ h), fun pos v hv => ?_⟩
  obtain ⟨c', o1, vs1, t1, q1, q2, q3⟩ := e6 pos v hv
  exact ⟨c', o1, vs1, t1, q1, fun h => q2 (hm _ h), q3⟩
/- a part of it -/
theorem StF.sub {C : Cx} {θ : Th} {s : Shared} (F : StF C θ s) {ys : List Addr} {k : Nat} (hm : ∀ y ∈ ys, y ∈ θ) (hd : ys.Nodup) (hk : k ≤ s.toks) : StF C ⟨ys, k⟩ s :=
  ⟨hd, fun x h => F.low x (hm x h), fun x h => F.lt x (hm x h), F.tok, hk, F.bare, F.top, F.big, tabOk_sub F.tab hm⟩
section
variable {C : Cx} {G : Env0} {θ θ0 θ' : Th} {s s' : Shared}

theorem tabOf_code {h : Heap} {c P : Addr} {ps : Array Value} (x : h.IsCode c P ps) : tabOf h P = ps.toList := by
  obtain ⟨o, vs, file, tf, flags, tg, inF, text, tt, op, a, r1, r2, r3, r4, r5, r6, b, r7, r⟩ := x
  unfold tabOf
  rw [b]
  simp only [r7]

/- a run on none of it leaves the rest -/
theorem frame [Ops] {H : Hp} (T : Top C G) (S : St C θ H s) (g : Go C ⟨[], θ.n⟩ s θ' s') (S' : StF C θ' s') : St C ⟨θ.l, θ'.n⟩ H s' ∧ Go C θ s ⟨θ.l, θ'.n⟩ s' := by
  have nt : ∀ a, a ∈ θ → a ∉ C.tabs := fun a h m => Nat.not_lt.mpr (S.low a h) (T.tabs a m)
  have keep : ∀ a o, s.heap.get? a = some o → a ∉ θ → a ∉ C.tabs → s'.heap.get? a = some o := fun a o e n t => g.keep a o e (fun m => (nomatch m)) t
  refine ⟨⟨S.len, fun l o e v => ?_, S.nodup, S.low, fun x h => Nat.lt_of_lt_of_le (S.lt x h) g.size, S'.tok, S'.bnd, S'.bare, S'.top, S'.big, fun k P e => ?_⟩,
    ⟨⟨[], (List.append_nil _).symm, fun _ h => (nomatch h)⟩, g.nle, g.size, keep, g.os, g.gens, fun f a o e n => g.tabs f a o e fun m => (nomatch m), g.toks, g.tnew⟩⟩
  · obtain ⟨x, o', h1, h2, h3⟩ := S.own l o e v
    exact ⟨x, o', h1, g.keep x o' h2 (fun m => (nomatch m)) (nt x (mem_at h1)), h3.mono (Ext.up θ g.nle) keep fun _ _ _ n => n⟩
  · obtain ⟨c, q, ps, e1, e2, e3, e4, e5, e6⟩ := S'.tab k P e
    obtain ⟨c0, q0, ps0, f1, f2, f3, f4, f5, f6⟩ := S.tab k P e
    refine ⟨c, q, ps, e1, e2, e3, fun h => Nat.not_lt.mpr (S.low c h) (T.clt c (List.mem_of_getElem? e1)), fun h => Nat.not_lt.mpr (S.low P h) (T.tabs P (List.mem_of_getElem? e)), fun pos v hv => ?_⟩
    obtain ⟨c', o, vs, t, q1, q2, q3⟩ := e6 pos v hv
    refine ⟨c', o, vs, t, q1, fun (h : c' ∈ θ) => ?_, q3⟩
    rcases g.tnew.am P (List.mem_of_getElem? e) pos v (by rw [tabOf_code e3]; exact hv) with h' | h'
    · rw [tabOf_code f3] at h'
      obtain ⟨c2, _, _, _, r1, r2, _⟩ := f6 pos v h'
      rw [q1] at r1; cases r1
      exact r2 h
    · exact Nat.not_lt.mpr (h' c' q1) (S.lt c' h)

theorem St.base' [Ops] {H : Hp} (S : St C θ H s) : @St listOps C ⟨[], θ.n⟩ [] s := (S.f.sub (ys := []) (fun y h => (nomatch h)) List.nodup_nil S.bnd).nil
end
end Mine
end
section
open PySem PyProof.Rows
set_option maxRecDepth 100000
namespace Mine

theorem noRefs_cons {v : V} {r : List V} (h : noRefs (v :: r) = true) : noRef v = true ∧ noRefs r = true := by
  have h : (match noRef v with | true => noRefs r | false => false) = true := h
  cases e : noRef v with
  | true => rw [e] at h; exact ⟨rfl, h⟩
  | false => rw [e] at h; exact nomatch h
theorem VR.nr {θ θ' : Th} (hn : θ.n ≤ θ'.n) {v : V} {a : Value} (q : noRef v = true) (h : VR θ v a) : VR θ' v a := by
  cases v with
  | lit _ => exact let ⟨t, h1, h2, h3⟩ := h; ⟨t, h1, Nat.lt_of_lt_of_le h2 hn, h3⟩
  | flt _ => exact let ⟨t, h1, h2, h3⟩ := h; ⟨t, h1, Nat.lt_of_lt_of_le h2 hn, h3⟩
  | ref _ => cases q
  | _ => exact h
theorem AR.nr {θ θ' : Th} (hn : θ.n ≤ θ'.n) : ∀ {vs : List V} {as : List Value}, noRefs vs = true → AR θ vs as → AR θ' vs as
  | [], [], _, _ => trivial
  | v :: vs, a :: as, q, h => ⟨h.1.nr hn (noRefs_cons q).1, AR.nr hn (noRefs_cons q).2 h.2⟩
theorem items_noref {θ : Th} : ∀ {vs : List V} {as : List Value}, noRefs vs = true → AR θ vs as → ∀ x, Value.ref x ∉ as
  | [], [], _, _, _, h => by cases h
  | v :: vs, b :: as, q, h, x, m => by
    rcases List.mem_cons.mp m with e | m
    · obtain ⟨r, _⟩ := h
      rw [← e] at r
      cases v with
      | none => cases r
      | bool b => cases r
      | ref l => cases (noRefs_cons q).1
      | lit i => obtain ⟨_, _, _, e⟩ := r; cases e
      | flt i => obtain ⟨_, _, _, e⟩ := r; cases e
      | _ => obtain ⟨_, _, e⟩ := r; cases e
    · exact items_noref (noRefs_cons q).2 h.2 x m

/- a run's result -/
noncomputable def resD [Ops] (v : V) (H : Hp) : Option D := match noRef v with
  | true => some (.val v)
  | false => match vRef v with
    | some j => match tupAt j H with
      | some us => match noRefs us with
        | true => some (.tup us)
        | false => .none
      | .none => .none
    | .none => .none
/- what a run on plain arguments gives -/
noncomputable def runD (G : Env0) (n : Nat) (f : Str) (vs : List V) : Option D := (run G n f vs []).bind fun q => @resD listOps q.1 q.2
noncomputable def DR (v : V) (H : List O) : D → Prop
  | .val w => w = v ∧ noRef v = true
  | .tup us => ∃ j, v = .ref j ∧ H[j]? = some (.tup us) ∧ noRefs us = true
theorem resD_yes {v : V} {H : List O} : Yes (DR v H) (@resD listOps v H) :=
  Yes.b (fun h => Yes.ok ⟨rfl, h⟩) fun _ => Yes.n' (vRef_yes v) fun j e => Yes.vs (@tupAt_yes listOps H j) fun us h1 => Yes.t fun h2 => Yes.ok ⟨j, e, h1, h2⟩
theorem runD_yes {G : Env0} {n : Nat} {f : Str} {vs : List V} : Yes (fun d => ∃ v H, run G n f vs [] = some (v, H) ∧ DR v H d) (runD G n f vs) :=
  Yes.self.bind fun q e => resD_yes.mono fun d h => ⟨q.1, q.2, e, h⟩

section
variable {C : Cx} {G : Env0} {A : Around} {θ θ1 : Th} {H1 : List O} {s s' : Shared}
theorem l_tup (S : St C θ H1 s) {l : Nat} {vs : List V} {x : Addr} (h : H1[l]? = some (.tup vs)) (e : θ[l]? = some x) : ∃ a n, IsT s.heap x a n ∧ AR θ vs a.toList := S.tupAt h e
theorem l_f (S : St C θ H1 s) : StF C θ s := S.f
/- a run on a list -/
theorem run_l (T : Top C G) (K : ConS C G) (GH : GenH C G) {H H' : List O} {n : Nat} {f : Str} {vs : List V} {as : List Value} {v : V} {a : Addr} (hA : Room A (n + 1)) (S : St C θ H s) (r : AR θ vs as) (ha : C.mg f = some (.ref a)) (h : run G n f vs H = some (v, H')) :
    wpAny (model C.prog C.w) A (call (.ref a) as) (fun rv s' => ∃ θ1, Go C θ s θ1 s' ∧ St C θ1 H' s' ∧ VR θ1 v rv) (fun _ _ => False) s :=
  wpAny_mono (run_sound T K GH hA S r ha h) (fun rv s' hb => hb.elim fun θ1 Hx g S1 ⟨e1, r1⟩ => by
    subst e1
    exact ⟨θ1, g, S1, r1⟩) fun _ _ x => x
variable [Ops] {H H2 : Hp}

/- what a run gave, put into the whole -/
theorem res_of (T : Top C G) {v1 v : V} {r : Value} (g : Go C ⟨[], θ.n⟩ s θ1 s') (S1 : @St listOps C θ1 H1 s') (rv : VR θ1 v1 r) (SF : St C ⟨θ.l, θ1.n⟩ H s') (GF : Go C θ s ⟨θ.l, θ1.n⟩ s') (S : St C θ H s) :
    ∀ {d : D}, DR v1 H1 d → realize d H = some (v, H2) → ∃ θ', Go C θ s θ' s' ∧ St C θ' H2 s' ∧ VR θ' v r
  | .val w, ⟨e, hn⟩, hr => by
    cases hr
    exact ⟨_, GF, SF, e ▸ VR.nr (θ := θ1) (θ' := ⟨θ.l, θ1.n⟩) (Nat.le_refl _) hn rv⟩
  | .tup us, ⟨j, e, hH, hn⟩, hr => by
    cases hr
    subst e
    obtain ⟨x, hx, rfl⟩ := rv
    obtain ⟨a, n, g1, r1⟩ := l_tup S1 hH hx
    have o3 : s.heap.objs.size ≤ x := by
      obtain ⟨ys, e, hy⟩ := g.pre
      have m : x ∈ θ1.l := mem_at hx
      rw [e] at m
      exact hy x m
    refine ⟨_, GF.more o3, SF.take g1 (fun m => Nat.not_lt.mpr o3 (S.lt x m)) (Nat.le_trans S.big o3) T ⟨a, n, rfl⟩ (fun p q e => ?_) ⟨a, n, rfl, AR.nr (θ := θ1) (θ' := (⟨θ.l, θ1.n⟩ : Th) ++ [x]) (Nat.le_refl θ1.n) hn r1⟩, x, ?_, rfl⟩
    · cases e
      exact items_noref hn r1 p List.mem_cons_self
    · show (θ.l ++ [x])[(Ops.len H)]? = some x
      rw [← S.len, List.getElem?_append_right (Nat.le_refl _), Nat.sub_self]; rfl
/- a run on the arguments alone keeps a contract everywhere -/
theorem con_of (T : Top C G) (K : @ConS listOps C G) (GH : @GenH listOps C G) {f : Str} {d : D} {n : Nat} {vs : List V} {as : List Value} {v : V} {a : Addr} (hc : runD G n f vs = some d) (hn : noRefs vs = true) (hA : Room A (n + 1)) (S : St C θ H s) (r : AR θ vs as)
    (ha : C.mg f = some (.ref a)) (hr : realize d H = some (v, H2)) :
    wpAny (model C.prog C.w) A (call (.ref a) as) (fun r s' => ∃ θ', Go C θ s θ' s' ∧ St C θ' H2 s' ∧ VR θ' v r) (fun _ _ => False) s := by
  obtain ⟨v1, H1, e, q⟩ := runD_yes.get hc
  refine wpAny_mono (run_l T K GH hA (St.base' S) (AR.nr (θ := θ) (θ' := ⟨[], θ.n⟩) (Nat.le_refl θ.n) hn r) ha e) (fun rv s' hb => ?_) fun _ _ x => x
  obtain ⟨θ1, g, S1, r1⟩ := hb
  obtain ⟨SF, GF⟩ := frame T S g (l_f S1)
  exact res_of T g S1 r1 SF GF S q hr
end
end Mine
end
section
open PySem PyProof.Rows
set_option maxRecDepth 100000
namespace Mine

/- at another level -/
noncomputable def Cx.at (C : Cx) (l : Nat) : Cx := { C with lev := l }

section
variable {C : Cx} {G : Env0} {θ θ' : Th} {s s' : Shared} {l m : Nat}

theorem Cx.at_at : (C.at l).at m = C.at m := rfl
theorem FnR.at {h : Heap} {tab ps body scope cs fd} (r : FnR C θ h tab ps body scope cs fd) : FnR (C.at l) θ h tab ps body scope cs fd := ⟨r.tab, r.body, r.scope, r.params, r.globals, r.builtins, r.dflt, r.kwd, r.clo, r.code⟩
theorem OR.at {h : Heap} {o : O} {o' : Obj} (r : OR C θ h o o') : OR (C.at l) θ h o o' := by
  cases o with
  | ns es => exact r
  | cell v => exact r
  | list vs => exact r
  | tup vs => exact r
  | dict es => exact r
  | fn ps body scope cs => obtain ⟨fd, h1, h2⟩ := r; exact ⟨fd, h1, h2.at⟩
  | gone => exact r
  | xl vs its => exact r
  | it I => cases I <;> exact r
theorem St.at [Ops] {H : Hp} (S : St C θ H s) (l : Nat) : St (C.at l) θ H s :=
  ⟨S.len, fun k o e v => let ⟨x, o', h1, h2, h3⟩ := S.own k o e v; ⟨x, o', h1, h2, h3.at⟩, S.nodup, S.low, S.lt, S.tok, S.bnd, S.bare, S.top, S.big, S.tab⟩
theorem Go.at (g : Go C θ s θ' s') (l : Nat) : Go (C.at l) θ s θ' s' := ⟨g.pre, g.nle, g.size, g.keep, g.os, g.gens, g.tabs, g.toks, ⟨g.tnew.am, g.tnew.ob⟩⟩
/- no contracts -/
theorem ConS.zero [Ops] (h : ∀ f vs, G.con f vs = .none) : ConS C G := ⟨fun f vs d e => (by rw [h] at e; cases e), fun e => (by rw [h] at e; cases e)⟩

end
end Mine
end
section
open PySem

namespace Mine

/- the functions that make one of their own: their place among the tables -/
noncomputable def place? (f : Str) : List Str → Nat → Option Nat
  | [], _ => .none
  | x :: r, k => match seq f x with
    | true => some k
    | false => place? f r (k + 1)
/- the functions of a text -/
noncomputable def defs : List Stmt → List (Str × Fn)
  | [] => []
  | .FunctionDef name args body [] .none [] scope .none _ _ :: r => (name, ⟨(plainArgs args).getD [], body, scope, place? name ["_int2digits", "_digits2int"] 0⟩) :: defs r
  | _ :: r => defs r
noncomputable def fnIn (f : Str) (ss : List Stmt) : Option Fn := find f (defs ss)

noncomputable def globI (x : Str) : Option Int := match seq x "_DIV_LIMIT" with
  | true => some 4000
  | false => .none

noncomputable def G0 (p : Program) : Env0 := ⟨fun f => fnIn f p.main.body, globI, fun _ _ => .none, fun f => seq f "_iter_escaped_chars", 0, "inner"⟩
end Mine
end
section
open PySem
namespace Mine
set_option maxRecDepth 100000
noncomputable def chkFn (p : Program) : Fn := ((fnIn "_check_parenthesis" p.main.body).getD ⟨[], [], default, none⟩)
noncomputable def C1 := chkFn PySem.Challenge.pw_re0105_02
noncomputable def forParts : Stmt → Expr × Expr × List Stmt × Pos
  | .For t it b _ p => (t, it, b, p)
  | _ => (default, default, [], default)
noncomputable def ifParts : Stmt → Expr × List Stmt × List Stmt × Pos
  | .If t b o p => (t, b, o, p)
  | _ => (default, [], [], default)
/- the names of the frame -/
noncomputable def esF (x : List Nat) (k : Int) : Option (Int × List Nat) → List (Str × V)
  | .none => [("addr", .str x), ("opens", .int k)]
  | some (p, u) => [("addr", .str x), ("opens", .int k), ("pos", .int p), ("ch", .str u)]
noncomputable def rho1 : Rho := ⟨C1.scope, 0, [], .none⟩
noncomputable def L1 := forParts (C1.body.getD 2 default)
noncomputable def I1 := ifParts (L1.2.2.1.getD 0 default)
noncomputable def I2 := ifParts (I1.2.2.1.getD 0 default)
noncomputable def S3 : Stmt := I2.2.1.getD 0 default
noncomputable def I3 := ifParts (I2.2.1.getD 1 default)
noncomputable def A0 : Stmt := C1.body.getD 0 default
noncomputable def A1 : Stmt := C1.body.getD 1 default
noncomputable def A3 : Stmt := C1.body.getD 3 default
noncomputable def G1 : Env0 := { G0 PySem.Challenge.pw_re0105_02 with con := fun _ _ => .none, lev := 30 }
theorem body1 : C1.body = [A0, A1, .For L1.1 L1.2.1 L1.2.2.1 [] L1.2.2.2, A3] := by rfl
theorem lb : L1.2.2.1 = [.If I1.1 I1.2.1 I1.2.2.1 I1.2.2.2] := by rfl
theorem lb2 : I1.2.2.1 = [.If I2.1 I2.2.1 I2.2.2.1 I2.2.2.2] := by rfl
theorem lb3 : I2.2.2.1 = [] := by rfl
theorem lb4 : I2.2.1 = [S3, .If I3.1 I3.2.1 I3.2.2.1 I3.2.2.2] := by rfl
theorem lb5 : I3.2.2.1 = [] := by rfl
theorem ev_s (G : Env0) (n : Nat) (ss : List Stmt) (ρ : Rho) (H : Hp) : (ev G (n + 1)).s ss ρ H = stepSs (ev G n) G ρ ss H := rfl
section
variable (x : List Nat) (k p : Int) (u : List Nat) (R : List O)
theorem t1 : (ev G1 39).t I1.1 rho1 (.ns (esF x k (some (p, u))) :: R) = some (nbeq u [40], .ns (esF x k (some (p, u))) :: R) := by rfl
theorem t2 : (ev G1 38).t I2.1 rho1 (.ns (esF x k (some (p, u))) :: R) = some (nbeq u [41], .ns (esF x k (some (p, u))) :: R) := by rfl
theorem b1 : (ev G1 39).s I1.2.1 rho1 (.ns (esF x k (some (p, u))) :: R) = some (.next, .ns (esF x (k + 1) (some (p, u))) :: R) := by rfl
theorem s3 : stepS (ev G1 37) G1 S3 rho1 (.ns (esF x k (some (p, u))) :: R) = some (.next, .ns (esF x (k - 1) (some (p, u))) :: R) := by rfl
theorem t3 : (ev G1 37).t I3.1 rho1 (.ns (esF x k (some (p, u))) :: R) = some (ilt k 0, .ns (esF x k (some (p, u))) :: R) := by rfl
theorem r3 : (ev G1 37).s I3.2.1 rho1 (.ns (esF x k (some (p, u))) :: R) = some (.ret (.bool false), .ns (esF x k (some (p, u))) :: R) := by rfl

noncomputable def balG : Int → List (Nat × List Nat) → Option Int
  | k, [] => some k
  | k, (_, u) :: r => match nbeq u [40] with
    | true => balG (k + 1) r
    | false => match nbeq u [41] with
      | true => match ilt (k - 1) 0 with
        | true => .none
        | false => balG (k - 1) r
      | false => balG k r

theorem afterS_nil (o : Option (Fl × Hp)) : afterS (fun H => some (.next, H)) o = o := by
  cases o with
  | none => rfl
  | some q =>
    obtain ⟨f, H⟩ := q
    cases f <;> rfl
section
variable {ih : Ih} {G : Env0} {ρ : Rho} {H H1 : Hp} {st : Stmt} {r b o : List Stmt} {t : Expr} {q : Pos}
theorem ss_last : stepSs ih G ρ [st] H = stepS ih G st ρ H := afterS_nil _
theorem ss_go (h : stepS ih G st ρ H = some (.next, H1)) : stepSs ih G ρ (st :: r) H = stepSs ih G ρ r H1 := (congrArg (afterS (stepSs ih G ρ r)) h : _)
theorem ss_ret {v : V} (h : stepS ih G st ρ H = some (.ret v, H1)) : stepSs ih G ρ (st :: r) H = some (.ret v, H1) := (congrArg (afterS (stepSs ih G ρ r)) h : _)
theorem if_yes (h : ih.t t ρ H = some (true, H1)) : stepS ih G (.If t b o q) ρ H = ih.s b ρ H1 := by
  show stepS_If ih G ρ H t b o = _
  unfold stepS_If; rw [h]
theorem if_no (h : ih.t t ρ H = some (false, H1)) : stepS ih G (.If t b o q) ρ H = ih.s o ρ H1 := by
  show stepS_If ih G ρ H t b o = _
  unfold stepS_If; rw [h]
theorem for_gen {it : Expr} {U : List (Nat × List Nat)} (h : evGen ih G ρ it H = some (U, H1)) : stepS ih G (.For t it b [] q) ρ H = loopG (assignT ih ρ t) (ih.s b ρ) U H1 := by
  show stepS_For ih G ρ H t it b = _
  unfold stepS_For; rw [h]
end
/- one turn -/
theorem turn1 : (ev G1 40).s L1.2.2.1 rho1 (.ns (esF x k (some (p, u))) :: R) = match nbeq u [40] with
    | true => some (.next, .ns (esF x (k + 1) (some (p, u))) :: R)
    | false => match nbeq u [41] with
      | true => match ilt (k - 1) 0 with
        | true => some (.ret (.bool false), .ns (esF x (k - 1) (some (p, u))) :: R)
        | false => some (.next, .ns (esF x (k - 1) (some (p, u))) :: R)
      | false => some (.next, .ns (esF x k (some (p, u))) :: R) := by
  rw [lb, ev_s, ss_last]
  have q1 := t1 x k p u R
  cases h1 : nbeq u [40] with
  | true => exact (if_yes (h1 ▸ q1)).trans (b1 x k p u R)
  | false =>
    refine (if_no (h1 ▸ q1)).trans ?_
    rw [lb2, ev_s, ss_last]
    have q2 := t2 x k p u R
    cases h2 : nbeq u [41] with
    | true =>
      refine (if_yes (h2 ▸ q2)).trans ?_
      rw [lb4, ev_s, ss_go (s3 x k p u R), ss_last]
      have q3 := t3 x (k - 1) p u R
      cases h3 : ilt (k - 1) 0 with
      | true => exact (if_yes (h3 ▸ q3)).trans (r3 x (k - 1) p u R)
      | false =>
        refine (if_no (h3 ▸ q3)).trans ?_
        rw [lb5]; rfl
    | false =>
      refine (if_no (h2 ▸ q2)).trans ?_
      rw [lb3]; rfl

noncomputable def tupE1 : Expr → List Expr
  | .Tuple ts _ _ => ts
  | _ => []
noncomputable def tupB : Expr → Nat × Pos
  | .Tuple _ a b => (a, b)
  | _ => (default, default)
theorem tgt1 : L1.1 = .Tuple (tupE1 L1.1) (tupB L1.1).1 (tupB L1.1).2 := by rfl
theorem asg1 (o : Option (Int × List Nat)) : assignT (ev G1 40) rho1 L1.1 (.ref (R.length + 1)) (.ns (esF x k o) :: (R ++ [O.tup [.int p, .str u]])) = some (.ns (esF x k (some (p, u))) :: (R ++ [O.tup [.int p, .str u]])) := by
  have e : (O.ns (esF x k o) :: (R ++ [O.tup [.int p, .str u]]))[R.length + 1]? = some (.tup [.int p, .str u]) := by simp
  rw [tgt1]
  show (match tupAt (R.length + 1) (O.ns (esF x k o) :: (R ++ [O.tup [.int p, .str u]])) with | some vs => assignL rho1 _ vs _ | .none => .none) = _
  rw [show tupAt (R.length + 1) (O.ns (esF x k o) :: (R ++ [O.tup [.int p, .str u]])) = some [.int p, .str u] by unfold tupAt; show (match (O.ns (esF x k o) :: (R ++ [O.tup [.int p, .str u]]))[R.length + 1]? with | some (.tup vs) => some vs | _ => none) = _; rw [e]]
  cases o <;> rfl
end

theorem loopG_cons [Ops] {asg : V → Hp → Option Hp} {body : Hp → Option (Fl × Hp)} {p : Nat} {u : List Nat} {us : List (Nat × List Nat)} {H H1 : Hp} (h : asg (.ref (Ops.len H)) (Ops.app H [.tup [.int p, .str u]]) = some H1) : loopG asg body ((p, u) :: us) H = afterW (loopG asg body us) (body H1) := by
  unfold loopG
  rw [h]
theorem loop1 (x : List Nat) : ∀ (us : List (Nat × List Nat)) (k : Int) (o : Option (Int × List Nat)) (R : List O), ∃ k' o' R', loopG (assignT (ev G1 40) rho1 L1.1) ((ev G1 40).s L1.2.2.1 rho1) us (.ns (esF x k o) :: R) = match balG k us with
    | some j => some (.next, .ns (esF x j o') :: R')
    | .none => some (.ret (.bool false), .ns (esF x k' o') :: R')
  | [], k, o, R => ⟨k, o, R, rfl⟩
  | (p, u) :: us, k, o, R => by
    have e : loopG (assignT (ev G1 40) rho1 L1.1) ((ev G1 40).s L1.2.2.1 rho1) ((p, u) :: us) (.ns (esF x k o) :: R) = afterW (loopG (assignT (ev G1 40) rho1 L1.1) ((ev G1 40).s L1.2.2.1 rho1) us) ((ev G1 40).s L1.2.2.1 rho1 (.ns (esF x k (some (p, u))) :: (R ++ [O.tup [.int p, .str u]]))) := loopG_cons (asg1 x k p u R o)
    rw [e, turn1]
    unfold balG
    cases nbeq u [40] with
    | true => exact loop1 x us _ _ _
    | false =>
      cases nbeq u [41] with
      | true =>
        cases ilt (k - 1) 0 with
        | true => exact ⟨_, _, _, rfl⟩
        | false => exact loop1 x us _ _ _
      | false => exact loop1 x us _ _ _

noncomputable def checkI (x : List Nat) : Bool := match balG 0 (itemsG 0 false x) with
  | some k => ieq k 0
  | .none => false

noncomputable def St1 : Fn := ((fnIn "_strip_quoted_realnames" PySem.Challenge.pw_re0105_02.main.body).getD ⟨[], [], default, none⟩)
noncomputable def J1 := ifParts (St1.body.getD 0 default)
theorem sb1 : St1.body = .If J1.1 J1.2.1 J1.2.2.1 J1.2.2.2 :: St1.body.drop 1 := by rfl
noncomputable def rhoS (l : Nat) : Rho := ⟨St1.scope, l, [], .none⟩
theorem str1 (x : List Nat) (h : hasSign 34 x = false) : (ev G1 39).s St1.body (rhoS 1) [.ns [("addr", .str x)], .ns [("addr", .str x)]] = some (.ret (.str x), [.ns [("addr", .str x)], .ns [("addr", .str x)]]) := by
  rw [sb1, ev_s]
  have e : (ev G1 38).t J1.1 (rhoS 1) [.ns [("addr", .str x)], .ns [("addr", .str x)]] = some (!hasSign 34 x, [.ns [("addr", .str x)], .ns [("addr", .str x)]]) := by rfl
  have e2 : (ev G1 38).s J1.2.1 (rhoS 1) [.ns [("addr", .str x)], .ns [("addr", .str x)]] = some (.ret (.str x), [.ns [("addr", .str x)], .ns [("addr", .str x)]]) := by rfl
  rw [h] at e
  exact ss_ret ((if_yes e).trans e2)
theorem a0 (x : List Nat) (h : hasSign 34 x = false) : stepS (ev G1 40) G1 A0 rho1 [.ns [("addr", .str x)]] = some (.next, [.ns [("addr", .str x)], .ns [("addr", .str x)]]) := by
  have e : stepS (ev G1 40) G1 A0 rho1 [.ns [("addr", .str x)]] = match result ((ev G1 39).s St1.body (rhoS 1) [.ns [("addr", .str x)], .ns [("addr", .str x)]]) with
    | some (v, H) => match stName rho1 H "addr" v with
      | some H => some (.next, H)
      | .none => .none
    | .none => .none := by kernel_rfl
  rw [e, str1 x h]
  rfl
theorem a1 (x : List Nat) (R : List O) : stepS (ev G1 40) G1 A1 rho1 (.ns [("addr", .str x)] :: R) = some (.next, .ns (esF x 0 .none) :: R) := by rfl
theorem g1 (x : List Nat) (R : List O) : evGen (ev G1 40) G1 rho1 L1.2.1 (.ns (esF x 0 .none) :: R) = some (itemsG 0 false x, .ns (esF x 0 .none) :: R) := by rfl
theorem a3 (x : List Nat) (k : Int) (o : Option (Int × List Nat)) (R : List O) : stepS (ev G1 40) G1 A3 rho1 (.ns (esF x k o) :: R) = some (.ret (.bool (ieq k 0)), .ns (esF x k o) :: R) := by
  cases o <;> rfl

theorem chk1 (x : List Nat) (h : hasSign 34 x = false) : ∃ H', run G1 41 "_check_parenthesis" [.str x] [] = some (.bool (checkI x), H') := by
  have e : run G1 41 "_check_parenthesis" [.str x] [] = result (stepSs (ev G1 40) G1 rho1 C1.body [.ns [("addr", .str x)]]) := by rfl
  rw [e, body1, ss_go (a0 x h), ss_go (a1 x _)]
  have e3 := for_gen (t := L1.1) (b := L1.2.2.1) (q := L1.2.2.2) (g1 x [.ns [("addr", .str x)]])
  obtain ⟨k', o', R', hl⟩ := loop1 x (itemsG 0 false x) 0 .none [.ns [("addr", .str x)]]
  rw [hl] at e3
  unfold checkI
  cases hb : balG 0 (itemsG 0 false x) with
  | none => rw [hb] at e3; rw [ss_ret e3]; exact ⟨_, rfl⟩
  | some j =>
    rw [hb] at e3
    rw [ss_go e3, ss_last, a3]
    exact ⟨_, rfl⟩
end Mine
end
section
open PySem
namespace Mine
set_option maxRecDepth 100000
noncomputable def genFn (p : Program) : Fn := ((fnIn "_iter_escaped_chars" p.main.body).getD ⟨[], [], default, none⟩)
noncomputable def F1 := genFn PySem.Challenge.pw_re0105_02
theorem gbody1 : F1.body = (astOf F1.body).body := by rfl
theorem sem1 (G : Env0) : GenSem G F1.scope (astOf F1.body) where
  isit := by rfl
  ist := by rfl
  kd := by rfl
  s0a := ⟨_, _, _, _, rfl⟩
  s1a := ⟨_, _, _, _, rfl⟩
  ian := ⟨_, rfl⟩
  kpos := by rfl
  kesc := by rfl
  kadd := by rfl
  asg := by intro x p e oc i c; cases oc <;> rfl
  te := by intro x p e c; rfl
  e1 := by intro x p c; rfl
  c1 := by intro x p c; rfl
  te2 := by intro x p c; rfl
  c2 := by intro x p c; rfl
  e2 := by intro x p c; rfl
  te3 := by intro x p e oc; cases oc <;> rfl
  e3 := by intro x p oc; cases oc <;> rfl
  fk := by rfl
  co := by rfl
  gn := by rfl
end Mine
end
section
open PySem PySem.W PyProof.Rows
set_option maxRecDepth 100000
namespace Mine

theorem find_mem {α : Type} {x : Str} : ∀ {l : List (Str × α)}, Yes (fun b => (x, b) ∈ l) (find x l)
  | [] => trivial
  | (y, v) :: r => Yes.b (fun q => by rw [seq_iff.mp q]; exact List.mem_cons_self ..) fun _ => find_mem.mono fun _ h => List.mem_cons_of_mem _ h
theorem fnIn_mem {f : Str} {F : Fn} {ss : List Stmt} (h : Mine.fnIn f ss = some F) : (f, F) ∈ defs ss := find_mem.get h
structure Looked where
  body : FuncBody
  scope : Scope
  params : Option (List Str)
  ok : Bool

noncomputable def vAddr : Value → Option Addr
  | .ref a => some a
  | _ => .none
noncomputable def vText : Value → Option Str
  | .str x _ => some x
  | _ => .none
noncomputable def dFunc : Data → Option FuncData
  | .func fd => some fd
  | _ => .none
noncomputable def dFields : Data → Option (Array Value)
  | .fields vs => some vs
  | _ => .none
noncomputable def isNone : Value → Bool
  | .none => true
  | _ => false
theorem vAddr_yes (v : Value) : Yes (fun a => v = .ref a) (vAddr v) := by
  cases v <;> first | exact rfl | exact trivial
theorem vText_yes (v : Value) : Yes (fun x => ∃ t, v = .str x t) (vText v) := by
  cases v <;> first | exact ⟨_, rfl⟩ | exact trivial
theorem dFunc_yes (d : Data) : Yes (fun fd => d = .func fd) (dFunc d) := by
  cases d <;> first | exact rfl | exact trivial
theorem dFields_yes (d : Data) : Yes (fun vs => d = .fields vs) (dFields d) := by
  cases d <;> first | exact rfl | exact trivial
theorem isNone_of {v : Value} (h : isNone v = true) : v = .none := by
  cases v <;> first | rfl | cases h
theorem notin_of {l : List Addr} {a : Addr} (h : (!l.contains a) = true) : a ∉ l := fun m => by
  rw [List.contains_iff_mem.mpr m] at h; cases h
/- the name of a written code object -/
noncomputable def qualAt (K : Frag) (c : Addr) : Option Str := (K.lookup c).bind fun oc => (dFields oc.data).bind fun vs => (vs[1]? : Option Value).bind vText
theorem qualAt_yes (K : Frag) (c : Addr) : Yes (fun q => ∃ oc vs t, K.lookup c = some oc ∧ oc.data = .fields vs ∧ vs[1]? = some (.str q t)) (qualAt K c) :=
  Yes.self.bind fun oc h1 => (dFields_yes _).bind fun vs h2 => Yes.self.bind fun v h3 => (vText_yes v).mono fun q h4 => let ⟨t, e⟩ := h4; ⟨oc, vs, t, h1, h2, e ▸ h3⟩
noncomputable def tabHit (codes : List Addr) (quals : List Str) (nest : Str) (tab : Option Nat) (c : Addr) (q : Str) : Bool := match tab with
  | .none => true
  | some k => decide (codes[k]? = some c) && decide (quals[k]? = some (q ++ ".<locals>." ++ nest))
/- a function as the written heap has it -/
noncomputable def look (K : Frag) (tabs codes : List Addr) (quals : List Str) (nest : Str) (tab : Option Nat) (name : Str) : Option Looked :=
  (nsIn K mainGlobals name).join.bind fun v => (vAddr v).bind fun a => (K.lookup a).bind fun o => (dFunc o.data).bind fun fd => (vAddr fd.code).bind fun c => (qualAt K c).bind fun q =>
    some ⟨fd.body, fd.scope, plainArgs fd.params, ((!tabs.contains a) && ((!tabs.contains c) && (Nat.beq fd.globals mainGlobals && (Nat.beq fd.builtins builtinsNs && (isNone fd.defaults && (isNone fd.kwdefaults && (fd.closure.isEmpty && (seq q fd.qualname && tabHit codes quals nest tab c fd.qualname))))))))⟩
theorem and2 {a b : Bool} (h : (a && b) = true) : a = true ∧ b = true := Bool.and_eq_true_iff.mp h
theorem look_yes {C : Cx} {K : Frag} {quals : List Str} {name : Str} {F : Fn} (X : K.In C.h0) (hm : C.h0.Ns mainGlobals C.mg) (hf : C.frozen = false) :
    Yes (fun L => L = ⟨.stmts F.body, F.scope, some F.params, true⟩ → ∃ a o fd, C.mg name = some (.ref a) ∧ a ∉ C.tabs ∧ C.h0.get? a = some o ∧ o.data = .func fd ∧ FnR C ⟨[], 0⟩ C.h0 F.tab F.params F.body F.scope [] fd) (look K C.tabs C.codes C.quals C.nest F.tab name) :=
  Yes.self.bind fun v h1 => (vAddr_yes v).bind fun a h2 => Yes.self.bind fun o h3 => (dFunc_yes _).bind fun fd h4 => (vAddr_yes _).bind fun c h5 => (qualAt_yes K c).bind fun q h6 => Yes.ok fun e => by
    subst h2
    injection e with e1 e2 e3 e4
    have ⟨q1, e4⟩ := and2 e4
    have ⟨q2, e4⟩ := and2 e4
    have ⟨q3, e4⟩ := and2 e4
    have ⟨q4, e4⟩ := and2 e4
    have ⟨q5, e4⟩ := and2 e4
    have ⟨q6, e4⟩ := and2 e4
    have ⟨q7, e4⟩ := and2 e4
    have ⟨q8, q9⟩ := and2 e4
    obtain ⟨oc, vs, t, g1, g2, g3⟩ := h6
    refine ⟨a, o, fd, mg_of X hm (Option.join_eq_some_iff.mp h1), notin_of q1, X _ _ h3, h4, ⟨fun k hk => ⟨hf, c, ?_⟩, e1, e2, e3, Nat.eq_of_beq_eq_true q3, Nat.eq_of_beq_eq_true q4, isNone_of q5, isNone_of q6, ?_, c, oc, vs, t, h5, fun m => (nomatch m), notin_of q2, X _ _ g1, g2, seq_iff.mp q8 ▸ g3⟩⟩
    · rw [hk] at q9
      have ⟨r1, r2⟩ := and2 q9
      exact ⟨of_decide_eq_true r1, h5, of_decide_eq_true r2⟩
    · rw [List.isEmpty_iff.mp q7]; trivial

/- all the functions of a text at once -/
noncomputable def looks (K : Frag) (tabs codes : List Addr) (quals : List Str) (nest : Str) (l : List (Str × Fn)) : List (Option Looked) := l.map fun p => look K tabs codes quals nest p.2.tab p.1
noncomputable def want (l : List (Str × Fn)) : List (Option Looked) := l.map fun p => some ⟨.stmts p.2.body, p.2.scope, some p.2.params, true⟩

noncomputable def biNames : List (Str × Bi) := [("len", .len), ("range", .range), ("reversed", .reversed), ("zip", .zip), ("divmod", .divmod), ("max", .max), ("min", .min), ("int", .int), ("sum", .sum), ("sorted", .sorted)]
theorem biOf_mem {x : Str} {b : Bi} (h : biOf x = some b) : (x, b) ∈ biNames := find_mem.get h
noncomputable def isFree : Option (Option Value) → Bool
  | some .none => true
  | _ => false
theorem isFree_of {o : Option (Option Value)} (h : isFree o = true) : o = some .none := by
  cases o with
  | none => cases h
  | some v => cases v with
    | none => rfl
    | some => cases h
noncomputable def biFree (K : Frag) (l : List (Str × Bi)) : Bool := l.all fun p => isFree (nsIn K mainGlobals p.1)
theorem biFree_of {K : Frag} {x : Str} {b : Bi} {l : List (Str × Bi)} (h : biFree K l = true) (m : (x, b) ∈ l) : nsIn K mainGlobals x = some .none := isFree_of (List.all_eq_true.mp h _ m)
theorem biBoot : ∀ p ∈ biNames, bootBuiltins p.1 = some (biVal p.2) ∧ p.1 ≠ "__name__" := by
  intro p m
  unfold biNames at m
  simp only [List.mem_cons, List.not_mem_nil, or_false] at m
  rcases m with rfl | rfl | rfl | rfl | rfl | rfl | rfl | rfl | rfl | rfl <;> exact ⟨by decide +kernel, by decide +kernel⟩

structure Heading (K : Frag) (C : Cx) (G : Env0) : Prop where
  X : K.In C.h0
  gns : C.h0.Ns mainGlobals C.mg
  bns : C.h0.Ns builtinsNs C.mb
  bb : ∀ x : Str, x ≠ "__name__" → C.mb x = bootBuiltins x
  blt : ∃ bm ob, C.mg "__builtins__" = some (.ref bm) ∧ bm ≠ builtinsNs ∧ C.h0.get? bm = some ob ∧ ob.cls = .type "module" ∧ ob.dict = some builtinsNs ∧ ob.data = .plain
  nf : C.frozen = false
  tnd : C.tabs.Nodup
  cl : C.codes.length = C.tabs.length
  low : mainGlobals ∉ C.tabs ∧ builtinsNs ∉ C.tabs ∧ cStatics ∉ C.tabs
  nest : G.nest = C.nest
  lev : G.lev = C.lev
  stat : K.lookup cStatics = some { cls := .none, data := .dict #[] }
  tf : ∀ c ∈ C.codes, c ∉ C.tabs ∧ ∃ o, K.lookup c = some o
  to : ∀ P ∈ C.tabs, K.lookup P = some { cls := .none, data := .fields #[] }
  hd : ∀ (k : Nat) (c P : Addr), C.codes[k]? = some c → C.tabs[k]? = some P → codeHdIn K c P = true
  glob : ∀ x i, G.glob x = some i → ∃ t, t ≠ 0 ∧ nsIn K mainGlobals x = some (some (.int i t))
  bi : biFree K biNames = true
  fn : ∀ f F, G.fn f = some F → look K C.tabs C.codes C.quals C.nest F.tab f = some ⟨.stmts F.body, F.scope, some F.params, true⟩

theorem Heading.top {K : Frag} {C : Cx} {G : Env0} (h : Heading K C G) : Top C G where
  gns := h.gns
  bns := h.bns
  stat := ⟨_, #[], 0, h.X _ _ h.stat, rfl, fun e he => by simp at he, fun _ => rfl⟩
  tabs := fun t m => Heap.lt_size (h.X _ _ (h.to t m))
  tnd := h.tnd
  cnt := fun c m => (h.tf c m).1
  cl := h.cl
  clt := fun c m => let ⟨o, e⟩ := (h.tf c m).2; Heap.lt_size (h.X _ _ e)
  low := h.low
  glob := fun x i e => let ⟨t, h1, h2⟩ := h.glob x i e; ⟨t, h1, mg_of h.X h.gns h2⟩
  bi := fun x b e => ⟨mg_none_of h.X h.gns (biFree_of h.bi (biOf_mem e)), by
    have := biBoot _ (biOf_mem e)
    rw [h.bb x this.2]; exact this.1⟩
  nest := h.nest
  lev := h.lev
  blt := by
    obtain ⟨bm, ob, h1, h2, h3, h4, h5, h6⟩ := h.blt
    refine ⟨bm, ob, h1, h2, fun m => ?_, h3, h4, h5, h6⟩
    have := h.X _ _ (h.to bm m)
    rw [h3] at this
    cases this
    cases h4
  code := fun k c P e1 e2 => by
    obtain ⟨o, vs, file, tf, flags, tg, inF, text, tt, g1, g2, g3, g4, r⟩ := codeHd_of_K h.X (h.hd k c P e1 e2)
    exact ⟨o, vs, g1, g2, g3, g4⟩
  fn := fun f F e => (look_yes (quals := C.quals) h.X h.gns h.nf).get (h.fn f F e) rfl

theorem Heading.tab {K : Frag} {C : Cx} {G : Env0} (h : Heading K C G) (hq : C.quals.length = C.tabs.length) : TabOk C ⟨[], 0⟩ C.h0 := fun k P e => by
  have hk := (List.getElem?_eq_some_iff.mp e).1
  have hkc : k < C.codes.length := by rw [h.cl]; exact hk
  have hkq : k < C.quals.length := by rw [hq]; exact hk
  have ec : C.codes[k]? = some C.codes[k] := List.getElem?_eq_getElem hkc
  have eq : C.quals[k]? = some C.quals[k] := List.getElem?_eq_getElem hkq
  refine ⟨_, _, #[], ec, eq, (codeHd_of_K h.X (h.hd k _ P ec e)).code (h.X _ _ (h.to P (List.mem_of_getElem? e))) trivial, fun m => (nomatch m), fun m => (nomatch m), fun pos v hv => ?_⟩
  cases hv
end Mine
end
section
open PySem
set_option maxRecDepth 100000
namespace Mine
section
variable {α : Type}
noncomputable def getF (H : List α) : Nat → Option α := List.rec (motive := fun _ => Nat → Option α) (fun _ => none) (fun h _ ih n => Nat.rec (motive := fun _ => Option α) (some h) (fun k _ => ih k) n) H
noncomputable def nbeqF (x : List Nat) : List Nat → Bool := List.rec (motive := fun _ => List Nat → Bool) (fun y => List.rec (motive := fun _ => Bool) true (fun _ _ _ => false) y)
  (fun a _ ih y => List.rec (motive := fun _ => Bool) false (fun b y' _ => Bool.rec (motive := fun _ => Bool) false (ih y') (Nat.beq a b)) y) x
noncomputable def seqF (x y : Str) : Bool := nbeqF x.cps.toList y.cps.toList
noncomputable def findF (x : Str) (l : List (Str × α)) : Option α := List.rec (motive := fun _ => Option α) none (fun p _ ih => Bool.rec (motive := fun _ => Option α) ih (some p.2) (seqF x p.1)) l
noncomputable def putF (x : Str) (v : α) (l : List (Str × α)) : List (Str × α) := List.rec (motive := fun _ => List (Str × α)) [(x, v)] (fun p t ih => Bool.rec (motive := fun _ => List (Str × α)) (p :: ih) ((x, v) :: t) (seqF x p.1)) l

theorem getF_eq : ∀ (H : List α) (n : Nat), getF H n = H[n]?
  | [], _ => rfl
  | h :: t, 0 => rfl
  | h :: t, n + 1 => by
    show getF t n = _
    rw [getF_eq t n]; rfl
theorem nbeqF_eq : ∀ (x y : List Nat), nbeqF x y = nbeq x y
  | [], [] => rfl
  | [], _ :: _ => rfl
  | _ :: _, [] => rfl
  | a :: x, b :: y => by
    show (Bool.rec (motive := fun _ => Bool) false (nbeqF x y) (Nat.beq a b) : Bool) = match Nat.beq a b with | true => nbeq x y | false => false
    rw [nbeqF_eq x y]
    cases Nat.beq a b <;> rfl
theorem seqF_eq (x y : Str) : seqF x y = seq x y := nbeqF_eq _ _
theorem findF_eq (x : Str) : ∀ (l : List (Str × α)), findF x l = find x l
  | [] => rfl
  | (y, v) :: r => by
    show (Bool.rec (motive := fun _ => Option α) (findF x r) (some v) (seqF x y) : Option α) = match seq x y with | true => some v | false => find x r
    rw [findF_eq x r, seqF_eq]
    cases seq x y <;> rfl
theorem putF_eq (x : Str) (v : α) : ∀ (l : List (Str × α)), putF x v l = put x v l
  | [] => rfl
  | (y, w) :: r => by
    show (Bool.rec (motive := fun _ => List (Str × α)) ((y, w) :: putF x v r) ((x, v) :: r) (seqF x y) : List (Str × α)) = match seq x y with | true => (x, v) :: r | false => (y, w) :: put x v r
    rw [putF_eq x v r, seqF_eq]
    cases seq x y <;> rfl
end
/- small sums at once -/
noncomputable def addTab : List (UInt64 × UInt64 × UInt64) := [(f0, f0, f0), (f0, f1, f1), (f1, f0, f1), (f1, f1, f2)]
noncomputable def faddL (a b : UInt64) (l : List (UInt64 × UInt64 × UInt64)) : UInt64 := List.rec (motive := fun _ => UInt64) (Float64.add a b) (fun p _ ih => Bool.rec (motive := fun _ => UInt64) ih p.2.2 (Bool.and (isF p.1 a) (isF p.2.1 b))) l
theorem addTab_ok : addTab.all (fun p => isF (Float64.add p.1 p.2.1) p.2.2) = true := by decide +kernel
theorem faddL_eq (a b : UInt64) : ∀ l : List (UInt64 × UInt64 × UInt64), (∀ p ∈ l, isF (Float64.add p.1 p.2.1) p.2.2 = true) → faddL a b l = Float64.add a b
  | [], _ => rfl
  | p :: r, h => by
    show (Bool.rec (motive := fun _ => UInt64) (faddL a b r) p.2.2 (Bool.and (isF p.1 a) (isF p.2.1 b)) : UInt64) = _
    rw [faddL_eq a b r fun q m => h q (List.mem_cons_of_mem _ m)]
    cases e : Bool.and (isF p.1 a) (isF p.2.1 b) with
    | false => rfl
    | true =>
      have ⟨e1, e2⟩ := Bool.and_eq_true_iff.mp e
      rw [← isF_of e1, ← isF_of e2]
      exact (isF_of (h p List.mem_cons_self)).symm
noncomputable def faddF (a b : UInt64) : UInt64 := faddL a b addTab
noncomputable abbrev fastFns : Fns where
  fadd := faddF
  vget := getF
  nbeq := nbeqF
  seq := seqF
  find := findF
  put := putF
theorem fast_plain : fastFns = plainFns := by
  have h1' : (getF : List V → Nat → Option V) = fun H l => H[l]? := funext fun H => funext fun n => getF_eq H n
  have h6 : nbeqF = nbeq := funext fun H => funext fun k => nbeqF_eq H k
  have h7 : seqF = seq := funext fun H => funext fun k => seqF_eq H k
  have h8 : (fun {α : Type} => findF (α := α)) = fun {α : Type} => find (α := α) := funext fun β => funext fun H => funext fun k => findF_eq H k
  have h9 : (fun {α : Type} => putF (α := α)) = fun {α : Type} => put (α := α) := funext fun β => funext fun H => funext fun k => funext fun l => putF_eq H k l
  have h0 : faddF = Float64.add := funext fun a => funext fun b => faddL_eq a b addTab (List.all_eq_true.mp addTab_ok)
  unfold fastFns plainFns
  congr 1

/- trees for heaps -/
inductive Tr where
  | nil
  | node (o : Option O) (l r : Tr)
noncomputable def Tr.get (t : Tr) : Nat → Option O := Tr.rec (motive := fun _ => Nat → Option O) (fun _ => none) (fun o _ _ ihl ihr n => Nat.rec (motive := fun _ => Option O) o (fun j _ => Bool.rec (motive := fun _ => Option O) (ihr (Nat.div j 2)) (ihl (Nat.div j 2)) (Nat.beq (Nat.mod j 2) 0)) n) t
/- at nothing -/
noncomputable def Tr.one (x : O) (f : Nat) : Nat → Tr := Nat.rec (motive := fun _ => Nat → Tr) (fun _ => .nil) (fun _ ih n => Nat.rec (motive := fun _ => Tr) (.node (some x) .nil .nil) (fun j _ => Bool.rec (motive := fun _ => Tr) (.node none .nil (ih (Nat.div j 2))) (.node none (ih (Nat.div j 2)) .nil) (Nat.beq (Nat.mod j 2) 0)) n) f
noncomputable def Tr.put (x : O) (t : Tr) : Nat → Tr := Tr.rec (motive := fun _ => Nat → Tr) (fun n => Tr.one x (Nat.succ n) n) (fun o l r ihl ihr n => Nat.rec (motive := fun _ => Tr) (.node (some x) l r) (fun j _ => Bool.rec (motive := fun _ => Tr) (.node o l (ihr (Nat.div j 2))) (.node o (ihl (Nat.div j 2)) r) (Nat.beq (Nat.mod j 2) 0)) n) t
theorem get_sub (b : Bool) (u v : Option O) : (Bool.rec (motive := fun _ => Option O) u v b : Option O) = match b with | true => v | false => u := by cases b <;> rfl
theorem Tr.get_succ (o : Option O) (l r : Tr) (j : Nat) : (Tr.node o l r).get (j + 1) = match Nat.beq (j % 2) 0 with | true => l.get (j / 2) | false => r.get (j / 2) := get_sub _ _ _
theorem tr_sub (b : Bool) (u v : Tr) (k : Nat) : Tr.get (Bool.rec (motive := fun _ => Tr) u v b) k = match b with | true => v.get k | false => u.get k := by cases b <;> rfl
/- what a child keeps of a place -/
theorem half_eq {j m : Nat} (h : Nat.beq (j % 2) 0 = Nat.beq (m % 2) 0) : m / 2 = j / 2 ↔ m + 1 = j + 1 := by
  have h1 : j % 2 = 0 ∨ j % 2 = 1 := by omega
  have h2 : m % 2 = 0 ∨ m % 2 = 1 := by omega
  rcases h1 with h1 | h1 <;> rcases h2 with h2 | h2 <;> rw [h1, h2] at h <;> first | omega | cases h
theorem half_ne {j m : Nat} (h : Nat.beq (j % 2) 0 ≠ Nat.beq (m % 2) 0) : ¬ m + 1 = j + 1 := fun e => h (by rw [Nat.succ.inj e])
theorem node_get {x : O} {o : Option O} {l r l' r' : Tr} {j : Nat} (hl : Nat.beq (j % 2) 0 = true → r' = r ∧ ∀ m, l'.get m = if m = j / 2 then some x else l.get m) (hr : Nat.beq (j % 2) 0 = false → l' = l ∧ ∀ m, r'.get m = if m = j / 2 then some x else r.get m) :
    ∀ k, (Tr.node o l' r').get k = if k = j + 1 then some x else (Tr.node o l r).get k
  | 0 => rfl
  | m + 1 => by
    rw [Tr.get_succ, Tr.get_succ]
    cases hj : Nat.beq (j % 2) 0 with
    | true =>
      obtain ⟨e, q⟩ := hl hj
      cases hm : Nat.beq (m % 2) 0 with
      | true =>
        have := half_eq (hj.trans hm.symm)
        simp only [q, this]
      | false =>
        rw [if_neg (half_ne (by rw [hj, hm]; decide)), e]
    | false =>
      obtain ⟨e, q⟩ := hr hj
      cases hm : Nat.beq (m % 2) 0 with
      | true =>
        rw [if_neg (half_ne (by rw [hj, hm]; decide)), e]
      | false =>
        have := half_eq (hj.trans hm.symm)
        simp only [q, this]
theorem Tr.get_one (x : O) : ∀ (f n k : Nat), n < f → (Tr.one x f n).get k = if k = n then some x else none
  | 0, _, _, h => absurd h (Nat.not_lt_zero _)
  | f + 1, 0, k, _ => by
    cases k with
    | zero => rfl
    | succ k =>
      show Tr.get (Tr.node (some x) .nil .nil) (k + 1) = _
      rw [Tr.get_succ]
      cases Nat.beq (k % 2) 0 <;> rfl
  | f + 1, j + 1, k, h => by
    show Tr.get (Bool.rec (motive := fun _ => Tr) (Tr.node none .nil (Tr.one x f (j / 2))) (Tr.node none (Tr.one x f (j / 2)) .nil) (Nat.beq (j % 2) 0)) k = _
    have hlt : j / 2 < f := Nat.lt_of_le_of_lt (Nat.div_le_self j 2) (Nat.lt_of_succ_lt_succ h)
    have e : ∀ k, (Tr.node none .nil .nil).get k = none := fun k => by
      cases k with
      | zero => rfl
      | succ k => rw [Tr.get_succ]; cases Nat.beq (k % 2) 0 <;> rfl
    rw [tr_sub]
    cases hj : Nat.beq (j % 2) 0 with
    | true => exact (node_get (x := x) (o := none) (l := .nil) (r := .nil) (l' := Tr.one x f (j / 2)) (r' := .nil) (fun _ => ⟨rfl, fun m => Tr.get_one x f (j / 2) m hlt⟩) (fun q => by rw [hj] at q; cases q) k).trans (by rw [e k])
    | false => exact (node_get (x := x) (o := none) (l := .nil) (r := .nil) (l' := .nil) (r' := Tr.one x f (j / 2)) (fun q => by rw [hj] at q; cases q) (fun _ => ⟨rfl, fun m => Tr.get_one x f (j / 2) m hlt⟩) k).trans (by rw [e k])
theorem Tr.get_put (x : O) : ∀ (t : Tr) (i k : Nat), (t.put x i).get k = if k = i then some x else t.get k
  | .nil, i, k => Tr.get_one x (i + 1) i k (Nat.lt_succ_self i)
  | .node o l r, 0, k => by
    cases k with
    | zero => rfl
    | succ k =>
      show Tr.get (Tr.node (some x) l r) (k + 1) = _
      rw [Tr.get_succ, if_neg (Nat.succ_ne_zero k), Tr.get_succ]
  | .node o l r, j + 1, k => by
    show Tr.get (Bool.rec (motive := fun _ => Tr) (Tr.node o l (r.put x (j / 2))) (Tr.node o (l.put x (j / 2)) r) (Nat.beq (j % 2) 0)) k = _
    rw [tr_sub]
    cases hj : Nat.beq (j % 2) 0 with
    | true => exact node_get (fun _ => ⟨rfl, fun m => Tr.get_put x l (j / 2) m⟩) (fun q => by rw [hj] at q; cases q) k
    | false => exact node_get (fun q => by rw [hj] at q; cases q) (fun _ => ⟨rfl, fun m => Tr.get_put x r (j / 2) m⟩) k
structure TH where
  n : Nat
  t : Tr
noncomputable def TH.get (H : TH) (l : Nat) : Option O := match Nat.blt l H.n with
  | true => H.t.get l
  | false => none
noncomputable def TH.push (H : TH) (o : O) : TH := ⟨Nat.succ H.n, H.t.put o H.n⟩
noncomputable def TH.set (H : TH) (l : Nat) (o : O) : TH := ⟨H.n, H.t.put o l⟩
noncomputable def TH.app (H : TH) (L : List O) : TH := List.rec (motive := fun _ => TH → TH) (fun H => H) (fun o _ ih H => ih (H.push o)) L H
theorem TH.get_lt {H : TH} {l : Nat} (h : l < H.n) : H.get l = H.t.get l := by
  unfold TH.get
  rw [Nat.blt_eq.mpr h]
theorem TH.get_ge {H : TH} {l : Nat} (h : H.n ≤ l) : H.get l = none := by
  unfold TH.get
  rw [show Nat.blt l H.n = false from Bool.eq_false_iff.mpr fun e => Nat.not_lt.mpr h (Nat.blt_eq.mp e)]
theorem TH.push_get (H : TH) (o : O) (l : Nat) : (H.push o).get l = if l = H.n then some o else H.get l := by
  rcases Nat.lt_trichotomy l H.n with h | h | h
  · rw [TH.get_lt (Nat.lt_succ_of_lt h), TH.get_lt h]; exact Tr.get_put ..
  · subst h
    rw [TH.get_lt (Nat.lt_succ_self _), if_pos rfl]
    exact (Tr.get_put ..).trans (if_pos rfl)
  · rw [if_neg (Nat.ne_of_gt h), TH.get_ge (Nat.le_of_lt h), TH.get_ge h]
theorem TH.app_n : ∀ (L : List O) (H : TH), (H.app L).n = H.n + L.length
  | [], _ => rfl
  | o :: L, H => (TH.app_n L (H.push o)).trans (by show H.n + 1 + L.length = H.n + (L.length + 1); omega)
theorem TH.app_lt : ∀ (L : List O) {H : TH} {l : Nat}, l < H.n → (H.app L).get l = H.get l
  | [], _, _, _ => rfl
  | o :: L, H, l, h => (TH.app_lt L (H := H.push o) (Nat.lt_succ_of_lt h)).trans (by rw [TH.push_get, if_neg (Nat.ne_of_lt h)])
theorem TH.app_ge : ∀ (L : List O) {H : TH} {l : Nat}, H.n ≤ l → (H.app L).get l = L[l - H.n]?
  | [], H, l, h => (TH.get_ge h).trans List.getElem?_nil.symm
  | o :: L, H, l, h => by
    rcases Nat.eq_or_lt_of_le h with e | h'
    · subst e
      refine (TH.app_lt L (H := H.push o) (Nat.lt_succ_self _)).trans ?_
      rw [TH.push_get, if_pos rfl, Nat.sub_self]; rfl
    · refine (TH.app_ge L (H := H.push o) h').trans ?_
      show L[l - (H.n + 1)]? = (o :: L)[l - H.n]?
      rw [show l - H.n = (l - (H.n + 1)) + 1 by omega]; rfl
theorem TH.app_app : ∀ (L M : List O) (H : TH), (H.app L).app M = H.app (L ++ M)
  | [], _, _ => rfl
  | o :: L, M, H => TH.app_app L M (H.push o)
/- a heap as a tree -/
noncomputable abbrev treeOps : Ops where
  T := TH
  get := TH.get
  set := TH.set
  app := TH.app
  len H := H.n
  lt {H l o} h := Nat.lt_of_not_le fun q => by rw [TH.get_ge q] at h; cases h
  app_len H L := TH.app_n L H
  app_lt L h := TH.app_lt L h
  app_ge L h := TH.app_ge L h
  set_len _ _ _ := rfl
  set_eq {H l} o h := (TH.get_lt (H := H.set l o) h).trans ((Tr.get_put ..).trans (if_pos rfl))
  set_ne {H l k} o h := by
    rcases Nat.lt_or_ge k H.n with q | q
    · exact (TH.get_lt (H := H.set l o) q).trans ((Tr.get_put ..).trans ((if_neg (Ne.symm h)).trans (TH.get_lt q).symm))
    · exact (TH.get_ge (H := H.set l o) q).trans (TH.get_ge q).symm
  app_app H L M := TH.app_app L M H
/- a tree of a list -/
noncomputable def TH.of (L : List O) : TH := TH.app ⟨0, .nil⟩ L

/- a run on a list, quickly -/
noncomputable def runF (G : Env0) (n : Nat) (f : Str) (vs : List V) (H : List O) : Option (V × List O) := @run fastFns listOps G n f vs H
theorem runF_eq (G : Env0) (n : Nat) (f : Str) (vs : List V) (H : List O) : runF G n f vs H = run G n f vs H := by
  unfold runF
  rw [fast_plain]
noncomputable def stepSsT (G : Env0) (n : Nat) (ρ : Rho) (l : List Stmt) (H : TH) : Option (Fl × TH) := @stepSs fastFns treeOps (@ev fastFns treeOps G n) G ρ l H
theorem stepSsT_eq (G : Env0) (n : Nat) (ρ : Rho) (l : List Stmt) (H : TH) : stepSsT G n ρ l H = @stepSs plainFns treeOps (@ev plainFns treeOps G n) G ρ l H := by
  unfold stepSsT
  rw [fast_plain]
end Mine
end
section
open PySem PyProof.Rows
set_option maxRecDepth 100000
namespace Mine
/- the same, quickly -/
noncomputable def runDF (G : Env0) (n : Nat) (f : Str) (vs : List V) : Option D := (runF G n f vs []).bind fun q => @resD listOps q.1 q.2
theorem runDF_eq (G : Env0) (n : Nat) (f : Str) (vs : List V) : runDF G n f vs = runD G n f vs := congrArg (fun o : Option (V × List O) => o.bind fun q => @resD listOps q.1 q.2) (runF_eq G n f vs [])

/- contracts by the lower level's, or by runs there -/
theorem ConS.step [Ops] {C : Cx} {G G1 : Env0} {l1 : Nat} (T : Top (C.at l1) G1) (K : ConS (C.at l1) G1) (KL : @ConS listOps (C.at l1) G1) (GH : @GenH listOps (C.at l1) G1) {n : Nat} (hl : l1 ≤ C.lev) (hn : n + 1 ≤ C.lev) (hf : ∀ f vs d, G.con f vs = some d → ∃ F, G.fn f = some F)
    (hc : ∀ f vs d, G.con f vs = some d → G1.con f vs = some d ∨ runD G1 n f vs = some d) : ConS C G where
  is := hf
  con := fun {f vs d a A θ H H' s as v} h hp hA S r ha hr => by
    refine wpAny_mono (?_ : wpAny (model C.prog C.w) A (call (.ref a) as) (GivV (C.at l1) θ s v H') (fun _ _ => False) s) (fun rv s' hb => hb.elim fun θ' H'' g S' z => .mk' (g.at C.lev) (S'.at C.lev) z) fun _ _ x => x
    rcases hc f vs d h with h' | h'
    · exact K.con h' hp (hA.down hl) (S.at l1) r ha hr
    · exact wpAny_mono (con_of (C := C.at l1) (G := G1) T KL GH h' hp (hA.down hn) (S.at l1) r ha hr) (fun rv s' ⟨θ', g, S', r'⟩ => .mk' g S' ⟨rfl, r'⟩) fun _ _ x => x
end Mine
end
section
open PySem
set_option maxRecDepth 100000
namespace Mine
noncomputable def LawF : Fn := ((fnIn "law" PySem.Challenge.pw_re0105_02.main.body).getD ⟨[], [], default, none⟩)
noncomputable def envL (con : Str → List V → Option D) (lev : Nat) : Env0 := { G0 PySem.Challenge.pw_re0105_02 with con := con, lev := lev }
noncomputable def d3 : List V → Option (V × V × V)
  | [a, b, c] => some (a, b, c)
  | _ => .none
/- contracts by a table, or a lower level's -/
noncomputable def conT (tab : List (Str × (List V → Option D))) (low : Str → List V → Option D) (f : Str) (vs : List V) : Option D := match find f tab with
  | some k => k vs
  | .none => low f vs
noncomputable def conChe (vs : List V) : Option D := (one vs).bind fun a => (vStr a).bind fun x => match hasSign 34 x with
  | true => .none
  | false => some (.val (.bool (checkI x)))
noncomputable def tabA : List (Str × (List V → Option D)) := [("_check_parenthesis", conChe)]
noncomputable def conA : Str → List V → Option D := conT tabA fun _ _ => .none
noncomputable abbrev GO : Env0 := envL (fun _ _ => .none) 30
noncomputable abbrev GA : Env0 := envL conA 50
/- a small number by three or by four -/
noncomputable def dmD (p : Int × Int) : D := .tup [.int (Int.fdiv p.1 p.2), .int (Int.fmod p.1 p.2)]
noncomputable def dms : List (Int × Int) := [(-8, 3), (-7, 3), (-6, 3), (-5, 3), (-4, 3), (-3, 3), (-2, 3), (-1, 3), (0, 3), (1, 3), (2, 3), (3, 3), (4, 3), (5, 3), (6, 3), (7, 3), (8, 3), (-8, 4), (-4, 4), (0, 4), (4, 4), (8, 4)]
noncomputable def dmIn (a b : Int) : Bool := dms.any fun p => ieq p.1 a && ieq p.2 b
noncomputable def conDm (vs : List V) : Option D := (two vs).bind fun q => (vInt q.1).bind fun a => (vInt q.2).bind fun b => match dmIn a b with
  | true => some (dmD (a, b))
  | false => .none
/- the three lights -/
noncomputable def hues : List (UInt64 × D) := [(0, .tup [.flt f1, .flt f0, .flt f0]), (4599676419421066581, .tup [.flt f0, .flt f1, .flt f0]), (4604180019048437077, .tup [.flt f0, .flt f0, .flt f1])]
noncomputable def conHue (vs : List V) : Option D := (d3 vs).bind fun q => (vFlt q.1).bind fun a => (vFlt q.2.1).bind fun b => (vFlt q.2.2).bind fun c => match isF b f1 with
  | true => match isF c f1 with
    | true => (hues.find? fun p => isF p.1 a).map (·.2)
    | false => .none
  | false => .none
/- what lights may mix to -/
noncomputable def rgbs : List ((UInt64 × UInt64 × UInt64) × D) := [((f1, f1, f1), .tup [.flt f0, .flt f0, .flt f1]), ((f2, f1, f0), .tup [.flt 4590669220166325589, .flt f1, .flt f2]), ((f2, f0, f1), .tup [.flt 4606431818862122325, .flt f1, .flt f2]), ((f1, f2, f0), .tup [.flt 4598175219545276416, .flt f1, .flt f2]), ((f1, f0, f2), .tup [.flt 4604930618986332160, .flt f1, .flt f2]), ((f0, f2, f1), .tup [.flt 4601177619296856747, .flt f1, .flt f2]), ((f0, f1, f2), .tup [.flt 4603429419110541995, .flt f1, .flt f2])]
noncomputable def conRgb (vs : List V) : Option D := (d3 vs).bind fun q => (vFlt q.1).bind fun a => (vFlt q.2.1).bind fun b => (vFlt q.2.2).bind fun c => (rgbs.find? fun p => isF p.1.1 a && (isF p.1.2.1 b && isF p.1.2.2 c)).map (·.2)
noncomputable def tabB : List (Str × (List V → Option D)) := [("int_divmod", conDm), ("hsv_to_rgb", conHue), ("rgb_to_hsv", conRgb)]
noncomputable def conB : Str → List V → Option D := conT tabB conA
noncomputable abbrev GB : Env0 := envL conB 130

end Mine
end
section
open PySem
set_option maxRecDepth 100000
namespace Mine
noncomputable def TextF : Fn := ((fnIn "_law_text" PySem.Challenge.pw_re0105_02.main.body).getD ⟨[], [], default, none⟩)
noncomputable def rhoT : Rho := ⟨TextF.scope, 2, [], .none⟩
noncomputable def tst (i : Nat) : Stmt := TextF.body.getD i default
noncomputable def forT := forParts (tst 2)
noncomputable def tS0 : Stmt := forT.2.2.1.getD 0 default
noncomputable def tIf := ifParts (forT.2.2.1.getD 1 default)
noncomputable def boolArgs : Expr → List Expr × Pos
  | .BoolOp _ es p => (es, p)
  | _ => ([], default)
noncomputable def tC1 : Expr := (boolArgs tIf.1).1.getD 0 default
noncomputable def tC2 : Expr := (boolArgs tIf.1).1.getD 1 default
theorem tb : forT.2.2.1 = [tS0, .If tIf.1 tIf.2.1 tIf.2.2.1 tIf.2.2.2] := by kernel_rfl
theorem tif : tIf.1 = .BoolOp .And [tC1, tC2] (boolArgs tIf.1).2 := by kernel_rfl
noncomputable def yS (i : Nat) : Stmt := tIf.2.1.getD i default
noncomputable def nS (i : Nat) : Stmt := tIf.2.2.1.getD i default
theorem ty : tIf.2.1 = [yS 0, yS 1] := by kernel_rfl
theorem tn : tIf.2.2.1 = [nS 0, nS 1] := by kernel_rfl
/- the names of the text's maker -/
noncomputable def esT (tv : V) (r : List (Str × V)) : List (Str × V) := ("script", .ref 0) :: ("told", .ref 6) :: ("stock", .ref 7) :: ("text", tv) :: r
noncomputable def rT (o a : Int) : List (Str × V) := [("one", .int o), ("add", .int a)]
noncomputable def rT' (o a : Int) (s : Int) : List (Str × V) := [("one", .int o), ("add", .int a), ("side", .int s)]
noncomputable def BT (x0 x1 x3 x4 x5 x6 : O) (es : List (Str × V)) (p q : Int) (R : List O) : List O := x0 :: x1 :: .ns es :: x3 :: x4 :: x5 :: x6 :: .list [.int p, .int q] :: R
section
variable (x0 x1 x3 x4 x5 x6 : O) (tv : V) (o a p q s : Int) (R : List O)
theorem sa_0 : stepS (ev GB 146) GB tS0 rhoT (BT x0 x1 x3 x4 x5 x6 (esT tv (rT o a)) p q R) = some (.next, BT x0 x1 x3 x4 x5 x6 (esT tv (rT' o a (Int.fmod (o + a) 2))) p q R) := by kernel_rfl
theorem sa_1 : stepS (ev GB 146) GB tS0 rhoT (BT x0 x1 x3 x4 x5 x6 (esT tv (rT' o a s)) p q R) = some (.next, BT x0 x1 x3 x4 x5 x6 (esT tv (rT' o a (Int.fmod (o + a) 2))) p q R) := by kernel_rfl
theorem c1 : (ev GB 145).t tC1 rhoT (BT x0 x1 x3 x4 x5 x6 (esT tv (rT' o a s)) p q R) = some (ieq (Int.fmod (Int.fdiv (o + a) 2) 2) 1, BT x0 x1 x3 x4 x5 x6 (esT tv (rT' o a s)) p q R) := by kernel_rfl
theorem c2_0 : (ev GB 145).t tC2 rhoT (BT x0 x1 x3 x4 x5 x6 (esT tv (rT' o a 0)) p q R) = some (ilt 0 p, BT x0 x1 x3 x4 x5 x6 (esT tv (rT' o a 0)) p q R) := by kernel_rfl
theorem c2_1 : (ev GB 145).t tC2 rhoT (BT x0 x1 x3 x4 x5 x6 (esT tv (rT' o a 1)) p q R) = some (ilt 0 q, BT x0 x1 x3 x4 x5 x6 (esT tv (rT' o a 1)) p q R) := by kernel_rfl
/- a text's growth -/
noncomputable def addT (H : List O) (o : Option V) : Option (Fl × List O) := match o with
  | some r => match stName rhoT H "text" r with
    | some H => some (.next, H)
    | .none => .none
  | .none => .none
theorem y0_0 : stepS (ev GB 145) GB (yS 0) rhoT (BT x0 x1 x3 x4 x5 x6 (esT tv (rT' o a 0)) p q R) = addT (BT x0 x1 x3 x4 x5 x6 (esT tv (rT' o a 0)) p q R) (inP .Add (norm tv) (.str [41])) := by kernel_rfl
theorem y0_1 : stepS (ev GB 145) GB (yS 0) rhoT (BT x0 x1 x3 x4 x5 x6 (esT tv (rT' o a 1)) p q R) = addT (BT x0 x1 x3 x4 x5 x6 (esT tv (rT' o a 1)) p q R) (inP .Add (norm tv) (.str [92, 41])) := by kernel_rfl
theorem n0_0 : stepS (ev GB 145) GB (nS 0) rhoT (BT x0 x1 x3 x4 x5 x6 (esT tv (rT' o a 0)) p q R) = addT (BT x0 x1 x3 x4 x5 x6 (esT tv (rT' o a 0)) p q R) (inP .Add (norm tv) (.str [40])) := by kernel_rfl
theorem n0_1 : stepS (ev GB 145) GB (nS 0) rhoT (BT x0 x1 x3 x4 x5 x6 (esT tv (rT' o a 1)) p q R) = addT (BT x0 x1 x3 x4 x5 x6 (esT tv (rT' o a 1)) p q R) (inP .Add (norm tv) (.str [92, 40])) := by kernel_rfl
theorem y1_0 : stepS (ev GB 145) GB (yS 1) rhoT (BT x0 x1 x3 x4 x5 x6 (esT tv (rT' o a 0)) p q R) = some (.next, BT x0 x1 x3 x4 x5 x6 (esT tv (rT' o a 0)) (p - 1) q R) := by kernel_rfl
theorem y1_1 : stepS (ev GB 145) GB (yS 1) rhoT (BT x0 x1 x3 x4 x5 x6 (esT tv (rT' o a 1)) p q R) = some (.next, BT x0 x1 x3 x4 x5 x6 (esT tv (rT' o a 1)) p (q - 1) R) := by kernel_rfl
theorem n1_0 : stepS (ev GB 145) GB (nS 1) rhoT (BT x0 x1 x3 x4 x5 x6 (esT tv (rT' o a 0)) p q R) = some (.next, BT x0 x1 x3 x4 x5 x6 (esT tv (rT' o a 0)) (p + 1) q R) := by kernel_rfl
theorem n1_1 : stepS (ev GB 145) GB (nS 1) rhoT (BT x0 x1 x3 x4 x5 x6 (esT tv (rT' o a 1)) p q R) = some (.next, BT x0 x1 x3 x4 x5 x6 (esT tv (rT' o a 1)) p (q + 1) R) := by kernel_rfl
end
end Mine
end
section
open PySem
set_option maxRecDepth 100000
namespace Mine
/- one bracket more: by the rest by four -/
noncomputable def stepP (r : Nat) (s : List Nat × Int × Int) : List Nat × Int × Int := match r with
  | 0 => (s.1 ++ [40], s.2.1 + 1, s.2.2)
  | 1 => (s.1 ++ [92, 40], s.2.1, s.2.2 + 1)
  | 2 => match ilt 0 s.2.1 with
    | true => (s.1 ++ [41], s.2.1 - 1, s.2.2)
    | false => (s.1 ++ [40], s.2.1 + 1, s.2.2)
  | _ => match ilt 0 s.2.2 with
    | true => (s.1 ++ [92, 41], s.2.1, s.2.2 - 1)
    | false => (s.1 ++ [92, 40], s.2.1, s.2.2 + 1)
noncomputable def rest4 (i : Int) : Nat := (Int.fmod i 2).toNat + 2 * (Int.fmod (Int.fdiv i 2) 2).toNat
theorem fmod2 (i : Int) : Int.fmod i 2 = 0 ∨ Int.fmod i 2 = 1 := by
  rw [Int.fmod_eq_emod_of_nonneg _ (by decide : (0 : Int) ≤ 2)]
  exact Int.emod_two_eq i
theorem rest4_at {i a b : Int} (h1 : Int.fmod i 2 = a) (h2 : Int.fmod (Int.fdiv i 2) 2 = b) : rest4 i = a.toNat + 2 * b.toNat := by
  unfold rest4; rw [h1, h2]
theorem rest_cases (i : Int) : (rest4 i = 0 ∧ Int.fmod i 2 = 0 ∧ Int.fmod (Int.fdiv i 2) 2 = 0) ∨ (rest4 i = 1 ∧ Int.fmod i 2 = 1 ∧ Int.fmod (Int.fdiv i 2) 2 = 0) ∨ (rest4 i = 2 ∧ Int.fmod i 2 = 0 ∧ Int.fmod (Int.fdiv i 2) 2 = 1) ∨ (rest4 i = 3 ∧ Int.fmod i 2 = 1 ∧ Int.fmod (Int.fdiv i 2) 2 = 1) :=
  (fmod2 i).elim (fun a => (fmod2 (Int.fdiv i 2)).elim (fun b => .inl ⟨rest4_at a b, a, b⟩) fun b => .inr (.inr (.inl ⟨rest4_at a b, a, b⟩)))
    fun a => (fmod2 (Int.fdiv i 2)).elim (fun b => .inr (.inl ⟨rest4_at a b, a, b⟩)) fun b => .inr (.inr (.inr ⟨rest4_at a b, a, b⟩))
theorem rest4_lt (i : Int) : rest4 i < 4 := by
  rcases rest_cases i with h | h | h | h <;> rw [h.1] <;> decide
theorem fits_of {n : Nat} (h : n ≤ 8000) : fits n = true := Nat.ble_eq_true_of_le h
theorem inP_add {t u : List Nat} (h : t.length + u.length ≤ 8000) : inP .Add (.str t) (.str u) = some (.str (t ++ u)) := by
  show (match fits (t.length + u.length) with | true => some (V.str (t ++ u)) | false => none) = _
  rw [fits_of h]
section
variable {x0 x1 x3 x4 x5 x6 : O} {tv : V} {o a p q s : Int} {R : List O} {t : List Nat}
theorem and_t [Ops] {ih : Ih} {ρ : Rho} {H H1 H2 : Hp} {x y : Expr} {w : Pos} {c : Bool} (h1 : ih.t x ρ H = some (true, H1)) (h2 : ih.t y ρ H1 = some (c, H2)) : stepT ih (.BoolOp .And [x, y] w) ρ H = some (c, H2) := by
  show tests ih ρ .And [x, y] H = _
  unfold tests
  rw [h1]
  show tests ih ρ .And [y] H1 = _
  unfold tests
  rw [h2]
  cases c <;> rfl
theorem and_f [Ops] {ih : Ih} {ρ : Rho} {H H1 : Hp} {x y : Expr} {w : Pos} (h1 : ih.t x ρ H = some (false, H1)) : stepT ih (.BoolOp .And [x, y] w) ρ H = some (false, H1) := by
  show tests ih ρ .And [x, y] H = _
  unfold tests
  rw [h1]
theorem test_t {c : Bool} (h : ieq (Int.fmod (Int.fdiv (o + a) 2) 2) 1 = true) (h2 : (ev GB 145).t tC2 rhoT (BT x0 x1 x3 x4 x5 x6 (esT tv (rT' o a s)) p q R) = some (c, BT x0 x1 x3 x4 x5 x6 (esT tv (rT' o a s)) p q R)) :
    (ev GB 146).t tIf.1 rhoT (BT x0 x1 x3 x4 x5 x6 (esT tv (rT' o a s)) p q R) = some (c, BT x0 x1 x3 x4 x5 x6 (esT tv (rT' o a s)) p q R) := by
  rw [tif]
  exact and_t (w := (boolArgs tIf.1).2) ((c1 x0 x1 x3 x4 x5 x6 tv o a p q s R).trans (by rw [h])) h2
theorem test_f (h : ieq (Int.fmod (Int.fdiv (o + a) 2) 2) 1 = false) :
    (ev GB 146).t tIf.1 rhoT (BT x0 x1 x3 x4 x5 x6 (esT tv (rT' o a s)) p q R) = some (false, BT x0 x1 x3 x4 x5 x6 (esT tv (rT' o a s)) p q R) := by
  rw [tif]
  exact and_f (w := (boolArgs tIf.1).2) ((c1 x0 x1 x3 x4 x5 x6 tv o a p q s R).trans (by rw [h]))
theorem addT_of {u : List Nat} {es : List (Str × V)} (hn : norm tv = .str t) (h : t.length + 2 ≤ 8000) (hu : u.length ≤ 2) : addT (BT x0 x1 x3 x4 x5 x6 (esT tv es) p q R) (inP .Add (norm tv) (.str u)) = some (.next, BT x0 x1 x3 x4 x5 x6 (esT (.str (t ++ u)) es) p q R) := by
  rw [hn, inP_add (by omega)]
  rfl
noncomputable abbrev Tn (x0 x1 x3 x4 x5 x6 : O) (tv : V) (o a p q s : Int) (R : List O) (w : List Nat × Int × Int) : Prop :=
  stepS (ev GB 146) GB (.If tIf.1 tIf.2.1 tIf.2.2.1 tIf.2.2.2) rhoT (BT x0 x1 x3 x4 x5 x6 (esT tv (rT' o a s)) p q R) = some (.next, BT x0 x1 x3 x4 x5 x6 (esT (.str w.1) (rT' o a s)) w.2.1 w.2.2 R)
theorem go_yes {H1 H2 : List O} (ht : (ev GB 146).t tIf.1 rhoT H1 = some (true, H1)) {H3 : List O} (h0 : stepS (ev GB 145) GB (yS 0) rhoT H1 = some (.next, H2)) (h1 : stepS (ev GB 145) GB (yS 1) rhoT H2 = some (.next, H3)) : stepS (ev GB 146) GB (.If tIf.1 tIf.2.1 tIf.2.2.1 tIf.2.2.2) rhoT H1 = some (.next, H3) := by
  rw [if_yes ht, ty, ev_s, ss_go h0, ss_last, h1]
theorem go_no {H1 H2 : List O} (ht : (ev GB 146).t tIf.1 rhoT H1 = some (false, H1)) {H3 : List O} (h0 : stepS (ev GB 145) GB (nS 0) rhoT H1 = some (.next, H2)) (h1 : stepS (ev GB 145) GB (nS 1) rhoT H2 = some (.next, H3)) : stepS (ev GB 146) GB (.If tIf.1 tIf.2.1 tIf.2.2.1 tIf.2.2.2) rhoT H1 = some (.next, H3) := by
  rw [if_no ht, tn, ev_s, ss_go h0, ss_last, h1]
theorem turn_if (hn : norm tv = .str t) (h : t.length + 2 ≤ 8000) (hs : s = Int.fmod (o + a) 2) : Tn x0 x1 x3 x4 x5 x6 tv o a p q s R (stepP (rest4 (o + a)) (t, p, q)) := by
  rcases rest_cases (o + a) with ⟨e, e1, e2⟩ | ⟨e, e1, e2⟩ | ⟨e, e1, e2⟩ | ⟨e, e1, e2⟩ <;> rw [e] <;> rw [e1] at hs <;> subst hs
  · exact go_no (test_f (by rw [e2]; rfl)) ((n0_0 ..).trans (addT_of hn h (by decide))) (n1_0 ..)
  · exact go_no (test_f (by rw [e2]; rfl)) ((n0_1 ..).trans (addT_of hn h (by decide))) (n1_1 ..)
  · show Tn _ _ _ _ _ _ _ _ _ _ _ _ _ (match ilt 0 p with | true => (t ++ [41], p - 1, q) | false => (t ++ [40], p + 1, q))
    cases hp : ilt 0 p with
    | true => exact go_yes (test_t (by rw [e2]; rfl) ((c2_0 ..).trans (by rw [hp]))) ((y0_0 ..).trans (addT_of hn h (by decide))) (y1_0 ..)
    | false => exact go_no (test_t (by rw [e2]; rfl) ((c2_0 ..).trans (by rw [hp]))) ((n0_0 ..).trans (addT_of hn h (by decide))) (n1_0 ..)
  · show Tn _ _ _ _ _ _ _ _ _ _ _ _ _ (match ilt 0 q with | true => (t ++ [92, 41], p, q - 1) | false => (t ++ [92, 40], p, q + 1))
    cases hp : ilt 0 q with
    | true => exact go_yes (test_t (by rw [e2]; rfl) ((c2_1 ..).trans (by rw [hp]))) ((y0_1 ..).trans (addT_of hn h (by decide))) (y1_1 ..)
    | false => exact go_no (test_t (by rw [e2]; rfl) ((c2_1 ..).trans (by rw [hp]))) ((n0_1 ..).trans (addT_of hn h (by decide))) (n1_1 ..)
theorem body_0 (hn : norm tv = .str t) (h : t.length + 2 ≤ 8000) : (ev GB 147).s forT.2.2.1 rhoT (BT x0 x1 x3 x4 x5 x6 (esT tv (rT o a)) p q R) = some (.next, BT x0 x1 x3 x4 x5 x6 (esT (.str (stepP (rest4 (o + a)) (t, p, q)).1) (rT' o a (Int.fmod (o + a) 2))) (stepP (rest4 (o + a)) (t, p, q)).2.1 (stepP (rest4 (o + a)) (t, p, q)).2.2 R) := by
  rw [tb, ev_s, ss_go (sa_0 ..), ss_last]
  exact turn_if hn h rfl
theorem body_1 (hn : norm tv = .str t) (h : t.length + 2 ≤ 8000) : (ev GB 147).s forT.2.2.1 rhoT (BT x0 x1 x3 x4 x5 x6 (esT tv (rT' o a s)) p q R) = some (.next, BT x0 x1 x3 x4 x5 x6 (esT (.str (stepP (rest4 (o + a)) (t, p, q)).1) (rT' o a (Int.fmod (o + a) 2))) (stepP (rest4 (o + a)) (t, p, q)).2.1 (stepP (rest4 (o + a)) (t, p, q)).2.2 R) := by
  rw [tb, ev_s, ss_go (sa_1 ..), ss_last]
  exact turn_if hn h rfl
end
end Mine
end
section
open PySem
set_option maxRecDepth 100000
namespace Mine
/- the text's maker: its statements -/
noncomputable def asgE : Stmt → Expr
  | .Assign _ e _ => e
  | _ => default
noncomputable def binL : Expr → Expr
  | .BinOp l _ _ _ => l
  | _ => default
noncomputable def binR : Expr → Expr
  | .BinOp _ _ r _ => r
  | _ => default
noncomputable def E0 : Expr := asgE (tst 0)
noncomputable def nsT : O := .ns [("script", .ref 0)]
noncomputable def H0T (x1 : O) (vs : List V) (its : Array Value) : List O := [.xl vs its, x1, nsT]
noncomputable def H1T (x1 : O) (vs : List V) (its : Array Value) (a z b tl : List V) : List O := [.xl vs its, x1, .ns [("script", .ref 0), ("told", .ref 6)], .list a, .list z, .list b, .list tl]
noncomputable abbrev T0 (x1 : O) (vs : List V) (its : Array Value) (a b tl : List V) : Prop := stepS (ev GB 147) GB (tst 0) rhoT (H0T x1 vs its) = some (.next, H1T x1 vs its a [.int 0] b tl)
section
variable (x1 : O) (its : Array Value)
theorem t0_0 : T0 x1 [] its [] [.int 0, .int 0, .int 0] [.int 0, .int 0, .int 0] := by kernel_rfl
theorem t0_1 (a : Int) : T0 x1 [.int a] its [.int a] [.int 0, .int 0] [.int a, .int 0, .int 0] := by kernel_rfl
theorem t0_2 (a b : Int) : T0 x1 [.int a, .int b] its [.int a, .int b] [.int 0] [.int a, .int b, .int 0] := by kernel_rfl
theorem t0_3 (a b c : Int) : T0 x1 [.int a, .int b, .int c] its [.int a, .int b, .int c] [] [.int a, .int b, .int c] := by kernel_rfl
/- the first of four or more -/
theorem t0_a (a b c d : Int) (r : List V) (h : r.length + 4 ≤ 8000) : (ev GB 146).e (binL E0) rhoT (H0T x1 (.int a :: .int b :: .int c :: .int d :: r) its) = some (.ref 3, H0T x1 (.int a :: .int b :: .int c :: .int d :: r) its ++ [.list [.int a, .int b, .int c, .int d]]) := by
  have q : (ev GB 146).e (binL E0) rhoT (H0T x1 (.int a :: .int b :: .int c :: .int d :: r) its) = match fits (r.length + 4) with
      | true => match some 0, some (min 4 (r.length + 4)) with
        | some x, some y => alloc (H0T x1 (.int a :: .int b :: .int c :: .int d :: r) its) (.list (cut (.int a :: .int b :: .int c :: .int d :: r) x y))
        | _, _ => .none
      | false => .none := by kernel_rfl
  rw [q, fits_of h, Nat.min_eq_left (by omega)]
  rfl
theorem t0_b (vs : List V) (x : O) (j : Nat) (h : vs.length + 4 ≤ 8000) (hv : vs.length = j + 4) : (ev GB 146).e (binR E0) rhoT (H0T x1 vs its ++ [x]) = some (.ref 5, H0T x1 vs its ++ [x, .list [.int 0], .list []]) := by
  have l1 : (ev GB 145).e (binL (binR E0)) rhoT (H0T x1 vs its ++ [x]) = some (.ref 4, H0T x1 vs its ++ [x, .list [.int 0]]) := by kernel_rfl
  have l3 : (ev GB 144).e (binR (binR (binR E0))) rhoT (H0T x1 vs its ++ [x, .list [.int 0]]) = some (.int (vs.length : Int), H0T x1 vs its ++ [x, .list [.int 0]]) := by
    have q : (ev GB 144).e (binR (binR (binR E0))) rhoT (H0T x1 vs its ++ [x, .list [.int 0]]) = match fits vs.length with
      | true => some (.int (vs.length : Int), H0T x1 vs its ++ [x, .list [.int 0]])
      | false => .none := by kernel_rfl
    rw [q, fits_of (by omega)]
  have l2 : (ev GB 145).e (binR (binR E0)) rhoT (H0T x1 vs its ++ [x, .list [.int 0]]) = some (.int (Int.negSucc j), H0T x1 vs its ++ [x, .list [.int 0]]) := by
    have q : (ev GB 145).e (binR (binR E0)) rhoT (H0T x1 vs its ++ [x, .list [.int 0]]) = match (ev GB 144).e (binR (binR (binR E0))) rhoT (H0T x1 vs its ++ [x, .list [.int 0]]) with
      | some (b, H) => binV .Sub (.int 3) (norm b) H
      | .none => .none := by kernel_rfl
    rw [q, l3]
    show some (V.int (3 - (vs.length : Int)), _) = _
    rw [hv, show (3 : Int) - ((j + 4 : Nat) : Int) = Int.negSucc j by omega]
  have q : (ev GB 146).e (binR E0) rhoT (H0T x1 vs its ++ [x]) = match (ev GB 145).e (binL (binR E0)) rhoT (H0T x1 vs its ++ [x]) with
      | some (a, H) => match (ev GB 145).e (binR (binR E0)) rhoT H with
        | some (b, H) => binV .Mult (norm a) (norm b) H
        | .none => .none
      | .none => .none := by kernel_rfl
  rw [q, l1]
  simp only [l2]
  show (match fits j with | true => alloc _ (.list []) | false => .none) = _
  rw [fits_of (by omega)]
  rfl
theorem t0_4 (a b c d : Int) (r : List V) (h : r.length + 8 ≤ 8000) : T0 x1 (.int a :: .int b :: .int c :: .int d :: r) its [.int a, .int b, .int c, .int d] [] [.int a, .int b, .int c, .int d] := by
  have q : stepS (ev GB 147) GB (tst 0) rhoT (H0T x1 (.int a :: .int b :: .int c :: .int d :: r) its) =
    match (match (ev GB 146).e (binL E0) rhoT (H0T x1 (.int a :: .int b :: .int c :: .int d :: r) its) with
      | some (a, H) => match (ev GB 146).e (binR E0) rhoT H with
        | some (b, H) => binV .Add (norm a) (norm b) H
        | .none => .none
      | .none => .none) with
    | some (v, H) => match stName rhoT H "told" v with
      | some H => some (.next, H)
      | .none => .none
    | .none => .none := by kernel_rfl
  unfold T0
  rw [q, t0_a x1 its a b c d r (by omega)]
  simp only
  rw [t0_b x1 its (.int a :: .int b :: .int c :: .int d :: r) _ r.length (by simp only [List.length_cons]; omega) (by simp only [List.length_cons])]
  rfl
end
end Mine
end
section
open PySem
set_option maxRecDepth 100000
namespace Mine
theorem loopF_next [Ops] {t : Expr} {asg : V → Hp → Option Hp} {body : Hp → Option (Fl × Hp)} {k p : Nat} {H H1 H2 H3 : Hp} {v : V} (h1 : nextIt t p H = some (some v, H1)) (h2 : asg v H1 = some H2) (h3 : body H2 = some (.next, H3)) : loopF t asg body (k + 1) p H = loopF t asg body k p H3 := by
  conv => lhs; unfold loopF
  rw [h1]
  simp only [h2]
  rw [h3]
  rfl
theorem loopF_end [Ops] {t : Expr} {asg : V → Hp → Option Hp} {body : Hp → Option (Fl × Hp)} {k p : Nat} {H H1 : Hp} (h1 : nextIt t p H = some (.none, H1)) : loopF t asg body (k + 1) p H = some (.next, H1) := by
  conv => lhs; unfold loopF
  rw [h1]
noncomputable def csT : O := .tup [.int 0, .int 1, .int 0, .int 1]
noncomputable def RT (x8 : O) (i : Nat) (pr : List V) (g : List O) : List O := x8 :: csT :: .it (.seq true 9 i) :: .it (.seq false 6 i) :: .tup pr :: .it (.zip 10 11 12 .free) :: g
noncomputable def zT (o a : Int) : O := .tup [.int o, .int a]
section
variable (x0 x1 x3 x4 x5 x8 : O) (p q : Int)
theorem t1_eq (vs : List V) (its : Array Value) (a z b tl : List V) : stepS (ev GB 147) GB (tst 1) rhoT (H1T x1 vs its a z b tl) = some (.next, BT (.xl vs its) x1 (.list a) (.list z) (.list b) (.list tl) (esT (.lit []) []) 0 0 [.tup [.lit [], .ref 7]]) := by kernel_rfl
theorem for_eq (tl : List V) : stepS (ev GB 147) GB (tst 2) rhoT (BT x0 x1 x3 x4 x5 (.list tl) (esT (.lit []) []) p q [x8]) = loopF forT.1 (assignT (ev GB 147) rhoT forT.1) ((ev GB 147).s forT.2.2.1 rhoT) 2000 13 (BT x0 x1 x3 x4 x5 (.list tl) (esT (.lit []) []) p q (RT x8 0 [.none, .none] [])) := by kernel_rfl
/- the loop's state -/
noncomputable def LS (tl : List V) (tv : V) (r : List (Str × V)) (p q : Int) (i : Nat) (pr : List V) (g : List O) : List O := BT x0 x1 x3 x4 x5 (.list tl) (esT tv r) p q (RT x8 i pr g)
noncomputable abbrev lpT (k : Nat) (H : List O) : Option (Fl × List O) := loopF forT.1 (assignT (ev GB 147) rhoT forT.1) ((ev GB 147).s forT.2.2.1 rhoT) k 13 H
variable (tv : V) (a0 a1 a2 a3 o a s : Int) (tr : List V) (k : Nat) {t : List Nat}
theorem lp_0 : lpT (k + 1) (LS x0 x1 x3 x4 x5 x8 (.int a0 :: tr) (.lit []) [] 0 0 0 [.none, .none] []) =
    lpT k (LS x0 x1 x3 x4 x5 x8 (.int a0 :: tr) (.str (stepP (rest4 (0 + a0)) ([], 0, 0)).1) (rT' 0 a0 (Int.fmod (0 + a0) 2)) (stepP (rest4 (0 + a0)) ([], 0, 0)).2.1 (stepP (rest4 (0 + a0)) ([], 0, 0)).2.2 1 [.int 0, .int a0] [zT 0 a0]) :=
  loopF_next (v := .ref 14) (H1 := LS x0 x1 x3 x4 x5 x8 (.int a0 :: tr) (.lit []) [] 0 0 1 [.int 0, .int a0] [zT 0 a0]) (H2 := LS x0 x1 x3 x4 x5 x8 (.int a0 :: tr) (.lit []) (rT 0 a0) 0 0 1 [.int 0, .int a0] [zT 0 a0]) (by kernel_rfl) (by kernel_rfl) (body_0 (t := []) rfl (by decide))
theorem lp_1 (w : List Nat × Int × Int) (h : w.1.length + 2 ≤ 8000) : lpT (k + 1) (LS x0 x1 x3 x4 x5 x8 (.int a0 :: .int a1 :: tr) (.str w.1) (rT' 0 a0 s) w.2.1 w.2.2 1 [.int 0, .int a0] [zT 0 a0]) =
    lpT k (LS x0 x1 x3 x4 x5 x8 (.int a0 :: .int a1 :: tr) (.str (stepP (rest4 (1 + a1)) w).1) (rT' 1 a1 (Int.fmod (1 + a1) 2)) (stepP (rest4 (1 + a1)) w).2.1 (stepP (rest4 (1 + a1)) w).2.2 2 [.int 1, .int a1] [zT 0 a0, zT 1 a1]) :=
  loopF_next (v := .ref 15) (H1 := LS x0 x1 x3 x4 x5 x8 (.int a0 :: .int a1 :: tr) (.str w.1) (rT' 0 a0 s) w.2.1 w.2.2 2 [.int 1, .int a1] [zT 0 a0, zT 1 a1]) (H2 := LS x0 x1 x3 x4 x5 x8 (.int a0 :: .int a1 :: tr) (.str w.1) (rT' 1 a1 s) w.2.1 w.2.2 2 [.int 1, .int a1] [zT 0 a0, zT 1 a1]) (by kernel_rfl) (by kernel_rfl) (body_1 rfl h)
theorem lp_2 (w : List Nat × Int × Int) (h : w.1.length + 2 ≤ 8000) : lpT (k + 1) (LS x0 x1 x3 x4 x5 x8 (.int a0 :: .int a1 :: .int a2 :: tr) (.str w.1) (rT' 1 a1 s) w.2.1 w.2.2 2 [.int 1, .int a1] [zT 0 a0, zT 1 a1]) =
    lpT k (LS x0 x1 x3 x4 x5 x8 (.int a0 :: .int a1 :: .int a2 :: tr) (.str (stepP (rest4 (0 + a2)) w).1) (rT' 0 a2 (Int.fmod (0 + a2) 2)) (stepP (rest4 (0 + a2)) w).2.1 (stepP (rest4 (0 + a2)) w).2.2 3 [.int 0, .int a2] [zT 0 a0, zT 1 a1, zT 0 a2]) :=
  loopF_next (v := .ref 16) (H1 := LS x0 x1 x3 x4 x5 x8 (.int a0 :: .int a1 :: .int a2 :: tr) (.str w.1) (rT' 1 a1 s) w.2.1 w.2.2 3 [.int 0, .int a2] [zT 0 a0, zT 1 a1, zT 0 a2]) (H2 := LS x0 x1 x3 x4 x5 x8 (.int a0 :: .int a1 :: .int a2 :: tr) (.str w.1) (rT' 0 a2 s) w.2.1 w.2.2 3 [.int 0, .int a2] [zT 0 a0, zT 1 a1, zT 0 a2]) (by kernel_rfl) (by kernel_rfl) (body_1 rfl h)
theorem lp_3 (w : List Nat × Int × Int) (h : w.1.length + 2 ≤ 8000) : lpT (k + 1) (LS x0 x1 x3 x4 x5 x8 [.int a0, .int a1, .int a2, .int a3] (.str w.1) (rT' 0 a2 s) w.2.1 w.2.2 3 [.int 0, .int a2] [zT 0 a0, zT 1 a1, zT 0 a2]) =
    lpT k (LS x0 x1 x3 x4 x5 x8 [.int a0, .int a1, .int a2, .int a3] (.str (stepP (rest4 (1 + a3)) w).1) (rT' 1 a3 (Int.fmod (1 + a3) 2)) (stepP (rest4 (1 + a3)) w).2.1 (stepP (rest4 (1 + a3)) w).2.2 4 [.int 1, .int a3] [zT 0 a0, zT 1 a1, zT 0 a2, zT 1 a3]) :=
  loopF_next (v := .ref 17) (H1 := LS x0 x1 x3 x4 x5 x8 [.int a0, .int a1, .int a2, .int a3] (.str w.1) (rT' 0 a2 s) w.2.1 w.2.2 4 [.int 1, .int a3] [zT 0 a0, zT 1 a1, zT 0 a2, zT 1 a3]) (H2 := LS x0 x1 x3 x4 x5 x8 [.int a0, .int a1, .int a2, .int a3] (.str w.1) (rT' 1 a3 s) w.2.1 w.2.2 4 [.int 1, .int a3] [zT 0 a0, zT 1 a1, zT 0 a2, zT 1 a3]) (by kernel_rfl) (by kernel_rfl) (body_1 rfl h)
/- at the end: a part of it, as it is -/
noncomputable def ES (tl : List V) (tv : V) (r : List (Str × V)) (p q : Int) (G : List O) : List O := BT x0 x1 x3 x4 x5 (.list tl) (esT tv r) p q G
theorem end_3 (r : List (Str × V)) (z0 z1 z2 : O) (pr : List V) : ∃ G, lpT (k + 1) (LS x0 x1 x3 x4 x5 x8 [.int a0, .int a1, .int a2] tv r p q 3 [.int o, .int a] [z0, z1, z2]) = some (.next, ES x0 x1 x3 x4 x5 [.int a0, .int a1, .int a2] tv r p q G) ∧ G.length = 9 :=
  ⟨x8 :: csT :: .it (.seq true 9 4) :: .gone :: .tup [.int 1, .int a] :: .gone :: [z0, z1, z2], loopF_end (by kernel_rfl), rfl⟩
theorem end_4 (r : List (Str × V)) (z0 z1 z2 z3 : O) (pr : List V) : ∃ G, lpT (k + 1) (LS x0 x1 x3 x4 x5 x8 [.int a0, .int a1, .int a2, .int a3] tv r p q 4 [.int o, .int a] [z0, z1, z2, z3]) = some (.next, ES x0 x1 x3 x4 x5 [.int a0, .int a1, .int a2, .int a3] tv r p q G) ∧ G.length = 10 :=
  ⟨x8 :: csT :: .gone :: .it (.seq false 6 4) :: .tup [.int o, .int a] :: .gone :: [z0, z1, z2, z3], loopF_end (by kernel_rfl), rfl⟩
end
theorem bin_ev [Ops] {ih : Ih} {G : Env0} {ρ : Rho} {H H1 H2 H3 : Hp} {l r : Expr} {op : Operator} {a b v : V} (h1 : ih.e l ρ H = some (a, H1)) (h2 : ih.e r ρ H1 = some (b, H2)) (h3 : binV op (norm a) (norm b) H2 = some (v, H3)) : stepE_BinOp ih G ρ H l op r = some (v, H3) := by
  unfold stepE_BinOp
  rw [h1]
  simp only [h2]
  exact h3
theorem ret_ev [Ops] {ih : Ih} {G : Env0} {ρ : Rho} {H H1 : Hp} {e : Expr} {v : V} (h : ih.e e ρ H = some (v, H1)) : stepS_Ret ih G ρ H e = some (.ret v, H1) := by
  unfold stepS_Ret
  rw [h]
theorem mulS [Ops] {u : List Nat} {m : Nat} {H : Hp} (h : m ≤ 8000) (h2 : u.length * m ≤ 8000) : binV .Mult (.str u) (.int (m : Nat)) H = some (.str (rep u m), H) := by
  have e : binP .Mult (.str u) (.int (m : Nat)) = some (.str (rep u m)) := by
    show (match (match fits m with | true => some m | false => .none) with | some n => (match fits (u.length * n) with | true => some (V.str (rep u n)) | false => none) | .none => none) = _
    rw [fits_of h]
    show (match fits (u.length * m) with | true => some (V.str (rep u m)) | false => none) = _
    rw [fits_of h2]
  show (match binP .Mult (.str u) (.int (m : Nat)) with | some v => some (v, H) | .none => none) = _
  rw [e]
theorem addS [Ops] {t u : List Nat} {H : Hp} (h : t.length + u.length ≤ 8000) : binV .Add (.str t) (.str u) H = some (.str (t ++ u), H) := by
  have e : binP .Add (.str t) (.str u) = some (.str (t ++ u)) := by
    show (match fits (t.length + u.length) with | true => some (V.str (t ++ u)) | false => none) = _
    rw [fits_of h]
  show (match binP .Add (.str t) (.str u) with | some v => some (v, H) | .none => none) = _
  rw [e]
theorem repT_len {α : Type} (u : List α) : ∀ m, (rep u m).length = u.length * m
  | 0 => by rw [Nat.mul_zero]; rfl
  | m + 1 => by
    show (u ++ rep u m).length = _
    rw [List.length_append, repT_len u m, Nat.mul_succ, Nat.add_comm]
noncomputable def retE : Stmt → Expr × Pos
  | .Return (some e) p => (e, p)
  | _ => (default, default)
noncomputable def posOf : Expr → Pos
  | .BinOp _ _ _ p => p
  | _ => default
noncomputable def R0 : Expr := (retE (tst 3)).1
noncomputable def RL : Expr := binL R0
theorem r_eq : tst 3 = .Return (some (.BinOp (.BinOp (binL RL) .Add (.BinOp (binL (binR RL)) .Mult (binR (binR RL)) (posOf (binR RL))) (posOf RL)) .Add (.BinOp (binL (binR R0)) .Mult (binR (binR R0)) (posOf (binR R0))) (posOf R0))) (retE (tst 3)).2 := by kernel_rfl
section
variable (x0 x1 x3 x4 x5 x6 : O) (p q : Int) (t : List Nat) (r : List (Str × V)) (G : List O)
theorem r_t : (ev GB 145).e (binL RL) rhoT (BT x0 x1 x3 x4 x5 x6 (esT (.str t) r) p q G) = some (.str t, BT x0 x1 x3 x4 x5 x6 (esT (.str t) r) p q G) := by kernel_rfl
theorem r_a : (ev GB 144).e (binL (binR RL)) rhoT (BT x0 x1 x3 x4 x5 x6 (esT (.str t) r) p q G) = some (.lit [41], BT x0 x1 x3 x4 x5 x6 (esT (.str t) r) p q G) := by kernel_rfl
theorem r_p : (ev GB 144).e (binR (binR RL)) rhoT (BT x0 x1 x3 x4 x5 x6 (esT (.str t) r) p q G) = some (.int p, BT x0 x1 x3 x4 x5 x6 (esT (.str t) r) p q G) := by kernel_rfl
theorem r_b : (ev GB 145).e (binL (binR R0)) rhoT (BT x0 x1 x3 x4 x5 x6 (esT (.str t) r) p q G) = some (.lit [92, 41], BT x0 x1 x3 x4 x5 x6 (esT (.str t) r) p q G) := by kernel_rfl
theorem r_q : (ev GB 145).e (binR (binR R0)) rhoT (BT x0 x1 x3 x4 x5 x6 (esT (.str t) r) p q G) = some (.int q, BT x0 x1 x3 x4 x5 x6 (esT (.str t) r) p q G) := by kernel_rfl
theorem ret_eq (m k : Nat) (hm : m ≤ 1000) (hk : k ≤ 1000) (ht : t.length ≤ 1000) : stepS (ev GB 147) GB (tst 3) rhoT (BT x0 x1 x3 x4 x5 x6 (esT (.str t) r) m k G) = some (.ret (.str (t ++ rep [41] m ++ rep [92, 41] k)), BT x0 x1 x3 x4 x5 x6 (esT (.str t) r) m k G) := by
  have l1 := repT_len [41] m
  have l2 := repT_len [92, 41] k
  simp only [List.length_cons, List.length_nil] at l1 l2
  rw [r_eq]
  refine ret_ev (G := GB) (bin_ev (ih := ev GB 146) (G := GB) (bin_ev (ih := ev GB 145) (G := GB) (r_t ..) (bin_ev (ih := ev GB 144) (G := GB) (r_a ..) (r_p ..) (mulS (u := [41]) (by omega) (by simp only [List.length_cons, List.length_nil]; omega))) (addS (by omega))) (bin_ev (ih := ev GB 145) (G := GB) (r_b ..) (r_q ..) (mulS (u := [92, 41]) (by omega) (by simp only [List.length_cons, List.length_nil]; omega))) (addS (by rw [List.length_append]; omega)))
end
end Mine
end
section
open PySem
set_option maxRecDepth 100000
namespace Mine
noncomputable def textsD : List (List Nat) := [[40, 92, 40, 40, 41, 41, 92, 41], [40, 92, 40, 92, 40, 41, 92, 41, 92, 41], [40, 92, 40, 41, 92, 41], [40, 92, 40, 92, 41, 41], [40, 41, 40, 41], [40, 41, 92, 40, 92, 41], [40, 40, 40, 41, 41, 41], [40, 40, 92, 40, 41, 41, 92, 41], [40, 40, 41, 41], [92, 40, 92, 40, 40, 41, 92, 41, 92, 41], [92, 40, 92, 40, 92, 40, 92, 41, 92, 41, 92, 41], [92, 40, 92, 40, 92, 41, 92, 41], [92, 40, 40, 40, 41, 41, 92, 41], [92, 40, 40, 92, 40, 41, 92, 41, 92, 41], [92, 40, 40, 41, 92, 41], [92, 40, 40, 92, 41, 41], [92, 40, 92, 41, 40, 41], [92, 40, 92, 41, 92, 40, 92, 41], [40, 92, 40, 40, 92, 40, 41, 41, 92, 41, 92, 41], [40, 92, 40, 40, 92, 41, 41, 41], [40, 92, 40, 40, 40, 41, 41, 41, 92, 41], [40, 92, 40, 92, 40, 92, 40, 41, 92, 41, 92, 41, 92, 41], [40, 92, 40, 92, 40, 92, 41, 41, 92, 41], [40, 92, 40, 92, 40, 40, 41, 41, 92, 41, 92, 41], [40, 92, 40, 41, 92, 40, 92, 41, 92, 41], [40, 92, 40, 41, 40, 41, 92, 41], [40, 92, 40, 92, 41, 92, 40, 41, 92, 41], [40, 92, 40, 92, 41, 40, 41, 41], [40, 41, 40, 92, 40, 41, 92, 41], [40, 41, 40, 40, 41, 41], [40, 41, 92, 40, 92, 40, 92, 41, 92, 41], [40, 41, 92, 40, 40, 41, 92, 41], [40, 40, 40, 92, 40, 41, 41, 41, 92, 41], [40, 40, 40, 40, 41, 41, 41, 41], [40, 40, 92, 40, 92, 40, 41, 41, 92, 41, 92, 41], [40, 40, 92, 40, 92, 41, 41, 41], [40, 40, 92, 40, 40, 41, 41, 41, 92, 41], [40, 40, 41, 92, 40, 41, 92, 41], [40, 40, 41, 40, 41, 41], [92, 40, 92, 40, 40, 92, 40, 41, 92, 41, 92, 41, 92, 41], [92, 40, 92, 40, 40, 92, 41, 41, 92, 41], [92, 40, 92, 40, 40, 40, 41, 41, 92, 41, 92, 41], [92, 40, 92, 40, 92, 40, 92, 40, 92, 41, 92, 41, 92, 41, 92, 41], [92, 40, 92, 40, 92, 40, 40, 41, 92, 41, 92, 41, 92, 41], [92, 40, 92, 40, 92, 41, 92, 40, 92, 41, 92, 41], [92, 40, 92, 40, 92, 41, 40, 41, 92, 41], [92, 40, 40, 40, 92, 40, 41, 41, 92, 41, 92, 41], [92, 40, 40, 40, 92, 41, 41, 41], [92, 40, 40, 40, 40, 41, 41, 41, 92, 41], [92, 40, 40, 92, 40, 92, 40, 41, 92, 41, 92, 41, 92, 41], [92, 40, 40, 92, 40, 92, 41, 41, 92, 41], [92, 40, 40, 92, 40, 40, 41, 41, 92, 41, 92, 41], [92, 40, 40, 41, 92, 40, 92, 41, 92, 41], [92, 40, 40, 41, 40, 41, 92, 41], [92, 40, 40, 92, 41, 92, 40, 41, 92, 41], [92, 40, 40, 92, 41, 40, 41, 41], [92, 40, 92, 41, 40, 92, 40, 41, 92, 41], [92, 40, 92, 41, 40, 40, 41, 41], [92, 40, 92, 41, 92, 40, 92, 40, 92, 41, 92, 41], [92, 40, 92, 41, 92, 40, 40, 41, 92, 41]]
noncomputable def memL (x : List Nat) : List (List Nat) → Bool
  | [] => false
  | y :: r => match nbeq y x with
    | true => true
    | false => memL x r
noncomputable def finT (s : List Nat × Int × Int) (m n : Nat) : List Nat := s.1 ++ rep [41] m ++ rep [92, 41] n
noncomputable def finOk (s : List Nat × Int × Int) : Bool := match s.2.1, s.2.2 with
  | .ofNat m, .ofNat n => Nat.ble m 10 && (Nat.ble n 10 && (Nat.ble s.1.length 100 && memL (finT s m n) textsD))
  | _, _ => false
noncomputable def q3 (a b c : Nat) : List Nat × Int × Int := stepP c (stepP b (stepP a ([], 0, 0)))
noncomputable def all4 (f : Nat → Bool) : Bool := f 0 && (f 1 && (f 2 && f 3))
theorem all4_of {f : Nat → Bool} (h : all4 f = true) {n : Nat} (hn : n < 4) : f n = true := by
  unfold all4 at h
  simp only [Bool.and_eq_true] at h
  match n, hn with
  | 0, _ => exact h.1
  | 1, _ => exact h.2.1
  | 2, _ => exact h.2.2.1
  | 3, _ => exact h.2.2.2
theorem fin3 : (all4 fun a => all4 fun b => all4 fun c => finOk (q3 a b c)) = true := by decide +kernel
theorem fin4 : (all4 fun a => all4 fun b => all4 fun c => all4 fun d => finOk (stepP d (q3 a b c))) = true := by decide +kernel
theorem stepP_len (r : Nat) (s : List Nat × Int × Int) : (stepP r s).1.length ≤ s.1.length + 2 := by
  unfold stepP
  match r with
  | 0 => simp
  | 1 => simp
  | 2 => cases ilt 0 s.2.1 <;> simp
  | n + 3 => cases ilt 0 s.2.2 <;> simp
theorem memL_of {x : List Nat} : ∀ {l : List (List Nat)}, memL x l = true → x ∈ l
  | [], h => nomatch h
  | y :: r, h => by
    have h : (match nbeq y x with | true => true | false => memL x r) = true := h
    cases e : nbeq y x with
    | true => rw [nbeq_iff.mp e]; exact List.mem_cons_self
    | false => rw [e] at h; exact List.mem_cons_of_mem _ (memL_of h)
theorem finOk_of {s : List Nat × Int × Int} (h : finOk s = true) : ∃ m n : Nat, s.2.1 = m ∧ s.2.2 = n ∧ m ≤ 1000 ∧ n ≤ 1000 ∧ s.1.length ≤ 1000 ∧ finT s m n ∈ textsD := by
  unfold finOk at h
  split at h
  · rename_i m n h1 h2
    simp only [Bool.and_eq_true] at h
    obtain ⟨a, b, c, d⟩ := h
    have a := Nat.le_of_ble_eq_true a
    have b := Nat.le_of_ble_eq_true b
    have c := Nat.le_of_ble_eq_true c
    exact ⟨m, n, h1, h2, by omega, by omega, by omega, memL_of d⟩
  · cases h
theorem body_T : TextF.body = [tst 0, tst 1, tst 2, tst 3] := by kernel_rfl
/- what the text's maker gives back -/
noncomputable def TextR (vs : List V) (its : Array Value) (x1 : O) : Prop := ∃ w ∈ textsD, ∃ L : List O, (L.length = 15 ∨ L.length = 16) ∧ stepSs (ev GB 147) GB rhoT TextF.body (H0T x1 vs its) = some (.ret (.str w), .xl vs its :: x1 :: L)
theorem textR_of {vs : List V} {its : Array Value} {x1 : O} {a b tl : List V} {st : List Nat × Int × Int} {r : List (Str × V)} {G : List O} (h0 : T0 x1 vs its a b tl) (hl : lpT 2000 (BT (.xl vs its) x1 (.list a) (.list [.int 0]) (.list b) (.list tl) (esT (.lit []) []) 0 0 (RT (.tup [.lit [], .ref 7]) 0 [.none, .none] [])) = some (.next, ES (.xl vs its) x1 (.list a) (.list [.int 0]) (.list b) tl (.str st.1) r st.2.1 st.2.2 G))
    (hf : finOk st = true) (hG : G.length = 9 ∨ G.length = 10) : TextR vs its x1 := by
  obtain ⟨m, n, e1, e2, hm, hn, ht, hw⟩ := finOk_of hf
  refine ⟨_, hw, .ns (esT (.str st.1) r) :: .list a :: .list [.int 0] :: .list b :: .list tl :: .list [.int (m : Nat), .int (n : Nat)] :: G, ?_, ?_⟩
  · simp only [List.length_cons]; omega
  · rw [body_T, ss_go h0, ss_go (t1_eq ..), ss_go ((for_eq ..).trans hl), ss_last, e1, e2]
    exact ret_eq _ _ _ _ _ _ st.1 r G m n hm hn ht
section
variable (x1 : O) (its : Array Value)
theorem text_3 {vs a b : List V} {a0 a1 a2 : Int} (h0 : T0 x1 vs its a b [.int a0, .int a1, .int a2]) : TextR vs its x1 := by
  have k1 : (stepP (rest4 (0 + a0)) ([], 0, 0)).1.length ≤ 2 := stepP_len _ _
  have k2 := stepP_len (rest4 (1 + a1)) (stepP (rest4 (0 + a0)) ([], 0, 0))
  obtain ⟨G, e, hG⟩ := end_3 (.xl vs its) x1 (.list a) (.list [.int 0]) (.list b) (.tup [.lit [], .ref 7]) (q3 (rest4 (0 + a0)) (rest4 (1 + a1)) (rest4 (0 + a2))).2.1 (q3 (rest4 (0 + a0)) (rest4 (1 + a1)) (rest4 (0 + a2))).2.2 (.str (q3 (rest4 (0 + a0)) (rest4 (1 + a1)) (rest4 (0 + a2))).1) a0 a1 a2 0 a2 1996 (rT' 0 a2 (Int.fmod (0 + a2) 2)) (zT 0 a0) (zT 1 a1) (zT 0 a2) []
  exact textR_of h0 ((lp_0 ..).trans ((lp_1 _ _ _ _ _ _ _ _ _ _ _ _ (by omega)).trans ((lp_2 _ _ _ _ _ _ _ _ _ _ _ _ _ (by omega)).trans e))) (all4_of (all4_of (all4_of fin3 (rest4_lt _)) (rest4_lt _)) (rest4_lt _)) (.inl hG)
theorem text_4 {vs a b : List V} {a0 a1 a2 a3 : Int} (h0 : T0 x1 vs its a b [.int a0, .int a1, .int a2, .int a3]) : TextR vs its x1 := by
  have k1 : (stepP (rest4 (0 + a0)) ([], 0, 0)).1.length ≤ 2 := stepP_len _ _
  have k2 := stepP_len (rest4 (1 + a1)) (stepP (rest4 (0 + a0)) ([], 0, 0))
  have k3 := stepP_len (rest4 (0 + a2)) (stepP (rest4 (1 + a1)) (stepP (rest4 (0 + a0)) ([], 0, 0)))
  obtain ⟨G, e, hG⟩ := end_4 (.xl vs its) x1 (.list a) (.list [.int 0]) (.list b) (.tup [.lit [], .ref 7]) (stepP (rest4 (1 + a3)) (q3 (rest4 (0 + a0)) (rest4 (1 + a1)) (rest4 (0 + a2)))).2.1 (stepP (rest4 (1 + a3)) (q3 (rest4 (0 + a0)) (rest4 (1 + a1)) (rest4 (0 + a2)))).2.2 (.str (stepP (rest4 (1 + a3)) (q3 (rest4 (0 + a0)) (rest4 (1 + a1)) (rest4 (0 + a2)))).1) a0 a1 a2 a3 1 a3 1995 (rT' 1 a3 (Int.fmod (1 + a3) 2)) (zT 0 a0) (zT 1 a1) (zT 0 a2) (zT 1 a3) []
  exact textR_of h0 ((lp_0 ..).trans ((lp_1 _ _ _ _ _ _ _ _ _ _ _ _ (by omega)).trans ((lp_2 _ _ _ _ _ _ _ _ _ _ _ _ _ (by omega)).trans ((lp_3 _ _ _ _ _ _ _ _ _ _ _ _ _ (by omega)).trans e)))) (all4_of (all4_of (all4_of (all4_of fin4 (rest4_lt _)) (rest4_lt _)) (rest4_lt _)) (rest4_lt _)) (.inr hG)
/- for any ints -/
theorem textR : ∀ (ns : List Int), ns.length ≤ 63 → TextR (ns.map V.int) its x1
  | [], _ => text_3 x1 its (t0_0 x1 its)
  | [a], _ => text_3 x1 its (t0_1 x1 its a)
  | [a, b], _ => text_3 x1 its (t0_2 x1 its a b)
  | [a, b, c], _ => text_3 x1 its (t0_3 x1 its a b c)
  | a :: b :: c :: d :: r, h => text_4 x1 its (t0_4 x1 its a b c d (r.map V.int) (by simp only [List.length_cons] at h; rw [List.length_map]; omega))
end
end Mine
end
section
open PySem
set_option maxRecDepth 100000
namespace Mine
noncomputable def rhoL : Rho := ⟨LawF.scope, 1, [], .none⟩
noncomputable def lst (i : Nat) : Stmt := LawF.body.getD i default
noncomputable def asgP : Stmt → Str × Pos × Expr × Pos
  | .Assign [.Name x p] e q => (x, p, e, q)
  | _ => ("", default, default, default)
noncomputable def lcP : Expr → Expr × List Comprehension × Scope × Pos
  | .ListComp e g s p => (e, g, s, p)
  | _ => (default, [], default, default)
noncomputable def A1L := asgP (lst 0)
noncomputable def LC := lcP A1L.2.2.1
noncomputable def gL : Comprehension := LC.2.1.getD 0 ⟨default, default, [], 0⟩
noncomputable def callP : Expr → Pos × Expr × Pos
  | .Call (.Name _ p) (a :: _) _ q => (p, a, q)
  | _ => (default, default, default)
noncomputable def callT : Expr := (callP gL.iter).2.1
theorem st0 : lst 0 = .Assign [.Name "units" A1L.2.1] (.ListComp LC.1 [gL] LC.2.2.1 LC.2.2.2) A1L.2.2.2 := by kernel_rfl
theorem it0 : gL.iter = .Call (.Name "_iter_escaped_chars" (callP gL.iter).1) [callT] [] (callP gL.iter).2.2 := by kernel_rfl
noncomputable def x1L : O := .ns [("script", .ref 0)]
theorem call_eq (vs : List V) (its : Array Value) : (ev GB 149).e callT rhoL [.xl vs its, x1L] = result ((ev GB 148).s TextF.body rhoT (H0T x1L vs its)) := by kernel_rfl
noncomputable def cP : Expr → Expr × List Expr × List Keyword × Pos
  | .Call f a k q => (f, a, k, q)
  | _ => (default, [], [], default)
theorem callT_eq : callT = .Call (cP callT).1 (cP callT).2.1 (cP callT).2.2.1 (cP callT).2.2.2 := by kernel_rfl
theorem evs_call [Ops] {ih : Ih} {ρ : Rho} {f : Expr} {as : List Expr} {ks : List Keyword} {q : Pos} {H H1 : Hp} {v : V} (h : ih.e (.Call f as ks q) ρ H = some (v, H1)) : evs ih ρ [.Call f as ks q] H = some ([v], H1) := by
  unfold evs; rw [h]; rfl
theorem evs_T {ih : Ih} {ρ : Rho} {H H1 : List O} {v : V} (h : ih.e callT ρ H = some (v, H1)) : evs ih ρ [callT] H = some ([v], H1) := by
  rw [callT_eq] at h ⊢
  exact evs_call h
theorem gv_of {vs : List V} {its : Array Value} {w : List Nat} {H1 : List O} (h : stepSs (ev GB 147) GB rhoT TextF.body (H0T x1L vs its) = some (.ret (.str w), H1)) : GvR (ev GB 149) GB rhoL [.xl vs its, x1L] gL.iter (itemsG 0 false w) H1 :=
  ⟨by kernel_rfl, "_iter_escaped_chars", _, [callT], _, .str w, w, it0, by kernel_rfl, by kernel_rfl, evs_T ((call_eq vs its).trans (by rw [show (ev GB 148).s TextF.body rhoT (H0T x1L vs its) = some (.ret (.str w), H1) from h]; rfl)), rfl, rfl⟩
noncomputable abbrev asgU (U : List (Nat × List Nat)) (H : List O) : Option (List O) := asgGen (ev GB 149) rhoL "units" A1L.2.1 LC.2.2.2 LC.1 gL LC.2.2.1 U H
/- what the first statement leaves -/
noncomputable def UnitsR (U : List (Nat × List Nat)) (H1 : List O) : Prop := ∃ H2 : List O, ∃ n, asgU U H1 = some H2 ∧ 2 ≤ n ∧ H2[0]? = H1[0]? ∧ H2[1]? = some (.ns [("script", .ref 0), ("units", .ref n)]) ∧ H2[n]? = some (.list (U.map fun u => .str u.2))
section
variable (x0 x2 x3 x4 x5 x6 x7 x8 x9 x10 x11 x12 x13 x14 x15 x16 x17 : O) (p1 p2 p3 p4 p5 p6 p7 p8 : Nat) (u1 u2 u3 u4 u5 u6 u7 u8 : List Nat)
noncomputable def tpU (p : Nat) (u : List Nat) : O := .tup [.int p, .str u]
theorem un_17_4 : UnitsR [(p1, u1), (p2, u2), (p3, u3), (p4, u4)] [x0, x1L, x2, x3, x4, x5, x6, x7, x8, x9, x10, x11, x12, x13, x14, x15, x16] :=
  ⟨[x0, .ns [("script", .ref 0), ("units", .ref 17)], x2, x3, x4, x5, x6, x7, x8, x9, x10, x11, x12, x13, x14, x15, x16, .list [.str u1, .str u2, .str u3, .str u4], .gone, tpU p1 u1, tpU p2 u2, tpU p3 u3, tpU p4 u4], 17, by kernel_rfl, by decide, rfl, rfl, rfl⟩
theorem un_17_6 : UnitsR [(p1, u1), (p2, u2), (p3, u3), (p4, u4), (p5, u5), (p6, u6)] [x0, x1L, x2, x3, x4, x5, x6, x7, x8, x9, x10, x11, x12, x13, x14, x15, x16] :=
  ⟨[x0, .ns [("script", .ref 0), ("units", .ref 17)], x2, x3, x4, x5, x6, x7, x8, x9, x10, x11, x12, x13, x14, x15, x16, .list [.str u1, .str u2, .str u3, .str u4, .str u5, .str u6], .gone, tpU p1 u1, tpU p2 u2, tpU p3 u3, tpU p4 u4, tpU p5 u5, tpU p6 u6], 17, by kernel_rfl, by decide, rfl, rfl, rfl⟩
theorem un_17_8 : UnitsR [(p1, u1), (p2, u2), (p3, u3), (p4, u4), (p5, u5), (p6, u6), (p7, u7), (p8, u8)] [x0, x1L, x2, x3, x4, x5, x6, x7, x8, x9, x10, x11, x12, x13, x14, x15, x16] :=
  ⟨[x0, .ns [("script", .ref 0), ("units", .ref 17)], x2, x3, x4, x5, x6, x7, x8, x9, x10, x11, x12, x13, x14, x15, x16, .list [.str u1, .str u2, .str u3, .str u4, .str u5, .str u6, .str u7, .str u8], .gone, tpU p1 u1, tpU p2 u2, tpU p3 u3, tpU p4 u4, tpU p5 u5, tpU p6 u6, tpU p7 u7, tpU p8 u8], 17, by kernel_rfl, by decide, rfl, rfl, rfl⟩
theorem un_18_4 : UnitsR [(p1, u1), (p2, u2), (p3, u3), (p4, u4)] [x0, x1L, x2, x3, x4, x5, x6, x7, x8, x9, x10, x11, x12, x13, x14, x15, x16, x17] :=
  ⟨[x0, .ns [("script", .ref 0), ("units", .ref 18)], x2, x3, x4, x5, x6, x7, x8, x9, x10, x11, x12, x13, x14, x15, x16, x17, .list [.str u1, .str u2, .str u3, .str u4], .gone, tpU p1 u1, tpU p2 u2, tpU p3 u3, tpU p4 u4], 18, by kernel_rfl, by decide, rfl, rfl, rfl⟩
theorem un_18_6 : UnitsR [(p1, u1), (p2, u2), (p3, u3), (p4, u4), (p5, u5), (p6, u6)] [x0, x1L, x2, x3, x4, x5, x6, x7, x8, x9, x10, x11, x12, x13, x14, x15, x16, x17] :=
  ⟨[x0, .ns [("script", .ref 0), ("units", .ref 18)], x2, x3, x4, x5, x6, x7, x8, x9, x10, x11, x12, x13, x14, x15, x16, x17, .list [.str u1, .str u2, .str u3, .str u4, .str u5, .str u6], .gone, tpU p1 u1, tpU p2 u2, tpU p3 u3, tpU p4 u4, tpU p5 u5, tpU p6 u6], 18, by kernel_rfl, by decide, rfl, rfl, rfl⟩
theorem un_18_8 : UnitsR [(p1, u1), (p2, u2), (p3, u3), (p4, u4), (p5, u5), (p6, u6), (p7, u7), (p8, u8)] [x0, x1L, x2, x3, x4, x5, x6, x7, x8, x9, x10, x11, x12, x13, x14, x15, x16, x17] :=
  ⟨[x0, .ns [("script", .ref 0), ("units", .ref 18)], x2, x3, x4, x5, x6, x7, x8, x9, x10, x11, x12, x13, x14, x15, x16, x17, .list [.str u1, .str u2, .str u3, .str u4, .str u5, .str u6, .str u7, .str u8], .gone, tpU p1 u1, tpU p2 u2, tpU p3 u3, tpU p4 u4, tpU p5 u5, tpU p6 u6, tpU p7 u7, tpU p8 u8], 18, by kernel_rfl, by decide, rfl, rfl, rfl⟩
end
end Mine
end
section
open PySem
set_option maxRecDepth 100000
namespace Mine
theorem all_cons {α : Type} {P : List α → Prop} {n : Nat} (k : ∀ (a : α) (L : List α), L.length = n → P (a :: L)) : ∀ L : List α, L.length = n + 1 → P L
  | a :: L, h => k a L (Nat.succ.inj h)
  | [], h => nomatch h
theorem all_nil {α : Type} {P : List α → Prop} (k : P []) : ∀ L : List α, L.length = 0 → P L
  | [], _ => k
  | _ :: _, h => nomatch h
noncomputable def lenOk (w : List Nat) : Bool := match (itemsG 0 false w).length with
  | 4 => true
  | 6 => true
  | 8 => true
  | _ => false
theorem lens : textsD.all lenOk = true := by decide +kernel
theorem lenOk_of {w : List Nat} (h : lenOk w = true) : (itemsG 0 false w).length = 4 ∨ (itemsG 0 false w).length = 6 ∨ (itemsG 0 false w).length = 8 := by
  unfold lenOk at h
  split at h
  · rename_i e; exact .inl e
  · rename_i e; exact .inr (.inl e)
  · rename_i e; exact .inr (.inr e)
  · cases h
noncomputable abbrev UR (U : List (Nat × List Nat)) (h : Nat) : Prop := ∀ (x0 : O) (L : List O), L.length = h → UnitsR U (x0 :: x1L :: L)
theorem ur_15 {U : List (Nat × List Nat)} (h : ∀ x0 x2 x3 x4 x5 x6 x7 x8 x9 x10 x11 x12 x13 x14 x15 x16 : O, UnitsR U [x0, x1L, x2, x3, x4, x5, x6, x7, x8, x9, x10, x11, x12, x13, x14, x15, x16]) : UR U 15 := fun x0 => all_cons fun x2 => all_cons fun x3 => all_cons fun x4 => all_cons fun x5 => all_cons fun x6 => all_cons fun x7 => all_cons fun x8 => all_cons fun x9 => all_cons fun x10 => all_cons fun x11 => all_cons fun x12 => all_cons fun x13 => all_cons fun x14 => all_cons fun x15 => all_cons fun x16 => all_nil (h x0 x2 x3 x4 x5 x6 x7 x8 x9 x10 x11 x12 x13 x14 x15 x16)
theorem ur_16 {U : List (Nat × List Nat)} (h : ∀ x0 x2 x3 x4 x5 x6 x7 x8 x9 x10 x11 x12 x13 x14 x15 x16 x17 : O, UnitsR U [x0, x1L, x2, x3, x4, x5, x6, x7, x8, x9, x10, x11, x12, x13, x14, x15, x16, x17]) : UR U 16 := fun x0 => all_cons fun x2 => all_cons fun x3 => all_cons fun x4 => all_cons fun x5 => all_cons fun x6 => all_cons fun x7 => all_cons fun x8 => all_cons fun x9 => all_cons fun x10 => all_cons fun x11 => all_cons fun x12 => all_cons fun x13 => all_cons fun x14 => all_cons fun x15 => all_cons fun x16 => all_cons fun x17 => all_nil (h x0 x2 x3 x4 x5 x6 x7 x8 x9 x10 x11 x12 x13 x14 x15 x16 x17)
noncomputable abbrev UB (U : List (Nat × List Nat)) : Prop := UR U 15 ∧ UR U 16
theorem ub_4 : ∀ U : List (Nat × List Nat), U.length = 4 → UB U :=
  all_cons fun a => all_cons fun b => all_cons fun c => all_cons fun d => all_nil ⟨ur_15 fun _ _ _ _ _ _ _ _ _ _ _ _ _ _ _ _ => un_17_4 .., ur_16 fun _ _ _ _ _ _ _ _ _ _ _ _ _ _ _ _ _ => un_18_4 ..⟩
theorem ub_6 : ∀ U : List (Nat × List Nat), U.length = 6 → UB U :=
  all_cons fun a => all_cons fun b => all_cons fun c => all_cons fun d => all_cons fun e => all_cons fun f => all_nil ⟨ur_15 fun _ _ _ _ _ _ _ _ _ _ _ _ _ _ _ _ => un_17_6 .., ur_16 fun _ _ _ _ _ _ _ _ _ _ _ _ _ _ _ _ _ => un_18_6 ..⟩
theorem ub_8 : ∀ U : List (Nat × List Nat), U.length = 8 → UB U :=
  all_cons fun a => all_cons fun b => all_cons fun c => all_cons fun d => all_cons fun e => all_cons fun f => all_cons fun g => all_cons fun h => all_nil ⟨ur_15 fun _ _ _ _ _ _ _ _ _ _ _ _ _ _ _ _ => un_17_8 .., ur_16 fun _ _ _ _ _ _ _ _ _ _ _ _ _ _ _ _ _ => un_18_8 ..⟩
theorem ur_of {U : List (Nat × List Nat)} (h : U.length = 4 ∨ U.length = 6 ∨ U.length = 8) : UB U := by
  rcases h with h | h | h
  · exact ub_4 U h
  · exact ub_6 U h
  · exact ub_8 U h
/- the first statement, for any ints -/
theorem first (ns : List Int) (its : Array Value) (h : ns.length ≤ 63) : ∃ w ∈ textsD, ∃ L : List O, GvR (ev GB 149) GB rhoL [.xl (ns.map V.int) its, x1L] gL.iter (itemsG 0 false w) (.xl (ns.map V.int) its :: x1L :: L) ∧ UnitsR (itemsG 0 false w) (.xl (ns.map V.int) its :: x1L :: L) := by
  obtain ⟨w, hw, L, hL, e⟩ := textR x1L its ns h
  obtain ⟨u1, u2⟩ := ur_of (lenOk_of (List.all_eq_true.mp lens w hw))
  refine ⟨w, hw, L, gv_of e, ?_⟩
  rcases hL with hL | hL
  · exact u1 _ L hL
  · exact u2 _ L hL
end Mine
end
section
open PySem
set_option maxRecDepth 100000
namespace Mine
theorem dm_all : dms.map (fun p => runDF GA 80 "int_divmod" [.int p.1, .int p.2]) = dms.map fun p => some (dmD p) := by kernel_rfl
theorem hue_all : hues.map (fun p => runDF GA 80 "hsv_to_rgb" [.flt p.1, .flt f1, .flt f1]) = hues.map fun p => some p.2 := by kernel_rfl
theorem rgb_all : rgbs.map (fun p => runDF GA 80 "rgb_to_hsv" [.flt p.1.1, .flt p.1.2.1, .flt p.1.2.2]) = rgbs.map fun p => some p.2 := by kernel_rfl
end Mine
end
section
open PySem PySem.W PyProof.Rows
set_option maxRecDepth 100000
namespace Mine
noncomputable abbrev prog2 : Program := PySem.Challenge.pw_re0105_02
noncomputable def view2 : Program := { PySem.Challenge.pw_re0105_02 with main := { PySem.Challenge.pw_re0105_02.main with body := [1, 2, 3, 4, 5, 6, 7, 9, 10, 12, 13, 14, 16, 17, 18, 19, 20, 21, 22, 23].filterMap fun i => PySem.Challenge.pw_re0105_02.main.body[i]? } }
noncomputable def tabs2 : List Addr := [30, 37]
noncomputable def codes2 : List Addr := [34, 41]
noncomputable def quals2 : List Str := ["_int2digits.<locals>.inner", "_digits2int.<locals>.inner"]
noncomputable def cx2 (w : World) (h : Heap) (mg mb : Str → Option Value) (lev : Nat) : Cx := ⟨prog2, w, h, tabs2, codes2, quals2, "inner", lev, false, mg, mb⟩
noncomputable abbrev env2 (con : Str → List V → Option D) (lev : Nat) : Env0 := envL con lev

noncomputable def vInt4 : Value → Bool
  | .int i t => ieq i 4000 && !Nat.beq t 0
  | _ => false
noncomputable def limOk (K : Frag) : Bool := ((nsIn K mainGlobals "_DIV_LIMIT").join.map vInt4).getD false
theorem limOk_of {K : Frag} (h : limOk K = true) : ∃ t, t ≠ 0 ∧ nsIn K mainGlobals "_DIV_LIMIT" = some (some (.int 4000 t)) := by
  have y : Yes (fun b => b = true → ∃ t, t ≠ 0 ∧ nsIn K mainGlobals "_DIV_LIMIT" = some (some (.int 4000 t))) ((nsIn K mainGlobals "_DIV_LIMIT").join.map vInt4) := Yes.of fun b e hb => by
    obtain ⟨v, e1, e2⟩ := Option.map_eq_some_iff.mp e
    rw [hb] at e2
    cases v with
    | int i t =>
      have ⟨q1, q2⟩ := and2 e2
      exact ⟨t, (fun q => by rw [q] at q2; cases q2), by rw [Option.join_eq_some_iff.mp e1, ieq_iff.mp q1]⟩
    | _ => cases e2
  unfold limOk at h
  cases e : (nsIn K mainGlobals "_DIV_LIMIT").join.map vInt4 with
  | none => rw [e] at h; cases h
  | some b => rw [e] at h; exact y.get e h
/- what the written heap must show -/
structure KOk (K : Frag) : Prop where
  lk : looks K tabs2 codes2 quals2 "inner" (defs prog2.main.body) = want (defs prog2.main.body)
  bi : biFree K biNames = true
  en : nsIn K mainGlobals "enumerate" = some none
  st : K.lookup cStatics = some { cls := .none, data := .dict #[] }
  tf : codes2.all (fun c => (K.lookup c).isSome) = true
  t0 : K.lookup 30 = some { cls := .none, data := .fields #[] }
  t1 : K.lookup 37 = some { cls := .none, data := .fields #[] }
  h0 : codeHdIn K 34 30 = true
  h1 : codeHdIn K 41 37 = true
  gl : limOk K = true

theorem lookup_mem {K : Frag} {a : Addr} {o : Obj} : ∀ {l : Frag}, l.lookup a = some o → (a, o) ∈ l
  | [], h => by cases h
  | (b, p) :: r, h => by
    rw [List.lookup_cons] at h
    cases hb : a == b with
    | true =>
      rw [hb] at h
      rw [beq_iff_eq.mp hb]
      cases h
      exact List.mem_cons_self
    | false =>
      rw [hb] at h
      exact List.mem_cons_of_mem _ (lookup_mem (K := K) h)
/- all that the heap holds -/
noncomputable def fragH (h : Heap) : Frag := (List.range h.objs.size).filterMap fun a => (h.get? a).map fun o => (a, o)
theorem fragH_in (h : Heap) : (fragH h).In h := fun a o e => by
  obtain ⟨b, _, q⟩ := List.mem_filterMap.mp (lookup_mem (K := []) e)
  obtain ⟨o', q1, q2⟩ := Option.map_eq_some_iff.mp q
  cases q2
  exact q1
noncomputable def bltOk (K : Frag) : Bool := (((nsIn K mainGlobals "__builtins__").join.bind vAddr).bind fun b => K.lookup b).isSome
theorem bltOk_of {K : Frag} (h : bltOk K = true) : ∃ b, nsIn K mainGlobals "__builtins__" = some (some (.ref b)) ∧ (K.lookup b).isSome = true := by
  obtain ⟨o, e⟩ := Option.isSome_iff_exists.mp h
  obtain ⟨b, e1, e2⟩ := Option.bind_eq_some_iff.mp e
  obtain ⟨v, e3, e4⟩ := Option.bind_eq_some_iff.mp e1
  exact ⟨b, by rw [Option.join_eq_some_iff.mp e3, (vAddr_yes v).get e4], Option.isSome_iff_exists.mpr ⟨o, e2⟩⟩
noncomputable def yf2 (s : Shared) : List (Option Looked) × Bool × Option (Option Value) × List (Option Obj) × Nat :=
  (looks (fragH s.heap) tabs2 codes2 quals2 "inner" (defs prog2.main.body),
   (biFree (fragH s.heap) biNames && codes2.all (fun c => ((fragH s.heap).lookup c).isSome) && codeHdIn (fragH s.heap) 34 30 && codeHdIn (fragH s.heap) 41 37 && limOk (fragH s.heap) && ((fragH s.heap).lookup builtinsNs).isSome && ((fragH s.heap).lookup mainGlobals).isSome && bltOk (fragH s.heap)),
   nsIn (fragH s.heap) mainGlobals "enumerate", [(fragH s.heap).lookup cStatics, (fragH s.heap).lookup 30, (fragH s.heap).lookup 37], s.toks)
noncomputable def ya2 (_ : World) : List (Option Looked) × Bool × Option (Option Value) × List (Option Obj) × Nat :=
  (want (defs prog2.main.body), true, some none, [some { cls := .none, data := .dict #[] }, some { cls := .none, data := .fields #[] }, some { cls := .none, data := .fields #[] }], 406)
theorem kok_of {s : Shared} {w : World} (y : yf2 s = ya2 w) : KOk (fragH s.heap) ∧ (((fragH s.heap).lookup builtinsNs).isSome = true ∧ ((fragH s.heap).lookup mainGlobals).isSome = true ∧ bltOk (fragH s.heap) = true) ∧ s.toks = 406 := by
  have e1 := congrArg (fun x => x.1) y
  have e2 := congrArg (fun x => x.2.1) y
  have e3 := congrArg (fun x => x.2.2.1) y
  have e4 := congrArg (fun x => x.2.2.2.1) y
  have e5 := congrArg (fun x => x.2.2.2.2) y
  have e2 : (biFree (fragH s.heap) biNames && codes2.all (fun c => ((fragH s.heap).lookup c).isSome) && codeHdIn (fragH s.heap) 34 30 && codeHdIn (fragH s.heap) 41 37 && limOk (fragH s.heap) && ((fragH s.heap).lookup builtinsNs).isSome && ((fragH s.heap).lookup mainGlobals).isSome && bltOk (fragH s.heap)) = true := e2
  simp only [Bool.and_eq_true] at e2
  obtain ⟨⟨⟨⟨⟨⟨⟨b1, b2⟩, b3⟩, b4⟩, b5⟩, b6⟩, b7⟩, b8⟩ := e2
  have e4 : [(fragH s.heap).lookup cStatics, (fragH s.heap).lookup 30, (fragH s.heap).lookup 37] = [some { cls := .none, data := .dict #[] }, some { cls := .none, data := .fields #[] }, some { cls := .none, data := .fields #[] }] := e4
  obtain ⟨c1, e4⟩ := List.cons.inj e4
  obtain ⟨c2, e4⟩ := List.cons.inj e4
  exact ⟨⟨e1, b1, e3, c1, b2, c2, (List.cons.inj e4).1, b3, b4, b5⟩, ⟨b6, b7, b8⟩, e5⟩

theorem mem_looks {K : Frag} {f : Str} {F : Fn} : ∀ {l : List (Str × Fn)}, looks K tabs2 codes2 quals2 "inner" l = want l → (f, F) ∈ l → look K tabs2 codes2 quals2 "inner" F.tab f = some ⟨.stmts F.body, F.scope, some F.params, true⟩
  | [], _, m => (nomatch m)
  | p :: r, h, m => by
    have h : (look K tabs2 codes2 quals2 "inner" p.2.tab p.1) :: looks K tabs2 codes2 quals2 "inner" r = some ⟨.stmts p.2.body, p.2.scope, some p.2.params, true⟩ :: want r := h
    injection h with e1 e2
    rcases List.mem_cons.mp m with rfl | m
    · exact e1
    · exact mem_looks e2 m

structure TopIn (h : Heap) (mg mb : Str → Option Value) : Prop where
  g : h.Ns mainGlobals mg
  b : h.Ns builtinsNs mb
  builtins : ∀ x : Str, x ≠ "__name__" → mb x = bootBuiltins x
  bmain : ∃ bm ob, mg "__builtins__" = some (.ref bm) ∧ bm ≠ builtinsNs ∧ h.get? bm = some ob ∧ ob.cls = .type "module" ∧ ob.dict = some builtinsNs ∧ ob.data = .plain

theorem back {K : Frag} {h h' : Heap} (X : K.In h) (X' : K.In h') {a : Addr} (e : (K.lookup a).isSome = true) : h.get? a = h'.get? a := by
  obtain ⟨o, q⟩ := Option.isSome_iff_exists.mp e
  rw [X a o q, X' a o q]
theorem ns_back {K : Frag} {h h' : Heap} (X : K.In h) (X' : K.In h') {a : Addr} {m : Str → Option Value} (e : (K.lookup a).isSome = true) (n : h'.Ns a m) : h.Ns a m := by
  obtain ⟨o, es, ep, e1, r⟩ := n
  exact ⟨o, es, ep, by rw [back X X' e]; exact e1, r⟩
theorem topIn {K : Frag} {h h' : Heap} {mg mb : Str → Option Value} {q : Program} {loose : List Str} {mean : ExcName → Option Value} (X : K.In h) (X' : K.In h') (e0 : (K.lookup builtinsNs).isSome = true) (e1 : (K.lookup mainGlobals).isSome = true)
    (e2 : bltOk K = true) (T : PyProof.Rows.Top q loose mean mg mb h') : TopIn h mg mb where
  g := ns_back X X' e1 T.g
  b := ns_back X X' e0 T.b
  builtins := T.builtins
  bmain := by
    obtain ⟨bm, ob, h1, h2, h3, h4⟩ := T.bmain
    refine ⟨bm, ob, h1, h2, ?_, h4⟩
    obtain ⟨b, hb, e2⟩ := bltOk_of e2
    have := mg_of X' T.g hb
    rw [h1] at this
    cases this
    rw [back X X' e2]; exact h3

theorem heading2 {K : Frag} {w : World} {h : Heap} {mg mb : Str → Option Value} {lev : Nat} {con : Str → List V → Option D} (k : KOk K) (X : K.In h) (T : TopIn h mg mb) : Heading K (cx2 w h mg mb lev) (env2 con lev) where
  X := X
  gns := T.g
  bns := T.b
  bb := T.builtins
  blt := T.bmain
  nf := rfl
  tnd := by show tabs2.Nodup; decide
  cl := rfl
  low := ⟨by show mainGlobals ∉ tabs2; decide, by show builtinsNs ∉ tabs2; decide, by show cStatics ∉ tabs2; decide⟩
  nest := rfl
  lev := rfl
  stat := k.st
  tf := fun c m => by
    have m : c ∈ codes2 := m
    refine ⟨fun q => ?_, Option.isSome_iff_exists.mp (List.all_eq_true.mp k.tf c m)⟩
    have : ∀ c ∈ codes2, c ∉ tabs2 := by decide
    exact this c m q
  to := fun P m => by
    have m : P ∈ tabs2 := m
    simp only [tabs2, List.mem_cons, List.not_mem_nil, or_false] at m
    rcases m with rfl | rfl
    · exact k.t0
    · exact k.t1
  hd := fun i c P e1 e2 => by
    match i, e1, e2 with
    | 0, e1, e2 => cases e1; cases e2; exact k.h0
    | 1, e1, e2 => cases e1; cases e2; exact k.h1
    | n + 2, e1, e2 => cases e1
  glob := fun x i e => by
    exact (Yes.t (Q := fun i => ∃ t, t ≠ 0 ∧ nsIn K mainGlobals x = some (some (.int i t))) fun hs => by rw [seq_iff.mp hs]; exact limOk_of k.gl : Yes _ (globI x)).get e
  bi := k.bi
  fn := fun f F e => mem_looks k.lk (fnIn_mem e)

noncomputable def gscope1 : Scope := F1.scope
theorem genF1 : Mine.fnIn "_iter_escaped_chars" prog2.main.body = some ⟨["addr"], (astOf F1.body).body, F1.scope, .none⟩ := by rfl
theorem glay1 : layCells F1.scope.names [] [.ns []] = ([], [.ns []]) := by rfl

theorem gtop2 {K : Frag} {w : World} {h : Heap} {mg mb : Str → Option Value} {lev : Nat} {con : Str → List V → Option D} (k : KOk K) (X : K.In h) (T : TopIn h mg mb) (hl : 30 ≤ lev) : GTop (cx2 w h mg mb lev) (env2 con lev) where
  gen := fun f hf => by
    obtain rfl := seq_iff.mp hf
    obtain ⟨a, o, fd, h1, h2, h3, h4, h5⟩ := (heading2 (con := con) (w := w) (lev := lev) k X T).top.fn "_iter_escaped_chars" ⟨["addr"], (astOf F1.body).body, F1.scope, .none⟩ genF1
    exact ⟨a, o, fd, F1.scope, astOf F1.body, h1, h2, h3, h4, h5, sem1 _, glay1⟩
  names := .inr ⟨mg_none_of X T.g k.en, by
    show mb "enumerate" = _
    rw [T.builtins "enumerate" (by decide +kernel)]
    decide +kernel⟩
  lev := hl

theorem lay_ar {R : WRecords} {cl : Str → Option Addr} {P : Params} {ord : List DictEntry → List DictEntry} {θ : Th} : ∀ (ns : List Int) (s : Shared) (r : List Value × Shared), layAllW R cl P ord (ofPys (ns.map PyData.int)) s = some r → s.toks ≠ 0 → AR θ (ns.map V.int) r.1
  | [], s, r, e, ht => by
    have : layAllW R cl P ord (ofPys (List.map PyData.int [])) s = some ([], s) := by simp [ofPys, layAllW]
    rw [this] at e
    cases e; trivial
  | n :: ns, s, r, e, ht => by
    simp only [List.map_cons, ofPys, ofPy, layAllW, layW] at e
    cases q : layAllW R cl P ord (ofPys (List.map PyData.int ns)) { s with toks := s.toks + 1 } with
    | none => rw [q] at e; cases e
    | some r' =>
      rw [q] at e
      cases e
      exact ⟨⟨s.toks, trivial, rfl⟩, lay_ar ns _ r' q (Nat.succ_ne_zero _)⟩

theorem script_in {R : WRecords} {w : World} {s₀ s₁ : Shared} {ns : List Int} {a : Addr} {as : List Addr} (L : Laid R w s₀ s₁ [ofPy (PyData.list (ns.map PyData.int))] [.ref a] as) (ht : s₀.toks ≠ 0) :
    ∃ its : Array Value, s₁.heap.get? a = some { cls := .type "list", data := .seq its } ∧ (∀ θ, AR θ (ns.map V.int) its.toList) ∧ a = s₀.heap.objs.size ∧ s₁.heap.objs.size = s₀.heap.objs.size + 1 ∧ s₁.toks ≠ 0 := by
  obtain ⟨h1, h2⟩ := X.script_at L
  have h3 := X.script_toks L rfl
  obtain ⟨ord, _, e⟩ := L.laid
  simp only [ofPy, layAllW, layW] at e
  cases q : layAllW R (classAt s₀.heap) w.params ord (ofPys (List.map PyData.int ns)) s₀ with
  | none => rw [q] at e; cases e
  | some r =>
    rw [q] at e
    simp only [Option.some.injEq, Prod.mk.injEq, List.cons.injEq, Value.ref.injEq] at e
    obtain ⟨⟨ea, _⟩, es⟩ := e
    refine ⟨r.1.toArray, ?_, fun θ => by simpa using lay_ar (θ := θ) ns s₀ r q ht, h1, h2, fun z => ht (Nat.le_zero.mp (z ▸ h3))⟩
    rw [← es, ← ea]
    exact Heap.get?_push_size _ rfl

/- the state at the call -/
theorem start2 {K : Frag} {w : World} {s₀ s : Shared} {mg mb : Str → Option Value} {lev : Nat} (k : KOk K) (X0 : K.In s₀.heap) (T : TopIn s₀.heap mg mb) (ht : s.toks ≠ 0) (hg : s.gens = #[]) (keeps : ∀ b o, s₀.heap.get? b = some o → s.heap.get? b = some o)
    {a : Addr} {its : Array Value} {vs : List V} (ho : s.heap.get? a = some { cls := .type "list", data := .seq its }) (ha : ∀ θ, AR θ vs its.toList) (h1 : a = s₀.heap.objs.size) (h2 : s.heap.objs.size = s₀.heap.objs.size + 1) :
    St (cx2 w s₀.heap mg mb lev) ⟨[a], 0⟩ [.xl vs its] s where
  len := rfl
  own := fun l o e _ => by
    cases l with
    | zero => cases e; exact ⟨a, _, rfl, ho, rfl, ha _⟩
    | succ l => cases (show (none : Option O) = some _ from e)
  nodup := List.nodup_cons.mpr ⟨fun h => (nomatch h), List.nodup_nil⟩
  low := fun x h => by rw [List.mem_singleton.mp h, h1]; exact Nat.le_refl _
  lt := fun x h => by rw [List.mem_singleton.mp h, h1, h2]; exact Nat.lt_succ_self _
  tok := ht
  bnd := Nat.zero_le _
  bare := .of_eq hg
  top := fun b o e _ => keeps b o e
  big := by show s₀.heap.objs.size ≤ _; omega
  tab := ((heading2 (con := fun _ _ => .none) (w := w) (lev := lev) k X0 T).tab rfl).mono (fun b o e _ => keeps b o e) fun b o e _ m => by
    have e : s₀.heap.get? b = some o := e
    have := Heap.lt_size e
    rw [List.mem_singleton.mp m, h1] at this
    exact Nat.lt_irrefl _ this

/- the old things are as they were -/
theorem oldK2 {K : Frag} {w : World} {s₀ s s2 s' : Shared} {mg mb : Str → Option Value} {lev : Nat} {G : Env0} (k : KOk K) (X0 : K.In s₀.heap) (X1 : K.In s.heap) {a : Addr} {its : Array Value} {vs : List V} (ho : s.heap.get? a = some { cls := .type "list", data := .seq its })
    {θ2 : Th} {ys : List Addr} {k2 : Nat} {θ5 : Th} {H2 : List O} (hH : H2[0]? = some (.xl vs its)) (g2 : Go (cx2 w s₀.heap mg mb lev) ⟨[a], 0⟩ s θ2 s2) (S2 : St (cx2 w s₀.heap mg mb lev) θ2 H2 s2) (hy : ∀ y ∈ ys, y ∈ θ2) (hx : ∀ (x : Addr) (i : Nat), i < 1 → θ2[i]? = some x → x ∉ ys)
    (g5 : Go (cx2 w s₀.heap mg mb lev) ⟨ys, k2⟩ s2 θ5 s') (h1 : a = s₀.heap.objs.size) (hsz : s.heap.objs.size = s₀.heap.objs.size + 1) : OldK s.heap s'.heap := by
  have hat : θ2[0]? = some a := g2.getE (l := 0) rfl
  have hna : a ∉ ys := hx a 0 (by decide) hat
  have hlow : ∀ (b : Addr) (o : Obj), s.heap.get? b = some o → b ∉ ys := fun b o e m => by
    have m2 := hy b m
    obtain ⟨zs, e1, hz⟩ := g2.pre
    have m2 : b ∈ θ2.l := m2
    rw [e1] at m2
    rcases List.mem_append.mp m2 with m2 | m2
    · exact hna (List.mem_singleton.mp m2 ▸ m)
    · exact Nat.not_lt.mpr (hz b m2) (Heap.lt_size e)
  have key : ∀ b o, s.heap.get? b = some o → b ∉ tabs2 → s'.heap.get? b = some o := fun b o e t => by
    by_cases hb : b = a
    · subst hb
      obtain ⟨x, o', q1, q2, q3⟩ := S2.own 0 _ hH rfl
      rw [hat] at q1; cases q1
      obtain ⟨q3, _⟩ := q3
      subst q3
      rw [ho] at e; cases e
      exact g5.keep _ _ q2 hna t
    · exact g5.keep _ _ (g2.keep b o e (fun m => hb (List.mem_singleton.mp m)) t) (hlow b o e) t
  have tab : ∀ (c P : Addr), P ∈ tabs2 → codeHdIn K c P = true → K.lookup P = some { cls := .none, data := .fields #[] } → ∀ o, s.heap.get? P = some o → asItWas s.heap s'.heap P o := fun c P hP hc hl o e => by
    have e' := X1 _ _ hl
    rw [e] at e'; cases e'
    obtain ⟨m1, q1⟩ := g2.tnew.ob P hP #[] e
    obtain ⟨m2, q2⟩ := g5.tnew.ob P hP _ q1
    refine .inr (.inl ⟨((codeHd_of_K X1 hc).tab (ps := #[]) e).isCodeTable, rfl, #[], m1 ++ m2, rfl, ?_⟩)
    rw [q2, Array.append_assoc]
  refine ⟨fun b o e => ?_, fun b o e => ?_⟩
  · by_cases hb : b ∈ tabs2
    · simp only [tabs2, List.mem_cons, List.not_mem_nil, or_false] at hb
      rcases hb with rfl | rfl
      · exact tab 34 30 (by decide) k.h0 k.t0 o e
      · exact tab 41 37 (by decide) k.h1 k.t1 o e
    · exact .inl (key b o e hb)
  · by_cases hb : b ∈ tabs2
    · simp only [tabs2, List.mem_cons, List.not_mem_nil, or_false] at hb
      rcases hb with rfl | rfl
      · obtain ⟨m1, q1⟩ := g2.tnew.ob 30 (by show 30 ∈ tabs2; decide) #[] (X1 _ _ k.t0)
        obtain ⟨m2, q2⟩ := g5.tnew.ob 30 (by show 30 ∈ tabs2; decide) _ q1
        exact ⟨_, q2⟩
      · obtain ⟨m1, q1⟩ := g2.tnew.ob 37 (by show 37 ∈ tabs2; decide) #[] (X1 _ _ k.t1)
        obtain ⟨m2, q2⟩ := g5.tnew.ob 37 (by show 37 ∈ tabs2; decide) _ q1
        exact ⟨_, q2⟩
    · exact ⟨o, key b o e hb⟩
end Mine
end
section
open PySem PySem.W PyProof.Rows
set_option maxRecDepth 100000
namespace Mine
theorem vFlt_yes (v : V) : Yes (fun i => v = .flt i) (vFlt v) := by
  cases v <;> first | exact rfl | exact trivial
theorem d3_yes (l : List V) : Yes (fun q => l = [q.1, q.2.1, q.2.2]) (d3 l) := by
  cases l with
  | nil => exact trivial
  | cons a l => cases l with
    | nil => exact trivial
    | cons b l => cases l with
      | nil => exact trivial
      | cons c l => cases l with
        | nil => exact rfl
        | cons => exact trivial
/- the levels -/
theorem chkOk (x : List Nat) (h : hasSign 34 x = false) : runD GO 41 "_check_parenthesis" [.str x] = some (.val (.bool (checkI x))) := by
  obtain ⟨H', e⟩ := chk1 x h
  have e : run GO 41 "_check_parenthesis" [.str x] [] = some (.bool (checkI x), H') := e
  unfold runD
  rw [e]
  rfl
/- what a contract's data must show: a run of it -/
noncomputable abbrev CQ (G : Env0) (n : Nat) (f : Str) (vs : List V) (d : D) : Prop := runD G n f vs = some d
theorem conT_of {tab : List (Str × (List V → Option D))} {low : Str → List V → Option D} {G : Env0} {n : Nat} {f : Str} {vs : List V} {d : D} (k : ∀ p ∈ tab, ∀ vs, Yes (CQ G n p.1 vs) (p.2 vs)) (h : conT tab low f vs = some d) : low f vs = some d ∨ CQ G n f vs d := by
  unfold conT at h
  have y : Yes (fun (k : List V → Option D) => ∀ vs, Yes (CQ G n f vs) (k vs)) (find f tab) := find_yes (P := fun f (k : List V → Option D) => ∀ vs, Yes (CQ G n f vs) (k vs)) k
  cases e : find f tab with
  | none => rw [e] at h; exact .inl h
  | some c => rw [e] at h y; exact .inr ((y vs).get h)
theorem conT_has {tab : List (Str × (List V → Option D))} {low : Str → List V → Option D} {f : Str} {vs : List V} {d : D} (k : tab.all (fun p => (Mine.fnIn p.1 prog2.main.body).isSome) = true) (l : low f vs = some d → ∃ F, Mine.fnIn f prog2.main.body = some F) (h : conT tab low f vs = some d) : ∃ F, Mine.fnIn f prog2.main.body = some F := by
  unfold conT at h
  have y : Yes (fun _ => ∃ F, Mine.fnIn f prog2.main.body = some F) (find f tab) := find_yes (P := fun f (_ : List V → Option D) => ∃ F, Mine.fnIn f prog2.main.body = some F) fun p hp => Option.isSome_iff_exists.mp (List.all_eq_true.mp k p hp)
  cases e : find f tab with
  | none => rw [e] at h; exact l h
  | some c => rw [e] at y; exact y
theorem map_at {α β : Type} {f g : α → β} {l : List α} (h : l.map f = l.map g) {a : α} (m : a ∈ l) : f a = g a := List.map_inj_left.mp h a m
theorem single_of {α : Type} {P : α → Prop} {a : α} (h : P a) : ∀ p ∈ [a], P p := fun p hp => by
  rw [List.mem_singleton.mp hp]; exact h
theorem conA_of {f : Str} {vs : List V} {d : D} (h : conA f vs = some d) : runD GO 41 f vs = some d :=
  (conT_of (G := GO) (n := 41) (single_of fun vs => (one_yes vs).bind fun a e => (vStr_yes a).bind fun x e2 => by
    subst e; subst e2
    refine Yes.f fun hs => ?_; exact chkOk _ hs) h).elim (fun e => nomatch e) id
theorem dmIn_of {a b : Int} (h : dmIn a b = true) : (a, b) ∈ dms := by
  obtain ⟨p, m, e⟩ := List.any_eq_true.mp h
  rw [← ieq_iff.mp (and2 e).1, ← ieq_iff.mp (and2 e).2]; exact m
theorem dm_y (vs : List V) : Yes (CQ GA 80 "int_divmod" vs) (conDm vs) := (two_yes vs).bind fun q e => (vInt_yes _).bind fun x e1 => (vInt_yes _).bind fun y e2 => Yes.t fun h => by
  rw [e, e1, e2]
  exact (runDF_eq ..).symm.trans (map_at dm_all (dmIn_of h))
theorem hue_y (vs : List V) : Yes (CQ GA 80 "hsv_to_rgb" vs) (conHue vs) := (d3_yes vs).bind fun q e => (vFlt_yes _).bind fun x e1 => (vFlt_yes _).bind fun y e2 => (vFlt_yes _).bind fun z e3 => Yes.t fun h1 => Yes.t fun h2 => Yes.of fun d h => by
  obtain ⟨p, h3, e4⟩ := Option.map_eq_some_iff.mp h
  have h4 := List.find?_some (p := fun p : UInt64 × D => isF p.1 x) h3
  rw [e, e1, e2, e3, isF_of h1, isF_of h2, ← isF_of h4, ← e4]
  exact (runDF_eq ..).symm.trans (map_at hue_all (List.mem_of_find?_eq_some h3))
theorem rgb_y (vs : List V) : Yes (CQ GA 80 "rgb_to_hsv" vs) (conRgb vs) := (d3_yes vs).bind fun q e => (vFlt_yes _).bind fun x e1 => (vFlt_yes _).bind fun y e2 => (vFlt_yes _).bind fun z e3 => Yes.of fun d h => by
  obtain ⟨p, h3, e4⟩ := Option.map_eq_some_iff.mp h
  have h4 := List.find?_some (p := fun p : (UInt64 × UInt64 × UInt64) × D => isF p.1.1 x && (isF p.1.2.1 y && isF p.1.2.2 z)) h3
  rw [e, e1, e2, e3, ← isF_of (and2 h4).1, ← isF_of (and2 (and2 h4).2).1, ← isF_of (and2 (and2 h4).2).2, ← e4]
  exact (runDF_eq ..).symm.trans (map_at rgb_all (List.mem_of_find?_eq_some h3))
theorem conB_of {f : Str} {vs : List V} {d : D} (h : conB f vs = some d) : conA f vs = some d ∨ runD GA 80 f vs = some d :=
  conT_of (List.forall_mem_cons.mpr ⟨dm_y, List.forall_mem_cons.mpr ⟨hue_y, single_of rgb_y⟩⟩) h
theorem hasA {f : Str} {vs : List V} {d : D} (h : conA f vs = some d) : ∃ F, Mine.fnIn f prog2.main.body = some F := conT_has (by kernel_rfl) (fun e => by cases e) h
theorem hasB {f : Str} {vs : List V} {d : D} (h : conB f vs = some d) : ∃ F, Mine.fnIn f prog2.main.body = some F := conT_has (by kernel_rfl) hasA h
theorem gen2' [Ops] {K : Frag} {w : World} {h : Heap} {mg mb : Str → Option Value} {con : Str → List V → Option D} {lev : Nat} (k : KOk K) (X : K.In h) (T : TopIn h mg mb) (hl : 30 ≤ lev) : GenH (cx2 w h mg mb lev) (envL con lev) := genH (heading2 k X T).top (gtop2 k X T hl)
theorem consO [Ops] {w : World} {h : Heap} {mg mb : Str → Option Value} : ConS (cx2 w h mg mb 30) GO := ConS.zero fun _ _ => rfl
section
variable {K : Frag} {w : World} {h : Heap} {mg mb : Str → Option Value}
theorem consOL : ConS (cx2 w h mg mb 30) GO := consO
theorem genOL (k : KOk K) (X : K.In h) (T : TopIn h mg mb) : GenH (cx2 w h mg mb 30) GO := gen2' k X T (by decide)
theorem genAL (k : KOk K) (X : K.In h) (T : TopIn h mg mb) : GenH (cx2 w h mg mb 50) GA := gen2' k X T (by decide)
end
theorem consA [Ops] {K : Frag} {w : World} {h : Heap} {mg mb : Str → Option Value} (k : KOk K) (X : K.In h) (T : TopIn h mg mb) : ConS (cx2 w h mg mb 50) GA :=
  ConS.step (C := cx2 w h mg mb 50) (G1 := GO) (l1 := 30) (n := 41) (heading2 k X T).top consO consOL (genOL k X T) (Nat.le_of_ble_eq_true rfl) (Nat.le_of_ble_eq_true rfl) (fun _ _ _ e => hasA e) fun _ _ _ e => .inr (conA_of e)
theorem consAL {K : Frag} {w : World} {h : Heap} {mg mb : Str → Option Value} (k : KOk K) (X : K.In h) (T : TopIn h mg mb) : ConS (cx2 w h mg mb 50) GA := consA k X T
theorem consB [Ops] {K : Frag} {w : World} {h : Heap} {mg mb : Str → Option Value} (k : KOk K) (X : K.In h) (T : TopIn h mg mb) : ConS (cx2 w h mg mb 130) GB :=
  ConS.step (C := cx2 w h mg mb 130) (G1 := GA) (l1 := 50) (n := 80) (heading2 k X T).top (consA k X T) (consAL k X T) (genAL k X T) (Nat.le_of_ble_eq_true rfl) (Nat.le_of_ble_eq_true rfl) (fun _ _ _ e => hasB e) fun _ _ _ e => conB_of e
end Mine
end
section
open PySem
set_option maxRecDepth 100000
namespace Mine
noncomputable def rhoR : Rho := ⟨LawF.scope, 0, [], .none⟩
noncomputable def unitsV (w : List Nat) : List V := (itemsG 0 false w).map fun u => .str u.2
/- the rest of the law, on the units alone -/
noncomputable def restT (w : List Nat) : Bool := match stepSsT GB 200 rhoR (LawF.body.drop 1) (TH.of [.ns [("units", .ref 1)], .list (unitsV w)]) with
  | some (.ret (.bool true), _) => true
  | _ => false
end Mine
end
section
open PySem PySem.W PyProof.Rows
set_option maxRecDepth 100000
namespace Mine
section
variable {C : Cx} {G : Env0} {A : Around} {θ θ' : Th} {ρ : Rho} {env : Env} {n : Nat} {s s' : Shared}
/- a list of statements that gives a value back -/
theorem rest_sound [Ops] {H4 H5 : Hp} {b2 : List Stmt} {v : V} (T : Top C G) (K : ConS C G) (GH : GenH C G) (hA : Room A (n + 1)) (S4 : St C θ H4 s) (R4 : EnvR C θ ρ env) (h : stepSs (ev G n) G ρ b2 H4 = some (.ret v, H5)) :
    wpAny (model C.prog C.w) A (execs b2 env) (fun fl s5 => ∃ θ5 w, Go C θ s θ5 s5 ∧ fl = .ret w ∧ VR θ5 v w ∧ AllBare s5.gens) (fun _ _ => False) s :=
  wpAny_mono ((stepSs_yes (ev_yes T K GH n) T GH hA b2).get h R4 s S4) (fun fl s5 hb => by
    obtain ⟨θ5, Hy, g5, S5, e, w, e2, rw'⟩ := hb
    exact ⟨θ5, w, g5, e2, rw', S5.bare⟩) fun _ _ x => x
/- what the rest of a call leaves -/
noncomputable def RestR (C : Cx) (θ2 : Th) (s2 : Shared) (v : V) (fl : Flow) (s5 : Shared) : Prop := ∃ ys k θ5 w, (∀ y ∈ ys, y ∈ θ2) ∧ (∀ x, θ2[0]? = some x → x ∉ ys) ∧ Go C ⟨ys, k⟩ s2 θ5 s5 ∧ fl = .ret w ∧ VR θ5 v w ∧ AllBare s5.gens
/- a call: its first statement, and the rest -/
theorem law_call (T : Top C G) (hA : Room A (n + 2)) {f : Str} {F : Fn} {a : Addr} {vs : List V} {as : List Value} {H H1 H2 : List O} {st : Stmt} {b2 : List Stmt} {v : V} (S : St C θ H s) (r : AR θ vs as) (hF : G.fn f = some F) (ha : C.mg f = some (.ref a))
    (he : enter F.tab F.scope [] F.params vs H = some (ρ, H1)) (hb : F.body = st :: b2) (p0 : ∀ {A env}, Room A (n + 1) → At1 C A ρ env H1 st .next H2)
    (p1 : ∀ {A env θ2 s2}, Room A (n + 1) → St C θ2 H2 s2 → EnvR C θ2 ρ env → wpAny (model C.prog C.w) A (execs b2 env) (RestR C θ2 s2 v) (fun _ _ => False) s2) :
    wpAny (model C.prog C.w) A (call (.ref a) as) (fun r s' => ∃ θ2 s2, Go C θ s θ2 s2 ∧ St C θ2 H2 s2 ∧ RestR C θ2 s2 v (.ret r) s') (fun _ _ => False) s := by
  obtain ⟨a', e1, tx⟩ := T.fn_at hF
  rw [ha] at e1; injection e1 with e1; injection e1 with e1; subst e1
  obtain ⟨o, fd, ho, e4, Fr⟩ := tx.at_ S
  obtain ⟨c, oc, vs', t, q1, q2, q3, q4, q5, q6⟩ := Fr.code
  have e : EnR F.tab F.scope [] F.params vs H ρ H1 := enter_yes.get he
  refine wpAny_call ?_
  refine codeAny_call_function hA.lim ho e4 (by rw [Fr.scope]; exact e.pl.c) (by rw [Fr.scope]; exact e.pl.g) Fr.body ⟨c, oc, vs', t, q1, q4, q5, q6⟩ ?_
  refine wpAny_of_eq (bindArgs_plain Fr.params Fr.dflt (by rw [e.len]; exact r.length)) ?_
  refine wpAny_mono (newEnvB_tri (A := A.in1) Fr r e.pl.k e.rho e.bind s S) (fun env s1 hb' => hb'.elim fun θ1 Hx g1 S1 ⟨e, R1⟩ => ?_) fun _ _ x => x.elim
  subst e
  refine ⟨T.limit S1, codeAny_func ?_⟩
  have hA' : Room (A.deeper env) (n + 1) := hA.deep env
  rw [hb]
  show wpAny _ _ (exec st env >>= fun f => match f with | .next => execs b2 env | f => pure f) _ _ _
  refine wpAny_bind (wpAny_mono (p0 hA' R1 s1 S1) (fun fl s2 hb => hb.elim fun θ2 Hx g2 S2 ⟨e, rf⟩ => ?_) fun _ _ x => x.elim)
  subst e
  rw [show fl = .next from rf]
  refine wpAny_mono (p1 hA' S2 (R1.mono g2.ext)) (fun fl s5 hb => ?_) fun _ _ x => x.elim
  obtain ⟨ys, k, θ5, w, h1, h2, h3, rfl, h4⟩ := hb
  exact ⟨θ2, s2, g1.trans g2, S2, ys, k, θ5, w, h1, h2, h3, rfl, h4⟩
end
end Mine
end
section
open PySem PySem.W PyProof.Rows
set_option maxRecDepth 100000
namespace Mine
/- a list's state is a tree's -/
theorem to_tree {C : Cx} {θ : Th} {L : List O} {s : Shared} (S : St C θ L s) : @St treeOps C θ (TH.of L) s :=
  @St.mk treeOps C θ (TH.of L) s (by show θ.l.length = (TH.app ⟨0, .nil⟩ L).n; rw [TH.app_n]; exact (S.len : θ.l.length = L.length).trans (Nat.zero_add _).symm)
    (fun l o e v => S.own l o ((TH.app_ge L (H := ⟨0, .nil⟩) (Nat.zero_le l)).symm.trans e) v) S.nodup S.low S.lt S.tok S.bnd S.bare S.top S.big S.tab
theorem noRefs_map : ∀ (U : List (Nat × List Nat)), noRefs (U.map fun u => V.str u.2) = true
  | [] => rfl
  | u :: U => noRefs_map U
theorem cut2 {C : Cx} {θ2 : Th} {H2 : List O} {s2 : Shared} {env : Env} {n : Nat} {U : List (Nat × List Nat)} {x0 : O} (h0 : H2[0]? = some x0) (h1 : H2[1]? = some (.ns [("script", .ref 0), ("units", .ref n)])) (h2 : H2[n]? = some (.list (U.map fun u => .str u.2))) (hn : 2 ≤ n) (S : St C θ2 H2 s2) (R : EnvR C θ2 rhoL env) :
    ∃ ys, (∀ y ∈ ys, y ∈ θ2) ∧ (∀ x, θ2[0]? = some x → x ∉ ys) ∧ St C ⟨ys, θ2.n⟩ [.ns [("units", .ref 1)], .list (U.map fun u => .str u.2)] s2 ∧ EnvR C ⟨ys, θ2.n⟩ rhoR env := by
  have hL : θ2[1]? = some env.locals := R.loc
  obtain ⟨y, o', e1, e2, es', ep, e3, e4, e5⟩ := S.own 1 _ h1 rfl
  rw [hL] at e1; cases e1
  obtain ⟨a, q1, z, q2, rfl⟩ := e5 "units" (.ref n) rfl
  obtain ⟨la, m, g1, r1⟩ := S.listAt h2 q2
  have hne : env.locals ≠ z := fun q => by
    have := S.inj hL (q ▸ q2)
    omega
  have hm : ∀ y ∈ [env.locals, z], y ∈ θ2 := fun y m => by
    rcases List.mem_cons.mp m with m | m
    · rw [m]; exact mem_at hL
    · rw [List.mem_singleton.mp m]; exact mem_at q2
  have hd : [env.locals, z].Nodup := List.nodup_cons.mpr ⟨fun h => hne (List.mem_singleton.mp h), List.nodup_cons.mpr ⟨fun h => (nomatch h), List.nodup_nil⟩⟩
  have F := S.f.sub (ys := [env.locals, z]) hm hd S.bnd
  refine ⟨[env.locals, z], hm, fun x hx m => ?_, ⟨rfl, fun i o e v => ?_, F.nodup, F.low, F.lt, F.tok, F.bnd, F.bare, F.top, F.big, F.tab⟩, ⟨R.scope, R.kind, rfl, ?_, R.globals, R.builtins, fun k e => (nomatch e)⟩⟩
  · rcases List.mem_cons.mp m with m | m
    · exact absurd (S.inj hx (m ▸ hL)) (by decide)
    · have := S.inj hx (List.mem_singleton.mp m ▸ q2)
      omega
  · match i, e with
    | 0, e =>
      cases e
      refine ⟨_, o', rfl, e2, es', ep, e3, e4, fun z' v' hz => ?_⟩
      have hz : (match seq z' "units" with | true => some (V.ref 1) | false => Option.none) = some v' := hz
      cases q : seq z' "units" with
      | true =>
        rw [q] at hz
        cases hz
        rw [seq_iff.mp q]
        exact ⟨_, q1, z, rfl, rfl⟩
      | false => rw [q] at hz; cases hz
    | 1, e => cases e; exact ⟨z, _, rfl, g1, la, m, rfl, AR.nr (θ := θ2) (θ' := ⟨[env.locals, z], θ2.n⟩) (Nat.le_refl θ2.n) (noRefs_map U) r1⟩
    | i + 2, e => cases (show (none : Option O) = some _ from e)
  · have := R.cells
    cases hc : env.cells with
    | nil => trivial
    | cons p q => rw [hc] at this; exact this.elim

theorem lawF2 : GB.fn "law" = some LawF := by kernel_rfl
theorem lawEnter (vs : List V) (its : Array Value) : enter LawF.tab LawF.scope [] LawF.params [.ref 0] [.xl vs its] = some (rhoL, [.xl vs its, x1L]) := by kernel_rfl
theorem lawBody : LawF.body = lst 0 :: LawF.body.drop 1 := by kernel_rfl
theorem restT_of {w : List Nat} (h : restT w = true) : ∃ H5, @stepSs plainFns treeOps (@ev plainFns treeOps GB 200) GB rhoR (LawF.body.drop 1) (TH.of [.ns [("units", .ref 1)], .list (unitsV w)]) = some (.ret (.bool true), H5) := by
  unfold restT at h
  rw [stepSsT_eq] at h
  split at h
  · rename_i H5 e
    exact ⟨H5, e⟩
  · cases h
theorem fin2 (run : ∀ w ∈ textsD, restT w = true) {K : Frag} {w : World} {s₀ s₁ : Shared} {mg mb : Str → Option Value} (k : KOk K) (X0 : K.In s₀.heap) (X1 : K.In s₁.heap) (T : TopIn s₀.heap mg mb) (ht : s₁.toks ≠ 0) (hg : s₁.gens = #[]) (keeps : ∀ b o, s₀.heap.get? b = some o → s₁.heap.get? b = some o)
    {a fa : Addr} {its : Array Value} {ns : List Int} (hlen : ns.length ≤ 63) (ho : s₁.heap.get? a = some { cls := .type "list", data := .seq its }) (ha : ∀ θ, AR θ (ns.map V.int) its.toList) (h1 : a = s₀.heap.objs.size) (h2 : s₁.heap.objs.size = s₀.heap.objs.size + 1) (hm : mg "law" = some (.ref fa)) :
    wpAny (model prog2 w) callerA (call (.ref fa) [.ref a]) (fun r s' => r = .bool true ∧ OldK s₁.heap s'.heap ∧ s'.os = s₁.os ∧ AllBare s'.gens) (fun _ _ => False) s₁ := by
  obtain ⟨x, hx, L, gv, H2, n, hu, hn, e0, e1, e2⟩ := first ns its hlen
  obtain ⟨H5, hr⟩ := restT_of (run x hx)
  have S := start2 (w := w) (lev := 130) k X0 T ht hg keeps ho ha h1 h2
  have tp := (heading2 (w := w) (lev := 130) (con := conB) k X0 T).top
  have KL : ConS (cx2 w s₀.heap mg mb 130) GB := consB k X0 T
  have GL : GenH (cx2 w s₀.heap mg mb 130) GB := gen2' k X0 T (by decide)
  have GT := gtop2 (w := w) (lev := 130) (con := conB) k X0 T (by decide)
  refine wpAny_mono (law_call (C := cx2 w s₀.heap mg mb 130) (G := GB) (A := callerA) (θ := ⟨[a], 0⟩) (n := 200) (H2 := H2) (v := .bool true) tp ⟨rfl, by decide, by decide⟩ S (vs := [.ref 0]) (as := [.ref a]) ⟨⟨a, rfl, rfl⟩, trivial⟩ lawF2 hm (lawEnter _ _) lawBody
    (fun {A env} hA => by
      rw [st0]
      exact (asgGen_yes (ev_yes tp KL GL 149) tp GT (hA.down (by decide)) gv).get hu)
    fun {A env θ2 s2} hA S2 R2 => ?_) (fun rv s' hb => ?_) fun _ _ x => x
  · obtain ⟨ys, c1, c2, S4, R4⟩ := cut2 (e0.trans rfl) e1 e2 hn S2 R2
    refine wpAny_mono (@rest_sound _ _ _ _ _ _ _ _ treeOps _ _ _ _ tp (@consB treeOps _ _ _ _ _ k X0 T) (@gen2' treeOps _ _ _ _ _ _ _ k X0 T (by decide)) hA (to_tree S4) R4 hr) (fun fl s5 hb => ?_) fun _ _ x => x
    obtain ⟨θ5, u, g5, rfl, rr, hb⟩ := hb
    exact ⟨ys, _, θ5, u, c1, c2, g5, rfl, rr, hb⟩
  · obtain ⟨θ2, s2, g2, S2, ys, k5, θ5, u, c1, c2, g5, eu, rr, hb⟩ := hb
    cases eu
    exact ⟨rr, oldK2 (G := GB) k X0 X1 ho (e0.trans rfl) g2 S2 c1 (fun x i hi hx => by
      have hi : i = 0 := by omega
      subst hi; exact c2 x hx) g5 h1 h2, g5.os.trans g2.os, hb⟩
end Mine
end
section
open PySem
set_option maxRecDepth 100000
namespace Mine
theorem run_0 : restT (textsD.getD 0 []) = true := by decide +kernel
theorem run_1 : restT (textsD.getD 1 []) = true := by decide +kernel
theorem run_2 : restT (textsD.getD 2 []) = true := by decide +kernel
theorem run_3 : restT (textsD.getD 3 []) = true := by decide +kernel
theorem run_4 : restT (textsD.getD 4 []) = true := by decide +kernel
theorem run_5 : restT (textsD.getD 5 []) = true := by decide +kernel
theorem run_6 : restT (textsD.getD 6 []) = true := by decide +kernel
theorem run_7 : restT (textsD.getD 7 []) = true := by decide +kernel
theorem run_8 : restT (textsD.getD 8 []) = true := by decide +kernel
theorem run_9 : restT (textsD.getD 9 []) = true := by decide +kernel
theorem run_10 : restT (textsD.getD 10 []) = true := by decide +kernel
theorem run_11 : restT (textsD.getD 11 []) = true := by decide +kernel
theorem run_12 : restT (textsD.getD 12 []) = true := by decide +kernel
theorem run_13 : restT (textsD.getD 13 []) = true := by decide +kernel
theorem run_14 : restT (textsD.getD 14 []) = true := by decide +kernel
end Mine
end
section
open PySem
set_option maxRecDepth 100000
namespace Mine
theorem run_15 : restT (textsD.getD 15 []) = true := by decide +kernel
theorem run_16 : restT (textsD.getD 16 []) = true := by decide +kernel
theorem run_17 : restT (textsD.getD 17 []) = true := by decide +kernel
theorem run_18 : restT (textsD.getD 18 []) = true := by decide +kernel
theorem run_19 : restT (textsD.getD 19 []) = true := by decide +kernel
theorem run_20 : restT (textsD.getD 20 []) = true := by decide +kernel
theorem run_21 : restT (textsD.getD 21 []) = true := by decide +kernel
theorem run_22 : restT (textsD.getD 22 []) = true := by decide +kernel
theorem run_23 : restT (textsD.getD 23 []) = true := by decide +kernel
theorem run_24 : restT (textsD.getD 24 []) = true := by decide +kernel
theorem run_25 : restT (textsD.getD 25 []) = true := by decide +kernel
theorem run_26 : restT (textsD.getD 26 []) = true := by decide +kernel
theorem run_27 : restT (textsD.getD 27 []) = true := by decide +kernel
theorem run_28 : restT (textsD.getD 28 []) = true := by decide +kernel
theorem run_29 : restT (textsD.getD 29 []) = true := by decide +kernel
end Mine
end
section
open PySem
set_option maxRecDepth 100000
namespace Mine
theorem run_30 : restT (textsD.getD 30 []) = true := by decide +kernel
theorem run_31 : restT (textsD.getD 31 []) = true := by decide +kernel
theorem run_32 : restT (textsD.getD 32 []) = true := by decide +kernel
theorem run_33 : restT (textsD.getD 33 []) = true := by decide +kernel
theorem run_34 : restT (textsD.getD 34 []) = true := by decide +kernel
theorem run_35 : restT (textsD.getD 35 []) = true := by decide +kernel
theorem run_36 : restT (textsD.getD 36 []) = true := by decide +kernel
theorem run_37 : restT (textsD.getD 37 []) = true := by decide +kernel
theorem run_38 : restT (textsD.getD 38 []) = true := by decide +kernel
theorem run_39 : restT (textsD.getD 39 []) = true := by decide +kernel
theorem run_40 : restT (textsD.getD 40 []) = true := by decide +kernel
theorem run_41 : restT (textsD.getD 41 []) = true := by decide +kernel
theorem run_42 : restT (textsD.getD 42 []) = true := by decide +kernel
theorem run_43 : restT (textsD.getD 43 []) = true := by decide +kernel
theorem run_44 : restT (textsD.getD 44 []) = true := by decide +kernel
end Mine
end
section
open PySem
set_option maxRecDepth 100000
namespace Mine
theorem run_45 : restT (textsD.getD 45 []) = true := by decide +kernel
theorem run_46 : restT (textsD.getD 46 []) = true := by decide +kernel
theorem run_47 : restT (textsD.getD 47 []) = true := by decide +kernel
theorem run_48 : restT (textsD.getD 48 []) = true := by decide +kernel
theorem run_49 : restT (textsD.getD 49 []) = true := by decide +kernel
theorem run_50 : restT (textsD.getD 50 []) = true := by decide +kernel
theorem run_51 : restT (textsD.getD 51 []) = true := by decide +kernel
theorem run_52 : restT (textsD.getD 52 []) = true := by decide +kernel
theorem run_53 : restT (textsD.getD 53 []) = true := by decide +kernel
theorem run_54 : restT (textsD.getD 54 []) = true := by decide +kernel
theorem run_55 : restT (textsD.getD 55 []) = true := by decide +kernel
theorem run_56 : restT (textsD.getD 56 []) = true := by decide +kernel
theorem run_57 : restT (textsD.getD 57 []) = true := by decide +kernel
theorem run_58 : restT (textsD.getD 58 []) = true := by decide +kernel
theorem run_59 : restT (textsD.getD 59 []) = true := by decide +kernel
end Mine
end
section
open PySem
set_option maxRecDepth 100000
namespace Mine
theorem all_cons' {α : Type} {P : α → Prop} {a : α} {l : List α} (h : P a) (k : ∀ x ∈ l, P x) : ∀ x ∈ a :: l, P x := List.forall_mem_cons.mpr ⟨h, k⟩
theorem all_nil' {α : Type} {P : α → Prop} : ∀ x ∈ ([] : List α), P x := fun _ h => nomatch h
theorem runs : ∀ w ∈ textsD, restT w = true :=
  all_cons' run_0 (all_cons' run_1 (all_cons' run_2 (all_cons' run_3 (all_cons' run_4 (all_cons' run_5 (all_cons' run_6 (all_cons' run_7 (all_cons' run_8 (all_cons' run_9 (all_cons' run_10 (all_cons' run_11 (all_cons' run_12 (all_cons' run_13 (all_cons' run_14 (all_cons' run_15 (all_cons' run_16 (all_cons' run_17 (all_cons' run_18 (all_cons' run_19 (all_cons' run_20 (all_cons' run_21 (all_cons' run_22 (all_cons' run_23 (all_cons' run_24 (all_cons' run_25 (all_cons' run_26 (all_cons' run_27 (all_cons' run_28 (all_cons' run_29 (all_cons' run_30 (all_cons' run_31 (all_cons' run_32 (all_cons' run_33 (all_cons' run_34 (all_cons' run_35 (all_cons' run_36 (all_cons' run_37 (all_cons' run_38 (all_cons' run_39 (all_cons' run_40 (all_cons' run_41 (all_cons' run_42 (all_cons' run_43 (all_cons' run_44 (all_cons' run_45 (all_cons' run_46 (all_cons' run_47 (all_cons' run_48 (all_cons' run_49 (all_cons' run_50 (all_cons' run_51 (all_cons' run_52 (all_cons' run_53 (all_cons' run_54 (all_cons' run_55 (all_cons' run_56 (all_cons' run_57 (all_cons' run_58 (all_cons' run_59 (all_nil'))))))))))))))))))))))))))))))))))))))))))))))))))))))))))))
end Mine
end
open PySem PySem.W PyProof.Rows
set_option maxRecDepth 100000
namespace Mine
theorem said2 : OpenLaw.wellSaid PySem.Challenge.rw_re0105_02 = true := by kernel_rfl
theorem left2 : LeftO PySem.Challenge.rw_re0105_02.row.prog view2 [] (fun s => xlAt view2 [] s && recOk (RowW.records PySem.Challenge.rw_re0105_02.row.toRowW) s) yf2 ya2 1450 := fun w => by kernel_rfl
end Mine
set_option maxHeartbeats 8000000 in
theorem PySem.Challenge.cw_re0105_02_holds : PySem.Challenge.rw_re0105_02.Holds := by
  refine holds_law Mine.said2 fun said => ?_
  refine holds_openX (q := Mine.view2) (loose := []) (Xt := fun s => xlAt Mine.view2 [] s && recOk (RowW.records PySem.Challenge.rw_re0105_02.row.toRowW) s) (XP := XL Mine.view2 []) (Yf := Mine.yf2) (Ya := Mine.ya2) (N := 1450) Mine.left2 (fun s e => xl_of s (Bool.and_eq_true_iff.mp e).1) XL.keeps (by rfl) (by rfl) (by rfl) (fun s e => recFacts_of (Bool.and_eq_true_iff.mp e).2) (by rfl) (by first | assumption | decide +kernel) (by decide +kernel) ⟨rfl, rfl, rfl, rfl, rfl, by decide +kernel⟩ ?hw ?hc
  case hw => w_witness2
  intro w s₀ s₁ mg mb G y fa o pm cd doc dV kV ho hd hcd hD hmg hg args vals as L hpre hlay hrd hwl hlo
  have T := G.T
  clear hd hcd hD ho G
  wrow_args hpre hlay hrd hwl hlo
  obtain ⟨kk, ⟨q1, q2, q3⟩, htk⟩ := Mine.kok_of y
  have X0 := Mine.fragH_in s₀.heap
  have X1 := Frag.In.keeps X0 L.keeps
  obtain ⟨its, ho, har, ha1, ha2, ht1⟩ := Mine.script_in L (by rw [htk]; decide)
  have T0 := Mine.topIn X0 X1 q1 q2 q3 T
  refine wpAny_mono (Mine.fin2 Mine.runs kk X0 X1 T0 ht1 hg L.keeps (by omega) ho har ha1 ha2 hmg) (fun v s' h => ?_) (fun e s' h => h.elim)
  obtain ⟨rfl, h1, h2, h3⟩ := h
  refine ⟨.inl ⟨_, _, _, rfl, ?_, .bool true, ?_, unshared_nil⟩, h1, h2, h3⟩
  · first | exact fun _ => rfl | (refine raisesW_false ?_; wrow_none_raised)
  · first | rfl | wrow_post
