import PyProof.Rows.All
import Wide.All
import OpenK.AllK
import Wide.FinOn
import Lean
import PySem.Challenge.RW_ic0008_01
set_option Elab.async false
set_option linter.all false
set_option genSizeOf false
set_option genInjectivity false
set_option maxRecDepth 100000
set_option genSizeOf false
set_option genInjectivity false
namespace Mine
open PySem PySem.W.Z

inductive AV where
  | none
  | bool (b : Bool)
  | int (i : Int)
  | tup (l : List AV)
  | loc (j : Nat)
  | sym (k : Nat)
  | script
  | clo (ps : Arguments) (body : List Stmt) (scope : Scope) (cells : List (Str × Nat))

inductive AObj where
  | list (l : List AV)
  | cell (o : Option AV)

inductive Sto where
  | nil
  | node (v : Option AObj) (l r : Sto)
noncomputable abbrev Lv := List (Str × AV)

inductive AFl where
  | next
  | ret (a : AV)

inductive AIt where
  | lst (j i : Nat)
  | tup (l : List AV)
  | rng (lo hi : Int)
  | rev (j n : Nat)

inductive Rs where
  | v (a : AV)
  | vs (l : List AV)
  | b (b : Bool)
  | fl (f : AFl)
  | it (i : AIt)
  | u

structure AEnv where
  scope : Scope
  cells : List (Str × Nat)
  defs : List (Pos × Str)

structure St where
  lv : Lv
  σ : Sto
  nx : Nat

structure Phi where
  first3 : Option (List AV)
  len : Option AV
  sum : Option AV
  head : Option AV
  mod : Nat → Int → Option AV
  min : Int → Nat → Option AV
  add : Int → Nat → Option AV
  le : Int → Nat → Option Bool

/-- a text as one number -/
noncomputable def codeL (l : List Nat) : Nat := @List.rec Nat (fun _ => Nat) 0 (fun c _ n => Nat.mul (Nat.add (Nat.mul 2 n) 1) (Nat.pow 2 c)) l
noncomputable def codeS (x : Str) : Nat := codeL x.cps.toList
noncomputable def seq (a b : Str) : Bool := Nat.beq (codeS a) (codeS b)
noncomputable def lookS {α : Type} (l : List (Str × α)) (x : Str) : Option α := @List.rec (Str × α) (fun _ => Option α) none (fun p _ ih => @Prod.rec Str α (fun _ => Option α) (fun n v => @Bool.rec (fun _ => Option α) ih (some v) (seq n x)) p) l
noncomputable def putS {R : Type} (l : Lv) (x : Str) (w : AV) (k : Lv → R) : R := @List.rec (Str × AV) (fun _ => (Lv → R) → R) (fun k => k [(x, w)]) (fun p r ih k => @Prod.rec Str AV (fun _ => R) (fun n v => @Bool.rec (fun _ => R) (ih fun r' => k ((n, v) :: r')) (k ((n, w) :: r)) (seq n x)) p) l k
noncomputable def lookN (σ : Sto) : Nat → Option AObj := @Sto.rec (fun _ => Nat → Option AObj) (fun _ => none) (fun v _ _ l r i => @Bool.rec (fun _ => Option AObj) (@Bool.rec (fun _ => Option AObj) (r (Nat.sub (Nat.div i 2) 1)) (l (Nat.div i 2)) (Nat.beq (Nat.mod i 2) 1)) v (Nat.beq i 0)) σ
noncomputable def putF {R : Type} (n : Nat) : Sto → Nat → AObj → (Sto → R) → R → R := @Nat.rec (fun _ => Sto → Nat → AObj → (Sto → R) → R → R) (fun _ _ _ _ no => no)
  (fun _ ih σ i o k no => @Sto.rec (fun _ => R)
    (@Bool.rec (fun _ => R) (@Bool.rec (fun _ => R) (ih .nil (Nat.sub (Nat.div i 2) 1) o (fun t => k (.node none .nil t)) no) (ih .nil (Nat.div i 2) o (fun t => k (.node none t .nil)) no) (Nat.beq (Nat.mod i 2) 1)) (k (.node (some o) .nil .nil)) (Nat.beq i 0))
    (fun v l r _ _ => @Bool.rec (fun _ => R) (@Bool.rec (fun _ => R) (ih r (Nat.sub (Nat.div i 2) 1) o (fun t => k (.node v l t)) no) (ih l (Nat.div i 2) o (fun t => k (.node v t r)) no) (Nat.beq (Nat.mod i 2) 1)) (k (.node (some o) l r)) (Nat.beq i 0)) σ) n
noncomputable def putN {R : Type} (σ : Sto) (i : Nat) (o : AObj) (k : Sto → Option R) : Option R := putF 40 σ i o k none

noncomputable def nNat {R : Type} (n : Nat) (k : Nat → R) : R := @Nat.rec (fun _ => R) (k 0) (fun m _ => k (Nat.succ m)) n
noncomputable def nInt {R : Type} (i : Int) (k : Int → R) : R := @Int.rec (fun _ => R) (fun n => nNat n fun m => k (.ofNat m)) (fun n => nNat n fun m => k (.negSucc m)) i
noncomputable def ints? : List AV → Option (List Int)
  | [] => some []
  | .int i :: r => match ints? r with
    | some l => some (i :: l)
    | none => none
  | _ :: _ => none

noncomputable def intsEq : List Int → List Int → Bool
  | [], [] => true
  | a :: r, b :: t => match eqB a b with
    | true => intsEq r t
    | false => false
  | [], _ :: _ => false
  | _ :: _, [] => false
noncomputable def intsLt : List Int → List Int → Bool
  | [], [] => false
  | [], _ :: _ => true
  | _ :: _, [] => false
  | a :: r, b :: t => match eqB a b with
    | true => intsLt r t
    | false => ltB a b

/-- == of flat things -/
noncomputable def eqF : AV → AV → Option Bool
  | .int a, .int b => some (eqB a b)
  | .none, .none => some true
  | .none, .tup l => match ints? l with
    | some _ => some false
    | none => none
  | .tup l, .none => match ints? l with
    | some _ => some false
    | none => none
  | .tup a, .tup b => match ints? a, ints? b with
    | some x, some y => some (intsEq x y)
    | _, _ => none
  | _, _ => none
noncomputable def eqFs : List AV → List AV → Option Bool
  | [], [] => some true
  | a :: r, b :: t => match eqF a b with
    | some true => eqFs r t
    | some false => some false
    | none => none
  | [], _ :: _ => some false
  | _ :: _, [] => some false
/-- a whole number, None, or a tuple of whole numbers -/
noncomputable def okF : AV → Bool
  | .int _ => true
  | .none => true
  | .tup l => match ints? l with
    | some _ => true
    | none => false
  | _ => false
noncomputable def okFs : List AV → Bool
  | [] => true
  | a :: r => match okF a with
    | true => okFs r
    | false => false
noncomputable def eqA (σ : Sto) : AV → AV → Option Bool
  | .loc i, .loc j => match lookN σ i, lookN σ j with
    | some (.list a), some (.list b) => match okFs a, okFs b with
      | true, true => eqFs a b
      | _, _ => none
    | _, _ => none
  | a, b => eqF a b
noncomputable def ltF : AV → AV → Option Bool
  | .int a, .int b => some (ltB a b)
  | .tup a, .tup b => match ints? a, ints? b with
    | some x, some y => some (intsLt x y)
    | _, _ => none
  | _, _ => none
noncomputable def inF : List AV → AV → Option Bool
  | [], _ => some false
  | a :: r, x => match eqF a x with
    | some true => some true
    | some false => inF r x
    | none => none

noncomputable def inA (l : List AV) (a : AV) : Option Bool := match okF a, okFs l with
  | true, true => inF l a
  | _, _ => none
noncomputable def shortN {α : Type} : Nat → List α → Bool
  | 0, _ => false
  | _ + 1, [] => true
  | n + 1, _ :: r => shortN n r
noncomputable def short {α : Type} (l : List α) : Bool := shortN 4097 l
noncomputable def few {α : Type} (l : List α) : Bool := shortN 20 l

/-- whole numbers in order -/
noncomputable def insZ (x : Int) : List Int → List Int
  | [] => [x]
  | y :: r => match leB x y with
    | true => x :: y :: r
    | false => y :: insZ x r
noncomputable def sortZ : List Int → List Int
  | [] => []
  | x :: r => insZ x (sortZ r)
/-- tuples in order, by the model's own way of asking -/
noncomputable def runT {α : Type} (lt : Nat → Nat → Option Bool) : PySem.W.KasT α → Option α
  | .ret a => some a
  | .ask i j k => match lt i j with
    | some b => runT lt (k b)
    | none => none
noncomputable def atL {α : Type} : List α → Nat → Option α
  | [], _ => none
  | a :: r, n => match n with
    | 0 => some a
    | m + 1 => atL r m
noncomputable def pick (l : List AV) : List Nat → Option (List AV)
  | [] => some []
  | i :: r => match atL l i, pick l r with
    | some a, some k => some (a :: k)
    | _, _ => none
noncomputable def sortT (l : List AV) : Option (List AV) := match runT (fun i j => match atL l i, atL l j with
    | some a, some b => ltF a b
    | _, _ => none) (PySem.W.kas_sort l.length) with
  | some p => pick l p.toList
  | none => none
noncomputable def okT : AV → Bool
  | .tup l => match ints? l with
    | some (_ :: _) => true
    | _ => false
  | _ => false
noncomputable def okTs : List AV → Bool
  | [] => true
  | a :: r => match okT a with
    | true => okTs r
    | false => false
noncomputable def sortA (l : List AV) : Option (List AV) := match shortN 64 l with
  | false => none
  | true => match ints? l with
    | some ns => some ((sortZ ns).map .int)
    | none => match l with
      | _ :: _ :: _ => match okTs l with
        | true => sortT l
        | false => none
      | _ => none

noncomputable def maxF : List Int → Int → Int
  | [], a => a
  | x :: r, a => match ltB a x with
    | true => maxF r x
    | false => maxF r a
noncomputable def minF : List Int → Int → Int
  | [], a => a
  | x :: r, a => match ltB x a with
    | true => minF r x
    | false => minF r a
noncomputable def sumF {R : Type} : List Int → Int → (Int → R) → R
  | [], a, k => k a
  | x :: r, a, k => nInt (a + x) fun b => sumF r b k

noncomputable def nth : List AV → Nat → Option AV
  | [], _ => none
  | a :: r, n => match n with
    | 0 => some a
    | m + 1 => nth r m
noncomputable def setAt : List AV → Nat → AV → Option (List AV)
  | [], _, _ => none
  | a :: r, n, x => match n with
    | 0 => some (x :: r)
    | m + 1 => match setAt r m x with
      | some l => some (a :: l)
      | none => none
noncomputable def insAt : List AV → Nat → AV → List AV
  | l, 0, x => x :: l
  | [], _ + 1, x => [x]
  | a :: r, n + 1, x => a :: insAt r n x
noncomputable def lenK {α R : Type} : List α → Nat → (Nat → R) → R
  | [], n, k => k n
  | _ :: r, n, k => nNat (n + 1) fun m => lenK r m k
noncomputable def appK {R : Type} : List AV → List AV → (List AV → R) → R
  | [], b, k => k b
  | x :: r, b, k => appK r b fun l => k (x :: l)
noncomputable def revK {R : Type} : List AV → List AV → (List AV → R) → R
  | [], b, k => k b
  | x :: r, b, k => revK r (x :: b) k
noncomputable def repl : Nat → AV → List AV
  | 0, _ => []
  | n + 1, a => a :: repl n a

/-- no place of the store is in it -/
noncomputable def flat : AV → Bool
  | .none => true
  | .bool _ => true
  | .int _ => true
  | .tup l => match ints? l with
    | some _ => true
    | none => false
  | _ => false
noncomputable def flats : List AV → Bool
  | [] => true
  | a :: r => match flat a with
    | true => flats r
    | false => false

structure FnInfo where
  ps : Arguments
  body : List Stmt
  scope : Scope

noncomputable def fnS : Stmt → Option (Str × FnInfo)
  | .FunctionDef n ps b _ _ _ sc _ _ _ => some (n, ⟨ps, b, sc⟩)
  | _ => none
noncomputable def fnsOf : List Stmt → List (Str × FnInfo)
  | [] => []
  | s :: r => match fnS s with
    | some p => p :: fnsOf r
    | none => fnsOf r
noncomputable def fnIn (l : List Stmt) (x : Str) : Option FnInfo := lookS (fnsOf l) x
noncomputable def intOf : PySem.Expr → Option Int
  | .Constant (.int i) _ _ => some i
  | _ => none
noncomputable def nameOf : PySem.Expr → Option Str
  | .Name n _ => some n
  | _ => none
noncomputable def constS : Stmt → Option (Str × Int)
  | .Assign ts e _ => match ts with
    | [t] => match nameOf t, intOf e with
      | some n, some i => some (n, i)
      | _, _ => none
    | _ => none
  | _ => none
noncomputable def constsOf : List Stmt → List (Str × Int)
  | [] => []
  | s :: r => match constS s with
    | some p => p :: constsOf r
    | none => constsOf r
noncomputable def constIn (l : List Stmt) (x : Str) : Option Int := lookS (constsOf l) x

noncomputable def kindS (sc : Scope) (x : Str) : Option NameKind := lookS sc.names x

inductive EV where
  | cint (i : Int) | cnone | cbool (b : Bool)
  | name (x : Str)
  | bin (l : PySem.Expr) (op : Operator) (r : PySem.Expr)
  | not (x : PySem.Expr)
  | andE (l : List PySem.Expr) | orE (l : List PySem.Expr)
  | ife (t a b : PySem.Expr)
  | cmp (l : PySem.Expr) (op : CmpOp) (r : PySem.Expr)
  | call (f : Str) (args : List PySem.Expr)
  | meth (o : PySem.Expr) (m : Str) (args : List PySem.Expr)
  | lst (es : List PySem.Expr) | tup (es : List PySem.Expr)
  | first3 (o : PySem.Expr)
  | sub (o i : PySem.Expr)
  | comp (elt t it : PySem.Expr) (ifs : List PySem.Expr) (sc : Scope)
  | other
inductive SV where
  | expr (e : PySem.Expr) | asg (t e : PySem.Expr) | ret (e : PySem.Expr) | ret0
  | ite (t : PySem.Expr) (a b : List Stmt) | whl (t : PySem.Expr) (b : List Stmt) | for_ (t it : PySem.Expr) (b : List Stmt)
  | def_ (x : Str) (ps : Arguments) (b : List Stmt) (sc : Scope) (pos : Pos)
  | other
inductive TV where
  | name (x : Str) | tup (ts : List PySem.Expr) | sub (o i : PySem.Expr) | other

noncomputable def isNone? {α : Type} : Option α → Bool
  | none => true
  | some _ => false
noncomputable def isI (k : Int) (e : PySem.Expr) : Bool := match intOf e with
  | some i => eqB i k
  | none => false
noncomputable def first3V (o : PySem.Expr) (a b c : Option PySem.Expr) : EV := match a, b, c with
  | none, some n, none => match isI 3 n with
    | true => .first3 o
    | false => .other
  | _, _, _ => .other
noncomputable def viewSub (o i : PySem.Expr) : EV := match i with
  | .Slice a b c _ => match c with
    | none =>
      first3V o a b c
    | some n =>
      .other
  | i =>
      .sub o i
noncomputable def viewE (e : PySem.Expr) : EV := match e with
  | .Constant c _ _ => match c with
    | .int i => .cint i
    | .none => .cnone
    | .bool b => .cbool b
    | _ => .other
  | .Name x _ => .name x
  | .BinOp l op r _ => .bin l op r
  | .UnaryOp op x _ => match op with
    | .Not => .not x
    | _ => .other
  | .BoolOp op l _ => match op with
    | .And => .andE l
    | .Or => .orE l
  | .IfExp t a b _ => .ife t a b
  | .Compare l ops rs _ => match ops, rs with
    | [op], [r] => .cmp l op r
    | _, _ => .other
  | .Call f args kw pos => match kw with
    | [] => match f with
      | .Name x _ => .call x args
      | .Attribute o m apos => match o with
        | .Name _ _ => match Nat.beq apos.endLine pos.line, few args with
          | true, true => .meth o m args
          | _, _ => .other
        | _ => .other
      | _ => .other
    | _ :: _ => .other
  | .List es _ => .lst es
  | .Tuple es _ _ => .tup es
  | .Subscript o i _ => viewSub o i
  | .ListComp elt gens sc _ => match gens with
    | [⟨t, it, ifs, a⟩] => match a with
      | .ofNat n => match Nat.beq n 0 with
        | true => .comp elt t it ifs sc
        | false => .other
      | .negSucc _ => .other
    | _ => .other
  | _ => .other
noncomputable def viewS (s : Stmt) : SV := match s with
  | .Expr e _ => match e with
    | .Call _ _ _ _ => .expr e
    | _ => .other
  | .Assign ts e _ => match ts with
    | [t] => .asg t e
    | _ => .other
  | .Return e _ => match e with
    | some e => .ret e
    | none => .ret0
  | .If t a b _ => .ite t a b
  | .While t b o _ => match o with
    | [] => .whl t b
    | _ :: _ => .other
  | .For t it b o _ => match o with
    | [] => .for_ t it b
    | _ :: _ => .other
  | .FunctionDef x ps b ds rt tp sc ts bind pos => match ds, rt, tp, ts, seq x bind with
    | [], none, [], none, true => .def_ x ps b sc pos
    | _, _, _, _, _ => .other
  | _ => .other
noncomputable def viewT (t : PySem.Expr) : TV := match t with
  | .Name x _ => .name x
  | .Tuple ts _ _ => .tup ts
  | .Subscript o i _ => .sub o i
  | _ => .other

/-- an answer that is a value -/
noncomputable abbrev Ans := Option (Rs × St)
noncomputable def val (a : AV) (s : St) : Ans := some (.v a, s)
noncomputable def valY (o : Option AV) (s : St) : Ans := match o with
  | some a => some (.v a, s)
  | none => none
noncomputable def valI (i : Int) (s : St) : Ans := nInt i fun j => some (.v (.int j), s)
noncomputable def valO (o : Option Bool) (s : St) : Ans := match o with
  | some b => some (.v (.bool b), s)
  | none => none
noncomputable def newL (l : List AV) (s : St) : Ans := match short l with
  | true => nNat (s.nx + 1) fun n => putN s.σ s.nx (.list l) fun σ => some (.v (.loc s.nx), ⟨s.lv, σ, n⟩)
  | false => none
noncomputable def putL {R : Type} (l : List AV) (σ : Sto) (j : Nat) (k : Sto → Option R) : Option R := match short l with
  | true => putN σ j (.list l) k
  | false => none
noncomputable def withσ (s : St) (σ : Sto) : St := ⟨s.lv, σ, s.nx⟩
noncomputable def natOf {R : Type} (i : Int) (no : R) (k : Nat → R) : R := @Int.rec (fun _ => R) k (fun _ => no) i
noncomputable def smallI (a : Int) : Bool := match a with
  | .ofNat n => Nat.ble n 4611686018427387904
  | .negSucc n => Nat.ble n 4611686018427387903
noncomputable def smallD (a : Int) : Bool := match a with
  | .ofNat n => Nat.ble n 1000000000
  | .negSucc _ => false
noncomputable def noI : Int → Int → St → Ans := fun _ _ _ => none
noncomputable def addI (a b : Int) (s : St) : Ans := valI (Int.add a b) s
noncomputable def subI (a b : Int) (s : St) : Ans := valI (Int.sub a b) s
noncomputable def mulI (a b : Int) (s : St) : Ans := @Bool.rec (fun _ => Ans) none (valI (Int.mul a b) s) (smallI a)
noncomputable def fdivI (a b : Int) (s : St) : Ans := match eqB b 0, smallD b with
    | false, true => valI (Int.fdiv a b) s
    | _, _ => none
noncomputable def modI (a b : Int) (s : St) : Ans := @Bool.rec (fun _ => Ans) (valI (Int.fmod a b) s) none (eqB b 0)
noncomputable def shlI (a b : Int) (s : St) : Ans := natOf b none fun y => match Nat.ble y 1000, smallI a with
    | true, true => valI (a * 2 ^ y) s
    | _, _ => none
noncomputable def shrI (a b : Int) (s : St) : Ans := natOf b none fun y => match Nat.ble y 1000 with
    | true => valI (Int.fdiv a (2 ^ y)) s
    | false => none
noncomputable def xorI (a b : Int) (s : St) : Ans := valI (PySem.Builtin.bitXor a b) s
noncomputable def binI (op : Operator) : Int → Int → St → Ans := @Operator.rec (fun _ => Int → Int → St → Ans) addI subI mulI noI noI modI
   noI
  shlI shrI noI xorI noI fdivI op
noncomputable def modS (Φ : Phi) (op : Operator) (k : Nat) (m : Int) (s : St) : Ans := match op with
  | .Mod => match Φ.mod k m with
    | some v => val v s
    | none => none
  | _ => none
noncomputable def mulL (op : Operator) (j : Nat) (n : Int) (s : St) : Ans := match op with
  | .Mult => match lookN s.σ j with
    | some (.list [x]) => natOf n none fun n => match Nat.ble n 1000 with
      | true => newL (repl n x) s
      | false => none
    | _ => none
  | _ => none
noncomputable def binInt (Φ : Phi) (op : Operator) (b : AV) (s : St) (x : Int) : Ans := @AV.rec (fun _ => Ans) (fun _ => PUnit) none (fun _ => none) (fun y => binI op x y s) (fun _ _ => none) (fun _ => none) 
   (fun _ => none)
  none (fun _ _ _ _ => none) ⟨⟩ (fun _ _ _ _ => ⟨⟩) b
noncomputable def binSym (Φ : Phi) (op : Operator) (b : AV) (s : St) (k : Nat) : Ans := match b with
  | .int m => modS Φ op k m s
  | _ => none
noncomputable def binLoc (op : Operator) (b : AV) (s : St) (j : Nat) : Ans := match b with
  | .int n => mulL op j n s
  | _ => none
noncomputable def binA (Φ : Phi) (op : Operator) (a b : AV) (s : St) : Ans := @AV.rec (fun _ => Ans) (fun _ => PUnit) none (fun _ => none) (binInt Φ op b s) (fun _ _ => none) (binLoc op b s) (binSym Φ op b s) none (fun _ _ _ _ => none) ⟨⟩ (fun _ _ _ _ => ⟨⟩) a
noncomputable def cmpI (op : CmpOp) (a b : Int) : Option Bool := match op with
  | .Eq => some (eqB a b)
  | .NotEq => some (!eqB a b)
  | .Lt => some (ltB a b)
  | .LtE => some (leB a b)
  | .Gt => some (ltB b a)
  | .GtE => some (leB b a)
  | _ => none
noncomputable def nott : Option Bool → Option Bool
  | some b => some (!b)
  | none => none
noncomputable def isA (a b : AV) : Option Bool := match b with
  | .none => match a with
    | .none => some true
    | .int _ => some false
    | .tup _ => some false
    | .loc _ => some false
    | _ => none
  | _ => none
noncomputable def inB (σ : Sto) (a b : AV) : Option Bool := match b with
  | .loc j => match lookN σ j with
    | some (.list l) => inA l a
    | _ => none
  | _ => none
noncomputable def leA (Φ : Phi) (a b : AV) : Option Bool := match a, b with
  | .int x, .int y => cmpI .LtE x y
  | _, _ => none
noncomputable def ordA (op : CmpOp) (a b : AV) : Option Bool := match a, b with
  | .int x, .int y => cmpI op x y
  | _, _ => none
noncomputable def cmpA (Φ : Phi) (op : CmpOp) (a b : AV) (σ : Sto) : Option Bool := match op with
  | .Is => isA a b
  | .IsNot => none
  | .In => inB σ a b
  | .NotIn => nott (inB σ a b)
  | .Eq => eqA σ a b
  | .NotEq => nott (eqA σ a b)
  | .LtE => leA Φ a b
  | .Lt => ltF a b
  | .Gt => ordA .Gt a b
  | .GtE => ordA .GtE a b
noncomputable def truthA (σ : Sto) : AV → Option Bool
  | .bool b => some b
  | .int i => some (!eqB i 0)
  | .none => some false
  | .loc j => match lookN σ j with
    | some (.list []) => some false
    | some (.list (_ :: _)) => some true
    | _ => none
  | _ => none

noncomputable def bitLen (n : Nat) : Nat := match n with
  | 0 => 0
  | m + 1 => Nat.log2 (m + 1) + 1

inductive BI where
  | len | min | max | sum | sorted | tuple | abs | divmod
noncomputable def biTab : List (Str × BI) := [(Str.ofString "len", .len), (Str.ofString "min", .min), (Str.ofString "max", .max), (Str.ofString "sum", .sum), (Str.ofString "sorted", .sorted), (Str.ofString "tuple", .tuple), (Str.ofString "abs", .abs), (Str.ofString "divmod", .divmod)]
noncomputable def biIn (x : Str) : Option BI := lookS biTab x
inductive MI where
  | append | extend | reverse | insert | bitlen
noncomputable def miTab : List (Str × MI) := [(Str.ofString "append", .append), (Str.ofString "extend", .extend), (Str.ofString "reverse", .reverse), (Str.ofString "insert", .insert), (Str.ofString "bit_length", .bitlen)]
noncomputable def miIn (x : Str) : Option MI := lookS miTab x

noncomputable def lenA (Φ : Phi) (args : List AV) (s : St) : Ans := match args with
  | [.loc j] => match lookN s.σ j with
    | some (.list l) => lenK l 0 fun n => val (.int (.ofNat n)) s
    | _ => none
  | [.script] => valY Φ.len s
  | _ => none
noncomputable def sumA (Φ : Phi) (args : List AV) (s : St) : Ans := match args with
  | [.loc j] => match lookN s.σ j with
    | some (.list l) => match ints? l with
      | some xs => sumF xs 0 fun i => val (.int i) s
      | none => none
    | _ => none
  | _ => none
noncomputable def maxA (args : List AV) (s : St) : Ans := match args with
  | [.tup l] => match ints? l with
    | some (x :: r) => val (.int (maxF r x)) s
    | _ => none
  | _ => none
noncomputable def minA (Φ : Phi) (args : List AV) (s : St) : Ans := match args with
  | [.int a, .int b] => val (.int (minF [b] a)) s
  | [.int a, .sym k] => match Φ.min a k with
    | some v => val v s
    | none => none
  | _ => none
noncomputable def sortedA (args : List AV) (s : St) : Ans := match args with
  | [.loc j] => match lookN s.σ j with
    | some (.list l) => match sortA l with
      | some r => newL r s
      | none => none
    | _ => none
  | _ => none
noncomputable def tupleA (args : List AV) (s : St) : Ans := match args with
  | [.loc j] => match lookN s.σ j with
    | some (.list l) => val (.tup l) s
    | _ => none
  | _ => none
noncomputable def divmodA (args : List AV) (s : St) : Ans := match args with
  | [.int a, .int b] => match eqB b 0, smallD b with
    | true, _ => none
    | false, false => none
    | false, true => nInt (Int.fdiv a b) fun q => nInt (Int.fmod a b) fun r => val (.tup [.int q, .int r]) s
  | _ => none
noncomputable def callB (Φ : Phi) (b : BI) (args : List AV) (s : St) : Ans := match b with
  | .len => lenA Φ args s
  | .sum => sumA Φ args s
  | .max => maxA args s
  | .min => minA Φ args s
  | .sorted => sortedA args s
  | .tuple => tupleA args s
  | .abs => none
  | .divmod => divmodA args s

noncomputable def bitlenM (o : AV) (args : List AV) (s : St) : Ans := match o, args with
  | .int i, [] => match i with
    | .ofNat n => valI (.ofNat (bitLen n)) s
    | .negSucc _ => none
  | _, _ => none
noncomputable def appendM (o : AV) (args : List AV) (s : St) : Ans := match o, args with
  | .loc j, [x] => match lookN s.σ j with
    | some (.list l) => appK l [x] fun l' => putL l' s.σ j fun σ => val .none (withσ s σ)
    | _ => none
  | _, _ => none
noncomputable def extendM (o : AV) (args : List AV) (s : St) : Ans := match o, args with
  | .loc j, [.loc i] => match lookN s.σ j, lookN s.σ i with
    | some (.list l), some (.list k) => appK l k fun l' => putL l' s.σ j fun σ => val .none (withσ s σ)
    | _, _ => none
  | _, _ => none
noncomputable def reverseM (o : AV) (args : List AV) (s : St) : Ans := match o, args with
  | .loc j, [] => match lookN s.σ j with
    | some (.list l) => revK l [] fun l' => putL l' s.σ j fun σ => val .none (withσ s σ)
    | _ => none
  | _, _ => none
noncomputable def insertM (o : AV) (args : List AV) (s : St) : Ans := match o, args with
  | .loc j, [.int i, x] => match lookN s.σ j with
    | some (.list l) => natOf i none fun n => match Nat.ble n 4096 with
      | true => putL (insAt l n x) s.σ j fun σ => val .none (withσ s σ)
      | false => none
    | _ => none
  | _, _ => none
noncomputable def callM (m : MI) (o : AV) (args : List AV) (s : St) : Ans := match m with
  | .bitlen => bitlenM o args s
  | .append => appendM o args s
  | .extend => extendM o args s
  | .reverse => reverseM o args s
  | .insert => insertM o args s

noncomputable def itemA (o i : AV) (s : St) : Ans := match o, i with
  | .tup l, .int i => natOf i none fun n => match Nat.ble n 4096, nth l n with
    | true, some v => val v s
    | _, _ => none
  | .loc j, .int i => match lookN s.σ j with
    | some (.list l) => natOf i none fun n => match nth l n with
      | some v => val v s
      | none => none
    | _ => none
  | _, _ => none

noncomputable def nextA (σ : Sto) : AIt → Option (Option (AV × AIt))
  | .lst j i => match lookN σ j with
    | some (.list l) => match nth l i with
      | some v => some (some (v, .lst j (i + 1)))
      | none => some none
    | _ => none
  | .tup [] => some none
  | .tup (a :: r) => some (some (a, .tup r))
  | .rng lo hi => match ltB lo hi with
    | true => nInt (lo + 1) fun n => some (some (.int lo, .rng n hi))
    | false => some none
  | .rev j n => match n with
    | 0 => some none
    | m + 1 => match lookN σ j with
      | some (.list l) => match nth l m with
        | some v => some (some (v, .rev j m))
        | none => none
      | _ => none

noncomputable def itOf (s : St) : AV → Option AIt
  | .loc j => match lookN s.σ j with
    | some (.list _) => some (.lst j 0)
    | _ => none
  | .tup l => some (.tup l)
  | _ => none

noncomputable abbrev CB := FnInfo → List (Str × Nat) → List AV → Sto → Nat → Option (AV × Sto × Nat)

/-- the cells of a def's own: one a name that is a cell -/
noncomputable def cellsOf {R : Type} : List (Str × NameKind) → Lv → List (Str × Nat) → Sto → Nat → (List (Str × Nat) → Sto → Nat → Option R) → Option R
  | [], _, cl, σ, nx, k => k cl σ nx
  | p :: r, bs, cl, σ, nx, k => match p.2 with
    | .cell => nNat (nx + 1) fun n => putN σ nx (.cell (lookS bs p.1)) fun σ' => cellsOf r bs ((p.1, nx) :: cl) σ' n k
    | _ => cellsOf r bs cl σ nx k
noncomputable def localsOf : List (Str × NameKind) → Lv → Option Lv
  | _, [] => some []
  | names, p :: r => match lookS names p.1, localsOf names r with
    | some .local, some l => some (p :: l)
    | some .cell, some l => some l
    | _, _ => none
noncomputable def constA : PySem.Expr → Option AV
  | .Constant (.int i) _ _ => some (.int i)
  | .Constant .none _ _ => some .none
  | _ => none
noncomputable def bindPos : List Arg → List AV → Option (Lv × List Arg)
  | as, [] => some ([], as)
  | [], _ :: _ => none
  | a :: as, v :: vs => match bindPos as vs with
    | some (l, r) => some ((a.arg, v) :: l, r)
    | none => none
noncomputable def bindD : List Arg → List PySem.Expr → Option Lv
  | [], [] => some []
  | a :: as, e :: es => match constA e, bindD as es with
    | some v, some l => some ((a.arg, v) :: l)
    | _, _ => none
  | _, _ => none
noncomputable def bindK : List Arg → List (Option PySem.Expr) → Option Lv
  | [], [] => some []
  | a :: as, some e :: es => match constA e, bindK as es with
    | some v, some l => some ((a.arg, v) :: l)
    | _, _ => none
  | _, _ => none
noncomputable def lastN {α : Type} (l : List α) (n : Nat) : List α := l.drop (l.length - n)
noncomputable def binds (ps : Arguments) (args : List AV) : Option Lv := match ps with
  | ⟨[], as, .none, ko, kd, .none, ds⟩ => match bindPos as args with
    | some (l, rest) => match bindD rest (lastN ds rest.length), bindK ko kd with
      | some d, some k => some (l ++ d ++ k)
      | _, _ => none
    | none => none
  | _ => none

/-- the cells that a block of its own (a comprehension, a def) takes from around -/
noncomputable def freeOf : List (Str × NameKind) → List (Str × Nat) → Option (List (Str × Nat))
  | [], _ => some []
  | p :: r, cl => match p.2 with
    | .free => match lookS cl p.1, freeOf r cl with
      | some j, some l => some ((p.1, j) :: l)
      | _, _ => none
    | _ => freeOf r cl

noncomputable def kindOk (k : NameKind) : Bool := match k with
  | .globalExplicit => false
  | _ => true
noncomputable def noName : List (Str × NameKind) → Str → Bool
  | [], _ => true
  | p :: r, x => match seq p.1 x with
    | true => false
    | false => noName r x
noncomputable def oddName (x : Str) : Bool := match seq (Str.ofString "__debug__") x with
  | true => true
  | false => seq (Str.ofString "__classdict__") x
noncomputable def namesOk : List (Str × NameKind) → Bool
  | [] => true
  | p :: r => match kindOk p.2, noName r p.1, oddName p.1 with
    | true, true, false => namesOk r
    | _, _, _ => false
noncomputable def noCells : List (Str × NameKind) → Bool
  | [] => true
  | p :: r => match p.2 with
    | .cell => false
    | _ => noCells r
noncomputable def noArg : List Arg → Str → Bool
  | [], _ => true
  | a :: r, x => match seq a.arg x with
    | true => false
    | false => noArg r x
noncomputable def nodupArgs : List Arg → Bool
  | [] => true
  | a :: r => match noArg r a.arg with
    | true => nodupArgs r
    | false => false
noncomputable def plainPs : Arguments → Bool
  | ⟨[], as, .none, [], [], .none, []⟩ => nodupArgs as
  | _ => false
noncomputable def notC1 : PySem.Expr → Bool
  | .Name x _ => match oddName x with
    | true => false
    | false => true
  | .Call .. => true
  | .List .. => true
  | _ => false
noncomputable def notC : PySem.Expr → Bool
  | .Subscript v _ _ => notC1 v
  | e => notC1 e
noncomputable def notCs : List PySem.Expr → Bool
  | [] => false
  | e :: r => match notC e with
    | true => true
    | false => notCs r
noncomputable def scOk (sc : Scope) : Bool := match sc.kind, sc.isGenerator, sc.isCoroutine with
  | .function, false, false => namesOk sc.names
  | _, _, _ => false
noncomputable def posEq (a b : Pos) : Bool := match Nat.beq a.line b.line, Nat.beq a.endLine b.endLine, Nat.beq a.col b.col, Nat.beq a.endCol b.endCol with
  | true, true, true, true => true
  | _, _, _, _ => false
noncomputable def defIn : List (Pos × Str) → Pos → Str → Bool
  | [], _, _ => false
  | p :: r, pos, x => match posEq p.1 pos, seq p.2 x with
    | true, true => true
    | _, _ => defIn r pos x
/-- the defs of a body, each with its place -/
noncomputable def defsOf : List Stmt → List (Pos × Str)
  | [] => []
  | s :: r => match s with
    | .FunctionDef x _ _ _ _ _ _ _ _ pos => (pos, x) :: defsOf r
    | _ => defsOf r
noncomputable def noAnns : List Arg → Bool
  | [] => true
  | a :: r => match a with
    | ⟨_, none, _⟩ => noAnns r
    | _ => false
noncomputable def noDoc : List Stmt → Bool
  | .Expr (.Constant _ _ _) _ :: _ => false
  | _ => true
/-- a def that has neither given values nor notes nor words of its own nor defs within -/
noncomputable def defOk (ps : Arguments) (b : List Stmt) : Bool := match plainPs ps, noAnns ps.args, noDoc b, defsOf b with
  | true, true, true, [] => true
  | _, _, _, _ => false
inductive Tk where
  | ev (e : PySem.Expr)
  | evs (l : List PySem.Expr)
  | tr (e : PySem.Expr)
  | ats (isAnd : Bool) (l : List PySem.Expr)
  | bop (isAnd : Bool) (l : List PySem.Expr)
  | ex (s : Stmt)
  | exs (l : List Stmt)
  | asg (t : PySem.Expr) (a : AV)
  | asgs (ts : List PySem.Expr) (l : List AV)
  | loop (t : PySem.Expr) (it : AIt) (body : List Stmt)
  | whl (t : PySem.Expr) (body : List Stmt)
  | iter (e : PySem.Expr)
  | comp (elt t : PySem.Expr) (ifs : List PySem.Expr) (it : AIt) (acc : List AV)
  | tests (ifs : List PySem.Expr)

section
variable (body : List Stmt) (Φ : Phi) (cb cb0 : CB) (self : Tk → AEnv → St → Ans)

noncomputable def thenV (r : Ans) (k : AV → St → Ans) : Ans := @Option.rec (Rs × St) (fun _ => Ans) none (fun p => @Prod.rec Rs St (fun _ => Ans) (fun x s => @Rs.rec (fun _ => Ans) (fun a => k a s) (fun _ => none) (fun _ => none) (fun _ => none) (fun _ => none) none x) p) r
noncomputable def thenVs (r : Ans) (k : List AV → St → Ans) : Ans := @Option.rec (Rs × St) (fun _ => Ans) none (fun p => @Prod.rec Rs St (fun _ => Ans) (fun x s => @Rs.rec (fun _ => Ans) (fun _ => none) (fun a => k a s) (fun _ => none) (fun _ => none) (fun _ => none) none x) p) r
noncomputable def thenB (r : Ans) (k : Bool → St → Ans) : Ans := @Option.rec (Rs × St) (fun _ => Ans) none (fun p => @Prod.rec Rs St (fun _ => Ans) (fun x s => @Rs.rec (fun _ => Ans) (fun _ => none) (fun _ => none) (fun a => k a s) (fun _ => none) (fun _ => none) none x) p) r
noncomputable def thenI (r : Ans) (k : AIt → St → Ans) : Ans := @Option.rec (Rs × St) (fun _ => Ans) none (fun p => @Prod.rec Rs St (fun _ => Ans) (fun x s => @Rs.rec (fun _ => Ans) (fun _ => none) (fun _ => none) (fun _ => none) (fun _ => none) (fun a => k a s) none x) p) r
noncomputable def thenF (r : Ans) (k : AFl → St → Ans) : Ans := @Option.rec (Rs × St) (fun _ => Ans) none (fun p => @Prod.rec Rs St (fun _ => Ans) (fun x s => @Rs.rec (fun _ => Ans) (fun _ => none) (fun _ => none) (fun _ => none) (fun a => k a s) (fun _ => none) none x) p) r
noncomputable def thenU (r : Ans) (k : St → Ans) : Ans := @Option.rec (Rs × St) (fun _ => Ans) none (fun p => @Prod.rec Rs St (fun _ => Ans) (fun x s => @Rs.rec (fun _ => Ans) (fun _ => none) (fun _ => none) (fun _ => none) (fun _ => none) (fun _ => none) (k s) x) p) r

noncomputable def callF (fi : FnInfo) (cl : List (Str × Nat)) (args : List AV) (s : St) : Ans := match cb fi cl args s.σ s.nx with
  | some (a, σ, n) => some (.v a, ⟨s.lv, σ, n⟩)
  | none => none
noncomputable def callP (fi : FnInfo) (args : List AV) (s : St) : Ans := match flats args with
  | true => match cb0 fi [] args .nil 0 with
    | some (a, _, _) => match flat a with
      | true => some (.v a, s)
      | false => callF cb fi [] args s
    | none => none
  | false => callF cb fi [] args s

noncomputable def locA (x : Str) (s : St) : Ans := @Option.rec AV (fun _ => Ans) none (fun v => some (.v v, s)) (lookS s.lv x)
noncomputable def cellV (σ : Sto) (j : Nat) (s : St) : Ans := match lookN σ j with
  | some (.cell (some v)) => some (.v v, s)
  | _ => none
noncomputable def cellA (x : Str) (E : AEnv) (s : St) : Ans := @Option.rec Nat (fun _ => Ans) none (fun j => cellV s.σ j s) (lookS E.cells x)
noncomputable def globA (x : Str) (s : St) : Ans := @Option.rec Int (fun _ => Ans) none (fun i => some (.v (.int i), s)) (constIn body x)
noncomputable def stepName (x : Str) (E : AEnv) (s : St) : Ans := @Option.rec NameKind (fun _ => Ans) none (fun k => @NameKind.rec (fun _ => Ans) (locA x s) (cellA x E s) (cellA x E s) none (globA body x s) k) (kindS E.scope x)
noncomputable def stepCall (f : Str) (args : List PySem.Expr) (E : AEnv) (s : St) : Ans := match kindS E.scope f with
  | some .globalImplicit => match fnIn body f with
    | some fi => thenVs (self (.evs args) E s) fun l s => callP cb cb0 fi l s
    | none => match biIn f with
      | some b => thenVs (self (.evs args) E s) fun l s => callB Φ b l s
      | none => none
  | some .cell => thenV (stepName body f E s) fun c s => match c with
    | .clo ps b sc cl => thenVs (self (.evs args) E s) fun l s => callF cb ⟨ps, b, sc⟩ cl l s
    | _ => none
  | some .free => thenV (stepName body f E s) fun c s => match c with
    | .clo ps b sc cl => thenVs (self (.evs args) E s) fun l s => callF cb ⟨ps, b, sc⟩ cl l s
    | _ => none
  | _ => none

noncomputable def evBin (l : PySem.Expr) (op : Operator) (r : PySem.Expr) (E : AEnv) (s : St) : Ans := thenV (self (.ev l) E s) fun a s => thenV (self (.ev r) E s) fun b s => binA Φ op a b s
noncomputable def evIfe (t a b : PySem.Expr) (E : AEnv) (s : St) : Ans := thenB (self (.tr t) E s) fun c s => match c with
  | true => self (.ev a) E s
  | false => self (.ev b) E s
noncomputable def evCmp (l : PySem.Expr) (op : CmpOp) (r : PySem.Expr) (E : AEnv) (s : St) : Ans := thenV (self (.ev l) E s) fun a s => thenV (self (.ev r) E s) fun b s => valO (cmpA Φ op a b s.σ) s
noncomputable def baseOk (σ : Sto) (a : AV) : Bool := match a with
  | .loc j => match lookN σ j with
    | some (.list _) => true
    | _ => false
  | _ => true
noncomputable def evMeth (o : PySem.Expr) (m : Str) (args : List PySem.Expr) (E : AEnv) (s : St) : Ans := match miIn m with
  | some mi => thenV (self (.ev o) E s) fun a s => match baseOk s.σ a with
    | true => thenVs (self (.evs args) E s) fun l s => callM mi a l s
    | false => none
  | none => none
noncomputable def evLst (es : List PySem.Expr) (E : AEnv) (s : St) : Ans := thenVs (self (.evs es) E s) newL
noncomputable def newT (l : List AV) (s : St) : Ans := match short l with
  | true => val (.tup l) s
  | false => none
noncomputable def evTup (es : List PySem.Expr) (E : AEnv) (s : St) : Ans := thenVs (self (.evs es) E s) newT
noncomputable def first3A (a : AV) (s : St) : Ans := match a with
  | .script => match Φ.first3 with
    | some l => newL l s
    | none => none
  | _ => none
noncomputable def evSub (o i : PySem.Expr) (E : AEnv) (s : St) : Ans := thenV (self (.ev o) E s) fun a s => thenV (self (.ev i) E s) fun b s => itemA a b s
noncomputable def endComp (lv : Lv) (r : Ans) : Ans := match r with
  | some (.vs l, s') => newL l ⟨lv, s'.σ, s'.nx⟩
  | _ => none
noncomputable def evComp (elt t it : PySem.Expr) (ifs : List PySem.Expr) (sc : Scope) (E : AEnv) (s : St) : Ans := thenI (self (.iter it) E s) fun i s => match scOk sc, noCells sc.names, freeOf sc.names E.cells with
  | true, true, some cl => endComp s.lv (self (.comp elt t ifs i []) ⟨sc, cl, []⟩ ⟨[], s.σ, s.nx⟩)
  | _, _, _ => none
noncomputable def itA (a : AV) (s : St) : Ans := match itOf s a with
  | some i => some (.it i, s)
  | none => none
noncomputable def rangeA (l : List AV) (s : St) : Ans := match l with
  | [.int hi] => match smallD hi with
    | true => some (.it (.rng 0 hi), s)
    | false => none
  | [.int lo, .int hi] => match smallD lo, smallD hi with
    | true, true => some (.it (.rng lo hi), s)
    | _, _ => none
  | _ => none
noncomputable def reversedA (l : List AV) (s : St) : Ans := match l with
  | [.loc j] => match lookN s.σ j with
    | some (.list l) => lenK l 0 fun n => some (.it (.rev j n), s)
    | _ => none
  | _ => none
inductive IV where
  | range (f : Str) (args : List PySem.Expr) | reversed (f : Str) (args : List PySem.Expr) | gen
noncomputable def viewI (e : PySem.Expr) : IV := match viewE e with
  | .call f args => match seq (Str.ofString "range") f with
    | true => .range f args
    | false => match seq (Str.ofString "reversed") f with
      | true => .reversed f args
      | false => .gen
  | _ => .gen
noncomputable def stepIter (e : PySem.Expr) (E : AEnv) (s : St) : Ans := match viewI e with
  | .range f args => match kindS E.scope f with
    | some .globalImplicit => thenVs (self (.evs args) E s) rangeA
    | _ => none
  | .reversed f args => match kindS E.scope f with
    | some .globalImplicit => thenVs (self (.evs args) E s) reversedA
    | _ => none
  | .gen => thenV (self (.ev e) E s) itA

noncomputable def trA (a : AV) (s : St) : Ans := match truthA s.σ a with
  | some c => some (.b c, s)
  | none => none
noncomputable def trCmp (l : PySem.Expr) (op : CmpOp) (r : PySem.Expr) (E : AEnv) (s : St) : Ans := thenV (self (.ev l) E s) fun a s => thenV (self (.ev r) E s) fun b s => match cmpA Φ op a b s.σ with
  | some c => some (.b c, s)
  | none => none
inductive RV where
  | andE (l : List PySem.Expr) | orE (l : List PySem.Expr) | not (x : PySem.Expr) | cmp (l : PySem.Expr) (op : CmpOp) (r : PySem.Expr) | gen | other
noncomputable def viewR (e : PySem.Expr) : RV := match viewE e with
  | .andE l => .andE l
  | .orE l => .orE l
  | .not x => .not x
  | .cmp l op r => .cmp l op r
  | .ife _ _ _ => .other
  | _ => .gen
noncomputable def trNot (x : PySem.Expr) (E : AEnv) (s : St) : Ans := thenB (self (.tr x) E s) fun b s => some (.b (!b), s)
noncomputable def trGen (e : PySem.Expr) (E : AEnv) (s : St) : Ans := thenV (self (.ev e) E s) trA
noncomputable def stepAts (isAnd : Bool) (l : List PySem.Expr) (E : AEnv) (s : St) : Ans := match l with
  | [] => some (.b isAnd, s)
  | x :: r => thenB (self (.tr x) E s) fun b s => match isAnd, b with
    | true, false => some (.b false, s)
    | false, true => some (.b true, s)
    | _, _ => self (.ats isAnd r) E s

noncomputable def stepBop (isAnd : Bool) (l : List PySem.Expr) (E : AEnv) (s : St) : Ans := match l with
  | [] => none
  | x :: r => match r with
    | [] => self (.ev x) E s
    | _ :: _ => thenV (self (.ev x) E s) fun a s => match truthA s.σ a with
      | some b => match isAnd, b with
        | true, false => val a s
        | false, true => val a s
        | _, _ => self (.bop isAnd r) E s
      | none => none

noncomputable def stepEvs (l : List PySem.Expr) : AEnv → St → Ans := @List.rec PySem.Expr (fun _ => AEnv → St → Ans) (fun _ s => some (.vs [], s)) (fun e r _ E s => thenV (self (.ev e) E s) fun a s => thenVs (self (.evs r) E s) fun l s => some (.vs (a :: l), s)) l
noncomputable def putCell (x : Str) (a : AV) (E : AEnv) (s : St) : Ans := match lookS E.cells x with
    | some j => match lookN s.σ j with
      | some (.cell _) => putN s.σ j (.cell (some a)) fun σ => some (.u, withσ s σ)
      | _ => none
    | none => none
noncomputable def putName (x : Str) (a : AV) (E : AEnv) (s : St) : Ans := @Option.rec NameKind (fun _ => Ans) none (fun k => @NameKind.rec (fun _ => Ans) (putS s.lv x a fun lv => some (.u, ⟨lv, s.σ, s.nx⟩)) (putCell x a E s) none none none k) (kindS E.scope x)
noncomputable def unpA (ts : List PySem.Expr) (a : AV) (E : AEnv) (s : St) : Ans := match a with
  | .tup l => self (.asgs ts l) E s
  | .loc j => match lookN s.σ j with
    | some (.list l) => self (.asgs ts l) E s
    | _ => none
  | _ => none
noncomputable def setA (a b c : AV) (s : St) : Ans := match b, c with
  | .loc j, .int i => match lookN s.σ j with
    | some (.list l) => natOf i none fun n => match setAt l n a with
      | some l' => putL l' s.σ j fun σ => some (.u, withσ s σ)
      | none => none
    | _ => none
  | _, _ => none
noncomputable def asgSub (a : AV) (o i : PySem.Expr) (E : AEnv) (s : St) : Ans := thenV (self (.ev o) E s) fun b s => thenV (self (.ev i) E s) fun c s => setA a b c s
noncomputable def stepAsg (t : PySem.Expr) (a : AV) : AEnv → St → Ans := @TV.rec (fun _ => AEnv → St → Ans) (fun x => putName x a) (fun ts => unpA self ts a) (asgSub self a) (fun _ _ => none) (viewT t)
noncomputable def stepAsgs (ts : List PySem.Expr) (l : List AV) (E : AEnv) (s : St) : Ans := match ts, l with
  | [], [] => some (.u, s)
  | t :: ts, a :: l => thenU (self (.asg t a) E s) fun s => self (.asgs ts l) E s
  | _, _ => none

noncomputable def exIf (t : PySem.Expr) (a b : List Stmt) (E : AEnv) (s : St) : Ans := thenB (self (.tr t) E s) fun c s => match c with
  | true => self (.exs a) E s
  | false => self (.exs b) E s
noncomputable def putNames (E : AEnv) : List PySem.Expr → List AV → St → Ans
  | [], [], s => some (.u, s)
  | t :: ts, a :: l, s => match t with
    | .Name x _ => thenU (putName x a E s) fun s => putNames E ts l s
    | _ => none
  | _, _, _ => none
noncomputable def putTup (E : AEnv) (ts : List PySem.Expr) (a : AV) (s : St) : Ans := match a with
  | .tup l => thenU (putNames E ts l s) fun s => some (.fl .next, s)
  | _ => none
noncomputable def noTgt : List PySem.Expr → Str → Bool
  | [], _ => true
  | t :: r, x => match t with
    | .Name y _ => match seq y x with
      | true => false
      | false => noTgt r x
    | _ => false
noncomputable def nodupT : List PySem.Expr → Bool
  | [] => true
  | t :: r => match t with
    | .Name y _ => match noTgt r y with
      | true => nodupT r
      | false => false
    | _ => false
inductive WV where
  | names (ts vs : List PySem.Expr) | comp (elt t it : PySem.Expr) (ifs : List PySem.Expr) (sc : Scope) | gen
noncomputable def viewW (t e : PySem.Expr) : WV := match t with
  | .Name _ _ => match viewE e with
    | .comp elt tt it ifs sc => .comp elt tt it ifs sc
    | _ => .gen
  | .Tuple ts _ _ => match e with
    | .Tuple vs _ _ => .names ts vs
    | _ => .gen
  | _ => .gen
noncomputable def asgNames (ts vs : List PySem.Expr) (e : PySem.Expr) (E : AEnv) (s : St) : Ans := match notCs vs, nodupT ts with
    | true, true => thenV (self (.ev e) E s) fun a s => putTup E ts a s
    | _, _ => none
noncomputable def asgComp (elt tt it : PySem.Expr) (ifs : List PySem.Expr) (sc : Scope) (t : PySem.Expr) (E : AEnv) (s : St) : Ans := thenV (evComp self elt tt it ifs sc E s) fun a s => thenU (self (.asg t a) E s) fun s => some (.fl .next, s)
noncomputable def asgGen (t e : PySem.Expr) (E : AEnv) (s : St) : Ans := thenV (self (.ev e) E s) fun a s => thenU (self (.asg t a) E s) fun s => some (.fl .next, s)
noncomputable def exAsg (t e : PySem.Expr) : AEnv → St → Ans := @WV.rec (fun _ => AEnv → St → Ans) (fun ts vs => asgNames self ts vs e) (fun elt tt it ifs sc => asgComp self elt tt it ifs sc t) (asgGen self t e) (viewW t e)
noncomputable def exDef (x : Str) (ps : Arguments) (b : List Stmt) (sc : Scope) (pos : Pos) (E : AEnv) (s : St) : Ans := match defIn E.defs pos x, defOk ps b with
  | true, true => match freeOf sc.names E.cells, scOk sc with
    | some cl, true => thenU (putName x (.clo ps b sc cl) E s) fun s => some (.fl .next, s)
    | _, _ => none
  | _, _ => none
noncomputable def exExpr (e : PySem.Expr) (E : AEnv) (s : St) : Ans := thenV (self (.ev e) E s) fun _ s => some (.fl .next, s)
noncomputable def exRet (e : PySem.Expr) (E : AEnv) (s : St) : Ans := thenV (self (.ev e) E s) fun a s => some (.fl (.ret a), s)
noncomputable def exFor (t it : PySem.Expr) (b : List Stmt) (E : AEnv) (s : St) : Ans := thenI (self (.iter it) E s) fun i s => self (.loop t i b) E s
noncomputable def stepExs (l : List Stmt) : AEnv → St → Ans := @List.rec Stmt (fun _ => AEnv → St → Ans) (fun _ s => some (.fl .next, s)) (fun x r _ E s => thenF (self (.ex x) E s) fun f s => @AFl.rec (fun _ => Ans) (self (.exs r) E s) (fun a => some (.fl (.ret a), s)) f) l
noncomputable def stepLoop (t : PySem.Expr) (it : AIt) (b : List Stmt) (E : AEnv) (s : St) : Ans := match nextA s.σ it with
  | none => none
  | some none => some (.fl .next, s)
  | some (some (a, it')) => thenU (self (.asg t a) E s) fun s => thenF (self (.exs b) E s) fun f s => match f with
    | .next => self (.loop t it' b) E s
    | .ret a => some (.fl (.ret a), s)

noncomputable def stepWhl (t : PySem.Expr) (b : List Stmt) (E : AEnv) (s : St) : Ans := thenB (self (.tr t) E s) fun c s => match c with
  | false => some (.fl .next, s)
  | true => thenF (self (.exs b) E s) fun f s => match f with
    | .next => self (.whl t b) E s
    | .ret a => some (.fl (.ret a), s)

noncomputable def stepTests (l : List PySem.Expr) (E : AEnv) (s : St) : Ans := match l with
  | [] => some (.b true, s)
  | x :: r => thenB (self (.tr x) E s) fun b s => match b with
    | true => self (.tests r) E s
    | false => some (.b false, s)

noncomputable def stepComp (elt t : PySem.Expr) (ifs : List PySem.Expr) (it : AIt) (acc : List AV) (E : AEnv) (s : St) : Ans := match nextA s.σ it with
  | none => none
  | some none => revK acc [] fun l => some (.vs l, s)
  | some (some (a, it')) => thenU (self (.asg t a) E s) fun s => thenB (self (.tests ifs) E s) fun b s => match b with
    | true => thenV (self (.ev elt) E s) fun v s => match short acc with
      | true => self (.comp elt t ifs it' (v :: acc)) E s
      | false => none
    | false => self (.comp elt t ifs it' acc) E s

/-- a task's way, found once -/
inductive Bx where
  | mk (f : AEnv → St → Ans)
noncomputable def Bx.go (b : Bx) (E : AEnv) (s : St) : Ans := @Bx.rec (fun _ => Ans) (fun f => f E s) b
noncomputable def boxEv (e : PySem.Expr) : Bx := @EV.rec (fun _ => Bx) (fun i => .mk fun _ => val (.int i)) (.mk fun _ => val .none) (fun b => .mk fun _ => val (.bool b)) (fun x => .mk (stepName body x)) (fun l op r => .mk (evBin Φ self l op r)) (fun _ => .mk fun _ _ => none)
  (fun l => .mk (self (.bop true l))) (fun l => .mk (self (.bop false l))) (fun t a b => .mk (evIfe self t a b)) (fun l op r => .mk (evCmp Φ self l op r)) (fun f args => .mk (stepCall body Φ cb cb0 self f args)) (fun o m args => .mk (evMeth self o m args)) (fun es => .mk (evLst self es)) (fun es => .mk (evTup self es))
  (fun o => .mk fun E s => thenV (self (.ev o) E s) (first3A Φ))
  (fun o i => .mk (evSub self o i)) (fun elt t it ifs sc => .mk (evComp self elt t it ifs sc)) (.mk fun _ _ => none) (viewE e)
noncomputable def boxTr (e : PySem.Expr) : Bx := @RV.rec (fun _ => Bx) (fun l => .mk (self (.ats true l))) (fun l => .mk (self (.ats false l))) (fun x => .mk (trNot self x)) (fun l op r => .mk (trCmp Φ self l op r)) (.mk (trGen self e)) (.mk fun _ _ => none) (viewR e)
noncomputable def boxEx (st : Stmt) : Bx := @SV.rec (fun _ => Bx) (fun e => .mk (exExpr self e)) (fun t e => .mk (exAsg self t e)) (fun e => .mk (exRet self e)) (.mk fun _ s => some (.fl (.ret .none), s)) (fun t a b => .mk (exIf self t a b)) (fun t b => .mk (self (.whl t b))) (fun t it b => .mk (exFor self t it b)) (fun x ps b sc pos => .mk (exDef x ps b sc pos)) (.mk fun _ _ => none) (viewS st)
noncomputable def step (t : Tk) : Bx := @Tk.rec (fun _ => Bx)
  (boxEv body Φ cb cb0 self) (fun l => .mk (stepEvs self l)) (boxTr Φ self) (fun a l => .mk (stepAts self a l)) (fun a l => .mk (stepBop self a l)) (boxEx self) (fun l => .mk (stepExs self l)) (fun t a => .mk (stepAsg self t a)) (fun t l => .mk (stepAsgs self t l)) (fun t i b => .mk (stepLoop self t i b)) (fun t b => .mk (stepWhl self t b)) (fun e => .mk (stepIter self e)) (fun a b c d e => .mk (stepComp self a b c d e)) (fun l => .mk (stepTests self l)) t
end

noncomputable def runB (body : List Stmt) (Φ : Phi) (cb cb0 : CB) : Nat → Tk → Bx := fun n => Nat.rec (fun _ => .mk fun _ _ => none) (fun _ ih => step body Φ cb cb0 fun t => (ih t).go) n
noncomputable def run (body : List Stmt) (Φ : Phi) (cb cb0 : CB) (n : Nat) (t : Tk) : AEnv → St → Ans := (runB body Φ cb cb0 n t).go
noncomputable def isNil {α : Type} : List α → Bool
  | [] => true
  | _ :: _ => false
/-- a def with cells of its own takes none and has no given values -/
noncomputable def callOk (fi : FnInfo) (cl : List (Str × Nat)) : Bool := match scOk fi.scope with
  | false => false
  | true => match noCells fi.scope.names with
    | true => true
    | false => match plainPs fi.ps with
      | true => isNil cl
      | false => false
/-- the cells, if there are any -/
noncomputable def cellsQ {R : Type} (names : List (Str × NameKind)) (bs : Lv) (cl : List (Str × Nat)) (σ : Sto) (nx : Nat) (k : List (Str × Nat) → Sto → Nat → Option R) : Option R := @Bool.rec (fun _ => Option R) (cellsOf names bs cl σ nx k) (k cl σ nx) (noCells names)
noncomputable def enter (body : List Stmt) (Φ : Phi) (N : Nat) (cb cb0 : CB) : CB := fun fi cl args σ nx => match callOk fi cl, binds fi.ps args with
  | false, _ => none
  | true, none => none
  | true, some bs => match localsOf fi.scope.names bs with
    | none => none
    | some lv => cellsQ fi.scope.names bs cl σ nx fun cl' σ' nx' => match run body Φ cb cb0 N (.exs fi.body) ⟨fi.scope, cl', defsOf fi.body⟩ ⟨lv, σ', nx'⟩ with
      | some (.fl .next, s) => some (.none, s.σ, s.nx)
      | some (.fl (.ret a), s) => some (a, s.σ, s.nx)
      | _ => none
noncomputable def Phi0 : Phi := ⟨none, none, none, none, fun _ _ => none, fun _ _ => none, fun _ _ => none, fun _ _ => none⟩
/-- calls of things without a place, by themselves -/
noncomputable def lev0 (body : List Stmt) (N : Nat) : Nat → CB := fun d => Nat.rec (fun _ _ _ _ _ => none) (fun _ ih => enter body Phi0 N ih ih) d
noncomputable def lev (body : List Stmt) (Φ : Phi) (N : Nat) : Nat → CB := fun d => Nat.rec (fun _ _ _ _ _ => none) (fun d ih => enter body Φ N ih (lev0 body N d)) d
end Mine
set_option maxRecDepth 100000
namespace Mine
open PySem PySem.Calls PyProof.Rows PySem.W PySem.W.Z

/-! ## the plain functions -/
theorem nNat_eq {R : Type} (n : Nat) (k : Nat → R) : nNat n k = k n := by cases n <;> rfl
theorem nInt_eq {R : Type} (i : Int) (k : Int → R) : nInt i k = k i := by
  cases i with
  | ofNat n => exact nNat_eq n fun m => k (.ofNat m)
  | negSucc n => exact nNat_eq n fun m => k (.negSucc m)
theorem beq_of {a b : Nat} (h : Nat.beq a b = true) : a = b := Nat.eq_of_beq_eq_true h
theorem nbeq_of {a b : Nat} (h : Nat.beq a b = false) : a ≠ b := Nat.ne_of_beq_eq_false h
theorem odd_pow : ∀ {c d m n : Nat}, (2 * m + 1) * 2 ^ c = (2 * n + 1) * 2 ^ d → m = n ∧ c = d
  | 0, 0, m, n, h => by simp only [Nat.pow_zero] at h; omega
  | 0, d + 1, m, n, h => by rw [Nat.pow_succ, ← Nat.mul_assoc, Nat.pow_zero] at h; omega
  | c + 1, 0, m, n, h => by rw [Nat.pow_succ, ← Nat.mul_assoc, Nat.pow_zero] at h; omega
  | c + 1, d + 1, m, n, h => by
    rw [Nat.pow_succ, Nat.pow_succ, ← Nat.mul_assoc, ← Nat.mul_assoc] at h
    obtain ⟨h1, h2⟩ := odd_pow (Nat.eq_of_mul_eq_mul_right (by decide) h)
    exact ⟨h1, by rw [h2]⟩
theorem codeL_pos {c : Nat} {r : List Nat} : 0 < codeL (c :: r) := Nat.mul_pos (Nat.succ_pos _) (Nat.pow_pos (by decide))
theorem codeL_inj : ∀ {a b : List Nat}, codeL a = codeL b → a = b
  | [], [], _ => rfl
  | [], c :: r, h => by have := codeL_pos (c := c) (r := r); rw [← h] at this; exact absurd this (Nat.lt_irrefl 0)
  | c :: r, [], h => by have := codeL_pos (c := c) (r := r); rw [h] at this; exact absurd this (Nat.lt_irrefl 0)
  | a :: r, b :: t, h => by
    have h : (2 * codeL r + 1) * 2 ^ a = (2 * codeL t + 1) * 2 ^ b := h
    obtain ⟨h1, h2⟩ := odd_pow h
    rw [codeL_inj h1, h2]
theorem seq_iff {a b : Str} : seq a b = true ↔ a = b := by
  constructor
  · intro h
    cases a with | mk x => cases b with | mk y =>
    have := Array.toList_inj.mp (codeL_inj (beq_of h))
    exact congrArg Str.mk this
  · rintro rfl
    exact Nat.beq_refl _
theorem lookS_cons {α : Type} (p : Str × α) (r : List (Str × α)) (x : Str) : lookS (p :: r) x = match seq p.1 x with
    | true => some p.2
    | false => lookS r x := by
  obtain ⟨n, v⟩ := p
  show (@Bool.rec (fun _ => Option α) (lookS r x) (some v) (seq n x)) = _
  cases seq n x <;> rfl
theorem putS_cons {R : Type} (p : Str × AV) (r : Lv) (x : Str) (w : AV) (k : Lv → R) : putS (p :: r) x w k = match seq p.1 x with
    | true => k ((p.1, w) :: r)
    | false => putS r x w fun r' => k (p :: r') := by
  obtain ⟨n, v⟩ := p
  show (@Bool.rec (fun _ => R) (putS r x w fun r' => k ((n, v) :: r')) (k ((n, w) :: r)) (seq n x)) = _
  cases seq n x <;> rfl
theorem putF_nil {R : Type} (n i : Nat) (o : AObj) (k : Sto → R) (no : R) : putF (n + 1) .nil i o k no = match Nat.beq i 0 with
    | true => k (.node (some o) .nil .nil)
    | false => match Nat.beq (i % 2) 1 with
      | true => putF n .nil (i / 2) o (fun t => k (.node none t .nil)) no
      | false => putF n .nil (i / 2 - 1) o (fun t => k (.node none .nil t)) no := by kernel_rfl
theorem putF_node {R : Type} (n i : Nat) (v : Option AObj) (l r : Sto) (o : AObj) (k : Sto → R) (no : R) : putF (n + 1) (.node v l r) i o k no = match Nat.beq i 0 with
    | true => k (.node (some o) l r)
    | false => match Nat.beq (i % 2) 1 with
      | true => putF n l (i / 2) o (fun t => k (.node v t r)) no
      | false => putF n r (i / 2 - 1) o (fun t => k (.node v l t)) no := by kernel_rfl
theorem seq_refl (a : Str) : seq a a = true := seq_iff.mpr rfl
theorem seq_ne {a b : Str} (h : a ≠ b) : seq a b = false := by
  cases q : seq a b with
  | false => rfl
  | true => exact absurd (seq_iff.mp q) h
theorem lookS_eq {α : Type} : ∀ (l : List (Str × α)) (x : Str), lookS l x = l.lookup x
  | [], _ => rfl
  | p :: r, x => by
    rw [lookS_cons]
    rw [lookS_eq r x]
    by_cases h : p.1 = x
    · rw [seq_iff.mpr h, List.lookup_cons, show (x == p.1) = true by simp [h]]
    · rw [seq_ne h, List.lookup_cons, show (x == p.1) = false by simpa using Ne.symm h]
noncomputable def setL : Lv → Str → AV → Lv
  | [], x, w => [(x, w)]
  | p :: r, x, w => if p.1 = x then (p.1, w) :: r else p :: setL r x w
theorem putS_eq {R : Type} : ∀ (l : Lv) (x : Str) (w : AV) (k : Lv → R), putS l x w k = k (setL l x w)
  | [], _, _, _ => rfl
  | p :: r, x, w, k => by
    rw [putS_cons]
    unfold setL
    by_cases h : p.1 = x
    · rw [seq_iff.mpr h, if_pos h]
    · rw [seq_ne h, if_neg h]; exact putS_eq r x w _
theorem setL_look : ∀ (l : Lv) (x : Str) (w : AV) (y : Str), lookS (setL l x w) y = if y = x then some w else lookS l y
  | [], x, w, y => by
    unfold setL
    by_cases h : y = x
    · subst h; simp [lookS, seq_refl]
    · rw [if_neg h]
      rw [lookS_cons, seq_ne (Ne.symm h)]
  | p :: r, x, w, y => by
    unfold setL
    by_cases h : p.1 = x
    · rw [if_pos h]
      rw [lookS_cons, lookS_cons]
      by_cases q : y = x
      · rw [if_pos q, seq_iff.mpr (h.trans q.symm)]
      · rw [if_neg q, seq_ne (fun z => q (z.symm.trans h))]
    · rw [if_neg h]
      rw [lookS_cons, lookS_cons]
      by_cases q : p.1 = y
      · rw [seq_iff.mpr q, if_neg (fun z => h (q.trans z))]
      · rw [seq_ne q]
        exact setL_look r x w y

noncomputable def insN : Nat → Sto → Nat → AObj → Option Sto := fun n σ i o => putF n σ i o some none
theorem putF_eq {R : Type} : ∀ (n : Nat) (σ : Sto) (i : Nat) (o : AObj) (k : Sto → R) (no : R), putF n σ i o k no = (match insN n σ i o with | some t => k t | none => no)
  | 0, _, _, _, _, _ => rfl
  | n + 1, .nil, i, o, k, no => by
    unfold insN
    rw [putF_nil, putF_nil]
    cases Nat.beq i 0 with
    | true => rfl
    | false =>
      cases Nat.beq (i % 2) 1 with
      | true =>
        simp only
        rw [putF_eq n, putF_eq n .nil (i / 2) o (fun t => some (Sto.node none t .nil)) none]
        cases insN n .nil (i / 2) o <;> rfl
      | false =>
        simp only
        rw [putF_eq n, putF_eq n .nil (i / 2 - 1) o (fun t => some (Sto.node none .nil t)) none]
        cases insN n .nil (i / 2 - 1) o <;> rfl
  | n + 1, .node v l r, i, o, k, no => by
    unfold insN
    rw [putF_node, putF_node]
    cases Nat.beq i 0 with
    | true => rfl
    | false =>
      cases Nat.beq (i % 2) 1 with
      | true =>
        simp only
        rw [putF_eq n, putF_eq n l (i / 2) o (fun t => some (Sto.node v t r)) none]
        cases insN n l (i / 2) o <;> rfl
      | false =>
        simp only
        rw [putF_eq n, putF_eq n r (i / 2 - 1) o (fun t => some (Sto.node v l t)) none]
        cases insN n r (i / 2 - 1) o <;> rfl
theorem lookN_node (v : Option AObj) (l r : Sto) (i : Nat) : lookN (.node v l r) i = match Nat.beq i 0 with | true => v | false => match Nat.beq (i % 2) 1 with | true => lookN l (i / 2) | false => lookN r (i / 2 - 1) := by kernel_rfl
theorem look_node (v : Option AObj) (l r : Sto) (i : Nat) : lookN (.node v l r) i = if i = 0 then v else if i % 2 = 1 then lookN l (i / 2) else lookN r (i / 2 - 1) := by
  rw [lookN_node]
  cases h : Nat.beq i 0 with
  | true => rw [if_pos (beq_of h)]
  | false =>
    rw [if_neg (nbeq_of h)]
    cases q : Nat.beq (i % 2) 1 with
    | true => rw [if_pos (beq_of q)]
    | false => rw [if_neg (nbeq_of q)]
theorem look_nil (i : Nat) : lookN .nil i = none := rfl
theorem insN_succ (n : Nat) (v : Option AObj) (l r : Sto) (i : Nat) (o : AObj) : insN (n + 1) (.node v l r) i o = if i = 0 then some (.node (some o) l r) else if i % 2 = 1 then (insN n l (i / 2) o).map (fun t => .node v t r) else (insN n r (i / 2 - 1) o).map (fun t => .node v l t) := by
  rw [show insN (n + 1) (.node v l r) i o = putF (n + 1) (.node v l r) i o some none from rfl, putF_node]
  rw [putF_eq, putF_eq]
  generalize insN n l (i / 2) o = a
  generalize insN n r (i / 2 - 1) o = b
  cases h : Nat.beq i 0 with
  | true => rw [if_pos (beq_of h)]
  | false =>
    rw [if_neg (nbeq_of h)]
    cases q : Nat.beq (i % 2) 1 with
    | true => rw [if_pos (beq_of q)]; cases a <;> rfl
    | false => rw [if_neg (nbeq_of q)]; cases b <;> rfl
theorem insN_nil (n : Nat) (i : Nat) (o : AObj) : insN (n + 1) .nil i o = insN (n + 1) (.node none .nil .nil) i o := by
  rfl
theorem half_odd {i j : Nat} (hi : i % 2 = 1) (hj : j % 2 = 1) (e : j / 2 = i / 2) : j = i := by
  rw [← Nat.div_add_mod j 2, ← Nat.div_add_mod i 2, hi, hj, e]
theorem half_even {i j : Nat} (hi : ¬ i % 2 = 1) (hj : ¬ j % 2 = 1) (i0 : ¬ i = 0) (j0 : ¬ j = 0) (e : j / 2 - 1 = i / 2 - 1) : j = i := by
  have hi' := (Nat.mod_two_eq_zero_or_one i).resolve_right hi
  have hj' := (Nat.mod_two_eq_zero_or_one j).resolve_right hj
  have pos : ∀ {k : Nat}, k % 2 = 0 → ¬ k = 0 → 0 < k / 2 := fun {k} h h0 => by
    refine Nat.pos_of_ne_zero fun q => h0 ?_
    rw [← Nat.div_add_mod k 2, h, q]
  have e' : j / 2 = i / 2 := by
    rw [← Nat.sub_add_cancel (pos hj' j0), e, Nat.sub_add_cancel (pos hi' i0)]
  rw [← Nat.div_add_mod j 2, ← Nat.div_add_mod i 2, hi', hj', e']
theorem insN_look : ∀ (n : Nat) {σ σ' : Sto} {i : Nat} {o : AObj}, insN n σ i o = some σ' → ∀ j, lookN σ' j = if j = i then some o else lookN σ j := by
  intro n
  induction n with
  | zero => intro σ σ' i o h; cases h
  | succ n ih =>
    have key : ∀ {v : Option AObj} {l r σ' : Sto} {i : Nat} {o : AObj}, insN (n + 1) (.node v l r) i o = some σ' → ∀ j, lookN σ' j = if j = i then some o else lookN (.node v l r) j := by
      intro v l r σ' i o h j
      rw [insN_succ] at h
      by_cases h0 : i = 0
      · rw [if_pos h0] at h
        cases h
        rw [look_node, look_node]
        subst h0
        by_cases q : j = 0 <;> simp [q]
      · rw [if_neg h0] at h
        by_cases h1 : i % 2 = 1
        · rw [if_pos h1] at h
          cases e : insN n l (i / 2) o with
          | none => rw [e] at h; cases h
          | some t =>
            rw [e] at h
            cases h
            rw [look_node, look_node, ih e]
            by_cases q : j = 0
            · subst q; simp [Ne.symm h0]
            · rw [if_neg q, if_neg q]
              by_cases p : j % 2 = 1
              · rw [if_pos p, if_pos p]
                by_cases z : j = i
                · subst z; simp
                · rw [if_neg z, if_neg]; exact fun e => z (half_odd h1 p e)
              · rw [if_neg p, if_neg p, if_neg]; rintro rfl; exact p h1
        · rw [if_neg h1] at h
          cases e : insN n r (i / 2 - 1) o with
          | none => rw [e] at h; cases h
          | some t =>
            rw [e] at h
            cases h
            rw [look_node, look_node, ih e]
            by_cases q : j = 0
            · subst q; simp [Ne.symm h0]
            · rw [if_neg q, if_neg q]
              by_cases p : j % 2 = 1
              · rw [if_pos p, if_pos p, if_neg]; rintro rfl; exact h1 p
              · rw [if_neg p, if_neg p]
                by_cases z : j = i
                · subst z; simp
                · rw [if_neg z, if_neg]; exact fun e => z (half_even h1 p h0 q e)
    intro σ σ' i o h j
    cases σ with
    | node v l r => exact key h j
    | nil =>
      rw [insN_nil] at h
      rw [key h j, look_node]
      simp only [look_nil, ite_self]
theorem putN_some {R : Type} {σ : Sto} {i : Nat} {o : AObj} {k : Sto → Option R} {r : R} (h : putN σ i o k = some r) : ∃ σ', (∀ j, lookN σ' j = if j = i then some o else lookN σ j) ∧ k σ' = some r := by
  unfold putN at h
  rw [putF_eq] at h
  cases e : insN 40 σ i o with
  | none => rw [e] at h; cases h
  | some t => rw [e] at h; exact ⟨t, insN_look 40 e, h⟩
theorem lenK_eq {α R : Type} : ∀ (l : List α) (n : Nat) (k : Nat → R), lenK l n k = k (n + l.length)
  | [], _, _ => rfl
  | _ :: r, n, k => by
    unfold lenK
    rw [nNat_eq, lenK_eq r]
    simp only [List.length_cons]
    congr 1; omega
theorem appK_eq {R : Type} : ∀ (a b : List AV) (k : List AV → R), appK a b k = k (a ++ b)
  | [], _, _ => rfl
  | _ :: r, b, k => by
    unfold appK
    rw [appK_eq r]; rfl
theorem revK_eq {R : Type} : ∀ (a b : List AV) (k : List AV → R), revK a b k = k (a.reverse ++ b)
  | [], _, _ => rfl
  | x :: r, b, k => by
    unfold revK
    rw [revK_eq r]; simp
theorem sumF_eq {R : Type} : ∀ (l : List Int) (a : Int) (k : Int → R), sumF l a k = k (l.foldl (· + ·) a)
  | [], _, _ => rfl
  | x :: r, a, k => by
    unfold sumF
    rw [nInt_eq, sumF_eq r]; rfl
theorem natOf_some {R : Type} {i : Int} {k : Nat → Option R} {r : R} (h : natOf i none k = some r) : ∃ n : Nat, i = n ∧ k n = some r := by
  cases i with
  | ofNat n => exact ⟨n, rfl, h⟩
  | negSucc n => cases h
theorem nth_eq : ∀ (l : List AV) (n : Nat), nth l n = l[n]?
  | [], _ => by simp [nth]
  | a :: r, 0 => rfl
  | a :: r, n + 1 => by
    show nth r n = _
    rw [nth_eq r n]; rfl
theorem setAt_eq : ∀ {l : List AV} {n : Nat} {x : AV} {l' : List AV}, setAt l n x = some l' → n < l.length ∧ l' = l.set n x
  | [], _, _, _, h => by cases h
  | a :: r, 0, x, l', h => by cases h; exact ⟨by simp, rfl⟩
  | a :: r, n + 1, x, l', h => by
    have h : (match setAt r n x with | some l => some (a :: l) | none => none) = some l' := h
    cases e : setAt r n x with
    | none => rw [e] at h; cases h
    | some t =>
      rw [e] at h
      cases h
      obtain ⟨h1, h2⟩ := setAt_eq e
      exact ⟨by simpa using h1, by rw [h2]; rfl⟩
theorem insAt_eq : ∀ (l : List AV) (n : Nat) (x : AV), insAt l n x = l.take n ++ x :: l.drop n
  | l, 0, x => by cases l <;> rfl
  | [], n + 1, x => rfl
  | a :: r, n + 1, x => by
    show a :: insAt r n x = _
    rw [insAt_eq r n x]; rfl
theorem repl_eq : ∀ (n : Nat) (a : AV), repl n a = List.replicate n a
  | 0, _ => rfl
  | n + 1, a => by show a :: repl n a = _; rw [repl_eq n a]; rfl
theorem shortN_len {α : Type} : ∀ {n : Nat} {l : List α}, shortN n l = true → l.length < n
  | 0, _, h => by cases h
  | n + 1, [], _ => by simp
  | n + 1, _ :: r, h => by
    have := shortN_len (n := n) (l := r) h
    simp only [List.length_cons]; omega
theorem short_len {α : Type} {l : List α} (h : short l = true) : l.length ≤ 4096 := Nat.le_of_lt_succ (shortN_len h)
theorem ints?_some : ∀ {l : List AV} {ns : List Int}, ints? l = some ns → l = ns.map AV.int
  | [], _, h => by cases h; rfl
  | .int i :: r, ns, h => by
    unfold ints? at h
    cases e : ints? r with
    | none => rw [e] at h; cases h
    | some t => rw [e] at h; cases h; rw [ints?_some e]; rfl
  | .none :: _, _, h => by cases h
  | .bool _ :: _, _, h => by cases h
  | .tup _ :: _, _, h => by cases h
  | .loc _ :: _, _, h => by cases h
  | .sym _ :: _, _, h => by cases h
  | .script :: _, _, h => by cases h
  | .clo .. :: _, _, h => by cases h
theorem ltB_eq (a b : Int) : ltB a b = decide (a < b) := by
  by_cases h : a < b
  · rw [decide_eq_true h]; exact (ltB_iff a b).mpr h
  · rw [decide_eq_false h]; cases q : ltB a b with
    | false => rfl
    | true => exact absurd ((ltB_iff a b).mp q) h
theorem leB_eq (a b : Int) : leB a b = decide (a ≤ b) := by
  by_cases h : a ≤ b
  · rw [decide_eq_true h]; exact (leB_iff a b).mpr h
  · rw [decide_eq_false h]; cases q : leB a b with
    | false => rfl
    | true => exact absurd ((leB_iff a b).mp q) h
theorem eqB_eq (a b : Int) : eqB a b = decide (a = b) := by
  by_cases h : a = b
  · rw [decide_eq_true h]; exact (eqB_iff a b).mpr h
  · rw [decide_eq_false h]; cases q : eqB a b with
    | false => rfl
    | true => exact absurd ((eqB_iff a b).mp q) h
theorem inv_v {a b : AV} {s s' : St} (h : some (Rs.v a, s) = some (Rs.v b, s')) : a = b ∧ s = s' := by cases h; exact ⟨rfl, rfl⟩
theorem inv_vs {a b : List AV} {s s' : St} (h : some (Rs.vs a, s) = some (Rs.vs b, s')) : a = b ∧ s = s' := by cases h; exact ⟨rfl, rfl⟩
theorem inv_b {a b : Bool} {s s' : St} (h : some (Rs.b a, s) = some (Rs.b b, s')) : a = b ∧ s = s' := by cases h; exact ⟨rfl, rfl⟩
theorem inv_fl {a b : AFl} {s s' : St} (h : some (Rs.fl a, s) = some (Rs.fl b, s')) : a = b ∧ s = s' := by cases h; exact ⟨rfl, rfl⟩
theorem inv_it {a b : AIt} {s s' : St} (h : some (Rs.it a, s) = some (Rs.it b, s')) : a = b ∧ s = s' := by cases h; exact ⟨rfl, rfl⟩
theorem inv_u {s s' : St} (h : some (Rs.u, s) = some (Rs.u, s')) : s = s' := by cases h; rfl
theorem lookS_mem {α : Type} : ∀ {l : List (Str × α)} {x : Str} {v : α}, lookS l x = some v → (x, v) ∈ l
  | [], _, _, h => by cases h
  | p :: r, x, v, h => by
    rw [lookS_cons] at h
    cases q : seq p.1 x with
    | true =>
      rw [q] at h
      (first | (obtain ⟨rfl, rfl⟩ := inv_v h) | (obtain ⟨rfl, rfl⟩ := inv_b h) | (obtain ⟨rfl, rfl⟩ := inv_vs h) | (obtain ⟨rfl, rfl⟩ := inv_fl h) | (obtain rfl := inv_u h) | (obtain ⟨rfl, rfl⟩ := inv_it h) | cases h)
      rw [← seq_iff.mp q]
      exact .head _
    | false => rw [q] at h; exact .tail _ (lookS_mem h)
theorem fnIn_mem {l : List Stmt} {x : Str} {f : FnInfo} (h : fnIn l x = some f) : (x, f) ∈ fnsOf l := lookS_mem h
theorem constIn_mem {l : List Stmt} {x : Str} {i : Int} (h : constIn l x = some i) : (x, i) ∈ constsOf l := lookS_mem h
end Mine
set_option maxRecDepth 100000
namespace Mine
open PySem PySem.Calls PyProof.Rows PySem.W PySem.W.Z

structure TabI where
  c : Addr
  P : Addr
  pos : Pos
  qual : Str
structure Par where
  y : Nat → Int
  sv : Value
  H0 : Heap
  TB : List TabI

noncomputable abbrev tupO (vs : List Value) (n : Nat) : Obj := { cls := .type "tuple", data := .seq vs.toArray n }

noncomputable def Imm (o : Obj) : Prop := (o.cls = .type "tuple" ∧ ∃ vs n, o.data = .seq vs n) ∨ (∃ fd, o.data = .func fd) ∨ (o.cls = .type "code" ∧ ∃ vs, o.data = .fields vs)
noncomputable def Tab (o : Obj) : Prop := o.cls = .none ∧ ∃ vs, o.data = .fields vs

noncomputable def CRec (h : Heap) (c : Addr) (q : Str) : Prop := ∃ o vs t, h.get? c = some o ∧ o.cls = .type "code" ∧ o.data = .fields vs ∧ vs[1]? = some (.str q t)

/-- a function made in a body -/
structure CloRec (ρ : Nat → Addr) (nx : Nat) (h : Heap) (a : Addr) (ps : Arguments) (b : List Stmt) (sc : Scope) (cl : List (Str × Nat)) (c : Addr) (o : Obj) (fd : FuncData) : Prop where
  get : h.get? a = some o
  data : o.data = .func fd
  params : fd.params = ps
  body : fd.body = .stmts b
  scope : fd.scope = sc
  globals : fd.globals = mainGlobals
  builtins : fd.builtins = builtinsNs
  code : fd.code = .ref c
  crec : CRec h c fd.qualname
  dflt : fd.defaults = .none
  kw : fd.kwdefaults = .none
  plain : plainPs ps = true
  defs : defsOf b = []
  nil : cl = [] → fd.closure = []
  cells : ∀ x j, lookS cl x = some j → j < nx ∧ fd.closure.lookup x = some (ρ j)
noncomputable def CloOk (ρ : Nat → Addr) (nx : Nat) (h : Heap) (a : Addr) (ps : Arguments) (b : List Stmt) (sc : Scope) (cl : List (Str × Nat)) : Prop := ∃ c o fd, CloRec ρ nx h a ps b sc cl c o fd

mutual
inductive VR (P : Par) (ρ : Nat → Addr) (nx : Nat) (h : Heap) : Value → AV → Prop
  | none : VR P ρ nx h .none .none
  | bool (b : Bool) : VR P ρ nx h (.bool b) (.bool b)
  | int (i : Int) (t : Tok) : VR P ρ nx h (.int i t) (.int i)
  | sym (k : Nat) (t : Tok) : VR P ρ nx h (.int (P.y k) t) (.sym k)
  | script : VR P ρ nx h P.sv .script
  | loc (j : Nat) : j < nx → VR P ρ nx h (.ref (ρ j)) (.loc j)
  | tup (a : Addr) (vs : List Value) (n : Nat) (l : List AV) : h.get? a = some (tupO vs n) → VRs P ρ nx h vs l → VR P ρ nx h (.ref a) (.tup l)
  | clo (a : Addr) (ps : Arguments) (b : List Stmt) (sc : Scope) (cl : List (Str × Nat)) : CloOk ρ nx h a ps b sc cl → VR P ρ nx h (.ref a) (.clo ps b sc cl)
inductive VRs (P : Par) (ρ : Nat → Addr) (nx : Nat) (h : Heap) : List Value → List AV → Prop
  | nil : VRs P ρ nx h [] []
  | cons (v : Value) (a : AV) (vs : List Value) (l : List AV) : VR P ρ nx h v a → VRs P ρ nx h vs l → VRs P ρ nx h (v :: vs) (a :: l)
end

/-- a later state in which what is of note stands -/
structure Later (ρ : Nat → Addr) (nx : Nat) (h : Heap) (ρ' : Nat → Addr) (nx' : Nat) (h' : Heap) : Prop where
  le : nx ≤ nx'
  ag : ∀ j, j < nx → ρ' j = ρ j
  im : ∀ b o, h.get? b = some o → Imm o → h'.get? b = some o

section
variable {P : Par} {ρ ρ' : Nat → Addr} {nx nx' : Nat} {h h' : Heap}
theorem CRec.later {c : Addr} {q : Str} (L : Later ρ nx h ρ' nx' h') (x : CRec h c q) : CRec h' c q := by
  obtain ⟨o, vs, t, a, b, d, e⟩ := x
  exact ⟨o, vs, t, L.im c o a (.inr (.inr ⟨b, vs, d⟩)), b, d, e⟩
theorem CloOk.later (L : Later ρ nx h ρ' nx' h') {a : Addr} {ps : Arguments} {b : List Stmt} {sc : Scope} {cl : List (Str × Nat)} (k : CloOk ρ nx h a ps b sc cl) : CloOk ρ' nx' h' a ps b sc cl := by
  obtain ⟨c, o, fd, r⟩ := k
  exact ⟨c, o, fd, { r with get := L.im a _ r.get (.inr (.inl ⟨fd, r.data⟩)), crec := CRec.later L r.crec, cells := fun x j q => ⟨Nat.lt_of_lt_of_le (r.cells x j q).1 L.le, (r.cells x j q).2.trans (congrArg some (L.ag j (r.cells x j q).1).symm)⟩ }⟩
theorem VR.later (L : Later ρ nx h ρ' nx' h') {v : Value} {a : AV} (r : VR P ρ nx h v a) : VR P ρ' nx' h' v a :=
  VR.rec (motive_1 := fun v a _ => VR P ρ' nx' h' v a) (motive_2 := fun v a _ => VRs P ρ' nx' h' v a) .none .bool .int .sym .script (fun j hj => L.ag j hj ▸ .loc j (Nat.lt_of_lt_of_le hj L.le))
    (fun a vs n l e _ ih => .tup a vs n l (L.im a _ e (.inl ⟨rfl, _, _, rfl⟩)) ih) (fun a ps b sc cl k => .clo a ps b sc cl (k.later L)) .nil (fun v a vs l _ _ x y => .cons v a vs l x y) r
end

section
variable {P : Par} {ρ : Nat → Addr} {nx : Nat} {h : Heap} {v : Value} {vs : List Value} {a b : AV} {l : List AV}
theorem VR.intI {i : Int} (r : VR P ρ nx h v (.int i)) : ∃ t, v = .int i t := by cases r; exact ⟨_, rfl⟩
theorem VR.symI {k : Nat} (r : VR P ρ nx h v (.sym k)) : ∃ t, v = .int (P.y k) t := by cases r; exact ⟨_, rfl⟩
theorem VR.noneI (r : VR P ρ nx h v .none) : v = .none := by cases r; rfl
theorem VR.boolI {b : Bool} (r : VR P ρ nx h v (.bool b)) : v = .bool b := by cases r; rfl
theorem VR.scriptI (r : VR P ρ nx h v .script) : v = P.sv := by cases r; rfl
theorem VR.locI {j : Nat} (r : VR P ρ nx h v (.loc j)) : j < nx ∧ v = .ref (ρ j) := by cases r; rename_i q; exact ⟨q, rfl⟩
theorem VR.tupI (r : VR P ρ nx h v (.tup l)) : ∃ t vs n, v = .ref t ∧ h.get? t = some (tupO vs n) ∧ VRs P ρ nx h vs l := by cases r; rename_i q1 q2; exact ⟨_, _, _, rfl, q1, q2⟩
theorem VR.cloI {ps : Arguments} {b : List Stmt} {sc : Scope} {cl : List (Str × Nat)} (r : VR P ρ nx h v (.clo ps b sc cl)) : ∃ f, v = .ref f ∧ CloOk ρ nx h f ps b sc cl := by cases r; rename_i k; exact ⟨_, rfl, k⟩
theorem VRs.nilI (r : VRs P ρ nx h vs []) : vs = [] := by cases r; rfl
theorem VRs.consI (r : VRs P ρ nx h vs (a :: l)) : ∃ v ws, vs = v :: ws ∧ VR P ρ nx h v a ∧ VRs P ρ nx h ws l := by cases r; rename_i q1 q2; exact ⟨_, _, rfl, q1, q2⟩
theorem VRs.oneI (r : VRs P ρ nx h vs [a]) : ∃ v, vs = [v] ∧ VR P ρ nx h v a := by
  obtain ⟨v, ws, rfl, q1, q2⟩ := r.consI
  exact ⟨v, by rw [q2.nilI], q1⟩
theorem VRs.twoI (r : VRs P ρ nx h vs [a, b]) : ∃ v w, vs = [v, w] ∧ VR P ρ nx h v a ∧ VR P ρ nx h w b := by
  obtain ⟨v, ws, rfl, q1, q2⟩ := r.consI
  obtain ⟨w, rfl, q3⟩ := q2.oneI
  exact ⟨v, w, rfl, q1, q3⟩
theorem VRs.length (r : VRs P ρ nx h vs l) : vs.length = l.length := by
  induction l generalizing vs with
  | nil => rw [r.nilI]; rfl
  | cons a l ih => obtain ⟨v, ws, rfl, _, q⟩ := r.consI; exact congrArg Nat.succ (ih q)
theorem VRs.later {ρ' : Nat → Addr} {nx' : Nat} {h' : Heap} (L : Later ρ nx h ρ' nx' h') (r : VRs P ρ nx h vs l) : VRs P ρ' nx' h' vs l := by
  induction l generalizing vs with
  | nil => rw [r.nilI]; exact .nil
  | cons a l ih => obtain ⟨v, ws, rfl, x, q⟩ := r.consI; exact .cons _ _ _ _ (x.later L) (ih q)
theorem VRs.get (r : VRs P ρ nx h vs l) {n : Nat} {a : AV} (e : l[n]? = some a) : ∃ v, vs[n]? = some v ∧ VR P ρ nx h v a := by
  induction l generalizing vs n with
  | nil => cases e
  | cons b l ih =>
    obtain ⟨v, ws, rfl, x, q⟩ := r.consI
    cases n with
    | zero => cases e; exact ⟨v, rfl, x⟩
    | succ n => exact ih q e
theorem VRs.append {ws : List Value} {k : List AV} (r : VRs P ρ nx h vs l) (y : VRs P ρ nx h ws k) : VRs P ρ nx h (vs ++ ws) (l ++ k) := by
  induction l generalizing vs with
  | nil => rw [r.nilI]; exact y
  | cons a l ih => obtain ⟨v, us, rfl, x, q⟩ := r.consI; exact .cons _ _ _ _ x (ih q)
theorem VRs.reverse (r : VRs P ρ nx h vs l) : VRs P ρ nx h vs.reverse l.reverse := by
  induction l generalizing vs with
  | nil => rw [r.nilI]; exact .nil
  | cons a l ih =>
    obtain ⟨v, us, rfl, x, q⟩ := r.consI
    rw [List.reverse_cons, List.reverse_cons]
    exact (ih q).append (.cons _ _ _ _ x .nil)
theorem VRs.set (r : VRs P ρ nx h vs l) {n : Nat} {v : Value} {a : AV} (y : VR P ρ nx h v a) : VRs P ρ nx h (vs.set n v) (l.set n a) := by
  induction l generalizing vs n with
  | nil => rw [r.nilI]; exact .nil
  | cons b l ih =>
    obtain ⟨u, us, rfl, x, q⟩ := r.consI
    cases n with
    | zero => exact .cons _ _ _ _ y q
    | succ n => exact .cons _ _ _ _ x (ih q)
theorem VRs.take (r : VRs P ρ nx h vs l) (n : Nat) : VRs P ρ nx h (vs.take n) (l.take n) := by
  induction l generalizing vs n with
  | nil => rw [r.nilI, List.take_nil, List.take_nil]; exact .nil
  | cons b l ih =>
    obtain ⟨u, us, rfl, x, q⟩ := r.consI
    cases n with
    | zero => exact .nil
    | succ n => exact .cons _ _ _ _ x (ih q n)
theorem VRs.drop (r : VRs P ρ nx h vs l) (n : Nat) : VRs P ρ nx h (vs.drop n) (l.drop n) := by
  induction l generalizing vs n with
  | nil => rw [r.nilI, List.drop_nil, List.drop_nil]; exact .nil
  | cons b l ih =>
    obtain ⟨u, us, rfl, x, q⟩ := r.consI
    cases n with
    | zero => exact .cons _ _ _ _ x q
    | succ n => exact ih q n
theorem VRs.replicate (x : VR P ρ nx h v a) (n : Nat) : VRs P ρ nx h (List.replicate n v) (List.replicate n a) := by
  induction n with
  | zero => exact .nil
  | succ n ih => exact .cons _ _ _ _ x ih
end

/-- an object of the store -/
noncomputable def OR (P : Par) (ρ : Nat → Addr) (nx : Nat) (h : Heap) (a : Addr) : AObj → Prop
  | .list l => ∃ vs n, h.get? a = some (listOf vs.toArray n) ∧ VRs P ρ nx h vs l ∧ l.length ≤ 4096
  | .cell (some x) => ∃ v, h.IsCell a (some v) ∧ VR P ρ nx h v x
  | .cell none => ∃ v, h.IsCell a v
structure SR (P : Par) (ρ : Nat → Addr) (σ : Sto) (nx : Nat) (h : Heap) : Prop where
  lt : ∀ j o, lookN σ j = some o → j < nx
  inj : ∀ i j o o', lookN σ i = some o → lookN σ j = some o' → ρ i = ρ j → i = j
  up : ∀ j o, lookN σ j = some o → P.H0.objs.size ≤ ρ j
  rel : ∀ j o, lookN σ j = some o → OR P ρ nx h (ρ j) o

noncomputable def Kpt (W : Addr → Prop) (h h' : Heap) : Prop := ∀ b o, h.get? b = some o → ¬ W b → h'.get? b = some o
noncomputable def TabsOk (P : Par) (h : Heap) : Prop := ∀ t ∈ P.TB, ∃ ps, h.IsCode t.c t.P ps ∧ h.TableAt t.c t.P ps ∧ (∃ ps₀, P.H0.TableAt t.c t.P ps₀) ∧ t.P ≠ cStatics ∧ (ps = #[] ∨ ∃ c', codeAmong t.pos ps.toList = some (.ref c') ∧ CRec h c' t.qual)
structure Inv (P : Par) (h : Heap) : Prop where
  tabs : TabsOk P h
  old : OldK P.H0 h
  inj : ∀ t ∈ P.TB, ∀ t' ∈ P.TB, t.P = t'.P → t = t'
  last : ∃ b o, P.H0.get? b = some o ∧ P.H0.objs.size = b + 1
  lim : h.NoLimit
  cs : cStatics < P.H0.objs.size
theorem Inv.big {P : Par} {h : Heap} (I : Inv P h) : P.H0.objs.size ≤ h.objs.size := by
  obtain ⟨b, o, e, q⟩ := I.last
  obtain ⟨o', e'⟩ := I.old.there b o e
  rw [q]
  exact Heap.lt_size e'
noncomputable def NoX : Addr → Prop := fun _ => False
/-- the places that may be written -/
noncomputable def Wr (P : Par) (ρ : Nat → Addr) (σ : Sto) (X : Addr → Prop) (b : Addr) : Prop := (∃ j o, lookN σ j = some o ∧ ρ j = b) ∨ X b ∨ ∃ t ∈ P.TB, t.P = b

structure Ext (P : Par) (X : Addr → Prop) (ρ : Nat → Addr) (σ : Sto) (nx : Nat) (h : Heap) (ρ' : Nat → Addr) (σ' : Sto) (nx' : Nat) (h' : Heap) : Prop where
  le : nx ≤ nx'
  ag : ∀ j, j < nx → ρ' j = ρ j
  dom : ∀ j o, lookN σ' j = some o → (∃ o', lookN σ j = some o') ∨ (nx ≤ j ∧ h.get? (ρ' j) = none)
  kp : Kpt (Wr P ρ σ X) h h'
  there : ∀ b o, h.get? b = some o → ∃ o', h'.get? b = some o'
  sr : SR P ρ' σ' nx' h'
  inv : Inv P h'

noncomputable def Same (S S' : Shared) : Prop := S'.gens = S.gens ∧ S'.drawn = S.drawn ∧ S'.os = S.os
theorem Same.refl (S : Shared) : Same S S := ⟨rfl, rfl, rfl⟩
theorem Same.trans {a b c : Shared} (x : Same a b) (z : Same b c) : Same a c := ⟨z.1.trans x.1, z.2.1.trans x.2.1, z.2.2.trans x.2.2⟩

section
variable {P : Par} {X : Addr → Prop} {ρ ρ' ρ₁ ρ₂ : Nat → Addr} {σ σ' σ₁ σ₂ : Sto} {nx nx' nx₁ nx₂ : Nat} {h h' h₁ h₂ : Heap}

/-- what may be written is never of the things that stand -/
noncomputable def XOk (h : Heap) (X : Addr → Prop) : Prop := ∀ b o, X b → h.get? b = some o → ¬ Imm o ∧ ¬ Tab o
theorem xok_no : XOk h NoX := fun _ _ x => x.elim
theorem not_imm_list {vs : Array Value} {n : Nat} : ¬ Imm (listOf vs n) := by
  rintro (⟨h, _⟩ | ⟨fd, h⟩ | ⟨h, _⟩)
  · exact absurd (show Value.type "list" = Value.type "tuple" from h) (by decide)
  · cases h
  · exact absurd (show Value.type "list" = Value.type "code" from h) (by decide)
theorem not_imm_cell {o : Obj} {v : Option Value} (e : o.data = .cell v) : ¬ Imm o := by
  rintro (⟨_, vs, n, h⟩ | ⟨fd, h⟩ | ⟨_, vs, h⟩) <;> rw [e] at h <;> cases h
theorem not_imm_dict {o : Obj} {es : Array DictEntry} {n : Nat} (e : o.data = .dict es n) : ¬ Imm o := by
  rintro (⟨_, vs, n, h⟩ | ⟨fd, h⟩ | ⟨_, vs, h⟩) <;> rw [e] at h <;> cases h
theorem not_imm_tab {o : Obj} (t : Tab o) : ¬ Imm o := by
  obtain ⟨hc, vs, hd⟩ := t
  rintro (⟨h, _⟩ | ⟨fd, h⟩ | ⟨h, _⟩)
  · rw [hc] at h; cases h
  · rw [hd] at h; cases h
  · rw [hc] at h; cases h
theorem not_tab_list {vs : Array Value} {n : Nat} : ¬ Tab (listOf vs n) := by
  rintro ⟨h, _⟩; cases h
theorem not_tab_cell {o : Obj} {v : Option Value} (e : o.data = .cell v) : ¬ Tab o := by
  rintro ⟨_, vs, h⟩; rw [e] at h; cases h
theorem not_tab_dict {o : Obj} {es : Array DictEntry} {n : Nat} (e : o.data = .dict es n) : ¬ Tab o := by
  rintro ⟨_, vs, h⟩; rw [e] at h; cases h
theorem OR.kind {a : Addr} {x : AObj} {o : Obj} (r : OR P ρ nx h a x) (e : h.get? a = some o) : ¬ Imm o ∧ ¬ Tab o := by
  cases x with
  | list l =>
    obtain ⟨vs, n, q, _⟩ := r
    rw [q] at e; cases e
    exact ⟨not_imm_list, not_tab_list⟩
  | cell y =>
    have : ∃ v, h.IsCell a v := by
      cases y with
      | none => exact r
      | some z => obtain ⟨v, q, _⟩ := r; exact ⟨_, q⟩
    obtain ⟨v, o', q, d⟩ := this
    rw [q] at e; cases e
    exact ⟨not_imm_cell d, not_tab_cell d⟩
theorem OR.is {a : Addr} {x : AObj} (r : OR P ρ nx h a x) : ∃ o, h.get? a = some o := by
  cases x with
  | list l => obtain ⟨_, _, q, _⟩ := r; exact ⟨_, q⟩
  | cell x =>
    cases x with
    | none => obtain ⟨_, _, q, _⟩ := r; exact ⟨_, q⟩
    | some x => obtain ⟨_, ⟨_, q, _⟩, _⟩ := r; exact ⟨_, q⟩
theorem xok_ns {D : Addr} {m : Str → Option Value} (hn : h.Ns D m) : XOk h (fun b => b = D) := by
  rintro b o rfl e
  obtain ⟨o', es, ep, q, d, _⟩ := hn
  rw [q] at e; cases e
  exact ⟨not_imm_dict d, not_tab_dict d⟩
theorem Ext.im (E : Ext P X ρ σ nx h ρ' σ' nx' h') (S : SR P ρ σ nx h) (I : Inv P h) (x : XOk h X) : ∀ b o, h.get? b = some o → Imm o → h'.get? b = some o := by
  intro b o e i
  refine E.kp b o e ?_
  rintro (⟨j, q, hj, rfl⟩ | hx | ⟨t, ht, rfl⟩)
  · exact (OR.kind (S.rel j q hj) e).1 i
  · exact (x b o hx e).1 i
  · obtain ⟨ps, _, ⟨_, g⟩, _⟩ := I.tabs t ht
    rw [g] at e; cases e
    exact not_imm_tab ⟨rfl, _, rfl⟩ i
theorem Ext.later (E : Ext P X ρ σ nx h ρ' σ' nx' h') (S : SR P ρ σ nx h) (I : Inv P h) (x : XOk h X) : Later ρ nx h ρ' nx' h' := ⟨E.le, E.ag, E.im S I x⟩

theorem Ext.refl (S : SR P ρ σ nx h) (I : Inv P h) : Ext P X ρ σ nx h ρ σ nx h :=
  ⟨Nat.le_refl _, fun _ _ => rfl, fun _ o e => .inl ⟨o, e⟩, fun _ _ e _ => e, fun _ o e => ⟨o, e⟩, S, I⟩
theorem Ext.transY {Y : Addr → Prop} (E₁ : Ext P X ρ σ nx h ρ₁ σ₁ nx₁ h₁) (S : SR P ρ σ nx h) (E₂ : Ext P Y ρ₁ σ₁ nx₁ h₁ ρ₂ σ₂ nx₂ h₂) (y : ∀ b, Y b → X b ∨ h.get? b = none) : Ext P X ρ σ nx h ρ₂ σ₂ nx₂ h₂ := by
  refine ⟨Nat.le_trans E₁.le E₂.le, fun j hj => (E₂.ag j (Nat.lt_of_lt_of_le hj E₁.le)).trans (E₁.ag j hj), fun j o e => ?_, fun b o e n => ?_, fun b o e => ?_, E₂.sr, E₂.inv⟩
  · rcases E₂.dom j o e with ⟨o', q⟩ | ⟨q1, q2⟩
    · rcases E₁.dom j o' q with r | ⟨r1, r2⟩
      · exact .inl r
      · refine .inr ⟨r1, ?_⟩
        rw [E₂.ag j (E₁.sr.lt j o' q)]
        exact r2
    · refine .inr ⟨Nat.le_trans E₁.le q1, ?_⟩
      cases q : h.get? (ρ₂ j) with
      | none => rfl
      | some ob =>
        obtain ⟨ob', z⟩ := E₁.there _ _ q
        rw [q2] at z; cases z
  · refine E₂.kp b o (E₁.kp b o e n) ?_
    rintro (⟨j, q, hj, rfl⟩ | hx | ht)
    · rcases E₁.dom j q hj with ⟨o', r⟩ | ⟨_, r2⟩
      · exact n (.inl ⟨j, o', r, (E₁.ag j (S.lt j o' r)).symm⟩)
      · rw [r2] at e; cases e
    · rcases y b hx with z | z
      · exact n (.inr (.inl z))
      · rw [z] at e; cases e
    · exact n (.inr (.inr ht))
  · obtain ⟨o', e'⟩ := E₁.there b o e
    exact E₂.there b o' e'
theorem Ext.trans (E₁ : Ext P X ρ σ nx h ρ₁ σ₁ nx₁ h₁) (S : SR P ρ σ nx h) (E₂ : Ext P X ρ₁ σ₁ nx₁ h₁ ρ₂ σ₂ nx₂ h₂) : Ext P X ρ σ nx h ρ₂ σ₂ nx₂ h₂ := E₁.transY S E₂ fun _ x => .inl x
theorem Ext.widen {Y : Addr → Prop} (E : Ext P X ρ σ nx h ρ' σ' nx' h') (w : ∀ b, X b → Y b) : Ext P Y ρ σ nx h ρ' σ' nx' h' :=
  ⟨E.le, E.ag, E.dom, fun b o e n => E.kp b o e (by
    rintro (q | q | q)
    · exact n (.inl q)
    · exact n (.inr (.inl (w b q)))
    · exact n (.inr (.inr q))), E.there, E.sr, E.inv⟩
theorem Ext.ofNo {Y : Addr → Prop} (E : Ext P NoX ρ σ nx h ρ' σ' nx' h') : Ext P Y ρ σ nx h ρ' σ' nx' h' := E.widen fun _ x => x.elim

theorem oldK_kpt {H0 : Heap} {W : Addr → Prop} (K : OldK H0 h) (hk : Kpt W h h') (hW : ∀ b, W b → H0.objs.size ≤ b) : OldK H0 h' := by
  have ne : ∀ b o, H0.get? b = some o → ¬ W b := fun b o e w => absurd (Heap.lt_size e) (Nat.not_lt.mpr (hW b w))
  refine ⟨fun b o e => ?_, fun b o e => let ⟨o', ho'⟩ := K.there b o e; ⟨o', hk _ _ ho' (ne b o e)⟩⟩
  rcases K.old b o e with x | ⟨t, hc, vs, more, hv, x⟩ | ⟨rfl, hc, ⟨o', es, n, ho', r⟩, z⟩
  · exact .inl (hk _ _ x (ne b o e))
  · exact .inr (.inl ⟨t, hc, vs, more, hv, hk _ _ x (ne b o e)⟩)
  · exact .inr (.inr ⟨rfl, hc, ⟨o', es, n, hk _ _ ho' (ne _ o e), r⟩, fun key => by rw [OldK.staticOf_congr ((hk _ _ ho' (ne _ o e)).trans ho'.symm) key]; exact z key⟩)
theorem Inv.kpt {W : Addr → Prop} (I : Inv P h) (hk : Kpt W h h') (hW : ∀ b, W b → P.H0.objs.size ≤ b ∧ ∀ o, h.get? b = some o → ¬ Imm o ∧ ¬ Tab o) : Inv P h' := by
  have im : ∀ b o, h.get? b = some o → Imm o ∨ Tab o → h'.get? b = some o := fun b o e i => hk b o e fun w => by
    rcases i with i | i
    · exact ((hW b w).2 o e).1 i
    · exact ((hW b w).2 o e).2 i
  refine ⟨fun t ht => ?_, oldK_kpt I.old hk fun b w => (hW b w).1, I.inj, I.last, ?_, I.cs⟩
  rotate_left
  · obtain ⟨mc, ⟨o, es, ep, q, r⟩, z⟩ := I.lim
    exact ⟨mc, ⟨o, es, ep, hk _ _ q (fun w => absurd I.cs (Nat.not_lt.mpr (hW _ w).1)), r⟩, z⟩
  obtain ⟨ps, ic, ta, h0, hne, hc⟩ := I.tabs t ht
  obtain ⟨⟨o, vs, go, co, dd, vo⟩, gP⟩ := ta
  have g1 := im t.c o go (.inl (.inr (.inr ⟨co, vs, dd⟩)))
  have g2 := im t.P _ gP (.inr ⟨rfl, _, rfl⟩)
  refine ⟨ps, ?_, ⟨⟨o, vs, g1, co, dd, vo⟩, g2⟩, h0, hne, ?_⟩
  · obtain ⟨o', vs', file, tf, flags, tg, inF, text, tt, op, a, r1, r2, r3, r4, r5, r6, b, r⟩ := ic
    rw [go] at a; cases a
    rw [gP] at b; cases b
    exact ⟨o, vs', file, tf, flags, tg, inF, text, tt, _, g1, r1, r2, r3, r4, r5, r6, g2, r⟩
  · rcases hc with hc | ⟨c', hc, o', vs', t', q1, q2, q3, q4⟩
    · exact .inl hc
    · exact .inr ⟨c', hc, o', vs', t', im c' o' q1 (.inl (.inr (.inr ⟨q2, vs', q3⟩))), q2, q3, q4⟩

/-- nothing is written, some may be new -/
theorem SR.grow (S : SR P ρ σ nx h) (hk : ∀ b o, h.get? b = some o → h'.get? b = some o) : SR P ρ σ nx h' := by
  have L : Later ρ nx h ρ nx h' := ⟨Nat.le_refl _, fun _ _ => rfl, fun b o e _ => hk b o e⟩
  refine ⟨S.lt, S.inj, S.up, fun j o e => ?_⟩
  have r := S.rel j o e
  cases o with
  | list l =>
    obtain ⟨vs, n, q, z, b⟩ := r
    exact ⟨vs, n, hk _ _ q, z.later L, b⟩
  | cell x =>
    cases x with
    | none => obtain ⟨v, q⟩ := r; exact ⟨v, q.keeps hk⟩
    | some x => obtain ⟨v, q, z⟩ := r; exact ⟨v, q.keeps hk, z.later L⟩
theorem Ext.grow (S : SR P ρ σ nx h) (I : Inv P h) (hk : ∀ b o, h.get? b = some o → h'.get? b = some o) : Ext P X ρ σ nx h ρ σ nx h' :=
  ⟨Nat.le_refl _, fun _ _ => rfl, fun _ o e => .inl ⟨o, e⟩, fun b o e _ => hk b o e, fun b o e => ⟨o, hk b o e⟩, S.grow hk, I.kpt (W := NoX) (fun b o e _ => hk b o e) fun _ x => x.elim⟩

noncomputable def upd (ρ : Nat → Addr) (n : Nat) (a : Addr) : Nat → Addr := fun j => if j = n then a else ρ j
theorem upd_eq (ρ : Nat → Addr) (n : Nat) (a : Addr) : upd ρ n a n = a := if_pos rfl
theorem upd_ne (ρ : Nat → Addr) {n j : Nat} (a : Addr) (h : j ≠ n) : upd ρ n a j = ρ j := if_neg h
theorem OR.later (L : Later ρ nx h ρ' nx' h') {a : Addr} {o : AObj} (hk : ∀ ob, h.get? a = some ob → h'.get? a = some ob) (r : OR P ρ nx h a o) : OR P ρ' nx' h' a o := by
  cases o with
  | list l =>
    obtain ⟨vs, n, q, z, b⟩ := r
    exact ⟨vs, n, hk _ q, z.later L, b⟩
  | cell x =>
    cases x with
    | none => obtain ⟨v, ob, q, d⟩ := r; exact ⟨v, ob, hk _ q, d⟩
    | some x => obtain ⟨v, ⟨ob, q, d⟩, z⟩ := r; exact ⟨v, ⟨ob, hk _ q, d⟩, z.later L⟩
/-- a new place -/
theorem Ext.alloc (S : SR P ρ σ nx h) (I : Inv P h) (hk : ∀ b o, h.get? b = some o → h'.get? b = some o) {a : Addr} {o : AObj} (ha : h.get? a = none) (hb : P.H0.objs.size ≤ a) (hσ : ∀ j, lookN σ' j = if j = nx then some o else lookN σ j)
    (hr : OR P (upd ρ nx a) (nx + 1) h' a o) : Ext P X ρ σ nx h (upd ρ nx a) σ' (nx + 1) h' := by
  have ag : ∀ j, j < nx → upd ρ nx a j = ρ j := fun j hj => upd_ne _ _ (Nat.ne_of_lt hj)
  have L : Later ρ nx h (upd ρ nx a) (nx + 1) h' := ⟨Nat.le_succ _, ag, fun b o e _ => hk b o e⟩
  have lt : ∀ {j o}, lookN σ j = some o → ρ j ≠ a := fun {j o} e q => by
    obtain ⟨ob, z⟩ := (OR.is (S.rel j o e))
    rw [q, ha] at z; cases z
  have ne : ∀ {j o}, lookN σ j = some o → j ≠ nx := fun {j o} e => Nat.ne_of_lt (S.lt j o e)
  refine ⟨Nat.le_succ _, ag, fun j o' e => ?_, fun b o' e _ => hk b o' e, fun b o' e => ⟨o', hk b o' e⟩, ⟨fun j o' e => ?_, fun i j o1 o2 e1 e2 q => ?_, fun j o' e => ?_, fun j o' e => ?_⟩, I.kpt (W := NoX) (fun b o e _ => hk b o e) fun _ x => x.elim⟩
  · rw [hσ] at e
    by_cases q : j = nx
    · subst q; exact .inr ⟨Nat.le_refl _, by rw [upd_eq]; exact ha⟩
    · rw [if_neg q] at e; exact .inl ⟨o', e⟩
  · rw [hσ] at e
    by_cases q : j = nx
    · subst q; exact Nat.lt_succ_self _
    · rw [if_neg q] at e; exact Nat.lt_succ_of_lt (S.lt j o' e)
  · rw [hσ] at e1 e2
    by_cases q1 : i = nx
    · by_cases q2 : j = nx
      · rw [q1, q2]
      · rw [if_neg q2] at e2
        rw [q1, upd_eq, upd_ne _ _ q2] at q
        exact absurd q.symm (lt e2)
    · rw [if_neg q1] at e1
      by_cases q2 : j = nx
      · rw [q2, upd_eq, upd_ne _ _ q1] at q
        exact absurd q (lt e1)
      · rw [if_neg q2] at e2
        rw [upd_ne _ _ q1, upd_ne _ _ q2] at q
        exact S.inj i j _ _ e1 e2 q
  · rw [hσ] at e
    by_cases q : j = nx
    · subst q; rw [upd_eq]; exact hb
    · rw [if_neg q] at e; rw [upd_ne _ _ q]; exact S.up j o' e
  · rw [hσ] at e
    by_cases q : j = nx
    · subst q
      rw [if_pos rfl] at e
      cases e
      rw [upd_eq]; exact hr
    · rw [if_neg q] at e
      rw [upd_ne _ _ q]
      exact (S.rel j o' e).later L fun ob q => hk _ _ q
/-- a place is written -/
theorem Ext.write (S : SR P ρ σ nx h) (I : Inv P h) {j : Nat} {o o' : AObj} (hj : lookN σ j = some o) (hk : Kpt (fun b => b = ρ j) h h') (hσ : ∀ i, lookN σ' i = if i = j then some o' else lookN σ i)
    (hr : OR P ρ nx h' (ρ j) o') : Ext P X ρ σ nx h ρ σ' nx h' := by
  have W : ∀ b, b = ρ j → P.H0.objs.size ≤ b ∧ ∀ ob, h.get? b = some ob → ¬ Imm ob ∧ ¬ Tab ob := by
    rintro b rfl
    exact ⟨S.up j o hj, fun ob e => (S.rel j o hj).kind e⟩
  have L : Later ρ nx h ρ nx h' := ⟨Nat.le_refl _, fun _ _ => rfl, fun b ob e i => hk b ob e fun w => ((W b w).2 ob e).1 i⟩
  refine ⟨Nat.le_refl _, fun _ _ => rfl, fun i o1 e => ?_, fun b o1 e n => hk b o1 e fun w => n (.inl ⟨j, o, hj, w.symm⟩), fun b o1 e => if w : b = ρ j then (by subst w; exact OR.is hr) else ⟨o1, hk b o1 e w⟩, ⟨fun i o1 e => ?_, fun i k o1 o2 e1 e2 q => ?_, fun i o1 e => ?_, fun i o1 e => ?_⟩, I.kpt hk W⟩
  · rw [hσ] at e
    by_cases q : i = j
    · subst q; exact .inl ⟨o, hj⟩
    · rw [if_neg q] at e; exact .inl ⟨o1, e⟩
  · rw [hσ] at e
    by_cases q : i = j
    · subst q; exact S.lt _ _ hj
    · rw [if_neg q] at e; exact S.lt _ _ e
  · have : ∀ {i o1}, lookN σ' i = some o1 → ∃ o2, lookN σ i = some o2 := fun {i o1} e => by
      rw [hσ] at e
      by_cases q : i = j
      · subst q; exact ⟨o, hj⟩
      · rw [if_neg q] at e; exact ⟨o1, e⟩
    obtain ⟨a1, b1⟩ := this e1
    obtain ⟨a2, b2⟩ := this e2
    exact S.inj i k _ _ b1 b2 q
  · rw [hσ] at e
    by_cases q : i = j
    · subst q; exact S.up _ _ hj
    · rw [if_neg q] at e; exact S.up _ _ e
  · rw [hσ] at e
    by_cases q : i = j
    · subst q
      rw [if_pos rfl] at e
      cases e
      exact hr
    · rw [if_neg q] at e
      exact (S.rel i o1 e).later L fun ob z => hk _ _ z fun w => q (S.inj i j _ _ e hj w)
/-- a thing beside the store is written (a frame) -/
theorem Ext.beside (S : SR P ρ σ nx h) (I : Inv P h) (hk : Kpt X h h') (ht : ∀ b, X b → ∃ o, h'.get? b = some o) (hX : ∀ b, X b → P.H0.objs.size ≤ b ∧ (∀ o, h.get? b = some o → ¬ Imm o ∧ ¬ Tab o) ∧ ∀ j o, lookN σ j = some o → ρ j ≠ b) : Ext P X ρ σ nx h ρ σ nx h' := by
  have L : Later ρ nx h ρ nx h' := ⟨Nat.le_refl _, fun _ _ => rfl, fun b ob e i => hk b ob e fun w => ((hX b w).2.1 ob e).1 i⟩
  exact ⟨Nat.le_refl _, fun _ _ => rfl, fun i o1 e => .inl ⟨o1, e⟩, fun b o1 e n => hk b o1 e fun w => n (.inr (.inl w)), fun b o1 e => Classical.byCases (fun w : X b => ht b w) fun w => ⟨o1, hk b o1 e w⟩,
    ⟨S.lt, S.inj, S.up, fun i o1 e => (S.rel i o1 e).later L fun ob z => hk _ _ z fun w => (hX _ w).2.2 i o1 e rfl⟩, I.kpt hk fun b w => ⟨(hX b w).1, (hX b w).2.1⟩⟩
end
end Mine
set_option maxRecDepth 100000
namespace Mine
open PySem PySem.Calls PyProof.Rows PySem.W PySem.W.Z

noncomputable def KindR (k1 k2 : Option NameKind) : Prop := match k2 with
  | some .local => k1 = some .local
  | some .cell => k1 = some .cell
  | some .free => k1 = some .free ∨ k1 = some .cell
  | some .globalImplicit => k1 = some .globalImplicit
  | _ => True
structure FrOk (P : Par) (ρ : Nat → Addr) (nx : Nat) (h : Heap) (D : Addr) (E : AEnv) (env : Env) (lv : Lv) : Prop where
  ok : scOk E.scope = true
  kind : env.scope.kind = .function
  loc : env.locals = D
  glob : env.globals = mainGlobals
  blt : env.builtins = builtinsNs
  defs : ∀ pos x, (pos, x) ∈ E.defs → ∃ t ∈ P.TB, env.code = .ref t.c ∧ t.pos = pos ∧ t.qual = env.qual ++ x
  names : ∀ x, KindR (env.kindOf x) (kindS E.scope x)
  cells : ∀ x j, lookS E.cells x = some j → j < nx ∧ env.cells.lookup x = some (ρ j)
  up : P.H0.objs.size ≤ D
  ns : ∃ m, h.Ns D m ∧ ∀ x a, lookS lv x = some a → ∃ v, m x = some v ∧ VR P ρ nx h v a
structure Cx (d : Nat) (A : Around) : Prop where
  handled : A.handled = none
  depth : A.depth + d ≤ 900
  units : A.units + 8 * d + 400 ≤ 9900

/-- a function's object, as the interpreter's words say it -/
structure FnRec (P : Par) (ρ : Nat → Addr) (nx : Nat) (S : Shared) (f : Addr) (fi : FnInfo) (cl : List (Str × Nat)) (o : Obj) (fd : FuncData) (c : Addr) : Prop where
  get : S.heap.get? f = some o
  data : o.data = .func fd
  params : fd.params = fi.ps
  body : fd.body = .stmts fi.body
  scope : fd.scope = fi.scope
  globals : fd.globals = mainGlobals
  builtins : fd.builtins = builtinsNs
  code : fd.code = .ref c
  crec : CRec S.heap c fd.qualname
  defs : ∀ pos x, (pos, x) ∈ defsOf fi.body → ∃ t ∈ P.TB, c = t.c ∧ t.pos = pos ∧ t.qual = (fd.qualname ++ ".<locals>." : Str) ++ x
  nil : cl = [] → fd.closure = []
  cells : ∀ x j, lookS cl x = some j → j < nx ∧ fd.closure.lookup x = some (ρ j)
  dflt : plainPs fi.ps = true → fd.defaults = .none ∧ fd.kwdefaults = .none
  bind : ∀ args bs vs, binds fi.ps args = some bs → VRs P ρ nx S.heap vs args → ∃ bv, BindsTo S fd ⟨vs, []⟩ bv ∧ (bs.map Prod.fst).Nodup ∧ bv.map Prod.fst = bs.map Prod.fst ∧ VRs P ρ nx S.heap (bv.map Prod.snd) (bs.map Prod.snd)
noncomputable def FnObj (P : Par) (ρ : Nat → Addr) (nx : Nat) (S : Shared) (f : Addr) (fi : FnInfo) (cl : List (Str × Nat)) : Prop := ∃ o fd c, FnRec P ρ nx S f fi cl o fd c
noncomputable def FnAt (P : Par) (a : Addr) (fi : FnInfo) : Prop := ∀ (ρ : Nat → Addr) (nx : Nat) (S : Shared), Inv P S.heap → FnObj P ρ nx S a fi []
noncomputable def bval : BI → Value
  | .len => .builtin "len" | .min => .builtin "min" | .max => .builtin "max" | .sum => .builtin "sum" | .sorted => .builtin "sorted" | .tuple => .type "tuple" | .abs => .builtin "abs" | .divmod => .builtin "divmod"
structure Glob (P : Par) (body : List Stmt) (mg mb : Str → Option Value) : Prop where
  g : ∀ h, Inv P h → h.Ns mainGlobals mg
  b : ∀ h, Inv P h → h.Ns builtinsNs mb
  bm : ∀ h, Inv P h → ∀ t ∈ P.TB, h.BuiltinsAt mg t.P
  consts : ∀ x i, constIn body x = some i → ∃ t, mg x = some (.int i t)
  fns : ∀ x fi, fnIn body x = some fi → ∃ a, mg x = some (.ref a) ∧ FnAt P a fi
  blt : ∀ x b, fnIn body x = none → biIn x = some b → mg x = none ∧ mb x = some (bval b)
  range : ∀ x, seq (Str.ofString "range") x = true → mg x = none ∧ mb x = some (.type "range")
  reversed : ∀ x, seq (Str.ofString "reversed") x = true → mg x = none ∧ mb x = some (.type "reversed")

noncomputable abbrev OkV (P : Par) (X : Addr → Prop) (ρ : Nat → Addr) (s : St) (S : Shared) (s' : St) (a : AV) : Value → Shared → Prop := fun v S' => ∃ ρ', Ext P X ρ s.σ s.nx S.heap ρ' s'.σ s'.nx S'.heap ∧ VR P ρ' s'.nx S'.heap v a ∧ Same S S'
noncomputable abbrev NoE : Value → Shared → Prop := fun _ _ => False

section
variable {P : Par} {X : Addr → Prop} {ρ ρ' : Nat → Addr} {σ σ' : Sto} {nx nx' : Nat} {h h' : Heap} {D : Addr} {E : AEnv} {env : Env} {lv : Lv}
theorem ns_apart {m : Str → Option Value} (hn : h.Ns D m) (S : SR P ρ σ nx h) {j : Nat} {o : AObj} (e : lookN σ j = some o) : ρ j ≠ D := by
  rintro rfl
  obtain ⟨ob, es, ep, q, d, _⟩ := hn
  have r := S.rel j o e
  cases o with
  | list l =>
    obtain ⟨vs, n, z, _⟩ := r
    rw [q] at z; cases z; cases d
  | cell x =>
    have : ∃ v, h.IsCell (ρ j) v := by
      cases x with
      | none => exact r
      | some z => obtain ⟨v, q, _⟩ := r; exact ⟨_, q⟩
    obtain ⟨v, o', q', d'⟩ := this
    rw [q] at q'; cases q'
    rw [d] at d'; cases d'
theorem ns_notab {m : Str → Option Value} (hn : h.Ns D m) (I : Inv P h) : ∀ t ∈ P.TB, t.P ≠ D := by
  rintro t ht rfl
  obtain ⟨ob, es, ep, q, d, _⟩ := hn
  obtain ⟨ps, _, ⟨_, g⟩, _⟩ := I.tabs t ht
  rw [q] at g; cases g; cases d
theorem FrOk.xok (F : FrOk P ρ nx h D E env lv) : XOk h (fun b => b = D) := let ⟨_, hn, _⟩ := F.ns; xok_ns hn
theorem Ext.laterNo (E : Ext P NoX ρ σ nx h ρ' σ' nx' h') (S : SR P ρ σ nx h) (I : Inv P h) : Later ρ nx h ρ' nx' h' := E.later S I xok_no
theorem FrOk.ext (F : FrOk P ρ nx h D E env lv) (S : SR P ρ σ nx h) (I : Inv P h) (x : Ext P NoX ρ σ nx h ρ' σ' nx' h') : FrOk P ρ' nx' h' D E env lv := by
  have L := x.laterNo S I
  refine ⟨F.ok, F.kind, F.loc, F.glob, F.blt, F.defs, F.names, fun y j e => ?_, F.up, ?_⟩
  · obtain ⟨a, b⟩ := F.cells y j e
    exact ⟨Nat.lt_of_lt_of_le a x.le, by rw [x.ag j a]; exact b⟩
  · obtain ⟨m, hn, hm⟩ := F.ns
    refine ⟨m, ?_, fun y a e => ?_⟩
    · obtain ⟨ob, es, ep, q, d⟩ := id hn
      exact ⟨ob, es, ep, x.kp _ _ q (by
        rintro (⟨j, o, e, z⟩ | z | ⟨t, ht, z⟩)
        · exact ns_apart hn S e z
        · exact z
        · exact ns_notab hn I t ht z), d⟩
    · obtain ⟨v, q, r⟩ := hm y a e
      exact ⟨v, q, r.later L⟩
end

theorem odd_of {names : List (Str × NameKind)} (h : namesOk names = true) : ∀ {x : Str} {k : NameKind}, lookS names x = some k → oddName x = false ∧ kindOk k = true := by
  induction names with
  | nil => intro x k e; cases e
  | cons p r ih =>
    intro x k e
    unfold namesOk at h
    cases h1 : kindOk p.2 with
    | false => rw [h1] at h; simp at h
    | true =>
      cases h2 : noName r p.1 with
      | false => rw [h1, h2] at h; simp at h
      | true =>
        cases h3 : oddName p.1 with
        | true => rw [h1, h2, h3] at h; simp at h
        | false =>
          rw [h1, h2, h3] at h
          rw [lookS_cons] at e
          cases q : seq p.1 x with
          | true =>
            rw [q] at e
            cases e
            rw [seq_iff.mp q] at h3
            exact ⟨h3, h1⟩
          | false =>
            rw [q] at e
            exact ih h e
theorem scOk_names {sc : Scope} (h : scOk sc = true) : sc.kind = .function ∧ sc.isGenerator = false ∧ sc.isCoroutine = false ∧ namesOk sc.names = true := by
  unfold scOk at h
  split at h
  · rename_i h1 h2 h3; exact ⟨h1, h2, h3, h⟩
  · cases h
theorem odd_debug {x : Str} (h : oddName x = false) : (x == ("__debug__" : Str)) = false ∧ (x == ("__classdict__" : Str)) = false := by
  unfold oddName at h
  cases q : seq (Str.ofString "__debug__") x with
  | true => rw [q] at h; cases h
  | false =>
    rw [q] at h
    have h' : seq (Str.ofString "__classdict__") x = false := h
    refine ⟨?_, ?_⟩
    · cases z : (x == ("__debug__" : Str)) with
      | false => rfl
      | true => rw [eq_of_beq z, seq_refl] at q; cases q
    · cases z : (x == ("__classdict__" : Str)) with
      | false => rfl
      | true => rw [eq_of_beq z, seq_refl] at h'; cases h'

section
variable {prog : Program} {w : World} {A : Around} {P : Par} {body : List Stmt} {mg mb : Str → Option Value} {ρ : Nat → Addr} {D : Addr} {E : AEnv} {env : Env} {s s' : St} {S : Shared} {x : Str} {pos : Pos} {a : AV}
theorem FrOk.odd (F : FrOk P ρ s.nx S.heap D E env s.lv) {k : NameKind} (e : kindS E.scope x = some k) : (x == ("__debug__" : Str)) = false ∧ (x == ("__classdict__" : Str)) = false :=
  odd_debug (odd_of (scOk_names F.ok).2.2.2 e).1
theorem name_global {v : Value} (G : Glob P body mg mb) (F : FrOk P ρ s.nx S.heap D E env s.lv) (I : Inv P S.heap) (e : kindS E.scope x = some .globalImplicit) (hv : mg x = some v) {Q : Value → Shared → Prop} (h : Q v S) :
    wpAny (model prog w) A (eval (.Name x pos) env) Q NoE S := by
  have hk := F.names x
  rw [e] at hk
  exact Name_function_global F.kind hk (loadGlobal_global (env := env) (by rw [F.glob]; exact G.g _ I) hv h) (F.odd e).1
theorem name_builtin {v : Value} (G : Glob P body mg mb) (F : FrOk P ρ s.nx S.heap D E env s.lv) (I : Inv P S.heap) (e : kindS E.scope x = some .globalImplicit) (hn : mg x = none) (hv : mb x = some v) {Q : Value → Shared → Prop} (h : Q v S) :
    wpAny (model prog w) A (eval (.Name x pos) env) Q NoE S := by
  have hk := F.names x
  rw [e] at hk
  exact Name_function_global F.kind hk (loadGlobal_builtin (env := env) (by rw [F.glob]; exact G.g _ I) hn (by rw [F.blt]; exact G.b _ I) hv h) (F.odd e).1
theorem locA_some (h : locA x s = some (.v a, s')) : s' = s ∧ lookS s.lv x = some a := by
  unfold locA at h
  cases q : lookS s.lv x with
  | none => rw [q] at h; cases h
  | some b => rw [q] at h; cases h; exact ⟨rfl, rfl⟩
theorem cellA_some (h : cellA x E s = some (.v a, s')) : s' = s ∧ ∃ j, lookS E.cells x = some j ∧ lookN s.σ j = some (.cell (some a)) := by
  unfold cellA at h
  cases q : lookS E.cells x with
  | none => rw [q] at h; cases h
  | some j =>
    rw [q] at h
    replace h : cellV s.σ j s = some (.v a, s') := h
    unfold cellV at h
    split at h
    · rename_i z
      cases h
      exact ⟨rfl, j, rfl, z⟩
    · cases h
theorem name_ok (G : Glob P body mg mb) (h : stepName body x E s = some (.v a, s')) (F : FrOk P ρ s.nx S.heap D E env s.lv) (R : SR P ρ s.σ s.nx S.heap) (I : Inv P S.heap) : s' = s ∧ wpAny (model prog w) A (eval (.Name x pos) env) (OkV P NoX ρ s S s' a) NoE S := by
  unfold stepName at h
  have hk := F.names x
  cases e : kindS E.scope x with
  | none => rw [e] at h; cases h
  | some k =>
    rw [e] at h hk
    have od := F.odd e
    cases k with
    | «local» =>
      obtain ⟨rfl, q⟩ := locA_some h
      obtain ⟨m, hn, hm⟩ := F.ns
      obtain ⟨v, hv, r⟩ := hm x _ q
      exact ⟨rfl, wpAny_Name (wpAny_loadName_local F.kind hk (by rw [F.loc]; exact hn) hv ⟨ρ, .refl R I, r, .refl _⟩) od.1⟩
    | cell =>
      obtain ⟨rfl, j, q, z⟩ := cellA_some h
      obtain ⟨v, hc, r⟩ := R.rel j _ z
      exact ⟨rfl, wpAny_Name (wpAny_loadName_cell F.kind hk (F.cells x j q).2 hc ⟨ρ, .refl R I, r, .refl _⟩) od.1⟩
    | free =>
      obtain ⟨rfl, j, q, z⟩ := cellA_some h
      obtain ⟨v, hc, r⟩ := R.rel j _ z
      refine ⟨rfl, wpAny_Name ?_ od.1⟩
      rcases hk with hk | hk
      · exact wpAny_loadName_free F.kind hk (F.cells x j q).2 hc ⟨ρ, .refl R I, r, .refl _⟩ od.2
      · exact wpAny_loadName_cell F.kind hk (F.cells x j q).2 hc ⟨ρ, .refl R I, r, .refl _⟩
    | globalExplicit => cases h
    | globalImplicit =>
      replace h : globA body x s = some (.v a, s') := h
      unfold globA at h
      cases q : constIn body x with
      | none => rw [q] at h; cases h
      | some i =>
        rw [q] at h
        cases h
        obtain ⟨t, hv⟩ := G.consts x i q
        exact ⟨rfl, name_global G F I e hv ⟨ρ, .refl R I, .int i t, .refl _⟩⟩
end
end Mine
set_option maxRecDepth 100000
namespace Mine
open PySem PySem.Calls PyProof.Rows PySem.W PySem.W.Z

section
variable {prog : Program} {w : World} {A : Around} {P : Par} {ρ : Nat → Addr} {s s' : St} {S : Shared} {σ : Sto} {nx : Nat}

noncomputable abbrev TokOnly (S S' : Shared) : Prop := S'.heap = S.heap ∧ Same S S'

theorem truth_ok {v : Value} {a : AV} {b : Bool} (h : truthA σ a = some b) (r : VR P ρ nx S.heap v a) (R : SR P ρ σ nx S.heap) : wpAny (model prog w) A (truthy v) (fun c S' => c = b ∧ TokOnly S S') NoE S := by
  unfold truthA at h
  split at h
  · obtain rfl := r.boolI; cases h; exact wpAny_truthy_bool ⟨rfl, rfl, .refl _⟩
  · obtain ⟨t, rfl⟩ := r.intI
    (first | (obtain ⟨rfl, rfl⟩ := inv_v h) | (obtain ⟨rfl, rfl⟩ := inv_b h) | (obtain ⟨rfl, rfl⟩ := inv_vs h) | (obtain ⟨rfl, rfl⟩ := inv_fl h) | (obtain rfl := inv_u h) | (obtain ⟨rfl, rfl⟩ := inv_it h) | cases h)
    refine PyProof.Rows.truthy_int ⟨?_, rfl, .refl _⟩
    rw [eqB_eq]
    rename_i i
    by_cases q : i = 0 <;> simp [q]
  · obtain rfl := r.noneI; cases h; exact truthy_none ⟨rfl, rfl, .refl _⟩
  · obtain ⟨_, rfl⟩ := r.locI
    split at h
    · rename_i e
      obtain ⟨vs, n, q, z, lb⟩ := R.rel _ _ e
      obtain rfl := z.nilI
      (first | (obtain ⟨rfl, rfl⟩ := inv_v h) | (obtain ⟨rfl, rfl⟩ := inv_b h) | (obtain ⟨rfl, rfl⟩ := inv_vs h) | (obtain ⟨rfl, rfl⟩ := inv_fl h) | (obtain rfl := inv_u h) | (obtain ⟨rfl, rfl⟩ := inv_it h) | cases h)
      exact wpAny_truthy_list ⟨_, q, rfl, n, rfl⟩ (by decide) ⟨rfl, rfl, rfl, rfl, rfl⟩
    · rename_i e
      obtain ⟨vs, n, q, z, lb⟩ := R.rel _ _ e
      have len := z.length
      obtain ⟨v, ws, rfl, _, _⟩ := z.consI
      (first | (obtain ⟨rfl, rfl⟩ := inv_v h) | (obtain ⟨rfl, rfl⟩ := inv_b h) | (obtain ⟨rfl, rfl⟩ := inv_vs h) | (obtain ⟨rfl, rfl⟩ := inv_fl h) | (obtain rfl := inv_u h) | (obtain ⟨rfl, rfl⟩ := inv_it h) | cases h)
      exact wpAny_truthy_list ⟨_, q, rfl, n, rfl⟩ (by simp only [List.size_toArray]; rw [len]; omega) ⟨rfl, rfl, rfl, rfl, rfl⟩
    · (first | (obtain ⟨rfl, rfl⟩ := inv_v h) | (obtain ⟨rfl, rfl⟩ := inv_b h) | (obtain ⟨rfl, rfl⟩ := inv_vs h) | (obtain ⟨rfl, rfl⟩ := inv_fl h) | (obtain rfl := inv_u h) | (obtain ⟨rfl, rfl⟩ := inv_it h) | cases h)
  · (first | (obtain ⟨rfl, rfl⟩ := inv_v h) | (obtain ⟨rfl, rfl⟩ := inv_b h) | (obtain ⟨rfl, rfl⟩ := inv_vs h) | (obtain ⟨rfl, rfl⟩ := inv_fl h) | (obtain rfl := inv_u h) | (obtain ⟨rfl, rfl⟩ := inv_it h) | cases h)

theorem small_bits {a : Int} (h : smallI a = true) : Builtin.Int.intBits a ≤ 64 := by
  refine intBits_le_64 ?_ ?_ <;>
  · cases a with
    | ofNat n => have : n ≤ 4611686018427387904 := Nat.le_of_ble_eq_true h; simp only [Int.ofNat_eq_natCast]; omega
    | negSucc n => have : n ≤ 4611686018427387903 := Nat.le_of_ble_eq_true h; omega
theorem small_abs {a : Int} (h : smallI a = true) : a.natAbs < 2 ^ 64 := by
  cases a with
  | ofNat n => have : n ≤ 4611686018427387904 := Nat.le_of_ble_eq_true h; simp only [Int.ofNat_eq_natCast]; omega
  | negSucc n => have : n ≤ 4611686018427387903 := Nat.le_of_ble_eq_true h; omega
theorem smallD_abs {a : Int} (h : smallD a = true) : a.natAbs < 1073741824 := by
  cases a with
  | ofNat n => have : n ≤ 1000000000 := Nat.le_of_ble_eq_true h; simp only [Int.ofNat_eq_natCast]; omega
  | negSucc n => (first | (obtain ⟨rfl, rfl⟩ := inv_v h) | (obtain ⟨rfl, rfl⟩ := inv_b h) | (obtain ⟨rfl, rfl⟩ := inv_vs h) | (obtain ⟨rfl, rfl⟩ := inv_fl h) | (obtain rfl := inv_u h) | (obtain ⟨rfl, rfl⟩ := inv_it h) | cases h)

/-- an answer that makes nothing and changes nothing -/
theorem okI {X : Addr → Prop} {i : Int} {a : AV} (h : valI i s = some (.v a, s')) (R : SR P ρ s.σ s.nx S.heap) (I : Inv P S.heap) : s' = s ∧ ∀ (t : Tok) (S' : Shared), TokOnly S S' → OkV P X ρ s S s' a (.int i t) S' := by
  unfold valI at h
  rw [nInt_eq] at h
  (first | (obtain ⟨rfl, rfl⟩ := inv_v h) | (obtain ⟨rfl, rfl⟩ := inv_b h) | (obtain ⟨rfl, rfl⟩ := inv_vs h) | (obtain ⟨rfl, rfl⟩ := inv_fl h) | (obtain rfl := inv_u h) | (obtain ⟨rfl, rfl⟩ := inv_it h) | cases h)
  exact ⟨rfl, fun t S' T => ⟨ρ, by rw [T.1]; exact .refl R I, .int i t, T.2⟩⟩
theorem tk1 : TokOnly S { S with toks := S.toks + 1 } := ⟨rfl, rfl, rfl, rfl⟩

theorem binI_ok {op : Operator} {x y : Int} {t u : Tok} {a : AV} (hA : A.handled = none) (h : binI op x y s = some (.v a, s')) (R : SR P ρ s.σ s.nx S.heap) (I : Inv P S.heap) : s' = s ∧ wpAny (model prog w) A (binaryOp op (.int x t) (.int y u)) (OkV P NoX ρ s S s' a) NoE S := by
  cases op with
  | Add => obtain ⟨e, k⟩ := okI h R I; exact ⟨e, PyProof.Rows.add_int (k _ _ tk1)⟩
  | Sub => obtain ⟨e, k⟩ := okI h R I; exact ⟨e, PyProof.Rows.sub_int (k _ _ tk1)⟩
  | Mult =>
    replace h : (@Bool.rec (fun _ => Ans) none (valI (Int.mul x y) s) (smallI x)) = some (.v a, s') := h
    cases q : smallI x with
    | false => rw [q] at h; cases h
    | true =>
      rw [q] at h
      obtain ⟨e, k⟩ := okI h R I
      exact ⟨e, PyProof.Rows.mul_int (k _ _ tk1) (.of_left (small_bits q))⟩
  | FloorDiv =>
    replace h : fdivI x y s = some (.v a, s') := h
    unfold fdivI at h
    cases q : eqB y 0 with
    | true => rw [q] at h; cases h
    | false =>
      cases z : smallD y with
      | false => rw [q, z] at h; cases h
      | true =>
        rw [q, z] at h
        obtain ⟨e, k⟩ := okI h R I
        refine ⟨e, PyProof.Rows.floordiv_int ?_ (k _ _ tk1) (.inl (PyProof.noPylong_small (smallD_abs z)))⟩
        rintro rfl
        rw [eqB_eq] at q; simp at q
  | Mod =>
    replace h : (@Bool.rec (fun _ => Ans) (valI (Int.fmod x y) s) none (eqB y 0)) = some (.v a, s') := h
    cases q : eqB y 0 with
    | true => rw [q] at h; cases h
    | false =>
      rw [q] at h
      obtain ⟨e, k⟩ := okI h R I
      refine ⟨e, PyProof.Rows.mod_int_or hA (fun z => ?_) (fun _ => k _ _ tk1)⟩
      subst z
      rw [eqB_eq] at q; simp at q
  | Pow => cases h
  | LShift =>
    replace h : shlI x y s = some (.v a, s') := h
    unfold shlI at h
    replace h := natOf_some h
    obtain ⟨n, hn, h⟩ := h
    subst hn
    cases q : Nat.ble n 1000 with
    | false => rw [q] at h; cases h
    | true =>
      cases z : smallI x with
      | false => rw [q, z] at h; cases h
      | true =>
        rw [q, z] at h
        obtain ⟨e, k⟩ := okI h R I
        have h2 : n ≤ 1000 := Nat.le_of_ble_eq_true q
        exact ⟨e, PyProof.Rows.lshift_int_small (Int.natCast_nonneg _) (by omega) (small_abs z) (by simpa using k _ _ tk1)⟩
  | RShift =>
    replace h : shrI x y s = some (.v a, s') := h
    unfold shrI at h
    replace h := natOf_some h
    obtain ⟨n, hn, h⟩ := h
    subst hn
    cases q : Nat.ble n 1000 with
    | false => rw [q] at h; cases h
    | true =>
      rw [q] at h
      obtain ⟨e, k⟩ := okI h R I
      exact ⟨e, PyProof.Rows.rshift_int (Int.natCast_nonneg _) (by simpa using k _ _ tk1)⟩
  | BitXor => obtain ⟨e, k⟩ := okI h R I; exact ⟨e, PyProof.Rows.xor_int (k _ _ tk1)⟩
  | MatMult => (first | (obtain ⟨rfl, rfl⟩ := inv_v h) | (obtain ⟨rfl, rfl⟩ := inv_b h) | (obtain ⟨rfl, rfl⟩ := inv_vs h) | (obtain ⟨rfl, rfl⟩ := inv_fl h) | (obtain rfl := inv_u h) | (obtain ⟨rfl, rfl⟩ := inv_it h) | cases h)
  | Div => (first | (obtain ⟨rfl, rfl⟩ := inv_v h) | (obtain ⟨rfl, rfl⟩ := inv_b h) | (obtain ⟨rfl, rfl⟩ := inv_vs h) | (obtain ⟨rfl, rfl⟩ := inv_fl h) | (obtain rfl := inv_u h) | (obtain ⟨rfl, rfl⟩ := inv_it h) | cases h)
  | BitOr => (first | (obtain ⟨rfl, rfl⟩ := inv_v h) | (obtain ⟨rfl, rfl⟩ := inv_b h) | (obtain ⟨rfl, rfl⟩ := inv_vs h) | (obtain ⟨rfl, rfl⟩ := inv_fl h) | (obtain rfl := inv_u h) | (obtain ⟨rfl, rfl⟩ := inv_it h) | cases h)
  | BitAnd => (first | (obtain ⟨rfl, rfl⟩ := inv_v h) | (obtain ⟨rfl, rfl⟩ := inv_b h) | (obtain ⟨rfl, rfl⟩ := inv_vs h) | (obtain ⟨rfl, rfl⟩ := inv_fl h) | (obtain rfl := inv_u h) | (obtain ⟨rfl, rfl⟩ := inv_it h) | cases h)
end
end Mine
set_option maxRecDepth 100000
namespace Mine
open PySem PySem.Calls PyProof.Rows PySem.W PySem.W.Z

section
variable {prog : Program} {w : World} {A : Around} {P : Par} {ρ : Nat → Addr} {s s' : St} {S : Shared} {σ : Sto} {nx : Nat}
theorem line4096 {n : Nat} (h : n ≤ 4096) : n ≤ sizeLine := by rw [sizeLine_eq]; omega
theorem newL_okH {X : Addr → Prop} {l : List AV} {a : AV} {vs : List Value} (h : newL l s = some (.v a, s')) (v : VRs P ρ s.nx S.heap vs l) (R : SR P ρ s.σ s.nx S.heap) (I : Inv P S.heap) :
    s'.lv = s.lv ∧ OkV P X ρ s S s' a (.ref S.heap.objs.size) { S with heap := S.heap.push { cls := .type "list", data := .seq vs.toArray } } := by
  unfold newL at h
  cases q : short l with
  | false => rw [q] at h; cases h
  | true =>
    rw [q] at h
    simp only at h
    rw [nNat_eq] at h
    obtain ⟨σ', hσ, h⟩ := putN_some h
    (first | (obtain ⟨rfl, rfl⟩ := inv_v h) | (obtain ⟨rfl, rfl⟩ := inv_b h) | (obtain ⟨rfl, rfl⟩ := inv_vs h) | (obtain ⟨rfl, rfl⟩ := inv_fl h) | (obtain rfl := inv_u h) | (obtain ⟨rfl, rfl⟩ := inv_it h) | cases h)
    have len := v.length
    have lb := short_len q
    have keep : ∀ b o, S.heap.get? b = some o → (S.heap.push { cls := .type "list", data := .seq vs.toArray }).get? b = some o := fun b o e => Heap.get?_push_of_some _ e
    have L : Later ρ s.nx S.heap (upd ρ s.nx S.heap.objs.size) (s.nx + 1) (S.heap.push { cls := .type "list", data := .seq vs.toArray }) := ⟨Nat.le_succ _, fun j hj => upd_ne _ _ (Nat.ne_of_lt hj), fun b o e _ => keep b o e⟩
    refine ⟨rfl, upd ρ s.nx S.heap.objs.size, Ext.alloc R I keep (Heap.get?_none_of_le (Nat.le_refl _)) I.big hσ ⟨vs, 0, Heap.get?_push_size _ rfl, v.later L, lb⟩, ?_, .refl _⟩
    have := VR.loc (P := P) (ρ := upd ρ s.nx S.heap.objs.size) (nx := s.nx + 1) (h := S.heap.push { cls := .type "list", data := .seq vs.toArray }) s.nx (Nat.lt_succ_self _)
    rw [upd_eq] at this
    exact this
theorem newL_short {l : List AV} {r : Rs × St} (h : newL l s = some r) : l.length ≤ 4096 := by
  unfold newL at h
  cases q : short l with
  | false => rw [q] at h; cases h
  | true => exact short_len q
theorem newL_ok {X : Addr → Prop} {l : List AV} {a : AV} {vs : List Value} (h : newL l s = some (.v a, s')) (v : VRs P ρ s.nx S.heap vs l) (R : SR P ρ s.σ s.nx S.heap) (I : Inv P S.heap) : s'.lv = s.lv ∧ wpAny (model prog w) A (newList vs) (OkV P X ρ s S s' a) NoE S := by
  obtain ⟨h1, h2⟩ := newL_okH h v R I
  have := v.length
  have := newL_short h
  exact ⟨h1, wpAny_newList h2 (line4096 (by omega))⟩
theorem newT_ok {X : Addr → Prop} {l : List AV} {a : AV} {vs : List Value} (h : newT l s = some (.v a, s')) (v : VRs P ρ s.nx S.heap vs l) (R : SR P ρ s.σ s.nx S.heap) (I : Inv P S.heap) : s' = s ∧ wpAny (model prog w) A (newTuple vs) (OkV P X ρ s S s' a) NoE S := by
  unfold newT at h
  cases q : short l with
  | false => rw [q] at h; cases h
  | true =>
    rw [q] at h
    (first | (obtain ⟨rfl, rfl⟩ := inv_v h) | (obtain ⟨rfl, rfl⟩ := inv_b h) | (obtain ⟨rfl, rfl⟩ := inv_vs h) | (obtain ⟨rfl, rfl⟩ := inv_fl h) | (obtain rfl := inv_u h) | (obtain ⟨rfl, rfl⟩ := inv_it h) | cases h)
    have len := v.length
    have lb := short_len q
    refine ⟨rfl, wpAny_newTuple ?_ (line4096 (by omega))⟩
    have keep : ∀ b o, S.heap.get? b = some o → (S.heap.push { cls := .type "tuple", data := .seq vs.toArray }).get? b = some o := fun b o e => Heap.get?_push_of_some _ e
    have L : Later ρ s.nx S.heap ρ s.nx (S.heap.push { cls := .type "tuple", data := .seq vs.toArray }) := ⟨Nat.le_refl _, fun _ _ => rfl, fun b o e _ => keep b o e⟩
    exact ⟨ρ, Ext.grow R I keep, .tup _ vs 0 l (Heap.get?_push_size _ rfl) (v.later L), .refl _⟩
end

noncomputable abbrev OkVs (P : Par) (X : Addr → Prop) (ρ : Nat → Addr) (s : St) (S : Shared) (s' : St) (a : List AV) : List Value → Shared → Prop := fun v S' => ∃ ρ', Ext P X ρ s.σ s.nx S.heap ρ' s'.σ s'.nx S'.heap ∧ VRs P ρ' s'.nx S'.heap v a ∧ Same S S'
noncomputable abbrev OkB (P : Par) (X : Addr → Prop) (ρ : Nat → Addr) (s : St) (S : Shared) (s' : St) (b : Bool) : Bool → Shared → Prop := fun c S' => c = b ∧ ∃ ρ', Ext P X ρ s.σ s.nx S.heap ρ' s'.σ s'.nx S'.heap ∧ Same S S'
noncomputable abbrev AtD (D : Addr) : Addr → Prop := fun b => b = D
noncomputable abbrev OkS (P : Par) (X : Addr → Prop) (ρ : Nat → Addr) (s : St) (S : Shared) (s' : St) (D : Addr) (E : AEnv) (env : Env) : Shared → Prop := fun S' => ∃ ρ', Ext P X ρ s.σ s.nx S.heap ρ' s'.σ s'.nx S'.heap ∧ FrOk P ρ' s'.nx S'.heap D E env s'.lv ∧ Same S S'
noncomputable def FlR (P : Par) (ρ : Nat → Addr) (nx : Nat) (h : Heap) (fl : Flow) : AFl → Prop
  | .next => fl = .next
  | .ret a => ∃ v, fl = .ret v ∧ VR P ρ nx h v a
noncomputable abbrev OkF (P : Par) (X : Addr → Prop) (ρ : Nat → Addr) (s : St) (S : Shared) (s' : St) (D : Addr) (E : AEnv) (env : Env) (f : AFl) : Flow → Shared → Prop := fun fl S' => ∃ ρ', Ext P X ρ s.σ s.nx S.heap ρ' s'.σ s'.nx S'.heap ∧ FrOk P ρ' s'.nx S'.heap D E env s'.lv ∧ Same S S' ∧ FlR P ρ' s'.nx S'.heap fl f
/-- an iterator's object -/
noncomputable def ItR (P : Par) (ρ : Nat → Addr) (nx : Nat) (h : Heap) (I : Addr) : AIt → Prop
  | .lst j i => j < nx ∧ h.IsListIter I (ρ j) i
  | .tup l => ∃ t vs n i, h.get? t = some (tupO vs n) ∧ h.IsTupleIter I t i ∧ VRs P ρ nx h (vs.drop i) l
  | .rng lo hi => IsRangeIter h I lo (if lo < hi then hi - lo else 0) 1
  | .rev j n => j < nx ∧ h.IsRevIter I (ρ j) ((n : Int) - 1)
noncomputable abbrev ItOk (P : Par) (ρ : Nat → Addr) (s : St) (S : Shared) (s' : St) (i : AIt) : Value → Shared → Prop := fun v S' => ∃ I, v = .ref I ∧ ∃ ρ', Ext P NoX ρ s.σ s.nx S.heap ρ' s'.σ s'.nx S'.heap ∧ ItR P ρ' s'.nx S'.heap I i ∧ S.heap.get? I = none ∧ P.H0.objs.size ≤ I ∧ Same S S'

section
variable {prog : Program} {w : World} {A : Around} {P : Par} {X : Addr → Prop} {ρ ρ' : Nat → Addr} {s s' : St} {S : Shared} {σ σ' : Sto} {nx nx' : Nat} {h h' : Heap} {I : Addr} {it : AIt}
theorem ItR.obj (r : ItR P ρ nx h I it) : ∃ o c vs, h.get? I = some o ∧ o.cls = .type c ∧ c ≠ "code" ∧ o.data = .fields vs := by
  cases it with
  | lst j i => obtain ⟨_, o, a, b, c⟩ := r; exact ⟨o, _, _, a, b, by decide, c⟩
  | tup l => obtain ⟨_, _, _, _, _, ⟨o, a, b, c⟩, _⟩ := r; exact ⟨o, _, _, a, b, by decide, c⟩
  | rng lo hi => exact ⟨_, _, _, r, rfl, by decide, rfl⟩
  | rev j n => obtain ⟨_, o, a, b, c⟩ := r; exact ⟨o, _, _, a, b, by decide, c⟩
theorem ItR.kind (r : ItR P ρ nx h I it) : ∀ o, h.get? I = some o → ¬ Imm o ∧ ¬ Tab o := by
  obtain ⟨o, c, vs, a, b, hc, d⟩ := r.obj
  intro o' e
  rw [a] at e; cases e
  refine ⟨?_, ?_⟩
  · rintro (⟨_, vs', n, q⟩ | ⟨fd, q⟩ | ⟨q, _⟩)
    · rw [d] at q; cases q
    · rw [d] at q; cases q
    · rw [b] at q; cases q; exact hc rfl
  · rintro ⟨q, _⟩; rw [b] at q; cases q
theorem ItR.apart (r : ItR P ρ nx h I it) (R : SR P ρ σ nx h) {j : Nat} {o : AObj} (e : lookN σ j = some o) : ρ j ≠ I := by
  rintro rfl
  obtain ⟨ob, c, vs, a, b, hc, d⟩ := r.obj
  have q := R.rel j o e
  cases o with
  | list l => obtain ⟨vs', n, z, _⟩ := q; rw [a] at z; cases z; cases d
  | cell x =>
    have : ∃ v, h.IsCell (ρ j) v := by
      cases x with
      | none => exact q
      | some z => obtain ⟨v, q, _⟩ := q; exact ⟨_, q⟩
    obtain ⟨v, o', q', d'⟩ := this
    rw [a] at q'; cases q'
    rw [d] at d'; cases d'
theorem ItR.notab (r : ItR P ρ nx h I it) (V : Inv P h) : ∀ t ∈ P.TB, t.P ≠ I := by
  rintro t ht rfl
  obtain ⟨ps, _, ⟨_, g⟩, _⟩ := V.tabs t ht
  exact (r.kind _ g).2 ⟨rfl, _, rfl⟩
/-- an iterator stands where nothing of its own is written -/
theorem ItR.ext (r : ItR P ρ nx h I it) (R : SR P ρ σ nx h) (V : Inv P h) (x : XOk h X) (hI : ¬ X I) (e : Ext P X ρ σ nx h ρ' σ' nx' h') : ItR P ρ' nx' h' I it := by
  have L := e.later R V x
  have k : ∀ o, h.get? I = some o → h'.get? I = some o := fun o q => e.kp _ _ q (by
    rintro (⟨j, o', z, y⟩ | z | ⟨t, ht, y⟩)
    · exact r.apart R z y
    · exact hI z
    · exact r.notab V t ht y)
  cases it with
  | lst j i => obtain ⟨hj, o, a, b⟩ := r; exact ⟨Nat.lt_of_lt_of_le hj e.le, o, k _ a, by rw [e.ag j hj]; exact b⟩
  | tup l => obtain ⟨t, vs, n, i, a, ⟨o, b, c⟩, d⟩ := r; exact ⟨t, vs, n, i, L.im _ _ a (.inl ⟨rfl, _, _, rfl⟩), ⟨o, k _ b, c⟩, d.later L⟩
  | rng lo hi => exact k _ r
  | rev j n => obtain ⟨hj, o, a, b⟩ := r; exact ⟨Nat.lt_of_lt_of_le hj e.le, o, k _ a, by rw [e.ag j hj]; exact b⟩
/-- a step that writes only what was not there at the start -/
theorem Ext.skip {W : Addr → Prop} {ρ₀ : Nat → Addr} {σ₀ : Sto} {nx₀ : Nat} {h₀ : Heap} (e : Ext P X ρ₀ σ₀ nx₀ h₀ ρ σ nx h) (hk : Kpt W h h') (hW : ∀ b, W b → h₀.get? b = none) (R : SR P ρ σ nx h') (V : Inv P h') : Ext P X ρ₀ σ₀ nx₀ h₀ ρ σ nx h' := by
  refine ⟨e.le, e.ag, e.dom, fun b o q n => hk b o (e.kp b o q n) fun w => ?_, fun b o q => ?_, R, V⟩
  · rw [hW b w] at q; cases q
  · obtain ⟨o', q'⟩ := e.there b o q
    exact ⟨o', hk b o' q' fun w => by rw [hW b w] at q; cases q⟩
theorem SR.beside {W : Addr → Prop} (R : SR P ρ σ nx h) (hk : Kpt W h h') (hW : ∀ b, W b → (∀ o, h.get? b = some o → ¬ Imm o ∧ ¬ Tab o) ∧ ∀ j o, lookN σ j = some o → ρ j ≠ b) : SR P ρ σ nx h' := by
  have L : Later ρ nx h ρ nx h' := ⟨Nat.le_refl _, fun _ _ => rfl, fun b ob e i => hk b ob e fun w => ((hW b w).1 ob e).1 i⟩
  exact ⟨R.lt, R.inj, R.up, fun i o1 e => (R.rel i o1 e).later L fun ob z => hk _ _ z fun w => (hW _ w).2 i o1 e rfl⟩
theorem later_kpt {W : Addr → Prop} (hk : Kpt W h h') (hW : ∀ b, W b → ∀ o, h.get? b = some o → ¬ Imm o) : Later ρ nx h ρ nx h' := ⟨Nat.le_refl _, fun _ _ => rfl, fun b ob e i => hk b ob e fun w => hW b w ob e i⟩
theorem FrOk.beside {W : Addr → Prop} {D : Addr} {E : AEnv} {env : Env} {lv : Lv} (F : FrOk P ρ nx h D E env lv) (hk : Kpt W h h') (hW : ∀ b, W b → ∀ o, h.get? b = some o → ¬ Imm o) (hD : ¬ W D) : FrOk P ρ nx h' D E env lv := by
  have L : Later ρ nx h ρ nx h' := later_kpt hk hW
  refine ⟨F.ok, F.kind, F.loc, F.glob, F.blt, F.defs, F.names, F.cells, F.up, ?_⟩
  obtain ⟨m, ⟨ob, es, ep, q, d⟩, hm⟩ := F.ns
  exact ⟨m, ⟨ob, es, ep, hk _ _ q hD, d⟩, fun y a e => let ⟨v, q, r⟩ := hm y a e; ⟨v, q, r.later L⟩⟩
theorem FrOk.ne {D : Addr} {E : AEnv} {env : Env} {lv : Lv} (F : FrOk P ρ nx h D E env lv) (r : ItR P ρ nx h I it) : D ≠ I := by
  rintro rfl
  obtain ⟨m, ⟨ob, es, ep, q, d, _⟩, _⟩ := F.ns
  obtain ⟨o, c, vs, a, b, hc, z⟩ := r.obj
  rw [q] at a; cases a
  rw [d] at z; cases z
/-- what one step of an iterator leaves -/
structure NextOk (P : Par) (ρ : Nat → Addr) (σ : Sto) (nx : Nat) (I : Addr) (S : Shared) (o : Option (AV × AIt)) (v : Option Value) (S' : Shared) : Prop where
  same : Same S S'
  kp : Kpt (AtD I) S.heap S'.heap
  sr : SR P ρ σ nx S'.heap
  inv : Inv P S'.heap
  res : match o with
    | none => v = none
    | some p => ∃ x, v = some x ∧ VR P ρ nx S'.heap x p.1 ∧ ItR P ρ nx S'.heap I p.2
end

section
variable {prog : Program} {w : World} {A : Around} {P : Par} {ρ : Nat → Addr} {S : Shared} {σ : Sto} {nx : Nat} {I : Addr} {it : AIt}
theorem next_of (R : SR P ρ σ nx S.heap) (V : Inv P S.heap) (up : P.H0.objs.size ≤ I) (r : ItR P ρ nx S.heap I it) {S' : Shared} (sm : Same S S') (hk : Kpt (AtD I) S.heap S'.heap) : Later ρ nx S.heap ρ nx S'.heap ∧ SR P ρ σ nx S'.heap ∧ Inv P S'.heap := by
  refine ⟨later_kpt hk ?_, R.beside hk ?_, V.kpt hk ?_⟩
  · rintro b rfl o e; exact (r.kind o e).1
  · rintro b rfl; exact ⟨r.kind, fun j o e => r.apart R e⟩
  · rintro b rfl; exact ⟨up, r.kind⟩
theorem kpt_same {h h' : Heap} (s : Heap.SameBut I h h') : Kpt (AtD I) h h' := fun b o e n => (s.2 b n).trans e
theorem kpt_ext {h h' : Heap} (s : Heap.ExtBut I h h') : Kpt (AtD I) h h' := fun b o e n => s b o n e
theorem isTuple_of {h : Heap} {t : Addr} {vs : List Value} {n : Nat} (e : h.get? t = some (tupO vs n)) : h.IsTuple t vs.toArray := ⟨_, e, rfl, n, rfl⟩
theorem isList_of {h : Heap} {t : Addr} {vs : List Value} {n : Nat} (e : h.get? t = some (listOf vs.toArray n)) : h.IsList t vs.toArray := ⟨_, e, rfl, n, rfl⟩
theorem next_ok (hA : A.handled = none) (R : SR P ρ σ nx S.heap) (V : Inv P S.heap) (up : P.H0.objs.size ≤ I) (r : ItR P ρ nx S.heap I it) {o : Option (AV × AIt)} (h : nextA σ it = some o) :
    wpAny (model prog w) A (pyNext (.ref I)) (NextOk P ρ σ nx I S o) NoE S := by
  cases it with
  | lst j i =>
    unfold nextA at h
    simp only at h
    cases e : lookN σ j with
    | none => rw [e] at h; cases h
    | some ob =>
      rw [e] at h
      cases ob with
      | cell c => (first | (obtain ⟨rfl, rfl⟩ := inv_v h) | (obtain ⟨rfl, rfl⟩ := inv_b h) | (obtain ⟨rfl, rfl⟩ := inv_vs h) | (obtain ⟨rfl, rfl⟩ := inv_fl h) | (obtain rfl := inv_u h) | (obtain ⟨rfl, rfl⟩ := inv_it h) | cases h)
      | list l =>
        simp only at h
        rw [nth_eq] at h
        obtain ⟨vs, n, g, z, lb⟩ := R.rel j _ e
        have len := z.length
        cases q : l[i]? with
        | none =>
          rw [q] at h
          (first | (obtain ⟨rfl, rfl⟩ := inv_v h) | (obtain ⟨rfl, rfl⟩ := inv_b h) | (obtain ⟨rfl, rfl⟩ := inv_vs h) | (obtain ⟨rfl, rfl⟩ := inv_fl h) | (obtain rfl := inv_u h) | (obtain ⟨rfl, rfl⟩ := inv_it h) | cases h)
          refine wpAny_pyNext_list_end hA r.2 (isList_of g) ?_ fun h' x => ?_
          · rw [List.getElem?_eq_none_iff] at q
            simp only [List.getElem?_toArray, List.getElem?_eq_none_iff]; omega
          · obtain ⟨L, sr, iv⟩ := next_of R V up r (S' := { S with heap := h' }) ⟨rfl, rfl, rfl⟩ (kpt_ext x)
            exact ⟨⟨rfl, rfl, rfl⟩, kpt_ext x, sr, iv, rfl⟩
        | some a =>
          rw [q] at h
          (first | (obtain ⟨rfl, rfl⟩ := inv_v h) | (obtain ⟨rfl, rfl⟩ := inv_b h) | (obtain ⟨rfl, rfl⟩ := inv_vs h) | (obtain ⟨rfl, rfl⟩ := inv_fl h) | (obtain rfl := inv_u h) | (obtain ⟨rfl, rfl⟩ := inv_it h) | cases h)
          obtain ⟨v, hv, rv⟩ := z.get q
          refine wpAny_pyNext_list_item r.2 (isList_of g) (by simpa using hv) fun h' ri x => ?_
          obtain ⟨L, sr, iv⟩ := next_of R V up r (S' := { S with heap := h' }) ⟨rfl, rfl, rfl⟩ (kpt_same x)
          exact ⟨⟨rfl, rfl, rfl⟩, kpt_same x, sr, iv, v, rfl, rv.later L, r.1, ri⟩
  | tup l =>
    obtain ⟨t, vs, n, i, g, ri, z⟩ := id r
    cases l with
    | nil =>
      (first | (obtain ⟨rfl, rfl⟩ := inv_v h) | (obtain ⟨rfl, rfl⟩ := inv_b h) | (obtain ⟨rfl, rfl⟩ := inv_vs h) | (obtain ⟨rfl, rfl⟩ := inv_fl h) | (obtain rfl := inv_u h) | (obtain ⟨rfl, rfl⟩ := inv_it h) | cases h)
      refine wpAny_pyNext_tuple_end hA ri (isTuple_of g) ?_ fun h' x => ?_
      · have := z.length
        simp only [List.length_drop, List.length_nil] at this
        simp only [List.getElem?_toArray, List.getElem?_eq_none_iff]; omega
      · obtain ⟨L, sr, iv⟩ := next_of R V up r (S' := { S with heap := h' }) ⟨rfl, rfl, rfl⟩ (kpt_ext x)
        exact ⟨⟨rfl, rfl, rfl⟩, kpt_ext x, sr, iv, rfl⟩
    | cons a l =>
      (first | (obtain ⟨rfl, rfl⟩ := inv_v h) | (obtain ⟨rfl, rfl⟩ := inv_b h) | (obtain ⟨rfl, rfl⟩ := inv_vs h) | (obtain ⟨rfl, rfl⟩ := inv_fl h) | (obtain rfl := inv_u h) | (obtain ⟨rfl, rfl⟩ := inv_it h) | cases h)
      cases q : vs.drop i with
      | nil => rw [q] at z; cases z
      | cons v vs' =>
        rw [q] at z
        cases z with
        | cons _ _ _ _ rv rl =>
          have hv : vs[i]? = some v := by
            have := congrArg (·[0]?) q
            simpa using this
          have hd : vs.drop (i + 1) = vs' := by
            rw [← List.drop_drop, q]; rfl
          refine wpAny_pyNext_tuple_item ri (isTuple_of g) (by simpa using hv) fun h' ri' x => ?_
          obtain ⟨L, sr, iv⟩ := next_of R V up r (S' := { S with heap := h' }) ⟨rfl, rfl, rfl⟩ (kpt_same x)
          exact ⟨⟨rfl, rfl, rfl⟩, kpt_same x, sr, iv, v, rfl, rv.later L, t, vs, n, i + 1, L.im _ _ g (.inl ⟨rfl, _, _, rfl⟩), ri', by rw [hd]; exact rl.later L⟩
  | rng lo hi =>
    unfold nextA at h
    simp only at h
    rw [ltB_eq] at h
    have r' : IsRangeIter S.heap I lo (if lo < hi then hi - lo else 0) 1 := r
    by_cases c : lo < hi
    · rw [decide_eq_true c] at h
      simp only at h
      rw [nInt_eq] at h
      (first | (obtain ⟨rfl, rfl⟩ := inv_v h) | (obtain ⟨rfl, rfl⟩ := inv_b h) | (obtain ⟨rfl, rfl⟩ := inv_vs h) | (obtain ⟨rfl, rfl⟩ := inv_fl h) | (obtain rfl := inv_u h) | (obtain ⟨rfl, rfl⟩ := inv_it h) | cases h)
      rw [if_pos c] at r'
      refine wpAny_pyNext_range_item r' (by omega) fun h' ri x => ?_
      obtain ⟨L, sr, iv⟩ := next_of R V up r (S' := { S with heap := h', toks := S.toks + 1 }) ⟨rfl, rfl, rfl⟩ (kpt_same x)
      refine ⟨⟨rfl, rfl, rfl⟩, kpt_same x, sr, iv, _, rfl, .int _ _, ?_⟩
      show IsRangeIter _ _ _ _ _
      have e : (if lo + 1 < hi then hi - (lo + 1) else 0) = hi - lo - 1 := by split <;> omega
      show IsRangeIter _ _ _ (if lo + 1 < hi then hi - (lo + 1) else 0) _
      rw [e]; exact ri
    · rw [decide_eq_false c] at h
      (first | (obtain ⟨rfl, rfl⟩ := inv_v h) | (obtain ⟨rfl, rfl⟩ := inv_b h) | (obtain ⟨rfl, rfl⟩ := inv_vs h) | (obtain ⟨rfl, rfl⟩ := inv_fl h) | (obtain rfl := inv_u h) | (obtain ⟨rfl, rfl⟩ := inv_it h) | cases h)
      rw [if_neg c] at r'
      refine wpAny_pyNext_range_end hA r' (by omega) fun h' x => ?_
      obtain ⟨L, sr, iv⟩ := next_of R V up r (S' := { S with heap := h' }) ⟨rfl, rfl, rfl⟩ (kpt_ext x)
      exact ⟨⟨rfl, rfl, rfl⟩, kpt_ext x, sr, iv, rfl⟩
  | rev j n =>
    cases n with
    | zero =>
      (first | (obtain ⟨rfl, rfl⟩ := inv_v h) | (obtain ⟨rfl, rfl⟩ := inv_b h) | (obtain ⟨rfl, rfl⟩ := inv_vs h) | (obtain ⟨rfl, rfl⟩ := inv_fl h) | (obtain rfl := inv_u h) | (obtain ⟨rfl, rfl⟩ := inv_it h) | cases h)
      refine wpAny_pyNext_rev_end hA (l := ρ j) (by simpa using r.2) fun h' x => ?_
      obtain ⟨L, sr, iv⟩ := next_of R V up r (S' := { S with heap := h' }) ⟨rfl, rfl, rfl⟩ (kpt_ext x)
      exact ⟨⟨rfl, rfl, rfl⟩, kpt_ext x, sr, iv, rfl⟩
    | succ m =>
      unfold nextA at h
      simp only at h
      cases e : lookN σ j with
      | none => rw [e] at h; cases h
      | some ob =>
        rw [e] at h
        cases ob with
        | cell c => (first | (obtain ⟨rfl, rfl⟩ := inv_v h) | (obtain ⟨rfl, rfl⟩ := inv_b h) | (obtain ⟨rfl, rfl⟩ := inv_vs h) | (obtain ⟨rfl, rfl⟩ := inv_fl h) | (obtain rfl := inv_u h) | (obtain ⟨rfl, rfl⟩ := inv_it h) | cases h)
        | list l =>
          simp only at h
          rw [nth_eq] at h
          obtain ⟨vs, k, g, z, lb⟩ := R.rel j _ e
          cases q : l[m]? with
          | none => rw [q] at h; cases h
          | some a =>
            rw [q] at h
            (first | (obtain ⟨rfl, rfl⟩ := inv_v h) | (obtain ⟨rfl, rfl⟩ := inv_b h) | (obtain ⟨rfl, rfl⟩ := inv_vs h) | (obtain ⟨rfl, rfl⟩ := inv_fl h) | (obtain rfl := inv_u h) | (obtain ⟨rfl, rfl⟩ := inv_it h) | cases h)
            obtain ⟨v, hv, rv⟩ := z.get q
            have r' : S.heap.IsRevIter I (ρ j) (m : Int) := by
              have := r.2
              simpa using this
            refine wpAny_pyNext_rev_item r' (isList_of g) (by simpa using hv) fun h' ri x => ?_
            obtain ⟨L, sr, iv⟩ := next_of R V up r (S' := { S with heap := h' }) ⟨rfl, rfl, rfl⟩ (kpt_same x)
            exact ⟨⟨rfl, rfl, rfl⟩, kpt_same x, sr, iv, v, rfl, rv.later L, r.1, ri⟩

/-- a new thing at the end of the heap -/
theorem push_keep {h : Heap} {o : Obj} : ∀ b ob, h.get? b = some ob → (h.push o).get? b = some ob := fun _ _ e => Heap.get?_push_of_some _ e
theorem iter_ok {s : St} {v : Value} {a : AV} (h : itOf s a = some it) (r : VR P ρ s.nx S.heap v a) (R : SR P ρ s.σ s.nx S.heap) (V : Inv P S.heap) : wpAny (model prog w) A (pyIter v) (ItOk P ρ s S s it) NoE S := by
  unfold itOf at h
  split at h
  · obtain ⟨hj, rfl⟩ := r.locI
    split at h
    · rename_i e
      (first | (obtain ⟨rfl, rfl⟩ := inv_v h) | (obtain ⟨rfl, rfl⟩ := inv_b h) | (obtain ⟨rfl, rfl⟩ := inv_vs h) | (obtain ⟨rfl, rfl⟩ := inv_fl h) | (obtain rfl := inv_u h) | (obtain ⟨rfl, rfl⟩ := inv_it h) | cases h)
      obtain ⟨vs, k, g, z, lb⟩ := R.rel _ _ e
      refine wpAny_pyIter_list (isList_of g) ⟨_, rfl, ρ, Ext.grow R V push_keep, ⟨hj, _, Heap.get?_push_size _ rfl, rfl, rfl⟩, Heap.get?_none_of_le (Nat.le_refl _), V.big, rfl, rfl, rfl⟩
    · (first | (obtain ⟨rfl, rfl⟩ := inv_v h) | (obtain ⟨rfl, rfl⟩ := inv_b h) | (obtain ⟨rfl, rfl⟩ := inv_vs h) | (obtain ⟨rfl, rfl⟩ := inv_fl h) | (obtain rfl := inv_u h) | (obtain ⟨rfl, rfl⟩ := inv_it h) | cases h)
  · obtain ⟨t, vs, n, rfl, g, z⟩ := r.tupI
    (first | (obtain ⟨rfl, rfl⟩ := inv_v h) | (obtain ⟨rfl, rfl⟩ := inv_b h) | (obtain ⟨rfl, rfl⟩ := inv_vs h) | (obtain ⟨rfl, rfl⟩ := inv_fl h) | (obtain rfl := inv_u h) | (obtain ⟨rfl, rfl⟩ := inv_it h) | cases h)
    exact wpAny_pyIter_tuple (isTuple_of g) ⟨_, rfl, ρ, Ext.grow R V push_keep, ⟨t, vs, n, 0, push_keep _ _ g, ⟨_, Heap.get?_push_size _ rfl, rfl, rfl⟩, z.later (later_kpt (W := NoX) (fun b o e _ => push_keep b o e) fun _ x => x.elim)⟩, Heap.get?_none_of_le (Nat.le_refl _), V.big, rfl, rfl, rfl⟩
  · (first | (obtain ⟨rfl, rfl⟩ := inv_v h) | (obtain ⟨rfl, rfl⟩ := inv_b h) | (obtain ⟨rfl, rfl⟩ := inv_vs h) | (obtain ⟨rfl, rfl⟩ := inv_fl h) | (obtain rfl := inv_u h) | (obtain ⟨rfl, rfl⟩ := inv_it h) | cases h)
end
end Mine
set_option maxRecDepth 100000
namespace Mine
open PySem PySem.Calls PyProof.Rows PySem.W PySem.W.Z

structure Pre (P : Par) (d : Nat) (A : Around) (ρ : Nat → Addr) (s : St) (S : Shared) (D : Addr) (E : AEnv) (env : Env) : Prop where
  cx : Cx d A
  fr : FrOk P ρ s.nx S.heap D E env s.lv
  sr : SR P ρ s.σ s.nx S.heap
  inv : Inv P S.heap
structure Step (P : Par) (D : Addr) (E : AEnv) (env : Env) (ρ : Nat → Addr) (s : St) (S : Shared) (ρ' : Nat → Addr) (s' : St) (S' : Shared) : Prop where
  ext : Ext P (AtD D) ρ s.σ s.nx S.heap ρ' s'.σ s'.nx S'.heap
  fr : FrOk P ρ' s'.nx S'.heap D E env s'.lv
  same : Same S S'

noncomputable abbrev PV (P : Par) (D : Addr) (E : AEnv) (env : Env) (ρ : Nat → Addr) (s : St) (S : Shared) (s' : St) (a : AV) : Value → Shared → Prop := fun v S' => ∃ ρ', Step P D E env ρ s S ρ' s' S' ∧ VR P ρ' s'.nx S'.heap v a
noncomputable abbrev PVs (P : Par) (D : Addr) (E : AEnv) (env : Env) (ρ : Nat → Addr) (s : St) (S : Shared) (s' : St) (l : List AV) : List Value → Shared → Prop := fun v S' => ∃ ρ', Step P D E env ρ s S ρ' s' S' ∧ VRs P ρ' s'.nx S'.heap v l
noncomputable abbrev PB (P : Par) (D : Addr) (E : AEnv) (env : Env) (ρ : Nat → Addr) (s : St) (S : Shared) (s' : St) (b : Bool) : Bool → Shared → Prop := fun c S' => c = b ∧ ∃ ρ', Step P D E env ρ s S ρ' s' S'
noncomputable abbrev PU (P : Par) (D : Addr) (E : AEnv) (env : Env) (ρ : Nat → Addr) (s : St) (S : Shared) (s' : St) : Shared → Prop := fun S' => ∃ ρ', Step P D E env ρ s S ρ' s' S'
noncomputable abbrev PF (P : Par) (D : Addr) (E : AEnv) (env : Env) (ρ : Nat → Addr) (s : St) (S : Shared) (s' : St) (f : AFl) : Flow → Shared → Prop := fun fl S' => ∃ ρ', Step P D E env ρ s S ρ' s' S' ∧ FlR P ρ' s'.nx S'.heap fl f
noncomputable abbrev PI (P : Par) (D : Addr) (E : AEnv) (env : Env) (ρ : Nat → Addr) (s : St) (S : Shared) (s' : St) (i : AIt) : Value → Shared → Prop := fun v S' => ∃ I, v = .ref I ∧ ∃ ρ', Step P D E env ρ s S ρ' s' S' ∧ ItR P ρ' s'.nx S'.heap I i ∧ S.heap.get? I = none ∧ P.H0.objs.size ≤ I
noncomputable abbrev PRes (Q : Flow → Shared → Prop) : Result → Shared → Prop := fun r S' => ∃ fl, r = .ok fl ∧ Q fl S'

noncomputable abbrev opB (isAnd : Bool) : BoolOp := if isAnd then .And else .Or
/-- a target that is not starred -/
noncomputable def noStar (t : PySem.Expr) : Prop := viewT t ≠ .other
/-- the tests behind a comprehension's for -/
noncomputable abbrev testsOf (ifs : List PySem.Expr) (env : Env) : Sem Bool := forIn ifs true fun c r => if r = true then do let ok ← isTrue c env (eval c env); pure (ForInStep.yield ok) else pure (ForInStep.yield r)

structure Base (P : Par) (X : Addr → Prop) (ρ₀ : Nat → Addr) (s₀ : St) (S₀ : Shared) (ρ : Nat → Addr) (s : St) (S : Shared) : Prop where
  ext : Ext P X ρ₀ s₀.σ s₀.nx S₀.heap ρ s.σ s.nx S.heap
  sr : SR P ρ₀ s₀.σ s₀.nx S₀.heap
  same : Same S₀ S

structure Sound (prog : Program) (w : World) (P : Par) (d : Nat) (run : Tk → AEnv → St → Ans) : Prop where
  ev : ∀ {e E s a s'}, run (.ev e) E s = some (.v a, s') → viewE e ≠ .other ∧ ∀ {A env D ρ S}, Pre P d A ρ s S D E env → wpAny (model prog w) A (eval e env) (PV P D E env ρ s S s' a) NoE S
  evs : ∀ {l E s as s'}, run (.evs l) E s = some (.vs as, s') → l.length = as.length ∧ (∀ env, starEach l env = l.map fun e => (false, eval e env)) ∧ ∀ {A env D ρ S}, Pre P d A ρ s S D E env → ∀ pos, wpAny (model prog w) A (spliced (backTo pos (starEach l env))) (PVs P D E env ρ s S s' as) NoE S
  tr : ∀ {e E s b s'}, run (.tr e) E s = some (.b b, s') → ∀ {A env D ρ S}, Pre P d A ρ s S D E env → wpAny (model prog w) A (isTrue e env (eval e env)) (PB P D E env ρ s S s' b) NoE S
  ats : ∀ {o l E s b s'}, run (.ats o l) E s = some (.b b, s') → ∀ {A env D ρ S}, Pre P d A ρ s S D E env → wpAny (model prog w) A (allTrue (opB o) l env) (PB P D E env ρ s S s' b) NoE S
  bop : ∀ {o l E s a s'}, run (.bop o l) E s = some (.v a, s') → ∀ {A env D ρ S}, Pre P d A ρ s S D E env → ∀ pos, wpAny (model prog w) A (eval (.BoolOp (opB o) l pos) env) (PV P D E env ρ s S s' a) NoE S
  ex : ∀ {x E s f s'}, run (.ex x) E s = some (.fl f, s') → ∀ {A env D ρ S}, Pre P d A ρ s S D E env → wpAny (model prog w) A (exec x env) (PF P D E env ρ s S s' f) NoE S
  exs : ∀ {l E s f s'}, run (.exs l) E s = some (.fl f, s') → ∀ {A env D ρ S}, Pre P d A ρ s S D E env → wpAny (model prog w) A (execs l env) (PF P D E env ρ s S s' f) NoE S
  asg : ∀ {t a E s s'}, run (.asg t a) E s = some (.u, s') → noStar t ∧ ∀ {A env D ρ S v}, Pre P d A ρ s S D E env → VR P ρ s.nx S.heap v a → wpAny (model prog w) A (assign t env v) (fun _ => PU P D E env ρ s S s') NoE S
  asgs : ∀ {ts l E s s'}, run (.asgs ts l) E s = some (.u, s') → ts.length = l.length ∧ (∀ env, assignEach ts env = ts.map fun t => (false, assign t env)) ∧ ∀ {A env D ρ S vs}, Pre P d A ρ s S D E env → VRs P ρ s.nx S.heap vs l →
    wpAny (model prog w) A (assignInOrder (ts.map fun t => assign t env) vs) (fun _ => PU P D E env ρ s S s') NoE S
  loop : ∀ {t it b E s f s'}, run (.loop t it b) E s = some (.fl f, s') → ∀ {A env D ρ S ρ₀ s₀ S₀ I}, Pre P d A ρ s S D E env → Base P (AtD D) ρ₀ s₀ S₀ ρ s S → ItR P ρ s.nx S.heap I it → S₀.heap.get? I = none → P.H0.objs.size ≤ I →
    codeAny (model prog w) A (.forLoop t (.ref I) b [] env) (PRes (PF P D E env ρ₀ s₀ S₀ s' f)) S
  whl : ∀ {t b E s f s'}, run (.whl t b) E s = some (.fl f, s') → ∀ {A env D ρ S}, Pre P d A ρ s S D E env → codeAny (model prog w) A (.whileLoop t b [] env) (PRes (PF P D E env ρ s S s' f)) S
  iter : ∀ {e E s it s'}, run (.iter e) E s = some (.it it, s') → viewE e ≠ .other ∧ ∀ {A env D ρ S}, Pre P d A ρ s S D E env → wpAny (model prog w) A (eval e env) (fun x S₁ => wpAny (model prog w) A (pyIter x) (PI P D E env ρ s S s' it) NoE S₁) NoE S
  comp : ∀ {elt t ifs it acc E s l s'}, run (.comp elt t ifs it acc) E s = some (.vs l, s') → ∀ {A env D ρ S ρ₀ s₀ S₀ I L vs n iter scope pos X D₂ E₂ env₂ lv₂}, Pre P d A ρ s S D E env → FrOk P ρ s.nx S.heap D₂ E₂ env₂ lv₂ → D₂ ≠ D → Base P X ρ₀ s₀ S₀ ρ s S → S₀.heap.get? D = none → ItR P ρ s.nx S.heap I it → S₀.heap.get? I = none → P.H0.objs.size ≤ I →
    S.heap.get? L = some (listOf vs.toArray n) → VRs P ρ s.nx S.heap vs acc.reverse → S₀.heap.get? L = none → P.H0.objs.size ≤ L → (∀ j o, lookN s.σ j = some o → ρ j ≠ L) →
    codeAny (model prog w) A (.compLoop (.ListComp elt [⟨t, iter, ifs, 0⟩] scope pos) 0 (.ref I) (.ref L) env) (fun r S' => r = .ok .next ∧ ∃ ρ', Base P X ρ₀ s₀ S₀ ρ' s' S' ∧ FrOk P ρ' s'.nx S'.heap D₂ E₂ env₂ lv₂ ∧ FrOk P ρ' s'.nx S'.heap D E env s'.lv ∧
      ∃ vs' n', S'.heap.get? L = some (listOf vs'.toArray n') ∧ VRs P ρ' s'.nx S'.heap vs' l ∧ (∀ j o, lookN s'.σ j = some o → ρ' j ≠ L)) S
  tests : ∀ {l E s b s'}, run (.tests l) E s = some (.b b, s') → ∀ {A env D ρ S}, Pre P d A ρ s S D E env → wpAny (model prog w) A (testsOf l env) (PB P D E env ρ s S s' b) NoE S

theorem Sound.none {prog : Program} {w : World} {P : Par} {d : Nat} : Sound prog w P d (fun _ _ _ => none) := by
  constructor <;> intros <;> contradiction

section
variable {P : Par} {d : Nat} {A : Around} {ρ ρ' ρ₁ : Nat → Addr} {s s' s₁ s₂ : St} {S S' S₁ S₂ : Shared} {D : Addr} {E : AEnv} {env : Env} {X : Addr → Prop}
theorem Pre.step (p : Pre P d A ρ s S D E env) (e : Step P D E env ρ s S ρ₁ s₁ S₁) : Pre P d A ρ₁ s₁ S₁ D E env := ⟨p.cx, e.fr, e.ext.sr, e.ext.inv⟩
theorem Step.later (e : Step P D E env ρ s S ρ₁ s₁ S₁) (p : Pre P d A ρ s S D E env) : Later ρ s.nx S.heap ρ₁ s₁.nx S₁.heap := e.ext.later p.sr p.inv p.fr.xok
theorem Step.refl (p : Pre P d A ρ s S D E env) : Step P D E env ρ s S ρ s S := ⟨.refl p.sr p.inv, p.fr, .refl _⟩
theorem Step.trans (e : Step P D E env ρ s S ρ₁ s₁ S₁) (p : Pre P d A ρ s S D E env) (e' : Step P D E env ρ₁ s₁ S₁ ρ' s' S') : Step P D E env ρ s S ρ' s' S' := ⟨e.ext.trans p.sr e'.ext, e'.fr, e.same.trans e'.same⟩
theorem Pre.ofNo (p : Pre P d A ρ s S D E env) (hl : s'.lv = s.lv) (e : Ext P NoX ρ s.σ s.nx S.heap ρ' s'.σ s'.nx S'.heap) (sm : Same S S') : Step P D E env ρ s S ρ' s' S' :=
  ⟨e.ofNo, by rw [hl]; exact p.fr.ext p.sr p.inv e, sm⟩
theorem Pre.tok (p : Pre P d A ρ s S D E env) (T : TokOnly S S') : Step P D E env ρ s S ρ s S' := p.ofNo rfl (by rw [T.1]; exact .refl p.sr p.inv) T.2
/-- by the small rules' answers -/
theorem Pre.pv (p : Pre P d A ρ s S D E env) (hl : s'.lv = s.lv) {a : AV} {v : Value} (k : OkV P NoX ρ s S s' a v S') : PV P D E env ρ s S s' a v S' := let ⟨ρ', e, r, m⟩ := k; ⟨ρ', p.ofNo hl e m, r⟩
end

/-- all that stands but the frame, written down -/
noncomputable def allBut (h : Heap) (D : Addr) : List (Addr × Obj) := (List.range h.objs.size).filterMap fun b => if b = D then none else (h.get? b).map fun o => (b, o)
theorem mem_allBut {h : Heap} {D b : Addr} {o : Obj} (e : h.get? b = some o) (n : b ≠ D) : (b, o) ∈ allBut h D := by
  unfold allBut
  rw [List.mem_filterMap]
  exact ⟨b, List.mem_range.mpr (Heap.lt_size e), by rw [if_neg n, e]; rfl⟩
theorem of_allBut {h : Heap} {D : Addr} {p : Addr × Obj} (m : p ∈ allBut h D) : h.get? p.1 = some p.2 ∧ p.1 ≠ D := by
  unfold allBut at m
  rw [List.mem_filterMap] at m
  obtain ⟨b, _, q⟩ := m
  by_cases n : b = D
  · rw [if_pos n] at q; cases q
  · rw [if_neg n] at q
    cases e : h.get? b with
    | none => rw [e] at q; cases q
    | some o => rw [e] at q; cases q; exact ⟨e, n⟩
noncomputable def noHeap : Heap := { objs := #[] }
theorem noHeap_get (b : Addr) : noHeap.get? b = none := by
  unfold noHeap Heap.get?
  simp
theorem allBut_news (h : Heap) (D : Addr) : News noHeap D h (allBut h D) := fun p m => ⟨(of_allBut m).1, (of_allBut m).2, noHeap_get _⟩
theorem allBut_fr {h : Heap} {D : Addr} {m : Str → Option Value} (hn : h.Ns D m) : Fr noHeap D h m := ⟨hn, fun b o e => by (rw [noHeap_get] at e; cases e), Nat.zero_le _⟩
theorem allBut_kpt {h h' : Heap} {D : Addr} {news : List (Addr × Obj)} (N : News noHeap D h' news) (sub : ∀ p ∈ allBut h D, p ∈ news) : Kpt (AtD D) h h' := fun b o e n => (N (b, o) (sub _ (mem_allBut e n))).1
section
variable {P : Par} {d : Nat} {A : Around} {ρ : Nat → Addr} {s s' : St} {S S' : Shared} {D : Addr} {E : AEnv} {env : Env}
/-- a rule of the ledger's form: all stands but the frame, whose names stand -/
theorem Pre.ledger (p : Pre P d A ρ s S D E env) {m : Str → Option Value} (hn : S.heap.Ns D m) (hm : ∀ x a, lookS s.lv x = some a → ∃ v, m x = some v ∧ VR P ρ s.nx S.heap v a) (hn' : S'.heap.Ns D m) (hk : Kpt (AtD D) S.heap S'.heap) (sm : Same S S') :
    Step P D E env ρ s S ρ s S' := by
  have ni : ∀ b, AtD D b → ∀ o, S.heap.get? b = some o → ¬ Imm o ∧ ¬ Tab o := fun b x o e => p.fr.xok b o x e
  have L : Later ρ s.nx S.heap ρ s.nx S'.heap := later_kpt hk fun b x o e => (ni b x o e).1
  refine ⟨Ext.beside p.sr p.inv hk (by rintro b rfl; obtain ⟨o, _, _, q, _⟩ := hn'; exact ⟨o, q⟩) ?_, ⟨p.fr.ok, p.fr.kind, p.fr.loc, p.fr.glob, p.fr.blt, p.fr.defs, p.fr.names, p.fr.cells, p.fr.up, m, hn', fun x a e => ?_⟩, sm⟩
  · rintro b rfl
    exact ⟨p.fr.up, fun o e => ni _ rfl o e, fun j o e => ns_apart hn p.sr e⟩
  · obtain ⟨v, q, r⟩ := hm x a e
    exact ⟨v, q, r.later L⟩
end
end Mine
set_option maxRecDepth 100000
namespace Mine
open PySem PySem.Calls PyProof.Rows PySem.W PySem.W.Z

/-- a whole number that is known, or by its name -/
noncomputable def YR (P : Par) (x : Int) : AV → Prop
  | .int i => x = i
  | .sym k => x = P.y k
  | _ => False
theorem YR.vr {P : Par} {x : Int} {a : AV} {ρ : Nat → Addr} {nx : Nat} {h : Heap} (t : Tok) (r : YR P x a) : VR P ρ nx h (.int x t) a := by
  cases a with
  | int i => cases r; exact .int _ _
  | sym k => cases r; exact .sym _ _
  | _ => exact r.elim
noncomputable abbrev intV (p : Int × Tok) : Value := .int p.1 p.2
structure PhiOk (P : Par) (Φ : Phi) (xs : List (Int × Tok)) : Prop where
  mod : ∀ k m v, Φ.mod k m = some v → m ≠ 0 ∧ YR P (Int.fmod (P.y k) m) v
  add : ∀ c k v, Φ.add c k = some v → YR P (c + P.y k) v
  min : ∀ a k v, Φ.min a k = some v → YR P (if P.y k < a then P.y k else a) v
  le : ∀ a k b, Φ.le a k = some b → b = decide (a ≤ P.y k)
  script : (Φ.first3 ≠ none ∨ Φ.len ≠ none ∨ Φ.sum ≠ none ∨ Φ.head ≠ none) → ∃ L, P.sv = .ref L ∧ xs.length ≤ 63 ∧ ∀ h, Inv P h → ∃ n, h.get? L = some (listOf (xs.map intV).toArray n)
  first3 : ∀ l, Φ.first3 = some l → ∀ ρ nx h, VRs P ρ nx h ((xs.take 3).map intV) l
  len : ∀ v, Φ.len = some v → YR P xs.length v
  sum : ∀ v, Φ.sum = some v → YR P ((xs.map (·.1)).foldl (· + ·) 0) v
  head : ∀ v, Φ.head = some v → YR P ((xs.head?.map (·.1)).getD 0) v

section
variable {prog : Program} {w : World} {A : Around} {P : Par} {Φ : Phi} {xs : List (Int × Tok)} {ρ : Nat → Addr} {s s' : St} {S : Shared} {v v' : Value} {a b r : AV} {X : Addr → Prop}

theorem okY {i : Int} {a : AV} {t : Tok} {S' : Shared} (r : YR P i a) (R : SR P ρ s.σ s.nx S.heap) (I : Inv P S.heap) (T : TokOnly S S') : OkV P X ρ s S s a (.int i t) S' := ⟨ρ, by rw [T.1]; exact .refl R I, r.vr t, T.2⟩
theorem okSame {v : Value} {a : AV} (r : VR P ρ s.nx S.heap v a) (R : SR P ρ s.σ s.nx S.heap) (I : Inv P S.heap) : OkV P X ρ s S s a v S := ⟨ρ, .refl R I, r, .refl _⟩

theorem mulList_raw {l : Addr} {items : Array Value} {k : Nat} {y : Int} {u : Tok} {Q : Value → Shared → Prop} (hl : S.heap.get? l = some { cls := .type "list", dict := none, data := .seq items k, slots := #[] })
    (hlo : -(2 ^ 63 : Int) ≤ y) (hhi : y < 2 ^ 63) (hsz : items.size * y.toNat ≤ 2 ^ 24)
    (h : Q (.ref S.heap.objs.size) { S with heap := S.heap.push { cls := .type "list", data := .seq (List.foldl (fun x1 x2 => x1 ++ x2) #[] (List.replicate (if items.isEmpty = true then 0 else y.toNat) items)) } }) :
    wpAny (model prog w) A (binaryOp .Mult (.ref l) (.int y u)) Q NoE S :=
  wpAny_binaryOp_repeat_ref (T := "list") (U := "int") (by decide) ⟨_, hl, rfl⟩ (fun s' => typeIs_int s' y u) noFill_list_mul F.fills_int_mul F.slot_int_rmul repeat_list F.slot_int_index.lookup
    (call_meets F.slot_int_rmul (typeIs_int S y u) F.entry_int_rmul (F.args_int_rmul_2 _ _) (int___rmul___int_list y u l items k)
      ⟨hl, rfl, ⟨_, hl, rfl⟩, call_meets F.slot_list_mul ⟨_, hl, rfl⟩ F.entry_list_mul (F.args_list_mul_2 _ _)
        (AutoListH.list___mul___list_int_3 l items k y u (by simp [Builtin.List.listFitsIndex]; omega) (by omega) (by simp [Builtin.List.listTooLong, sizeLine]; omega)) ⟨hl, h⟩⟩)
/-- the same thing many times -/
theorem mulList_ok {j : Nat} {x : AV} {n : Nat} {t : Tok} (e : lookN s.σ j = some (.list [x])) (hn : n ≤ 1000) (h : newL (repl n x) s = some (.v r, s')) (R : SR P ρ s.σ s.nx S.heap) (I : Inv P S.heap) :
    s'.lv = s.lv ∧ wpAny (model prog w) A (binaryOp .Mult (.ref (ρ j)) (.int n t)) (OkV P X ρ s S s' r) NoE S := by
  obtain ⟨vs, k, g, z, _⟩ := R.rel j _ e
  obtain ⟨v, rfl, hv⟩ := z.oneI
  rw [repl_eq] at h
  obtain ⟨hl, hk⟩ := newL_okH h (VRs.replicate hv n) R I
  refine ⟨hl, ?_⟩
  refine mulList_raw g (by omega) (by omega) (by simp; omega) ?_
  have q : List.foldl (fun x1 x2 => x1 ++ x2) #[] (List.replicate (if ([v].toArray).isEmpty = true then 0 else ((n : Nat) : Int).toNat) [v].toArray) = (List.replicate n v).toArray := by
    simp only [Int.toNat_natCast]
    rw [if_neg (by simp)]
    have : ∀ m (acc : Array Value), List.foldl (fun x1 x2 => x1 ++ x2) acc (List.replicate m [v].toArray) = acc ++ (List.replicate m v).toArray := by
      intro m
      induction m with
      | zero => intro acc; simp
      | succ m ih =>
        intro acc
        rw [List.replicate_succ, List.foldl_cons, ih, List.replicate_succ]
        apply Array.toList_inj.mp
        simp [List.replicate_succ]
    rw [this]; simp
  rw [q]
  exact hk

theorem binA_ok (hP : PhiOk P Φ xs) {op : Operator} (hA : A.handled = none) (h : binA Φ op a b s = some (.v r, s')) (x : VR P ρ s.nx S.heap v a) (z : VR P ρ s.nx S.heap v' b) (R : SR P ρ s.σ s.nx S.heap) (I : Inv P S.heap) :
    s'.lv = s.lv ∧ wpAny (model prog w) A (binaryOp op v v') (OkV P NoX ρ s S s' r) NoE S := by
  unfold binA at h
  cases a with
  | int i =>
    replace h : binInt Φ op b s i = some (.v r, s') := h
    unfold binInt at h
    obtain ⟨t, rfl⟩ := x.intI
    cases b with
    | int m =>
      obtain ⟨u, rfl⟩ := z.intI
      obtain ⟨e, q⟩ := binI_ok hA h R I
      exact ⟨congrArg St.lv e, q⟩
    | _ => cases h
  | sym k =>
    replace h : binSym Φ op b s k = some (.v r, s') := h
    unfold binSym at h
    split at h
    · rename_i m
      obtain ⟨t, rfl⟩ := x.symI
      obtain ⟨u, rfl⟩ := z.intI
      unfold modS at h
      split at h
      · cases e : Φ.mod k m with
        | none => rw [e] at h; cases h
        | some y =>
          rw [e] at h
          obtain ⟨rfl, rfl⟩ := inv_v h
          obtain ⟨hm, hy⟩ := hP.mod _ _ _ e
          exact ⟨rfl, PyProof.Rows.mod_int_or hA (fun q => absurd q hm) fun _ => okY hy R I tk1⟩
      · cases h
    · cases h
  | loc j =>
    replace h : binLoc op b s j = some (.v r, s') := h
    unfold binLoc at h
    split at h
    · rename_i m
      obtain ⟨hj, rfl⟩ := x.locI
      obtain ⟨u, rfl⟩ := z.intI
      unfold mulL at h
      split at h
      · split at h
        · rename_i y e
          replace h := natOf_some h
          obtain ⟨n, hn, h⟩ := h
          subst hn
          cases q : Nat.ble n 1000 with
          | false => rw [q] at h; cases h
          | true =>
            rw [q] at h
            exact mulList_ok e (Nat.le_of_ble_eq_true q) h R I
        · cases h
      · cases h
    · cases h
  | _ => cases h

theorem isTup_of {h : Heap} {t : Addr} {vs : List Value} {n : Nat} (e : h.get? t = some (tupO vs n)) : IsTup h t vs.toArray := ⟨_, e, rfl, n, rfl⟩
theorem subTail {value slice : Expr} {o i : Value} {T id : String} {Q : Value → Shared → Prop} (hT : S.TypeIs o T) (hl : typeLookup (.type T) "__getitem__" = pure (some (.builtin id)))
    (hs : subscripted slice false o i = operate [o, i] (getItem o i)) (h : wpAny (model prog w) A (getItem o i) Q NoE S) : wpAny (model prog w) A (subscriptTail value slice o i) Q NoE S := by
  unfold subscriptTail
  refine wpAny_bind ?_
  rw [getitemInPython_of_ne hT.not_modules]
  refine wpAny_bind (wpAny_specialOf hT hl ?_)
  have fin : wpAny (model prog w) A (subscripted slice false o i) (fun r s₃ => wpAny (model prog w) A (letTemporaryGo value o r >>= fun _ => pure r) Q NoE s₃) NoE S := by
    rw [hs]
    exact wpAny_operating (wpAny_mono h (fun r s₃ h₃ => wpAny_bind (wpAny_letTemporaryGo (wpAny_pure h₃))) fun _ _ x => x)
  first
    | exact wpAny_pure (wpAny_bind fin)
    | exact wpAny_bind (wpAny_pure (wpAny_bind fin))
    | exact wpAny_bind fin
theorem not_slice {e : Expr} (h : viewE e ≠ .other) (o i : Value) : subscripted e false o i = operate [o, i] (getItem o i) := by
  cases e with
  | Slice => exact absurd rfl h
  | _ => rfl
theorem item_ok {value slice : Expr} (hsl : viewE slice ≠ .other) (h : itemA a b s = some (.v r, s')) (x : VR P ρ s.nx S.heap v a) (z : VR P ρ s.nx S.heap v' b) (R : SR P ρ s.σ s.nx S.heap) (I : Inv P S.heap) :
    s' = s ∧ wpAny (model prog w) A (subscriptTail value slice v v') (OkV P X ρ s S s' r) NoE S := by
  unfold itemA at h
  split at h
  · rename_i l i
    obtain ⟨t, vs, n, rfl, g, q⟩ := x.tupI
    obtain ⟨u, rfl⟩ := z.intI
    replace h := natOf_some h
    obtain ⟨m, hm, h⟩ := h
    subst hm
    split at h
    · rename_i lm e
      replace lm := Nat.le_of_ble_eq_true lm
      (first | (obtain ⟨rfl, rfl⟩ := inv_v h) | (obtain ⟨rfl, rfl⟩ := inv_b h) | (obtain ⟨rfl, rfl⟩ := inv_vs h) | (obtain ⟨rfl, rfl⟩ := inv_fl h) | (obtain rfl := inv_u h) | (obtain ⟨rfl, rfl⟩ := inv_it h) | cases h)
      rw [nth_eq] at e
      obtain ⟨x, hx, hr⟩ := q.get e
      have hlt := (List.getElem?_eq_some_iff.mp hx).1
      have := q.length
      refine ⟨rfl, subTail (isTup_of g).typeIs slot_tuple_getitem.lookup (not_slice hsl _ _) (PyProof.Rows.getItem_tuple (isTup_of g) (by omega) ?_ (j := m) ?_ (by simpa using hx) (okSame hr R I))⟩
      · omega
      · simp [seqIndex?]; omega
    · (first | (obtain ⟨rfl, rfl⟩ := inv_v h) | (obtain ⟨rfl, rfl⟩ := inv_b h) | (obtain ⟨rfl, rfl⟩ := inv_vs h) | (obtain ⟨rfl, rfl⟩ := inv_fl h) | (obtain rfl := inv_u h) | (obtain ⟨rfl, rfl⟩ := inv_it h) | cases h)
  · rename_i j i
    obtain ⟨hj, rfl⟩ := x.locI
    obtain ⟨u, rfl⟩ := z.intI
    split at h
    · rename_i l e
      replace h := natOf_some h
      obtain ⟨m, hm, h⟩ := h
      subst hm
      split at h
      · rename_i y e'
        (first | (obtain ⟨rfl, rfl⟩ := inv_v h) | (obtain ⟨rfl, rfl⟩ := inv_b h) | (obtain ⟨rfl, rfl⟩ := inv_vs h) | (obtain ⟨rfl, rfl⟩ := inv_fl h) | (obtain rfl := inv_u h) | (obtain ⟨rfl, rfl⟩ := inv_it h) | cases h)
        rw [nth_eq] at e'
        obtain ⟨vs, n, g, q, lb⟩ := R.rel j _ e
        obtain ⟨x, hx, hr⟩ := q.get e'
        have hlt := (List.getElem?_eq_some_iff.mp hx).1
        have := q.length
        refine ⟨rfl, subTail (isList_of g).typeIs slot_list_getitem.lookup (not_slice hsl _ _) (wpAny_getItem_list (isList_of g) (Int.natCast_nonneg _) ?_ (by simpa using hx) (okSame hr R I))⟩
        omega
      · (first | (obtain ⟨rfl, rfl⟩ := inv_v h) | (obtain ⟨rfl, rfl⟩ := inv_b h) | (obtain ⟨rfl, rfl⟩ := inv_vs h) | (obtain ⟨rfl, rfl⟩ := inv_fl h) | (obtain rfl := inv_u h) | (obtain ⟨rfl, rfl⟩ := inv_it h) | cases h)
    · (first | (obtain ⟨rfl, rfl⟩ := inv_v h) | (obtain ⟨rfl, rfl⟩ := inv_b h) | (obtain ⟨rfl, rfl⟩ := inv_vs h) | (obtain ⟨rfl, rfl⟩ := inv_fl h) | (obtain rfl := inv_u h) | (obtain ⟨rfl, rfl⟩ := inv_it h) | cases h)
  · (first | (obtain ⟨rfl, rfl⟩ := inv_v h) | (obtain ⟨rfl, rfl⟩ := inv_b h) | (obtain ⟨rfl, rfl⟩ := inv_vs h) | (obtain ⟨rfl, rfl⟩ := inv_fl h) | (obtain rfl := inv_u h) | (obtain ⟨rfl, rfl⟩ := inv_it h) | cases h)
end
end Mine
set_option maxRecDepth 100000
namespace Mine
open PySem PySem.Calls PyProof.Rows PySem.W PySem.W.Z

noncomputable def ltI : List (Int × Tok) → List (Int × Tok) → Bool
  | [], [] => false
  | [], _ :: _ => true
  | _ :: _, [] => false
  | a :: r, b :: t => if a.1 = b.1 then ltI r t else decide (a.1 < b.1)
theorem tuple_ltI (l b : Addr) (xs ys : List (Int × Tok)) (n n2 : Nat) :
    Meets (Builtin.«tuple.__lt__» ⟨[.ref l, .ref b], []⟩)
      (fun _ R s => s.heap.get? l = some (tupO (xs.map intV) n) ∧ s.heap.get? b = some (tupO (ys.map intV) n2) ∧ R (.ok (.ret (.bool (ltI xs ys)))) s) :=
  .of_wp fun prog w A R s h => by
    obtain ⟨hp, g, d, tk, os⟩ := s; obtain ⟨hl, hb, h⟩ := h
    have f2 := AutoSeq1.sub_tuple_tuple
    wp_walk using wpAny_loadPart' hl, wpAny_loadPart' hb, wpAny_forIn_list _ (fun rest b s' => b.1 = none ∧ s' = ⟨hp, g, d, tk, os⟩ ∧ ∃ us vs, rest = (us.map intV).zip (vs.map intV) ∧ (us.length < vs.length ↔ xs.length < ys.length) ∧
      R (.ok (.ret (.bool (ltI us vs)))) ⟨hp, g, d, tk, os⟩) _
    case turn =>
      rintro ⟨y, x⟩ rest b s' ⟨hb', rfl, us, vs, hz, hlen, hR⟩
      cases us with
      | nil => cases hz
      | cons u us =>
        cases vs with
        | nil => cases hz
        | cons v vs =>
          cases hz
          show wpAny _ _ (eqBool (intV u) (intV v) >>= _) _ _ _
          refine wpAny_bind (wpAny_eqBool_int ?_)
          unfold ltI at hR
          by_cases e : u.1 = v.1
          · rw [if_pos e] at hR
            rw [show (u.1 == v.1) = true by simp [e]]
            simp only [Bool.not_true, Bool.false_eq_true, if_false]
            exact wpAny_pure ⟨rfl, rfl, us, vs, rfl, by simpa using hlen, hR⟩
          · rw [if_neg e] at hR
            rw [show (u.1 == v.1) = false by simpa using e]
            simp only [Bool.not_false, if_true]
            refine wpAny_bind (wpAny_rule (wpAny_bind ?_))
            show wpAny _ _ (compareOp .Lt (.int u.1 u.2) (.int v.1 v.2)) _ _ _
            refine PyProof.Rows.lt_int ?_
            wp_walk
            exact ⟨_, rfl, hR⟩
    case fin =>
      rintro ⟨b1, b2⟩ s' ⟨hb', rfl, us, vs, hz, hlen, hR⟩
      simp only at hb'
      subst hb'
      have key : ltI us vs = decide (xs.length < ys.length) := by
        cases us with
        | nil =>
          cases vs with
          | nil =>
            rw [decide_eq_false (by rw [← hlen]; simp)]; rfl
          | cons v vs => rw [decide_eq_true (by rw [← hlen]; simp)]; rfl
        | cons u us =>
          cases vs with
          | nil => rw [decide_eq_false (by rw [← hlen]; simp)]; rfl
          | cons v vs => cases hz
      rw [key] at hR
      wp_walk
      exact ⟨_, rfl, by simpa [Builtin.Tuple.tupleCompareSizes] using hR⟩
    case h =>
      exact ⟨rfl, rfl, xs, ys, rfl, Iff.rfl, by simpa using h⟩

section
variable {prog : Program} {w : World} {A : Around} {P : Par} {Φ : Phi} {ρ : Nat → Addr} {s s' : St} {S : Shared} {v v' : Value} {a b : AV} {σ : Sto} {nx : Nat} {h : Heap}
theorem vr_int {i : Int} (r : VR P ρ nx h v (.int i)) : ∃ t, v = .int i t := r.intI
theorem vrs_ints : ∀ {vs : List Value} {ns : List Int}, VRs P ρ nx h vs (ns.map AV.int) → ∃ xs : List (Int × Tok), vs = xs.map intV ∧ xs.map (·.1) = ns
  | vs, [], r => ⟨[], r.nilI, rfl⟩
  | vs, n :: ns, r => by
    obtain ⟨v, ws, rfl, x, r2⟩ := r.consI
    obtain ⟨t, rfl⟩ := x.intI
    obtain ⟨xs, rfl, e⟩ := vrs_ints r2
    exact ⟨(n, t) :: xs, rfl, congrArg (n :: ·) e⟩
theorem intsLt_eq : ∀ {xs ys : List (Int × Tok)}, intsLt (xs.map Prod.fst) (ys.map Prod.fst) = ltI xs ys
  | [], [] => rfl
  | [], _ :: _ => rfl
  | _ :: _, [] => rfl
  | a :: r, b :: t => by
    show (match eqB a.1 b.1 with | true => intsLt (r.map Prod.fst) (t.map Prod.fst) | false => ltB a.1 b.1) = _
    unfold ltI
    rw [eqB_eq, ltB_eq]
    by_cases e : a.1 = b.1
    · rw [decide_eq_true e, if_pos e]; exact intsLt_eq
    · rw [decide_eq_false e, if_neg e]
theorem lt_ok {c : Bool} (hu : A.units + 64 < cLine) (e : ltF a b = some c) (x : VR P ρ nx S.heap v a) (y : VR P ρ nx S.heap v' b) {Q : Value → Shared → Prop} (q : Q (.bool c) S) : wpAny (model prog w) A (compareOp .Lt v v') Q NoE S := by
  unfold ltF at e
  split at e
  · obtain ⟨t, rfl⟩ := x.intI
    obtain ⟨u, rfl⟩ := y.intI
    cases e
    rw [ltB_eq] at q
    exact PyProof.Rows.lt_int q
  · rename_i l l2
    obtain ⟨a1, vs, n, rfl, g, r⟩ := x.tupI
    obtain ⟨a2, vs2, n2, rfl, g2, r2⟩ := y.tupI
    cases e1 : ints? l with
    | none => rw [e1] at e; cases e
    | some ns =>
      cases e2 : ints? l2 with
      | none => rw [e1, e2] at e; cases e
      | some ms =>
        rw [e1, e2] at e
        cases e
        rw [ints?_some e1] at r
        rw [ints?_some e2] at r2
        obtain ⟨xs, rfl, q1⟩ := vrs_ints r
        obtain ⟨ys, rfl, q2⟩ := vrs_ints r2
        rw [← q1, ← q2, intsLt_eq] at q
        show wpAny _ _ (richCompare .Lt (.ref a1) (.ref a2)) _ _ _
        exact richCompare_meets_room (op := .Lt) ⟨_, g, rfl⟩ ⟨_, g2, rfl⟩ F.slot_tuple_lt F.entry_tuple_lt (F.args_tuple_lt_2 _ _) (tuple_ltI a1 a2 xs ys n n2) ⟨g, g2, fun z => (nomatch z), q⟩ (by omega)
  · cases e

/-! ## equality -/
noncomputable def toI : AV → PyData
  | .int i => .int i
  | _ => .none
noncomputable def toD : AV → PyData
  | .int i => .int i
  | .tup l => .tuple (l.map toI)
  | _ => .none
theorem reads_ints : ∀ (xs : List (Int × Tok)), ReadsAll h (xs.map intV) ((xs.map (fun p => AV.int p.1)).map toI) []
  | [] => .nil
  | x :: r => by
    exact ReadsAll.cons (Reads.int (h := h) x.1 x.2) (reads_ints r)
theorem map_int (xs : List (Int × Tok)) : (xs.map (·.1)).map AV.int = xs.map (fun p => AV.int p.1) := by rw [List.map_map]; rfl
theorem reads_of (o : okF a = true) (r : VR P ρ nx h v a) : Reads h v (toD a) [] := by
  cases a with
  | none => rw [r.noneI]; exact .none
  | int i => obtain ⟨t, rfl⟩ := r.intI; exact .int i t
  | bool => cases o
  | sym => cases o
  | script => cases o
  | loc => cases o
  | clo => cases o
  | tup l =>
    obtain ⟨t, vs, n, rfl, g, r2⟩ := r.tupI
    unfold okF at o
    simp only at o
    cases e : ints? l with
    | none => rw [e] at o; cases o
    | some ns =>
      have := ints?_some e
      subst this
      obtain ⟨xs, rfl, q⟩ := vrs_ints r2
      subst q
      refine reads_tuple_at g rfl rfl ?_
      have := reads_ints (h := h) xs
      rw [map_int]
      simpa using this
theorem lay_ints : ∀ (ns : List Int), PyData.canLayAll0 ((ns.map AV.int).map toI) = true ∧ PyData.depthAll ((ns.map AV.int).map toI) = 0
  | [] => ⟨by simp [PyData.canLayAll0], by simp [PyData.depthAll]⟩
  | n :: r => by
    obtain ⟨a, b⟩ := lay_ints r
    simp only [List.map_map] at a b
    simp [PyData.canLayAll0, PyData.depthAll, PyData.canLay0, PyData.depth, toI, a, b]
theorem lay_of (o : okF a = true) : (toD a).canLay0 = true ∧ (toD a).depth ≤ 1 := by
  cases a with
  | none => exact ⟨by simp [toD, PyData.canLay0], by simp [toD, PyData.depth]⟩
  | int i => exact ⟨by simp [toD, PyData.canLay0], by simp [toD, PyData.depth]⟩
  | tup l =>
    unfold okF at o
    simp only at o
    cases e : ints? l with
    | none => rw [e] at o; cases o
    | some ns =>
      have := ints?_some e
      subst this
      obtain ⟨a, b⟩ := lay_ints ns
      simp only [List.map_map] at a b
      simp [toD, PyData.canLay0, PyData.depth, a, b]
  | bool => cases o
  | sym => cases o
  | script => cases o
  | loc => cases o
  | clo => cases o
theorem eqv_ints : ∀ (a b : List Int), PyData.eqvAll ((a.map AV.int).map toI) ((b.map AV.int).map toI) = intsEq a b
  | [], [] => by simp [PyData.eqvAll, intsEq]
  | [], _ :: _ => by simp [PyData.eqvAll, intsEq]
  | _ :: _, [] => by simp [PyData.eqvAll, intsEq]
  | a :: r, b :: t => by
    have ih := eqv_ints r t
    simp only [List.map_map] at ih
    simp only [List.map_cons, PyData.eqvAll, List.map_map, ih, toI, PyData.eqv, intsEq, eqB_eq]
    by_cases e : a = b <;> simp [e]
theorem eqF_eqv {c : Bool} (o : okF a = true) (o' : okF b = true) (e : eqF a b = some c) : (toD a).eqv (toD b) = c := by
  cases a with
  | none =>
    cases b with
    | none => cases e; simp [toD, PyData.eqv]
    | tup l =>
      unfold eqF at e
      simp only at e
      split at e <;> cases e
      simp [toD, PyData.eqv]
    | _ => cases e
  | int i =>
    cases b with
    | int j =>
      cases e
      rw [eqB_eq]
      by_cases q : i = j <;> simp [toD, PyData.eqv, q]
    | _ => cases e
  | tup l =>
    cases b with
    | none =>
      unfold eqF at e
      simp only at e
      split at e <;> cases e
      simp [toD, PyData.eqv]
    | tup l2 =>
      unfold eqF at e
      simp only at e
      cases e1 : ints? l with
      | none => rw [e1] at e; cases e
      | some ns =>
        cases e2 : ints? l2 with
        | none => rw [e1, e2] at e; cases e
        | some ms =>
          rw [e1, e2] at e
          cases e
          rw [ints?_some e1, ints?_some e2]
          have := eqv_ints ns ms
          simp only [List.map_map] at this
          simp [toD, PyData.eqv, this]
    | _ => cases e
  | _ => cases o
theorem okFs_mem : ∀ {l : List AV}, okFs l = true → ∀ a ∈ l, okF a = true
  | [], _, _, m => nomatch m
  | x :: r, o, a, m => by
    unfold okFs at o
    cases q : okF x with
    | false => rw [q] at o; cases o
    | true =>
      rw [q] at o
      cases m with
      | head => exact q
      | tail _ m => exact okFs_mem o a m
theorem reads_all {l : List AV} {vs : List Value} (o : okFs l = true) (r : VRs P ρ nx h vs l) : ReadsAll h vs (l.map toD) [] := by
  induction l generalizing vs with
  | nil => rw [r.nilI]; exact .nil
  | cons x l ih =>
    obtain ⟨v, ws, rfl, rv, rr⟩ := r.consI
    replace o : (match okF x with | true => okFs l | false => false) = true := o
    cases q : okF x with
    | false => rw [q] at o; cases o
    | true =>
      rw [q] at o
      exact ReadsAll.cons (reads_of q rv) (ih o rr)
theorem lay_all : ∀ {l : List AV}, okFs l = true → PyData.canLayAll0 (l.map toD) = true ∧ PyData.depthAll (l.map toD) ≤ 1
  | [], _ => ⟨by simp [PyData.canLayAll0], by simp [PyData.depthAll]⟩
  | x :: r, o => by
    unfold okFs at o
    cases q : okF x with
    | false => rw [q] at o; cases o
    | true =>
      rw [q] at o
      obtain ⟨a, b⟩ := lay_of q
      obtain ⟨c, d⟩ := lay_all o
      refine ⟨by simp [PyData.canLayAll0, a, c], ?_⟩
      simp only [List.map_cons, PyData.depthAll]; omega
theorem eqFs_eqv : ∀ {a b : List AV} {c : Bool}, okFs a = true → okFs b = true → eqFs a b = some c → PyData.eqvAll (a.map toD) (b.map toD) = c
  | [], [], _, _, _, e => by cases e; simp [PyData.eqvAll]
  | [], _ :: _, _, _, _, e => by cases e; simp [PyData.eqvAll]
  | _ :: _, [], _, _, _, e => by cases e; simp [PyData.eqvAll]
  | x :: r, y :: t, c, o, o', e => by
    have hx := okFs_mem o x (.head _)
    have hy := okFs_mem o' y (.head _)
    unfold okFs at o o'
    rw [hx] at o
    rw [hy] at o'
    unfold eqFs at e
    cases q : eqF x y with
    | none => rw [q] at e; cases e
    | some d =>
      rw [q] at e
      have := eqF_eqv hx hy q
      cases d with
      | true =>
        have ih := eqFs_eqv o o' e
        simp [PyData.eqvAll, this, ih]
      | false =>
        cases e
        simp [PyData.eqvAll, this]
theorem inF_any : ∀ {l : List AV} {x : AV} {c : Bool}, okFs l = true → okF x = true → inF l x = some c → ((l.map toD).any fun y => y.eqv (toD x)) = c
  | [], _, _, _, _, e => by cases e; rfl
  | y :: r, x, c, o, o', e => by
    have hy := okFs_mem o y (.head _)
    unfold okFs at o
    rw [hy] at o
    unfold inF at e
    cases q : eqF y x with
    | none => rw [q] at e; cases e
    | some d =>
      rw [q] at e
      have := eqF_eqv hy o' q
      cases d with
      | true => cases e; simp [this]
      | false =>
        have ih := inF_any o o' e
        simp only [List.map_cons, List.any_cons, this, Bool.false_or, ih]

theorem eqF_ok {a b : AV} {c : Bool} (e : eqF a b = some c) : okF a = true ∧ okF b = true := by
  have key : ∀ {l : List AV} {k : Option Bool}, (match ints? l with | some _ => k | none => none) = some c → okF (.tup l) = true := by
    intro l k e
    cases q : ints? l with
    | none => rw [q] at e; cases e
    | some ns => show (match ints? l with | some _ => true | none => false) = true; rw [q]
  unfold eqF at e
  split at e
  · exact ⟨rfl, rfl⟩
  · exact ⟨rfl, rfl⟩
  · exact ⟨rfl, key (k := some false) e⟩
  · exact ⟨key (k := some false) e, rfl⟩
  · rename_i l l2
    cases q : ints? l with
    | none => rw [q] at e; cases e
    | some ns =>
      rw [q] at e
      cases q2 : ints? l2 with
      | none => rw [q2] at e; cases e
      | some ms => exact ⟨key (k := some c) (by rw [q]), key (k := some c) (by rw [q2])⟩
  · cases e
theorem eqA_reads {c : Bool} (e : eqA σ a b = some c) (x : VR P ρ nx h v a) (y : VR P ρ nx h v' b) (R : SR P ρ σ nx h) : ∃ da db as bs, Reads h v da as ∧ Reads h v' db bs ∧ SeqAt.shaped da = true ∧ SeqAt.shaped db = true ∧ da.eqv db = c := by
  have flat : okF a = true → okF b = true → eqF a b = some c → ∃ da db as bs, Reads h v da as ∧ Reads h v' db bs ∧ SeqAt.shaped da = true ∧ SeqAt.shaped db = true ∧ da.eqv db = c := by
    intro o o' e
    have l1 := lay_of o
    have l2 := lay_of o'
    refine ⟨toD a, toD b, [], [], reads_of o x, reads_of o' y, ?_, ?_, eqF_eqv o o' e⟩
    · unfold SeqAt.shaped; rw [l1.1, Bool.true_and]; exact decide_eq_true (by omega)
    · unfold SeqAt.shaped; rw [l2.1, Bool.true_and]; exact decide_eq_true (by omega)
  unfold eqA at e
  split at e
  · rename_i i j
    obtain ⟨hi, rfl⟩ := x.locI
    obtain ⟨hj, rfl⟩ := y.locI
    split at e
    · rename_i l1 l2 q1 q2
      split at e
      · rename_i f1 f2
        obtain ⟨vs, n, g, z, _⟩ := R.rel i _ q1
        obtain ⟨vs2, n2, g2, z2, _⟩ := R.rel j _ q2
        have k1 := lay_all f1
        have k2 := lay_all f2
        refine ⟨.list (l1.map toD), .list (l2.map toD), _, _, reads_list_at g rfl rfl (by simpa using reads_all f1 z), reads_list_at g2 rfl rfl (by simpa using reads_all f2 z2), ?_, ?_, ?_⟩
        · unfold SeqAt.shaped; simp only [PyData.canLay0, PyData.depth, k1.1, Bool.true_and]; exact decide_eq_true (by omega)
        · unfold SeqAt.shaped; simp only [PyData.canLay0, PyData.depth, k2.1, Bool.true_and]; exact decide_eq_true (by omega)
        · rw [← eqFs_eqv f1 f2 e]; simp [PyData.eqv]
      · cases e
    · cases e
  · exact flat (eqF_ok e).1 (eqF_ok e).2 e

theorem is_ok {c : Bool} (e : cmpA Φ .Is a b σ = some c) (x : VR P ρ nx S.heap v a) (y : VR P ρ nx S.heap v' b) {Q : Value → Shared → Prop} (q : Q (.bool c) S) : wpAny (model prog w) A (compareOp .Is v v') Q NoE S := by
  replace e : isA a b = some c := e
  unfold isA at e
  split at e
  · obtain rfl := y.noneI
    split at e
    · obtain rfl := x.noneI; cases e; exact wpAny_is_plain rfl q
    · obtain ⟨t, rfl⟩ := x.intI; cases e; exact wpAny_is_plain rfl q
    · obtain ⟨t, vs, n, rfl, _⟩ := x.tupI; cases e; exact wpAny_is_plain rfl q
    · obtain ⟨_, rfl⟩ := x.locI; cases e; exact wpAny_is_plain rfl q
    · cases e
  · cases e

theorem beq_dec (i j : Int) : (i == j) = decide (i = j) := by by_cases h : i = j <;> simp [h]
theorem nott_some {o : Option Bool} {c : Bool} (h : nott o = some c) : o = some (!c) := by
  cases o with
  | none => cases h
  | some b => cases h; simp
theorem inA_some {l : List AV} {c : Bool} (h : inA l a = some c) : okF a = true ∧ okFs l = true ∧ inF l a = some c := by
  unfold inA at h
  cases e1 : okF a with
  | false => rw [e1] at h; cases h
  | true =>
    cases e2 : okFs l with
    | false => rw [e1, e2] at h; cases h
    | true => rw [e1, e2] at h; exact ⟨rfl, rfl, h⟩

theorem cmp_ok {op : CmpOp} {c : Bool} (hP : ∀ a k b, Φ.le a k = some b → b = decide (a ≤ P.y k)) (hu : A.units + 64 < cLine) (e : cmpA Φ op a b σ = some c) (x : VR P ρ nx S.heap v a) (y : VR P ρ nx S.heap v' b) (R : SR P ρ σ nx S.heap)
    {Q : Value → Shared → Prop} (q : Q (.bool c) S) : wpAny (model prog w) A (compareOp op v v') Q NoE S := by
  have isin : ∀ {l : List AV} {j : Nat} {c : Bool}, lookN σ j = some (.list l) → inA l a = some c → (Q (.bool c) S → wpAny (model prog w) A (compareOp .In v (.ref (ρ j))) Q NoE S) ∧ (Q (.bool (!c)) S → wpAny (model prog w) A (compareOp .NotIn v (.ref (ρ j))) Q NoE S) := by
    intro l j c e1 e2
    obtain ⟨o1, o2, e3⟩ := inA_some e2
    obtain ⟨vs, n, g, z, _⟩ := R.rel j _ e1
    have k1 := lay_all o2
    have k2 := lay_of o1
    have k3 := inF_any o2 o1 e3
    have bd : A.units + 1 + min (PyData.depthAll (l.map toD)) (toD a).depth < cLine := by
      have := Nat.min_le_right (PyData.depthAll (l.map toD)) (toD a).depth
      omega
    exact ⟨fun q => SeqAt.in_list_reads (reads_list_at g rfl rfl (by simpa using reads_all o2 z)) (reads_of o1 x) k1.1 k2.1 bd (by rw [k3]; exact q),
      fun q => SeqAt.notIn_list_reads (reads_list_at g rfl rfl (by simpa using reads_all o2 z)) (reads_of o1 x) k1.1 k2.1 bd (by rw [k3]; exact q)⟩
  have hints0 : ∀ {op : CmpOp} {i j : Int} {t u : Tok} {c : Bool}, cmpI op i j = some c → Q (.bool c) S → wpAny (model prog w) A (compareOp op (.int i t) (.int j u)) Q NoE S := by
    intro op i j t u c e q
    cases op <;> cases e
    · rw [eqB_eq] at q; exact PyProof.Rows.eq_int (by rw [beq_dec]; exact q)
    · rw [eqB_eq] at q; exact PyProof.Rows.ne_int (by rw [bne, beq_dec]; exact q)
    · rw [ltB_eq] at q; exact PyProof.Rows.lt_int q
    · rw [leB_eq] at q; exact PyProof.Rows.le_int q
    · rw [ltB_eq] at q; exact PyProof.Rows.gt_int q
    · rw [leB_eq] at q; exact PyProof.Rows.ge_int q
  have hin : ∀ {c : Bool}, inB σ a b = some c → (Q (.bool c) S → wpAny (model prog w) A (compareOp .In v v') Q NoE S) ∧ (Q (.bool (!c)) S → wpAny (model prog w) A (compareOp .NotIn v v') Q NoE S) := by
    intro c e
    unfold inB at e
    split at e
    · obtain ⟨hj, rfl⟩ := y.locI
      split at e
      · rename_i l e1; exact isin e1 e
      · cases e
    · cases e
  have hord : ∀ {op : CmpOp} {c : Bool}, ordA op a b = some c → Q (.bool c) S → wpAny (model prog w) A (compareOp op v v') Q NoE S := by
    intro op c e q
    unfold ordA at e
    split at e
    · obtain ⟨t, rfl⟩ := x.intI
      obtain ⟨u, rfl⟩ := y.intI
      exact hints0 e q
    · cases e
  cases op with
  | Is => exact is_ok (Φ := Φ) e x y q
  | IsNot => cases e
  | In => exact (hin e).1 q
  | NotIn => exact (hin (nott_some e)).2 (by simpa using q)
  | Eq =>
    obtain ⟨da, db, as, bs, r1, r2, s1, s2, r⟩ := eqA_reads (show eqA σ a b = some c from e) x y R
    exact eq_dataH r1 r2 s1 s2 hu (by rw [r]; exact q)
  | NotEq =>
    obtain ⟨da, db, as, bs, r1, r2, s1, s2, r⟩ := eqA_reads (nott_some (show nott (eqA σ a b) = some c from e)) x y R
    exact ne_dataH r1 r2 s1 s2 hu (by rw [r]; simpa using q)
  | Lt => exact lt_ok hu e x y q
  | LtE =>
    replace e : leA Φ a b = some c := e
    unfold leA at e
    split at e
    · obtain ⟨t, rfl⟩ := x.intI
      obtain ⟨u, rfl⟩ := y.intI
      exact hints0 (op := .LtE) e q
    · cases e
  | Gt => exact hord (op := .Gt) e q
  | GtE => exact hord (op := .GtE) e q
end
end Mine
set_option maxRecDepth 100000
namespace Mine
open PySem PySem.Calls PyProof.Rows PySem.W PySem.W.Z

section
variable {M : Model} {A : Around} {E : Value → Shared → Prop} {s : Shared}
theorem evalArgs_all {f : Value} {trees : List (Bool × Sem Value)} {Q : Args → Shared → Prop} (hp : trees.any (·.1) = false) (h : wpAny M A (spliced trees) (fun vs s' => Q ⟨vs, []⟩ s') E s) : wpAny M A (evalArgs f true trees []) Q E s := by
  cases trees with
  | nil =>
    unfold evalArgs
    show wpAny M A (spliced [] >>= _) Q E s
    refine wpAny_bind (wpAny_mono h (fun vs s' h' => wpAny_bind (wpAny_pure ?_)) fun _ _ x => x)
    refine wpAny_holding ?_
    exact wpAny_bind (wpAny_pure (wpAny_bind (wpAny_pure (wpAny_pure h'))))
  | cons p rest =>
    obtain ⟨b, x⟩ := p
    have : b = false := by
      rw [List.any_cons] at hp
      exact (Bool.or_eq_false_iff.mp hp).1
    subst this
    exact evalArgs_plain h
theorem trees_plain {l : List Expr} (h : ∀ env, starEach l env = l.map fun e => (false, eval e env)) (pos : Pos) (env : Env) : (backTo pos (starEach l env)).any (·.1) = false := by
  rw [h]
  unfold backTo
  rw [List.any_eq_false]
  intro x hx
  rw [List.mem_map] at hx
  obtain ⟨y, hy, rfl⟩ := hx
  rw [List.mem_map] at hy
  obtain ⟨e, _, rfl⟩ := hy
  simp
end

section
variable {prog : Program} {w : World} {A : Around} {P : Par} {Φ : Phi} {ρ : Nat → Addr} {s s' : St} {S : Shared} {v v' : Value} {a b : AV} {σ : Sto} {nx : Nat} {X : Addr → Prop}
theorem natOf_int {i : Int} {k : Nat → Ans} {r : Rs × St} (h : natOf i none k = some r) : ∃ n : Nat, i = n ∧ k n = some r := natOf_some h

/-- a list is written -/
theorem listWrite {j : Nat} {l l' : List AV} {vs vs' : List Value} {n : Nat} {f : Array Value → Array Value} (e : lookN s.σ j = some (.list l)) (g : S.heap.get? (ρ j) = some (listOf vs.toArray n)) (hf : f vs.toArray = vs'.toArray)
    (r : VRs P ρ s.nx S.heap vs' l') (h : (putL l' s.σ j fun σ => val .none (withσ s σ)) = some (.v a, s')) (R : SR P ρ s.σ s.nx S.heap) (I : Inv P S.heap) :
    s'.lv = s.lv ∧ OkV P X ρ s S s' a .none { S with heap := S.heap.update (ρ j) (Obj.mapSeq f) } := by
  unfold putL at h
  cases q : short l' with
  | false => rw [q] at h; cases h
  | true =>
    rw [q] at h
    simp only at h
    obtain ⟨σ', hσ, h⟩ := putN_some h
    (first | (obtain ⟨rfl, rfl⟩ := inv_v h) | (obtain ⟨rfl, rfl⟩ := inv_b h) | (obtain ⟨rfl, rfl⟩ := inv_vs h) | (obtain ⟨rfl, rfl⟩ := inv_fl h) | (obtain rfl := inv_u h) | (obtain ⟨rfl, rfl⟩ := inv_it h) | cases h)
    have sb : Heap.SameBut (ρ j) S.heap (S.heap.update (ρ j) (Obj.mapSeq f)) := Heap.SameBut.update ..
    have u := PySem.IsL.update g f
    rw [hf] at u
    have L : Later ρ s.nx S.heap ρ s.nx (S.heap.update (ρ j) (Obj.mapSeq f)) := later_kpt (kpt_same sb) (by
      rintro b rfl o q
      exact ((R.rel j _ e).kind q).1)
    refine ⟨rfl, ρ, Ext.write R I e (kpt_same sb) hσ ?_, .none, .refl _⟩
    exact ⟨vs', _, u, r.later L, short_len q⟩

noncomputable abbrev miId : MI → String
  | .append => "list.append" | .extend => "list.extend" | .reverse => "list.reverse" | .insert => "list.insert" | .bitlen => "int.bit_length"
theorem bits_ofNat (n : Nat) : Builtin.Int.intBits (Int.ofNat n) = bitLen n := by
  cases n with
  | zero => rfl
  | succ m =>
    unfold Builtin.Int.intBits bitLen
    rw [if_neg (by simp; omega)]
    rfl
theorem insert_raw {l : Addr} {items : Array Value} {n : Nat} {x : Int} {u : Tok} {y : Value} {Q : Value → Shared → Prop} (g : S.heap.get? l = some (listOf items n)) (hf : Builtin.List.listFitsIndex x = true) (hz : items.size ≤ sizeLine)
    (h : Q .none { S with heap := S.heap.update l (Obj.mapSeq fun xs => have k := if x < 0 then (x + (xs.size : Int)).toNat else min x.toNat xs.size; (xs.extract 0 k).push y ++ xs.extract k) }) :
    wpAny (model prog w) A (call (.builtin "list.insert") [.ref l, .int x u, y]) Q NoE S :=
  call_meets PySem.F.slot_list_insert ⟨_, g, rfl⟩ PySem.F.entry_list_insert (PySem.F.args_list_insert_3 _ _ _) (PySem.AutoSeq1.list_insert_list_int_val_1 l items n x u y (by simp [hf]) hz) ⟨g, h⟩
theorem bitlenM_ok {l : List AV} {vs : List Value} (h : bitlenM a l s = some (.v b, s')) (x : VR P ρ s.nx S.heap v a) (y : VRs P ρ s.nx S.heap vs l) (R : SR P ρ s.σ s.nx S.heap) (I : Inv P S.heap) :
    s'.lv = s.lv ∧ wpAny (model prog w) A (call (.builtin (miId .bitlen)) (v :: vs)) (OkV P X ρ s S s' b) NoE S := by
  unfold bitlenM at h
  split at h
  · rename_i i
    obtain ⟨t, rfl⟩ := x.intI
    obtain rfl := y.nilI
    cases i with
    | negSucc n => (first | (obtain ⟨rfl, rfl⟩ := inv_v h) | (obtain ⟨rfl, rfl⟩ := inv_b h) | (obtain ⟨rfl, rfl⟩ := inv_vs h) | (obtain ⟨rfl, rfl⟩ := inv_fl h) | (obtain rfl := inv_u h) | (obtain ⟨rfl, rfl⟩ := inv_it h) | cases h)
    | ofNat n =>
      simp only at h
      obtain ⟨rfl, k⟩ := okI (X := X) h R I
      refine ⟨rfl, call_int_bit_length ?_⟩
      rw [bits_ofNat]
      exact k _ _ tk1
  · (first | (obtain ⟨rfl, rfl⟩ := inv_v h) | (obtain ⟨rfl, rfl⟩ := inv_b h) | (obtain ⟨rfl, rfl⟩ := inv_vs h) | (obtain ⟨rfl, rfl⟩ := inv_fl h) | (obtain rfl := inv_u h) | (obtain ⟨rfl, rfl⟩ := inv_it h) | cases h)
theorem appendM_ok {l : List AV} {vs : List Value} (h : appendM a l s = some (.v b, s')) (x : VR P ρ s.nx S.heap v a) (y : VRs P ρ s.nx S.heap vs l) (R : SR P ρ s.σ s.nx S.heap) (I : Inv P S.heap) :
    s'.lv = s.lv ∧ wpAny (model prog w) A (call (.builtin (miId .append)) (v :: vs)) (OkV P X ρ s S s' b) NoE S := by
  unfold appendM at h
  split at h
  · rename_i j a1
    obtain ⟨hj, rfl⟩ := x.locI
    obtain ⟨w1, rfl, rw1⟩ := y.oneI
    split at h
    · rename_i l e
      rw [appK_eq] at h
      obtain ⟨us, n, g, z, lb⟩ := R.rel j _ e
      have len := z.length
      obtain ⟨h1, h2⟩ := listWrite (X := X) (f := (·.push w1)) e g (vs' := us ++ [w1]) (by simp) (z.append (.cons _ _ _ _ rw1 .nil)) h R I
      refine ⟨h1, ?_⟩
      refine wpAny_call_entry slot_list_append (isList_of g).typeIs entry_list_append ?_ (args_list_append _ _)
      show wpAny _ _ (updateSeq (ρ j) (·.push w1) >>= fun _ => ret .none) _ _ S
      exact wpAny_bind (wpAny_updateSeq g rfl (wpAny_pure ⟨.none, rfl, h2⟩) (hz := by simp [sizeLine_eq]; omega) (_hz' := by simp [sizeLine_eq]; omega))
    · (first | (obtain ⟨rfl, rfl⟩ := inv_v h) | (obtain ⟨rfl, rfl⟩ := inv_b h) | (obtain ⟨rfl, rfl⟩ := inv_vs h) | (obtain ⟨rfl, rfl⟩ := inv_fl h) | (obtain rfl := inv_u h) | (obtain ⟨rfl, rfl⟩ := inv_it h) | cases h)
  · (first | (obtain ⟨rfl, rfl⟩ := inv_v h) | (obtain ⟨rfl, rfl⟩ := inv_b h) | (obtain ⟨rfl, rfl⟩ := inv_vs h) | (obtain ⟨rfl, rfl⟩ := inv_fl h) | (obtain rfl := inv_u h) | (obtain ⟨rfl, rfl⟩ := inv_it h) | cases h)
theorem extendM_ok {l : List AV} {vs : List Value} (h : extendM a l s = some (.v b, s')) (x : VR P ρ s.nx S.heap v a) (y : VRs P ρ s.nx S.heap vs l) (R : SR P ρ s.σ s.nx S.heap) (I : Inv P S.heap) :
    s'.lv = s.lv ∧ wpAny (model prog w) A (call (.builtin (miId .extend)) (v :: vs)) (OkV P X ρ s S s' b) NoE S := by
  unfold extendM at h
  split at h
  · rename_i j i
    obtain ⟨hj, rfl⟩ := x.locI
    obtain ⟨w1, rfl, rw1⟩ := y.oneI
    obtain ⟨hi, rfl⟩ := rw1.locI
    split at h
    · rename_i l k e e2
      rw [appK_eq] at h
      obtain ⟨us, n, g, z, lb⟩ := R.rel j _ e
      obtain ⟨us2, n2, g2, z2, lb2⟩ := R.rel i _ e2
      have len := z.length
      have len2 := z2.length
      obtain ⟨h1, h2⟩ := listWrite (X := X) (f := (· ++ us2.toArray)) e g (vs' := us ++ us2) (by simp) (z.append z2) h R I
      refine ⟨h1, ?_⟩
      refine call_meets PySem.F.slot_list_extend (isList_of g).typeIs PySem.F.entry_list_extend (PySem.F.args_list_extend_2 _ _)
        (PySem.AutoSeq1.list_extend_list_list_0 (ρ j) us.toArray n (ρ i) us2.toArray n2 ?_ ?_ ?_) ⟨g, g2, h2⟩
      · simp [Builtin.List.listTooLong, sizeLine_eq]; omega
      · simp [sizeLine_eq]; omega
      · simp [sizeLine_eq]; omega
    · (first | (obtain ⟨rfl, rfl⟩ := inv_v h) | (obtain ⟨rfl, rfl⟩ := inv_b h) | (obtain ⟨rfl, rfl⟩ := inv_vs h) | (obtain ⟨rfl, rfl⟩ := inv_fl h) | (obtain rfl := inv_u h) | (obtain ⟨rfl, rfl⟩ := inv_it h) | cases h)
  · (first | (obtain ⟨rfl, rfl⟩ := inv_v h) | (obtain ⟨rfl, rfl⟩ := inv_b h) | (obtain ⟨rfl, rfl⟩ := inv_vs h) | (obtain ⟨rfl, rfl⟩ := inv_fl h) | (obtain rfl := inv_u h) | (obtain ⟨rfl, rfl⟩ := inv_it h) | cases h)
theorem reverseM_ok {l : List AV} {vs : List Value} (h : reverseM a l s = some (.v b, s')) (x : VR P ρ s.nx S.heap v a) (y : VRs P ρ s.nx S.heap vs l) (R : SR P ρ s.σ s.nx S.heap) (I : Inv P S.heap) :
    s'.lv = s.lv ∧ wpAny (model prog w) A (call (.builtin (miId .reverse)) (v :: vs)) (OkV P X ρ s S s' b) NoE S := by
  unfold reverseM at h
  split at h
  · rename_i j
    obtain ⟨hj, rfl⟩ := x.locI
    obtain rfl := y.nilI
    split at h
    · rename_i l e
      rw [revK_eq] at h
      obtain ⟨us, n, g, z, lb⟩ := R.rel j _ e
      have len := z.length
      obtain ⟨h1, h2⟩ := listWrite (X := X) (f := fun x => x.reverse) e g (vs' := us.reverse) (by simp) (by simpa using z.reverse) h R I
      refine ⟨h1, ?_⟩
      exact call_meets PySem.F.slot_list_reverse (isList_of g).typeIs PySem.F.entry_list_reverse (PySem.F.args_list_reverse_1 _) (PySem.AutoSeq1.list_reverse_list_0 (ρ j) us.toArray n (by simp [sizeLine_eq]; omega)) ⟨g, h2⟩
    · (first | (obtain ⟨rfl, rfl⟩ := inv_v h) | (obtain ⟨rfl, rfl⟩ := inv_b h) | (obtain ⟨rfl, rfl⟩ := inv_vs h) | (obtain ⟨rfl, rfl⟩ := inv_fl h) | (obtain rfl := inv_u h) | (obtain ⟨rfl, rfl⟩ := inv_it h) | cases h)
  · (first | (obtain ⟨rfl, rfl⟩ := inv_v h) | (obtain ⟨rfl, rfl⟩ := inv_b h) | (obtain ⟨rfl, rfl⟩ := inv_vs h) | (obtain ⟨rfl, rfl⟩ := inv_fl h) | (obtain rfl := inv_u h) | (obtain ⟨rfl, rfl⟩ := inv_it h) | cases h)
theorem insertM_ok {l : List AV} {vs : List Value} (h : insertM a l s = some (.v b, s')) (x : VR P ρ s.nx S.heap v a) (y : VRs P ρ s.nx S.heap vs l) (R : SR P ρ s.σ s.nx S.heap) (I : Inv P S.heap) :
    s'.lv = s.lv ∧ wpAny (model prog w) A (call (.builtin (miId .insert)) (v :: vs)) (OkV P X ρ s S s' b) NoE S := by
  unfold insertM at h
  split at h
  · rename_i j i a2
    obtain ⟨hj, rfl⟩ := x.locI
    obtain ⟨w1, w2, rfl, rw1, rw2⟩ := y.twoI
    obtain ⟨u, rfl⟩ := rw1.intI
    split at h
    · rename_i l e
      replace h := natOf_int h
      obtain ⟨m, rfl, h⟩ := h
      cases q : Nat.ble m 4096 with
      | false => rw [q] at h; cases h
      | true =>
      rw [q] at h
      replace q := Nat.le_of_ble_eq_true q
      simp only at h
      rw [insAt_eq] at h
      obtain ⟨us, n, g, z, lb⟩ := R.rel j _ e
      have len := z.length
      obtain ⟨F, hF⟩ : ∃ F : Array Value → Array Value, F = (fun xs : Array Value => have k := if ((m : Nat) : Int) < 0 then (((m : Nat) : Int) + (xs.size : Int)).toNat else min ((m : Nat) : Int).toNat xs.size; (xs.extract 0 k).push w2 ++ xs.extract k) := ⟨_, rfl⟩
      have hf : F us.toArray = (us.take m ++ w2 :: us.drop m).toArray := by
        rw [hF]
        simp only [Int.toNat_natCast, List.size_toArray]
        rw [if_neg (by omega)]
        apply Array.toList_inj.mp
        rcases Nat.le_total m us.length with hm | hm
        · rw [Nat.min_eq_left hm]
          simp [List.take_of_length_le]
        · rw [Nat.min_eq_right hm]
          simp [List.take_of_length_le hm, List.drop_eq_nil_of_le hm]
      obtain ⟨h1, h2⟩ := listWrite (X := X) e g hf ((z.take m).append (.cons _ _ _ _ rw2 (z.drop m))) h R I
      rw [hF] at h2
      exact ⟨h1, insert_raw g (by unfold Builtin.List.listFitsIndex; simp; omega) (by rw [List.size_toArray, sizeLine_eq]; omega) h2⟩
    · (first | (obtain ⟨rfl, rfl⟩ := inv_v h) | (obtain ⟨rfl, rfl⟩ := inv_b h) | (obtain ⟨rfl, rfl⟩ := inv_vs h) | (obtain ⟨rfl, rfl⟩ := inv_fl h) | (obtain rfl := inv_u h) | (obtain ⟨rfl, rfl⟩ := inv_it h) | cases h)
  · (first | (obtain ⟨rfl, rfl⟩ := inv_v h) | (obtain ⟨rfl, rfl⟩ := inv_b h) | (obtain ⟨rfl, rfl⟩ := inv_vs h) | (obtain ⟨rfl, rfl⟩ := inv_fl h) | (obtain rfl := inv_u h) | (obtain ⟨rfl, rfl⟩ := inv_it h) | cases h)
theorem callM_ok {mi : MI} {l : List AV} {vs : List Value} (h : callM mi a l s = some (.v b, s')) (x : VR P ρ s.nx S.heap v a) (y : VRs P ρ s.nx S.heap vs l) (R : SR P ρ s.σ s.nx S.heap) (I : Inv P S.heap) :
    s'.lv = s.lv ∧ wpAny (model prog w) A (call (.builtin (miId mi)) (v :: vs)) (OkV P X ρ s S s' b) NoE S := by
  cases mi with
  | bitlen => exact bitlenM_ok h x y R I
  | append => exact appendM_ok h x y R I
  | extend => exact extendM_ok h x y R I
  | reverse => exact reverseM_ok h x y R I
  | insert => exact insertM_ok h x y R I
end
end Mine
set_option maxRecDepth 100000
namespace Mine
open PySem PySem.Calls PyProof.Rows PySem.W PySem.W.Z

section
variable {P : Par} {X : Addr → Prop} {ρ ρ₀ : Nat → Addr} {σ σ₀ σ' : Sto} {nx nx₀ : Nat} {h h₀ : Heap}
/-- a thing made on the way becomes a place of the store -/
theorem Ext.adopt (e : Ext P X ρ₀ σ₀ nx₀ h₀ ρ σ nx h) {a : Addr} {o : AObj} (ha : h₀.get? a = none) (hb : P.H0.objs.size ≤ a) (hn : ∀ j o, lookN σ j = some o → ρ j ≠ a) (hσ : ∀ j, lookN σ' j = if j = nx then some o else lookN σ j)
    (hr : OR P ρ nx h a o) : Ext P X ρ₀ σ₀ nx₀ h₀ (upd ρ nx a) σ' (nx + 1) h := by
  have L : Later ρ nx h (upd ρ nx a) (nx + 1) h := ⟨Nat.le_succ _, fun j hj => upd_ne _ _ (Nat.ne_of_lt hj), fun b o e _ => e⟩
  have S := e.sr
  refine ⟨Nat.le_succ_of_le e.le, fun j hj => ?_, fun j o' q => ?_, e.kp, e.there, ⟨fun j o' q => ?_, fun i j o1 o2 e1 e2 q => ?_, fun j o' q => ?_, fun j o' q => ?_⟩, e.inv⟩
  · rw [upd_ne _ _ (Nat.ne_of_lt (Nat.lt_of_lt_of_le hj e.le))]; exact e.ag j hj
  · rw [hσ] at q
    by_cases z : j = nx
    · subst z; exact .inr ⟨e.le, by rw [upd_eq]; exact ha⟩
    · rw [if_neg z] at q; rw [upd_ne _ _ z]; exact e.dom j o' q
  · rw [hσ] at q
    by_cases z : j = nx
    · subst z; exact Nat.lt_succ_self _
    · rw [if_neg z] at q; exact Nat.lt_succ_of_lt (S.lt j o' q)
  · rw [hσ] at e1 e2
    by_cases q1 : i = nx
    · by_cases q2 : j = nx
      · rw [q1, q2]
      · rw [if_neg q2] at e2
        rw [q1, upd_eq, upd_ne _ _ q2] at q
        exact absurd q.symm (hn _ _ e2)
    · rw [if_neg q1] at e1
      by_cases q2 : j = nx
      · rw [q2, upd_eq, upd_ne _ _ q1] at q
        exact absurd q (hn _ _ e1)
      · rw [if_neg q2] at e2
        rw [upd_ne _ _ q1, upd_ne _ _ q2] at q
        exact S.inj i j _ _ e1 e2 q
  · rw [hσ] at q
    by_cases z : j = nx
    · subst z; rw [upd_eq]; exact hb
    · rw [if_neg z] at q; rw [upd_ne _ _ z]; exact S.up j o' q
  · rw [hσ] at q
    by_cases z : j = nx
    · subst z
      rw [if_pos rfl] at q
      cases q
      rw [upd_eq]; exact hr.later L fun ob q => q
    · rw [if_neg z] at q
      rw [upd_ne _ _ z]
      exact (S.rel j o' q).later L fun ob q => q
end

section
variable {prog : Program} {w : World} {A : Around} {P : Par} {Φ : Phi} {xs : List (Int × Tok)} {ρ ρ₀ : Nat → Addr} {s s' s₀ : St} {S S' S₀ : Shared} {a : AV} {D : Addr} {E : AEnv} {env : Env} {d : Nat}
/-- a list made on the way -/
theorem newL_adopt {X : Addr → Prop} {l : List AV} {vs : List Value} {n : Nat} {L : Addr} (h : newL l s = some (.v a, s')) (e : Ext P X ρ₀ s₀.σ s₀.nx S₀.heap ρ s.σ s.nx S.heap) (g : S.heap.get? L = some (listOf vs.toArray n)) (r : VRs P ρ s.nx S.heap vs l)
    (ha : S₀.heap.get? L = none) (hb : P.H0.objs.size ≤ L) (hn : ∀ j o, lookN s.σ j = some o → ρ j ≠ L) : s'.lv = s.lv ∧ ∃ ρ', Later ρ s.nx S.heap ρ' s'.nx S.heap ∧ Ext P X ρ₀ s₀.σ s₀.nx S₀.heap ρ' s'.σ s'.nx S.heap ∧ VR P ρ' s'.nx S.heap (.ref L) a := by
  unfold newL at h
  cases q : short l with
  | false => rw [q] at h; cases h
  | true =>
    rw [q] at h
    simp only at h
    rw [nNat_eq] at h
    obtain ⟨σ', hσ, h⟩ := putN_some h
    (first | (obtain ⟨rfl, rfl⟩ := inv_v h) | (obtain ⟨rfl, rfl⟩ := inv_b h) | (obtain ⟨rfl, rfl⟩ := inv_vs h) | (obtain ⟨rfl, rfl⟩ := inv_fl h) | (obtain rfl := inv_u h) | (obtain ⟨rfl, rfl⟩ := inv_it h) | cases h)
    refine ⟨rfl, upd ρ s.nx L, ⟨Nat.le_succ _, fun j hj => upd_ne _ _ (Nat.ne_of_lt hj), fun b o e _ => e⟩, e.adopt ha hb hn hσ ⟨vs, n, g, r, short_len q⟩, ?_⟩
    have := VR.loc (P := P) (ρ := upd ρ s.nx L) (nx := s.nx + 1) (h := S.heap) s.nx (Nat.lt_succ_self _)
    rw [upd_eq] at this
    exact this
/-- a state in which all stands and some is new -/
theorem Pre.more (p : Pre P d A ρ s S D E env) (hk : ∀ b o, S.heap.get? b = some o → S'.heap.get? b = some o) (sm : Same S S') : Step P D E env ρ s S ρ s S' := p.ofNo rfl (.grow p.sr p.inv hk) sm
theorem Pre.fresh (p : Pre P d A ρ s S D E env) {L : Addr} (g : S.heap.get? L = none) : ∀ j o, lookN s.σ j = some o → ρ j ≠ L := by
  rintro j o e rfl
  obtain ⟨ob, q⟩ := (p.sr.rel j o e).is
  rw [g] at q; cases q
theorem Step.fr_later {ρ' : Nat → Addr} (f : FrOk P ρ s.nx S.heap D E env s.lv) (L : Later ρ s.nx S.heap ρ' s'.nx S.heap) (hl : s'.lv = s.lv) : FrOk P ρ' s'.nx S.heap D E env s'.lv := by
  refine ⟨f.ok, f.kind, f.loc, f.glob, f.blt, f.defs, f.names, fun y j e => ?_, f.up, ?_⟩
  · obtain ⟨a, b⟩ := f.cells y j e
    exact ⟨Nat.lt_of_lt_of_le a L.le, by rw [L.ag j a]; exact b⟩
  · obtain ⟨m, hn, hm⟩ := f.ns
    refine ⟨m, hn, fun y a e => ?_⟩
    rw [hl] at e
    obtain ⟨v, q, r⟩ := hm y a e
    exact ⟨v, q, r.later L⟩
/-- a new list, made by a rule that keeps all but the frame -/
theorem Pre.newList (p : Pre P d A ρ s S D E env) {l : List AV} {vs : List Value} {n : Nat} {L : Addr} (h : newL l s = some (.v a, s')) (st : Step P D E env ρ s S ρ s S') (g : S'.heap.get? L = some (listOf vs.toArray n)) (r : VRs P ρ s.nx S'.heap vs l)
    (ha : S.heap.get? L = none) (hb : P.H0.objs.size ≤ L) : PV P D E env ρ s S s' a (.ref L) S' := by
  obtain ⟨hl, ρ', L', e, q⟩ := newL_adopt (s₀ := s) (S₀ := S) h st.ext g r ha hb (p.fresh ha)
  exact ⟨ρ', ⟨e, Step.fr_later st.fr L' hl, st.same⟩, q⟩

/-! ## sorted -/
theorem insZ_perm (x : Int) : ∀ l, (insZ x l).Perm (x :: l)
  | [] => .refl _
  | y :: r => by
    unfold insZ
    cases leB x y with
    | true => exact .refl _
    | false => exact ((insZ_perm x r).cons y).trans (.swap x y r)
theorem sortZ_perm : ∀ l, (sortZ l).Perm l
  | [] => .refl _
  | x :: r => (insZ_perm x _).trans ((sortZ_perm r).cons x)
theorem insZ_pw (x : Int) : ∀ l : List Int, l.Pairwise (· ≤ ·) → (insZ x l).Pairwise (· ≤ ·)
  | [], _ => by simp [insZ]
  | y :: r, h => by
    unfold insZ
    rw [List.pairwise_cons] at h
    rw [leB_eq]
    by_cases c : x ≤ y
    · rw [decide_eq_true c]
      refine List.Pairwise.cons (fun z hz => ?_) (List.pairwise_cons.mpr h)
      cases hz with
      | head => exact c
      | tail _ m => exact Int.le_trans c (h.1 z m)
    · rw [decide_eq_false c]
      refine List.Pairwise.cons (fun z hz => ?_) (insZ_pw x r h.2)
      have := (insZ_perm x r).mem_iff.mp hz
      cases this with
      | head => omega
      | tail _ m => exact h.1 z m
theorem sortZ_pw : ∀ l : List Int, (sortZ l).Pairwise (· ≤ ·)
  | [] => .nil
  | x :: r => insZ_pw x _ (sortZ_pw r)
theorem sorted_one : ∀ {a b : List Int}, a.Perm b → a.Pairwise (· ≤ ·) → b.Pairwise (· ≤ ·) → a = b
  | [], b, p, _, _ => (List.Perm.nil_eq p)
  | x :: r, [], p, _, _ => by have := p.length_eq; simp at this
  | x :: r, y :: t, p, ha, hb => by
    rw [List.pairwise_cons] at ha hb
    have h1 : x ≤ y := by
      have := p.mem_iff.mpr (List.Mem.head t)
      cases this with
      | head => exact Int.le_refl _
      | tail _ m => exact ha.1 y m
    have h2 : y ≤ x := by
      have := p.mem_iff.mp (List.Mem.head r)
      cases this with
      | head => exact Int.le_refl _
      | tail _ m => exact hb.1 x m
    have : x = y := by omega
    subst this
    rw [sorted_one (List.Perm.cons_inv p) ha.2 hb.2]
theorem intsAre_vrs {nx : Nat} {h : Heap} : ∀ {vs : List Value} {ns : List Int}, IntsAre vs ns → VRs P ρ nx h vs (ns.map AV.int)
  | _, _, .nil => .nil
  | _, _, .cons i t r => .cons _ _ _ _ (.int _ _) (intsAre_vrs r)
theorem vrs_intsAre {nx : Nat} {h : Heap} : ∀ {ns : List Int} {vs : List Value}, VRs P ρ nx h vs (ns.map AV.int) → IntsAre vs ns
  | [], _, .nil => .nil
  | n :: ns, _, .cons v _ vs _ x r => by
    obtain ⟨t, rfl⟩ := vr_int x
    exact .cons n t (vrs_intsAre r)
theorem runT_wp {α : Type} {lt : Nat → Nat → Option Bool} {cmp : Nat → Nat → (Bool → Shared → Prop) → Shared → Prop} {T : Shared} (hc : ∀ i j b C, lt i j = some b → C b T → cmp i j C T) : ∀ {t : KasT α} {r : α} {Q : α → Shared → Prop}, runT lt t = some r → Q r T → t.kasWp cmp Q T
  | .ret a, r, Q, e, q => by cases e; exact q
  | .ask i j k, r, Q, e, q => by
    unfold runT at e
    cases z : lt i j with
    | none => rw [z] at e; cases e
    | some b =>
      rw [z] at e
      exact hc i j b _ z (runT_wp hc e q)
theorem atL_eq {α : Type} : ∀ (l : List α) (n : Nat), atL l n = l[n]?
  | [], _ => by simp [atL]
  | a :: r, 0 => rfl
  | a :: r, n + 1 => by
    show atL r n = _
    rw [atL_eq r n]; rfl
theorem pick_vrs {nx : Nat} {h : Heap} {l : List AV} {vs : List Value} (r : VRs P ρ nx h vs l) : ∀ {p : List Nat} {k : List AV}, pick l p = some k → VRs P ρ nx h (p.map fun i => vs.getD i Value.none) k
  | [], _, e => by cases e; exact .nil
  | i :: p, k, e => by
    unfold pick at e
    rw [atL_eq] at e
    cases q : l[i]? with
    | none => rw [q] at e; cases e
    | some a =>
      cases q2 : pick l p with
      | none => rw [q, q2] at e; cases e
      | some k' =>
        rw [q, q2] at e
        cases e
        obtain ⟨v, hv, rv⟩ := r.get q
        have : vs.getD i Value.none = v := by simp [List.getD, hv]
        rw [List.map_cons, this]
        exact .cons _ _ _ _ rv (pick_vrs r q2)
/-- two tuples of whole numbers, as a key -/
theorem keyLt_ok {x y : List (Int × Tok)} {b : Bool} {Q : Bool → Shared → Prop} : ∀ {us vs : List (Int × Tok)} {i : Nat}, (us.length < vs.length ↔ x.length < y.length) → Q (ltI us vs) S → KatLex prog w A b (decide ((x.map intV).toArray.size < (y.map intV).toArray.size)) Q ((us.map intV).zip (vs.map intV)) i S
  | [], [], _, e, q => by
    refine kat_nil ?_
    rw [show decide ((x.map intV).toArray.size < (y.map intV).toArray.size) = false by
      refine decide_eq_false ?_
      simp only [List.size_toArray, List.length_map, ← e, List.length_nil]; omega]
    exact q
  | [], v :: vs, _, e, q => by
    refine kat_nil ?_
    rw [show decide ((x.map intV).toArray.size < (y.map intV).toArray.size) = true by
      refine decide_eq_true ?_
      simp only [List.size_toArray, List.length_map, ← e, List.length_nil, List.length_cons]; omega]
    exact q
  | u :: us, [], _, e, q => by
    refine kat_nil ?_
    rw [show decide ((x.map intV).toArray.size < (y.map intV).toArray.size) = false by
      refine decide_eq_false ?_
      simp only [List.size_toArray, List.length_map, ← e, List.length_nil, List.length_cons]; omega]
    exact q
  | u :: us, v :: vs, i, e, q => by
    refine kat_cons (wpAny_eqBool_int ?_)
    unfold ltI at q
    by_cases c : u.1 = v.1
    · rw [if_pos c] at q
      rw [show (u.1 == v.1) = true by simp [c]]
      exact kat_yes (keyLt_ok (by simpa using e) q)
    · rw [if_neg c] at q
      rw [show (u.1 == v.1) = false by simpa using c]
      refine kat_no ?_
      cases hb : (b && i == 0) with
      | true => exact oneLt_int q
      | false => exact kat_one _ _ (PyProof.Rows.lt_int q)
theorem okT_some {a : AV} (h : okT a = true) : ∃ n ns, a = .tup ((n :: ns).map AV.int) := by
  cases a with
  | tup l =>
    unfold okT at h
    simp only at h
    split at h
    · rename_i n ns e
      exact ⟨n, ns, by rw [ints?_some e]⟩
    · (first | (obtain ⟨rfl, rfl⟩ := inv_v h) | (obtain ⟨rfl, rfl⟩ := inv_b h) | (obtain ⟨rfl, rfl⟩ := inv_vs h) | (obtain ⟨rfl, rfl⟩ := inv_fl h) | (obtain rfl := inv_u h) | (obtain ⟨rfl, rfl⟩ := inv_it h) | cases h)
  | _ => (first | (obtain ⟨rfl, rfl⟩ := inv_v h) | (obtain ⟨rfl, rfl⟩ := inv_b h) | (obtain ⟨rfl, rfl⟩ := inv_vs h) | (obtain ⟨rfl, rfl⟩ := inv_fl h) | (obtain rfl := inv_u h) | (obtain ⟨rfl, rfl⟩ := inv_it h) | cases h)
theorem okTs_mem : ∀ {l : List AV}, okTs l = true → ∀ a ∈ l, okT a = true
  | [], _, _, m => nomatch m
  | x :: r, o, a, m => by
    unfold okTs at o
    cases q : okT x with
    | false => rw [q] at o; cases o
    | true =>
      rw [q] at o
      cases m with
      | head => exact q
      | tail _ m => exact okTs_mem o a m
theorem ints?_map : ∀ ns : List Int, ints? (ns.map AV.int) = some ns
  | [] => rfl
  | n :: r => by
    show (match ints? (r.map AV.int) with | some l => some (n :: l) | none => none) = _
    rw [ints?_map r]
theorem vr_tup {nx : Nat} {h : Heap} {v : Value} {ns : List Int} (r : VR P ρ nx h v (.tup (ns.map AV.int))) : ∃ t n, ∃ us : List (Int × Tok), v = .ref t ∧ h.get? t = some (tupO (us.map intV) n) ∧ us.map Prod.fst = ns := by
  obtain ⟨t, vs, n, rfl, g, r2⟩ := r.tupI
  obtain ⟨us, rfl, e⟩ := vrs_ints r2
  exact ⟨t, n, us, rfl, g, e⟩
theorem katTups_of {nx : Nat} {h : Heap} : ∀ (l : List AV) {vs : List Value}, okTs l = true → VRs P ρ nx h vs l → ∃ fs : List (Int × Tok), KatTups h vs (fs.map intV) ∧ fs.length = vs.length := by
  intro l
  induction l with
  | nil => intro vs _ r; rw [r.nilI]; exact ⟨[], KatTups.nil, rfl⟩
  | cons x r ih =>
    intro vs o q
    obtain ⟨v, ws, rfl, rv, rr⟩ := q.consI
    have hx := okTs_mem o x (.head _)
    unfold okTs at o
    rw [hx] at o
    obtain ⟨fs, k, e⟩ := ih o rr
    obtain ⟨n, ns, rfl⟩ := okT_some hx
    obtain ⟨t, m, us, rfl, g, q⟩ := vr_tup rv
    cases us with
    | nil => cases q
    | cons u us =>
      exact ⟨u :: fs, KatTups.cons g rfl rfl (by simp) k, by simp [e]⟩

theorem sorted_ok {j : Nat} {l l' : List AV} (e : lookN s.σ j = some (.list l)) (hs : sortA l = some l') (h : newL l' s = some (.v a, s')) (p : Pre P d A ρ s S D E env) : wpAny (model prog w) A (call (.builtin "sorted") [.ref (ρ j)]) (PV P D E env ρ s S s' a) NoE S := by
  obtain ⟨vs, n, g, z, lb⟩ := p.sr.rel j _ e
  have len := z.length
  obtain ⟨m, hn, hm⟩ := p.fr.ns
  have F := allBut_fr hn
  have N := allBut_news S.heap D
  unfold sortA at hs
  cases sh : shortN 64 l with
  | false => rw [sh] at hs; cases hs
  | true =>
    rw [sh] at hs
    replace sh := shortN_len sh
    simp only at hs
    have fresh : ∀ {L : Addr}, (∀ q ∈ allBut S.heap D, q.1 < L) → L ≠ D → S.heap.get? L = none ∧ P.H0.objs.size ≤ L := by
      intro L hl hne
      constructor
      · cases q : S.heap.get? L with
        | none => rfl
        | some o => exact absurd (hl _ (mem_allBut q hne)) (Nat.lt_irrefl _)
      · obtain ⟨b, o, q1, q2⟩ := p.inv.last
        obtain ⟨o', q3⟩ := p.inv.old.there b o q1
        rw [q2]
        refine hl (b, o') (mem_allBut q3 ?_)
        rintro rfl
        exact absurd p.fr.up (Nat.not_le.mpr (by rw [q2]; exact Nat.lt_succ_self _))
    cases q : ints? l with
    | some ns =>
      rw [q] at hs
      cases hs
      have := ints?_some q
      subst this
      refine PyProof.Rows.sorted_N F N (isList_of g) (vrs_intsAre z) (by omega) fun h' vs' ns' c F' N' hI hp hw => ?_
      have st : Step P D E env ρ s S ρ s { S with heap := h' } := p.ledger hn hm F'.ns (allBut_kpt N' fun q hq => .tail _ hq) ⟨rfl, rfl, rfl⟩
      have : ns' = sortZ ns := sorted_one (hp.trans (sortZ_perm ns).symm) hw (sortZ_pw ns)
      subst this
      refine p.newList h st (N' _ (.head _)).1 (intsAre_vrs hI) (Heap.get?_none_of_le (Nat.le_succ _)) (Nat.le_succ_of_le p.inv.big)
    | none =>
      rw [q] at hs
      simp only at hs
      split at hs
      · rename_i x1 x2 x3
        cases o : okTs (x1 :: x2 :: x3) with
        | false => rw [o] at hs; cases hs
        | true =>
          rw [o] at hs
          simp only at hs
          unfold sortT at hs
          split at hs
          · rename_i pm ep
            have len2 : 2 ≤ vs.length := by rw [len]; simp
            refine kat_sorted F N (isList_of g) len2 (by omega) fun L c h' F' N' hlt => ?_
            have st : Step P D E env ρ s S ρ s { S with heap := h' } := p.ledger hn hm F'.ns (allBut_kpt N' fun q hq => .tail _ hq) ⟨rfl, rfl, rfl⟩
            have z' : VRs P ρ s.nx h' vs (x1 :: x2 :: x3) := z.later (st.later p)
            obtain ⟨fs, kt, fl⟩ := katTups_of _ o z'
            refine kat_kind (s := { S with heap := h' }) (T := .type "int") kt (by simp; omega) (fun v hv => ?_) (by decide) ?_
            · rw [List.mem_map] at hv
              obtain ⟨f, _, rfl⟩ := hv
              exact Looks.of_pure rfl
            · have lenl : vs.length = (x1 :: x2 :: x3).length := len
              rw [← lenl] at ep
              refine runT_wp (lt := _) (T := { S with heap := h' }) ?_ ep ?_
              · intro i j b C hlt' hC
                rw [atL_eq, atL_eq] at hlt'
                split at hlt'
                · rename_i a1 a2 g1 g2
                  obtain ⟨v1, hv1, r1⟩ := z'.get g1
                  obtain ⟨v2, hv2, r2⟩ := z'.get g2
                  obtain ⟨n1, ns1, rfl⟩ := okT_some (okTs_mem o _ (List.mem_of_getElem? g1))
                  obtain ⟨n2, ns2, rfl⟩ := okT_some (okTs_mem o _ (List.mem_of_getElem? g2))
                  obtain ⟨t1, k1, us1, rfl, o1, e1⟩ := vr_tup r1
                  obtain ⟨t2, k2, us2, rfl, o2, e2⟩ := vr_tup r2
                  unfold kas_ask
                  rw [show vs.getD i Value.none = .ref t1 by simp [List.getD, hv1], show vs.getD j Value.none = .ref t2 by simp [List.getD, hv2]]
                  refine kat_lt o1 rfl o2 rfl ?_
                  refine keyLt_ok (us := us1) (vs := us2) Iff.rfl ?_
                  rw [← intsLt_eq, e1, e2]
                  unfold ltF at hlt'
                  simp only [ints?_map] at hlt'
                  cases hlt'
                  exact hC
                · cases hlt'
              · refine KasFin.intro F' N' (.head fun q hq => Nat.ne_of_lt (hlt q hq)) fun h'' c' F'' N'' => ?_
                have st' : Step P D E env ρ s S ρ s { S with heap := h'' } := p.ledger hn hm F''.ns (allBut_kpt N'' fun q hq => .tail _ hq) ⟨rfl, rfl, rfl⟩
                obtain ⟨f1, f2⟩ := fresh hlt (N' _ (.head _)).2.1
                exact p.newList h st' (N'' _ (.head _)).1 (pick_vrs (z.later (st'.later p)) hs) f1 f2
          · cases hs
      · cases hs
end
end Mine
set_option maxRecDepth 100000
namespace Mine
open PySem PySem.Calls PyProof.Rows PySem.W PySem.W.Z

section
variable {prog : Program} {w : World} {A : Around} {P : Par} {Φ : Phi} {xs : List (Int × Tok)} {ρ : Nat → Addr} {s s' : St} {S S' : Shared} {a : AV} {D : Addr} {E : AEnv} {env : Env} {d : Nat}

theorem intItems_toArray (us : List (Int × Tok)) : intItems us.toArray = (us.map intV).toArray := by
  unfold intItems; simp
theorem numAt_eq (us : List (Int × Tok)) (i : Nat) : numAt us.toArray i = ((us.map Prod.fst)[i]?).getD 0 := by
  unfold numAt
  simp only [List.getElem?_toArray, List.getElem?_map]
/-- a sum over a list of whole numbers -/
theorem sumList_raw {us : List (Int × Tok)} {l : Addr} {Q : Value → Shared → Prop} (hh : A.handled = none) (hl : S.heap.IsList l (us.map intV).toArray)
    (h : ∀ h' tk t', (∀ b o, S.heap.get? b = some o → h'.get? b = some o) → Q (.int (preSum (numAt us.toArray) us.length) t') { S with heap := h', toks := tk }) :
    wpAny (model prog w) A (call (.builtin "sum") [.ref l]) Q NoE S := by
  obtain ⟨o, ho, hc, n, hd⟩ := id hl
  have hne : l ≠ S.heap.objs.size := Nat.ne_of_lt (Heap.lt_size ho)
  have W := (Walks.list (prog := prog) (w := w) (A := A.in1) hh S.heap.objs.size l hne (us.map intV).toArray).toS
  rw [show (us.map intV).toArray.size = us.length by simp] at W
  refine call_sum_walkAnyS (wpAny_pyIter_list hl ?_)
  refine ⟨S.heap.objs.size, _, _, _, _, _, _, numAt us.toArray, rfl, W, ⟨⟨_, Heap.get?_push_size _ rfl, rfl, rfl⟩, hl.push _⟩, fun b hb => ?_, fun i v hP => intItems_at (by rw [intItems_toArray]; exact hP), fun s' t' hm => ?_⟩
  · rcases List.mem_cons.mp hb with rfl | hb
    · exact Heap.lt_size (Heap.get?_push_size _ rfl)
    · obtain rfl := List.mem_singleton.mp hb
      exact Heap.lt_size (Heap.get?_push_of_some _ ho)
  · obtain ⟨h', g', d', tk', os'⟩ := s'
    have e1 : g' = S.gens := hm.gens
    have e2 : d' = S.drawn := hm.drawn
    have e3 : os' = S.os := hm.os
    subst e1 e2 e3
    exact h h' tk' t' fun b o e => hm.heap b o (fun hb => absurd (Heap.lt_size e) ((List.mem_singleton.mp hb) ▸ Nat.lt_irrefl _)) (Heap.get?_push_of_some _ e)
/-- the greatest of a tuple of whole numbers -/
theorem maxTup_raw {us : List (Int × Tok)} {l : Addr} {Q : Value → Shared → Prop} (hh : A.handled = none) (hl : S.heap.IsTuple l (us.map intV).toArray) (hne : 0 < us.length)
    (h : ∀ v h' tk, (us.map intV)[argBest (fun i j => decide (numAt us.toArray i > numAt us.toArray j)) (us.length - 1)]? = some v → (∀ b o, S.heap.get? b = some o → h'.get? b = some o) → Q v { S with heap := h', toks := tk }) :
    wpAny (model prog w) A (call (.builtin "max") [.ref l]) Q NoE S := by
  obtain ⟨o, ho, hc, n, hd⟩ := id hl
  have hn : l ≠ S.heap.objs.size := Nat.ne_of_lt (Heap.lt_size ho)
  have W := Walks.tuple (prog := prog) (w := w) (A := A.in1) hh S.heap.objs.size l hn (us.map intV).toArray
  rw [show (us.map intV).toArray.size = us.length by simp] at W
  refine call_max_walk (wpAny_pyIter_tuple hl ?_)
  refine ⟨S.heap.objs.size, _, _, _, _, _, _, rfl, W, ⟨⟨_, Heap.get?_push_size _ rfl, rfl, rfl⟩, hl.push _⟩, fun b hb => ?_, hne, CmpOf.ints_gt (numAt us.toArray) (fun i v hP => intItems_at (by rw [intItems_toArray]; exact hP)), fun v h' tk hP hk => ?_⟩
  · rcases List.mem_cons.mp hb with rfl | hb
    · exact Heap.lt_size (Heap.get?_push_size _ rfl)
    · obtain rfl := List.mem_singleton.mp hb
      exact Heap.lt_size (Heap.get?_push_of_some _ ho)
  · exact h v h' tk (by simpa using hP) fun b o e => hk b o (fun hb => absurd (Heap.lt_size e) ((List.mem_singleton.mp hb) ▸ Nat.lt_irrefl _)) (Heap.get?_push_of_some _ e)
theorem foldl_sum : ∀ (l : List Int) (a : Int), l.foldl (· + ·) a = a + l.sum
  | [], a => by simp
  | x :: r, a => by rw [List.foldl_cons, foldl_sum r, List.sum_cons]; omega
theorem preSum_all (us : List (Int × Tok)) : preSum (numAt us.toArray) us.length = (us.map Prod.fst).foldl (· + ·) 0 := by
  rw [preSum_eq, foldl_sum, Int.zero_add]
  simp only [List.toList_toArray]
  rw [List.take_of_length_le (by simp)]
theorem maxF_snoc : ∀ (r : List Int) (a y : Int), maxF (r ++ [y]) a = if maxF r a < y then y else maxF r a
  | [], a, y => by
    show (match ltB a y with | true => maxF [] y | false => maxF [] a) = _
    rw [ltB_eq]
    by_cases c : a < y
    · rw [decide_eq_true c]; show y = if a < y then y else a; rw [if_pos c]
    · rw [decide_eq_false c]; show a = if a < y then y else a; rw [if_neg c]
  | x :: r, a, y => by
    show (match ltB a x with | true => maxF (r ++ [y]) x | false => maxF (r ++ [y]) a) = if (match ltB a x with | true => maxF r x | false => maxF r a) < y then y else (match ltB a x with | true => maxF r x | false => maxF r a)
    cases ltB a x with
    | true => exact maxF_snoc r x y
    | false => exact maxF_snoc r a y
theorem best_max (u : Int × Tok) (us : List (Int × Tok)) : ∀ k, k ≤ us.length → argBest (fun i j => decide (numAt (u :: us).toArray i > numAt (u :: us).toArray j)) k ≤ k ∧
    numAt (u :: us).toArray (argBest (fun i j => decide (numAt (u :: us).toArray i > numAt (u :: us).toArray j)) k) = maxF ((us.map Prod.fst).take k) u.1
  | 0, _ => ⟨Nat.le_refl _, by rw [numAt_eq]; simp [argBest, maxF]⟩
  | k + 1, h => by
    obtain ⟨a, b⟩ := best_max u us k (by omega)
    have hk : k < us.length := by omega
    have e : numAt (u :: us).toArray (k + 1) = us[k].1 := by
      rw [numAt_eq]
      simp [hk]
    have ht : (us.map Prod.fst).take (k + 1) = (us.map Prod.fst).take k ++ [us[k].1] := by
      rw [List.take_succ]
      simp [hk]
    rw [argBest, ht, maxF_snoc]
    rw [← b]
    by_cases c : numAt (u :: us).toArray (k + 1) > numAt (u :: us).toArray (argBest (fun i j => decide (numAt (u :: us).toArray i > numAt (u :: us).toArray j)) k)
    · simp only [c, decide_true, if_true]
      refine ⟨Nat.le_refl _, ?_⟩
      rw [if_pos (by rw [← e]; exact c), e]
    · simp only [c, decide_false, Bool.false_eq_true, if_false]
      refine ⟨by omega, ?_⟩
      rw [if_neg (by rw [← e]; exact c)]
theorem minF_two (a b : Int) : minF [b] a = if b < a then b else a := by
  show (match ltB b a with | true => b | false => a) = _
  rw [ltB_eq]
  by_cases c : b < a
  · rw [decide_eq_true c, if_pos c]
  · rw [decide_eq_false c, if_neg c]

theorem lenA_ok {l : List AV} {vs : List Value} (hP : PhiOk P Φ xs) (h : lenA Φ l s = some (.v a, s')) (p : Pre P d A ρ s S D E env) (y : VRs P ρ s.nx S.heap vs l) : wpAny (model prog w) A (call (bval .len) vs) (PV P D E env ρ s S s' a) NoE S := by
  have hA := p.cx.handled
  unfold lenA at h
  split at h
  · rename_i j
    obtain ⟨v, rfl, r⟩ := y.oneI
    obtain ⟨hj, rfl⟩ := r.locI
    split at h
    · rename_i l e
      rw [lenK_eq] at h
      (first | (obtain ⟨rfl, rfl⟩ := inv_v h) | (obtain ⟨rfl, rfl⟩ := inv_b h) | (obtain ⟨rfl, rfl⟩ := inv_vs h) | (obtain ⟨rfl, rfl⟩ := inv_fl h) | (obtain rfl := inv_u h) | (obtain ⟨rfl, rfl⟩ := inv_it h) | cases h)
      obtain ⟨us, n, g, z, lb⟩ := p.sr.rel j _ e
      have len := z.length
      refine call_len_list (isList_of g) (by simp; omega) ?_
      refine ⟨ρ, p.tok (S' := { S with toks := S.toks + 1 + 1 }) ⟨rfl, rfl, rfl, rfl⟩, ?_⟩
      rw [show ((us.toArray.size : Nat) : Int) = Int.ofNat (0 + l.length) by simp; omega]
      exact .int _ _
    · (first | (obtain ⟨rfl, rfl⟩ := inv_v h) | (obtain ⟨rfl, rfl⟩ := inv_b h) | (obtain ⟨rfl, rfl⟩ := inv_vs h) | (obtain ⟨rfl, rfl⟩ := inv_fl h) | (obtain rfl := inv_u h) | (obtain ⟨rfl, rfl⟩ := inv_it h) | cases h)
  · obtain ⟨v, rfl, r⟩ := y.oneI
    obtain rfl := r.scriptI
    unfold valY at h
    split at h
    · rename_i v e
      (first | (obtain ⟨rfl, rfl⟩ := inv_v h) | (obtain ⟨rfl, rfl⟩ := inv_b h) | (obtain ⟨rfl, rfl⟩ := inv_vs h) | (obtain ⟨rfl, rfl⟩ := inv_fl h) | (obtain rfl := inv_u h) | (obtain ⟨rfl, rfl⟩ := inv_it h) | cases h)
      obtain ⟨L, hL, hlen, hs⟩ := hP.script (.inr (.inl (by rw [e]; simp)))
      obtain ⟨n, g⟩ := hs _ p.inv
      rw [hL]
      refine call_len_list (isList_of g) (by simp; omega) ?_
      refine ⟨ρ, p.tok (S' := { S with toks := S.toks + 1 + 1 }) ⟨rfl, rfl, rfl, rfl⟩, ?_⟩
      have := hP.len _ e
      simp only [List.size_toArray, List.length_map]
      exact this.vr _
    · (first | (obtain ⟨rfl, rfl⟩ := inv_v h) | (obtain ⟨rfl, rfl⟩ := inv_b h) | (obtain ⟨rfl, rfl⟩ := inv_vs h) | (obtain ⟨rfl, rfl⟩ := inv_fl h) | (obtain rfl := inv_u h) | (obtain ⟨rfl, rfl⟩ := inv_it h) | cases h)
  · (first | (obtain ⟨rfl, rfl⟩ := inv_v h) | (obtain ⟨rfl, rfl⟩ := inv_b h) | (obtain ⟨rfl, rfl⟩ := inv_vs h) | (obtain ⟨rfl, rfl⟩ := inv_fl h) | (obtain rfl := inv_u h) | (obtain ⟨rfl, rfl⟩ := inv_it h) | cases h)
theorem sumA_ok {l : List AV} {vs : List Value} (hP : PhiOk P Φ xs) (h : sumA Φ l s = some (.v a, s')) (p : Pre P d A ρ s S D E env) (y : VRs P ρ s.nx S.heap vs l) : wpAny (model prog w) A (call (bval .sum) vs) (PV P D E env ρ s S s' a) NoE S := by
  have hA := p.cx.handled
  unfold sumA at h
  split at h
  · rename_i j
    obtain ⟨v, rfl, r⟩ := y.oneI
    obtain ⟨hj, rfl⟩ := r.locI
    split at h
    · rename_i l e
      cases q : ints? l with
      | none => rw [q] at h; cases h
      | some ns =>
        rw [q] at h
        simp only at h
        rw [sumF_eq] at h
        (first | (obtain ⟨rfl, rfl⟩ := inv_v h) | (obtain ⟨rfl, rfl⟩ := inv_b h) | (obtain ⟨rfl, rfl⟩ := inv_vs h) | (obtain ⟨rfl, rfl⟩ := inv_fl h) | (obtain rfl := inv_u h) | (obtain ⟨rfl, rfl⟩ := inv_it h) | cases h)
        obtain ⟨us, n, g, z, lb⟩ := p.sr.rel j _ e
        rw [ints?_some q] at z
        obtain ⟨ps, rfl, q2⟩ := vrs_ints z
        refine sumList_raw hA (isList_of g) fun h' tk t' hk => ?_
        rw [preSum_all, q2]
        exact ⟨ρ, p.more hk ⟨rfl, rfl, rfl⟩, .int _ _⟩
    · (first | (obtain ⟨rfl, rfl⟩ := inv_v h) | (obtain ⟨rfl, rfl⟩ := inv_b h) | (obtain ⟨rfl, rfl⟩ := inv_vs h) | (obtain ⟨rfl, rfl⟩ := inv_fl h) | (obtain rfl := inv_u h) | (obtain ⟨rfl, rfl⟩ := inv_it h) | cases h)
  · (first | (obtain ⟨rfl, rfl⟩ := inv_v h) | (obtain ⟨rfl, rfl⟩ := inv_b h) | (obtain ⟨rfl, rfl⟩ := inv_vs h) | (obtain ⟨rfl, rfl⟩ := inv_fl h) | (obtain rfl := inv_u h) | (obtain ⟨rfl, rfl⟩ := inv_it h) | cases h)
theorem maxA_ok {l : List AV} {vs : List Value} (h : maxA l s = some (.v a, s')) (p : Pre P d A ρ s S D E env) (y : VRs P ρ s.nx S.heap vs l) : wpAny (model prog w) A (call (bval .max) vs) (PV P D E env ρ s S s' a) NoE S := by
  have hA := p.cx.handled
  unfold maxA at h
  split at h
  · rename_i l
    obtain ⟨v, rfl, r⟩ := y.oneI
    obtain ⟨t, us, n, rfl, g, z⟩ := r.tupI
    split at h
    · rename_i x r q
      (first | (obtain ⟨rfl, rfl⟩ := inv_v h) | (obtain ⟨rfl, rfl⟩ := inv_b h) | (obtain ⟨rfl, rfl⟩ := inv_vs h) | (obtain ⟨rfl, rfl⟩ := inv_fl h) | (obtain rfl := inv_u h) | (obtain ⟨rfl, rfl⟩ := inv_it h) | cases h)
      rw [ints?_some q] at z
      obtain ⟨ps, rfl, q2⟩ := vrs_ints z
      cases ps with
      | nil => cases q2
      | cons u ps =>
        simp only [List.map_cons, List.cons.injEq] at q2
        obtain ⟨q3, q4⟩ := q2
        refine maxTup_raw hA (isTuple_of g) (by simp) fun v h' tk hv hk => ?_
        obtain ⟨b1, b2⟩ := best_max u ps ps.length (Nat.le_refl _)
        have e2 : (u :: ps).length - 1 = ps.length := by simp
        rw [e2] at hv
        have hv' := intItems_at (xs := (u :: ps).toArray) (by rw [intItems_toArray]; simpa using hv)
        obtain ⟨t', rfl⟩ := hv'
        rw [b2, List.take_of_length_le (by simp), q3, q4]
        exact ⟨ρ, p.more hk ⟨rfl, rfl, rfl⟩, .int _ _⟩
    · (first | (obtain ⟨rfl, rfl⟩ := inv_v h) | (obtain ⟨rfl, rfl⟩ := inv_b h) | (obtain ⟨rfl, rfl⟩ := inv_vs h) | (obtain ⟨rfl, rfl⟩ := inv_fl h) | (obtain rfl := inv_u h) | (obtain ⟨rfl, rfl⟩ := inv_it h) | cases h)
  · (first | (obtain ⟨rfl, rfl⟩ := inv_v h) | (obtain ⟨rfl, rfl⟩ := inv_b h) | (obtain ⟨rfl, rfl⟩ := inv_vs h) | (obtain ⟨rfl, rfl⟩ := inv_fl h) | (obtain rfl := inv_u h) | (obtain ⟨rfl, rfl⟩ := inv_it h) | cases h)
theorem minA_ok {l : List AV} {vs : List Value} (hP : PhiOk P Φ xs) (h : minA Φ l s = some (.v a, s')) (p : Pre P d A ρ s S D E env) (y : VRs P ρ s.nx S.heap vs l) : wpAny (model prog w) A (call (bval .min) vs) (PV P D E env ρ s S s' a) NoE S := by
  have hA := p.cx.handled
  unfold minA at h
  split at h
  · rename_i i k
    obtain ⟨v, u, rfl, r, r2⟩ := y.twoI
    obtain ⟨t, rfl⟩ := r.intI
    obtain ⟨t, rfl⟩ := r2.intI
    (first | (obtain ⟨rfl, rfl⟩ := inv_v h) | (obtain ⟨rfl, rfl⟩ := inv_b h) | (obtain ⟨rfl, rfl⟩ := inv_vs h) | (obtain ⟨rfl, rfl⟩ := inv_fl h) | (obtain rfl := inv_u h) | (obtain ⟨rfl, rfl⟩ := inv_it h) | cases h)
    refine min_two_ints hA fun h' tk hk => ?_
    refine ⟨ρ, p.more hk ⟨rfl, rfl, rfl⟩, ?_⟩
    rw [minF_two]
    split <;> exact .int _ _
  · rename_i i k
    obtain ⟨v, u, rfl, r, r2⟩ := y.twoI
    obtain ⟨t, rfl⟩ := r.intI
    obtain ⟨t, rfl⟩ := r2.symI
    split at h
    · rename_i v e
      (first | (obtain ⟨rfl, rfl⟩ := inv_v h) | (obtain ⟨rfl, rfl⟩ := inv_b h) | (obtain ⟨rfl, rfl⟩ := inv_vs h) | (obtain ⟨rfl, rfl⟩ := inv_fl h) | (obtain rfl := inv_u h) | (obtain ⟨rfl, rfl⟩ := inv_it h) | cases h)
      have := hP.min _ _ _ e
      refine min_two_ints hA fun h' tk hk => ?_
      refine ⟨ρ, p.more hk ⟨rfl, rfl, rfl⟩, ?_⟩
      split
      · rename_i c; rw [if_pos c] at this; exact this.vr _
      · rename_i c; rw [if_neg c] at this; exact this.vr _
    · (first | (obtain ⟨rfl, rfl⟩ := inv_v h) | (obtain ⟨rfl, rfl⟩ := inv_b h) | (obtain ⟨rfl, rfl⟩ := inv_vs h) | (obtain ⟨rfl, rfl⟩ := inv_fl h) | (obtain rfl := inv_u h) | (obtain ⟨rfl, rfl⟩ := inv_it h) | cases h)
  · (first | (obtain ⟨rfl, rfl⟩ := inv_v h) | (obtain ⟨rfl, rfl⟩ := inv_b h) | (obtain ⟨rfl, rfl⟩ := inv_vs h) | (obtain ⟨rfl, rfl⟩ := inv_fl h) | (obtain rfl := inv_u h) | (obtain ⟨rfl, rfl⟩ := inv_it h) | cases h)
theorem sortedA_ok {l : List AV} {vs : List Value} (h : sortedA l s = some (.v a, s')) (p : Pre P d A ρ s S D E env) (y : VRs P ρ s.nx S.heap vs l) : wpAny (model prog w) A (call (bval .sorted) vs) (PV P D E env ρ s S s' a) NoE S := by
  have hA := p.cx.handled
  unfold sortedA at h
  split at h
  · rename_i j
    obtain ⟨v, rfl, r⟩ := y.oneI
    obtain ⟨hj, rfl⟩ := r.locI
    split at h
    · rename_i l e
      cases q : sortA l with
      | none => rw [q] at h; cases h
      | some l' =>
        rw [q] at h
        exact sorted_ok e q h p
    · (first | (obtain ⟨rfl, rfl⟩ := inv_v h) | (obtain ⟨rfl, rfl⟩ := inv_b h) | (obtain ⟨rfl, rfl⟩ := inv_vs h) | (obtain ⟨rfl, rfl⟩ := inv_fl h) | (obtain rfl := inv_u h) | (obtain ⟨rfl, rfl⟩ := inv_it h) | cases h)
  · (first | (obtain ⟨rfl, rfl⟩ := inv_v h) | (obtain ⟨rfl, rfl⟩ := inv_b h) | (obtain ⟨rfl, rfl⟩ := inv_vs h) | (obtain ⟨rfl, rfl⟩ := inv_fl h) | (obtain rfl := inv_u h) | (obtain ⟨rfl, rfl⟩ := inv_it h) | cases h)
theorem tupleA_ok {l : List AV} {vs : List Value} (h : tupleA l s = some (.v a, s')) (p : Pre P d A ρ s S D E env) (y : VRs P ρ s.nx S.heap vs l) : wpAny (model prog w) A (call (bval .tuple) vs) (PV P D E env ρ s S s' a) NoE S := by
  have hA := p.cx.handled
  unfold tupleA at h
  split at h
  · rename_i j
    obtain ⟨v, rfl, r⟩ := y.oneI
    obtain ⟨hj, rfl⟩ := r.locI
    split at h
    · rename_i l e
      (first | (obtain ⟨rfl, rfl⟩ := inv_v h) | (obtain ⟨rfl, rfl⟩ := inv_b h) | (obtain ⟨rfl, rfl⟩ := inv_vs h) | (obtain ⟨rfl, rfl⟩ := inv_fl h) | (obtain rfl := inv_u h) | (obtain ⟨rfl, rfl⟩ := inv_it h) | cases h)
      obtain ⟨us, n, g, z, lb⟩ := p.sr.rel j _ e
      have len := z.length
      refine call_tuple_list (isList_of g) (fun h' hk => ?_) (by rw [List.size_toArray, sizeLine_eq]; omega)
      have st : Step P D E env ρ s S ρ s { S with heap := h'.push { cls := .type "tuple", data := .seq us.toArray } } := p.more (fun b o q => push_keep _ _ (hk b o q)) ⟨rfl, rfl, rfl⟩
      exact ⟨ρ, st, .tup _ us 0 l (Heap.get?_push_size _ rfl) (z.later (st.later p))⟩
    · (first | (obtain ⟨rfl, rfl⟩ := inv_v h) | (obtain ⟨rfl, rfl⟩ := inv_b h) | (obtain ⟨rfl, rfl⟩ := inv_vs h) | (obtain ⟨rfl, rfl⟩ := inv_fl h) | (obtain rfl := inv_u h) | (obtain ⟨rfl, rfl⟩ := inv_it h) | cases h)
  · (first | (obtain ⟨rfl, rfl⟩ := inv_v h) | (obtain ⟨rfl, rfl⟩ := inv_b h) | (obtain ⟨rfl, rfl⟩ := inv_vs h) | (obtain ⟨rfl, rfl⟩ := inv_fl h) | (obtain rfl := inv_u h) | (obtain ⟨rfl, rfl⟩ := inv_it h) | cases h)
theorem divmodA_ok {l : List AV} {vs : List Value} (h : divmodA l s = some (.v a, s')) (p : Pre P d A ρ s S D E env) (y : VRs P ρ s.nx S.heap vs l) : wpAny (model prog w) A (call (bval .divmod) vs) (PV P D E env ρ s S s' a) NoE S := by
  have hA := p.cx.handled
  unfold divmodA at h
  split at h
  · rename_i i k
    obtain ⟨v, u, rfl, r, r2⟩ := y.twoI
    obtain ⟨t, rfl⟩ := r.intI
    obtain ⟨t, rfl⟩ := r2.intI
    split at h
    · (first | (obtain ⟨rfl, rfl⟩ := inv_v h) | (obtain ⟨rfl, rfl⟩ := inv_b h) | (obtain ⟨rfl, rfl⟩ := inv_vs h) | (obtain ⟨rfl, rfl⟩ := inv_fl h) | (obtain rfl := inv_u h) | (obtain ⟨rfl, rfl⟩ := inv_it h) | cases h)
    · (first | (obtain ⟨rfl, rfl⟩ := inv_v h) | (obtain ⟨rfl, rfl⟩ := inv_b h) | (obtain ⟨rfl, rfl⟩ := inv_vs h) | (obtain ⟨rfl, rfl⟩ := inv_fl h) | (obtain rfl := inv_u h) | (obtain ⟨rfl, rfl⟩ := inv_it h) | cases h)
    · rename_i e1 e2
      rw [nInt_eq, nInt_eq] at h
      (first | (obtain ⟨rfl, rfl⟩ := inv_v h) | (obtain ⟨rfl, rfl⟩ := inv_b h) | (obtain ⟨rfl, rfl⟩ := inv_vs h) | (obtain ⟨rfl, rfl⟩ := inv_fl h) | (obtain rfl := inv_u h) | (obtain ⟨rfl, rfl⟩ := inv_it h) | cases h)
      have hk : k ≠ 0 := by rintro rfl; rw [eqB_eq] at e1; simp at e1
      refine divmod_int hk ?_ (.inl (PyProof.noPylong_small (smallD_abs e2)))
      have st : Step P D E env ρ s S ρ s { S with toks := S.toks + 1 + 1, heap := S.heap.push { cls := .type "tuple", data := .seq #[.int (i.fdiv k) S.toks, .int (i.fmod k) (S.toks + 1)] } } := p.more push_keep ⟨rfl, rfl, rfl⟩
      exact ⟨ρ, st, .tup _ [.int (i.fdiv k) S.toks, .int (i.fmod k) (S.toks + 1)] 0 _ (Heap.get?_push_size _ rfl) (.cons _ _ _ _ (.int _ _) (.cons _ _ _ _ (.int _ _) .nil))⟩
  · (first | (obtain ⟨rfl, rfl⟩ := inv_v h) | (obtain ⟨rfl, rfl⟩ := inv_b h) | (obtain ⟨rfl, rfl⟩ := inv_vs h) | (obtain ⟨rfl, rfl⟩ := inv_fl h) | (obtain rfl := inv_u h) | (obtain ⟨rfl, rfl⟩ := inv_it h) | cases h)
theorem callB_ok {b : BI} {l : List AV} {vs : List Value} (hP : PhiOk P Φ xs) (h : callB Φ b l s = some (.v a, s')) (p : Pre P d A ρ s S D E env) (y : VRs P ρ s.nx S.heap vs l) : wpAny (model prog w) A (call (bval b) vs) (PV P D E env ρ s S s' a) NoE S := by
  cases b with
  | len => exact lenA_ok hP h p y
  | sum => exact sumA_ok hP h p y
  | max => exact maxA_ok h p y
  | min => exact minA_ok hP h p y
  | sorted => exact sortedA_ok h p y
  | tuple => exact tupleA_ok h p y
  | abs => cases h
  | divmod => exact divmodA_ok h p y
end
end Mine
set_option maxRecDepth 100000
namespace Mine
open PySem PySem.Calls PyProof.Rows PySem.W PySem.W.Z

section
variable {prog : Program} {w : World} {A : Around} {P : Par} {Φ : Phi} {xs : List (Int × Tok)} {ρ : Nat → Addr} {s s' : St} {S S' : Shared} {a : AV} {D : Addr} {E : AEnv} {env : Env} {d : Nat}
theorem smallD_bounds {i : Int} (h : smallD i = true) : 0 ≤ i ∧ i ≤ 1000000000 := by
  cases i with
  | ofNat n => have : n ≤ 1000000000 := Nat.le_of_ble_eq_true h; simp only [Int.ofNat_eq_natCast]; omega
  | negSucc n => (first | (obtain ⟨rfl, rfl⟩ := inv_v h) | (obtain ⟨rfl, rfl⟩ := inv_b h) | (obtain ⟨rfl, rfl⟩ := inv_vs h) | (obtain ⟨rfl, rfl⟩ := inv_fl h) | (obtain rfl := inv_u h) | (obtain ⟨rfl, rfl⟩ := inv_it h) | cases h)
theorem rangeA_ok {l : List AV} {vs : List Value} {it : AIt} (h : rangeA l s = some (.it it, s')) (p : Pre P d A ρ s S D E env) (y : VRs P ρ s.nx S.heap vs l) :
    wpAny (model prog w) A (call (.type "range") vs) (fun x S₁ => wpAny (model prog w) A (pyIter x) (PI P D E env ρ s S s' it) NoE S₁) NoE S := by
  have key : ∀ {lo hi : Int} {t u v : Tok} {tk : Nat}, smallD lo = true → smallD hi = true → wpAny (model prog w) A (pyIter (.ref S.heap.objs.size)) (PI P D E env ρ s S s (.rng lo hi)) NoE
      { S with heap := S.heap.push { cls := .type "range", data := .fields #[.int lo t, .int hi u, .int 1 v] }, toks := tk } := by
    intro lo hi t u v tk h1 h2
    have b1 := smallD_bounds h1
    have b2 := smallD_bounds h2
    refine wpAny_pyIter_range (IsRange.new _ _ _ _ _ _ _) (small_one (by omega) (by omega) (by omega) (by omega)) ?_
    have st : Step P D E env ρ s S ρ s { S with heap := (S.heap.push { cls := .type "range", data := .fields #[.int lo t, .int hi u, .int 1 v] }).push { cls := .type "range_iterator", data := .fields #[rawInt lo, rawInt (Builtin.Range.rangeSize lo hi 1), rawInt 1] }, toks := tk } :=
      p.more (fun b o q => push_keep _ _ (push_keep _ _ q)) ⟨rfl, rfl, rfl⟩
    refine ⟨_, rfl, ρ, st, ?_, Heap.get?_none_of_le ?_, ?_⟩
    · show IsRangeIter _ _ _ (if lo < hi then hi - lo else 0) _
      rw [← rangeSize_one]
      exact Heap.get?_push_size _ rfl
    · show S.heap.objs.size ≤ (S.heap.push _).objs.size
      rw [Heap.size_push]; exact Nat.le_succ _
    · show P.H0.objs.size ≤ (S.heap.push _).objs.size
      rw [Heap.size_push]; exact Nat.le_succ_of_le p.inv.big
  unfold rangeA at h
  split at h
  · rename_i hi
    obtain ⟨v, rfl, r⟩ := y.oneI
    obtain ⟨t, rfl⟩ := r.intI
    split at h
    · rename_i e
      (first | (obtain ⟨rfl, rfl⟩ := inv_v h) | (obtain ⟨rfl, rfl⟩ := inv_b h) | (obtain ⟨rfl, rfl⟩ := inv_vs h) | (obtain ⟨rfl, rfl⟩ := inv_fl h) | (obtain rfl := inv_u h) | (obtain ⟨rfl, rfl⟩ := inv_it h) | cases h)
      exact call_range_1 (key rfl e)
    · (first | (obtain ⟨rfl, rfl⟩ := inv_v h) | (obtain ⟨rfl, rfl⟩ := inv_b h) | (obtain ⟨rfl, rfl⟩ := inv_vs h) | (obtain ⟨rfl, rfl⟩ := inv_fl h) | (obtain rfl := inv_u h) | (obtain ⟨rfl, rfl⟩ := inv_it h) | cases h)
  · rename_i lo hi
    obtain ⟨v, u, rfl, r, r2⟩ := y.twoI
    obtain ⟨t, rfl⟩ := r.intI
    obtain ⟨t, rfl⟩ := r2.intI
    split at h
    · rename_i e1 e2
      (first | (obtain ⟨rfl, rfl⟩ := inv_v h) | (obtain ⟨rfl, rfl⟩ := inv_b h) | (obtain ⟨rfl, rfl⟩ := inv_vs h) | (obtain ⟨rfl, rfl⟩ := inv_fl h) | (obtain rfl := inv_u h) | (obtain ⟨rfl, rfl⟩ := inv_it h) | cases h)
      exact call_range_2 (key e1 e2)
    · (first | (obtain ⟨rfl, rfl⟩ := inv_v h) | (obtain ⟨rfl, rfl⟩ := inv_b h) | (obtain ⟨rfl, rfl⟩ := inv_vs h) | (obtain ⟨rfl, rfl⟩ := inv_fl h) | (obtain rfl := inv_u h) | (obtain ⟨rfl, rfl⟩ := inv_it h) | cases h)
  · (first | (obtain ⟨rfl, rfl⟩ := inv_v h) | (obtain ⟨rfl, rfl⟩ := inv_b h) | (obtain ⟨rfl, rfl⟩ := inv_vs h) | (obtain ⟨rfl, rfl⟩ := inv_fl h) | (obtain rfl := inv_u h) | (obtain ⟨rfl, rfl⟩ := inv_it h) | cases h)
theorem reversedA_ok {l : List AV} {vs : List Value} {it : AIt} (h : reversedA l s = some (.it it, s')) (p : Pre P d A ρ s S D E env) (y : VRs P ρ s.nx S.heap vs l) :
    wpAny (model prog w) A (call (.type "reversed") vs) (fun x S₁ => wpAny (model prog w) A (pyIter x) (PI P D E env ρ s S s' it) NoE S₁) NoE S := by
  unfold reversedA at h
  split at h
  · rename_i j
    obtain ⟨v, rfl, r⟩ := y.oneI
    obtain ⟨hj, rfl⟩ := r.locI
    split at h
    · rename_i l e
      rw [lenK_eq] at h
      (first | (obtain ⟨rfl, rfl⟩ := inv_v h) | (obtain ⟨rfl, rfl⟩ := inv_b h) | (obtain ⟨rfl, rfl⟩ := inv_vs h) | (obtain ⟨rfl, rfl⟩ := inv_fl h) | (obtain rfl := inv_u h) | (obtain ⟨rfl, rfl⟩ := inv_it h) | cases h)
      obtain ⟨us, n, g, z, lb⟩ := p.sr.rel j _ e
      have len := z.length
      refine call_reversed_list (isList_of g) ?_
      have ri : (S.heap.push (revObj (ρ j) ((us.toArray.size : Int) - 1))).IsRevIter S.heap.objs.size (ρ j) ((us.toArray.size : Int) - 1) := ⟨_, Heap.get?_push_size _ rfl, rfl, rfl⟩
      refine wpAny_pyIter_revIter ri ⟨_, rfl, ρ, p.more push_keep ⟨rfl, rfl, rfl⟩, ⟨hj, ?_⟩, Heap.get?_none_of_le (Nat.le_refl _), p.inv.big⟩
      have : ((us.toArray.size : Int) - 1) = (((0 + l.length : Nat) : Int) - 1) := by simp; omega
      rw [← this]; exact ri
    · (first | (obtain ⟨rfl, rfl⟩ := inv_v h) | (obtain ⟨rfl, rfl⟩ := inv_b h) | (obtain ⟨rfl, rfl⟩ := inv_vs h) | (obtain ⟨rfl, rfl⟩ := inv_fl h) | (obtain rfl := inv_u h) | (obtain ⟨rfl, rfl⟩ := inv_it h) | cases h)
  · (first | (obtain ⟨rfl, rfl⟩ := inv_v h) | (obtain ⟨rfl, rfl⟩ := inv_b h) | (obtain ⟨rfl, rfl⟩ := inv_vs h) | (obtain ⟨rfl, rfl⟩ := inv_fl h) | (obtain rfl := inv_u h) | (obtain ⟨rfl, rfl⟩ := inv_it h) | cases h)
theorem itA_ok {v : Value} {it : AIt} (h : itA a s = some (.it it, s')) (p : Pre P d A ρ s S D E env) (r : VR P ρ s.nx S.heap v a) : wpAny (model prog w) A (pyIter v) (PI P D E env ρ s S s' it) NoE S := by
  unfold itA at h
  split at h
  · rename_i i e
    (first | (obtain ⟨rfl, rfl⟩ := inv_v h) | (obtain ⟨rfl, rfl⟩ := inv_b h) | (obtain ⟨rfl, rfl⟩ := inv_vs h) | (obtain ⟨rfl, rfl⟩ := inv_fl h) | (obtain rfl := inv_u h) | (obtain ⟨rfl, rfl⟩ := inv_it h) | cases h)
    refine wpAny_mono (iter_ok e r p.sr p.inv) (fun x S' ⟨I, hI, ρ', e, r, f, u, sm⟩ => ⟨I, hI, ρ', p.ofNo rfl e sm, r, f, u⟩) fun _ _ x => x
  · (first | (obtain ⟨rfl, rfl⟩ := inv_v h) | (obtain ⟨rfl, rfl⟩ := inv_b h) | (obtain ⟨rfl, rfl⟩ := inv_vs h) | (obtain ⟨rfl, rfl⟩ := inv_fl h) | (obtain rfl := inv_u h) | (obtain ⟨rfl, rfl⟩ := inv_it h) | cases h)
end
end Mine
set_option maxRecDepth 100000
namespace Mine
open PySem PySem.Calls PyProof.Rows PySem.W PySem.W.Z

inductive EVR : Expr → EV → Prop
  | cint (i k pos) : EVR (.Constant (.int i) k pos) (.cint i)
  | cnone (k pos) : EVR (.Constant .none k pos) .cnone
  | cbool (b k pos) : EVR (.Constant (.bool b) k pos) (.cbool b)
  | name (x pos) : EVR (.Name x pos) (.name x)
  | bin (l op r pos) : EVR (.BinOp l op r pos) (.bin l op r)
  | not (x pos) : EVR (.UnaryOp .Not x pos) (.not x)
  | andE (l pos) : EVR (.BoolOp .And l pos) (.andE l)
  | orE (l pos) : EVR (.BoolOp .Or l pos) (.orE l)
  | ife (t a b pos) : EVR (.IfExp t a b pos) (.ife t a b)
  | cmp (l op r pos) : EVR (.Compare l [op] [r] pos) (.cmp l op r)
  | call (f args p pos) : EVR (.Call (.Name f p) args [] pos) (.call f args)
  | meth (x xp m args apos) (pos : Pos) : apos.endLine = pos.line → args.length < 20 → EVR (.Call (.Attribute (.Name x xp) m apos) args [] pos) (.meth (.Name x xp) m args)
  | lst (es pos) : EVR (.List es pos) (.lst es)
  | tup (es k pos) : EVR (.Tuple es k pos) (.tup es)
  | first3 (o n sp pos) : isI 3 n = true → EVR (.Subscript o (.Slice none (some n) none sp) pos) (.first3 o)
  | sub (o i pos) : EVR (.Subscript o i pos) (.sub o i)
  | comp (elt t it ifs sc pos) : EVR (.ListComp elt [⟨t, it, ifs, 0⟩] sc pos) (.comp elt t it ifs sc)
  | other (e) : EVR e .other
theorem first3V_spec (o : Expr) (a b : Option Expr) (sp pos : Pos) : EVR (.Subscript o (.Slice a b none sp) pos) (first3V o a b none) := by
  cases a with
  | some => exact .other _
  | none => cases b with
    | none => exact .other _
    | some n =>
      show EVR _ (match isI 3 n with | true => .first3 o | false => .other)
      cases h : isI 3 n with
      | true => exact .first3 _ _ _ _ h
      | false => exact .other _
theorem viewSub_spec (o i : Expr) (pos : Pos) : EVR (.Subscript o i pos) (viewSub o i) := by
  cases i with
  | Slice a b c sp => cases c with
    | none =>
      exact first3V_spec _ _ _ _ _
    | some n =>
      exact .other _
  | _ =>
      exact .sub _ _ _
theorem viewE_spec (e : Expr) : EVR e (viewE e) := by
  cases e with
  | Constant c k pos => cases c with
    | int i => exact .cint _ _ _
    | none => exact .cnone _ _
    | bool b => exact .cbool _ _ _
    | _ => exact .other _
  | Name x pos => exact .name _ _
  | BinOp l op r pos => exact .bin _ _ _ _
  | UnaryOp op x pos => cases op with
    | Not => exact .not _ _
    | _ => exact .other _
  | BoolOp op l pos => cases op with
    | And => exact .andE _ _
    | Or => exact .orE _ _
  | IfExp t a b pos => exact .ife _ _ _ _
  | Compare l ops rs pos =>
    match ops, rs with
    | [op], [r] => exact .cmp _ _ _ _
    | [], _ => exact .other _
    | _ :: _ :: _, _ => exact .other _
    | [_], [] => exact .other _
    | [_], _ :: _ :: _ => exact .other _
  | Call f args kw pos =>
    cases kw with
    | cons => exact .other _
    | nil => cases f with
      | Name x p => exact .call _ _ _ _
      | Attribute o m apos => cases o with
        | Name x xp =>
          show EVR _ (match Nat.beq apos.endLine pos.line, few args with | true, true => EV.meth (.Name x xp) m args | _, _ => .other)
          cases h1 : Nat.beq apos.endLine pos.line with
          | false => exact .other _
          | true =>
            cases h2 : few args with
            | false => exact .other _
            | true => exact .meth _ _ _ _ _ _ (beq_of h1) (shortN_len h2)
        | _ => exact .other _
      | _ => exact .other _
  | List es pos => exact .lst _ _
  | Tuple es k pos => exact .tup _ _ _
  | Subscript o i pos => exact viewSub_spec o i pos
  | ListComp elt gens sc pos =>
    match gens with
    | [] => exact .other _
    | ⟨_, _, _, _⟩ :: _ :: _ => exact .other _
    | [⟨t, it, ifs, a⟩] =>
      cases a with
      | negSucc n => exact .other _
      | ofNat n => cases n with
        | zero => exact .comp _ _ _ _ _ _
        | succ m => exact .other _
  | _ => exact .other _

theorem putName_eq (x : Str) (a : AV) (E : AEnv) (s : St) : putName x a E s = match kindS E.scope x with
  | some .local => putS s.lv x a fun lv => some (.u, ⟨lv, s.σ, s.nx⟩)
  | some .cell => match lookS E.cells x with
    | some j => match lookN s.σ j with
      | some (.cell _) => putN s.σ j (.cell (some a)) fun σ => some (.u, withσ s σ)
      | _ => none
    | none => none
  | _ => none := by
  unfold putName
  cases kindS E.scope x with
  | none => rfl
  | some k => cases k <;> rfl
section
variable {r : Ans} {x : Rs × St}
theorem thenV_some {k : AV → St → Ans} (h : thenV r k = some x) : ∃ a s, r = some (.v a, s) ∧ k a s = some x := by
  cases r with
  | none => cases h
  | some p =>
    obtain ⟨y, s⟩ := p
    cases y with
    | v a => exact ⟨a, s, rfl, h⟩
    | _ => cases h
theorem thenVs_some {k : List AV → St → Ans} (h : thenVs r k = some x) : ∃ a s, r = some (.vs a, s) ∧ k a s = some x := by
  cases r with
  | none => cases h
  | some p =>
    obtain ⟨y, s⟩ := p
    cases y with
    | vs a => exact ⟨a, s, rfl, h⟩
    | _ => cases h
theorem thenB_some {k : Bool → St → Ans} (h : thenB r k = some x) : ∃ a s, r = some (.b a, s) ∧ k a s = some x := by
  cases r with
  | none => cases h
  | some p =>
    obtain ⟨y, s⟩ := p
    cases y with
    | b a => exact ⟨a, s, rfl, h⟩
    | _ => cases h
theorem thenI_some {k : AIt → St → Ans} (h : thenI r k = some x) : ∃ a s, r = some (.it a, s) ∧ k a s = some x := by
  cases r with
  | none => cases h
  | some p =>
    obtain ⟨y, s⟩ := p
    cases y with
    | it a => exact ⟨a, s, rfl, h⟩
    | _ => cases h
theorem thenF_some {k : AFl → St → Ans} (h : thenF r k = some x) : ∃ a s, r = some (.fl a, s) ∧ k a s = some x := by
  cases r with
  | none => cases h
  | some p =>
    obtain ⟨y, s⟩ := p
    cases y with
    | fl a => exact ⟨a, s, rfl, h⟩
    | _ => cases h
theorem thenU_some {k : St → Ans} (h : thenU r k = some x) : ∃ s, r = some (.u, s) ∧ k s = some x := by
  cases r with
  | none => cases h
  | some p =>
    obtain ⟨y, s⟩ := p
    cases y with
    | u => exact ⟨s, rfl, h⟩
    | _ => cases h
end

theorem behind_of {e : Expr} (h : viewE e ≠ .other) (op : CmpOp) : behindInMarks op e = false := by
  cases e with
  | Set => exact absurd rfl h
  | _ => rfl
theorem starEach_cons {e : Expr} (h : viewE e ≠ .other) (r : List Expr) (env : Env) : starEach (e :: r) env = (false, eval e env) :: starEach r env := by
  cases e with
  | Starred => exact absurd rfl h
  | _ => rfl
theorem fold_of {e : Expr} (h : viewE e ≠ .other) (env : Env) (x : Value) : foldedSetIterable e env x = pure x := by
  cases e with
  | Set => exact absurd rfl h
  | _ => rfl

section
variable {prog : Program} {w : World} {A : Around} {P : Par} {Φ : Phi} {xs : List (Int × Tok)} {ρ : Nat → Addr} {s s' : St} {S S' : Shared} {a : AV} {D : Addr} {E : AEnv} {env : Env} {d : Nat} {body : List Stmt} {mg mb : Str → Option Value} {self : Tk → AEnv → St → Ans} {pos : Pos}

theorem Pre.hu (p : Pre P d A ρ s S D E env) : A.units + 64 < cLine := by
  have := p.cx.units
  have : cLine = 9900 := by decide
  omega
/-- one after another: the answer of the first stands -/
theorem seqV {m : Sem Value} {f : Value → Shared → Prop} {s₁ : St} {a₁ : AV} (p : Pre P d A ρ s S D E env) (h : wpAny (model prog w) A m (PV P D E env ρ s S s₁ a₁) NoE S)
    (k : ∀ ρ₁ v S₁, Step P D E env ρ s S ρ₁ s₁ S₁ → Pre P d A ρ₁ s₁ S₁ D E env → VR P ρ₁ s₁.nx S₁.heap v a₁ → f v S₁) : wpAny (model prog w) A m f NoE S :=
  wpAny_mono h (fun v S₁ ⟨ρ₁, e, r⟩ => k ρ₁ v S₁ e (p.step e) r) fun _ _ x => x
theorem seqVs {m : Sem (List Value)} {f : List Value → Shared → Prop} {s₁ : St} {a₁ : List AV} (p : Pre P d A ρ s S D E env) (h : wpAny (model prog w) A m (PVs P D E env ρ s S s₁ a₁) NoE S)
    (k : ∀ ρ₁ v S₁, Step P D E env ρ s S ρ₁ s₁ S₁ → Pre P d A ρ₁ s₁ S₁ D E env → VRs P ρ₁ s₁.nx S₁.heap v a₁ → f v S₁) : wpAny (model prog w) A m f NoE S :=
  wpAny_mono h (fun v S₁ ⟨ρ₁, e, r⟩ => k ρ₁ v S₁ e (p.step e) r) fun _ _ x => x
theorem seqB {m : Sem Bool} {f : Bool → Shared → Prop} {s₁ : St} {b : Bool} (p : Pre P d A ρ s S D E env) (h : wpAny (model prog w) A m (PB P D E env ρ s S s₁ b) NoE S)
    (k : ∀ ρ₁ S₁, Step P D E env ρ s S ρ₁ s₁ S₁ → Pre P d A ρ₁ s₁ S₁ D E env → f b S₁) : wpAny (model prog w) A m f NoE S :=
  wpAny_mono h (fun v S₁ ⟨e1, ρ₁, e⟩ => by subst e1; exact k ρ₁ S₁ e (p.step e)) fun _ _ x => x
theorem endV {m : Sem Value} {s₁ : St} {S₁ T : Shared} {ρ₁ : Nat → Addr} (p : Pre P d A ρ s S D E env) (e : Step P D E env ρ s S ρ₁ s₁ S₁) (h : wpAny (model prog w) A m (PV P D E env ρ₁ s₁ S₁ s' a) NoE T) : wpAny (model prog w) A m (PV P D E env ρ s S s' a) NoE T :=
  wpAny_mono h (fun _ _ ⟨ρ', e', r⟩ => ⟨ρ', e.trans p e', r⟩) fun _ _ x => x
theorem endB {m : Sem Bool} {b : Bool} {s₁ : St} {S₁ T : Shared} {ρ₁ : Nat → Addr} (p : Pre P d A ρ s S D E env) (e : Step P D E env ρ s S ρ₁ s₁ S₁) (h : wpAny (model prog w) A m (PB P D E env ρ₁ s₁ S₁ s' b) NoE T) : wpAny (model prog w) A m (PB P D E env ρ s S s' b) NoE T :=
  wpAny_mono h (fun _ _ ⟨e1, ρ', e'⟩ => ⟨e1, ρ', e.trans p e'⟩) fun _ _ x => x
theorem none_of {I : Addr} {s₁ : St} {S₁ : Shared} {ρ₁ : Nat → Addr} (e : Step P D E env ρ s S ρ₁ s₁ S₁) (f : S₁.heap.get? I = none) : S.heap.get? I = none := by
  cases q : S.heap.get? I with
  | none => rfl
  | some o => obtain ⟨o', z⟩ := e.ext.there _ _ q; rw [f] at z; cases z
theorem endI {m : Sem Value} {i : AIt} {s₁ : St} {S₁ T : Shared} {ρ₁ : Nat → Addr} (p : Pre P d A ρ s S D E env) (e : Step P D E env ρ s S ρ₁ s₁ S₁) (h : wpAny (model prog w) A m (PI P D E env ρ₁ s₁ S₁ s' i) NoE T) : wpAny (model prog w) A m (PI P D E env ρ s S s' i) NoE T :=
  wpAny_mono h (fun _ _ ⟨I, hI, ρ', e', r, f, u⟩ => ⟨I, hI, ρ', e.trans p e', r, none_of e f, u⟩) fun _ _ x => x

theorem ok_bin (hP : PhiOk P Φ xs) (H : Sound prog w P d self) {l r : Expr} {op : Operator} (h : evBin Φ self l op r E s = some (.v a, s')) (p : Pre P d A ρ s S D E env) : wpAny (model prog w) A (eval (.BinOp l op r pos) env) (PV P D E env ρ s S s' a) NoE S := by
  unfold evBin at h
  obtain ⟨a1, s1, h1, h⟩ := thenV_some h
  obtain ⟨a2, s2, h2, h⟩ := thenV_some h
  refine wpAny_BinOp (seqV p ((H.ev h1).2 p) fun ρ₁ v S₁ e₁ p₁ r₁ => seqV p₁ ((H.ev h2).2 p₁) fun ρ₂ v₂ S₂ e₂ p₂ r₂ => endV p (e₁.trans p e₂) ?_)
  obtain ⟨hl, k⟩ := binA_ok (prog := prog) (w := w) hP p₂.cx.handled h (r₁.later (e₂.later p₁)) r₂ p₂.sr p₂.inv
  exact wpAny_mono k (fun _ _ q => p₂.pv hl q) fun _ _ x => x
theorem ok_cmp (hP : PhiOk P Φ xs) (H : Sound prog w P d self) {l r : Expr} {op : CmpOp} (h : evCmp Φ self l op r E s = some (.v a, s')) (p : Pre P d A ρ s S D E env) : wpAny (model prog w) A (eval (.Compare l [op] [r] pos) env) (PV P D E env ρ s S s' a) NoE S := by
  unfold evCmp at h
  obtain ⟨a1, s1, h1, h⟩ := thenV_some h
  obtain ⟨a2, s2, h2, h⟩ := thenV_some h
  refine wpAny_Compare1 (seqV p ((H.ev h1).2 p) fun ρ₁ v S₁ e₁ p₁ r₁ => seqV p₁ ((H.ev h2).2 p₁) fun ρ₂ v₂ S₂ e₂ p₂ r₂ => endV p (e₁.trans p e₂) ?_) (behind_of (H.ev h2).1 _)
  unfold valO at h
  split at h
  · rename_i b q
    (first | (obtain ⟨rfl, rfl⟩ := inv_v h) | (obtain ⟨rfl, rfl⟩ := inv_b h) | (obtain ⟨rfl, rfl⟩ := inv_vs h) | (obtain ⟨rfl, rfl⟩ := inv_fl h) | (obtain rfl := inv_u h) | (obtain ⟨rfl, rfl⟩ := inv_it h) | cases h)
    exact cmp_ok hP.le p₂.hu q (r₁.later (e₂.later p₁)) r₂ p₂.sr ⟨ρ₂, .refl p₂, .bool b⟩
  · (first | (obtain ⟨rfl, rfl⟩ := inv_v h) | (obtain ⟨rfl, rfl⟩ := inv_b h) | (obtain ⟨rfl, rfl⟩ := inv_vs h) | (obtain ⟨rfl, rfl⟩ := inv_fl h) | (obtain rfl := inv_u h) | (obtain ⟨rfl, rfl⟩ := inv_it h) | cases h)
theorem ok_trCmp (hP : PhiOk P Φ xs) (H : Sound prog w P d self) {l r : Expr} {op : CmpOp} {b : Bool} {whole : Sem Value} (h : trCmp Φ self l op r E s = some (.b b, s')) (p : Pre P d A ρ s S D E env) : wpAny (model prog w) A (isTrue (.Compare l [op] [r] pos) env whole) (PB P D E env ρ s S s' b) NoE S := by
  unfold trCmp at h
  obtain ⟨a1, s1, h1, h⟩ := thenV_some h
  obtain ⟨a2, s2, h2, h⟩ := thenV_some h
  refine wpAny_isTrue_Compare1 (seqV p ((H.ev h1).2 p) fun ρ₁ v S₁ e₁ p₁ r₁ => seqV p₁ ((H.ev h2).2 p₁) fun ρ₂ v₂ S₂ e₂ p₂ r₂ => ?_) (behind_of (H.ev h2).1 _)
  split at h
  · rename_i c q
    (first | (obtain ⟨rfl, rfl⟩ := inv_v h) | (obtain ⟨rfl, rfl⟩ := inv_b h) | (obtain ⟨rfl, rfl⟩ := inv_vs h) | (obtain ⟨rfl, rfl⟩ := inv_fl h) | (obtain rfl := inv_u h) | (obtain ⟨rfl, rfl⟩ := inv_it h) | cases h)
    exact cmp_ok hP.le p₂.hu q (r₁.later (e₂.later p₁)) r₂ p₂.sr (wpAny_truthy_bool ⟨rfl, ρ₂, e₁.trans p e₂⟩)
  · (first | (obtain ⟨rfl, rfl⟩ := inv_v h) | (obtain ⟨rfl, rfl⟩ := inv_b h) | (obtain ⟨rfl, rfl⟩ := inv_vs h) | (obtain ⟨rfl, rfl⟩ := inv_fl h) | (obtain rfl := inv_u h) | (obtain ⟨rfl, rfl⟩ := inv_it h) | cases h)
theorem ok_ife (H : Sound prog w P d self) {t x y : Expr} (h : evIfe self t x y E s = some (.v a, s')) (p : Pre P d A ρ s S D E env) : wpAny (model prog w) A (eval (.IfExp t x y pos) env) (PV P D E env ρ s S s' a) NoE S := by
  unfold evIfe at h
  obtain ⟨b, s1, h1, h⟩ := thenB_some h
  refine wpAny_IfExp (seqB p (H.tr h1 p) fun ρ₁ S₁ e₁ p₁ => ?_)
  cases b with
  | true => exact endV p e₁ ((H.ev h).2 p₁)
  | false => exact endV p e₁ ((H.ev h).2 p₁)
theorem ok_lst (H : Sound prog w P d self) {es : List Expr} (h : evLst self es E s = some (.v a, s')) (p : Pre P d A ρ s S D E env) : wpAny (model prog w) A (eval (.List es pos) env) (PV P D E env ρ s S s' a) NoE S := by
  unfold evLst at h
  obtain ⟨l, s1, h1, h⟩ := thenVs_some h
  refine List_ (seqVs p ((H.evs h1).2.2 p _) fun ρ₁ vs S₁ e₁ p₁ r₁ => endV p e₁ ?_)
  obtain ⟨hl, k⟩ := newL_ok (prog := prog) (w := w) (A := A) (X := NoX) h r₁ p₁.sr p₁.inv
  exact wpAny_mono k (fun _ _ q => p₁.pv hl q) fun _ _ x => x.elim
theorem ok_tup (H : Sound prog w P d self) {es : List Expr} {k : Nat} (h : evTup self es E s = some (.v a, s')) (p : Pre P d A ρ s S D E env) : wpAny (model prog w) A (eval (.Tuple es k pos) env) (PV P D E env ρ s S s' a) NoE S := by
  unfold evTup at h
  obtain ⟨l, s1, h1, h⟩ := thenVs_some h
  refine Tuple_ (seqVs p ((H.evs h1).2.2 p _) fun ρ₁ vs S₁ e₁ p₁ r₁ => endV p e₁ ?_)
  obtain ⟨hl, k⟩ := newT_ok (prog := prog) (w := w) (A := A) (X := NoX) h r₁ p₁.sr p₁.inv
  exact wpAny_mono k (fun _ _ q => p₁.pv (congrArg St.lv hl) q) fun _ _ x => x.elim
theorem ok_sub (H : Sound prog w P d self) {o i : Expr} (h : evSub self o i E s = some (.v a, s')) (p : Pre P d A ρ s S D E env) : wpAny (model prog w) A (eval (.Subscript o i pos) env) (PV P D E env ρ s S s' a) NoE S := by
  unfold evSub at h
  obtain ⟨a1, s1, h1, h⟩ := thenV_some h
  obtain ⟨a2, s2, h2, h⟩ := thenV_some h
  refine Subscript_ (seqV p ((H.ev h1).2 p) fun ρ₁ v S₁ e₁ p₁ r₁ => seqV p₁ ((H.ev h2).2 p₁) fun ρ₂ v₂ S₂ e₂ p₂ r₂ => endV p (e₁.trans p e₂) ?_)
  obtain ⟨hl, k⟩ := item_ok (prog := prog) (w := w) (A := A) (X := NoX) (value := o) (H.ev h2).1 h (r₁.later (e₂.later p₁)) r₂ p₂.sr p₂.inv
  exact wpAny_mono k (fun _ _ q => p₂.pv (congrArg St.lv hl) q) fun _ _ x => x
end
end Mine
set_option maxRecDepth 100000
namespace Mine
open PySem PySem.Calls PyProof.Rows PySem.W PySem.W.Z

section
variable {prog : Program} {w : World} {A : Around} {P : Par} {Φ : Phi} {xs : List (Int × Tok)} {ρ : Nat → Addr} {s s' : St} {S S' : Shared} {a : AV} {D : Addr} {E : AEnv} {env : Env} {d : Nat} {body : List Stmt} {mg mb : Str → Option Value} {self : Tk → AEnv → St → Ans} {pos : Pos}

theorem subTailO {value slice : Expr} {o i : Value} {T id : String} {ops : List Value} {Q : Value → Shared → Prop} (hT : S.TypeIs o T) (hl : typeLookup (.type T) "__getitem__" = pure (some (.builtin id)))
    (hs : subscripted slice false o i = operate ops (getItem o i)) (h : wpAny (model prog w) A (getItem o i) Q NoE S) : wpAny (model prog w) A (subscriptTail value slice o i) Q NoE S := by
  unfold subscriptTail
  refine wpAny_bind ?_
  rw [getitemInPython_of_ne hT.not_modules]
  refine wpAny_bind (wpAny_specialOf hT hl ?_)
  have fin : wpAny (model prog w) A (subscripted slice false o i) (fun r s₃ => wpAny (model prog w) A (letTemporaryGo value o r >>= fun _ => pure r) Q NoE s₃) NoE S := by
    rw [hs]
    exact wpAny_operating (wpAny_mono h (fun r s₃ h₃ => wpAny_bind (wpAny_letTemporaryGo (wpAny_pure h₃))) fun _ _ x => x)
  first
    | exact wpAny_pure (wpAny_bind fin)
    | exact wpAny_bind (wpAny_pure (wpAny_bind fin))
    | exact wpAny_bind fin

theorem isI_const {k : Int} {n : Expr} (h : isI k n = true) : ∃ c p, n = .Constant (.int k) c p := by
  unfold isI at h
  cases n with
  | Constant c kk p => cases c with
    | int i => exact ⟨kk, p, by rw [(eqB_iff i k).mp h]⟩
    | _ => cases h
  | _ => cases h
/-- what a slice of a list gives -/
theorem slice_ok {l : Addr} {vs vs' : List Value} {n : Nat} {lo hi st : Value} {lo' hi' st' : Option Int} {value slice : Expr} {ops : List Value} {k : List AV} {tk : Nat} (p : Pre P d A ρ s S D E env) (g : S.heap.get? l = some (listOf vs.toArray n)) (hz : vs.length ≤ sizeLine) (pl : IsPart lo lo') (ph : IsPart hi hi') (ps : IsPart st st') (h0 : st' ≠ some 0)
    (e : slicePick vs.toArray lo' hi' st' = vs'.toArray) (r : VRs P ρ s.nx S.heap vs' k) (h : newL k s = some (.v a, s')) (hs : subscripted slice false (.ref l) (.ref S.heap.objs.size) = operate ops (getItem (.ref l) (.ref S.heap.objs.size))) :
    wpAny (model prog w) A (subscriptTail value slice (.ref l) (.ref S.heap.objs.size)) (PV P D E env ρ s S s' a) NoE { S with heap := S.heap.push { cls := .type "slice", data := .fields #[lo, hi, st] }, toks := tk } := by
  have g' : (S.heap.push { cls := .type "slice", data := .fields #[lo, hi, st] }).get? l = some (listOf vs.toArray n) := push_keep _ _ g
  refine subTailO (S := { S with heap := S.heap.push { cls := .type "slice", data := .fields #[lo, hi, st] }, toks := tk }) (Heap.IsList.typeIs (s := { S with heap := S.heap.push { cls := .type "slice", data := .fields #[lo, hi, st] }, toks := tk }) (isList_of g')) slot_list_getitem.lookup hs
    (wpAny_getItem_list_slice (isList_of g') (Heap.IsSliceOf.new ..) pl ph ps h0 ?_ (by simpa using hz))
  rw [e]
  have st : Step P D E env ρ s S ρ s { S with heap := (S.heap.push { cls := .type "slice", data := .fields #[lo, hi, st] }).push { cls := .type "list", data := .seq vs'.toArray }, toks := tk } := p.more (fun b o q => push_keep _ _ (push_keep _ _ q)) ⟨rfl, rfl, rfl⟩
  refine p.newList h st (n := 0) (Heap.get?_push_size _ rfl) (r.later (st.later p)) (Heap.get?_none_of_le ?_) ?_
  · show S.heap.objs.size ≤ (S.heap.push _).objs.size
    rw [Heap.size_push]; exact Nat.le_succ _
  · show P.H0.objs.size ≤ (S.heap.push _).objs.size
    rw [Heap.size_push]; exact Nat.le_succ_of_le p.inv.big

theorem ok_first3 (hP : PhiOk P Φ xs) (H : Sound prog w P d self) {o n : Expr} {sp : Pos} (hn : isI 3 n = true) (h : thenV (self (.ev o) E s) (first3A Φ) = some (.v a, s')) (p : Pre P d A ρ s S D E env) :
    wpAny (model prog w) A (eval (.Subscript o (.Slice none (some n) none sp) pos) env) (PV P D E env ρ s S s' a) NoE S := by
  obtain ⟨a1, s1, h1, h⟩ := thenV_some h
  obtain ⟨kk, pp, rfl⟩ := isI_const hn
  refine Subscript_ (seqV p ((H.ev h1).2 p) fun ρ₁ v S₁ e₁ p₁ r₁ => ?_)
  unfold first3A at h
  split at h
  · obtain rfl := r₁.scriptI
    split at h
    · rename_i l e
      obtain ⟨L, hL, hlen, hs⟩ := hP.script (.inl (by rw [e]; simp))
      obtain ⟨m, g⟩ := hs _ p₁.inv
      rw [hL]
      refine wpAny_Slice ?_
      rw [evalPart_none, evalPart_some]
      refine wpAny_pure (wpAny_Constant_int (wpAny_pure ?_))
      refine endV p e₁ (slice_ok (tk := S₁.toks + 1) p₁ g (by rw [sizeLine_eq, List.length_map]; omega) .none (.int 3 _) .none (by simp) (vs' := (xs.take 3).map intV) ?_ (hP.first3 _ e _ _ _) h rfl)
      have := slicePick_upto' (xs.map intV).toArray 3
      rw [show ((3 : Nat) : Int) = 3 from rfl] at this
      rw [this]
      simp [List.map_take]
    · (first | (obtain ⟨rfl, rfl⟩ := inv_v h) | (obtain ⟨rfl, rfl⟩ := inv_b h) | (obtain ⟨rfl, rfl⟩ := inv_vs h) | (obtain ⟨rfl, rfl⟩ := inv_fl h) | (obtain rfl := inv_u h) | (obtain ⟨rfl, rfl⟩ := inv_it h) | cases h)
  · cases h
end
end Mine
set_option maxRecDepth 100000
namespace Mine
open PySem PySem.Calls PyProof.Rows PySem.W PySem.W.Z

theorem noArg_ne : ∀ {r : List Arg} {x : Str}, noArg r x = true → ∀ b ∈ r, b.arg ≠ x
  | [], _, _, _, m => nomatch m
  | a :: r, x, h, b, m => by
    unfold noArg at h
    cases q : seq a.arg x with
    | true => rw [q] at h; cases h
    | false =>
      rw [q] at h
      cases m with
      | head => rintro rfl; rw [seq_refl] at q; cases q
      | tail _ m => exact noArg_ne h b m
theorem fm_congr {α β : Type} {f g : α → Option β} : ∀ {l : List α}, (∀ x ∈ l, f x = g x) → l.filterMap f = l.filterMap g
  | [], _ => rfl
  | x :: r, h => by
    rw [List.filterMap_cons, List.filterMap_cons, h x (.head _), fm_congr fun y hy => h y (.tail _ hy)]
theorem zip_lookup : ∀ {as : List Arg} {vs : List Value}, nodupArgs as = true → as.length = vs.length →
    (as.map (·.arg)).filterMap (fun n => (((as.map (·.arg)).zip vs).lookup n).map (fun v => (n, v))) = (as.map (·.arg)).zip vs ∧ ((as.map (·.arg)).filter fun n => (((as.map (·.arg)).zip vs).lookup n).isNone) = []
  | [], [], _, _ => ⟨rfl, rfl⟩
  | [], _ :: _, _, h => by simp at h
  | _ :: _, [], _, h => by simp at h
  | a :: as, v :: vs, h, hl => by
    unfold nodupArgs at h
    cases q : noArg as a.arg with
    | false => rw [q] at h; cases h
    | true =>
      rw [q] at h
      obtain ⟨i1, i2⟩ := zip_lookup (as := as) (vs := vs) h (by simpa using hl)
      have ne := noArg_ne q
      have key : ∀ n ∈ as.map (·.arg), (((a :: as).map (·.arg)).zip (v :: vs)).lookup n = ((as.map (·.arg)).zip vs).lookup n := by
        intro n hn
        rw [List.mem_map] at hn
        obtain ⟨b, hb, rfl⟩ := hn
        simp only [List.map_cons, List.zip_cons_cons, List.lookup_cons]
        rw [show (b.arg == a.arg) = false by simpa using ne b hb]
      constructor
      · have e : ((a :: as).map (·.arg)) = a.arg :: as.map (·.arg) := rfl
        conv => lhs; rw [e]
        rw [List.filterMap_cons]
        have h0 : (((a :: as).map (·.arg)).zip (v :: vs)).lookup a.arg = some v := by simp [List.lookup_cons]
        rw [← e, h0]
        simp only [Option.map_some]
        rw [show List.filterMap (fun n => Option.map (fun v => (n, v)) ((((a :: as).map (·.arg)).zip (v :: vs)).lookup n)) (as.map (·.arg)) = List.filterMap (fun n => Option.map (fun v => (n, v)) (((as.map (·.arg)).zip vs).lookup n)) (as.map (·.arg)) from ?_]
        · rw [i1]; rfl
        · exact fm_congr fun n hn => by rw [key n hn]
      · have e : ((a :: as).map (·.arg)) = a.arg :: as.map (·.arg) := rfl
        conv => lhs; arg 2; rw [e]
        rw [List.filter_cons]
        have h0 : (((a :: as).map (·.arg)).zip (v :: vs)).lookup a.arg = some v := by simp [List.lookup_cons]
        rw [h0]
        simp only [Option.isNone_some, Bool.false_eq_true, if_false]
        rw [← i2]
        refine List.filter_congr fun n hn => ?_
        rw [key n hn]
theorem bindPos_some : ∀ {as : List Arg} {vs : List AV} {l : Lv} {r : List Arg}, bindPos as vs = some (l, r) → l = ((as.take vs.length).map (·.arg)).zip vs ∧ r = as.drop vs.length ∧ vs.length ≤ as.length
  | as, [], l, r, h => by
    cases as <;> cases h <;> exact ⟨by simp, rfl, Nat.zero_le _⟩
  | [], _ :: _, _, _, h => by cases h
  | a :: as, v :: vs, l, r, h => by
    unfold bindPos at h
    cases q : bindPos as vs with
    | none => rw [q] at h; cases h
    | some p =>
      obtain ⟨l', r'⟩ := p
      rw [q] at h
      cases h
      obtain ⟨h1, h2, h3⟩ := bindPos_some q
      exact ⟨by rw [h1]; simp, by rw [h2]; simp, by simpa using h3⟩
theorem bindArgs_plain {fd : FuncData} {as : List Arg} {vs : List Value} (hp : fd.params = ⟨[], as, none, [], [], none, []⟩) (hd : fd.defaults = .none) (hn : nodupArgs as = true) (hl : as.length = vs.length) :
    bindArgs fd ⟨vs, []⟩ = pure ((as.map (·.arg)).zip vs) := by
  obtain ⟨h1, h2⟩ := zip_lookup hn hl
  unfold bindArgs
  rw [hp, hd]
  have s0 : seqItems? Value.none = pure none := rfl
  have hlt : ¬ (vs.length > as.length) := by omega
  simp only [List.map_nil, List.nil_append, List.append_nil, List.forIn_nil, pure_bind, s0, Option.getD_none, List.drop_nil, List.zip_nil_right, List.length_nil, Nat.sub_zero, List.length_map, List.isEmpty_nil, Bool.not_true, Bool.false_eq_true, if_false,
    Option.isNone_none, Bool.and_true, decide_eq_true_eq, if_neg hlt]
  have ht : List.take as.length (List.map (fun x => x.arg) as) = List.map (fun x => x.arg) as := List.take_of_length_le (by simp)
  simp only [ht, h2, List.isEmpty_nil, Bool.not_true, Bool.false_eq_true, if_false]
  rw [h1]

theorem plain_shape {ps : Arguments} (h : plainPs ps = true) : ∃ as, ps = ⟨[], as, none, [], [], none, []⟩ ∧ nodupArgs as = true := by
  unfold plainPs at h
  split at h
  · exact ⟨_, rfl, h⟩
  · cases h
theorem binds_plain {as : List Arg} {args : List AV} {bs : Lv} (h : binds ⟨[], as, none, [], [], none, []⟩ args = some bs) : as.length = args.length ∧ bs = (as.map (·.arg)).zip args := by
  unfold binds at h
  simp only at h
  split at h
  · rename_i l rest q
    obtain ⟨h1, h2, h3⟩ := bindPos_some q
    have hl : lastN ([] : List Expr) rest.length = [] := by simp [lastN]
    rw [hl] at h
    cases rest with
    | nil =>
      cases h
      have : as.length ≤ args.length := by
        have := congrArg List.length h2
        simp only [List.length_nil, List.length_drop] at this
        omega
      have e : as.length = args.length := by omega
      refine ⟨e, ?_⟩
      rw [h1, ← e, List.take_of_length_le (Nat.le_refl _)]
      simp
    | cons => simp [bindD] at h
  · cases h

section
variable {prog : Program} {w : World} {A : Around} {P : Par} {Φ : Phi} {xs : List (Int × Tok)} {ρ : Nat → Addr} {s s' : St} {S S' : Shared} {a : AV} {D : Addr} {E : AEnv} {env : Env} {d : Nat} {body : List Stmt} {mg mb : Str → Option Value} {self : Tk → AEnv → St → Ans} {pos : Pos}

theorem vrs_zip {nx : Nat} {h : Heap} {ns : List Str} : ∀ {vs : List Value} {l : List AV}, VRs P ρ nx h vs l → (ns.zip vs).map Prod.fst = (ns.zip l).map Prod.fst ∧ VRs P ρ nx h ((ns.zip vs).map Prod.snd) ((ns.zip l).map Prod.snd) := by
  induction ns with
  | nil => intro vs l r; exact ⟨rfl, .nil⟩
  | cons n ns ih =>
    intro vs l r
    cases l with
    | nil => rw [r.nilI]; exact ⟨rfl, .nil⟩
    | cons a l =>
      obtain ⟨v, ws, rfl, x, r2⟩ := r.consI
      obtain ⟨h1, h2⟩ := ih r2
      exact ⟨congrArg (n :: ·) h1, .cons _ _ _ _ x h2⟩
theorem nodupArgs_names : ∀ {as : List Arg}, nodupArgs as = true → (as.map (·.arg)).Nodup
  | [], _ => .nil
  | a :: r, h => by
    unfold nodupArgs at h
    cases q : noArg r a.arg with
    | false => rw [q] at h; cases h
    | true =>
      rw [q] at h
      rw [List.map_cons, List.nodup_cons]
      refine ⟨fun m => ?_, nodupArgs_names h⟩
      rw [List.mem_map] at m
      obtain ⟨b, hb, e⟩ := m
      exact noArg_ne q b hb e
theorem fnObj_clo {v : Value} {ps : Arguments} {b : List Stmt} {sc : Scope} {cl : List (Str × Nat)} {nx : Nat} (r : VR P ρ nx S.heap v (.clo ps b sc cl)) : ∃ f, v = .ref f ∧ FnObj P ρ nx S f ⟨ps, b, sc⟩ cl := by
  obtain ⟨f, rfl, c, o, fd, k⟩ := r.cloI
  refine ⟨f, rfl, o, fd, c, ⟨k.get, k.data, k.params, k.body, k.scope, k.globals, k.builtins, k.code, k.crec, fun pos x q => ?_, k.nil, k.cells, fun _ => ⟨k.dflt, k.kw⟩, fun args bs vs hb hv => ?_⟩⟩
  · rw [show defsOf (FnInfo.mk ps b sc).body = [] from k.defs] at q; cases q
  · obtain ⟨as, hps, hn⟩ := plain_shape k.plain
    subst hps
    obtain ⟨hl, rfl⟩ := binds_plain hb
    have hl' : as.length = vs.length := by rw [hv.length]; exact hl
    refine ⟨_, .of_eq (bindArgs_plain k.params k.dflt hn hl'), ?_, vrs_zip hv⟩
    rw [List.map_fst_zip (by simp; omega)]; exact nodupArgs_names hn

/-- a caller's answers are the model's -/
noncomputable def CBok (prog : Program) (w : World) (P : Par) (d : Nat) (cb : CB) : Prop := ∀ {fi cl args σ nx a σ' nx'}, cb fi cl args σ nx = some (a, σ', nx') → ∀ {A ρ S f vs}, Cx d A → FnObj P ρ nx S f fi cl → SR P ρ σ nx S.heap → Inv P S.heap → VRs P ρ nx S.heap vs args →
  wpAny (model prog w) A (call (.ref f) vs) (fun v S' => ∃ ρ', Ext P NoX ρ σ nx S.heap ρ' σ' nx' S'.heap ∧ VR P ρ' nx' S'.heap v a ∧ Same S S') NoE S

/-- what has no place in it, seen with no store at all -/
theorem flat_down {ρ' : Nat → Addr} {nx nx' : Nat} {h : Heap} {a : AV} {v : Value} (f : flat a = true) (r : VR P ρ nx h v a) : VR P ρ' nx' h v a := by
  cases a with
  | none => rw [r.noneI]; exact .none
  | bool b => rw [r.boolI]; exact .bool b
  | int i => obtain ⟨t, rfl⟩ := r.intI; exact .int i t
  | tup l =>
    obtain ⟨t, vs, n, rfl, g, z⟩ := r.tupI
    replace f : (match ints? l with | some _ => true | none => false) = true := f
    cases e : ints? l with
    | none => rw [e] at f; cases f
    | some ns =>
      rw [ints?_some e] at z ⊢
      exact .tup t vs n _ g (intsAre_vrs (vrs_intsAre z))
  | _ => cases f
theorem flats_down {ρ' : Nat → Addr} {nx nx' : Nat} {h : Heap} : ∀ (l : List AV) {vs : List Value}, flats l = true → VRs P ρ nx h vs l → VRs P ρ' nx' h vs l := by
  intro l
  induction l with
  | nil => intro vs _ r; rw [r.nilI]; exact .nil
  | cons a r ih =>
    intro vs f q
    obtain ⟨v, ws, rfl, x, y⟩ := q.consI
    replace f : (match flat a with | true => flats r | false => false) = true := f
    cases e : flat a with
    | false => rw [e] at f; cases f
    | true =>
      rw [e] at f
      exact .cons _ _ _ _ (flat_down e x) (ih f y)
theorem no_nil {j : Nat} {o : AObj} {Q : Prop} (e : lookN .nil j = some o) : Q := by
  rw [look_nil] at e; cases e
theorem sr_nil {h : Heap} : SR P ρ .nil 0 h := ⟨fun _ _ e => no_nil e, fun _ _ _ _ e => no_nil e, fun _ _ e => no_nil e, fun _ _ e => no_nil e⟩
theorem Ext.ofNil {ρ₀ ρ' : Nat → Addr} {σ σ' : Sto} {nx nx' : Nat} {h h' : Heap} (e : Ext P NoX ρ₀ .nil 0 h ρ' σ' nx' h') (R : SR P ρ σ nx h) (I : Inv P h) : Ext P NoX ρ σ nx h ρ σ nx h' := by
  have tabs : ∀ b, (∃ t ∈ P.TB, t.P = b) → ∀ o, h.get? b = some o → Tab o := by
    rintro b ⟨t, ht, rfl⟩ o q
    obtain ⟨ps, _, ⟨_, g⟩, _⟩ := I.tabs t ht
    rw [g] at q; cases q
    exact ⟨rfl, _, rfl⟩
  have hk : Kpt (fun b => ∃ t ∈ P.TB, t.P = b) h h' := fun b o q n => e.kp b o q (by
    rintro (⟨j, o', z, _⟩ | z | z)
    · rw [look_nil] at z; cases z
    · exact z
    · exact n z)
  have L : Later ρ nx h ρ nx h' := later_kpt hk fun b w o q => not_imm_tab (tabs b w o q)
  refine ⟨Nat.le_refl _, fun _ _ => rfl, fun _ o q => .inl ⟨o, q⟩, fun b o q n => hk b o q fun w => n (.inr (.inr w)), e.there, ⟨R.lt, R.inj, R.up, fun j o q => (R.rel j o q).later L fun ob z => hk _ _ z fun w => ((R.rel j o q).kind z).2 (tabs _ w _ z)⟩, e.inv⟩

theorem callF_ok {cb : CB} (C : CBok prog w P d cb) {fi : FnInfo} {cl : List (Str × Nat)} {args : List AV} {vs : List Value} {f : Addr} (h : callF cb fi cl args s = some (.v a, s')) (p : Pre P d A ρ s S D E env) (F : FnObj P ρ s.nx S f fi cl) (r : VRs P ρ s.nx S.heap vs args) :
    wpAny (model prog w) A (call (.ref f) vs) (PV P D E env ρ s S s' a) NoE S := by
  unfold callF at h
  split at h
  · rename_i a' σ n q
    cases h
    refine wpAny_mono (C q p.cx F p.sr p.inv r) (fun v S' ⟨ρ', e, z, sm⟩ => p.pv (s' := ⟨s.lv, σ, n⟩) rfl ⟨ρ', e, z, sm⟩) fun _ _ x => x
  · cases h
theorem callP_ok {cb cb0 : CB} (C : CBok prog w P d cb) (C0 : CBok prog w P d cb0) {fi : FnInfo} {args : List AV} {vs : List Value} {f : Addr} (h : callP cb cb0 fi args s = some (.v a, s')) (p : Pre P d A ρ s S D E env) (F : FnAt P f fi) (r : VRs P ρ s.nx S.heap vs args) :
    wpAny (model prog w) A (call (.ref f) vs) (PV P D E env ρ s S s' a) NoE S := by
  unfold callP at h
  split at h
  · rename_i fl
    split at h
    · rename_i a' σ' n' q
      split at h
      · rename_i fa
        cases h
        refine wpAny_mono (C0 q p.cx (F ρ 0 S p.inv) sr_nil p.inv (flats_down _ fl r)) (fun v S' ⟨ρ', e, z, sm⟩ => p.pv rfl ⟨ρ, e.ofNil p.sr p.inv, flat_down fa z, sm⟩) fun _ _ x => x
      · exact callF_ok C h p (F _ _ _ p.inv) r
    · cases h
  · exact callF_ok C h p (F _ _ _ p.inv) r

theorem ok_call {cb cb0 : CB} (hP : PhiOk P Φ xs) (G : Glob P body mg mb) (C : CBok prog w P d cb) (C0 : CBok prog w P d cb0) (H : Sound prog w P d self) {f : Str} {args : List Expr} {np : Pos} (h : stepCall body Φ cb cb0 self f args E s = some (.v a, s')) (p : Pre P d A ρ s S D E env) :
    wpAny (model prog w) A (eval (.Call (.Name f np) args [] pos) env) (PV P D E env ρ s S s' a) NoE S := by
  refine Call_Name rfl ?_
  have clo : ∀ {s₁ : St} {c : AV}, stepName body f E s = some (.v c, s₁) → (match c with | .clo ps b sc cl => thenVs (self (.evs args) E s₁) fun l s => callF cb ⟨ps, b, sc⟩ cl l s | _ => none) = some (.v a, s') →
      wpAny (model prog w) A (eval (.Name f np) env) (fun f s₁ => wpAny (model prog w) A (callWith pos f [] (backTo pos (starEach args env)) []) (PV P D E env ρ s S s' a) NoE s₁) NoE S := by
    intro s₁ c h1 h
    obtain ⟨rfl, kn⟩ := name_ok (prog := prog) (w := w) (A := A) (pos := np) G h1 p.fr p.sr p.inv
    refine wpAny_mono kn (fun v S₁ q => ?_) fun _ _ x => x
    obtain ⟨ρ₁, e₁, r₁⟩ := p.pv rfl q
    have p₁ := p.step e₁
    cases c with
    | clo ps b sc cl =>
      obtain ⟨l, s2, h2, h⟩ := thenVs_some h
      obtain ⟨g, rfl, o, fd, _, K⟩ := fnObj_clo r₁
      have ho := K.get
      have hd := K.data
      obtain ⟨_, hst, ka⟩ := H.evs h2
      refine callWith_function (o := o) (fd := fd) (first := []) (evalArgs_all (trees_plain hst pos env) (seqVs p₁ (ka p₁ pos) fun ρ₂ vs S₂ e₂ p₂ r₂ => ⟨⟨(e₂.later p₁).im _ _ ho (.inr (.inl ⟨fd, hd⟩)), hd⟩, endV (T := S₂) p (e₁.trans p e₂) ?_⟩))
      obtain ⟨g', hg', F⟩ := fnObj_clo (r₁.later (e₂.later p₁))
      cases hg'
      exact callF_ok C h p₂ F r₂
    | _ => cases h
  unfold stepCall at h
  split at h
  · rename_i ek
    split at h
    · rename_i fi ef
      obtain ⟨l, s1, h1, h⟩ := thenVs_some h
      obtain ⟨g, hg, F⟩ := G.fns f fi ef
      refine name_global G p.fr p.inv ek hg ?_
      obtain ⟨_, hst, ka⟩ := H.evs h1
      obtain ⟨o, fd, _, K⟩ := F ρ s.nx S p.inv
      have ho := K.get
      have hd := K.data
      exact callWith_function (o := o) (fd := fd) (first := []) (evalArgs_all (trees_plain hst pos env) (seqVs p (ka p pos) fun ρ₂ vs S₂ e₂ p₂ r₂ => ⟨⟨(e₂.later p).im _ _ ho (.inr (.inl ⟨fd, hd⟩)), hd⟩, endV (T := S₂) p e₂ (callP_ok C C0 h p₂ F r₂)⟩))
    · rename_i ef
      split at h
      · rename_i b eb
        obtain ⟨l, s1, h1, h⟩ := thenVs_some h
        obtain ⟨hn, hv⟩ := G.blt f b ef eb
        refine name_builtin G p.fr p.inv ek hn hv ?_
        obtain ⟨_, hst, ka⟩ := H.evs h1
        have fin := seqVs p (ka p pos) fun ρ₁ vs S₁ e₁ p₁ r₁ => endV (T := S₁) p e₁ (callB_ok (prog := prog) (w := w) hP h p₁ r₁)
        cases b <;> first
          | exact Calls.callWith_builtin (trees_plain hst pos env) (evalArgs_all (trees_plain hst pos env) fin)
          | exact PyProof.Rows.callWith_type (trees_plain hst pos env) (evalArgs_all (trees_plain hst pos env) fin)
      · cases h
  · obtain ⟨c, s1, h1, h⟩ := thenV_some h
    exact clo h1 h
  · obtain ⟨c, s1, h1, h⟩ := thenV_some h
    exact clo h1 h
  · cases h
end
end Mine
set_option maxRecDepth 100000
namespace Mine
open PySem PySem.Calls PyProof.Rows PySem.W PySem.W.Z

section
variable {prog : Program} {w : World} {A : Around} {P : Par} {Φ : Phi} {xs : List (Int × Tok)} {ρ : Nat → Addr} {s s' : St} {S S' : Shared} {a : AV} {D : Addr} {E : AEnv} {env : Env} {d : Nat} {body : List Stmt} {mg mb : Str → Option Value} {self : Tk → AEnv → St → Ans} {pos : Pos}

noncomputable def miName : MI → String
  | .append => "append" | .extend => "extend" | .reverse => "reverse" | .insert => "insert" | .bitlen => "bit_length"
theorem miTab_ok : ∀ q ∈ miTab, q.1 = Str.ofString (miName q.2) := by
  intro q m
  simp only [miTab, List.mem_cons, List.not_mem_nil, or_false] at m
  rcases m with rfl | rfl | rfl | rfl | rfl <;> rfl
theorem miIn_name {m : Str} {mi : MI} (h : miIn m = some mi) : m = Str.ofString (miName mi) := miTab_ok _ (lookS_mem h)
theorem appendM_loc {o : AV} {l : List AV} {s₁ : St} {r : Rs × St} (h : appendM o l s₁ = some r) : ∃ j, o = .loc j := by
  unfold appendM at h
  split at h
  · exact ⟨_, rfl⟩
  · (first | (obtain ⟨rfl, rfl⟩ := inv_v h) | (obtain ⟨rfl, rfl⟩ := inv_b h) | (obtain ⟨rfl, rfl⟩ := inv_vs h) | (obtain ⟨rfl, rfl⟩ := inv_fl h) | (obtain rfl := inv_u h) | (obtain ⟨rfl, rfl⟩ := inv_it h) | cases h)
theorem extendM_loc {o : AV} {l : List AV} {s₁ : St} {r : Rs × St} (h : extendM o l s₁ = some r) : ∃ j, o = .loc j := by
  unfold extendM at h
  split at h
  · exact ⟨_, rfl⟩
  · (first | (obtain ⟨rfl, rfl⟩ := inv_v h) | (obtain ⟨rfl, rfl⟩ := inv_b h) | (obtain ⟨rfl, rfl⟩ := inv_vs h) | (obtain ⟨rfl, rfl⟩ := inv_fl h) | (obtain rfl := inv_u h) | (obtain ⟨rfl, rfl⟩ := inv_it h) | cases h)
theorem reverseM_loc {o : AV} {l : List AV} {s₁ : St} {r : Rs × St} (h : reverseM o l s₁ = some r) : ∃ j, o = .loc j := by
  unfold reverseM at h
  split at h
  · exact ⟨_, rfl⟩
  · (first | (obtain ⟨rfl, rfl⟩ := inv_v h) | (obtain ⟨rfl, rfl⟩ := inv_b h) | (obtain ⟨rfl, rfl⟩ := inv_vs h) | (obtain ⟨rfl, rfl⟩ := inv_fl h) | (obtain rfl := inv_u h) | (obtain ⟨rfl, rfl⟩ := inv_it h) | cases h)
theorem insertM_loc {o : AV} {l : List AV} {s₁ : St} {r : Rs × St} (h : insertM o l s₁ = some r) : ∃ j, o = .loc j := by
  unfold insertM at h
  split at h
  · exact ⟨_, rfl⟩
  · (first | (obtain ⟨rfl, rfl⟩ := inv_v h) | (obtain ⟨rfl, rfl⟩ := inv_b h) | (obtain ⟨rfl, rfl⟩ := inv_vs h) | (obtain ⟨rfl, rfl⟩ := inv_fl h) | (obtain rfl := inv_u h) | (obtain ⟨rfl, rfl⟩ := inv_it h) | cases h)
theorem bitlenM_int {o : AV} {l : List AV} {s₁ : St} {r : Rs × St} (h : bitlenM o l s₁ = some r) : ∃ i, o = .int i := by
  unfold bitlenM at h
  split at h
  · exact ⟨_, rfl⟩
  · (first | (obtain ⟨rfl, rfl⟩ := inv_v h) | (obtain ⟨rfl, rfl⟩ := inv_b h) | (obtain ⟨rfl, rfl⟩ := inv_vs h) | (obtain ⟨rfl, rfl⟩ := inv_fl h) | (obtain rfl := inv_u h) | (obtain ⟨rfl, rfl⟩ := inv_it h) | cases h)
theorem methOn {mi : MI} {m : Str} {v : Value} {l : List AV} {s₁ : St} {trees : List (Bool × Sem Value)} {b : AV} (hm : m = Str.ofString (miName mi)) (h : callM mi b l s₁ = some (.v a, s'))
    (r : VR P ρ s.nx S.heap v b) (R : SR P ρ s.σ s.nx S.heap) (hp : trees.any (·.1) = false) {Q : Value → Shared → Prop} (k : wpAny (model prog w) A (spliced trees) (fun vs S' => wpAny (model prog w) A (call (.builtin (miId mi)) (v :: vs)) Q NoE S') NoE S)
    (hk : ∀ j, b = .loc j → ∃ l, lookN s.σ j = some (.list l)) : MethodOnS prog w A NoE m v pos trees Q S := by
  subst hm
  have lst : ∀ {id : String} {nm : Str}, Slot "list" nm id → typeOf (.builtin id) = pure (.type "method_descriptor") → (∃ j, b = .loc j) → miId mi = id → MethodOnS prog w A NoE nm v pos trees Q S := by
    rintro id nm sl ty ⟨j, rfl⟩ rfl
    obtain ⟨l', e⟩ := hk j rfl
    obtain ⟨hj, rfl⟩ := r.locI
    obtain ⟨vs, n, g, z, lb⟩ := R.rel j _ e
    refine ⟨"list", _, F.plainAttrs_list, sl, ty, (isList_of g).typeIs, fun a q => ?_, ?_⟩
    · cases q; exact ⟨_, g, rfl⟩
    · exact Calls.callWith_builtin (first := [.ref (ρ j)]) hp (evalArgs_all hp k)
  cases mi with
  | append => exact lst slot_list_append PySem.F.type_list_append (appendM_loc h) rfl
  | extend => exact lst PySem.F.slot_list_extend PySem.F.type_list_extend (extendM_loc h) rfl
  | reverse => exact lst PySem.F.slot_list_reverse PySem.F.type_list_reverse (reverseM_loc h) rfl
  | insert => exact lst PySem.F.slot_list_insert PySem.F.type_list_insert (insertM_loc h) rfl
  | bitlen =>
    obtain ⟨i, rfl⟩ := bitlenM_int h
    obtain ⟨t, rfl⟩ := r.intI
    exact ⟨"int", _, F.plainAttrs_int, slot_int_bit_length, type_int_bit_length, typeIs_int _ _ _, (fun _ q => nomatch q), Calls.callWith_builtin (first := [.int i t]) hp (evalArgs_all hp k)⟩

theorem evs_ok (H : Sound prog w P d self) {l : List Expr} {as : List AV} (h : stepEvs self l E s = some (.vs as, s')) : l.length = as.length ∧ (∀ env, starEach l env = l.map fun e => (false, eval e env)) ∧ ∀ {A env D ρ S}, Pre P d A ρ s S D E env → ∀ pos, wpAny (model prog w) A (spliced (backTo pos (starEach l env))) (PVs P D E env ρ s S s' as) NoE S := by
  unfold stepEvs at h
  cases l with
  | nil =>
    (first | (obtain ⟨rfl, rfl⟩ := inv_v h) | (obtain ⟨rfl, rfl⟩ := inv_b h) | (obtain ⟨rfl, rfl⟩ := inv_vs h) | (obtain ⟨rfl, rfl⟩ := inv_fl h) | (obtain rfl := inv_u h) | (obtain ⟨rfl, rfl⟩ := inv_it h) | cases h)
    exact ⟨rfl, fun _ => rfl, fun p pos => args_nil ⟨_, .refl p, .nil⟩⟩
  | cons e r =>
    obtain ⟨a1, s1, h1, h⟩ := thenV_some h
    obtain ⟨l1, s2, h2, h⟩ := thenVs_some h
    (first | (obtain ⟨rfl, rfl⟩ := inv_v h) | (obtain ⟨rfl, rfl⟩ := inv_b h) | (obtain ⟨rfl, rfl⟩ := inv_vs h) | (obtain ⟨rfl, rfl⟩ := inv_fl h) | (obtain rfl := inv_u h) | (obtain ⟨rfl, rfl⟩ := inv_it h) | cases h)
    obtain ⟨ho, ke⟩ := H.ev h1
    obtain ⟨hl, hst, ka⟩ := H.evs h2
    refine ⟨by simp [hl], fun env => by rw [starEach_cons ho, hst]; rfl, fun p pos => ?_⟩
    refine args_cons (seqV p (ke p) fun ρ₁ v S₁ e₁ p₁ r₁ => wpAny_mono (ka p₁ pos) (fun vs S₂ ⟨ρ₂, e₂, r₂⟩ => ⟨ρ₂, e₁.trans p e₂, .cons _ _ _ _ (r₁.later (e₂.later p₁)) r₂⟩) fun _ _ x => x) (starEach_cons ho _ _)
theorem ats_ok (H : Sound prog w P d self) {o : Bool} {l : List Expr} {b : Bool} (h : stepAts self o l E s = some (.b b, s')) (p : Pre P d A ρ s S D E env) : wpAny (model prog w) A (allTrue (opB o) l env) (PB P D E env ρ s S s' b) NoE S := by
  unfold stepAts at h
  cases l with
  | nil =>
    (first | (obtain ⟨rfl, rfl⟩ := inv_v h) | (obtain ⟨rfl, rfl⟩ := inv_b h) | (obtain ⟨rfl, rfl⟩ := inv_vs h) | (obtain ⟨rfl, rfl⟩ := inv_fl h) | (obtain rfl := inv_u h) | (obtain ⟨rfl, rfl⟩ := inv_it h) | cases h)
    cases o with
    | true => exact wpAny_allTrue_And_nil ⟨rfl, _, .refl p⟩
    | false => exact wpAny_allTrue_Or_nil ⟨rfl, _, .refl p⟩
  | cons x r =>
    obtain ⟨c, s1, h1, h⟩ := thenB_some h
    cases o with
    | true =>
      refine wpAny_allTrue_And_cons (seqB p (H.tr h1 p) fun ρ₁ S₁ e₁ p₁ => ?_)
      cases c with
      | true => exact endB p e₁ (H.ats h p₁)
      | false => (first | (obtain ⟨rfl, rfl⟩ := inv_v h) | (obtain ⟨rfl, rfl⟩ := inv_b h) | (obtain ⟨rfl, rfl⟩ := inv_vs h) | (obtain ⟨rfl, rfl⟩ := inv_fl h) | (obtain rfl := inv_u h) | (obtain ⟨rfl, rfl⟩ := inv_it h) | cases h); exact ⟨rfl, ρ₁, e₁⟩
    | false =>
      refine wpAny_allTrue_Or_cons (seqB p (H.tr h1 p) fun ρ₁ S₁ e₁ p₁ => ?_)
      cases c with
      | false => exact endB p e₁ (H.ats h p₁)
      | true => (first | (obtain ⟨rfl, rfl⟩ := inv_v h) | (obtain ⟨rfl, rfl⟩ := inv_b h) | (obtain ⟨rfl, rfl⟩ := inv_vs h) | (obtain ⟨rfl, rfl⟩ := inv_fl h) | (obtain rfl := inv_u h) | (obtain ⟨rfl, rfl⟩ := inv_it h) | cases h); exact ⟨rfl, ρ₁, e₁⟩
theorem bop_ok (H : Sound prog w P d self) {o : Bool} {l : List Expr} (h : stepBop self o l E s = some (.v a, s')) (p : Pre P d A ρ s S D E env) : wpAny (model prog w) A (eval (.BoolOp (opB o) l pos) env) (PV P D E env ρ s S s' a) NoE S := by
  unfold stepBop at h
  cases l with
  | nil => (first | (obtain ⟨rfl, rfl⟩ := inv_v h) | (obtain ⟨rfl, rfl⟩ := inv_b h) | (obtain ⟨rfl, rfl⟩ := inv_vs h) | (obtain ⟨rfl, rfl⟩ := inv_fl h) | (obtain rfl := inv_u h) | (obtain ⟨rfl, rfl⟩ := inv_it h) | cases h)
  | cons x r =>
    cases r with
    | nil => exact BoolOp_one ((H.ev h).2 p)
    | cons y r =>
      obtain ⟨v, s1, h1, h⟩ := thenV_some h
      split at h
      rotate_left
      · (first | (obtain ⟨rfl, rfl⟩ := inv_v h) | (obtain ⟨rfl, rfl⟩ := inv_b h) | (obtain ⟨rfl, rfl⟩ := inv_vs h) | (obtain ⟨rfl, rfl⟩ := inv_fl h) | (obtain rfl := inv_u h) | (obtain ⟨rfl, rfl⟩ := inv_it h) | cases h)
      rename_i c hc
      have tr : ∀ {ρ₁ : Nat → Addr} {u : Value} {S₁ : Shared}, Pre P d A ρ₁ s1 S₁ D E env → VR P ρ₁ s1.nx S₁.heap u v → wpAny (model prog w) A (truthy u) (fun b S₂ => b = c ∧ TokOnly S₁ S₂) NoE S₁ := fun p₁ r₁ => truth_ok hc r₁ p₁.sr
      cases o with
      | true =>
        refine BoolOp_and (seqV p ((H.ev h1).2 p) fun ρ₁ u S₁ e₁ p₁ r₁ => wpAny_mono (tr p₁ r₁) (fun b S₂ ⟨hb, T⟩ => ?_) fun _ _ x => x.elim)
        subst hb
        have e₂ := p₁.tok T
        cases b with
        | true => exact endV p (e₁.trans p e₂) (H.bop h (p₁.step e₂) _)
        | false => (first | (obtain ⟨rfl, rfl⟩ := inv_v h) | (obtain ⟨rfl, rfl⟩ := inv_b h) | (obtain ⟨rfl, rfl⟩ := inv_vs h) | (obtain ⟨rfl, rfl⟩ := inv_fl h) | (obtain rfl := inv_u h) | (obtain ⟨rfl, rfl⟩ := inv_it h) | cases h); exact ⟨ρ₁, e₁.trans p e₂, r₁.later (e₂.later p₁)⟩
      | false =>
        refine BoolOp_or (seqV p ((H.ev h1).2 p) fun ρ₁ u S₁ e₁ p₁ r₁ => wpAny_mono (tr p₁ r₁) (fun b S₂ ⟨hb, T⟩ => ?_) fun _ _ x => x.elim)
        subst hb
        have e₂ := p₁.tok T
        cases b with
        | false => exact endV p (e₁.trans p e₂) (H.bop h (p₁.step e₂) _)
        | true => (first | (obtain ⟨rfl, rfl⟩ := inv_v h) | (obtain ⟨rfl, rfl⟩ := inv_b h) | (obtain ⟨rfl, rfl⟩ := inv_vs h) | (obtain ⟨rfl, rfl⟩ := inv_fl h) | (obtain rfl := inv_u h) | (obtain ⟨rfl, rfl⟩ := inv_it h) | cases h); exact ⟨ρ₁, e₁.trans p e₂, r₁.later (e₂.later p₁)⟩
theorem tests_false {l : List Expr} {Q : Bool → Shared → Prop} (q : Q false S) : wpAny (model prog w) A (forIn l false fun c r => if r = true then do let ok ← isTrue c env (eval c env); pure (ForInStep.yield ok) else pure (ForInStep.yield r)) Q NoE S := by
  induction l with
  | nil => rw [List.forIn_nil]; exact wpAny_pure q
  | cons x r ih =>
    rw [List.forIn_cons]
    exact wpAny_bind (wpAny_pure ih)
theorem tests_ok (H : Sound prog w P d self) {l : List Expr} {b : Bool} (h : stepTests self l E s = some (.b b, s')) (p : Pre P d A ρ s S D E env) : wpAny (model prog w) A (testsOf l env) (PB P D E env ρ s S s' b) NoE S := by
  unfold stepTests at h
  cases l with
  | nil =>
    (first | (obtain ⟨rfl, rfl⟩ := inv_v h) | (obtain ⟨rfl, rfl⟩ := inv_b h) | (obtain ⟨rfl, rfl⟩ := inv_vs h) | (obtain ⟨rfl, rfl⟩ := inv_fl h) | (obtain rfl := inv_u h) | (obtain ⟨rfl, rfl⟩ := inv_it h) | cases h)
    show wpAny _ _ (forIn [] true _) _ _ _
    rw [List.forIn_nil]
    exact wpAny_pure ⟨rfl, _, .refl p⟩
  | cons x r =>
    obtain ⟨c, s1, h1, h⟩ := thenB_some h
    show wpAny _ _ (forIn (x :: r) true _) _ _ _
    rw [List.forIn_cons]
    refine wpAny_bind (wpAny_bind (seqB p (H.tr h1 p) fun ρ₁ S₁ e₁ p₁ => wpAny_pure ?_))
    cases c with
    | true => exact endB p e₁ (H.tests h p₁)
    | false => (first | (obtain ⟨rfl, rfl⟩ := inv_v h) | (obtain ⟨rfl, rfl⟩ := inv_b h) | (obtain ⟨rfl, rfl⟩ := inv_vs h) | (obtain ⟨rfl, rfl⟩ := inv_fl h) | (obtain rfl := inv_u h) | (obtain ⟨rfl, rfl⟩ := inv_it h) | cases h); exact tests_false ⟨rfl, ρ₁, e₁⟩
theorem trA_ok {v : Value} {b : Bool} (h : trA a s = some (.b b, s')) (p : Pre P d A ρ s S D E env) (r : VR P ρ s.nx S.heap v a) : wpAny (model prog w) A (truthy v) (PB P D E env ρ s S s' b) NoE S := by
  unfold trA at h
  split at h
  · rename_i c q
    (first | (obtain ⟨rfl, rfl⟩ := inv_v h) | (obtain ⟨rfl, rfl⟩ := inv_b h) | (obtain ⟨rfl, rfl⟩ := inv_vs h) | (obtain ⟨rfl, rfl⟩ := inv_fl h) | (obtain rfl := inv_u h) | (obtain ⟨rfl, rfl⟩ := inv_it h) | cases h)
    exact wpAny_mono (truth_ok q r p.sr) (fun _ _ ⟨hb, T⟩ => ⟨hb, ρ, p.tok T⟩) fun _ _ x => x
  · (first | (obtain ⟨rfl, rfl⟩ := inv_v h) | (obtain ⟨rfl, rfl⟩ := inv_b h) | (obtain ⟨rfl, rfl⟩ := inv_vs h) | (obtain ⟨rfl, rfl⟩ := inv_fl h) | (obtain rfl := inv_u h) | (obtain ⟨rfl, rfl⟩ := inv_it h) | cases h)
inductive TRV : Expr → RV → Prop
  | andE (l pos) : TRV (.BoolOp .And l pos) (.andE l)
  | orE (l pos) : TRV (.BoolOp .Or l pos) (.orE l)
  | not (x pos) : TRV (.UnaryOp .Not x pos) (.not x)
  | cmp (l op r pos) : TRV (.Compare l [op] [r] pos) (.cmp l op r)
  | gen (e) : (∀ env whole, isTrue e env whole = do let v ← whole; standAt e.pos; holding [v] (truthy v)) → TRV e .gen
  | other (e) : TRV e .other
theorem viewR_spec (e : Expr) : viewE e = .other ∨ TRV e (viewR e) := by
  unfold viewR
  have h := viewE_spec e
  generalize viewE e = v at h
  cases h with
  | andE => exact .inr (.andE _ _)
  | orE => exact .inr (.orE _ _)
  | not => exact .inr (.not _ _)
  | cmp => exact .inr (.cmp _ _ _ _)
  | ife => exact .inr (.other _)
  | other => exact .inl rfl
  | _ => exact .inr (.gen _ fun _ _ => rfl)
theorem tr_ok (hP : PhiOk P Φ xs) (H : Sound prog w P d self) {e : Expr} {b : Bool} (h : (boxTr Φ self e).go E s = some (.b b, s')) (p : Pre P d A ρ s S D E env) : wpAny (model prog w) A (isTrue e env (eval e env)) (PB P D E env ρ s S s' b) NoE S := by
  unfold boxTr at h
  have sp := viewR_spec e
  have gen : (∀ env whole, isTrue e env whole = do let v ← whole; standAt e.pos; holding [v] (truthy v)) → thenV (self (.ev e) E s) trA = some (.b b, s') → wpAny (model prog w) A (isTrue e env (eval e env)) (PB P D E env ρ s S s' b) NoE S := by
    intro hg h
    obtain ⟨a1, s1, h1, h⟩ := thenV_some h
    exact isTrue_plain (seqV p ((H.ev h1).2 p) fun ρ₁ v S₁ e₁ p₁ r₁ => endB p e₁ (trA_ok h p₁ r₁)) (hg _ _)
  rcases sp with sp | sp
  · have : viewR e = .gen := by unfold viewR; rw [sp]
    rw [this] at h
    obtain ⟨a1, s1, h1, _⟩ := thenV_some h
    exact absurd sp (H.ev h1).1
  · generalize viewR e = v at sp h
    cases sp with
    | andE l pos => exact wpAny_isTrue_BoolOp (H.ats h p)
    | orE l pos => exact wpAny_isTrue_BoolOp (H.ats h p)
    | not x pos =>
      replace h : thenB (self (.tr x) E s) (fun b s => some (.b (!b), s)) = some (.b b, s') := h
      obtain ⟨c, s1, h1, h⟩ := thenB_some h
      (first | (obtain ⟨rfl, rfl⟩ := inv_v h) | (obtain ⟨rfl, rfl⟩ := inv_b h) | (obtain ⟨rfl, rfl⟩ := inv_vs h) | (obtain ⟨rfl, rfl⟩ := inv_fl h) | (obtain rfl := inv_u h) | (obtain ⟨rfl, rfl⟩ := inv_it h) | cases h)
      exact wpAny_isTrue_Not (seqB p (H.tr h1 p) fun ρ₁ S₁ e₁ p₁ => ⟨rfl, ρ₁, e₁⟩)
    | cmp l op r pos => exact ok_trCmp hP H h p
    | gen _ hg => exact gen hg h
    | other => (first | (obtain ⟨rfl, rfl⟩ := inv_v h) | (obtain ⟨rfl, rfl⟩ := inv_b h) | (obtain ⟨rfl, rfl⟩ := inv_vs h) | (obtain ⟨rfl, rfl⟩ := inv_fl h) | (obtain rfl := inv_u h) | (obtain ⟨rfl, rfl⟩ := inv_it h) | cases h)
end
end Mine
set_option maxRecDepth 100000
namespace Mine
open PySem PySem.Calls PyProof.Rows PySem.W PySem.W.Z

section
variable {prog : Program} {w : World} {A : Around} {P : Par} {Φ : Phi} {xs : List (Int × Tok)} {ρ : Nat → Addr} {s s' : St} {S S' : Shared} {a : AV} {D : Addr} {E : AEnv} {env : Env} {d : Nat} {body : List Stmt} {mg mb : Str → Option Value} {self : Tk → AEnv → St → Ans} {pos : Pos}
theorem trees_all {l : List Expr} (h : ∀ env, starEach l env = l.map fun e => (false, eval e env)) (pos : Pos) (env : Env) : ((backTo pos (starEach l env)).all fun x => !x.1) = true := by
  have := trees_plain h pos env
  rw [List.any_eq_false] at this
  rw [List.all_eq_true]
  intro x hx
  have := this x hx
  simpa using this
theorem ok_meth (H : Sound prog w P d self) {x m : Str} {xp apos : Pos} {args : List Expr} (hl : apos.endLine = pos.line) (hn : args.length < 20) (h : evMeth self (.Name x xp) m args E s = some (.v a, s')) (p : Pre P d A ρ s S D E env) :
    wpAny (model prog w) A (eval (.Call (.Attribute (.Name x xp) m apos) args [] pos) env) (PV P D E env ρ s S s' a) NoE S := by
  unfold evMeth at h
  split at h
  rotate_left
  · (first | (obtain ⟨rfl, rfl⟩ := inv_v h) | (obtain ⟨rfl, rfl⟩ := inv_b h) | (obtain ⟨rfl, rfl⟩ := inv_vs h) | (obtain ⟨rfl, rfl⟩ := inv_fl h) | (obtain rfl := inv_u h) | (obtain ⟨rfl, rfl⟩ := inv_it h) | cases h)
  rename_i mi hm
  obtain ⟨b, s1, h1, h⟩ := thenV_some h
  split at h
  rotate_left
  · (first | (obtain ⟨rfl, rfl⟩ := inv_v h) | (obtain ⟨rfl, rfl⟩ := inv_b h) | (obtain ⟨rfl, rfl⟩ := inv_vs h) | (obtain ⟨rfl, rfl⟩ := inv_fl h) | (obtain rfl := inv_u h) | (obtain ⟨rfl, rfl⟩ := inv_it h) | cases h)
  rename_i hb
  obtain ⟨l, s2, h2, h⟩ := thenVs_some h
  obtain ⟨_, hst, ka⟩ := H.evs h2
  refine wpAny_Call_method_lateS rfl ?_ (by simp [hl]) (seqV p ((H.ev h1).2 p) fun ρ₁ v S₁ e₁ p₁ r₁ => ?_)
  · have := trees_all hst pos env
    have e2 : ((backToKw pos (keywordEach [] env)).all fun x => x.1.isSome) = true := rfl
    rw [this, e2]
    simp
    omega
  · refine methOn (miIn_name hm) h r₁ p₁.sr (trees_plain hst pos env) (seqVs p₁ (ka p₁ pos) fun ρ₂ vs S₂ e₂ p₂ r₂ => endV p (e₁.trans p e₂) ?_) ?_
    · obtain ⟨hl, k⟩ := callM_ok (prog := prog) (w := w) (A := A) (X := NoX) h (r₁.later (e₂.later p₁)) r₂ p₂.sr p₂.inv
      exact wpAny_mono k (fun _ _ q => p₂.pv hl q) fun _ _ x => x
    · rintro j rfl
      unfold baseOk at hb
      simp only at hb
      split at hb
      · rename_i l' e; exact ⟨l', e⟩
      · cases hb

inductive IVR : Expr → IV → Prop
  | range (f args p pos) : seq (Str.ofString "range") f = true → IVR (.Call (.Name f p) args [] pos) (.range f args)
  | reversed (f args p pos) : seq (Str.ofString "reversed") f = true → IVR (.Call (.Name f p) args [] pos) (.reversed f args)
  | gen (e) : IVR e .gen
theorem viewI_spec (e : Expr) : IVR e (viewI e) := by
  unfold viewI
  have h := viewE_spec e
  generalize viewE e = v at h
  cases h with
  | call f args p pos =>
    simp only
    cases q : seq (Str.ofString "range") f with
    | true => exact .range _ _ _ _ q
    | false =>
      cases q2 : seq (Str.ofString "reversed") f with
      | true => exact .reversed _ _ _ _ q2
      | false => exact .gen _
  | _ => exact .gen _
theorem iter_step (G : Glob P body mg mb) (H : Sound prog w P d self) {e : Expr} {it : AIt} (h : stepIter self e E s = some (.it it, s')) : viewE e ≠ .other ∧ ∀ {A env D ρ S}, Pre P d A ρ s S D E env → wpAny (model prog w) A (eval e env) (fun x S₁ => wpAny (model prog w) A (pyIter x) (PI P D E env ρ s S s' it) NoE S₁) NoE S := by
  unfold stepIter at h
  have sp := viewI_spec e
  generalize viewI e = v at h sp
  cases sp with
  | range f args np pos hf =>
    simp only at h
    split at h
    · rename_i ek
      obtain ⟨l, s1, h1, h⟩ := thenVs_some h
      obtain ⟨hn, hv⟩ := G.range f hf
      obtain ⟨_, hst, ka⟩ := H.evs h1
      refine ⟨(by intro q; cases q), fun p => Call_Name rfl (name_builtin G p.fr p.inv ek hn hv ?_)⟩
      exact PyProof.Rows.callWith_type (trees_plain hst _ _) (evalArgs_all (trees_plain hst _ _) (seqVs p (ka p _) fun ρ₁ vs S₁ e₁ p₁ r₁ => wpAny_mono (rangeA_ok h p₁ r₁) (fun x S₂ k => endI p e₁ k) fun _ _ x => x))
    · (first | (obtain ⟨rfl, rfl⟩ := inv_v h) | (obtain ⟨rfl, rfl⟩ := inv_b h) | (obtain ⟨rfl, rfl⟩ := inv_vs h) | (obtain ⟨rfl, rfl⟩ := inv_fl h) | (obtain rfl := inv_u h) | (obtain ⟨rfl, rfl⟩ := inv_it h) | cases h)
  | reversed f args np pos hf =>
    simp only at h
    split at h
    · rename_i ek
      obtain ⟨l, s1, h1, h⟩ := thenVs_some h
      obtain ⟨hn, hv⟩ := G.reversed f hf
      obtain ⟨_, hst, ka⟩ := H.evs h1
      refine ⟨(by intro q; cases q), fun p => Call_Name rfl (name_builtin G p.fr p.inv ek hn hv ?_)⟩
      exact PyProof.Rows.callWith_type (trees_plain hst _ _) (evalArgs_all (trees_plain hst _ _) (seqVs p (ka p _) fun ρ₁ vs S₁ e₁ p₁ r₁ => wpAny_mono (reversedA_ok h p₁ r₁) (fun x S₂ k => endI p e₁ k) fun _ _ x => x))
    · (first | (obtain ⟨rfl, rfl⟩ := inv_v h) | (obtain ⟨rfl, rfl⟩ := inv_b h) | (obtain ⟨rfl, rfl⟩ := inv_vs h) | (obtain ⟨rfl, rfl⟩ := inv_fl h) | (obtain rfl := inv_u h) | (obtain ⟨rfl, rfl⟩ := inv_it h) | cases h)
  | gen =>
    obtain ⟨a1, s1, h1, h⟩ := thenV_some h
    obtain ⟨ho, ke⟩ := H.ev h1
    exact ⟨ho, fun p => seqV p (ke p) fun ρ₁ v S₁ e₁ p₁ r₁ => endI p e₁ (itA_ok h p₁ r₁)⟩
end
end Mine
set_option maxRecDepth 100000
namespace Mine
open PySem PySem.Calls PyProof.Rows PySem.W PySem.W.Z

section
variable {prog : Program} {w : World} {A : Around} {P : Par} {Φ : Phi} {xs : List (Int × Tok)} {ρ : Nat → Addr} {s s' : St} {S S' : Shared} {a : AV} {D : Addr} {E : AEnv} {env : Env} {d : Nat} {body : List Stmt} {mg mb : Str → Option Value} {self : Tk → AEnv → St → Ans} {pos : Pos}
theorem seqU {α : Type} {m : Sem α} {f : α → Shared → Prop} {s₁ : St} (p : Pre P d A ρ s S D E env) (h : wpAny (model prog w) A m (fun _ => PU P D E env ρ s S s₁) NoE S)
    (k : ∀ ρ₁ x S₁, Step P D E env ρ s S ρ₁ s₁ S₁ → Pre P d A ρ₁ s₁ S₁ D E env → f x S₁) : wpAny (model prog w) A m f NoE S :=
  wpAny_mono h (fun v S₁ ⟨ρ₁, e⟩ => k ρ₁ v S₁ e (p.step e)) fun _ _ x => x
theorem endU {α : Type} {m : Sem α} {s₁ : St} {S₁ T : Shared} {ρ₁ : Nat → Addr} (p : Pre P d A ρ s S D E env) (e : Step P D E env ρ s S ρ₁ s₁ S₁) (h : wpAny (model prog w) A m (fun _ => PU P D E env ρ₁ s₁ S₁ s') NoE T) : wpAny (model prog w) A m (fun _ => PU P D E env ρ s S s') NoE T :=
  wpAny_mono h (fun _ _ ⟨ρ', e'⟩ => ⟨ρ', e.trans p e'⟩) fun _ _ x => x
/-- the same, where the places stand -/
theorem put_okL {x : Str} {v : Value} (h : putName x a E s = some (.u, s')) (p : Pre P d A ρ s S D E env) (r : VR P ρ s.nx S.heap v a) : wpAny (model prog w) A (storeName env x v) (fun _ S' => Step P D E env ρ s S ρ s' S') NoE S := by
  rw [putName_eq] at h
  have hk := p.fr.names x
  split at h
  · rename_i e
    rw [e] at hk
    rw [putS_eq] at h
    (first | (obtain ⟨rfl, rfl⟩ := inv_v h) | (obtain ⟨rfl, rfl⟩ := inv_b h) | (obtain ⟨rfl, rfl⟩ := inv_vs h) | (obtain ⟨rfl, rfl⟩ := inv_fl h) | (obtain rfl := inv_u h) | (obtain ⟨rfl, rfl⟩ := inv_it h) | cases h)
    obtain ⟨m, hn, hm⟩ := p.fr.ns
    have hl := p.fr.loc
    refine wpAny_storeName_local (m := m) hk (by rw [hl]; exact hn) (fun h' hn' hs => ?_) (by rw [p.fr.kind]; rfl)
    rw [hl] at hn' hs
    have kp := kpt_same hs
    have ni : ∀ b, AtD D b → ∀ o, S.heap.get? b = some o → ¬ Imm o ∧ ¬ Tab o := fun b x o e => p.fr.xok b o x e
    have L : Later ρ s.nx S.heap ρ s.nx h' := later_kpt kp fun b x o e => (ni b x o e).1
    refine ⟨Ext.beside p.sr p.inv kp (by rintro b rfl; obtain ⟨o, _, _, q, _⟩ := hn'; exact ⟨o, q⟩) ?_, ⟨p.fr.ok, p.fr.kind, p.fr.loc, p.fr.glob, p.fr.blt, p.fr.defs, p.fr.names, p.fr.cells, p.fr.up, _, hn', fun y b q => ?_⟩, ⟨rfl, rfl, rfl⟩⟩
    · rintro b rfl
      exact ⟨p.fr.up, fun o e => ni _ rfl o e, fun j o e => ns_apart hn p.sr e⟩
    · rw [setL_look] at q
      by_cases c : y = x
      · rw [if_pos c] at q
        cases q
        exact ⟨v, if_pos c, r.later L⟩
      · rw [if_neg c] at q
        obtain ⟨u, q1, q2⟩ := hm y b q
        exact ⟨u, by simp only [if_neg c]; exact q1, q2.later L⟩
  · rename_i e
    rw [e] at hk
    split at h
    · rename_i j ej
      split at h
      · rename_i c ec
        obtain ⟨σ', hσ, h⟩ := putN_some h
        (first | (obtain ⟨rfl, rfl⟩ := inv_v h) | (obtain ⟨rfl, rfl⟩ := inv_b h) | (obtain ⟨rfl, rfl⟩ := inv_vs h) | (obtain ⟨rfl, rfl⟩ := inv_fl h) | (obtain rfl := inv_u h) | (obtain ⟨rfl, rfl⟩ := inv_it h) | cases h)
        have : ∃ v, S.heap.IsCell (ρ j) v := by
          have := p.sr.rel j _ ec
          cases c with
          | none => exact this
          | some y => obtain ⟨v, q, _⟩ := this; exact ⟨_, q⟩
        obtain ⟨v₀, hc⟩ := this
        refine wpAny_storeName_cell p.fr.kind hk (p.fr.cells x j ej).2 hc fun h' hc' hs => ?_
        have L : Later ρ s.nx S.heap ρ s.nx h' := later_kpt (kpt_same hs) (by rintro b rfl o q; exact ((p.sr.rel j _ ec).kind q).1)
        have ex : Ext P NoX ρ s.σ s.nx S.heap ρ σ' s.nx h' := Ext.write p.sr p.inv ec (kpt_same hs) hσ ⟨v, hc', r.later L⟩
        exact p.ofNo (s' := withσ s σ') rfl ex ⟨rfl, rfl, rfl⟩
      · (first | (obtain ⟨rfl, rfl⟩ := inv_v h) | (obtain ⟨rfl, rfl⟩ := inv_b h) | (obtain ⟨rfl, rfl⟩ := inv_vs h) | (obtain ⟨rfl, rfl⟩ := inv_fl h) | (obtain rfl := inv_u h) | (obtain ⟨rfl, rfl⟩ := inv_it h) | cases h)
    · (first | (obtain ⟨rfl, rfl⟩ := inv_v h) | (obtain ⟨rfl, rfl⟩ := inv_b h) | (obtain ⟨rfl, rfl⟩ := inv_vs h) | (obtain ⟨rfl, rfl⟩ := inv_fl h) | (obtain rfl := inv_u h) | (obtain ⟨rfl, rfl⟩ := inv_it h) | cases h)
  · (first | (obtain ⟨rfl, rfl⟩ := inv_v h) | (obtain ⟨rfl, rfl⟩ := inv_b h) | (obtain ⟨rfl, rfl⟩ := inv_vs h) | (obtain ⟨rfl, rfl⟩ := inv_fl h) | (obtain rfl := inv_u h) | (obtain ⟨rfl, rfl⟩ := inv_it h) | cases h)

theorem put_ok {x : Str} {v : Value} (h : putName x a E s = some (.u, s')) (p : Pre P d A ρ s S D E env) (r : VR P ρ s.nx S.heap v a) : wpAny (model prog w) A (storeName env x v) (fun _ => PU P D E env ρ s S s') NoE S :=
  wpAny_mono (put_okL h p r) (fun _ _ e => ⟨ρ, e⟩) fun _ _ x => x

theorem assign_Subscript (o i : Expr) (pos : Pos) (env : Env) (v : Value) : assign (.Subscript o i pos) env v = (do
    let ov ← holding [v] (eval o env)
    let iv ← holding [v, ov] (eval i env)
    standAt pos
    holding [v, ov, iv] (setItem ov iv v)
    release (match i with | .Slice _ _ none _ => [iv, v, ov] | _ => [v, ov, iv]) []) := rfl

theorem listWriteG {X : Addr → Prop} {R : Type} {j : Nat} {l l' : List AV} {vs vs' : List Value} {n : Nat} {f : Array Value → Array Value} {k : Sto → Option R} {res : R} (e : lookN s.σ j = some (.list l)) (g : S.heap.get? (ρ j) = some (listOf vs.toArray n)) (hf : f vs.toArray = vs'.toArray)
    (r : VRs P ρ s.nx S.heap vs' l') (h : putL l' s.σ j k = some res) (R' : SR P ρ s.σ s.nx S.heap) (I : Inv P S.heap) : ∃ σ', Ext P X ρ s.σ s.nx S.heap ρ σ' s.nx (S.heap.update (ρ j) (Obj.mapSeq f)) ∧ k σ' = some res := by
  unfold putL at h
  cases q : short l' with
  | false => rw [q] at h; cases h
  | true =>
    rw [q] at h
    simp only at h
    obtain ⟨σ', hσ, h⟩ := putN_some h
    have sb : Heap.SameBut (ρ j) S.heap (S.heap.update (ρ j) (Obj.mapSeq f)) := Heap.SameBut.update ..
    have u := PySem.IsL.update g f
    rw [hf] at u
    have L : Later ρ s.nx S.heap ρ s.nx (S.heap.update (ρ j) (Obj.mapSeq f)) := later_kpt (kpt_same sb) (by
      rintro b rfl o q
      exact ((R'.rel j _ e).kind q).1)
    exact ⟨σ', Ext.write R' I e (kpt_same sb) hσ ⟨vs', _, u, r.later L, short_len q⟩, h⟩
theorem setA_ok {b c : AV} {v u i : Value} (h : setA a b c s = some (.u, s')) (p : Pre P d A ρ s S D E env) (r : VR P ρ s.nx S.heap v a) (rb : VR P ρ s.nx S.heap u b) (rc : VR P ρ s.nx S.heap i c) : wpAny (model prog w) A (setItem u i v) (fun _ => PU P D E env ρ s S s') NoE S := by
  unfold setA at h
  split at h
  · rename_i j k
    obtain ⟨hj, rfl⟩ := rb.locI
    obtain ⟨t, rfl⟩ := rc.intI
    split at h
    · rename_i l e
      replace h := natOf_some h
      obtain ⟨n, rfl, h⟩ := h
      split at h
      · rename_i l' el
        obtain ⟨hn, rfl⟩ := setAt_eq el
        obtain ⟨us, m, g, z, lb⟩ := p.sr.rel j _ e
        have len := z.length
        obtain ⟨σ', e', h⟩ := listWriteG (X := NoX) (f := (·.setIfInBounds n v)) (vs' := us.set n v) e g (by apply Array.toList_inj.mp; simp) (z.set r) h p.sr p.inv
        (first | (obtain ⟨rfl, rfl⟩ := inv_v h) | (obtain ⟨rfl, rfl⟩ := inv_b h) | (obtain ⟨rfl, rfl⟩ := inv_vs h) | (obtain ⟨rfl, rfl⟩ := inv_fl h) | (obtain rfl := inv_u h) | (obtain ⟨rfl, rfl⟩ := inv_it h) | cases h)
        refine ki_setAt g (Int.natCast_nonneg _) (by omega) (by simp; omega) ?_
        exact ⟨ρ, p.ofNo (s' := withσ s σ') rfl e' ⟨rfl, rfl, rfl⟩⟩
      · (first | (obtain ⟨rfl, rfl⟩ := inv_v h) | (obtain ⟨rfl, rfl⟩ := inv_b h) | (obtain ⟨rfl, rfl⟩ := inv_vs h) | (obtain ⟨rfl, rfl⟩ := inv_fl h) | (obtain rfl := inv_u h) | (obtain ⟨rfl, rfl⟩ := inv_it h) | cases h)
    · (first | (obtain ⟨rfl, rfl⟩ := inv_v h) | (obtain ⟨rfl, rfl⟩ := inv_b h) | (obtain ⟨rfl, rfl⟩ := inv_vs h) | (obtain ⟨rfl, rfl⟩ := inv_fl h) | (obtain rfl := inv_u h) | (obtain ⟨rfl, rfl⟩ := inv_it h) | cases h)
  · (first | (obtain ⟨rfl, rfl⟩ := inv_v h) | (obtain ⟨rfl, rfl⟩ := inv_b h) | (obtain ⟨rfl, rfl⟩ := inv_vs h) | (obtain ⟨rfl, rfl⟩ := inv_fl h) | (obtain rfl := inv_u h) | (obtain ⟨rfl, rfl⟩ := inv_it h) | cases h)

inductive TVR : Expr → TV → Prop
  | name (x pos) : TVR (.Name x pos) (.name x)
  | tup (ts k pos) : TVR (.Tuple ts k pos) (.tup ts)
  | sub (o i pos) : TVR (.Subscript o i pos) (.sub o i)
  | other (e) : TVR e .other
theorem viewT_spec (e : Expr) : TVR e (viewT e) := by
  cases e with
  | Name => exact .name _ _
  | Tuple => exact .tup _ _ _
  | Subscript => exact .sub _ _ _
  | _ => exact .other _
theorem assignEach_cons {t : Expr} (h : noStar t) (r : List Expr) (env : Env) : assignEach (t :: r) env = (false, assign t env) :: assignEach r env := by
  cases t with
  | Starred => exact absurd rfl h
  | _ => rfl
theorem extBut_fresh {h h' : Heap} (x : Heap.ExtBut h.objs.size h h') : ∀ b o, h.get? b = some o → h'.get? b = some o := fun b o e => x b o (Nat.ne_of_lt (Heap.lt_size e)) e
theorem find_none {ts : List Expr} {env : Env} : ((ts.map fun t => (false, assign t env)) : List (Bool × (Value → Sem Unit))).findIdx? (fun x => x.1) = none := by
  rw [List.findIdx?_eq_none_iff]
  intro x hx
  rw [List.mem_map] at hx
  obtain ⟨t, _, rfl⟩ := hx
  rfl
theorem map_snd (ts : List Expr) (env : Env) : (ts.map fun t => (false, assign t env)).map (fun x => x.2) = ts.map fun t => assign t env := by rw [List.map_map]; rfl
theorem asgs_ok (H : Sound prog w P d self) {ts : List Expr} {l : List AV} (h : stepAsgs self ts l E s = some (.u, s')) : ts.length = l.length ∧ (∀ env, assignEach ts env = ts.map fun t => (false, assign t env)) ∧ ∀ {A env D ρ S vs}, Pre P d A ρ s S D E env → VRs P ρ s.nx S.heap vs l →
    wpAny (model prog w) A (assignInOrder (ts.map fun t => assign t env) vs) (fun _ => PU P D E env ρ s S s') NoE S := by
  unfold stepAsgs at h
  cases ts with
  | nil =>
    cases l with
    | cons => (first | (obtain ⟨rfl, rfl⟩ := inv_v h) | (obtain ⟨rfl, rfl⟩ := inv_b h) | (obtain ⟨rfl, rfl⟩ := inv_vs h) | (obtain ⟨rfl, rfl⟩ := inv_fl h) | (obtain rfl := inv_u h) | (obtain ⟨rfl, rfl⟩ := inv_it h) | cases h)
    | nil =>
      (first | (obtain ⟨rfl, rfl⟩ := inv_v h) | (obtain ⟨rfl, rfl⟩ := inv_b h) | (obtain ⟨rfl, rfl⟩ := inv_vs h) | (obtain ⟨rfl, rfl⟩ := inv_fl h) | (obtain rfl := inv_u h) | (obtain ⟨rfl, rfl⟩ := inv_it h) | cases h)
      refine ⟨rfl, fun _ => rfl, fun p r => ?_⟩
      obtain rfl := r.nilI
      exact wpAny_pure ⟨_, .refl p⟩
  | cons t ts =>
    cases l with
    | nil => (first | (obtain ⟨rfl, rfl⟩ := inv_v h) | (obtain ⟨rfl, rfl⟩ := inv_b h) | (obtain ⟨rfl, rfl⟩ := inv_vs h) | (obtain ⟨rfl, rfl⟩ := inv_fl h) | (obtain rfl := inv_u h) | (obtain ⟨rfl, rfl⟩ := inv_it h) | cases h)
    | cons a l =>
      obtain ⟨s1, h1, h⟩ := thenU_some h
      obtain ⟨ns, ka⟩ := H.asg h1
      obtain ⟨hl, he, kr⟩ := H.asgs h
      refine ⟨by simp [hl], fun env => by rw [assignEach_cons ns, he]; rfl, fun p r => ?_⟩
      obtain ⟨v, vs, rfl, x, y⟩ := r.consI
      · show wpAny _ _ (do holding vs (assign t _ v); assignInOrder (ts.map fun t => assign t _) vs) _ _ _
        exact wpAny_bind (wpAny_holding (seqU p (ka p x) fun ρ₁ _ S₁ e₁ p₁ => endU p e₁ (kr p₁ (y.later (e₁.later p)))))
theorem asg_ok (H : Sound prog w P d self) {t : Expr} (h : stepAsg self t a E s = some (.u, s')) : noStar t ∧ ∀ {A env D ρ S v}, Pre P d A ρ s S D E env → VR P ρ s.nx S.heap v a → wpAny (model prog w) A (assign t env v) (fun _ => PU P D E env ρ s S s') NoE S := by
  unfold stepAsg at h
  have sp := viewT_spec t
  have hn : noStar t := by
    intro q
    rw [q] at h
    (first | (obtain ⟨rfl, rfl⟩ := inv_v h) | (obtain ⟨rfl, rfl⟩ := inv_b h) | (obtain ⟨rfl, rfl⟩ := inv_vs h) | (obtain ⟨rfl, rfl⟩ := inv_fl h) | (obtain rfl := inv_u h) | (obtain ⟨rfl, rfl⟩ := inv_it h) | cases h)
  refine ⟨hn, ?_⟩
  generalize viewT t = tv at h sp
  cases sp with
  | other => (first | (obtain ⟨rfl, rfl⟩ := inv_v h) | (obtain ⟨rfl, rfl⟩ := inv_b h) | (obtain ⟨rfl, rfl⟩ := inv_vs h) | (obtain ⟨rfl, rfl⟩ := inv_fl h) | (obtain rfl := inv_u h) | (obtain ⟨rfl, rfl⟩ := inv_it h) | cases h)
  | name x pos => exact fun p r => wpAny_assign_Name (put_ok h p r)
  | sub o i pos =>
    obtain ⟨b, s1, h1, h⟩ := thenV_some h
    obtain ⟨c, s2, h2, h⟩ := thenV_some h
    intro A env D ρ S v p r
    rw [assign_Subscript]
    refine wpAny_bind (wpAny_holding (seqV p ((H.ev h1).2 p) fun ρ₁ u S₁ e₁ p₁ r₁ => wpAny_bind (wpAny_holding (seqV p₁ ((H.ev h2).2 p₁) fun ρ₂ v₂ S₂ e₂ p₂ r₂ => wpAny_bind (wpAny_standAt (wpAny_bind (wpAny_holding ?_)))))))
    refine seqU p₂ (setA_ok h p₂ (r.later ((e₁.trans p e₂).later p)) (r₁.later (e₂.later p₁)) r₂) fun ρ₃ _ S₃ e₃ p₃ => wpAny_release ⟨ρ₃, (e₁.trans p e₂).trans p e₃⟩
  | tup ts k pos =>
    unfold unpA at h
    cases a with
    | tup l =>
      obtain ⟨hl, he, kr⟩ := H.asgs h
      intro A env D ρ S v p r
      obtain ⟨t, vs, n, rfl, g, z⟩ := r.tupI
      · have len := z.length
        refine wpAny_assign_Tuple p.cx.handled (isTuple_of g) (by rw [he]; simp; omega) (by rw [he]; exact find_none) fun h' x => ?_
        have e₁ : Step P D E env ρ s S ρ s { S with heap := h' } := p.more (extBut_fresh x) ⟨rfl, rfl, rfl⟩
        rw [he, map_snd]
        exact endU p e₁ (kr (p.step e₁) (z.later (e₁.later p)))
    | loc j =>
      simp only at h
      split at h
      · rename_i l e
        obtain ⟨hl, he, kr⟩ := H.asgs h
        intro A env D ρ S v p r
        obtain ⟨hj, rfl⟩ := r.locI
        · obtain ⟨us, n, g, z, lb⟩ := p.sr.rel j _ e
          have len := z.length
          obtain ⟨m, hn, hm⟩ := p.fr.ns
          refine kun_list (allBut_fr hn) (allBut_news S.heap D) (isList_of g) p.cx.handled (by rw [he]; simp; omega) (by rw [he]; exact find_none) fun h' F' N' => ?_
          have e₁ : Step P D E env ρ s S ρ s { S with heap := h' } := p.ledger hn hm F'.ns (allBut_kpt N' fun q hq => hq) ⟨rfl, rfl, rfl⟩
          rw [he, map_snd]
          exact endU p e₁ (kr (p.step e₁) (z.later (e₁.later p)))
      · (first | (obtain ⟨rfl, rfl⟩ := inv_v h) | (obtain ⟨rfl, rfl⟩ := inv_b h) | (obtain ⟨rfl, rfl⟩ := inv_vs h) | (obtain ⟨rfl, rfl⟩ := inv_fl h) | (obtain rfl := inv_u h) | (obtain ⟨rfl, rfl⟩ := inv_it h) | cases h)
    | _ => (first | (obtain ⟨rfl, rfl⟩ := inv_v h) | (obtain ⟨rfl, rfl⟩ := inv_b h) | (obtain ⟨rfl, rfl⟩ := inv_vs h) | (obtain ⟨rfl, rfl⟩ := inv_fl h) | (obtain rfl := inv_u h) | (obtain ⟨rfl, rfl⟩ := inv_it h) | cases h)
end
end Mine
set_option maxRecDepth 100000
namespace Mine
open PySem PySem.Calls PyProof.Rows PySem.W PySem.W.Z

section
variable {prog : Program} {w : World} {A : Around} {P : Par} {Φ : Phi} {xs : List (Int × Tok)} {ρ : Nat → Addr} {s s' : St} {S S' : Shared} {a : AV} {D I : Addr} {E : AEnv} {env : Env} {d : Nat} {body : List Stmt} {mg mb : Str → Option Value} {self : Tk → AEnv → St → Ans} {pos : Pos} {it : AIt}

theorem ItR.cls {nx : Nat} {h : Heap} (r : ItR P ρ nx h I it) : ∃ o c vs, h.get? I = some o ∧ o.cls = .type c ∧ o.data = .fields vs ∧ (["enumerate", "zip", "dict_itemiterator", "dict_reverseitemiterator", "odict_iterator", "itertools.zip_longest", "itertools.pairwise"].contains c) = false := by
  cases it with
  | lst j i => obtain ⟨_, o, a, b, c⟩ := r; exact ⟨o, _, _, a, b, c, by decide⟩
  | tup l => obtain ⟨_, _, _, _, _, ⟨o, a, b, c⟩, _⟩ := r; exact ⟨o, _, _, a, b, c, by decide⟩
  | rng lo hi => exact ⟨_, _, _, r, rfl, rfl, by decide⟩
  | rev j n => obtain ⟨_, o, a, b, c⟩ := r; exact ⟨o, _, _, a, b, c, by decide⟩
theorem letGo_ok {nx : Nat} {t : Expr} {v : Value} {Q : Unit → Shared → Prop} (r : ItR P ρ nx S.heap I it) (q : Q () S) : wpAny (model prog w) A (letOwnedTupleGo t (.ref I) v) Q NoE S := by
  obtain ⟨o, c, vs, e1, e2, e3, e4⟩ := r.cls
  have key : wpAny (model prog w) A (do
    let (.ref r, .ref a) := (Value.ref I, v) | return
    let o ← load r
    match o.cls, o.data with
    | .type n, .fields vs =>
      if ["enumerate", "zip", "dict_itemiterator", "dict_reverseitemiterator", "odict_iterator", "itertools.zip_longest", "itertools.pairwise"].contains n && vs[0]? == some (rawInt a) then
        rule "for.unpacks-the-owned-tuple"
        updateField r 0 .none
    | _, _ => pure () : Sem Unit) Q NoE S := by
    cases v with
    | ref a =>
      refine wpAny_bind (wpAny_load e1 ?_)
      rw [e2, e3]
      simp only [e4, Bool.false_and, Bool.false_eq_true, if_false]
      exact wpAny_pure q
    | _ => exact wpAny_pure q
  cases t with
  | Tuple => exact key
  | List => exact key
  | _ => exact wpAny_pure q

theorem comp_turn {elt t iter : Expr} {ifs : List Expr} {scope : Scope} {acc : Value} {R : Result → Shared → Prop}
    (h : wpAny (model prog w) A (pyNext (.ref I)) (fun r S₁ => match r with
      | none => R (.ok .next) S₁
      | some v => wpAny (model prog w) A (letOwnedTupleGo t (.ref I) v) (fun _ S₁' => wpAny (model prog w) A (assign t env v) (fun _ S₂ => wpAny (model prog w) A (testsOf ifs env) (fun ok S₃ =>
            if ok = true then wpAny (model prog w) A (eval elt env) (fun x S₄ => wpAny (model prog w) A (call (.builtin "list.append") [acc, x]) (fun _ S₅ => codeAny (model prog w) A (.compLoop (.ListComp elt [⟨t, iter, ifs, 0⟩] scope pos) 0 (.ref I) acc env) R S₅) NoE S₄) NoE S₃
            else codeAny (model prog w) A (.compLoop (.ListComp elt [⟨t, iter, ifs, 0⟩] scope pos) 0 (.ref I) acc env) R S₃) NoE S₂) NoE S₁') NoE S₁) NoE S) :
    codeAny (model prog w) A (.compLoop (.ListComp elt [⟨t, iter, ifs, 0⟩] scope pos) 0 (.ref I) acc env) R S := by
  refine codeAny_of_tree ?_
  show wpAny _ _ ((compTurn (.ListComp elt [⟨t, iter, ifs, 0⟩] scope pos) 0 (.ref I) acc env).onRaise (fun x => do noteFrame x env; theTreesLotGoes x)) _ _ S
  refine wpAny_noted ?_
  rw [compTurn_list]
  refine wpAny_bind (wpAny_standAt (wpAny_bind (wpAny_mono h (fun r S₁ h₁ => ?_) fun _ _ x => x.elim)))
  cases r with
  | none => exact wpAny_pure h₁
  | some v =>
    refine wpAny_bind (wpAny_mono h₁ (fun _ S₁' h₁ => ?_) fun _ _ x => x.elim)
    refine wpAny_bind (wpAny_mono h₁ (fun _ S₂ h₂ => wpAny_bind (wpAny_mono h₂ (fun ok S₃ h₃ => ?_) fun _ _ x => x.elim)) fun _ _ x => x.elim)
    cases ok with
    | false => exact wpAny_pure ⟨rfl, h₃⟩
    | true =>
      exact wpAny_bind (wpAny_bind (wpAny_mono h₃ (fun x S₄ h₄ => wpAny_bind (wpAny_mono h₄ (fun _ S₅ h₅ => wpAny_pure (wpAny_pure ⟨rfl, h₅⟩)) fun _ _ x => x.elim)) fun _ _ x => x.elim))
theorem for_turn {t : Expr} {b : List Stmt} {R : Result → Shared → Prop}
    (h : wpAny (model prog w) A (pyNext (.ref I)) (fun r S₁ => match r with
      | none => R (.ok .next) S₁
      | some v => wpAny (model prog w) A (letOwnedTupleGo t (.ref I) v) (fun _ S₁' => wpAny (model prog w) A (assign t env v) (fun _ S₂ => wpAny (model prog w) A (execs b env) (fun f S₃ => match f with
          | .next => codeAny (model prog w) A (.forLoop t (.ref I) b [] env) R S₃
          | .ret v => R (.ok (.ret v)) S₃
          | _ => False) NoE S₂) NoE S₁') NoE S₁) NoE S) :
    codeAny (model prog w) A (.forLoop t (.ref I) b [] env) R S := by
  refine codeAny_of_tree ?_
  show wpAny _ _ ((forTurn t (.ref I) b [] env).onRaise (fun x => do noteFrame x env; theTreesLotGoes x)) _ _ S
  refine wpAny_noted ?_
  simp only [forTurn]
  refine wpAny_bind (wpAny_standAt (wpAny_bind (wpAny_onRaise (wpAny_mono h (fun r S₁ h₁ => ?_) fun _ _ x => x.elim))))
  cases r with
  | none => exact wpAny_pure ⟨rfl, codeAny_block (wpAny_execs_nil h₁)⟩
  | some v =>
    refine wpAny_bind (wpAny_mono h₁ (fun _ S₁' h₁ => ?_) fun _ _ x => x.elim)
    refine wpAny_bind (wpAny_mono h₁ (fun _ S₂ h₂ => wpAny_bind (wpAny_mono h₂ (fun f S₃ h₃ => ?_) fun _ _ x => x.elim)) fun _ _ x => x.elim)
    cases f with
    | next => exact wpAny_pure ⟨rfl, h₃⟩
    | ret v => exact wpAny_pure h₃
    | _ => exact h₃.elim
theorem while_turn {t : Expr} {b : List Stmt} {R : Result → Shared → Prop}
    (h : wpAny (model prog w) A (isTrue t env (eval t env)) (fun c S₁ => match c with
      | false => R (.ok .next) S₁
      | true => wpAny (model prog w) A (execs b env) (fun f S₃ => match f with
          | .next => codeAny (model prog w) A (.whileLoop t b [] env) R S₃
          | .ret v => R (.ok (.ret v)) S₃
          | _ => False) NoE S₁) NoE S) :
    codeAny (model prog w) A (.whileLoop t b [] env) R S := by
  refine codeAny_of_tree ?_
  show wpAny _ _ ((whileTurn t b [] env).onRaise (fun x => do noteFrame x env; theTreesLotGoes x)) _ _ S
  refine wpAny_noted ?_
  simp only [whileTurn]
  refine wpAny_bind (wpAny_mono h (fun c S₁ h₁ => ?_) fun _ _ x => x.elim)
  cases c with
  | false => exact wpAny_bind (wpAny_execs_nil (wpAny_pure h₁))
  | true =>
    refine wpAny_bind (wpAny_mono h₁ (fun f S₃ h₃ => ?_) fun _ _ x => x.elim)
    cases f with
    | next => exact wpAny_pure ⟨rfl, h₃⟩
    | ret v => exact wpAny_pure h₃
    | _ => exact h₃.elim

/-! ## turns, by the interpreter's words -/
theorem Base.next {X : Addr → Prop} {ρ₀ : Nat → Addr} {s₀ : St} {S₀ : Shared} {o : Option (AV × AIt)} {v : Option Value} (B : Base P X ρ₀ s₀ S₀ ρ s S) (p : Pre P d A ρ s S D E env) (r : ItR P ρ s.nx S.heap I it) (hI : S₀.heap.get? I = none) (n : NextOk P ρ s.σ s.nx I S o v S') :
    Base P X ρ₀ s₀ S₀ ρ s S' ∧ Pre P d A ρ s S' D E env := by
  refine ⟨⟨B.ext.skip n.kp (by rintro b rfl; exact hI) n.sr n.inv, B.sr, B.same.trans n.same⟩, p.cx, p.fr.beside n.kp (by rintro b rfl o e; exact (r.kind o e).1) (p.fr.ne r), n.sr, n.inv⟩
theorem Base.step {X : Addr → Prop} {ρ₀ ρ₁ : Nat → Addr} {s₀ s₁ : St} {S₀ S₁ : Shared} (B : Base P X ρ₀ s₀ S₀ ρ s S) (e : Step P D E env ρ s S ρ₁ s₁ S₁) (y : X D ∨ S₀.heap.get? D = none) : Base P X ρ₀ s₀ S₀ ρ₁ s₁ S₁ :=
  ⟨B.ext.transY B.sr e.ext (by rintro b rfl; exact y), B.sr, B.same.trans e.same⟩
theorem Step.iter {ρ₁ : Nat → Addr} {s₁ : St} {S₁ : Shared} (e : Step P D E env ρ s S ρ₁ s₁ S₁) (p : Pre P d A ρ s S D E env) (r : ItR P ρ s.nx S.heap I it) : ItR P ρ₁ s₁.nx S₁.heap I it :=
  r.ext p.sr p.inv p.fr.xok (fun q => p.fr.ne r q.symm) e.ext
theorem loop_ok (H : Sound prog w P d self) {t : Expr} {b : List Stmt} {f : AFl} (h : stepLoop self t it b E s = some (.fl f, s')) {ρ₀ : Nat → Addr} {s₀ : St} {S₀ : Shared} (p : Pre P d A ρ s S D E env) (B : Base P (AtD D) ρ₀ s₀ S₀ ρ s S) (r : ItR P ρ s.nx S.heap I it) (hI : S₀.heap.get? I = none) (up : P.H0.objs.size ≤ I) :
    codeAny (model prog w) A (.forLoop t (.ref I) b [] env) (PRes (PF P D E env ρ₀ s₀ S₀ s' f)) S := by
  unfold stepLoop at h
  refine for_turn ?_
  split at h
  · (first | (obtain ⟨rfl, rfl⟩ := inv_v h) | (obtain ⟨rfl, rfl⟩ := inv_b h) | (obtain ⟨rfl, rfl⟩ := inv_vs h) | (obtain ⟨rfl, rfl⟩ := inv_fl h) | (obtain rfl := inv_u h) | (obtain ⟨rfl, rfl⟩ := inv_it h) | cases h)
  · rename_i hn
    (first | (obtain ⟨rfl, rfl⟩ := inv_v h) | (obtain ⟨rfl, rfl⟩ := inv_b h) | (obtain ⟨rfl, rfl⟩ := inv_vs h) | (obtain ⟨rfl, rfl⟩ := inv_fl h) | (obtain rfl := inv_u h) | (obtain ⟨rfl, rfl⟩ := inv_it h) | cases h)
    refine wpAny_mono (next_ok p.cx.handled p.sr p.inv up r hn) (fun v S₁ n => ?_) fun _ _ x => x
    obtain ⟨B₁, p₁⟩ := B.next p r hI n
    have : v = none := n.res
    subst this
    exact ⟨.next, rfl, ρ, ⟨B₁.ext, p₁.fr, B₁.same⟩, rfl⟩
  · rename_i a it' hn
    obtain ⟨s1, h1, h⟩ := thenU_some h
    obtain ⟨g, s2, h2, h⟩ := thenF_some h
    refine wpAny_mono (next_ok p.cx.handled p.sr p.inv up r hn) (fun v S₁ n => ?_) fun _ _ x => x
    obtain ⟨B₁, p₁⟩ := B.next p r hI n
    obtain ⟨x, rfl, rx, rit⟩ := n.res
    refine letGo_ok rit (seqU p₁ ((H.asg h1).2 p₁ rx) fun ρ₂ _ S₂ e₂ p₂ => wpAny_mono (H.exs h2 p₂) (fun fl S₃ ⟨ρ₃, e₃, rf⟩ => ?_) fun _ _ x => x)
    have p₃ := p₂.step e₃
    have B₃ := (B₁.step e₂ (.inl rfl)).step e₃ (.inl rfl)
    cases g with
    | next =>
      cases rf
      exact H.loop h p₃ B₃ (e₃.iter p₂ (e₂.iter p₁ rit)) hI up
    | ret a =>
      (first | (obtain ⟨rfl, rfl⟩ := inv_v h) | (obtain ⟨rfl, rfl⟩ := inv_b h) | (obtain ⟨rfl, rfl⟩ := inv_vs h) | (obtain ⟨rfl, rfl⟩ := inv_fl h) | (obtain rfl := inv_u h) | (obtain ⟨rfl, rfl⟩ := inv_it h) | cases h)
      obtain ⟨v, rfl, rv⟩ := rf
      exact ⟨.ret v, rfl, ρ₃, ⟨B₃.ext, p₃.fr, B₃.same⟩, v, rfl, rv⟩
theorem whl_ok (H : Sound prog w P d self) {t : Expr} {b : List Stmt} {f : AFl} (h : stepWhl self t b E s = some (.fl f, s')) (p : Pre P d A ρ s S D E env) : codeAny (model prog w) A (.whileLoop t b [] env) (PRes (PF P D E env ρ s S s' f)) S := by
  unfold stepWhl at h
  obtain ⟨c, s1, h1, h⟩ := thenB_some h
  refine while_turn (seqB p (H.tr h1 p) fun ρ₁ S₁ e₁ p₁ => ?_)
  cases c with
  | false => (first | (obtain ⟨rfl, rfl⟩ := inv_v h) | (obtain ⟨rfl, rfl⟩ := inv_b h) | (obtain ⟨rfl, rfl⟩ := inv_vs h) | (obtain ⟨rfl, rfl⟩ := inv_fl h) | (obtain rfl := inv_u h) | (obtain ⟨rfl, rfl⟩ := inv_it h) | cases h); exact ⟨.next, rfl, ρ₁, e₁, rfl⟩
  | true =>
    obtain ⟨g, s2, h2, h⟩ := thenF_some h
    refine wpAny_mono (H.exs h2 p₁) (fun fl S₃ ⟨ρ₃, e₃, rf⟩ => ?_) fun _ _ x => x
    have p₃ := p₁.step e₃
    cases g with
    | next =>
      cases rf
      exact codeAny_mono (H.whl h p₃) fun r S' ⟨fl, hr, ρ', e', r'⟩ => ⟨fl, hr, ρ', (e₁.trans p e₃).trans p e', r'⟩
    | ret a =>
      (first | (obtain ⟨rfl, rfl⟩ := inv_v h) | (obtain ⟨rfl, rfl⟩ := inv_b h) | (obtain ⟨rfl, rfl⟩ := inv_vs h) | (obtain ⟨rfl, rfl⟩ := inv_fl h) | (obtain rfl := inv_u h) | (obtain ⟨rfl, rfl⟩ := inv_it h) | cases h)
      obtain ⟨v, rfl, rv⟩ := rf
      exact ⟨.ret v, rfl, ρ₃, e₁.trans p e₃, v, rfl, rv⟩
end
end Mine
set_option maxRecDepth 100000
namespace Mine
open PySem PySem.Calls PyProof.Rows PySem.W PySem.W.Z

section
variable {prog : Program} {w : World} {A : Around} {P : Par} {Φ : Phi} {xs : List (Int × Tok)} {ρ : Nat → Addr} {s s' : St} {S S' : Shared} {a : AV} {D I L : Addr} {E : AEnv} {env : Env} {d : Nat} {body : List Stmt} {mg mb : Str → Option Value} {self : Tk → AEnv → St → Ans} {pos : Pos} {it : AIt}

/-- a list beside the store stands -/
theorem list_step {X : Addr → Prop} {ρ₁ : Nat → Addr} {s₁ : St} {S₁ : Shared} {vs : List Value} {n : Nat} (e : Ext P X ρ s.σ s.nx S.heap ρ₁ s₁.σ s₁.nx S₁.heap) (V : Inv P S.heap) (g : S.heap.get? L = some (listOf vs.toArray n)) (hX : ¬ X L) (hL : ∀ j o, lookN s.σ j = some o → ρ j ≠ L) (R : SR P ρ s.σ s.nx S.heap) :
    S₁.heap.get? L = some (listOf vs.toArray n) ∧ ∀ j o, lookN s₁.σ j = some o → ρ₁ j ≠ L := by
  have k : S₁.heap.get? L = some (listOf vs.toArray n) := e.kp _ _ g (by
    rintro (⟨j, o, q, z⟩ | z | ⟨t, ht, z⟩)
    · exact hL j o q z
    · exact hX z
    · obtain ⟨ps, _, ⟨_, gt⟩, _⟩ := V.tabs t ht
      rw [z, g] at gt; cases gt)
  refine ⟨k, fun j o q => ?_⟩
  rcases e.dom j o q with ⟨o', q'⟩ | ⟨_, q'⟩
  · rw [e.ag j (R.lt j o' q')]; exact hL j o' q'
  · rintro rfl; rw [g] at q'; cases q'
theorem list_next {o : Option (AV × AIt)} {v : Option Value} {vs : List Value} {n : Nat} (N : NextOk P ρ s.σ s.nx I S o v S') (r : ItR P ρ s.nx S.heap I it) (g : S.heap.get? L = some (listOf vs.toArray n)) : S'.heap.get? L = some (listOf vs.toArray n) ∧ L ≠ I := by
  have ne : L ≠ I := by
    rintro rfl
    obtain ⟨o, c, fs, a, b, _, z⟩ := r.obj
    rw [g] at a; cases a; cases z
  exact ⟨N.kp _ _ g ne, ne⟩
theorem frame_ne {h : Heap} {lv : Lv} {nx : Nat} {vs : List Value} {n : Nat} (F : FrOk P ρ nx h D E env lv) (g : h.get? L = some (listOf vs.toArray n)) : L ≠ D := by
  rintro rfl
  obtain ⟨m, ⟨ob, es, ep, q, z, _⟩, _⟩ := F.ns
  rw [g] at q; cases q; cases z
theorem FrOk.extX {X : Addr → Prop} {h h' : Heap} {ρ' : Nat → Addr} {σ σ' : Sto} {nx nx' : Nat} {lv : Lv} (F : FrOk P ρ nx h D E env lv) (S : SR P ρ σ nx h) (I : Inv P h) (x : Ext P X ρ σ nx h ρ' σ' nx' h') (ok : XOk h X) (hX : ¬ X D) : FrOk P ρ' nx' h' D E env lv := by
  have L := x.later S I ok
  refine ⟨F.ok, F.kind, F.loc, F.glob, F.blt, F.defs, F.names, fun y j e => ?_, F.up, ?_⟩
  · obtain ⟨a, b⟩ := F.cells y j e
    exact ⟨Nat.lt_of_lt_of_le a x.le, by rw [x.ag j a]; exact b⟩
  · obtain ⟨m, hn, hm⟩ := F.ns
    refine ⟨m, ?_, fun y a e => ?_⟩
    · obtain ⟨ob, es, ep, q, d⟩ := id hn
      exact ⟨ob, es, ep, x.kp _ _ q (by
        rintro (⟨j, o, e, z⟩ | z | ⟨t, ht, z⟩)
        · exact ns_apart hn S e z
        · exact hX z
        · exact ns_notab hn I t ht z), d⟩
    · obtain ⟨v, q, r⟩ := hm y a e
      exact ⟨v, q, r.later L⟩
theorem comp_ok (H : Sound prog w P d self) {elt t : Expr} {ifs : List Expr} {acc l : List AV} (h : stepComp self elt t ifs it acc E s = some (.vs l, s')) {ρ₀ : Nat → Addr} {s₀ : St} {S₀ : Shared} {vs : List Value} {n : Nat} {iter : Expr} {scope : Scope} {X : Addr → Prop} {D₂ : Addr} {E₂ : AEnv} {env₂ : Env} {lv₂ : Lv} (p : Pre P d A ρ s S D E env) (F₂ : FrOk P ρ s.nx S.heap D₂ E₂ env₂ lv₂) (hne : D₂ ≠ D) (B : Base P X ρ₀ s₀ S₀ ρ s S)
    (hD : S₀.heap.get? D = none) (r : ItR P ρ s.nx S.heap I it) (hI : S₀.heap.get? I = none) (up : P.H0.objs.size ≤ I) (g : S.heap.get? L = some (listOf vs.toArray n)) (rv : VRs P ρ s.nx S.heap vs acc.reverse) (h0 : S₀.heap.get? L = none) (upL : P.H0.objs.size ≤ L) (hL : ∀ j o, lookN s.σ j = some o → ρ j ≠ L) :
    codeAny (model prog w) A (.compLoop (.ListComp elt [⟨t, iter, ifs, 0⟩] scope pos) 0 (.ref I) (.ref L) env) (fun r S' => r = .ok .next ∧ ∃ ρ', Base P X ρ₀ s₀ S₀ ρ' s' S' ∧ FrOk P ρ' s'.nx S'.heap D₂ E₂ env₂ lv₂ ∧ FrOk P ρ' s'.nx S'.heap D E env s'.lv ∧
      ∃ vs' n', S'.heap.get? L = some (listOf vs'.toArray n') ∧ VRs P ρ' s'.nx S'.heap vs' l ∧ (∀ j o, lookN s'.σ j = some o → ρ' j ≠ L)) S := by
  unfold stepComp at h
  refine comp_turn ?_
  split at h
  · (first | (obtain ⟨rfl, rfl⟩ := inv_v h) | (obtain ⟨rfl, rfl⟩ := inv_b h) | (obtain ⟨rfl, rfl⟩ := inv_vs h) | (obtain ⟨rfl, rfl⟩ := inv_fl h) | (obtain rfl := inv_u h) | (obtain ⟨rfl, rfl⟩ := inv_it h) | cases h)
  · rename_i hn
    rw [revK_eq] at h
    (first | (obtain ⟨rfl, rfl⟩ := inv_v h) | (obtain ⟨rfl, rfl⟩ := inv_b h) | (obtain ⟨rfl, rfl⟩ := inv_vs h) | (obtain ⟨rfl, rfl⟩ := inv_fl h) | (obtain rfl := inv_u h) | (obtain ⟨rfl, rfl⟩ := inv_it h) | cases h)
    refine wpAny_mono (next_ok p.cx.handled p.sr p.inv up r hn) (fun v S₁ N => ?_) fun _ _ x => x
    obtain ⟨B₁, p₁⟩ := B.next p r hI N
    have : v = none := N.res
    subst this
    have L1 : Later ρ s.nx S.heap ρ s.nx S₁.heap := later_kpt N.kp (by rintro b rfl o e; exact (r.kind o e).1)
    exact ⟨rfl, ρ, B₁, F₂.beside N.kp (by rintro b rfl o e; exact (r.kind o e).1) (F₂.ne r), p₁.fr, vs, n, (list_next N r g).1, by simpa using rv.later L1, hL⟩
  · rename_i a it' hn
    obtain ⟨s1, h1, h⟩ := thenU_some h
    obtain ⟨c, s2, h2, h⟩ := thenB_some h
    refine wpAny_mono (next_ok p.cx.handled p.sr p.inv up r hn) (fun v S₁ N => ?_) fun _ _ x => x
    obtain ⟨B₁, p₁⟩ := B.next p r hI N
    obtain ⟨x, rfl, rx, rit⟩ := N.res
    have L1 : Later ρ s.nx S.heap ρ s.nx S₁.heap := later_kpt N.kp (by rintro b rfl o e; exact (r.kind o e).1)
    have g₁ := (list_next N r g).1
    have F₂₁ : FrOk P ρ s.nx S₁.heap D₂ E₂ env₂ lv₂ := F₂.beside N.kp (by rintro b rfl o e; exact (r.kind o e).1) (F₂.ne r)
    refine letGo_ok rit (seqU p₁ ((H.asg h1).2 p₁ rx) fun ρ₂ _ S₂ e₂ p₂ => seqB p₂ (H.tests h2 p₂) fun ρ₃ S₃ e₃ p₃ => ?_)
    have B₃ := (B₁.step e₂ (.inr hD)).step e₃ (.inr hD)
    obtain ⟨g₂, hL₂⟩ := list_step e₂.ext p₁.inv g₁ (frame_ne p₁.fr g₁) hL p₁.sr
    obtain ⟨g₃, hL₃⟩ := list_step e₃.ext p₂.inv g₂ (frame_ne p₂.fr g₂) hL₂ p₂.sr
    have r₃ := e₃.iter p₂ (e₂.iter p₁ rit)
    have F₂₃ := (F₂₁.extX p₁.sr p₁.inv e₂.ext p₁.fr.xok hne).extX p₂.sr p₂.inv e₃.ext p₂.fr.xok hne
    have rv₃ := ((rv.later L1).later (e₂.later p₁)).later (e₃.later p₂)
    cases c with
    | false => exact H.comp h p₃ F₂₃ hne B₃ hD r₃ hI up g₃ rv₃ h0 upL hL₃
    | true =>
      obtain ⟨y, s4, h4, h⟩ := thenV_some h
      split at h
      rotate_left
      · (first | (obtain ⟨rfl, rfl⟩ := inv_v h) | (obtain ⟨rfl, rfl⟩ := inv_b h) | (obtain ⟨rfl, rfl⟩ := inv_vs h) | (obtain ⟨rfl, rfl⟩ := inv_fl h) | (obtain rfl := inv_u h) | (obtain ⟨rfl, rfl⟩ := inv_it h) | cases h)
      rename_i sh
      refine seqV p₃ ((H.ev h4).2 p₃) fun ρ₄ u S₄ e₄ p₄ r₄ => ?_
      have B₄ := B₃.step e₄ (.inr hD)
      obtain ⟨g₄, hL₄⟩ := list_step e₄.ext p₃.inv g₃ (frame_ne p₃.fr g₃) hL₃ p₃.sr
      have rv₄ := rv₃.later (e₄.later p₃)
      have i₄ := e₄.iter p₃ r₃
      have len := rv.length
      have sl := short_len sh
      refine wpAny_call_entry slot_list_append (isList_of g₄).typeIs entry_list_append ?_ (args_list_append _ _)
      show wpAny _ _ (updateSeq L (·.push u) >>= fun _ => ret .none) _ _ S₄
      refine wpAny_bind (wpAny_updateSeq g₄ rfl (wpAny_pure ⟨.none, rfl, ?_⟩) (hz := by simp [sizeLine_eq]; simp at len; omega) (_hz' := by simp [sizeLine_eq]; simp at len; omega))
      have sb : Heap.SameBut L S₄.heap (S₄.heap.update L (Obj.mapSeq (·.push u))) := Heap.SameBut.update ..
      have kp := kpt_same sb
      have gu := PySem.IsL.update g₄ (·.push u)
      have nL : ∀ b, AtD L b → (∀ o, S₄.heap.get? b = some o → ¬ Imm o ∧ ¬ Tab o) := by
        rintro b rfl o q
        rw [g₄] at q; cases q
        exact ⟨not_imm_list, not_tab_list⟩
      have L5 : Later ρ₄ s4.nx S₄.heap ρ₄ s4.nx (S₄.heap.update L (Obj.mapSeq (·.push u))) := later_kpt kp fun b w o q => (nL b w o q).1
      have sr5 : SR P ρ₄ s4.σ s4.nx (S₄.heap.update L (Obj.mapSeq (·.push u))) := p₄.sr.beside kp (by rintro b rfl; exact ⟨nL _ rfl, fun j o q => hL₄ j o q⟩)
      have iv5 : Inv P (S₄.heap.update L (Obj.mapSeq (·.push u))) := p₄.inv.kpt kp (by rintro b rfl; exact ⟨upL, nL _ rfl⟩)
      have B₅ : Base P X ρ₀ s₀ S₀ ρ₄ s4 { S₄ with heap := S₄.heap.update L (Obj.mapSeq (·.push u)) } := ⟨B₄.ext.skip kp (by rintro b rfl; exact h0) sr5 iv5, B₄.sr, B₄.same⟩
      have f5 : FrOk P ρ₄ s4.nx (S₄.heap.update L (Obj.mapSeq (·.push u))) D E env s4.lv := p₄.fr.beside kp (fun b w o q => (nL b w o q).1) fun q => frame_ne p₄.fr g₄ q.symm
      have F₂₄ := F₂₃.extX p₃.sr p₃.inv e₄.ext p₃.fr.xok hne
      have F₂₅ : FrOk P ρ₄ s4.nx (S₄.heap.update L (Obj.mapSeq (·.push u))) D₂ E₂ env₂ lv₂ := F₂₄.beside kp (fun b w o q => (nL b w o q).1) fun q => frame_ne F₂₄ g₄ q.symm
      have i5 : ItR P ρ₄ s4.nx (S₄.heap.update L (Obj.mapSeq (·.push u))) I it' := by
        have hne : I ≠ L := fun q => by
          obtain ⟨o, c, fs, a, b, _, z⟩ := i₄.obj
          rw [q, g₄] at a; cases a; cases z
        have k := fun o q => kp I o q hne
        cases it' with
        | lst j i => obtain ⟨hj, o, a, b⟩ := i₄; exact ⟨hj, o, k _ a, b⟩
        | tup l => obtain ⟨t, vs, n, i, a, ⟨o, b, c⟩, z⟩ := i₄; exact ⟨t, vs, n, i, L5.im _ _ a (.inl ⟨rfl, _, _, rfl⟩), ⟨o, k _ b, c⟩, z.later L5⟩
        | rng lo hi => exact k _ i₄
        | rev j n => obtain ⟨hj, o, a, b⟩ := i₄; exact ⟨hj, o, k _ a, b⟩
      have hpush : (vs.toArray.push u) = (vs ++ [u]).toArray := by simp
      obtain ⟨n5, g5⟩ : ∃ n5, (S₄.heap.update L (Obj.mapSeq (·.push u))).get? L = some (listOf (vs ++ [u]).toArray n5) := ⟨_, by rw [← hpush]; exact gu⟩
      refine H.comp h (S := { S₄ with heap := S₄.heap.update L (Obj.mapSeq (·.push u)) }) (vs := vs ++ [u]) ⟨p₄.cx, f5, sr5, iv5⟩ F₂₅ hne B₅ hD i5 hI up g5 ?_ h0 upL hL₄
      · rw [List.reverse_cons]
        exact (rv₄.later L5).append (.cons _ _ _ _ (r₄.later L5) .nil)
end
end Mine
set_option maxRecDepth 100000
namespace Mine
open PySem PySem.Calls PyProof.Rows PySem.W PySem.W.Z

theorem mem_lookup {α : Type} : ∀ {l : List (Str × α)} {x : Str} {v : α}, (l.map Prod.fst).Nodup → (x, v) ∈ l → l.lookup x = some v
  | [], _, _, _, m => nomatch m
  | p :: r, x, v, h, m => by
    rw [List.map_cons, List.nodup_cons] at h
    cases m with
    | head => simp [List.lookup_cons]
    | tail _ m =>
      have : (x == p.1) = false := by
        cases q : x == p.1 with
        | false => rfl
        | true =>
          have := eq_of_beq q
          exact absurd (List.mem_map.mpr ⟨(x, v), m, this⟩) h.1
      rw [List.lookup_cons, this]
      exact mem_lookup h.2 m
theorem noName_not : ∀ {r : List (Str × NameKind)} {x : Str}, noName r x = true → x ∉ r.map Prod.fst
  | [], _, _ => by simp
  | p :: r, x, h => by
    unfold noName at h
    cases q : seq p.1 x with
    | true => rw [q] at h; cases h
    | false =>
      rw [q] at h
      rw [List.map_cons, List.mem_cons]
      rintro (rfl | m)
      · rw [seq_refl] at q; cases q
      · exact noName_not h m
theorem namesOk_nodup : ∀ {l : List (Str × NameKind)}, namesOk l = true → (l.map Prod.fst).Nodup
  | [], _ => .nil
  | p :: r, h => by
    unfold namesOk at h
    cases h1 : kindOk p.2 with
    | false => rw [h1] at h; simp at h
    | true =>
      cases h2 : noName r p.1 with
      | false => rw [h1, h2] at h; simp at h
      | true =>
        cases h3 : oddName p.1 with
        | true => rw [h1, h2, h3] at h; simp at h
        | false =>
          rw [h1, h2, h3] at h
          rw [List.map_cons, List.nodup_cons]
          exact ⟨noName_not h2, namesOk_nodup h⟩
theorem freeOf_sub : ∀ {names : List (Str × NameKind)} {cl k : List (Str × Nat)}, freeOf names cl = some k → (k.map Prod.fst).Sublist (names.map Prod.fst)
  | [], _, _, h => by cases h; exact .slnil
  | p :: r, cl, k, h => by
    unfold freeOf at h
    split at h
    · split at h
      · rename_i j l e1 e2
        (first | (obtain ⟨rfl, rfl⟩ := inv_v h) | (obtain ⟨rfl, rfl⟩ := inv_b h) | (obtain ⟨rfl, rfl⟩ := inv_vs h) | (obtain ⟨rfl, rfl⟩ := inv_fl h) | (obtain rfl := inv_u h) | (obtain ⟨rfl, rfl⟩ := inv_it h) | cases h)
        exact (freeOf_sub e2).cons₂ _
      · (first | (obtain ⟨rfl, rfl⟩ := inv_v h) | (obtain ⟨rfl, rfl⟩ := inv_b h) | (obtain ⟨rfl, rfl⟩ := inv_vs h) | (obtain ⟨rfl, rfl⟩ := inv_fl h) | (obtain rfl := inv_u h) | (obtain ⟨rfl, rfl⟩ := inv_it h) | cases h)
    · exact (freeOf_sub h).cons _
theorem noCells_mem : ∀ {l : List (Str × NameKind)}, noCells l = true → ∀ x ∈ l, x.2 ≠ .cell
  | [], _, _, m => nomatch m
  | p :: r, h, x, m => by
    unfold noCells at h
    split at h
    · (first | (obtain ⟨rfl, rfl⟩ := inv_v h) | (obtain ⟨rfl, rfl⟩ := inv_b h) | (obtain ⟨rfl, rfl⟩ := inv_vs h) | (obtain ⟨rfl, rfl⟩ := inv_fl h) | (obtain rfl := inv_u h) | (obtain ⟨rfl, rfl⟩ := inv_it h) | cases h)
    · rename_i hp
      cases m with
      | head => exact hp
      | tail _ m => exact noCells_mem h x m

section
variable {ρ : Nat → Addr} {env : Env}
theorem closure_go : ∀ {names : List (Str × NameKind)} {cl k : List (Str × Nat)} {acc : List (Str × Addr)}, freeOf names cl = some k → (∀ x j, lookS cl x = some j → env.cells.lookup x = some (ρ j)) →
    (forIn names acc fun x r => if (x.2 == NameKind.free) = true then do let a ← cellOf env x.1; pure (ForInStep.yield ((x.1, a) :: r)) else pure (ForInStep.yield r) : Sem (List (Str × Addr))) = pure ((k.map fun p => (p.1, ρ p.2)).reverse ++ acc)
  | [], _, _, acc, h, _ => by cases h; rfl
  | p :: r, cl, k, acc, h, hc => by
    unfold freeOf at h
    rw [List.forIn_cons]
    split at h
    · rename_i hp
      split at h
      · rename_i j l e1 e2
        (first | (obtain ⟨rfl, rfl⟩ := inv_v h) | (obtain ⟨rfl, rfl⟩ := inv_b h) | (obtain ⟨rfl, rfl⟩ := inv_vs h) | (obtain ⟨rfl, rfl⟩ := inv_fl h) | (obtain rfl := inv_u h) | (obtain ⟨rfl, rfl⟩ := inv_it h) | cases h)
        rw [hp]
        have : cellOf env p.1 = pure (ρ j) := by
          unfold cellOf
          rw [hc _ _ e1]
        simp only [beq_self_eq_true, if_true, this, pure_bind]
        rw [closure_go e2 hc]
        simp
      · (first | (obtain ⟨rfl, rfl⟩ := inv_v h) | (obtain ⟨rfl, rfl⟩ := inv_b h) | (obtain ⟨rfl, rfl⟩ := inv_vs h) | (obtain ⟨rfl, rfl⟩ := inv_fl h) | (obtain rfl := inv_u h) | (obtain ⟨rfl, rfl⟩ := inv_it h) | cases h)
    · rename_i hp
      have : (p.2 == NameKind.free) = false := by
        cases q : p.2 == NameKind.free with
        | false => rfl
        | true => exact absurd (eq_of_beq q) hp
      simp only [this, Bool.false_eq_true, if_false, pure_bind]
      exact closure_go h hc
theorem closure_ok {sc : Scope} {cl k : List (Str × Nat)} (hs : scOk sc = true) (h : freeOf sc.names cl = some k) (hc : ∀ x j, lookS cl x = some j → env.cells.lookup x = some (ρ j)) :
    ∃ cs, closureFor sc env = pure cs ∧ (k = [] → cs = []) ∧ ∀ x j, lookS k x = some j → cs.lookup x = some (ρ j) := by
  refine ⟨(k.map fun p => (p.1, ρ p.2)).reverse, ?_, ?_, fun x j e => ?_⟩
  · unfold closureFor
    have := closure_go (acc := []) h hc
    rw [List.append_nil] at this
    rw [← this]
    simp only [bind_pure]
  · rintro rfl; rfl
  · have nd : (k.map Prod.fst).Nodup := (freeOf_sub h).nodup (namesOk_nodup (scOk_names hs).2.2.2)
    refine mem_lookup ?_ (List.mem_reverse.mpr (List.mem_map.mpr ⟨(x, j), lookS_mem e, rfl⟩))
    rw [List.map_reverse, (List.reverse_perm _).nodup_iff]
    have e2 : (k.map fun p => (p.1, ρ p.2)).map Prod.fst = k.map Prod.fst := by rw [List.map_map]; rfl
    rw [e2]; exact nd
theorem free_lt {names : List (Str × NameKind)} : ∀ {cl k : List (Str × Nat)}, freeOf names cl = some k → ∀ x j, lookS k x = some j → lookS cl x = some j := by
  induction names with
  | nil => intro cl k h x j e; cases h; cases e
  | cons p r ih =>
    intro cl k h x j e
    unfold freeOf at h
    split at h
    · split at h
      · rename_i j' l e1 e2
        (first | (obtain ⟨rfl, rfl⟩ := inv_v h) | (obtain ⟨rfl, rfl⟩ := inv_b h) | (obtain ⟨rfl, rfl⟩ := inv_vs h) | (obtain ⟨rfl, rfl⟩ := inv_fl h) | (obtain rfl := inv_u h) | (obtain ⟨rfl, rfl⟩ := inv_it h) | cases h)
        rw [lookS_cons] at e
        cases q : seq p.1 x with
        | true =>
          simp only [q] at e
          cases e
          rw [← seq_iff.mp q]; exact e1
        | false =>
          simp only [q] at e
          exact ih e2 x j e
      · (first | (obtain ⟨rfl, rfl⟩ := inv_v h) | (obtain ⟨rfl, rfl⟩ := inv_b h) | (obtain ⟨rfl, rfl⟩ := inv_vs h) | (obtain ⟨rfl, rfl⟩ := inv_fl h) | (obtain rfl := inv_u h) | (obtain ⟨rfl, rfl⟩ := inv_it h) | cases h)
    · exact ih h x j e
theorem relabel_lookup (sc : Scope) (env : Env) (x : Str) : (relabel sc env).names.lookup x = (sc.names.lookup x).map fun k => if (k == .free && env.scope.kind == .function && env.kindOf x == some .cell) = true then .cell else k := by
  show (sc.names.map fun (n, k) => if (k == NameKind.free && env.scope.kind == .function && env.kindOf n == some .cell) = true then (n, NameKind.cell) else (n, k)).lookup x = _
  generalize sc.names = l
  induction l with
  | nil => rfl
  | cons p r ih =>
    obtain ⟨n, k⟩ := p
    rw [List.map_cons]
    have e : (match (n, k) with | (n, k) => if (k == NameKind.free && env.scope.kind == .function && env.kindOf n == some .cell) = true then (n, NameKind.cell) else (n, k)) = (n, if (k == NameKind.free && env.scope.kind == .function && env.kindOf n == some .cell) = true then NameKind.cell else k) := by
      dsimp only; split <;> rfl
    rw [e, List.lookup_cons, List.lookup_cons, ih]
    cases q : x == n with
    | false => rfl
    | true =>
      have := eq_of_beq q
      subst this
      rfl
end
end Mine
set_option maxRecDepth 100000
namespace Mine
open PySem PySem.Calls PyProof.Rows PySem.W PySem.W.Z

section
variable {prog : Program} {w : World} {A : Around} {P : Par} {Φ : Phi} {xs : List (Int × Tok)} {ρ : Nat → Addr} {s s' : St} {S S' : Shared} {a : AV} {D I L C : Addr} {E : AEnv} {env : Env} {d : Nat} {body : List Stmt} {mg mb : Str → Option Value} {self : Tk → AEnv → St → Ans} {pos : Pos} {it : AIt}

theorem pyIter_self {nx : Nat} {Q : Value → Shared → Prop} (r : ItR P ρ nx S.heap I it) (q : Q (.ref I) S) : wpAny (model prog w) A (pyIter (.ref I)) Q NoE S := by
  cases it with
  | lst j i => exact wpAny_pyIter_listiter r.2 q
  | tup l => obtain ⟨t, vs, n, i, _, e, _⟩ := r; exact wpAny_pyIter_tupleiter e q
  | rng lo hi => exact wpAny_pyIter_rangeiter r q
  | rev j n => exact wpAny_pyIter_revIter r.2 q

theorem frame_env (p : Pre P d A ρ s S D E env) {sc : Scope} {cl : List (Str × Nat)} {cs : List (Str × Addr)} {nx : Nat} {h : Heap} {cenv : Env} (hs : scOk sc = true) (hf : freeOf sc.names E.cells = some cl) (hc : ∀ x j, lookS cl x = some j → cs.lookup x = some (ρ j))
    (e1 : cenv.scope = relabel sc env) (e2 : cenv.locals = C) (e3 : cenv.globals = mainGlobals) (e4 : cenv.builtins = builtinsNs) (e5 : cenv.cells = cs) (hn : h.Ns C fun _ => none) (up : P.H0.objs.size ≤ C) (hnx : s.nx ≤ nx) : FrOk P ρ nx h C ⟨sc, cl, []⟩ cenv [] := by
  refine ⟨hs, ?_, e2, e3, e4, (fun _ _ q => nomatch q), fun x => ?_, fun x j q => ⟨?_, by rw [e5]; exact hc x j q⟩, up, _, hn, fun x a q => by cases q⟩
  · rw [e1]; exact (scOk_names hs).1
  · have : cenv.kindOf x = (sc.names.lookup x).map fun k => if (k == .free && env.scope.kind == .function && env.kindOf x == some .cell) = true then .cell else k := by
      show cenv.scope.names.lookup x = _
      rw [e1, relabel_lookup]
    rw [this]
    show KindR _ (lookS sc.names x)
    rw [lookS_eq]
    cases sc.names.lookup x with
    | none => trivial
    | some k =>
      cases k with
      | free =>
        show _ = _ ∨ _ = _
        simp only [Option.map_some]
        split
        · exact .inr rfl
        · exact .inl rfl
      | «local» => rfl
      | cell => rfl
      | globalImplicit => rfl
      | globalExplicit => trivial
  · exact Nat.lt_of_lt_of_le (p.fr.cells x j (free_lt hf x j q)).1 hnx

/-- a comprehension's frame is let go -/
theorem Step.letGo (p : Pre P d A ρ s S D E env) {ρ' : Nat → Addr} {h' : Heap} (e : Step P D E env ρ s S ρ' s' S') {m : Str → Option Value} (hn : S'.heap.Ns C m) (h0 : S.heap.get? C = none) (up : P.H0.objs.size ≤ C) (hs : Heap.SameBut C S'.heap h') :
    Step P D E env ρ s S ρ' s' { S' with heap := h' } ∧ Later ρ' s'.nx S'.heap ρ' s'.nx h' := by
  have x : XOk S'.heap (AtD C) := xok_ns hn
  have kp := kpt_same hs
  have ne : D ≠ C := by
    rintro rfl
    obtain ⟨m, ⟨o, _, _, q, _⟩, _⟩ := p.fr.ns
    rw [h0] at q; cases q
  have L : Later ρ' s'.nx S'.heap ρ' s'.nx h' := later_kpt kp fun b w o q => (x b o w q).1
  refine ⟨⟨e.ext.skip kp (by rintro b rfl; exact h0) (e.ext.sr.beside kp ?_) (e.ext.inv.kpt kp ?_), e.fr.beside kp (fun b w o q => (x b o w q).1) ne, e.same⟩, L⟩
  · rintro b rfl; exact ⟨fun o q => x _ o rfl q, fun j o q => ns_apart hn e.ext.sr q⟩
  · rintro b rfl; exact ⟨up, fun o q => x _ o rfl q⟩
theorem ns_step {X : Addr → Prop} {ρ₁ : Nat → Addr} {s₁ : St} {S₁ : Shared} {m : Str → Option Value} (hn : S.heap.Ns C m) (e : Ext P X ρ s.σ s.nx S.heap ρ₁ s₁.σ s₁.nx S₁.heap) (R : SR P ρ s.σ s.nx S.heap) (V : Inv P S.heap) (hX : ¬ X C) : S₁.heap.Ns C m := by
  obtain ⟨ob, es, ep, q, z⟩ := id hn
  exact ⟨ob, es, ep, e.kp _ _ q (by
    rintro (⟨j, o, e, y⟩ | y | ⟨t, ht, y⟩)
    · exact ns_apart hn R e y
    · exact hX y
    · exact ns_notab hn V t ht y), z⟩

theorem comp_whole (H : Sound prog w P d self) {elt t iter : Expr} {ifs : List Expr} {sc : Scope} {cp : Pos} {use : Option (Value → Sem Unit)} {Q : Value → Shared → Prop} (h : evComp self elt t iter ifs sc E s = some (.v a, s')) (p : Pre P d A ρ s S D E env)
    (k : ∀ ρ' v S' C m, Step P D E env ρ s S ρ' s' S' → VR P ρ' s'.nx S'.heap v a → S'.heap.Ns C m → S.heap.get? C = none → P.H0.objs.size ≤ C →
      match use with
      | none => ∀ h', Heap.SameBut C S'.heap h' → Q v { S' with heap := h' }
      | some u => wpAny (model prog w) A (u v) (fun _ s'' => ∃ m, s''.heap.Ns C m ∧ ∀ h', Heap.SameBut C s''.heap h' → Q .none { s'' with heap := h' }) NoE S') :
    wpAny (model prog w) A (comprehension (.ListComp elt [⟨t, iter, ifs, 0⟩] sc cp) sc env pos (newList []) false (eval iter env) use) Q NoE S := by
  unfold evComp at h
  obtain ⟨i, s1, h1, h⟩ := thenI_some h
  split at h
  rotate_left
  · (first | (obtain ⟨rfl, rfl⟩ := inv_v h) | (obtain ⟨rfl, rfl⟩ := inv_b h) | (obtain ⟨rfl, rfl⟩ := inv_vs h) | (obtain ⟨rfl, rfl⟩ := inv_fl h) | (obtain rfl := inv_u h) | (obtain ⟨rfl, rfl⟩ := inv_it h) | cases h)
  rename_i cl hs hcl hf
  obtain ⟨ho, ki⟩ := H.iter h1
  obtain ⟨cs, hcs, _, hcell⟩ := closure_ok hs hf (fun x j q => (p.fr.cells x j q).2)
  obtain ⟨hk, hg1, hg2, hnm⟩ := scOk_names hs
  refine wpAny_comprehension_free (cl := cs) rfl (fun x => fold_of ho env x) hcs hk (fun x hx hl => ?_) (wpAny_mono (ki p) (fun x S₁ hx => wpAny_mono hx (fun iv S₂ q => ?_) fun _ _ x => x.elim) fun _ _ x => x.elim)
  · have := mem_lookup (namesOk_nodup hnm) (show (x.1, x.2) ∈ sc.names from hx)
    rw [this, hl]
  · obtain ⟨I, rfl, ρ₁, e₁, r₁, f₁, u₁⟩ := q
    have p₁ := p.step e₁
    unfold endComp at h
    split at h
    rotate_left
    · (first | (obtain ⟨rfl, rfl⟩ := inv_v h) | (obtain ⟨rfl, rfl⟩ := inv_b h) | (obtain ⟨rfl, rfl⟩ := inv_vs h) | (obtain ⟨rfl, rfl⟩ := inv_fl h) | (obtain rfl := inv_u h) | (obtain ⟨rfl, rfl⟩ := inv_it h) | cases h)
    rename_i l s2 h2
    refine wpAny_newList ?_ (by simp [sizeLine_eq])
    refine wpAny_newFunctionEnv (noCells_mem hcl) (by intro y hy; simp at hy) (fun h' hn' hsb => ?_) hk
    dsimp only at hn' hsb ⊢
    generalize hH1 : S₂.heap.push { cls := .type "list", dict := none, data := .seq ([] : List Value).toArray } = H1 at hn' hsb ⊢
    have hL : H1.objs.size = S₂.heap.objs.size + 1 := by rw [← hH1, Heap.size_push]
    have keep : ∀ b o, S₂.heap.get? b = some o → h'.get? b = some o := fun b o q => hsb.extBut b o (by rw [hL]; exact Nat.ne_of_lt (Nat.lt_succ_of_lt (Heap.lt_size q))) (push_keep _ _ (hH1 ▸ push_keep _ _ q))
    have g : h'.get? S₂.heap.objs.size = some (listOf ([] : List Value).toArray 0) := hsb.extBut _ _ (by rw [hL]; exact Nat.ne_of_lt (Nat.lt_succ_self _)) (push_keep _ _ (hH1 ▸ Heap.get?_push_size _ rfl))
    generalize hS3 : ({ heap := h', gens := S₂.gens, drawn := S₂.drawn, toks := S₂.toks + ([] : List (Str × Value)).length, os := S₂.os } : Shared) = S3
    have h3 : S3.heap = h' := by rw [← hS3]
    have e₂ : Step P D E env ρ₁ s1 S₂ ρ₁ s1 S3 := p₁.more (by rw [h3]; exact keep) (by rw [← hS3]; exact ⟨rfl, rfl, rfl⟩)
    have e₂' := e₁.trans p e₂
    have p₂ := p₁.step e₂
    have fresh : ∀ b, S₂.heap.objs.size ≤ b → S.heap.get? b = none := fun b hb => none_of e₁ (Heap.get?_none_of_le hb)
    have upL : P.H0.objs.size ≤ S₂.heap.objs.size := p₁.inv.big
    have fc : ∀ x j, lookS cl x = some j → cs.lookup x = some (ρ₁ j) := fun x j q => by rw [hcell x j q, e₁.ext.ag j (p.fr.cells x j (free_lt hf x j q)).1]
    have hgl := p.fr.glob
    have hbl := p.fr.blt
    generalize hce : ({ newEnv sc H1.objs.size env.globals cs env.qual none .none (some env) builtinsNs with scope := relabel sc env } : Env) = cenv
    have frm : FrOk P ρ₁ s1.nx S3.heap H1.objs.size ⟨sc, cl, []⟩ cenv [] := by
      rw [h3]
      refine frame_env p₁ hs hf fc ?_ ?_ ?_ ?_ ?_ hn' (by rw [hL]; exact Nat.le_succ_of_le upL) (Nat.le_refl _) <;> rw [← hce]
      · rfl
      · exact hgl
      · exact hbl
      · rfl
    have loop : codeAny (model prog w) A (.compLoop (.ListComp elt [⟨t, iter, ifs, 0⟩] sc cp) 0 (.ref I) (.ref S₂.heap.objs.size) cenv) (compPost (model prog w) A NoE use Q (.ref S₂.heap.objs.size) H1.objs.size) S3 := by
      have r₃ : ItR P ρ₁ s1.nx S3.heap I i := e₂.iter p₁ r₁
      have p₃ : Pre P d A ρ₁ ⟨[], s1.σ, s1.nx⟩ S3 H1.objs.size ⟨sc, cl, []⟩ cenv := ⟨p.cx, frm, p₂.sr, p₂.inv⟩
      have B : Base P (AtD D) ρ s S ρ₁ ⟨[], s1.σ, s1.nx⟩ S3 := ⟨e₂'.ext, p.sr, e₂'.same⟩
      have hDC : D ≠ H1.objs.size := by
        rintro rfl
        obtain ⟨m, ⟨o, _, _, q, _⟩, _⟩ := p.fr.ns
        rw [fresh _ (by rw [hL]; exact Nat.le_succ _)] at q; cases q
      have nL : ∀ j o, lookN s1.σ j = some o → ρ₁ j ≠ S₂.heap.objs.size := p₁.fresh (Heap.get?_none_of_le (Nat.le_refl _))
      refine codeAny_mono (H.comp h2 (vs := []) (n := 0) p₃ p₂.fr hDC B (fresh _ (by rw [hL]; exact Nat.le_succ _)) r₃ f₁ u₁ (by rw [h3]; exact g) .nil (fresh _ (Nat.le_refl _)) upL nL) ?_
      rintro r S' ⟨rfl, ρ', B', F₂, F', vs', n', g', rv', nL'⟩
      have st0 : Ext P (AtD D) ρ s.σ s.nx S.heap ρ' s2.σ s2.nx S'.heap := B'.ext
      obtain ⟨hl, ρ'', L'', e'', r''⟩ := newL_adopt (s := ⟨s1.lv, s2.σ, s2.nx⟩) (s₀ := s) (S₀ := S) h st0 g' rv' (fresh _ (Nat.le_refl _)) upL nL'
      have st : Step P D E env ρ s S ρ'' s' S' := ⟨e'', Step.fr_later (s := ⟨s1.lv, s2.σ, s2.nx⟩) F₂ L'' hl, B'.same⟩
      obtain ⟨m, hm, _⟩ := F'.ns
      have K := k ρ'' _ S' _ m st r'' hm (fresh _ (by rw [hL]; exact Nat.le_succ _)) (by rw [hL]; exact Nat.le_succ_of_le upL)
      cases use with
      | none => exact ⟨m, hm, K⟩
      | some u => exact K
    have it3 := pyIter_self (prog := prog) (w := w) (A := A) (Q := fun v S' => codeAny (model prog w) A (.compLoop (.ListComp elt [⟨t, iter, ifs, 0⟩] sc cp) 0 v (.ref S₂.heap.objs.size) cenv) (compPost (model prog w) A NoE use Q (.ref S₂.heap.objs.size) H1.objs.size) S') (e₂.iter p₁ r₁) loop
    subst hS3
    subst hce
    exact codeAny_compStart_list loop (wpAny_mono it3 (fun _ _ q => q) fun _ _ x => x.elim)
end
end Mine
set_option maxRecDepth 100000
namespace Mine
open PySem PySem.Calls PyProof.Rows PySem.W PySem.W.Z

section
variable {prog : Program} {w : World} {A : Around} {P : Par} {Φ : Phi} {xs : List (Int × Tok)} {ρ : Nat → Addr} {s s' : St} {S S' : Shared} {a : AV} {D I L C : Addr} {E : AEnv} {env : Env} {d : Nat} {body : List Stmt} {mg mb : Str → Option Value} {self : Tk → AEnv → St → Ans} {pos : Pos} {it : AIt}

theorem ok_comp (H : Sound prog w P d self) {elt t iter : Expr} {ifs : List Expr} {sc : Scope} (h : evComp self elt t iter ifs sc E s = some (.v a, s')) (p : Pre P d A ρ s S D E env) : wpAny (model prog w) A (eval (.ListComp elt [⟨t, iter, ifs, 0⟩] sc pos) env) (PV P D E env ρ s S s' a) NoE S := by
  show wpAny _ _ (comprehension (.ListComp elt [⟨t, iter, ifs, 0⟩] sc pos) sc env _ (newList []) false (eval iter env) none) _ _ _
  refine comp_whole H h p fun ρ' v S' C m e r hn h0 up => ?_
  intro h' hs
  obtain ⟨e', L⟩ := e.letGo p hn h0 up hs
  exact ⟨ρ', e', r.later L⟩

theorem ok_name (G : Glob P body mg mb) {x : Str} (h : stepName body x E s = some (.v a, s')) (p : Pre P d A ρ s S D E env) : wpAny (model prog w) A (eval (.Name x pos) env) (PV P D E env ρ s S s' a) NoE S := by
  obtain ⟨e, k⟩ := name_ok (prog := prog) (w := w) (A := A) (pos := pos) G h p.fr p.sr p.inv
  exact wpAny_mono k (fun _ _ q => p.pv (congrArg St.lv e) q) fun _ _ x => x
/-- an expression, one step -/
theorem ev_ok {cb cb0 : CB} (hP : PhiOk P Φ xs) (G : Glob P body mg mb) (C : CBok prog w P d cb) (C0 : CBok prog w P d cb0) (H : Sound prog w P d self) {e : Expr} (h : (boxEv body Φ cb cb0 self e).go E s = some (.v a, s')) : viewE e ≠ .other ∧ ∀ {A env D ρ S}, Pre P d A ρ s S D E env → wpAny (model prog w) A (eval e env) (PV P D E env ρ s S s' a) NoE S := by
  unfold boxEv at h
  have hn : viewE e ≠ .other := by intro q; rw [q] at h; cases h
  refine ⟨hn, fun p => ?_⟩
  have sp := viewE_spec e
  generalize viewE e = v at h sp
  cases sp with
  | cint i k pos => (first | (obtain ⟨rfl, rfl⟩ := inv_v h) | (obtain ⟨rfl, rfl⟩ := inv_b h) | (obtain ⟨rfl, rfl⟩ := inv_vs h) | (obtain ⟨rfl, rfl⟩ := inv_fl h) | (obtain rfl := inv_u h) | (obtain ⟨rfl, rfl⟩ := inv_it h) | cases h); exact wpAny_Constant_int ⟨_, p.tok tk1, .int _ _⟩
  | cnone k pos => (first | (obtain ⟨rfl, rfl⟩ := inv_v h) | (obtain ⟨rfl, rfl⟩ := inv_b h) | (obtain ⟨rfl, rfl⟩ := inv_vs h) | (obtain ⟨rfl, rfl⟩ := inv_fl h) | (obtain rfl := inv_u h) | (obtain ⟨rfl, rfl⟩ := inv_it h) | cases h); exact wpAny_Constant_none ⟨_, .refl p, .none⟩
  | cbool b k pos => (first | (obtain ⟨rfl, rfl⟩ := inv_v h) | (obtain ⟨rfl, rfl⟩ := inv_b h) | (obtain ⟨rfl, rfl⟩ := inv_vs h) | (obtain ⟨rfl, rfl⟩ := inv_fl h) | (obtain rfl := inv_u h) | (obtain ⟨rfl, rfl⟩ := inv_it h) | cases h); exact wpAny_Constant_bool ⟨_, .refl p, .bool _⟩
  | name x pos =>
    exact ok_name G h p
  | bin l op r pos => exact ok_bin hP H h p
  | not x pos => (first | (obtain ⟨rfl, rfl⟩ := inv_v h) | (obtain ⟨rfl, rfl⟩ := inv_b h) | (obtain ⟨rfl, rfl⟩ := inv_vs h) | (obtain ⟨rfl, rfl⟩ := inv_fl h) | (obtain rfl := inv_u h) | (obtain ⟨rfl, rfl⟩ := inv_it h) | cases h)
  | andE l pos => exact H.bop h p _
  | orE l pos => exact H.bop h p _
  | ife t a b pos => exact ok_ife H h p
  | cmp l op r pos => exact ok_cmp hP H h p
  | call f args np pos => exact ok_call hP G C C0 H h p
  | meth x xp m args apos pos h1 h2 => exact ok_meth H h1 h2 h p
  | lst es pos => exact ok_lst H h p
  | tup es k pos => exact ok_tup H h p
  | first3 o n sp pos h3 => exact ok_first3 hP H h3 h p
  | sub o i pos => exact ok_sub H h p
  | comp elt t it ifs sc pos => exact ok_comp H h p
  | other => (first | (obtain ⟨rfl, rfl⟩ := inv_v h) | (obtain ⟨rfl, rfl⟩ := inv_b h) | (obtain ⟨rfl, rfl⟩ := inv_vs h) | (obtain ⟨rfl, rfl⟩ := inv_fl h) | (obtain rfl := inv_u h) | (obtain ⟨rfl, rfl⟩ := inv_it h) | cases h)

/-! ## statements -/
theorem endF {m : Sem Flow} {f : AFl} {s₁ : St} {S₁ T : Shared} {ρ₁ : Nat → Addr} (p : Pre P d A ρ s S D E env) (e : Step P D E env ρ s S ρ₁ s₁ S₁) (h : wpAny (model prog w) A m (PF P D E env ρ₁ s₁ S₁ s' f) NoE T) : wpAny (model prog w) A m (PF P D E env ρ s S s' f) NoE T :=
  wpAny_mono h (fun _ _ ⟨ρ', e', r⟩ => ⟨ρ', e.trans p e', r⟩) fun _ _ x => x
theorem exs_ok (H : Sound prog w P d self) {l : List Stmt} {f : AFl} (h : stepExs self l E s = some (.fl f, s')) (p : Pre P d A ρ s S D E env) : wpAny (model prog w) A (execs l env) (PF P D E env ρ s S s' f) NoE S := by
  unfold stepExs at h
  cases l with
  | nil => (first | (obtain ⟨rfl, rfl⟩ := inv_v h) | (obtain ⟨rfl, rfl⟩ := inv_b h) | (obtain ⟨rfl, rfl⟩ := inv_vs h) | (obtain ⟨rfl, rfl⟩ := inv_fl h) | (obtain rfl := inv_u h) | (obtain ⟨rfl, rfl⟩ := inv_it h) | cases h); exact wpAny_execs_nil ⟨ρ, .refl p, rfl⟩
  | cons x r =>
    obtain ⟨g, s1, h1, h⟩ := thenF_some h
    refine wpAny_execs_cons (wpAny_mono (H.ex h1 p) (fun fl S₁ ⟨ρ₁, e₁, rf⟩ => ?_) fun _ _ x => x)
    cases g with
    | next =>
      cases rf
      exact endF p e₁ (H.exs h (p.step e₁))
    | ret a =>
      (first | (obtain ⟨rfl, rfl⟩ := inv_v h) | (obtain ⟨rfl, rfl⟩ := inv_b h) | (obtain ⟨rfl, rfl⟩ := inv_vs h) | (obtain ⟨rfl, rfl⟩ := inv_fl h) | (obtain rfl := inv_u h) | (obtain ⟨rfl, rfl⟩ := inv_it h) | cases h)
      obtain ⟨v, rfl, rv⟩ := rf
      exact ⟨ρ₁, e₁, v, rfl, rv⟩

/-- a name's place in a frame with other words of the same sense -/
theorem Step.same_lv {ρ' : Nat → Addr} {lv lv' : Lv} {σ' : Sto} {nx' : Nat} (e : Step P D E env ρ s S ρ' ⟨lv, σ', nx'⟩ S') (h : ∀ y a, lookS lv' y = some a → lookS lv y = some a) : Step P D E env ρ s S ρ' ⟨lv', σ', nx'⟩ S' := by
  refine ⟨e.ext, ⟨e.fr.ok, e.fr.kind, e.fr.loc, e.fr.glob, e.fr.blt, e.fr.defs, e.fr.names, e.fr.cells, e.fr.up, ?_⟩, e.same⟩
  obtain ⟨m, hn, hm⟩ := e.fr.ns
  exact ⟨m, hn, fun y a q => hm y a (h y a q)⟩
noncomputable def setAll : List (Str × AV) → Lv → Lv
  | [], lv => lv
  | p :: r, lv => setAll r (setL lv p.1 p.2)
theorem setAll_look : ∀ (l : List (Str × AV)) (lv : Lv) (y : Str), (l.map Prod.fst).Nodup → lookS (setAll l lv) y = match l.lookup y with | some a => some a | none => lookS lv y
  | [], lv, y, _ => rfl
  | p :: r, lv, y, h => by
    rw [List.map_cons, List.nodup_cons] at h
    show lookS (setAll r (setL lv p.1 p.2)) y = _
    rw [setAll_look r _ y h.2, setL_look, List.lookup_cons]
    by_cases c : y = p.1
    · subst c
      rw [if_pos rfl, beq_self_eq_true]
      have : r.lookup p.1 = none := by
        cases q : r.lookup p.1 with
        | none => rfl
        | some a =>
          rw [← lookS_eq] at q
          exact absurd (List.mem_map.mpr ⟨_, lookS_mem q, rfl⟩) h.1
      rw [this]
    · rw [if_neg c, show (y == p.1) = false by simpa using c]
/-- names of the frame, each stored -/
theorem stores_ok : ∀ {ns : List Str} {l : List AV} {vs : List Value} {s : St} {S : Shared}, (∀ x ∈ ns, kindS E.scope x = some .local) → ns.length = l.length → Pre P d A ρ s S D E env → VRs P ρ s.nx S.heap vs l →
    wpAny (model prog w) A (assignInOrder (ns.map fun n => bindName env n) vs) (fun _ S' => Step P D E env ρ s S ρ ⟨setAll (ns.zip l) s.lv, s.σ, s.nx⟩ S') NoE S
  | [], l, vs, s, S, _, hl, p, r => by
    cases l with
    | cons => cases hl
    | nil => obtain rfl := r.nilI; exact wpAny_pure (.refl p)
  | n :: ns, l, vs, s, S, hk, hl, p, r => by
    cases l with
    | nil => cases hl
    | cons a l =>
      obtain ⟨v, vs, rfl, x, y⟩ := r.consI
      · show wpAny _ _ (do holding vs (bindName env n v); assignInOrder (ns.map fun n => bindName env n) vs) _ _ _
        have hp : putName n a E s = some (.u, ⟨setL s.lv n a, s.σ, s.nx⟩) := by
          rw [putName_eq, hk n (.head _)]
          simp only
          rw [putS_eq]
        refine wpAny_bind (wpAny_holding (wpAny_bindName (wpAny_mono (put_okL hp p x) (fun _ S₁ e₁ => ?_) fun _ _ x => x)))
        have p₁ := p.step e₁
        exact wpAny_mono (stores_ok (fun x hx => hk x (.tail _ hx)) (by simpa using hl) p₁ (y.later (e₁.later p))) (fun _ S₂ e₂ => e₁.trans p e₂) fun _ _ x => x
end
end Mine
set_option maxRecDepth 100000
namespace Mine
open PySem PySem.Calls PyProof.Rows PySem.W PySem.W.Z

noncomputable abbrev nameE (p : Str × Pos) : Expr := .Name p.1 p.2
theorem noTgt_not : ∀ {ps : List (Str × Pos)} {x : Str}, noTgt (ps.map nameE) x = true → x ∉ ps.map Prod.fst
  | [], _, _ => by simp
  | p :: r, x, h => by
    have h : (match seq p.1 x with | true => false | false => noTgt (r.map nameE) x) = true := h
    cases q : seq p.1 x with
    | true => rw [q] at h; cases h
    | false =>
      rw [q] at h
      rw [List.map_cons, List.mem_cons]
      rintro (rfl | m)
      · rw [seq_refl] at q; cases q
      · exact noTgt_not h m
theorem nodupT_names : ∀ {ts : List Expr}, nodupT ts = true → ∃ ps : List (Str × Pos), ts = ps.map nameE ∧ (ps.map Prod.fst).Nodup
  | [], _ => ⟨[], rfl, .nil⟩
  | t :: r, h => by
    unfold nodupT at h
    split at h
    · rename_i y pos
      cases q : noTgt r y with
      | false => rw [q] at h; cases h
      | true =>
        rw [q] at h
        obtain ⟨ps, rfl, nd⟩ := nodupT_names (ts := r) h
        exact ⟨(y, pos) :: ps, rfl, List.nodup_cons.mpr ⟨noTgt_not q, nd⟩⟩
    · (first | (obtain ⟨rfl, rfl⟩ := inv_v h) | (obtain ⟨rfl, rfl⟩ := inv_b h) | (obtain ⟨rfl, rfl⟩ := inv_vs h) | (obtain ⟨rfl, rfl⟩ := inv_fl h) | (obtain rfl := inv_u h) | (obtain ⟨rfl, rfl⟩ := inv_it h) | cases h)

section
variable {prog : Program} {w : World} {A : Around} {P : Par} {Φ : Phi} {xs : List (Int × Tok)} {ρ : Nat → Addr} {s s' : St} {S S' : Shared} {a : AV} {D I L C : Addr} {E : AEnv} {env : Env} {d : Nat} {body : List Stmt} {mg mb : Str → Option Value} {self : Tk → AEnv → St → Ans} {pos : Pos} {it : AIt}

theorem putNames_len : ∀ {ts : List Expr} {l : List AV} {s : St}, putNames E ts l s = some (.u, s') → ts.length = l.length
  | [], [], _, _ => rfl
  | [], _ :: _, _, h => by cases h
  | _ :: _, [], _, h => by cases h
  | t :: ts, a :: l, s, h => by
    unfold putNames at h
    split at h
    · obtain ⟨s1, h1, h⟩ := thenU_some h
      simp [putNames_len h]
    · (first | (obtain ⟨rfl, rfl⟩ := inv_v h) | (obtain ⟨rfl, rfl⟩ := inv_b h) | (obtain ⟨rfl, rfl⟩ := inv_vs h) | (obtain ⟨rfl, rfl⟩ := inv_fl h) | (obtain rfl := inv_u h) | (obtain ⟨rfl, rfl⟩ := inv_it h) | cases h)
theorem putNames_ok : ∀ {ps : List (Str × Pos)} {l : List AV} {vs : List Value} {s : St} {S : Shared}, putNames E (ps.map nameE) l s = some (.u, s') → Pre P d A ρ s S D E env → VRs P ρ s.nx S.heap vs l →
    wpAny (model prog w) A (assignInOrder ((ps.map nameE).map fun t => assign t env) vs) (fun _ S' => Step P D E env ρ s S ρ s' S') NoE S
  | [], l, vs, s, S, h, p, r => by
    cases l with
    | cons => (first | (obtain ⟨rfl, rfl⟩ := inv_v h) | (obtain ⟨rfl, rfl⟩ := inv_b h) | (obtain ⟨rfl, rfl⟩ := inv_vs h) | (obtain ⟨rfl, rfl⟩ := inv_fl h) | (obtain rfl := inv_u h) | (obtain ⟨rfl, rfl⟩ := inv_it h) | cases h)
    | nil => (first | (obtain ⟨rfl, rfl⟩ := inv_v h) | (obtain ⟨rfl, rfl⟩ := inv_b h) | (obtain ⟨rfl, rfl⟩ := inv_vs h) | (obtain ⟨rfl, rfl⟩ := inv_fl h) | (obtain rfl := inv_u h) | (obtain ⟨rfl, rfl⟩ := inv_it h) | cases h); obtain rfl := r.nilI; exact wpAny_pure (.refl p)
  | n :: ps, l, vs, s, S, h, p, r => by
    cases l with
    | nil => (first | (obtain ⟨rfl, rfl⟩ := inv_v h) | (obtain ⟨rfl, rfl⟩ := inv_b h) | (obtain ⟨rfl, rfl⟩ := inv_vs h) | (obtain ⟨rfl, rfl⟩ := inv_fl h) | (obtain rfl := inv_u h) | (obtain ⟨rfl, rfl⟩ := inv_it h) | cases h)
    | cons a l =>
      obtain ⟨s1, h1, h⟩ := thenU_some (show thenU (putName n.1 a E s) (fun s => putNames E (ps.map nameE) l s) = some (.u, s') from h)
      obtain ⟨v, vs, rfl, x, y⟩ := r.consI
      · show wpAny _ _ (do holding vs (assign (nameE n) env v); assignInOrder ((ps.map nameE).map fun t => assign t env) vs) _ _ _
        refine wpAny_bind (wpAny_holding (wpAny_assign_Name (wpAny_mono (put_okL h1 p x) (fun _ S₁ e₁ => ?_) fun _ _ x => x)))
        exact wpAny_mono (putNames_ok h (p.step e₁) (y.later (e₁.later p))) (fun _ S₂ e₂ => e₁.trans p e₂) fun _ _ x => x
theorem putNames_set : ∀ {ps : List (Str × Pos)} {l : List AV} {s : St}, (∀ p ∈ ps, kindS E.scope p.1 = some .local) → putNames E (ps.map nameE) l s = some (.u, s') → s' = ⟨setAll ((ps.map Prod.fst).zip l) s.lv, s.σ, s.nx⟩
  | [], l, s, _, h => by
    cases l with
    | cons => (first | (obtain ⟨rfl, rfl⟩ := inv_v h) | (obtain ⟨rfl, rfl⟩ := inv_b h) | (obtain ⟨rfl, rfl⟩ := inv_vs h) | (obtain ⟨rfl, rfl⟩ := inv_fl h) | (obtain rfl := inv_u h) | (obtain ⟨rfl, rfl⟩ := inv_it h) | cases h)
    | nil => (first | (obtain ⟨rfl, rfl⟩ := inv_v h) | (obtain ⟨rfl, rfl⟩ := inv_b h) | (obtain ⟨rfl, rfl⟩ := inv_vs h) | (obtain ⟨rfl, rfl⟩ := inv_fl h) | (obtain rfl := inv_u h) | (obtain ⟨rfl, rfl⟩ := inv_it h) | cases h); rfl
  | n :: ps, l, s, hk, h => by
    cases l with
    | nil => (first | (obtain ⟨rfl, rfl⟩ := inv_v h) | (obtain ⟨rfl, rfl⟩ := inv_b h) | (obtain ⟨rfl, rfl⟩ := inv_vs h) | (obtain ⟨rfl, rfl⟩ := inv_fl h) | (obtain rfl := inv_u h) | (obtain ⟨rfl, rfl⟩ := inv_it h) | cases h)
    | cons a l =>
      obtain ⟨s1, h1, h⟩ := thenU_some (show thenU (putName n.1 a E s) (fun s => putNames E (ps.map nameE) l s) = some (.u, s') from h)
      rw [putName_eq, hk n (.head _)] at h1
      simp only at h1
      rw [putS_eq] at h1
      cases h1
      have := putNames_set (fun p hp => hk p (.tail _ hp)) h
      rw [this]
      rfl
theorem putNames_kind : ∀ {ps : List (Str × Pos)} {l : List AV} {s : St}, putNames E (ps.map nameE) l s = some (.u, s') → ∀ p ∈ ps, kindS E.scope p.1 = some .local ∨ kindS E.scope p.1 = some .cell
  | [], _, _, _, _, m => nomatch m
  | n :: ps, l, s, h, p, m => by
    cases l with
    | nil => (first | (obtain ⟨rfl, rfl⟩ := inv_v h) | (obtain ⟨rfl, rfl⟩ := inv_b h) | (obtain ⟨rfl, rfl⟩ := inv_vs h) | (obtain ⟨rfl, rfl⟩ := inv_fl h) | (obtain rfl := inv_u h) | (obtain ⟨rfl, rfl⟩ := inv_it h) | cases h)
    | cons a l =>
      obtain ⟨s1, h1, h⟩ := thenU_some (show thenU (putName n.1 a E s) (fun s => putNames E (ps.map nameE) l s) = some (.u, s') from h)
      cases m with
      | head =>
        rw [putName_eq] at h1
        split at h1
        · rename_i e; exact .inl e
        · rename_i e; exact .inr e
        · cases h1
      | tail _ m => exact putNames_kind h p m

theorem zip_rev {α β : Type} : ∀ {a : List α} {b : List β}, a.length = b.length → a.reverse.zip b.reverse = (a.zip b).reverse
  | [], [], _ => rfl
  | [], _ :: _, h => by cases h
  | _ :: _, [], h => by cases h
  | x :: a, y :: b, h => by
    have h : a.length = b.length := by simpa using h
    rw [List.reverse_cons, List.reverse_cons, List.zip_append (by simp [h]), zip_rev h]
    simp

theorem notC1_alone {e : Expr} (h : notC1 e = true) : ∀ n, constantsAlone n e = false := by
  unfold notC1 at h
  split at h
  · rename_i x pos
    cases q : oddName x with
    | true => rw [q] at h; cases h
    | false =>
      intro n
      have := (odd_debug q).1
      cases n <;> exact this
  · intro n; cases n <;> rfl
  · intro n; cases n <;> rfl
  · (first | (obtain ⟨rfl, rfl⟩ := inv_v h) | (obtain ⟨rfl, rfl⟩ := inv_b h) | (obtain ⟨rfl, rfl⟩ := inv_vs h) | (obtain ⟨rfl, rfl⟩ := inv_fl h) | (obtain rfl := inv_u h) | (obtain ⟨rfl, rfl⟩ := inv_it h) | cases h)
theorem notC_alone {e : Expr} (h : notC e = true) : constantsAlone 8 e = false := by
  unfold notC at h
  split at h
  · rename_i v s pos
    show (constantsAlone 7 v && constantsAlone 7 s) = false
    rw [notC1_alone h]; rfl
  · exact notC1_alone h 8
theorem notCs_alone : ∀ {vs : List Expr}, notCs vs = true → vs.all (constantsAlone 8) = false
  | [], h => by cases h
  | e :: r, h => by
    unfold notCs at h
    rw [List.all_cons]
    cases q : notC e with
    | true => rw [notC_alone q]; rfl
    | false =>
      rw [q] at h
      rw [notCs_alone h, Bool.and_false]
noncomputable abbrev lineName (env : Env) (line : Nat) : Expr → Option Str := fun
    | .Name id pos => if env.kindOf id == some .local && pos.line == line then some id else none
    | _ => none
theorem filter_names {env : Env} {line : Nat} : ∀ {ps : List (Str × Pos)}, ((ps.map nameE).filterMap (lineName env line)).length = ps.length → (ps.map nameE).filterMap (lineName env line) = ps.map Prod.fst ∧ ∀ p ∈ ps, env.kindOf p.1 = some .local
  | [], _ => ⟨rfl, fun _ m => nomatch m⟩
  | p :: ps, h => by
    rw [List.map_cons, List.filterMap_cons] at h
    have le : ((ps.map nameE).filterMap (lineName env line)).length ≤ ps.length := by
      have := List.length_filterMap_le (lineName env line) (ps.map nameE)
      simpa using this
    by_cases c : (env.kindOf p.1 == some .local && p.2.line == line) = true
    · have e : lineName env line (nameE p) = some p.1 := by
        show (if (env.kindOf p.1 == some .local && p.2.line == line) = true then some p.1 else none) = _
        rw [if_pos c]
      rw [e] at h
      obtain ⟨i1, i2⟩ := filter_names (ps := ps) (by simpa using h)
      refine ⟨by rw [List.map_cons, List.filterMap_cons, e]; simp only; rw [i1]; rfl, fun q m => ?_⟩
      cases m with
      | head => exact eq_of_beq (Bool.and_eq_true_iff.mp c).1
      | tail _ m => exact i2 q m
    · have e : lineName env line (nameE p) = none := by
        show (if (env.kindOf p.1 == some .local && p.2.line == line) = true then some p.1 else none) = _
        rw [if_neg c]
      rw [e] at h
      simp only [List.length_cons] at h
      omega
theorem swapped_cases {ps : List (Str × Pos)} {vs : List Expr} {k k' : Nat} {p p' : Pos} (hv : vs.all (constantsAlone 8) = false) :
    swappedStores [.Tuple (ps.map nameE) k p] (.Tuple vs k' p') env = pure none ∨ (swappedStores [.Tuple (ps.map nameE) k p] (.Tuple vs k' p') env = pure (some (ps.map Prod.fst)) ∧ ∀ q ∈ ps, env.kindOf q.1 = some .local) := by
  unfold swappedStores
  dsimp only
  split
  · exact .inl rfl
  · split
    · exact .inl rfl
    · split
      · exact .inl rfl
      · rename_i h1 h2 h3
        split
        · exact .inl rfl
        · rw [if_neg (by rw [hv]; exact Bool.false_ne_true)]
          have hl : ((ps.map nameE).filterMap (lineName env ((Option.map (fun x => x.pos.line) (List.map nameE ps).head?).getD 0))).length = ps.length := by
            simp only [Bool.or_eq_true, not_or, bne_iff_ne, ne_eq, Decidable.not_not] at h3
            have := h3.1
            rw [List.length_map] at this
            exact this
          obtain ⟨e1, e2⟩ := filter_names hl
          refine .inr ⟨?_, e2⟩
          rw [← e1]
          rfl
end
end Mine
set_option maxRecDepth 100000
namespace Mine
open PySem PySem.Calls PyProof.Rows PySem.W PySem.W.Z

section
variable {prog : Program} {w : World} {A : Around} {P : Par} {Φ : Phi} {xs : List (Int × Tok)} {ρ : Nat → Addr} {s s' : St} {S S' : Shared} {a : AV} {D I L C : Addr} {E : AEnv} {env : Env} {d : Nat} {body : List Stmt} {mg mb : Str → Option Value} {self : Tk → AEnv → St → Ans} {pos : Pos} {it : AIt}

theorem setAll_mem : ∀ {l : List (Str × AV)} {y : Str} {a : AV}, (l.map Prod.fst).Nodup → (l.lookup y = some a ↔ (y, a) ∈ l) := fun nd =>
  ⟨fun h => lookS_mem (by rw [lookS_eq]; exact h), fun h => mem_lookup nd h⟩
theorem setAll_rev {l : List (Str × AV)} {lv : Lv} (nd : (l.map Prod.fst).Nodup) (y : Str) : lookS (setAll l.reverse lv) y = lookS (setAll l lv) y := by
  have nr : (l.reverse.map Prod.fst).Nodup := by rw [List.map_reverse, (List.reverse_perm _).nodup_iff]; exact nd
  rw [setAll_look _ _ _ nr, setAll_look _ _ _ nd]
  have : l.reverse.lookup y = l.lookup y := by
    cases q : l.lookup y with
    | some a => exact (setAll_mem nr).mpr (List.mem_reverse.mpr ((setAll_mem nd).mp q))
    | none =>
      cases z : l.reverse.lookup y with
      | none => rfl
      | some a =>
        have := (setAll_mem nd).mpr (List.mem_reverse.mp ((setAll_mem nr).mp z))
        rw [q] at this; cases this
  rw [this]
theorem zip_fst {ps : List (Str × Pos)} {l : List AV} (h : ps.length = l.length) : (((ps.map Prod.fst).zip l).map Prod.fst) = ps.map Prod.fst := by
  rw [List.map_fst_zip (by simp [h])]

theorem names_each : ∀ (ps : List (Str × Pos)) (env : Env), assignEach (ps.map nameE) env = (ps.map nameE).map fun t => (false, assign t env)
  | [], _ => rfl
  | q :: r, env => by
    show (false, assign (nameE q) env) :: assignEach (r.map nameE) env = _
    rw [names_each r env]; rfl
/-- a tuple's names, from a tuple that was built on the spot -/
theorem names_ok (H : Sound prog w P d self) {ps : List (Str × Pos)} {vs : List Expr} {k k' : Nat} {tp vp : Pos} {f : AFl} (nd : (ps.map Prod.fst).Nodup) (hv : notCs vs = true)
    (h : thenV (self (.ev (.Tuple vs k' vp)) E s) (fun a s => putTup E (ps.map nameE) a s) = some (.fl f, s')) (p : Pre P d A ρ s S D E env) :
    wpAny (model prog w) A (exec (.Assign [.Tuple (ps.map nameE) k tp] (.Tuple vs k' vp) pos) env) (PF P D E env ρ s S s' f) NoE S := by
  obtain ⟨a1, s1, h1, h⟩ := thenV_some h
  unfold putTup at h
  split at h
  rotate_left
  · (first | (obtain ⟨rfl, rfl⟩ := inv_v h) | (obtain ⟨rfl, rfl⟩ := inv_b h) | (obtain ⟨rfl, rfl⟩ := inv_vs h) | (obtain ⟨rfl, rfl⟩ := inv_fl h) | (obtain rfl := inv_u h) | (obtain ⟨rfl, rfl⟩ := inv_it h) | cases h)
  rename_i l
  obtain ⟨s2, h2, h⟩ := thenU_some h
  (first | (obtain ⟨rfl, rfl⟩ := inv_v h) | (obtain ⟨rfl, rfl⟩ := inv_b h) | (obtain ⟨rfl, rfl⟩ := inv_vs h) | (obtain ⟨rfl, rfl⟩ := inv_fl h) | (obtain rfl := inv_u h) | (obtain ⟨rfl, rfl⟩ := inv_it h) | cases h)
  have len := putNames_len h2
  simp only [List.length_map] at len
  have he := names_each ps
  rcases swapped_cases (env := env) (ps := ps) (vs := vs) (k := k) (k' := k') (p := tp) (p' := vp) (notCs_alone hv) with sw | ⟨sw, loc⟩
  · refine Assign_Tuple (seqV p ((H.ev h1).2 p) fun ρ₁ v S₁ e₁ p₁ r₁ => ?_) rfl sw
    cases r₁ with
    | tup t us n _ g z =>
      have lz := z.length
      refine wpAny_assign_Tuple p₁.cx.handled (isTuple_of g) (by rw [he]; simp; omega) (by rw [he]; exact find_none) fun h' x => ?_
      have e₂ : Step P D E env ρ₁ s1 S₁ ρ₁ s1 { S₁ with heap := h' } := p₁.more (extBut_fresh x) ⟨rfl, rfl, rfl⟩
      rw [he, map_snd]
      exact wpAny_mono (putNames_ok h2 (p₁.step e₂) (z.later (e₂.later p₁))) (fun _ S₂ e₃ => ⟨ρ₁, (e₁.trans p e₂).trans p e₃, rfl⟩) fun _ _ x => x
  · refine Assign_Tuple_swapped (seqV p ((H.ev h1).2 p) fun ρ₁ v S₁ e₁ p₁ r₁ => ?_) rfl sw
    have kl : ∀ q ∈ ps, kindS E.scope q.1 = some .local := by
      intro q hq
      rcases putNames_kind h2 q hq with x | x
      · exact x
      · have := p.fr.names q.1
        rw [x] at this
        have this : env.kindOf q.1 = some .cell := this
        rw [loc q hq] at this; cases this
    cases r₁ with
    | tup t us n _ g z =>
      have lz := z.length
      have ln : (ps.map Prod.fst).length = us.toArray.size := by simp; omega
      rw [ln]
      refine wpAny_unpackItems_tuple p₁.cx.handled (isTuple_of g) fun h' x => ?_
      have e₂ : Step P D E env ρ₁ s1 S₁ ρ₁ s1 { S₁ with heap := h' } := p₁.more (extBut_fresh x) ⟨rfl, rfl, rfl⟩
      have z₂ := (z.later (e₂.later p₁)).reverse
      refine wpAny_mono (stores_ok (ns := (ps.map Prod.fst).reverse) (fun x hx => ?_) (by simp [len]) (p₁.step e₂) z₂) (fun _ S₂ e₃ => ?_) fun _ _ x => x
      · rw [List.mem_reverse, List.mem_map] at hx
        obtain ⟨q, hq, rfl⟩ := hx
        exact kl q hq
      · have := putNames_set kl h2
        subst this
        refine ⟨ρ₁, ((e₁.trans p e₂).trans p e₃).same_lv fun y b q => ?_, rfl⟩
        rw [zip_rev (by simp [len]), setAll_rev (by rw [zip_fst len]; exact nd)]
        exact q

theorem swaps_cases {e t : Expr} (he : viewE e ≠ .other) (line : Nat) : swapsWith e (some t) line env = pure false ∨ (swapsWith e (some t) line env = pure true ∧ ∃ elt tt it ifs sc p x px, e = .ListComp elt [⟨tt, it, ifs, 0⟩] sc p ∧ t = .Name x px) := by
  have sp := viewE_spec e
  generalize viewE e = v at he sp
  cases sp with
  | other => exact absurd rfl he
  | comp elt tt it ifs sc p =>
    cases t with
    | Name x px =>
      have key : swapsWith (.ListComp elt [⟨tt, it, ifs, 0⟩] sc p) (some (.Name x px)) line env = pure (env.blockKind == .function && env.kindOf x == some .local && px.line == p.line && !(sc.names.any fun (n, k) => n == x && (k == .local || k == .cell))) := rfl
      rw [key]
      cases (env.blockKind == .function && env.kindOf x == some .local && px.line == p.line && !(sc.names.any fun (n, k) => n == x && (k == .local || k == .cell))) with
      | false => exact .inl rfl
      | true => exact .inr ⟨rfl, _, _, _, _, _, _, _, _, rfl, rfl⟩
    | _ => exact .inl rfl
  | _ => exact .inl rfl
theorem assign_used (x px value) (hs : swapsWith value (some (.Name x px)) pos.line env = pure true) : exec (.Assign [.Name x px] value pos) env = (do
    standAt pos
    evalThenUse value env (assign (.Name x px) env)
    return .next) := exec_Assign_Name_used _ _ _ _ hs
/-- one target, a value -/
theorem gen_ok (H : Sound prog w P d self) {t e : Expr} {f : AFl} (hw : viewW t e = .gen) (h : thenV (self (.ev e) E s) (fun a s => thenU (self (.asg t a) E s) fun s => some (.fl .next, s)) = some (.fl f, s')) (p : Pre P d A ρ s S D E env) :
    wpAny (model prog w) A (exec (.Assign [t] e pos) env) (PF P D E env ρ s S s' f) NoE S := by
  obtain ⟨a1, s1, h1, h⟩ := thenV_some h
  obtain ⟨s2, h2, h⟩ := thenU_some h
  (first | (obtain ⟨rfl, rfl⟩ := inv_v h) | (obtain ⟨rfl, rfl⟩ := inv_b h) | (obtain ⟨rfl, rfl⟩ := inv_vs h) | (obtain ⟨rfl, rfl⟩ := inv_fl h) | (obtain rfl := inv_u h) | (obtain ⟨rfl, rfl⟩ := inv_it h) | cases h)
  obtain ⟨ho, ke⟩ := H.ev h1
  obtain ⟨hn, ka⟩ := H.asg h2
  rcases swaps_cases (env := env) (t := t) ho pos.line with sw | ⟨sw, elt, tt, it, ifs, sc, cp, x, px, rfl, rfl⟩
  · have st : swappedStores [t] e env = pure none := by
      have sp := viewT_spec t
      unfold noStar at hn
      generalize viewT t = tv at hn sp
      cases sp with
      | other => exact absurd rfl hn
      | name => rfl
      | sub => rfl
      | tup ts k tp =>
        cases e with
        | Tuple => cases hw
        | _ => rfl
    have stores : (assignEach [t] env).map (fun x => x.2) = [assign t env] := by
      rw [assignEach_cons hn]; rfl
    refine wpAny_Assign_stores (seqV p (ke p) fun ρ₁ v S₁ e₁ p₁ r₁ => ?_) sw st
    rw [stores]
    exact seqU p₁ (ka p₁ r₁) fun ρ₂ _ S₂ e₂ p₂ => ⟨ρ₂, e₁.trans p e₂, rfl⟩
  · cases hw
theorem compAsg_ok (H : Sound prog w P d self) {t elt tt iter : Expr} {ifs : List Expr} {sc : Scope} {cp : Pos} {f : AFl} (h : thenV (evComp self elt tt iter ifs sc E s) (fun a s => thenU (self (.asg t a) E s) fun s => some (.fl .next, s)) = some (.fl f, s')) (hn : ∃ x px, t = .Name x px) (p : Pre P d A ρ s S D E env) :
    wpAny (model prog w) A (exec (.Assign [t] (.ListComp elt [⟨tt, iter, ifs, 0⟩] sc cp) pos) env) (PF P D E env ρ s S s' f) NoE S := by
  obtain ⟨a1, s1, h1, h⟩ := thenV_some h
  obtain ⟨s2, h2, h⟩ := thenU_some h
  cases h
  obtain ⟨x, px, rfl⟩ := hn
  obtain ⟨hns, ka⟩ := H.asg h2
  rcases swaps_cases (env := env) (t := .Name x px) (e := .ListComp elt [⟨tt, iter, ifs, 0⟩] sc cp) (by intro q; cases q) pos.line with sw | ⟨sw, _⟩
  · refine wpAny_Assign_stores (seqV p (ok_comp H h1 p) fun ρ₁ v S₁ e₁ p₁ r₁ => ?_) sw rfl
    exact seqU p₁ (ka p₁ r₁) fun ρ₂ _ S₂ e₂ p₂ => ⟨ρ₂, e₁.trans p e₂, rfl⟩
  · rw [assign_used _ _ _ sw]
    refine wpAny_bind (wpAny_standAt (wpAny_bind ?_))
    show wpAny _ A (do let _ ← comprehension (.ListComp elt [⟨tt, iter, ifs, 0⟩] sc cp) sc env _ (newList []) false (eval iter env) (some (assign (.Name x px) env))) _ _ S
    refine wpAny_bind (comp_whole (use := some (assign (.Name x px) env)) (Q := fun _ S' => wpAny (model prog w) A (pure ()) (fun _ S' => wpAny (model prog w) A (pure Flow.next) (PF P D E env ρ s S s' .next) NoE S') NoE S') H h1 p fun ρ' v S' C m e r hm h0 up => ?_)
    have p' := p.step e
    refine seqU p' (ka p' r) fun ρ₂ _ S₂ e₂ p₂ => ?_
    have hCD : ¬ AtD D C := by
      rintro rfl
      obtain ⟨m, ⟨o, _, _, q, _⟩, _⟩ := p.fr.ns
      rw [h0] at q; cases q
    have hm₂ := ns_step hm e₂.ext p'.sr p'.inv hCD
    refine ⟨m, hm₂, fun h' hs => wpAny_pure (wpAny_pure ?_)⟩
    obtain ⟨e₃, _⟩ := (e.trans p e₂).letGo p hm₂ h0 up hs
    exact ⟨ρ₂, e₃, rfl⟩
end
end Mine
set_option maxRecDepth 100000
namespace Mine
open PySem PySem.Calls PyProof.Rows PySem.W PySem.W.Z

theorem anns_none {as : List Arg} (h : noAnns as = true) (env : Env) : annotationsOf as env = [] := by
  induction as with
  | nil => rfl
  | cons a r ih =>
    obtain ⟨n, an, t⟩ := a
    cases an with
    | none => exact ih h
    | some a => (first | (obtain ⟨rfl, rfl⟩ := inv_v h) | (obtain ⟨rfl, rfl⟩ := inv_b h) | (obtain ⟨rfl, rfl⟩ := inv_vs h) | (obtain ⟨rfl, rfl⟩ := inv_fl h) | (obtain rfl := inv_u h) | (obtain ⟨rfl, rfl⟩ := inv_it h) | cases h)
theorem def_tree {x : Str} {as : List Arg} {b : List Stmt} {sc : Scope} {pos : Pos} (ha : noAnns as = true) (env : Env) : exec (.FunctionDef x ⟨[], as, none, [], [], none, []⟩ b [] none [] sc none x pos) env = (do
    standAt pos
    let f ← holding [] (makeFunction x (qualnameIn env x x) ⟨[], as, none, [], [], none, []⟩ (.stmts b) sc env [] [] [] pos pos.line)
    standAt pos
    bindName env x f
    pure .next) := by
  have e : ∀ e : Env, annotationsOf (as ++ [] ++ [] ++ [] ++ []) e = [] := fun e => by
    simp only [List.append_nil]; exact anns_none ha e
  show defStmt x x ⟨[], as, none, [], [], none, []⟩ b sc pos env [] none [] [] ([], []) (fun e => annotationsOf (as ++ [] ++ [] ++ [] ++ []) e ++ []) (.FunctionDef x ⟨[], as, none, [], [], none, []⟩ b [] none [] sc none x pos) = _
  unfold defStmt
  simp only [e]
  rfl

theorem posEq_eq {a b : Pos} (h : posEq a b = true) : a = b := by
  unfold posEq at h
  split at h
  · rename_i h1 h2 h3 h4
    obtain ⟨a1, a2, a3, a4⟩ := a
    obtain ⟨b1, b2, b3, b4⟩ := b
    simp only at h1 h2 h3 h4
    rw [beq_of h1, beq_of h2, beq_of h3, beq_of h4]
  · (first | (obtain ⟨rfl, rfl⟩ := inv_v h) | (obtain ⟨rfl, rfl⟩ := inv_b h) | (obtain ⟨rfl, rfl⟩ := inv_vs h) | (obtain ⟨rfl, rfl⟩ := inv_fl h) | (obtain rfl := inv_u h) | (obtain ⟨rfl, rfl⟩ := inv_it h) | cases h)
theorem defIn_mem : ∀ {l : List (Pos × Str)} {pos : Pos} {x : Str}, defIn l pos x = true → (pos, x) ∈ l
  | [], _, _, h => by cases h
  | p :: r, pos, x, h => by
    unfold defIn at h
    split at h
    · rename_i h1 h2
      have e1 := posEq_eq h1
      have e2 := seq_iff.mp h2
      rw [← e1, ← e2]
      exact .head _
    · exact .tail _ (defIn_mem h)
theorem docOf_none {b : List Stmt} (h : noDoc b = true) : docOf b = none := by
  cases b with
  | nil => rfl
  | cons s r => cases s with
    | Expr e p => cases e with
      | Constant => (first | (obtain ⟨rfl, rfl⟩ := inv_v h) | (obtain ⟨rfl, rfl⟩ := inv_b h) | (obtain ⟨rfl, rfl⟩ := inv_vs h) | (obtain ⟨rfl, rfl⟩ := inv_fl h) | (obtain rfl := inv_u h) | (obtain ⟨rfl, rfl⟩ := inv_it h) | cases h)
      | _ => rfl
    | _ => rfl
theorem among_one {pos : Pos} {c' : Addr} : codeAmong pos (#[rawInt pos.line, rawInt pos.col, Value.ref c'] : Array Value).toList = some (.ref c') := by
  simp [codeAmong, rawInt]

section
variable {prog : Program} {w : World} {A : Around} {P : Par} {Φ : Phi} {xs : List (Int × Tok)} {ρ : Nat → Addr} {s s' : St} {S S' : Shared} {a : AV} {D I L C : Addr} {E : AEnv} {env : Env} {d : Nat} {body : List Stmt} {mg mb : Str → Option Value} {self : Tk → AEnv → St → Ans} {pos : Pos} {it : AIt}

theorem Inv.table {h h' : Heap} (V : Inv P h) {t : TabI} (ht : t ∈ P.TB) {arr arr' : Array Value} (hx : Heap.ExtBut t.P h h') (ic : h'.IsCode t.c t.P (arr ++ arr')) (ta' : h'.TableAt t.c t.P (arr ++ arr')) (h0 : ∃ ps₀, P.H0.TableAt t.c t.P ps₀) (ta : h.TableAt t.c t.P arr) (hne : t.P ≠ cStatics)
    (hc : (arr ++ arr') = #[] ∨ ∃ c', codeAmong t.pos (arr ++ arr').toList = some (.ref c') ∧ CRec h' c' t.qual) : Inv P h' := by
  obtain ⟨ps₀, h0⟩ := h0
  refine ⟨fun u hu => ?_, V.old.step_table h0 ta ta' hx hne, V.inj, V.last, V.lim.extBut hx hne.symm, V.cs⟩
  by_cases c : u.P = t.P
  · have := V.inj u hu t ht c
    subst this
    exact ⟨_, ic, ta', ⟨ps₀, h0⟩, hne, hc⟩
  · obtain ⟨ps, iu, tu, u0, un, uc⟩ := V.tabs u hu
    obtain ⟨⟨o, vs, go, co, dd, vo⟩, gP⟩ := tu
    have im : ∀ b o, h.get? b = some o → Imm o → h'.get? b = some o := fun b o e i => hx b o (by
      rintro rfl
      rw [ta.2] at e; cases e
      exact not_imm_tab ⟨rfl, _, rfl⟩ i) e
    have g1 := im u.c o go (.inr (.inr ⟨co, vs, dd⟩))
    have g2 := hx _ _ c gP
    refine ⟨ps, iu.extBut hx ?_ c, ⟨⟨o, vs, g1, co, dd, vo⟩, g2⟩, u0, un, ?_⟩
    · intro q
      rw [q, ta.2] at go; cases go; cases co
    · rcases uc with uc | ⟨c', uc, o', vs', t', q1, q2, q3, q4⟩
      · exact .inl uc
      · exact .inr ⟨c', uc, o', vs', t', im c' o' q1 (.inr (.inr ⟨q2, vs', q3⟩)), q2, q3, q4⟩
/-- the code of a nested def: made once, then found -/
theorem code_ok {x : Str} {ps : Arguments} {b : List Stmt} {sc : Scope} {line : Nat} {Q : Value → Shared → Prop} (p : Pre P d A ρ s S D E env) (hd : (pos, x) ∈ E.defs)
    (k : ∀ c' S', Step P D E env ρ s S ρ s S' → CRec S'.heap c' (env.qual ++ x) → (∃ tk, S' = { S with heap := S'.heap, toks := tk }) → Q (.ref c') S') : wpAny (model prog w) A (functionCode env pos line x (env.qual ++ x) ps sc (.stmts b)) Q NoE S := by
  obtain ⟨t, ht, hc, hp, hq⟩ := p.fr.defs pos x hd
  obtain ⟨arr, ic, ta, ⟨ps₀, h0⟩, hne, hcs⟩ := p.inv.tabs t ht
  rcases hcs with rfl | ⟨c', hm, hr⟩
  · refine wpAny_functionCodeX hc ic ta (by simp [codeAmong]) fun c' h' tk hx hge hlt ic' hrec ta' hnew => ?_
    obtain ⟨P', hP', icn, tan⟩ := hnew
    have cr : CRec h' c' (env.qual ++ x) := by
      obtain ⟨⟨o, vs, go, co, dd, vo⟩, _⟩ := tan
      obtain ⟨c2, o2, vs2, t2, e2, g2, d2, q2⟩ := hrec
      cases e2
      rw [go] at g2; cases g2
      rw [dd] at d2; cases d2
      exact ⟨o, vs, t2, go, co, dd, q2⟩
    have iv : Inv P h' := p.inv.table ht hx ic' ta' ⟨ps₀, h0⟩ ta hne (.inr ⟨c', by rw [hp]; simpa using among_one, by rw [hq]; exact cr⟩)
    have tab : ∀ b, AtD t.P b → ∀ o, S.heap.get? b = some o → Tab o := by
      rintro b rfl o q
      rw [ta.2] at q; cases q
      exact ⟨rfl, _, rfl⟩
    have kp := kpt_ext hx
    have L : Later ρ s.nx S.heap ρ s.nx h' := later_kpt kp fun b w o q => not_imm_tab (tab b w o q)
    have sr : SR P ρ s.σ s.nx h' := ⟨p.sr.lt, p.sr.inj, p.sr.up, fun i o1 e => (p.sr.rel i o1 e).later L fun ob z => kp _ _ z fun w => ((p.sr.rel i o1 e).kind z).2 (tab _ w _ z)⟩
    have nD : ¬ AtD t.P D := by
      intro w
      obtain ⟨m, hn, _⟩ := p.fr.ns
      exact ns_notab hn p.inv t ht w.symm
    refine k c' { S with heap := h', toks := tk } ⟨⟨Nat.le_refl _, fun _ _ => rfl, fun _ o e => .inl ⟨o, e⟩, fun b o e n => kp b o e fun w => n (.inr (.inr ⟨t, ht, w.symm⟩)), fun b o e => ?_, sr, iv⟩, p.fr.beside kp (fun b w o q => not_imm_tab (tab b w o q)) nD, ⟨rfl, rfl, rfl⟩⟩ cr ⟨tk, rfl⟩
    by_cases w : b = t.P
    · subst w; exact ⟨_, ta'.2⟩
    · exact ⟨o, hx b o w e⟩
  · rw [hp] at hm
    rw [hq] at hr
    exact wpAny_functionCode_hit hc ic hm (k c' S (.refl p) hr ⟨S.toks, rfl⟩)

theorem defOk_some {ps : Arguments} {b : List Stmt} (h : defOk ps b = true) : plainPs ps = true ∧ noAnns ps.args = true ∧ noDoc b = true ∧ defsOf b = [] := by
  unfold defOk at h
  split at h
  · rename_i h1 h2 h3 h4; exact ⟨h1, h2, h3, h4⟩
  · (first | (obtain ⟨rfl, rfl⟩ := inv_v h) | (obtain ⟨rfl, rfl⟩ := inv_b h) | (obtain ⟨rfl, rfl⟩ := inv_vs h) | (obtain ⟨rfl, rfl⟩ := inv_fl h) | (obtain rfl := inv_u h) | (obtain ⟨rfl, rfl⟩ := inv_it h) | cases h)
/-- a def within a def -/
theorem def_ok (G : Glob P body mg mb) {x : Str} {ps : Arguments} {b : List Stmt} {sc : Scope} {f : AFl} (h : exDef x ps b sc pos E s = some (.fl f, s')) (p : Pre P d A ρ s S D E env) :
    wpAny (model prog w) A (exec (.FunctionDef x ps b [] none [] sc none x pos) env) (PF P D E env ρ s S s' f) NoE S := by
  unfold exDef at h
  split at h
  rotate_left
  · (first | (obtain ⟨rfl, rfl⟩ := inv_v h) | (obtain ⟨rfl, rfl⟩ := inv_b h) | (obtain ⟨rfl, rfl⟩ := inv_vs h) | (obtain ⟨rfl, rfl⟩ := inv_fl h) | (obtain rfl := inv_u h) | (obtain ⟨rfl, rfl⟩ := inv_it h) | cases h)
  rename_i hd ho
  split at h
  rotate_left
  · (first | (obtain ⟨rfl, rfl⟩ := inv_v h) | (obtain ⟨rfl, rfl⟩ := inv_b h) | (obtain ⟨rfl, rfl⟩ := inv_vs h) | (obtain ⟨rfl, rfl⟩ := inv_fl h) | (obtain rfl := inv_u h) | (obtain ⟨rfl, rfl⟩ := inv_it h) | cases h)
  rename_i cl hf hs
  obtain ⟨s1, h1, h⟩ := thenU_some h
  cases h
  obtain ⟨o1, o2, o3, o4⟩ := defOk_some ho
  have o1' := o1
  obtain ⟨as, rfl, nd⟩ := plain_shape o1
  obtain ⟨cs, hcs, hnil, hcell⟩ := closure_ok hs hf (fun x j q => (p.fr.cells x j q).2)
  have hk : env.kindOf x ≠ some .globalExplicit := by
    have := p.fr.names x
    rw [putName_eq] at h1
    split at h1
    · rename_i e; rw [e] at this; intro q; have this : env.kindOf x = some .local := this; rw [q] at this; cases this
    · rename_i e; rw [e] at this; intro q; have this : env.kindOf x = some .cell := this; rw [q] at this; cases this
    · cases h1
  have hq : qualnameIn env x x = env.qual ++ x := by
    unfold qualnameIn
    rw [if_neg (by simpa using hk)]
  rw [def_tree o2, hq]
  refine wpAny_bind (wpAny_standAt (wpAny_bind (wpAny_holding ?_)))
  obtain ⟨t, ht, hc, hp, hqq⟩ := p.fr.defs pos x (defIn_mem hd)
  have hgl := p.fr.glob
  have key : ∀ {S₁ : Shared} (ct : Value), Step P D E env ρ s S ρ s S₁ → wpAny (model prog w) A (do
      let code ← functionCode env pos pos.line x (env.qual ++ x) ⟨[], as, none, [], [], none, []⟩ sc (.stmts b)
      let bl ← builtinsFor env.globals env.builtins
      let pm ← nsGet env.globals (Str.ofString "__name__")
      newObj (.type "function") (.func { name := x, qualname := env.qual ++ x, params := ⟨[], as, none, [], [], none, []⟩, body := .stmts b, scope := sc, globals := env.globals, closure := cs, defaults := .none, kwdefaults := .none, pyModule := pm.getD .none, code := code, closureTuple := ct, builtins := bl }))
      (fun a S' => wpAny (model prog w) A (do standAt pos; bindName env x a; pure Flow.next) (PF P D E env ρ s S s' AFl.next) NoE S') NoE S₁ := by
    intro S₁ ct e₁
    have p₁ := p.step e₁
    refine wpAny_bind (code_ok p₁ (defIn_mem hd) fun c' S₂ e₂ cr _ => ?_)
    have p₂ := p₁.step e₂
    obtain ⟨bm, o, hbm, hne0, _, hneP, hbo, hcls, hdict, hdata⟩ := G.bm _ p₂.inv t ht
    have hg := G.g _ p₂.inv
    rw [hgl]
    refine wpAny_bind (wpAny_builtinsFor hg hbm hne0 hbo hcls hdict hdata ?_)
    refine wpAny_bind (wpAny_nsGet hg ?_)
    simp only [newObj]
    refine wpAny_bind (wpAny_alloc (wpAny_pure ?_))
    refine wpAny_bind (wpAny_standAt (wpAny_bind (wpAny_bindName ?_)))
    generalize hfd : ({ name := x, qualname := env.qual ++ x, params := ⟨[], as, none, [], [], none, []⟩, body := .stmts b, scope := sc, globals := mainGlobals, closure := cs, defaults := .none, kwdefaults := .none, pyModule := (mg (Str.ofString "__name__")).getD .none, code := .ref c', closureTuple := ct, builtins := builtinsNs } : FuncData) = fd
    have e₃ : Step P D E env ρ s S₂ ρ s { S₂ with heap := S₂.heap.push { cls := .type "function", data := .func fd } } := p₂.more push_keep ⟨rfl, rfl, rfl⟩
    have p₃ := p₂.step e₃
    have vr : VR P ρ s.nx (S₂.heap.push { cls := .type "function", data := .func fd }) (.ref S₂.heap.objs.size) (.clo ⟨[], as, none, [], [], none, []⟩ b sc cl) := by
      have cr3 : CRec (S₂.heap.push { cls := .type "function", data := .func fd }) c' fd.qualname := by
        have : fd.qualname = env.qual ++ x := by rw [← hfd]
        rw [this]
        exact CRec.later (e₃.later p₂) cr
      refine .clo _ _ _ _ _ ⟨c', _, fd, ⟨Heap.get?_push_size _ rfl, rfl, (congrArg FuncData.params hfd).symm, (congrArg FuncData.body hfd).symm, (congrArg FuncData.scope hfd).symm, (congrArg FuncData.globals hfd).symm, (congrArg FuncData.builtins hfd).symm, (congrArg FuncData.code hfd).symm, cr3, (congrArg FuncData.defaults hfd).symm, (congrArg FuncData.kwdefaults hfd).symm, o1', o4, ?_, ?_⟩⟩
      · rw [← hfd]; exact hnil
      · rw [← hfd]; exact fun y j q => ⟨(p.fr.cells y j (free_lt hf y j q)).1, hcell y j q⟩
    refine wpAny_mono (put_ok h1 p₃ vr) (fun _ S₄ ⟨ρ', e₄⟩ => wpAny_pure ⟨ρ', ((e₁.trans p e₂).trans p e₃).trans p e₄, rfl⟩) fun _ _ x => x
  simp only [makeFunction, List.zip_nil_right, List.filterMap_nil, List.isEmpty_nil, if_true, pure_bind, hcs, docOf_none o3]
  cases cs with
  | nil => exact key .none (.refl p)
  | cons c r =>
    simp only [List.isEmpty_cons, Bool.false_eq_true, if_false]
    exact wpAny_bind (wpAny_newTextTuple (key _ (p.more push_keep ⟨rfl, rfl, rfl⟩)))
end
end Mine
set_option maxRecDepth 100000
namespace Mine
open PySem PySem.Calls PyProof.Rows PySem.W PySem.W.Z

inductive SVR : Stmt → SV → Prop
  | expr (f args kw cp pos) : SVR (.Expr (.Call f args kw cp) pos) (.expr (.Call f args kw cp))
  | asg (t e pos) : SVR (.Assign [t] e pos) (.asg t e)
  | ret (e pos) : SVR (.Return (some e) pos) (.ret e)
  | ret0 (pos) : SVR (.Return none pos) .ret0
  | ite (t a b pos) : SVR (.If t a b pos) (.ite t a b)
  | whl (t b pos) : SVR (.While t b [] pos) (.whl t b)
  | for_ (t it b pos) : SVR (.For t it b [] pos) (.for_ t it b)
  | def_ (x ps b sc pos) : SVR (.FunctionDef x ps b [] none [] sc none x pos) (.def_ x ps b sc pos)
  | other (st) : SVR st .other
theorem viewS_spec (st : Stmt) : SVR st (viewS st) := by
  cases st with
  | Expr e pos => cases e with
    | Call => exact .expr _ _ _ _ _
    | _ => exact .other _
  | Assign ts e pos =>
    match ts with
    | [] => exact .other _
    | [t] => exact .asg _ _ _
    | _ :: _ :: _ => exact .other _
  | Return e pos => cases e with
    | none => exact .ret0 _
    | some e => exact .ret _ _
  | If t a b pos => exact .ite _ _ _ _
  | While t b o pos => cases o with
    | nil => exact .whl _ _ _
    | cons => exact .other _
  | For t it b o pos => cases o with
    | nil => exact .for_ _ _ _ _
    | cons => exact .other _
  | FunctionDef x ps b ds rt tp sc ts bind pos =>
    unfold viewS
    simp only
    split
    · rename_i h
      have := seq_iff.mp h
      subst this
      exact .def_ _ _ _ _ _
    · exact .other _
  | _ => exact .other _

section
variable {prog : Program} {w : World} {A : Around} {P : Par} {Φ : Phi} {xs : List (Int × Tok)} {ρ : Nat → Addr} {s s' : St} {S S' : Shared} {a : AV} {D I L C : Addr} {E : AEnv} {env : Env} {d : Nat} {body : List Stmt} {mg mb : Str → Option Value} {self : Tk → AEnv → St → Ans} {pos : Pos} {it : AIt}
theorem noE_any {F : Value → Shared → Prop} : ∀ e s, NoE e s → F e s := fun _ _ x => x.elim
theorem ofP {R : Result → Shared → Prop} {c : Code} {Q : Flow → Shared → Prop} (h : codeAny (model prog w) A c (PRes Q) S) (k : ∀ fl S', Q fl S' → R (.ok fl) S') : codeAny (model prog w) A c R S :=
  codeAny_mono h fun r S' ⟨fl, hr, q⟩ => by subst hr; exact k fl S' q
inductive WVR : Expr → Expr → WV → Prop
  | names (ts vs k tp k' vp) : WVR (.Tuple ts k tp) (.Tuple vs k' vp) (.names ts vs)
  | comp (y q elt t it ifs sc e) : viewE e = .comp elt t it ifs sc → WVR (.Name y q) e (.comp elt t it ifs sc)
  | gen (t e) : WVR t e .gen
theorem viewW_spec (t e : Expr) : WVR t e (viewW t e) := by
  cases t with
  | Name y q =>
    show WVR _ _ (match viewE e with
      | .comp elt tt it ifs sc => .comp elt tt it ifs sc
      | _ => .gen)
    cases h : viewE e with
    | comp => exact .comp _ _ _ _ _ _ _ _ h
    | _ => exact .gen _ _
  | Tuple ts k tp => cases e with
    | Tuple => exact .names _ _ _ _ _ _
    | _ => exact .gen _ _
  | _ => exact .gen _ _
theorem viewE_comp {e elt t it : Expr} {ifs : List Expr} {sc : Scope} (h : viewE e = .comp elt t it ifs sc) : ∃ pos, e = .ListComp elt [⟨t, it, ifs, 0⟩] sc pos := by
  have sp := viewE_spec e
  rw [h] at sp
  cases sp with
  | comp => exact ⟨_, rfl⟩
theorem exAsg_ok (H : Sound prog w P d self) {t e : Expr} {f : AFl} (h : exAsg self t e E s = some (.fl f, s')) (p : Pre P d A ρ s S D E env) : wpAny (model prog w) A (exec (.Assign [t] e pos) env) (PF P D E env ρ s S s' f) NoE S := by
  unfold exAsg at h
  have sp := viewW_spec t e
  generalize hw : viewW t e = v at h sp
  cases sp with
  | names ts vs k tp k' vp =>
    replace h : asgNames self ts vs (.Tuple vs k' vp) E s = some (.fl f, s') := h
    unfold asgNames at h
    split at h
    · rename_i hv hn
      obtain ⟨ps, rfl, nd⟩ := nodupT_names hn
      exact names_ok H nd hv h p
    · (first | (obtain ⟨rfl, rfl⟩ := inv_v h) | (obtain ⟨rfl, rfl⟩ := inv_b h) | (obtain ⟨rfl, rfl⟩ := inv_vs h) | (obtain ⟨rfl, rfl⟩ := inv_fl h) | (obtain rfl := inv_u h) | (obtain ⟨rfl, rfl⟩ := inv_it h) | cases h)
  | comp y q elt tt it ifs sc e hc =>
    obtain ⟨cp, rfl⟩ := viewE_comp hc
    exact compAsg_ok H h ⟨_, _, rfl⟩ p
  | gen => exact gen_ok H hw h p
theorem ex_ok (G : Glob P body mg mb) (H : Sound prog w P d self) {x : Stmt} {f : AFl} (h : (boxEx self x).go E s = some (.fl f, s')) (p : Pre P d A ρ s S D E env) : wpAny (model prog w) A (exec x env) (PF P D E env ρ s S s' f) NoE S := by
  unfold boxEx at h
  have sp := viewS_spec x
  generalize viewS x = v at h sp
  cases sp with
  | other => (first | (obtain ⟨rfl, rfl⟩ := inv_v h) | (obtain ⟨rfl, rfl⟩ := inv_b h) | (obtain ⟨rfl, rfl⟩ := inv_vs h) | (obtain ⟨rfl, rfl⟩ := inv_fl h) | (obtain rfl := inv_u h) | (obtain ⟨rfl, rfl⟩ := inv_it h) | cases h)
  | expr g args kw cp pos =>
    replace h : thenV (self (.ev (.Call g args kw cp)) E s) (fun _ s => some (.fl .next, s)) = some (.fl f, s') := h
    obtain ⟨a1, s1, h1, h⟩ := thenV_some h
    (first | (obtain ⟨rfl, rfl⟩ := inv_v h) | (obtain ⟨rfl, rfl⟩ := inv_b h) | (obtain ⟨rfl, rfl⟩ := inv_vs h) | (obtain ⟨rfl, rfl⟩ := inv_fl h) | (obtain rfl := inv_u h) | (obtain ⟨rfl, rfl⟩ := inv_it h) | cases h)
    have hi : interactive env = false := by unfold interactive; rw [p.fr.kind]; rfl
    exact wpAny_Expr_any (seqV p ((H.ev h1).2 p) fun ρ₁ v S₁ e₁ p₁ r₁ => ⟨ρ₁, e₁, rfl⟩) hi rfl
  | asg t e pos => exact exAsg_ok H h p
  | ret e pos =>
    replace h : thenV (self (.ev e) E s) (fun a s => some (.fl (.ret a), s)) = some (.fl f, s') := h
    obtain ⟨a1, s1, h1, h⟩ := thenV_some h
    (first | (obtain ⟨rfl, rfl⟩ := inv_v h) | (obtain ⟨rfl, rfl⟩ := inv_b h) | (obtain ⟨rfl, rfl⟩ := inv_vs h) | (obtain ⟨rfl, rfl⟩ := inv_fl h) | (obtain rfl := inv_u h) | (obtain ⟨rfl, rfl⟩ := inv_it h) | cases h)
    exact wpAny_Return_some (seqV p ((H.ev h1).2 p) fun ρ₁ v S₁ e₁ p₁ r₁ => ⟨ρ₁, e₁, v, rfl, r₁⟩)
  | ret0 pos => (first | (obtain ⟨rfl, rfl⟩ := inv_v h) | (obtain ⟨rfl, rfl⟩ := inv_b h) | (obtain ⟨rfl, rfl⟩ := inv_vs h) | (obtain ⟨rfl, rfl⟩ := inv_fl h) | (obtain rfl := inv_u h) | (obtain ⟨rfl, rfl⟩ := inv_it h) | cases h); exact wpAny_Return_none ⟨ρ, .refl p, _, rfl, .none⟩
  | ite t a b pos =>
    replace h : exIf self t a b E s = some (.fl f, s') := h
    unfold exIf at h
    obtain ⟨c, s1, h1, h⟩ := thenB_some h
    refine wpAny_If (seqB p (H.tr h1 p) fun ρ₁ S₁ e₁ p₁ => ?_)
    cases c with
    | true => exact endF p e₁ (H.exs h p₁)
    | false => exact endF p e₁ (H.exs h p₁)
  | whl t b pos => exact wpAny_While (ofP (H.whl h p) fun _ _ q => q)
  | for_ t it b pos =>
    replace h : thenI (self (.iter it) E s) (fun i s => self (.loop t i b) E s) = some (.fl f, s') := h
    obtain ⟨i, s1, h1, h⟩ := thenI_some h
    obtain ⟨ho, ki⟩ := H.iter h1
    refine wpAny_For (wpAny_mono (ki p) (fun x S₁ hx => wpAny_mono hx (fun iv S₂ q => ?_) fun _ _ x => x.elim) fun _ _ x => x.elim) (fun x => fold_of ho env x)
    obtain ⟨I, rfl, ρ₁, e₁, r₁, f₁, u₁⟩ := q
    exact ofP (H.loop h (p.step e₁) ⟨e₁.ext, p.sr, e₁.same⟩ r₁ f₁ u₁) fun _ _ q => q
  | def_ x ps b sc pos => exact def_ok G h p

theorem Sound.step {cb cb0 : CB} (hP : PhiOk P Φ xs) (G : Glob P body mg mb) (C : CBok prog w P d cb) (C0 : CBok prog w P d cb0) (H : Sound prog w P d self) : Sound prog w P d (fun t => (Mine.step body Φ cb cb0 self t).go) where
  ev h := ev_ok hP G C C0 H h
  evs h := evs_ok H h
  tr h := @fun _ _ _ _ _ p => tr_ok hP H h p
  ats h := @fun _ _ _ _ _ p => ats_ok H h p
  bop h := @fun _ _ _ _ _ p _ => bop_ok H h p
  ex h := @fun _ _ _ _ _ p => ex_ok G H h p
  exs h := @fun _ _ _ _ _ p => exs_ok H h p
  asg h := asg_ok H h
  asgs h := asgs_ok H h
  loop h := @fun _ _ _ _ _ _ _ _ _ p B r hI up => loop_ok H h p B r hI up
  whl h := @fun _ _ _ _ _ p => whl_ok H h p
  iter h := iter_step G H h
  comp h := by
    intros
    apply comp_ok H h <;> assumption
  tests h := @fun _ _ _ _ _ p => tests_ok H h p
theorem Sound.run {cb cb0 : CB} (hP : PhiOk P Φ xs) (G : Glob P body mg mb) (C : CBok prog w P d cb) (C0 : CBok prog w P d cb0) : ∀ n, Sound prog w P d (Mine.run body Φ cb cb0 n)
  | 0 => Sound.none
  | n + 1 => Sound.step hP G C C0 (Sound.run hP G C C0 n)
end
end Mine
set_option maxRecDepth 100000
namespace Mine
open PySem PySem.Calls PyProof.Rows PySem.W PySem.W.Z

theorem localsOf_some : ∀ {names : List (Str × NameKind)} {bs lv : Lv}, localsOf names bs = some lv → ∀ p ∈ bs, lookS names p.1 = some .local ∨ lookS names p.1 = some .cell
  | names, [], lv, _, p, m => nomatch m
  | names, q :: r, lv, h, p, m => by
    unfold localsOf at h
    split at h
    · rename_i l e1 e2
      cases m with
      | head => exact .inl e1
      | tail _ m => exact localsOf_some e2 p m
    · rename_i l e1 e2
      cases m with
      | head => exact .inr e1
      | tail _ m => exact localsOf_some e2 p m
    · cases h

section
variable {prog : Program} {w : World} {A : Around} {P : Par} {Φ : Phi} {xs : List (Int × Tok)} {ρ : Nat → Addr} {s s' : St} {S S' : Shared} {a : AV} {D I L C : Addr} {E : AEnv} {env : Env} {d : Nat} {body : List Stmt} {mg mb : Str → Option Value}
theorem cellsOf_none {R : Type} : ∀ {names : List (Str × NameKind)} {bs : Lv} {cl : List (Str × Nat)} {σ : Sto} {nx : Nat} {k : List (Str × Nat) → Sto → Nat → Option R}, noCells names = true → cellsOf names bs cl σ nx k = k cl σ nx
  | [], _, _, _, _, _, _ => rfl
  | p :: r, bs, cl, σ, nx, k, h => by
    unfold noCells at h
    unfold cellsOf
    split at h
    · cases h
    · rename_i hp
      exact cellsOf_none h
theorem Cx.deeper (C : Cx (d + 1) A) : Cx d (A.deeper env) := ⟨C.handled, by have := C.depth; show A.depth + 1 + d ≤ 900; omega, by have := C.units; show A.units + 3 + 8 * d + 400 ≤ 9900; omega⟩

theorem CRec.code {h : Heap} {c : Addr} {q : Str} (x : CRec h c q) : h.CodeRec (.ref c) q := let ⟨o, vs, t, a, b, d, e⟩ := x; ⟨c, o, vs, t, rfl, a, d, e⟩
end
end Mine
set_option maxRecDepth 100000
namespace Mine
open PySem PySem.Calls PyProof.Rows PySem.W PySem.W.Z

section
variable {prog : Program} {w : World} {A : Around} {P : Par} {Φ : Phi} {xs : List (Int × Tok)} {ρ : Nat → Addr} {s s' : St} {S S' : Shared} {a : AV} {D I L C : Addr} {E : AEnv} {env : Env} {d : Nat} {body : List Stmt} {mg mb : Str → Option Value}

theorem callOk_some {fi : FnInfo} {cl : List (Str × Nat)} (h : callOk fi cl = true) : scOk fi.scope = true ∧ (noCells fi.scope.names = true ∨ (noCells fi.scope.names = false ∧ plainPs fi.ps = true ∧ cl = [])) := by
  unfold callOk at h
  split at h
  · cases h
  · rename_i hs
    refine ⟨hs, ?_⟩
    split at h
    · rename_i hn; exact .inl hn
    · rename_i hn
      split at h
      · rename_i hp
        cases cl with
        | nil => exact .inr ⟨hn, hp, rfl⟩
        | cons => cases h
      · cases h
theorem lookup_rev {β : Type} {l : List (Str × β)} (nd : (l.map Prod.fst).Nodup) (x : Str) : l.reverse.lookup x = l.lookup x := by
  have nr : (l.reverse.map Prod.fst).Nodup := by rw [List.map_reverse, (List.reverse_perm _).nodup_iff]; exact nd
  cases q : l.lookup x with
  | some b => exact mem_lookup nr (List.mem_reverse.mpr (lookS_mem (by rw [lookS_eq]; exact q)))
  | none =>
    cases z : l.reverse.lookup x with
    | none => rfl
    | some b =>
      have := mem_lookup nd (List.mem_reverse.mp (lookS_mem (by rw [lookS_eq]; exact z)))
      rw [q] at this; cases this
theorem vrs_look {nx : Nat} {h : Heap} : ∀ {bv : List (Str × Value)} {bs : Lv}, bv.map Prod.fst = bs.map Prod.fst → VRs P ρ nx h (bv.map Prod.snd) (bs.map Prod.snd) → ∀ x a, lookS bs x = some a → ∃ v, bv.lookup x = some v ∧ VR P ρ nx h v a
  | [], [], _, _, x, a, e => by cases e
  | [], _ :: _, q, _, _, _, _ => by cases q
  | _ :: _, [], q, _, _, _, _ => by cases q
  | p :: bv, b :: bs, q, r, x, a, e => by
    simp only [List.map_cons, List.cons.injEq] at q
    obtain ⟨v0, w0, e0, r1, r2⟩ := r.consI
    cases e0
    · rw [lookS_eq] at e
      rw [List.lookup_cons] at e ⊢
      rw [q.1]
      cases c : x == b.1 with
      | true =>
        rw [c] at e
        cases e
        exact ⟨_, rfl, r1⟩
      | false =>
        rw [c] at e
        exact vrs_look q.2 r2 x a (by rw [lookS_eq]; exact e)

/-- what a body leaves, as the call's answer -/
noncomputable def bodyAns (r : Ans) : Option (AV × Sto × Nat) := match r with
  | some (.fl .next, s) => some (.none, s.σ, s.nx)
  | some (.fl (.ret a), s) => some (a, s.σ, s.nx)
  | _ => none
/-- a block's run is the model's -/
noncomputable def ExsOk (prog : Program) (w : World) (P : Par) (d : Nat) (bd : List Stmt → AEnv → St → Ans) : Prop := ∀ {l : List Stmt} {E : AEnv} {s : St} {f : AFl} {s' : St}, bd l E s = some (.fl f, s') → ∀ {A : Around} {env : Env} {D : Addr} {ρ : Nat → Addr} {S : Shared}, Pre P d A ρ s S D E env →
  wpAny (model prog w) A (execs l env) (PF P D E env ρ s S s' f) NoE S
theorem body_ok {bd : List Stmt → AEnv → St → Ans} (H : ExsOk prog w P d bd) {l : List Stmt} {σ' : Sto} {nx' : Nat} (h : bodyAns (bd l E s) = some (a, σ', nx')) {ρ₀ : Nat → Addr} {σ₀ : Sto} {nx₀ : Nat} {S₀ : Shared} (p : Pre P d A ρ s S D E env)
    (e₀ : Ext P NoX ρ₀ σ₀ nx₀ S₀.heap ρ s.σ s.nx S.heap) (R₀ : SR P ρ₀ σ₀ nx₀ S₀.heap) (sm : Same S₀ S) (hD : S₀.heap.get? D = none) :
    wpAny (model prog w) A (execs l env) (fun f S' => ∃ ρ', Ext P NoX ρ₀ σ₀ nx₀ S₀.heap ρ' σ' nx' S'.heap ∧ VR P ρ' nx' S'.heap (match f with | .ret v => v | _ => .none) a ∧ Same S₀ S') NoE S := by
  unfold bodyAns at h
  split at h
  · rename_i s1 q
    cases h
    refine wpAny_mono (H q p) (fun f S' ⟨ρ', e, r⟩ => ?_) fun _ _ x => x
    cases r
    exact ⟨ρ', e₀.transY R₀ e.ext (by rintro b rfl; exact .inr hD), .none, sm.trans e.same⟩
  · rename_i b s1 q
    cases h
    refine wpAny_mono (H q p) (fun f S' ⟨ρ', e, r⟩ => ?_) fun _ _ x => x
    obtain ⟨v, rfl, rv⟩ := r
    exact ⟨ρ', e₀.transY R₀ e.ext (by rintro b rfl; exact .inr hD), rv, sm.trans e.same⟩
  · cases h
end
end Mine
set_option maxRecDepth 100000
namespace Mine
open PySem PySem.Calls PyProof.Rows PySem.W PySem.W.Z

theorem cellsFrom_acc : ∀ (names : List (Str × NameKind)) (n : Nat) (acc : List (Str × Addr)), ∀ p ∈ acc, p ∈ cellsFrom n names acc
  | [], _, _, p, m => m
  | q :: r, n, acc, p, m => by
    unfold cellsFrom
    split
    · exact cellsFrom_acc r _ _ p (.tail _ m)
    · exact cellsFrom_acc r _ _ p m
theorem cellsFrom_has : ∀ {names : List (Str × NameKind)} {n : Nat} {acc : List (Str × Addr)} {x : Str}, (x, NameKind.cell) ∈ names → ∃ c, (x, c) ∈ cellsFrom n names acc
  | q :: r, n, acc, x, m => by
    unfold cellsFrom
    cases m with
    | head => exact ⟨n, cellsFrom_acc r _ _ _ (.head _)⟩
    | tail _ m =>
      split
      · exact cellsFrom_has m
      · exact cellsFrom_has m
theorem cellsFrom_nd : ∀ (names : List (Str × NameKind)) (n : Nat) (acc : List (Str × Addr)), (names.map Prod.fst ++ acc.map Prod.fst).Nodup → ((cellsFrom n names acc).map Prod.fst).Nodup
  | [], _, _, h => h
  | (x, k) :: r, n, acc, h => by
    unfold cellsFrom
    have h' : (x :: (r.map Prod.fst ++ acc.map Prod.fst)).Nodup := h
    split
    · exact cellsFrom_nd r _ _ (List.perm_middle.nodup_iff.mpr h')
    · exact cellsFrom_nd r _ _ (List.nodup_cons.mp h').2
theorem bindL_out {kd : Str → Option NameKind} : ∀ {b : List (Str × Value)} {m : Str → Option Value} {x : Str}, x ∉ b.map Prod.fst → bindL kd b m x = m x
  | [], _, _, _ => rfl
  | (n, v) :: r, m, x, h => by
    rw [List.map_cons, List.mem_cons, not_or] at h
    unfold bindL
    rw [bindL_out h.2]
    split
    · exact if_neg h.1
    · rfl
theorem bindL_in {kd : Str → Option NameKind} : ∀ {b : List (Str × Value)} {m : Str → Option Value} {x : Str} {v : Value}, (b.map Prod.fst).Nodup → (x, v) ∈ b → kd x = some .local → bindL kd b m x = some v
  | (n, u) :: r, m, x, v, nd, h, hk => by
    rw [List.map_cons, List.nodup_cons] at nd
    unfold bindL
    cases h with
    | head => rw [bindL_out nd.1, if_pos hk]; exact if_pos rfl
    | tail _ h => exact bindL_in nd.2 h hk
theorem bindC_out {kd : Str → Option NameKind} : ∀ {b : List (Str × Value)} {m : Str → Option Value} {x : Str}, x ∉ b.map Prod.fst → bindC kd b m x = m x
  | [], _, _, _ => rfl
  | (n, v) :: r, m, x, h => by
    rw [List.map_cons, List.mem_cons, not_or] at h
    unfold bindC
    rw [bindC_out h.2]
    split
    · rfl
    · exact if_neg h.1
theorem bindC_in {kd : Str → Option NameKind} : ∀ {b : List (Str × Value)} {m : Str → Option Value} {x : Str} {v : Value}, (b.map Prod.fst).Nodup → (x, v) ∈ b → kd x ≠ some .local → bindC kd b m x = some v
  | (n, u) :: r, m, x, v, nd, h, hk => by
    rw [List.map_cons, List.nodup_cons] at nd
    unfold bindC
    cases h with
    | head => rw [bindC_out nd.1, if_neg hk]; exact if_pos rfl
    | tail _ h => exact bindC_in nd.2 h hk
theorem localsOf_sub : ∀ {names : List (Str × NameKind)} {bs lv : Lv}, localsOf names bs = some lv → ∀ p ∈ lv, p ∈ bs ∧ lookS names p.1 = some .local
  | names, [], lv, h, p, m => by cases h; cases m
  | names, q :: r, lv, h, p, m => by
    unfold localsOf at h
    split at h
    · rename_i l e1 e2
      cases h
      cases m with
      | head => exact ⟨.head _, e1⟩
      | tail _ m => exact ⟨.tail _ (localsOf_sub e2 p m).1, (localsOf_sub e2 p m).2⟩
    · rename_i l e1 e2
      cases h
      exact ⟨.tail _ (localsOf_sub e2 p m).1, (localsOf_sub e2 p m).2⟩
    · cases h

section
variable {prog : Program} {w : World} {A : Around} {P : Par} {Φ : Phi} {xs : List (Int × Tok)} {ρ : Nat → Addr} {s s' : St} {S S' : Shared} {a : AV} {D I L C : Addr} {E : AEnv} {env : Env} {d : Nat} {body : List Stmt} {mg mb : Str → Option Value}

theorem cells_ok {R : Type} {X : Addr → Prop} {ρ₀ : Nat → Addr} {σ₀ : Sto} {nx₀ : Nat} {h₀ hp : Heap} {cm : Str → Option Value} : ∀ {names : List (Str × NameKind)} {bs : Lv} {cl : List (Str × Nat)} {σ : Sto} {nx : Nat} {k : List (Str × Nat) → Sto → Nat → Option R} {r : R}, cellsOf names bs cl σ nx k = some r →
    ∀ {ρ : Nat → Addr} {acc : List (Str × Addr)} {K : Nat}, Ext P X ρ₀ σ₀ nx₀ h₀ ρ σ nx hp → (∀ x j, lookS cl x = some j → j < nx ∧ acc.lookup x = some (ρ j)) → (∀ n c, (n, c) ∈ cellsFrom K names acc → hp.IsCell c (cm n)) →
    (∀ b, K ≤ b → h₀.get? b = none) → (∀ j o, lookN σ j = some o → ρ j < K) → P.H0.objs.size ≤ K → (∀ x, (x, NameKind.cell) ∈ names → ∀ a, lookS bs x = some a → ∃ v, cm x = some v ∧ VR P ρ nx hp v a) →
    ∃ ρ' cl' σ' nx', k cl' σ' nx' = some r ∧ Ext P X ρ₀ σ₀ nx₀ h₀ ρ' σ' nx' hp ∧ (∀ x j, lookS cl' x = some j → j < nx' ∧ (cellsFrom K names acc).lookup x = some (ρ' j)) ∧ Later ρ nx hp ρ' nx' hp
  | [], bs, cl, σ, nx, k, r, h, ρ, acc, K, e, hc, _, _, _, _, _ => ⟨ρ, cl, σ, nx, h, e, hc, ⟨Nat.le_refl _, fun _ _ => rfl, fun _ _ q _ => q⟩⟩
  | (x, kd) :: t, bs, cl, σ, nx, k, r, h, ρ, acc, K, e, hc, hi, hf, hlt, hup, hv => by
    unfold cellsOf at h
    cases kd with
    | cell =>
      simp only at h
      rw [nNat_eq] at h
      obtain ⟨σ1, hσ, h⟩ := putN_some h
      have hq : cellsFrom K ((x, NameKind.cell) :: t) acc = cellsFrom (K + 1) t ((x, K) :: acc) := by
        show (if _ then _ else _) = _
        rw [if_pos (by rfl)]
      rw [hq] at hi ⊢
      have ic : hp.IsCell K (cm x) := hi x K (cellsFrom_acc _ _ _ _ (.head _))
      have orr : OR P ρ nx hp K (.cell (lookS bs x)) := by
        cases q : lookS bs x with
        | none => exact ⟨_, ic⟩
        | some b =>
          obtain ⟨v, e1, r1⟩ := hv x (.head _) b q
          rw [e1] at ic
          exact ⟨v, ic, r1⟩
      have e1 := e.adopt (hf K (Nat.le_refl _)) hup (fun j o q => Nat.ne_of_lt (hlt j o q)) hσ orr
      have L : Later ρ nx hp (upd ρ nx K) (nx + 1) hp := ⟨Nat.le_succ _, fun j hj => upd_ne _ _ (Nat.ne_of_lt hj), fun b o e _ => e⟩
      obtain ⟨ρ', cl', σ', nx', g1, g2, g3, g4⟩ := cells_ok (K := K + 1) (acc := (x, K) :: acc) h e1 (fun y j q => by
        rw [lookS_cons] at q
        rw [List.lookup_cons]
        cases z : seq x y with
        | true =>
          rw [z] at q
          cases q
          have := seq_iff.mp z
          subst this
          exact ⟨Nat.lt_succ_self _, by simp [upd_eq]⟩
        | false =>
          rw [z] at q
          obtain ⟨h1, h2⟩ := hc y j q
          have : (y == x) = false := by
            cases u : y == x with
            | false => rfl
            | true => rw [eq_of_beq u, seq_refl] at z; cases z
          rw [this]
          exact ⟨Nat.lt_succ_of_lt h1, by rw [upd_ne _ _ (Nat.ne_of_lt h1)]; exact h2⟩) hi (fun b hb => hf b (by omega)) (fun j o q => by
            rw [hσ] at q
            by_cases z : j = nx
            · subst z; rw [upd_eq]; exact Nat.lt_succ_self _
            · rw [if_neg z] at q
              rw [upd_ne _ _ z]
              exact Nat.lt_succ_of_lt (hlt j o q)) (by omega) (fun y hy b q => by
                obtain ⟨v, u1, u2⟩ := hv y (.tail _ hy) b q
                exact ⟨v, u1, u2.later L⟩)
      exact ⟨ρ', cl', σ', nx', g1, g2, g3, ⟨Nat.le_trans L.le g4.le, fun j hj => (g4.ag j (Nat.lt_succ_of_lt hj)).trans (L.ag j hj), fun _ _ q _ => q⟩⟩
    | _ =>
      have hq : ∀ kd', kd' ≠ NameKind.cell → cellsFrom K ((x, kd') :: t) acc = cellsFrom K t acc := by
        intro kd' hne
        show (if _ then _ else _) = _
        rw [if_neg (by simpa using hne)]
      rw [hq _ (by simp)] at hi ⊢
      exact cells_ok (K := K) h e hc hi hf hlt hup fun y hy b q => hv y (.tail _ hy) b q
end
end Mine
set_option maxRecDepth 100000
namespace Mine
open PySem PySem.Calls PyProof.Rows PySem.W PySem.W.Z

theorem kindR_refl (k : Option NameKind) : KindR k k := by
  unfold KindR
  cases k with
  | none => trivial
  | some k => cases k <;> first | rfl | trivial | exact .inl rfl
/-- a call, by a way to run its block -/
noncomputable def enterB (bd : List Stmt → AEnv → St → Ans) : CB := fun fi cl args σ nx => match callOk fi cl, binds fi.ps args with
  | false, _ => none
  | true, none => none
  | true, some bs => match localsOf fi.scope.names bs with
    | none => none
    | some lv => cellsOf fi.scope.names bs cl σ nx fun cl' σ' nx' => bodyAns (bd fi.body ⟨fi.scope, cl', defsOf fi.body⟩ ⟨lv, σ', nx'⟩)
section
variable {prog : Program} {w : World} {A : Around} {P : Par} {Φ : Phi} {xs : List (Int × Tok)} {ρ : Nat → Addr} {s s' : St} {S S' : Shared} {a : AV} {D I L C : Addr} {E : AEnv} {env : Env} {d : Nat} {body : List Stmt} {mg mb : Str → Option Value}

theorem enter_some {bd : List Stmt → AEnv → St → Ans} {fi : FnInfo} {cl : List (Str × Nat)} {args : List AV} {σ σ' : Sto} {nx nx' : Nat} (h : enterB bd fi cl args σ nx = some (a, σ', nx')) :
    callOk fi cl = true ∧ ∃ bs lv, binds fi.ps args = some bs ∧ localsOf fi.scope.names bs = some lv ∧
      cellsOf fi.scope.names bs cl σ nx (fun cl' σ'' nx'' => bodyAns (bd fi.body ⟨fi.scope, cl', defsOf fi.body⟩ ⟨lv, σ'', nx''⟩)) = some (a, σ', nx') := by
  unfold enterB at h
  split at h
  · cases h
  · cases h
  · rename_i bs ho hb
    split at h
    · cases h
    · rename_i lv hl
      exact ⟨ho, bs, lv, hb, hl, h⟩

theorem enterB_ok {bd : List Stmt → AEnv → St → Ans} (H : ExsOk prog w P d bd) : CBok prog w P (d + 1) (enterB bd) := by
  intro fi cl args σ nx a σ' nx' h A ρ S f vs cx F R I rv
  obtain ⟨ho, bs, lv, hb, hl, h⟩ := enter_some h
  obtain ⟨o, fd, c, F⟩ := F
  have hsc := F.scope
  obtain ⟨hs, hcase⟩ := callOk_some ho
  obtain ⟨k1, k2, k3, k4⟩ := scOk_names hs
  have nd := namesOk_nodup k4
  have big := I.big
  have hroom : A.depth < recursionLimit := by have := cx.depth; show A.depth < 1000; omega
  obtain ⟨bv, hbt, ndb, hnm, hvr⟩ := F.bind args bs vs hb rv
  have hlim := I.lim
  have hfresh : ∀ b, S.heap.objs.size ≤ b → S.heap.get? b = none := fun b hb => by
    cases q : S.heap.get? b with
    | none => rfl
    | some o => exact absurd (Heap.lt_size q) (Nat.not_lt.mpr hb)
  have hloc : ∀ x ∈ bs, fi.scope.names.lookup x.1 = some .local ∨ fi.scope.names.lookup x.1 = some .cell := fun x m => by
    have := localsOf_some hl x m
    rw [lookS_eq] at this
    exact this
  have defs' : ∀ pos x, (pos, x) ∈ defsOf fi.body → ∃ t ∈ P.TB, fd.code = .ref t.c ∧ t.pos = pos ∧ t.qual = (fd.qualname ++ ".<locals>." : Str) ++ x := fun pos x m => by
    obtain ⟨t, ht, e1, e2, e3⟩ := F.defs pos x m
    exact ⟨t, ht, by rw [F.code, e1], e2, e3⟩
  have lvbs : ∀ x b, lookS lv x = some b → lookS bs x = some b ∧ fi.scope.names.lookup x = some .local := fun x b q => by
    obtain ⟨m1, m2⟩ := localsOf_sub hl _ (lookS_mem q)
    rw [lookS_eq] at m2
    exact ⟨by rw [lookS_eq]; exact mem_lookup ndb m1, m2⟩
  have bvnd : (bv.map Prod.fst).Nodup := by rw [hnm]; exact ndb
  refine wpAny_call ?_
  rcases hcase with hn | ⟨hn, hpp, rfl⟩
  · rw [cellsOf_none hn] at h
    have hloc2 : ∀ x ∈ bv, fd.scope.names.lookup x.1 = some .local := fun x m => by
      have : x.1 ∈ bs.map Prod.fst := by rw [← hnm]; exact List.mem_map.mpr ⟨x, m, rfl⟩
      obtain ⟨y, my, ey⟩ := List.mem_map.mp this
      rw [hsc, ← ey]
      rcases hloc y my with q | q
      · exact q
      · exact absurd rfl (noCells_mem hn _ (mem_of_lookup q))
    refine codeAny_call_def hroom F.get F.data hlim (by rw [F.code]; exact F.crec.code) F.body hbt (by rw [hsc]; exact noCells_mem hn) hloc2 (fun h₀ hns keep => ?_) (by rw [hsc]; exact k3) (by rw [hsc]; exact k2) (by rw [hsc]; exact k1)
    have e₀ : Ext P NoX ρ σ nx S.heap ρ σ nx h₀ := .grow R I keep
    have L := e₀.laterNo R I
    have p : Pre P d (A.deeper (callEnv fd S.heap.objs.size f)) ρ ⟨lv, σ, nx⟩ { S with heap := h₀, toks := S.toks + bv.length } S.heap.objs.size ⟨fi.scope, cl, defsOf fi.body⟩ (callEnv fd S.heap.objs.size f) := by
      refine ⟨cx.deeper, ⟨hs, by show fd.scope.kind = _; rw [hsc]; exact k1, rfl, F.globals, F.builtins, ?_, fun x => ?_, F.cells, big, ⟨_, hns, fun x b q => ?_⟩⟩, e₀.sr, e₀.inv⟩
      · exact defs'
      · show KindR (fd.scope.names.lookup x) (lookS fi.scope.names x)
        rw [hsc, lookS_eq]; exact kindR_refl _
      · obtain ⟨v, e1, e2⟩ := vrs_look hnm hvr x b (lvbs x b q).1
        exact ⟨v, by rw [lookup_rev bvnd]; exact e1, e2.later L⟩
    refine wpAny_mono (body_ok H h p e₀ R ⟨rfl, rfl, rfl⟩ (hfresh _ (Nat.le_refl _))) (fun fl S' q => q) fun _ _ x => x.elim
  · obtain ⟨as, hpa, nda⟩ := plain_shape hpp
    rw [hpa] at hb
    obtain ⟨hlen, rfl⟩ := binds_plain hb
    have hlen' : as.length = vs.length := by rw [rv.length]; exact hlen
    have hbe := bindArgs_plain (fd := fd) (by rw [F.params, hpa]) (F.dflt hpp).1 nda hlen'
    generalize hbv : (as.map (·.arg)).zip vs = bw at hbe
    have hz := vrs_zip (ns := as.map (·.arg)) rv
    rw [hbv] at hz
    obtain ⟨hnm', hvr'⟩ := hz
    have bwnd : (bw.map Prod.fst).Nodup := by rw [hnm']; exact ndb
    have hcnd : ((cellsFrom (S.heap.objs.size + 1) fi.scope.names []).map Prod.fst).Nodup := cellsFrom_nd _ _ _ (by simpa using nd)
    have hkind : ∀ x ∈ bw, fd.scope.names.lookup x.1 = some .local ∨ (fd.scope.names.lookup x.1 = some .cell ∧ ((cellsFrom (S.heap.objs.size + 1) fd.scope.names []).lookup x.1).isSome = true) := fun x m => by
      have : x.1 ∈ ((as.map (·.arg)).zip args).map Prod.fst := by rw [← hnm']; exact List.mem_map.mpr ⟨x, m, rfl⟩
      obtain ⟨y, my, ey⟩ := List.mem_map.mp this
      rw [hsc, ← ey]
      rcases hloc y my with q | q
      · exact .inl q
      · refine .inr ⟨q, ?_⟩
        obtain ⟨c, hc⟩ := cellsFrom_has (n := S.heap.objs.size + 1) (acc := []) (mem_of_lookup q)
        rw [mem_lookup hcnd hc]; rfl
    refine codeAny_call_cells hroom F.get F.data hlim (by rw [F.code]; exact F.crec.code) F.body hbe (F.nil rfl) hkind (fun s₁ X => ?_) (by rw [hsc]; exact k3) (by rw [hsc]; exact k2) (by rw [hsc]; exact k1)
    obtain ⟨h₁, tk, rfl, keep⟩ := X.done
    have e₀ : Ext P NoX ρ σ nx S.heap ρ σ nx h₁ := .grow R I keep
    have L := e₀.laterNo R I
    have hcell : (callEnvC fd S.heap.objs.size f).cells = cellsFrom (S.heap.objs.size + 1) fi.scope.names [] := by
      show cellsFrom _ fd.scope.names [] = _
      rw [hsc]
    have hkd : (callEnvC fd S.heap.objs.size f).kindOf = fun x => fi.scope.names.lookup x := by
      funext x
      show fd.scope.names.lookup x = _
      rw [hsc]
    obtain ⟨ρ', cl', σ₁, nx₁, h, e₁, hc', L'⟩ := cells_ok (K := S.heap.objs.size + 1) (acc := []) h e₀ (fun x j q => by cases q) (fun n c m => X.cell n c (by rw [hcell]; exact mem_lookup hcnd m)) (fun b hb => hfresh b (by omega))
      (fun j o q => by obtain ⟨ob, z⟩ := (R.rel j o q).is; exact Nat.lt_succ_of_lt (Heap.lt_size z)) (by omega) (fun x m b q => by
        obtain ⟨v, e1, e2⟩ := vrs_look hnm' hvr' x b q
        refine ⟨v, bindC_in bwnd (mem_of_lookup e1) ?_, e2.later L⟩
        rw [hkd]
        show fi.scope.names.lookup x ≠ _
        rw [mem_lookup nd m]
        simp)
    have p : Pre P d (A.deeper (callEnvC fd S.heap.objs.size f)) ρ' ⟨lv, σ₁, nx₁⟩ { S with heap := h₁, toks := tk } S.heap.objs.size ⟨fi.scope, cl', defsOf fi.body⟩ (callEnvC fd S.heap.objs.size f) := by
      refine ⟨cx.deeper, ⟨hs, by show fd.scope.kind = _; rw [hsc]; exact k1, rfl, F.globals, F.builtins, ?_, fun x => ?_, ?_, big, ⟨_, X.toInCall.ns, fun x b q => ?_⟩⟩, e₁.sr, e₁.inv⟩
      · exact defs'
      · show KindR (fd.scope.names.lookup x) (lookS fi.scope.names x)
        rw [hsc, lookS_eq]; exact kindR_refl _
      · rw [hcell]; exact hc'
      · obtain ⟨q1, q2⟩ := lvbs x b q
        obtain ⟨v, e1, e2⟩ := vrs_look hnm' hvr' x b q1
        refine ⟨v, bindL_in bwnd (mem_of_lookup e1) ?_, (e2.later L).later L'⟩
        rw [hkd]; exact q2
    refine wpAny_mono (body_ok H h p e₁ R ⟨rfl, rfl, rfl⟩ (hfresh _ (Nat.le_refl _))) (fun fl S' q => q) fun _ _ x => x.elim

theorem run_exsOk {N : Nat} {cb cb0 : CB} (hP : PhiOk P Φ xs) (G : Glob P body mg mb) (C : CBok prog w P d cb) (C0 : CBok prog w P d cb0) : ExsOk prog w P d (fun l E s => run body Φ cb cb0 N (.exs l) E s) :=
  fun h => @fun _ _ _ _ _ p => (Sound.run (prog := prog) (w := w) hP G C C0 N).exs h p
theorem cellsQ_eq {R : Type} {names : List (Str × NameKind)} {bs : Lv} {cl : List (Str × Nat)} {σ : Sto} {nx : Nat} {k : List (Str × Nat) → Sto → Nat → Option R} : cellsQ names bs cl σ nx k = cellsOf names bs cl σ nx k := by
  unfold cellsQ
  cases h : noCells names with
  | true => exact (cellsOf_none h).symm
  | false => rfl
theorem enter_eq {N : Nat} {cb cb0 : CB} : enter body Φ N cb cb0 = enterB (fun l E s => run body Φ cb cb0 N (.exs l) E s) := by
  funext fi cl args σ nx
  unfold enter enterB
  cases callOk fi cl with
  | false => rfl
  | true =>
    cases binds fi.ps args with
    | none => rfl
    | some bs =>
      simp only
      cases localsOf fi.scope.names bs with
      | none => rfl
      | some lv =>
        exact cellsQ_eq
theorem enter_ok {N : Nat} {cb cb0 : CB} (hP : PhiOk P Φ xs) (G : Glob P body mg mb) (C : CBok prog w P d cb) (C0 : CBok prog w P d cb0) : CBok prog w P (d + 1) (enter body Φ N cb cb0) := by
  rw [enter_eq]
  exact enterB_ok (run_exsOk hP G C C0)
theorem lev0_ok {N : Nat} (hP : PhiOk P Phi0 xs) (G : Glob P body mg mb) : ∀ d, CBok prog w P d (lev0 body N d)
  | 0 => fun h => by cases h
  | d + 1 => enter_ok (N := N) hP G (lev0_ok hP G d) (lev0_ok hP G d)
theorem lev_ok {N : Nat} (hP : PhiOk P Φ xs) (hP0 : PhiOk P Phi0 xs) (G : Glob P body mg mb) : ∀ d, CBok prog w P d (lev body Φ N d)
  | 0 => fun h => by cases h
  | d + 1 => enter_ok (N := N) hP G (lev_ok hP hP0 G d) (lev0_ok hP0 G d)
end
end Mine
set_option maxRecDepth 100000
namespace Mine
open PySem PySem.Calls PyProof.Rows PySem.W PySem.W.Z

theorem get_def (h : Heap) (b : Addr) : h.get? b = (match h.objs[b]? with | some ⟨_, _, .freed, _⟩ => none | o => o) := rfl
/-- a heap's objects, less what is freed at its end -/
theorem heap_trunc : ∀ (n : Nat) (h : Heap), h.objs.size ≤ n → (∃ a o, h.get? a = some o) → ∃ h' : Heap, (∀ b, h'.get? b = h.get? b) ∧ ∃ b o, h'.get? b = some o ∧ h'.objs.size = b + 1
  | 0, h, hn, ⟨a, o, e⟩ => by
    have := Heap.lt_size e
    exact absurd (Nat.lt_of_lt_of_le this hn) (Nat.not_lt_zero a)
  | n + 1, h, hn, hx => by
    have hs : 0 < h.objs.size := by
      obtain ⟨a, o, e⟩ := hx
      exact Nat.lt_of_le_of_lt (Nat.zero_le _) (Heap.lt_size e)
    cases q : h.get? (h.objs.size - 1) with
    | some o => exact ⟨h, fun _ => rfl, _, o, q, (Nat.sub_add_cancel hs).symm⟩
    | none =>
      have key : ∀ b, (Heap.mk h.objs.pop h.life).get? b = h.get? b := by
        intro b
        by_cases hb : b < h.objs.size - 1
        · rw [get_def, get_def]
          show (match h.objs.pop[b]? with | some ⟨_, _, .freed, _⟩ => none | o => o) = _
          rw [Array.getElem?_pop, if_pos hb]
        · have h1 : (Heap.mk h.objs.pop h.life).get? b = none := Heap.get?_none_of_le (by show h.objs.pop.size ≤ b; rw [Array.size_pop]; exact Nat.le_of_not_lt hb)
          rw [h1]
          by_cases hl : b = h.objs.size - 1
          · rw [hl, q]
          · have h2 : h.objs.size - 1 < b := Nat.lt_of_le_of_ne (Nat.le_of_not_lt hb) (Ne.symm hl)
            exact (Heap.get?_none_of_le (Nat.le_of_pred_lt h2)).symm
      obtain ⟨a, o, e⟩ := hx
      obtain ⟨h', k1, k2⟩ := heap_trunc n (Heap.mk h.objs.pop h.life) (by show h.objs.pop.size ≤ n; rw [Array.size_pop]; exact Nat.sub_le_of_le_add hn) ⟨a, o, by rw [key]; exact e⟩
      exact ⟨h', fun b => (k1 b).trans (key b), k2⟩
theorem oldK_of_eq {h' h₀ h : Heap} (e : ∀ b, h'.get? b = h₀.get? b) (K : OldK h' h) : OldK h₀ h := by
  refine ⟨fun b o q => ?_, fun b o q => K.there b o (by rw [e]; exact q)⟩
  rcases K.old b o (by rw [e]; exact q) with x | ⟨⟨c, o', vs, g1, g2⟩, r⟩ | ⟨rfl, hc, r, z⟩
  · exact .inl x
  · exact .inr (.inl ⟨⟨c, o', vs, by rw [← e]; exact g1, g2⟩, r⟩)
  · exact .inr (.inr ⟨rfl, hc, r, fun key => by rw [← OldK.staticOf_congr (e cStatics) key]; exact z key⟩)

/-! ## the top, looked at -/
noncomputable def noFi : FnInfo := ⟨⟨[], [], none, [], [], none, []⟩, [], ⟨.function, [], false, false, []⟩⟩
noncomputable def fiOf (body : List Stmt) (x : Str) : FnInfo := match fnIn body x with
  | some f => f
  | none => noFi
theorem fiOf_eq {body : List Stmt} {x : Str} (h : isNone? (fnIn body x) = false) : fnIn body x = some (fiOf body x) := by
  unfold fiOf
  cases q : fnIn body x with
  | none => rw [q] at h; cases h
  | some f => rfl
noncomputable abbrev locQ (q x : Str) : Str := (q ++ ".<locals>." : Str) ++ x
noncomputable abbrev nA : Str := Str.ofString "a"
noncomputable abbrev nX : Str := Str.ofString "x"
noncomputable abbrev nLo : Str := Str.ofString "lo"
noncomputable abbrev nHi : Str := Str.ofString "hi"
noncomputable abbrev nKey : Str := Str.ofString "key"

/-! ## what is seen of the heap when the top has run -/
noncomputable def fdAt (h : Heap) (x : Str) : Option (Addr × FuncData) := match h.nsMap mainGlobals x with
  | some (.ref f) => match h.get? f with
    | some o => match o.data with
      | .func fd => some (f, fd)
      | _ => none
    | none => none
  | _ => none
noncomputable def codeAtH (h : Heap) (v : Value) : Option (Addr × Array Value) := match v with
  | .ref c => match h.get? c with
    | some ⟨.type "code", _, .fields vs, _⟩ => some (c, vs)
    | _ => none
  | _ => none
noncomputable def tabAt (h : Heap) (x : Str) : Option Addr := match fdAt h x with
  | some p => match codeAtH h p.2.code with
    | some q => match (q.2[11]? : Option Value) with
      | some (.ref P) => some P
      | _ => none
    | none => none
  | none => none
noncomputable def apart (h : Heap) (x y : Str) : Bool := match tabAt h x, tabAt h y with
  | some P, some Q => !Nat.beq P Q
  | _, _ => false
noncomputable def isRef (v : Value) (a : Addr) : Bool := match v with
  | .ref b => Nat.beq a b
  | _ => false
noncomputable def tupOk (o : Option Obj) : Bool := match o with
  | some ⟨.type _, _, .seq vs _, _⟩ => match vs.toList with
    | [v, w] => match v, w with
      | .int i _, .none => eqB i 0
      | _, _ => false
    | _ => false
  | _ => false
noncomputable def dictOk (o : Option Obj) : Bool := match o with
  | some ⟨.type _, _, .dict es _, _⟩ => match es.toList with
    | [e] => match e.key, e.val with
      | .str k _, .none => seq k nKey
      | _, _ => false
    | _ => false
  | _ => false
noncomputable def qualOk (vs : Array Value) (q : Str) : Bool := match (vs[1]? : Option Value) with
  | some (.str p _) => seq p q
  | _ => false
structure DfN where
  x : Str
  T : Addr
  D : Addr
noncomputable def dflAt (h : Heap) (n : DfN) : Bool := (match fdAt h n.x with
  | some p => isRef p.2.defaults n.T && isRef p.2.kwdefaults n.D && (match codeAtH h p.2.code with
    | some q => qualOk q.2 p.2.qualname
    | none => false)
  | none => false) && tupOk (h.get? n.T) && dictOk (h.get? n.D)
noncomputable abbrev FView : Type := Arguments × FuncBody × Scope × Addr × Addr × List (Str × Addr)
noncomputable def fdView (h : Heap) (x : Str) : Option FView := match fdAt h x with
  | some p => some (p.2.params, p.2.body, p.2.scope, p.2.globals, p.2.builtins, p.2.closure)
  | none => none
noncomputable def fiView (f : FnInfo) : Option FView := some (f.ps, .stmts f.body, f.scope, mainGlobals, builtinsNs, [])

noncomputable def Keep (h h' : Heap) : Prop := ∀ b o, h.get? b = some o → h'.get? b = some o
section
variable {h h' : Heap} (k : Keep h h')
include k
theorem fdAt_keep {x : Str} {p : Addr × FuncData} (e : fdAt h x = some p) : fdAt h' x = some p := by
  have ns : ∀ {v}, h.nsMap mainGlobals x = some v → h'.nsMap mainGlobals x = some v := by
    intro v q
    unfold Heap.nsMap at q ⊢
    cases g : h.get? mainGlobals with
    | none => rw [g] at q; cases q
    | some o => rw [g] at q; rw [k _ _ g]; exact q
  unfold fdAt at e ⊢
  split at e
  · rename_i f hf
    rw [ns hf]
    simp only
    cases g : h.get? f with
    | none => rw [g] at e; cases e
    | some o => rw [g] at e; rw [k _ _ g]; exact e
  · cases e
theorem codeAtH_keep {v : Value} {q : Addr × Array Value} (e : codeAtH h v = some q) : codeAtH h' v = some q := by
  unfold codeAtH at e ⊢
  split at e
  · rename_i c
    cases g : h.get? c with
    | none => rw [g] at e; cases e
    | some o => rw [g] at e; rw [k _ _ g]; exact e
  · cases e
theorem tabAt_keep {x : Str} {P : Addr} (e : tabAt h x = some P) : tabAt h' x = some P := by
  unfold tabAt at e ⊢
  cases g : fdAt h x with
  | none => rw [g] at e; cases e
  | some p =>
    rw [g] at e
    rw [fdAt_keep k g]
    simp only at e ⊢
    cases c : codeAtH h p.2.code with
    | none => rw [c] at e; cases e
    | some q => rw [c] at e; rw [codeAtH_keep k c]; exact e
theorem apart_keep {x y : Str} (e : apart h x y = true) : apart h' x y = true := by
  unfold apart at e ⊢
  split at e
  · rename_i P Q e1 e2
    rw [tabAt_keep k e1, tabAt_keep k e2]
    exact e
  · cases e
theorem dflAt_keep {n : DfN} (e : dflAt h n = true) : dflAt h' n = true := by
  unfold dflAt at e ⊢
  rw [Bool.and_eq_true, Bool.and_eq_true] at e ⊢
  obtain ⟨⟨e1, e2⟩, e3⟩ := e
  refine ⟨⟨?_, ?_⟩, ?_⟩
  · cases g : fdAt h n.x with
    | none => rw [g] at e1; cases e1
    | some p =>
      rw [g] at e1
      rw [fdAt_keep k g]
      simp only [Bool.and_eq_true] at e1 ⊢
      refine ⟨e1.1, ?_⟩
      have e1 := e1.2
      cases c : codeAtH h p.2.code with
      | none => rw [c] at e1; cases e1
      | some q => rw [c] at e1; rw [codeAtH_keep k c]; exact e1
  · cases g : h.get? n.T with
    | none => rw [g] at e2; cases e2
    | some o => rw [g] at e2; rw [k _ _ g]; exact e2
  · cases g : h.get? n.D with
    | none => rw [g] at e3; cases e3
    | some o => rw [g] at e3; rw [k _ _ g]; exact e3
theorem fdView_keep {x : Str} {f : FView} (e : fdView h x = some f) : fdView h' x = some f := by
  unfold fdView at e ⊢
  cases g : fdAt h x with
  | none => rw [g] at e; cases e
  | some p => rw [g] at e; rw [fdAt_keep k g]; exact e
end
/-- the look at the heap behind the top -/
noncomputable def topHook (x1 x2 : Str) (n1 n2 : DfN) (f1 f2 : FnInfo) : Hook where
  α := Bool × Option FView × Option FView
  obs := fun s => (apart s.heap x1 x2 && dflAt s.heap n1 && dflAt s.heap n2, fdView s.heap n1.x, fdView s.heap n2.x)
  val := fun _ => (true, fiView f1, fiView f2)
  says := fun _ h => (apart h x1 x2 = true ∧ dflAt h n1 = true ∧ dflAt h n2 = true) ∧ fdView h n1.x = fiView f1 ∧ fdView h n2.x = fiView f2
  of := fun _ _ e => by
    obtain ⟨e1, e2⟩ := Prod.mk.inj e
    obtain ⟨e2, e3⟩ := Prod.mk.inj e2
    rw [Bool.and_eq_true, Bool.and_eq_true] at e1
    exact ⟨⟨e1.1.1, e1.1.2, e1.2⟩, e2, e3⟩
  keeps := fun _ _ _ e k => ⟨⟨apart_keep k e.1.1, dflAt_keep k e.1.2.1, dflAt_keep k e.1.2.2⟩, fdView_keep k e.2.1, fdView_keep k e.2.2⟩
end Mine
set_option maxRecDepth 100000
namespace Mine
open PySem PySem.Calls PyProof.Rows PySem.W PySem.W.Z

structure TopCfg where
  x1 : Str
  x2 : Str
  n1 : DfN
  n2 : DfN
/-- the given values' two objects -/
structure DK where
  cT : String
  dT : Option Addr
  sT : Array (Option Value)
  eT : Nat
  t : Tok
  cD : String
  dD : Option Addr
  sD : Array (Option Value)
  eD : Nat
  hh : Int
  u : Tok
noncomputable def DK.frag (k : DK) (n : DfN) : Frag := [(n.T, ⟨.type k.cT, k.dT, .seq #[.int 0 k.t, .none] k.eT, k.sT⟩), (n.D, ⟨.type k.cD, k.dD, .dict #[⟨k.hh, .str nKey k.u, .none⟩] k.eD, k.sD⟩)]
noncomputable def withD (fd : FuncData) (n : DfN) (f : FnInfo) : FuncData := { fd with params := f.ps, defaults := .ref n.T, kwdefaults := .ref n.D }
/-- given values: a, x, lo=0, hi=None, *, key=None -/
structure Dflt (n : DfN) (f : FnInfo) : Prop where
  b0 : binds f.ps [] = none
  b1 : ∀ a, binds f.ps [a] = none
  b2 : ∀ a b, binds f.ps [a, b] = some [(nA, a), (nX, b), (nLo, .int 0), (nHi, .none), (nKey, .none)]
  b3 : ∀ a b c, binds f.ps [a, b, c] = some [(nA, a), (nX, b), (nLo, c), (nHi, .none), (nKey, .none)]
  b4 : ∀ a b c d, binds f.ps [a, b, c, d] = some [(nA, a), (nX, b), (nLo, c), (nHi, d), (nKey, .none)]
  b5 : ∀ a b c d e r, binds f.ps (a :: b :: c :: d :: e :: r) = none
  v2 : ∀ (fd : FuncData) (k : DK) S a b, peek (k.frag n) S (bindArgs (withD fd n f) ⟨[a, b], []⟩) = some [(nA, a), (nX, b), (nLo, .int 0 k.t), (nHi, .none), (nKey, .none)]
  v3 : ∀ (fd : FuncData) (k : DK) S a b c, peek (k.frag n) S (bindArgs (withD fd n f) ⟨[a, b, c], []⟩) = some [(nA, a), (nX, b), (nLo, c), (nHi, .none), (nKey, .none)]
  v4 : ∀ (fd : FuncData) (k : DK) S a b c d, peek (k.frag n) S (bindArgs (withD fd n f) ⟨[a, b, c, d], []⟩) = some [(nA, a), (nX, b), (nLo, c), (nHi, d), (nKey, .none)]

noncomputable def hd1 (l : List (Pos × Str)) : Pos × Str := match l with
  | d :: _ => d
  | [] => (⟨0, 0, 0, 0⟩, nA)
noncomputable def biNames : List Str := [Str.ofString "len", Str.ofString "min", Str.ofString "max", Str.ofString "sum", Str.ofString "sorted", Str.ofString "tuple", Str.ofString "abs", Str.ofString "divmod", Str.ofString "range", Str.ofString "reversed"]
noncomputable def notIn (l : List Str) (x : Str) : Bool := l.all fun y => !seq y x
noncomputable def freeChk (p : Program) (loose : List Str) : Bool := biNames.all fun x => notIn startupNames x && notIn loose x && notIn ((recsOf p).map (·.name)) x && notIn ((litsOf p).map (·.1)) x && notIn ((clssOf p loose).map (·.name)) x
/-- what the program's text says, looked at -/
structure TextOk (body : List Stmt) (c : TopCfg) (p : Program) (loose : List Str) : Prop where
  fns : ((fnsOf body).filter fun q => plainPs q.2.ps).map (fun q => (q.1, q.2.ps, q.2.body, q.2.scope)) = (recsOf p).map (fun d => (d.name, d.params, d.body, d.scope))
  dfl : ((fnsOf body).filter fun q => !plainPs q.2.ps) = [(c.n1.x, fiOf body c.n1.x), (c.n2.x, fiOf body c.n2.x)]
  nest : ((fnsOf body).filter fun q => !isNil (defsOf q.2.body)) = [(c.x1, fiOf body c.x1), (c.x2, fiOf body c.x2)]
  pl1 : plainPs (fiOf body c.x1).ps = true
  pl2 : plainPs (fiOf body c.x2).ps = true
  one1 : defsOf (fiOf body c.x1).body = [hd1 (defsOf (fiOf body c.x1).body)]
  one2 : defsOf (fiOf body c.x2).body = [hd1 (defsOf (fiOf body c.x2).body)]
  consts : (constsOf body).map (fun q => valOf p q.1) = (constsOf body).map (fun q => some (.int q.2))
  free : freeChk p loose = true
  d1 : Dflt c.n1 (fiOf body c.n1.x)
  d2 : Dflt c.n2 (fiOf body c.n2.x)
noncomputable def Look (body : List Stmt) (c : TopCfg) (h : Heap) : Prop := (apart h c.x1 c.x2 = true ∧ dflAt h c.n1 = true ∧ dflAt h c.n2 = true) ∧ fdView h c.n1.x = fiView (fiOf body c.n1.x) ∧ fdView h c.n2.x = fiView (fiOf body c.n2.x)
/-- what is known when the law is called -/
structure AtTop (body : List Stmt) (c : TopCfg) (p : Program) (loose : List Str) (mean : ExcName → Option Value) (mg mb : Str → Option Value) (h : Heap) : Prop where
  T : Top p loose mean mg mb h
  look : Look body c h
  ok : TextOk body c p loose

section
variable {body : List Stmt} {c : TopCfg} {p : Program} {loose : List Str} {mean : ExcName → Option Value} {mg mb : Str → Option Value} {h : Heap}
theorem nsMap_of {m : Str → Option Value} (hn : h.Ns mainGlobals m) (x : Str) : h.nsMap mainGlobals x = m x := by
  obtain ⟨o, es, ep, e, d, _, f⟩ := hn
  unfold Heap.nsMap
  rw [e]
  simp only [d]
  exact f x
theorem fdAt_of {x : Str} {a : Addr} {o : Obj} {fd : FuncData} (hn : h.Ns mainGlobals mg) (hm : mg x = some (.ref a)) (ho : h.get? a = some o) (hd : o.data = .func fd) : fdAt h x = some (a, fd) := by
  unfold fdAt
  rw [nsMap_of hn, hm]
  simp only [ho, hd]
theorem fdAt_some {x : Str} {q : Addr × FuncData} (hn : h.Ns mainGlobals mg) (e : fdAt h x = some q) : mg x = some (.ref q.1) ∧ ∃ o, h.get? q.1 = some o ∧ o.data = .func q.2 := by
  unfold fdAt at e
  rw [nsMap_of hn] at e
  split at e
  · rename_i f hm
    cases g : h.get? f with
    | none => rw [g] at e; cases e
    | some o =>
      rw [g] at e
      replace e : (match o.data with | .func fd => some (f, fd) | _ => none) = some q := e
      split at e
      · rename_i fd hd
        cases e
        exact ⟨hm, o, g, hd⟩
      · cases e
  · cases e
theorem codeAtH_some {v : Value} {q : Addr × Array Value} (e : codeAtH h v = some q) : v = .ref q.1 ∧ ∃ o, h.get? q.1 = some o ∧ o.cls = .type "code" ∧ o.data = .fields q.2 := by
  unfold codeAtH at e
  split at e
  · split at e
    · rename_i g
      cases e
      exact ⟨rfl, _, g, rfl, rfl⟩
    · cases e
  · cases e
theorem codeAtH_of {v : Addr} {o : Obj} {vs : Array Value} (g : h.get? v = some o) (hc : o.cls = .type "code") (hd : o.data = .fields vs) : codeAtH h (.ref v) = some (v, vs) := by
  obtain ⟨cl, d, dt, s⟩ := o
  cases hc
  cases hd
  unfold codeAtH
  simp only [g]

/-- a def's tables, as the top left them -/
structure Rcd (q : Str × FnInfo) (mg : Str → Option Value) (h : Heap) (a : Addr) (o : Obj) (pm : Value) (cd P : Addr) (doc : Value) : Prop where
  mg : mg q.1 = some (.ref a)
  get : h.get? a = some o
  data : o.data = .func (docDef q.1 q.2.ps q.2.body q.2.scope pm (.ref cd) doc)
  code : h.IsCode cd P #[]
  table : h.TableAt cd P #[]
  crec : CRec h cd q.1
  tab : tabAt h q.1 = some P
theorem AtTop.rcd (A : AtTop body c p loose mean mg mb h) {q : Str × FnInfo} (hq : q ∈ fnsOf body) (hp : plainPs q.2.ps = true) : ∃ a o pm cd P doc, Rcd q mg h a o pm cd P doc := by
  have hm : (q.1, q.2.ps, q.2.body, q.2.scope) ∈ ((fnsOf body).filter fun q => plainPs q.2.ps).map (fun q => (q.1, q.2.ps, q.2.body, q.2.scope)) := List.mem_map.mpr ⟨q, List.mem_filter.mpr ⟨hq, hp⟩, rfl⟩
  rw [A.ok.fns, List.mem_map] at hm
  obtain ⟨d, hd, e⟩ := hm
  simp only [Prod.mk.injEq] at e
  obtain ⟨e1, e2, e3, e4⟩ := e
  obtain ⟨a, o, pm, code, doc, h1, h2, h3, c0, o0, vs0, t0, k1, k2, k3, k4⟩ := A.T.fn d hd
  obtain ⟨a', o', fd, cd, P, g1, g2, g3, g4, g5, g6⟩ := A.T.tab d hd
  rw [h1] at g1; cases g1
  rw [h2] at g2; cases g2
  rw [h3] at g3; cases g3
  replace g4 : code = .ref cd := g4
  subst g4
  cases k1
  have g6' := g6
  obtain ⟨⟨oc, vc, m1, m2, m3, m4⟩, m5⟩ := g6'
  rw [k2] at m1; cases m1
  rw [k3] at m3; cases m3
  obtain ⟨qn, qp, qb, qs⟩ := q
  replace e1 : d.name = qn := e1
  replace e2 : d.params = qp := e2
  replace e3 : d.body = qb := e3
  replace e4 : d.scope = qs := e4
  subst e1 e2 e3 e4
  refine ⟨a, o, pm, c0, P, doc, h1, h2, h3, g5, g6, ⟨o0, vs0, t0, k2, m2, k3, k4⟩, ?_⟩
  unfold tabAt
  rw [fdAt_of A.T.g h1 h2 h3]
  show (match codeAtH h (.ref c0) with
    | some q => match (q.2[11]? : Option Value) with
      | some (.ref P) => some P
      | _ => none
    | none => none) = some P
  rw [codeAtH_of k2 m2 k3]
  simp only [m4]
end
end Mine
set_option maxRecDepth 100000
namespace Mine
open PySem PySem.Calls PyProof.Rows PySem.W PySem.W.Z

section
variable {body : List Stmt} {c : TopCfg} {p : Program} {loose : List Str} {mean : ExcName → Option Value} {mg mb : Str → Option Value} {h : Heap} {y : Nat → Int} {sv : Value} {H0 : Heap} {TB : List TabI}

/-- the tables of the defs that make defs -/
structure Tabs (body : List Stmt) (h : Heap) (mg : Str → Option Value) (TB : List TabI) : Prop where
  at_ : ∀ t ∈ TB, h.IsCode t.c t.P #[] ∧ h.TableAt t.c t.P #[]
  inj : ∀ t ∈ TB, ∀ t' ∈ TB, t.P = t'.P → t = t'
  has : ∀ q ∈ fnsOf body, ∀ a o fd cd, mg q.1 = some (.ref a) → h.get? a = some o → o.data = .func fd → fd.code = .ref cd → ∀ pos x, (pos, x) ∈ defsOf q.2.body → ∃ t ∈ TB, cd = t.c ∧ t.pos = pos ∧ t.qual = locQ q.1 x
theorem AtTop.tabs (A : AtTop body c p loose mean mg mb h) : ∃ TB, Tabs body h mg TB := by
  have m1 : (c.x1, fiOf body c.x1) ∈ fnsOf body := (List.mem_filter.mp (by rw [A.ok.nest]; exact .head _)).1
  have m2 : (c.x2, fiOf body c.x2) ∈ fnsOf body := (List.mem_filter.mp (by rw [A.ok.nest]; exact .tail _ (.head _))).1
  obtain ⟨a1, o1, pm1, c1, P1, doc1, F⟩ := A.rcd m1 A.ok.pl1
  obtain ⟨a2, o2, pm2, c2, P2, doc2, G⟩ := A.rcd m2 A.ok.pl2
  have ne : P1 ≠ P2 := by
    have z := A.look.1.1
    unfold apart at z
    rw [F.tab, G.tab] at z
    rintro rfl
    simp at z
  refine ⟨[⟨c1, P1, (hd1 (defsOf (fiOf body c.x1).body)).1, locQ c.x1 (hd1 (defsOf (fiOf body c.x1).body)).2⟩, ⟨c2, P2, (hd1 (defsOf (fiOf body c.x2).body)).1, locQ c.x2 (hd1 (defsOf (fiOf body c.x2).body)).2⟩], fun t m => ?_, fun t m t' m' e => ?_, fun q hq a o fd cd e1 e2 e3 e4 pos x hm => ?_⟩
  · rcases List.mem_cons.mp m with rfl | m
    · exact ⟨F.code, F.table⟩
    · rw [List.mem_singleton.mp m]; exact ⟨G.code, G.table⟩
  · rcases List.mem_cons.mp m with rfl | m <;> rcases List.mem_cons.mp m' with rfl | m'
    · rfl
    · rw [List.mem_singleton.mp m'] at e; exact absurd e ne
    · rw [List.mem_singleton.mp m] at e; exact absurd e.symm ne
    · rw [List.mem_singleton.mp m, List.mem_singleton.mp m']
  · have hn : q ∈ (fnsOf body).filter fun q => !isNil (defsOf q.2.body) := List.mem_filter.mpr ⟨hq, by cases z : defsOf q.2.body with | nil => rw [z] at hm; cases hm | cons => rfl⟩
    rw [A.ok.nest] at hn
    rcases List.mem_cons.mp hn with rfl | hn
    · rw [F.mg] at e1; cases e1
      rw [F.get] at e2; cases e2
      rw [F.data] at e3; cases e3
      cases e4
      replace hm : (pos, x) ∈ defsOf (fiOf body c.x1).body := hm
      rw [A.ok.one1] at hm
      have := List.mem_singleton.mp hm
      exact ⟨_, .head _, rfl, (congrArg Prod.fst this).symm, congrArg (locQ c.x1) (congrArg Prod.snd this).symm⟩
    · rw [List.mem_singleton.mp hn] at hm e1 ⊢
      rw [G.mg] at e1; cases e1
      rw [G.get] at e2; cases e2
      rw [G.data] at e3; cases e3
      cases e4
      replace hm : (pos, x) ∈ defsOf (fiOf body c.x2).body := hm
      rw [A.ok.one2] at hm
      have := List.mem_singleton.mp hm
      exact ⟨_, .tail _ (.head _), rfl, (congrArg Prod.fst this).symm, congrArg (locQ c.x2) (congrArg Prod.snd this).symm⟩

noncomputable abbrev parOf (y : Nat → Int) (sv : Value) (H0 : Heap) (TB : List TabI) : Par := ⟨y, sv, H0, TB⟩
theorem AtTop.inv (A : AtTop body c p loose mean mg mb h) (B : Tabs body h mg TB) (e : ∀ b, H0.get? b = h.get? b) (last : ∃ b o, H0.get? b = some o ∧ H0.objs.size = b + 1) : Inv (parOf y sv H0 TB) h := by
  obtain ⟨mc, ⟨so, es, ep, se, sd, _⟩, _⟩ := A.T.nodigits
  refine ⟨fun t ht => ?_, .of_keep fun b o q => by rw [← e]; exact q, B.inj, last, A.T.nolimit, Heap.lt_size (h := H0) ((e _).trans se)⟩
  obtain ⟨ic, ta⟩ := B.at_ t ht
  refine ⟨#[], ic, ta, ⟨#[], ?_⟩, ?_, .inl rfl⟩
  · obtain ⟨⟨o, vs, g1, g2⟩, g3⟩ := ta
    exact ⟨⟨o, vs, (e _).trans g1, g2⟩, (e _).trans g3⟩
  · intro w
    have := ta.2
    rw [w, se] at this
    cases this
    cases sd

theorem old_get (e : ∀ b, H0.get? b = h.get? b) {h' : Heap} (I : Inv (parOf y sv H0 TB) h') {a : Addr} {o : Obj} (q : h.get? a = some o) (hc : o.cls ≠ .none) : h'.get? a = some o :=
  I.old.get_of_cls ((e a).trans q) hc
theorem old_data (e : ∀ b, H0.get? b = h.get? b) {h' : Heap} (I : Inv (parOf y sv H0 TB) h') {a : Addr} {o : Obj} (q : h.get? a = some o) (hn : a ≠ cStatics) (hd : ∀ vs, o.data ≠ .fields vs) : h'.get? a = some o := by
  rcases I.old.old _ _ ((e a).trans q) with x | ⟨_, _, vs, more, dd, _⟩ | ⟨w, _⟩
  · exact x
  · exact absurd dd (hd vs)
  · exact absurd w hn
theorem func_apart (T : Top p loose mean mg mb h) {a : Addr} {o : Obj} {fd : FuncData} (q : h.get? a = some o) (d : o.data = .func fd) : a ≠ cStatics := by
  rintro rfl
  obtain ⟨mc, ⟨so, es, ep, se, sd, _⟩, _⟩ := T.nodigits
  rw [q] at se; cases se
  rw [d] at sd; cases sd

theorem names_nd : [nA, nX, nLo, nHi, nKey].Nodup := by decide
theorem tupOk_some {o : Option Obj} (e : tupOk o = true) : ∃ cT dT sT eT t, o = some ⟨.type cT, dT, .seq #[.int 0 t, .none] eT, sT⟩ := by
  unfold tupOk at e
  split at e
  · rename_i n d vs ep sl
    split at e
    · rename_i v w l
      split at e
      · rename_i i t
        have := (eqB_iff _ _).mp e
        subst this
        exact ⟨n, d, sl, ep, t, by rw [show vs = #[.int 0 t, .none] from Array.toList_inj.mp l]⟩
      · cases e
    · cases e
  · cases e
theorem dictOk_some {o : Option Obj} (e : dictOk o = true) : ∃ cD dD sD eD hh u, o = some ⟨.type cD, dD, .dict #[⟨hh, .str nKey u, .none⟩] eD, sD⟩ := by
  unfold dictOk at e
  split at e
  · rename_i n d es ep sl
    split at e
    · rename_i v l
      obtain ⟨hh, k, w⟩ := v
      split at e
      · rename_i x u q1 q2
        have := seq_iff.mp e
        subst this
        cases q1
        cases q2
        exact ⟨n, d, sl, ep, hh, u, by rw [show es = #[⟨hh, .str nKey u, .none⟩] from Array.toList_inj.mp l]⟩
      · cases e
    · cases e
  · cases e
theorem isRef_eq {v : Value} {a : Addr} (e : isRef v a = true) : v = .ref a := by
  unfold isRef at e
  split at e
  · rw [beq_of e]
  · cases e
/-- what a call with given values binds -/
theorem dflt_clause {P : Par} {ρ : Nat → Addr} {nx : Nat} {S : Shared} {n : DfN} {f : FnInfo} (D : Dflt n f) (k : DK) (X : (k.frag n).In S.heap) {fd : FuncData} (hw : withD fd n f = fd) {args : List AV} {bs : Lv} {vs : List Value} (hb : binds f.ps args = some bs) (hv : VRs P ρ nx S.heap vs args) :
    ∃ bv, BindsTo S fd ⟨vs, []⟩ bv ∧ (bs.map Prod.fst).Nodup ∧ bv.map Prod.fst = bs.map Prod.fst ∧ VRs P ρ nx S.heap (bv.map Prod.snd) (bs.map Prod.snd) := by
  have B : ∀ {vs bv}, (∀ Z, peek (k.frag n) Z (bindArgs (withD fd n f) ⟨vs, []⟩) = some bv) → BindsTo S fd ⟨vs, []⟩ bv := fun e M _ _ _ q => by
    rw [hw] at e
    exact (Looks.of_peek (M := M) X (e _)).here q
  match args, hb, hv with
  | [], hb, _ => rw [D.b0] at hb; cases hb
  | [a], hb, _ => rw [D.b1] at hb; cases hb
  | [a, b], hb, hv =>
    rw [D.b2] at hb
    cases hb
    obtain ⟨v, w, rfl, r1, r2⟩ := hv.twoI
    exact ⟨_, B (D.v2 fd k · v w), names_nd, rfl, .cons _ _ _ _ r1 (.cons _ _ _ _ r2 (.cons _ _ _ _ (.int 0 k.t) (.cons _ _ _ _ .none (.cons _ _ _ _ .none .nil))))⟩
  | [a, b, c], hb, hv =>
    rw [D.b3] at hb
    cases hb
    obtain ⟨v, _, rfl, r1, hv⟩ := hv.consI
    obtain ⟨w, u, rfl, r2, r3⟩ := hv.twoI
    exact ⟨_, B (D.v3 fd k · v w u), names_nd, rfl, .cons _ _ _ _ r1 (.cons _ _ _ _ r2 (.cons _ _ _ _ r3 (.cons _ _ _ _ .none (.cons _ _ _ _ .none .nil))))⟩
  | [a, b, c, d], hb, hv =>
    rw [D.b4] at hb
    cases hb
    obtain ⟨v, _, rfl, r1, hv⟩ := hv.consI
    obtain ⟨w, _, rfl, r2, hv⟩ := hv.consI
    obtain ⟨u, z, rfl, r3, r4⟩ := hv.twoI
    exact ⟨_, B (D.v4 fd k · v w u z), names_nd, rfl, .cons _ _ _ _ r1 (.cons _ _ _ _ r2 (.cons _ _ _ _ r3 (.cons _ _ _ _ r4 (.cons _ _ _ _ .none .nil))))⟩
  | a :: b :: c :: d :: e :: r, hb, _ => rw [D.b5] at hb; cases hb

/-- a def without given values -/
theorem AtTop.fnP (A : AtTop body c p loose mean mg mb h) (B : Tabs body h mg TB) (e : ∀ b, H0.get? b = h.get? b) {q : Str × FnInfo} (hq : q ∈ fnsOf body) (hp : plainPs q.2.ps = true) : ∃ a, mg q.1 = some (.ref a) ∧ FnAt (parOf y sv H0 TB) a q.2 := by
  obtain ⟨a, o, pm, cd, P, doc, F⟩ := A.rcd hq hp
  obtain ⟨oc, vs, t, k1, k2, k3, k4⟩ := F.crec
  refine ⟨a, F.mg, fun ρ nx S I => ⟨o, _, cd, ⟨old_data e I F.get (func_apart A.T F.get F.data) (by rw [F.data]; simp), F.data, rfl, rfl, rfl, rfl, rfl, rfl, ⟨oc, vs, t, old_get e I k1 (by rw [k2]; simp), k2, k3, k4⟩, fun pos x hm => B.has q hq a o _ cd F.mg F.get F.data rfl pos x hm, fun _ => rfl, fun x j z => (by cases z), fun _ => ⟨rfl, rfl⟩,
    fun args bs vals hb hr => ?_⟩⟩⟩
  obtain ⟨as, hps, nd⟩ := plain_shape hp
  rw [hps] at hb
  obtain ⟨hl, rfl⟩ := binds_plain hb
  have hl' : as.length = vals.length := by rw [hr.length]; exact hl
  refine ⟨_, .of_eq (bindArgs_plain hps rfl nd hl'), ?_, vrs_zip hr⟩
  rw [List.map_fst_zip (by simp; omega)]; exact nodupArgs_names nd
/-- a def with given values -/
theorem AtTop.fnD (A : AtTop body c p loose mean mg mb h) (e : ∀ b, H0.get? b = h.get? b) {n : DfN} {f : FnInfo} (hl : dflAt h n = true) (hv : fdView h n.x = fiView f) (hp : plainPs f.ps = false) (hd : defsOf f.body = []) (D : Dflt n f) : ∃ a, mg n.x = some (.ref a) ∧ FnAt (parOf y sv H0 TB) a f := by
  unfold fdView at hv
  unfold dflAt at hl
  cases g : fdAt h n.x with
  | none => rw [g] at hv; cases hv
  | some r =>
    obtain ⟨a, fd⟩ := r
    rw [g] at hv hl
    obtain ⟨hm, o, ho, hfd⟩ := fdAt_some A.T.g g
    replace hv : some (fd.params, fd.body, fd.scope, fd.globals, fd.builtins, fd.closure) = some (f.ps, FuncBody.stmts f.body, f.scope, mainGlobals, builtinsNs, []) := hv
    simp only [Option.some.injEq, Prod.mk.injEq] at hv
    obtain ⟨w1, w2, w3, w4, w5, w6⟩ := hv
    rw [Bool.and_eq_true, Bool.and_eq_true] at hl
    obtain ⟨⟨l1, l2⟩, l3⟩ := hl
    replace l1 : (isRef fd.defaults n.T && isRef fd.kwdefaults n.D && (match codeAtH h fd.code with | some q => qualOk q.2 fd.qualname | none => false)) = true := l1
    rw [Bool.and_eq_true, Bool.and_eq_true] at l1
    obtain ⟨⟨d1, d2⟩, d3⟩ := l1
    cases gc : codeAtH h fd.code with
    | none => rw [gc] at d3; cases d3
    | some cc =>
      rw [gc] at d3
      obtain ⟨hcode, oc, k1, k2, k3⟩ := codeAtH_some gc
      obtain ⟨cT, dT, sT, eT, t, gT⟩ := tupOk_some l2
      obtain ⟨cD, dD, sD, eD, hh, u, gD⟩ := dictOk_some l3
      replace d3 : qualOk cc.2 fd.qualname = true := d3
      unfold qualOk at d3
      split at d3
      · rename_i qn tt hq
        refine ⟨a, hm, fun ρ nx S I => ⟨o, fd, cc.1, ⟨old_data e I ho (func_apart A.T ho hfd) (by rw [hfd]; simp), hfd, w1, w2, w3, w4, w5, hcode, ⟨oc, cc.2, tt, old_get e I k1 (by rw [k2]; simp), k2, k3, by rw [hq, seq_iff.mp d3]⟩, fun pos x z => (by rw [hd] at z; cases z), fun _ => w6, fun x j z => (by cases z), fun z => (by rw [hp] at z; cases z),
          fun args bs vals hb hr => dflt_clause D ⟨cT, dT, sT, eT, t, cD, dD, sD, eD, hh, u⟩ (fun b ob z => ?_) ?_ hb hr⟩⟩⟩
        · rcases List.mem_cons.mp (mem_of_lookupK z) with q | q
          · cases q; exact old_get e I gT (by simp)
          · cases List.mem_singleton.mp q; exact old_get e I gD (by simp)
        · have r1 := isRef_eq d1
          have r2 := isRef_eq d2
          cases fd
          simp only at w1 r1 r2
          subst w1 r1 r2
          rfl
      · cases d3
theorem AtTop.fn (A : AtTop body c p loose mean mg mb h) (B : Tabs body h mg TB) (e : ∀ b, H0.get? b = h.get? b) {q : Str × FnInfo} (hq : q ∈ fnsOf body) : ∃ a, mg q.1 = some (.ref a) ∧ FnAt (parOf y sv H0 TB) a q.2 := by
  cases hp : plainPs q.2.ps with
  | true => exact A.fnP B e hq hp
  | false =>
    have hm : q ∈ (fnsOf body).filter fun q => !plainPs q.2.ps := List.mem_filter.mpr ⟨hq, by rw [hp]; rfl⟩
    have nn : defsOf q.2.body = [] := by
      cases z : defsOf q.2.body with
      | nil => rfl
      | cons x r =>
        have hn : q ∈ (fnsOf body).filter fun q => !isNil (defsOf q.2.body) := List.mem_filter.mpr ⟨hq, by rw [z]; rfl⟩
        rw [A.ok.nest] at hn
        rcases List.mem_cons.mp hn with rfl | hn
        · rw [A.ok.pl1] at hp; cases hp
        · rw [List.mem_singleton.mp hn] at hp
          rw [A.ok.pl2] at hp; cases hp
    rw [A.ok.dfl] at hm
    rcases List.mem_cons.mp hm with rfl | hm
    · exact A.fnD e A.look.1.2.1 A.look.2.1 hp nn A.ok.d1
    · rw [List.mem_singleton.mp hm] at hp nn ⊢
      exact A.fnD e A.look.1.2.2 A.look.2.2 hp nn A.ok.d2
end
end Mine
set_option maxRecDepth 100000
namespace Mine
open PySem PySem.Calls PyProof.Rows PySem.W PySem.W.Z

noncomputable def bi1 (q : Str × BI) : Bool := decide (q.1 ∈ biNames) && decide (q.1 ≠ "__name__") && decide (bootBuiltins q.1 = some (bval q.2))
theorem boot_all : biTab.all bi1 = true := by decide +kernel
theorem biIn_name {x : Str} {b : BI} (h : biIn x = some b) : x ∈ biNames ∧ x ≠ "__name__" ∧ bootBuiltins x = some (bval b) := by
  have q := List.all_eq_true.mp boot_all _ (lookS_mem h)
  unfold bi1 at q
  rw [Bool.and_eq_true, Bool.and_eq_true] at q
  exact ⟨of_decide_eq_true q.1.1, of_decide_eq_true q.1.2, of_decide_eq_true q.2⟩
theorem b_range : bootBuiltins (Str.ofString "range") = some (.type "range") := by decide +kernel
theorem b_reversed : bootBuiltins (Str.ofString "reversed") = some (.type "reversed") := by decide +kernel

section
variable {body : List Stmt} {c : TopCfg} {p : Program} {loose : List Str} {mean : ExcName → Option Value} {mg mb : Str → Option Value} {h : Heap} {y : Nat → Int} {sv : Value} {H0 : Heap} {TB : List TabI}
theorem notIn_of {l : List Str} {x : Str} (e : notIn l x = true) : x ∉ l := fun m => by
  have := List.all_eq_true.mp e x m
  rw [seq_refl] at this
  cases this
theorem AtTop.free (A : AtTop body c p loose mean mg mb h) {x : Str} (m : x ∈ biNames) : mg x = none := by
  have q := List.all_eq_true.mp A.ok.free x m
  simp only [Bool.and_eq_true] at q
  obtain ⟨⟨⟨⟨q1, q2⟩, q3⟩, q4⟩, q5⟩ := q
  exact A.T.free x (notIn_of q1) (notIn_of q2) (notIn_of q3) (notIn_of q4) (notIn_of q5)
theorem AtTop.glob (A : AtTop body c p loose mean mg mb h) (B : Tabs body h mg TB) (e : ∀ b, H0.get? b = h.get? b) : Glob (parOf y sv H0 TB) body mg mb := by
  have ns : ∀ {a : Addr} {m : Str → Option Value} {h' : Heap}, a ≠ cStatics → Inv (parOf y sv H0 TB) h' → h.Ns a m → h'.Ns a m := fun hne I hn => by
    obtain ⟨o, es, ep, q, d, r⟩ := hn
    exact ⟨o, es, ep, old_data e I q hne (by rw [d]; simp), d, r⟩
  refine ⟨fun h' I => ns (by decide) I A.T.g, fun h' I => ns (by decide) I A.T.b, fun h' I t ht => ?_, fun x i hx => ?_, fun x fi hx => A.fn B e (fnIn_mem hx), fun x b hn hb => ?_, fun x hx => ?_, fun x hx => ?_⟩
  · obtain ⟨bm, ob, m1, m2, m3, m4, m5, m6⟩ := A.T.bmain
    refine ⟨bm, ob, m1, m2, ?_, ?_, old_get e I m3 (by rw [m4]; simp), m4, m5, m6⟩
    · rintro rfl
      obtain ⟨o, es, ep, q, d, r⟩ := A.T.g
      rw [q] at m3; cases m3
      rw [d] at m6; cases m6
    · rintro rfl
      have hP := (B.at_ t ht).2.2
      rw [m3] at hP
      cases hP
      cases m6
  · have q := List.map_inj_left.mp A.ok.consts (x, i) (constIn_mem hx)
    obtain ⟨v, hv, r⟩ := A.T.const x _ q
    cases r h with
    | int _ t => exact ⟨t, hv⟩
  · obtain ⟨m1, m2, m3⟩ := biIn_name hb
    exact ⟨A.free m1, (A.T.builtins x m2).trans m3⟩
  · rw [← seq_iff.mp hx]
    exact ⟨A.free (by decide), (A.T.builtins _ (by decide)).trans b_range⟩
  · rw [← seq_iff.mp hx]
    exact ⟨A.free (by decide), (A.T.builtins _ (by decide)).trans b_reversed⟩
end
end Mine
set_option maxRecDepth 100000
namespace Mine
open PySem PySem.Calls PyProof.Rows PySem.W PySem.W.Z

noncomputable def YV (y : Nat → Int) (x : Int) : AV → Prop
  | .int i => x = i
  | .sym k => x = y k
  | _ => False
noncomputable def YVs (y : Nat → Int) : List Int → List AV → Prop
  | [], [] => True
  | x :: r, a :: l => YV y x a ∧ YVs y r l
  | _, _ => False
structure PhiV (y : Nat → Int) (ns : List Int) (Φ : Phi) : Prop where
  mod : ∀ k m v, Φ.mod k m = some v → m ≠ 0 ∧ YV y (Int.fmod (y k) m) v
  add : ∀ c k v, Φ.add c k = some v → YV y (c + y k) v
  min : ∀ a k v, Φ.min a k = some v → YV y (if y k < a then y k else a) v
  le : ∀ a k b, Φ.le a k = some b → b = decide (a ≤ y k)
  first3 : ∀ l, Φ.first3 = some l → YVs y (ns.take 3) l
  len : ∀ v, Φ.len = some v → YV y ns.length v
  sum : ∀ v, Φ.sum = some v → YV y (ns.foldl (· + ·) 0) v
  head : ∀ v, Φ.head = some v → YV y (ns.head?.getD 0) v

theorem yr_of {P : Par} {x : Int} {a : AV} (h : YV P.y x a) : YR P x a := by cases a <;> exact h
theorem yvs_vrs {P : Par} {ρ : Nat → Addr} {nx : Nat} {h : Heap} : ∀ {xs : List (Int × Tok)} {l : List AV}, YVs P.y (xs.map (·.1)) l → VRs P ρ nx h (xs.map intV) l
  | [], [], _ => .nil
  | [], _ :: _, q => q.elim
  | _ :: _, [], q => q.elim
  | x :: xs, a :: l, q => .cons _ _ _ _ ((yr_of q.1).vr _) (yvs_vrs q.2)
theorem phiOk {h : Heap} {y : Nat → Int} {H0 : Heap} {TB : List TabI} {Φ : Phi} {xs : List (Int × Tok)} {L : Addr} {n : Nat} (e : ∀ b, H0.get? b = h.get? b)
    (V : PhiV y (xs.map (·.1)) Φ) (g : h.get? L = some (listOf (xs.map intV).toArray n)) (hl : xs.length ≤ 63) : PhiOk (parOf y (.ref L) H0 TB) Φ xs where
  mod k m v q := ⟨(V.mod k m v q).1, yr_of (V.mod k m v q).2⟩
  add c k v q := yr_of (V.add c k v q)
  min a k v q := yr_of (V.min a k v q)
  le := V.le
  script _ := ⟨L, rfl, hl, fun h' I => ⟨n, old_get e I g (by simp)⟩⟩
  first3 l q ρ nx h := yvs_vrs (by have := V.first3 l q; rw [← List.map_take] at this; exact this)
  len v q := yr_of (by have := V.len v q; rw [List.length_map] at this; exact this)
  sum v q := yr_of (V.sum v q)
  head v q := yr_of (by have := V.head v q; rw [List.head?_map] at this; exact this)
theorem phi0V {y : Nat → Int} {ns : List Int} : PhiV y ns Phi0 := by
  constructor <;> intros <;> contradiction

theorem wellInts {w : Params} {h : Heap} : ∀ {vs : List Value} {ns : List Int}, WellAll w h vs (ofPys (ns.map PyData.int)) → ∃ xs : List (Int × Tok), vs = xs.map intV ∧ ns = xs.map (·.1)
  | [], [], _ => ⟨[], rfl, rfl⟩
  | [], _ :: _, q => by cases q
  | _ :: _, [], q => by cases q
  | v :: vs, n :: ns, q => by
    replace q : WellAll w h (v :: vs) (WData.int n :: ofPys (ns.map PyData.int)) := q
    cases q with
    | cons q1 q2 =>
      cases q1 with
      | int i t =>
        obtain ⟨xs, rfl, e⟩ := wellInts q2
        exact ⟨(n, t) :: xs, rfl, by rw [e]; rfl⟩

end Mine
set_option maxRecDepth 100000
namespace Mine
open PySem PySem.Calls PyProof.Rows PySem.W PySem.W.Z

/-- what is kept of a state between two parts of a block -/
structure Mid where
  lv : Lv
  os : List (Nat × AObj)
  nx : Nat
noncomputable def stoOf (l : List (Nat × AObj)) : Sto := match l with
  | [] => .nil
  | p :: r => match putN (stoOf r) p.1 p.2 some with
    | some σ => σ
    | none => .nil
noncomputable def Mid.st (m : Mid) : St := ⟨m.lv, stoOf m.os, m.nx⟩
noncomputable def pickLv (lv : Lv) (l : List Str) : Option Lv := match l with
  | [] => some []
  | x :: r => match lookS lv x, pickLv lv r with
    | some a, some k => some ((x, a) :: k)
    | _, _ => none
noncomputable def pickOs (σ : Sto) (l : List Nat) : Option (List (Nat × AObj)) := match l with
  | [] => some []
  | j :: r => match lookN σ j, pickOs σ r with
    | some o, some k => some ((j, o) :: k)
    | _, _ => none
noncomputable def keep (m : Mid) (r : Ans) : Option Mid := match r with
  | some (.fl .next, s) => match pickLv s.lv (m.lv.map (·.1)), pickOs s.σ (m.os.map (·.1)) with
    | some l, some o => some ⟨l, o, s.nx⟩
    | _, _ => none
  | _ => none
noncomputable def endsT (r : Ans) : Bool := match r with
  | some (.fl (.ret (.bool true)), _) => true
  | _ => false

theorem stoOf_mem : ∀ {l : List (Nat × AObj)} {j : Nat} {o : AObj}, lookN (stoOf l) j = some o → (j, o) ∈ l
  | [], j, o, e => no_nil e
  | p :: r, j, o, e => by
    unfold stoOf at e
    split at e
    · rename_i σ q
      obtain ⟨σ', h1, h2⟩ := putN_some q
      cases h2
      rw [h1] at e
      split at e
      · rename_i z
        cases e
        subst z
        exact .head _
      · exact .tail _ (stoOf_mem e)
    · exact no_nil e
theorem pickLv_mem {lv : Lv} : ∀ {l : List Str} {k : Lv}, pickLv lv l = some k → ∀ p ∈ k, lookS lv p.1 = some p.2
  | [], k, e, p, m => by cases e; cases m
  | x :: r, k, e, p, m => by
    unfold pickLv at e
    split at e
    · rename_i a k' e1 e2
      cases e
      cases m with
      | head => exact e1
      | tail _ m => exact pickLv_mem e2 p m
    · cases e
theorem pickOs_mem {σ : Sto} : ∀ {l : List Nat} {k : List (Nat × AObj)}, pickOs σ l = some k → ∀ p ∈ k, lookN σ p.1 = some p.2
  | [], k, e, p, m => by cases e; cases m
  | x :: r, k, e, p, m => by
    unfold pickOs at e
    split at e
    · rename_i a k' e1 e2
      cases e
      cases m with
      | head => exact e1
      | tail _ m => exact pickOs_mem e2 p m
    · cases e
/-- a state that says less -/
structure Less (s' s : St) : Prop where
  lv : ∀ x a, lookS s'.lv x = some a → lookS s.lv x = some a
  os : ∀ j o, lookN s'.σ j = some o → lookN s.σ j = some o
  nx : s'.nx = s.nx
theorem keep_some {m : Mid} {r : Ans} (h : keep m r = some m) : ∃ s, r = some (.fl .next, s) ∧ Less m.st s := by
  unfold keep at h
  split at h
  · rename_i s
    split at h
    · rename_i l o e1 e2
      have h1 : Mid.mk l o s.nx = m := Option.some.inj h
      refine ⟨s, rfl, ⟨fun x a e => ?_, fun j o' e => ?_, ?_⟩⟩
      · rw [← h1] at e
        exact pickLv_mem e1 _ (lookS_mem e)
      · rw [← h1] at e
        exact pickOs_mem e2 _ (stoOf_mem e)
      · rw [← h1]; rfl
    · cases h
  · cases h

section
variable {prog : Program} {w : World} {A : Around} {P : Par} {Φ : Phi} {xs : List (Int × Tok)} {ρ : Nat → Addr} {s s1 s' : St} {S S' : Shared} {D : Addr} {E : AEnv} {env : Env} {d N : Nat} {body a b : List Stmt} {mg mb : Str → Option Value} {f : AFl}
theorem Pre.less (p : Pre P d A ρ s1 S D E env) (l : Less s s1) : Pre P d A ρ s S D E env := by
  refine ⟨p.cx, ?_, ?_, p.inv⟩
  · rw [l.nx]
    obtain ⟨m, hn, hm⟩ := p.fr.ns
    exact { p.fr with ns := ⟨m, hn, fun x a e => hm x a (l.lv x a e)⟩ }
  · rw [l.nx]
    exact ⟨fun j o e => p.sr.lt j o (l.os j o e), fun i j o o' e e' => p.sr.inj i j o o' (l.os i o e) (l.os j o' e'), fun j o e => p.sr.up j o (l.os j o e), fun j o e => p.sr.rel j o (l.os j o e)⟩
theorem Step.less {ρ' : Nat → Addr} (e : Step P D E env ρ s S ρ' s' S') (l : Less s s1) : Step P D E env ρ s1 S ρ' s' S' := by
  obtain ⟨x, fr, sm⟩ := e
  rw [l.nx] at x
  refine ⟨⟨x.le, x.ag, fun j o q => ?_, fun b o q n => x.kp b o q ?_, x.there, x.sr, x.inv⟩, fr, sm⟩
  · rcases x.dom j o q with ⟨o', z⟩ | z
    · exact .inl ⟨o', l.os _ _ z⟩
    · exact .inr z
  · rintro (⟨j, o', z1, z2⟩ | z)
    · exact n (.inl ⟨j, o', l.os _ _ z1, z2⟩)
    · exact n (.inr z)

/-- a block's run, as the model has it -/
noncomputable def Runs (prog : Program) (w : World) (P : Par) (d : Nat) (l : List Stmt) (E : AEnv) (s : St) (f : AFl) (s' : St) : Prop :=
  ∀ ⦃A : Around⦄ ⦃env : Env⦄ ⦃D : Addr⦄ ⦃ρ : Nat → Addr⦄ ⦃S : Shared⦄, Pre P d A ρ s S D E env → wpAny (model prog w) A (execs l env) (PF P D E env ρ s S s' f) NoE S
noncomputable abbrev goes (body : List Stmt) (Φ : Phi) (N d : Nat) (l : List Stmt) (E : AEnv) (s : St) : Ans := run body Φ (lev body Φ N d) (lev0 body N d) N (.exs l) E s
theorem first_run {cb cb0 : CB} (hP : PhiOk P Φ xs) (G : Glob P body mg mb) (C : CBok prog w P d cb) (C0 : CBok prog w P d cb0) : ∀ {a : List Stmt} {n : Nat} {s s1 : St}, run body Φ cb cb0 n (.exs a) E s = some (.fl .next, s1) → Runs prog w P d b E s1 f s' → Runs prog w P d (a ++ b) E s f s'
  | _, 0, _, _, h, _ => by cases h
  | [], n + 1, s, s1, h, k => by
    have e : some (Rs.fl .next, s) = some (Rs.fl .next, s1) := h
    cases e
    exact k
  | x :: r, n + 1, s, s1, h, k => by
    intro A env D ρ S p
    have H := Sound.run (prog := prog) (w := w) hP G C C0 n
    replace h : thenF (run body Φ cb cb0 n (.ex x) E s) (fun f s => @AFl.rec (fun _ => Ans) (run body Φ cb cb0 n (.exs r) E s) (fun a => some (.fl (.ret a), s)) f) = some (.fl .next, s1) := h
    obtain ⟨g, s2, h1, h⟩ := thenF_some h
    refine wpAny_execs_cons (wpAny_mono (H.ex h1 p) (fun fl S₁ ⟨ρ₁, e₁, rf⟩ => ?_) fun _ _ x => x)
    cases g with
    | next =>
      cases rf
      exact endF p e₁ (first_run hP G C C0 h k (p.step e₁))
    | ret a => cases h
theorem Runs.less (l : Less s s1) (k : Runs prog w P d a E s f s') : Runs prog w P d a E s1 f s' := by
  intro A env D ρ S p
  refine wpAny_mono (k (p.less l)) (fun fl S₁ ⟨ρ₁, e₁, rf⟩ => ⟨ρ₁, e₁.less l, rf⟩) fun _ _ x => x
/-- one part of a block -/
theorem part {m m' : Mid} {l : List Stmt} (j : Nat) (hP : PhiOk P Φ xs) (h0 : PhiOk P Phi0 xs) (G : Glob P body mg mb) (h : keep m' (goes body Φ N d (l.take j) E m.st) = some m') (k : Runs prog w P d (l.drop j) E m'.st f s') : Runs prog w P d l E m.st f s' := by
  obtain ⟨s, e, q⟩ := keep_some h
  have := first_run hP G (lev_ok (prog := prog) (w := w) hP h0 G d) (lev0_ok h0 G d) e (k.less q)
  rw [List.take_append_drop] at this
  exact this
/-- its last part -/
theorem lastT {m : Mid} {l : List Stmt} (hP : PhiOk P Φ xs) (h0 : PhiOk P Phi0 xs) (G : Glob P body mg mb) (h : endsT (goes body Φ N d l E m.st) = true) : ∃ s', Runs prog w P d l E m.st (.ret (.bool true)) s' := by
  unfold endsT at h
  split at h
  · rename_i s e
    exact ⟨s, fun _ _ _ _ _ p => (Sound.run (prog := prog) (w := w) hP G (lev_ok hP h0 G d) (lev0_ok h0 G d) N).exs e p⟩
  · cases h
open Classical in
noncomputable def bdOf (prog : Program) (w : World) (P : Par) (d : Nat) (l : List Stmt) (E : AEnv) (s : St) : Ans := if h : ∃ s', Runs prog w P d l E s (.ret (.bool true)) s' then some (.fl (.ret (.bool true)), h.choose) else none
theorem bdOf_ok : ExsOk prog w P d (bdOf prog w P d) := by
  intro l E s f s' h
  unfold bdOf at h
  split at h
  · rename_i q
    cases h
    intro A env D ρ S p
    exact q.choose_spec p
  · cases h
end

theorem law_run3 {prog : Program} {w : World} {body : List Stmt} {c : TopCfg} {p : Program} {loose : List Str} {mean : ExcName → Option Value} {mg mb : Str → Option Value} {s₁ : Shared} (A : AtTop body c p loose mean mg mb s₁.heap) {lname : Str} {fa L : Addr} {ns : List Int} (hmg : mg lname = some (.ref fa))
    (w1 : Well w.params s₁.heap (.ref L) (ofPy (PyData.list (ns.map PyData.int)))) (hc : ns.length ≤ 63) {fi : FnInfo} (hfi : fnIn body lname = some fi) {y : Nat → Int} {d : Nat} (hd : d ≤ 99) {E : AEnv} {m : Mid} (hE : ∀ bd, enterB bd fi [] [.script] .nil 0 = bodyAns (bd fi.body E m.st))
    (H : ∀ {P xs}, (∀ Φ, PhiV y ns Φ → PhiOk P Φ xs) → Glob P body mg mb → ∃ s', Runs prog w P d fi.body E m.st (.ret (.bool true)) s') :
    wpAny (model prog w) callerA (call (.ref fa) [.ref L]) (fun v s' => v = .bool true ∧ OldK s₁.heap s'.heap ∧ Same s₁ s') NoE s₁ := by
  obtain ⟨mc, ⟨so, _, _, se, _⟩, _⟩ := A.T.nodigits
  obtain ⟨H0, e, last⟩ := heap_trunc s₁.heap.objs.size s₁.heap (Nat.le_refl _) ⟨_, so, se⟩
  obtain ⟨TB, B⟩ := A.tabs
  replace w1 : Well w.params s₁.heap (.ref L) (.list (ofPys (ns.map PyData.int))) := w1
  cases w1 with
  | list g wa =>
    obtain ⟨xs, rfl, rfl⟩ := wellInts wa
    rw [List.length_map] at hc
    have I : Inv (parOf y (.ref L) H0 TB) s₁.heap := A.inv B e last
    have G : Glob (parOf y (.ref L) H0 TB) body mg mb := A.glob B e
    have R := H (P := parOf y (.ref L) H0 TB) (fun Φ V => phiOk e V g hc) G
    obtain ⟨a, ha, F⟩ := G.fns lname fi hfi
    rw [hmg] at ha
    cases ha
    have cx : Cx (d + 1) callerA := ⟨rfl, by show 1 + claimMargin + (d + 1) ≤ 900; have : claimMargin = 300 := rfl; omega, by show 4 + 8 * (d + 1) + 400 ≤ 9900; omega⟩
    have q := hE (bdOf prog w (parOf y (.ref L) H0 TB) d)
    unfold bdOf at q
    rw [dif_pos R] at q
    refine wpAny_mono (enterB_ok (prog := prog) (w := w) bdOf_ok q cx (F (fun _ => 0) 0 s₁ I) sr_nil I (.cons _ _ _ _ .script .nil)) (fun v s' ⟨ρ', x, r, sm⟩ => ?_) fun _ _ x => x
    rw [r.boolI]
    exact ⟨rfl, oldK_of_eq e x.inv.old, sm⟩
end Mine
set_option maxRecDepth 100000
namespace Mine
open PySem PySem.Calls PyProof.Rows PySem.W PySem.W.Z
noncomputable abbrev b1 : List Stmt := PySem.Challenge.pw_ic0008_01.main.body
noncomputable abbrev law : Str := Str.ofString "law"
noncomputable def fi1 : FnInfo := fiOf b1 law
noncomputable def E1 : AEnv := ⟨fi1.scope, [(Str.ofString "here", 2), (Str.ofString "a", 1), (Str.ofString "b", 0)], []⟩
noncomputable def m0 : Mid := ⟨[(Str.ofString "script", .script)], [(0, .cell none), (1, .cell none), (2, .cell none)], 3⟩
/-- the script by what is asked of it: its first numbers by three, its length up to three -/
noncomputable def sy (rs : List Int) : Nat → Int → Option AV := fun k m => match eqB m 3, rs[k]? with
  | true, some r => some (.int r)
  | _, _ => none
noncomputable def syms : Nat → Nat → List AV
  | _, 0 => []
  | k, n + 1 => .sym k :: syms (k + 1) n
noncomputable def mi (rs : List Int) : Int → Nat → Option AV := fun c k => match eqB c 3, Nat.beq k 100 with
  | true, true => some (.int (.ofNat rs.length))
  | _, _ => none
noncomputable def phi1 (rs : List Int) : Phi := ⟨some (syms 0 rs.length), some (.sym 100), none, none, sy rs, mi rs, fun _ _ => none, fun _ _ => none⟩
noncomputable def dig : List Int := [0, 1, 2]
noncomputable def all1 : List (List Int) := [] :: dig.map (fun a => [a]) ++ dig.flatMap (fun a => dig.map fun b => [a, b]) ++ dig.flatMap (fun a => dig.flatMap fun b => dig.map fun c => [a, b, c])
noncomputable abbrev go1 (Φ : Phi) (l : List Stmt) (m : Mid) : Ans := goes b1 Φ 2000 19 l E1 m.st
noncomputable def t3 (a b c : Int) : AV := .tup [.int a, .int b, .int c]
noncomputable def ord : List AV := [t3 1 1 1, t3 1 1 2, t3 1 2 5, t3 1 5 13, t3 2 5 29]
noncomputable def lvAB : Lv := [(Str.ofString "script", .script), (Str.ofString "order", .loc 3), (Str.ofString "due", .loc 11)]
noncomputable def mA : Mid := ⟨lvAB, [(0, .cell none), (1, .cell none), (2, .cell none), (3, .list ord), (11, .list [])], 12⟩
noncomputable def mB : Mid := ⟨lvAB, [(0, .cell (some (.int 30))), (1, .cell (some (.int 2))), (2, .cell none), (3, .list ord), (11, .list ord)], 95⟩
noncomputable def mC : Mid := ⟨[(Str.ofString "script", .script)], [(0, .cell (some (.int 30))), (1, .cell (some (.int 2))), (2, .cell (some (t3 1 1 1)))], 97⟩
noncomputable abbrev l1A : List Stmt := fi1.body.take 3
noncomputable abbrev l1B : List Stmt := (fi1.body.drop 3).take 1
noncomputable abbrev l1C : List Stmt := ((fi1.body.drop 3).drop 1).take 2
noncomputable abbrev l1D : List Stmt := ((fi1.body.drop 3).drop 1).drop 2
noncomputable def okD (rs : List Int) : Bool := endsT (go1 (phi1 rs) l1D mC)
theorem okA : keep mA (go1 Phi0 l1A m0) = some mA := by kernel_rfl
theorem okB : keep mB (go1 Phi0 l1B mA) = some mB := by kernel_rfl
theorem okC : keep mC (go1 Phi0 l1C mB) = some mC := by kernel_rfl
theorem okD0 : ([] :: dig.map (fun a => [a]) ++ dig.flatMap (fun a => dig.map fun b => [a, b])).all okD = true := by decide +kernel
theorem okD1 : (dig.flatMap fun b => dig.map fun c => [(0 : Int), b, c]).all okD = true := by decide +kernel
theorem okD2 : (dig.flatMap fun b => dig.map fun c => [(1 : Int), b, c]).all okD = true := by decide +kernel
theorem okD3 : (dig.flatMap fun b => dig.map fun c => [(2 : Int), b, c]).all okD = true := by decide +kernel
end Mine
set_option maxRecDepth 100000
namespace Mine
open PySem PySem.Calls PyProof.Rows PySem.W PySem.W.Z
noncomputable def y1 (ns : List Int) : Nat → Int := fun k => if k = 100 then ns.length else ns[k]?.getD 0
noncomputable def rs1 (ns : List Int) : List Int := (ns.take 3).map (fun n => Int.fmod n 3)
theorem yvs_syms (ns : List Int) : YVs (y1 ns) (ns.take 3) (syms 0 (rs1 ns).length) := by
  match ns with
  | [] => exact trivial
  | [a] => exact ⟨rfl, trivial⟩
  | [a, b] => exact ⟨rfl, rfl, trivial⟩
  | a :: b :: c :: r => exact ⟨rfl, rfl, rfl, trivial⟩
theorem phi1V (ns : List Int) : PhiV (y1 ns) ns (phi1 (rs1 ns)) where
  mod k m v h := by
    replace h : sy (rs1 ns) k m = some v := h
    unfold sy at h
    split at h
    · rename_i r hm hr
      cases h
      have hm := (eqB_iff _ _).mp hm
      subst hm
      refine ⟨by decide, ?_⟩
      unfold rs1 at hr
      rw [List.getElem?_map] at hr
      cases q : (ns.take 3)[k]? with
      | none => rw [q] at hr; cases hr
      | some n =>
        rw [q] at hr
        cases hr
        rw [List.getElem?_take] at q
        split at q
        · rename_i hk
          show Int.fmod (y1 ns k) 3 = Int.fmod n 3
          unfold y1
          rw [if_neg (by omega), q]; rfl
        · cases q
    · cases h
  add _ _ _ h := by cases h
  min a k v h := by
    replace h : mi (rs1 ns) a k = some v := h
    unfold mi at h
    split at h
    · rename_i ha hk
      cases h
      have ha := (eqB_iff _ _).mp ha
      have hk := beq_of hk
      subst ha hk
      show (if y1 ns 100 < 3 then y1 ns 100 else 3) = ((rs1 ns).length : Int)
      unfold y1 rs1
      rw [if_pos rfl, List.length_map, List.length_take]
      split <;> omega
    · cases h
  le _ _ _ h := by cases h
  first3 l h := by
    have h : some (syms 0 (rs1 ns).length) = some l := h
    cases h
    exact yvs_syms ns
  len v h := by cases h; rfl
  sum _ h := by cases h
  head _ h := by cases h

theorem dig_mem (n : Int) : Int.fmod n 3 ∈ dig := by
  have h1 : 0 ≤ Int.fmod n 3 := Int.fmod_nonneg_of_pos n (by decide)
  have h2 := Int.fmod_lt_of_pos n (b := 3) (by decide)
  have : Int.fmod n 3 = 0 ∨ Int.fmod n 3 = 1 ∨ Int.fmod n 3 = 2 := by omega
  rcases this with h | h | h <;> rw [h] <;> decide
theorem rs1_mem (ns : List Int) : rs1 ns ∈ all1 := by
  unfold all1
  match ns with
  | [] => exact .head _
  | [a] =>
    refine List.mem_append_left _ (List.mem_append_left _ (.tail _ ?_))
    exact List.mem_map.mpr ⟨_, dig_mem a, rfl⟩
  | [a, b] =>
    refine List.mem_append_left _ (List.mem_append_right _ ?_)
    exact List.mem_flatMap.mpr ⟨_, dig_mem a, List.mem_map.mpr ⟨_, dig_mem b, rfl⟩⟩
  | a :: b :: c :: r =>
    refine List.mem_append_right _ ?_
    exact List.mem_flatMap.mpr ⟨_, dig_mem a, List.mem_flatMap.mpr ⟨_, dig_mem b, List.mem_map.mpr ⟨_, dig_mem c, rfl⟩⟩⟩
theorem okD_of {rs : List Int} (m : rs ∈ all1) : okD rs = true := by
  unfold all1 at m
  rcases List.mem_append.mp m with m | m
  · exact List.all_eq_true.mp okD0 _ m
  · obtain ⟨a, ha, m⟩ := List.mem_flatMap.mp m
    rcases List.mem_cons.mp ha with rfl | ha
    · exact List.all_eq_true.mp okD1 _ m
    rcases List.mem_cons.mp ha with rfl | ha
    · exact List.all_eq_true.mp okD2 _ m
    rw [List.mem_singleton.mp ha] at m
    exact List.all_eq_true.mp okD3 _ m
theorem runs1 {prog : Program} {w : World} {P : Par} {xs : List (Int × Tok)} {mg mb : Str → Option Value} (ns : List Int) (hP : ∀ Φ, PhiV (y1 ns) ns Φ → PhiOk P Φ xs) (G : Glob P b1 mg mb) : ∃ s', Runs prog w P 19 fi1.body E1 m0.st (.ret (.bool true)) s' := by
  have h0 := hP _ phi0V
  obtain ⟨s', R⟩ := lastT (prog := prog) (w := w) (hP _ (phi1V ns)) h0 G (okD_of (rs1_mem ns))
  exact ⟨s', part 3 h0 h0 G okA (part 1 h0 h0 G okB (part 2 h0 h0 G okC R))⟩
theorem enter1 (bd : List Stmt → AEnv → St → Ans) : enterB bd fi1 [] [.script] .nil 0 = bodyAns (bd fi1.body E1 m0.st) := by kernel_rfl
end Mine
open PySem PySem.W PyProof.Rows
namespace Mine
noncomputable def cfg1 : TopCfg := ⟨Str.ofString "_int2digits", Str.ofString "_digits2int", ⟨Str.ofString "insort_left", 57, 58⟩, ⟨Str.ofString "bisect_left", 66, 67⟩⟩
noncomputable def dropB (s : Stmt) : Bool := match fnS s, constS s with
  | some p, _ => !(seq p.1 cfg1.n1.x || seq p.1 cfg1.n2.x)
  | none, some _ => true
  | none, none => false
noncomputable def view1 : Program := { PySem.Challenge.pw_ic0008_01 with main := { PySem.Challenge.pw_ic0008_01.main with body := b1.filter dropB } }
noncomputable abbrev hook1 : Hook := topHook cfg1.x1 cfg1.x2 cfg1.n1 cfg1.n2 (fiOf b1 cfg1.n1.x) (fiOf b1 cfg1.n2.x)
theorem dfl1 : Dflt cfg1.n1 (fiOf b1 cfg1.n1.x) := ⟨by kernel_rfl, by intros; kernel_rfl, by intros; kernel_rfl, by intros; kernel_rfl, by intros; kernel_rfl, by intros; kernel_rfl, by intros; kernel_rfl, by intros; kernel_rfl, by intros; kernel_rfl⟩
theorem dfl2 : Dflt cfg1.n2 (fiOf b1 cfg1.n2.x) := ⟨by kernel_rfl, by intros; kernel_rfl, by intros; kernel_rfl, by intros; kernel_rfl, by intros; kernel_rfl, by intros; kernel_rfl, by intros; kernel_rfl, by intros; kernel_rfl, by intros; kernel_rfl⟩
noncomputable abbrev loose1 : List Str := [Str.ofString "insort_left", Str.ofString "bisect_left"]
theorem text1 : TextOk b1 cfg1 view1 loose1 := ⟨by kernel_rfl, by kernel_rfl, by kernel_rfl, by kernel_rfl, by kernel_rfl, by kernel_rfl, by kernel_rfl, by kernel_rfl, by kernel_rfl, dfl1, dfl2⟩
theorem left1 : LeftO PySem.Challenge.rw_ic0008_01.row.prog view1 loose1 (fun s => xlAt view1 [] s && recOk (RowW.records PySem.Challenge.rw_ic0008_01.row.toRowW) s) (Hook.obs hook1) (Hook.val hook1) 1086 := fun w => by kernel_rfl
theorem law1_end {p : Program} {loose : List Str} {mean : ExcName → Option Value} {w : World} {mg mb : Str → Option Value} {s₁ : Shared} (A : AtTop b1 cfg1 p loose mean mg mb s₁.heap) {fa L : Addr} {ns : List Int} (hmg : mg (Str.ofString "law") = some (.ref fa))
    (w1 : Well w.params s₁.heap (.ref L) (ofPy (PyData.list (ns.map PyData.int)))) (hc : ns.length ≤ 63) :
    wpAny (model PySem.Challenge.rw_ic0008_01.row.prog w) callerA (call (.ref fa) [.ref L]) (fun v s' => v = .bool true ∧ OldK s₁.heap s'.heap ∧ Same s₁ s') NoE s₁ :=
  law_run3 A hmg w1 hc (fi := fi1) (fiOf_eq (by kernel_rfl)) (by decide) enter1 (runs1 ns)
end Mine
open Mine
set_option maxRecDepth 100000 in
set_option maxHeartbeats 8000000 in
theorem PySem.Challenge.cw_ic0008_01_holds : PySem.Challenge.rw_ic0008_01.Holds := by
  w_on; o_law
  refine holds_open (q := view1) (loose := loose1) (Xt := fun s => xlAt view1 [] s && recOk (RowW.records PySem.Challenge.rw_ic0008_01.row.toRowW) s) (XP := XL view1 []) (Yf := Hook.obs hook1) (Ya := Hook.val hook1) (YP := Hook.says hook1) (N := 1086) left1 (Hook.of hook1) (Hook.keeps hook1) (fun s e => xl_of s (Bool.and_eq_true_iff.mp e).1) XL.keeps (by rfl) (by rfl) (by rfl) (fun s e => recFacts_of (Bool.and_eq_true_iff.mp e).2) (by rfl) (by assumption) (by decide +kernel) ⟨rfl, rfl, rfl, rfl, rfl, by decide +kernel⟩ ?hw ?hc
  (case hw => w_witness2)
  intro w s₀ s₁ mg mb G Y fa o pm cd doc dV kV ho hd hcd hD hmg hg args vals as hpre hlay hrd hwl hlo
  have A : AtTop b1 cfg1 _ _ _ mg mb s₁.heap := ⟨G.T, Y, text1⟩
  clear Y G hD hcd hd ho
  wrow_args hpre hlay hrd hwl hlo
  rename_i w1 _ _ _ hc _
  refine wpAny_mono (law1_end A hmg w1 (by omega)) (fun v s' q => ?_) fun _ _ x => x.elim
  obtain ⟨rfl, q2, q3, q4, q5⟩ := q
  refine ⟨.inl ⟨.bool true, .bool true, [], rfl, fun _ => rfl, .bool true, ?_, ?_⟩, q2, q5, .of_eq (q3.trans hg)⟩
  · clear w1 hmg A
    wrow_post
  · exact fun _ => ⟨List.nodup_nil, fun a m => nomatch m⟩
