/-
  A symbolic executor over the model's code, as plain data: definitions. What it computes of a function's body holds in every world that its state describes (the proofs stand in the texts behind this one).
-/
import GoSem.Step
noncomputable section
namespace Go.Sx
set_option linter.unusedVariables false

/-- integers, symbolic -/
inductive E where
  | lit (n : Int)
  | var (i : Nat)
  | add (k : IntKind) (a b : E)
  | sub (k : IntKind) (a b : E)
  | cv (k : IntKind) (a : E)
  | sel (c : Nat) (a b : E)
  deriving Inhabited

/-- bools, symbolic -/
inductive B where
  | lit (b : Bool)
  | var (i : Nat)
  | cmp (op : BinOp) (a b : E)
  deriving Inhabited

/-- strings, symbolic -/
inductive S where
  | lit (s : List UInt8)
  | var (i : Nat)
  deriving Inhabited

/-- atoms: values of one cell that hold no value -/
inductive A where
  | bool (b : B)
  | int (k : IntKind) (e : E)
  | str (s : S)
  | ptr (p : Option (Nat × Nat))
  | slice (p : Option (Nat × Nat)) (len : E) (cap : Option E)
  | map (m : Option Nat)
  | ob (i : Nat)
  /-- string i's bytes, at a name; nil, if there are none -/
  | ms (n i : Nat)
  | any
  deriving Inhabited

/-- cells -/
inductive C where
  | a (x : A)
  | func (fn : Fn) (first caps : List A)
  | nilFunc
  | iface (t : TypeId) (x : A)
  | nilIface
  deriving Inhabited

/-- parts of a tuple -/
inductive T1 where
  | sc (c : C)
  | agg (cs : List C)
  deriving Inhabited

/-- values -/
inductive V where
  | sc (c : C)
  | agg (cs : List C)
  | tup (vs : List T1)
  deriving Inhabited

abbrev undefV : V := .tup []

/-- a map from numbers: a binary tree by bijective binary digits -/
inductive PT (α : Type) where
  | leaf
  | node (l : PT α) (v : Option α) (r : PT α)
  deriving Inhabited

/-- a number as a literal, ahead of what is done with it (the kernel's evaluation is lazy). The functions of this part are typed by their recursors: the kernel evaluates them in few steps. -/
def forceImpl {β : Type} (n : Nat) (k : Nat → β) : β := k n
def force {β : Type} (n : Nat) (k : Nat → β) : β := @Nat.rec (fun _ => β) (k 0) (fun m _ => k (Nat.succ m)) n
def forceIImpl {β : Type} (n : Int) (k : Int → β) : β := k n
def forceI {β : Type} (n : Int) (k : Int → β) : β := @Int.rec (fun _ => β) (fun m => force m fun m => k (.ofNat m)) (fun m => force m fun m => k (.negSucc m)) n
def iteBImpl {β : Type} (c : Bool) (x y : β) : β := bif c then x else y
def iteB {β : Type} (c : Bool) (x y : β) : β := @Bool.rec (fun _ => β) y x c

namespace PT
variable {α β : Type}
def getImpl : PT α → Nat → Option α
  | .leaf, _ => none
  | .node l v r, n => if n = 0 then v else if n % 2 = 1 then l.getImpl (n / 2) else r.getImpl (n / 2 - 1)
def get (t : PT α) : Nat → Option α :=
  @PT.rec α (fun _ => Nat → Option α) (fun _ => none)
    (fun _ v _ il ir n => @Bool.rec (fun _ => Option α) (@Bool.rec (fun _ => Option α) (ir (Nat.sub (Nat.div n (nat_lit 2)) (nat_lit 1))) (il (Nat.div n (nat_lit 2))) (Nat.beq (Nat.mod n (nat_lit 2)) (nat_lit 1))) v (Nat.beq n (nat_lit 0))) t
def leafImpl : Nat → Nat → α → PT α
  | 0, _, _ => .leaf
  | f + 1, n, x => if n = 0 then .node .leaf (some x) .leaf else if n % 2 = 1 then .node (leafImpl f (n / 2) x) none .leaf else .node .leaf none (leafImpl f (n / 2 - 1) x)
def setImpl : PT α → Nat → α → PT α
  | .leaf, n, x => leafImpl 24 n x
  | .node l v r, n, x => if n = 0 then .node l (some x) r else if n % 2 = 1 then .node (setImpl l (n / 2) x) v r else .node l v (setImpl r (n / 2 - 1) x)
def putKImpl (t : PT α) (n : Nat) (x : α) (k : PT α → β) : β := k (setImpl t n x)
/-- fuel: more than the digits of n -/
noncomputable def leafK (f : Nat) : Nat → α → (PT α → β) → β :=
  @Nat.rec (fun _ => Nat → α → (PT α → β) → β) (fun _ _ k => k .leaf)
    (fun _ ih n x k => @Bool.rec (fun _ => β)
      (@Bool.rec (fun _ => β) (ih (Nat.sub (Nat.div n (nat_lit 2)) (nat_lit 1)) x fun r => k (.node .leaf none r)) (ih (Nat.div n (nat_lit 2)) x fun l => k (.node l none .leaf)) (Nat.beq (Nat.mod n (nat_lit 2)) (nat_lit 1)))
      (k (.node .leaf (some x) .leaf)) (Nat.beq n (nat_lit 0))) f
def putK (t : PT α) : Nat → α → (PT α → β) → β :=
  @PT.rec α (fun _ => Nat → α → (PT α → β) → β) (fun n x k => leafK (Nat.succ n) n x k)
    (fun l v r il ir n x k => @Bool.rec (fun _ => β)
      (@Bool.rec (fun _ => β) (ir (Nat.sub (Nat.div n (nat_lit 2)) (nat_lit 1)) x fun r => k (.node l v r)) (il (Nat.div n (nat_lit 2)) x fun l => k (.node l v r)) (Nat.beq (Nat.mod n (nat_lit 2)) (nat_lit 1)))
      (k (.node l (some x) r)) (Nat.beq n (nat_lit 0))) t
def put (t : PT α) (n : Nat) (x : α) : PT α := putK t n x id
def ofList (l : List (Nat × α)) : PT α := l.foldl (fun t p => t.put p.1 p.2) .leaf
end PT

/-- a list with its spine, ahead of what is done with it -/
def forceLImpl {α β : Type} (l : List α) (k : List α → β) : β := k l
def forceL {α β : Type} (l : List α) : (List α → β) → β := @List.rec α (fun _ => (List α → β) → β) (fun k => k []) (fun x _ ih k => ih fun l => k (x :: l)) l
def nthImpl {α : Type} (l : List α) (n : Nat) : Option α := l[n]?
def nth {α : Type} (l : List α) : Nat → Option α := @List.rec α (fun _ => Nat → Option α) (fun _ => none) (fun x _ ih n => @Nat.rec (fun _ => Option α) (some x) (fun m _ => ih m) n) l
def lenImpl {α : Type} (l : List α) : Nat := l.length
def len {α : Type} (l : List α) : Nat := @List.rec α (fun _ => Nat) 0 (fun _ _ ih => force ih Nat.succ) l
def dropImpl {α : Type} (l : List α) (n : Nat) : List α := l.drop n
def dropR {α : Type} (l : List α) : Nat → List α := @List.rec α (fun _ => Nat → List α) (fun _ => []) (fun x l ih n => @Nat.rec (fun _ => List α) (x :: l) (fun m _ => ih m) n) l
def takeImpl {α : Type} (l : List α) (n : Nat) : List α := l.take n
def takeR {α : Type} (l : List α) : Nat → List α := @List.rec α (fun _ => Nat → List α) (fun _ => []) (fun x _ ih n => @Nat.rec (fun _ => List α) [] (fun m _ => x :: ih m) n) l
def appImpl {α : Type} (l m : List α) : List α := l ++ m
def app {α : Type} (l m : List α) : List α := @List.rec α (fun _ => List α) m (fun x _ ih => x :: ih) l

/-- what memory holds -/
inductive Obj where
  | blk (cs : List C) (elem : TypeId)
  | row (cs : List C) (elem : TypeId)
  | ro (cs : List C) (elem : TypeId)
  | bytes (s : S)
  | mp (es : List (C × T1))
  /-- an iterator that has not stepped -/
  | it (m : Option Nat)
  | gone
  deriving Inhabited

structure St where
  mem : PT Obj
  ctr : Nat
  deriving Inhabited

/-- a type, as the executor asks for it -/
inductive K where
  | bool | int (k : IntKind) | str
  | ptr (e : TypeId) | slice (e : TypeId) | arr (n : Nat) (e : TypeId) | map (k v : TypeId)
  | struct (fs : List (Nat × TypeId))
  | func | iface | other
  deriving Inhabited

structure TI where
  size : Nat
  bytes : Nat
  k : K
  zero : List C
  /-- methods without a path: name, function, whether the receiver is a pointer -/
  ms : List (String × FuncId × Bool)
  deriving Inhabited

def TI.agg (t : TI) : Bool := match t.k with | .struct _ | .arr _ _ => true | _ => false

/-- what is known of the symbols -/
structure Facts where
  rng : PT (Int × Int)
  /-- symbols of one class are different -/
  cls : PT Nat
  bools : PT Bool
  cmps : List (BinOp × Nat × Nat × Bool)
  deriving Inhabited

def kmin (k : IntKind) : Int := match k with
  | .i8 => -128 | .i16 => -32768 | .i32 => -2147483648 | .i64 => -9223372036854775808 | _ => 0
def kmax (k : IntKind) : Int := match k with
  | .i8 => 127 | .i16 => 32767 | .i32 => 2147483647 | .i64 => 9223372036854775807 | .u8 => 255 | .u16 => 65535 | .u32 => 4294967295 | .u64 => 18446744073709551615

namespace E
def beq : E → E → Bool
  | .lit a, .lit b => a == b
  | .var a, .var b => a == b
  | .add k a b, .add k' a' b' => decide (k = k') && beq a a' && beq b b'
  | .sub k a b, .sub k' a' b' => decide (k = k') && beq a a' && beq b b'
  | .cv k a, .cv k' a' => decide (k = k') && beq a a'
  | .sel c a b, .sel c' a' b' => c == c' && beq a a' && beq b b'
  | _, _ => false

def range (f : Facts) : E → Option (Int × Int)
  | .lit n => some (n, n)
  | .var i => f.rng.get i
  | .add k a b => match a.range f, b.range f with
    | some (l, h), some (l', h') => if kmin k ≤ l + l' ∧ h + h' ≤ kmax k then some (l + l', h + h') else some (kmin k, kmax k)
    | _, _ => some (kmin k, kmax k)
  | .sub k a b => match a.range f, b.range f with
    | some (l, h), some (l', h') => if kmin k ≤ l - h' ∧ h - l' ≤ kmax k then some (l - h', h - l') else some (kmin k, kmax k)
    | _, _ => some (kmin k, kmax k)
  | .cv k _ => some (kmin k, kmax k)
  | .sel _ a b => match a.range f, b.range f with
    | some (l, h), some (l', h') => some (min l l', max h h')
    | _, _ => none

def mkCv (f : Facts) (k : IntKind) (a : E) : E :=
  match a with
  | .lit n => forceI (k.wrap n) fun z => .lit z
  | _ => match a.range f with
    | some (l, h) => if kmin k ≤ l ∧ h ≤ kmax k then a else .cv k a
    | none => .cv k a
end E

def cmpLit (op : BinOp) (x y : Int) : Option Bool :=
  match op with
  | .eql => some (x == y)
  | .neq => some (x != y)
  | .lss => some (decide (x < y))
  | .leq => some (decide (x ≤ y))
  | .gtr => some (decide (x > y))
  | .geq => some (decide (x ≥ y))
  | _ => none

def cmpSame (op : BinOp) : Option Bool :=
  match op with
  | .eql | .leq | .geq => some true
  | .neq | .lss | .gtr => some false
  | _ => none

def cmpRng (op : BinOp) (a b : Int × Int) : Option Bool :=
  match op with
  | .eql => if a.2 < b.1 ∨ b.2 < a.1 then some false else none
  | .neq => if a.2 < b.1 ∨ b.2 < a.1 then some true else none
  | .lss => if a.2 < b.1 then some true else if b.2 ≤ a.1 then some false else none
  | .leq => if a.2 ≤ b.1 then some true else if b.2 < a.1 then some false else none
  | .gtr => if b.2 < a.1 then some true else if a.2 ≤ b.1 then some false else none
  | .geq => if b.2 ≤ a.1 then some true else if a.2 < b.1 then some false else none
  | _ => none

def cmpVar (f : Facts) (op : BinOp) (i j : Nat) : Option Bool :=
  match (match f.cls.get i, f.cls.get j with
    | some c, some d => if c = d ∧ i ≠ j then (match op with | .eql => some false | .neq => some true | _ => none) else none
    | _, _ => none : Option Bool) with
  | some b => some b
  | none => (f.cmps.find? fun (o, x, y, _) => decide (o = op) && x == i && y == j).map (·.2.2.2)

def decideCmp (f : Facts) (op : BinOp) (a b : E) : Option Bool :=
  match a, b with
  | .lit x, .lit y => cmpLit op x y
  | _, _ =>
    if a.beq b then cmpSame op else
    match (match a.range f, b.range f with
      | some r, some r' => cmpRng op r r'
      | _, _ => none : Option Bool) with
    | some x => some x
    | none => match a, b with
      | .var i, .var j => cmpVar f op i j
      | _, _ => none

def mkCmp (f : Facts) (op : BinOp) (a b : E) : B :=
  match decideCmp f op a b with
  | some x => .lit x
  | none => .cmp op a b

def B.known (f : Facts) : B → Option Bool
  | .lit b => some b
  | .var i => f.bools.get i
  | .cmp .. => none

def S.beq : S → S → Bool
  | .lit a, .lit b => a == b
  | .var a, .var b => a == b
  | _, _ => false

def A.beq : A → A → Bool
  | .bool (.lit a), .bool (.lit b) => a == b
  | .bool (.var a), .bool (.var b) => a == b
  | .bool (.cmp o a b), .bool (.cmp o' a' b') => decide (o = o') && a.beq a' && b.beq b'
  | .int k a, .int k' b => decide (k = k') && a.beq b
  | .str a, .str b => a.beq b
  | .ptr a, .ptr b => a == b
  | .slice p l c, .slice p' l' c' => p == p' && l.beq l' && (match c, c' with | some x, some y => x.beq y | none, none => true | _, _ => false)
  | .map a, .map b => a == b
  | .ob a, .ob b => a == b
  | .ms n i, .ms m j => n == m && i == j
  | .any, .any => true
  | _, _ => false
def beqAs : List A → List A → Bool
  | [], [] => true
  | a :: as, b :: bs => a.beq b && beqAs as bs
  | _, _ => false
def C.beq : C → C → Bool
  | .a x, .a y => x.beq y
  | .func f x y, .func f' x' y' => decide (f = f') && beqAs x x' && beqAs y y'
  | .nilFunc, .nilFunc => true
  | .iface t x, .iface t' y => t == t' && x.beq y
  | .nilIface, .nilIface => true
  | _, _ => false
def beqCs : List C → List C → Bool
  | [], [] => true
  | a :: as, b :: bs => a.beq b && beqCs as bs
  | _, _ => false
def T1.beq : T1 → T1 → Bool
  | .sc a, .sc b => a.beq b
  | .agg a, .agg b => beqCs a b
  | _, _ => false
def beqTs : List T1 → List T1 → Bool
  | [], [] => true
  | a :: as, b :: bs => a.beq b && beqTs as bs
  | _, _ => false
def V.beq : V → V → Bool
  | .sc a, .sc b => a.beq b
  | .agg a, .agg b => beqCs a b
  | .tup a, .tup b => beqTs a b
  | _, _ => false

/-- a constant of the program -/
def A.ofValue : Value → Option A
  | .bool b => some (.bool (.lit b))
  | .int k n => some (.int k (.lit n))
  | .string s => some (.str (.lit s.data.toList))
  | .pointer none => some (.ptr none)
  | .slice none 0 0 => some (.slice none (.lit 0) (some (.lit 0)))
  | .map none => some (.map none)
  | _ => none
def C.ofValue : Value → Option C
  | .nilFunc => some .nilFunc
  | .nilIface => some .nilIface
  | .iface t v => (A.ofValue v).map (.iface t)
  | .func fn first caps => if first.size = 0 ∧ caps.size = 0 then some (.func fn [] []) else none
  | v => (A.ofValue v).map .a
def csOfValues : List Value → Option (List C)
  | [] => some []
  | v :: vs => match C.ofValue v, csOfValues vs with
    | some c, some cs => some (c :: cs)
    | _, _ => none
def V.ofValue : Value → Option V
  | .agg cs => (csOfValues cs.toList).map .agg
  | .tuple vs => if vs.size = 0 then some (.tup []) else none
  | v => (C.ofValue v).map .sc

def V.cells : V → Option (List C)
  | .sc c => some [c]
  | .agg cs => some cs
  | .tup _ => none
def T1.toV : T1 → V
  | .sc c => .sc c
  | .agg cs => .agg cs
def V.toT1 : V → Option T1
  | .sc c => some (.sc c)
  | .agg cs => some (.agg cs)
  | .tup _ => none
def V.atom : V → Option A
  | .sc (.a x) => some x
  | _ => none

abbrev vint (k : IntKind) (e : E) : V := .sc (.a (.int k e))
abbrev vbool (b : B) : V := .sc (.a (.bool b))

structure Cfg where
  ty : PT TI
  fn : PT Func
  facts : Facts
  deriving Inhabited

def setAt {α : Type} : List α → Nat → α → List α
  | [], _, _ => []
  | _ :: l, 0, x => x :: l
  | y :: l, n + 1, x => y :: setAt l n x

abbrev Tm := PT V
def tmOf : List V → Nat → Tm → Tm
  | [], _, t => t
  | v :: vs, i, t => t.putK i v fun t => tmOf vs (i + 1) t

def evImpl (t : Tm) : Operand → Option V
  | .tmp i => t.get i
  | .const v => V.ofValue v
  | .global _ => none
  | .func f => some (.sc (.func (.func f) [] []))
def ev (t : Tm) (o : Operand) : Option V :=
  @Operand.rec (fun _ => Tm → Option V) (fun i t => t.get i) (fun v _ => V.ofValue v) (fun _ _ => none) (fun f _ => some (.sc (.func (.func f) [] []))) o t

/-- cells written over others -/
def splice (cs : List C) (off : Nat) (new : List C) : List C := app (takeR cs off) (app new (dropR cs (off + len new)))

/-- the part of an object's cells that a load reads -/
def partOf (ti : TI) (cs : List C) (off : Nat) : Option V :=
  iteB ti.agg (iteB (Nat.ble (off + ti.size) (len cs)) (forceL (takeR (dropR cs off) ti.size) fun l => some (.agg l)) none)
    (match nth cs off with
      | some c => some (.sc c)
      | none => none)

def loadAt (c : Cfg) (s : St) (t : TypeId) (n off : Nat) : Option V :=
  match c.ty.get t, s.mem.get n with
  | some ti, some (.blk cs _) => partOf ti cs off
  | some ti, some (.row cs _) => partOf ti cs off
  | some ti, some (.ro cs _) => partOf ti cs off
  | _, _ => none

def St.set (s : St) (n : Nat) (o : Obj) : Option St :=
  match s with
  | ⟨m, c⟩ => m.putK n o fun m => some ⟨m, c⟩
def storeCells (s : St) (n off : Nat) (new : List C) : Option St :=
  match s.mem.get n with
  | some (.blk cs e) => bif Nat.ble (off + len new) (len cs) then forceL (splice cs off new) fun l => s.set n (.blk l e) else none
  | some (.row cs e) => bif Nat.ble (off + len new) (len cs) then forceL (splice cs off new) fun l => s.set n (.row l e) else none
  | _ => none

def alloc (s : St) (n : Nat) (o : Obj) : Option St :=
  match s.mem.get n with
  | some _ => none
  | none => s.set n o

def knownB (c : Cfg) : V → Option Bool
  | .sc (.a (.bool b)) => b.known c.facts
  | _ => none

/-- a small number that is known -/
def litNat : V → Option Nat
  | .sc (.a (.int _ (.lit n))) => if 0 ≤ n then some n.toNat else none
  | _ => none

/-- cells of a type with some parts set -/
def fillParts (ty : PT TI) (place : Nat → Option (Nat × Nat)) : List C → List (Nat × V) → Option (List C)
  | cs, [] => some cs
  | cs, (i, v) :: rest => match place i, v.cells with
    | some (off, size), some new => if new.length = size ∧ off + size ≤ cs.length then fillParts ty place (splice cs off new) rest else none
    | _, _ => none

def repl {α : Type} : Nat → List α → List α
  | 0, _ => []
  | n + 1, l => l ++ repl n l

def evs (t : Tm) : List Operand → Option (List V)
  | [] => some []
  | o :: os => match ev t o, evs t os with
    | some v, some vs => some (v :: vs)
    | _, _ => none

def evParts (t : Tm) : List (Nat × Operand) → Option (List (Nat × V))
  | [] => some []
  | (i, o) :: os => match ev t o, evParts t os with
    | some v, some vs => some ((i, v) :: vs)
    | _, _ => none

def atoms : List V → Option (List A)
  | [] => some []
  | v :: vs => match v.atom, atoms vs with
    | some a, some as => some (a :: as)
    | _, _ => none

/-- arithmetic and comparison of numbers -/
def intOp (f : Facts) (op : BinOp) (k : IntKind) (a b : E) : Option V :=
  match op with
  | .add => match a, b with
    | .lit x, .lit y => forceI (k.wrap (x + y)) fun z => some (vint k (.lit z))
    | .lit x, e => some (vint k (if x = 0 then e.mkCv f k else .add k a b))
    | _, _ => some (vint k (.add k a b))
  | .sub => match a, b with
    | .lit x, .lit y => forceI (k.wrap (x - y)) fun z => some (vint k (.lit z))
    | _, _ => some (vint k (.sub k a b))
  | .mul => match a, b with
    | .lit x, .lit y => forceI (k.wrap (x * y)) fun z => some (vint k (.lit z))
    | _, _ => none
  | .eql | .neq | .lss | .leq | .gtr | .geq => some (vbool (mkCmp f op a b))
  | _ => none

def strOp (op : BinOp) (a b : S) : Option V :=
  match op with
  | .eql => if a.beq b then some (vbool (.lit true)) else match a, b with | .lit x, .lit y => some (vbool (.lit (x == y))) | _, _ => none
  | .neq => if a.beq b then some (vbool (.lit false)) else match a, b with | .lit x, .lit y => some (vbool (.lit (!(x == y)))) | _, _ => none
  | _ => none

/-- whether two values of one cell are the same, where that is known -/
def eqCell (c : Cfg) : C → C → Option Bool
  | .a (.int k a), .a (.int k' b) => if k = k' then decideCmp c.facts .eql a b else none
  | .a (.str a), .a (.str b) => if a.beq b then some true else match a, b with | .lit x, .lit y => some (x == y) | _, _ => none
  | .a (.bool a), .a (.bool b) => match a.known c.facts, b.known c.facts with | some x, some y => some (x == y) | _, _ => none
  | .a (.ptr none), .a (.ptr b) => some b.isNone
  | .a (.ptr (some _)), .a (.ptr none) => some false
  | .a (.slice none _ _), .a (.slice b _ _) => some b.isNone
  | .a (.slice (some _) _ _), .a (.slice none _ _) => some false
  | .a (.map none), .a (.map b) => some b.isNone
  | .a (.map (some _)), .a (.map none) => some false
  | .nilFunc, .nilFunc => some true
  | .nilFunc, .func _ _ _ => some false
  | .func _ _ _, .nilFunc => some false
  | .nilIface, .iface _ _ => some false
  | .iface _ _, .nilIface => some false
  | _, _ => none

/-- structs whose fields are all of one cell, numbers or strings: (offsets in order) -/
def eqFields (c : Cfg) (xs ys : List C) : List (Nat × TypeId) → Option Bool
  | [] => some true
  | (off, _) :: fs => match xs[off]?, ys[off]? with
    | some x, some y => match eqCell c x y with
      | some true => eqFields c xs ys fs
      | some false => some false
      | none => none
    | _, _ => none

def plainField (ty : PT TI) (f : Nat × TypeId) : Bool :=
  match ty.get f.2 with
  | some { k := .int _, .. } | some { k := .str, .. } | some { k := .bool, .. } => true
  | _ => false

/-- whether a type's kind is a cell's -/
def fitsK : K → C → Bool
  | .bool, .a (.bool _) => true
  | .int _, .a (.int _ _) => true
  | .str, .a (.str _) => true
  | .ptr _, .a (.ptr _) => true
  | .slice _, .a (.slice _ _ _) => true
  | .map _ _, .a (.map _) => true
  | .func, .nilFunc => true
  | .func, .func _ _ _ => true
  | .iface, .nilIface => true
  | .iface, .iface _ _ => true
  | _, _ => false
def fitsT (c : Cfg) (t : TypeId) (x : C) : Bool :=
  match c.ty.get t with
  | some ti => fitsK ti.k x
  | none => false
def isConst : Operand → Bool
  | .const _ => true
  | _ => false
def eqV (c : Cfg) (xt : TypeId) (x y : Operand) (a b : V) : Option Bool :=
  match a, b with
  | .sc a, .sc b => iteB (fitsT c xt a) (match a, b with
    | .nilIface, .nilIface => iteB (isConst x) (some true) (iteB (isConst y) (some true) none)
    | _, _ => eqCell c a b) none
  | .agg xs, .agg ys => match c.ty.get xt with
    | some { k := .struct fs, .. } => if fs.all (fun f => plainField c.ty f && (match xs[f.1]? with | some x => fitsT c f.2 x | none => false)) then eqFields c xs ys fs else none
    | _ => none
  | _, _ => none

def binV (c : Cfg) (op : BinOp) (xt : TypeId) (x y : Operand) (a b : V) : Option V :=
  match a, b with
  | .sc (.a (.int k e)), .sc (.a (.int k' e')) => if k = k' then intOp c.facts op k e e' else none
  | .sc (.a (.str s)), .sc (.a (.str s')) => strOp op s s'
  | _, _ => match op with
    | .eql => (eqV c xt x y a b).map fun r => vbool (.lit r)
    | .neq => (eqV c xt x y a b).map fun r => vbool (.lit !r)
    | _ => none

/-- a bound of a slice expression -/
def boundV (d : Nat) : Option V → Option Nat
  | none => some d
  | some v => litNat v
/-- how far a slice expression may reach: the capacity, or, if that is not known, the length -/
def litOf : E → Option Nat
  | .lit n => some n.toNat
  | _ => none
def partsOf (p : Option (Nat × Nat)) (l h m : Nat) (known : Bool) : V :=
  .sc (.a (.slice (match p with
    | none => none
    | some q => iteB (iteB known (Nat.beq m l) false) p (some (q.1, q.2 + l))) (.lit (h - l : Nat)) (iteB known (some (.lit (m - l : Nat))) none)))
def cutSlice (p : Option (Nat × Nat)) (n cp : Nat) (known : Bool) (lo hi mx : Option V) : Option V :=
  match boundV 0 lo with
  | some l => match boundV n hi with
    | some h => match mx with
      | none => iteB (Nat.ble l h) (iteB (Nat.ble h cp) (some (partsOf p l h cp known)) none) none
      | some mv => match hi with
        | none => none
        | some _ => match litNat mv with
          | some m => iteB (Nat.ble l h) (iteB (Nat.ble h m) (iteB (Nat.ble m cp) (some (partsOf p l h m true)) none) none) none
          | none => none
    | none => none
  | none => none
/-- whether a name's elements are of a type -/
def elemsAre (s : St) (n : Nat) (e : TypeId) (size : Nat) : Bool :=
  match s.mem.get n with
  | some (.row _ e') => Nat.beq e' e
  | some (.ro _ e') => Nat.beq e' e
  | some (.blk _ _) => Nat.beq size 1
  | some (.bytes _) => Nat.beq size 1
  | _ => false
def elemsOf (s : St) (e : TypeId) (size : Nat) : Option (Nat × Nat) → Bool
  | none => true
  | some q => elemsAre s q.1 e size
/-- whether a name's variable has so many cells -/
def blkLen (s : St) (n k : Nat) : Bool :=
  match s.mem.get n with
  | some (.blk cs _) => Nat.beq (len cs) k
  | _ => false
def sliceV (c : Cfg) (s : St) (t : TypeId) (x : V) (lo hi mx : Option V) : Option V :=
  match c.ty.get t with
  | some ti => match ti.k with
    | .slice e => match x with
      | .sc (.a (.slice p (.lit n) cap)) => match c.ty.get e with
        | some ei => iteB (elemsOf s e ei.size p) (match cap with
          | none => cutSlice p n.toNat n.toNat false lo hi mx
          | some (.lit cp) => cutSlice p n.toNat cp.toNat true lo hi mx
          | some _ => none) none
        | none => none
      | _ => none
    | .arr n e => match x with
      | .sc (.a (.ptr (some q))) => match c.ty.get e with
        | some ei => iteB (Nat.beq ei.size 1) (iteB (Nat.beq q.2 0) (iteB (blkLen s q.1 n) (cutSlice (some q) n n true lo hi mx) none) none) none
        | none => none
      | _ => none
    | _ => none
  | none => none

abbrev CallF := FuncId → List V → St → Option (V × St)

def lenV (c : Cfg) (s : St) (t : TypeId) (x : V) : Option V :=
  match x with
  | .sc (.a (.slice _ len _)) => match c.ty.get t with
    | some { k := .slice _, .. } => some (vint .i64 len)
    | _ => none
  | .sc (.a (.str x)) => match c.ty.get t with
    | some { k := .str, .. } => match x with
      | .lit l => force (len l) fun n => some (vint .i64 (.lit n))
      | .var i => some (vint .i64 (.var (500 + i)))
    | _ => none
  | .sc (.a (.map m)) => match c.ty.get t with
    | some { k := .map _ _, .. } => match m with
      | none => some (vint .i64 (.lit 0))
      | some m => match s.mem.get m with
        | some (.mp es) => force (len es) fun n => some (vint .i64 (.lit n))
        | _ => none
    | _ => none
  | _ => none

/-- a range of a row -/
def cutOf (size i n : Nat) (cs : List C) : Option (List C) :=
  iteB (Nat.ble (i * size + n * size) (len cs)) (some (takeR (dropR cs (i * size)) (n * size))) none
/-- the cells of a row of elements of a type -/
def rowCells (s : St) (e : TypeId) (n : Nat) : Option (List C) :=
  match s.mem.get n with
  | some (.row cs e') => iteB (Nat.beq e' e) (some cs) none
  | some (.ro cs e') => iteB (Nat.beq e' e) (some cs) none
  | _ => none
/-- the cells of a slice of a known length -/
def cellsOfSlice (s : St) (e : TypeId) (size : Nat) : V → Option (List C)
  | .sc (.a (.slice none _ _)) => some []
  | .sc (.a (.slice (some p) (.lit n) _)) => match rowCells s e p.1 with
    | some cs => cutOf size p.2 n.toNat cs
    | none => none
  | _ => none
def sliceCells (c : Cfg) (s : St) (e : TypeId) (v : V) : Option (List C) :=
  match c.ty.get e with
  | some ti => cellsOfSlice s e ti.size v
  | none => none

abbrev R := Option (V × St)
def pv (s : St) : Option V → R
  | some v => some (v, s)
  | none => none
/-- what is made, under its name -/
def mk (v : V) : Option St → R
  | some s => some (v, s)
  | none => none
/-- elements in a new row -/
def appendNew (nm : Nat) (s : St) (e : TypeId) (n : Nat) (l : List C) : R :=
  forceL l fun l => mk (.sc (.a (.slice (some (nm, 0)) (.lit n) none))) (alloc s nm (.row l e))
/-- elements in the same row, behind those that are there -/
def appendFit (s : St) (e : TypeId) (size : Nat) (p : Option (Nat × Nat)) (len n : Nat) (cap : Option E) (new : List C) : R :=
  match p with
  | none => some (.sc (.a (.slice none (.lit 0) (some (.lit 0)))), s)
  | some q => match rowCells s e q.1 with
    | some _ => mk (.sc (.a (.slice (some q) (.lit (len + n : Nat)) cap))) (storeCells s q.1 ((q.2 + len) * size) new)
    | none => none
def goneRow (s : St) (e : TypeId) (b : Nat) : Option St :=
  match s.mem.get b with
  | some (.row _ e') => iteB (Nat.beq e' e) (s.set b .gone) none
  | _ => none
/-- elements behind those that are there, in the same row or in a new one -/
def appendOwn (nm : Nat) (s : St) (e : TypeId) (n b : Nat) (l : List C) : R :=
  match goneRow s e b with
  | some s => appendNew nm s e n l
  | none => none
def appendTo (nm : Nat) (s : St) (e : TypeId) (size n : Nat) (old new : List C) : V → R
  | .sc (.a (.slice p (.lit len) cap)) => force len.toNat fun len => force (len + n) fun m => iteB (Nat.ble m 10000) (match cap with
    | some (.lit cp) => force cp.toNat fun cp => iteB (Nat.ble m cp) (appendFit s e size p len n cap new) (appendNew nm s e m (app old new))
    | none => match p with
      | some q => appendOwn nm s e m q.1 (app old new)
      | none => none
    | _ => none) none
  | _ => none
def elemTI (c : Cfg) (ty : TypeId) : Option (TypeId × TI) :=
  match c.ty.get ty with
  | some ti => match ti.k with
    | .slice e => match c.ty.get e with
      | some x => some (e, x)
      | none => none
    | _ => none
  | none => none
def appendV (c : Cfg) (nm : Nat) (s : St) (t : TypeId) (x y : V) : R :=
  match elemTI c t with
  | some p => iteB (Nat.ble 1 p.2.size) (iteB (Nat.ble p.2.bytes 1000000) (match cellsOfSlice s p.1 p.2.size x with
    | some old => match cellsOfSlice s p.1 p.2.size y with
      | some new => appendTo nm s p.1 p.2.size (len new / p.2.size) old new x
      | none => none
    | none => none) none) none
  | none => none

def copyTo (s : St) (e : TypeId) (size : Nat) (new : List C) : V → R
  | .sc (.a (.slice p (.lit ln) _)) => force (Nat.min (len new / size) ln.toNat) fun n => match p with
    | none => some (vint .i64 (.lit n), s)
    | some q => match rowCells s e q.1 with
      | some _ => mk (vint .i64 (.lit n)) (storeCells s q.1 (q.2 * size) (takeR new (n * size)))
      | none => none
  | _ => none
def copyV (c : Cfg) (s : St) (t : TypeId) (d x : V) : R :=
  match elemTI c t with
  | some p => iteB (Nat.ble 1 p.2.size) (match cellsOfSlice s p.1 p.2.size x with
    | some new => copyTo s p.1 p.2.size new d
    | none => none) none
  | none => none

/-- whether a key is known to be none of a map's keys -/
def noneOf (c : Cfg) (k : C) : List (C × T1) → Bool
  | [] => true
  | p :: es => match eqCell c k p.1 with
    | some false => noneOf c k es
    | _ => false
def findMap (c : Cfg) (k : C) : List (C × T1) → Nat → Option (Option (Nat × T1))
  | [], _ => some none
  | (k', v) :: es, i => match eqCell c k k' with
    | some true => iteB (noneOf c k es) (some (some (i, v))) none
    | some false => findMap c k es (i + 1)
    | none => none

def zeroT (ti : TI) : Option T1 := if ti.agg then some (.agg ti.zero) else match ti.zero with | [c] => some (.sc c) | _ => none

/-- a map's type: its value's type, if the key is of a plain kind that fits -/
def plainKey : K → C → Bool
  | .bool, .a (.bool _) => true
  | .int _, .a (.int _ _) => true
  | .str, .a (.str _) => true
  | _, _ => false
def mapElem (c : Cfg) (t : TypeId) (k : C) : Option TypeId :=
  match c.ty.get t with
  | some ti => match ti.k with
    | .map kt e => match c.ty.get kt with
      | some kti => iteB (plainKey kti.k k) (some e) none
      | none => none
    | _ => none
  | none => none
/-- what a map holds -/
def mapAt (s : St) (r : Nat) : Option (List (C × T1)) :=
  match s.mem.get r with
  | some (.mp es) => some es
  | _ => none
def entriesOf (s : St) : Option Nat → Option (List (C × T1))
  | none => some []
  | some r => mapAt s r
def lookT (ok : Bool) (v : T1) : V :=
  match ok with
  | true => .tup [v, .sc (.a (.bool (.lit true)))]
  | false => v.toV
def lookZ (c : Cfg) (ok : Bool) (e : TypeId) : Option V :=
  match c.ty.get e with
  | some ti => match zeroT ti with
    | some z => match ok with
      | true => some (.tup [z, .sc (.a (.bool (.lit false)))])
      | false => some z.toV
    | none => none
  | none => none
def lookC (c : Cfg) (s : St) (m : Option Nat) (k : C) (ok : Bool) : Option TypeId → Option V
  | some e => match entriesOf s m with
    | some es => match findMap c k es 0 with
      | some (some p) => some (lookT ok p.2)
      | some none => lookZ c ok e
      | none => none
    | none => none
  | none => none
def lookupV (c : Cfg) (s : St) (t : TypeId) (m k : V) (ok : Bool) : Option V :=
  match m with
  | .sc (.a (.map m)) => match k with
    | .sc k => lookC c s m k ok (mapElem c t k)
    | _ => none
  | _ => none
def putC (c : Cfg) (s : St) (r : Nat) (k : C) (v : T1) (es : List (C × T1)) : Option St :=
  match findMap c k es 0 with
  | some (some p) => forceL (setAt es p.1 (k, v)) fun l => s.set r (.mp l)
  | some none => forceL (app es [(k, v)]) fun l => s.set r (.mp l)
  | none => none
def mapPut (c : Cfg) (s : St) (t : TypeId) (m k x : V) : Option St :=
  match m with
  | .sc (.a (.map (some r))) => match k with
    | .sc k => match mapElem c t k with
      | some _ => match x.toT1 with
        | some v => match mapAt s r with
          | some es => putC c s r k v es
          | none => none
        | none => none
      | none => none
    | _ => none
  | _ => none

def delC (c : Cfg) (s : St) (r : Nat) (k : C) (es : List (C × T1)) : Option St :=
  match findMap c k es 0 with
  | some (some p) => forceL (es.eraseIdx p.1) fun l => s.set r (.mp l)
  | some none => some s
  | none => none
def mapDel (c : Cfg) (s : St) (t : TypeId) (m k : V) : Option St :=
  match m with
  | .sc (.a (.map m)) => match k with
    | .sc k => match mapElem c t k with
      | some _ => match m with
        | none => some s
        | some r => match mapAt s r with
          | some es => delC c s r k es
          | none => none
      | none => none
    | _ => none
  | _ => none

def minMax (c : Cfg) (isMax : Bool) : V → V → Option V
  | .sc (.a (.int k a)), .sc (.a (.int k' b)) => if k = k' then
      match decideCmp c.facts (if isMax then .gtr else .lss) b a with
      | some true => some (vint k b)
      | some false => some (vint k a)
      | none => none
    else none
  | _, _ => none

def methodOf (c : Cfg) (t : TypeId) (name : String) : Option (FuncId × Bool) :=
  match c.ty.get t with
  | some ti => (ti.ms.find? (fun m => m.1 == name)).map (·.2)
  | none => none

def ptrTo (n : Nat) : V := .sc (.a (.ptr (some (n, 0))))
def onB (c : Cfg) (v : V) (x y : R) : R :=
  match knownB c v with
  | some true => x
  | some false => y
  | none => none

def opPick (c : Cfg) (t : Tm) (s : St) (q a b : Operand) : R :=
  match ev t q with
  | some q => onB c q (pv s (ev t a)) (pv s (ev t b))
  | none => none
def opAlloc (c : Cfg) (nm : Nat) (s : St) (e : TypeId) : R :=
  match c.ty.get e with
  | some ti => mk (ptrTo nm) (alloc s nm (.blk ti.zero e))
  | none => none
def boxCells (nm : Nat) (s : St) (e : TypeId) : Option (List C) → R
  | some cs => mk (ptrTo nm) (alloc s nm (.blk cs e))
  | none => none
def opBox (t : Tm) (nm : Nat) (s : St) (e : TypeId) (x : Operand) : R :=
  match ev t x with
  | some v => boxCells nm s e v.cells
  | none => none
def structPlace (ty : PT TI) (fs : List (Nat × TypeId)) (i : Nat) : Option (Nat × Nat) :=
  match nth fs i with
  | some p => match ty.get p.2 with
    | some x => some (p.1, x.size)
    | none => none
  | none => none
def arrPlace (n size i : Nat) : Option (Nat × Nat) := if i < n then some (i * size, size) else none
def aggOf (s : St) : Option (List C) → R
  | some cs => some (.agg cs, s)
  | none => none
def buildK (c : Cfg) (s : St) (ti : TI) (ps : List (Nat × V)) : R :=
  match ti.k with
  | .struct fs => aggOf s (fillParts c.ty (structPlace c.ty fs) ti.zero ps)
  | .arr n e => match c.ty.get e with
    | some x => aggOf s (fillParts c.ty (arrPlace n x.size) ti.zero ps)
    | none => none
  | _ => none
def opBuild (c : Cfg) (t : Tm) (s : St) (ty : TypeId) (ps : List (Nat × Operand)) : R :=
  match c.ty.get ty with
  | some ti => match evParts t ps with
    | some ps => buildK c s ti ps
    | none => none
  | none => none
def sliceTo (nm len cap : Nat) : V := .sc (.a (.slice (some (nm, 0)) (.lit len) (some (.lit cap))))
def rowOf (nm len cap : Nat) (s : St) (e : TypeId) : Option (List C) → R
  | some cs => mk (sliceTo nm len cap) (alloc s nm (.row cs e))
  | none => none
def opBuildSlice (c : Cfg) (t : Tm) (nm : Nat) (s : St) (ty : TypeId) (len : Nat) (ps : List (Nat × Operand)) : R :=
  match elemTI c ty with
  | some (e, x) => match evParts t ps with
    | some ps => bif Nat.ble (len * x.size) 10000 then rowOf nm len len s e (fillParts c.ty (arrPlace len x.size) (repl len x.zero) ps) else none
    | none => none
  | none => none
def ptrOf : Option V → Option (Nat × Nat)
  | some (.sc (.a (.ptr p))) => p
  | _ => none
def opLoad (c : Cfg) (t : Tm) (s : St) (ty : TypeId) (a : Operand) : R :=
  match ptrOf (ev t a) with
  | some p => pv s (loadAt c s ty p.1 p.2)
  | none => none
def storeV (s : St) (p : Nat × Nat) (ti : TI) : Option (List C) → R
  | some cs => bif Nat.beq cs.length ti.size then mk undefV (storeCells s p.1 p.2 cs) else none
  | none => none
def opStore (c : Cfg) (t : Tm) (s : St) (ty : TypeId) (a x : Operand) : R :=
  match ptrOf (ev t a) with
  | some p => match ev t x with
    | some v => match c.ty.get ty with
      | some ti => storeV s p ti v.cells
      | none => none
    | none => none
  | none => none
def opNil (s : St) : Option V → R
  | some (.sc (.a (.ptr none))) => none
  | some (.sc .nilIface) => none
  | some (.sc .nilFunc) => none
  | some (.sc (.func (.method _) _ _)) => none
  | some (.sc (.a (.ob _))) => none
  | some (.sc (.a (.ms _ _))) => none
  | some (.sc (.a .any)) => none
  | some v => some (v, s)
  | none => none
def opBin (c : Cfg) (t : Tm) (s : St) (op : BinOp) (xt : TypeId) (x y : Operand) : R :=
  match ev t x with
  | some a => match ev t y with
    | some b => pv s (binV c op xt x y a b)
    | none => none
  | none => none
def opNot (c : Cfg) (s : St) : Option V → R
  | some v => onB c v (some (vbool (.lit false), s)) (some (vbool (.lit true), s))
  | none => none
/-- how long a string is -/
def S.lenE : S → E
  | .lit l => .lit (len l)
  | .var i => .var (500 + i)
def toStr (c : Cfg) (s : St) (src : TI) (x : A) : Option V :=
  match src.k with
  | .slice e => match c.ty.get e with
    | some ei => match ei.k with
      | .int .u8 => match x with
        | .slice none _ _ => some (.sc (.a (.str (.lit []))))
        | .slice (some (n, 0)) len _ => match s.mem.get n with
          | some (.bytes y) => iteB (len.beq y.lenE) (some (.sc (.a (.str y)))) none
          | _ => none
        | _ => none
      | _ => none
    | none => none
  | .str => match x with
    | .str y => some (.sc (.a (.str y)))
    | _ => none
  | _ => none
def convA (c : Cfg) (s : St) (src dst : TI) (x : A) : Option V :=
  match dst.k with
  | .int k => match x with
    | .int _ e => some (vint k (e.mkCv c.facts k))
    | _ => none
  | .str => toStr c s src x
  | _ => none
def atomOf : Option V → Option A
  | some (.sc (.a x)) => some x
  | _ => none
def opConv (c : Cfg) (t : Tm) (s : St) (src dst : TypeId) (x : Operand) : R :=
  match c.ty.get src with
  | some a => match c.ty.get dst with
    | some b => match atomOf (ev t x) with
      | some x => pv s (convA c s a b x)
      | none => none
    | none => none
  | none => none
def concreteK : K → Bool
  | .iface => false
  | .other => false
  | _ => true
def concrete (c : Cfg) (t : TypeId) : Bool :=
  match c.ty.get t with
  | some ti => concreteK ti.k
  | none => false
def opIface (c : Cfg) (t : Tm) (s : St) (xt : TypeId) (x : Operand) : R :=
  match atomOf (ev t x) with
  | some a => iteB (concrete c xt) (some (.sc (.iface xt a), s)) none
  | none => none
def evAtoms (t : Tm) : List Operand → Option (List A)
  | [] => some []
  | o :: os => match atomOf (ev t o) with
    | some a => match evAtoms t os with
      | some as => some (a :: as)
      | none => none
    | none => none
def opFunc (t : Tm) (s : St) (fn : Fn) (first caps : List Operand) : R :=
  match evAtoms t first with
  | some f => match evAtoms t caps with
    | some cs => some (.sc (.func fn f cs), s)
    | none => none
  | none => none
def isNum : Option V → Bool
  | some (.sc (.a (.int _ _))) => true
  | _ => false
def isMapT (c : Cfg) (t : TypeId) : Bool :=
  match c.ty.get t with
  | some ti => match ti.k with
    | .map _ _ => true
    | _ => false
  | none => false
def opMap (c : Cfg) (t : Tm) (nm : Nat) (s : St) (ty : TypeId) : Option Operand → R
  | none => mk (.sc (.a (.map (some nm)))) (alloc s nm (.mp []))
  | some x => iteB (isMapT c ty) (iteB (isNum (ev t x)) (mk (.sc (.a (.map (some nm)))) (alloc s nm (.mp []))) none) none
def natOf : Option V → Option Nat
  | some v => litNat v
  | none => none
def opMake (c : Cfg) (t : Tm) (nm : Nat) (s : St) (ty : TypeId) (l cp : Operand) : R :=
  match elemTI c ty with
  | some (e, x) => match natOf (ev t l) with
    | some l => match natOf (ev t cp) with
      | some cp => bif Nat.ble l cp && (Nat.ble cp 1000 && Nat.ble x.bytes 1000000) then rowOf nm l cp s e (some (repl cp x.zero)) else none
      | none => none
    | none => none
  | none => none
def evO (t : Tm) : Option Operand → Option (Option V)
  | none => some none
  | some o => match ev t o with
    | some v => some (some v)
    | none => none
def opSlice (c : Cfg) (t : Tm) (s : St) (ty : TypeId) (x : Operand) (lo hi mx : Option Operand) : R :=
  match ev t x with
  | some x => match evO t lo with
    | some lo => match evO t hi with
      | some hi => match evO t mx with
        | some mx => pv s (sliceV c s ty x lo hi mx)
        | none => none
      | none => none
    | none => none
  | none => none
def structFields (c : Cfg) (ty : TypeId) : Option (List (Nat × TypeId)) :=
  match c.ty.get ty with
  | some ti => match ti.k with
    | .struct fs => some fs
    | _ => none
  | none => none
def fieldOf (c : Cfg) (ty : TypeId) (f : Nat) : Option (Nat × TI) :=
  match structFields c ty with
  | some fs => match nth fs f with
    | some p => match c.ty.get p.2 with
      | some ti => some (p.1, ti)
      | none => none
    | none => none
  | none => none
def fieldAt (s : St) (p : Nat × Nat) : Option (Nat × TI) → R
  | some (o, ti) => bif Nat.beq ti.size 0 then none else force (p.2 + o) fun q => some (.sc (.a (.ptr (some (p.1, q)))), s)
  | none => none
def opFieldAddr (c : Cfg) (t : Tm) (s : St) (st : TypeId) (x : Operand) (f : Nat) : R :=
  match ptrOf (ev t x) with
  | some p => fieldAt s p (fieldOf c st f)
  | none => none
def opField (c : Cfg) (t : Tm) (s : St) (st : TypeId) (x : Operand) (f : Nat) : R :=
  match ev t x with
  | some (.agg cs) => match fieldOf c st f with
    | some (o, ti) => pv s (partOf ti cs o)
    | none => none
  | _ => none
def sliceElem (c : Cfg) (s : St) (ty : TypeId) (p : Nat × Nat) (len : E) (j : Nat) : R :=
  match elemTI c ty with
  | some (e, ti) => iteB (elemsAre s p.1 e ti.size) (match decideCmp c.facts .lss (.lit j) len with
    | some true => force ((p.2 + j) * ti.size) fun q => some (.sc (.a (.ptr (some (p.1, q)))), s)
    | _ => none) none
  | none => none
def arrElem (c : Cfg) (s : St) (ty : TypeId) (p : Nat × Nat) (j : Nat) : R :=
  match c.ty.get ty with
  | some x => match x.k with
    | .arr len e => match c.ty.get e with
      | some ti => bif Nat.ble (j + 1) len then force (p.2 + j * ti.size) fun q => some (.sc (.a (.ptr (some (p.1, q)))), s) else none
      | none => none
    | _ => none
  | none => none
def opIndexAddr (c : Cfg) (t : Tm) (s : St) (ty : TypeId) (x ix : Operand) : R :=
  match natOf (ev t ix) with
  | some j => match ev t x with
    | some (.sc (.a (.slice (some p) ln _))) => sliceElem c s ty p ln j
    | some (.sc (.a (.ptr (some p)))) => arrElem c s ty p j
    | _ => none
  | none => none
def aggElem (c : Cfg) (s : St) (ty : TypeId) (cs : List C) (j : Nat) : R :=
  match c.ty.get ty with
  | some x => match x.k with
    | .arr len e => match c.ty.get e with
      | some ti => bif Nat.ble (j + 1) len then pv s (partOf ti cs (j * ti.size)) else none
      | none => none
    | _ => none
  | none => none
def strElem (c : Cfg) (s : St) (ty : TypeId) (l : List UInt8) (j : Nat) : R :=
  match c.ty.get ty with
  | some x => match x.k, nth l j with
    | .str, some b => forceI (b.toNat : Int) fun z => some (.sc (.a (.int .u8 (.lit z))), s)
    | _, _ => none
  | none => none
def opIndex (c : Cfg) (t : Tm) (s : St) (ty : TypeId) (x ix : Operand) : R :=
  match natOf (ev t ix) with
  | some j => match ev t x with
    | some (.agg cs) => aggElem c s ty cs j
    | some (.sc (.a (.str (.lit l)))) => strElem c s ty l j
    | _ => none
  | none => none
def opLookup (c : Cfg) (t : Tm) (s : St) (ty : TypeId) (m k : Operand) (ok : Bool) : R :=
  match ev t m with
  | some m => match ev t k with
    | some k => pv s (lookupV c s ty m k ok)
    | none => none
  | none => none
def opMapPut (c : Cfg) (t : Tm) (s : St) (ty : TypeId) (m k x : Operand) : R :=
  match ev t m with
  | some m => match ev t k with
    | some k => match ev t x with
      | some x => mk undefV (mapPut c s ty m k x)
      | none => none
    | none => none
  | none => none
def iterOver (nm : Nat) (s : St) : V → R
  | .sc (.a (.map m)) => match entriesOf s m with
    | some _ => mk (ptrTo nm) (alloc s nm (.it m))
    | none => none
  | _ => none
def opRange (c : Cfg) (t : Tm) (nm : Nat) (s : St) (ty : TypeId) (x : Operand) : R :=
  match c.ty.get ty with
  | some ti => match ti.k with
    | .map _ _ => match ev t x with
      | some v => iterOver nm s v
      | none => none
    | _ => none
  | none => none
def opNext (t : Tm) (s : St) (it : Operand) (isS : Bool) : R :=
  match isS with
  | true => none
  | false => match ptrOf (ev t it) with
    | some p => bif Nat.beq p.2 0 then (match s.mem.get p.1 with
      | some (.it m) => match entriesOf s m with
        | some [] => some (.tup [.sc (.a (.bool (.lit false)))], s)
        | _ => none
      | _ => none) else none
    | none => none
def opExtract (t : Tm) (s : St) (x : Operand) (i : Nat) : R :=
  match ev t x with
  | some (.tup vs) => match nth vs i with
    | some v => some (v.toV, s)
    | none => none
  | _ => none
def lift (l : List A) : List V := l.map fun a => V.sc (.a a)
/-- a function that has a body -/
def callFn (c : Cfg) (call : CallF) (g : FuncId) (args : List V) (s : St) : R :=
  match c.fn.get g with
  | some _ => call g args s
  | none => none
def callValue (c : Cfg) (call : CallF) (s : St) (args : List V) : Option V → R
  | some (.sc (.func (.func g) first caps)) => callFn c call g (app (lift first) (app args (lift caps))) s
  | _ => none
def ptrK (c : Cfg) (ty : TypeId) : Option Bool :=
  match c.ty.get ty with
  | some ti => match ti.k with
    | .ptr _ => some true
    | .other => none
    | _ => some false
  | none => none
def callInvoke (c : Cfg) (call : CallF) (s : St) (args : List V) (name : String) : Option V → R
  | some (.sc (.iface ty a)) => match methodOf c ty name with
    | some (g, b) => match ptrK c ty with
      | some b' => iteB (b == b') (callFn c call g (.sc (.a a) :: args) s) none
      | none => none
    | none => none
  | _ => none
def isSliceT (c : Cfg) (t : TypeId) : Bool :=
  match c.ty.get t with
  | some ti => match ti.k with
    | .slice _ => true
    | _ => false
  | none => false
def callBuiltin (c : Cfg) (nm : Nat) (s : St) (ty0 ty1 : TypeId) (b : Builtin) (args : List V) : R :=
  match b with
  | .len => match args with | [x] => pv s (lenV c s ty0 x) | _ => none
  | .append => match args with | [x, y] => iteB (Nat.beq ty1 ty0) (appendV c nm s ty0 x y) none | _ => none
  | .copy => match args with | [d, x] => copyV c s ty0 d x | _ => none
  | .cap => match args with | [.sc (.a (.slice _ _ (some e)))] => iteB (isSliceT c ty0) (some (vint .i64 e, s)) none | _ => none
  | .max => match args with | [x, y] => pv s (minMax c true x y) | _ => none
  | .min => match args with | [x, y] => pv s (minMax c false x y) | _ => none
  | .delete => match args with | [m, k] => mk undefV (mapDel c s ty0 m k) | _ => none
  | _ => none
def callTyped (c : Cfg) (nm : Nat) (s : St) (b : Builtin) (args : List V) : List TypeId → R
  | [t] => callBuiltin c nm s t (t + 1) b args
  | [t, u] => callBuiltin c nm s t u b args
  | _ => none
def opCall (c : Cfg) (call : CallF) (t : Tm) (nm : Nat) (s : St) (cl : Call) : R :=
  match evs t cl.args.toList with
  | some args => match cl.callee with
    | .value f => callValue c call s args (ev t f)
    | .invoke r name => callInvoke c call s args name (ev t r)
    | .builtin b => callTyped c nm s b args cl.argTypes.toList
  | none => none

/-- one operation: its value, and the state behind it. nm: the name of what it makes. -/
def opVImpl (c : Cfg) (call : CallF) (t : Tm) (nm : Nat) (s : St) (o : Op) : R :=
  match o with
  | .move x => pv s (ev t x)
  | .assign x => pv s (ev t x)
  | .pick q a b => opPick c t s q a b
  | .alloc e => opAlloc c nm s e
  | .box e x => opBox t nm s e x
  | .build ty ps => opBuild c t s ty ps.toList
  | .buildSlice ty len ps => opBuildSlice c t nm s ty len ps.toList
  | .load ty a => opLoad c t s ty a
  | .store ty a x => opStore c t s ty a x
  | .nilCheck x => opNil s (ev t x)
  | .binOp op xt x y _ => opBin c t s op xt x y
  | .unOp op _ x => match op with | .not => opNot c s (ev t x) | _ => none
  | .convert src dst x => opConv c t s src dst x
  | .makeInterface xt x => opIface c t s xt x
  | .makeFunc fn first caps => opFunc t s fn first.toList caps.toList
  | .makeMap ty r => opMap c t nm s ty r
  | .makeSlice ty l cp => opMake c t nm s ty l cp
  | .slice ty x lo hi mx => opSlice c t s ty x lo hi mx
  | .fieldAddr st x f => opFieldAddr c t s st x f
  | .field xt x f => opField c t s xt x f
  | .indexAddr ty x ix => opIndexAddr c t s ty x ix
  | .index ty x ix => opIndex c t s ty x ix
  | .lookup ty m k ok => opLookup c t s ty m k ok
  | .mapUpdate ty m k x => opMapPut c t s ty m k x
  | .insert ty m k x => opMapPut c t s ty m k x
  | .range ty x => opRange c t nm s ty x
  | .next it isS => opNext t s it isS
  | .extract x i => opExtract t s x i
  | .call cl => opCall c call t nm s cl
  | _ => none

/-- (closed arms first, then what they take: the kernel copies little) -/
def opV (c : Cfg) (call : CallF) (t : Tm) (nm : Nat) (s : St) (o : Op) : R :=
  @Op.rec (fun _ => Cfg → CallF → Tm → Nat → St → R)
    (fun x _ _ t _ s => pv s (ev t x))
    (fun x _ _ t _ s => pv s (ev t x))
    (fun q a b c _ t _ s => opPick c t s q a b)
    (fun e c _ _ nm s => opAlloc c nm s e)
    (fun e x _ _ t nm s => opBox t nm s e x)
    (fun ty ps c _ t _ s => opBuild c t s ty ps.toList)
    (fun ty len ps c _ t nm s => opBuildSlice c t nm s ty len ps.toList)
    (fun ty m k x c _ t _ s => opMapPut c t s ty m k x)
    (fun ty a c _ t _ s => opLoad c t s ty a)
    (fun ty a x c _ t _ s => opStore c t s ty a x)
    (fun _ _ _ _ _ _ => none)
    (fun _ _ _ _ _ _ => none)
    (fun x _ _ t _ s => opNil s (ev t x))
    (fun op xt x y _ c _ t _ s => opBin c t s op xt x y)
    (fun op _ x c _ t _ s => match op with | .not => opNot c s (ev t x) | _ => none)
    (fun src dst x c _ t _ s => opConv c t s src dst x)
    (fun _ _ _ _ _ _ _ => none)
    (fun xt x c _ t _ s => opIface c t s xt x)
    (fun fn first caps _ _ t _ s => opFunc t s fn first.toList caps.toList)
    (fun ty r c _ t nm s => opMap c t nm s ty r)
    (fun _ _ _ _ _ _ _ => none)
    (fun ty l cp c _ t nm s => opMake c t nm s ty l cp)
    (fun ty x lo hi mx c _ t _ s => opSlice c t s ty x lo hi mx)
    (fun st x f c _ t _ s => opFieldAddr c t s st x f)
    (fun xt x f c _ t _ s => opField c t s xt x f)
    (fun ty x ix c _ t _ s => opIndexAddr c t s ty x ix)
    (fun ty x ix c _ t _ s => opIndex c t s ty x ix)
    (fun ty m k ok c _ t _ s => opLookup c t s ty m k ok)
    (fun ty m k x c _ t _ s => opMapPut c t s ty m k x)
    (fun _ _ _ _ _ _ _ _ => none)
    (fun _ _ _ _ _ _ _ _ _ => none)
    (fun ty x c _ t nm s => opRange c t nm s ty x)
    (fun it isS _ _ t _ s => opNext t s it isS)
    (fun _ _ _ _ _ _ => none)
    (fun _ _ _ _ _ _ _ _ _ => none)
    (fun x i _ _ t _ s => opExtract t s x i)
    (fun cl c call t nm s => opCall c call t nm s cl)
    (fun _ _ _ _ _ _ => none)
    (fun _ _ _ _ _ _ => none)
    (fun _ _ _ _ _ _ => none)
    (fun _ _ _ _ _ _ _ => none)
    (fun _ _ _ _ _ _ _ _ => none)
    (fun _ _ _ _ _ _ _ => none)
    o c call t nm s

inductive X where
  | normal | exit (id : Nat) | ret
  deriving Inhabited, DecidableEq

/-- whether an operation is wanted: none, if that is not known -/
def wantedG (c : Cfg) (want : Bool) : V → Option Bool
  | .sc (.a (.bool b)) => match b.known c.facts with
    | some x => some (x == want)
    | none => none
  | .tup [] => some false
  | _ => none
def wantedVImpl (c : Cfg) (ops : List Oper) (t : Tm) : Option (Nat × Bool) → Option Bool
  | none => some true
  | some (j, want) => match nth ops j with
    | some o => match o.dst with
      | some d => match t.get d with
        | some v => wantedG c want v
        | none => none
      | none => none
    | none => none
def wantedP (c : Cfg) (ops : List Oper) (t : Tm) (p : Nat × Bool) : Option Bool :=
  match nth ops p.1 with
  | some o => match o.dst with
    | some d => match t.get d with
      | some v => wantedG c p.2 v
      | none => none
    | none => none
  | none => none
def wantedV (c : Cfg) (ops : List Oper) (t : Tm) (g : Option (Nat × Bool)) : Option Bool :=
  @Option.rec (Nat × Bool) (fun _ => Cfg → List Oper → Tm → Option Bool) (fun _ _ _ => some true) (fun p c ops t => wantedP c ops t p) g c ops t

/-- nt: how many temporaries there are -/
def putVImpl {β : Type} (nt : Nat) (t : Tm) (d : Option Nat) (v : V) (k : Tm → Option β) : Option β :=
  match d with
  | some i => iteB (Nat.ble (Nat.succ i) nt) (t.putK i v k) none
  | none => k t
def putV {β : Type} (nt : Nat) (t : Tm) (d : Option Nat) (v : V) (k : Tm → Option β) : Option β :=
  @Option.rec Nat (fun _ => Nat → Tm → V → (Tm → Option β) → Option β) (fun _ t _ k => k t) (fun i nt t v k => @Bool.rec (fun _ => Option β) none (t.putK i v k) (Nat.ble (Nat.succ i) nt)) d nt t v k

/-- one operation, and what follows it -/
def step1Impl (c : Cfg) (call : CallF) (nt : Nat) (all : List Oper) (o : Oper) (k : Nat → Tm → St → Option (Tm × St)) (nm : Nat) (t : Tm) (s : St) : Option (Tm × St) :=
  match wantedV c all t o.guard with
  | some true => force nm fun nm => match opV c call t nm s o.op with
    | some (v, s) => putV nt t o.dst v fun t => k (Nat.succ nm) t s
    | none => none
  | some false => force nm fun nm => putV nt t o.dst undefV fun t => k (Nat.succ nm) t s
  | none => none
abbrev KF := Nat → Tm → St → Option (Tm × St)
noncomputable def stepR (nt : Nat) (o : Oper) (k : KF) (nm : Nat) (t : Tm) (r : R) : Option (Tm × St) :=
  @Option.rec (V × St) (fun _ => Nat → Oper → KF → Nat → Tm → Option (Tm × St)) (fun _ _ _ _ _ => none)
    (fun p => @Prod.rec V St (fun _ => Nat → Oper → KF → Nat → Tm → Option (Tm × St)) (fun v s nt o k nm t => putV nt t o.dst v fun t => k (Nat.succ nm) t s) p) r nt o k nm t
def step1 (c : Cfg) (call : CallF) (nt : Nat) (all : List Oper) (o : Oper) (k : Nat → Tm → St → Option (Tm × St)) (nm : Nat) (t : Tm) (s : St) : Option (Tm × St) :=
  @Option.rec Bool (fun _ => Cfg → CallF → Nat → Oper → KF → Nat → Tm → St → Option (Tm × St)) (fun _ _ _ _ _ _ _ _ => none)
    (fun b => @Bool.rec (fun _ => Cfg → CallF → Nat → Oper → KF → Nat → Tm → St → Option (Tm × St))
      (fun _ _ nt o k nm t s => @Nat.rec (fun _ => Option (Tm × St)) (putV nt t o.dst undefV fun t => k (nat_lit 1) t s) (fun m _ => putV nt t o.dst undefV fun t => k (Nat.succ (Nat.succ m)) t s) nm)
      (fun c call nt o k nm t s => @Nat.rec (fun _ => Option (Tm × St)) (stepR nt o k (nat_lit 0) t (opV c call t (nat_lit 0) s o.op)) (fun m _ => stepR nt o k (Nat.succ m) t (opV c call t (Nat.succ m) s o.op)) nm) b)
    (wantedV c all t o.guard) c call nt o k nm t s
def runOpsImpl (c : Cfg) (call : CallF) (nt : Nat) (all : List Oper) : List Oper → Nat → Tm → St → Option (Tm × St)
  | [], _, t, s => some (t, s)
  | o :: rest, nm, t, s => step1 c call nt all o (runOpsImpl c call nt all rest) nm t s
def runOps (c : Cfg) (call : CallF) (nt : Nat) (all : List Oper) (l : List Oper) : Nat → Tm → St → Option (Tm × St) :=
  @List.rec Oper (fun _ => Nat → Tm → St → Option (Tm × St)) (fun _ t s => some (t, s)) (fun o _ ih nm t s => step1 c call nt all o ih nm t s) l

def iterImpl (body : Tm → St → Option (X × Tm × St)) : Nat → Tm → St → Option (X × Tm × St)
  | 0, _, _ => none
  | n + 1, t, s => match body t s with
    | some (.normal, t, s) => iterImpl body n t s
    | r => r
def iterK (k : Tm → St → Option (X × Tm × St)) : Option (X × Tm × St) → Option (X × Tm × St)
  | some (.normal, t, s) => k t s
  | r => r
def iter (body : Tm → St → Option (X × Tm × St)) (n : Nat) : Tm → St → Option (X × Tm × St) :=
  @Nat.rec (fun _ => Tm → St → Option (X × Tm × St)) (fun _ _ => none) (fun _ ih t s => iterK ih (body t s)) n

/-- operations that only look -/
def pasOp : Op → Bool
  | .move _ | .assign _ | .pick .. | .load .. | .nilCheck _ | .unOp .. | .fieldAddr .. | .field .. | .extract .. | .makeInterface .. | .makeFunc .. | .build .. | .binOp .. | .convert .. | .indexAddr ..
  | .index .. | .slice .. | .lookup .. | .next .. => true
  | .call cl => match cl.callee with
    | .builtin .len | .builtin .cap | .builtin .max | .builtin .min => true
    | _ => false
  | _ => false
def withCtr (n : Nat) (s : St) (k : St → Option (X × Tm × St)) : Option (X × Tm × St) :=
  match s with
  | ⟨m, _⟩ => force n fun n => k ⟨m, n⟩
def runPlain (c : Cfg) (call : CallF) (nt : Nat) (ops : List Oper) (t : Tm) (s : St) : Option (X × Tm × St) :=
  withCtr (s.ctr + len ops) s fun s' => match runOps c call nt ops ops s.ctr t s' with
    | some (t, s) => some (.normal, t, s)
    | none => none

/-- operations that do not even look at memory -/
def pureOp : Op → Bool
  | .move _ | .assign _ | .pick .. | .nilCheck _ | .unOp .. | .fieldAddr .. | .field .. | .extract .. | .binOp .. => true
  | _ => false
/-! ### a region that draws its order -/

/-- an operation, in the order of the text -/
structure DR where
  i : Nat
  o : Oper
  /-- the operations that go ahead of it in every order, as bits -/
  m : Nat
  /-- the temporaries that it looks at -/
  t : Tm
  /-- is it wanted? -/
  b : Bool
  v : V
  /-- the state ahead of it -/
  s : St

def tmpsL : List Operand → List Nat
  | [] => []
  | .tmp t :: l => t :: tmpsL l
  | _ :: l => tmpsL l
def guardL (all : List Oper) : Option (Nat × Bool) → List Nat
  | some (g, _) => match nth all g with
    | some x => match x.dst with
      | some d => [d]
      | none => []
    | none => []
  | none => []
def looks (all : List Oper) (o : Oper) : List Nat := app (tmpsL o.op.operands.toList) (guardL all o.guard)
def restrK {β : Type} (t : Tm) : List Nat → Tm → (Tm → β) → β
  | [], u, k => k u
  | d :: ds, u, k => match t.get d with
    | some v => u.putK d v fun u => restrK t ds u k
    | none => restrK t ds u k

def bitB (m i : Nat) : Bool := Nat.beq (Nat.land (Nat.shiftRight m i) 1) 1
def maskOf (ms : List Nat) (i : Nat) : List Edge → Nat → Option Nat
  | [], acc => some acc
  | e :: es, acc => match Region.binds .any e with
    | false => maskOf ms i es acc
    | true => match Nat.ble (Nat.succ e.on) i with
      | false => none
      | true => match bitB acc e.on with
        | true => maskOf ms i es acc
        | false => match nth ms e.on with
          | some m => force (Nat.lor (Nat.lor acc (Nat.shiftLeft 1 e.on)) m) fun acc => maskOf ms i es acc
          | none => none
def masksOf : List Oper → Nat → List Nat → Option (List Nat)
  | [], _, ms => some ms
  | o :: os, i, ms => match maskOf ms i o.after.toList 0 with
    | some m => masksOf os (i + 1) (app ms [m])
    | none => none

def drawGo (c : Cfg) (call : CallF) (nt base : Nat) (all : List Oper) : List Oper → List Nat → Nat → Tm → St → Option (List DR × Tm × St)
  | [], _, _, t, s => some ([], t, s)
  | o :: os, ms, i, t, s => match ms with
    | [] => none
    | m :: ms => restrK t (looks all o) .leaf fun ti => match wantedV c all ti o.guard with
      | none => none
      | some false => putV nt t o.dst undefV fun t1 => force (i + 1) fun i1 => match drawGo c call nt base all os ms i1 t1 s with
        | some (l, t', s') => some (⟨i, o, m, ti, false, undefV, s⟩ :: l, t', s')
        | none => none
      | some true => force (base + i) fun nm => match opV c call ti nm s o.op with
        | none => none
        | some (v, s1) => putV nt t o.dst v fun t1 => force (i + 1) fun i1 => match drawGo c call nt base all os ms i1 t1 (match pasOp o.op with | true => s | false => s1) with
          | some (l, t', s') => some (⟨i, o, m, ti, true, v, s⟩ :: l, t', s')
          | none => none

def DR.act (r : DR) : Bool := !(pasOp r.o.op)
/-- the bits of the operations that do not only look -/
def actBits : List DR → Nat
  | [] => 0
  | r :: l => match r.act with
    | true => Nat.lor (actBits l) (Nat.shiftLeft 1 r.i)
    | false => actBits l
/-- who writes a temporary; none: two do -/
def wrOf : List DR → PT (Nat × Nat) → Option (PT (Nat × Nat))
  | [], w => some w
  | r :: l, w => match r.o.dst with
    | none => wrOf l w
    | some d => match w.get d with
      | some _ => none
      | none => w.putK d (r.i, r.m) fun w => wrOf l w
/-- what one looks at is written ahead of it, or behind it -/
def readOK (w : PT (Nat × Nat)) (r : DR) : List Nat → Bool
  | [] => true
  | d :: ds => (match w.get d with
    | none => true
    | some (j, m) => Nat.beq j r.i || bitB r.m j || bitB m r.i) && readOK w r ds
def below (n i : Nat) : Nat := Nat.land n (Nat.sub (Nat.pow 2 i) 1)
def subB (x y : Nat) : Bool := Nat.beq (Nat.land x y) x
def chainOK (acts f : Nat) (r : DR) : Bool := !r.act || (subB (below acts r.i) r.m || Nat.beq r.i f)
def isAlloc : Op → Bool
  | .alloc _ => true
  | _ => false
def freeOK (acts f : Nat) (r : DR) : Bool := match Nat.beq r.i f with
  | true => isAlloc r.o.op && r.b
  | false => !(bitB r.m f) || subB (below acts f) r.m
/-- the first one that does not go behind all the acts ahead of it -/
def findFree (acts : Nat) : List DR → Nat → Nat
  | [], n => n
  | r :: l, n => match r.act && !(subB (below acts r.i) r.m) with
    | true => r.i
    | false => findFree acts l n
/-- what goes ahead of the acts ahead of p -/
def accM : List DR → Nat → Nat
  | [], _ => 0
  | r :: l, p => match r.act && Nat.ble (Nat.succ r.i) p with
    | true => Nat.lor (accM l p) r.m
    | false => accM l p
def noSel : Op → Bool
  | .select .. => false
  | _ => true
/-! what the text alone says of a region: the terms are closed, so the kernel comes to them once -/
def skel (i : Nat) (o : Oper) (m : Nat) : DR := ⟨i, o, m, .leaf, true, undefV, ⟨.leaf, 0⟩⟩
def skels : List Oper → List Nat → Nat → List DR
  | o :: os, m :: ms, i => skel i o m :: skels os ms (i + 1)
  | _, _, _ => []
def noGuard : Option (Nat × Bool) → Bool
  | none => true
  | some _ => false
def statS (acts f : Nat) (all : List Oper) (w : PT (Nat × Nat)) : List DR → Bool
  | [] => true
  | r :: l => noSel r.o.op && readOK w r (looks all r.o) && chainOK acts f r && freeOK acts f r && statS acts f all w l
/-- the one that does not go behind all acts has no guard -/
def noGuards (f : Nat) : List DR → Bool
  | [] => true
  | r :: l => (!(Nat.beq r.i f) || noGuard r.o.guard) && noGuards f l
/-- whether it has to be looked at r once more, at the state ahead of the operation p -/
def again (acts p pm u : Nat) (r : DR) : Bool :=
  !(r.act || pureOp r.o.op) && (subB (Nat.land r.m acts) pm && !(bitB u r.i || Nat.beq (Nat.land acts pm) (below acts r.i)))
def needL (acts p pm u : Nat) : List DR → List Nat
  | [] => []
  | r :: l => match again acts p pm u r with
    | true => r.i :: needL acts p pm u l
    | false => needL acts p pm u l
def needAt (acts : Nat) (recs : List DR) (p : Nat) : List Nat :=
  force (Nat.sub (Nat.pow 2 p) 1) fun pm => force (accM recs p) fun u => needL acts p pm u recs
def consN (p : Nat) (l : List (Nat × List Nat)) : List Nat → List (Nat × List Nat)
  | [] => l
  | x :: xs => (p, x :: xs) :: l
/-- which have to be looked at once more, and where -/
def needs (n acts : Nat) (recs : List DR) : List DR → List (Nat × List Nat)
  | [] => consN n [] (needAt acts recs n)
  | r :: l => match r.act with
    | true => consN r.i (needs n acts recs l) (needAt acts recs r.i)
    | false => needs n acts recs l
def isNil {α : Type} : List α → Bool
  | [] => true
  | _ :: _ => false
def restrT (t : Tm) (ds : List Nat) : Tm := restrK t ds .leaf id
abbrev DrawF := List Nat → Nat → Tm → St → Option (List DR × Tm × St)
def drawCons (r : DR) : Option (List DR × Tm × St) → Option (List DR × Tm × St)
  | some (l, t', s') => some (r :: l, t', s')
  | none => none
def drawTo (nt : Nat) (all : List Oper) (o : Oper) (ih : DrawF) (ms : List Nat) (i m : Nat) (t : Tm) (s : St) : R → Option (List DR × Tm × St)
  | none => none
  | some (v, s1) => putV nt t o.dst v fun t1 => force (i + 1) fun i1 => drawCons ⟨i, o, m, restrT t (looks all o), true, v, s⟩ (ih ms i1 t1 s1)
def drawOp (c : Cfg) (call : CallF) (nt base : Nat) (all : List Oper) (o : Oper) (ih : DrawF) (ms : List Nat) (i m : Nat) (t : Tm) (s : St) : Option Bool → Option (List DR × Tm × St)
  | none => none
  | some false => putV nt t o.dst undefV fun t1 => force (i + 1) fun i1 => drawCons ⟨i, o, m, restrT t (looks all o), false, undefV, s⟩ (ih ms i1 t1 s)
  | some true => force (base + i) fun nm => drawTo nt all o ih ms i m t s (opV c call t nm s o.op)
def drawStep (c : Cfg) (call : CallF) (nt base : Nat) (all : List Oper) (o : Oper) (ih : DrawF) : DrawF
  | [], _, _, _ => none
  | m :: ms, i, t, s => drawOp c call nt base all o ih ms i m t s (wantedV c all t o.guard)
def drawFImpl (c : Cfg) (call : CallF) (nt base : Nat) (all : List Oper) : List Oper → DrawF
  | [], _, _, t, s => some ([], t, s)
  | o :: os, ms, i, t, s => drawStep c call nt base all o (drawFImpl c call nt base all os) ms i t s
/-- as drawGo; what an operation looks at is told when it is asked for -/
def drawF (c : Cfg) (call : CallF) (nt base : Nat) (all : List Oper) (os : List Oper) : DrawF :=
  @List.rec Oper (fun _ => DrawF) (fun _ _ t s => some ([], t, s)) (fun o _ ih ms i t s => drawStep c call nt base all o ih ms i t s) os
/-- once more -/
def relook (c : Cfg) (call : CallF) (base : Nat) (s : St) : Option DR → Bool
  | none => false
  | some r => !r.b || force (base + r.i) fun nm => match opV c call r.t nm s r.o.op with
    | some (v, _) => v.beq r.v
    | none => false
def relookL (c : Cfg) (call : CallF) (base : Nat) (recs : List DR) (s : St) : List Nat → Bool
  | [] => true
  | j :: l => relook c call base s (nth recs j) && relookL c call base recs s l
def stOf (s' : St) : Option DR → St
  | some r => r.s
  | none => s'
def relooks (c : Cfg) (call : CallF) (base : Nat) (recs : List DR) (s' : St) : List (Nat × List Nat) → Bool
  | [] => true
  | q :: l => relookL c call base recs (stOf s' (nth recs q.1)) q.2 && relooks c call base recs s' l
def freeB : Option DR → Bool
  | some r => r.b
  | none => true
def drawn (c : Cfg) (call : CallF) (nt n : Nat) (ops : List Oper) (ms : List Nat) (f : Nat) (recs0 : List DR) (nd : List (Nat × List Nat)) (t : Tm) (s : St) : Option (X × Tm × St) :=
  withCtr (s.ctr + n) s fun s0 => match drawF c call nt s.ctr ops ops ms 0 t s0 with
    | some (recs, t', s') => match (noGuards f recs0 || freeB (nth recs f)) && relooks c call s.ctr recs s' nd with
      | true => some (.normal, t', s')
      | false => none
    | none => none
def drawQ (c : Cfg) (call : CallF) (nt n : Nat) (ops : List Oper) (ms : List Nat) (acts f : Nat) (recs0 : List DR) (t : Tm) (s : St) : Bool → Option (X × Tm × St)
  | true => runPlain c call nt ops t s
  | false => drawn c call nt n ops ms f recs0 (needs n acts recs0 recs0) t s
def drawW (c : Cfg) (call : CallF) (nt n : Nat) (ops : List Oper) (ms : List Nat) (acts f : Nat) (recs0 : List DR) (t : Tm) (s : St) : Option (PT (Nat × Nat)) → Option (X × Tm × St)
  | none => none
  | some w => match statS acts f ops w recs0 with
    | true => drawQ c call nt n ops ms acts f recs0 t s (noGuards f recs0 && isNil (needs n acts recs0 recs0))
    | false => none
def runDraw (c : Cfg) (call : CallF) (nt : Nat) (ops : List Oper) (t : Tm) (s : St) : Option (X × Tm × St) :=
  match masksOf ops 0 [] with
  | none => none
  | some ms => force (actBits (skels ops ms 0)) fun acts => force (findFree acts (skels ops ms 0) (len ops)) fun f =>
    drawW c call nt (len ops) ops ms acts f (skels ops ms 0) t s (wrOf (skels ops ms 0) .leaf)
def runRegion (c : Cfg) (call : CallF) (nt : Nat) (ops : List Oper) (draw : Bool) (t : Tm) (s : St) : Option (X × Tm × St) :=
  match draw with
  | true => runDraw c call nt ops t s
  | false => runPlain c call nt ops t s

abbrev Ex := Tm → St → Option (X × Tm × St)
/-- what follows, if the first part ends normally -/
def thenX (k : Ex) : Option (X × Tm × St) → Option (X × Tm × St)
  | some (.normal, t, s) => k t s
  | r => r
def outOf (id : Nat) : Option (X × Tm × St) → Option (X × Tm × St)
  | some (.exit i, t, s) => iteB (Nat.beq i id) (some (.normal, t, s)) (some (.exit i, t, s))
  | r => r
def onTest (c : Cfg) (x y : Ex) (t : Tm) (s : St) : Option V → Option (X × Tm × St)
  | some v => match knownB c v with
    | some true => x t s
    | some false => y t s
    | none => none
  | none => none
def execCImpl (c : Cfg) (call : CallF) (lf nt : Nat) : Code → Ex
  | .skip => fun t s => some (.normal, t, s)
  | .region _ ops dr => fun t s => runRegion c call nt ops.toList dr t s
  | .seq a b => fun t s => thenX (execCImpl c call lf nt b) (execCImpl c call lf nt a t s)
  | .cond q a b => fun t s => onTest c (execCImpl c call lf nt a) (execCImpl c call lf nt b) t s (ev t q)
  | .block id b => fun t s => outOf id (execCImpl c call lf nt b t s)
  | .loop b => fun t s => iter (execCImpl c call lf nt b) lf t s
  | .exit id => fun t s => some (.exit id, t, s)
  | .ret => fun t s => some (.ret, t, s)
  | _ => fun _ _ => none
def execC (c : Cfg) (call : CallF) (lf nt : Nat) (code : Code) : Ex :=
  @Code.rec (fun _ => Ex) (fun t s => some (.normal, t, s)) (fun _ ops dr t s => runRegion c call nt ops.toList dr t s)
    (fun _ _ ia ib t s => thenX ib (ia t s)) (fun q _ _ ia ib t s => onTest c ia ib t s (ev t q)) (fun id _ ib t s => outOf id (ib t s))
    (fun _ ib t s => iter ib lf t s) (fun _ _ _ _ _ _ _ _ => none) (fun id t s => some (.exit id, t, s)) (fun _ _ _ _ => none) (fun _ _ _ => none) (fun _ _ _ => none)
    (fun t s => some (.ret, t, s)) (fun _ _ _ => none) code

def resultV (c : Cfg) (t : Tm) (s : St) : ResultVar → Option T1
  | .tmp i => match t.get i with
    | some v => v.toT1
    | none => none
  | .cell a ty => match t.get a with
    | some (.sc (.a (.ptr (some (n, off))))) => (loadAt c s ty n off).bind V.toT1
    | _ => none
def resultsV (c : Cfg) (t : Tm) (s : St) : List ResultVar → Option (List T1)
  | [] => some []
  | r :: rs => match resultV c t s r, resultsV c t s rs with
    | some v, some vs => some (v :: vs)
    | _, _ => none

abbrev Contract := CallF → List V → St → Option (V × St)

def callN (c : Cfg) (lf : Nat) (con : FuncId → Option Contract) : Nat → CallF
  | 0, _, _, _ => none
  | n + 1, f, args, s =>
    match con f with
    | some k => k (callN c lf con n) args s
    | none => match c.fn.get f with
      | some fn => match fn.body with
        | some body => match execC c (callN c lf con n) lf (Nat.max fn.ntmps (len args)) body (tmOf args 0 .leaf) s with
          | some (.exit _, _, _) | none => none
          | some (_, t, s) => match resultsV c t s fn.results.toList with
            | some [v] => some (v.toV, s)
            | some vs => some (.tup vs, s)
            | none => none
        | none => none
      | none => none

/-! ### a piece of code under several states of knowledge, which must come to the same -/
def beqEs : List (C × T1) → List (C × T1) → Bool
  | [], [] => true
  | (a, x) :: l, (b, y) :: m => a.beq b && x.beq y && beqEs l m
  | _, _ => false
def Obj.beq : Obj → Obj → Bool
  | .blk l e, .blk m f => Nat.beq e f && beqCs l m
  | .row l e, .row m f => Nat.beq e f && beqCs l m
  | .ro l e, .ro m f => Nat.beq e f && beqCs l m
  | .bytes x, .bytes y => x.beq y
  | .mp l, .mp m => beqEs l m
  | .it none, .it none => true
  | .it (some a), .it (some b) => Nat.beq a b
  | .gone, .gone => true
  | _, _ => false
def PT.beq {α : Type} (f : α → α → Bool) : PT α → PT α → Bool
  | .leaf, .leaf => true
  | .node l v r, .node l' v' r' => (match v, v' with | none, none => true | some x, some y => f x y | _, _ => false) && PT.beq f l l' && PT.beq f r r'
  | _, _ => false
/-- what both know -/
def PT.meet {α : Type} (f : α → α → Bool) : PT α → PT α → PT α
  | .node l v r, .node l' v' r' => .node (PT.meet f l l') (match v, v' with | some x, some y => (match f x y with | true => some x | false => none) | _, _ => none) (PT.meet f r r')
  | _, _ => .leaf
def xbeq : X → X → Bool
  | .normal, .normal => true
  | .exit i, .exit j => Nat.beq i j
  | .ret, .ret => true
  | _, _ => false
def joinGo : List Ex → Tm → St → X × Tm × St → Option (X × Tm × St)
  | [], _, _, r => some r
  | f :: fs, t, s, (x, t1, s1) => match f t s with
    | some (y, t2, s2) => match xbeq x y && PT.beq Obj.beq s1.mem s2.mem with
      | true => joinGo fs t s (x, PT.meet V.beq t1 t2, s1)
      | false => none
    | none => none
def joinX : List Ex → Ex
  | [], _, _ => none
  | f :: fs, t, s => match f t s with
    | some r => joinGo fs t s r
    | none => none
def firstReg : Code → Option Nat
  | .region i _ _ => some i
  | .seq a _ => firstReg a
  | _ => none
/-- from region k on, under the knowledge of each of cs -/
def execS (c : Cfg) (cs : List Cfg) (call : CallF) (lf nt k : Nat) : Code → Ex
  | .seq a b => match firstReg b with
    | some i => match Nat.beq i k with
      | true => thenX' (joinX (cs.map fun c => execC c call lf nt b)) (execC c call lf nt a)
      | false => thenX' (execS c cs call lf nt k b) (execC c call lf nt a)
    | none => fun _ _ => none
  | _ => fun _ _ => none
where
  thenX' (k : Ex) (f : Ex) : Ex := fun t s => thenX k (f t s)

end Go.Sx
end
