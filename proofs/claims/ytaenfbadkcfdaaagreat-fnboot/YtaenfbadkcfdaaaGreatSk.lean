/-
  What FnBoot's run calls and is not walked: by contract.
-/
import Derived.Test.YtaenfbadkcfdaaaGreatSa
noncomputable section
namespace Go.Sx
set_option linter.unusedVariables false

def newO (s : St) (o : Obj) : Option (Nat × St) :=
  match s with
  | ⟨m, n⟩ => force (n + 1) fun n' => match alloc ⟨m, n'⟩ n o with
    | some s' => some (n, s')
    | none => none
abbrev nilSl : V := .sc (.a (.slice none (.lit 0) (some (.lit 0))))
def mapOf (s : St) : C → Option (List (C × T1))
  | .a (.map none) => some []
  | .a (.map (some m)) => match s.mem.get m with | some (.mp es) => some es | _ => none
  | _ => none

def oneArg : List V → Option V
  | [v] => some v
  | _ => none
def twoArgs : List V → Option (V × V)
  | [v, w] => some (v, w)
  | _ => none
def cellOf : V → Option C
  | .sc c => some c
  | _ => none
def cellsTwo : V → Option (C × C)
  | .agg [a, b] => some (a, b)
  | _ => none
def isNilMap : C → Bool
  | .a (.map none) => true
  | _ => false
/-- keys that are told from one another, numbers all -/
def distinctK (c : Cfg) : List (C × T1) → Bool
  | [] => true
  | (.a (.int .u64 e), _) :: es => noneOf c (.a (.int .u64 e)) es && distinctK c es
  | _ => false
def unitsT : List (C × T1) → Bool
  | [] => true
  | (_, .agg []) :: es => unitsT es
  | _ => false
def setOK (c : Cfg) (x : List (C × T1)) : Bool := distinctK c x && unitsT x && Nat.ble (len x) 9
/-- a bool that is known ahead -/
def cBool (args0 : List V) (i : Nat) : Contract := fun _ args s => match beqVs args args0 with
  | true => some (vbool (.var i), s)
  | false => none
where
  beqVs : List V → List V → Bool
    | [], [] => true
    | a :: as, b :: bs => a.beq b && beqVs as bs
    | _, _ => false
def cBytesOf : Contract := fun _ args s => match args with
  | [.sc (.a (.str (.lit [])))] => some (nilSl, s)
  | [.sc (.a (.str (.var i)))] => match s.mem.get 1 with
    | some (.ro _ _) => match newO s (.bytes (.var i)) with
      | some (n, s) => some (.sc (.a (.ms n i)), s)
      | none => none
    | _ => none
  | _ => none
def cMarshal (f : Facts) (K : Nat) : Contract := fun _ args s =>
  match args with
  | [.sc (.a (.ptr (some (n, 0))))] => match s.mem.get n with
    | some (.blk [.a (.ptr (some (tp, 0))), .a (.ptr (some (nn, 0))), .a ctx, .a (.ptr none)] _) =>
      match s.mem.get tp, s.mem.get nn with
      | some (.blk [.a (.int .i32 (.lit 0))] _), some (.blk [.a (.int .u64 (.var i))] _) =>
        match Nat.ble (i + 1) K && (match ctx with | .ms m j => Nat.beq i j && (match s.mem.get m with | some (.bytes (.var k)) => Nat.beq k j | _ => false) | .slice none _ _ => (match f.rng.get (500 + i) with | some (0, 0) => true | _ => false) | _ => false) with
        | true => match newO s (.bytes (.var (20 + i))) with
          | some (r, s) => some (.sc (.a (.slice (some (r, 0)) (.var (520 + i)) none)), s)
          | none => none
        | false => none
      | _, _ => none
    | _ => none
  | _ => none
def cUnmarshal (K : Nat) (tyI32 tyU64 : TypeId) : Contract := fun _ args s =>
  match args with
  | [.sc (.a (.ptr (some (n, 0)))), .sc (.a (.slice (some (b, 0)) (.var z) _))] => match s.mem.get b, s.mem.get n with
    | some (.bytes (.var j)), some (.blk [.a (.ptr none), .a (.ptr none), .a (.slice none _ _), .a (.ptr none)] e) =>
      match Nat.beq z (500 + j) && Nat.ble 20 j && Nat.ble (j + 1) (20 + K) && Nat.beq e 93 && Nat.beq tyI32 89 && Nat.beq tyU64 22 with
      | true => match newO s (.blk [.a (.int .i32 (.lit 0))] tyI32) with
        | some (a, s) => match newO s (.blk [.a (.int .u64 (.var (j - 20)))] tyU64) with
          | some (d, s) => mk (.sc .nilIface) (s.set n (.blk [.a (.ptr (some (a, 0))), .a (.ptr (some (d, 0))), .a .any, .a (.ptr none)] e))
          | none => none
        | none => none
      | false => none
    | _, _ => none
  | _ => none
def cClone1 (c : Cfg) : Contract := fun _ args s =>
  match (oneArg args).bind cellOf with
  | some m => match isNilMap m with
    | true => some (.sc (.a (.map none)), s)
    | false => match mapOf s m with
      | some es => match setOK c es with
        | true => match newO s (.mp es) with
          | some (n, s) => some (.sc (.a (.map (some n))), s)
          | none => none
        | false => none
      | none => none
  | none => none
def cIDs (c : Cfg) : Contract := fun _ args s =>
  match (oneArg args).bind cellsTwo with
  | some (a, b) => match mapOf s a, mapOf s b with
    | some x, some [] => match setOK c x with
      | true => match newO s (.mp x) with
        | some (n, s) => some (.sc (.a (.map (some n))), s)
        | none => none
      | false => none
    | _, _ => none
  | none => none
def idKeys : List (C × T1) → Nat → Bool
  | [], _ => true
  | (.a (.int .u64 (.var i)), _) :: es, k => Nat.beq i k && idKeys es (k + 1)
  | _, _ => false
def sortedC : Nat → Nat → Nat → List C
  | _, _, 0 => []
  | m, k, n + 1 => .a (.int .u64 (.var (100 + 16 * m + k))) :: sortedC m (k + 1) n
def idC : Nat → Nat → List C
  | _, 0 => []
  | k, n + 1 => .a (.int .u64 (.var k)) :: idC (k + 1) n
def cSlice (c : Cfg) : Contract := fun _ args s =>
  match (oneArg args).bind cellOf with
  | some m => match mapOf s m with
    | some x => match Nat.beq (len x) 0 with
      | true => some (nilSl, s)
      | false => match idKeys x 0 && setOK c x with
        | true => force (len x) fun n => match newO s (.row (sortedC n 0 n) 22) with
          | some (r, s) => some (.sc (.a (.slice (some (r, 0)) (.lit (.ofNat n)) none)), s)
          | none => none
        | false => none
    | none => none
  | none => none
def allIn (c : Cfg) (t : List (C × T1)) : List (C × T1) → Bool
  | [] => true
  | (k, _) :: es => match findMap c k t 0 with
    | some (some _) => allIn c t es
    | _ => false
def trkOf : V → Option Nat
  | .sc (.a (.map (some m))) => some m
  | _ => none
def cellsFive : V → Option (C × C × C × C × C)
  | .agg [a, b, c, d, e] => some (a, b, c, d, e)
  | _ => none
def isFalse : C → Bool
  | .a (.bool (.lit false)) => true
  | _ => false
def cCheckInv (c : Cfg) : Contract := fun _ args s =>
  match twoArgs args with
  | some (cfg, trk) => match cellsFive cfg, trkOf trk with
    | some (v0, v1, au, l0, l1), some m => match isNilMap v1 && isFalse au && isNilMap l0 && isNilMap l1 with
      | true => match mapOf s v0, mapOf s (.a (.map (some m))) with
        | some x, some t => match setOK c x && distinctK c t && allIn c t x with
          | true => some (.sc .nilIface, s)
          | false => none
        | _, _ => none
      | false => none
    | _, _ => none
  | none => none
def notIn (c : Cfg) (t : List (C × T1)) : List (C × T1) → Option Nat
  | [] => some 0
  | (k, _) :: es => match findMap c k t 0, notIn c t es with
    | some (some _), some n => some n
    | some none, some n => some (n + 1)
    | _, _ => none
def cSymdiff (c : Cfg) : Contract := fun _ args s =>
  match twoArgs args with
  | some (a, b) => match (cellOf a).bind (mapOf s), (cellOf b).bind (mapOf s) with
    | some x, some y => match setOK c x && setOK c y with
      | true => match notIn c y x, notIn c x y with
        | some n, some m => force (n + m) fun k => some (vint .i64 (.lit (.ofNat k)), s)
        | _, _ => none
      | false => none
    | _, _ => none
  | none => none
def isU64 : C → Bool
  | .a (.int .u64 _) => true
  | _ => false
def isBoolC : C → Bool
  | .a (.bool _) => true
  | _ => false
def isPtrC : C → Bool
  | .a (.ptr _) => true
  | _ => false
def isMapC : C → Bool
  | .a (.map _) => true
  | _ => false
def shape : List (C → Bool) → List C → Bool
  | [], [] => true
  | p :: ps, c :: cs => p c && shape ps cs
  | _, _ => false
def prShape : List (C → Bool) := [isU64, isU64, isU64, isU64, isU64, isBoolC, isBoolC, isPtrC, isBoolC]
def cfgShape : List (C → Bool) := [isMapC, isMapC, isBoolC, isMapC, isMapC]
def aggOf' : V → Option (List C)
  | .agg cs => some cs
  | _ => none
def ptrT : T1 → Option Nat
  | .sc (.a (.ptr (some (q, 0)))) => some q
  | _ => none
def blk310 : Option Obj → Option (List C)
  | some (.blk pc 310) => some pc
  | _ => none
def copyProgress : List (C × T1) → St → Option (List (C × T1) × St)
  | [], s => some ([], s)
  | p :: es, s => match ptrT p.2 with
    | some q => match blk310 (s.mem.get q) with
      | some pc => match shape prShape pc with
        | true => match newO s (.blk pc 310) with
          | some (n, s) => match copyProgress es s with
            | some (l, s) => some ((p.1, .sc (.a (.ptr (some (n, 0))))) :: l, s)
            | none => none
          | none => none
        | false => none
      | none => none
    | none => none
def resThree : V → Option (List C × C × C)
  | .tup [.agg cs, .sc a, .sc b] => some (cs, a, b)
  | _ => none
def blkOf : Option Obj → Option (List C)
  | some (.blk cs _) => some cs
  | _ => none
def cCheckAndCopy (c : Cfg) (clone chkRet : FuncId) : Contract := fun call args s =>
  match (oneArg args).bind aggOf' with
  | some cs => match Nat.beq (len cs) 10 with
    | true => match newO s (.blk cs 242) with
      | some (p, s) => match call clone [.sc (.a (.ptr (some (p, 0))))] s with
        | some (cfg, s) => match aggOf' cfg, blkOf (s.mem.get p) with
          | some cc, some cs' => match shape cfgShape cc, nth cs' 5 with
            | true, some pm => match mapOf s pm with
              | some es => match distinctK c es with
                | true => match copyProgress es s with
                  | some (out, s) => match newO s (.mp out) with
                    | some (m, s) => match call chkRet [.agg cc, .sc (.a (.map (some m)))] s with
                      | some (r, s) => match resThree r with
                        | some (rc, _, _) => match shape cfgShape rc with
                          | true => some (r, s)
                          | false => none
                        | none => none
                      | none => none
                    | none => none
                  | none => none
                | false => none
              | none => none
            | _, _ => none
          | _, _ => none
        | none => none
      | none => none
    | false => none
  | none => none
/-- a row's different numbers, in order -/
def cSet (c : Cfg) : Contract := fun _ args s =>
  match oneArg args with
  | some x => match cellsOfSlice s 22 1 x with
    | some cs => match Nat.beq (len cs) 0 with
      | true => some (nilSl, s)
      | false => match (beqCs cs (sortedC (len cs) 0 (len cs)) || beqCs cs (idC 0 (len cs))) && Nat.ble (len cs) 9 && distinctK c ((idC 0 (len cs)).map fun x => (x, .agg [])) with
        | true => force (len cs) fun n => match newO s (.row (sortedC n 0 n) 22) with
          | some (r, s) => some (.sc (.a (.slice (some (r, 0)) (.lit (.ofNat n)) none)), s)
          | none => none
        | false => none
    | none => none
  | none => none
/-- the k-th number that is drawn: 300 + k; how many were drawn ahead of it: 350 + k (if there are none to draw: 0) -/
def cIntn : Contract := fun _ args s => match args with
  | [.sc (.a (.ptr (some (r, 0)))), .sc (.a (.int .i64 (.var 21)))] => match s.mem.get r with
    | some (.blk cs e) => match dropR cs 38 with
      | .a (.ob 50) :: .a (.int .i64 k) :: _ => match (match k with | .lit 0 => some 0 | .var i => (match Nat.ble 351 i && Nat.ble i 399 with | true => some (i - 350) | false => none) | _ => none) with
        | some k => force (300 + k) fun v => force (351 + k) fun n => forceL (splice cs 39 [C.a (.int .i64 (.var n))]) fun l => match s.set r (.blk l e) with
          | some s => some (vint .i64 (.var v), s)
          | none => none
        | none => none
      | _ => none
    | _ => none
  | _ => none
def cGuarded (c : Cfg) : Contract := fun call args s =>
  match args with
  | [.sc (.func (.func g) first caps)] => match c.fn.get g, call g (first.map (fun a => V.sc (.a a)) ++ caps.map (fun a => V.sc (.a a))) s with
    | some _, some (_, s) => some (vbool (.lit false), s)
    | _, _ => none
  | _ => none
/-- an error's number: nil, or none of the package's -/
def cCallErr : Contract := fun _ args s =>
  match (oneArg args).bind cellOf with
  | some .nilIface => some (vint .i64 (.lit 0), s)
  | some (.iface 233 (.ptr _)) => some (vint .i64 (.lit 9), s)
  | _ => none
/-- a function from one of whose regions on several states of knowledge come to the same -/
def mapLen (s : St) : List V → Nat → Nat
  | [_, _, .sc (.a (.map (some m)))], d => match s.mem.get m with
    | some (.mp es) => match Nat.ble (len es) d with
      | true => len es
      | false => d
    | _ => d
  | _, d => d
def cFork (c : Cfg) (d : Nat) (cs : Nat → List Cfg) (lf k : Nat) (fn : Func) : Contract := fun call args s => match fn.body with
  | some body => match execS c (force (mapLen s args d) cs) call lf (Nat.max fn.ntmps (len args)) k body (tmOf args 0 .leaf) s with
    | some (.exit _, _, _) | none => none
    | some (_, t, s) => match resultsV c t s fn.results.toList with
      | some [v] => some (v.toV, s)
      | some vs => some (.tup vs, s)
      | none => none
  | none => none

/-! ### a test that nothing decides: whether there is a context i -/
def emptyStr (f : Facts) (j : Nat) : Bool := match f.rng.get (500 + j) with
  | some (l, h) => decide (l = 0) && decide (h = 0)
  | none => false
/-- what is told of x2 by x1, if string j is empty; the names of m are there -/
def weakC (f : Facts) (m : PT Obj) (x1 x2 : C) : Bool :=
  x1.beq x2 || (match x1, x2 with
    | .a (.ms n j), .a (.slice none (.lit 0) (some (.lit 0))) => emptyStr f j && (match m.get n with | some _ => true | none => false)
    | _, _ => false)
def weakCs (f : Facts) (m : PT Obj) : List C → List C → Bool
  | [], [] => true
  | a :: as, b :: bs => weakC f m a b && weakCs f m as bs
  | _, _ => false
def weakO (f : Facts) (m : PT Obj) : Obj → Obj → Bool
  | .blk l e, .blk k d => Nat.beq e d && weakCs f m l k
  | x, y => Obj.beq x y
def weakV (f : Facts) (m : PT Obj) : Option Obj → Option Obj → Bool
  | none, none => true
  | some x, some y => weakO f m x y
  | some (.bytes (.var j)), none => emptyStr f j
  | _, _ => false
def weakM (f : Facts) (m : PT Obj) : PT Obj → PT Obj → Bool
  | .leaf, .leaf => true
  | .node l v r, .leaf => weakV f m v none && weakM f m l .leaf && weakM f m r .leaf
  | .node l v r, .node l' v' r' => weakV f m v v' && weakM f m l l' && weakM f m r r'
  | _, _ => false
/-- a value that both sides bear -/
def softV (f : Facts) : V → V → Option V
  | .sc (.a (.str (.var j))), .sc (.a (.str (.lit []))) => match emptyStr f j with
    | true => some (.sc (.a (.str (.var j))))
    | false => none
  | x, y => match V.beq x y with
    | true => some x
    | false => none
def softT (f : Facts) : Tm → Tm → Tm
  | .node l v r, .node l' v' r' => .node (softT f l l') (match v, v' with | some x, some y => softV f x y | _, _ => none) (softT f r r')
  | _, _ => .leaf
def strN : Nat → Nat → List C
  | _, 0 => []
  | k, n + 1 => .a (.str (.var k)) :: strN (k + 1) n
/-- facts of the case that there is a context i (if there are h at the most), and of the other one -/
def factsIn (f : Facts) (i : Nat) (h : Int) : Facts := { f with rng := f.rng.put 62 (.ofNat (i + 1), h) }
def factsOut (f : Facts) (i : Nat) (l : Int) : Facts := { f with rng := (f.rng.put 62 (l, .ofNat i)).put (500 + i) (0, 0) }
def testOf : V → Option Nat
  | .sc (.a (.bool (.cmp .lss (.lit (.ofNat i)) (.var 62)))) => match Nat.ble i 8 with
    | true => some i
    | false => none
  | _ => none
def isNormal : X → Bool
  | .normal => true
  | _ => false
def soft (c : Cfg) (call : CallF) (lf nt : Nat) (a b : Code) (t : Tm) (s : St) (v : V) : Option (X × Tm × St) :=
  match testOf v, c.facts.rng.get 62, s.mem.get 2 with
  | some i, some (l, h), some (.ro [] e) =>
    match execC { c with facts := factsIn c.facts i h } call lf nt a t ⟨s.mem.put 2 (.ro (strN 0 (i + 1)) e), s.ctr⟩ with
    | some (x1, t1, s1) => match execC { c with facts := factsOut c.facts i l } call lf nt b t s with
      | some (x2, t2, s2) => match s1.mem.get 2 with
        | some (.ro _ e') => match isNormal x1 && isNormal x2 && Nat.beq e e' with
          | true => match weakM (factsOut c.facts i l) (s1.mem.put 2 (.ro [] e)) (s1.mem.put 2 (.ro [] e)) s2.mem with
            | true => some (.normal, softT (factsOut c.facts i l) t1 t2, ⟨s1.mem.put 2 (.ro [] e), s1.ctr⟩)
            | false => none
          | false => none
        | _ => none
      | none => none
    | none => none
  | _, _, _ => none
def onTestJ (c : Cfg) (call : CallF) (lf nt : Nat) (a b : Code) (x y : Ex) (t : Tm) (s : St) : Option V → Option (X × Tm × St)
  | some v => match knownB c v with
    | some true => x t s
    | some false => y t s
    | none => soft c call lf nt a b t s v
  | none => none
def execJImpl (c : Cfg) (call : CallF) (lf nt : Nat) : Code → Ex
  | .skip => fun t s => some (.normal, t, s)
  | .region _ ops dr => fun t s => runRegion c call nt ops.toList dr t s
  | .seq a b => fun t s => thenX (execJImpl c call lf nt b) (execJImpl c call lf nt a t s)
  | .cond q a b => fun t s => onTestJ c call lf nt a b (execJImpl c call lf nt a) (execJImpl c call lf nt b) t s (ev t q)
  | .block id b => fun t s => outOf id (execJImpl c call lf nt b t s)
  | .loop b => fun t s => iter (execJImpl c call lf nt b) lf t s
  | .exit id => fun t s => some (.exit id, t, s)
  | .ret => fun t s => some (.ret, t, s)
  | _ => fun _ _ => none
def execJ (c : Cfg) (call : CallF) (lf nt : Nat) (code : Code) : Ex :=
  @Code.rec (fun _ => Ex) (fun t s => some (.normal, t, s)) (fun _ ops dr t s => runRegion c call nt ops.toList dr t s)
    (fun _ _ ia ib t s => thenX ib (ia t s)) (fun q a b ia ib t s => onTestJ c call lf nt a b ia ib t s (ev t q)) (fun id _ ib t s => outOf id (ib t s))
    (fun _ ib t s => iter ib lf t s) (fun _ _ _ _ _ _ _ _ => none) (fun id t s => some (.exit id, t, s)) (fun _ _ _ _ => none) (fun _ _ _ => none) (fun _ _ _ => none)
    (fun t s => some (.ret, t, s)) (fun _ _ _ => none) code
/-- a function in which such tests stand -/
def cSoft (c : Cfg) (lf : Nat) (fn : Func) : Contract := fun call args s => match fn.body with
  | some body => match execJ c call lf (Nat.max fn.ntmps (len args)) body (tmOf args 0 .leaf) s with
    | some (.exit _, _, _) | none => none
    | some (_, t, s) => match resultsV c t s fn.results.toList with
      | some [v] => some (v.toV, s)
      | some vs => some (.tup vs, s)
      | none => none
  | none => none
end Go.Sx
end
/-
  FnBoot's classes of inputs, and its run.
-/
noncomputable section
namespace Go.Sx
set_option linter.unusedVariables false

def big : Int := 1099511627776
def maxI : Int := 9223372036854775807
/-- a class of inputs -/
structure Cls where
  /-- peers, contexts; as many of each are listed -/
  pv : V
  cv : V
  np : Nat
  nc : Nat
  /-- MaxUncommitted -/
  mu : E
  /-- so many peers and contexts are right -/
  K : Nat
  /-- 0: the guards; 1: the entries; 2: all -/
  lvl : Nat
  /-- so many ids are different -/
  dist : Nat
  rng : List (Nat × (Int × Int))
  bools : List (Nat × Bool)

def factsOf (k : Cls) : Facts :=
  { rng := PT.ofList k.rng, cls := PT.ofList ((List.range k.dist).map fun i => (i, 0)), bools := PT.ofList k.bools, cmps := if k.lvl = 2 then [(.leq, 21, 22, false)] else [] }
/-- the node's own number: peer j's, or nobody's -/
def selfCmps (n : Nat) (j : Option Nat) : List (BinOp × Nat × Nat × Bool) :=
  (List.range n).flatMap fun i => [(.eql, 20, i, j == some i), (.eql, i, 20, j == some i)]
def cfgOf (ty : PT TI) (fn : PT Func) (k : Cls) : Cfg := { ty, fn, facts := factsOf k }
def factsSelf (k : Cls) (n : Nat) (j : Option Nat) : Facts := { factsOf k with cmps := (.leq, 21, 22, false) :: selfCmps n j }
def cfgSelf (ty : PT TI) (fn : PT Func) (k : Cls) (n : Nat) (j : Option Nat) : Cfg := { ty, fn, facts := factsSelf k n j }
def selves (n : Nat) : List (Option Nat) := none :: (List.range n).map some

def sl (m : Nat) (k : E) : C := .a (.slice (some (m, 0)) k none)
def nils : C := .a (.slice none (.lit 0) (some (.lit 0)))
def bv (i : Nat) : C := .a (.bool (.var i))
def uv (i : Nat) : C := .a (.int .u64 (.var i))
def ov (i : Nat) : C := .a (.ob i)
def sArg (mu : E) : V := .agg [uv 20, .a (.int .i64 (.var 21)), .a (.int .i64 (.var 22)), ov 50, bv 0, bv 1, bv 2, bv 3, bv 4, uv 23, uv 24, .a (.int .u64 mu), .a (.int .i64 (.var 25)),
  ov 51, ov 52, ov 53, ov 54, ov 55, ov 56, ov 57, ov 58, ov 59, ov 60, ov 61, ov 62, ov 63]
def idCs (n : Nat) : List C := idC 0 n
def strCs (n : Nat) : List C := (List.range n).map fun i => C.a (.str (.var i))
def usesName (m : Nat) : V → Bool
  | .sc (.a (.slice (some (j, _)) _ _)) => Nat.beq j m
  | _ => false
def mem0 (k : Cls) : PT Obj :=
  let m := if usesName 1 k.pv then PT.leaf.put 1 (.ro (idCs k.np) 22) else .leaf
  if usesName 2 k.cv then m.put 2 (.ro (strCs k.nc) 9) else m

/-- a set-up, as FnBoot turns it -/
def setupAt (mu : E) (r : Nat) (cp : Option E) : List C := [uv 20, .a (.int .i64 (.var 21)), .a (.int .i64 (.var 22)), ov 50, bv 0, bv 1, bv 2, bv 3, bv 4, uv 23, uv 24, .a (.int .u64 mu), .a (.int .i64 (.var 25)),
  .a (.str (.lit [])), .a (.int .u64 (.lit 1)), .a (.int .u64 (.lit 1)), .a (.slice (some (r, 0)) (.lit 1) cp), nils, nils, nils, .a (.bool (.lit false)), nils, .a (.int .u64 (.lit 1)), .a (.int .u64 (.lit 0)), .a (.int .u64 (.lit 1)), .a (.int .u64 (.lit 0))]
def slOf : C → Option (Nat × Option E)
  | .a (.slice (some (r, 0)) (.lit 1) cp) => some (r, cp)
  | _ => none
def oneRow : Option Obj → Bool
  | some (.row (.a (.int .u64 (.lit 1)) :: _) _) => true
  | _ => false
def cReady (mu : E) : Contract := fun _ args s =>
  match (oneArg args).bind aggOf' with
  | some cs => match (nth cs 16).bind slOf with
    | some (r, cp) => match oneRow (s.mem.get r) && beqCs cs (setupAt mu r cp) with
      | true => some (vbool (.var 42), s)
      | false => none
    | none => none
  | none => none

def conOf (ty : PT TI) (fn : PT Func) (k : Cls) : FuncId → Option Contract
  | 3 => if k.lvl = 2 ∧ usesName 2 k.cv then (match fn.get 3 with
    | some f => some (cSoft (cfgOf ty fn k) 100 f)
    | none => none) else none
  | 34 => if k.lvl = 2 ∧ usesName 2 k.cv then (match fn.get 34 with
    | some f => some (cSoft (cfgOf ty fn k) 100 f)
    | none => none) else none
  | 5 => some (cBool [sArg k.mu] 40)
  | 6 => some (cBool [k.cv] 41)
  | 7 => some (cReady k.mu)
  | 8 => some (cBool [k.pv] 43)
  | 27 => if 1 ≤ k.lvl then some cBytesOf else none
  | 47 => if 1 ≤ k.lvl then some (cMarshal (factsOf k) k.K) else none
  | 31 => if k.lvl = 2 then some (cGuarded (cfgOf ty fn k)) else none
  | 36 => if k.lvl = 2 then some cCallErr else none
  | 81 => if k.lvl = 2 then some (cSet (cfgOf ty fn k)) else none
  | 110 => if k.lvl = 2 then (match fn.get 110 with
    | some f => some (cFork (cfgOf ty fn k) k.np (fun n => (selves n).map (cfgSelf ty fn k n)) 100 4 f)
    | none => none) else none
  | 130 => if k.lvl = 2 then some (cUnmarshal k.K 89 22) else none
  | 173 => if k.lvl = 2 then some (cCheckAndCopy (cfgOf ty fn k) 271 180) else none
  | 182 => if k.lvl = 2 then some (cSymdiff (cfgOf ty fn k)) else none
  | 188 => if k.lvl = 2 then some (cIDs (cfgOf ty fn k)) else none
  | 268 => if k.lvl = 2 then some cIntn else none
  | 272 => if k.lvl = 2 then some (cCheckInv (cfgOf ty fn k)) else none
  | 278 => if k.lvl = 2 then some (cSlice (cfgOf ty fn k)) else none
  | 324 => if k.lvl = 2 then some (cClone1 (cfgOf ty fn k)) else none
  | _ => none
def runBoot (ty : PT TI) (fn : PT Func) (k : Cls) : Option V := (callN (cfgOf ty fn k) 100 (conOf ty fn k) 40 3 [sArg k.mu, k.pv, k.cv] { mem := mem0 k, ctr := 100 }).map (·.1)
def isTrue : Option V → Bool
  | some (.sc (.a (.bool (.lit true)))) => true
  | _ => false

/-! ### the classes -/
def pVar : V := .sc (sl 1 (.var 63))
def cVar : V := .sc (sl 2 (.var 62))
def nilV : V := .sc nils
def bo (n : Nat) : List (Nat × Bool) := (List.range n).map fun i => (40 + i, true)
/-- a guard of sizes says no -/
def kG1 : Cls := ⟨.sc (ov 64), .sc (ov 65), 0, 0, .var 26, 0, 0, 0, [], [(40, false)]⟩
def kG2 : Cls := ⟨pVar, .sc (ov 65), 0, 0, .var 26, 0, 0, 0, [(63, (2147483648, maxI))], bo 1⟩
def pAny (b : Bool) : V := if b then pVar else nilV
def kG3 (b : Bool) : Cls := ⟨pAny b, .sc (ov 65), 0, 0, .var 26, 0, 0, 0, [(63, (0, 2147483647))], (41, false) :: bo 1⟩
def kG4 (b : Bool) : Cls := ⟨pAny b, .sc (ov 65), 0, 0, .var 26, 0, 0, 0, [(63, (0, 2147483647))], (42, false) :: bo 2⟩
def kG5 : Cls := ⟨pVar, .sc (ov 65), 0, 0, .var 26, 0, 0, 0, [(63, (10, 2147483647))], bo 3⟩
def kG6 : Cls := ⟨pVar, .sc (ov 65), 0, 0, .var 26, 0, 0, 0, [(63, (0, 9))], (43, false) :: bo 3⟩
def kG7 (b : Bool) : Cls := ⟨pAny b, cVar, 0, 0, .var 26, 0, 0, 0, [(63, (0, 9)), (62, (10, maxI))], bo 4⟩
def goodIds (n : Nat) : List (Nat × (Int × Int)) := (List.range n).map fun i => (i, ((1 : Int), big - 1))
def ctxLens (n u : Nat) : List (Nat × (Int × Int)) := (List.range n).map fun i => (500 + i, ((0 : Int), if i < u then 100 else 0))
def datLens (n : Nat) : List (Nat × (Int × Int)) := (List.range n).map fun i => (520 + i, ((1 : Int), 120))
/-- contexts: nil, or not -/
def cAny (b : Bool) : V := if b then cVar else nilV
/-- peer i is none that can be -/
def kB1 (i : Nat) (b : Bool) (low : Bool) : Cls := ⟨pVar, cAny b, i + 1, 0, .var 26, i, if b then 2 else 1, 0,
  (i, if low then ((0 : Int), (0 : Int)) else (big, 18446744073709551615)) :: (63, ((i : Int) + 1, 9)) :: (62, (0, 9)) :: goodIds i ++ ctxLens i (if b then i else 0) ++ datLens i, bo 4⟩
/-- context i is too long -/
def kB2 (i : Nat) : Cls := ⟨pVar, cVar, i + 1, i + 1, .var 26, i, 2, 0,
  (500 + i, (101, maxI)) :: (63, ((i : Int) + 1, 9)) :: (62, ((i : Int) + 1, 9)) :: goodIds (i + 1) ++ ctxLens i i ++ datLens i, bo 4⟩
def kM (n : Nat) (b : Bool) (lease : Bool) (pn : Bool) : Cls := ⟨if pn then nilV else .sc (sl 1 (.lit n)), cAny b, n, 0, .lit 0, n, 2, n,
  [(20, (1, big - 1)), (21, (2, 30)), (22, (1, 29)), (23, (1048576, kmax .u64)), (24, (1048576, kmax .u64)), (25, (1, 100)), (62, ((0 : Int), 9))] ++ goodIds n ++ ctxLens n (if b then n else 0) ++ datLens n
    ++ (List.range 20).map fun i => (300 + i, ((0 : Int), 29)),
  (2, lease) :: (bo 4 ++ if lease then [(1, true)] else [])⟩
/-- (of several runs in one) -/
theorem and2 {a b : Bool} (h : (a && b) = true) : a = true ∧ b = true := by cases a <;> cases b <;> simp_all
end Go.Sx
end
