import PyProof.Rows.All
import Wide.All
import OpenK.AllK
import Wide.FinOn
import Lean
import PySem.Challenge.RW_de5024_01
set_option Elab.async false
set_option maxRecDepth 100000
namespace Mine
noncomputable section
open PySem

/-! plain combinators, by the recursors: quick for the kernel -/
def ob {α β : Type} (r : Option α) (k : α → Option β) : Option β := Option.rec (motive := fun _ => Option β) none k r
def bnd {σ α β : Type} (r : Option (α × σ)) (k : α → σ → Option β) : Option β :=
  Option.rec (motive := fun _ => Option β) none (fun p => Prod.rec (motive := fun _ => Option β) k p) r
def br {α : Type} (b : Bool) (x y : α) : α := Bool.rec (motive := fun _ => α) y x b
def lk {α : Type} (l : List (Nat × α)) (x : Nat) : Option α :=
  List.rec (motive := fun _ => Option α) none (fun p _ ih => Prod.rec (motive := fun _ => Option α) (fun k v => br (Nat.beq k x) (some v) ih) p) l
def up {α : Type} (x : Nat) (v : α) (l : List (Nat × α)) : List (Nat × α) :=
  List.rec (motive := fun _ => List (Nat × α)) [(x, v)] (fun p r ih => Prod.rec (motive := fun _ => List (Nat × α)) (fun k u => br (Nat.beq k x) ((k, v) :: r) ((k, u) :: ih)) p) l

/-- a sparse binary trie -/
inductive Tr (α : Type) where
  | nil
  | node (v : Option α) (l r : Tr α)
namespace Tr
def get {α : Type} (t : Tr α) : Nat → Option α :=
  Tr.rec (motive := fun _ => Nat → Option α) (fun _ => none)
    (fun v _ _ gl gr i => Bool.rec (motive := fun _ => Option α)
      (Bool.rec (motive := fun _ => Option α) (gr (Nat.sub (Nat.div i 2) 1)) (gl (Nat.div i 2)) (Nat.beq (Nat.mod i 2) 1)) v (Nat.beq i 0)) t
def put {α : Type} (x : α) (n : Nat) : Nat → Tr α :=
  Nat.rec (motive := fun _ => Nat → Tr α) (fun _ => .nil)
    (fun _ p i => Bool.rec (motive := fun _ => Tr α)
      (Bool.rec (motive := fun _ => Tr α) (.node none .nil (p (Nat.sub (Nat.div i 2) 1))) (.node none (p (Nat.div i 2)) .nil) (Nat.beq (Nat.mod i 2) 1)) (.node (some x) .nil .nil) (Nat.beq i 0)) n
def set {α : Type} (n : Nat) (t : Tr α) (i : Nat) (x : α) : Tr α :=
  Tr.rec (motive := fun _ => Nat → Tr α) (fun i => put x n i)
    (fun v l r sl sr i => Bool.rec (motive := fun _ => Tr α)
      (Bool.rec (motive := fun _ => Tr α) (.node v l (sr (Nat.sub (Nat.div i 2) 1))) (.node v (sl (Nat.div i 2)) r) (Nat.beq (Nat.mod i 2) 1)) (.node (some x) l r) (Nat.beq i 0)) t i
end Tr

/-- symbolic ints: the script's numbers -/
inductive SE where
  | c (i : Int)
  | at (k : Nat)
  | res (k : Nat)
  | add (a b : SE)
  | sub (a b : SE)
  | mul (a b : SE)

/-- abstract values -/
inductive AV where
  | none
  | bool (b : Bool)
  | int (i : Int)
  | sym (e : SE)
  | slen
  | str (x : Nat)
  | ref (i : Nat)
  | st (a : Nat)
  | bi (x : Nat)
  | ty (x : Nat)

/-- abstract objects -/
inductive AO where
  | list (xs : List AV)
  | tup (xs : List AV)
  | dict (es : List (Int × AV))
  | fdict (es : List (Int × AV))
  | ns (es : List (Nat × AV))
  | inst (cls : Nat) (d : Nat)
  | dom (d : Nat) (xs : List AV)
  | lit (l i : Nat)
  | tit (xs : List AV) (i : Nat)
  | kit (d : Nat) (es : List (Int × AV)) (i : Nat)
  | vals (d : Nat)
  | vit (d : Nat) (es : List (Int × AV)) (i : Nat)
  | rng (n : Nat)
  | rit (i n : Nat)
  | dead

/-- a frame: locals, cells, the locals of the comprehension that runs in it -/
structure FM where
  lo : List (Nat × AV)
  ce : List (Nat × Option AV)
  co : List (Nat × AV)

structure AS where
  t : Tr AO
  m : Nat
  g : Nat
  f : FM
  fs : List FM

def AS.get (σ : AS) (i : Nat) : Option AO := σ.t.get i
def AS.set (σ : AS) (i : Nat) (o : AO) : AS := ⟨σ.t.set 20 i o, σ.m, σ.g, σ.f, σ.fs⟩
def AS.new (σ : AS) (o : AO) : AS := ⟨σ.t.set 20 σ.m o, Nat.succ σ.m, σ.g, σ.f, σ.fs⟩
def AS.put (σ : AS) (f : FM) : AS := ⟨σ.t, σ.m, σ.g, f, σ.fs⟩
def AS.push (σ : AS) (f : FM) : AS := ⟨σ.t, σ.m, σ.g, f, σ.f :: σ.fs⟩
def AS.pop (σ : AS) : Option AS := List.rec (motive := fun _ => Option AS) none (fun f r _ => some ⟨σ.t, σ.m, σ.g, f, r⟩) σ.fs
def AS.gen (σ : AS) (g : Nat) : AS := ⟨σ.t, σ.m, g, σ.f, σ.fs⟩

inductive BOp where | add | sub | mul | mod | shr | band
inductive COp where | eq | ne | lt | is | isnot | isin | notin

/-- expressions, as this program uses them -/
inductive FE where
  | cNone (k : Nat) (p : Pos)
  | cBool (b : Bool) (k : Nat) (p : Pos)
  | cInt (i : Int) (k : Nat) (p : Pos)
  | cStr (x : Nat) (k : Nat) (p : Pos)
  | loc (x : Nat) (p : Pos)
  | cel (x : Nat) (p : Pos)
  | glo (x : Nat) (p : Pos)
  | bui (x : Nat) (p : Pos)
  | attr (o : FE) (x : Nat) (p : Pos)
  | call (f : FE) (args : List FE) (p : Pos)
  | meth (o : FE) (x : Nat) (ap : Pos) (args : List FE) (p : Pos)
  | methS (o : FE) (x : Nat) (ap : Pos) (arg : FE) (sp : Pos) (p : Pos)
  | cmp (l : FE) (op : COp) (r : FE) (p : Pos)
  | bop (and : Bool) (vs : List FE) (p : Pos)
  | not (x : FE) (p : Pos)
  | neg (x : FE) (p : Pos)
  | bin (l : FE) (op : BOp) (r : FE) (p : Pos)
  | sub (o i : FE) (p : Pos)
  | slc (o : FE) (lo : Option FE) (sp : Pos) (p : Pos)
  | list (xs : List FE) (p : Pos)
  | tup (xs : List FE) (k : Nat) (p : Pos)
  | dict0 (p : Pos)
  | comp (elt : FE) (gens : List (Nat × Pos × FE × List FE)) (sc : Nat) (p : Pos)
  | ite (t a b : FE) (p : Pos)
  | opq (e : PySem.Expr)

inductive FS where
  | asg (x : Nat) (xp : Pos) (cl : Bool) (v : FE) (p : Pos)
  | asgT (xs : List (Nat × Pos × Bool)) (k : Nat) (tp : Pos) (v : FE) (p : Pos)
  | asg2 (x y : Nat) (xp yp : Pos) (k : Nat) (tp : Pos) (v w : FE) (k' : Nat) (vp : Pos) (p : Pos)
  | asgS (o i : FE) (tp : Pos) (v : FE) (p : Pos)
  | expr (e : FE) (p : Pos)
  | iff (t : FE) (a b : List FS) (p : Pos)
  | forN (x : Nat) (xp : Pos) (cl : Bool) (it : FE) (body els : List FS) (p : Pos)
  | forT (xs : List (Nat × Pos × Bool)) (k : Nat) (tp : Pos) (it : FE) (body els : List FS) (p : Pos)
  | whl (t : FE) (body els : List FS) (p : Pos)
  | ret (e : FE) (p : Pos)
  | retN (p : Pos)
  | brk (p : Pos)
  | delI (o i : FE) (tp p : Pos)
  | delS (o : FE) (lo : Option FE) (sp tp p : Pos)
  | yld (e : FE) (yp p : Pos)
  | opq (s : PySem.Stmt)

end
end Mine
set_option maxRecDepth 100000
namespace Mine
noncomputable section
open PySem

structure FC where
  mask : Nat
  ln : Nat

inductive Fl where
  | next | brk | ret (v : AV)

structure FnI where
  params : List Nat
  dfl : List AV
  cells : List Nat
  body : List FS
  sc : Nat

def lkI {α : Type} (x : Int) : List (Int × α) → Option α
  | [] => none
  | (k, v) :: r => br (decide (k = x)) (some v) (lkI x r)
def hasI {α : Type} (x : Int) : List (Int × α) → Bool
  | [] => false
  | (k, _) :: r => br (decide (k = x)) true (hasI x r)
def repI {α : Type} (x : Int) (v : α) : List (Int × α) → List (Int × α)
  | [] => []
  | (k, u) :: r => br (decide (k = x)) ((k, v) :: repI x v r) ((k, u) :: repI x v r)
def upI {α : Type} (x : Int) (v : α) (l : List (Int × α)) : List (Int × α) := br (hasI x l) (repI x v l) (l ++ [(x, v)])
def dropI {α : Type} (x : Int) : List (Int × α) → List (Int × α)
  | [] => []
  | (k, u) :: r => br (decide (k = x)) (dropI x r) ((k, u) :: dropI x r)

abbrev Res (α : Type) := Option (α × AS)
structure IP where
  ev : FE → Bool → AS → Res AV
  tt : FE → Bool → AS → Res Bool
  exs : List FS → AS → Res Fl
  lp : List (Nat × Bool) → Bool → Nat → List FS → AS → Res Fl
  wh : FE → List FS → List FS → AS → Res Fl
  cl : FE → List (Nat × Pos × FE × List FE) → Nat → Nat → AS → Option AS
  call : AV → List AV → AS → Res AV

def IP.bot : IP := ⟨fun _ _ _ => none, fun _ _ _ => none, fun _ _ => none, fun _ _ _ _ _ => none, fun _ _ _ _ => none, fun _ _ _ _ _ => none, fun _ _ _ => none⟩

def ret {α : Type} (v : α) (σ : AS) : Res α := some (v, σ)

def evs (I : IP) (c : Bool) : List FE → AS → Res (List AV)
  | [], σ => ret [] σ
  | e :: r, σ => bnd (I.ev e c σ) fun v σ => bnd (evs I c r σ) fun vs σ => ret (v :: vs) σ

/-- names: locals, the comprehension's, cells -/
def getN (c : Bool) (x : Nat) (σ : AS) : Option AV := br c (lk σ.f.co x) (lk σ.f.lo x)
def setL (x : Nat) (v : AV) (σ : AS) : Option AS := some (σ.put ⟨up x v σ.f.lo, σ.f.ce, σ.f.co⟩)
def setC (x : Nat) (v : AV) (σ : AS) : Option AS := ob (lk σ.f.ce x) fun _ => some (σ.put ⟨σ.f.lo, up x (some v) σ.f.ce, σ.f.co⟩)
def setK (x : Nat) (v : AV) (σ : AS) : AS := σ.put ⟨σ.f.lo, σ.f.ce, up x v σ.f.co⟩
def storeN (x : Nat) (cl : Bool) (v : AV) (σ : AS) : Option AS := br cl (setC x v σ) (setL x v σ)
def storeAll : List (Nat × Bool) → List AV → AS → Option AS
  | [], [], σ => some σ
  | (x, cl) :: xs, v :: vs, σ => ob (storeN x cl v σ) fun σ => storeAll xs vs σ
  | _, _, _ => none

def stTup (a : Nat) : Option (List AV) := lk [
  (393, [.int 14, .int 1002, .int 999, .int 1003, .int 1001, .int 998, .int 1002]),
  (400, [.st 394, .st 395, .st 396, .st 397, .st 398, .st 399]),
  (394, [.int 0, .int 1]), (395, [.int 0, .int 2]), (396, [.int 0, .int 3]), (397, [.int 1, .int 2]), (398, [.int 1, .int 3]), (399, [.int 2, .int 3])] a

/-! what an object is -/
def asList : AO → Option (List AV)
  | .list xs => some xs
  | _ => none
def asTup : AO → Option (List AV)
  | .tup xs => some xs
  | _ => none
def asSeq : AO → Option (List AV)
  | .list xs => some xs
  | .dom _ xs => some xs
  | _ => none
def asD : AO → Option (List (Int × AV))
  | .dict es => some es
  | _ => none
def asNs : AO → Option (List (Nat × AV))
  | .ns es => some es
  | _ => none
def asInst : AO → Option (Nat × Nat)
  | .inst c d => some (c, d)
  | _ => none
def inL (x : Nat) : List Nat → Bool
  | [] => false
  | y :: r => br (Nat.beq y x) true (inL x r)
def dOf : AO → Option Nat
  | .inst c d => br (inL c [186, 336, 110, 390, 356]) (some d) none
  | .dom d _ => some d
  | _ => none
def listAt (σ : AS) (i : Nat) : Option (List AV) := ob (σ.get i) asList
def tupAt (σ : AS) (i : Nat) : Option (List AV) := ob (σ.get i) asTup
def seqAt (σ : AS) (i : Nat) : Option (List AV) := ob (σ.get i) asSeq
def dictAt (σ : AS) (i : Nat) : Option (List (Int × AV)) := ob (σ.get i) asD
def nsAt (σ : AS) (i : Nat) : Option (List (Nat × AV)) := ob (σ.get i) asNs
def instAt (σ : AS) (i : Nat) : Option (Nat × Nat) := ob (σ.get i) asInst
/-! what a value is -/
def isRef : AV → Option Nat
  | .ref i => some i
  | _ => none
def isInt : AV → Option Int
  | .int i => some i
  | _ => none
def isNat : AV → Option Nat
  | .int (.ofNat i) => some i
  | _ => none
def isSt : AV → Option Nat
  | .st i => some i
  | _ => none
def one {α : Type} : List α → Option α
  | [v] => some v
  | _ => none
def two {α : Type} : List α → Option (α × α)
  | [v, w] => some (v, w)
  | _ => none
/-- room for one more -/
def sm {α : Type} (l : List α) : Bool := Nat.blt l.length 1000
def nul {α : Type} (l : List α) : Bool := List.rec (motive := fun _ => Bool) true (fun _ _ _ => false) l

def truthyOb : AO → Option Bool
  | .list xs => some (!nul xs)
  | .dom _ xs => some (!nul xs)
  | .dict es => some (!nul es)
  | .fdict es => some (!nul es)
  | _ => none
def truthy : AV → AS → Option Bool
  | .none => fun _ => some false
  | .bool b => fun _ => some b
  | .int i => fun _ => some (!decide (i = 0))
  | .ref i => fun σ => ob (σ.get i) truthyOb
  | _ => fun _ => none

def newIt (o : AO) (σ : AS) : Res Nat := ret σ.m (σ.new o)
def iterVals (d : Nat) : AO → AS → Res Nat
  | .dict es => fun σ => newIt (.vit d es 0) (σ.set d (.fdict es))
  | .fdict es => newIt (.vit d es 0)
  | _ => fun _ => none
def iterOb : AO → Nat → AS → Res Nat
  | .list _ => fun i => newIt (.lit i 0)
  | .tup xs => fun _ => newIt (.tit xs 0)
  | .dict es => fun i σ => newIt (.kit i es 0) (σ.set i (.fdict es))
  | .fdict es => fun i => newIt (.kit i es 0)
  | .vals d => fun _ σ => ob (σ.get d) fun o => iterVals d o σ
  | .rng n => fun _ => newIt (.rit 0 n)
  | _ => fun _ _ => none
def pyIter : AV → AS → Res Nat
  | .st a => fun σ => ob (stTup a) fun xs => newIt (.tit xs 0) σ
  | .ref i => fun σ => ob (σ.get i) fun o => iterOb o i σ
  | _ => fun _ => none

def opt {α β : Type} (x : Option α) (k : α → β) (d : β) : β := Option.rec (motive := fun _ => β) d k x
/-- the item, the iterator's next look; or the end -/
def turn (x : Option AV) (j : Nat) (o : AO) (σ : AS) : Res (Option AV) := opt x (fun v => ret (some v) (σ.set j o)) (ret none (σ.set j .dead))
def nextLit (l i j : Nat) (σ : AS) : Res (Option AV) := ob (listAt σ l) fun xs => turn xs[i]? j (.lit l (Nat.succ i)) σ
def nextTit (xs : List AV) (i j : Nat) (σ : AS) : Res (Option AV) := turn xs[i]? j (.tit xs (Nat.succ i)) σ
def nextKit (d : Nat) (es : List (Int × AV)) (i j : Nat) (σ : AS) : Res (Option AV) := turn (ob es[i]? fun p => some (.int p.1)) j (.kit d es (Nat.succ i)) σ
def nextVit (d : Nat) (es : List (Int × AV)) (i j : Nat) (σ : AS) : Res (Option AV) := turn (ob es[i]? fun p => some p.2) j (.vit d es (Nat.succ i)) σ
def nextRit (i n j : Nat) (σ : AS) : Res (Option AV) := turn (br (Nat.blt i n) (some (.int (Int.ofNat i))) none) j (.rit (Nat.succ i) n) σ
def nextOb : AO → Nat → AS → Res (Option AV)
  | .lit l i => nextLit l i
  | .tit xs i => nextTit xs i
  | .kit d es i => nextKit d es i
  | .vit d es i => nextVit d es i
  | .rit i n => nextRit i n
  | _ => fun _ _ => none
def next (j : Nat) (σ : AS) : Res (Option AV) := ob (σ.get j) fun o => nextOb o j σ

def se : AV → Option SE
  | .int i => some (.c i)
  | .sym e => some e
  | _ => none

/-- multilinear polynomials: lo + x_n * hi, the letters inside greater than n -/
inductive ML where
  | k (i : Int)
  | v (n : Nat) (lo hi : ML)
def ML.isZero : ML → Bool
  | .k i => decide (i = 0)
  | .v .. => false
def ML.mk (n : Nat) (lo hi : ML) : ML := br hi.isZero lo (.v n lo hi)
def ML.add : Nat → ML → ML → Option ML
  | 0, _, _ => none
  | _ + 1, .k i, .k j => some (.k (i + j))
  | f + 1, .k i, .v n lo hi => ob (ML.add f (.k i) lo) fun l => some (.v n l hi)
  | f + 1, .v n lo hi, .k i => ob (ML.add f lo (.k i)) fun l => some (.v n l hi)
  | f + 1, .v n lo hi, .v m lo' hi' => br (Nat.blt n m) (ob (ML.add f lo (.v m lo' hi')) fun l => some (.v n l hi))
      (br (Nat.beq n m) (ob (ML.add f lo lo') fun l => ob (ML.add f hi hi') fun h => some (ML.mk n l h)) (ob (ML.add f (.v n lo hi) lo') fun l => some (.v m l hi')))
def ML.scale (c : Int) : ML → ML
  | .k i => .k (c * i)
  | .v n lo hi => .v n (lo.scale c) (hi.scale c)
def ML.scaleZ (c : Int) (a : ML) : ML := br (decide (c = 0)) (.k 0) (a.scale c)
/-- product; none where a letter would be squared -/
def ML.mul : Nat → ML → ML → Option ML
  | 0, _, _ => none
  | _ + 1, .k i, b => some (b.scaleZ i)
  | _ + 1, .v n lo hi, .k i => some ((ML.v n lo hi).scaleZ i)
  | f + 1, .v n lo hi, .v m lo' hi' => br (Nat.blt n m) (ob (ML.mul f lo (.v m lo' hi')) fun a => ob (ML.mul f hi (.v m lo' hi')) fun b => some (ML.mk n a b))
      (br (Nat.beq n m) none (ob (ML.mul f (.v n lo hi) lo') fun a => ob (ML.mul f (.v n lo hi) hi') fun b => some (ML.mk m a b)))
def SE.ml : SE → Option ML
  | .c i => some (.k i)
  | .at _ => none
  | .res k => some (.v k (.k 0) (.k 1))
  | .add a b => ob a.ml fun x => ob b.ml fun y => ML.add 100 x y
  | .sub a b => ob a.ml fun x => ob b.ml fun y => ML.add 100 x (y.scale (-1))
  | .mul a b => ob a.ml fun x => ob b.ml fun y => ML.mul 100 x y
def ML.beq : ML → ML → Bool
  | .k i, .k j => decide (i = j)
  | .v n a b, .v m c d => br (Nat.beq n m) (br (ML.beq a c) (ML.beq b d) false) false
  | _, _ => false

/-- equality of ints: where letters are in it, it is only told if it holds -/
def cmpSe (a b : AV) : Option Bool := ob (se a) fun x => ob (se b) fun y => ob x.ml fun p => ob y.ml fun q => br (ML.beq p q) (some true) none
def cmpEq (a b : AV) : Option Bool := opt (isInt a) (fun i => opt (isInt b) (fun j => some (decide (i = j))) (cmpSe a b)) (cmpSe a b)
def cmpNe (a b : AV) : Option Bool := ob (isInt a) fun i => ob (isInt b) fun j => some (!decide (i = j))

def sameAV (a b : AV) (σ : AS) : Option Bool := match a, b with
  | .ref i, .ref j => br (Nat.beq i j) (some true) (ob (instAt σ i) fun _ => ob (instAt σ j) fun _ => some false)
  | .int _, .st _ => some false
  | .st i, .st j => br (Nat.beq i j) (some true) none
  | _, _ => none

def intIn (k : Int) : List AV → Option Bool
  | [] => some false
  | v :: r => ob (isInt v) fun i => ob (intIn k r) fun b => some (br (decide (i = k)) true b)
def intsOf : List AV → Option (List Int)
  | [] => some []
  | v :: r => ob (isInt v) fun i => ob (intsOf r) fun l => some (i :: l)
def lsEq : List Int → List Int → Bool
  | [], [] => true
  | a :: r, b :: s => br (decide (a = b)) (lsEq r s) false
  | _, _ => false
def listIn (σ : AS) (xs : List Int) : List AV → Option Bool
  | [] => some false
  | v :: r => ob (isRef v) fun i => ob (listAt σ i) fun ys => ob (intsOf ys) fun ys => ob (listIn σ xs r) fun b => some (br (lsEq ys xs) true b)

def some? {α : Type} (x : Option α) : Bool := opt x (fun _ => true) false
def inOb (k : Int) : AO → Option Bool
  | .list xs => intIn k xs
  | .dom _ xs => intIn k xs
  | .dict es => some (some? (lkI k es))
  | .fdict es => some (some? (lkI k es))
  | _ => none
def isIn (v c : AV) (σ : AS) : Option Bool := match v, c with
  | .int k, .st a => ob (stTup a) fun xs => intIn k xs
  | .int k, .ref i => ob (σ.get i) fun o => inOb k o
  | .ref j, .ref i => ob (listAt σ j) fun ys => ob (listAt σ i) fun xs => ob (intsOf ys) fun ys => listIn σ ys xs
  | _, _ => none
def cmpLt (c : FC) (a b : AV) : Option Bool := match a, b with
  | .int (.ofNat k), .slen => br (Nat.blt k 7) (some (Nat.blt k c.ln)) none
  | _, _ => none
def flip (x : Option Bool) : Option Bool := ob x fun b => some (!b)
def cmpOp (c : FC) : COp → AV → AV → AS → Option Bool
  | .eq => fun a b _ => cmpEq a b
  | .ne => fun a b _ => cmpNe a b
  | .lt => fun a b _ => cmpLt c a b
  | .is => sameAV
  | .isnot => fun a b σ => flip (sameAV a b σ)
  | .isin => isIn
  | .notin => fun a b σ => flip (isIn a b σ)

def bothI (a b : AV) (f : Int → Int → Int) (g : SE → SE → SE) : Option AV :=
  opt (isInt a) (fun i => opt (isInt b) (fun j => some (.int (f i j))) (ob (se b) fun y => some (.sym (g (.c i) y))))
    (ob (se a) fun x => ob (se b) fun y => some (.sym (g x y)))
/-- a bound of the size, where no product is in it -/
def SE.bd : SE → Option Nat
  | .c i => some i.natAbs
  | .at _ => none
  | .res _ => some 2001
  | .add a b => ob a.bd fun x => ob b.bd fun y => some (x + y)
  | .sub a b => ob a.bd fun x => ob b.bd fun y => some (x + y)
  | .mul _ _ => none
def fits (a : AV) : Bool := opt (ob (se a) SE.bd) (fun n => Nat.blt n 18446744073709551616) false
def opMul (a b : AV) : Option AV := br (br (fits a) true (fits b)) (bothI a b (· * ·) .mul) none
def modSym (c : FC) (k : Nat) (j : Int) : Option AV := br (decide (j = 63)) (br (Nat.beq k 0) (some (.int (Int.ofNat c.mask))) none) (br (decide (j = 2001)) (some (.sym (.res k))) none)
def opMod (c : FC) (a b : AV) : Option AV := match a with
  | .sym (.at k) => ob (isInt b) fun j => modSym c k j
  | .int (.ofNat i) => ob (isNat b) fun j => br (Nat.blt 0 j) (some (.int (Int.ofNat (i % j)))) none
  | _ => none
def opShr (a b : AV) : Option AV := ob (isNat a) fun i => ob (isNat b) fun j => br (Nat.blt j 64) (some (.int (Int.ofNat (i / 2 ^ j)))) none
def opBand (a b : AV) : Option AV := ob (isNat a) fun i => ob (isNat b) fun j => br (Nat.beq j 1) (some (.int (Int.ofNat (i % 2)))) none
def binOp (c : FC) : BOp → AV → AV → Option AV
  | .add => fun a b => bothI a b (· + ·) .add
  | .sub => fun a b => bothI a b (· - ·) .sub
  | .mul => opMul
  | .mod => opMod c
  | .shr => opShr
  | .band => opBand

def itemAt (xs : List AV) (i : Int) : Option AV := match i with
  | .ofNat k => xs[k]?
  | .negSucc k => br (Nat.blt k xs.length) xs[xs.length - (k + 1)]? none
def itemL (xs : List AV) (i : Int) : Option AV := match i with
  | .ofNat k => xs[k]?
  | .negSucc _ => none
def scrAt (c : FC) (k : Int) : Option AV := match k with
  | .ofNat n => br (Nat.blt n c.ln) (some (.sym (.at n))) none
  | .negSucc _ => none
def subOb : AO → Int → Option AV
  | .list xs => itemL xs
  | .tup xs => itemAt xs
  | .dict es => fun k => lkI k es
  | .fdict es => fun k => lkI k es
  | _ => fun _ => none
def subAt (c : FC) : AV → Int → AS → Option AV
  | .st a => fun k _ => br (Nat.beq a 420) (scrAt c k) (ob (stTup a) fun xs => itemAt xs k)
  | .ref j => fun k σ => ob (σ.get j) fun o => subOb o k
  | _ => fun _ _ => none
def subOp (c : FC) (o i : AV) (σ : AS) : Option AV := ob (isInt i) fun k => subAt c o k σ

/-- x[lo:] -/
def cutN (xs : List AV) (v : AV) : Option (List AV) := match v with
  | .int (.negSucc k) => some (xs.drop (xs.length - (k + 1)))
  | _ => none
def cutAt (xs : List AV) (lo : Option AV) : Option (List AV) := opt lo (cutN xs) (some xs)
def keepN (xs : List AV) (v : AV) : Option (List AV) := match v with
  | .int (.negSucc k) => some (xs.take (xs.length - (k + 1)))
  | _ => none
def keepAt (xs : List AV) (lo : Option AV) : Option (List AV) := opt lo (keepN xs) (some [])
def sliceOp (o : AV) (lo : Option AV) (σ : AS) : Res AV := ob (isRef o) fun j => ob (seqAt σ j) fun xs => ob (cutAt xs lo) fun ys => ret (.ref σ.m) (σ.new (.list ys))

def ltL : List Int → List Int → Bool
  | a :: r, b :: s => br (decide (a = b)) (ltL r s) (decide (a < b))
  | [], _ :: _ => true
  | _, _ => false
def runT {α : Type} (n : Nat) (lt : Nat → Nat → Bool) : W.KasT α → Option α
  | .ret a => some a
  | .ask i j k => br (Nat.blt i n) (br (Nat.blt j n) (runT n lt (k (lt i j))) none) none
def nthK (l : List (List Int)) (i : Nat) : List Int := opt l[i]? (fun v => v) []
def nthV (l : List AV) (i : Nat) : AV := opt l[i]? (fun v => v) .none
def permV (xs : List AV) : List Nat → List AV
  | [] => []
  | i :: r => nthV xs i :: permV xs r
def sortP (ks : List (List Int)) (n : Nat) : Option (Array Nat) := runT n (fun a b => ltL (nthK ks a) (nthK ks b)) (W.kas_sort n)
def keysOf (σ : AS) : List AV → Option (List (List Int))
  | [] => some []
  | v :: r => ob (isRef v) fun i => ob (tupAt σ i) fun xs => ob (intsOf xs) fun k => br (nul k) none (ob (keysOf σ r) fun l => some (k :: l))

def eraseInt (k : Int) : List AV → Option (List AV)
  | [] => none
  | v :: r => ob (isInt v) fun i => br (decide (i = k)) (some r) (ob (eraseInt k r) fun l => some (.int i :: l))
def isF (v : AV) : Bool := match v with
  | .bool b => !b
  | _ => false
def conL : List Nat := [336, 356, 390]
/-- the pair's parts -/
def pairAt (σ : AS) (j : Nat) : Option (Nat × Nat) := ob (tupAt σ j) fun p => ob (two p) fun p => ob (isRef p.1) fun c => ob (isRef p.2) fun vs => some (c, vs)
/-- the class of an object; its namespace stands -/
def instNs (σ : AS) (j : Nat) : Option Nat := ob (instAt σ j) fun u => ob (nsAt σ u.2) fun _ => some u.1
/-- list.remove of a pair (constraint, variables): Constraint.__eq__ is called where the constraints are not one -/
def remLoop (I : IP) (i j : Nat) : Nat → Nat → AS → Res AV
  | 0, _, _ => none
  | f + 1, n, σ => ob (listAt σ i) fun xs => ob xs[n]? fun v => ob (isRef v) fun l => ob (pairAt σ l) fun p => ob (pairAt σ j) fun q =>
      br (Nat.beq p.1 q.1) (br (Nat.beq p.2 q.2) (ret .none (σ.set i (.list (xs.eraseIdx n)))) none)
        (ob (instNs σ p.1) fun u => ob (instNs σ q.1) fun w => br (inL u conL) (br (inL w conL)
          (bnd (I.call (.st 282) [.ref p.1, .ref q.1] σ) fun b σ => br (isF b) (remLoop I i j f (Nat.succ n) σ) none) none) none)
def countInt (k : Int) : List AV → Option Nat
  | [] => some 0
  | v :: r => ob (isInt v) fun i => ob (countInt k r) fun n => some (br (decide (i = k)) (Nat.succ n) n)

def mthT : List (Nat × List (Nat × Nat)) := [
  (110, [(14, 64), (99, 71), (100, 79), (28, 93), (26, 107)]),
  (186, [(28, 183), (51, 169)]),
  (264, [(34, 240), (50, 247), (49, 254), (61, 261)]),
  (336, [(32, 297), (68, 305)]),
  (356, [(32, 297), (68, 305)]),
  (390, [(32, 387), (68, 305)])]
def callT : List (Nat × Nat) := [(336, 333), (356, 353)]

def mAppend (i : Nat) (xs : List AV) (args : List AV) (σ : AS) : Res AV := br (sm xs) (ob (one args) fun v => ret .none (σ.set i (.list (xs ++ [v])))) none
def mPop (i : Nat) (xs : List AV) (args : List AV) (σ : AS) : Res AV := br (nul args) (ob xs.getLast? fun v => ret v (σ.set i (.list xs.dropLast))) none
def sortV (xs : List AV) (ks : List (List Int)) : Option (List AV) := br (Nat.blt xs.length 2) (some xs) (ob (sortP ks xs.length) fun p => some (permV xs p.toList))
def mSort (i : Nat) (xs : List AV) (args : List AV) (σ : AS) : Res AV := br (Nat.ble xs.length 60) (br (nul args) (ob (keysOf σ xs) fun ks => ob (sortV xs ks) fun ys => ret .none (σ.set i (.list ys))) none) none
def mRemove (I : IP) (i : Nat) (xs : List AV) (args : List AV) (σ : AS) : Res AV := ob (one args) fun v => ob (isRef v) fun j => remLoop I i j xs.length 0 σ
def mCount (xs : List AV) (args : List AV) (σ : AS) : Res AV := ob (one args) fun v => ob (isInt v) fun k => ob (countInt k xs) fun n => ret (.int (Int.ofNat n)) σ
def mDomRemove (i d : Nat) (xs : List AV) (args : List AV) (σ : AS) : Res AV := ob (one args) fun v => ob (isInt v) fun k => ob (intsOf xs) fun _ => ob (eraseInt k xs) fun ys => ret .none (σ.set i (.dom d ys))
def mDomExtend (i d : Nat) (xs : List AV) (args : List AV) (σ : AS) : Res AV := ob (one args) fun v => ob (isRef v) fun j => ob (listAt σ j) fun ys => br (Nat.ble (xs.length + ys.length) 1000) (ret .none (σ.set i (.dom d (xs ++ ys)))) none
def mCopy (es : List (Int × AV)) (args : List AV) (σ : AS) : Res AV := br (nul args) (ret (.ref σ.m) (σ.new (.dict es))) none
def mGet (es : List (Int × AV)) (args : List AV) (σ : AS) : Res AV := ob (two args) fun p => ob (isInt p.1) fun k => ret (opt (lkI k es) (fun v => v) p.2) σ
def mValues (i : Nat) (args : List AV) (σ : AS) : Res AV := br (nul args) (ret (.ref σ.m) (σ.new (.vals i))) none
/-- a method that was found: a builtin's (0 of lists, 1 of the list's subclass, 2 of dicts), or a def -/
inductive MS where
  | b (n : Nat)
  | own (a : Nat)
def selOwn (c d x : Nat) (σ : AS) : Option MS := ob (nsAt σ d) fun es => br (some? (lk es x)) none (ob (lk mthT c) fun t => ob (lk t x) fun f => some (.own f))
def selDom (d x : Nat) (σ : AS) : Option MS := br (inL x [57, 52]) (ob (nsAt σ d) fun es => br (some? (lk es x)) none (some (.b 1))) (selOwn 264 d x σ)
def selOb : AO → Nat → AS → Option MS
  | .list _ => fun x _ => br (inL x [22, 48, 47, 57, 101]) (some (.b 0)) none
  | .dom d _ => selDom d
  | .dict _ => fun x _ => br (inL x [31, 65, 33]) (some (.b 2)) none
  | .fdict _ => fun x _ => br (inL x [31, 65, 33]) (some (.b 2)) none
  | .inst c d => fun x σ => br (inL c [186, 336, 110, 390, 356]) (selOwn c d x σ) none
  | _ => fun _ _ => none
def methSel (o : AV) (x : Nat) (σ : AS) : Option MS := ob (isRef o) fun i => ob (σ.get i) fun o => selOb o x σ
def mList (xs : List AV) (x : Nat) (I : IP) (i : Nat) (args : List AV) (σ : AS) : Res AV :=
  br (Nat.beq x 22) (mAppend i xs args σ) (br (Nat.beq x 48) (mPop i xs args σ) (br (Nat.beq x 47) (mSort i xs args σ) (br (Nat.beq x 57) (mRemove I i xs args σ) (br (Nat.beq x 101) (mCount xs args σ) none))))
def mDom (d : Nat) (xs : List AV) (x : Nat) (i : Nat) (args : List AV) (σ : AS) : Res AV :=
  br (Nat.beq x 57) (mDomRemove i d xs args σ) (br (Nat.beq x 52) (mDomExtend i d xs args σ) none)
def mDict (es : List (Int × AV)) (x : Nat) (i : Nat) (args : List AV) (σ : AS) : Res AV :=
  br (Nat.beq x 31) (mCopy es args σ) (br (Nat.beq x 65) (mGet es args σ) (br (Nat.beq x 33) (mValues i args σ) none))
def mFdict (x : Nat) (i : Nat) (args : List AV) (σ : AS) : Res AV := br (Nat.beq x 33) (mValues i args σ) none
def methOb : AO → Nat → Nat → IP → Nat → List AV → AS → Res AV
  | .list xs => fun n x I i args σ => br (Nat.beq n 0) (mList xs x I i args σ) none
  | .dom d xs => fun n x _ i args σ => br (Nat.beq n 1) (mDom d xs x i args σ) none
  | .dict es => fun n x _ i args σ => br (Nat.beq n 2) (mDict es x i args σ) none
  | .fdict _ => fun n x _ i args σ => br (Nat.beq n 2) (mFdict x i args σ) none
  | _ => fun _ _ _ _ _ _ => none
def methOp (I : IP) (o : AV) (x : Nat) (args : List AV) (σ : AS) : MS → Res AV
  | .b n => ob (isRef o) fun i => ob (σ.get i) fun ob => methOb ob n x I i args σ
  | .own a => I.call (.st a) (o :: args) σ

def attrOp (o : AV) (x : Nat) (σ : AS) : Option AV := ob (isRef o) fun i => ob (σ.get i) fun o => ob (dOf o) fun d => ob (nsAt σ d) fun es => lk es x

def gloT : List (Nat × Nat) := [(92, 110), (8, 264), (17, 308), (19, 336), (94, 356), (93, 390), (97, 393), (98, 400), (95, 407), (96, 414)]
def buiT : List (Nat × AV) := [(45, .bi 45), (81, .ty 81), (30, .ty 30), (16, .bi 16), (18, .bi 18), (7, .bi 7)]

def mk110 (args : List AV) (σ : AS) : Res AV := br (nul args) (bnd (newIt (.ns [(44, .bool true)]) σ) fun d σ => bnd (newIt (.inst 186 d) σ) fun s σ =>
  bnd (newIt (.list []) σ) fun a σ => bnd (newIt (.dict []) σ) fun b σ => bnd (newIt (.ns [(27, .ref s), (21, .ref a), (10, .ref b)]) σ) fun d σ =>
  bnd (newIt (.inst 110 d) σ) fun i σ => ret (.ref i) σ) none
def mk264 (args : List AV) (σ : AS) : Res AV := ob (one args) fun v => ob (isRef v) fun l => ob (listAt σ l) fun xs => ob (two xs) fun p => ob (isInt p.1) fun _ => ob (isInt p.2) fun _ => bnd (newIt (.list []) σ) fun a σ => bnd (newIt (.list []) σ) fun b σ =>
  bnd (newIt (.ns [(53, .ref a), (54, .ref b)]) σ) fun d σ => bnd (newIt (.dom d xs) σ) fun i σ => ret (.ref i) σ
def mk336 (args : List AV) (σ : AS) : Res AV := ob (one args) fun f => ob (isSt f) fun a => br (Nat.beq a 407) (bnd (newIt (.ns [(67, .st 407), (66, .bool true)]) σ) fun d σ => bnd (newIt (.inst 336 d) σ) fun i σ => ret (.ref i) σ) none
def mk356 (args : List AV) (σ : AS) : Res AV := br (nul args) (bnd (newIt (.ns []) σ) fun d σ => bnd (newIt (.inst 356 d) σ) fun i σ => ret (.ref i) σ) none
def mk390 (args : List AV) (σ : AS) : Res AV := ob (one args) fun v => ob (isRef v) fun l => bnd (newIt (.ns [(70, .ref l)]) σ) fun d σ => bnd (newIt (.inst 390 d) σ) fun i σ => ret (.ref i) σ
def mkT : List (Nat × (List AV → AS → Res AV)) := [(110, mk110), (264, mk264), (336, mk336), (356, mk356), (390, mk390)]
def construct (a : Nat) (args : List AV) (σ : AS) : Res AV := ob (lk mkT a) fun f => f args σ

/-- is the object's class below Constraint -/
def isCon (v : AV) (σ : AS) : Option Bool := match v with
  | .st a => br (Nat.beq a 407) (some false) none
  | .ref i => ob (instAt σ i) fun p => lk [(336, true), (356, true), (390, true)] p.1
  | _ => none

def rangeL (n : Nat) : List AV := (List.range n).map fun i => .int (Int.ofNat i)

def lenSt (a : Nat) (σ : AS) : Res AV := br (Nat.beq a 420) (ret .slen σ) none
def bLen1 : AV → AS → Res AV
  | .st a => lenSt a
  | .ref i => fun σ => ob (seqAt σ i) fun xs => ret (.int (Int.ofNat xs.length)) σ
  | _ => fun _ => none
def bLen (args : List AV) (σ : AS) : Res AV := ob (one args) fun v => bLen1 v σ
def bIsi (args : List AV) (σ : AS) : Res AV := ob (two args) fun p => ob (isSt p.2) fun a => br (Nat.beq a 308) (ob (isCon p.1 σ) fun b => ret (.bool b) σ) none
def bCallable (args : List AV) (σ : AS) : Res AV := ob (one args) fun v => ob (isSt v) fun a => br (Nat.beq a 407) (ret (.bool true) σ) none
def isStr : AV → Option Nat
  | .str x => some x
  | _ => none
def bHas (args : List AV) (σ : AS) : Res AV := ob (two args) fun p => ob (isStr p.2) fun x => br (Nat.beq x 11) (ob (isRef p.1) fun i => ob (listAt σ i) fun _ => ret (.bool true) σ) none
def builtinT : List (Nat × (List AV → AS → Res AV)) := [(45, bLen), (16, bIsi), (18, bCallable), (7, bHas)]
def tRange (args : List AV) (σ : AS) : Res AV := ob (one args) fun v => ob (isNat v) fun n => br (Nat.ble n 1000) (ret (.ref σ.m) (σ.new (.rng n))) none
def keysL : List (Int × AV) → List AV
  | [] => []
  | p :: r => .int p.1 :: keysL r
def listFrom : AO → Option (List AV)
  | .rng n => some (rangeL n)
  | .dict es => some (keysL es)
  | .fdict es => some (keysL es)
  | _ => none
def tList (args : List AV) (σ : AS) : Res AV := ob (one args) fun v => ob (isRef v) fun i => ob (σ.get i) fun o => ob (listFrom o) fun xs => ret (.ref σ.m) (σ.new (.list xs))
def typeT : List (Nat × (List AV → AS → Res AV)) := [(81, tRange), (30, tList)]

/-- the captured names' cells; a parameter's value goes into its cell -/
def mkCells (binds : List (Nat × AV)) : List Nat → List (Nat × Option AV)
  | [] => []
  | x :: r => (x, lk binds x) :: mkCells binds r
def notIn (cells : List Nat) : List (Nat × AV) → List (Nat × AV)
  | [] => []
  | p :: r => br (inL p.1 cells) (notIn cells r) (p :: notIn cells r)
def zipN : List Nat → List AV → List (Nat × AV)
  | x :: xs, v :: vs => (x, v) :: zipN xs vs
  | _, _ => []
def frameOf (cells : List Nat) (binds : List (Nat × AV)) : FM := ⟨notIn cells binds, mkCells binds cells, []⟩
def bindFn (fi : FnI) (args : List AV) : Option FM :=
  br (Nat.ble args.length fi.params.length) (br (Nat.ble fi.params.length (args.length + fi.dfl.length))
    (some (frameOf fi.cells (zipN fi.params (args ++ fi.dfl.drop (fi.dfl.length - (fi.params.length - args.length)))))) none) none

end
end Mine
set_option maxRecDepth 100000
namespace Mine
open PySem

def kids : PySem.Stmt → List PySem.Stmt
  | .If _ a b _ => a ++ b
  | .For _ _ a b _ => a ++ b
  | .While _ a b _ => a ++ b
  | _ => []
def walkS : List Nat → List PySem.Stmt → PySem.Stmt
  | [], _ => .Pass ⟨0, 0, 0, 0⟩
  | [i], l => (l[i]?).getD (.Pass ⟨0, 0, 0, 0⟩)
  | i :: r, l => walkS r (kids ((l[i]?).getD (.Pass ⟨0, 0, 0, 0⟩)))
/-- where the program's defs stand: the place in the text, and within the class -/
def fnAt : List (Nat × Option Nat) := [(2, some 4), (2, some 5), (2, some 6), (2, some 8), (2, some 10), (4, some 1), (4, some 3), (7, some 1), (7, some 2), (7, some 3), (7, some 4), (8, some 0), (8, some 2), (8, some 3), (9, some 1), (10, some 0), (11, some 2), (15, none), (16, none), (17, none)]
def clsBody : PySem.Stmt → List PySem.Stmt
  | .ClassDef _ _ _ b _ _ _ _ _ _ _ => b
  | _ => []
def defAt (i : Nat) : PySem.Stmt := match (fnAt[i]?).getD (0, none) with
  | (a, none) => (PySem.Challenge.pw_de5024_01.main.body[a]?).getD (.Pass ⟨0, 0, 0, 0⟩)
  | (a, some b) => ((clsBody ((PySem.Challenge.pw_de5024_01.main.body[a]?).getD (.Pass ⟨0, 0, 0, 0⟩)))[b]?).getD (.Pass ⟨0, 0, 0, 0⟩)
def bodyOf : PySem.Stmt → List PySem.Stmt
  | .FunctionDef _ _ b _ _ _ _ _ _ _ => b
  | _ => []
def paramsOf : PySem.Stmt → Arguments
  | .FunctionDef _ a _ _ _ _ _ _ _ _ => a
  | _ => ⟨[], [], none, [], [], none, []⟩
def scopeOf : PySem.Stmt → Scope
  | .FunctionDef _ _ _ _ _ _ s _ _ _ => s
  | _ => ⟨.function, [], false, false, []⟩
def opqS (i : Nat) (path : List Nat) : PySem.Stmt := walkS path (bodyOf (defAt i))

def nmL : List String := ["", "self", "variable", "domain", "msg", "repr", "ValueError", "hasattr", "Domain", "TypeError", "_variables", "__getitem__", "Domains must be instances of subclasses of the Domain class", "variables", "addVariable", "constraint", "isinstance", "Constraint", "callable", "FunctionConstraint", "Constraints must be instances of subclasses of the Constraint class", "_constraints", "append", "domains", "constraints", "vconstraints", "_getArgs", "_solver", "getSolutions", "allvariables", "list", "copy", "preProcess", "values", "resetState", "assignments", "forwardcheck", "queue", "lst", "item", "pushdomains", "RuntimeError", "fast", "x", "_forwardcheck", "len", ".0", "sort", "pop", "popState", "pushState", "getSolutionIter", "extend", "_hidden", "_states", "diff", "value", "remove", "other", "_unassigned", "unassignedvariable", "hideValue", "parms", "missing", "parm", "get", "_assigned", "_func", "forwardCheck", "singlevalue", "_set", "one", "two", "three", "roads", "numbers", "total", "sides", "product", "k", "alike", "range", "script", "draw", "place", "solution", "ends", "kept", "problem", "row", "told", "taken", "Problem", "InSetConstraint", "AllEqualConstraint", "_law_even", "_law_sides", "_law_rest", "_law_pairs", "addVariables", "addConstraint", "count"]
def nm (i : Nat) : PySem.Str := Str.ofString ((nmL[i]?).getD "")
def scL : List Scope := [
  { kind := .function, names := [(nm 1, .local), (nm 2, .local), (nm 3, .local), (nm 4, .local), (nm 5, .globalImplicit), (nm 6, .globalImplicit), (nm 7, .globalImplicit), (nm 8, .globalImplicit), (nm 9, .globalImplicit)], isGenerator := false, isCoroutine := false, more := [] },
  { kind := .function, names := [(nm 1, .local), (nm 13, .local), (nm 3, .local), (nm 2, .local)], isGenerator := false, isCoroutine := false, more := [] },
  { kind := .function, names := [(nm 1, .local), (nm 15, .local), (nm 13, .local), (nm 4, .local), (nm 16, .globalImplicit), (nm 17, .globalImplicit), (nm 18, .globalImplicit), (nm 19, .globalImplicit), (nm 6, .globalImplicit)], isGenerator := false, isCoroutine := false, more := [] },
  { kind := .function, names := [(nm 1, .local), (nm 23, .local), (nm 24, .local), (nm 25, .local)], isGenerator := false, isCoroutine := false, more := [] },
  { kind := .function, names := [(nm 1, .local), (nm 23, .local), (nm 29, .local), (nm 24, .local), (nm 15, .local), (nm 13, .local), (nm 25, .local), (nm 2, .local), (nm 3, .local), (nm 30, .globalImplicit)], isGenerator := false, isCoroutine := false, more := [] },
  { kind := .function, names := [(nm 1, .local), (nm 23, .cell), (nm 24, .local), (nm 25, .cell), (nm 36, .local), (nm 35, .cell), (nm 37, .local), (nm 2, .cell), (nm 38, .local), (nm 39, .local), (nm 33, .local), (nm 40, .local), (nm 3, .local), (nm 15, .local), (nm 13, .local), (nm 41, .globalImplicit)], isGenerator := true, isCoroutine := false, more := [(nm 42, .str (nm 1)), (nm 42, .str (nm 23)), (nm 42, .str (nm 24)), (nm 42, .str (nm 25)), (nm 42, .str (nm 36)), (nm 42, .str (nm 35)), (nm 42, .str (nm 37)), (nm 42, .str (nm 2)), (nm 42, .str (nm 38)), (nm 42, .str (nm 39)), (nm 42, .str (nm 33)), (nm 42, .str (nm 43)), (nm 42, .str (nm 40)), (nm 42, .str (nm 3)), (nm 42, .str (nm 15)), (nm 42, .str (nm 13))] },
  { kind := .function, names := [(nm 46, .local), (nm 2, .local), (nm 45, .globalImplicit), (nm 23, .free), (nm 25, .free)], isGenerator := false, isCoroutine := false, more := [] },
  { kind := .function, names := [(nm 46, .local), (nm 43, .local), (nm 35, .free), (nm 23, .free), (nm 2, .free)], isGenerator := false, isCoroutine := false, more := [] },
  { kind := .function, names := [(nm 1, .local), (nm 23, .local), (nm 24, .local), (nm 25, .local), (nm 30, .globalImplicit)], isGenerator := false, isCoroutine := false, more := [] },
  { kind := .function, names := [(nm 1, .local)], isGenerator := false, isCoroutine := false, more := [] },
  { kind := .function, names := [(nm 1, .local), (nm 45, .globalImplicit)], isGenerator := false, isCoroutine := false, more := [] },
  { kind := .function, names := [(nm 1, .local), (nm 55, .local), (nm 45, .globalImplicit)], isGenerator := false, isCoroutine := false, more := [] },
  { kind := .function, names := [(nm 1, .local), (nm 56, .local)], isGenerator := false, isCoroutine := false, more := [] },
  { kind := .function, names := [(nm 1, .local), (nm 58, .local), (nm 16, .globalImplicit), (nm 17, .globalImplicit)], isGenerator := false, isCoroutine := false, more := [] },
  { kind := .function, names := [(nm 1, .local), (nm 13, .local), (nm 23, .local), (nm 24, .local), (nm 25, .local), (nm 2, .local), (nm 3, .local), (nm 56, .local), (nm 45, .globalImplicit)], isGenerator := false, isCoroutine := false, more := [] },
  { kind := .function, names := [(nm 1, .local), (nm 13, .local), (nm 23, .local), (nm 35, .local), (nm 59, .local), (nm 60, .local), (nm 2, .local), (nm 3, .local), (nm 56, .local)], isGenerator := false, isCoroutine := false, more := [] },
  { kind := .function, names := [(nm 1, .local), (nm 13, .local), (nm 23, .local), (nm 35, .cell), (nm 36, .local), (nm 59, .cell), (nm 62, .local), (nm 63, .local), (nm 45, .globalImplicit)], isGenerator := false, isCoroutine := false, more := [(nm 42, .str (nm 1)), (nm 42, .str (nm 13)), (nm 42, .str (nm 23)), (nm 42, .str (nm 35)), (nm 42, .str (nm 36)), (nm 42, .str (nm 59)), (nm 42, .str (nm 43)), (nm 42, .str (nm 62)), (nm 42, .str (nm 64)), (nm 42, .str (nm 63))] },
  { kind := .function, names := [(nm 46, .local), (nm 43, .local), (nm 59, .free), (nm 35, .free)], isGenerator := false, isCoroutine := false, more := [] },
  { kind := .function, names := [(nm 46, .local), (nm 64, .local), (nm 59, .free)], isGenerator := false, isCoroutine := false, more := [] },
  { kind := .function, names := [(nm 1, .local), (nm 13, .local), (nm 23, .local), (nm 35, .local), (nm 36, .local), (nm 59, .local), (nm 69, .local), (nm 2, .local), (nm 56, .local), (nm 3, .local)], isGenerator := false, isCoroutine := false, more := [] },
  { kind := .function, names := [(nm 1, .local), (nm 13, .local), (nm 23, .local), (nm 24, .local), (nm 25, .local), (nm 2, .local), (nm 3, .local), (nm 56, .local)], isGenerator := false, isCoroutine := false, more := [] },
  { kind := .function, names := [(nm 71, .local), (nm 72, .local), (nm 73, .local)], isGenerator := false, isCoroutine := false, more := [] },
  { kind := .function, names := [(nm 74, .local), (nm 75, .local), (nm 76, .local), (nm 77, .local), (nm 78, .local), (nm 79, .local), (nm 80, .local), (nm 81, .globalImplicit), (nm 45, .globalImplicit)], isGenerator := false, isCoroutine := false, more := [] },
  { kind := .function, names := [(nm 82, .cell), (nm 79, .local), (nm 83, .cell), (nm 87, .local), (nm 74, .cell), (nm 75, .local), (nm 88, .local), (nm 84, .cell), (nm 89, .local), (nm 90, .local), (nm 76, .local), (nm 85, .cell), (nm 91, .local), (nm 86, .cell), (nm 78, .local), (nm 81, .globalImplicit), (nm 92, .globalImplicit), (nm 30, .globalImplicit), (nm 45, .globalImplicit), (nm 93, .globalImplicit), (nm 94, .globalImplicit), (nm 95, .globalImplicit), (nm 96, .globalImplicit)], isGenerator := false, isCoroutine := false, more := [(nm 42, .str (nm 82)), (nm 42, .str (nm 79)), (nm 42, .str (nm 83)), (nm 42, .str (nm 87)), (nm 42, .str (nm 74)), (nm 42, .str (nm 75)), (nm 42, .str (nm 88)), (nm 42, .str (nm 84)), (nm 42, .str (nm 89)), (nm 42, .str (nm 90)), (nm 42, .str (nm 76)), (nm 42, .str (nm 85)), (nm 42, .str (nm 91)), (nm 42, .str (nm 86)), (nm 42, .str (nm 78))] },
  { kind := .function, names := [(nm 46, .local), (nm 79, .local), (nm 45, .globalImplicit), (nm 97, .globalImplicit), (nm 82, .free)], isGenerator := false, isCoroutine := false, more := [] },
  { kind := .function, names := [(nm 46, .local), (nm 79, .local), (nm 83, .free)], isGenerator := false, isCoroutine := false, more := [] },
  { kind := .function, names := [(nm 46, .local), (nm 79, .local), (nm 98, .globalImplicit)], isGenerator := false, isCoroutine := false, more := [] },
  { kind := .function, names := [(nm 46, .local), (nm 79, .local), (nm 84, .free), (nm 74, .free)], isGenerator := false, isCoroutine := false, more := [] },
  { kind := .function, names := [(nm 46, .local), (nm 79, .local), (nm 85, .free)], isGenerator := false, isCoroutine := false, more := [] },
  { kind := .function, names := [(nm 46, .local), (nm 79, .local), (nm 84, .local), (nm 74, .free)], isGenerator := false, isCoroutine := false, more := [] },
  { kind := .function, names := [(nm 46, .local), (nm 84, .local), (nm 86, .free)], isGenerator := false, isCoroutine := false, more := [] }]
def scp (i : Nat) : Scope := (scL[i]?).getD ⟨.function, [], false, false, []⟩

/-- Problem.addVariable; params [1, 2, 3]; cells []; scope 0; defaults 0 -/
def b_Problem_addVariable : List FS := [
  .iff (.cmp (.loc 2 ⟨22,11,22,19⟩) .isin (.attr (.loc 1 ⟨22,23,22,27⟩) 10 ⟨22,23,22,38⟩) ⟨22,11,22,38⟩) [.opq (opqS 0 [0, 0]), .opq (opqS 0 [0, 1])] [] ⟨22,8,24,33⟩,
  .iff (.call (.bui 7 ⟨25,11,25,18⟩) [(.loc 3 ⟨25,19,25,25⟩), (.cStr 11 0 ⟨25,27,25,40⟩)] ⟨25,11,25,41⟩) [.asg 3 ⟨26,12,26,18⟩ false (.call (.glo 8 ⟨26,21,26,27⟩) [(.loc 3 ⟨26,28,26,34⟩)] ⟨26,21,26,35⟩) ⟨26,12,26,35⟩] [.asg 4 ⟨28,12,28,15⟩ false (.cStr 12 0 ⟨28,18,28,79⟩) ⟨28,12,28,79⟩, .opq (opqS 0 [1, 2])] ⟨25,8,29,32⟩,
  .iff (.not (.loc 3 ⟨30,15,30,21⟩) ⟨30,11,30,21⟩) [.opq (opqS 0 [2, 0])] [] ⟨30,8,31,47⟩,
  .asgS (.attr (.loc 1 ⟨32,8,32,12⟩) 10 ⟨32,8,32,23⟩) (.loc 2 ⟨32,24,32,32⟩) ⟨32,8,32,33⟩ (.loc 3 ⟨32,36,32,42⟩) ⟨32,8,32,42⟩]
/-- Problem.addVariables; params [1, 13, 3]; cells []; scope 1; defaults 0 -/
def b_Problem_addVariables : List FS := [
  .forN 2 ⟨35,12,35,20⟩ false (.loc 13 ⟨35,24,35,33⟩) [.expr (.meth (.loc 1 ⟨36,12,36,16⟩) 14 ⟨36,12,36,28⟩ [(.loc 2 ⟨36,29,36,37⟩), (.loc 3 ⟨36,39,36,45⟩)] ⟨36,12,36,46⟩) ⟨36,12,36,46⟩] [] ⟨35,8,36,46⟩]
/-- Problem.addConstraint; params [1, 15, 13]; cells []; scope 2; defaults 1 -/
def b_Problem_addConstraint : List FS := [
  .iff (.not (.call (.bui 16 ⟨39,15,39,25⟩) [(.loc 15 ⟨39,26,39,36⟩), (.glo 17 ⟨39,38,39,48⟩)] ⟨39,15,39,49⟩) ⟨39,11,39,49⟩) [.iff (.call (.bui 18 ⟨40,15,40,23⟩) [(.loc 15 ⟨40,24,40,34⟩)] ⟨40,15,40,35⟩) [.asg 15 ⟨41,16,41,26⟩ false (.call (.glo 19 ⟨41,29,41,47⟩) [(.loc 15 ⟨41,48,41,58⟩)] ⟨41,29,41,59⟩) ⟨41,16,41,59⟩] [.asg 4 ⟨43,16,43,19⟩ false (.cStr 20 0 ⟨43,22,43,91⟩) ⟨43,16,43,91⟩, .opq (opqS 2 [0, 0, 2])] ⟨40,12,44,37⟩] [] ⟨39,8,44,37⟩,
  .expr (.meth (.attr (.loc 1 ⟨45,8,45,12⟩) 21 ⟨45,8,45,25⟩) 22 ⟨45,8,45,32⟩ [(.tup [(.loc 15 ⟨45,34,45,44⟩), (.loc 13 ⟨45,46,45,55⟩)] 0 ⟨45,33,45,56⟩)] ⟨45,8,45,57⟩) ⟨45,8,45,57⟩]
/-- Problem.getSolutions; params [1]; cells []; scope 3; defaults 0 -/
def b_Problem_getSolutions : List FS := [
  .asgT [(23, ⟨54,8,54,15⟩, false), (24, ⟨54,17,54,28⟩, false), (25, ⟨54,30,54,42⟩, false)] 0 ⟨54,8,54,42⟩ (.meth (.loc 1 ⟨54,45,54,49⟩) 26 ⟨54,45,54,58⟩ [] ⟨54,45,54,60⟩) ⟨54,8,54,60⟩,
  .iff (.not (.loc 23 ⟨55,15,55,22⟩) ⟨55,11,55,22⟩) [.ret (.list [] ⟨56,19,56,21⟩) ⟨56,12,56,21⟩] [] ⟨55,8,56,21⟩,
  .ret (.meth (.attr (.loc 1 ⟨57,15,57,19⟩) 27 ⟨57,15,57,27⟩) 28 ⟨57,15,57,40⟩ [(.loc 23 ⟨57,41,57,48⟩), (.loc 24 ⟨57,50,57,61⟩), (.loc 25 ⟨57,63,57,75⟩)] ⟨57,15,57,76⟩) ⟨57,8,57,76⟩]
/-- Problem._getArgs; params [1]; cells []; scope 4; defaults 0 -/
def b_Problem__getArgs : List FS := [
  .asg 23 ⟨66,8,66,15⟩ false (.meth (.attr (.loc 1 ⟨66,18,66,22⟩) 10 ⟨66,18,66,33⟩) 31 ⟨66,18,66,38⟩ [] ⟨66,18,66,40⟩) ⟨66,8,66,40⟩,
  .asg 29 ⟨67,8,67,20⟩ false (.call (.bui 30 ⟨67,23,67,27⟩) [(.loc 23 ⟨67,28,67,35⟩)] ⟨67,23,67,36⟩) ⟨67,8,67,36⟩,
  .asg 24 ⟨68,8,68,19⟩ false (.list [] ⟨68,22,68,24⟩) ⟨68,8,68,24⟩,
  .forT [(15, ⟨69,12,69,22⟩, false), (13, ⟨69,24,69,33⟩, false)] 0 ⟨69,12,69,33⟩ (.attr (.loc 1 ⟨69,37,69,41⟩) 21 ⟨69,37,69,54⟩) [.iff (.not (.loc 13 ⟨70,19,70,28⟩) ⟨70,15,70,28⟩) [.asg 13 ⟨71,16,71,25⟩ false (.loc 29 ⟨71,28,71,40⟩) ⟨71,16,71,40⟩] [] ⟨70,12,71,40⟩, .expr (.meth (.loc 24 ⟨72,12,72,23⟩) 22 ⟨72,12,72,30⟩ [(.tup [(.loc 15 ⟨72,32,72,42⟩), (.loc 13 ⟨72,44,72,53⟩)] 0 ⟨72,31,72,54⟩)] ⟨72,12,72,55⟩) ⟨72,12,72,55⟩] [] ⟨69,8,72,55⟩,
  .asg 25 ⟨73,8,73,20⟩ false (.dict0 ⟨73,23,73,25⟩) ⟨73,8,73,25⟩,
  .forN 2 ⟨74,12,74,20⟩ false (.loc 23 ⟨74,24,74,31⟩) [.asgS (.loc 25 ⟨75,12,75,24⟩) (.loc 2 ⟨75,25,75,33⟩) ⟨75,12,75,34⟩ (.list [] ⟨75,37,75,39⟩) ⟨75,12,75,39⟩] [] ⟨74,8,75,39⟩,
  .forT [(15, ⟨76,12,76,22⟩, false), (13, ⟨76,24,76,33⟩, false)] 0 ⟨76,12,76,33⟩ (.loc 24 ⟨76,37,76,48⟩) [.forN 2 ⟨77,16,77,24⟩ false (.loc 13 ⟨77,28,77,37⟩) [.expr (.meth (.sub (.loc 25 ⟨78,16,78,28⟩) (.loc 2 ⟨78,29,78,37⟩) ⟨78,16,78,38⟩) 22 ⟨78,16,78,45⟩ [(.tup [(.loc 15 ⟨78,47,78,57⟩), (.loc 13 ⟨78,59,78,68⟩)] 0 ⟨78,46,78,69⟩)] ⟨78,16,78,70⟩) ⟨78,16,78,70⟩] [] ⟨77,12,78,70⟩] [] ⟨76,8,78,70⟩,
  .forT [(15, ⟨79,12,79,22⟩, false), (13, ⟨79,24,79,33⟩, false)] 0 ⟨79,12,79,33⟩ (.slc (.loc 24 ⟨79,37,79,48⟩) none ⟨79,49,79,50⟩ ⟨79,37,79,51⟩) [.expr (.meth (.loc 15 ⟨80,12,80,22⟩) 32 ⟨80,12,80,33⟩ [(.loc 13 ⟨80,34,80,43⟩), (.loc 23 ⟨80,45,80,52⟩), (.loc 24 ⟨80,54,80,65⟩), (.loc 25 ⟨80,67,80,79⟩)] ⟨80,12,80,80⟩) ⟨80,12,80,80⟩] [] ⟨79,8,80,80⟩,
  .forN 3 ⟨81,12,81,18⟩ false (.meth (.loc 23 ⟨81,22,81,29⟩) 33 ⟨81,22,81,36⟩ [] ⟨81,22,81,38⟩) [.expr (.meth (.loc 3 ⟨82,12,82,18⟩) 34 ⟨82,12,82,29⟩ [] ⟨82,12,82,31⟩) ⟨82,12,82,31⟩, .iff (.not (.loc 3 ⟨83,19,83,25⟩) ⟨83,15,83,25⟩) [.ret (.tup [(.cNone 0 ⟨84,24,84,28⟩), (.cNone 0 ⟨84,30,84,34⟩), (.cNone 0 ⟨84,36,84,40⟩)] 0 ⟨84,23,84,41⟩) ⟨84,16,84,41⟩] [] ⟨83,12,84,41⟩] [] ⟨81,8,84,41⟩,
  .ret (.tup [(.loc 23 ⟨85,16,85,23⟩), (.loc 24 ⟨85,25,85,36⟩), (.loc 25 ⟨85,38,85,50⟩)] 0 ⟨85,15,85,51⟩) ⟨85,8,85,51⟩]
/-- BacktrackingSolver.getSolutionIter; params [1, 23, 24, 25]; cells [23, 25, 35, 2]; scope 5; defaults 0 -/
def b_BacktrackingSolver_getSolutionIter : List FS := [
  .asg 36 ⟨105,8,105,20⟩ false (.attr (.loc 1 ⟨105,23,105,27⟩) 44 ⟨105,23,105,41⟩) ⟨105,8,105,41⟩,
  .asg 35 ⟨106,8,106,19⟩ true (.dict0 ⟨106,22,106,24⟩) ⟨106,8,106,24⟩,
  .asg 37 ⟨107,8,107,13⟩ false (.list [] ⟨107,16,107,18⟩) ⟨107,8,107,18⟩,
  .whl (.cBool true 0 ⟨108,14,108,18⟩) [.asg 38 ⟨109,12,109,15⟩ false (.comp (.tup [(.neg (.call (.bui 45 ⟨109,21,109,24⟩) [(.sub (.cel 25 ⟨109,25,109,37⟩) (.loc 2 ⟨109,38,109,46⟩) ⟨109,25,109,47⟩)] ⟨109,21,109,48⟩) ⟨109,20,109,48⟩), (.call (.bui 45 ⟨109,50,109,53⟩) [(.sub (.cel 23 ⟨109,54,109,61⟩) (.loc 2 ⟨109,62,109,70⟩) ⟨109,54,109,71⟩)] ⟨109,50,109,72⟩), (.loc 2 ⟨109,74,109,82⟩)] 0 ⟨109,19,109,83⟩) [(2, ⟨109,88,109,96⟩, (.cel 23 ⟨109,100,109,107⟩), [])] 6 ⟨109,18,109,108⟩) ⟨109,12,109,108⟩, .expr (.meth (.loc 38 ⟨110,12,110,15⟩) 47 ⟨110,12,110,20⟩ [] ⟨110,12,110,22⟩) ⟨110,12,110,22⟩, .forN 39 ⟨111,16,111,20⟩ false (.loc 38 ⟨111,24,111,27⟩) [.iff (.cmp (.sub (.loc 39 ⟨112,19,112,23⟩) (.neg (.cInt 1 0 ⟨112,25,112,26⟩) ⟨112,24,112,26⟩) ⟨112,19,112,27⟩) .notin (.cel 35 ⟨112,35,112,46⟩) ⟨112,19,112,46⟩) [.asg 2 ⟨113,20,113,28⟩ true (.sub (.loc 39 ⟨113,31,113,35⟩) (.neg (.cInt 1 0 ⟨113,37,113,38⟩) ⟨113,36,113,38⟩) ⟨113,31,113,39⟩) ⟨113,20,113,39⟩, .asg 33 ⟨114,20,114,26⟩ false (.slc (.sub (.cel 23 ⟨114,29,114,36⟩) (.cel 2 ⟨114,37,114,45⟩) ⟨114,29,114,46⟩) none ⟨114,47,114,48⟩ ⟨114,29,114,49⟩) ⟨114,20,114,49⟩, .iff (.loc 36 ⟨115,23,115,35⟩) [.asg 40 ⟨116,24,116,35⟩ false (.comp (.sub (.cel 23 ⟨116,39,116,46⟩) (.loc 43 ⟨116,47,116,48⟩) ⟨116,39,116,49⟩) [(43, ⟨116,54,116,55⟩, (.cel 23 ⟨116,59,116,66⟩), [(.bop true [(.cmp (.loc 43 ⟨116,70,116,71⟩) .notin (.cel 35 ⟨116,79,116,90⟩) ⟨116,70,116,90⟩), (.cmp (.loc 43 ⟨116,95,116,96⟩) .ne (.cel 2 ⟨116,100,116,108⟩) ⟨116,95,116,108⟩)] ⟨116,70,116,108⟩)])] 7 ⟨116,38,116,109⟩) ⟨116,24,116,109⟩] [.asg 40 ⟨118,24,118,35⟩ false (.cNone 0 ⟨118,38,118,42⟩) ⟨118,24,118,42⟩] ⟨115,20,118,42⟩, .brk ⟨119,20,119,25⟩] [] ⟨112,16,119,25⟩] [.yld (.meth (.cel 35 ⟨121,22,121,33⟩) 31 ⟨121,22,121,38⟩ [] ⟨121,22,121,40⟩) ⟨121,16,121,40⟩ ⟨121,16,121,40⟩, .iff (.not (.loc 37 ⟨122,23,122,28⟩) ⟨122,19,122,28⟩) [.retN ⟨123,20,123,26⟩] [] ⟨122,16,123,26⟩, .asgT [(2, ⟨124,16,124,24⟩, true), (33, ⟨124,26,124,32⟩, false), (40, ⟨124,34,124,45⟩, false)] 0 ⟨124,16,124,45⟩ (.meth (.loc 37 ⟨124,48,124,53⟩) 48 ⟨124,48,124,57⟩ [] ⟨124,48,124,59⟩) ⟨124,16,124,59⟩, .iff (.loc 40 ⟨125,19,125,30⟩) [.forN 3 ⟨126,24,126,30⟩ false (.loc 40 ⟨126,34,126,45⟩) [.expr (.meth (.loc 3 ⟨127,24,127,30⟩) 49 ⟨127,24,127,39⟩ [] ⟨127,24,127,41⟩) ⟨127,24,127,41⟩] [] ⟨126,20,127,41⟩] [] ⟨125,16,127,41⟩] ⟨111,12,127,41⟩, .whl (.cBool true 0 ⟨128,18,128,22⟩) [.iff (.not (.loc 33 ⟨129,23,129,29⟩) ⟨129,19,129,29⟩) [.delI (.cel 35 ⟨130,24,130,35⟩) (.cel 2 ⟨130,36,130,44⟩) ⟨130,24,130,45⟩ ⟨130,20,130,45⟩, .whl (.loc 37 ⟨131,26,131,31⟩) [.asgT [(2, ⟨132,24,132,32⟩, true), (33, ⟨132,34,132,40⟩, false), (40, ⟨132,42,132,53⟩, false)] 0 ⟨132,24,132,53⟩ (.meth (.loc 37 ⟨132,56,132,61⟩) 48 ⟨132,56,132,65⟩ [] ⟨132,56,132,67⟩) ⟨132,24,132,67⟩, .iff (.loc 40 ⟨133,27,133,38⟩) [.forN 3 ⟨134,32,134,38⟩ false (.loc 40 ⟨134,42,134,53⟩) [.expr (.meth (.loc 3 ⟨135,32,135,38⟩) 49 ⟨135,32,135,47⟩ [] ⟨135,32,135,49⟩) ⟨135,32,135,49⟩] [] ⟨134,28,135,49⟩] [] ⟨133,24,135,49⟩, .iff (.loc 33 ⟨136,27,136,33⟩) [.brk ⟨137,28,137,33⟩] [] ⟨136,24,137,33⟩, .delI (.cel 35 ⟨138,28,138,39⟩) (.cel 2 ⟨138,40,138,48⟩) ⟨138,28,138,49⟩ ⟨138,24,138,49⟩] [.retN ⟨140,24,140,30⟩] ⟨131,20,140,30⟩] [] ⟨129,16,140,30⟩, .asgS (.cel 35 ⟨141,16,141,27⟩) (.cel 2 ⟨141,28,141,36⟩) ⟨141,16,141,37⟩ (.meth (.loc 33 ⟨141,40,141,46⟩) 48 ⟨141,40,141,50⟩ [] ⟨141,40,141,52⟩) ⟨141,16,141,52⟩, .iff (.loc 40 ⟨142,19,142,30⟩) [.forN 3 ⟨143,24,143,30⟩ false (.loc 40 ⟨143,34,143,45⟩) [.expr (.meth (.loc 3 ⟨144,24,144,30⟩) 50 ⟨144,24,144,40⟩ [] ⟨144,24,144,42⟩) ⟨144,24,144,42⟩] [] ⟨143,20,144,42⟩] [] ⟨142,16,144,42⟩, .forT [(15, ⟨145,20,145,30⟩, false), (13, ⟨145,32,145,41⟩, false)] 0 ⟨145,20,145,41⟩ (.sub (.cel 25 ⟨145,45,145,57⟩) (.cel 2 ⟨145,58,145,66⟩) ⟨145,45,145,67⟩) [.iff (.not (.call (.loc 15 ⟨146,27,146,37⟩) [(.loc 13 ⟨146,38,146,47⟩), (.cel 23 ⟨146,49,146,56⟩), (.cel 35 ⟨146,58,146,69⟩), (.loc 40 ⟨146,71,146,82⟩)] ⟨146,27,146,83⟩) ⟨146,23,146,83⟩) [.brk ⟨147,24,147,29⟩] [] ⟨146,20,147,29⟩] [.brk ⟨149,20,149,25⟩] ⟨145,16,149,25⟩, .iff (.loc 40 ⟨150,19,150,30⟩) [.forN 3 ⟨151,24,151,30⟩ false (.loc 40 ⟨151,34,151,45⟩) [.expr (.meth (.loc 3 ⟨152,24,152,30⟩) 49 ⟨152,24,152,39⟩ [] ⟨152,24,152,41⟩) ⟨152,24,152,41⟩] [] ⟨151,20,152,41⟩] [] ⟨150,16,152,41⟩] [] ⟨128,12,152,41⟩, .expr (.meth (.loc 37 ⟨153,12,153,17⟩) 22 ⟨153,12,153,24⟩ [(.tup [(.cel 2 ⟨153,26,153,34⟩), (.loc 33 ⟨153,36,153,42⟩), (.loc 40 ⟨153,44,153,55⟩)] 0 ⟨153,25,153,56⟩)] ⟨153,12,153,57⟩) ⟨153,12,153,57⟩] [] ⟨108,8,153,57⟩,
  .opq (opqS 5 [4])]
/-- BacktrackingSolver.getSolutions; params [1, 23, 24, 25]; cells []; scope 8; defaults 0 -/
def b_BacktrackingSolver_getSolutions : List FS := [
  .ret (.call (.bui 30 ⟨164,15,164,19⟩) [(.meth (.loc 1 ⟨164,20,164,24⟩) 51 ⟨164,20,164,40⟩ [(.loc 23 ⟨164,41,164,48⟩), (.loc 24 ⟨164,50,164,61⟩), (.loc 25 ⟨164,63,164,75⟩)] ⟨164,20,164,76⟩)] ⟨164,15,164,77⟩) ⟨164,8,164,77⟩]
/-- Domain.resetState; params [1]; cells []; scope 9; defaults 0 -/
def b_Domain_resetState : List FS := [
  .expr (.meth (.loc 1 ⟨181,8,181,12⟩) 52 ⟨181,8,181,19⟩ [(.attr (.loc 1 ⟨181,20,181,24⟩) 53 ⟨181,20,181,32⟩)] ⟨181,8,181,33⟩) ⟨181,8,181,33⟩,
  .delS (.attr (.loc 1 ⟨182,12,182,16⟩) 53 ⟨182,12,182,24⟩) none ⟨182,25,182,26⟩ ⟨182,12,182,27⟩ ⟨182,8,182,27⟩,
  .delS (.attr (.loc 1 ⟨183,12,183,16⟩) 54 ⟨183,12,183,24⟩) none ⟨183,25,183,26⟩ ⟨183,12,183,27⟩ ⟨183,8,183,27⟩]
/-- Domain.pushState; params [1]; cells []; scope 10; defaults 0 -/
def b_Domain_pushState : List FS := [
  .expr (.meth (.attr (.loc 1 ⟨186,8,186,12⟩) 54 ⟨186,8,186,20⟩) 22 ⟨186,8,186,27⟩ [(.call (.bui 45 ⟨186,28,186,31⟩) [(.loc 1 ⟨186,32,186,36⟩)] ⟨186,28,186,37⟩)] ⟨186,8,186,38⟩) ⟨186,8,186,38⟩]
/-- Domain.popState; params [1]; cells []; scope 11; defaults 0 -/
def b_Domain_popState : List FS := [
  .asg 55 ⟨189,8,189,12⟩ false (.bin (.meth (.attr (.loc 1 ⟨189,15,189,19⟩) 54 ⟨189,15,189,27⟩) 48 ⟨189,15,189,31⟩ [] ⟨189,15,189,33⟩) .sub (.call (.bui 45 ⟨189,36,189,39⟩) [(.loc 1 ⟨189,40,189,44⟩)] ⟨189,36,189,45⟩) ⟨189,15,189,45⟩) ⟨189,8,189,45⟩,
  .iff (.loc 55 ⟨190,11,190,15⟩) [.expr (.meth (.loc 1 ⟨191,12,191,16⟩) 52 ⟨191,12,191,23⟩ [(.slc (.attr (.loc 1 ⟨191,24,191,28⟩) 53 ⟨191,24,191,36⟩) (some (.neg (.loc 55 ⟨191,38,191,42⟩) ⟨191,37,191,42⟩)) ⟨191,37,191,43⟩ ⟨191,24,191,44⟩)] ⟨191,12,191,45⟩) ⟨191,12,191,45⟩, .delS (.attr (.loc 1 ⟨192,16,192,20⟩) 53 ⟨192,16,192,28⟩) (some (.neg (.loc 55 ⟨192,30,192,34⟩) ⟨192,29,192,34⟩)) ⟨192,29,192,35⟩ ⟨192,16,192,36⟩ ⟨192,12,192,36⟩] [] ⟨190,8,192,36⟩]
/-- Domain.hideValue; params [1, 56]; cells []; scope 12; defaults 0 -/
def b_Domain_hideValue : List FS := [
  .expr (.meth (.loc 1 ⟨195,8,195,12⟩) 57 ⟨195,8,195,19⟩ [(.loc 56 ⟨195,20,195,25⟩)] ⟨195,8,195,26⟩) ⟨195,8,195,26⟩,
  .expr (.meth (.attr (.loc 1 ⟨196,8,196,12⟩) 53 ⟨196,8,196,20⟩) 22 ⟨196,8,196,27⟩ [(.loc 56 ⟨196,28,196,33⟩)] ⟨196,8,196,34⟩) ⟨196,8,196,34⟩]
/-- Constraint.__eq__; params [1, 58]; cells []; scope 13; defaults 0 -/
def b_Constraint___eq__ : List FS := [
  .ret (.bop true [(.call (.bui 16 ⟨200,15,200,25⟩) [(.loc 58 ⟨200,26,200,31⟩), (.glo 17 ⟨200,33,200,43⟩)] ⟨200,15,200,44⟩), (.cmp (.loc 1 ⟨200,49,200,53⟩) .is (.loc 58 ⟨200,57,200,62⟩) ⟨200,49,200,62⟩)] ⟨200,15,200,62⟩) ⟨200,8,200,62⟩]
/-- Constraint.preProcess; params [1, 13, 23, 24, 25]; cells []; scope 14; defaults 0 -/
def b_Constraint_preProcess : List FS := [
  .iff (.cmp (.call (.bui 45 ⟨206,11,206,14⟩) [(.loc 13 ⟨206,15,206,24⟩)] ⟨206,11,206,25⟩) .eq (.cInt 1 0 ⟨206,29,206,30⟩) ⟨206,11,206,30⟩) [.asg 2 ⟨207,12,207,20⟩ false (.sub (.loc 13 ⟨207,23,207,32⟩) (.cInt 0 0 ⟨207,33,207,34⟩) ⟨207,23,207,35⟩) ⟨207,12,207,35⟩, .asg 3 ⟨208,12,208,18⟩ false (.sub (.loc 23 ⟨208,21,208,28⟩) (.loc 2 ⟨208,29,208,37⟩) ⟨208,21,208,38⟩) ⟨208,12,208,38⟩, .forN 56 ⟨209,16,209,21⟩ false (.slc (.loc 3 ⟨209,25,209,31⟩) none ⟨209,32,209,33⟩ ⟨209,25,209,34⟩) [.opq (opqS 12 [0, 2, 0])] [] ⟨209,12,211,40⟩, .expr (.meth (.loc 24 ⟨212,12,212,23⟩) 57 ⟨212,12,212,30⟩ [(.tup [(.loc 1 ⟨212,32,212,36⟩), (.loc 13 ⟨212,38,212,47⟩)] 0 ⟨212,31,212,48⟩)] ⟨212,12,212,49⟩) ⟨212,12,212,49⟩, .expr (.meth (.sub (.loc 25 ⟨213,12,213,24⟩) (.loc 2 ⟨213,25,213,33⟩) ⟨213,12,213,34⟩) 57 ⟨213,12,213,41⟩ [(.tup [(.loc 1 ⟨213,43,213,47⟩), (.loc 13 ⟨213,49,213,58⟩)] 0 ⟨213,42,213,59⟩)] ⟨213,12,213,60⟩) ⟨213,12,213,60⟩] [] ⟨206,8,213,60⟩]
/-- Constraint.forwardCheck; params [1, 13, 23, 35, 59]; cells []; scope 15; defaults 1 -/
def b_Constraint_forwardCheck : List FS := [
  .asg 60 ⟨216,8,216,26⟩ false (.loc 59 ⟨216,29,216,40⟩) ⟨216,8,216,40⟩,
  .forN 2 ⟨217,12,217,20⟩ false (.loc 13 ⟨217,24,217,33⟩) [.iff (.cmp (.loc 2 ⟨218,15,218,23⟩) .notin (.loc 35 ⟨218,31,218,42⟩) ⟨218,15,218,42⟩) [.iff (.cmp (.loc 60 ⟨219,19,219,37⟩) .is (.loc 59 ⟨219,41,219,52⟩) ⟨219,19,219,52⟩) [.asg 60 ⟨220,20,220,38⟩ false (.loc 2 ⟨220,41,220,49⟩) ⟨220,20,220,49⟩] [.brk ⟨222,20,222,25⟩] ⟨219,16,222,25⟩] [] ⟨218,12,222,25⟩] [.iff (.cmp (.loc 60 ⟨224,15,224,33⟩) .isnot (.loc 59 ⟨224,41,224,52⟩) ⟨224,15,224,52⟩) [.asg 3 ⟨225,16,225,22⟩ false (.sub (.loc 23 ⟨225,25,225,32⟩) (.loc 60 ⟨225,33,225,51⟩) ⟨225,25,225,52⟩) ⟨225,16,225,52⟩, .iff (.loc 3 ⟨226,19,226,25⟩) [.forN 56 ⟨227,24,227,29⟩ false (.slc (.loc 3 ⟨227,33,227,39⟩) none ⟨227,40,227,41⟩ ⟨227,33,227,42⟩) [.asgS (.loc 35 ⟨228,24,228,35⟩) (.loc 60 ⟨228,36,228,54⟩) ⟨228,24,228,55⟩ (.loc 56 ⟨228,58,228,63⟩) ⟨228,24,228,63⟩, .iff (.not (.call (.loc 1 ⟨229,31,229,35⟩) [(.loc 13 ⟨229,36,229,45⟩), (.loc 23 ⟨229,47,229,54⟩), (.loc 35 ⟨229,56,229,67⟩), (.cBool false 0 ⟨229,69,229,74⟩)] ⟨229,31,229,75⟩) ⟨229,27,229,75⟩) [.expr (.meth (.loc 3 ⟨230,28,230,34⟩) 61 ⟨230,28,230,44⟩ [(.loc 56 ⟨230,45,230,50⟩)] ⟨230,28,230,51⟩) ⟨230,28,230,51⟩] [] ⟨229,24,230,51⟩] [] ⟨227,20,230,51⟩, .delI (.loc 35 ⟨231,24,231,35⟩) (.loc 60 ⟨231,36,231,54⟩) ⟨231,24,231,55⟩ ⟨231,20,231,55⟩] [] ⟨226,16,231,55⟩, .iff (.not (.loc 3 ⟨232,23,232,29⟩) ⟨232,19,232,29⟩) [.ret (.cBool false 0 ⟨233,27,233,32⟩) ⟨233,20,233,32⟩] [] ⟨232,16,233,32⟩] [] ⟨224,12,233,32⟩] ⟨217,8,233,32⟩,
  .ret (.cBool true 0 ⟨234,15,234,19⟩) ⟨234,8,234,19⟩]
/-- FunctionConstraint.__call__; params [1, 13, 23, 35, 36, 59]; cells [35, 59]; scope 16; defaults 2 -/
def b_FunctionConstraint___call__ : List FS := [
  .asg 62 ⟨242,8,242,13⟩ false (.comp (.meth (.cel 35 ⟨242,17,242,28⟩) 65 ⟨242,17,242,32⟩ [(.loc 43 ⟨242,33,242,34⟩), (.cel 59 ⟨242,36,242,47⟩)] ⟨242,17,242,48⟩) [(43, ⟨242,53,242,54⟩, (.loc 13 ⟨242,58,242,67⟩), [])] 17 ⟨242,16,242,68⟩) ⟨242,8,242,68⟩,
  .asg 63 ⟨243,8,243,15⟩ false (.call (.bui 45 ⟨243,18,243,21⟩) [(.comp (.loc 64 ⟨243,23,243,27⟩) [(64, ⟨243,32,243,36⟩, (.loc 62 ⟨243,40,243,45⟩), [(.cmp (.loc 64 ⟨243,49,243,53⟩) .is (.cel 59 ⟨243,57,243,68⟩) ⟨243,49,243,68⟩)])] 18 ⟨243,22,243,69⟩)] ⟨243,18,243,70⟩) ⟨243,8,243,70⟩,
  .iff (.loc 63 ⟨244,11,244,18⟩) [.ret (.bop true [(.bop false [(.attr (.loc 1 ⟨245,20,245,24⟩) 66 ⟨245,20,245,34⟩), (.methS (.loc 1 ⟨245,38,245,42⟩) 67 ⟨245,38,245,48⟩ (.loc 62 ⟨245,50,245,55⟩) ⟨245,49,245,55⟩ ⟨245,38,245,56⟩)] ⟨245,20,245,56⟩), (.bop false [(.not (.loc 36 ⟨245,67,245,79⟩) ⟨245,63,245,79⟩), (.cmp (.loc 63 ⟨245,83,245,90⟩) .ne (.cInt 1 0 ⟨245,94,245,95⟩) ⟨245,83,245,95⟩), (.meth (.loc 1 ⟨245,99,245,103⟩) 68 ⟨245,99,245,116⟩ [(.loc 13 ⟨245,117,245,126⟩), (.loc 23 ⟨245,128,245,135⟩), (.cel 35 ⟨245,137,245,148⟩)] ⟨245,99,245,149⟩)] ⟨245,63,245,149⟩)] ⟨245,19,245,150⟩) ⟨245,12,245,150⟩] [] ⟨244,8,245,150⟩,
  .ret (.methS (.loc 1 ⟨246,15,246,19⟩) 67 ⟨246,15,246,25⟩ (.loc 62 ⟨246,27,246,32⟩) ⟨246,26,246,32⟩ ⟨246,15,246,33⟩) ⟨246,8,246,33⟩]
/-- AllEqualConstraint.__call__; params [1, 13, 23, 35, 36, 59]; cells []; scope 19; defaults 2 -/
def b_AllEqualConstraint___call__ : List FS := [
  .asg 69 ⟨250,8,250,19⟩ false (.loc 59 ⟨250,22,250,33⟩) ⟨250,8,250,33⟩,
  .forN 2 ⟨251,12,251,20⟩ false (.loc 13 ⟨251,24,251,33⟩) [.asg 56 ⟨252,12,252,17⟩ false (.meth (.loc 35 ⟨252,20,252,31⟩) 65 ⟨252,20,252,35⟩ [(.loc 2 ⟨252,36,252,44⟩), (.loc 59 ⟨252,46,252,57⟩)] ⟨252,20,252,58⟩) ⟨252,12,252,58⟩, .iff (.cmp (.loc 69 ⟨253,15,253,26⟩) .is (.loc 59 ⟨253,30,253,41⟩) ⟨253,15,253,41⟩) [.asg 69 ⟨254,16,254,27⟩ false (.loc 56 ⟨254,30,254,35⟩) ⟨254,16,254,35⟩] [.iff (.bop true [(.cmp (.loc 56 ⟨255,17,255,22⟩) .isnot (.loc 59 ⟨255,30,255,41⟩) ⟨255,17,255,41⟩), (.cmp (.loc 56 ⟨255,46,255,51⟩) .ne (.loc 69 ⟨255,55,255,66⟩) ⟨255,46,255,66⟩)] ⟨255,17,255,66⟩) [.ret (.cBool false 0 ⟨256,23,256,28⟩) ⟨256,16,256,28⟩] [] ⟨255,12,256,28⟩] ⟨253,12,256,28⟩] [] ⟨251,8,256,28⟩,
  .iff (.bop true [(.loc 36 ⟨257,11,257,23⟩), (.cmp (.loc 69 ⟨257,28,257,39⟩) .isnot (.loc 59 ⟨257,47,257,58⟩) ⟨257,28,257,58⟩)] ⟨257,11,257,58⟩) [.forN 2 ⟨258,16,258,24⟩ false (.loc 13 ⟨258,28,258,37⟩) [.iff (.cmp (.loc 2 ⟨259,19,259,27⟩) .notin (.loc 35 ⟨259,35,259,46⟩) ⟨259,19,259,46⟩) [.asg 3 ⟨260,20,260,26⟩ false (.sub (.loc 23 ⟨260,29,260,36⟩) (.loc 2 ⟨260,37,260,45⟩) ⟨260,29,260,46⟩) ⟨260,20,260,46⟩, .iff (.cmp (.loc 69 ⟨261,23,261,34⟩) .notin (.loc 3 ⟨261,42,261,48⟩) ⟨261,23,261,48⟩) [.ret (.cBool false 0 ⟨262,31,262,36⟩) ⟨262,24,262,36⟩] [] ⟨261,20,262,36⟩, .forN 56 ⟨263,24,263,29⟩ false (.slc (.loc 3 ⟨263,33,263,39⟩) none ⟨263,40,263,41⟩ ⟨263,33,263,42⟩) [.iff (.cmp (.loc 56 ⟨264,27,264,32⟩) .ne (.loc 69 ⟨264,36,264,47⟩) ⟨264,27,264,47⟩) [.expr (.meth (.loc 3 ⟨265,28,265,34⟩) 61 ⟨265,28,265,44⟩ [(.loc 56 ⟨265,45,265,50⟩)] ⟨265,28,265,51⟩) ⟨265,28,265,51⟩] [] ⟨264,24,265,51⟩] [] ⟨263,20,265,51⟩] [] ⟨259,16,265,51⟩] [] ⟨258,12,265,51⟩] [] ⟨257,8,265,51⟩,
  .ret (.cBool true 0 ⟨266,15,266,19⟩) ⟨266,8,266,19⟩]
/-- InSetConstraint.preProcess; params [1, 13, 23, 24, 25]; cells []; scope 20; defaults 0 -/
def b_InSetConstraint_preProcess : List FS := [
  .forN 2 ⟨276,12,276,20⟩ false (.loc 13 ⟨276,24,276,33⟩) [.asg 3 ⟨277,12,277,18⟩ false (.sub (.loc 23 ⟨277,21,277,28⟩) (.loc 2 ⟨277,29,277,37⟩) ⟨277,21,277,38⟩) ⟨277,12,277,38⟩, .forN 56 ⟨278,16,278,21⟩ false (.slc (.loc 3 ⟨278,25,278,31⟩) none ⟨278,32,278,33⟩ ⟨278,25,278,34⟩) [.iff (.cmp (.loc 56 ⟨279,19,279,24⟩) .notin (.attr (.loc 1 ⟨279,32,279,36⟩) 70 ⟨279,32,279,41⟩) ⟨279,19,279,41⟩) [.expr (.meth (.loc 3 ⟨280,20,280,26⟩) 57 ⟨280,20,280,33⟩ [(.loc 56 ⟨280,34,280,39⟩)] ⟨280,20,280,40⟩) ⟨280,20,280,40⟩] [] ⟨279,16,280,40⟩] [] ⟨278,12,280,40⟩, .expr (.meth (.sub (.loc 25 ⟨281,12,281,24⟩) (.loc 2 ⟨281,25,281,33⟩) ⟨281,12,281,34⟩) 57 ⟨281,12,281,41⟩ [(.tup [(.loc 1 ⟨281,43,281,47⟩), (.loc 13 ⟨281,49,281,58⟩)] 0 ⟨281,42,281,59⟩)] ⟨281,12,281,60⟩) ⟨281,12,281,60⟩] [] ⟨276,8,281,60⟩,
  .expr (.meth (.loc 24 ⟨282,8,282,19⟩) 57 ⟨282,8,282,26⟩ [(.tup [(.loc 1 ⟨282,28,282,32⟩), (.loc 13 ⟨282,34,282,43⟩)] 0 ⟨282,27,282,44⟩)] ⟨282,8,282,45⟩) ⟨282,8,282,45⟩]
/-- ._law_even; params [71, 72, 73]; cells []; scope 21; defaults 0 -/
def b_x__law_even : List FS := [
  .ret (.cmp (.bin (.bin (.bin (.loc 71 ⟨287,12,287,15⟩) .add (.loc 72 ⟨287,18,287,21⟩) ⟨287,12,287,21⟩) .add (.loc 73 ⟨287,24,287,29⟩) ⟨287,12,287,29⟩) .mod (.cInt 2 0 ⟨287,33,287,34⟩) ⟨287,11,287,34⟩) .eq (.cInt 0 0 ⟨287,38,287,39⟩) ⟨287,11,287,39⟩) ⟨287,4,287,39⟩]
/-- ._law_sides; params [74, 75]; cells []; scope 22; defaults 0 -/
def b_x__law_sides : List FS := [
  .asg 76 ⟨289,4,289,9⟩ false (.cInt 0 0 ⟨289,12,289,13⟩) ⟨289,4,289,13⟩,
  .forN 77 ⟨290,8,290,13⟩ false (.call (.bui 81 ⟨290,17,290,22⟩) [(.cInt 16 0 ⟨290,23,290,25⟩)] ⟨290,17,290,26⟩) [.asg 78 ⟨291,8,291,15⟩ false (.cInt 1 0 ⟨291,18,291,19⟩) ⟨291,8,291,19⟩, .forN 79 ⟨292,12,292,13⟩ false (.call (.bui 81 ⟨292,17,292,22⟩) [(.call (.bui 45 ⟨292,23,292,26⟩) [(.loc 74 ⟨292,27,292,32⟩)] ⟨292,23,292,33⟩)] ⟨292,17,292,34⟩) [.asg 80 ⟨293,12,293,17⟩ false (.cmp (.bin (.bin (.loc 77 ⟨293,20,293,25⟩) .shr (.sub (.sub (.loc 74 ⟨293,29,293,34⟩) (.loc 79 ⟨293,35,293,36⟩) ⟨293,29,293,37⟩) (.cInt 0 0 ⟨293,38,293,39⟩) ⟨293,29,293,40⟩) ⟨293,20,293,40⟩) .band (.cInt 1 0 ⟨293,43,293,44⟩) ⟨293,20,293,44⟩) .eq (.bin (.bin (.loc 77 ⟨293,48,293,53⟩) .shr (.sub (.sub (.loc 74 ⟨293,57,293,62⟩) (.loc 79 ⟨293,63,293,64⟩) ⟨293,57,293,65⟩) (.cInt 1 0 ⟨293,66,293,67⟩) ⟨293,57,293,68⟩) ⟨293,48,293,68⟩) .band (.cInt 1 0 ⟨293,71,293,72⟩) ⟨293,48,293,72⟩) ⟨293,20,293,72⟩) ⟨293,12,293,72⟩, .asg 78 ⟨294,12,294,19⟩ false (.bin (.loc 78 ⟨294,22,294,29⟩) .mul (.ite (.loc 80 ⟨294,51,294,56⟩) (.bin (.cInt 1 0 ⟨294,33,294,34⟩) .add (.sub (.loc 75 ⟨294,37,294,44⟩) (.loc 79 ⟨294,45,294,46⟩) ⟨294,37,294,47⟩) ⟨294,33,294,47⟩) (.bin (.cInt 1 0 ⟨294,62,294,63⟩) .sub (.sub (.loc 75 ⟨294,66,294,73⟩) (.loc 79 ⟨294,74,294,75⟩) ⟨294,66,294,76⟩) ⟨294,62,294,76⟩) ⟨294,33,294,76⟩) ⟨294,22,294,77⟩) ⟨294,12,294,77⟩] [] ⟨292,8,294,77⟩, .asg 76 ⟨295,8,295,13⟩ false (.bin (.loc 76 ⟨295,16,295,21⟩) .add (.loc 78 ⟨295,24,295,31⟩) ⟨295,16,295,31⟩) ⟨295,8,295,31⟩] [] ⟨290,4,295,31⟩,
  .ret (.loc 76 ⟨296,11,296,16⟩) ⟨296,4,296,16⟩]
/-- .law; params [82]; cells [82, 83, 74, 84, 85, 86]; scope 23; defaults 0 -/
def b_x_law : List FS := [
  .asg 83 ⟨298,4,298,8⟩ true (.comp (.ite (.cmp (.loc 79 ⟨298,25,298,26⟩) .lt (.call (.bui 45 ⟨298,29,298,32⟩) [(.cel 82 ⟨298,33,298,39⟩)] ⟨298,29,298,40⟩) ⟨298,25,298,40⟩) (.sub (.cel 82 ⟨298,12,298,18⟩) (.loc 79 ⟨298,19,298,20⟩) ⟨298,12,298,21⟩) (.sub (.glo 97 ⟨298,46,298,55⟩) (.loc 79 ⟨298,56,298,57⟩) ⟨298,46,298,58⟩) ⟨298,12,298,58⟩) [(79, ⟨298,63,298,64⟩, (.call (.bui 81 ⟨298,68,298,73⟩) [(.cInt 7 0 ⟨298,74,298,75⟩)] ⟨298,68,298,76⟩), [])] 24 ⟨298,11,298,77⟩) ⟨298,4,298,77⟩,
  .asg 87 ⟨299,4,299,8⟩ false (.comp (.loc 79 ⟨299,12,299,13⟩) [(79, ⟨299,18,299,19⟩, (.call (.bui 81 ⟨299,23,299,28⟩) [(.cInt 6 0 ⟨299,29,299,30⟩)] ⟨299,23,299,31⟩), [(.bin (.bin (.bin (.cInt 1 0 ⟨299,35,299,36⟩) .add (.bin (.sub (.cel 83 ⟨299,39,299,43⟩) (.cInt 0 0 ⟨299,44,299,45⟩) ⟨299,39,299,46⟩) .mod (.cInt 63 0 ⟨299,49,299,51⟩) ⟨299,39,299,51⟩) ⟨299,35,299,51⟩) .shr (.loc 79 ⟨299,55,299,56⟩) ⟨299,35,299,56⟩) .band (.cInt 1 0 ⟨299,59,299,60⟩) ⟨299,35,299,60⟩)])] 25 ⟨299,11,299,61⟩) ⟨299,4,299,61⟩,
  .asg 74 ⟨300,4,300,9⟩ true (.comp (.sub (.glo 98 ⟨300,13,300,23⟩) (.loc 79 ⟨300,24,300,25⟩) ⟨300,13,300,26⟩) [(79, ⟨300,31,300,32⟩, (.loc 87 ⟨300,36,300,40⟩), [])] 26 ⟨300,12,300,41⟩) ⟨300,4,300,41⟩,
  .asg 75 ⟨301,4,301,11⟩ false (.comp (.bin (.bin (.sub (.cel 83 ⟨301,15,301,19⟩) (.bin (.cInt 1 0 ⟨301,20,301,21⟩) .add (.loc 79 ⟨301,24,301,25⟩) ⟨301,20,301,25⟩) ⟨301,15,301,26⟩) .mod (.cInt 2001 0 ⟨301,29,301,33⟩) ⟨301,15,301,33⟩) .sub (.cInt 1000 0 ⟨301,36,301,40⟩) ⟨301,15,301,40⟩) [(79, ⟨301,45,301,46⟩, (.loc 87 ⟨301,50,301,54⟩), [])] 25 ⟨301,14,301,55⟩) ⟨301,4,301,55⟩,
  .asg 88 ⟨302,4,302,11⟩ false (.call (.glo 92 ⟨302,14,302,21⟩) [] ⟨302,14,302,23⟩) ⟨302,4,302,23⟩,
  .expr (.meth (.loc 88 ⟨303,4,303,11⟩) 99 ⟨303,4,303,24⟩ [(.call (.bui 30 ⟨303,25,303,29⟩) [(.call (.bui 81 ⟨303,30,303,35⟩) [(.call (.bui 45 ⟨303,36,303,39⟩) [(.cel 74 ⟨303,40,303,45⟩)] ⟨303,36,303,46⟩)] ⟨303,30,303,47⟩)] ⟨303,25,303,48⟩), (.list [(.cInt 0 0 ⟨303,51,303,52⟩), (.cInt 1 0 ⟨303,54,303,55⟩)] ⟨303,50,303,56⟩)] ⟨303,4,303,57⟩) ⟨303,4,303,57⟩,
  .forN 84 ⟨304,8,304,13⟩ true (.call (.bui 81 ⟨304,17,304,22⟩) [(.cInt 4 0 ⟨304,23,304,24⟩)] ⟨304,17,304,25⟩) [.asg 89 ⟨305,8,305,11⟩ false (.comp (.loc 79 ⟨305,15,305,16⟩) [(79, ⟨305,21,305,22⟩, (.call (.bui 81 ⟨305,26,305,31⟩) [(.call (.bui 45 ⟨305,32,305,35⟩) [(.cel 74 ⟨305,36,305,41⟩)] ⟨305,32,305,42⟩)] ⟨305,26,305,43⟩), [(.cmp (.cel 84 ⟨305,47,305,52⟩) .isin (.sub (.cel 74 ⟨305,56,305,61⟩) (.loc 79 ⟨305,62,305,63⟩) ⟨305,56,305,64⟩) ⟨305,47,305,64⟩)])] 27 ⟨305,14,305,65⟩) ⟨305,8,305,65⟩, .iff (.cmp (.call (.bui 45 ⟨306,11,306,14⟩) [(.loc 89 ⟨306,15,306,18⟩)] ⟨306,11,306,19⟩) .eq (.cInt 1 0 ⟨306,23,306,24⟩) ⟨306,11,306,24⟩) [.expr (.meth (.loc 88 ⟨307,12,307,19⟩) 100 ⟨307,12,307,33⟩ [(.call (.glo 93 ⟨307,34,307,49⟩) [(.list [(.cInt 0 0 ⟨307,51,307,52⟩)] ⟨307,50,307,53⟩)] ⟨307,34,307,54⟩), (.loc 89 ⟨307,56,307,59⟩)] ⟨307,12,307,60⟩) ⟨307,12,307,60⟩] [.iff (.cmp (.call (.bui 45 ⟨308,13,308,16⟩) [(.loc 89 ⟨308,17,308,20⟩)] ⟨308,13,308,21⟩) .eq (.cInt 2 0 ⟨308,25,308,26⟩) ⟨308,13,308,26⟩) [.expr (.meth (.loc 88 ⟨309,12,309,19⟩) 100 ⟨309,12,309,33⟩ [(.call (.glo 94 ⟨309,34,309,52⟩) [] ⟨309,34,309,54⟩), (.loc 89 ⟨309,56,309,59⟩)] ⟨309,12,309,60⟩) ⟨309,12,309,60⟩] [.iff (.cmp (.call (.bui 45 ⟨310,13,310,16⟩) [(.loc 89 ⟨310,17,310,20⟩)] ⟨310,13,310,21⟩) .eq (.cInt 3 0 ⟨310,25,310,26⟩) ⟨310,13,310,26⟩) [.expr (.meth (.loc 88 ⟨311,12,311,19⟩) 100 ⟨311,12,311,33⟩ [(.glo 95 ⟨311,34,311,43⟩), (.loc 89 ⟨311,45,311,48⟩)] ⟨311,12,311,49⟩) ⟨311,12,311,49⟩] [] ⟨310,8,311,49⟩] ⟨308,8,311,49⟩] ⟨306,8,311,49⟩] [] ⟨304,4,311,49⟩,
  .asg2 90 76 ⟨312,4,312,8⟩ ⟨312,10,312,15⟩ 0 ⟨312,4,312,15⟩ (.list [] ⟨312,19,312,21⟩) (.cInt 0 0 ⟨312,23,312,24⟩) 0 ⟨312,18,312,25⟩ ⟨312,4,312,25⟩,
  .forN 85 ⟨313,8,313,16⟩ true (.meth (.loc 88 ⟨313,20,313,27⟩) 28 ⟨313,20,313,40⟩ [] ⟨313,20,313,42⟩) [.asg 91 ⟨314,8,314,13⟩ false (.comp (.loc 79 ⟨314,17,314,18⟩) [(79, ⟨314,23,314,24⟩, (.call (.bui 81 ⟨314,28,314,33⟩) [(.call (.bui 45 ⟨314,34,314,37⟩) [(.cel 74 ⟨314,38,314,43⟩)] ⟨314,34,314,44⟩)] ⟨314,28,314,45⟩), [(.cmp (.sub (.cel 85 ⟨314,49,314,57⟩) (.loc 79 ⟨314,58,314,59⟩) ⟨314,49,314,60⟩) .eq (.cInt 1 0 ⟨314,64,314,65⟩) ⟨314,49,314,65⟩)])] 28 ⟨314,16,314,66⟩) ⟨314,8,314,66⟩, .asg 86 ⟨315,8,315,12⟩ true (.comp (.loc 84 ⟨315,16,315,21⟩) [(79, ⟨315,26,315,27⟩, (.loc 91 ⟨315,31,315,36⟩), []), (84, ⟨315,41,315,46⟩, (.sub (.cel 74 ⟨315,50,315,55⟩) (.loc 79 ⟨315,56,315,57⟩) ⟨315,50,315,58⟩), [])] 29 ⟨315,15,315,59⟩) ⟨315,8,315,59⟩, .iff (.bop false [(.cmp (.loc 91 ⟨316,11,316,16⟩) .isin (.loc 90 ⟨316,20,316,24⟩) ⟨316,11,316,24⟩), (.comp (.loc 84 ⟨316,29,316,34⟩) [(84, ⟨316,39,316,44⟩, (.cel 86 ⟨316,48,316,52⟩), [(.cmp (.bin (.meth (.cel 86 ⟨316,56,316,60⟩) 101 ⟨316,56,316,66⟩ [(.loc 84 ⟨316,67,316,72⟩)] ⟨316,56,316,73⟩) .mod (.cInt 2 0 ⟨316,76,316,77⟩) ⟨316,56,316,77⟩) .eq (.cInt 1 0 ⟨316,81,316,82⟩) ⟨316,56,316,82⟩)])] 30 ⟨316,28,316,83⟩)] ⟨316,11,316,83⟩) [.ret (.cBool false 0 ⟨317,19,317,24⟩) ⟨317,12,317,24⟩] [] ⟨316,8,317,24⟩, .expr (.meth (.loc 90 ⟨318,8,318,12⟩) 22 ⟨318,8,318,19⟩ [(.loc 91 ⟨318,20,318,25⟩)] ⟨318,8,318,26⟩) ⟨318,8,318,26⟩, .asg 78 ⟨319,8,319,15⟩ false (.cInt 1 0 ⟨319,18,319,19⟩) ⟨319,8,319,19⟩, .forN 79 ⟨320,12,320,13⟩ false (.loc 91 ⟨320,17,320,22⟩) [.asg 78 ⟨321,12,321,19⟩ false (.bin (.loc 78 ⟨321,22,321,29⟩) .mul (.sub (.loc 75 ⟨321,32,321,39⟩) (.loc 79 ⟨321,40,321,41⟩) ⟨321,32,321,42⟩) ⟨321,22,321,42⟩) ⟨321,12,321,42⟩] [] ⟨320,8,321,42⟩, .asg 76 ⟨322,8,322,13⟩ false (.bin (.loc 76 ⟨322,16,322,21⟩) .add (.loc 78 ⟨322,24,322,31⟩) ⟨322,16,322,31⟩) ⟨322,8,322,31⟩] [] ⟨313,4,322,31⟩,
  .ret (.cmp (.bin (.cInt 16 0 ⟨323,11,323,13⟩) .mul (.loc 76 ⟨323,16,323,21⟩) ⟨323,11,323,21⟩) .eq (.call (.glo 96 ⟨323,25,323,35⟩) [(.cel 74 ⟨323,36,323,41⟩), (.loc 75 ⟨323,43,323,50⟩)] ⟨323,25,323,51⟩) ⟨323,11,323,51⟩) ⟨323,4,323,51⟩]

/-- the defs, by where they stand in the heap -/
def fnT : List (Nat × FnI) := [
  (64, ⟨[1, 2, 3], [], [], b_Problem_addVariable, 0⟩),
  (71, ⟨[1, 13, 3], [], [], b_Problem_addVariables, 1⟩),
  (79, ⟨[1, 15, 13], [.none], [], b_Problem_addConstraint, 2⟩),
  (93, ⟨[1], [], [], b_Problem_getSolutions, 3⟩),
  (107, ⟨[1], [], [], b_Problem__getArgs, 4⟩),
  (169, ⟨[1, 23, 24, 25], [], [23, 25, 35, 2], b_BacktrackingSolver_getSolutionIter, 5⟩),
  (183, ⟨[1, 23, 24, 25], [], [], b_BacktrackingSolver_getSolutions, 8⟩),
  (240, ⟨[1], [], [], b_Domain_resetState, 9⟩),
  (247, ⟨[1], [], [], b_Domain_pushState, 10⟩),
  (254, ⟨[1], [], [], b_Domain_popState, 11⟩),
  (261, ⟨[1, 56], [], [], b_Domain_hideValue, 12⟩),
  (282, ⟨[1, 58], [], [], b_Constraint___eq__, 13⟩),
  (297, ⟨[1, 13, 23, 24, 25], [], [], b_Constraint_preProcess, 14⟩),
  (305, ⟨[1, 13, 23, 35, 59], [.st 218], [], b_Constraint_forwardCheck, 15⟩),
  (333, ⟨[1, 13, 23, 35, 36, 59], [.bool false, .st 218], [35, 59], b_FunctionConstraint___call__, 16⟩),
  (353, ⟨[1, 13, 23, 35, 36, 59], [.bool false, .st 218], [], b_AllEqualConstraint___call__, 19⟩),
  (387, ⟨[1, 13, 23, 24, 25], [], [], b_InSetConstraint_preProcess, 20⟩),
  (407, ⟨[71, 72, 73], [], [], b_x__law_even, 21⟩),
  (414, ⟨[74, 75], [], [], b_x__law_sides, 22⟩),
  (419, ⟨[82], [], [82, 83, 74, 84, 85, 86], b_x_law, 23⟩)]
def fnAddr : List Nat := [64, 71, 79, 93, 107, 169, 183, 240, 247, 254, 261, 282, 297, 305, 333, 353, 387, 407, 414, 419]
end Mine
set_option maxRecDepth 100000
namespace Mine
noncomputable section
open PySem

def ttAll (I : IP) (c : Bool) (and : Bool) : List FE → AS → Res Bool
  | [], σ => ret and σ
  | e :: r, σ => bnd (I.tt e c σ) fun b σ => br and (br b (ttAll I c and r σ) (ret false σ)) (br b (ret true σ) (ttAll I c and r σ))
def bopV (I : IP) (c : Bool) (and : Bool) : List FE → AS → Res AV
  | [], _ => none
  | [e], σ => I.ev e c σ
  | e :: r, σ => bnd (I.ev e c σ) fun v σ => ob (truthy v σ) fun b => br and (br b (bopV I c and r σ) (ret v σ)) (br b (ret v σ) (bopV I c and r σ))
def evO (I : IP) (c : Bool) (e : Option FE) (σ : AS) : Res (Option AV) := opt e (fun e => bnd (I.ev e c σ) fun v σ => ret (some v) σ) (ret none σ)

abbrev EV := IP → Bool → AS → Res AV
def eVal (v : AV) : EV := fun _ _ σ => ret v σ
def eLoc (x : Nat) : EV := fun _ c σ => ob (getN c x σ) fun v => ret v σ
def eCel (x : Nat) : EV := fun _ _ σ => ob (lk σ.f.ce x) fun v => ob v fun v => ret v σ
def eGlo (x : Nat) : EV := fun _ _ σ => ob (lk gloT x) fun a => ret (.st a) σ
def eBui (x : Nat) : EV := fun _ _ σ => ob (lk buiT x) fun v => ret v σ
def eAttr (o : FE) (x : Nat) : EV := fun I c σ => bnd (I.ev o c σ) fun v σ => ob (attrOp v x σ) fun r => ret r σ
def eCall (f : FE) (args : List FE) : EV := fun I c σ => bnd (I.ev f c σ) fun fv σ => bnd (evs I c args σ) fun vs σ => I.call fv vs σ
def eMeth (o : FE) (x : Nat) (args : List FE) : EV := fun I c σ => bnd (I.ev o c σ) fun v σ => ob (methSel v x σ) fun g => bnd (evs I c args σ) fun vs σ => methOp I v x vs σ g
def eMethS (o : FE) (x : Nat) (a : FE) : EV := fun I c σ => bnd (I.ev o c σ) fun v σ => ob (attrOp v x σ) fun f => bnd (I.ev a c σ) fun w σ => ob (isRef w) fun i => ob (listAt σ i) fun vs => I.call f vs σ
def eCmp (k : FC) (l : FE) (op : COp) (r : FE) : EV := fun I c σ => bnd (I.ev l c σ) fun a σ => bnd (I.ev r c σ) fun b σ => ob (cmpOp k op a b σ) fun x => ret (.bool x) σ
def eNot (x : FE) : EV := fun I c σ => bnd (I.ev x c σ) fun v σ => ob (truthy v σ) fun b => ret (.bool (!b)) σ
def eNeg (x : FE) : EV := fun I c σ => bnd (I.ev x c σ) fun v σ => ob (isInt v) fun i => ret (.int (-i)) σ
def eBin (k : FC) (l : FE) (op : BOp) (r : FE) : EV := fun I c σ => bnd (I.ev l c σ) fun a σ => bnd (I.ev r c σ) fun b σ => ob (binOp k op a b) fun x => ret x σ
def eSub (k : FC) (o i : FE) : EV := fun I c σ => bnd (I.ev o c σ) fun a σ => bnd (I.ev i c σ) fun b σ => ob (subOp k a b σ) fun x => ret x σ
def eSlc (o : FE) (lo : Option FE) : EV := fun I c σ => bnd (I.ev o c σ) fun a σ => bnd (evO I c lo σ) fun b σ => sliceOp a b σ
def eList (xs : List FE) : EV := fun I c σ => bnd (evs I c xs σ) fun vs σ => br (sm vs) (ret (.ref σ.m) (σ.new (.list vs))) none
def eTup (xs : List FE) : EV := fun I c σ => bnd (evs I c xs σ) fun vs σ => br (sm vs) (ret (.ref σ.m) (σ.new (.tup vs))) none
def eDict0 : EV := fun _ _ σ => ret (.ref σ.m) (σ.new (.dict []))
def clear (σ : AS) : AS := σ.put ⟨σ.f.lo, σ.f.ce, []⟩
def firstIt : List (Nat × Pos × FE × List FE) → Option FE
  | [] => none
  | g :: _ => some g.2.2.1
def eComp (elt : FE) (gens : List (Nat × Pos × FE × List FE)) : EV := fun I c σ => ob (firstIt gens) fun it => br c none (bnd (I.ev it c σ) fun v σ => bnd (pyIter v σ) fun j σ =>
  bnd (newIt (.list []) σ) fun acc σ => ob (I.cl elt gens j acc (clear σ)) fun σ => ret (.ref acc) (clear σ))
def eIte (t a b : FE) : EV := fun I c σ => bnd (I.tt t c σ) fun x σ => br x (I.ev a c σ) (I.ev b c σ)
def evS (k : FC) : FE → EV
  | .cNone _ _ => eVal .none
  | .cBool b _ _ => eVal (.bool b)
  | .cInt i _ _ => eVal (.int i)
  | .cStr x _ _ => eVal (.str x)
  | .loc x _ => eLoc x
  | .cel x _ => eCel x
  | .glo x _ => eGlo x
  | .bui x _ => eBui x
  | .attr o x _ => eAttr o x
  | .call f args _ => eCall f args
  | .meth o x _ args _ => eMeth o x args
  | .methS o x _ a _ _ => eMethS o x a
  | .cmp l op r _ => eCmp k l op r
  | .bop and vs _ => fun I c σ => bopV I c and vs σ
  | .not x _ => eNot x
  | .neg x _ => eNeg x
  | .bin l op r _ => eBin k l op r
  | .sub o i _ => eSub k o i
  | .slc o lo _ _ => eSlc o lo
  | .list xs _ => eList xs
  | .tup xs _ _ => eTup xs
  | .dict0 _ => eDict0
  | .comp elt gens _ _ => eComp elt gens
  | .ite t a b _ => eIte t a b
  | .opq _ => fun _ _ _ => none

abbrev TV := IP → Bool → AS → Res Bool
def tNot (x : FE) : TV := fun I c σ => bnd (I.tt x c σ) fun b σ => ret (!b) σ
def tVal (e : FE) : TV := fun I c σ => bnd (I.ev e c σ) fun v σ => ob (truthy v σ) fun b => ret b σ
def tCmp (k : FC) (l : FE) (op : COp) (r : FE) : TV := fun I c σ => bnd (I.ev l c σ) fun a σ => bnd (I.ev r c σ) fun b σ => ob (cmpOp k op a b σ) fun x => ret x σ
def ttS (k : FC) : FE → TV
  | .bop and vs _ => fun I c σ => ttAll I c and vs σ
  | .not x _ => tNot x
  | .cmp l op r _ => tCmp k l op r
  | .ite .. => fun _ _ _ => none
  | e => tVal e

def tnames : List (Nat × Pos × Bool) → List (Nat × Bool)
  | [] => []
  | p :: r => (p.1, p.2.2) :: tnames r

def unpackV (v : AV) (σ : AS) : Option (List AV) := ob (isRef v) fun i => tupAt σ i
def delAt (o i : AV) (σ : AS) : Option AS := ob (isRef o) fun j => ob (isInt i) fun k => ob (dictAt σ j) fun es => ob (lkI k es) fun _ => some (σ.set j (.dict (dropI k es)))
def delCut (o : AV) (lo : Option AV) (σ : AS) : Option AS := ob (isRef o) fun j => ob (listAt σ j) fun xs => ob (keepAt xs lo) fun ys => some (σ.set j (.list ys))
def setAt (o i v : AV) (σ : AS) : Option AS := ob (isRef o) fun j => ob (isInt i) fun k => ob (dictAt σ j) fun es => br (sm es) (some (σ.set j (.dict (upI k v es)))) none

abbrev XV := IP → AS → Res Fl
def xAsg (x : Nat) (cl : Bool) (e : FE) : XV := fun I σ => bnd (I.ev e false σ) fun v σ => ob (storeN x cl v σ) fun σ => ret .next σ
def xAsgT (xs : List (Nat × Pos × Bool)) (e : FE) : XV := fun I σ => bnd (I.ev e false σ) fun v σ => ob (unpackV v σ) fun vs => ob (storeAll (tnames xs) vs σ) fun σ => ret .next σ
def xAsg2 (x y : Nat) (v w : FE) : XV := fun I σ => bnd (I.ev v false σ) fun a σ => bnd (I.ev w false σ) fun b σ => ob (setL y b σ) fun σ => ob (setL x a σ) fun σ => ret .next σ
def xAsgS (o i e : FE) : XV := fun I σ => bnd (I.ev e false σ) fun v σ => bnd (I.ev o false σ) fun a σ => bnd (I.ev i false σ) fun b σ => ob (setAt a b v σ) fun σ => ret .next σ
def xExpr (e : FE) : XV := fun I σ => bnd (I.ev e false σ) fun _ σ => ret .next σ
def xIff (t : FE) (a b : List FS) : XV := fun I σ => bnd (I.tt t false σ) fun x σ => br x (I.exs a σ) (I.exs b σ)
def flK (f : Fl) (n b : AS → Res Fl) (r : AV → AS → Res Fl) : AS → Res Fl := match f with
  | .next => n
  | .brk => b
  | .ret v => r v
def xFor (xs : List (Nat × Bool)) (tu : Bool) (it : FE) (body els : List FS) : XV := fun I σ => bnd (I.ev it false σ) fun v σ => bnd (pyIter v σ) fun j σ =>
  bnd (I.lp xs tu j body σ) fun f σ => flK f (fun σ => I.exs els σ) (ret .next) (fun v => ret (.ret v)) σ
def xWhl (t : FE) (body els : List FS) : XV := fun I σ => I.wh t body els σ
def xRet (e : FE) : XV := fun I σ => bnd (I.ev e false σ) fun v σ => ret (.ret v) σ
def xVal (f : Fl) : XV := fun _ σ => ret f σ
def xDelI (o i : FE) : XV := fun I σ => bnd (I.ev o false σ) fun a σ => bnd (I.ev i false σ) fun b σ => ob (delAt a b σ) fun σ => ret .next σ
def xDelS (o : FE) (lo : Option FE) : XV := fun I σ => bnd (I.ev o false σ) fun a σ => bnd (evO I false lo σ) fun b σ => ob (delCut a b σ) fun σ => ret .next σ
def exS : FS → XV
  | .asg x _ cl v _ => xAsg x cl v
  | .asgT xs _ _ v _ => xAsgT xs v
  | .asg2 x y _ _ _ _ v w _ _ _ => xAsg2 x y v w
  | .asgS o i _ v _ => xAsgS o i v
  | .expr e _ => xExpr e
  | .iff t a b _ => xIff t a b
  | .forN x _ cl it body els _ => xFor [(x, cl)] false it body els
  | .forT xs _ _ it body els _ => xFor (tnames xs) true it body els
  | .whl t body els _ => xWhl t body els
  | .ret e _ => xRet e
  | .retN _ => xVal (.ret .none)
  | .brk _ => xVal .brk
  | .delI o i _ _ => xDelI o i
  | .delS o lo _ _ _ => xDelS o lo
  | .yld .. => fun _ _ => none
  | .opq _ => fun _ _ => none

def exsS (I : IP) : List FS → AS → Res Fl
  | [], σ => ret .next σ
  | s :: r, σ => bnd (exS s I σ) fun f σ => flK f (fun σ => exsS I r σ) (ret .brk) (fun v => ret (.ret v)) σ

def storeT (xs : List (Nat × Bool)) (tu : Bool) (v : AV) (σ : AS) : Option AS := br tu (ob (unpackV v σ) fun vs => storeAll xs vs σ) (storeAll xs [v] σ)
/-- a for's turns: .next where the items are through -/
def lpS (I : IP) (xs : List (Nat × Bool)) (tu : Bool) (j : Nat) (body : List FS) (σ : AS) : Res Fl := bnd (next j σ) fun v σ =>
  opt v (fun v => ob (storeT xs tu v σ) fun σ => bnd (I.exs body σ) fun f σ => flK f (fun σ => I.lp xs tu j body σ) (ret .brk) (fun v => ret (.ret v)) σ) (ret .next σ)
def whS (I : IP) (t : FE) (body els : List FS) (σ : AS) : Res Fl := bnd (I.tt t false σ) fun b σ =>
  br b (bnd (I.exs body σ) fun f σ => flK f (fun σ => I.wh t body els σ) (ret .next) (fun v => ret (.ret v)) σ) (I.exs els σ)

abbrev GL := List (Nat × Pos × FE × List FE)
def clEmit (I : IP) (elt : FE) (acc : Nat) (σ : AS) : Option AS := ob (I.ev elt true σ) fun p => ob (listAt p.2 acc) fun vs => br (sm vs) (some (p.2.set acc (.list (vs ++ [p.1])))) none
def clDeep (I : IP) (elt : FE) (acc : Nat) (r : GL) (it : FE) (σ : AS) : Option AS := ob (I.ev it true σ) fun p => ob (pyIter p.1 p.2) fun q => I.cl elt r q.1 acc q.2
def clIn (I : IP) (elt : FE) (acc : Nat) (r : GL) (σ : AS) : Option AS := opt (firstIt r) (fun it => clDeep I elt acc r it σ) (clEmit I elt acc σ)
def clS (I : IP) (elt : FE) (gens : GL) (j acc : Nat) (σ : AS) : Option AS := match gens with
  | [] => none
  | g :: r => ob (next j σ) fun p => opt p.1 (fun v => ob (ttAll I true true g.2.2.2 (setK g.1 v p.2)) fun q =>
      br q.1 (ob (clIn I elt acc r q.2) fun σ => I.cl elt (g :: r) j acc σ) (I.cl elt (g :: r) j acc q.2)) (some p.2)

/-- the generator's parts: the three first statements, the loop's two, the for, the two behind it -/
structure GP where
  h : List FS
  a : List FS
  x : Nat × Bool
  it : FE
  body : List FS
  y : FE
  els : List FS
  z : List FS
def genParts : List FS → Option GP
  | [s, t, u, .whl _ [a, b, .forN x _ cl it body (.yld y _ _ :: els) _, v, w] _ _, _] => some ⟨[s, t, u], [a, b], (x, cl), it, body, y, els, [v, w]⟩
  | _ => none
def noneV : AV → Bool
  | .none => true
  | _ => false
/-- what follows a turn's for: on, or through -/
def flG (f : Fl) (n : AS → Res (List AV)) (r : AS → Res (List AV)) : AS → Res (List AV) := match f with
  | .next => n
  | .brk => fun _ => none
  | .ret v => br (noneV v) r (fun _ => none)
/-- behind a yield: the rest of the else, the rest of the turn, the turns to come -/
def grest (I : IP) (g : GP) (k : List AV → AS → Res (List AV)) (acc : List AV) (σ : AS) : Res (List AV) := bnd (I.exs g.els σ) fun f σ => flG f (fun σ => bnd (I.exs g.z σ) fun f σ => flG f (fun σ => k acc σ) (ret acc) σ) (ret acc) σ
def gturn (I : IP) (g : GP) (k : List AV → AS → Res (List AV)) (acc : List AV) (f : Fl) (σ : AS) : Res (List AV) := match f with
  | .brk => bnd (I.exs g.z σ) fun f σ => flG f (fun σ => k acc σ) (ret acc) σ
  | .next => bnd (I.ev g.y false σ) fun y σ => br (Nat.beq σ.g 1) (grest I g k (acc ++ [y]) σ) none
  | .ret _ => none
def gloop (I : IP) (g : GP) : Nat → List AV → AS → Res (List AV)
  | 0, _, _ => none
  | n + 1, acc, σ => bnd (I.exs g.a σ) fun f σ => flG f (fun σ => bnd (I.ev g.it false σ) fun v σ => bnd (pyIter v σ) fun j σ =>
    bnd (I.lp [g.x] false j g.body σ) fun f σ => gturn I g (gloop I g n) acc f σ) (fun _ => none) σ
def isOwn (a : Nat) : MS → Bool
  | .own b => Nat.beq b a
  | .b _ => false
def hdV : List AV → Option AV
  | [] => none
  | v :: _ => some v
def genRun (I : IP) (args : List AV) (σ : AS) : Res AV := br (Nat.beq σ.g 0) (ob (hdV args) fun v => ob (methSel v 51 σ) fun w => br (isOwn 169 w) (ob (lk fnT 169) fun fi => ob (bindFn fi args) fun f => ob (genParts fi.body) fun g =>
  bnd (I.exs g.h ((σ.push f).gen 1)) fun f σ => bnd (flG f (fun σ => gloop I g 60 [] σ) (fun _ => none) σ) fun acc σ => ob σ.pop fun σ => br (Nat.beq σ.g 1) (br (sm acc) (ret (.ref σ.m) ((σ.gen 2).new (.list acc))) none) none) none) none

def retV (f : Fl) : Option AV := match f with
  | .next => some .none
  | .brk => none
  | .ret v => some v
def callFn (I : IP) (fi : FnI) (args : List AV) (σ : AS) : Res AV := ob (bindFn fi args) fun f => bnd (I.exs fi.body (σ.push f)) fun f σ => ob (retV f) fun v => ob σ.pop fun σ => ret v σ
def callSt (a : Nat) (I : IP) (args : List AV) (σ : AS) : Res AV := br (Nat.beq a 183) (genRun I args σ) (br (Nat.beq a 169) none (opt (lk fnT a) (fun fi => callFn I fi args σ) (construct a args σ)))
def callOb (i : Nat) (I : IP) (args : List AV) (σ : AS) : Res AV := ob (instNs σ i) fun C => ob (lk callT C) fun a => ob (lk fnT a) fun fi => callFn I fi (.ref i :: args) σ
def callS : AV → IP → List AV → AS → Res AV
  | .st a => callSt a
  | .ref i => callOb i
  | .bi x => fun _ args σ => ob (lk builtinT x) fun f => f args σ
  | .ty x => fun _ args σ => ob (lk typeT x) fun f => f args σ
  | _ => fun _ _ _ => none

def stepI (k : FC) (I : IP) : IP where
  ev := fun e c σ => evS k e I c σ
  tt := fun e c σ => ttS k e I c σ
  exs := fun l σ => exsS I l σ
  lp := fun xs tu j body σ => lpS I xs tu j body σ
  wh := fun t body els σ => whS I t body els σ
  cl := fun elt gens j acc σ => clS I elt gens j acc σ
  call := fun f args σ => callS f I args σ
def runI (c : FC) : Nat → IP
  | 0 => .bot
  | n + 1 => stepI c (runI c n)

def as0 : AS := ⟨.nil, 0, 0, ⟨[], [], []⟩, []⟩
/-- the state behind the draw -/
def behind (ln : Nat) : Option AS := ob (lk fnT 419) fun fi => ob (bindFn fi [.st 420]) fun f => ob (exsS (runI ⟨0, ln⟩ 40) (fi.body.take 1) (as0.push f)) fun p => match p.1 with
  | .next => some p.2
  | _ => none
def drawn (ln : Nat) : Option (List AV) := ob (behind ln) fun σ => ob (lk σ.f.ce 83) fun v => ob v fun v => ob (isRef v) fun l => listAt σ l
def isT (x : Res Fl) : Bool := match x with
  | some (.ret (.bool true), _) => true
  | _ => false
def law2 (mask : Nat) (fuel : Nat) : Res Fl := ob (behind 7) fun σ => ob (lk fnT 419) fun fi => exsS (runI ⟨mask, 7⟩ fuel) (fi.body.drop 1) σ
end
end Mine
set_option maxRecDepth 100000
namespace Mine
open PySem PySem.W
def o (s : String) : Str := Str.ofString s
/-- a text, by its letters -/
def sx (l : List Nat) : String := String.ofList (l.map Char.ofNat)
def kh (P : Params) (x : Str) : Int := PyData.keyHash P x
def L2A {α : Type} (l : List α) : Array α := l.toArray
/-- a def of the text: where it stands, its qualname, code, defaults, doc, module -/
def stmtAt (a : Nat) (b : Option Nat) : PySem.Stmt := match b with
  | none => (PySem.Challenge.pw_de5024_01.main.body[a]?).getD (.Pass ⟨0, 0, 0, 0⟩)
  | some b => ((clsBody ((PySem.Challenge.pw_de5024_01.main.body[a]?).getD (.Pass ⟨0, 0, 0, 0⟩)))[b]?).getD (.Pass ⟨0, 0, 0, 0⟩)
def nameOf : PySem.Stmt → Str
  | .FunctionDef n _ _ _ _ _ _ _ _ _ => n
  | _ => Str.empty
def fdOf (a : Nat) (b : Option Nat) (q : Str) (code dfl doc pm : Value) (g bu : Addr) : FuncData :=
  { name := nameOf (stmtAt a b), qualname := q, params := paramsOf (stmtAt a b), body := .stmts (bodyOf (stmtAt a b)), scope := scopeOf (stmtAt a b), globals := g, closure := [], defaults := dfl, kwdefaults := .none,
    doc := doc, pyModule := pm, code := code, builtins := bu }
/-- the text's own objects, as its top leaves them -/
def KS (P : Params) : Frag := [
  (0, ⟨.type "dict", none, (.dict (L2A [⟨kh P (o "__name__"), .str (o "__name__") 1, .str (o "builtins") 160⟩, ⟨kh P (o "__doc__"), .str (o "__doc__") 2, .builtin (sx [98, 117, 105, 108, 116, 105, 110, 115, 46, 95, 95, 100, 111, 99, 95, 95, 58, 115, 116, 114, 35, 111, 112, 97, 113, 117, 101])⟩, ⟨kh P (o "__package__"), .str (o "__package__") 3, .builtin (sx [98, 117, 105, 108, 116, 105, 110, 115, 46, 95, 95, 112, 97, 99, 107, 97, 103, 101, 95, 95, 58, 115, 116, 114, 35, 111, 112, 97, 113, 117, 101])⟩, ⟨kh P (o "__loader__"), .str (o "__loader__") 4, .builtin (sx [98, 117, 105, 108, 116, 105, 110, 115, 46, 95, 95, 108, 111, 97, 100, 101, 114, 95, 95, 58, 115, 104, 97, 114, 101, 100, 35, 111, 112, 97, 113, 117, 101])⟩, ⟨kh P (o "__spec__"), .str (o "__spec__") 5, .builtin (sx [98, 117, 105, 108, 116, 105, 110, 115, 46, 95, 95, 115, 112, 101, 99, 95, 95, 35, 111, 112, 97, 113, 117, 101])⟩, ⟨kh P (o "__build_class__"), .str (o "__build_class__") 6, .builtin "__build_class__"⟩, ⟨kh P (o (sx [95, 95, 105, 109, 112, 111, 114, 116, 95, 95])), .str (o (sx [95, 95, 105, 109, 112, 111, 114, 116, 95, 95])) 7, .builtin (sx [95, 95, 105, 109, 112, 111, 114, 116, 95, 95])⟩, ⟨kh P (o "abs"), .str (o "abs") 8, .builtin "abs"⟩, ⟨kh P (o "all"), .str (o "all") 9, .builtin "all"⟩, ⟨kh P (o "any"), .str (o "any") 10, .builtin "any"⟩, ⟨kh P (o "ascii"), .str (o "ascii") 11, .builtin "ascii"⟩, ⟨kh P (o "bin"), .str (o "bin") 12, .builtin "bin"⟩, ⟨kh P (o "breakpoint"), .str (o "breakpoint") 13, .builtin "breakpoint"⟩, ⟨kh P (o "callable"), .str (o "callable") 14, .builtin "callable"⟩, ⟨kh P (o "chr"), .str (o "chr") 15, .builtin "chr"⟩, ⟨kh P (o "compile"), .str (o "compile") 16, .builtin "compile"⟩, ⟨kh P (o "delattr"), .str (o "delattr") 17, .builtin "delattr"⟩, ⟨kh P (o "dir"), .str (o "dir") 18, .builtin "dir"⟩, ⟨kh P (o "divmod"), .str (o "divmod") 19, .builtin "divmod"⟩, ⟨kh P (o "eval"), .str (o "eval") 20, .builtin "eval"⟩, ⟨kh P (o "exec"), .str (o "exec") 21, .builtin "exec"⟩, ⟨kh P (o "format"), .str (o "format") 22, .builtin "format"⟩, ⟨kh P (o "getattr"), .str (o "getattr") 23, .builtin "getattr"⟩, ⟨kh P (o "globals"), .str (o "globals") 24, .builtin "globals"⟩, ⟨kh P (o "hasattr"), .str (o "hasattr") 25, .builtin "hasattr"⟩, ⟨kh P (o "hash"), .str (o "hash") 26, .builtin "hash"⟩, ⟨kh P (o "hex"), .str (o "hex") 27, .builtin "hex"⟩, ⟨kh P (o "id"), .str (o "id") 28, .builtin "id"⟩, ⟨kh P (o "input"), .str (o "input") 29, .builtin "input"⟩, ⟨kh P (o "isinstance"), .str (o "isinstance") 30, .builtin "isinstance"⟩, ⟨kh P (o "issubclass"), .str (o "issubclass") 31, .builtin "issubclass"⟩, ⟨kh P (o "iter"), .str (o "iter") 32, .builtin "iter"⟩, ⟨kh P (o "aiter"), .str (o "aiter") 33, .builtin "aiter"⟩, ⟨kh P (o "len"), .str (o "len") 34, .builtin "len"⟩, ⟨kh P (o "locals"), .str (o "locals") 35, .builtin "locals"⟩, ⟨kh P (o "max"), .str (o "max") 36, .builtin "max"⟩, ⟨kh P (o "min"), .str (o "min") 37, .builtin "min"⟩, ⟨kh P (o "next"), .str (o "next") 38, .builtin "next"⟩, ⟨kh P (o "anext"), .str (o "anext") 39, .builtin "anext"⟩, ⟨kh P (o "oct"), .str (o "oct") 40, .builtin "oct"⟩, ⟨kh P (o "ord"), .str (o "ord") 41, .builtin "ord"⟩, ⟨kh P (o "pow"), .str (o "pow") 42, .builtin "pow"⟩, ⟨kh P (o "print"), .str (o "print") 43, .builtin "print"⟩, ⟨kh P (o "repr"), .str (o "repr") 44, .builtin "repr"⟩, ⟨kh P (o "round"), .str (o "round") 45, .builtin "round"⟩, ⟨kh P (o "setattr"), .str (o "setattr") 46, .builtin "setattr"⟩, ⟨kh P (o "sorted"), .str (o "sorted") 47, .builtin "sorted"⟩, ⟨kh P (o "sum"), .str (o "sum") 48, .builtin "sum"⟩, ⟨kh P (o "vars"), .str (o "vars") 49, .builtin "vars"⟩, ⟨kh P (o "None"), .str (o "None") 50, .none⟩, ⟨kh P (o "Ellipsis"), .str (o "Ellipsis") 51, .ellipsis⟩, ⟨kh P (o "NotImplemented"), .str (o "NotImplemented") 52, .notImplemented⟩, ⟨kh P (o "False"), .str (o "False") 53, .bool false⟩, ⟨kh P (o "True"), .str (o "True") 54, .bool true⟩, ⟨kh P (o "bool"), .str (o "bool") 55, .type "bool"⟩, ⟨kh P (o "memoryview"), .str (o "memoryview") 56, .type "memoryview"⟩, ⟨kh P (o "bytearray"), .str (o "bytearray") 57, .type "bytearray"⟩, ⟨kh P (o "bytes"), .str (o "bytes") 58, .type "bytes"⟩, ⟨kh P (o "classmethod"), .str (o "classmethod") 59, .type "classmethod"⟩, ⟨kh P (o "complex"), .str (o "complex") 60, .type "complex"⟩, ⟨kh P (o "dict"), .str (o "dict") 61, .type "dict"⟩, ⟨kh P (o "enumerate"), .str (o "enumerate") 62, .type "enumerate"⟩, ⟨kh P (o "filter"), .str (o "filter") 63, .type "filter"⟩, ⟨kh P (o "float"), .str (o "float") 64, .type "float"⟩, ⟨kh P (o "frozenset"), .str (o "frozenset") 65, .type "frozenset"⟩, ⟨kh P (o "property"), .str (o "property") 66, .type "property"⟩, ⟨kh P (o "int"), .str (o "int") 67, .type "int"⟩, ⟨kh P (o "list"), .str (o "list") 68, .type "list"⟩, ⟨kh P (o "map"), .str (o "map") 69, .type "map"⟩, ⟨kh P (o "object"), .str (o "object") 70, .type "object"⟩, ⟨kh P (o "range"), .str (o "range") 71, .type "range"⟩, ⟨kh P (o "reversed"), .str (o "reversed") 72, .type "reversed"⟩, ⟨kh P (o "set"), .str (o "set") 73, .type "set"⟩, ⟨kh P (o "slice"), .str (o "slice") 74, .type "slice"⟩, ⟨kh P (o "staticmethod"), .str (o "staticmethod") 75, .type "staticmethod"⟩, ⟨kh P (o "str"), .str (o "str") 76, .type "str"⟩, ⟨kh P (o "super"), .str (o "super") 77, .type "super"⟩, ⟨kh P (o "tuple"), .str (o "tuple") 78, .type "tuple"⟩, ⟨kh P (o "type"), .str (o "type") 79, .type "type"⟩, ⟨kh P (o "zip"), .str (o "zip") 80, .type "zip"⟩, ⟨kh P (o "__debug__"), .str (o "__debug__") 81, .bool true⟩, ⟨kh P (o "BaseException"), .str (o "BaseException") 82, .type "BaseException"⟩, ⟨kh P (o "BaseExceptionGroup"), .str (o "BaseExceptionGroup") 83, .type "BaseExceptionGroup"⟩, ⟨kh P (o "Exception"), .str (o "Exception") 84, .type "Exception"⟩, ⟨kh P (o "GeneratorExit"), .str (o "GeneratorExit") 85, .type "GeneratorExit"⟩, ⟨kh P (o "KeyboardInterrupt"), .str (o "KeyboardInterrupt") 86, .type "KeyboardInterrupt"⟩, ⟨kh P (o "SystemExit"), .str (o "SystemExit") 87, .type "SystemExit"⟩, ⟨kh P (o "ArithmeticError"), .str (o "ArithmeticError") 88, .type "ArithmeticError"⟩, ⟨kh P (o "AssertionError"), .str (o "AssertionError") 89, .type "AssertionError"⟩, ⟨kh P (o "AttributeError"), .str (o "AttributeError") 90, .type "AttributeError"⟩, ⟨kh P (o "BufferError"), .str (o "BufferError") 91, .type "BufferError"⟩, ⟨kh P (o "EOFError"), .str (o "EOFError") 92, .type "EOFError"⟩, ⟨kh P (o "ImportError"), .str (o "ImportError") 93, .type "ImportError"⟩, ⟨kh P (o "LookupError"), .str (o "LookupError") 94, .type "LookupError"⟩, ⟨kh P (o "MemoryError"), .str (o "MemoryError") 95, .type "MemoryError"⟩, ⟨kh P (o "NameError"), .str (o "NameError") 96, .type "NameError"⟩, ⟨kh P (o "OSError"), .str (o "OSError") 97, .type "OSError"⟩, ⟨kh P (o "ReferenceError"), .str (o "ReferenceError") 98, .type "ReferenceError"⟩, ⟨kh P (o "RuntimeError"), .str (o "RuntimeError") 99, .type "RuntimeError"⟩, ⟨kh P (o "StopAsyncIteration"), .str (o "StopAsyncIteration") 100, .type "StopAsyncIteration"⟩, ⟨kh P (o "StopIteration"), .str (o "StopIteration") 101, .type "StopIteration"⟩, ⟨kh P (o "SyntaxError"), .str (o "SyntaxError") 102, .type "SyntaxError"⟩, ⟨kh P (o "SystemError"), .str (o "SystemError") 103, .type "SystemError"⟩, ⟨kh P (o "TypeError"), .str (o "TypeError") 104, .type "TypeError"⟩, ⟨kh P (o "ValueError"), .str (o "ValueError") 105, .type "ValueError"⟩, ⟨kh P (o "Warning"), .str (o "Warning") 106, .type "Warning"⟩, ⟨kh P (o "FloatingPointError"), .str (o "FloatingPointError") 107, .type "FloatingPointError"⟩, ⟨kh P (o "OverflowError"), .str (o "OverflowError") 108, .type "OverflowError"⟩, ⟨kh P (o "ZeroDivisionError"), .str (o "ZeroDivisionError") 109, .type "ZeroDivisionError"⟩, ⟨kh P (o "BytesWarning"), .str (o "BytesWarning") 110, .type "BytesWarning"⟩, ⟨kh P (o "DeprecationWarning"), .str (o "DeprecationWarning") 111, .type "DeprecationWarning"⟩, ⟨kh P (o "EncodingWarning"), .str (o "EncodingWarning") 112, .type "EncodingWarning"⟩, ⟨kh P (o "FutureWarning"), .str (o "FutureWarning") 113, .type "FutureWarning"⟩, ⟨kh P (o "ImportWarning"), .str (o "ImportWarning") 114, .type "ImportWarning"⟩, ⟨kh P (o "PendingDeprecationWarning"), .str (o "PendingDeprecationWarning") 115, .type "PendingDeprecationWarning"⟩, ⟨kh P (o "ResourceWarning"), .str (o "ResourceWarning") 116, .type "ResourceWarning"⟩, ⟨kh P (o "RuntimeWarning"), .str (o "RuntimeWarning") 117, .type "RuntimeWarning"⟩, ⟨kh P (o "SyntaxWarning"), .str (o "SyntaxWarning") 118, .type "SyntaxWarning"⟩, ⟨kh P (o "UnicodeWarning"), .str (o "UnicodeWarning") 119, .type "UnicodeWarning"⟩, ⟨kh P (o "UserWarning"), .str (o "UserWarning") 120, .type "UserWarning"⟩, ⟨kh P (o "BlockingIOError"), .str (o "BlockingIOError") 121, .type "BlockingIOError"⟩, ⟨kh P (o "ChildProcessError"), .str (o "ChildProcessError") 122, .type "ChildProcessError"⟩, ⟨kh P (o "ConnectionError"), .str (o "ConnectionError") 123, .type "ConnectionError"⟩, ⟨kh P (o "FileExistsError"), .str (o "FileExistsError") 124, .type "FileExistsError"⟩, ⟨kh P (o "FileNotFoundError"), .str (o "FileNotFoundError") 125, .type "FileNotFoundError"⟩, ⟨kh P (o "InterruptedError"), .str (o "InterruptedError") 126, .type "InterruptedError"⟩, ⟨kh P (o "IsADirectoryError"), .str (o "IsADirectoryError") 127, .type "IsADirectoryError"⟩, ⟨kh P (o "NotADirectoryError"), .str (o "NotADirectoryError") 128, .type "NotADirectoryError"⟩, ⟨kh P (o "PermissionError"), .str (o "PermissionError") 129, .type "PermissionError"⟩, ⟨kh P (o "ProcessLookupError"), .str (o "ProcessLookupError") 130, .type "ProcessLookupError"⟩, ⟨kh P (o "TimeoutError"), .str (o "TimeoutError") 131, .type "TimeoutError"⟩, ⟨kh P (o "IndentationError"), .str (o "IndentationError") 132, .type "IndentationError"⟩, ⟨kh P (o "_IncompleteInputError"), .str (o "_IncompleteInputError") 133, .type "_IncompleteInputError"⟩, ⟨kh P (o "IndexError"), .str (o "IndexError") 134, .type "IndexError"⟩, ⟨kh P (o "KeyError"), .str (o "KeyError") 135, .type "KeyError"⟩, ⟨kh P (o "ModuleNotFoundError"), .str (o "ModuleNotFoundError") 136, .type "ModuleNotFoundError"⟩, ⟨kh P (o "NotImplementedError"), .str (o "NotImplementedError") 137, .type "NotImplementedError"⟩, ⟨kh P (o "PythonFinalizationError"), .str (o "PythonFinalizationError") 138, .type "PythonFinalizationError"⟩, ⟨kh P (o "RecursionError"), .str (o "RecursionError") 139, .type "RecursionError"⟩, ⟨kh P (o "UnboundLocalError"), .str (o "UnboundLocalError") 140, .type "UnboundLocalError"⟩, ⟨kh P (o "UnicodeError"), .str (o "UnicodeError") 141, .type "UnicodeError"⟩, ⟨kh P (o "BrokenPipeError"), .str (o "BrokenPipeError") 142, .type "BrokenPipeError"⟩, ⟨kh P (o "ConnectionAbortedError"), .str (o "ConnectionAbortedError") 143, .type "ConnectionAbortedError"⟩, ⟨kh P (o "ConnectionRefusedError"), .str (o "ConnectionRefusedError") 144, .type "ConnectionRefusedError"⟩, ⟨kh P (o "ConnectionResetError"), .str (o "ConnectionResetError") 145, .type "ConnectionResetError"⟩, ⟨kh P (o "TabError"), .str (o "TabError") 146, .type "TabError"⟩, ⟨kh P (o "UnicodeDecodeError"), .str (o "UnicodeDecodeError") 147, .type "UnicodeDecodeError"⟩, ⟨kh P (o "UnicodeEncodeError"), .str (o "UnicodeEncodeError") 148, .type "UnicodeEncodeError"⟩, ⟨kh P (o "UnicodeTranslateError"), .str (o "UnicodeTranslateError") 149, .type "UnicodeTranslateError"⟩, ⟨kh P (o "ExceptionGroup"), .str (o "ExceptionGroup") 150, .type "ExceptionGroup"⟩, ⟨kh P (o "EnvironmentError"), .str (o "EnvironmentError") 151, .type "OSError"⟩, ⟨kh P (o "IOError"), .str (o "IOError") 152, .type "OSError"⟩, ⟨kh P (o "open"), .str (o "open") 153, .builtin "open"⟩, ⟨kh P (o "quit"), .str (o "quit") 154, .builtin (sx [98, 117, 105, 108, 116, 105, 110, 115, 46, 113, 117, 105, 116, 35, 111, 112, 97, 113, 117, 101])⟩, ⟨kh P (o "exit"), .str (o "exit") 155, .builtin (sx [98, 117, 105, 108, 116, 105, 110, 115, 46, 101, 120, 105, 116, 35, 111, 112, 97, 113, 117, 101])⟩, ⟨kh P (o "copyright"), .str (o "copyright") 156, .builtin (sx [98, 117, 105, 108, 116, 105, 110, 115, 46, 99, 111, 112, 121, 114, 105, 103, 104, 116, 35, 111, 112, 97, 113, 117, 101])⟩, ⟨kh P (o "credits"), .str (o "credits") 157, .builtin (sx [98, 117, 105, 108, 116, 105, 110, 115, 46, 99, 114, 101, 100, 105, 116, 115, 35, 111, 112, 97, 113, 117, 101])⟩, ⟨kh P (o "license"), .str (o "license") 158, .builtin (sx [98, 117, 105, 108, 116, 105, 110, 115, 46, 108, 105, 99, 101, 110, 115, 101, 35, 111, 112, 97, 113, 117, 101])⟩, ⟨kh P (o "help"), .str (o "help") 159, .builtin (sx [98, 117, 105, 108, 116, 105, 110, 115, 46, 104, 101, 108, 112, 35, 111, 112, 97, 113, 117, 101])⟩]) 159), #[]⟩),
  (2, ⟨.none, none, (.dict (L2A []) 0), #[]⟩),
  (3, ⟨.type "dict", none, (.dict (L2A [⟨kh P (o "__name__"), .str (o "__name__") 165, .str (o "law_de5024_01") 715⟩, ⟨kh P (o "__doc__"), .str (o "__doc__") 166, .none⟩, ⟨kh P (o "__package__"), .str (o "__package__") 167, .none⟩, ⟨kh P (o "__loader__"), .str (o "__loader__") 168, .builtin (sx [95, 95, 109, 97, 105, 110, 95, 95, 46, 95, 95, 108, 111, 97, 100, 101, 114, 95, 95, 35, 111, 112, 97, 113, 117, 101])⟩, ⟨kh P (o "__spec__"), .str (o "__spec__") 169, .none⟩, ⟨kh P (o "__annotations__"), .str (o "__annotations__") 170, .ref 6⟩, ⟨kh P (o "__builtins__"), .str (o "__builtins__") 171, .ref 4⟩, ⟨kh P (o "__file__"), .str (o "__file__") 173, .str (o "/claim/cut.py") 172⟩, ⟨kh P (o "__cached__"), .str (o "__cached__") 174, .none⟩, ⟨kh P (o "_wall"), .str (o "_wall") 193, .ref 21⟩, ⟨kh P (o "Problem"), .str (o "Problem") 323, .ref 110⟩, ⟨kh P (o "Solver"), .str (o "Solver") 376, .ref 145⟩, ⟨kh P (o "BacktrackingSolver"), .str (o "BacktrackingSolver") 428, .ref 186⟩, ⟨kh P (o "Variable"), .str (o "Variable") 464, .ref 212⟩, ⟨kh P (o "Unassigned"), .str (o "Unassigned") 470, .ref 218⟩, ⟨kh P (o "Domain"), .str (o "Domain") 530, .ref 264⟩, ⟨kh P (o "Constraint"), .str (o "Constraint") 599, .ref 308⟩, ⟨kh P (o "FunctionConstraint"), .str (o "FunctionConstraint") 632, .ref 336⟩, ⟨kh P (o "AllEqualConstraint"), .str (o "AllEqualConstraint") 664, .ref 356⟩, ⟨kh P (o "InSetConstraint"), .str (o "InSetConstraint") 714, .ref 390⟩, ⟨kh P (o "_law_rest"), .str (o "_law_rest") 724, .ref 393⟩, ⟨kh P (o "_law_pairs"), .str (o "_law_pairs") 737, .ref 400⟩, ⟨kh P (o "_law_even"), .str (o "_law_even") 746, .ref 407⟩, ⟨kh P (o "_law_sides"), .str (o "_law_sides") 759, .ref 414⟩, ⟨kh P (o "law"), .str (o "law") 765, .ref 419⟩]) 25), #[]⟩),
  (29, ⟨.type "tuple", none, (.seq #[.none] 0), #[]⟩),
  (35, ⟨.type "code", none, (.fields #[.str (o "__init__") 208, .str (o "Problem.__init__") 209, .str (o "/claim/cut.py") 210, .int 7 0, .int 2 0, .int 0 0, .int 0 0, .int 3 0, .ref 30, .bool true, .int 181 0, .ref 31, .none, .ref 32, .ref 33, .ref 34, .int 213 0, .int 7 0, .str (o "/claim/cut.py") 214]), #[]⟩),
  (36, ⟨.type "function", none, (.func (fdOf 2 (some 0) (o "Problem.__init__") (.ref 35) (.ref 29) (.none) (.str (o "constraint") 194) 3 0)), #[]⟩),
  (42, ⟨.type "code", none, (.fields #[.str (o "reset") 216, .str (o "Problem.reset") 217, .str (o "/claim/cut.py") 218, .int 12 0, .int 1 0, .int 0 0, .int 0 0, .int 3 0, .ref 37, .bool true, .int 181 0, .ref 38, .none, .ref 39, .ref 40, .ref 41, .int 220 0, .int 12 0, .str (o "/claim/cut.py") 221]), #[]⟩),
  (43, ⟨.type "function", none, (.func (fdOf 2 (some 1) (o "Problem.reset") (.ref 42) (.none) (.none) (.str (o "constraint") 194) 3 0)), #[]⟩),
  (49, ⟨.type "code", none, (.fields #[.str (o "setSolver") 223, .str (o "Problem.setSolver") 224, .str (o "/claim/cut.py") 225, .int 15 0, .int 2 0, .int 0 0, .int 0 0, .int 3 0, .ref 44, .bool true, .int 181 0, .ref 45, .none, .ref 46, .ref 47, .ref 48, .int 228 0, .int 15 0, .str (o "/claim/cut.py") 229]), #[]⟩),
  (50, ⟨.type "function", none, (.func (fdOf 2 (some 2) (o "Problem.setSolver") (.ref 49) (.none) (.none) (.str (o "constraint") 194) 3 0)), #[]⟩),
  (56, ⟨.type "code", none, (.fields #[.str (o "getSolver") 231, .str (o "Problem.getSolver") 232, .str (o "/claim/cut.py") 233, .int 18 0, .int 1 0, .int 0 0, .int 0 0, .int 3 0, .ref 51, .bool true, .int 181 0, .ref 52, .none, .ref 53, .ref 54, .ref 55, .int 235 0, .int 18 0, .str (o "/claim/cut.py") 236]), #[]⟩),
  (57, ⟨.type "function", none, (.func (fdOf 2 (some 3) (o "Problem.getSolver") (.ref 56) (.none) (.none) (.str (o "constraint") 194) 3 0)), #[]⟩),
  (63, ⟨.type "code", none, (.fields #[.str (o "addVariable") 238, .str (o "Problem.addVariable") 239, .str (o "/claim/cut.py") 240, .int 21 0, .int 3 0, .int 0 0, .int 0 0, .int 3 0, .ref 58, .bool true, .int 181 0, .ref 59, .none, .ref 60, .ref 61, .ref 62, .int 245 0, .int 21 0, .str (o "/claim/cut.py") 246]), #[]⟩),
  (64, ⟨.type "function", none, (.func (fdOf 2 (some 4) (o "Problem.addVariable") (.ref 63) (.none) (.none) (.str (o "constraint") 194) 3 0)), #[]⟩),
  (70, ⟨.type "code", none, (.fields #[.str (o "addVariables") 248, .str (o "Problem.addVariables") 249, .str (o "/claim/cut.py") 250, .int 34 0, .int 3 0, .int 0 0, .int 0 0, .int 3 0, .ref 65, .bool true, .int 181 0, .ref 66, .none, .ref 67, .ref 68, .ref 69, .int 255 0, .int 34 0, .str (o "/claim/cut.py") 256]), #[]⟩),
  (71, ⟨.type "function", none, (.func (fdOf 2 (some 5) (o "Problem.addVariables") (.ref 70) (.none) (.none) (.str (o "constraint") 194) 3 0)), #[]⟩),
  (72, ⟨.type "tuple", none, (.seq #[.none] 0), #[]⟩),
  (78, ⟨.type "code", none, (.fields #[.str (o "addConstraint") 258, .str (o "Problem.addConstraint") 259, .str (o "/claim/cut.py") 260, .int 38 0, .int 3 0, .int 0 0, .int 0 0, .int 3 0, .ref 73, .bool true, .int 181 0, .ref 74, .none, .ref 75, .ref 76, .ref 77, .int 265 0, .int 38 0, .str (o "/claim/cut.py") 266]), #[]⟩),
  (79, ⟨.type "function", none, (.func (fdOf 2 (some 6) (o "Problem.addConstraint") (.ref 78) (.ref 72) (.none) (.str (o "constraint") 194) 3 0)), #[]⟩),
  (85, ⟨.type "code", none, (.fields #[.str (o "getSolution") 268, .str (o "Problem.getSolution") 269, .str (o "/claim/cut.py") 270, .int 47 0, .int 1 0, .int 0 0, .int 0 0, .int 3 0, .ref 80, .bool true, .int 181 0, .ref 81, .none, .ref 82, .ref 83, .ref 84, .int 275 0, .int 47 0, .str (o "/claim/cut.py") 276]), #[]⟩),
  (86, ⟨.type "function", none, (.func (fdOf 2 (some 7) (o "Problem.getSolution") (.ref 85) (.none) (.none) (.str (o "constraint") 194) 3 0)), #[]⟩),
  (92, ⟨.type "code", none, (.fields #[.str (o "getSolutions") 278, .str (o "Problem.getSolutions") 279, .str (o "/claim/cut.py") 280, .int 53 0, .int 1 0, .int 0 0, .int 0 0, .int 3 0, .ref 87, .bool true, .int 181 0, .ref 88, .none, .ref 89, .ref 90, .ref 91, .int 285 0, .int 53 0, .str (o "/claim/cut.py") 286]), #[]⟩),
  (93, ⟨.type "function", none, (.func (fdOf 2 (some 8) (o "Problem.getSolutions") (.ref 92) (.none) (.none) (.str (o "constraint") 194) 3 0)), #[]⟩),
  (99, ⟨.type "code", none, (.fields #[.str (o "getSolutionIter") 288, .str (o "Problem.getSolutionIter") 289, .str (o "/claim/cut.py") 290, .int 59 0, .int 1 0, .int 0 0, .int 0 0, .int 3 0, .ref 94, .bool true, .int 181 0, .ref 95, .none, .ref 96, .ref 97, .ref 98, .int 295 0, .int 59 0, .str (o "/claim/cut.py") 296]), #[]⟩),
  (100, ⟨.type "function", none, (.func (fdOf 2 (some 9) (o "Problem.getSolutionIter") (.ref 99) (.none) (.none) (.str (o "constraint") 194) 3 0)), #[]⟩),
  (106, ⟨.type "code", none, (.fields #[.str (o "_getArgs") 298, .str (o "Problem._getArgs") 299, .str (o "/claim/cut.py") 300, .int 65 0, .int 1 0, .int 0 0, .int 0 0, .int 3 0, .ref 101, .bool true, .int 181 0, .ref 102, .none, .ref 103, .ref 104, .ref 105, .int 310 0, .int 65 0, .str (o "/claim/cut.py") 311]), #[]⟩),
  (107, ⟨.type "function", none, (.func (fdOf 2 (some 10) (o "Problem._getArgs") (.ref 106) (.none) (.none) (.str (o "constraint") 194) 3 0)), #[]⟩),
  (109, ⟨.type "dict", none, (.dict (L2A [⟨kh P (o "__module__"), .str (o "__module__") 203, .str (o "constraint") 194⟩, ⟨kh P (o "__firstlineno__"), .str (o "__firstlineno__") 207, .int 5 206⟩, ⟨kh P (o "__init__"), .str (o "__init__") 215, .ref 36⟩, ⟨kh P (o "reset"), .str (o "reset") 222, .ref 43⟩, ⟨kh P (o "setSolver"), .str (o "setSolver") 230, .ref 50⟩, ⟨kh P (o "getSolver"), .str (o "getSolver") 237, .ref 57⟩, ⟨kh P (o "addVariable"), .str (o "addVariable") 247, .ref 64⟩, ⟨kh P (o "addVariables"), .str (o "addVariables") 257, .ref 71⟩, ⟨kh P (o "addConstraint"), .str (o "addConstraint") 267, .ref 79⟩, ⟨kh P (o "getSolution"), .str (o "getSolution") 277, .ref 86⟩, ⟨kh P (o "getSolutions"), .str (o "getSolutions") 287, .ref 93⟩, ⟨kh P (o "getSolutionIter"), .str (o "getSolutionIter") 297, .ref 100⟩, ⟨kh P (o "_getArgs"), .str (o "_getArgs") 312, .ref 107⟩, ⟨kh P (o "__static_attributes__"), .str (o "__static_attributes__") 316, .ref 108⟩, ⟨kh P (o "__dict__"), .str (o "__dict__") 318, .ref 111⟩, ⟨kh P (o "__weakref__"), .str (o "__weakref__") 320, .ref 112⟩, ⟨kh P (o "__doc__"), .str (o "__doc__") 321, .none⟩]) 4), #[]⟩),
  (110, ⟨.type "type", none, (.cls ⟨(o "Problem"), [.type "object"], [.ref 110, .type "object"], 109, (o "Problem"), true, [], [], false, none, false⟩), #[some (.ref 22), none, some (.str (o "Problem") 196), some (.str (o "Problem") 204), some (.builtin "object.__new__"), some (.bool true)]⟩),
  (127, ⟨.type "code", none, (.fields #[.str (o "getSolution") 336, .str (o "Solver.getSolution") 337, .str (o "/claim/cut.py") 338, .int 88 0, .int 4 0, .int 0 0, .int 0 0, .int 3 0, .ref 122, .bool true, .int 181 0, .ref 123, .none, .ref 124, .ref 125, .ref 126, .int 344 0, .int 88 0, .str (o "/claim/cut.py") 345]), #[]⟩),
  (128, ⟨.type "function", none, (.func (fdOf 3 (some 0) (o "Solver.getSolution") (.ref 127) (.none) (.none) (.str (o "constraint") 194) 3 0)), #[]⟩),
  (134, ⟨.type "code", none, (.fields #[.str (o "getSolutions") 347, .str (o "Solver.getSolutions") 348, .str (o "/claim/cut.py") 349, .int 92 0, .int 4 0, .int 0 0, .int 0 0, .int 3 0, .ref 129, .bool true, .int 181 0, .ref 130, .none, .ref 131, .ref 132, .ref 133, .int 355 0, .int 92 0, .str (o "/claim/cut.py") 356]), #[]⟩),
  (135, ⟨.type "function", none, (.func (fdOf 3 (some 1) (o "Solver.getSolutions") (.ref 134) (.none) (.none) (.str (o "constraint") 194) 3 0)), #[]⟩),
  (141, ⟨.type "code", none, (.fields #[.str (o "getSolutionIter") 358, .str (o "Solver.getSolutionIter") 359, .str (o "/claim/cut.py") 360, .int 96 0, .int 4 0, .int 0 0, .int 0 0, .int 3 0, .ref 136, .bool true, .int 181 0, .ref 137, .none, .ref 138, .ref 139, .ref 140, .int 366 0, .int 96 0, .str (o "/claim/cut.py") 367]), #[]⟩),
  (142, ⟨.type "function", none, (.func (fdOf 3 (some 2) (o "Solver.getSolutionIter") (.ref 141) (.none) (.none) (.str (o "constraint") 194) 3 0)), #[]⟩),
  (144, ⟨.type "dict", none, (.dict (L2A [⟨kh P (o "__module__"), .str (o "__module__") 331, .str (o "constraint") 194⟩, ⟨kh P (o "__firstlineno__"), .str (o "__firstlineno__") 335, .int 86 334⟩, ⟨kh P (o "getSolution"), .str (o "getSolution") 346, .ref 128⟩, ⟨kh P (o "getSolutions"), .str (o "getSolutions") 357, .ref 135⟩, ⟨kh P (o "getSolutionIter"), .str (o "getSolutionIter") 368, .ref 142⟩, ⟨kh P (o "__static_attributes__"), .str (o "__static_attributes__") 369, .ref 143⟩, ⟨kh P (o "__dict__"), .str (o "__dict__") 371, .ref 146⟩, ⟨kh P (o "__weakref__"), .str (o "__weakref__") 373, .ref 147⟩, ⟨kh P (o "__doc__"), .str (o "__doc__") 374, .none⟩]) 4), #[]⟩),
  (145, ⟨.type "type", none, (.cls ⟨(o "Solver"), [.type "object"], [.ref 145, .type "object"], 144, (o "Solver"), true, [], [.ref 186], false, none, false⟩), #[some (.ref 115), none, some (.str (o "Solver") 324), some (.str (o "Solver") 332), some (.builtin "object.__new__"), some (.bool true)]⟩),
  (157, ⟨.type "tuple", none, (.seq #[.bool true] 0), #[]⟩),
  (163, ⟨.type "code", none, (.fields #[.str (o "__init__") 389, .str (o "BacktrackingSolver.__init__") 390, .str (o "/claim/cut.py") 391, .int 101 0, .int 2 0, .int 0 0, .int 0 0, .int 3 0, .ref 158, .bool true, .int 181 0, .ref 159, .none, .ref 160, .ref 161, .ref 162, .int 394 0, .int 101 0, .str (o "/claim/cut.py") 395]), #[]⟩),
  (164, ⟨.type "function", none, (.func (fdOf 4 (some 0) (o "BacktrackingSolver.__init__") (.ref 163) (.ref 157) (.none) (.str (o "constraint") 194) 3 0)), #[]⟩),
  (168, ⟨.type "code", none, (.fields #[.str (o "getSolutionIter") 397, .str (o "BacktrackingSolver.getSolutionIter") 398, .str (o "/claim/cut.py") 399, .int 104 0, .int 4 0, .int 0 0, .int 0 0, .int 35 0, .ref 165, .bool true, .int 181 0, .ref 166, .none, .none, .none, .ref 167, .int 400 0, .int 104 0, .str (o "/claim/cut.py") 401]), #[]⟩),
  (169, ⟨.type "function", none, (.func (fdOf 4 (some 1) (o "BacktrackingSolver.getSolutionIter") (.ref 168) (.none) (.none) (.str (o "constraint") 194) 3 0)), #[]⟩),
  (175, ⟨.type "code", none, (.fields #[.str (o "getSolution") 403, .str (o "BacktrackingSolver.getSolution") 404, .str (o "/claim/cut.py") 405, .int 156 0, .int 4 0, .int 0 0, .int 0 0, .int 3 0, .ref 170, .bool true, .int 181 0, .ref 171, .none, .ref 172, .ref 173, .ref 174, .int 411 0, .int 156 0, .str (o "/claim/cut.py") 412]), #[]⟩),
  (176, ⟨.type "function", none, (.func (fdOf 4 (some 2) (o "BacktrackingSolver.getSolution") (.ref 175) (.none) (.none) (.str (o "constraint") 194) 3 0)), #[]⟩),
  (182, ⟨.type "code", none, (.fields #[.str (o "getSolutions") 414, .str (o "BacktrackingSolver.getSolutions") 415, .str (o "/claim/cut.py") 416, .int 163 0, .int 4 0, .int 0 0, .int 0 0, .int 3 0, .ref 177, .bool true, .int 181 0, .ref 178, .none, .ref 179, .ref 180, .ref 181, .int 421 0, .int 163 0, .str (o "/claim/cut.py") 422]), #[]⟩),
  (183, ⟨.type "function", none, (.func (fdOf 4 (some 3) (o "BacktrackingSolver.getSolutions") (.ref 182) (.none) (.none) (.str (o "constraint") 194) 3 0)), #[]⟩),
  (185, ⟨.type "dict", none, (.dict (L2A [⟨kh P (o "__module__"), .str (o "__module__") 384, .str (o "constraint") 194⟩, ⟨kh P (o "__firstlineno__"), .str (o "__firstlineno__") 388, .int 99 387⟩, ⟨kh P (o "__init__"), .str (o "__init__") 396, .ref 164⟩, ⟨kh P (o "getSolutionIter"), .str (o "getSolutionIter") 402, .ref 169⟩, ⟨kh P (o "getSolution"), .str (o "getSolution") 413, .ref 176⟩, ⟨kh P (o "getSolutions"), .str (o "getSolutions") 423, .ref 183⟩, ⟨kh P (o "__static_attributes__"), .str (o "__static_attributes__") 425, .ref 184⟩, ⟨kh P (o "__doc__"), .str (o "__doc__") 426, .none⟩]) 2), #[]⟩),
  (186, ⟨.type "type", none, (.cls ⟨(o "BacktrackingSolver"), [.ref 145], [.ref 186, .ref 145, .type "object"], 185, (o "BacktrackingSolver"), true, [], [], false, none, false⟩), #[some (.ref 150), none, some (.str (o "BacktrackingSolver") 377), some (.str (o "BacktrackingSolver") 385), some (.builtin "object.__new__"), some (.bool true)]⟩),
  (201, ⟨.type "code", none, (.fields #[.str (o "__init__") 441, .str (o "Variable.__init__") 442, .str (o "/claim/cut.py") 443, .int 167 0, .int 2 0, .int 0 0, .int 0 0, .int 3 0, .ref 196, .bool true, .int 181 0, .ref 197, .none, .ref 198, .ref 199, .ref 200, .int 446 0, .int 167 0, .str (o "/claim/cut.py") 447]), #[]⟩),
  (202, ⟨.type "function", none, (.func (fdOf 5 (some 0) (o "Variable.__init__") (.ref 201) (.none) (.none) (.str (o "constraint") 194) 3 0)), #[]⟩),
  (208, ⟨.type "code", none, (.fields #[.str (o "__repr__") 449, .str (o "Variable.__repr__") 450, .str (o "/claim/cut.py") 451, .int 170 0, .int 1 0, .int 0 0, .int 0 0, .int 3 0, .ref 203, .bool true, .int 181 0, .ref 204, .none, .ref 205, .ref 206, .ref 207, .int 453 0, .int 170 0, .str (o "/claim/cut.py") 454]), #[]⟩),
  (209, ⟨.type "function", none, (.func (fdOf 5 (some 1) (o "Variable.__repr__") (.ref 208) (.none) (.none) (.str (o "constraint") 194) 3 0)), #[]⟩),
  (211, ⟨.type "dict", none, (.dict (L2A [⟨kh P (o "__module__"), .str (o "__module__") 436, .str (o "constraint") 194⟩, ⟨kh P (o "__firstlineno__"), .str (o "__firstlineno__") 440, .int 165 439⟩, ⟨kh P (o "__init__"), .str (o "__init__") 448, .ref 202⟩, ⟨kh P (o "__repr__"), .str (o "__repr__") 455, .ref 209⟩, ⟨kh P (o "__static_attributes__"), .str (o "__static_attributes__") 457, .ref 210⟩, ⟨kh P (o "__dict__"), .str (o "__dict__") 459, .ref 213⟩, ⟨kh P (o "__weakref__"), .str (o "__weakref__") 461, .ref 214⟩, ⟨kh P (o "__doc__"), .str (o "__doc__") 462, .none⟩]) 4), #[]⟩),
  (212, ⟨.type "type", none, (.cls ⟨(o "Variable"), [.type "object"], [.ref 212, .type "object"], 211, (o "Variable"), true, [], [], false, none, false⟩), #[some (.ref 189), none, some (.str (o "Variable") 429), some (.str (o "Variable") 437), some (.builtin "object.__new__"), some (.bool true)]⟩),
  (217, ⟨.type "dict", none, (.dict (L2A [⟨kh P (o "name"), .str (o "name") 469, .str (o "Unassigned") 465⟩]) 1), #[]⟩),
  (218, ⟨.ref 212, some 217, .plain, #[]⟩),
  (232, ⟨.type "code", none, (.fields #[.str (o "__init__") 483, .str (o "Domain.__init__") 484, .str (o "/claim/cut.py") 485, .int 175 0, .int 2 0, .int 0 0, .int 0 0, .int 3 0, .ref 227, .bool true, .int 181 0, .ref 228, .none, .ref 229, .ref 230, .ref 231, .int 488 0, .int 175 0, .str (o "/claim/cut.py") 489]), #[]⟩),
  (233, ⟨.type "function", none, (.func (fdOf 7 (some 0) (o "Domain.__init__") (.ref 232) (.none) (.none) (.str (o "constraint") 194) 3 0)), #[]⟩),
  (239, ⟨.type "code", none, (.fields #[.str (o "resetState") 491, .str (o "Domain.resetState") 492, .str (o "/claim/cut.py") 493, .int 180 0, .int 1 0, .int 0 0, .int 0 0, .int 3 0, .ref 234, .bool true, .int 181 0, .ref 235, .none, .ref 236, .ref 237, .ref 238, .int 495 0, .int 180 0, .str (o "/claim/cut.py") 496]), #[]⟩),
  (240, ⟨.type "function", none, (.func (fdOf 7 (some 1) (o "Domain.resetState") (.ref 239) (.none) (.none) (.str (o "constraint") 194) 3 0)), #[]⟩),
  (246, ⟨.type "code", none, (.fields #[.str (o "pushState") 498, .str (o "Domain.pushState") 499, .str (o "/claim/cut.py") 500, .int 185 0, .int 1 0, .int 0 0, .int 0 0, .int 3 0, .ref 241, .bool true, .int 181 0, .ref 242, .none, .ref 243, .ref 244, .ref 245, .int 502 0, .int 185 0, .str (o "/claim/cut.py") 503]), #[]⟩),
  (247, ⟨.type "function", none, (.func (fdOf 7 (some 2) (o "Domain.pushState") (.ref 246) (.none) (.none) (.str (o "constraint") 194) 3 0)), #[]⟩),
  (253, ⟨.type "code", none, (.fields #[.str (o "popState") 505, .str (o "Domain.popState") 506, .str (o "/claim/cut.py") 507, .int 188 0, .int 1 0, .int 0 0, .int 0 0, .int 3 0, .ref 248, .bool true, .int 181 0, .ref 249, .none, .ref 250, .ref 251, .ref 252, .int 510 0, .int 188 0, .str (o "/claim/cut.py") 511]), #[]⟩),
  (254, ⟨.type "function", none, (.func (fdOf 7 (some 3) (o "Domain.popState") (.ref 253) (.none) (.none) (.str (o "constraint") 194) 3 0)), #[]⟩),
  (260, ⟨.type "code", none, (.fields #[.str (o "hideValue") 513, .str (o "Domain.hideValue") 514, .str (o "/claim/cut.py") 515, .int 194 0, .int 2 0, .int 0 0, .int 0 0, .int 3 0, .ref 255, .bool true, .int 181 0, .ref 256, .none, .ref 257, .ref 258, .ref 259, .int 518 0, .int 194 0, .str (o "/claim/cut.py") 519]), #[]⟩),
  (261, ⟨.type "function", none, (.func (fdOf 7 (some 4) (o "Domain.hideValue") (.ref 260) (.none) (.none) (.str (o "constraint") 194) 3 0)), #[]⟩),
  (263, ⟨.type "dict", none, (.dict (L2A [⟨kh P (o "__module__"), .str (o "__module__") 478, .str (o "constraint") 194⟩, ⟨kh P (o "__firstlineno__"), .str (o "__firstlineno__") 482, .int 173 481⟩, ⟨kh P (o "__init__"), .str (o "__init__") 490, .ref 233⟩, ⟨kh P (o "resetState"), .str (o "resetState") 497, .ref 240⟩, ⟨kh P (o "pushState"), .str (o "pushState") 504, .ref 247⟩, ⟨kh P (o "popState"), .str (o "popState") 512, .ref 254⟩, ⟨kh P (o "hideValue"), .str (o "hideValue") 520, .ref 261⟩, ⟨kh P (o "__static_attributes__"), .str (o "__static_attributes__") 523, .ref 262⟩, ⟨kh P (o "__dict__"), .str (o "__dict__") 525, .ref 265⟩, ⟨kh P (o "__weakref__"), .str (o "__weakref__") 527, .ref 266⟩, ⟨kh P (o "__doc__"), .str (o "__doc__") 528, .none⟩]) 4), #[]⟩),
  (264, ⟨.type "type", none, (.cls ⟨(o "Domain"), [.type "list"], [.ref 264, .type "list", .type "object"], 263, (o "Domain"), true, [], [], false, none, false⟩), #[some (.ref 220), none, some (.str (o "Domain") 471), some (.str (o "Domain") 479), some (.builtin "list.__new__"), some (.bool true)]⟩),
  (281, ⟨.type "code", none, (.fields #[.str (o "__eq__") 543, .str (o "Constraint.__eq__") 544, .str (o "/claim/cut.py") 545, .int 199 0, .int 2 0, .int 0 0, .int 0 0, .int 3 0, .ref 276, .bool true, .int 181 0, .ref 277, .none, .ref 278, .ref 279, .ref 280, .int 548 0, .int 199 0, .str (o "/claim/cut.py") 549]), #[]⟩),
  (282, ⟨.type "function", none, (.func (fdOf 8 (some 0) (o "Constraint.__eq__") (.ref 281) (.none) (.none) (.str (o "constraint") 194) 3 0)), #[]⟩),
  (283, ⟨.type "tuple", none, (.seq #[.bool false] 0), #[]⟩),
  (289, ⟨.type "code", none, (.fields #[.str (o "__call__") 551, .str (o "Constraint.__call__") 552, .str (o "/claim/cut.py") 553, .int 202 0, .int 5 0, .int 0 0, .int 0 0, .int 3 0, .ref 284, .bool true, .int 181 0, .ref 285, .none, .ref 286, .ref 287, .ref 288, .int 559 0, .int 202 0, .str (o "/claim/cut.py") 560]), #[]⟩),
  (290, ⟨.type "function", none, (.func (fdOf 8 (some 1) (o "Constraint.__call__") (.ref 289) (.ref 283) (.none) (.str (o "constraint") 194) 3 0)), #[]⟩),
  (296, ⟨.type "code", none, (.fields #[.str (o "preProcess") 562, .str (o "Constraint.preProcess") 563, .str (o "/claim/cut.py") 564, .int 205 0, .int 5 0, .int 0 0, .int 0 0, .int 3 0, .ref 291, .bool true, .int 181 0, .ref 292, .none, .ref 293, .ref 294, .ref 295, .int 573 0, .int 205 0, .str (o "/claim/cut.py") 574]), #[]⟩),
  (297, ⟨.type "function", none, (.func (fdOf 8 (some 2) (o "Constraint.preProcess") (.ref 296) (.none) (.none) (.str (o "constraint") 194) 3 0)), #[]⟩),
  (298, ⟨.type "tuple", none, (.seq #[.ref 218] 0), #[]⟩),
  (304, ⟨.type "code", none, (.fields #[.str (o "forwardCheck") 576, .str (o "Constraint.forwardCheck") 577, .str (o "/claim/cut.py") 578, .int 215 0, .int 5 0, .int 0 0, .int 0 0, .int 3 0, .ref 299, .bool true, .int 181 0, .ref 300, .none, .ref 301, .ref 302, .ref 303, .int 588 0, .int 215 0, .str (o "/claim/cut.py") 589]), #[]⟩),
  (305, ⟨.type "function", none, (.func (fdOf 8 (some 3) (o "Constraint.forwardCheck") (.ref 304) (.ref 298) (.none) (.str (o "constraint") 194) 3 0)), #[]⟩),
  (307, ⟨.type "dict", none, (.dict (L2A [⟨kh P (o "__module__"), .str (o "__module__") 538, .str (o "constraint") 194⟩, ⟨kh P (o "__firstlineno__"), .str (o "__firstlineno__") 542, .int 197 541⟩, ⟨kh P (o "__eq__"), .str (o "__eq__") 550, .ref 282⟩, ⟨kh P (o "__call__"), .str (o "__call__") 561, .ref 290⟩, ⟨kh P (o "preProcess"), .str (o "preProcess") 575, .ref 297⟩, ⟨kh P (o "forwardCheck"), .str (o "forwardCheck") 590, .ref 305⟩, ⟨kh P (o "__static_attributes__"), .str (o "__static_attributes__") 591, .ref 306⟩, ⟨kh P (o "__dict__"), .str (o "__dict__") 593, .ref 309⟩, ⟨kh P (o "__weakref__"), .str (o "__weakref__") 595, .ref 310⟩, ⟨kh P (o "__doc__"), .str (o "__doc__") 596, .none⟩, ⟨kh P (o "__hash__"), .str (o "__hash__") 597, .none⟩]) 5), #[]⟩),
  (308, ⟨.type "type", none, (.cls ⟨(o "Constraint"), [.type "object"], [.ref 308, .type "object"], 307, (o "Constraint"), true, [], [.ref 336, .ref 356, .ref 390], false, none, false⟩), #[some (.ref 269), none, some (.str (o "Constraint") 531), some (.str (o "Constraint") 539), some (.builtin "object.__new__"), some (.bool true)]⟩),
  (320, ⟨.type "tuple", none, (.seq #[.bool true] 0), #[]⟩),
  (326, ⟨.type "code", none, (.fields #[.str (o "__init__") 612, .str (o "FunctionConstraint.__init__") 613, .str (o "/claim/cut.py") 614, .int 237 0, .int 3 0, .int 0 0, .int 0 0, .int 3 0, .ref 321, .bool true, .int 181 0, .ref 322, .none, .ref 323, .ref 324, .ref 325, .int 618 0, .int 237 0, .str (o "/claim/cut.py") 619]), #[]⟩),
  (327, ⟨.type "function", none, (.func (fdOf 9 (some 0) (o "FunctionConstraint.__init__") (.ref 326) (.ref 320) (.none) (.str (o "constraint") 194) 3 0)), #[]⟩),
  (328, ⟨.type "tuple", none, (.seq #[.bool false, .ref 218] 0), #[]⟩),
  (332, ⟨.type "code", none, (.fields #[.str (o "__call__") 621, .str (o "FunctionConstraint.__call__") 622, .str (o "/claim/cut.py") 623, .int 241 0, .int 6 0, .int 0 0, .int 0 0, .int 3 0, .ref 329, .bool true, .int 181 0, .ref 330, .none, .none, .none, .ref 331, .int 624 0, .int 241 0, .str (o "/claim/cut.py") 625]), #[]⟩),
  (333, ⟨.type "function", none, (.func (fdOf 9 (some 1) (o "FunctionConstraint.__call__") (.ref 332) (.ref 328) (.none) (.str (o "constraint") 194) 3 0)), #[]⟩),
  (335, ⟨.type "dict", none, (.dict (L2A [⟨kh P (o "__module__"), .str (o "__module__") 607, .str (o "constraint") 194⟩, ⟨kh P (o "__firstlineno__"), .str (o "__firstlineno__") 611, .int 235 610⟩, ⟨kh P (o "__init__"), .str (o "__init__") 620, .ref 327⟩, ⟨kh P (o "__call__"), .str (o "__call__") 626, .ref 333⟩, ⟨kh P (o "__static_attributes__"), .str (o "__static_attributes__") 629, .ref 334⟩, ⟨kh P (o "__doc__"), .str (o "__doc__") 630, .none⟩]) 2), #[]⟩),
  (336, ⟨.type "type", none, (.cls ⟨(o "FunctionConstraint"), [.ref 308], [.ref 336, .ref 308, .type "object"], 335, (o "FunctionConstraint"), true, [], [], false, none, false⟩), #[some (.ref 313), none, some (.str (o "FunctionConstraint") 600), some (.str (o "FunctionConstraint") 608), some (.builtin "object.__new__"), some (.bool true)]⟩),
  (346, ⟨.type "tuple", none, (.seq #[.bool false, .ref 218] 0), #[]⟩),
  (352, ⟨.type "code", none, (.fields #[.str (o "__call__") 645, .str (o "AllEqualConstraint.__call__") 646, .str (o "/claim/cut.py") 647, .int 249 0, .int 6 0, .int 0 0, .int 0 0, .int 3 0, .ref 347, .bool true, .int 181 0, .ref 348, .none, .ref 349, .ref 350, .ref 351, .int 658 0, .int 249 0, .str (o "/claim/cut.py") 659]), #[]⟩),
  (353, ⟨.type "function", none, (.func (fdOf 10 (some 0) (o "AllEqualConstraint.__call__") (.ref 352) (.ref 346) (.none) (.str (o "constraint") 194) 3 0)), #[]⟩),
  (355, ⟨.type "dict", none, (.dict (L2A [⟨kh P (o "__module__"), .str (o "__module__") 640, .str (o "constraint") 194⟩, ⟨kh P (o "__firstlineno__"), .str (o "__firstlineno__") 644, .int 247 643⟩, ⟨kh P (o "__call__"), .str (o "__call__") 660, .ref 353⟩, ⟨kh P (o "__static_attributes__"), .str (o "__static_attributes__") 661, .ref 354⟩, ⟨kh P (o "__doc__"), .str (o "__doc__") 662, .none⟩]) 2), #[]⟩),
  (356, ⟨.type "type", none, (.cls ⟨(o "AllEqualConstraint"), [.ref 308], [.ref 356, .ref 308, .type "object"], 355, (o "AllEqualConstraint"), true, [], [], false, none, false⟩), #[some (.ref 339), none, some (.str (o "AllEqualConstraint") 633), some (.str (o "AllEqualConstraint") 641), some (.builtin "object.__new__"), some (.bool true)]⟩),
  (371, ⟨.type "code", none, (.fields #[.str (o "__init__") 677, .str (o "InSetConstraint.__init__") 678, .str (o "/claim/cut.py") 679, .int 269 0, .int 2 0, .int 0 0, .int 0 0, .int 3 0, .ref 366, .bool true, .int 181 0, .ref 367, .none, .ref 368, .ref 369, .ref 370, .int 682 0, .int 269 0, .str (o "/claim/cut.py") 683]), #[]⟩),
  (372, ⟨.type "function", none, (.func (fdOf 11 (some 0) (o "InSetConstraint.__init__") (.ref 371) (.none) (.none) (.str (o "constraint") 194) 3 0)), #[]⟩),
  (373, ⟨.type "tuple", none, (.seq #[.bool false] 0), #[]⟩),
  (379, ⟨.type "code", none, (.fields #[.str (o "__call__") 685, .str (o "InSetConstraint.__call__") 686, .str (o "/claim/cut.py") 687, .int 272 0, .int 5 0, .int 0 0, .int 0 0, .int 3 0, .ref 374, .bool true, .int 181 0, .ref 375, .none, .ref 376, .ref 377, .ref 378, .int 693 0, .int 272 0, .str (o "/claim/cut.py") 694]), #[]⟩),
  (380, ⟨.type "function", none, (.func (fdOf 11 (some 1) (o "InSetConstraint.__call__") (.ref 379) (.ref 373) (.none) (.str (o "constraint") 194) 3 0)), #[]⟩),
  (386, ⟨.type "code", none, (.fields #[.str (o "preProcess") 696, .str (o "InSetConstraint.preProcess") 697, .str (o "/claim/cut.py") 698, .int 275 0, .int 5 0, .int 0 0, .int 0 0, .int 3 0, .ref 381, .bool true, .int 181 0, .ref 382, .none, .ref 383, .ref 384, .ref 385, .int 707 0, .int 275 0, .str (o "/claim/cut.py") 708]), #[]⟩),
  (387, ⟨.type "function", none, (.func (fdOf 11 (some 2) (o "InSetConstraint.preProcess") (.ref 386) (.none) (.none) (.str (o "constraint") 194) 3 0)), #[]⟩),
  (389, ⟨.type "dict", none, (.dict (L2A [⟨kh P (o "__module__"), .str (o "__module__") 672, .str (o "constraint") 194⟩, ⟨kh P (o "__firstlineno__"), .str (o "__firstlineno__") 676, .int 267 675⟩, ⟨kh P (o "__init__"), .str (o "__init__") 684, .ref 372⟩, ⟨kh P (o "__call__"), .str (o "__call__") 695, .ref 380⟩, ⟨kh P (o "preProcess"), .str (o "preProcess") 709, .ref 387⟩, ⟨kh P (o "__static_attributes__"), .str (o "__static_attributes__") 711, .ref 388⟩, ⟨kh P (o "__doc__"), .str (o "__doc__") 712, .none⟩]) 2), #[]⟩),
  (390, ⟨.type "type", none, (.cls ⟨(o "InSetConstraint"), [.ref 308], [.ref 390, .ref 308, .type "object"], 389, (o "InSetConstraint"), true, [], [], false, none, false⟩), #[some (.ref 359), none, some (.str (o "InSetConstraint") 665), some (.str (o "InSetConstraint") 673), some (.builtin "object.__new__"), some (.bool true)]⟩),
  (393, ⟨.type "tuple", none, (.seq #[.int 14 717, .int 1002 718, .int 999 719, .int 1003 720, .int 1001 721, .int 998 722, .int 1002 723] 0), #[]⟩),
  (394, ⟨.type "tuple", none, (.seq #[.int 0 725, .int 1 726] 0), #[]⟩),
  (395, ⟨.type "tuple", none, (.seq #[.int 0 727, .int 2 728] 0), #[]⟩),
  (396, ⟨.type "tuple", none, (.seq #[.int 0 729, .int 3 730] 0), #[]⟩),
  (397, ⟨.type "tuple", none, (.seq #[.int 1 731, .int 2 732] 0), #[]⟩),
  (398, ⟨.type "tuple", none, (.seq #[.int 1 733, .int 3 734] 0), #[]⟩),
  (399, ⟨.type "tuple", none, (.seq #[.int 2 735, .int 3 736] 0), #[]⟩),
  (400, ⟨.type "tuple", none, (.seq #[.ref 394, .ref 395, .ref 396, .ref 397, .ref 398, .ref 399] 0), #[]⟩),
  (406, ⟨.type "code", none, (.fields #[.str (o "_law_even") 738, .str (o "_law_even") 739, .str (o "/claim/cut.py") 740, .int 286 0, .int 3 0, .int 0 0, .int 0 0, .int 3 0, .ref 401, .bool true, .int 181 0, .ref 402, .none, .ref 403, .ref 404, .ref 405, .int 744 0, .int 286 0, .str (o "/claim/cut.py") 745]), #[]⟩),
  (407, ⟨.type "function", none, (.func (fdOf 15 none (o "_law_even") (.ref 406) (.none) (.none) (.str (o "law_de5024_01") 715) 3 0)), #[]⟩),
  (413, ⟨.type "code", none, (.fields #[.str (o "_law_sides") 747, .str (o "_law_sides") 748, .str (o "/claim/cut.py") 749, .int 288 0, .int 2 0, .int 0 0, .int 0 0, .int 3 0, .ref 408, .bool true, .int 181 0, .ref 409, .none, .ref 410, .ref 411, .ref 412, .int 757 0, .int 288 0, .str (o "/claim/cut.py") 758]), #[]⟩),
  (414, ⟨.type "function", none, (.func (fdOf 16 none (o "_law_sides") (.ref 413) (.none) (.none) (.str (o "law_de5024_01") 715) 3 0)), #[]⟩),
  (418, ⟨.type "code", none, (.fields #[.str (o "law") 760, .str (o "law") 761, .str (o "/claim/cut.py") 762, .int 297 0, .int 1 0, .int 0 0, .int 0 0, .int 3 0, .ref 415, .bool true, .int 181 0, .ref 416, .none, .none, .none, .ref 417, .int 763 0, .int 297 0, .str (o "/claim/cut.py") 764]), #[]⟩),
  (419, ⟨.type "function", none, (.func (fdOf 17 none (o "law") (.ref 418) (.none) (.none) (.str (o "law_de5024_01") 715) 3 0)), #[]⟩)]
end Mine
set_option maxRecDepth 100000
namespace Mine
open PySem

/-! sizes of the heap never shrink -/
theorem runs_size {M : Model} {Γ : Ctx} {p : Pos} {t : Sem PySem.Fin} {fs : List Frame} {s s' : Shared} {e : End} (h : Runs M Γ p t fs s e s') : s.heap.objs.size ≤ s'.heap.objs.size := by
  induction h <;> (try simp only [Shared.setGen, Heap.size_push, Heap.size_after_update] at *) <;> omega
theorem returns_size {M : Model} {Γ : Ctx} {p : Pos} {s s' : Shared} {r : Result} (h : Returns M Γ p s r s') : s.heap.objs.size ≤ s'.heap.objs.size := runs_size h
theorem wakes_size {M : Model} {Γ : Ctx} {p : Pos} {g : Nat} {r : Resume} {s s' : Shared} {res : GenResult} (h : Wakes M Γ p g r s res s') : s.heap.objs.size ≤ s'.heap.objs.size := by
  unfold Wakes at h
  split at h
  · exact h.elim
  · split at h
    · obtain ⟨e₁, s₁, hr, _, _, rfl⟩ := h; exact (runs_size hr : (s.setGen g .running).heap.objs.size ≤ s₁.heap.objs.size)
    · rw [h.2]; exact Nat.le_refl _
    · rw [h.2]; exact Nat.le_refl _
  · obtain ⟨e₁, s₁, hr, _, _, rfl⟩ := h; exact (runs_size hr : (s.setGen g .running).heap.objs.size ≤ s₁.heap.objs.size)
  · rw [h.2]; exact Nat.le_refl _
  · rw [h.2]; exact Nat.le_refl _

theorem wp_size {α : Type} (M : Model) (Γ : Ctx) (n : Nat) (t : Sem α) : ∀ (Q : α → Pos → Shared → Prop) (E : Value → Pos → Shared → Prop) (p : Pos) (s : Shared), n ≤ s.heap.objs.size → Sem.wp M Γ t Q E p s →
    Sem.wp M Γ t (fun a p' s' => n ≤ s'.heap.objs.size ∧ Q a p' s') (fun e p' s' => n ≤ s'.heap.objs.size ∧ E e p' s') p s := by
  induction t with
  | pure a => intro Q E p s hn h; exact ⟨hn, h⟩
  | raise e => intro Q E p s hn h; exact ⟨hn, h⟩
  | unsupported _ => intro Q E p s _ h; exact h
  | finish _ => intro Q E p s _ h; exact h
  | rule _ k ih => intro Q E p s hn h; exact ih () Q E p s hn h
  | «at» p' k ih => intro Q E p s hn h; exact ih () Q E p' s hn h
  | load a _ k ih => intro Q E p s hn h; obtain ⟨o, ho, h⟩ := h; exact ⟨o, ho, ih o Q E p s hn h⟩
  | update a _ f k ih => intro Q E p s hn h; exact ⟨h.1, ih () Q E p _ (by rw [Heap.size_after_update]; exact hn) h.2⟩
  | loadIfAlive a k ih => intro Q E p s hn h; exact ih _ Q E p s hn h
  | point _ k ih => intro Q E p s hn h; exact ih () Q E p s hn h
  | register _ _ => intro Q E p s _ h; exact h
  | alloc o k ih => intro Q E p s hn h; exact ih _ Q E p _ (by rw [Heap.size_push]; omega) h
  | fresh k ih => intro Q E p s hn h; exact ih _ Q E p _ hn h
  | ask k ih => intro Q E p s hn h; exact ih _ Q E p s hn h
  | choose src m k ih => intro Q E p s hn h; exact ⟨h.1, ih _ Q E p _ hn h.2⟩
  | os q _ k ih => intro Q E p s hn h; exact ih _ Q E p _ hn h
  | call c hd _ _ k ih => intro Q E p s hn h; obtain ⟨r, s', hr, h⟩ := h; exact ⟨r, s', hr, ih r Q E p s' (Nat.le_trans hn (returns_size hr)) h⟩
  | handled own k ih => intro Q E p s hn h; exact ih _ Q E p s hn h
  | genState g k ih => intro Q E p s hn h; obtain ⟨st, hs, h⟩ := h; exact ⟨st, hs, ih _ Q E p s hn h⟩
  | newGen c k ih => intro Q E p s hn h; exact ih _ Q E p _ hn h
  | resume g r _ k ih => intro Q E p s hn h; obtain ⟨res, s', hw, h⟩ := h; exact ⟨res, s', hw, ih res Q E p s' (Nat.le_trans hn (wakes_size hw)) h⟩
  | yield _ _ _ _ => intro Q E p s _ h; exact h
  | stack k ih => intro Q E p s hn h; exact ih _ Q E p s hn h
  | fork _ _ => intro Q E p s _ h; exact h
  | thread k ih => intro Q E p s hn h; exact ih _ Q E p s hn h
  | await _ _ _ _ _ => intro Q E p s _ h; exact h

theorem wpAny_with_size {α : Type} {M : Model} {A : Around} {s : Shared} {t : Sem α} {Q : α → Shared → Prop} {E : Value → Shared → Prop}
    (h : wpAny M A t (fun a s' => s.heap.objs.size ≤ s'.heap.objs.size → Q a s') E s) : wpAny M A t Q E s :=
  fun Γ p hΓ => Sem.wp_mono M Γ t (fun _ _ _ x => x.2 x.1) (fun _ _ _ x => x.2) p s (wp_size M Γ _ t _ _ p s (Nat.le_refl _) (h Γ p hΓ))
theorem codeAny_with_size {M : Model} {A : Around} {s : Shared} {c : Code} {R : Result → Shared → Prop}
    (h : codeAny M A c (fun r s' => s.heap.objs.size ≤ s'.heap.objs.size → R r s') s) : codeAny M A c R s :=
  fun Γ p hc hΓ => by obtain ⟨r, s', hr, hR⟩ := h Γ p hc hΓ; exact ⟨r, s', hr, hR (returns_size hr)⟩

/-- a tighter surrounding serves -/
theorem wpAny_weaken {α : Type} {M : Model} {A B : Around} {s : Shared} {t : Sem α} {Q : α → Shared → Prop} {E : Value → Shared → Prop}
    (hh : A.handled = B.handled) (hd : A.depth ≤ B.depth) (hu : A.units ≤ B.units) (hf : B.frames = none) (hg : B.guards = none) (h : wpAny M B t Q E s) : wpAny M A t Q E s :=
  fun Γ p hΓ => h Γ p ⟨hΓ.1.trans hh, Nat.le_trans hΓ.2.1 hd, (fun l hl => by rw [hf] at hl; cases hl), (fun g hl => by rw [hg] at hl; cases hl), Nat.le_trans hΓ.2.2.2.2 hu⟩
end Mine
set_option maxRecDepth 100000
namespace Mine
open PySem

/-! what is gone stays gone, and sizes never shrink -/
def Dd (h h' : Heap) : Prop := h.objs.size ≤ h'.objs.size ∧ ∀ a, a < h.objs.size → h.get? a = none → h'.get? a = none
theorem Dd.refl (h : Heap) : Dd h h := ⟨Nat.le_refl _, fun _ _ e => e⟩
theorem Dd.trans {h₁ h₂ h₃ : Heap} (x : Dd h₁ h₂) (y : Dd h₂ h₃) : Dd h₁ h₃ := ⟨Nat.le_trans x.1 y.1, fun a l e => y.2 a (Nat.lt_of_lt_of_le l x.1) (x.2 a l e)⟩
theorem Dd.push (h : Heap) (o : Obj) : Dd h (h.push o) := ⟨by rw [Heap.size_push]; exact Nat.le_succ _, fun a l e => by rw [Heap.get?_push_ne _ _ _ (Nat.ne_of_lt l)]; exact e⟩
theorem Dd.update {h : Heap} {a : Addr} (f : Obj → Obj) (x : (h.get? a).isSome) : Dd h (h.update a f) := ⟨by rw [Heap.size_after_update]; exact Nat.le_refl _, fun b _ e => by
  by_cases q : b = a
  · subst q; rw [e] at x; cases x
  · rw [Heap.get?_update_ne _ _ _ _ q]; exact e⟩
theorem runs_dead {M : Model} {Γ : Ctx} {p : Pos} {t : Sem PySem.Fin} {fs : List Frame} {s s' : Shared} {e : End} (h : Runs M Γ p t fs s e s') : Dd s.heap s'.heap := by
  induction h with
  | update x _ ih => exact (Dd.update _ x).trans ih
  | alloc _ ih => exact (Dd.push _ _).trans ih
  | done => exact Dd.refl _
  | raise => exact Dd.refl _
  | yield => exact Dd.refl _
  | call _ _ ih1 ih2 => exact ih1.trans ih2
  | resumeFresh _ _ _ _ ih1 ih2 => exact Dd.trans ih1 ih2
  | resumeSuspended _ _ _ _ ih1 ih2 => exact Dd.trans ih1 ih2
  | segRet _ _ ih1 ih2 => exact ih1.trans ih2
  | segGen _ _ ih1 ih2 => exact Dd.trans ih1 ih2
  | segSuspGen _ _ _ _ ih1 ih2 => exact Dd.trans ih1 ih2
  | _ => (rename_i ih; exact ih)
theorem returns_dead {M : Model} {Γ : Ctx} {p : Pos} {s s' : Shared} {r : Result} (h : Returns M Γ p s r s') : Dd s.heap s'.heap := runs_dead h
theorem wakes_dead {M : Model} {Γ : Ctx} {p : Pos} {g : Nat} {r : Resume} {s s' : Shared} {res : GenResult} (h : Wakes M Γ p g r s res s') : Dd s.heap s'.heap := by
  unfold Wakes at h
  split at h
  · exact h.elim
  · split at h
    · obtain ⟨e₁, s₁, hr, _, _, rfl⟩ := h; exact (runs_dead hr : Dd (s.setGen g .running).heap s₁.heap)
    · rw [h.2]; exact Dd.refl _
    · rw [h.2]; exact Dd.refl _
  · obtain ⟨e₁, s₁, hr, _, _, rfl⟩ := h; exact (runs_dead hr : Dd (s.setGen g .running).heap s₁.heap)
  · rw [h.2]; exact Dd.refl _
  · rw [h.2]; exact Dd.refl _
theorem wp_dead {α : Type} (M : Model) (Γ : Ctx) (h0 : Heap) (t : Sem α) : ∀ (Q : α → Pos → Shared → Prop) (E : Value → Pos → Shared → Prop) (p : Pos) (s : Shared), Dd h0 s.heap → Sem.wp M Γ t Q E p s →
    Sem.wp M Γ t (fun a p' s' => Dd h0 s'.heap ∧ Q a p' s') (fun e p' s' => Dd h0 s'.heap ∧ E e p' s') p s := by
  induction t with
  | pure a => intro Q E p s hn h; exact ⟨hn, h⟩
  | raise e => intro Q E p s hn h; exact ⟨hn, h⟩
  | unsupported _ => intro Q E p s _ h; exact h
  | finish _ => intro Q E p s _ h; exact h
  | rule _ k ih => intro Q E p s hn h; exact ih () Q E p s hn h
  | «at» p' k ih => intro Q E p s hn h; exact ih () Q E p' s hn h
  | load a _ k ih => intro Q E p s hn h; obtain ⟨o, ho, h⟩ := h; exact ⟨o, ho, ih o Q E p s hn h⟩
  | update a _ f k ih => intro Q E p s hn h; exact ⟨h.1, ih () Q E p _ (hn.trans (Dd.update f h.1)) h.2⟩
  | loadIfAlive a k ih => intro Q E p s hn h; exact ih _ Q E p s hn h
  | point _ k ih => intro Q E p s hn h; exact ih () Q E p s hn h
  | register _ _ => intro Q E p s _ h; exact h
  | alloc o k ih => intro Q E p s hn h; exact ih _ Q E p _ (hn.trans (Dd.push _ o)) h
  | fresh k ih => intro Q E p s hn h; exact ih _ Q E p _ hn h
  | ask k ih => intro Q E p s hn h; exact ih _ Q E p s hn h
  | choose src m k ih => intro Q E p s hn h; exact ⟨h.1, ih _ Q E p _ hn h.2⟩
  | os q _ k ih => intro Q E p s hn h; exact ih _ Q E p _ hn h
  | call c hd _ _ k ih => intro Q E p s hn h; obtain ⟨r, s', hr, h⟩ := h; exact ⟨r, s', hr, ih r Q E p s' (hn.trans (returns_dead hr)) h⟩
  | handled own k ih => intro Q E p s hn h; exact ih _ Q E p s hn h
  | genState g k ih => intro Q E p s hn h; obtain ⟨st, hs, h⟩ := h; exact ⟨st, hs, ih _ Q E p s hn h⟩
  | newGen c k ih => intro Q E p s hn h; exact ih _ Q E p _ hn h
  | resume g r _ k ih => intro Q E p s hn h; obtain ⟨res, s', hw, h⟩ := h; exact ⟨res, s', hw, ih res Q E p s' (hn.trans (wakes_dead hw)) h⟩
  | yield _ _ _ _ => intro Q E p s _ h; exact h
  | stack k ih => intro Q E p s hn h; exact ih _ Q E p s hn h
  | fork _ _ => intro Q E p s _ h; exact h
  | thread k ih => intro Q E p s hn h; exact ih _ Q E p s hn h
  | await _ _ _ _ _ => intro Q E p s _ h; exact h
theorem wpAny_with_dead {α : Type} {M : Model} {A : Around} {s : Shared} {t : Sem α} {Q : α → Shared → Prop} {E : Value → Shared → Prop}
    (h : wpAny M A t (fun a s' => Dd s.heap s'.heap → Q a s') E s) : wpAny M A t Q E s :=
  fun Γ p hΓ => Sem.wp_mono M Γ t (fun _ _ _ x => x.2 x.1) (fun _ _ _ x => x.2) p s (wp_dead M Γ _ t _ _ p s (Dd.refl _) (h Γ p hΓ))
theorem Dd.fresh {h h' : Heap} (x : Dd h h') {a : Addr} {o : Obj} (e : h.get? a = none) (e' : h'.get? a = some o) : h.objs.size ≤ a := by
  rcases Nat.lt_or_ge a h.objs.size with l | l
  · rw [x.2 a l e] at e'; cases e'
  · exact l
end Mine
set_option maxRecDepth 100000
namespace Mine
noncomputable section
open PySem PySem.W PyProof.Rows

/-! ### combinators -/
theorem ob_none {α β : Type} (k : α → Option β) : ob none k = none := rfl
theorem ob_some {α β : Type} (a : α) (k : α → Option β) : ob (some a) k = k a := rfl
theorem ob_eq {α β : Type} {r : Option α} {k : α → Option β} {y : β} (h : ob r k = some y) : ∃ a, r = some a ∧ k a = some y := by
  cases r with
  | none => cases h
  | some a => exact ⟨a, rfl, h⟩
theorem bnd_eq {σ α β : Type} {r : Option (α × σ)} {k : α → σ → Option β} {y : β} (h : bnd r k = some y) : ∃ a s, r = some (a, s) ∧ k a s = some y := by
  cases r with
  | none => cases h
  | some p => obtain ⟨a, s⟩ := p; exact ⟨a, s, rfl, h⟩
theorem br_true {α : Type} (x y : α) : br true x y = x := rfl
theorem br_false {α : Type} (x y : α) : br false x y = y := rfl
theorem br_none {α : Type} {b : Bool} {x : Option α} {y : α} (h : br b x none = some y) : b = true ∧ x = some y := by
  cases b with
  | false => cases h
  | true => exact ⟨rfl, h⟩
theorem br_none' {α : Type} {b : Bool} {x : Option α} {y : α} (h : br b none x = some y) : b = false ∧ x = some y := by
  cases b with
  | true => cases h
  | false => exact ⟨rfl, h⟩
theorem opt_none {α β : Type} (k : α → β) (d : β) : opt none k d = d := rfl
theorem opt_some {α β : Type} (a : α) (k : α → β) (d : β) : opt (some a) k d = k a := rfl
theorem ret_eq {α : Type} {a b : α} {σ τ : AS} (h : ret a σ = some (b, τ)) : b = a ∧ τ = σ := by
  unfold ret at h; cases h; exact ⟨rfl, rfl⟩
theorem nbeq {a b : Nat} (h : Nat.beq a b = true) : a = b := Nat.eq_of_beq_eq_true h
theorem nbne {a b : Nat} (h : Nat.beq a b = false) : a ≠ b := Nat.ne_of_beq_eq_false h

theorem lk_nil {α : Type} (x : Nat) : lk ([] : List (Nat × α)) x = none := rfl
theorem lk_cons {α : Type} (k : Nat) (v : α) (r : List (Nat × α)) (x : Nat) : lk ((k, v) :: r) x = if k = x then some v else lk r x := by
  show br (Nat.beq k x) (some v) (lk r x) = _
  cases h : Nat.beq k x with
  | true => rw [if_pos (nbeq h)]; rfl
  | false => rw [if_neg (nbne h)]; rfl
theorem up_nil {α : Type} (x : Nat) (v : α) : up x v [] = [(x, v)] := rfl
theorem up_cons {α : Type} (x : Nat) (v : α) (k : Nat) (u : α) (r : List (Nat × α)) : up x v ((k, u) :: r) = if k = x then (k, v) :: r else (k, u) :: up x v r := by
  show br (Nat.beq k x) ((k, v) :: r) ((k, u) :: up x v r) = _
  cases h : Nat.beq k x with
  | true => rw [if_pos (nbeq h)]; rfl
  | false => rw [if_neg (nbne h)]; rfl
theorem lk_up {α : Type} (x : Nat) (v : α) : ∀ (l : List (Nat × α)) (y : Nat), lk (up x v l) y = if y = x then some v else lk l y
  | [], y => by rw [up_nil, lk_cons, lk_nil]; by_cases h : x = y <;> simp [h, eq_comm]
  | (k, u) :: r, y => by
    rw [up_cons]
    by_cases h : k = x
    · subst h
      rw [if_pos rfl, lk_cons, lk_cons]
      by_cases q : k = y <;> simp [q, eq_comm]
    · rw [if_neg h, lk_cons, lk_cons, lk_up x v r y]
      by_cases q : k = y
      · subst q; simp [h]
      · simp [q]

/-! ### the trie -/
namespace Tr
variable {α : Type}
theorem get_nil (i : Nat) : (Tr.nil : Tr α).get i = none := rfl
theorem get_node (v : Option α) (l r : Tr α) (i : Nat) : (node v l r).get i = if i = 0 then v else if i % 2 = 1 then l.get (i / 2) else r.get (i / 2 - 1) := by
  show br (Nat.beq i 0) v (br (Nat.beq (Nat.mod i 2) 1) (l.get (Nat.div i 2)) (r.get (Nat.sub (Nat.div i 2) 1))) = _
  cases h : Nat.beq i 0 with
  | true => rw [if_pos (nbeq h)]; rfl
  | false =>
    rw [if_neg (nbne h)]
    cases q : Nat.beq (Nat.mod i 2) 1 with
    | true => rw [if_pos (show i % 2 = 1 from nbeq q)]; rfl
    | false => rw [if_neg (show ¬ i % 2 = 1 from nbne q)]; rfl
theorem put_zero (x : α) (i : Nat) : put x 0 i = .nil := rfl
theorem put_succ (x : α) (n i : Nat) : put x (n + 1) i = if i = 0 then .node (some x) .nil .nil else if i % 2 = 1 then .node none (put x n (i / 2)) .nil else .node none .nil (put x n (i / 2 - 1)) := by
  show br (Nat.beq i 0) (Tr.node (some x) .nil .nil) (br (Nat.beq (Nat.mod i 2) 1) (Tr.node none (put x n (Nat.div i 2)) .nil) (Tr.node none .nil (put x n (Nat.sub (Nat.div i 2) 1)))) = _
  cases h : Nat.beq i 0 with
  | true => rw [if_pos (nbeq h)]; rfl
  | false =>
    rw [if_neg (nbne h)]
    cases q : Nat.beq (Nat.mod i 2) 1 with
    | true => rw [if_pos (show i % 2 = 1 from nbeq q)]; rfl
    | false => rw [if_neg (show ¬ i % 2 = 1 from nbne q)]; rfl
theorem set_nil (n : Nat) (i : Nat) (x : α) : set n .nil i x = put x n i := rfl
theorem set_node (n : Nat) (v : Option α) (l r : Tr α) (i : Nat) (x : α) : set n (.node v l r) i x = if i = 0 then .node (some x) l r else if i % 2 = 1 then .node v (set n l (i / 2) x) r else .node v l (set n r (i / 2 - 1) x) := by
  show br (Nat.beq i 0) (Tr.node (some x) l r) (br (Nat.beq (Nat.mod i 2) 1) (Tr.node v (set n l (Nat.div i 2) x) r) (Tr.node v l (set n r (Nat.sub (Nat.div i 2) 1) x))) = _
  cases h : Nat.beq i 0 with
  | true => rw [if_pos (nbeq h)]; rfl
  | false =>
    rw [if_neg (nbne h)]
    cases q : Nat.beq (Nat.mod i 2) 1 with
    | true => rw [if_pos (show i % 2 = 1 from nbeq q)]; rfl
    | false => rw [if_neg (show ¬ i % 2 = 1 from nbne q)]; rfl
theorem put_self (x : α) : ∀ (n i : Nat) (y : α), (put x n i).get i = some y → y = x
  | 0, i, y, h => by cases h
  | n + 1, i, y, h => by
    rw [put_succ] at h
    by_cases h0 : i = 0
    · subst h0; rw [if_pos rfl, get_node, if_pos rfl] at h; cases h; rfl
    · rw [if_neg h0] at h
      by_cases p : i % 2 = 1
      · rw [if_pos p, get_node, if_neg h0, if_pos p] at h; exact put_self x n _ y h
      · rw [if_neg p, get_node, if_neg h0, if_neg p] at h; exact put_self x n _ y h
theorem put_other (x : α) : ∀ (n i j : Nat), j ≠ i → (put x n i).get j = none
  | 0, i, j, _ => rfl
  | n + 1, i, j, hij => by
    rw [put_succ]
    by_cases h0 : i = 0
    · subst h0
      rw [if_pos rfl, get_node, if_neg hij]
      split <;> rfl
    · rw [if_neg h0]
      by_cases p : i % 2 = 1
      · rw [if_pos p, get_node]
        by_cases j0 : j = 0
        · rw [if_pos j0]
        · rw [if_neg j0]
          by_cases q : j % 2 = 1
          · rw [if_pos q]; exact put_other x n _ _ (by omega)
          · rw [if_neg q]; rfl
      · rw [if_neg p, get_node]
        by_cases j0 : j = 0
        · rw [if_pos j0]
        · rw [if_neg j0]
          by_cases q : j % 2 = 1
          · rw [if_pos q]; rfl
          · rw [if_neg q]; exact put_other x n _ _ (by omega)
theorem set_self (n : Nat) (x : α) : ∀ (t : Tr α) (i : Nat) (y : α), (set n t i x).get i = some y → y = x
  | .nil, i, y, h => put_self x n i y h
  | .node v l r, i, y, h => by
    rw [set_node] at h
    by_cases h0 : i = 0
    · subst h0; rw [if_pos rfl, get_node, if_pos rfl] at h; cases h; rfl
    · rw [if_neg h0] at h
      by_cases p : i % 2 = 1
      · rw [if_pos p, get_node, if_neg h0, if_pos p] at h; exact set_self n x l _ y h
      · rw [if_neg p, get_node, if_neg h0, if_neg p] at h; exact set_self n x r _ y h
theorem set_other (n : Nat) (x : α) : ∀ (t : Tr α) (i j : Nat), j ≠ i → (set n t i x).get j = t.get j
  | .nil, i, j, h => put_other x n i j h
  | .node v l r, i, j, hij => by
    rw [set_node]
    by_cases h0 : i = 0
    · subst h0; rw [if_pos rfl, get_node, get_node, if_neg hij, if_neg hij]
    · rw [if_neg h0]
      by_cases p : i % 2 = 1
      · rw [if_pos p, get_node, get_node]
        by_cases j0 : j = 0
        · rw [if_pos j0, if_pos j0]
        · rw [if_neg j0, if_neg j0]
          by_cases q : j % 2 = 1
          · rw [if_pos q, if_pos q]; exact set_other n x l _ _ (by omega)
          · rw [if_neg q, if_neg q]
      · rw [if_neg p, get_node, get_node]
        by_cases j0 : j = 0
        · rw [if_pos j0, if_pos j0]
        · rw [if_neg j0, if_neg j0]
          by_cases q : j % 2 = 1
          · rw [if_pos q, if_pos q]
          · rw [if_neg q, if_neg q]; exact set_other n x r _ _ (by omega)
end Tr
theorem set_get {σ : AS} {j i : Nat} {o x : AO} (h : (σ.set j o).get i = some x) : (i = j ∧ x = o) ∨ (i ≠ j ∧ σ.get i = some x) := by
  by_cases e : i = j
  · subst e; exact .inl ⟨rfl, Tr.set_self 20 o σ.t i x h⟩
  · refine .inr ⟨e, ?_⟩
    have := Tr.set_other 20 o σ.t j i e
    exact this.symm.trans h
theorem set_get_ne {σ : AS} {j i : Nat} {o : AO} (e : i ≠ j) : (σ.set j o).get i = σ.get i := Tr.set_other 20 o σ.t j i e
theorem new_get {σ : AS} {i : Nat} {o x : AO} (h : (σ.new o).get i = some x) : (i = σ.m ∧ x = o) ∨ (i ≠ σ.m ∧ σ.get i = some x) := by
  by_cases e : i = σ.m
  · subst e; exact .inl ⟨rfl, Tr.set_self 20 o σ.t _ x h⟩
  · refine .inr ⟨e, ?_⟩
    have := Tr.set_other 20 o σ.t σ.m i e
    exact this.symm.trans h
theorem new_get_ne {σ : AS} {i : Nat} {o : AO} (e : i ≠ σ.m) : (σ.new o).get i = σ.get i := Tr.set_other 20 o σ.t σ.m i e

/-! ### two lists, item by item -/
inductive All2 {α β : Type} (P : α → β → Prop) : List α → List β → Prop where
  | nil : All2 P [] []
  | cons {a : α} {b : β} {as : List α} {bs : List β} : P a b → All2 P as bs → All2 P (a :: as) (b :: bs)
namespace All2
variable {α β : Type} {P P' : α → β → Prop}
theorem length {as : List α} {bs : List β} (h : All2 P as bs) : as.length = bs.length := by
  induction h with
  | nil => rfl
  | cons _ _ ih => simp [ih]
theorem mono {as : List α} {bs : List β} (h : All2 P as bs) (f : ∀ a b, P a b → P' a b) : All2 P' as bs := by
  induction h with
  | nil => exact .nil
  | cons x _ ih => exact .cons (f _ _ x) ih
theorem get? {as : List α} {bs : List β} (h : All2 P as bs) : ∀ {i : Nat} {a : α}, as[i]? = some a → ∃ b, bs[i]? = some b ∧ P a b := by
  induction h with
  | nil => intro i a e; simp at e
  | cons x _ ih =>
    intro i a e
    cases i with
    | zero => simp at e; subst e; exact ⟨_, rfl, x⟩
    | succ i => simp at e; simpa using ih e
theorem append {as as' : List α} {bs bs' : List β} (h : All2 P as bs) (h' : All2 P as' bs') : All2 P (as ++ as') (bs ++ bs') := by
  induction h with
  | nil => exact h'
  | cons x _ ih => exact .cons x ih
theorem drop {as : List α} {bs : List β} (h : All2 P as bs) : ∀ n, All2 P (as.drop n) (bs.drop n) := by
  induction h with
  | nil => intro n; simp; exact .nil
  | cons x y ih =>
    intro n
    cases n with
    | zero => exact .cons x y
    | succ n => exact ih n
theorem take {as : List α} {bs : List β} (h : All2 P as bs) : ∀ n, All2 P (as.take n) (bs.take n) := by
  induction h with
  | nil => intro n; simp; exact .nil
  | cons x y ih =>
    intro n
    cases n with
    | zero => exact .nil
    | succ n => exact .cons x (ih n)
end All2

/-! ### what an abstract thing is -/
structure Cx where
  w : World
  kp : Addr → Obj → Prop
  ρ : Nat → Int
  n : Nat
  os : OsState
  dr : Drawn
  mask : Nat
abbrev pw : Program := PySem.Challenge.pw_de5024_01
def Cx.M (c : Cx) : Model := model pw c.w

def SE.den (ρ : Nat → Int) : SE → Int
  | .c i => i
  | .at k => ρ k
  | .res k => (ρ k).fmod 2001
  | .add a b => a.den ρ + b.den ρ
  | .sub a b => a.den ρ - b.den ρ
  | .mul a b => a.den ρ * b.den ρ
def biN (x : Nat) : String := br (Nat.beq x 45) "len" (br (Nat.beq x 16) "isinstance" (br (Nat.beq x 18) "callable" "hasattr"))
def tyN (x : Nat) : String := br (Nat.beq x 81) "range" "list"
def nmN : Nat := 102

def VR (c : Cx) (φ : List Addr) : AV → Value → Prop
  | .none, v => v = .none
  | .bool b, v => v = .bool b
  | .int i, v => ∃ t, v = .int i t
  | .sym e, v => ∃ t, v = .int (e.den c.ρ) t
  | .slen, v => ∃ t, v = .int c.n t
  | .str x, v => ∃ t, v = .str (nm x) t
  | .ref i, v => ∃ a, φ[i]? = some a ∧ v = .ref a
  | .st a, v => v = .ref a
  | .bi x, v => v = .builtin (biN x)
  | .ty x, v => v = .type (tyN x)
theorem VR.mono {c : Cx} {φ φ' : List Addr} (h : φ <+: φ') {x : AV} {v : Value} (r : VR c φ x v) : VR c φ' x v := by
  cases x <;> try exact r
  obtain ⟨a, e, rfl⟩ := r
  obtain ⟨t, rfl⟩ := h
  exact ⟨a, by rw [List.getElem?_append_left (by exact (List.getElem?_eq_some_iff.mp e).1)]; exact e, rfl⟩
theorem pre_get {φ φ' : List Addr} (h : φ <+: φ') {i : Nat} {a : Addr} (e : φ[i]? = some a) : φ'[i]? = some a := by
  obtain ⟨t, rfl⟩ := h
  rw [List.getElem?_append_left (by exact (List.getElem?_eq_some_iff.mp e).1)]; exact e

def OV (c : Cx) (φ : List Addr) : Option AV → Option Value → Prop
  | none, v => v = none
  | some x, v => ∃ u, v = some u ∧ VR c φ x u
theorem OV.mono {c : Cx} {φ φ' : List Addr} (h : φ <+: φ') {x : Option AV} {v : Option Value} (r : OV c φ x v) : OV c φ' x v := by
  cases x with
  | none => exact r
  | some x => obtain ⟨u, e, q⟩ := r; exact ⟨u, e, q.mono h⟩

/-- a namespace: its names are the table's -/
def NsR (c : Cx) (φ : List Addr) (h : Heap) (a : Addr) (es : List (Nat × AV)) : Prop := ∃ m, h.Ns a m ∧ ∀ x, x < nmN → OV c φ (lk es x) (m (nm x))
/-- a dict's entries -/
def KV (c : Cx) (φ : List Addr) (es : List (Int × AV)) (kvs : List (Int × Value)) : Prop := All2 (fun (e : Int × AV) (p : Int × Value) => e.1 = p.1 ∧ VR c φ e.2 p.2) es kvs

def OR (c : Cx) (φ : List Addr) (h : Heap) (a : Addr) : AO → Prop
  | .list xs => xs.length ≤ 1000 ∧ ∃ vs n, h.get? a = some ⟨.type "list", none, .seq vs n, #[]⟩ ∧ All2 (VR c φ) xs vs.toList
  | .tup xs => xs.length ≤ 1000 ∧ ∃ vs n, h.get? a = some ⟨.type "tuple", none, .seq vs n, #[]⟩ ∧ All2 (VR c φ) xs vs.toList
  | .dict es => es.length ≤ 1000 ∧ ∃ kvs, h.DictOf (intKind pw c.w) a kvs ∧ KV c φ es kvs
  | .fdict es => es.length ≤ 1000 ∧ ∃ kvs, h.DictOf (intKind pw c.w) a kvs ∧ KV c φ es kvs
  | .ns es => NsR c φ h a es
  | .inst C d => ∃ b, φ[d]? = some b ∧ h.get? a = some ⟨.ref C, some b, .plain, #[]⟩
  | .dom d xs => xs.length ≤ 1000 ∧ ∃ b vs n, φ[d]? = some b ∧ h.get? a = some ⟨.ref 264, some b, .seq vs n, #[]⟩ ∧ All2 (VR c φ) xs vs.toList
  | .lit l i => ∃ b, φ[l]? = some b ∧ h.IsListIter a b i
  | .tit xs i => ∃ t vs, h.IsTupleIter a t i ∧ h.IsTuple t vs ∧ All2 (VR c φ) xs vs.toList
  | .kit d es i => ∃ b kvs ep, φ[d]? = some b ∧ h.IsKeyIter a b i kvs.length ep ∧ h.DictAt (intKind pw c.w) b kvs ep ∧ KV c φ es kvs
  | .vals d => ∃ b, φ[d]? = some b ∧ h.IsValuesView a b
  | .vit d es i => ∃ b kvs ep, φ[d]? = some b ∧ h.IsValIter a b i kvs.length ep ∧ h.DictAt (intKind pw c.w) b kvs ep ∧ KV c φ es kvs
  | .rng n => n ≤ 1000 ∧ ∃ t u v, IsRange h a 0 n 1 t u v
  | .rit i n => IsRangeIter h a i ((n : Int) - i) 1
  | .dead => True

theorem KV.mono {c : Cx} {φ φ' : List Addr} (h : φ <+: φ') {es kvs} (r : KV c φ es kvs) : KV c φ' es kvs := All2.mono r fun _ _ x => ⟨x.1, x.2.mono h⟩
theorem vrs_mono {c : Cx} {φ φ' : List Addr} (h : φ <+: φ') {xs vs} (r : All2 (VR c φ) xs vs) : All2 (VR c φ') xs vs := r.mono fun _ _ x => x.mono h
theorem NsR.mono {c : Cx} {φ φ' : List Addr} (h : φ <+: φ') {hp a es} (r : NsR c φ hp a es) : NsR c φ' hp a es := let ⟨m, x, y⟩ := r; ⟨m, x, fun i hi => (y i hi).mono h⟩
theorem OR.mono {c : Cx} {φ φ' : List Addr} (h : φ <+: φ') {hp : Heap} {a : Addr} {o : AO} (r : OR c φ hp a o) : OR c φ' hp a o := by
  cases o with
  | list xs => obtain ⟨l, vs, n, e, q⟩ := r; exact ⟨l, vs, n, e, vrs_mono h q⟩
  | tup xs => obtain ⟨l, vs, n, e, q⟩ := r; exact ⟨l, vs, n, e, vrs_mono h q⟩
  | dict es => obtain ⟨l, kvs, e, q⟩ := r; exact ⟨l, kvs, e, q.mono h⟩
  | fdict es => obtain ⟨l, kvs, e, q⟩ := r; exact ⟨l, kvs, e, q.mono h⟩
  | ns es => exact NsR.mono h r
  | inst C d => obtain ⟨b, e, q⟩ := r; exact ⟨b, pre_get h e, q⟩
  | dom d xs => obtain ⟨l, b, vs, n, e, q, z⟩ := r; exact ⟨l, b, vs, n, pre_get h e, q, vrs_mono h z⟩
  | lit l i => obtain ⟨b, e, q⟩ := r; exact ⟨b, pre_get h e, q⟩
  | tit xs i => obtain ⟨t, vs, e, q, z⟩ := r; exact ⟨t, vs, e, q, vrs_mono h z⟩
  | kit d es i => obtain ⟨b, kvs, ep, e, q, z, k⟩ := r; exact ⟨b, kvs, ep, pre_get h e, q, z, k.mono h⟩
  | vals d => obtain ⟨b, e, q⟩ := r; exact ⟨b, pre_get h e, q⟩
  | vit d es i => obtain ⟨b, kvs, ep, e, q, z, k⟩ := r; exact ⟨b, kvs, ep, pre_get h e, q, z, k.mono h⟩
  | rng n => exact r
  | rit i n => exact r
  | dead => trivial

theorem NsR.ext {c : Cx} {φ : List Addr} {h h' : Heap} {a b : Addr} {es} (r : NsR c φ h a es) (x : Heap.ExtBut b h h') (hab : a ≠ b) : NsR c φ h' a es := let ⟨m, p, q⟩ := r; ⟨m, p.extBut x hab, q⟩
theorem dictOf_ext {w : World} {h h' : Heap} {a b : Addr} {kvs} (r : h.DictOf (intKind pw w) a kvs) (x : Heap.ExtBut b h h') (hab : a ≠ b) : h'.DictOf (intKind pw w) a kvs :=
  let ⟨o, es, ep, ho, q⟩ := r; ⟨o, es, ep, x a o hab ho, q⟩
/-- the heap turns at b alone -/
theorem OR.ext {c : Cx} {φ : List Addr} {h h' : Heap} {a b : Addr} {o : AO} (r : OR c φ h a o) (x : Heap.ExtBut b h h') (hab : a ≠ b) (hb : ∀ vs, ¬ h.IsTuple b vs)
    (hd : ∀ d es k, o = .kit d es k ∨ o = .vit d es k → φ[d]? ≠ some b) : OR c φ h' a o := by
  cases o with
  | list xs => obtain ⟨l, vs, n, e, q⟩ := r; exact ⟨l, vs, n, x _ _ hab e, q⟩
  | tup xs => obtain ⟨l, vs, n, e, q⟩ := r; exact ⟨l, vs, n, x _ _ hab e, q⟩
  | dict es => obtain ⟨l, kvs, e, q⟩ := r; exact ⟨l, kvs, dictOf_ext e x hab, q⟩
  | fdict es => obtain ⟨l, kvs, e, q⟩ := r; exact ⟨l, kvs, dictOf_ext e x hab, q⟩
  | ns es => exact NsR.ext r x hab
  | inst C d => obtain ⟨b', e, q⟩ := r; exact ⟨b', e, x _ _ hab q⟩
  | dom d xs => obtain ⟨l, b', vs, n, e, q, z⟩ := r; exact ⟨l, b', vs, n, e, x _ _ hab q, z⟩
  | lit l i => obtain ⟨b', e, q⟩ := r; exact ⟨b', e, q.extBut x hab⟩
  | tit xs i =>
    obtain ⟨t, vs, ⟨oi, hi, hc, hdat⟩, ⟨ot, ht, hct, htd⟩, z⟩ := r
    have htb : t ≠ b := fun e => hb vs (e ▸ ⟨ot, ht, hct, htd⟩)
    exact ⟨t, vs, ⟨oi, x _ _ hab hi, hc, hdat⟩, ⟨ot, x _ _ htb ht, hct, htd⟩, z⟩
  | kit d es i =>
    obtain ⟨b', kvs, ep, e, q, z, k⟩ := r
    have : b' ≠ b := fun e' => hd d es i (.inl rfl) (e' ▸ e)
    exact ⟨b', kvs, ep, e, q.extBut x hab, z.extBut x this, k⟩
  | vals d => obtain ⟨b', e, ov, q, q'⟩ := r; exact ⟨b', e, ov, x _ _ hab q, q'⟩
  | vit d es i =>
    obtain ⟨b', kvs, ep, e, ⟨oi, hi, hr⟩, z, k⟩ := r
    have : b' ≠ b := fun e' => hd d es i (.inr rfl) (e' ▸ e)
    exact ⟨b', kvs, ep, e, ⟨oi, x _ _ hab hi, hr⟩, z.extBut x this, k⟩
  | rng n => obtain ⟨l, t, u, v, q⟩ := r; exact ⟨l, t, u, v, x _ _ hab q⟩
  | rit i n => exact x _ _ hab r
  | dead => trivial

/-! ### frames -/
structure FA where
  L : Addr
  cs : List (Nat × Addr)
  C : Option Addr
def FA.own (f : FA) : List Addr := f.L :: (f.cs.map (·.2) ++ f.C.toList)
def owns (φ : List Addr) (fa : List FA) : List Addr := φ ++ fa.flatMap FA.own

structure FrR (c : Cx) (φ : List Addr) (h : Heap) (f : FA) (m : FM) : Prop where
  lo : NsR c φ h f.L m.lo
  ce : ∀ x o, lk m.ce x = some o → ∃ a v, lk f.cs x = some a ∧ h.IsCell a v ∧ OV c φ o v
  co : ∀ C, f.C = some C → NsR c φ h C m.co
theorem FrR.mono {c : Cx} {φ φ' : List Addr} (p : φ <+: φ') {h f m} (r : FrR c φ h f m) : FrR c φ' h f m :=
  ⟨r.lo.mono p, fun x o e => let ⟨a, v, y, z, q⟩ := r.ce x o e; ⟨a, v, y, z, q.mono p⟩, fun C e => (r.co C e).mono p⟩
theorem lk_mem {α : Type} : ∀ {l : List (Nat × α)} {x : Nat} {a : α}, lk l x = some a → a ∈ l.map (·.2)
  | (k, v) :: r, x, a, h => by
    rw [lk_cons] at h
    by_cases e : k = x
    · rw [if_pos e] at h; cases h; simp
    · rw [if_neg e] at h; exact List.mem_cons_of_mem _ (lk_mem h)
theorem FrR.ext {c : Cx} {φ : List Addr} {h h' f m} {b : Addr} (r : FrR c φ h f m) (x : Heap.ExtBut b h h') (hb : b ∉ f.own) : FrR c φ h' f m := by
  refine ⟨r.lo.ext x (fun e => hb (by rw [← e]; exact List.mem_cons_self)), fun y o e => ?_, fun C e => ?_⟩
  · obtain ⟨a, v, p, ⟨oc, hc, hd⟩, q⟩ := r.ce y o e
    refine ⟨a, v, p, ⟨oc, x a oc (fun e => hb ?_) hc, hd⟩, q⟩
    rw [← e]; exact List.mem_cons_of_mem _ (List.mem_append_left _ (lk_mem p))
  · refine (r.co C e).ext x (fun e' => hb ?_)
    rw [← e']; exact List.mem_cons_of_mem _ (List.mem_append_right _ (by rw [e]; simp))

def gensOf (g : Nat) : Array GenState := br (Nat.beq g 0) #[] (br (Nat.beq g 1) #[.running] #[.finished])

structure R (c : Cx) (fa : List FA) (φ : List Addr) (σ : AS) (s : Shared) : Prop where
  obj : ∀ i o, σ.get i = some o → ∃ a, φ[i]? = some a ∧ OR c φ s.heap a o
  frz : ∀ i d es k, σ.get i = some (.kit d es k) ∨ σ.get i = some (.vit d es k) → σ.get d = some (.fdict es)
  len : φ.length = σ.m
  nod : (owns φ fa).Nodup
  lt : ∀ a ∈ owns φ fa, a < s.heap.objs.size
  new : ∀ a ∈ owns φ fa, ∀ o, ¬ c.kp a o
  keep : ∀ b o, c.kp b o → s.heap.get? b = some o
  fr : All2 (FrR c φ s.heap) fa (σ.f :: σ.fs)
  gens : s.gens = gensOf σ.g
  dr : s.drawn = c.dr
  os : s.os = c.os

end
end Mine
set_option maxRecDepth 100000
namespace Mine
noncomputable section
open PySem PySem.W PyProof.Rows

/-! ### from the abstract text back to the program's form -/
def copT : COp → CmpOp
  | .eq => .Eq | .ne => .NotEq | .lt => .Lt | .is => .Is | .isnot => .IsNot | .isin => .In | .notin => .NotIn
def bopT : BOp → Operator
  | .add => .Add | .sub => .Sub | .mul => .Mult | .mod => .Mod | .shr => .RShift | .band => .BitAnd
def nameT (p : Nat × Pos × Bool) : PySem.Expr := .Name (nm p.1) p.2.1
def trE : Nat → FE → PySem.Expr
  | 0, _ => .Constant .none 0 ⟨0, 0, 0, 0⟩
  | m + 1, e => match e with
    | .cNone k p => .Constant .none k p
    | .cBool b k p => .Constant (.bool b) k p
    | .cInt i k p => .Constant (.int i) k p
    | .cStr x k p => .Constant (.str (nm x)) k p
    | .loc x p => .Name (nm x) p
    | .cel x p => .Name (nm x) p
    | .glo x p => .Name (nm x) p
    | .bui x p => .Name (nm x) p
    | .attr o x p => .Attribute (trE m o) (nm x) p
    | .call f args p => .Call (trE m f) (args.map (trE m)) [] p
    | .meth o x ap args p => .Call (.Attribute (trE m o) (nm x) ap) (args.map (trE m)) [] p
    | .methS o x ap a sp p => .Call (.Attribute (trE m o) (nm x) ap) [.Starred (trE m a) sp] [] p
    | .cmp l op r p => .Compare (trE m l) [copT op] [trE m r] p
    | .bop and vs p => .BoolOp (if and then .And else .Or) (vs.map (trE m)) p
    | .not x p => .UnaryOp .Not (trE m x) p
    | .neg x p => .UnaryOp .USub (trE m x) p
    | .bin l op r p => .BinOp (trE m l) (bopT op) (trE m r) p
    | .sub o i p => .Subscript (trE m o) (trE m i) p
    | .slc o lo sp p => .Subscript (trE m o) (.Slice (lo.map (trE m)) none none sp) p
    | .list xs p => .List (xs.map (trE m)) p
    | .tup xs k p => .Tuple (xs.map (trE m)) k p
    | .dict0 p => .Dict [] [] p
    | .comp elt gens sc p => .ListComp (trE m elt) (gens.map fun g => ⟨.Name (nm g.1) g.2.1, trE m g.2.2.1, g.2.2.2.map (trE m), 0⟩) (scp sc) p
    | .ite t a b p => .IfExp (trE m t) (trE m a) (trE m b) p
    | .opq e => e
def trS : Nat → FS → PySem.Stmt
  | 0, _ => .Pass ⟨0, 0, 0, 0⟩
  | m + 1, s => match s with
    | .asg x xp _ v p => .Assign [.Name (nm x) xp] (trE m v) p
    | .asgT xs k tp v p => .Assign [.Tuple (xs.map nameT) k tp] (trE m v) p
    | .asg2 x y xp yp k tp v w k' vp p => .Assign [.Tuple [.Name (nm x) xp, .Name (nm y) yp] k tp] (.Tuple [trE m v, trE m w] k' vp) p
    | .asgS o i tp v p => .Assign [.Subscript (trE m o) (trE m i) tp] (trE m v) p
    | .expr e p => .Expr (trE m e) p
    | .iff t a b p => .If (trE m t) (a.map (trS m)) (b.map (trS m)) p
    | .forN x xp _ it body els p => .For (.Name (nm x) xp) (trE m it) (body.map (trS m)) (els.map (trS m)) p
    | .forT xs k tp it body els p => .For (.Tuple (xs.map nameT) k tp) (trE m it) (body.map (trS m)) (els.map (trS m)) p
    | .whl t body els p => .While (trE m t) (body.map (trS m)) (els.map (trS m)) p
    | .ret e p => .Return (some (trE m e)) p
    | .retN p => .Return none p
    | .brk p => .Break p
    | .delI o i tp p => .Delete [.Subscript (trE m o) (trE m i) tp] p
    | .delS o lo sp tp p => .Delete [.Subscript (trE m o) (.Slice (lo.map (trE m)) none none sp) tp] p
    | .yld e yp p => .Expr (.Yield (some (trE m e)) yp) p
    | .opq s => s
/-! ### what a scope must say -/
def kd (o : Scope) (x : Nat) : Option NameKind := o.names.lookup (nm x)
def isLoc (o : Scope) (x : Nat) : Bool := Nat.blt x nmN && (kd o x == some .local)
def isCel (o : Scope) (x : Nat) : Bool := Nat.blt x nmN && (kd o x == some .cell || kd o x == some .free)
def isGlo (o : Scope) (x : Nat) : Bool := Nat.blt x nmN && (kd o x == some .globalImplicit) && (nm x == ("__debug__" : Str)) == false
def notDbg (x : Nat) : Bool := !(nm x == ("__debug__" : Str))
def relS (o i : Scope) : Scope := { i with names := i.names.map fun (n, k) => if (k == .free && o.kind == .function && o.names.lookup n == some .cell) then (n, .cell) else (n, k) }
theorem relS_eq {env : Env} (i : Scope) : relabel i env = relS env.scope i := rfl
/-- a comprehension's scope: its locals, the free names, no cell of its own -/
def okC (o : Scope) (i : Scope) : Bool := (i.kind == .function) && i.names.all (fun y => y.2 != .cell) && i.names.all (fun y => !(y.2 == .local) || i.names.lookup y.1 == some .local) &&
  i.names.all fun y => !(y.2 == .free) || (nmL.any fun t => Str.ofString t == y.1) && (o.names.lookup y.1 == some .cell || o.names.lookup y.1 == some .free)
def isCompE : FE → Bool
  | .comp .. => true
  | _ => false
def isListE : FE → Bool
  | .list .. => true
  | _ => false
def isCallE : FE → Bool
  | .call .. => true
  | _ => false
def calleeOk : FE → Bool
  | .bui .. => true
  | .glo .. => true
  | .loc .. => true
  | _ => false
/-- the attributes that the text's instances have -/
def attrNames : List Nat := [44, 27, 21, 10, 53, 54, 66, 67, 70]
def noStar : FE → Bool
  | .opq _ => false
  | _ => true
def wfE : Nat → Scope → FE → Bool
  | 0, _, _ => false
  | m + 1, o, e => match e with
    | .cNone .. => true
    | .cBool .. => true
    | .cInt i .. => decide (i.natAbs < 2 ^ 64)
    | .cStr x .. => Nat.blt x nmN
    | .loc x _ => isLoc o x && notDbg x
    | .cel x _ => isCel o x && notDbg x
    | .glo x _ => isGlo o x
    | .bui x _ => isGlo o x
    | .attr a x _ => inL x attrNames && wfE m o a && !(isCallE a)
    | .call f args _ => calleeOk f && wfE m o f && args.all (wfE m o)
    | .meth a x ap args p => Nat.blt x nmN && wfE m o a && args.all (wfE m o) && (ap.endLine == p.line) && Nat.blt args.length 20 && !(isCallE a)
    | .methS a x _ b _ _ => inL x attrNames && wfE m o a && wfE m o b && !(isCallE a)
    | .cmp l _ r _ => wfE m o l && wfE m o r
    | .bop _ vs _ => vs.all (wfE m o)
    | .not x _ => wfE m o x
    | .neg x _ => wfE m o x
    | .bin l _ r _ => wfE m o l && wfE m o r
    | .sub a i _ => wfE m o a && wfE m o i
    | .slc a lo _ _ => wfE m o a && (match lo with | none => true | some e => wfE m o e)
    | .list xs _ => xs.all (wfE m o)
    | .tup xs _ _ => xs.all (wfE m o)
    | .dict0 _ => true
    | .comp elt gens sc _ => okC o (scp sc) && (gens.length != 0) && (match gens with | [] => false | g :: r => wfE m o g.2.2.1 && r.all (fun g => wfE m (relS o (scp sc)) g.2.2.1)) &&
        gens.all (fun g => isLoc (relS o (scp sc)) g.1 && g.2.2.2.all (wfE m (relS o (scp sc)))) && wfE m (relS o (scp sc)) elt
    | .ite t a b _ => wfE m o t && wfE m o a && wfE m o b
    | .opq _ => false
def okN (o : Scope) (x : Nat) (cl : Bool) : Bool := if cl then isCel o x && (kd o x == some .cell) else isLoc o x
def swapNo : FE → FE → Bool
  | _, _ => true
def wfS : Nat → Scope → FS → Bool
  | 0, _, _ => false
  | m + 1, o, s => match s with
    | .asg x _ cl v _ => okN o x cl && wfE m o v
    | .asgT xs _ _ v _ => xs.all (fun t => okN o t.1 t.2.2) && wfE m o v && !(isCompE v) && (match v with | .tup .. => false | _ => true)
    | .asg2 x y xp yp _ _ v w _ _ _ => okN o x false && okN o y false && (x != y) && (xp.line == yp.line) && isListE v && wfE m o v && wfE m o w
    | .asgS a i _ v _ => wfE m o a && wfE m o i && wfE m o v && !(isCompE v) && (match v with | .tup .. => false | _ => true)
    | .expr e _ => wfE m o e && !(isCompE e)
    | .iff t a b _ => wfE m o t && a.all (wfS m o) && b.all (wfS m o)
    | .forN x _ cl it body els _ => okN o x cl && wfE m o it && body.all (wfS m o) && els.all (wfS m o)
    | .forT xs _ _ it body els _ => xs.all (fun t => okN o t.1 t.2.2) && wfE m o it && body.all (wfS m o) && els.all (wfS m o)
    | .whl t body els _ => wfE m o t && body.all (wfS m o) && els.all (wfS m o)
    | .ret e _ => wfE m o e
    | .retN _ => true
    | .brk _ => true
    | .delI a i _ _ => wfE m o a && wfE m o i
    | .delS a lo _ _ _ => wfE m o a && (match lo with | none => true | some e => wfE m o e)
    | .yld e _ _ => wfE m o e
    | .opq _ => true
def fnI (a : Nat) : FnI := (lk fnT a).getD ⟨[], [], [], [], 0⟩
/-- the text as given is the text as read -/
def sameText (i : Nat) : Prop := (fnI ((fnAddr[i]?).getD 0)).body.map (trS 30) = bodyOf (defAt i)
end
end Mine
set_option maxRecDepth 100000
namespace Mine
noncomputable section
open PySem PySem.W PyProof.Rows

/-! ### how the relation is kept -/
variable {c : Cx} {fa : List FA} {φ : List Addr} {σ : AS} {s s' : Shared}

theorem R.same (r : R c fa φ σ s) (hh : s'.heap = s.heap) (hg : s'.gens = s.gens) (hd : s'.drawn = s.drawn) (ho : s'.os = s.os) : R c fa φ σ s' :=
  ⟨by rw [hh]; exact r.obj, r.frz, r.len, r.nod, by rw [hh]; exact r.lt, r.new, by rw [hh]; exact r.keep, by rw [hh]; exact r.fr, hg.trans r.gens, hd.trans r.dr, ho.trans r.os⟩
theorem R.toks (r : R c fa φ σ s) (k : Nat) : R c fa φ σ { s with toks := k } := r.same rfl rfl rfl rfl

theorem mem_owns_φ {a : Addr} (h : a ∈ φ) : a ∈ owns φ fa := List.mem_append_left _ h
theorem get_mem {i : Nat} {a : Addr} (h : φ[i]? = some a) : a ∈ φ := List.mem_of_getElem? h
theorem nodup_get {i j : Nat} {a : Addr} (nd : φ.Nodup) (h : φ[i]? = some a) (h' : φ[j]? = some a) : i = j := by
  obtain ⟨hi, e⟩ := List.getElem?_eq_some_iff.mp h
  obtain ⟨hj, e'⟩ := List.getElem?_eq_some_iff.mp h'
  rcases Nat.lt_trichotomy i j with l | l | l
  · exact absurd (e.trans e'.symm) (List.pairwise_iff_getElem.mp nd i j hi hj l)
  · exact l
  · exact absurd (e'.trans e.symm) (List.pairwise_iff_getElem.mp nd j i hj hi l)
theorem R.nodφ (r : R c fa φ σ s) : φ.Nodup := (List.nodup_append.mp r.nod).1
theorem R.apart (r : R c fa φ σ s) {a b : Addr} (ha : a ∈ φ) {f : FA} (hf : f ∈ fa) (hb : b ∈ f.own) : a ≠ b :=
  fun e => (List.nodup_append.mp r.nod).2.2 a ha b (List.mem_flatMap.mpr ⟨f, hf, hb⟩) e

/-- nothing that stood has changed -/
def Grows (s s' : Shared) : Prop := (∀ b o, s.heap.get? b = some o → s'.heap.get? b = some o) ∧ s.heap.objs.size ≤ s'.heap.objs.size ∧ s'.gens = s.gens ∧ s'.drawn = s.drawn ∧ s'.os = s.os
theorem extBut_of {h h' : Heap} (k : ∀ b o, h.get? b = some o → h'.get? b = some o) (b : Addr) : Heap.ExtBut b h h' := fun a o _ e => k a o e
theorem R.noFresh (r : R c fa φ σ s) {a : Addr} (h : a ∈ owns φ fa) : a ≠ s.heap.objs.size := Nat.ne_of_lt (r.lt a h)
theorem noTup (s : Shared) : ∀ vs, ¬ s.heap.IsTuple s.heap.objs.size vs := fun _ ⟨_, h, _⟩ => absurd (Heap.lt_size h) (Nat.lt_irrefl _)
theorem All2.imp2 {α β : Type} {P P' : α → β → Prop} {as : List α} {bs : List β} (h : All2 P as bs) (f : ∀ a b, a ∈ as → P a b → P' a b) : All2 P' as bs := by
  induction h with
  | nil => exact .nil
  | cons x _ ih => exact .cons (f _ _ List.mem_cons_self x) (ih fun a b m q => f a b (List.mem_cons_of_mem _ m) q)
theorem own_owns {f : FA} (hf : f ∈ fa) {b : Addr} (hb : b ∈ f.own) : b ∈ owns φ fa := List.mem_append_right _ (List.mem_flatMap.mpr ⟨f, hf, hb⟩)
theorem R.grow (r : R c fa φ σ s) (k : Grows s s') : R c fa φ σ s' := by
  obtain ⟨k, hs, hg, hd, ho⟩ := k
  refine ⟨fun i o e => ?_, r.frz, r.len, r.nod, fun a m => Nat.lt_of_lt_of_le (r.lt a m) hs, r.new, fun b o q => k _ _ (r.keep b o q), ?_, hg.trans r.gens, hd.trans r.dr, ho.trans r.os⟩
  · obtain ⟨a, ha, q⟩ := r.obj i o e
    exact ⟨a, ha, q.ext (extBut_of k s.heap.objs.size) (r.noFresh (mem_owns_φ (get_mem ha))) (noTup s) fun d _ _ _ e => r.noFresh (mem_owns_φ (get_mem e)) rfl⟩
  · exact r.fr.imp2 fun f m hf q => q.ext (extBut_of k s.heap.objs.size) fun hb => r.noFresh (own_owns hf hb) rfl

/-- a new object -/
theorem R.alloc (r : R c fa φ σ s) (k : Grows s s') {a : Addr} (ha : s.heap.objs.size ≤ a) (ha' : a < s'.heap.objs.size) {o : AO} (ho : OR c (φ ++ [a]) s'.heap a o)
    (hz : ∀ d es n, o = .kit d es n ∨ o = .vit d es n → σ.get d = some (.fdict es)) : R c fa (φ ++ [a]) (σ.new o) s' := by
  have r' := r.grow k
  have hn : a ∉ owns φ fa := fun m => absurd (r.lt a m) (Nat.not_lt.mpr ha)
  have pre : φ <+: φ ++ [a] := List.prefix_append _ _
  have fresh : ∀ j d es n, σ.get j = some (.kit d es n) ∨ σ.get j = some (.vit d es n) → d ≠ σ.m := fun j d es n e => by
    obtain ⟨b, hb, _⟩ := r.obj d _ (r.frz j d es n e)
    have := (List.getElem?_eq_some_iff.mp hb).1
    rw [r.len] at this; exact Nat.ne_of_lt this
  have old : ∀ d b, σ.get d = some b → d ≠ σ.m := fun d b e => by
    obtain ⟨b, hb, _⟩ := r.obj d _ e
    have := (List.getElem?_eq_some_iff.mp hb).1
    rw [r.len] at this; exact Nat.ne_of_lt this
  have perm : (owns (φ ++ [a]) fa).Perm (a :: owns φ fa) := by unfold owns; rw [List.append_assoc]; exact List.perm_middle
  refine ⟨fun i x e => ?_, fun i d es n e => ?_, ?_, ?_, fun b m => ?_, fun b m => ?_, r'.keep, ?_, r'.gens, r'.dr, r'.os⟩
  · rcases new_get e with ⟨rfl, rfl⟩ | ⟨_, e⟩
    · exact ⟨a, by rw [← r.len]; simp, ho⟩
    · obtain ⟨b, hb, q⟩ := r'.obj i x e
      exact ⟨b, pre_get pre hb, q.mono pre⟩
  · rcases e with e | e <;> rcases new_get e with ⟨_, e'⟩ | ⟨_, e'⟩
    · have := hz d es n (.inl e'.symm); exact (new_get_ne (old _ _ this)).trans this
    · have := r.frz i d es n (.inl e'); exact (new_get_ne (old _ _ this)).trans this
    · have := hz d es n (.inr e'.symm); exact (new_get_ne (old _ _ this)).trans this
    · have := r.frz i d es n (.inr e'); exact (new_get_ne (old _ _ this)).trans this
  · show (φ ++ [a]).length = σ.m.succ; simp [r.len]
  · exact perm.nodup_iff.mpr (List.nodup_cons.mpr ⟨hn, r.nod⟩)
  · rcases List.mem_cons.mp (perm.mem_iff.mp m) with rfl | m
    · exact ha'
    · exact r'.lt b m
  · rcases List.mem_cons.mp (perm.mem_iff.mp m) with rfl | m
    · exact fun o q => absurd (Heap.lt_size (r.keep _ o q)) (Nat.not_lt.mpr ha)
    · exact r.new b m
  · exact r'.fr.mono fun f m q => q.mono pre

/-- only b has changed -/
def Turns (b : Addr) (s s' : Shared) : Prop := Heap.ExtBut b s.heap s'.heap ∧ s.heap.objs.size ≤ s'.heap.objs.size ∧ s'.gens = s.gens ∧ s'.drawn = s.drawn ∧ s'.os = s.os
theorem R.setObj (r : R c fa φ σ s) {i : Nat} {a : Addr} (hi : φ[i]? = some a) (k : Turns a s s') (hnf : ∀ es, σ.get i ≠ some (.fdict es)) (hnt : ∀ vs, ¬ s.heap.IsTuple a vs) {o : AO} (ho : OR c φ s'.heap a o)
    (hz : ∀ d es n, o = .kit d es n ∨ o = .vit d es n → σ.get d = some (.fdict es)) : R c fa φ (σ.set i o) s' := by
  obtain ⟨k, hs, hg, hd, hos⟩ := k
  have hne : ∀ d es, σ.get d = some (.fdict es) → d ≠ i := fun d es e e' => hnf es (e' ▸ e)
  refine ⟨fun j x e => ?_, fun j d es n e => ?_, r.len, r.nod, fun a m => Nat.lt_of_lt_of_le (r.lt a m) hs, r.new, fun b x q => k _ _ ?_ (r.keep b x q), ?_, hg.trans r.gens, hd.trans r.dr, hos.trans r.os⟩
  · rcases set_get e with ⟨rfl, rfl⟩ | ⟨ne, e⟩
    · exact ⟨a, hi, ho⟩
    · obtain ⟨b, hb, q⟩ := r.obj j x e
      refine ⟨b, hb, q.ext k (fun e' => ne (nodup_get r.nodφ hb (e' ▸ hi))) hnt fun d es n e' hd' => ?_⟩
      have := r.frz j d es n (e'.imp (fun q => by rw [e, q]) (fun q => by rw [e, q]))
      exact hne d es this (nodup_get r.nodφ hd' hi)
  · rcases e with e | e <;> rcases set_get e with ⟨_, e'⟩ | ⟨_, e'⟩
    · have := hz d es n (.inl e'.symm); exact (set_get_ne (hne _ _ this)).trans this
    · have := r.frz j d es n (.inl e'); exact (set_get_ne (hne _ _ this)).trans this
    · have := hz d es n (.inr e'.symm); exact (set_get_ne (hne _ _ this)).trans this
    · have := r.frz j d es n (.inr e'); exact (set_get_ne (hne _ _ this)).trans this
  · intro e; subst e; exact r.new _ (mem_owns_φ (get_mem hi)) x q
  · exact r.fr.imp2 fun f m hf q => q.ext k fun hb => r.apart (get_mem hi) hf hb rfl
/-- a dict is held still -/
theorem R.freeze (r : R c fa φ σ s) {i : Nat} {es : List (Int × AV)} (hi : σ.get i = some (.dict es)) : R c fa φ (σ.set i (.fdict es)) s := by
  have hne : ∀ d es', σ.get d = some (.fdict es') → d ≠ i := fun d es' e e' => by subst e'; rw [hi] at e; cases e
  refine ⟨fun j x e => ?_, fun j d es n e => ?_, r.len, r.nod, r.lt, r.new, r.keep, r.fr, r.gens, r.dr, r.os⟩
  · rcases set_get e with ⟨rfl, rfl⟩ | ⟨_, e⟩
    · exact (show ∃ a, φ[j]? = some a ∧ OR c φ s.heap a (.dict es) from r.obj j _ hi)
    · exact r.obj j x e
  · rcases e with e | e <;> rcases set_get e with ⟨_, e'⟩ | ⟨_, e'⟩
    · cases e'
    · have := r.frz j d es n (.inl e'); exact (set_get_ne (hne _ _ this)).trans this
    · cases e'
    · have := r.frz j d es n (.inr e'); exact (set_get_ne (hne _ _ this)).trans this

/-- the running frame's own object has changed -/
theorem R.frame {f : FA} (r : R c (f :: fa) φ σ s) {b : Addr} (hb : b ∈ f.own) (k : Turns b s s') (hnt : ∀ vs, ¬ s.heap.IsTuple b vs) {m : FM} (hf : FrR c φ s'.heap f m) : R c (f :: fa) φ (σ.put m) s' := by
  obtain ⟨k, hs, hg, hd, hos⟩ := k
  have hfm : f ∈ f :: fa := List.mem_cons_self
  refine ⟨fun j x e => ?_, r.frz, r.len, r.nod, fun a m => Nat.lt_of_lt_of_le (r.lt a m) hs, r.new, fun b' x q => k _ _ ?_ (r.keep b' x q), ?_, hg.trans r.gens, hd.trans r.dr, hos.trans r.os⟩
  · obtain ⟨a, ha, q⟩ := r.obj j x e
    exact ⟨a, ha, q.ext k (r.apart (get_mem ha) hfm hb) hnt fun d es n e' hd' => r.apart (get_mem hd') hfm hb rfl⟩
  · intro e; subst e; exact r.new _ (own_owns hfm hb) x q
  · cases r.fr with
    | cons _ rest =>
      refine .cons hf (rest.imp2 fun g m hg q => q.ext k fun hb' => ?_)
      have := (List.nodup_append.mp r.nod).2.1
      rw [List.flatMap_cons] at this
      exact (List.nodup_append.mp this).2.2 b hb b (List.mem_flatMap.mpr ⟨g, hg, hb'⟩) rfl
/-- the running frame is told anew, nothing has changed -/
theorem R.reframe {f : FA} (r : R c (f :: fa) φ σ s) {m : FM} (hf : FrR c φ s.heap f m) : R c (f :: fa) φ (σ.put m) s := by
  refine ⟨r.obj, r.frz, r.len, r.nod, r.lt, r.new, r.keep, ?_, r.gens, r.dr, r.os⟩
  cases r.fr with
  | cons _ rest => exact .cons hf rest
theorem R.hd {f : FA} (r : R c (f :: fa) φ σ s) : FrR c φ s.heap f σ.f := by cases r.fr with | cons h _ => exact h
theorem FA.own_nodup {f : FA} (r : R c (f :: fa) φ σ s) : f.own.Nodup := by
  have := (List.nodup_append.mp r.nod).2.1
  rw [List.flatMap_cons] at this
  exact (List.nodup_append.mp this).1
theorem ns_noTup {h : Heap} {a : Addr} {m} (n : h.Ns a m) : ∀ vs, ¬ h.IsTuple a vs := fun _ ⟨o, ho, _, _, hd⟩ => by
  obtain ⟨o', es, ep, ho', hd', _⟩ := n
  rw [ho] at ho'; cases ho'; rw [hd] at hd'; cases hd'
theorem cell_noTup {h : Heap} {a : Addr} {v} (n : h.IsCell a v) : ∀ vs, ¬ h.IsTuple a vs := fun _ ⟨o, ho, _, _, hd⟩ => by
  obtain ⟨o', ho', hd'⟩ := n
  rw [ho] at ho'; cases ho'; rw [hd] at hd'; cases hd'
end
end Mine
set_option maxRecDepth 100000
namespace Mine
noncomputable section
open PySem PySem.W PyProof.Rows

theorem nm_inj : ∀ x y, x < nmN → y < nmN → nm x = nm y → x = y := by
  have h : ((List.range nmN).all fun x => (List.range nmN).all fun y => !(nm x == nm y) || (x == y)) = true := by decide +kernel
  intro x y hx hy e
  have := List.all_eq_true.mp (List.all_eq_true.mp h x (List.mem_range.mpr hx)) y (List.mem_range.mpr hy)
  simpa [e] using this

/-- the facts about the world that every walk leans on -/
structure Base (c : Cx) (k : FC) : Prop where
  ks : ∀ a o, (KS c.w.params).lookup a = some o → c.kp a o
  scr : ∃ (vs : Array Value) (n : Nat), c.kp 420 ⟨.type "list", none, .seq vs n, #[]⟩ ∧ vs.size = c.n ∧ ∀ i, i < k.ln → ∃ t, vs[i]? = some (.int (c.ρ i) t)
  ln : k.ln = min c.n 7
  mask : (c.ρ 0).fmod 63 = k.mask
  sys : ∃ o, c.kp 1 o
  sz : c.n ≤ 1000

structure AOk (n : Nat) (A : Around) : Prop where
  hh : A.handled = none
  depth : A.depth + 5 * n ≤ 900
  units : A.units + 20 * n ≤ 5000

structure EnvOk (o : Scope) (f : FA) (b : Bool) (env : Env) : Prop where
  sc : env.scope = o
  kind : o.kind = .function
  lo : b = false → env.locals = f.L
  co : b = true → f.C = some env.locals
  cells : ∀ x a, lk f.cs x = some a → isCel o x = true → env.cells.lookup (nm x) = some a
  full : ∀ x, isCel o x = true → (env.cells.lookup (nm x)).isSome = true
  glo : env.globals = 3
  bui : env.builtins = 0

variable {c : Cx} {k : FC} {f : FA} {fa : List FA} {φ : List Addr} {σ σ' τ : AS} {s s' : Shared} {A : Around} {o : Scope} {b : Bool} {env : Env}

def Ok (c : Cx) (fa : List FA) (A : Around) {α : Type} (t : Sem α) (φ : List Addr) (σ σ' : AS) (P : List Addr → α → Prop) : Prop :=
  ∀ (Q : α → Shared → Prop) (E : Value → Shared → Prop) (s : Shared), R c fa φ σ s → (∀ φ' s' a, φ <+: φ' → R c fa φ' σ' s' → P φ' a → Q a s') → wpAny (model pw c.w) A t Q E s
abbrev OkV (c : Cx) (fa : List FA) (A : Around) (t : Sem Value) (φ : List Addr) (σ σ' : AS) (v : AV) : Prop := Ok c fa A t φ σ σ' fun φ' a => VR c φ' v a

theorem Ok.pure {α : Type} {a : α} {P : List Addr → α → Prop} (h : P φ a) : Ok c fa A (Pure.pure a : Sem α) φ σ σ P := fun _ _ _ r q => wpAny_pure (q φ _ a (List.prefix_refl _) r h)
theorem Ok.bind {α β : Type} {t : Sem α} {u : α → Sem β} {P : List Addr → α → Prop} {P' : List Addr → β → Prop} (h : Ok c fa A t φ σ τ P) (h' : ∀ φ' a, φ <+: φ' → P φ' a → Ok c fa A (u a) φ' τ σ' P') :
    Ok c fa A (t >>= u) φ σ σ' P' :=
  fun Q E s r q => wpAny_bind (h _ E s r fun φ' s' a p r' x => h' φ' a p x Q E s' r' fun φ'' s'' b p' r'' y => q φ'' s'' b (p.trans p') r'' y)
theorem Ok.imp {α : Type} {t : Sem α} {P P' : List Addr → α → Prop} (h : Ok c fa A t φ σ τ P) (f : ∀ φ' a, φ <+: φ' → P φ' a → P' φ' a) : Ok c fa A t φ σ τ P' :=
  fun Q E s r q => h Q E s r fun φ' s' a p r' x => q φ' s' a p r' (f φ' a p x)

/-! ### names -/
theorem isLoc_spec {x : Nat} (h : isLoc o x = true) : x < nmN ∧ o.names.lookup (nm x) = some .local := by
  unfold isLoc at h; rw [Bool.and_eq_true] at h
  exact ⟨Nat.le_of_ble_eq_true h.1, eq_of_beq h.2⟩
theorem isCel_spec {x : Nat} (h : isCel o x = true) : x < nmN ∧ (o.names.lookup (nm x) = some .cell ∨ o.names.lookup (nm x) = some .free) := by
  unfold isCel at h; rw [Bool.and_eq_true] at h
  refine ⟨Nat.le_of_ble_eq_true h.1, ?_⟩
  rcases Bool.or_eq_true_iff.mp h.2 with q | q
  · exact .inl (eq_of_beq q)
  · exact .inr (eq_of_beq q)
theorem isGlo_spec {x : Nat} (h : isGlo o x = true) : x < nmN ∧ o.names.lookup (nm x) = some .globalImplicit ∧ (nm x == ("__debug__" : Str)) = false := by
  unfold isGlo at h; rw [Bool.and_eq_true, Bool.and_eq_true] at h
  exact ⟨Nat.le_of_ble_eq_true h.1.1, eq_of_beq h.1.2, by simpa using h.2⟩
theorem notDbg_spec {x : Nat} (h : notDbg x = true) : (nm x == ("__debug__" : Str)) = false := by unfold notDbg at h; simpa using h
theorem noDict : ∀ x, x < nmN → (nm x == ("__classdict__" : Str)) = false := by
  have h : ((List.range nmN).all fun x => !(nm x == ("__classdict__" : Str))) = true := by decide +kernel
  intro x hx
  have := List.all_eq_true.mp h x (List.mem_range.mpr hx)
  simpa using this

theorem ns_get {a : Addr} {es : List (Nat × AV)} {h : Heap} (n : NsR c φ h a es) {x : Nat} (hx : x < nmN) {v : AV} (e : lk es x = some v) : ∃ m u, h.Ns a m ∧ m (nm x) = some u ∧ VR c φ v u := by
  obtain ⟨m, hm, q⟩ := n
  have := q x hx
  rw [e] at this
  obtain ⟨u, hu, q⟩ := this
  exact ⟨m, u, hm, hu, q⟩
theorem ns_up {es : List (Nat × AV)} {m : Str → Option Value} {x : Nat} (hx : x < nmN) {v : AV} {u : Value} (n : ∀ y, y < nmN → OV c φ (lk es y) (m (nm y))) (hv : VR c φ v u) :
    ∀ y, y < nmN → OV c φ (lk (up x v es) y) (if nm y = nm x then some u else m (nm y)) := by
  intro y hy
  rw [lk_up]
  by_cases e : y = x
  · subst e; rw [if_pos rfl, if_pos rfl]; exact ⟨u, rfl, hv⟩
  · rw [if_neg e, if_neg (fun q => e (nm_inj y x hy hx q))]; exact n y hy

theorem blockKind_fn (e : EnvOk o f b env) : env.scope.kind = .function := by rw [e.sc]; exact e.kind
theorem EnvOk.kindOf (e : EnvOk o f b env) (x : Str) : env.kindOf x = o.names.lookup x := by unfold Env.kindOf; rw [e.sc]

theorem ok_loc (e : EnvOk o f b env) {x : Nat} {p : Pos} (w : isLoc o x = true) (w' : notDbg x = true) {v : AV} (h : getN b x σ = some v) : OkV c (f :: fa) A (eval (.Name (nm x) p) env) φ σ σ v := by
  intro Q E s r q
  obtain ⟨hx, hk⟩ := isLoc_spec w
  have key : ∃ m u, s.heap.Ns env.locals m ∧ m (nm x) = some u ∧ VR c φ v u := by
    cases b with
    | false => rw [e.lo rfl]; exact ns_get r.hd.lo hx h
    | true => exact ns_get (r.hd.co _ (e.co rfl)) hx h
  obtain ⟨m, u, hm, hu, hv⟩ := key
  exact wpAny_Name (wpAny_loadName_local (blockKind_fn e) (by rw [e.kindOf]; exact hk) hm hu (q φ s u (List.prefix_refl _) r hv)) (notDbg_spec w')
theorem ok_cel (e : EnvOk o f b env) {x : Nat} {p : Pos} (w : isCel o x = true) (w' : notDbg x = true) {v : AV} (h : lk σ.f.ce x = some (some v)) : OkV c (f :: fa) A (eval (.Name (nm x) p) env) φ σ σ v := by
  intro Q E s r q
  obtain ⟨hx, hk⟩ := isCel_spec w
  obtain ⟨a, u', ha, hc, u, rfl, hv⟩ := r.hd.ce x _ h
  have hl := e.cells x a ha w
  refine wpAny_Name ?_ (notDbg_spec w')
  rcases hk with hk | hk
  · exact wpAny_loadName_cell (blockKind_fn e) (by rw [e.kindOf]; exact hk) hl hc (q φ s u (List.prefix_refl _) r hv)
  · exact wpAny_loadName_free (blockKind_fn e) (by rw [e.kindOf]; exact hk) hl hc (q φ s u (List.prefix_refl _) r hv) (noDict x hx)

theorem R.ks (B : Base c k) (r : R c fa φ σ s) : (KS c.w.params).In s.heap := fun a o e => r.keep a o (B.ks a o e)
/-- the text's names -/
theorem glo_ok (P : Params) : ∀ x a, lk gloT x = some a → nsIn (KS P) 3 (nm x) = some (some (.ref a)) := by
  intro x a h
  simp only [gloT, lk_cons, lk_nil] at h
  repeat' split at h
  all_goals first | (cases h; rename_i e; subst e; kernel_rfl) | cases h
theorem bui_ok (P : Params) : ∀ x v, lk buiT x = some v → nsIn (KS P) 3 (nm x) = some none ∧ ∃ u, nsIn (KS P) 0 (nm x) = some (some u) ∧ ∀ c φ, VR c φ v u := by
  intro x a h
  simp only [buiT, lk_cons, lk_nil] at h
  repeat' split at h
  all_goals first | (cases h; rename_i e; subst e; refine ⟨by kernel_rfl, _, by kernel_rfl, fun _ _ => rfl⟩) | cases h
theorem ok_glo (B : Base c k) (e : EnvOk o f b env) {x : Nat} {p : Pos} (w : isGlo o x = true) {a : Nat} (h : lk gloT x = some a) : OkV c fa A (eval (.Name (nm x) p) env) φ σ σ (.st a) := by
  intro Q E s r q
  obtain ⟨hx, hk, hd⟩ := isGlo_spec w
  refine Calls.Name_function_global (blockKind_fn e) (by rw [e.kindOf]; exact hk) ?_ hd
  unfold loadGlobal
  rw [e.glo]
  refine wpAny_bind ((looks_nsIn (r.ks B) (glo_ok _ x a h)).here ?_)
  exact wpAny_pure (q φ s _ (List.prefix_refl _) r rfl)
theorem ok_bui (B : Base c k) (e : EnvOk o f b env) {x : Nat} {p : Pos} (w : isGlo o x = true) {v : AV} (h : lk buiT x = some v) : OkV c fa A (eval (.Name (nm x) p) env) φ σ σ v := by
  intro Q E s r q
  obtain ⟨hx, hk, hd⟩ := isGlo_spec w
  obtain ⟨h1, u, h2, hv⟩ := bui_ok c.w.params x v h
  refine Calls.Name_function_global (blockKind_fn e) (by rw [e.kindOf]; exact hk) ?_ hd
  unfold loadGlobal
  rw [e.glo, e.bui]
  refine wpAny_bind ((looks_nsIn (r.ks B) h1).here ?_)
  refine wpAny_bind ((looks_nsIn (r.ks B) h2).here ?_)
  exact wpAny_pure (q φ s _ (List.prefix_refl _) r (hv c φ))

/-! ### storing -/
theorem lk_inj {l : List (Nat × Addr)} (nd : (l.map (·.2)).Nodup) {x y : Nat} {a : Addr} (hx : lk l x = some a) (hy : lk l y = some a) : x = y := by
  induction l with
  | nil => cases hx
  | cons p r ih =>
    obtain ⟨i, d⟩ := p
    rw [lk_cons] at hx hy
    rw [List.map_cons, List.nodup_cons] at nd
    by_cases e : i = x
    · by_cases e' : i = y
      · exact e.symm.trans e'
      · rw [if_pos e] at hx; rw [if_neg e'] at hy
        cases hx; exact absurd (lk_mem hy) nd.1
    · by_cases e' : i = y
      · rw [if_neg e] at hx; rw [if_pos e'] at hy
        cases hy; exact absurd (lk_mem hx) nd.1
      · rw [if_neg e] at hx; rw [if_neg e'] at hy
        exact ih nd.2 hx hy
theorem sameBut_turns {b : Addr} {h' : Heap} (x : Heap.SameBut b s.heap h') {tk : Nat} : Turns b s { s with heap := h', toks := tk } := ⟨x.extBut, by rw [x.1]; exact Nat.le_refl _, rfl, rfl, rfl⟩
theorem sameBut_turns' {b : Addr} {h' : Heap} (x : Heap.SameBut b s.heap h') : Turns b s { s with heap := h' } := ⟨x.extBut, by rw [x.1]; exact Nat.le_refl _, rfl, rfl, rfl⟩

theorem own_cell {x : Nat} {a : Addr} (h : lk f.cs x = some a) : a ∈ f.own := List.mem_cons_of_mem _ (List.mem_append_left _ (lk_mem h))
theorem own_C {a : Addr} (h : f.C = some a) : a ∈ f.own := List.mem_cons_of_mem _ (List.mem_append_right _ (by rw [h]; simp))
theorem own_L : f.L ∈ f.own := List.mem_cons_self
theorem L_cell (nd : f.own.Nodup) {x : Nat} {a : Addr} (h : lk f.cs x = some a) : f.L ≠ a := fun e => (List.nodup_cons.mp nd).1 (List.mem_append_left _ (e ▸ lk_mem h))
theorem L_C (nd : f.own.Nodup) {a : Addr} (h : f.C = some a) : f.L ≠ a := fun e => (List.nodup_cons.mp nd).1 (List.mem_append_right _ (by rw [h]; simp [e]))
theorem cell_C (nd : f.own.Nodup) {x : Nat} {a d : Addr} (h : lk f.cs x = some a) (h' : f.C = some d) : a ≠ d := fun e =>
  (List.nodup_append.mp (List.nodup_cons.mp nd).2).2.2 a (lk_mem h) d (by rw [h']; simp) e
theorem isCell_ext {h h' : Heap} {a d : Addr} {v} (n : h.IsCell a v) (x : Heap.ExtBut d h h') (ne : a ≠ d) : h'.IsCell a v := let ⟨o, ho, hd⟩ := n; ⟨o, x a o ne ho, hd⟩

theorem ok_setL (e : EnvOk o f false env) {x : Nat} (w : isLoc o x = true) {v : AV} {u : Value} (hv : VR c φ v u) (h : setL x v σ = some σ') : Ok c (f :: fa) A (storeName env (nm x) u) φ σ σ' fun _ _ => True := by
  intro Q E s r q
  obtain ⟨hx, hk⟩ := isLoc_spec w
  cases h
  obtain ⟨m, hm, hn⟩ := r.hd.lo
  have nd := FA.own_nodup r
  refine wpAny_storeName_local (by rw [e.kindOf]; exact hk) (by rw [e.lo rfl]; exact hm) (fun h' hn' hs => ?_) (by rw [blockKind_fn e]; rfl)
  rw [e.lo rfl] at hn' hs
  refine q φ _ () (List.prefix_refl _) (r.frame own_L (sameBut_turns hs) (ns_noTup hm) ⟨⟨_, hn', ns_up hx hn hv⟩, fun y o e' => ?_, fun C e' => ?_⟩) trivial
  · obtain ⟨a, v', p1, p2, p3⟩ := r.hd.ce y o e'
    exact ⟨a, v', p1, isCell_ext p2 hs.extBut (L_cell nd p1).symm, p3⟩
  · exact (r.hd.co C e').ext hs.extBut (L_C nd e').symm
theorem ok_setK (e : EnvOk o f true env) {x : Nat} (w : isLoc o x = true) {v : AV} {u : Value} (hv : VR c φ v u) : Ok c (f :: fa) A (storeName env (nm x) u) φ σ (setK x v σ) fun _ _ => True := by
  intro Q E s r q
  obtain ⟨hx, hk⟩ := isLoc_spec w
  have hC := e.co rfl
  obtain ⟨m, hm, hn⟩ := r.hd.co _ hC
  have nd := FA.own_nodup r
  refine wpAny_storeName_local (by rw [e.kindOf]; exact hk) hm (fun h' hn' hs => ?_) (by rw [blockKind_fn e]; rfl)
  refine q φ _ () (List.prefix_refl _) (r.frame (own_C hC) (sameBut_turns hs) (ns_noTup hm) ⟨r.hd.lo.ext hs.extBut (L_C nd hC), fun y o e' => ?_, fun C e' => ?_⟩) trivial
  · obtain ⟨a, v', p1, p2, p3⟩ := r.hd.ce y o e'
    exact ⟨a, v', p1, isCell_ext p2 hs.extBut (cell_C nd p1 hC), p3⟩
  · rw [hC] at e'; cases e'; exact ⟨_, hn', ns_up hx hn hv⟩
theorem ok_setC (e : EnvOk o f false env) {x : Nat} (w : isCel o x = true) (wc : o.names.lookup (nm x) = some .cell) {v : AV} {u : Value} (hv : VR c φ v u) (h : setC x v σ = some σ') : Ok c (f :: fa) A (storeName env (nm x) u) φ σ σ' fun _ _ => True := by
  intro Q E s r q
  obtain ⟨v0, h0, h⟩ := ob_eq h
  cases h
  obtain ⟨a, u0, ha, hc, _⟩ := r.hd.ce x _ h0
  have nd := FA.own_nodup r
  refine wpAny_storeName_cell (blockKind_fn e) (by rw [e.kindOf]; exact wc) (e.cells x a ha w) hc (fun h' hn' hs => ?_)
  refine q φ _ () (List.prefix_refl _) (r.frame (own_cell ha) (sameBut_turns' hs) (cell_noTup hc) ⟨r.hd.lo.ext hs.extBut (L_cell nd ha), fun y o e' => ?_, fun C e' => ?_⟩) trivial
  · rw [lk_up] at e'
    by_cases q : y = x
    · subst q; rw [if_pos rfl] at e'; cases e'; exact ⟨a, _, ha, hn', u, rfl, hv⟩
    · rw [if_neg q] at e'
      obtain ⟨a', v', p1, p2, p3⟩ := r.hd.ce y o e'
      refine ⟨a', v', p1, isCell_ext p2 hs.extBut (fun e => q (lk_inj ?_ p1 (e ▸ ha))), p3⟩
      exact (List.nodup_append.mp (List.nodup_cons.mp nd).2).1
  · exact (r.hd.co C e').ext hs.extBut (cell_C nd ha e').symm
end
end Mine
set_option maxRecDepth 100000
namespace Mine
noncomputable section
open PySem PySem.W PyProof.Rows
variable {c : Cx} {k : FC} {f : FA} {fa : List FA} {φ : List Addr} {σ σ' τ : AS} {s s' : Shared} {A : Around} {o : Scope} {b : Bool} {env : Env}

theorem grows_push (s : Shared) (ob : Obj) : Grows s { s with heap := s.heap.push ob } := ⟨fun _ _ e => Heap.get?_push_of_some _ e, by rw [Heap.size_push]; exact Nat.le_succ _, rfl, rfl, rfl⟩
theorem grows_push' (s : Shared) (ob : Obj) (tk : Nat) : Grows s { s with heap := s.heap.push ob, toks := tk } := ⟨fun _ _ e => Heap.get?_push_of_some _ e, by rw [Heap.size_push]; exact Nat.le_succ _, rfl, rfl, rfl⟩
theorem push_lt (h : Heap) (ob : Obj) : h.objs.size < (h.push ob).objs.size := by rw [Heap.size_push]; exact Nat.lt_succ_self _
theorem R.notSys (B : Base c k) (r : R c fa φ σ s) {i : Nat} {a : Addr} (h : φ[i]? = some a) : (a == sysModules) = false := by
  obtain ⟨o, q⟩ := B.sys
  refine Bool.eq_false_iff.mpr fun e => r.new a (mem_owns_φ (get_mem h)) o ?_
  rw [eq_of_beq e]; exact q

def sameV : AV → Value → Bool
  | .int i, .int j _ => decide (j = i)
  | .st a, .ref b => decide (b = a)
  | _, _ => false
def sameVs : List AV → List Value → Bool
  | [], [] => true
  | x :: xs, v :: vs => sameV x v && sameVs xs vs
  | _, _ => false
theorem sameV_ok {x : AV} {v : Value} (h : sameV x v = true) (c : Cx) (φ : List Addr) : VR c φ x v := by
  unfold sameV at h
  split at h
  · cases of_decide_eq_true h; exact ⟨_, rfl⟩
  · cases of_decide_eq_true h; rfl
  · cases h
theorem sameVs_ok : ∀ {xs : List AV} {vs : List Value}, sameVs xs vs = true → ∀ (c : Cx) (φ : List Addr), All2 (VR c φ) xs vs
  | [], [], _, _, _ => .nil
  | x :: xs, v :: vs, h, c, φ => by
    have h := Bool.and_eq_true_iff.mp h
    exact .cons (sameV_ok h.1 c φ) (sameVs_ok h.2 c φ)
def tupD (P : Params) (a : Nat) : Array Value × Nat := match (KS P).lookup a with
  | some ⟨_, _, .seq vs n, _⟩ => (vs, n)
  | _ => (#[], 0)
theorem tup_ok (P : Params) : ∀ a xs, stTup a = some xs → xs.length ≤ 1000 ∧ (KS P).lookup a = some ⟨.type "tuple", none, .seq (tupD P a).1 (tupD P a).2, #[]⟩ ∧ sameVs xs (tupD P a).1.toList = true := by
  intro a xs h
  simp only [stTup, lk_cons, lk_nil] at h
  repeat' split at h
  all_goals first | (cases h; done) | (cases h; rename_i e; subst e; refine ⟨by decide, by kernel_rfl, by kernel_rfl⟩)
theorem R.stTup (B : Base c k) (r : R c fa φ σ s) {a : Nat} {xs : List AV} (h : stTup a = some xs) : ∃ vs n, s.heap.get? a = some ⟨.type "tuple", none, .seq vs n, #[]⟩ ∧ All2 (VR c φ) xs vs.toList := by
  obtain ⟨_, e, q⟩ := tup_ok c.w.params a xs h
  exact ⟨_, _, r.ks B a _ e, sameVs_ok q c φ⟩

/-- an iterator is made -/
theorem newIt_ok (r : R c fa φ σ s) {ob : Obj} {x : AO} (hx : OR c (φ ++ [s.heap.objs.size]) (s.heap.push ob) s.heap.objs.size x) (hz : ∀ d es n, x = .kit d es n ∨ x = .vit d es n → σ.get d = some (.fdict es)) :
    R c fa (φ ++ [s.heap.objs.size]) (σ.new x) { s with heap := s.heap.push ob } ∧ (φ ++ [s.heap.objs.size])[σ.m]? = some s.heap.objs.size :=
  ⟨r.alloc (grows_push s ob) (Nat.le_refl _) (push_lt _ _) hx hz, by rw [← r.len]; simp⟩
def IsIt (φ : List Addr) (j : Nat) (x : Value) : Prop := ∃ a, φ[j]? = some a ∧ x = .ref a

theorem seq_list {h : Heap} {a : Addr} {vs n} (e : h.get? a = some ⟨.type "list", none, .seq vs n, #[]⟩) : h.IsList a vs := ⟨_, e, rfl, n, rfl⟩
theorem seq_tup {h : Heap} {a : Addr} {vs n} (e : h.get? a = some ⟨.type "tuple", none, .seq vs n, #[]⟩) : h.IsTuple a vs := ⟨_, e, rfl, n, rfl⟩
theorem dictOf_at {w : World} {h : Heap} {a : Addr} {kvs} (r : h.DictOf (intKind pw w) a kvs) : ∃ ep, h.DictAt (intKind pw w) a kvs ep := let ⟨o, es, ep, r⟩ := r; ⟨ep, o, es, r⟩
theorem dictAt_of {w : World} {h : Heap} {a : Addr} {kvs ep} (r : h.DictAt (intKind pw w) a kvs ep) : h.DictOf (intKind pw w) a kvs := let ⟨o, es, r⟩ := r; ⟨o, es, ep, r⟩
theorem dictAt_ext {w : World} {h h' : Heap} {a : Addr} {kvs ep} (r : h.DictAt (intKind pw w) a kvs ep) (x : ∀ b o, h.get? b = some o → h'.get? b = some o) : h'.DictAt (intKind pw w) a kvs ep :=
  let ⟨o, es, ho, q⟩ := r; ⟨o, es, x _ _ ho, q⟩

theorem dict_iter (B : Base c k) (r : R c fa φ σ s) {i : Nat} {a : Addr} (ha : φ[i]? = some a) {es : List (Int × AV)} (hi : σ.get i = some (.fdict es)) {E} {Q : Value → Shared → Prop}
    (q : ∀ φ' s' x, φ <+: φ' → R c fa φ' (σ.new (.kit i es 0)) s' → IsIt φ' σ.m x → Q x s') : wpAny (model pw c.w) A (PySem.pyIter (.ref a)) Q E s := by
  obtain ⟨a', ha', hl, kvs, hd, hk⟩ := r.obj i _ hi
  rw [ha] at ha'; cases ha'
  obtain ⟨ep, hd⟩ := dictOf_at hd
  refine wpAny_pyIter_dict (r.notSys B ha) hd ?_
  obtain ⟨r', e'⟩ := newIt_ok r (x := .kit i es 0) (ob := { cls := .type "dict_keyiterator", data := .fields #[.ref a, .int 0 0, .int kvs.length 0, .int ep 0] })
    ⟨a, kvs, ep, pre_get (List.prefix_append _ _) ha, ⟨_, Heap.get?_push_size _ rfl, rfl, rfl⟩, dictAt_ext hd (fun _ _ e => Heap.get?_push_of_some _ e), hk.mono (List.prefix_append _ _)⟩
    (fun d es' n e => by rcases e with e | e <;> cases e; exact hi)
  exact q _ _ _ (List.prefix_append _ _) r' ⟨_, e', rfl⟩
theorem vals_iter (B : Base c k) (r : R c fa φ σ s) {v : Addr} {d : Nat} {a : Addr} (ha : φ[d]? = some a) (hv : s.heap.IsValuesView v a) {es : List (Int × AV)} (hi : σ.get d = some (.fdict es)) {E} {Q : Value → Shared → Prop}
    (q : ∀ φ' s' x, φ <+: φ' → R c fa φ' (σ.new (.vit d es 0)) s' → IsIt φ' σ.m x → Q x s') : wpAny (model pw c.w) A (PySem.pyIter (.ref v)) Q E s := by
  obtain ⟨a', ha', hl, kvs, hd, hk⟩ := r.obj d _ hi
  rw [ha] at ha'; cases ha'
  obtain ⟨ep, hd⟩ := dictOf_at hd
  refine wpAny_pyIter_values hv hd ?_
  obtain ⟨r', e'⟩ := newIt_ok r (x := .vit d es 0) (ob := { cls := .type "dict_valueiterator", data := .fields #[.ref a, .int 0 0, .int kvs.length 0, .int ep 0] })
    ⟨a, kvs, ep, pre_get (List.prefix_append _ _) ha, ⟨_, Heap.get?_push_size _ rfl, rfl, rfl⟩, dictAt_ext hd (fun _ _ e => Heap.get?_push_of_some _ e), hk.mono (List.prefix_append _ _)⟩
    (fun d' es' n e => by rcases e with e | e <;> cases e; exact hi)
  exact q _ _ _ (List.prefix_append _ _) r' ⟨_, e', rfl⟩
theorem Tr.set_there {α : Type} (n : Nat) (x : α) : ∀ (t : Tr α) (i : Nat) (y : α), t.get i = some y → (Tr.set n t i x).get i = some x
  | .nil, i, y, h => by cases h
  | .node v l r, i, y, h => by
    rw [Tr.set_node]
    rw [Tr.get_node] at h
    by_cases h0 : i = 0
    · subst h0; rw [if_pos rfl, Tr.get_node, if_pos rfl]
    · rw [if_neg h0] at h ⊢
      by_cases p : i % 2 = 1
      · rw [if_pos p] at h ⊢; rw [Tr.get_node, if_neg h0, if_pos p]; exact Tr.set_there n x l _ y h
      · rw [if_neg p] at h ⊢; rw [Tr.get_node, if_neg h0, if_neg p]; exact Tr.set_there n x r _ y h
theorem set_there {i : Nat} {x y : AO} (h : σ.get i = some y) : (σ.set i x).get i = some x := Tr.set_there 20 x σ.t i y h
theorem newIt_eq {x : AO} {j : Nat} (h : newIt x σ = some (j, σ')) : j = σ.m ∧ σ' = σ.new x := ret_eq h

theorem rangeSize_to (n : Nat) : Builtin.Range.rangeSize 0 (n : Int) 1 = n := by
  unfold Builtin.Range.rangeSize
  rw [if_pos (by decide)]
  by_cases h : (0 : Int) < n
  · rw [if_pos h]; omega
  · rw [if_neg h]; omega
theorem range_small (n : Nat) (h : n ≤ 1000) : Builtin.Range.small 0 (n : Int) 1 = true := by
  have h' : ((List.range 1001).all fun n => Builtin.Range.small 0 (n : Int) 1) = true := by decide +kernel
  exact List.all_eq_true.mp h' n (List.mem_range.mpr (by omega))
theorem ok_pyIter (B : Base c k) {v : AV} {j : Nat} (h : pyIter v σ = some (j, σ')) {u : Value} (hv : VR c φ v u) : Ok c fa A (PySem.pyIter u) φ σ σ' fun φ' x => IsIt φ' j x := by
  intro Q E s r q
  unfold pyIter at h
  split at h
  · -- a tuple of the text
    rename_i a
    obtain ⟨xs, hx, h⟩ := ob_eq h
    obtain ⟨rfl, rfl⟩ := newIt_eq h
    obtain rfl := hv
    obtain ⟨vs, n, e, hvs⟩ := r.stTup B hx
    refine wpAny_pyIter_tuple (seq_tup e) ?_
    obtain ⟨r', e'⟩ := newIt_ok r (x := .tit xs 0) (ob := { cls := .type "tuple_iterator", data := .fields #[.ref a, .int 0 0] })
      ⟨a, vs, ⟨_, Heap.get?_push_size _ rfl, rfl, rfl⟩, ⟨_, Heap.get?_push_of_some _ e, rfl, n, rfl⟩, vrs_mono (List.prefix_append _ _) hvs⟩ (fun d es n e => by rcases e with e | e <;> cases e)
    exact q _ _ _ (List.prefix_append _ _) r' ⟨_, e', rfl⟩
  · rename_i i
    obtain ⟨x, hx, h⟩ := ob_eq h
    obtain ⟨a, ha, rfl⟩ := hv
    obtain ⟨a', ha', ho⟩ := r.obj i x hx
    rw [ha] at ha'; cases ha'
    cases x with
    | list xs =>
      obtain ⟨rfl, rfl⟩ := newIt_eq h
      obtain ⟨_, vs, n, e, hvs⟩ := ho
      refine wpAny_pyIter_list (seq_list e) ?_
      obtain ⟨r', e'⟩ := newIt_ok r (x := .lit i 0) (ob := { cls := .type "list_iterator", data := .fields #[.ref a, .int 0 0] })
        ⟨a, pre_get (List.prefix_append _ _) ha, ⟨_, Heap.get?_push_size _ rfl, rfl, rfl⟩⟩ (fun d es n e => by rcases e with e | e <;> cases e)
      exact q _ _ _ (List.prefix_append _ _) r' ⟨_, e', rfl⟩
    | tup xs =>
      obtain ⟨rfl, rfl⟩ := newIt_eq h
      obtain ⟨_, vs, n, e, hvs⟩ := ho
      refine wpAny_pyIter_tuple (seq_tup e) ?_
      obtain ⟨r', e'⟩ := newIt_ok r (x := .tit xs 0) (ob := { cls := .type "tuple_iterator", data := .fields #[.ref a, .int 0 0] })
        ⟨a, vs, ⟨_, Heap.get?_push_size _ rfl, rfl, rfl⟩, ⟨_, Heap.get?_push_of_some _ e, rfl, n, rfl⟩, vrs_mono (List.prefix_append _ _) hvs⟩ (fun d es n e => by rcases e with e | e <;> cases e)
      exact q _ _ _ (List.prefix_append _ _) r' ⟨_, e', rfl⟩
    | dict es =>
      obtain ⟨rfl, rfl⟩ := newIt_eq h
      exact dict_iter B (r.freeze hx) ha (set_there hx) q
    | fdict es =>
      obtain ⟨rfl, rfl⟩ := newIt_eq h
      exact dict_iter B r ha hx q
    | vals d =>
      obtain ⟨y, hy, h⟩ := ob_eq h
      obtain ⟨b, hb, hvv⟩ := ho
      cases y with
      | dict es =>
        obtain ⟨rfl, rfl⟩ := newIt_eq h
        exact vals_iter B (r.freeze hy) hb hvv (set_there hy) q
      | fdict es =>
        obtain ⟨rfl, rfl⟩ := newIt_eq h
        exact vals_iter B r hb hvv hy q
      | _ => cases h
    | rng n =>
      obtain ⟨rfl, rfl⟩ := newIt_eq h
      obtain ⟨hn, t, u, v, hr⟩ := ho
      have hsm := range_small n hn
      refine wpAny_pyIter_range hr hsm ?_
      obtain ⟨r', e'⟩ := newIt_ok r (x := .rit 0 n) (ob := { cls := .type "range_iterator", data := .fields #[rawInt 0, rawInt (Builtin.Range.rangeSize 0 n 1), rawInt 1] })
        (by
          have : (Builtin.Range.rangeSize 0 (n : Int) 1 : Int) = ((n : Int) - ((0 : Nat) : Int)) := by rw [rangeSize_to]; simp
          show Heap.get? _ _ = _
          rw [← this]; exact Heap.get?_push_size _ rfl) (fun d es n e => by rcases e with e | e <;> cases e)
      exact q _ _ _ (List.prefix_append _ _) r' ⟨_, e', rfl⟩
    | _ => cases h
  · cases h

/-! ### the next item -/
def NV (c : Cx) (φ : List Addr) : Option AV → Option Value → Prop
  | none, x => x = none
  | some v, x => ∃ u, x = some u ∧ VR c φ v u
theorem turns_same {b : Addr} {h' : Heap} (x : Heap.SameBut b s.heap h') : Turns b s { s with heap := h' } := ⟨x.extBut, by rw [x.1]; exact Nat.le_refl _, rfl, rfl, rfl⟩
theorem obj_noTup {h : Heap} {a : Addr} {ob : Obj} (e : h.get? a = some ob) (hc : ob.cls ≠ .type "tuple") : ∀ vs, ¬ h.IsTuple a vs := fun _ ⟨o, ho, h, _⟩ => by rw [e] at ho; cases ho; exact hc h
/-- the iterator goes on, or it ends -/
theorem next_item (r : R c fa φ σ s) {j : Nat} {a : Addr} (ha : φ[j]? = some a) {y x : AO} (hy : σ.get j = some y) (hyf : ∀ es, y ≠ .fdict es) {h' : Heap} {tk : Nat} (hs : Heap.SameBut a s.heap h') (hn : ∀ vs, ¬ s.heap.IsTuple a vs) (hx : OR c φ h' a x)
    (hz : ∀ d es n, x = .kit d es n ∨ x = .vit d es n → σ.get d = some (.fdict es)) : R c fa φ (σ.set j x) { s with heap := h', toks := tk } :=
  r.setObj ha (sameBut_turns hs) (fun es e => hyf es (by rw [hy] at e; exact Option.some.inj e)) hn hx hz
theorem next_end (r : R c fa φ σ s) {j : Nat} {a : Addr} (ha : φ[j]? = some a) {y : AO} (hy : σ.get j = some y) (hyf : ∀ es, y ≠ .fdict es) {h' : Heap} (hs : Heap.ExtBut a s.heap h') (hn : ∀ vs, ¬ s.heap.IsTuple a vs) (hl : s.heap.objs.size ≤ h'.objs.size) :
    R c fa φ (σ.set j .dead) { s with heap := h' } :=
  r.setObj (s' := { s with heap := h' }) ha ⟨hs, hl, rfl, rfl, rfl⟩ (fun es e => hyf es (by rw [hy] at e; exact Option.some.inj e)) hn (o := .dead) trivial (fun d es n e => by rcases e with e | e <;> cases e)
theorem turn_eq {x : Option AV} {j : Nat} {y : AO} {v : Option AV} (h : turn x j y σ = some (v, σ')) : (∃ u, x = some u ∧ v = some u ∧ σ' = σ.set j y) ∨ (x = none ∧ v = none ∧ σ' = σ.set j .dead) := by
  unfold turn at h
  cases x with
  | none => obtain ⟨rfl, rfl⟩ := ret_eq h; exact .inr ⟨rfl, rfl, rfl⟩
  | some u => obtain ⟨rfl, rfl⟩ := ret_eq h; exact .inl ⟨u, rfl, rfl, rfl⟩
theorem get_none {α β : Type} {P : α → β → Prop} {as : List α} {bs : List β} (h : All2 P as bs) {i : Nat} (e : as[i]? = none) : bs[i]? = none := by
  rw [List.getElem?_eq_none_iff] at e ⊢; rw [← h.length]; exact e
theorem ok_next (hh : A.handled = none) {j : Nat} {v : Option AV} (h : next j σ = some (v, σ')) {a : Addr} (ha : φ[j]? = some a) : Ok c fa A (pyNext (.ref a)) φ σ σ' fun φ' x => NV c φ' v x := by
  intro Q E s r q
  unfold next at h
  obtain ⟨y, hy, h⟩ := ob_eq h
  obtain ⟨a', ha', ho⟩ := r.obj j y hy
  rw [ha] at ha'; cases ha'
  cases y with
  | lit l i =>
    obtain ⟨xs, hx, h⟩ := ob_eq h
    obtain ⟨z, hz, hx⟩ := ob_eq hx
    cases z with
    | list ys =>
      cases hx
      obtain ⟨b, hb, hit⟩ := ho
      obtain ⟨b', hb', _, vs, n, e, hvs⟩ := r.obj l _ hz
      rw [hb] at hb'; cases hb'
      have hnt := obj_noTup hit.choose_spec.1 (by rw [hit.choose_spec.2.1]; decide)
      rcases turn_eq h with ⟨u, hu, rfl, rfl⟩ | ⟨hu, rfl, rfl⟩
      · obtain ⟨w, hw, hv⟩ := hvs.get? hu
        exact wpAny_pyNext_list_item hit (seq_list e) (by rw [← Array.getElem?_toList]; exact hw) fun h' hi hs =>
          q φ _ _ (List.prefix_refl _) (next_item r ha hy (by intro _ e; cases e) hs hnt ⟨b, hb, hi⟩ (fun d es n e => by rcases e with e | e <;> cases e)) ⟨w, rfl, hv⟩
      · exact wpAny_with_size (wpAny_pyNext_list_end hh hit (seq_list e) (by rw [← Array.getElem?_toList]; exact get_none hvs hu) fun h' hs hl =>
          q φ _ _ (List.prefix_refl _) (next_end r ha hy (by intro _ e; cases e) hs hnt hl) rfl)
    | _ => cases hx
  | tit xs i =>
    obtain ⟨t, vs, hit, ht, hvs⟩ := ho
    have hnt := obj_noTup hit.choose_spec.1 (by rw [hit.choose_spec.2.1]; decide)
    rcases turn_eq h with ⟨u, hu, rfl, rfl⟩ | ⟨hu, rfl, rfl⟩
    · obtain ⟨w, hw, hv⟩ := hvs.get? hu
      refine wpAny_pyNext_tuple_item hit ht (by rw [← Array.getElem?_toList]; exact hw) fun h' hi hs => ?_
      have hta : t ≠ a := fun e => hnt vs (e ▸ ht)
      obtain ⟨ot, e1, e2, e3⟩ := ht
      exact q φ _ _ (List.prefix_refl _) (next_item r ha hy (by intro _ e; cases e) hs hnt ⟨t, vs, hi, ⟨ot, hs.extBut t _ hta e1, e2, e3⟩, hvs⟩ (fun d es n e => by rcases e with e | e <;> cases e)) ⟨w, rfl, hv⟩
    · exact wpAny_with_size (wpAny_pyNext_tuple_end hh hit ht (by rw [← Array.getElem?_toList]; exact get_none hvs hu) fun h' hs hl =>
        q φ _ _ (List.prefix_refl _) (next_end r ha hy (by intro _ e; cases e) hs hnt hl) rfl)
  | kit d es i =>
    obtain ⟨b, kvs, ep, hb, hit, hd, hk⟩ := ho
    have hnt := obj_noTup hit.choose_spec.1 (by rw [hit.choose_spec.2.1]; decide)
    have hba : b ≠ a := fun e => by
      obtain ⟨o1, h1, hc1, _⟩ := hit
      obtain ⟨o2, es2, h2, hx2, _⟩ := hd
      subst e; rw [h1] at h2; cases h2
      have := hx2.1; rw [hc1] at this; exact absurd this (by decide)
    rcases turn_eq h with ⟨u, hu, rfl, rfl⟩ | ⟨hu, rfl, rfl⟩
    · obtain ⟨p, hp, hu⟩ := ob_eq hu
      cases hu
      obtain ⟨w, hw, hv⟩ := All2.get? hk hp
      obtain ⟨w1, w2⟩ := w
      refine wpAny_pyNext_dict_item hit hd hw fun key h' hkey hi hs => ?_
      obtain ⟨t, rfl⟩ := Value.isInt_shape hkey
      exact q φ _ _ (List.prefix_refl _) (next_item r ha hy (by intro _ e; cases e) hs hnt ⟨b, kvs, ep, hb, hi, hd.extBut hs.extBut hba, hk⟩ (fun d' es' n e => by rcases e with e | e <;> cases e; exact r.frz j d es i (.inl hy))) ⟨_, rfl, t, by rw [hv.1]⟩
    · refine wpAny_with_size (wpAny_pyNext_dict_end hh hit hd ?_ fun h' hs hl =>
        q φ _ _ (List.prefix_refl _) (next_end r ha hy (by intro _ e; cases e) hs hnt hl) rfl)
      refine get_none hk ?_
      cases e : es[i]? with
      | none => rfl
      | some p => rw [e] at hu; cases hu
  | vit d es i =>
    obtain ⟨b, kvs, ep, hb, hit, hd, hk⟩ := ho
    have hnt := obj_noTup hit.choose_spec.1 (by rw [hit.choose_spec.2.1]; decide)
    have hba : b ≠ a := fun e => by
      obtain ⟨o1, h1, hc1, _⟩ := hit
      obtain ⟨o2, es2, h2, hx2, _⟩ := hd
      subst e; rw [h1] at h2; cases h2
      have := hx2.1; rw [hc1] at this; exact absurd this (by decide)
    rcases turn_eq h with ⟨u, hu, rfl, rfl⟩ | ⟨hu, rfl, rfl⟩
    · obtain ⟨p, hp, hu⟩ := ob_eq hu
      cases hu
      obtain ⟨w, hw, hv⟩ := All2.get? hk hp
      obtain ⟨w1, w2⟩ := w
      refine wpAny_pyNext_values_item hit hd hw fun h' hi hs => ?_
      exact q φ _ _ (List.prefix_refl _) (next_item r ha hy (by intro _ e; cases e) hs hnt ⟨b, kvs, ep, hb, hi, hd.extBut hs.extBut hba, hk⟩ (fun d' es' n e => by rcases e with e | e <;> cases e; exact r.frz j d es i (.inr hy))) ⟨_, rfl, hv.2⟩
    · refine wpAny_with_size (wpAny_pyNext_values_end hh hit hd ?_ fun h' hs hl =>
        q φ _ _ (List.prefix_refl _) (next_end r ha hy (by intro _ e; cases e) hs hnt hl) rfl)
      refine get_none hk ?_
      cases e : es[i]? with
      | none => rfl
      | some p => rw [e] at hu; cases hu
  | rit i n =>
    have hnt := obj_noTup ho (by show Value.type "range_iterator" ≠ _; decide)
    cases hb : Nat.blt i n with
    | true =>
      have hlt : i < n := Nat.le_of_ble_eq_true hb
      have h : turn (br (Nat.blt i n) (some (.int (Int.ofNat i))) none) j (.rit (Nat.succ i) n) σ = some (v, σ') := h
      rw [hb] at h
      rcases turn_eq h with ⟨u, hu, rfl, rfl⟩ | ⟨hu, rfl, rfl⟩
      · cases hu
        refine wpAny_pyNext_range_item ho (by omega) fun h' hi hs => ?_
        exact q φ _ _ (List.prefix_refl _) (next_item r ha hy (by intro _ e; cases e) hs hnt
          (by show IsRangeIter _ _ _ _ _; rw [show ((n : Int) - (i.succ : Nat)) = (n : Int) - i - 1 by omega]; exact hi) (fun d es n e => by rcases e with e | e <;> cases e)) ⟨_, rfl, _, rfl⟩
      · cases hu
    | false =>
      have hge : ¬ i < n := fun l => by rw [show Nat.blt i n = true from Nat.ble_eq_true_of_le l] at hb; cases hb
      have h : turn (br (Nat.blt i n) (some (.int (Int.ofNat i))) none) j (.rit (Nat.succ i) n) σ = some (v, σ') := h
      rw [hb] at h
      rcases turn_eq h with ⟨u, hu, rfl, rfl⟩ | ⟨hu, rfl, rfl⟩
      · cases hu
      · exact wpAny_with_size (wpAny_pyNext_range_end hh ho (by omega) fun h' hs hl =>
          q φ _ _ (List.prefix_refl _) (next_end r ha hy (by intro _ e; cases e) hs hnt hl) rfl)
  | _ => cases h
/-- an iterator is its own iterator -/
theorem iter_self {j : Nat} {v : Option AV} (h : next j σ = some (v, σ')) {a : Addr} (ha : φ[j]? = some a) : Ok c fa A (PySem.pyIter (.ref a)) φ σ σ fun _ x => x = .ref a := by
  intro Q E s r q
  unfold next at h
  obtain ⟨y, hy, h⟩ := ob_eq h
  obtain ⟨a', ha', ho⟩ := r.obj j y hy
  rw [ha] at ha'; cases ha'
  have q' := q φ s (.ref a) (List.prefix_refl _) r rfl
  cases y with
  | lit l i => obtain ⟨b, hb, hit⟩ := ho; exact wpAny_pyIter_listiter hit q'
  | tit xs i => obtain ⟨t, vs, hit, ht, hvs⟩ := ho; exact wpAny_pyIter_tupleiter hit q'
  | kit d es i => obtain ⟨b, kvs, ep, hb, hit, hd, hk⟩ := ho; exact wpAny_pyIter_keyiter hit q'
  | vit d es i => obtain ⟨b, kvs, ep, hb, hit, hd, hk⟩ := ho; exact wpAny_pyIter_valiter hit q'
  | rit i n => exact wpAny_pyIter_rangeiter ho q'
  | _ => cases h
end
end Mine
set_option maxRecDepth 100000
namespace Mine
noncomputable section
open PySem PySem.W PyProof.Rows
variable {c : Cx} {k : FC} {f : FA} {fa : List FA} {φ : List Addr} {σ σ' τ : AS} {s s' : Shared} {A : Around} {o : Scope} {b : Bool} {env : Env}

theorem isInt_eq {v : AV} {i : Int} (h : isInt v = some i) : v = .int i := by
  cases v <;> first | (cases h; rfl) | cases h
theorem isNat_eq {v : AV} {i : Nat} (h : isNat v = some i) : v = .int (Int.ofNat i) := by
  cases v with
  | int z => cases z with
    | ofNat n => cases h; rfl
    | negSucc n => cases h
  | _ => cases h
theorem isRef_eq {v : AV} {i : Nat} (h : isRef v = some i) : v = .ref i := by
  cases v <;> first | (cases h; rfl) | cases h
theorem isSt_eq {v : AV} {i : Nat} (h : isSt v = some i) : v = .st i := by
  cases v <;> first | (cases h; rfl) | cases h
theorem one_eq {α : Type} {l : List α} {v : α} (h : one l = some v) : l = [v] := by
  rcases l with _ | ⟨x, _ | ⟨y, r⟩⟩ <;> first | (cases h; rfl) | cases h
theorem two_eq {α : Type} {l : List α} {p : α × α} (h : two l = some p) : l = [p.1, p.2] := by
  rcases l with _ | ⟨x, _ | ⟨y, _ | ⟨z, r⟩⟩⟩ <;> first | (cases h; rfl) | cases h
theorem nul_eq {α : Type} {l : List α} (h : nul l = true) : l = [] := by
  cases l with
  | nil => rfl
  | cons _ _ => cases h
theorem nul_isEmpty {α : Type} (l : List α) : nul l = l.isEmpty := by cases l <;> rfl
theorem se_val {v : AV} {e : SE} {u : Value} (h : se v = some e) (hv : VR c φ v u) : ∃ t, u = .int (e.den c.ρ) t := by
  cases v <;> first | (cases h; exact hv) | cases h
theorem bothI_ok {x y v : AV} {F : Int → Int → Int} {G : SE → SE → SE} (hg : ∀ a b, (G a b).den c.ρ = F (a.den c.ρ) (b.den c.ρ)) (h : bothI x y F G = some v) {u w : Value} (hx : VR c φ x u) (hy : VR c φ y w) :
    ∃ i t j t', u = .int i t ∧ w = .int j t' ∧ ∀ z, VR c φ v (.int (F i j) z) := by
  unfold bothI at h
  cases e : isInt x with
  | some i =>
    rw [e] at h
    obtain rfl := isInt_eq e
    obtain ⟨t, rfl⟩ := hx
    cases e' : isInt y with
    | some j =>
      rw [e'] at h
      obtain rfl := isInt_eq e'
      obtain ⟨t', rfl⟩ := hy
      cases h
      exact ⟨i, t, j, t', rfl, rfl, fun z => ⟨z, rfl⟩⟩
    | none =>
      rw [e'] at h
      obtain ⟨q, hq, h⟩ := ob_eq h
      cases h
      obtain ⟨t', rfl⟩ := se_val hq hy
      exact ⟨i, t, _, t', rfl, rfl, fun z => ⟨z, by rw [hg]; rfl⟩⟩
  | none =>
    rw [e] at h
    obtain ⟨p, hp, h⟩ := ob_eq h
    obtain ⟨q, hq, h⟩ := ob_eq h
    cases h
    obtain ⟨t, rfl⟩ := se_val hp hx
    obtain ⟨t', rfl⟩ := se_val hq hy
    exact ⟨_, t, _, t', rfl, rfl, fun z => ⟨z, by rw [hg]⟩⟩
theorem bd_ok (ρ : Nat → Int) : ∀ {e : SE} {n : Nat}, e.bd = some n → (e.den ρ).natAbs ≤ n
  | .c i, n, h => by cases h; exact Nat.le_refl _
  | .at _, _, h => by cases h
  | .res i, n, h => by
    cases h
    show ((ρ i).fmod 2001).natAbs ≤ 2001
    have h1 := Int.fmod_nonneg_of_pos (ρ i) (show (0 : Int) < 2001 by decide)
    have h2 := Int.fmod_lt_of_pos (ρ i) (show (0 : Int) < 2001 by decide)
    omega
  | .add a b, n, h => by
    obtain ⟨x, hx, h⟩ := ob_eq h
    obtain ⟨y, hy, h⟩ := ob_eq h
    cases h
    have := bd_ok ρ hx
    have := bd_ok ρ hy
    show (a.den ρ + b.den ρ).natAbs ≤ x + y
    omega
  | .sub a b, n, h => by
    obtain ⟨x, hx, h⟩ := ob_eq h
    obtain ⟨y, hy, h⟩ := ob_eq h
    cases h
    have := bd_ok ρ hx
    have := bd_ok ρ hy
    show (a.den ρ - b.den ρ).natAbs ≤ x + y
    omega
  | .mul _ _, _, h => by cases h
theorem fits_ok {v : AV} (h : fits v = true) {i : Int} {t : Tok} (hv : VR c φ v (.int i t)) : Builtin.Int.intBits i ≤ 64 := by
  unfold fits at h
  cases e : ob (se v) SE.bd with
  | none => rw [e] at h; cases h
  | some n =>
    rw [e] at h
    obtain ⟨q, hq, hb⟩ := ob_eq e
    have hn : n < 18446744073709551616 := Nat.le_of_ble_eq_true h
    obtain ⟨t', e'⟩ := se_val hq hv
    cases e'
    have := bd_ok c.ρ hb
    exact intBits_le_64 (by omega) (by omega)
theorem and_one (n : Nat) : Builtin.bitAnd (Int.ofNat n) (Int.ofNat 1) = Int.ofNat (n % 2) := by
  show ((n &&& 1 : Nat) : Int) = _
  rw [Nat.and_one_is_mod]; rfl
theorem ok_bin (B : Base c k) {op : BOp} {x y v : AV} (h : binOp k op x y = some v) {u w : Value} (hx : VR c φ x u) (hy : VR c φ y w) : OkV c fa A (binaryOp (bopT op) u w) φ σ σ v := by
  intro Q E s r q
  have q' := fun z tk (hz : VR c φ v z) => q φ { s with toks := tk } z (List.prefix_refl _) (r.toks tk) hz
  cases op with
  | add =>
    obtain ⟨i, t, j, t', rfl, rfl, hv⟩ := bothI_ok (F := (· + ·)) (G := .add) (fun _ _ => rfl) h hx hy
    exact P.add_int (q' _ _ (hv _))
  | sub =>
    obtain ⟨i, t, j, t', rfl, rfl, hv⟩ := bothI_ok (F := (· - ·)) (G := .sub) (fun _ _ => rfl) h hx hy
    exact P.sub_int (q' _ _ (hv _))
  | mul =>
    obtain ⟨hf, h⟩ := br_none h
    obtain ⟨i, t, j, t', rfl, rfl, hv⟩ := bothI_ok (F := (· * ·)) (G := .mul) (fun _ _ => rfl) h hx hy
    refine P.mul_int (q' _ _ (hv _)) ?_
    cases e : fits x with
    | true => exact .of_left (fits_ok e hx)
    | false => rw [e] at hf; exact .of_right (fits_ok hf hy)
  | mod =>
    replace h : opMod k x y = some v := h
    cases x with
    | sym e =>
      cases e with
      | «at» n =>
        obtain ⟨j, hj, h2⟩ := ob_eq h
        obtain rfl := isInt_eq hj
        obtain ⟨t, rfl⟩ := hx
        obtain ⟨t', rfl⟩ := hy
        unfold modSym at h2
        cases e : decide (j = 63) with
        | true =>
          cases of_decide_eq_true e
          obtain ⟨hn, h3⟩ := br_none (b := Nat.beq n 0) h2
          cases nbeq hn
          cases h3
          refine mod_int' (by decide) (q' _ _ ⟨s.toks, ?_⟩)
          show Value.int ((c.ρ 0).fmod 63) _ = _
          rw [B.mask]; rfl
        | false =>
          rw [e] at h2
          obtain ⟨hj, h3⟩ := br_none (b := decide (j = 2001)) h2
          cases of_decide_eq_true hj
          cases h3
          exact mod_int' (by decide) (q' _ _ ⟨s.toks, rfl⟩)
      | _ => cases h
    | int z =>
      cases z with
      | ofNat n =>
        obtain ⟨j, hj, h2⟩ := ob_eq h
        obtain rfl := isNat_eq hj
        obtain ⟨hp, h3⟩ := br_none h2
        cases h3
        obtain ⟨t, rfl⟩ := hx
        obtain ⟨t', rfl⟩ := hy
        have hp : 0 < j := Nat.le_of_ble_eq_true hp
        refine mod_int' (by intro e; have : (j : Int) = 0 := e; omega) (q' _ _ ⟨s.toks, ?_⟩)
        congr 1
        show Int.fmod (n : Int) (j : Int) = _
        rw [Int.fmod_eq_emod_of_nonneg _ (Int.natCast_nonneg j)]; rfl
      | negSucc n => cases h
    | _ => cases h
  | shr =>
    obtain ⟨i, hi, h⟩ := ob_eq h
    obtain ⟨j, hj, h⟩ := ob_eq h
    obtain ⟨_, h⟩ := br_none h
    cases h
    obtain rfl := isNat_eq hi
    obtain rfl := isNat_eq hj
    obtain ⟨t, rfl⟩ := hx
    obtain ⟨t', rfl⟩ := hy
    refine rshift_int (Int.natCast_nonneg _) (q' _ _ ⟨s.toks, ?_⟩)
    congr 1
    show Int.fdiv (i : Int) (2 ^ (Int.toNat (j : Int))) = _
    rw [Int.toNat_natCast]
    show Int.fdiv (i : Int) ((2 : Int) ^ j) = ((i / 2 ^ j : Nat) : Int)
    rw [Int.fdiv_eq_ediv_of_nonneg _ (Int.le_of_lt (Int.pow_pos (by decide)))]
    push_cast; rfl
  | band =>
    obtain ⟨i, hi, h⟩ := ob_eq h
    obtain ⟨j, hj, h⟩ := ob_eq h
    obtain ⟨hj1, h⟩ := br_none h
    cases h
    obtain rfl := isNat_eq hi
    obtain rfl := isNat_eq hj
    cases nbeq hj1
    obtain ⟨t, rfl⟩ := hx
    obtain ⟨t', rfl⟩ := hy
    exact and_int (q' _ _ ⟨s.toks, by rw [and_one]⟩)
theorem ok_neg {x : AV} {i : Int} (h : isInt x = some i) {u : Value} (hx : VR c φ x u) : OkV c fa A (unaryOp .USub u) φ σ σ (.int (-i)) := by
  intro Q E s r q
  obtain rfl := isInt_eq h
  obtain ⟨t, rfl⟩ := hx
  exact P.neg_int (q φ _ _ (List.prefix_refl _) (r.toks _) ⟨_, rfl⟩)
end
end Mine
set_option maxRecDepth 100000
namespace Mine
noncomputable section
open PySem PySem.W PyProof.Rows Builtin
open AutoSeq1 (wpAny_loadPart')
open MeetsSeq

def domO (d : Addr) (vs : Array Value) (n : Nat) : Obj := ⟨.ref 264, some d, .seq vs n, #[]⟩
section
variable {w : World} {A : Around} {E : Value → Shared → Prop} {s : Shared} {a d : Addr} {vs : Array Value} {n : Nat}

theorem dom_type (ho : s.heap.get? a = some (domO d vs n)) (M : Model) : Looks M s.heap (typeOf (.ref a)) (.ref 264) := (Looks.ld ho).andThen .now
theorem dom_check {M : Model} {i nn : String} {rest : List Value} {Q : Unit → Shared → Prop} (X : (KS w.params).In s.heap) (ho : s.heap.get? a = some (domO d vs n)) (hk : builtinKind i = some .slot ∨ builtinKind i = some .method)
    (hs : splitId i = some ("list", nn)) (ha : argsOk i ⟨.ref a :: rest, []⟩) (q : Q () s) : wpAny M A (checkBuiltinCall i ⟨.ref a :: rest, []⟩) Q E s := by
  have hi : Looks M s.heap (isInstance (.ref a) (.type "list")) true := (dom_type ho M).andThen (looks_subIn X (by kernel_rfl))
  rcases hk with hk | hk
  all_goals
    simp only [checkBuiltinCall, hk, hs]
    refine wpAny_bind (hi.here ?_)
    simp only [Bool.not_true, Bool.false_eq_true, if_false]
    cases hsig : Manifest.signature? i with
    | none => exact wpAny_pure q
    | some sig =>
      simp only [argsOk, hsig] at ha
      have h2 : Bind.checkArgs i sig ⟨.ref a :: rest, []⟩ = pure () := ha
      show wpAny M A (Bind.checkArgs i sig ⟨.ref a :: rest, []⟩) Q E s
      rw [h2]; exact wpAny_pure q
theorem call_dom {i nn : String} {b : Builtin} {rest : List Value} {S : PySem.Spec} {Q : Value → Shared → Prop} (X : (KS w.params).In s.heap) (ho : s.heap.get? a = some (domO d vs n)) (hk : builtinKind i = some .slot ∨ builtinKind i = some .method)
    (hs : splitId i = some ("list", nn)) (ha : argsOk i ⟨.ref a :: rest, []⟩) (hp : plainId i = true) (hb : entryFor table i = some b) (g : Meets (b ⟨.ref a :: rest, []⟩) S) (hq : S A (wants Q E) s) :
    wpAny (model pw w) A (call (.builtin i) (.ref a :: rest)) Q E s :=
  wpAny_call (codeAny_call_builtin hp hb (dom_check X ho hk hs ha (g pw w A (wants Q E) s hq)))

theorem m_len (l d : Addr) (items : Array Value) (n : Nat) : Meets (Builtin.«list.__len__» ⟨[.ref l], []⟩) (fun _ R s => s.heap.get? l = some (domO d items n) ∧ R (.ok (.ret (.int items.size s.toks))) { s with toks := s.toks + 1 }) := by
  intro prog w A R s h
  obtain ⟨hp, g, dr, tk, os⟩ := s; obtain ⟨hl, h⟩ := h
  unfold domO at hl
  wp_walk using wpAny_loadPart' hl
  exact h
theorem m_contains_loop (l d : Addr) (items : Array Value) (n : Nat) (x : Value) (e : Value → Bool) (he : ∀ y, y ∈ items → EqGives y x (e y)) (k : Nat) :
    ∀ i : Nat, items.size - i = k → Meets (Builtin.«list.__contains__.loop» ⟨[.ref l, x, rawInt i], []⟩) (fun _ R s => s.heap.get? l = some (domO d items n) ∧ R (.ok (.ret (.bool ((items.toList.drop i).any e)))) s) := by
  induction k with
  | zero =>
    intro i hk prog w A R s h
    obtain ⟨hp, g, dr, tk, os⟩ := s; obtain ⟨hl, h⟩ := h
    unfold domO at hl
    wp_walk using wpAny_loadPart' hl
    have hi : items[((i : Nat) : Int).toNat]? = none := by simp; omega
    rw [show items.toList.drop i = [] by simp; omega] at h
    rw [hi]
    wp_walk
    exact h
  | succ k ih =>
    intro i hk prog w A R s h
    obtain ⟨hp, g, dr, tk, os⟩ := s; obtain ⟨hl, h⟩ := h
    have hl' := hl
    unfold domO at hl
    wp_walk using wpAny_loadPart' hl
    have hlt : i < items.size := by omega
    have hi : items[((i : Nat) : Int).toNat]? = some items[i] := by simp [hlt]
    rw [show items.toList.drop i = items[i] :: items.toList.drop (i + 1) by simp [List.drop_eq_getElem_cons, hlt], List.any_cons] at h
    rw [hi]
    refine wpAny_bind (he _ (Array.getElem_mem hlt) prog w _ _ _ _ ?_)
    cases hb : e items[i] with
    | true => rw [hb] at h; wp_walk; exact h
    | false =>
      rw [hb] at h
      wp_walk
      rw [show ((i : Int) + 1) = ((i + 1 : Nat) : Int) by push_cast; rfl]
      exact ⟨plainId_quiet plain_contains_loop _, codeAny_builtin entry_contains_loop (by
        rw [Around.under_plainId plain_contains_loop _]
        exact ih (i + 1) (by omega) prog w A R _ ⟨hl', by simpa using h⟩)⟩
theorem m_contains (l d : Addr) (items : Array Value) (n : Nat) (x : Value) (e : Value → Bool) (he : ∀ y, y ∈ items → EqGives y x (e y)) :
    Meets (Builtin.«list.__contains__» ⟨[.ref l, x], []⟩) (fun _ R s => s.heap.get? l = some (domO d items n) ∧ R (.ok (.ret (.bool (items.any e)))) s) := by
  intro prog w A R s h
  obtain ⟨hp, g, dr, tk, os⟩ := s; obtain ⟨hl, h⟩ := h
  have hl' := hl
  unfold domO at hl
  wp_walk using wpAny_loadPart' hl
  exact ⟨plainId_quiet plain_contains_loop _, codeAny_builtin entry_contains_loop (by
    rw [Around.under_plainId plain_contains_loop _]
    exact m_contains_loop l d items n x e he _ 0 rfl prog w A R _ ⟨hl', by simpa using h⟩)⟩
theorem m_remove_loop (l d : Addr) (items : Array Value) (n : Nat) (x : Value) (e : Value → Bool) (he : ∀ y, y ∈ items → EqGives y x (e y)) (j : Nat) (hj : j < items.size) (hit : e items[j] = true) (k : Nat) (hs1 : items.size ≤ sizeLine) :
    ∀ i : Nat, j - i = k → i ≤ j → (∀ m (hm : m < items.size), i ≤ m → m < j → e items[m] = false) → Meets (Builtin.«list.remove.loop» ⟨[.ref l, x, rawInt i], []⟩)
      (fun _ R s => s.heap.get? l = some (domO d items n) ∧ R (.ok (.ret .none)) { s with heap := s.heap.update l (Obj.mapSeq fun xs => xs.eraseIdxIfInBounds j) }) := by
  induction k with
  | zero =>
    intro i hk hij hno prog w A R s h
    obtain ⟨hp, g, dr, tk, os⟩ := s; obtain ⟨hl, h⟩ := h
    unfold domO at hl
    obtain rfl : i = j := by omega
    wp_walk using wpAny_loadPart' hl
    have hi : items[((i : Nat) : Int).toNat]? = some items[i] := by simp [hj]
    rw [hi]
    refine wpAny_bind (he _ (Array.getElem_mem hj) prog w _ _ _ _ ?_)
    rw [hit]
    have hz' : (items.eraseIdxIfInBounds i).size ≤ sizeLine + 1 := Nat.le_trans (size_erased items _) (Nat.le_succ_of_le hs1)
    wp_walk using (wpAny_updateSeq hl rfl (hz := hs1) (_hz' := hz')), wpAny_loadPart' hl
    simpa using h
  | succ k ih =>
    intro i hk hij hno prog w A R s h
    obtain ⟨hp, g, dr, tk, os⟩ := s; obtain ⟨hl, h⟩ := h
    have hl' := hl
    unfold domO at hl
    have hlt : i < items.size := by omega
    wp_walk using wpAny_loadPart' hl
    have hi : items[((i : Nat) : Int).toNat]? = some items[i] := by simp [hlt]
    rw [hi]
    refine wpAny_bind (he _ (Array.getElem_mem hlt) prog w _ _ _ _ ?_)
    rw [hno i hlt (Nat.le_refl _) (by omega)]
    wp_walk
    rw [show ((i : Int) + 1) = ((i + 1 : Nat) : Int) by push_cast; rfl]
    exact ⟨plainId_quiet plain_remove_loop _, codeAny_builtin entry_remove_loop (by
      rw [Around.under_plainId plain_remove_loop _]
      exact ih (i + 1) (by omega) (by omega) (fun m hm h1 h2 => hno m hm (by omega) h2) prog w A R _ ⟨hl', h⟩)⟩
theorem m_remove (l d : Addr) (items : Array Value) (n : Nat) (x : Value) (e : Value → Bool) (he : ∀ y, y ∈ items → EqGives y x (e y)) (j : Nat) (hj : j < items.size)
    (hit : e items[j] = true) (hno : ∀ m (hm : m < items.size), m < j → e items[m] = false) (hs1 : items.size ≤ sizeLine) :
    Meets (Builtin.«list.remove» ⟨[.ref l, x], []⟩) (fun _ R s => s.heap.get? l = some (domO d items n) ∧ R (.ok (.ret .none)) { s with heap := s.heap.update l (Obj.mapSeq fun xs => xs.eraseIdxIfInBounds j) }) := by
  intro prog w A R s h
  obtain ⟨hp, g, dr, tk, os⟩ := s; obtain ⟨hl, h⟩ := h
  have hl' := hl
  unfold domO at hl
  wp_walk using wpAny_loadPart' hl
  exact ⟨plainId_quiet plain_remove_loop _, codeAny_builtin entry_remove_loop (by
    rw [Around.under_plainId plain_remove_loop _]
    exact m_remove_loop l d items n x e he j hj hit _ hs1 0 rfl (Nat.zero_le _) (fun m hm _ h2 => hno m hm h2) prog w A R _ ⟨hl', h⟩)⟩
theorem m_extend (l d b : Addr) (items items2 : Array Value) (n n2 : Nat) (hc0 : ¬(!items.isEmpty && Builtin.List.listTooLong (items.size + items2.size)) = true) (hc1 : items.size ≤ sizeLine) (hs2 : items.size + items2.size ≤ sizeLine + 1) :
    Meets (Builtin.«list.extend» ⟨[.ref l, .ref b], []⟩) (fun _ R s => s.heap.get? l = some (domO d items n) ∧ s.heap.get? b = some { cls := .type "list", dict := none, data := .seq items2 n2, slots := #[] } ∧
      R (.ok (.ret Value.none)) { s with heap := s.heap.update l (Obj.mapSeq fun x => x ++ items2), toks := s.toks }) :=
  .of_wp fun prog w A R s h => by
    obtain ⟨hp, g, dr, tk, os⟩ := s; obtain ⟨hl, hb, h⟩ := h
    unfold domO at hl
    have f3 := AutoSeq1.sub_list_list
    have hz' : (items ++ items2).size ≤ sizeLine + 1 := by rw [Array.size_append]; exact hs2
    wp_walk using (wpAny_updateSeq hl rfl (hz := hc1) (_hz' := hz')), wpAny_loadPart' hl, wpAny_loadPart' hb
    exact ⟨_, rfl, h⟩

theorem find_len (P : Params) : findIn (KS P) (.ref 264) "__len__" = some (some (.builtin "list.__len__")) := by kernel_rfl
theorem find_bool (P : Params) : findIn (KS P) (.ref 264) "__bool__" = some none := by kernel_rfl
theorem find_contains (P : Params) : findIn (KS P) (.ref 264) "__contains__" = some (some (.builtin "list.__contains__")) := by kernel_rfl
theorem find_getitem (P : Params) : findIn (KS P) (.ref 264) "__getitem__" = some (some (.builtin "list.__getitem__")) := by kernel_rfl

theorem dom_special {M : Model} {name : Str} {id : String} {T : String} {args : List Value} {Q : Option Value → Shared → Prop} (X : (KS w.params).In s.heap) (ho : s.heap.get? a = some (domO d vs n))
    (hf : findIn (KS w.params) (.ref 264) name = some (some (.builtin id))) (S : Slot T name id) (h : wpAny M A (call (.builtin id) (.ref a :: args)) (fun v => Q (some v)) E s) : wpAny M A (callSpecial? (.ref a) name args) Q E s := by
  refine wpAny_bind (wpAny_bind ((dom_type ho M).here ((looks_findIn X hf).here (wpAny_holding ?_))))
  rw [S.bind]
  exact wpAny_bind (wpAny_pure (wpAny_bind (wpAny_mono h (fun _ _ z => wpAny_pure z) fun _ _ z => z)))
theorem dom_len_slot {Q : Value → Shared → Prop} (X : (KS w.params).In s.heap) (ho : s.heap.get? a = some (domO d vs n)) (h : Q (.int vs.size s.toks) { s with toks := s.toks + 1 }) : wpAny (model pw w) A (call (.builtin "list.__len__") [.ref a]) Q E s :=
  call_dom X ho (nn := "__len__") (.inl (by decide +kernel)) (by decide +kernel) (by rfl) (by decide +kernel) entry_list_len (m_len a d vs n) ⟨ho, h⟩
theorem dom_len_body {Q : Value → Shared → Prop} (X : (KS w.params).In s.heap) (ho : s.heap.get? a = some (domO d vs n)) (hz : vs.size ≤ 1000) (h : Q (.int vs.size (s.toks + 1)) { s with toks := s.toks + 1 + 1 }) :
    wpAny (model pw w) A (Builtin.«len» ⟨[.ref a], []⟩) (fun fin s' => ∃ v, fin = .done (.ret v) ∧ Q v s') E s := by
  unfold Builtin.«len»
  refine wpAny_bind (m := oneArg "len" _) (wpAny_pure ?_)
  refine wpAny_bind (m := callSpecial? (.ref a) (Str.ofString "__len__")) (dom_special X ho (find_len _) slot_list_len (dom_len_slot X ho ?_))
  refine wpAny_bind (wpAny_holding (wpAny_pure ?_))
  refine wpAny_bind (wpAny_letGo ?_)
  show wpAny _ _ (if ((vs.size : Nat) : Int) < 0 then _ else _) _ _ _
  rw [if_neg (by omega)]
  show wpAny _ _ (if ((vs.size : Nat) : Int) ≥ 2 ^ 63 then _ else _) _ _ _
  rw [if_neg (by omega)]
  exact wpAny_bind (wpAny_mkInt (wpAny_pure ⟨_, rfl, h⟩))
theorem dom_len {Q : Value → Shared → Prop} (X : (KS w.params).In s.heap) (ho : s.heap.get? a = some (domO d vs n)) (hz : vs.size ≤ 1000) (h : Q (.int vs.size (s.toks + 1)) { s with toks := s.toks + 1 + 1 }) :
    wpAny (model pw w) A (call (.builtin "len") [.ref a]) Q E s := Calls.call_function_entry kind_len plain_len entry_len (args_len1 _) (dom_len_body X ho hz h)
theorem dom_truthy {Q : Bool → Shared → Prop} (X : (KS w.params).In s.heap) (ho : s.heap.get? a = some (domO d vs n)) (hz : vs.size ≤ 1000) (h : Q (!vs.isEmpty) { s with toks := s.toks + 1 + 1 }) : wpAny (model pw w) A (PySem.truthy (.ref a)) Q E s := by
  unfold PySem.truthy
  refine wpAny_bind (m := callSpecial? (.ref a) (Str.ofString "__bool__")) (wpAny_bind (wpAny_bind ((dom_type ho _).here ((looks_findIn X (find_bool _)).here (wpAny_pure ?_)))))
  refine wpAny_bind (wpAny_bind ((dom_type ho _).here ((looks_findIn X (find_len _)).here ?_)))
  have hne : ((vs.size : Int) != 0) = !vs.isEmpty := by
    rcases vs with ⟨l⟩
    cases l with
    | nil => rfl
    | cons x r => simp; omega
  refine wpAny_bind (wpAny_runValue (codeAny_builtin entry_len ?_))
  rw [Around.under_plainId plain_len _]
  refine wpAny_mono (dom_len_body (Q := fun r s' => r = .int vs.size (s.toks + 1) ∧ s' = { s with toks := s.toks + 1 + 1 }) X ho hz ⟨rfl, rfl⟩) (fun fin s' h' => ?_) fun _ _ e => e
  obtain ⟨r, rfl, rfl, rfl⟩ := h'
  exact wpAny_pure (hne ▸ h)
theorem dom_contains {x : Value} (e : Value → Bool) {Q : Bool → Shared → Prop} (X : (KS w.params).In s.heap) (ho : s.heap.get? a = some (domO d vs n)) (he : ∀ y, y ∈ vs → EqGives y x (e y)) (h : Q (vs.any e) s) :
    wpAny (model pw w) A (contains (.ref a) x) Q E s := by
  unfold contains
  refine wpAny_holding ?_
  have hs : stdlibNamesSay? (Value.ref a) x = none := by cases x <;> rfl
  rw [hs]
  refine wpAny_bind (wpAny_bind ((dom_type ho _).here ((looks_findIn X (find_contains _)).here ?_)))
  show wpAny _ A (if (some (Value.builtin "list.__contains__") == some Value.none) = true then _ else _) Q E s
  rw [if_neg (by simp)]
  refine wpAny_bind (m := callSpecialUnlessNone? (.ref a) "__contains__" [x] _) (wpAny_bind (wpAny_bind ((dom_type ho _).here ((looks_findIn X (find_contains _)).here (wpAny_holding ?_)))))
  rw [F.slot_list_contains.bind]
  refine wpAny_bind (wpAny_pure ?_)
  show wpAny _ A (if (Value.builtin "list.__contains__" == Value.none) = true then _ else _) _ _ _
  rw [if_neg (by simp)]
  exact wpAny_bind (call_dom (nn := "__contains__") X ho (.inl (by decide +kernel)) (by decide +kernel) (F.args_list_contains_2 _ _) (by decide +kernel) F.entry_list_contains (m_contains a d vs n x e he) ⟨ho, wpAny_pure (wpAny_truthy_bool h)⟩)

theorem looks_seq264 (P : Params) (M : Model) (hM : M.w.params = P) {h : Heap} (X : (KS P).In h) : Looks M h (seqItemTypes.anyM fun n => isSubtype (.ref 264) (.type n)) false := Looks.of_peek X (by rw [hM]; kernel_rfl)
theorem dom_key {k : Value} {Q : Value → Shared → Prop} (X : (KS w.params).In s.heap) (ho : s.heap.get? a = some (domO d vs n)) (h : Q k s) : wpAny (model pw w) A (sequenceKey (.ref a) k "__getitem__") Q E s := by
  unfold sequenceKey
  refine wpAny_bind ((dom_type ho _).here ?_)
  refine wpAny_bind ((looks_seq264 w.params _ rfl X).here ?_)
  exact wpAny_pure h
theorem call_dom' {i nn : String} {b : Builtin} {rest : List Value} {Q : Value → Shared → Prop} (X : (KS w.params).In s.heap) (ho : s.heap.get? a = some (domO d vs n)) (hk : builtinKind i = some .slot ∨ builtinKind i = some .method)
    (hs : splitId i = some ("list", nn)) (ha : argsOk i ⟨.ref a :: rest, []⟩) (hp : plainId i = true) (hb : entryFor table i = some b)
    (hc : wpAny (model pw w) A.in1 (b ⟨.ref a :: rest, []⟩) (fun fin s' => ∃ v, fin = .done (.ret v) ∧ Q v s') E s) :
    wpAny (model pw w) A (call (.builtin i) (.ref a :: rest)) Q E s := by
  refine wpAny_call (codeAny_call_builtin hp hb (dom_check X ho hk hs ha (wpAny_mono hc (fun fin s' h' => ?_) fun _ _ h' => h')))
  obtain ⟨v, rfl, hv⟩ := h'; exact hv
theorem dom_slice {sl : Addr} {vl : Value} {lo : Option Int} {Q : Value → Shared → Prop} (X : (KS w.params).In s.heap) (ho : s.heap.get? a = some (domO d vs n)) (hz : vs.size ≤ 1000)
    (hs : s.heap.IsSliceOf sl vl .none .none) (pl : IsPart vl lo) (h : Q (.ref s.heap.objs.size) { s with heap := s.heap.push { cls := .type "list", data := .seq (slicePick vs lo none none) } }) :
    wpAny (model pw w) A (getItem (.ref a) (.ref sl)) Q E s := by
  obtain ⟨os, hos, hcs, hds⟩ := id hs
  have hTs : s.TypeIs (.ref sl) "slice" := ⟨os, hos, hcs⟩
  unfold getItem
  refine wpAny_holding (wpAny_bind (dom_key X ho ?_))
  refine wpAny_bind (m := callSpecial? (.ref a) "__getitem__" [.ref sl]) (dom_special X ho (find_getitem _) slot_list_getitem
    (call_dom' (nn := "__getitem__") X ho (.inr (by decide +kernel)) (by decide +kernel) (args_list_getitem _ _) (by decide +kernel) entry_list_getitem ?_))
  show wpAny _ _ (Builtin.List.listSubscript? (.ref sl) >>= _) _ _ s
  refine wpAny_bind ?_
  unfold Builtin.List.listSubscript?
  refine wpAny_bind (wpAny_specialOf hTs slice_no_index ?_)
  simp only [Option.isNone_none, if_true]
  refine wpAny_pure ?_
  show wpAny _ _ (typeOf (.ref sl) >>= _) _ _ s
  refine wpAny_bind (wpAny_typeOf hTs ?_)
  rw [if_neg (by decide)]
  rw [listSliceParts_eq]
  refine wpAny_bind (wpAny_bind (wpAny_field hos hds (x := .none) rfl (wpAny_bind (wpAny_listPart .none ?_))))
  rw [if_neg (by decide)]
  refine wpAny_bind (wpAny_field hos hds (x := vl) rfl (wpAny_bind (wpAny_listPart pl ?_)))
  refine wpAny_bind (wpAny_field hos hds (x := .none) rfl (wpAny_bind (wpAny_listPart .none (wpAny_pure ?_))))
  refine wpAny_bind (m := Builtin.List.listItems (.ref a)) ?_
  unfold Builtin.List.listItems
  refine wpAny_bind (wpAny_seqItems ho rfl (wpAny_pure ?_))
  refine wpAny_bind (wpAny_of_eq (sliceIndices_raw lo none none vs.size (by simp)) ?_)
  refine wpAny_bind (wpAny_newObj_type (wpAny_pure ⟨_, rfl, wpAny_pure h⟩) (Nat.le_trans (slicePick_size_le vs lo none none) (Nat.le_trans hz (by decide))))
end
end
end Mine
set_option maxRecDepth 100000
namespace Mine
noncomputable section
open PySem PySem.W PyProof.Rows
open MeetsSeq SeqAt
variable {c : Cx} {k : FC} {f : FA} {fa : List FA} {φ : List Addr} {σ σ' τ : AS} {s s' : Shared} {A : Around} {o : Scope} {b : Bool} {env : Env}

theorem size_eq {P : AV → Value → Prop} {xs : List AV} {vs : Array Value} (h : All2 P xs vs.toList) : vs.size = xs.length := by rw [h.length]; simp
theorem empty_eq {P : AV → Value → Prop} {xs : List AV} {vs : Array Value} (h : All2 P xs vs.toList) : vs.isEmpty = nul xs := by
  rw [nul_isEmpty]
  have := h.length
  rcases vs with ⟨l⟩
  cases l <;> cases xs <;> simp at this ⊢
theorem ok_truthy (B : Base c k) {v : AV} {t : Bool} (h : truthy v σ = some t) {u : Value} (hv : VR c φ v u) : Ok c fa A (PySem.truthy u) φ σ σ fun _ x => x = t := by
  intro Q E s r q
  have q' := fun tk => q φ { s with toks := tk } t (List.prefix_refl _) (r.toks tk) rfl
  cases v with
  | none => cases h; obtain rfl := hv; exact wpAny_pure (q' s.toks)
  | bool x => cases h; obtain rfl := hv; exact wpAny_truthy_bool (q' s.toks)
  | int i =>
    cases h; obtain ⟨t, rfl⟩ := hv
    refine P.truthy_int ?_
    have : (i != 0) = !decide (i = 0) := by by_cases e : i = 0 <;> simp [e]
    rw [this]; exact q' s.toks
  | ref i =>
    obtain ⟨x, hx, h⟩ := ob_eq h
    obtain ⟨a, ha, rfl⟩ := hv
    obtain ⟨a', ha', ho⟩ := r.obj i x hx
    rw [ha] at ha'; cases ha'
    cases x with
    | list xs =>
      cases h
      obtain ⟨hl, vs, n, e, hvs⟩ := ho
      refine wpAny_truthy_list (seq_list e) (by rw [size_eq hvs]; omega) ?_
      rw [empty_eq hvs]; exact q' _
    | dom d xs =>
      cases h
      obtain ⟨hl, b, vs, n, _, e, hvs⟩ := ho
      refine dom_truthy (r.ks B) e (by rw [size_eq hvs]; exact hl) ?_
      rw [empty_eq hvs]; exact q' _
    | dict es =>
      cases h
      obtain ⟨hl, kvs, e, hk⟩ := ho
      refine wpAny_truthy_dict (r.notSys B ha) e (by rw [← hk.length]; omega) ?_
      have : kvs.isEmpty = nul es := by rw [nul_isEmpty]; have := hk.length; cases kvs <;> cases es <;> simp at this ⊢
      rw [this]; exact q' _
    | fdict es =>
      cases h
      obtain ⟨hl, kvs, e, hk⟩ := ho
      refine wpAny_truthy_dict (r.notSys B ha) e (by rw [← hk.length]; omega) ?_
      have : kvs.isEmpty = nul es := by rw [nul_isEmpty]; have := hk.length; cases kvs <;> cases es <;> simp at this ⊢
      rw [this]; exact q' _
    | _ => cases h
  | _ => cases h

/-! ### the letters' polynomials -/
def ML.den (ρ : Nat → Int) : ML → Int
  | .k i => i
  | .v n lo hi => lo.den ρ + (ρ n).fmod 2001 * hi.den ρ
theorem ML.isZero_den (ρ : Nat → Int) : ∀ {a : ML}, a.isZero = true → a.den ρ = 0
  | .k i, h => by exact of_decide_eq_true h
  | .v .., h => by cases h
theorem ML.mk_den (ρ : Nat → Int) (n : Nat) (lo hi : ML) : (ML.mk n lo hi).den ρ = lo.den ρ + (ρ n).fmod 2001 * hi.den ρ := by
  unfold ML.mk
  cases e : hi.isZero with
  | true => rw [ML.isZero_den ρ e]; simp [br_true]
  | false => rfl
theorem ML.add_den (ρ : Nat → Int) : ∀ (f : Nat) (a b r : ML), ML.add f a b = some r → r.den ρ = a.den ρ + b.den ρ
  | 0, _, _, _, h => by cases h
  | _ + 1, .k i, .k j, r, h => by cases h; rfl
  | f + 1, .k i, .v n lo hi, r, h => by
    obtain ⟨l, hl, h⟩ := ob_eq h
    cases h
    have := ML.add_den ρ f _ _ _ hl
    simp only [ML.den] at this ⊢; rw [this]; exact (Int.add_assoc _ _ _)
  | f + 1, .v n lo hi, .k i, r, h => by
    obtain ⟨l, hl, h⟩ := ob_eq h
    cases h
    have := ML.add_den ρ f _ _ _ hl
    simp only [ML.den] at this ⊢; rw [this]; exact Int.add_right_comm _ _ _
  | f + 1, .v n lo hi, .v m lo' hi', r, h => by
    have h : br (Nat.blt n m) (ob (ML.add f lo (.v m lo' hi')) fun l => some (ML.v n l hi))
      (br (Nat.beq n m) (ob (ML.add f lo lo') fun l => ob (ML.add f hi hi') fun h => some (ML.mk n l h)) (ob (ML.add f (.v n lo hi) lo') fun l => some (ML.v m l hi'))) = some r := h
    cases e : Nat.blt n m with
    | true =>
      rw [e] at h
      obtain ⟨l, hl, h⟩ := ob_eq h
      cases h
      have := ML.add_den ρ f _ _ _ hl
      simp only [ML.den] at this ⊢; rw [this]; exact Int.add_right_comm _ _ _
    | false =>
      rw [e] at h
      cases e' : Nat.beq n m with
      | true =>
        rw [e'] at h
        obtain ⟨l, hl, h⟩ := ob_eq h
        obtain ⟨g, hg, h⟩ := ob_eq h
        cases h
        have h1 := ML.add_den ρ f _ _ _ hl
        have h2 := ML.add_den ρ f _ _ _ hg
        cases nbeq e'
        rw [ML.mk_den]; simp only [ML.den]; rw [h1, h2, Int.mul_add]; omega
      | false =>
        rw [e'] at h
        obtain ⟨l, hl, h⟩ := ob_eq h
        cases h
        have := ML.add_den ρ f _ _ _ hl
        simp only [ML.den] at this ⊢; rw [this]; exact Int.add_assoc _ _ _
theorem ML.scale_den (ρ : Nat → Int) (i : Int) : ∀ a : ML, (a.scale i).den ρ = i * a.den ρ
  | .k j => rfl
  | .v n lo hi => by
    have h1 := ML.scale_den ρ i lo
    have h2 := ML.scale_den ρ i hi
    simp only [ML.scale, ML.den]; rw [h1, h2, Int.mul_add, Int.mul_left_comm]
theorem ML.scaleZ_den (ρ : Nat → Int) (i : Int) (a : ML) : (a.scaleZ i).den ρ = i * a.den ρ := by
  unfold ML.scaleZ
  cases e : decide (i = 0) with
  | true => cases of_decide_eq_true e; show (0 : Int) = _; simp
  | false => exact ML.scale_den ρ i a
theorem ML.mul_den (ρ : Nat → Int) : ∀ (f : Nat) (a b r : ML), ML.mul f a b = some r → r.den ρ = a.den ρ * b.den ρ
  | 0, _, _, _, h => by cases h
  | _ + 1, .k i, b, r, h => by cases h; exact ML.scaleZ_den ρ i b
  | f + 1, .v n lo hi, .k i, r, h => by
    cases h
    rw [ML.scaleZ_den]; exact Int.mul_comm _ _
  | f + 1, .v n lo hi, .v m lo' hi', r, h => by
    have h : br (Nat.blt n m) (ob (ML.mul f lo (.v m lo' hi')) fun a => ob (ML.mul f hi (.v m lo' hi')) fun b => some (ML.mk n a b))
      (br (Nat.beq n m) none (ob (ML.mul f (.v n lo hi) lo') fun a => ob (ML.mul f (.v n lo hi) hi') fun b => some (ML.mk m a b))) = some r := h
    cases e : Nat.blt n m with
    | true =>
      rw [e] at h
      obtain ⟨l, hl, h⟩ := ob_eq h
      obtain ⟨g, hg, h⟩ := ob_eq h
      cases h
      have h1 := ML.mul_den ρ f _ _ _ hl
      have h2 := ML.mul_den ρ f _ _ _ hg
      rw [ML.mk_den, h1, h2]; simp only [ML.den]; rw [Int.add_mul, Int.mul_assoc]
    | false =>
      rw [e] at h
      obtain ⟨_, h⟩ := br_none' (b := Nat.beq n m) h
      obtain ⟨l, hl, h⟩ := ob_eq h
      obtain ⟨g, hg, h⟩ := ob_eq h
      cases h
      have h1 := ML.mul_den ρ f _ _ _ hl
      have h2 := ML.mul_den ρ f _ _ _ hg
      rw [ML.mk_den, h1, h2]; simp only [ML.den]; rw [Int.mul_add, Int.mul_left_comm]
theorem SE.ml_den (ρ : Nat → Int) : ∀ {e : SE} {p : ML}, e.ml = some p → p.den ρ = e.den ρ
  | .c i, p, h => by cases h; rfl
  | .at _, p, h => by cases h
  | .res n, p, h => by cases h; simp [ML.den, SE.den]
  | .add a b, p, h => by
    obtain ⟨x, hx, h⟩ := ob_eq h
    obtain ⟨y, hy, h⟩ := ob_eq h
    rw [ML.add_den ρ _ _ _ _ h, SE.ml_den ρ hx, SE.ml_den ρ hy]; rfl
  | .sub a b, p, h => by
    obtain ⟨x, hx, h⟩ := ob_eq h
    obtain ⟨y, hy, h⟩ := ob_eq h
    rw [ML.add_den ρ _ _ _ _ h, ML.scale_den, SE.ml_den ρ hx, SE.ml_den ρ hy]; show _ = a.den ρ - b.den ρ; omega
  | .mul a b, p, h => by
    obtain ⟨x, hx, h⟩ := ob_eq h
    obtain ⟨y, hy, h⟩ := ob_eq h
    rw [ML.mul_den ρ _ _ _ _ h, SE.ml_den ρ hx, SE.ml_den ρ hy]; rfl
theorem ML.beq_eq (a : ML) : ∀ {b : ML}, ML.beq a b = true → a = b := by
  induction a with
  | k i =>
    intro b h
    cases b with
    | k j => cases of_decide_eq_true h; rfl
    | v _ _ _ => cases h
  | v n x y ih1 ih2 =>
    intro b h
    cases b with
    | k j => cases h
    | v m z w =>
      have h : br (Nat.beq n m) (br (ML.beq x z) (ML.beq y w) false) false = true := h
      cases e : Nat.beq n m with
      | false => rw [e] at h; cases h
      | true =>
        rw [e] at h
        cases e' : ML.beq x z with
        | false => rw [e'] at h; cases h
        | true =>
          rw [e'] at h
          rw [nbeq e, ih1 e', ih2 h]

/-! ### comparisons -/
theorem cmpSe_ok {x y : AV} {b : Bool} (h : cmpSe x y = some b) {u w : Value} (hx : VR c φ x u) (hy : VR c φ y w) : ∃ i t t', u = .int i t ∧ w = .int i t' ∧ b = true := by
  obtain ⟨p, hp, h⟩ := ob_eq h
  obtain ⟨q, hq, h⟩ := ob_eq h
  obtain ⟨m, hm, h⟩ := ob_eq h
  obtain ⟨n, hn, h⟩ := ob_eq h
  obtain ⟨e, h⟩ := br_none h
  cases h
  obtain ⟨t, rfl⟩ := se_val hp hx
  obtain ⟨t', rfl⟩ := se_val hq hy
  have := SE.ml_den c.ρ hm
  rw [ML.beq_eq _ e, SE.ml_den c.ρ hn] at this
  exact ⟨_, t, t', rfl, by rw [this], rfl⟩
theorem cmpEq_ok {x y : AV} {b : Bool} (h : cmpEq x y = some b) {u w : Value} (hx : VR c φ x u) (hy : VR c φ y w) : ∃ i j t t', u = .int i t ∧ w = .int j t' ∧ b = (i == j) := by
  have se : cmpSe x y = some b → ∃ i j t t', u = .int i t ∧ w = .int j t' ∧ b = (i == j) := fun h => by
    obtain ⟨i, t, t', e1, e2, rfl⟩ := cmpSe_ok h hx hy
    exact ⟨i, i, t, t', e1, e2, by simp⟩
  unfold cmpEq at h
  cases e : isInt x with
  | none => rw [e] at h; exact se h
  | some i =>
    rw [e] at h
    cases e' : isInt y with
    | none => rw [e'] at h; exact se h
    | some j =>
      rw [e'] at h
      cases h
      obtain rfl := isInt_eq e
      obtain rfl := isInt_eq e'
      obtain ⟨t, rfl⟩ := hx
      obtain ⟨t', rfl⟩ := hy
      exact ⟨i, j, t, t', rfl, rfl, rfl⟩
/-- the ints of a list -/
def isK (k : Int) : Value → Bool
  | .int i _ => i == k
  | _ => false
theorem intIn_ok {k : Int} : ∀ {xs : List AV} {vs : List Value} {b : Bool}, intIn k xs = some b → All2 (VR c φ) xs vs → vs.any (isK k) = b ∧ ∀ v ∈ vs, ∃ i t, v = .int i t
  | [], _, b, h, .nil => by cases h; exact ⟨rfl, fun v hv => by cases hv⟩
  | x :: xs, v :: vs, b, h, .cons h1 h2 => by
    obtain ⟨i, hi, h3⟩ := ob_eq h
    obtain rfl := isInt_eq hi
    obtain ⟨t, rfl⟩ := h1
    obtain ⟨b', hb, h4⟩ := ob_eq h3
    obtain ⟨p, q⟩ := intIn_ok hb h2
    cases h4
    refine ⟨?_, fun z hv => ?_⟩
    · rw [List.any_cons, p]
      show ((i == k) || b') = br (decide (i = k)) true b'
      rw [show (i == k) = decide (i = k) from rfl]
      cases decide (i = k) <;> rfl
    · rcases List.mem_cons.mp hv with rfl | hv
      · exact ⟨i, t, rfl⟩
      · exact q z hv
theorem eqK {k : Int} {t : Tok} {v : Value} (h : ∃ i t, v = .int i t) : EqGives v (.int k t) (isK k v) := by
  obtain ⟨i, t', rfl⟩ := h; exact EqGives.int i k t' t
/-- the ints that stand at a list -/
def intOf : Value → Int
  | .int i _ => i
  | _ => 0
def readObj : Option Obj → List Int
  | some ⟨_, _, .seq vs _, _⟩ => vs.toList.map intOf
  | _ => []
def readInts (h : Heap) : Value → List Int
  | .ref a => readObj (h.get? a)
  | _ => []
theorem intsOf_ok : ∀ {xs : List AV} {vs : List Value} {l : List Int}, intsOf xs = some l → All2 (VR c φ) xs vs → vs.map intOf = l ∧ ∀ v ∈ vs, ∃ i t, v = .int i t
  | [], _, b, h, .nil => by cases h; exact ⟨rfl, fun v hv => by cases hv⟩
  | x :: xs, v :: vs, b, h, .cons h1 h2 => by
    obtain ⟨i, hi, h3⟩ := ob_eq h
    obtain rfl := isInt_eq hi
    obtain ⟨t, rfl⟩ := h1
    obtain ⟨l, hl, h4⟩ := ob_eq h3
    obtain ⟨p, q⟩ := intsOf_ok hl h2
    cases h4
    refine ⟨by rw [List.map_cons, p]; rfl, fun z hv => ?_⟩
    rcases List.mem_cons.mp hv with rfl | hv
    · exact ⟨i, t, rfl⟩
    · exact q z hv
theorem lsEq_eq : ∀ (a b : List Int), lsEq a b = decide (a = b)
  | [], [] => by simp [lsEq]
  | [], _ :: _ => by simp [lsEq]
  | _ :: _, [] => by simp [lsEq]
  | x :: r, y :: s => by
    show br (decide (x = y)) (lsEq r s) false = _
    rw [lsEq_eq r s]
    by_cases e : x = y <;> simp [e, br_true, br_false]

theorem lkI_ok {es : List (Int × AV)} {kvs : List (Int × Value)} (h : KV c φ es kvs) (k : Int) : match lkI k es with | some v => ∃ u, valueAt kvs k = some u ∧ VR c φ v u | none => valueAt kvs k = none := by
  induction h with
  | nil => rfl
  | @cons e p es kvs h1 h2 ih =>
    obtain ⟨i, v⟩ := e
    obtain ⟨i', u⟩ := p
    obtain ⟨h3, h4⟩ := h1
    cases h3
    show match br (decide (i = k)) (some v) (lkI k es) with | some v => ∃ u', valueAt ((i, u) :: kvs) k = some u' ∧ VR c φ v u' | none => valueAt ((i, u) :: kvs) k = none
    by_cases e : i = k
    · subst e
      rw [show decide (i = i) = true by simp]
      exact ⟨u, by simp [valueAt], h4⟩
    · rw [show decide (i = k) = false by simp [e]]
      have : valueAt ((i, u) :: kvs) k = valueAt kvs k := by simp [valueAt, e]
      show match lkI k es with | some v => ∃ u', valueAt ((i, u) :: kvs) k = some u' ∧ VR c φ v u' | none => valueAt ((i, u) :: kvs) k = none
      rw [this]; exact ih
theorem is_refs {a d : Addr} {oa od : Obj} {E : Value → Shared → Prop} {Q : Bool → Shared → Prop} {M : Model} (hne : a ≠ d) (h1 : s.heap.get? a = some oa) (h2 : s.heap.get? d = some od) (hc : oa.cls ≠ .type "tuple") (h : Q false s) :
    wpAny M A (isSame (.ref a) (.ref d)) Q E s := by
  unfold isSame
  have : (a == d) = false := by simpa using hne
  simp only [this, Bool.false_eq_true, if_false]
  refine wpAny_bind (wpAny_load h1 (wpAny_bind (wpAny_load h2 ?_)))
  split
  · rename_i e _ _ _; exact absurd e hc
  · exact wpAny_pure h
theorem is_self {a : Addr} {E : Value → Shared → Prop} {Q : Bool → Shared → Prop} {M : Model} (h : Q true s) : wpAny M A (isSame (.ref a) (.ref a)) Q E s := by
  unfold isSame
  simp only [beq_self_eq_true, if_true]
  exact wpAny_pure h
theorem ok_is {x y : AV} {t : Bool} (h : sameAV x y σ = some t) {u w : Value} (hx : VR c φ x u) (hy : VR c φ y w) : Ok c fa A (isSame u w) φ σ σ fun _ z => z = t := by
  intro Q E s r q
  have q' := q φ s t (List.prefix_refl _) r rfl
  unfold sameAV at h
  split at h
  · rename_i i j
    obtain ⟨a, ha, rfl⟩ := hx
    obtain ⟨d, hd, rfl⟩ := hy
    cases e : Nat.beq i j with
    | true =>
      rw [e] at h; cases h
      cases nbeq e
      rw [ha] at hd; cases hd
      exact is_self q'
    | false =>
      rw [e] at h
      obtain ⟨p, hp, h⟩ := ob_eq h
      obtain ⟨p', hp', h⟩ := ob_eq h
      cases h
      obtain ⟨ob1, g1, e1⟩ := ob_eq hp
      obtain ⟨ob2, g2, e2⟩ := ob_eq hp'
      cases ob1 <;> try cases e1
      cases ob2 <;> try cases e2
      obtain ⟨a', ha', b1, _, o1⟩ := r.obj _ _ g1
      obtain ⟨d', hd', b2, _, o2⟩ := r.obj _ _ g2
      rw [ha] at ha'; cases ha'
      rw [hd] at hd'; cases hd'
      refine is_refs (fun e' => nbne e (nodup_get r.nodφ ha (e' ▸ hd))) o1 o2 (by intro e; cases e) q'
  · cases h
    obtain ⟨t, rfl⟩ := hx
    obtain rfl := hy
    exact wpAny_pure q'
  · rename_i i j
    obtain ⟨e, h⟩ := br_none h
    cases h
    cases nbeq e
    obtain rfl := hx
    obtain rfl := hy
    exact is_self q'
  · cases h
/-- membership -/
theorem any_list {vs : Array Value} (p : Value → Bool) : vs.any p = vs.toList.any p := by rw [Array.any_toList]
def inT (neg : Bool) : CmpOp := if neg then .NotIn else .In
theorem listIn_ok (r : R c fa φ σ s) (hu : A.units < 9000) {j : Addr} {ys : List Int} {xs : Array Value} (hx : s.heap.IsList j xs) (hxi : xs.toList.map intOf = ys) (hxk : ∀ v ∈ xs.toList, ∃ i t, v = .int i t) :
    ∀ {zs : List AV} {vs : List Value} {b : Bool}, listIn σ ys zs = some b → All2 (VR c φ) zs vs → (vs.any fun v => decide (readInts s.heap v = ys)) = b ∧ ∀ v ∈ vs, EqAt A s v (.ref j) (decide (readInts s.heap v = ys))
  | [], _, b, h, .nil => by cases h; exact ⟨rfl, fun v hv => by cases hv⟩
  | z :: zs, v :: vs, b, h, .cons h1 h2 => by
    obtain ⟨i, hi, h3⟩ := ob_eq h
    obtain rfl := isRef_eq hi
    obtain ⟨a, ha, rfl⟩ := h1
    obtain ⟨xs', hxs, h4⟩ := ob_eq h3
    obtain ⟨l, hl, h5⟩ := ob_eq h4
    obtain ⟨b', hb, h6⟩ := ob_eq h5
    obtain ⟨p, q⟩ := listIn_ok r hu hx hxi hxk hb h2
    cases h6
    obtain ⟨ob1, g1, e1⟩ := ob_eq hxs
    cases ob1 <;> try cases e1
    obtain ⟨a', ha', _, ws, n, hw, hws⟩ := r.obj _ _ g1
    rw [ha] at ha'; cases ha'
    obtain ⟨m1, m2⟩ := intsOf_ok hl hws
    have hr : readInts s.heap (.ref a) = l := by show readObj (s.heap.get? a) = l; rw [hw]; exact m1
    refine ⟨?_, fun y hv => ?_⟩
    · rw [List.any_cons, p, hr, lsEq_eq]
      show _ = br (decide (l = ys)) true b'
      cases decide (l = ys) <;> rfl
    · rcases List.mem_cons.mp hv with rfl | hv
      · rw [hr]
        by_cases haj : a = j
        · subst haj
          obtain ⟨o, ho, hc, n', hd⟩ := hx
          rw [hw] at ho; cases ho
          cases hd
          rw [show decide (l = ys) = true by rw [← m1, ← hxi]; simp]
          exact EqAt.same _
        · refine EqAt.of_refs haj ?_
          by_cases hsz : ws.size = xs.size
          · have hl2 : (List.range ws.size).all (fun n => decide ((l[n]?).getD 0 = (ys[n]?).getD 0)) = decide (l = ys) := by
              have e1 : l.length = ws.size := by rw [← m1]; simp
              have e2 : ys.length = ws.size := by rw [← hxi, hsz]; simp
              rw [Bool.eq_iff_iff, List.all_eq_true, decide_eq_true_iff]
              constructor
              · intro hall
                refine List.ext_getElem (by omega) fun n h1 h2 => ?_
                have := of_decide_eq_true (hall n (List.mem_range.mpr (by omega)))
                simpa [h1, h2] using this
              · rintro rfl n _; simp
            rw [← hl2]
            refine RcAt.lists (seq_list hw) hx hsz (by show A.units < 9900; omega) fun n h1 h2 => ?_
            obtain ⟨i1, t1, e1⟩ := m2 ws[n] (by simp)
            obtain ⟨i2, t2, e2⟩ := hxk xs[n] (by simp)
            have g1 : (l[n]?).getD 0 = i1 := by rw [← m1]; simp [h1, e1, intOf]
            have g2 : (ys[n]?).getD 0 = i2 := by rw [← hxi]; simp [h2, e2, intOf]
            rw [g1, g2, e1, e2]
            exact (EqGives.int i1 i2 t1 t2).at _ _
          · have : decide (l = ys) = false := by
              refine decide_eq_false fun e => hsz ?_
              have e1 : l.length = ws.size := by rw [← m1]; simp
              have e2 : ys.length = xs.size := by rw [← hxi]; simp
              rw [← e1, ← e2, e]
            rw [this]
            exact RcAt.lists_lengths (seq_list hw) hx (by simpa using hsz) (by show A.units < 9900; omega)
      · exact q y hv
theorem ok_in (B : Base c k) (hu : A.units < 8000) {x y : AV} {t : Bool} (h : isIn x y σ = some t) {u w : Value} (hx : VR c φ x u) (hy : VR c φ y w) (neg : Bool) : OkV c fa A (compareOp (inT neg) u w) φ σ σ (.bool (neg ^^ t)) := by
  intro Q E s r q
  have q' := fun tk => q φ { s with toks := tk } (.bool (neg ^^ t)) (List.prefix_refl _) (r.toks tk) rfl
  have bs : ∀ b : Bool, (true ^^ b) = !b := by decide
  have bf : ∀ b : Bool, (false ^^ b) = b := by decide
  cases x with
  | int i =>
    obtain ⟨tt, rfl⟩ := hx
    cases y with
    | st a =>
      obtain ⟨xs, h1, h2⟩ := ob_eq h
      obtain rfl := hy
      obtain ⟨vs, n, e, hvs⟩ := r.stTup B h1
      obtain ⟨p1, p2⟩ := intIn_ok h2 hvs
      rw [← any_list] at p1
      cases neg
      · exact in_tupleAt (isK i) (seq_tup e) (fun y hy => (eqK (p2 y (by simpa using hy))).at _ _) (by rw [p1]; have := q' s.toks; rw [bf] at this; exact this)
      · exact notIn_tupleAt (isK i) (seq_tup e) (fun y hy => (eqK (p2 y (by simpa using hy))).at _ _) (by rw [p1]; have := q' s.toks; rw [bs] at this; exact this)
    | ref j =>
      obtain ⟨ob1, g1, e1⟩ := ob_eq h
      obtain ⟨a, ha, rfl⟩ := hy
      obtain ⟨a', ha', ho⟩ := r.obj _ _ g1
      rw [ha] at ha'; cases ha'
      have dict : ∀ es kvs, t = some? (lkI i es) → s.heap.DictOf (intKind pw c.w) a kvs → KV c φ es kvs → wpAny (model pw c.w) A (compareOp (inT neg) (.int i tt) (.ref a)) Q E s := by
        intro es kvs ht hd hk
        have hf : (valueAt kvs i).isSome = t := by
          have := lkI_ok hk i
          rw [ht]
          cases e : lkI i es with
          | none => rw [e] at this; rw [this]; rfl
          | some v => rw [e] at this; obtain ⟨u, hu, _⟩ := this; rw [hu]; rfl
        have hkey : (intKind pw c.w).is i (.int i tt) = true := by show (i == i) = true; simp
        cases neg
        · refine wpAny_in_of hkey (r.notSys B ha) hd.mapOf ?_
          rw [hf]; have := q' (s.toks + 1); rw [bf] at this; exact this
        · refine wpAny_notIn_of hkey (r.notSys B ha) hd.mapOf ?_
          rw [hf]; have := q' (s.toks + 1); rw [bs] at this; exact this
      cases ob1 with
      | list xs =>
        obtain ⟨_, vs, n, e, hvs⟩ := ho
        obtain ⟨p1, p2⟩ := intIn_ok e1 hvs
        rw [← any_list] at p1
        cases neg
        · exact in_listAt (isK i) (seq_list e) (fun y hy => (eqK (p2 y (by simpa using hy))).at _ _) (by rw [p1]; have := q' s.toks; rw [bf] at this; exact this)
        · exact notIn_listAt (isK i) (seq_list e) (fun y hy => (eqK (p2 y (by simpa using hy))).at _ _) (by rw [p1]; have := q' s.toks; rw [bs] at this; exact this)
      | dom d xs =>
        obtain ⟨_, b, vs, n, _, e, hvs⟩ := ho
        obtain ⟨p1, p2⟩ := intIn_ok e1 hvs
        rw [← any_list] at p1
        cases neg
        · refine wpAny_bind (dom_contains (isK i) (r.ks B) e (fun y hy => eqK (p2 y (by simpa using hy))) (wpAny_pure ?_))
          rw [p1]; have := q' s.toks; rw [bf] at this; exact this
        · refine wpAny_bind (dom_contains (isK i) (r.ks B) e (fun y hy => eqK (p2 y (by simpa using hy))) (wpAny_pure ?_))
          rw [p1]; have := q' s.toks; rw [bs] at this; exact this
      | dict es => obtain ⟨_, kvs, hd, hk⟩ := ho; cases e1; exact dict es kvs rfl hd hk
      | fdict es => obtain ⟨_, kvs, hd, hk⟩ := ho; cases e1; exact dict es kvs rfl hd hk
      | _ => cases e1
    | _ => cases h
  | ref j =>
    cases y with
    | ref i =>
      obtain ⟨ys, hys, h2⟩ := ob_eq h
      obtain ⟨xs, hxs, h3⟩ := ob_eq h2
      obtain ⟨l, hl, h4⟩ := ob_eq h3
      obtain ⟨a, ha, rfl⟩ := hx
      obtain ⟨d, hd, rfl⟩ := hy
      obtain ⟨ob1, g1, e1⟩ := ob_eq hys
      cases ob1 <;> try cases e1
      obtain ⟨a', ha', _, ws, n, hw, hws⟩ := r.obj _ _ g1
      rw [ha] at ha'; cases ha'
      obtain ⟨ob2, g2, e2⟩ := ob_eq hxs
      cases ob2 <;> try cases e2
      obtain ⟨d', hd', _, vs, n', hv, hvs⟩ := r.obj _ _ g2
      rw [hd] at hd'; cases hd'
      obtain ⟨m1, m2⟩ := intsOf_ok hl hws
      obtain ⟨p1, p2⟩ := listIn_ok (A := A.in1) r (by show A.units + 1 < 9000; omega) (seq_list hw) m1 m2 h4 hvs
      rw [← any_list] at p1
      cases neg
      · exact in_listAt (fun v => decide (readInts s.heap v = l)) (seq_list hv) (fun y hy => p2 y (by simpa using hy)) (by rw [p1]; have := q' s.toks; rw [bf] at this; exact this)
      · exact notIn_listAt (fun v => decide (readInts s.heap v = l)) (seq_list hv) (fun y hy => p2 y (by simpa using hy)) (by rw [p1]; have := q' s.toks; rw [bs] at this; exact this)
    | _ => cases h
  | _ => cases h
theorem ok_cmp (B : Base c k) (hu : A.units < 8000) {op : COp} {x y : AV} {t : Bool} (h : cmpOp k op x y σ = some t) {u w : Value} (hx : VR c φ x u) (hy : VR c φ y w) : OkV c fa A (compareOp (copT op) u w) φ σ σ (.bool t) := by
  intro Q E s r q
  have q' := q φ s (.bool t) (List.prefix_refl _) r rfl
  cases op with
  | eq => obtain ⟨i, j, t1, t2, rfl, rfl, rfl⟩ := cmpEq_ok h hx hy; exact P.eq_int q'
  | ne =>
    obtain ⟨i, hi, h⟩ := ob_eq h
    obtain ⟨j, hj, h⟩ := ob_eq h
    cases h
    obtain rfl := isInt_eq hi
    obtain rfl := isInt_eq hj
    obtain ⟨t1, rfl⟩ := hx
    obtain ⟨t2, rfl⟩ := hy
    exact P.ne_int q'
  | lt =>
    replace h : cmpLt k x y = some t := h
    cases x with
    | int z =>
      cases z with
      | ofNat n =>
        cases y with
        | slen =>
          obtain ⟨e, h2⟩ := br_none h
          cases h2
          have e : n < 7 := Nat.le_of_ble_eq_true e
          obtain ⟨t1, rfl⟩ := hx
          obtain ⟨t2, rfl⟩ := hy
          refine P.lt_int ?_
          have : decide ((Int.ofNat n) < (c.n : Int)) = Nat.blt n k.ln := by
            rw [B.ln]
            by_cases l : n < c.n
            · rw [show decide ((Int.ofNat n) < (c.n : Int)) = true by simpa using l]; exact (Nat.ble_eq_true_of_le (show n + 1 ≤ min c.n 7 by omega)).symm
            · rw [show decide ((Int.ofNat n) < (c.n : Int)) = false by simpa using l]
              symm; refine Bool.eq_false_iff.mpr fun q => l ?_
              have := Nat.le_of_ble_eq_true q; omega
          rw [this]; exact q'
        | _ => cases h
      | negSucc n => cases h
    | _ => cases h
  | is => exact wpAny_bind (ok_is h hx hy _ E s r fun φ' s' a p r' e => by subst e; exact wpAny_pure (q φ' s' _ p r' rfl))
  | isnot =>
    obtain ⟨t', ht, h⟩ := ob_eq h
    cases h
    exact wpAny_bind (ok_is ht hx hy _ E s r fun φ' s' a p r' e => by subst e; exact wpAny_pure (q φ' s' _ p r' rfl))
  | isin => exact (ok_in B hu h hx hy false : OkV c fa A _ φ σ σ _) _ E s r fun φ' s' a p r' e => q φ' s' a p r' (by obtain rfl := e; cases t <;> rfl)
  | notin =>
    obtain ⟨t', ht, h⟩ := ob_eq h
    cases h
    exact (ok_in B hu ht hx hy true : OkV c fa A _ φ σ σ _) _ E s r fun φ' s' a p r' e => q φ' s' a p r' (by obtain rfl := e; cases t' <;> rfl)
end
end Mine
set_option maxRecDepth 100000
namespace Mine
noncomputable section
open PySem PySem.W PyProof.Rows MeetsSeq SeqAt
variable {c : Cx} {k : FC} {f : FA} {fa : List FA} {φ : List Addr} {σ σ' τ : AS} {s s' : Shared} {A : Around} {o : Scope} {b : Bool} {env : Env}

/-- how a value's class answers to [ ] -/
def GIP (c : Cx) (s : Shared) (u : Value) : Prop := ∀ (A : Around) (E : Value → Shared → Prop) (Q : Bool → Shared → Prop), Q false s → wpAny (model pw c.w) A (getitemInPython u) Q E s
theorem gip_type {T id : String} {u : Value} (hT : s.TypeIs u T) (hl : typeLookup (.type T) "__getitem__" = pure (some (.builtin id))) : GIP c s u := by
  intro A E Q q
  unfold getitemInPython
  exact wpAny_bind (wpAny_specialOf hT hl (wpAny_pure q))
theorem gip_dom {a d : Addr} {vs : Array Value} {n : Nat} (X : (KS c.w.params).In s.heap) (ho : s.heap.get? a = some (domO d vs n)) : GIP c s (.ref a) := by
  intro A E Q q
  unfold getitemInPython
  exact wpAny_bind (wpAny_bind ((dom_type ho _).here ((looks_findIn X (find_getitem _)).here (wpAny_pure q))))
theorem tup_getitem : ∃ id, typeLookup (.type "tuple") "__getitem__" = pure (some (.builtin id)) := ⟨_, F.slot_tuple_getitem.lookup⟩
theorem dict_getitem : ∃ id, typeLookup (.type "dict") "__getitem__" = pure (some (.builtin id)) := ⟨_, F.slot_dict_getitem.lookup⟩
theorem gip_list {a : Addr} {vs : Array Value} (h : s.heap.IsList a vs) : GIP c s (.ref a) := gip_type h.typeIs slot_list_getitem.lookup
theorem gip_tuple {a : Addr} {vs : Array Value} (h : s.heap.IsTuple a vs) : GIP c s (.ref a) := by
  obtain ⟨id, e⟩ := tup_getitem
  obtain ⟨o, ho, hc, _⟩ := h
  exact gip_type ⟨o, ho, hc⟩ e
theorem gip_dict {a : Addr} {kvs} (h : s.heap.DictOf (intKind pw c.w) a kvs) : GIP c s (.ref a) := by
  obtain ⟨id, e⟩ := dict_getitem
  obtain ⟨o, es, ep, ho, hx, _⟩ := h
  exact gip_type ⟨o, ho, hx.1⟩ e
def OkSub (c : Cx) (fa : List FA) (A : Around) (u w : Value) (φ : List Addr) (σ : AS) (v : AV) : Prop :=
  ∀ (Q : Value → Shared → Prop) (E : Value → Shared → Prop) (s : Shared), R c fa φ σ s → (∀ s' x, R c fa φ σ s' → VR c φ v x → Q x s') → GIP c s u ∧ wpAny (model pw c.w) A (getItem u w) Q E s
theorem item_tup {xs : List AV} {vs : Array Value} (hl : xs.length ≤ 1000) (hvs : All2 (VR c φ) xs vs.toList) {a : Addr} (ht : s.heap.IsTuple a vs) {i : Int} {t : Tok} {v : AV} (h : itemAt xs i = some v) {Q : Value → Shared → Prop} {E}
    (q : ∀ x, VR c φ v x → Q x s) : wpAny (model pw c.w) A (getItem (.ref a) (.int i t)) Q E s := by
  have hsz := size_eq hvs
  cases i with
  | ofNat n =>
    replace h : xs[n]? = some v := h
    obtain ⟨x, hx, hv⟩ := hvs.get? h
    rw [Array.getElem?_toList] at hx
    have hn : n < vs.size := (Array.getElem?_eq_some_iff.mp hx).1
    refine getItem_tuple (j := n) ht (by show -(2 ^ 63) ≤ (n : Int); omega) (by show (n : Int) < 2 ^ 63; omega) ?_ hx (q x hv)
    unfold seqIndex?
    have e1 : ¬ ((n : Int) < 0) := by omega
    have e2 : (decide ((0 : Int) ≤ n) && decide ((n : Int) < vs.size)) = true := by simp; exact hn
    show (if (decide (0 ≤ (if (n : Int) < 0 then (n : Int) + vs.size else n)) && decide ((if (n : Int) < 0 then (n : Int) + vs.size else n) < vs.size)) = true then some (if (n : Int) < 0 then (n : Int) + vs.size else n).toNat else none) = some n
    rw [if_neg e1, if_pos e2]; simp
  | negSucc n =>
    obtain ⟨hlt, h⟩ := br_none h
    have hlt : n < xs.length := Nat.le_of_ble_eq_true hlt
    obtain ⟨x, hx, hv⟩ := hvs.get? h
    rw [Array.getElem?_toList] at hx
    refine getItem_tuple (j := xs.length - (n + 1)) ht (by omega) (by omega) ?_ hx (q x hv)
    rw [MeetsSeq.seqIndex_neg (by omega) (by omega)]
    congr 1; omega
theorem ok_sub (B : Base c k) {x y v : AV} (h : subOp k x y σ = some v) {u w : Value} (hx : VR c φ x u) (hy : VR c φ y w) : OkSub c fa A u w φ σ v := by
  intro Q E s r q
  obtain ⟨i, hi, h2⟩ := ob_eq h
  obtain rfl := isInt_eq hi
  obtain ⟨tt, rfl⟩ := hy
  cases x with
  | st a =>
    obtain rfl := hx
    replace h2 : br (Nat.beq a 420) (scrAt k i) (ob (stTup a) fun xs => itemAt xs i) = some v := h2
    cases e : Nat.beq a 420 with
    | true =>
      rw [e] at h2
      cases nbeq e
      cases i with
      | ofNat n =>
        obtain ⟨hn, h3⟩ := br_none (b := Nat.blt n k.ln) (x := some (AV.sym (.at n))) h2
        cases h3
        have hn : n < k.ln := Nat.le_of_ble_eq_true hn
        obtain ⟨vs, m, hk, hsz, hvs⟩ := B.scr
        have hl := seq_list (r.keep _ _ hk)
        obtain ⟨t', ht⟩ := hvs n hn
        have := B.ln
        exact ⟨gip_list hl, wpAny_getItem_list hl (Int.natCast_nonneg n) (by show (n : Int) < 2 ^ 63; omega) (by simpa [SE.den] using ht) (q s _ r ⟨t', rfl⟩)⟩
      | negSucc n => cases h2
    | false =>
      rw [e] at h2
      obtain ⟨xs, h3, h4⟩ := ob_eq h2
      obtain ⟨vs, n, e, hvs⟩ := r.stTup B h3
      exact ⟨gip_tuple (seq_tup e), item_tup (tup_ok c.w.params a xs h3).1 hvs (seq_tup e) h4 fun x hv => q s x r hv⟩
  | ref j =>
    obtain ⟨ob1, g1, e1⟩ := ob_eq h2
    obtain ⟨a, ha, rfl⟩ := hx
    obtain ⟨a', ha', ho⟩ := r.obj _ _ g1
    rw [ha] at ha'; cases ha'
    have dict : ∀ es kvs, lkI i es = some v → s.heap.DictOf (intKind pw c.w) a kvs → KV c φ es kvs → GIP c s (.ref a) ∧ wpAny (model pw c.w) A (getItem (.ref a) (.int i tt)) Q E s := by
      intro es kvs hv hd hk
      have := lkI_ok hk i
      rw [hv] at this
      obtain ⟨u, hu, hvr⟩ := this
      exact ⟨gip_dict hd, wpAny_getItem_of (show (intKind pw c.w).is i (.int i tt) = true from by show (i == i) = true; simp) hd.mapOf hu (q _ u (r.toks _) hvr)⟩
    cases ob1 with
    | list xs =>
      obtain ⟨hl, vs, n, e, hvs⟩ := ho
      cases i with
      | ofNat m =>
        replace e1 : xs[m]? = some v := e1
        obtain ⟨x, hx, hv⟩ := hvs.get? e1
        have hm := (List.getElem?_eq_some_iff.mp e1).1
        rw [Array.getElem?_toList] at hx
        exact ⟨gip_list (seq_list e), wpAny_getItem_list (seq_list e) (Int.natCast_nonneg m) (by show (m : Int) < 2 ^ 63; omega) (by simpa using hx) (q s x r hv)⟩
      | negSucc m => cases e1
    | tup xs =>
      obtain ⟨hl, vs, n, e, hvs⟩ := ho
      exact ⟨gip_tuple (seq_tup e), item_tup hl hvs (seq_tup e) e1 fun x hv => q s x r hv⟩
    | dict es => obtain ⟨_, kvs, hd, hk⟩ := ho; exact dict es kvs e1 hd hk
    | fdict es => obtain ⟨_, kvs, hd, hk⟩ := ho; exact dict es kvs e1 hd hk
    | _ => cases e1
  | _ => cases h2

def sliceO (vl : Value) : Obj := { cls := .type "slice", data := .fields #[vl, .none, .none] }
def PartR (c : Cx) (φ : List Addr) : Option AV → Value → Prop
  | none, v => v = .none
  | some l, v => VR c φ l v
theorem cut_ok {xs ys : List AV} {vs : Array Value} {lo : Option AV} {vl : Value} (hvs : All2 (VR c φ) xs vs.toList) (h : cutAt xs lo = some ys) (hlo : PartR c φ lo vl) :
    ∃ p, IsPart vl p ∧ All2 (VR c φ) ys (slicePick vs p none none).toList := by
  cases lo with
  | none =>
    cases h
    obtain rfl := hlo
    exact ⟨none, .none, by rw [slicePick_all]; exact hvs⟩
  | some l =>
    replace h : cutN xs l = some ys := h
    cases l with
    | int z =>
      cases z with
      | negSucc n =>
        cases h
        obtain ⟨t, rfl⟩ := hlo
        refine ⟨_, .int _ t, ?_⟩
        rw [show (Int.negSucc n) = -((n + 1 : Nat) : Int) from rfl, slicePick_last vs (n + 1) (by omega), size_eq hvs]
        exact hvs.drop _
      | ofNat n => cases h
    | _ => cases h
theorem ok_slice (B : Base c k) {x v : AV} {lo : Option AV} (h : sliceOp x lo σ = some (v, σ')) {u vl : Value} (hx : VR c φ x u) (hlo : PartR c φ lo vl) {Q : Value → Shared → Prop} {E : Value → Shared → Prop} (r : R c fa φ σ s)
    (q : ∀ φ' s' y, φ <+: φ' → R c fa φ' σ' s' → VR c φ' v y → Q y s') :
    GIP c { s with heap := s.heap.push (sliceO vl) } u ∧ wpAny (model pw c.w) A (getItem u (.ref s.heap.objs.size)) Q E { s with heap := s.heap.push (sliceO vl) } := by
  obtain ⟨j, hj, h2⟩ := ob_eq h
  obtain ⟨xs, hxs, h3⟩ := ob_eq h2
  obtain ⟨ys, hys, h4⟩ := ob_eq h3
  obtain rfl := isRef_eq hj
  obtain ⟨a, ha, rfl⟩ := hx
  obtain ⟨rfl, rfl⟩ := ret_eq h4
  obtain ⟨ob1, g1, e1⟩ := ob_eq hxs
  have r1 := r.grow (grows_push s (sliceO vl))
  obtain ⟨a', ha', ho⟩ := r1.obj _ _ g1
  rw [ha] at ha'; cases ha'
  have hsl : (s.heap.push (sliceO vl)).IsSliceOf s.heap.objs.size vl .none .none := Heap.IsSliceOf.new ..
  have fin : ∀ (vs : Array Value) (p : Option Int), xs.length ≤ 1000 → All2 (VR c φ) xs vs.toList → IsPart vl p → All2 (VR c φ) ys (slicePick vs p none none).toList →
      Q (.ref (s.heap.push (sliceO vl)).objs.size) { s with heap := (s.heap.push (sliceO vl)).push { cls := .type "list", data := .seq (slicePick vs p none none) } } := by
    intro vs p hl hvs _ hy
    have hlen : ys.length ≤ 1000 := by
      have e1 := size_eq hy
      have e2 := slicePick_size_le vs p none none
      have e3 := size_eq hvs
      omega
    refine q (φ ++ [(s.heap.push (sliceO vl)).objs.size]) _ _ (List.prefix_append _ _) (r1.alloc (grows_push _ _) (Nat.le_refl _) (push_lt _ _) (o := .list ys) ⟨hlen, _, _, Heap.get?_push_size _ rfl, vrs_mono (List.prefix_append _ _) hy⟩ (fun d es n e => by rcases e with e | e <;> cases e)) ⟨_, ?_, rfl⟩
    rw [← r1.len]; simp
  cases ob1 with
  | list zs =>
    cases e1
    obtain ⟨hl, vs, n, e, hvs⟩ := ho
    obtain ⟨p, hp, hy⟩ := cut_ok hvs hys hlo
    exact ⟨gip_list (seq_list e), wpAny_getItem_list_slice (seq_list e) hsl hp .none .none (by simp) (fin vs p hl hvs hp hy) (by rw [size_eq hvs]; exact Nat.le_trans hl (by decide))⟩
  | dom d zs =>
    cases e1
    obtain ⟨hl, b, vs, n, _, e, hvs⟩ := ho
    obtain ⟨p, hp, hy⟩ := cut_ok hvs hys hlo
    exact ⟨gip_dom (r1.ks B) e, dom_slice (r1.ks B) e (by rw [size_eq hvs]; exact hl) hsl hp (fin vs p hl hvs hp hy)⟩
  | _ => cases e1
end
end Mine
set_option maxRecDepth 100000
namespace Mine
noncomputable section
open PySem PySem.W PyProof.Rows
/-! the defs, as they stand: printed by mkfn.py -/
def obA (P : Params) (a : Nat) : Obj := ((KS P).lookup a).getD default
def fdD : Data → FuncData
  | .func fd => fd
  | _ => default
def fdA (P : Params) (a : Nat) : FuncData := fdD (obA P a).data
structure FnD (P : Params) (a : Nat) (fi : FnI) : Prop where
  look : (KS P).lookup a = some (obA P a)
  data : (obA P a).data = .func (fdA P a)
  scope : (fdA P a).scope = scp fi.sc
  body : (fdA P a).body = .stmts (fi.body.map (trS 30))
  glo : (fdA P a).globals = 3
  bui : (fdA P a).builtins = 0
  clo : (fdA P a).closure = []
  code : codeIn (KS P) (fdA P a).code (fdA P a).qualname = true
  co : (scp fi.sc).isCoroutine = false
  kind : (scp fi.sc).kind = .function
structure BindsI (s : Shared) (fd : FuncData) (args : Args) (binds : List (Str × Value)) : Prop where
  b : BindsTo s fd args binds
theorem peek_binds {P : Params} {s : Shared} {fd : FuncData} {args : Args} {binds} (X : (KS P).In s.heap) (e : ∀ S, peek (KS P) S (bindArgs fd args) = some binds) : BindsI s fd args binds := ⟨fun M _ _ _ q => (Looks.of_peek (M := M) X (e _)).here q⟩
theorem bindFn_len {fi : FnI} {args : List AV} {f : FM} (h : bindFn fi args = some f) : args.length ≤ fi.params.length ∧ fi.params.length ≤ args.length + fi.dfl.length ∧
    f = frameOf fi.cells (zipN fi.params (args ++ fi.dfl.drop (fi.dfl.length - (fi.params.length - args.length)))) := by
  obtain ⟨h1, h⟩ := br_none h
  obtain ⟨h2, h⟩ := br_none h
  cases h
  exact ⟨Nat.le_of_ble_eq_true h1, Nat.le_of_ble_eq_true h2, rfl⟩
def BindR (c : Cx) (φ : List Addr) (bs : List (Nat × AV)) (binds : List (Str × Value)) : Prop := All2 (fun (p : Nat × AV) (q : Str × Value) => q.1 = nm p.1 ∧ VR c φ p.2 q.2) bs binds
variable {c : Cx} {φ : List Addr} {s : Shared}

def fi64 : FnI := ⟨[1, 2, 3], [], [], b_Problem_addVariable, 0⟩
theorem fd64 (P : Params) : FnD P 64 fi64 := ⟨by kernel_rfl, by kernel_rfl, by kernel_rfl, by kernel_rfl, by kernel_rfl, by kernel_rfl, by kernel_rfl, by kernel_rfl, by kernel_rfl, by kernel_rfl⟩
theorem bd64_3 {P : Params} (X : (KS P).In s.heap) (u0 u1 u2 : Value) : BindsI s (fdA P 64) ⟨[u0, u1, u2], []⟩ [(nm 1, u0), (nm 2, u1), (nm 3, u2)] := peek_binds X (fun _ => by kernel_rfl)
theorem bg64 (X : (KS c.w.params).In s.heap) {args : List AV} {f : FM} (h : bindFn fi64 args = some f) {us : List Value} (hv : All2 (VR c φ) args us) :
    ∃ bs binds, BindsI s (fdA c.w.params 64) ⟨us, []⟩ binds ∧ BindR c φ bs binds ∧ f = frameOf fi64.cells bs ∧ bs.map (·.1) = fi64.params := by
  obtain ⟨hA, hB, rfl⟩ := bindFn_len h
  have hA : args.length ≤ 3 := hA
  have hB : 3 ≤ args.length + 0 := hB
  cases hv with
  | nil =>
    exact absurd hB (by decide)
  | @cons a0 u0 _ _ h0 hv =>
    cases hv with
    | nil =>
      exact absurd hB (by simp)
    | @cons a1 u1 _ _ h1 hv =>
      cases hv with
      | nil =>
        exact absurd hB (by simp)
      | @cons a2 u2 _ _ h2 hv =>
        cases hv with
        | nil =>
          exact ⟨[(1, a0), (2, a1), (3, a2)], _, bd64_3 X u0 u1 u2, .cons ⟨rfl, h0⟩ (.cons ⟨rfl, h1⟩ (.cons ⟨rfl, h2⟩ .nil)), rfl, rfl⟩
        | cons _ _ => exact absurd hA (by simp)
def fi71 : FnI := ⟨[1, 13, 3], [], [], b_Problem_addVariables, 1⟩
theorem fd71 (P : Params) : FnD P 71 fi71 := ⟨by kernel_rfl, by kernel_rfl, by kernel_rfl, by kernel_rfl, by kernel_rfl, by kernel_rfl, by kernel_rfl, by kernel_rfl, by kernel_rfl, by kernel_rfl⟩
theorem bd71_3 {P : Params} (X : (KS P).In s.heap) (u0 u1 u2 : Value) : BindsI s (fdA P 71) ⟨[u0, u1, u2], []⟩ [(nm 1, u0), (nm 13, u1), (nm 3, u2)] := peek_binds X (fun _ => by kernel_rfl)
theorem bg71 (X : (KS c.w.params).In s.heap) {args : List AV} {f : FM} (h : bindFn fi71 args = some f) {us : List Value} (hv : All2 (VR c φ) args us) :
    ∃ bs binds, BindsI s (fdA c.w.params 71) ⟨us, []⟩ binds ∧ BindR c φ bs binds ∧ f = frameOf fi71.cells bs ∧ bs.map (·.1) = fi71.params := by
  obtain ⟨hA, hB, rfl⟩ := bindFn_len h
  have hA : args.length ≤ 3 := hA
  have hB : 3 ≤ args.length + 0 := hB
  cases hv with
  | nil =>
    exact absurd hB (by decide)
  | @cons a0 u0 _ _ h0 hv =>
    cases hv with
    | nil =>
      exact absurd hB (by simp)
    | @cons a1 u1 _ _ h1 hv =>
      cases hv with
      | nil =>
        exact absurd hB (by simp)
      | @cons a2 u2 _ _ h2 hv =>
        cases hv with
        | nil =>
          exact ⟨[(1, a0), (13, a1), (3, a2)], _, bd71_3 X u0 u1 u2, .cons ⟨rfl, h0⟩ (.cons ⟨rfl, h1⟩ (.cons ⟨rfl, h2⟩ .nil)), rfl, rfl⟩
        | cons _ _ => exact absurd hA (by simp)
def fi79 : FnI := ⟨[1, 15, 13], [.none], [], b_Problem_addConstraint, 2⟩
theorem fd79 (P : Params) : FnD P 79 fi79 := ⟨by kernel_rfl, by kernel_rfl, by kernel_rfl, by kernel_rfl, by kernel_rfl, by kernel_rfl, by kernel_rfl, by kernel_rfl, by kernel_rfl, by kernel_rfl⟩
theorem bd79_2 {P : Params} (X : (KS P).In s.heap) (u0 u1 : Value) : BindsI s (fdA P 79) ⟨[u0, u1], []⟩ [(nm 1, u0), (nm 15, u1), (nm 13, .none)] := peek_binds X (fun _ => by kernel_rfl)
theorem bd79_3 {P : Params} (X : (KS P).In s.heap) (u0 u1 u2 : Value) : BindsI s (fdA P 79) ⟨[u0, u1, u2], []⟩ [(nm 1, u0), (nm 15, u1), (nm 13, u2)] := peek_binds X (fun _ => by kernel_rfl)
theorem bg79 (X : (KS c.w.params).In s.heap) {args : List AV} {f : FM} (h : bindFn fi79 args = some f) {us : List Value} (hv : All2 (VR c φ) args us) :
    ∃ bs binds, BindsI s (fdA c.w.params 79) ⟨us, []⟩ binds ∧ BindR c φ bs binds ∧ f = frameOf fi79.cells bs ∧ bs.map (·.1) = fi79.params := by
  obtain ⟨hA, hB, rfl⟩ := bindFn_len h
  have hA : args.length ≤ 3 := hA
  have hB : 3 ≤ args.length + 1 := hB
  cases hv with
  | nil =>
    exact absurd hB (by decide)
  | @cons a0 u0 _ _ h0 hv =>
    cases hv with
    | nil =>
      exact absurd hB (by simp)
    | @cons a1 u1 _ _ h1 hv =>
      cases hv with
      | nil =>
        exact ⟨[(1, a0), (15, a1), (13, .none)], _, bd79_2 X u0 u1, .cons ⟨rfl, h0⟩ (.cons ⟨rfl, h1⟩ (.cons ⟨rfl, rfl⟩ .nil)), rfl, rfl⟩
      | @cons a2 u2 _ _ h2 hv =>
        cases hv with
        | nil =>
          exact ⟨[(1, a0), (15, a1), (13, a2)], _, bd79_3 X u0 u1 u2, .cons ⟨rfl, h0⟩ (.cons ⟨rfl, h1⟩ (.cons ⟨rfl, h2⟩ .nil)), rfl, rfl⟩
        | cons _ _ => exact absurd hA (by simp)
def fi93 : FnI := ⟨[1], [], [], b_Problem_getSolutions, 3⟩
theorem fd93 (P : Params) : FnD P 93 fi93 := ⟨by kernel_rfl, by kernel_rfl, by kernel_rfl, by kernel_rfl, by kernel_rfl, by kernel_rfl, by kernel_rfl, by kernel_rfl, by kernel_rfl, by kernel_rfl⟩
theorem bd93_1 {P : Params} (X : (KS P).In s.heap) (u0 : Value) : BindsI s (fdA P 93) ⟨[u0], []⟩ [(nm 1, u0)] := peek_binds X (fun _ => by kernel_rfl)
theorem bg93 (X : (KS c.w.params).In s.heap) {args : List AV} {f : FM} (h : bindFn fi93 args = some f) {us : List Value} (hv : All2 (VR c φ) args us) :
    ∃ bs binds, BindsI s (fdA c.w.params 93) ⟨us, []⟩ binds ∧ BindR c φ bs binds ∧ f = frameOf fi93.cells bs ∧ bs.map (·.1) = fi93.params := by
  obtain ⟨hA, hB, rfl⟩ := bindFn_len h
  have hA : args.length ≤ 1 := hA
  have hB : 1 ≤ args.length + 0 := hB
  cases hv with
  | nil =>
    exact absurd hB (by decide)
  | @cons a0 u0 _ _ h0 hv =>
    cases hv with
    | nil =>
      exact ⟨[(1, a0)], _, bd93_1 X u0, .cons ⟨rfl, h0⟩ .nil, rfl, rfl⟩
    | cons _ _ => exact absurd hA (by simp)
def fi107 : FnI := ⟨[1], [], [], b_Problem__getArgs, 4⟩
theorem fd107 (P : Params) : FnD P 107 fi107 := ⟨by kernel_rfl, by kernel_rfl, by kernel_rfl, by kernel_rfl, by kernel_rfl, by kernel_rfl, by kernel_rfl, by kernel_rfl, by kernel_rfl, by kernel_rfl⟩
theorem bd107_1 {P : Params} (X : (KS P).In s.heap) (u0 : Value) : BindsI s (fdA P 107) ⟨[u0], []⟩ [(nm 1, u0)] := peek_binds X (fun _ => by kernel_rfl)
theorem bg107 (X : (KS c.w.params).In s.heap) {args : List AV} {f : FM} (h : bindFn fi107 args = some f) {us : List Value} (hv : All2 (VR c φ) args us) :
    ∃ bs binds, BindsI s (fdA c.w.params 107) ⟨us, []⟩ binds ∧ BindR c φ bs binds ∧ f = frameOf fi107.cells bs ∧ bs.map (·.1) = fi107.params := by
  obtain ⟨hA, hB, rfl⟩ := bindFn_len h
  have hA : args.length ≤ 1 := hA
  have hB : 1 ≤ args.length + 0 := hB
  cases hv with
  | nil =>
    exact absurd hB (by decide)
  | @cons a0 u0 _ _ h0 hv =>
    cases hv with
    | nil =>
      exact ⟨[(1, a0)], _, bd107_1 X u0, .cons ⟨rfl, h0⟩ .nil, rfl, rfl⟩
    | cons _ _ => exact absurd hA (by simp)
def fi169 : FnI := ⟨[1, 23, 24, 25], [], [23, 25, 35, 2], b_BacktrackingSolver_getSolutionIter, 5⟩
theorem fd169 (P : Params) : FnD P 169 fi169 := ⟨by kernel_rfl, by kernel_rfl, by kernel_rfl, by kernel_rfl, by kernel_rfl, by kernel_rfl, by kernel_rfl, by kernel_rfl, by kernel_rfl, by kernel_rfl⟩
theorem bd169_4 {P : Params} (X : (KS P).In s.heap) (u0 u1 u2 u3 : Value) : BindsI s (fdA P 169) ⟨[u0, u1, u2, u3], []⟩ [(nm 1, u0), (nm 23, u1), (nm 24, u2), (nm 25, u3)] := peek_binds X (fun _ => by kernel_rfl)
theorem bg169 (X : (KS c.w.params).In s.heap) {args : List AV} {f : FM} (h : bindFn fi169 args = some f) {us : List Value} (hv : All2 (VR c φ) args us) :
    ∃ bs binds, BindsI s (fdA c.w.params 169) ⟨us, []⟩ binds ∧ BindR c φ bs binds ∧ f = frameOf fi169.cells bs ∧ bs.map (·.1) = fi169.params := by
  obtain ⟨hA, hB, rfl⟩ := bindFn_len h
  have hA : args.length ≤ 4 := hA
  have hB : 4 ≤ args.length + 0 := hB
  cases hv with
  | nil =>
    exact absurd hB (by decide)
  | @cons a0 u0 _ _ h0 hv =>
    cases hv with
    | nil =>
      exact absurd hB (by simp)
    | @cons a1 u1 _ _ h1 hv =>
      cases hv with
      | nil =>
        exact absurd hB (by simp)
      | @cons a2 u2 _ _ h2 hv =>
        cases hv with
        | nil =>
          exact absurd hB (by simp)
        | @cons a3 u3 _ _ h3 hv =>
          cases hv with
          | nil =>
            exact ⟨[(1, a0), (23, a1), (24, a2), (25, a3)], _, bd169_4 X u0 u1 u2 u3, .cons ⟨rfl, h0⟩ (.cons ⟨rfl, h1⟩ (.cons ⟨rfl, h2⟩ (.cons ⟨rfl, h3⟩ .nil))), rfl, rfl⟩
          | cons _ _ => exact absurd hA (by simp)
def fi183 : FnI := ⟨[1, 23, 24, 25], [], [], b_BacktrackingSolver_getSolutions, 8⟩
theorem fd183 (P : Params) : FnD P 183 fi183 := ⟨by kernel_rfl, by kernel_rfl, by kernel_rfl, by kernel_rfl, by kernel_rfl, by kernel_rfl, by kernel_rfl, by kernel_rfl, by kernel_rfl, by kernel_rfl⟩
theorem bd183_4 {P : Params} (X : (KS P).In s.heap) (u0 u1 u2 u3 : Value) : BindsI s (fdA P 183) ⟨[u0, u1, u2, u3], []⟩ [(nm 1, u0), (nm 23, u1), (nm 24, u2), (nm 25, u3)] := peek_binds X (fun _ => by kernel_rfl)
theorem bg183 (X : (KS c.w.params).In s.heap) {args : List AV} {f : FM} (h : bindFn fi183 args = some f) {us : List Value} (hv : All2 (VR c φ) args us) :
    ∃ bs binds, BindsI s (fdA c.w.params 183) ⟨us, []⟩ binds ∧ BindR c φ bs binds ∧ f = frameOf fi183.cells bs ∧ bs.map (·.1) = fi183.params := by
  obtain ⟨hA, hB, rfl⟩ := bindFn_len h
  have hA : args.length ≤ 4 := hA
  have hB : 4 ≤ args.length + 0 := hB
  cases hv with
  | nil =>
    exact absurd hB (by decide)
  | @cons a0 u0 _ _ h0 hv =>
    cases hv with
    | nil =>
      exact absurd hB (by simp)
    | @cons a1 u1 _ _ h1 hv =>
      cases hv with
      | nil =>
        exact absurd hB (by simp)
      | @cons a2 u2 _ _ h2 hv =>
        cases hv with
        | nil =>
          exact absurd hB (by simp)
        | @cons a3 u3 _ _ h3 hv =>
          cases hv with
          | nil =>
            exact ⟨[(1, a0), (23, a1), (24, a2), (25, a3)], _, bd183_4 X u0 u1 u2 u3, .cons ⟨rfl, h0⟩ (.cons ⟨rfl, h1⟩ (.cons ⟨rfl, h2⟩ (.cons ⟨rfl, h3⟩ .nil))), rfl, rfl⟩
          | cons _ _ => exact absurd hA (by simp)
def fi240 : FnI := ⟨[1], [], [], b_Domain_resetState, 9⟩
theorem fd240 (P : Params) : FnD P 240 fi240 := ⟨by kernel_rfl, by kernel_rfl, by kernel_rfl, by kernel_rfl, by kernel_rfl, by kernel_rfl, by kernel_rfl, by kernel_rfl, by kernel_rfl, by kernel_rfl⟩
theorem bd240_1 {P : Params} (X : (KS P).In s.heap) (u0 : Value) : BindsI s (fdA P 240) ⟨[u0], []⟩ [(nm 1, u0)] := peek_binds X (fun _ => by kernel_rfl)
theorem bg240 (X : (KS c.w.params).In s.heap) {args : List AV} {f : FM} (h : bindFn fi240 args = some f) {us : List Value} (hv : All2 (VR c φ) args us) :
    ∃ bs binds, BindsI s (fdA c.w.params 240) ⟨us, []⟩ binds ∧ BindR c φ bs binds ∧ f = frameOf fi240.cells bs ∧ bs.map (·.1) = fi240.params := by
  obtain ⟨hA, hB, rfl⟩ := bindFn_len h
  have hA : args.length ≤ 1 := hA
  have hB : 1 ≤ args.length + 0 := hB
  cases hv with
  | nil =>
    exact absurd hB (by decide)
  | @cons a0 u0 _ _ h0 hv =>
    cases hv with
    | nil =>
      exact ⟨[(1, a0)], _, bd240_1 X u0, .cons ⟨rfl, h0⟩ .nil, rfl, rfl⟩
    | cons _ _ => exact absurd hA (by simp)
def fi247 : FnI := ⟨[1], [], [], b_Domain_pushState, 10⟩
theorem fd247 (P : Params) : FnD P 247 fi247 := ⟨by kernel_rfl, by kernel_rfl, by kernel_rfl, by kernel_rfl, by kernel_rfl, by kernel_rfl, by kernel_rfl, by kernel_rfl, by kernel_rfl, by kernel_rfl⟩
theorem bd247_1 {P : Params} (X : (KS P).In s.heap) (u0 : Value) : BindsI s (fdA P 247) ⟨[u0], []⟩ [(nm 1, u0)] := peek_binds X (fun _ => by kernel_rfl)
theorem bg247 (X : (KS c.w.params).In s.heap) {args : List AV} {f : FM} (h : bindFn fi247 args = some f) {us : List Value} (hv : All2 (VR c φ) args us) :
    ∃ bs binds, BindsI s (fdA c.w.params 247) ⟨us, []⟩ binds ∧ BindR c φ bs binds ∧ f = frameOf fi247.cells bs ∧ bs.map (·.1) = fi247.params := by
  obtain ⟨hA, hB, rfl⟩ := bindFn_len h
  have hA : args.length ≤ 1 := hA
  have hB : 1 ≤ args.length + 0 := hB
  cases hv with
  | nil =>
    exact absurd hB (by decide)
  | @cons a0 u0 _ _ h0 hv =>
    cases hv with
    | nil =>
      exact ⟨[(1, a0)], _, bd247_1 X u0, .cons ⟨rfl, h0⟩ .nil, rfl, rfl⟩
    | cons _ _ => exact absurd hA (by simp)
def fi254 : FnI := ⟨[1], [], [], b_Domain_popState, 11⟩
theorem fd254 (P : Params) : FnD P 254 fi254 := ⟨by kernel_rfl, by kernel_rfl, by kernel_rfl, by kernel_rfl, by kernel_rfl, by kernel_rfl, by kernel_rfl, by kernel_rfl, by kernel_rfl, by kernel_rfl⟩
theorem bd254_1 {P : Params} (X : (KS P).In s.heap) (u0 : Value) : BindsI s (fdA P 254) ⟨[u0], []⟩ [(nm 1, u0)] := peek_binds X (fun _ => by kernel_rfl)
theorem bg254 (X : (KS c.w.params).In s.heap) {args : List AV} {f : FM} (h : bindFn fi254 args = some f) {us : List Value} (hv : All2 (VR c φ) args us) :
    ∃ bs binds, BindsI s (fdA c.w.params 254) ⟨us, []⟩ binds ∧ BindR c φ bs binds ∧ f = frameOf fi254.cells bs ∧ bs.map (·.1) = fi254.params := by
  obtain ⟨hA, hB, rfl⟩ := bindFn_len h
  have hA : args.length ≤ 1 := hA
  have hB : 1 ≤ args.length + 0 := hB
  cases hv with
  | nil =>
    exact absurd hB (by decide)
  | @cons a0 u0 _ _ h0 hv =>
    cases hv with
    | nil =>
      exact ⟨[(1, a0)], _, bd254_1 X u0, .cons ⟨rfl, h0⟩ .nil, rfl, rfl⟩
    | cons _ _ => exact absurd hA (by simp)
def fi261 : FnI := ⟨[1, 56], [], [], b_Domain_hideValue, 12⟩
theorem fd261 (P : Params) : FnD P 261 fi261 := ⟨by kernel_rfl, by kernel_rfl, by kernel_rfl, by kernel_rfl, by kernel_rfl, by kernel_rfl, by kernel_rfl, by kernel_rfl, by kernel_rfl, by kernel_rfl⟩
theorem bd261_2 {P : Params} (X : (KS P).In s.heap) (u0 u1 : Value) : BindsI s (fdA P 261) ⟨[u0, u1], []⟩ [(nm 1, u0), (nm 56, u1)] := peek_binds X (fun _ => by kernel_rfl)
theorem bg261 (X : (KS c.w.params).In s.heap) {args : List AV} {f : FM} (h : bindFn fi261 args = some f) {us : List Value} (hv : All2 (VR c φ) args us) :
    ∃ bs binds, BindsI s (fdA c.w.params 261) ⟨us, []⟩ binds ∧ BindR c φ bs binds ∧ f = frameOf fi261.cells bs ∧ bs.map (·.1) = fi261.params := by
  obtain ⟨hA, hB, rfl⟩ := bindFn_len h
  have hA : args.length ≤ 2 := hA
  have hB : 2 ≤ args.length + 0 := hB
  cases hv with
  | nil =>
    exact absurd hB (by decide)
  | @cons a0 u0 _ _ h0 hv =>
    cases hv with
    | nil =>
      exact absurd hB (by simp)
    | @cons a1 u1 _ _ h1 hv =>
      cases hv with
      | nil =>
        exact ⟨[(1, a0), (56, a1)], _, bd261_2 X u0 u1, .cons ⟨rfl, h0⟩ (.cons ⟨rfl, h1⟩ .nil), rfl, rfl⟩
      | cons _ _ => exact absurd hA (by simp)
def fi282 : FnI := ⟨[1, 58], [], [], b_Constraint___eq__, 13⟩
theorem fd282 (P : Params) : FnD P 282 fi282 := ⟨by kernel_rfl, by kernel_rfl, by kernel_rfl, by kernel_rfl, by kernel_rfl, by kernel_rfl, by kernel_rfl, by kernel_rfl, by kernel_rfl, by kernel_rfl⟩
theorem bd282_2 {P : Params} (X : (KS P).In s.heap) (u0 u1 : Value) : BindsI s (fdA P 282) ⟨[u0, u1], []⟩ [(nm 1, u0), (nm 58, u1)] := peek_binds X (fun _ => by kernel_rfl)
theorem bg282 (X : (KS c.w.params).In s.heap) {args : List AV} {f : FM} (h : bindFn fi282 args = some f) {us : List Value} (hv : All2 (VR c φ) args us) :
    ∃ bs binds, BindsI s (fdA c.w.params 282) ⟨us, []⟩ binds ∧ BindR c φ bs binds ∧ f = frameOf fi282.cells bs ∧ bs.map (·.1) = fi282.params := by
  obtain ⟨hA, hB, rfl⟩ := bindFn_len h
  have hA : args.length ≤ 2 := hA
  have hB : 2 ≤ args.length + 0 := hB
  cases hv with
  | nil =>
    exact absurd hB (by decide)
  | @cons a0 u0 _ _ h0 hv =>
    cases hv with
    | nil =>
      exact absurd hB (by simp)
    | @cons a1 u1 _ _ h1 hv =>
      cases hv with
      | nil =>
        exact ⟨[(1, a0), (58, a1)], _, bd282_2 X u0 u1, .cons ⟨rfl, h0⟩ (.cons ⟨rfl, h1⟩ .nil), rfl, rfl⟩
      | cons _ _ => exact absurd hA (by simp)
def fi297 : FnI := ⟨[1, 13, 23, 24, 25], [], [], b_Constraint_preProcess, 14⟩
theorem fd297 (P : Params) : FnD P 297 fi297 := ⟨by kernel_rfl, by kernel_rfl, by kernel_rfl, by kernel_rfl, by kernel_rfl, by kernel_rfl, by kernel_rfl, by kernel_rfl, by kernel_rfl, by kernel_rfl⟩
theorem bd297_5 {P : Params} (X : (KS P).In s.heap) (u0 u1 u2 u3 u4 : Value) : BindsI s (fdA P 297) ⟨[u0, u1, u2, u3, u4], []⟩ [(nm 1, u0), (nm 13, u1), (nm 23, u2), (nm 24, u3), (nm 25, u4)] := peek_binds X (fun _ => by kernel_rfl)
theorem bg297 (X : (KS c.w.params).In s.heap) {args : List AV} {f : FM} (h : bindFn fi297 args = some f) {us : List Value} (hv : All2 (VR c φ) args us) :
    ∃ bs binds, BindsI s (fdA c.w.params 297) ⟨us, []⟩ binds ∧ BindR c φ bs binds ∧ f = frameOf fi297.cells bs ∧ bs.map (·.1) = fi297.params := by
  obtain ⟨hA, hB, rfl⟩ := bindFn_len h
  have hA : args.length ≤ 5 := hA
  have hB : 5 ≤ args.length + 0 := hB
  cases hv with
  | nil =>
    exact absurd hB (by decide)
  | @cons a0 u0 _ _ h0 hv =>
    cases hv with
    | nil =>
      exact absurd hB (by simp)
    | @cons a1 u1 _ _ h1 hv =>
      cases hv with
      | nil =>
        exact absurd hB (by simp)
      | @cons a2 u2 _ _ h2 hv =>
        cases hv with
        | nil =>
          exact absurd hB (by simp)
        | @cons a3 u3 _ _ h3 hv =>
          cases hv with
          | nil =>
            exact absurd hB (by simp)
          | @cons a4 u4 _ _ h4 hv =>
            cases hv with
            | nil =>
              exact ⟨[(1, a0), (13, a1), (23, a2), (24, a3), (25, a4)], _, bd297_5 X u0 u1 u2 u3 u4, .cons ⟨rfl, h0⟩ (.cons ⟨rfl, h1⟩ (.cons ⟨rfl, h2⟩ (.cons ⟨rfl, h3⟩ (.cons ⟨rfl, h4⟩ .nil)))), rfl, rfl⟩
            | cons _ _ => exact absurd hA (by simp)
def fi305 : FnI := ⟨[1, 13, 23, 35, 59], [.st 218], [], b_Constraint_forwardCheck, 15⟩
theorem fd305 (P : Params) : FnD P 305 fi305 := ⟨by kernel_rfl, by kernel_rfl, by kernel_rfl, by kernel_rfl, by kernel_rfl, by kernel_rfl, by kernel_rfl, by kernel_rfl, by kernel_rfl, by kernel_rfl⟩
theorem bd305_4 {P : Params} (X : (KS P).In s.heap) (u0 u1 u2 u3 : Value) : BindsI s (fdA P 305) ⟨[u0, u1, u2, u3], []⟩ [(nm 1, u0), (nm 13, u1), (nm 23, u2), (nm 35, u3), (nm 59, .ref 218)] := peek_binds X (fun _ => by kernel_rfl)
theorem bd305_5 {P : Params} (X : (KS P).In s.heap) (u0 u1 u2 u3 u4 : Value) : BindsI s (fdA P 305) ⟨[u0, u1, u2, u3, u4], []⟩ [(nm 1, u0), (nm 13, u1), (nm 23, u2), (nm 35, u3), (nm 59, u4)] := peek_binds X (fun _ => by kernel_rfl)
theorem bg305 (X : (KS c.w.params).In s.heap) {args : List AV} {f : FM} (h : bindFn fi305 args = some f) {us : List Value} (hv : All2 (VR c φ) args us) :
    ∃ bs binds, BindsI s (fdA c.w.params 305) ⟨us, []⟩ binds ∧ BindR c φ bs binds ∧ f = frameOf fi305.cells bs ∧ bs.map (·.1) = fi305.params := by
  obtain ⟨hA, hB, rfl⟩ := bindFn_len h
  have hA : args.length ≤ 5 := hA
  have hB : 5 ≤ args.length + 1 := hB
  cases hv with
  | nil =>
    exact absurd hB (by decide)
  | @cons a0 u0 _ _ h0 hv =>
    cases hv with
    | nil =>
      exact absurd hB (by simp)
    | @cons a1 u1 _ _ h1 hv =>
      cases hv with
      | nil =>
        exact absurd hB (by simp)
      | @cons a2 u2 _ _ h2 hv =>
        cases hv with
        | nil =>
          exact absurd hB (by simp)
        | @cons a3 u3 _ _ h3 hv =>
          cases hv with
          | nil =>
            exact ⟨[(1, a0), (13, a1), (23, a2), (35, a3), (59, .st 218)], _, bd305_4 X u0 u1 u2 u3, .cons ⟨rfl, h0⟩ (.cons ⟨rfl, h1⟩ (.cons ⟨rfl, h2⟩ (.cons ⟨rfl, h3⟩ (.cons ⟨rfl, rfl⟩ .nil)))), rfl, rfl⟩
          | @cons a4 u4 _ _ h4 hv =>
            cases hv with
            | nil =>
              exact ⟨[(1, a0), (13, a1), (23, a2), (35, a3), (59, a4)], _, bd305_5 X u0 u1 u2 u3 u4, .cons ⟨rfl, h0⟩ (.cons ⟨rfl, h1⟩ (.cons ⟨rfl, h2⟩ (.cons ⟨rfl, h3⟩ (.cons ⟨rfl, h4⟩ .nil)))), rfl, rfl⟩
            | cons _ _ => exact absurd hA (by simp)
def fi333 : FnI := ⟨[1, 13, 23, 35, 36, 59], [.bool false, .st 218], [35, 59], b_FunctionConstraint___call__, 16⟩
theorem fd333 (P : Params) : FnD P 333 fi333 := ⟨by kernel_rfl, by kernel_rfl, by kernel_rfl, by kernel_rfl, by kernel_rfl, by kernel_rfl, by kernel_rfl, by kernel_rfl, by kernel_rfl, by kernel_rfl⟩
theorem bd333_4 {P : Params} (X : (KS P).In s.heap) (u0 u1 u2 u3 : Value) : BindsI s (fdA P 333) ⟨[u0, u1, u2, u3], []⟩ [(nm 1, u0), (nm 13, u1), (nm 23, u2), (nm 35, u3), (nm 36, .bool false), (nm 59, .ref 218)] := peek_binds X (fun _ => by kernel_rfl)
theorem bd333_5 {P : Params} (X : (KS P).In s.heap) (u0 u1 u2 u3 u4 : Value) : BindsI s (fdA P 333) ⟨[u0, u1, u2, u3, u4], []⟩ [(nm 1, u0), (nm 13, u1), (nm 23, u2), (nm 35, u3), (nm 36, u4), (nm 59, .ref 218)] := peek_binds X (fun _ => by kernel_rfl)
theorem bd333_6 {P : Params} (X : (KS P).In s.heap) (u0 u1 u2 u3 u4 u5 : Value) : BindsI s (fdA P 333) ⟨[u0, u1, u2, u3, u4, u5], []⟩ [(nm 1, u0), (nm 13, u1), (nm 23, u2), (nm 35, u3), (nm 36, u4), (nm 59, u5)] := peek_binds X (fun _ => by kernel_rfl)
theorem bg333 (X : (KS c.w.params).In s.heap) {args : List AV} {f : FM} (h : bindFn fi333 args = some f) {us : List Value} (hv : All2 (VR c φ) args us) :
    ∃ bs binds, BindsI s (fdA c.w.params 333) ⟨us, []⟩ binds ∧ BindR c φ bs binds ∧ f = frameOf fi333.cells bs ∧ bs.map (·.1) = fi333.params := by
  obtain ⟨hA, hB, rfl⟩ := bindFn_len h
  have hA : args.length ≤ 6 := hA
  have hB : 6 ≤ args.length + 2 := hB
  cases hv with
  | nil =>
    exact absurd hB (by decide)
  | @cons a0 u0 _ _ h0 hv =>
    cases hv with
    | nil =>
      exact absurd hB (by simp)
    | @cons a1 u1 _ _ h1 hv =>
      cases hv with
      | nil =>
        exact absurd hB (by simp)
      | @cons a2 u2 _ _ h2 hv =>
        cases hv with
        | nil =>
          exact absurd hB (by simp)
        | @cons a3 u3 _ _ h3 hv =>
          cases hv with
          | nil =>
            exact ⟨[(1, a0), (13, a1), (23, a2), (35, a3), (36, .bool false), (59, .st 218)], _, bd333_4 X u0 u1 u2 u3, .cons ⟨rfl, h0⟩ (.cons ⟨rfl, h1⟩ (.cons ⟨rfl, h2⟩ (.cons ⟨rfl, h3⟩ (.cons ⟨rfl, rfl⟩ (.cons ⟨rfl, rfl⟩ .nil))))), rfl, rfl⟩
          | @cons a4 u4 _ _ h4 hv =>
            cases hv with
            | nil =>
              exact ⟨[(1, a0), (13, a1), (23, a2), (35, a3), (36, a4), (59, .st 218)], _, bd333_5 X u0 u1 u2 u3 u4, .cons ⟨rfl, h0⟩ (.cons ⟨rfl, h1⟩ (.cons ⟨rfl, h2⟩ (.cons ⟨rfl, h3⟩ (.cons ⟨rfl, h4⟩ (.cons ⟨rfl, rfl⟩ .nil))))), rfl, rfl⟩
            | @cons a5 u5 _ _ h5 hv =>
              cases hv with
              | nil =>
                exact ⟨[(1, a0), (13, a1), (23, a2), (35, a3), (36, a4), (59, a5)], _, bd333_6 X u0 u1 u2 u3 u4 u5, .cons ⟨rfl, h0⟩ (.cons ⟨rfl, h1⟩ (.cons ⟨rfl, h2⟩ (.cons ⟨rfl, h3⟩ (.cons ⟨rfl, h4⟩ (.cons ⟨rfl, h5⟩ .nil))))), rfl, rfl⟩
              | cons _ _ => exact absurd hA (by simp)
def fi353 : FnI := ⟨[1, 13, 23, 35, 36, 59], [.bool false, .st 218], [], b_AllEqualConstraint___call__, 19⟩
theorem fd353 (P : Params) : FnD P 353 fi353 := ⟨by kernel_rfl, by kernel_rfl, by kernel_rfl, by kernel_rfl, by kernel_rfl, by kernel_rfl, by kernel_rfl, by kernel_rfl, by kernel_rfl, by kernel_rfl⟩
theorem bd353_4 {P : Params} (X : (KS P).In s.heap) (u0 u1 u2 u3 : Value) : BindsI s (fdA P 353) ⟨[u0, u1, u2, u3], []⟩ [(nm 1, u0), (nm 13, u1), (nm 23, u2), (nm 35, u3), (nm 36, .bool false), (nm 59, .ref 218)] := peek_binds X (fun _ => by kernel_rfl)
theorem bd353_5 {P : Params} (X : (KS P).In s.heap) (u0 u1 u2 u3 u4 : Value) : BindsI s (fdA P 353) ⟨[u0, u1, u2, u3, u4], []⟩ [(nm 1, u0), (nm 13, u1), (nm 23, u2), (nm 35, u3), (nm 36, u4), (nm 59, .ref 218)] := peek_binds X (fun _ => by kernel_rfl)
theorem bd353_6 {P : Params} (X : (KS P).In s.heap) (u0 u1 u2 u3 u4 u5 : Value) : BindsI s (fdA P 353) ⟨[u0, u1, u2, u3, u4, u5], []⟩ [(nm 1, u0), (nm 13, u1), (nm 23, u2), (nm 35, u3), (nm 36, u4), (nm 59, u5)] := peek_binds X (fun _ => by kernel_rfl)
theorem bg353 (X : (KS c.w.params).In s.heap) {args : List AV} {f : FM} (h : bindFn fi353 args = some f) {us : List Value} (hv : All2 (VR c φ) args us) :
    ∃ bs binds, BindsI s (fdA c.w.params 353) ⟨us, []⟩ binds ∧ BindR c φ bs binds ∧ f = frameOf fi353.cells bs ∧ bs.map (·.1) = fi353.params := by
  obtain ⟨hA, hB, rfl⟩ := bindFn_len h
  have hA : args.length ≤ 6 := hA
  have hB : 6 ≤ args.length + 2 := hB
  cases hv with
  | nil =>
    exact absurd hB (by decide)
  | @cons a0 u0 _ _ h0 hv =>
    cases hv with
    | nil =>
      exact absurd hB (by simp)
    | @cons a1 u1 _ _ h1 hv =>
      cases hv with
      | nil =>
        exact absurd hB (by simp)
      | @cons a2 u2 _ _ h2 hv =>
        cases hv with
        | nil =>
          exact absurd hB (by simp)
        | @cons a3 u3 _ _ h3 hv =>
          cases hv with
          | nil =>
            exact ⟨[(1, a0), (13, a1), (23, a2), (35, a3), (36, .bool false), (59, .st 218)], _, bd353_4 X u0 u1 u2 u3, .cons ⟨rfl, h0⟩ (.cons ⟨rfl, h1⟩ (.cons ⟨rfl, h2⟩ (.cons ⟨rfl, h3⟩ (.cons ⟨rfl, rfl⟩ (.cons ⟨rfl, rfl⟩ .nil))))), rfl, rfl⟩
          | @cons a4 u4 _ _ h4 hv =>
            cases hv with
            | nil =>
              exact ⟨[(1, a0), (13, a1), (23, a2), (35, a3), (36, a4), (59, .st 218)], _, bd353_5 X u0 u1 u2 u3 u4, .cons ⟨rfl, h0⟩ (.cons ⟨rfl, h1⟩ (.cons ⟨rfl, h2⟩ (.cons ⟨rfl, h3⟩ (.cons ⟨rfl, h4⟩ (.cons ⟨rfl, rfl⟩ .nil))))), rfl, rfl⟩
            | @cons a5 u5 _ _ h5 hv =>
              cases hv with
              | nil =>
                exact ⟨[(1, a0), (13, a1), (23, a2), (35, a3), (36, a4), (59, a5)], _, bd353_6 X u0 u1 u2 u3 u4 u5, .cons ⟨rfl, h0⟩ (.cons ⟨rfl, h1⟩ (.cons ⟨rfl, h2⟩ (.cons ⟨rfl, h3⟩ (.cons ⟨rfl, h4⟩ (.cons ⟨rfl, h5⟩ .nil))))), rfl, rfl⟩
              | cons _ _ => exact absurd hA (by simp)
def fi387 : FnI := ⟨[1, 13, 23, 24, 25], [], [], b_InSetConstraint_preProcess, 20⟩
theorem fd387 (P : Params) : FnD P 387 fi387 := ⟨by kernel_rfl, by kernel_rfl, by kernel_rfl, by kernel_rfl, by kernel_rfl, by kernel_rfl, by kernel_rfl, by kernel_rfl, by kernel_rfl, by kernel_rfl⟩
theorem bd387_5 {P : Params} (X : (KS P).In s.heap) (u0 u1 u2 u3 u4 : Value) : BindsI s (fdA P 387) ⟨[u0, u1, u2, u3, u4], []⟩ [(nm 1, u0), (nm 13, u1), (nm 23, u2), (nm 24, u3), (nm 25, u4)] := peek_binds X (fun _ => by kernel_rfl)
theorem bg387 (X : (KS c.w.params).In s.heap) {args : List AV} {f : FM} (h : bindFn fi387 args = some f) {us : List Value} (hv : All2 (VR c φ) args us) :
    ∃ bs binds, BindsI s (fdA c.w.params 387) ⟨us, []⟩ binds ∧ BindR c φ bs binds ∧ f = frameOf fi387.cells bs ∧ bs.map (·.1) = fi387.params := by
  obtain ⟨hA, hB, rfl⟩ := bindFn_len h
  have hA : args.length ≤ 5 := hA
  have hB : 5 ≤ args.length + 0 := hB
  cases hv with
  | nil =>
    exact absurd hB (by decide)
  | @cons a0 u0 _ _ h0 hv =>
    cases hv with
    | nil =>
      exact absurd hB (by simp)
    | @cons a1 u1 _ _ h1 hv =>
      cases hv with
      | nil =>
        exact absurd hB (by simp)
      | @cons a2 u2 _ _ h2 hv =>
        cases hv with
        | nil =>
          exact absurd hB (by simp)
        | @cons a3 u3 _ _ h3 hv =>
          cases hv with
          | nil =>
            exact absurd hB (by simp)
          | @cons a4 u4 _ _ h4 hv =>
            cases hv with
            | nil =>
              exact ⟨[(1, a0), (13, a1), (23, a2), (24, a3), (25, a4)], _, bd387_5 X u0 u1 u2 u3 u4, .cons ⟨rfl, h0⟩ (.cons ⟨rfl, h1⟩ (.cons ⟨rfl, h2⟩ (.cons ⟨rfl, h3⟩ (.cons ⟨rfl, h4⟩ .nil)))), rfl, rfl⟩
            | cons _ _ => exact absurd hA (by simp)
def fi407 : FnI := ⟨[71, 72, 73], [], [], b_x__law_even, 21⟩
theorem fd407 (P : Params) : FnD P 407 fi407 := ⟨by kernel_rfl, by kernel_rfl, by kernel_rfl, by kernel_rfl, by kernel_rfl, by kernel_rfl, by kernel_rfl, by kernel_rfl, by kernel_rfl, by kernel_rfl⟩
theorem bd407_3 {P : Params} (X : (KS P).In s.heap) (u0 u1 u2 : Value) : BindsI s (fdA P 407) ⟨[u0, u1, u2], []⟩ [(nm 71, u0), (nm 72, u1), (nm 73, u2)] := peek_binds X (fun _ => by kernel_rfl)
theorem bg407 (X : (KS c.w.params).In s.heap) {args : List AV} {f : FM} (h : bindFn fi407 args = some f) {us : List Value} (hv : All2 (VR c φ) args us) :
    ∃ bs binds, BindsI s (fdA c.w.params 407) ⟨us, []⟩ binds ∧ BindR c φ bs binds ∧ f = frameOf fi407.cells bs ∧ bs.map (·.1) = fi407.params := by
  obtain ⟨hA, hB, rfl⟩ := bindFn_len h
  have hA : args.length ≤ 3 := hA
  have hB : 3 ≤ args.length + 0 := hB
  cases hv with
  | nil =>
    exact absurd hB (by decide)
  | @cons a0 u0 _ _ h0 hv =>
    cases hv with
    | nil =>
      exact absurd hB (by simp)
    | @cons a1 u1 _ _ h1 hv =>
      cases hv with
      | nil =>
        exact absurd hB (by simp)
      | @cons a2 u2 _ _ h2 hv =>
        cases hv with
        | nil =>
          exact ⟨[(71, a0), (72, a1), (73, a2)], _, bd407_3 X u0 u1 u2, .cons ⟨rfl, h0⟩ (.cons ⟨rfl, h1⟩ (.cons ⟨rfl, h2⟩ .nil)), rfl, rfl⟩
        | cons _ _ => exact absurd hA (by simp)
def fi414 : FnI := ⟨[74, 75], [], [], b_x__law_sides, 22⟩
theorem fd414 (P : Params) : FnD P 414 fi414 := ⟨by kernel_rfl, by kernel_rfl, by kernel_rfl, by kernel_rfl, by kernel_rfl, by kernel_rfl, by kernel_rfl, by kernel_rfl, by kernel_rfl, by kernel_rfl⟩
theorem bd414_2 {P : Params} (X : (KS P).In s.heap) (u0 u1 : Value) : BindsI s (fdA P 414) ⟨[u0, u1], []⟩ [(nm 74, u0), (nm 75, u1)] := peek_binds X (fun _ => by kernel_rfl)
theorem bg414 (X : (KS c.w.params).In s.heap) {args : List AV} {f : FM} (h : bindFn fi414 args = some f) {us : List Value} (hv : All2 (VR c φ) args us) :
    ∃ bs binds, BindsI s (fdA c.w.params 414) ⟨us, []⟩ binds ∧ BindR c φ bs binds ∧ f = frameOf fi414.cells bs ∧ bs.map (·.1) = fi414.params := by
  obtain ⟨hA, hB, rfl⟩ := bindFn_len h
  have hA : args.length ≤ 2 := hA
  have hB : 2 ≤ args.length + 0 := hB
  cases hv with
  | nil =>
    exact absurd hB (by decide)
  | @cons a0 u0 _ _ h0 hv =>
    cases hv with
    | nil =>
      exact absurd hB (by simp)
    | @cons a1 u1 _ _ h1 hv =>
      cases hv with
      | nil =>
        exact ⟨[(74, a0), (75, a1)], _, bd414_2 X u0 u1, .cons ⟨rfl, h0⟩ (.cons ⟨rfl, h1⟩ .nil), rfl, rfl⟩
      | cons _ _ => exact absurd hA (by simp)
def fi419 : FnI := ⟨[82], [], [82, 83, 74, 84, 85, 86], b_x_law, 23⟩
theorem fd419 (P : Params) : FnD P 419 fi419 := ⟨by kernel_rfl, by kernel_rfl, by kernel_rfl, by kernel_rfl, by kernel_rfl, by kernel_rfl, by kernel_rfl, by kernel_rfl, by kernel_rfl, by kernel_rfl⟩
theorem bd419_1 {P : Params} (X : (KS P).In s.heap) (u0 : Value) : BindsI s (fdA P 419) ⟨[u0], []⟩ [(nm 82, u0)] := peek_binds X (fun _ => by kernel_rfl)
theorem bg419 (X : (KS c.w.params).In s.heap) {args : List AV} {f : FM} (h : bindFn fi419 args = some f) {us : List Value} (hv : All2 (VR c φ) args us) :
    ∃ bs binds, BindsI s (fdA c.w.params 419) ⟨us, []⟩ binds ∧ BindR c φ bs binds ∧ f = frameOf fi419.cells bs ∧ bs.map (·.1) = fi419.params := by
  obtain ⟨hA, hB, rfl⟩ := bindFn_len h
  have hA : args.length ≤ 1 := hA
  have hB : 1 ≤ args.length + 0 := hB
  cases hv with
  | nil =>
    exact absurd hB (by decide)
  | @cons a0 u0 _ _ h0 hv =>
    cases hv with
    | nil =>
      exact ⟨[(82, a0)], _, bd419_1 X u0, .cons ⟨rfl, h0⟩ .nil, rfl, rfl⟩
    | cons _ _ => exact absurd hA (by simp)
def FnSt (c : Cx) (p : Nat × FnI) : Prop := FnD c.w.params p.1 p.2 ∧ ∀ (φ : List Addr) (s : Shared), (KS c.w.params).In s.heap → ∀ {args : List AV} {f : FM} (h : bindFn p.2 args = some f) {us : List Value} (hv : All2 (VR c φ) args us),
    ∃ bs binds, BindsI s (fdA c.w.params p.1) ⟨us, []⟩ binds ∧ BindR c φ bs binds ∧ f = frameOf p.2.cells bs ∧ bs.map (·.1) = p.2.params
theorem lk_in {α : Type} : ∀ {l : List (Nat × α)} {x : Nat} {v : α}, lk l x = some v → (x, v) ∈ l
  | (k, u) :: r, x, v, h => by
    rw [lk_cons] at h
    by_cases e : k = x
    · rw [if_pos e] at h; cases h; subst e; exact List.mem_cons_self
    · rw [if_neg e] at h; exact List.mem_cons_of_mem _ (lk_in h)
theorem fst64 (c : Cx) : FnSt c (64, fi64) := ⟨fd64 _, fun _ _ X _ _ h _ hv => bg64 X h hv⟩
theorem fst71 (c : Cx) : FnSt c (71, fi71) := ⟨fd71 _, fun _ _ X _ _ h _ hv => bg71 X h hv⟩
theorem fst79 (c : Cx) : FnSt c (79, fi79) := ⟨fd79 _, fun _ _ X _ _ h _ hv => bg79 X h hv⟩
theorem fst93 (c : Cx) : FnSt c (93, fi93) := ⟨fd93 _, fun _ _ X _ _ h _ hv => bg93 X h hv⟩
theorem fst107 (c : Cx) : FnSt c (107, fi107) := ⟨fd107 _, fun _ _ X _ _ h _ hv => bg107 X h hv⟩
theorem fst169 (c : Cx) : FnSt c (169, fi169) := ⟨fd169 _, fun _ _ X _ _ h _ hv => bg169 X h hv⟩
theorem fst183 (c : Cx) : FnSt c (183, fi183) := ⟨fd183 _, fun _ _ X _ _ h _ hv => bg183 X h hv⟩
theorem fst240 (c : Cx) : FnSt c (240, fi240) := ⟨fd240 _, fun _ _ X _ _ h _ hv => bg240 X h hv⟩
theorem fst247 (c : Cx) : FnSt c (247, fi247) := ⟨fd247 _, fun _ _ X _ _ h _ hv => bg247 X h hv⟩
theorem fst254 (c : Cx) : FnSt c (254, fi254) := ⟨fd254 _, fun _ _ X _ _ h _ hv => bg254 X h hv⟩
theorem fst261 (c : Cx) : FnSt c (261, fi261) := ⟨fd261 _, fun _ _ X _ _ h _ hv => bg261 X h hv⟩
theorem fst282 (c : Cx) : FnSt c (282, fi282) := ⟨fd282 _, fun _ _ X _ _ h _ hv => bg282 X h hv⟩
theorem fst297 (c : Cx) : FnSt c (297, fi297) := ⟨fd297 _, fun _ _ X _ _ h _ hv => bg297 X h hv⟩
theorem fst305 (c : Cx) : FnSt c (305, fi305) := ⟨fd305 _, fun _ _ X _ _ h _ hv => bg305 X h hv⟩
theorem fst333 (c : Cx) : FnSt c (333, fi333) := ⟨fd333 _, fun _ _ X _ _ h _ hv => bg333 X h hv⟩
theorem fst353 (c : Cx) : FnSt c (353, fi353) := ⟨fd353 _, fun _ _ X _ _ h _ hv => bg353 X h hv⟩
theorem fst387 (c : Cx) : FnSt c (387, fi387) := ⟨fd387 _, fun _ _ X _ _ h _ hv => bg387 X h hv⟩
theorem fst407 (c : Cx) : FnSt c (407, fi407) := ⟨fd407 _, fun _ _ X _ _ h _ hv => bg407 X h hv⟩
theorem fst414 (c : Cx) : FnSt c (414, fi414) := ⟨fd414 _, fun _ _ X _ _ h _ hv => bg414 X h hv⟩
theorem fst419 (c : Cx) : FnSt c (419, fi419) := ⟨fd419 _, fun _ _ X _ _ h _ hv => bg419 X h hv⟩
theorem fst_all (c : Cx) : ∀ p ∈ fnT, FnSt c p := List.forall_mem_cons.mpr ⟨fst64 c, List.forall_mem_cons.mpr ⟨fst71 c, List.forall_mem_cons.mpr ⟨fst79 c, List.forall_mem_cons.mpr ⟨fst93 c, List.forall_mem_cons.mpr ⟨fst107 c, List.forall_mem_cons.mpr ⟨fst169 c, List.forall_mem_cons.mpr ⟨fst183 c, List.forall_mem_cons.mpr ⟨fst240 c, List.forall_mem_cons.mpr ⟨fst247 c, List.forall_mem_cons.mpr ⟨fst254 c, List.forall_mem_cons.mpr ⟨fst261 c, List.forall_mem_cons.mpr ⟨fst282 c, List.forall_mem_cons.mpr ⟨fst297 c, List.forall_mem_cons.mpr ⟨fst305 c, List.forall_mem_cons.mpr ⟨fst333 c, List.forall_mem_cons.mpr ⟨fst353 c, List.forall_mem_cons.mpr ⟨fst387 c, List.forall_mem_cons.mpr ⟨fst407 c, List.forall_mem_cons.mpr ⟨fst414 c, List.forall_mem_cons.mpr ⟨fst419 c, fun _ h => (List.not_mem_nil h).elim⟩⟩⟩⟩⟩⟩⟩⟩⟩⟩⟩⟩⟩⟩⟩⟩⟩⟩⟩⟩
theorem fn_ok (c : Cx) {a : Nat} {fi : FnI} (e : lk fnT a = some fi) : FnSt c (a, fi) := fst_all c _ (lk_in e)
end
end Mine
set_option maxRecDepth 100000
namespace Mine
noncomputable section
open PySem PySem.W PyProof.Rows
variable {c : Cx} {k : FC} {f : FA} {fa : List FA} {φ : List Addr} {σ σ' τ : AS} {s s' : Shared} {A : Around} {o : Scope} {b : Bool} {env : Env}

/-! ### a new frame -/
def parOk (fi : FnI) : Bool := decide fi.params.Nodup && decide fi.cells.Nodup && fi.params.all (fun x => Nat.blt x nmN && (if inL x fi.cells then kd (scp fi.sc) x == some .cell else kd (scp fi.sc) x == some .local)) &&
  fi.cells.all (fun x => Nat.blt x nmN) && (fi.body.all (wfS 30 (scp fi.sc)))
def fullOk (fi : FnI) : Bool := (scp fi.sc).names.all fun y => !(y.2 == .cell || y.2 == .free) || fi.cells.any fun x => nm x == y.1
theorem full_all : (fnT.all fun p => fullOk p.2) = true := by decide +kernel
theorem par_all : (fnT.all fun p => parOk p.2) = true := by decide +kernel
theorem lookup_unique {n : Str} {a : Addr} : ∀ {l : List (Str × Addr)}, (l.map (·.1)).Nodup → (n, a) ∈ l → l.lookup n = some a
  | (m, d) :: r, nd, h => by
    rw [List.map_cons, List.nodup_cons] at nd
    rw [List.lookup_cons]
    rcases List.mem_cons.mp h with e | h
    · cases e; simp
    · have : (n == m) = false := by
        refine Bool.eq_false_iff.mpr fun e => nd.1 ?_
        rw [← eq_of_beq e]; exact List.mem_map.mpr ⟨_, h, rfl⟩
      rw [this]; exact lookup_unique nd.2 h
theorem inL_mem (x : Nat) : ∀ l : List Nat, inL x l = true ↔ x ∈ l
  | [] => by simp [inL]
  | y :: r => by
    show br (Nat.beq y x) true (inL x r) = true ↔ _
    have ih := inL_mem x r
    cases e : Nat.beq y x with
    | true => cases nbeq e; simp [br_true]
    | false => have := nbne e; simp [br_false, ih, Ne.symm this]
theorem bindL_ok {K : Str → Option NameKind} {cells : List Nat} : ∀ {bs : List (Nat × AV)} {binds : List (Str × Value)} (m : Str → Option Value), BindR c φ bs binds → (bs.map (·.1)).Nodup →
    (∀ p ∈ bs, p.1 < nmN ∧ (if inL p.1 cells then K (nm p.1) = some .cell else K (nm p.1) = some .local)) → ∀ x, x < nmN →
    match lk (notIn cells bs) x with | some v => ∃ u, bindL K binds m (nm x) = some u ∧ VR c φ v u | none => bindL K binds m (nm x) = m (nm x)
  | [], _, m, .nil, _, _, x, _ => by rfl
  | (i, v) :: bs, (n, u) :: binds, m, .cons ⟨h1, h2⟩ h, nd, hk, x, hx => by
    have h1 : n = nm i := h1
    subst h1
    rw [List.map_cons, List.nodup_cons] at nd
    have hi := hk (i, v) List.mem_cons_self
    have ih := fun m => bindL_ok (K := K) (cells := cells) m h nd.2 (fun p hp => hk p (List.mem_cons_of_mem _ hp)) x hx
    have nl : ∀ {l : List (Nat × AV)}, i ∉ l.map (·.1) → lk (notIn cells l) i = none := by
      intro l
      induction l with
      | nil => intro _; rfl
      | cons p r ihl =>
        intro hn
        obtain ⟨j, w⟩ := p
        rw [List.map_cons, List.mem_cons, not_or] at hn
        show lk (br (inL j cells) (notIn cells r) ((j, w) :: notIn cells r)) i = none
        cases inL j cells with
        | true => exact ihl hn.2
        | false => show lk ((j, w) :: notIn cells r) i = none; rw [lk_cons, if_neg (Ne.symm hn.1)]; exact ihl hn.2
    show match lk (br (inL i cells) (notIn cells bs) ((i, v) :: notIn cells bs)) x with | some v => ∃ u', bindL K binds _ (nm x) = some u' ∧ VR c φ v u' | none => bindL K binds _ (nm x) = m (nm x)
    cases e : inL i cells with
    | true =>
      have hc : K (nm i) = some .cell := by have := hi.2; rw [e] at this; exact this
      rw [if_neg (show ¬ K (nm i) = some .local by rw [hc]; decide)]
      exact ih m
    | false =>
      have hl : K (nm i) = some .local := by have := hi.2; rw [e] at this; exact this
      rw [if_pos hl]
      show match lk ((i, v) :: notIn cells bs) x with | some v => ∃ u', bindL K binds _ (nm x) = some u' ∧ VR c φ v u' | none => bindL K binds _ (nm x) = m (nm x)
      rw [lk_cons]
      by_cases q : i = x
      · subst q
        rw [if_pos rfl]
        have := ih (fun y => if y = nm i then some u else m y)
        rw [nl nd.1] at this
        exact ⟨u, by rw [this]; simp, h2⟩
      · rw [if_neg q]
        have := ih (fun y => if y = nm i then some u else m y)
        rw [if_neg (fun e => q (nm_inj x i hx hi.1 e).symm)] at this
        exact this
theorem bindC_ok {K : Str → Option NameKind} {cells : List Nat} : ∀ {bs : List (Nat × AV)} {binds : List (Str × Value)} (m : Str → Option Value), BindR c φ bs binds → (bs.map (·.1)).Nodup →
    (∀ p ∈ bs, p.1 < nmN ∧ (if inL p.1 cells then K (nm p.1) = some .cell else K (nm p.1) = some .local)) → ∀ x, x < nmN → inL x cells = true →
    match lk bs x with | some v => ∃ u, bindC K binds m (nm x) = some u ∧ VR c φ v u | none => bindC K binds m (nm x) = m (nm x)
  | [], _, m, .nil, _, _, x, _, _ => by rfl
  | (i, v) :: bs, (n, u) :: binds, m, .cons ⟨h1, h2⟩ h, nd, hk, x, hx, hxc => by
    have h1 : n = nm i := h1
    subst h1
    rw [List.map_cons, List.nodup_cons] at nd
    have hi := hk (i, v) List.mem_cons_self
    have ih := fun m => bindC_ok (K := K) (cells := cells) m h nd.2 (fun p hp => hk p (List.mem_cons_of_mem _ hp)) x hx hxc
    have nl : ∀ {l : List (Nat × AV)}, i ∉ l.map (·.1) → lk l i = none := by
      intro l
      induction l with
      | nil => intro _; rfl
      | cons p r ihl =>
        intro hn
        obtain ⟨j, w⟩ := p
        rw [List.map_cons, List.mem_cons, not_or] at hn
        rw [lk_cons, if_neg (Ne.symm hn.1)]; exact ihl hn.2
    show match lk ((i, v) :: bs) x with | some v => ∃ u', bindC K binds _ (nm x) = some u' ∧ VR c φ v u' | none => bindC K binds _ (nm x) = m (nm x)
    rw [lk_cons]
    cases e : inL i cells with
    | true =>
      have hc : K (nm i) = some .cell := by have := hi.2; rw [e] at this; exact this
      rw [if_neg (show ¬ K (nm i) = some .local by rw [hc]; decide)]
      by_cases q : i = x
      · subst q
        rw [if_pos rfl]
        have := ih (fun y => if y = nm i then some u else m y)
        rw [nl nd.1] at this
        exact ⟨u, by rw [this]; simp, h2⟩
      · rw [if_neg q]
        have := ih (fun y => if y = nm i then some u else m y)
        rw [if_neg (fun e => q (nm_inj x i hx hi.1 e).symm)] at this
        exact this
    | false =>
      have hl : K (nm i) = some .local := by have := hi.2; rw [e] at this; exact this
      rw [if_pos hl]
      by_cases q : i = x
      · subst q; rw [e] at hxc; cases hxc
      · rw [if_neg q]; exact ih m
theorem mkCells_lk (bs : List (Nat × AV)) : ∀ (cells : List Nat) (x : Nat) (o : Option AV), lk (mkCells bs cells) x = some o → x ∈ cells ∧ o = lk bs x
  | [], x, o, h => by cases h
  | y :: r, x, o, h => by
    have h : lk ((y, lk bs y) :: mkCells bs r) x = some o := h
    rw [lk_cons] at h
    by_cases e : y = x
    · rw [if_pos e] at h; cases h; subst e; exact ⟨List.mem_cons_self, rfl⟩
    · rw [if_neg e] at h
      obtain ⟨p, q⟩ := mkCells_lk bs r x o h
      exact ⟨List.mem_cons_of_mem _ p, q⟩
theorem zip_fst : ∀ (ps : List Nat) (vs : List AV), (zipN ps vs).map (·.1) = ps.take vs.length
  | [], vs => by cases vs <;> rfl
  | p :: ps, [] => rfl
  | p :: ps, v :: vs => by show p :: (zipN ps vs).map (·.1) = _; rw [zip_fst ps vs]; rfl
theorem zipIdx_lk : ∀ (cells : List Nat) (N x : Nat), x ∈ cells → ∃ a, lk (cells.zipIdx N) x = some a
  | y :: r, N, x, h => by
    rw [List.zipIdx_cons, lk_cons]
    by_cases e : y = x
    · exact ⟨N, by rw [if_pos e]⟩
    · rw [if_neg e]
      rcases List.mem_cons.mp h with rfl | h
      · exact absurd rfl e
      · exact zipIdx_lk r (N + 1) x h

theorem ks_noLimit {P : Params} {h : Heap} (X : (KS P).In h) : h.NoLimit :=
  ⟨fun _ => none, ⟨⟨.none, none, .dict #[] 0, #[]⟩, #[], 0, X 2 _ (by kernel_rfl), rfl, fun _ he => by simp at he, fun _ => rfl⟩, rfl⟩
def FlR (c : Cx) (φ : List Addr) : Fl → Flow → Prop
  | .next, x => x = .next
  | .brk, x => x = .brk
  | .ret v, x => ∃ u, x = .ret u ∧ VR c φ v u
def CellsSt (p : Nat × FnI) : Prop := ∀ N, cellsFrom N (scp p.2.sc).names [] = ((p.2.cells.zipIdx N).map fun q => (nm q.1, q.2)).reverse
theorem cells_all : ∀ p ∈ fnT, CellsSt p := List.forall_mem_cons.mpr ⟨fun _ => by kernel_rfl, List.forall_mem_cons.mpr ⟨fun _ => by kernel_rfl, List.forall_mem_cons.mpr ⟨fun _ => by kernel_rfl, List.forall_mem_cons.mpr ⟨fun _ => by kernel_rfl, List.forall_mem_cons.mpr ⟨fun _ => by kernel_rfl, List.forall_mem_cons.mpr ⟨fun _ => by kernel_rfl, List.forall_mem_cons.mpr ⟨fun _ => by kernel_rfl, List.forall_mem_cons.mpr ⟨fun _ => by kernel_rfl, List.forall_mem_cons.mpr ⟨fun _ => by kernel_rfl, List.forall_mem_cons.mpr ⟨fun _ => by kernel_rfl, List.forall_mem_cons.mpr ⟨fun _ => by kernel_rfl, List.forall_mem_cons.mpr ⟨fun _ => by kernel_rfl, List.forall_mem_cons.mpr ⟨fun _ => by kernel_rfl, List.forall_mem_cons.mpr ⟨fun _ => by kernel_rfl, List.forall_mem_cons.mpr ⟨fun _ => by kernel_rfl, List.forall_mem_cons.mpr ⟨fun _ => by kernel_rfl, List.forall_mem_cons.mpr ⟨fun _ => by kernel_rfl, List.forall_mem_cons.mpr ⟨fun _ => by kernel_rfl, List.forall_mem_cons.mpr ⟨fun _ => by kernel_rfl, List.forall_mem_cons.mpr ⟨fun _ => by kernel_rfl, fun _ h => (List.not_mem_nil h).elim⟩⟩⟩⟩⟩⟩⟩⟩⟩⟩⟩⟩⟩⟩⟩⟩⟩⟩⟩⟩

theorem zipIdx_ge : ∀ (cells : List Nat) (N : Nat) (q : Nat × Nat), q ∈ cells.zipIdx N → N ≤ q.2
  | [], _, _, h => by cases h
  | y :: r, N, q, h => by
    rw [List.zipIdx_cons] at h
    rcases List.mem_cons.mp h with rfl | h
    · exact Nat.le_refl _
    · exact Nat.le_of_succ_le (zipIdx_ge r (N + 1) q h)
theorem zipIdx_nodup : ∀ (cells : List Nat) (N : Nat), ((cells.zipIdx N).map (·.2)).Nodup
  | [], _ => List.nodup_nil
  | y :: r, N => by
    rw [List.zipIdx_cons, List.map_cons, List.nodup_cons]
    refine ⟨fun h => ?_, zipIdx_nodup r (N + 1)⟩
    obtain ⟨q, hq, e⟩ := List.mem_map.mp h
    have := zipIdx_ge r (N + 1) q hq
    have e : q.2 = N := e
    omega
theorem zipIdx_fst : ∀ (cells : List Nat) (N : Nat), (cells.zipIdx N).map (·.1) = cells
  | [], _ => rfl
  | y :: r, N => by rw [List.zipIdx_cons, List.map_cons, zipIdx_fst r (N + 1)]
theorem mem_nm {l : List Nat} (hn : ∀ x ∈ l, x < nmN) (nd : l.Nodup) : (l.map nm).Nodup := by
  induction l with
  | nil => exact List.nodup_nil
  | cons y r ih =>
    rw [List.nodup_cons] at nd
    rw [List.map_cons, List.nodup_cons]
    refine ⟨fun h => ?_, ih (fun x hx => hn x (List.mem_cons_of_mem _ hx)) nd.2⟩
    obtain ⟨z, hz, e⟩ := List.mem_map.mp h
    exact nd.1 (nm_inj z y (hn z (List.mem_cons_of_mem _ hz)) (hn y List.mem_cons_self) e ▸ hz)
theorem cells_lookup {cells : List Nat} {N : Nat} (hn : ∀ x ∈ cells, x < nmN) (nd : cells.Nodup) {x : Nat} {a : Addr} (h : lk (cells.zipIdx N) x = some a) :
    (((cells.zipIdx N).map fun q => (nm q.1, q.2)).reverse).lookup (nm x) = some a := by
  refine lookup_unique ?_ (List.mem_reverse.mpr (List.mem_map.mpr ⟨(x, a), lk_in h, rfl⟩))
  rw [List.map_reverse, (List.reverse_perm _).nodup_iff, List.map_map]
  have : ((fun x : Str × Addr => x.1) ∘ fun q : Nat × Nat => (nm q.1, q.2)) = nm ∘ (·.1) := rfl
  rw [this, ← List.map_map, zipIdx_fst]
  exact mem_nm hn nd
end
end Mine
set_option maxRecDepth 100000
namespace Mine
noncomputable section
open PySem PySem.W PyProof.Rows
variable {c : Cx} {k : FC} {f : FA} {fa : List FA} {φ : List Addr} {σ σ' τ : AS} {s s' : Shared} {A : Around} {o : Scope} {b : Bool} {env : Env}

theorem inCall_grows {L : Addr} {m cm : Str → Option Value} {cs : List (Str × Addr)} (x : InCallC s L m cs cm s') (hs : s.heap.objs.size ≤ s'.heap.objs.size) : Grows s s' := by
  obtain ⟨⟨⟨h', tk, rfl⟩, hn, hk, hf⟩, _, _, _⟩ := x
  exact ⟨hk, hs, rfl, rfl, rfl⟩
theorem lookup_mem' {α β : Type} [BEq α] [LawfulBEq α] {n : α} {a : β} : ∀ {l : List (α × β)}, l.lookup n = some a → (n, a) ∈ l
  | [], h => by cases h
  | (m, d) :: r, h => by
    rw [List.lookup_cons] at h
    cases e : n == m with
    | true => rw [e] at h; cases h; rw [eq_of_beq e]; exact List.mem_cons_self
    | false => rw [e] at h; exact List.mem_cons_of_mem _ (lookup_mem' h)
theorem cells_full {a : Nat} {fi : FnI} (hfi : (a, fi) ∈ fnT) {N : Nat} (hn : ∀ x ∈ fi.cells, x < nmN) (nd : fi.cells.Nodup) {x : Nat} (h : isCel (scp fi.sc) x = true) : ((((fi.cells.zipIdx N).map fun q => (nm q.1, q.2)).reverse).lookup (nm x)).isSome = true := by
  obtain ⟨hx, hk⟩ := isCel_spec h
  have hf := List.all_eq_true.mp (List.all_eq_true.mp full_all _ hfi : fullOk fi = true)
  have : ∃ y ∈ fi.cells, nm y = nm x := by
    rcases hk with hk | hk
    · have := hf _ (lookup_mem' hk)
      simpa using this
    · have := hf _ (lookup_mem' hk)
      simpa using this
  obtain ⟨y, hy, e⟩ := this
  obtain rfl := nm_inj y x (hn y hy) hx e
  obtain ⟨a', ha'⟩ := zipIdx_lk fi.cells N y hy
  rw [cells_lookup hn nd ha']; rfl
/-- the frame that a call opens -/
theorem frame_new (r : R c fa φ σ s) {a : Nat} {fi : FnI} (hfi : (a, fi) ∈ fnT) {bs : List (Nat × AV)} {binds : List (Str × Value)} (hb : BindR c φ bs binds) (hnd : (bs.map (·.1)).Nodup) (hsub : ∀ p ∈ bs, p.1 ∈ fi.params)
    {qual : Str} {fn : Option Addr} {code : Value}
    (henv : env = newEnv (scp fi.sc) s.heap.objs.size 3 (cellsFrom (s.heap.objs.size + 1) (scp fi.sc).names []) qual fn code none 0)
    (hin : InCallC s env.locals (bindL env.kindOf binds fun _ => none) env.cells (bindC env.kindOf binds fun _ => none) s') (hs : s.heap.objs.size ≤ s'.heap.objs.size) (hkind : (scp fi.sc).kind = .function) :
    ∃ f : FA, f.C = none ∧ EnvOk (scp fi.sc) f false env ∧ R c (f :: fa) φ (σ.push (frameOf fi.cells bs)) s' := by
  have hpar : parOk fi = true := List.all_eq_true.mp par_all _ hfi
  unfold parOk at hpar
  simp only [Bool.and_eq_true, decide_eq_true_eq, List.all_eq_true] at hpar
  obtain ⟨⟨⟨⟨hp1, hp2⟩, hp3⟩, hp4⟩, _⟩ := hpar
  have hcl := cells_all _ hfi (s.heap.objs.size + 1)
  have hcl : cellsFrom (s.heap.objs.size + 1) (scp fi.sc).names [] = ((fi.cells.zipIdx (s.heap.objs.size + 1)).map fun q => (nm q.1, q.2)).reverse := hcl
  have hcn : ∀ x ∈ fi.cells, x < nmN := fun x hx => Nat.le_of_ble_eq_true (hp4 x hx)
  have hsc : env.scope = scp fi.sc := by rw [henv]; rfl
  have hL : env.locals = s.heap.objs.size := by rw [henv]; rfl
  have hC : env.cells = ((fi.cells.zipIdx (s.heap.objs.size + 1)).map fun q => (nm q.1, q.2)).reverse := by rw [henv]; exact hcl
  have hK : ∀ p ∈ bs, p.1 < nmN ∧ (if inL p.1 fi.cells then env.kindOf (nm p.1) = some .cell else env.kindOf (nm p.1) = some .local) := by
    intro p hp
    have := hp3 p.1 (hsub p hp)
    refine ⟨Nat.le_of_ble_eq_true this.1, ?_⟩
    have h2 := this.2
    unfold Env.kindOf; rw [hsc]
    cases e : inL p.1 fi.cells with
    | true => rw [e] at h2; exact eq_of_beq h2
    | false => rw [e] at h2; exact eq_of_beq h2
  refine ⟨⟨s.heap.objs.size, fi.cells.zipIdx (s.heap.objs.size + 1), none⟩, rfl, ⟨hsc, hkind, fun _ => hL, (fun h => by cases h), (fun x a ha _ => ?_), (fun x hx => ?_), (by rw [henv]; rfl), (by rw [henv]; rfl)⟩, ?_⟩
  · rw [hC]; exact cells_lookup hcn hp2 ha
  · rw [hC]; exact cells_full hfi hcn hp2 hx
  have g := inCall_grows hin hs
  have r' := r.grow g
  have own : (⟨s.heap.objs.size, fi.cells.zipIdx (s.heap.objs.size + 1), none⟩ : FA).own = s.heap.objs.size :: (fi.cells.zipIdx (s.heap.objs.size + 1)).map (·.2) := by
    show s.heap.objs.size :: (_ ++ []) = _; rw [List.append_nil]
  have hge : ∀ x ∈ (⟨s.heap.objs.size, fi.cells.zipIdx (s.heap.objs.size + 1), none⟩ : FA).own, s.heap.objs.size ≤ x := by
    intro x hx
    rw [own] at hx
    rcases List.mem_cons.mp hx with rfl | hx
    · exact Nat.le_refl _
    · obtain ⟨q, hq, rfl⟩ := List.mem_map.mp hx
      exact Nat.le_of_succ_le (zipIdx_ge _ _ q hq)
  have hlt : ∀ x ∈ (⟨s.heap.objs.size, fi.cells.zipIdx (s.heap.objs.size + 1), none⟩ : FA).own, x < s'.heap.objs.size := by
    intro x hx
    rw [own] at hx
    rcases List.mem_cons.mp hx with rfl | hx
    · obtain ⟨o, es, ep, ho, _⟩ := hin.toInCall.ns
      rw [hL] at ho; exact Heap.lt_size ho
    · obtain ⟨q, hq, rfl⟩ := List.mem_map.mp hx
      have hm : (nm q.1, q.2) ∈ env.cells := by rw [hC]; exact List.mem_reverse.mpr (List.mem_map.mpr ⟨q, hq, rfl⟩)
      have hlk : env.cells.lookup (nm q.1) = some q.2 := by
        obtain ⟨a', ha'⟩ := zipIdx_lk fi.cells (s.heap.objs.size + 1) q.1 (by have := zipIdx_fst fi.cells (s.heap.objs.size + 1); rw [← this]; exact List.mem_map.mpr ⟨q, hq, rfl⟩)
        rw [hC, lookup_unique ?_ (List.mem_reverse.mpr (List.mem_map.mpr ⟨q, hq, rfl⟩))]
        rw [List.map_reverse, (List.reverse_perm _).nodup_iff, List.map_map]
        have : ((fun x : Str × Addr => x.1) ∘ fun q : Nat × Nat => (nm q.1, q.2)) = nm ∘ (·.1) := rfl
        rw [this, ← List.map_map, zipIdx_fst]
        exact mem_nm hcn hp2
      obtain ⟨o, ho, _⟩ := hin.cell _ _ hlk
      exact Heap.lt_size ho
  refine ⟨r'.obj, r'.frz, r'.len, ?_, ?_, ?_, r'.keep, .cons ⟨?_, ?_, (fun C h => by cases h)⟩ r'.fr, r'.gens, r'.dr, r'.os⟩
  · unfold owns
    rw [List.flatMap_cons]
    have hdis : ∀ x ∈ (⟨s.heap.objs.size, fi.cells.zipIdx (s.heap.objs.size + 1), none⟩ : FA).own, x ∉ owns φ fa := fun x hx hm => absurd (r.lt x hm) (Nat.not_lt.mpr (hge x hx))
    have hown : (⟨s.heap.objs.size, fi.cells.zipIdx (s.heap.objs.size + 1), none⟩ : FA).own.Nodup := by
      rw [own, List.nodup_cons]
      refine ⟨fun hm => ?_, zipIdx_nodup _ _⟩
      obtain ⟨q, hq, e⟩ := List.mem_map.mp hm
      have h2 := zipIdx_ge _ _ q hq
      have e : q.2 = s.heap.objs.size := e
      omega
    have perm : (φ ++ ((⟨s.heap.objs.size, fi.cells.zipIdx (s.heap.objs.size + 1), none⟩ : FA).own ++ fa.flatMap FA.own)).Perm ((⟨s.heap.objs.size, fi.cells.zipIdx (s.heap.objs.size + 1), none⟩ : FA).own ++ owns φ fa) := by
      unfold owns
      rw [← List.append_assoc, ← List.append_assoc]
      exact List.Perm.append_right _ List.perm_append_comm
    rw [perm.nodup_iff, List.nodup_append]
    exact ⟨hown, r.nod, fun x hx y hy e => hdis x hx (e ▸ hy)⟩
  · intro x hx
    unfold owns at hx
    rw [List.flatMap_cons] at hx
    rcases List.mem_append.mp hx with h | h
    · exact r'.lt x (List.mem_append_left _ h)
    · rcases List.mem_append.mp h with h | h
      · exact hlt x h
      · exact r'.lt x (List.mem_append_right _ h)
  · intro x hx
    unfold owns at hx
    rw [List.flatMap_cons] at hx
    rcases List.mem_append.mp hx with h | h
    · exact r.new x (List.mem_append_left _ h)
    · rcases List.mem_append.mp h with h | h
      · exact fun o q => absurd (Heap.lt_size (r.keep _ o q)) (Nat.not_lt.mpr (hge x h))
      · exact r.new x (List.mem_append_right _ h)
  · refine ⟨_, by have := hin.toInCall.ns; rw [hL] at this; exact this, fun x hx => ?_⟩
    have := bindL_ok (K := env.kindOf) (cells := fi.cells) (fun _ => none) hb hnd hK x hx
    show OV c φ (lk (notIn fi.cells bs) x) _
    cases e : lk (notIn fi.cells bs) x with
    | none => rw [e] at this; exact this
    | some v => rw [e] at this; exact this
  · intro x o e
    obtain ⟨hx, rfl⟩ := mkCells_lk bs fi.cells x o e
    obtain ⟨a', ha'⟩ := zipIdx_lk fi.cells (s.heap.objs.size + 1) x hx
    have hlk : env.cells.lookup (nm x) = some a' := by rw [hC]; exact cells_lookup hcn hp2 ha'
    refine ⟨a', _, ha', hin.cell _ _ hlk, ?_⟩
    have := bindC_ok (K := env.kindOf) (cells := fi.cells) (fun _ => none) hb hnd hK x (hcn x hx) ((inL_mem x fi.cells).mpr hx)
    cases e : lk bs x with
    | none => rw [e] at this; exact this
    | some v => rw [e] at this; exact this
/-- back from a frame -/
theorem R.pop {f : FA} (r : R c (f :: fa) φ σ s) (h : σ.pop = some σ') : R c fa φ σ' s := by
  obtain ⟨t, m, g, fm, fs⟩ := σ
  cases fs with
  | nil => cases h
  | cons f0 fs =>
    cases h
    refine ⟨r.obj, r.frz, r.len, ?_, fun a m => r.lt a ?_, fun a m => r.new a ?_, r.keep, ?_, r.gens, r.dr, r.os⟩
    · have := r.nod
      unfold owns at this ⊢
      rw [List.flatMap_cons] at this
      exact this.sublist (List.Sublist.append (List.Sublist.refl _) (List.sublist_append_right _ _))
    · unfold owns at m ⊢
      rw [List.flatMap_cons]
      rcases List.mem_append.mp m with h | h
      · exact List.mem_append_left _ h
      · exact List.mem_append_right _ (List.mem_append_right _ h)
    · unfold owns at m ⊢
      rw [List.flatMap_cons]
      rcases List.mem_append.mp m with h | h
      · exact List.mem_append_left _ h
      · exact List.mem_append_right _ (List.mem_append_right _ h)
    · cases r.fr with
      | cons _ rest => exact rest

theorem AOk.in1 {n : Nat} (h : AOk (n + 1) A) : AOk n A.in1 := ⟨h.hh, by have := h.depth; show A.depth + 5 * n ≤ 900; omega, by have := h.units; show A.units + 1 + 20 * n ≤ 5000; omega⟩
theorem AOk.deeper {n : Nat} (h : AOk (n + 1) A) (env : Env) : AOk n (A.deeper env) := ⟨h.hh, by have := h.depth; show A.depth + 1 + 5 * n ≤ 900; omega, by have := h.units; show A.units + 3 + 20 * n ≤ 5000; omega⟩
theorem AOk.mono {n m : Nat} (h : AOk n A) (hm : m ≤ n) : AOk m A := ⟨h.hh, by have := h.depth; omega, by have := h.units; omega⟩
theorem zip_sub : ∀ (ps : List Nat) (vs : List AV) (p : Nat × AV), p ∈ zipN ps vs → p.1 ∈ ps
  | [], vs, p, h => by cases vs <;> cases h
  | x :: ps, [], p, h => by cases h
  | x :: ps, v :: vs, p, h => by
    rcases List.mem_cons.mp h with rfl | h
    · exact List.mem_cons_self
    · exact List.mem_cons_of_mem _ (zip_sub ps vs p h)
theorem binds_kind {fi : FnI} {a : Nat} (hfi : (a, fi) ∈ fnT) {bs : List (Nat × AV)} {binds : List (Str × Value)} (hb : BindR c φ bs binds) (hsub : ∀ p ∈ bs, p.1 ∈ fi.params) (N : Nat) :
    ∀ x ∈ binds, (scp fi.sc).names.lookup x.1 = some .local ∨ ((scp fi.sc).names.lookup x.1 = some .cell ∧ ((cellsFrom N (scp fi.sc).names []).lookup x.1).isSome = true) := by
  have hpar : parOk fi = true := List.all_eq_true.mp par_all _ hfi
  unfold parOk at hpar
  simp only [Bool.and_eq_true, decide_eq_true_eq, List.all_eq_true] at hpar
  obtain ⟨⟨⟨⟨hp1, hp2⟩, hp3⟩, hp4⟩, _⟩ := hpar
  have hcl : cellsFrom N (scp fi.sc).names [] = ((fi.cells.zipIdx N).map fun q => (nm q.1, q.2)).reverse := cells_all _ hfi N
  intro x hx
  obtain ⟨i, hi, hxi⟩ := List.getElem_of_mem hx
  have hlen := All2.length hb
  have hbi : bs[i]? = some (bs[i]'(by omega)) := List.getElem?_eq_getElem _
  obtain ⟨q, hq, h1, h2⟩ := All2.get? hb hbi
  have hq' : q = x := by rw [List.getElem?_eq_getElem hi] at hq; cases hq; exact hxi
  subst hq'
  have h3 := hp3 _ (hsub (bs[i]'(by omega)) (List.getElem_mem _))
  rw [h1]
  cases e : inL (bs[i]'(by omega)).1 fi.cells with
  | true =>
    rw [e] at h3
    refine .inr ⟨eq_of_beq h3.2, ?_⟩
    obtain ⟨a', ha'⟩ := zipIdx_lk fi.cells N _ ((inL_mem _ _).mp e)
    rw [hcl, cells_lookup (fun x hx => Nat.le_of_ble_eq_true (hp4 x hx)) hp2 ha']; rfl
  | false => rw [e] at h3; exact .inl (eq_of_beq h3.2)
/-- a def is called -/
theorem okc_call {n : Nat} (B : Base c k) (hA : AOk (n + 1) A) {a : Nat} {fi : FnI} (e : lk fnT a = some fi) (hgen : (scp fi.sc).isGenerator = false) {args : List AV} {fr : FM} (h : bindFn fi args = some fr) {us : List Value} (hv : All2 (VR c φ) args us)
    {fl : Fl} {v : AV} (hbody : ∀ f env, f.C = none → EnvOk (scp fi.sc) f false env → Ok c (f :: fa) (A.deeper env) (execs (fi.body.map (trS 30)) env) φ (σ.push fr) τ (fun φ' x => FlR c φ' fl x))
    (hr : retV fl = some v) (hp : τ.pop = some σ') {Q : Value → Shared → Prop} {E : Value → Shared → Prop} (r : R c fa φ σ s) (q : ∀ φ' s' u, φ <+: φ' → R c fa φ' σ' s' → VR c φ' v u → Q u s') :
    codeAny (model pw c.w) A (.call (.ref a) ⟨us, []⟩) (fun r s' => match r with | .ok (.ret v) => Q v s' | .ok _ => False | .error e => E e s') s := by
  obtain ⟨D, hbd⟩ := fn_ok c e
  obtain ⟨bs, binds, hbi, hb, rfl, hbs⟩ := hbd φ s (r.ks B) h hv
  have X := r.ks B
  have hfi := lk_in e
  have hpar : parOk fi = true := List.all_eq_true.mp par_all _ hfi
  have hnd : (bs.map (·.1)).Nodup := by
    have hbs : bs.map (·.1) = fi.params := hbs
    rw [hbs]
    unfold parOk at hpar
    simp only [Bool.and_eq_true, decide_eq_true_eq] at hpar
    exact hpar.1.1.1.1
  have hsub : ∀ p ∈ bs, p.1 ∈ fi.params := fun p hp => by
    have hbs : bs.map (·.1) = fi.params := hbs
    rw [← hbs]; exact List.mem_map.mpr ⟨p, hp, rfl⟩
  refine codeAny_call_function (fd := fdA c.w.params a) (o := obA c.w.params a) (by have := hA.depth; show A.depth < 1000; omega) (X _ _ D.look) D.data (by rw [D.scope]; exact D.co) (by rw [D.scope]; exact hgen) D.body (codeRec_of X D.code) (hbi.b _ _ _ _ ?_)
  rw [D.scope, D.glo, D.clo, D.bui]
  refine wpAny_with_size (wpAny_newFunctionEnv_cells D.kind (fun x hx => ?_) (fun env henv s1 hin hs => ⟨ks_noLimit (X.keeps hin.toInCall.keep), codeAny_func ?_⟩))
  · exact binds_kind hfi hb hsub _ x hx
  · obtain ⟨f, hf, he, r1⟩ := frame_new r hfi hb hnd hsub henv hin hs D.kind
    refine hbody f env hf he _ _ s1 r1 fun φ' s2 x p r2 hx => ?_
    refine q φ' s2 _ p (r2.pop hp) ?_
    cases fl with
    | next => cases hr; obtain rfl := hx; rfl
    | brk => cases hr
    | ret w => cases hr; obtain ⟨u, rfl, hu⟩ := hx; exact hu
theorem ok_call {n : Nat} (B : Base c k) (hA : AOk (n + 1) A) {a : Nat} {fi : FnI} (e : lk fnT a = some fi) (hgen : (scp fi.sc).isGenerator = false) {args : List AV} {fr : FM} (h : bindFn fi args = some fr) {us : List Value} (hv : All2 (VR c φ) args us)
    {fl : Fl} {v : AV} (hbody : ∀ f env, f.C = none → EnvOk (scp fi.sc) f false env → Ok c (f :: fa) (A.deeper env) (execs (fi.body.map (trS 30)) env) φ (σ.push fr) τ (fun φ' x => FlR c φ' fl x))
    (hr : retV fl = some v) (hp : τ.pop = some σ') : OkV c fa A (call (.ref a) us) φ σ σ' v :=
  fun Q E s r q => wpAny_call (okc_call B hA e hgen h hv hbody hr hp r q)
end
end Mine
set_option maxRecDepth 100000
namespace Mine
noncomputable section
open PySem PySem.W PyProof.Rows
variable {c : Cx} {k : FC} {f : FA} {fa : List FA} {φ : List Addr} {σ σ' τ : AS} {s s' : Shared} {A : Around} {o : Scope} {b : Bool} {env : Env} {m : Nat}

/-! ### the shape of what is read back -/
theorem tr_star {e : FE} (w : wfE m o e = true) (rest : List PySem.Expr) : starEach (trE m e :: rest) env = (false, eval (trE m e) env) :: starEach rest env := by
  cases m with
  | zero => cases w
  | succ m => cases e <;> first | rfl | cases w
theorem tr_stars : ∀ {l : List FE}, l.all (wfE m o) = true → starEach (l.map (trE m)) env = l.map fun e => (false, eval (trE m e) env)
  | [], _ => rfl
  | e :: r, w => by
    have w := Bool.and_eq_true_iff.mp w
    rw [List.map_cons, tr_star w.1, tr_stars w.2]; rfl
theorem backTo_plain (p : Pos) : ∀ (l : List FE) (f : FE → Sem Value), backTo p (l.map fun e => (false, f e)) = l.map fun e => (false, f e)
  | [], _ => rfl
  | e :: r, f => by
    have ih := backTo_plain p r f
    unfold backTo at ih ⊢
    rw [List.map_cons, List.map_cons, ih]; rfl
theorem tr_base {e : FE} (w0 : wfE m o e = true) (w : isCallE e = false) (x : Str) (t : Sem Value) : attributeBase (trE m e) x env t = t := by
  cases m with
  | zero => cases w0
  | succ m => cases e <;> first | rfl | (cases w; done) | (cases w0; done)
theorem tr_sub {e : FE} (w : wfE m o e = true) (u v : Value) : subscripted (trE m e) false u v = operate [u, v] (getItem u v) := by
  cases m with
  | zero => cases w
  | succ m => cases e <;> first | rfl | (cases w; done)
theorem tr_callee {g : FE} (w : wfE m o g = true) (w2 : calleeOk g = true) (pos : Pos) (l : List PySem.Expr) : eval (.Call (trE m g) l [] pos) env = (do callWith pos (← eval (trE m g) env) [] (backTo pos (starEach l env)) []) := by
  cases m with
  | zero => cases w
  | succ m => cases g <;> first | rfl | (cases w2; done)

/-! ### arguments -/
theorem ok_evs {I : IP} (hev : ∀ e φ σ v σ', wfE m o e = true → I.ev e b σ = some (v, σ') → OkV c (f :: fa) A (eval (trE m e) env) φ σ σ' v) :
    ∀ {l : List FE} {φ : List Addr} {σ σ' : AS} {vs : List AV}, l.all (wfE m o) = true → evs I b l σ = some (vs, σ') → Ok c (f :: fa) A (spliced (l.map fun e => (false, eval (trE m e) env))) φ σ σ' fun φ' us => All2 (VR c φ') vs us
  | [], φ, σ, σ', vs, _, h => by
    obtain ⟨rfl, rfl⟩ := ret_eq h
    exact fun Q E s r q => Calls.spliced_nil (q φ s [] (List.prefix_refl _) r .nil)
  | e :: l, φ, σ, σ', vs, w, h => by
    have w := Bool.and_eq_true_iff.mp w
    obtain ⟨v, σ1, h1, h2⟩ := bnd_eq h
    obtain ⟨ws, σ2, h3, h4⟩ := bnd_eq h2
    obtain ⟨rfl, rfl⟩ := ret_eq h4
    intro Q E s r q
    refine Calls.spliced_cons (hev e φ σ v σ1 w.1 h1 _ E s r fun φ1 s1 u p1 r1 hv => ?_)
    refine ok_evs hev w.2 h3 _ E s1 r1 fun φ2 s2 us p2 r2 hus => ?_
    exact q φ2 s2 (u :: us) (p1.trans p2) r2 (.cons (hv.mono p2) hus)
theorem evalArgs_all {M : Model} {E : Value → Shared → Prop} {g : Value} {L : List (Bool × Sem Value)} (hL : ∀ x ∈ L, x.1 = false) {Q : Args → Shared → Prop} (h : wpAny M A (spliced L) (fun vs s' => Q ⟨vs, []⟩ s') E s) : wpAny M A (evalArgs g true L []) Q E s := by
  rcases L with _ | ⟨⟨st, x⟩, r⟩
  · unfold evalArgs
    show wpAny M A (spliced [] >>= _) Q E s
    refine wpAny_bind (wpAny_mono h (fun vs s' h' => ?_) fun _ _ x => x)
    refine wpAny_holding ?_
    exact wpAny_bind (wpAny_pure (wpAny_bind (wpAny_pure (wpAny_pure h'))))
  · have := hL (st, x) List.mem_cons_self
    cases this
    exact Calls.evalArgs_plain h
/-- who keeps the operands, told by looking alone -/
def Kept (c : Cx) (s : Shared) (g : Value) : Prop := ∀ (A : Around) (E : Value → Shared → Prop) (Q : Keeper → Shared → Prop), (∀ k, Q k s) → wpAny (model pw c.w) A (keeperOf g) Q E s
theorem callWith_kept {g : Value} {first : List Value} {L : List (Bool × Sem Value)} (hL : ∀ x ∈ L, x.1 = false) {p : Pos} {E : Value → Shared → Prop} {Q : Value → Shared → Prop}
    (h : wpAny (model pw c.w) A (spliced L) (fun vs s' => Kept c s' g ∧ wpAny (model pw c.w) A (call g (first ++ vs)) Q E s') E s) : wpAny (model pw c.w) A (callWith p g first L []) Q E s := by
  unfold callWith
  refine wpAny_bind (wpAny_holding (evalArgs_all hL (wpAny_mono h (fun vs s1 h1 => wpAny_bind (wpAny_standAt ?_)) fun _ _ e => e)))
  have hst : (L.any (·.1) || ([] : List (Option Str × Sem Value)).any (·.1.isNone)) = false := by
    rw [List.any_nil, Bool.or_false, List.any_eq_false]
    intro x hx; rw [hL x hx]; decide
  dsimp only
  rw [hst]
  have tail : ∀ {t : Sem Value}, wpAny (model pw c.w) A t Q E s1 → wpAny (model pw c.w) A (t >>= fun r => holding [r] point >>= fun _ => pure r) Q E s1 :=
    fun ht => wpAny_bind (wpAny_mono ht (fun r s₂ hr => wpAny_bind (wpAny_holding (wpAny_point (wpAny_pure hr)))) fun _ _ x => x)
  refine wpAny_bind (h1.1 A E _ fun k => ?_)
  have hc := h1.2
  cases k with
  | frame =>
    dsimp only
    split
    · exact tail hc
    · exact tail (by unfold callMarked; exact Calls.wpAny_keep hc)
  | boundFrame =>
    dsimp only
    split
    · exact tail hc
    · exact tail (by unfold callMarked; exact Calls.wpAny_keep hc)
  | machine => exact tail hc
  | caller => exact tail (wpAny_operating hc)
end
end Mine
set_option maxRecDepth 100000
namespace Mine
noncomputable section
open PySem PySem.W PyProof.Rows
variable {c : Cx} {k : FC} {f : FA} {fa : List FA} {φ : List Addr} {σ σ' τ : AS} {s s' : Shared} {A : Around} {o : Scope} {b : Bool} {env : Env} {m : Nat}

def isNN : Option (Option Value) → Bool
  | some none => true
  | _ => false
theorem isNN_eq {x : Option (Option Value)} (h : isNN x = true) : x = some none := by
  rcases x with _ | _ | _ <;> first | rfl | cases h
def clsL : List Nat := [186, 336, 110, 390, 356, 264]
theorem attrs_free (P : Params) : (clsL.all fun C => attrNames.all fun x => isNN (findIn (KS P) (.ref C) (nm x))) = true := by kernel_rfl
def dictCls (K : Frag) (C : Nat) : Bool := match clsIn K C with
  | some cd => cd.hasDict
  | none => false
def isOGA : Option (Option Value) → Bool
  | some (some (.builtin i)) => i == "object.__getattribute__"
  | _ => false
theorem isOGA_eq {x : Option (Option Value)} (h : isOGA x = true) : x = some (some (.builtin "object.__getattribute__")) := by
  rcases x with _ | _ | v
  · cases h
  · cases h
  · cases v <;> first | (rw [show _ = _ from eq_of_beq h]; done) | cases h
def instL : List Nat := [186, 336, 110, 390, 356]
theorem cls_dict (P : Params) : (instL.all fun C => dictCls (KS P) C && isOGA (findIn (KS P) (.ref C) "__getattribute__") && isNN (findIn (KS P) (.ref C) "__getattr__")) = true := by kernel_rfl
theorem ga264 (P : Params) : findIn (KS P) (.ref 264) "__getattribute__" = some (some (.builtin "list.__getattribute__")) := by kernel_rfl
theorem gt264 (P : Params) : isNN (findIn (KS P) (.ref 264) "__getattr__") = true := by kernel_rfl
theorem dc264 (P : Params) : dictCls (KS P) 264 = true := by kernel_rfl

theorem ns_look {h : Heap} {a : Addr} {mm : Str → Option Value} (n : h.Ns a mm) : ∃ od, h.get? a = some od ∧ ∀ name, lookIn name od = some (mm name) := by
  obtain ⟨o, es, ep, ho, hd, hk, hf⟩ := n
  refine ⟨o, ho, fun name => ?_⟩
  unfold lookIn
  rw [hd]
  dsimp only
  have h2 := hf name
  unfold nsFind findBy at h2
  rw [← Array.find?_toList] at h2
  cases e : es.toList.find? (fun x => x.key.isStr name) with
  | some x => rw [e] at h2; rw [← h2]; rfl
  | none =>
    rw [e] at h2
    have hr : es.toList.any (·.refKey) = false := by
      rw [List.any_eq_false]
      intro x hx
      obtain ⟨n', t, hk'⟩ := hk x (by simpa using hx)
      unfold DictEntry.refKey; rw [hk']; exact Bool.false_ne_true
    rw [hr, ← h2]; rfl
theorem handed_ok {v : AV} {u : Value} (h : VR c φ v u) : handedIn u = true := by
  cases v with
  | bi x =>
    obtain rfl := h
    show (withoutEnding? (biN x) "#data").isNone = true
    unfold biN
    have h1 : (withoutEnding? "len" "#data").isNone = true := by decide +kernel
    have h2 : (withoutEnding? "isinstance" "#data").isNone = true := by decide +kernel
    have h3 : (withoutEnding? "callable" "#data").isNone = true := by decide +kernel
    have h4 : (withoutEnding? "hasattr" "#data").isNone = true := by decide +kernel
    cases Nat.beq x 45 with
    | true => exact h1
    | false =>
      cases Nat.beq x 16 with
      | true => exact h2
      | false =>
        cases Nat.beq x 18 with
        | true => exact h3
        | false => exact h4
  | none => obtain rfl := h; rfl
  | bool b => obtain rfl := h; rfl
  | int i => obtain ⟨t, rfl⟩ := h; rfl
  | sym e => obtain ⟨t, rfl⟩ := h; rfl
  | slen => obtain ⟨t, rfl⟩ := h; rfl
  | str x => obtain ⟨t, rfl⟩ := h; rfl
  | ref i => obtain ⟨a, _, rfl⟩ := h; rfl
  | st a => obtain rfl := h; rfl
  | ty x => obtain rfl := h; rfl
theorem attr_nm {x : Nat} (h : inL x attrNames = true) : x < nmN := by
  have h2 : (attrNames.all fun x => decide (x < nmN)) = true := by decide +kernel
  exact of_decide_eq_true (List.all_eq_true.mp h2 x ((inL_mem x _).mp h))
theorem inst_attr (B : Base c k) (r : R c fa φ σ s) {C a d' : Nat} {ox : Obj} {x : Nat} (hC : C ∈ instL) (hx : inL x attrNames = true) {es : List (Nat × AV)} {v : AV} (ho : s.heap.get? a = some ox) (hcl : ox.cls = .ref C) (hn : notCls ox = true) (hd : ox.dict = some d')
    (hns : NsR c φ s.heap d' es) (hv : lk es x = some v) {Q : Value → Shared → Prop} {E} {ex : Bool} (q : ∀ u tk, VR c φ v u → Q u { s with toks := tk }) : wpAny (model pw c.w) A (getAttr (.ref a) (nm x) ex) Q E s := by
  obtain ⟨mm, hm, hq⟩ := hns
  obtain ⟨od, hod, hlk⟩ := ns_look hm
  have hvx := hq x (attr_nm hx)
  rw [hv] at hvx
  obtain ⟨u, hu, hvr⟩ := hvx
  have X := r.ks B
  have hst := List.all_eq_true.mp (cls_dict c.w.params) C hC
  simp only [Bool.and_eq_true] at hst
  have hfree := isNN_eq (List.all_eq_true.mp (List.all_eq_true.mp (attrs_free c.w.params) C (by simp [instL] at hC; simp [clsL]; omega)) x ((inL_mem x _).mp hx))
  obtain ⟨cd, hcd, hhd⟩ : ∃ cd, clsIn (KS c.w.params) C = some cd ∧ cd.hasDict = true := by
    have := hst.1.1
    unfold dictCls at this
    cases e : clsIn (KS c.w.params) C with
    | none => rw [e] at this; cases this
    | some cd => rw [e] at this; exact ⟨cd, rfl, this⟩
  have I : InstAt s.heap a ox C (some od) := ⟨ho, hcl, hn, by rw [hd]; exact hod⟩
  refine get_value X I (isOGA_eq hst.1.2) ?_ (handed_ok hvr) (q u _ hvr)
  unfold findObj
  rw [hcd, Option.bind_some, hfree, Option.bind_some, Option.bind_some, Option.bind_some]
  dsimp only
  unfold W.ownOf
  rw [if_pos hhd]
  dsimp only
  rw [hlk, hu]; rfl
theorem dom_attr (B : Base c k) (r : R c fa φ σ s) {a d' : Nat} {vs : Array Value} {n : Nat} {x : Nat} (hx : inL x attrNames = true) {es : List (Nat × AV)} {v : AV} (ho : s.heap.get? a = some (domO d' vs n))
    (hns : NsR c φ s.heap d' es) (hv : lk es x = some v) {Q : Value → Shared → Prop} {E} {ex : Bool} (q : ∀ u tk, VR c φ v u → Q u { s with toks := tk }) : wpAny (model pw c.w) A (getAttr (.ref a) (nm x) ex) Q E s := by
  obtain ⟨mm, hm, hq⟩ := hns
  obtain ⟨od, hod, hlk⟩ := ns_look hm
  have hvx := hq x (attr_nm hx)
  rw [hv] at hvx
  obtain ⟨u, hu, hvr⟩ := hvx
  have X := r.ks B
  have hfree := isNN_eq (List.all_eq_true.mp (List.all_eq_true.mp (attrs_free c.w.params) 264 (by simp [clsL])) x ((inL_mem x _).mp hx))
  obtain ⟨cd, hcd, hhd⟩ : ∃ cd, clsIn (KS c.w.params) 264 = some cd ∧ cd.hasDict = true := by
    have := dc264 c.w.params
    unfold dictCls at this
    cases e : clsIn (KS c.w.params) 264 with
    | none => rw [e] at this; cases this
    | some cd => rw [e] at this; exact ⟨cd, rfl, this⟩
  have I : InstAt s.heap a (domO d' vs n) 264 (some od) := ⟨ho, rfl, rfl, hod⟩
  have hfind : findObj (KS c.w.params) 264 (some od) (nm x) = some (.value u) := by
    unfold findObj
    rw [hcd, Option.bind_some, hfree, Option.bind_some, Option.bind_some, Option.bind_some]
    dsimp only
    unfold W.ownOf
    rw [if_pos hhd]
    dsimp only
    rw [hlk, hu]; rfl
  have L0 := dom_type ho (model pw c.w)
  have L1 := looks_findIn (M := model pw c.w) X (ga264 c.w.params)
  have L2 := looks_find (M := model pw c.w) X I hfind
  have L3 := looks_hook (M := model pw c.w) (mc := .ref 264) X (r := none) (by rw [if_pos (by rfl)]; exact isNN_eq (gt264 c.w.params))
  unfold getAttr getAttrBy
  refine wpAny_bind (wpAny_mkText (wpAny_holding (wpAny_bind (L0 _ _ _ _ (fun _ _ e => e) (wpAny_bind (L1 _ _ _ _ (fun _ _ e => e) ?_))))))
  dsimp only
  rw [if_neg (by decide)]
  unfold getAttrByItsOwn
  refine wpAny_bind (L3 _ _ _ _ (fun _ _ e => e) (wpAny_bind (wpAny_attempt (wpAny_holding ?_))))
  unfold callGetattribute
  rw [show (ex && onTheHeap (Value.builtin "list.__getattribute__")) = false from Bool.and_false _, if_neg (by decide)]
  unfold boundAndCalled
  rw [F.slot_list_getattribute.bind]
  refine wpAny_bind (wpAny_pure ?_)
  show wpAny _ _ (call (.builtin "list.__getattribute__") [.ref a, .str (nm x) s.toks]) _ _ _
  refine call_dom' (s := { s with toks := s.toks + 1 }) (nn := "__getattribute__") X ho (.inl (by decide +kernel)) (by decide +kernel) (F.args_list_getattribute_2 _ _) (by decide +kernel) am_entry_list_getattribute ?_
  unfold Builtin.«object.__getattribute__»
  refine wpAny_bind (wpAny_pure (wpAny_bind (wpAny_pure (wpAny_bind (L0 _ _ _ _ (fun _ _ e => e) (wpAny_bind (L2 _ _ _ _ (fun _ _ e => e) ?_)))))))
  refine wpAny_pure ⟨u, rfl, ?_⟩
  show wpAny _ _ (handedOut u) _ _ _
  rw [handedOut_of (handed_ok hvr)]
  exact wpAny_pure (q u _ hvr)
/-- a name of an object is read -/
theorem ok_attr (B : Base c k) {x : Nat} (hx : inL x attrNames = true) {v w : AV} (h : attrOp v x σ = some w) {u : Value} (hv : VR c φ v u) {ex : Bool} : OkV c fa A (getAttr u (nm x) ex) φ σ σ w := by
  intro Q E s r q
  obtain ⟨i, hi, h2⟩ := ob_eq h
  obtain ⟨ob1, g1, h3⟩ := ob_eq h2
  obtain ⟨d, hd, h4⟩ := ob_eq h3
  obtain ⟨es, he, h5⟩ := ob_eq h4
  obtain rfl := isRef_eq hi
  obtain ⟨a, ha, rfl⟩ := hv
  obtain ⟨a', ha', ho⟩ := r.obj _ _ g1
  rw [ha] at ha'; cases ha'
  obtain ⟨ob2, g2, e2⟩ := ob_eq he
  cases ob2 <;> try cases e2
  obtain ⟨d', hd', hns⟩ := r.obj _ _ g2
  cases ob1 with
  | inst C d0 =>
    obtain ⟨hC, hd⟩ := br_none hd
    cases hd
    obtain ⟨b, hb, hob⟩ := ho
    rw [hd'] at hb; cases hb
    exact inst_attr B r ((inL_mem _ _).mp hC) hx hob rfl rfl rfl hns h5 fun u tk hu => q φ _ u (List.prefix_refl _) (r.toks tk) hu
  | dom d0 xs =>
    cases hd
    obtain ⟨_, b, vs, n, hb, hob, _⟩ := ho
    rw [hd'] at hb; cases hb
    exact dom_attr B r hx hob hns h5 fun u tk hu => q φ _ u (List.prefix_refl _) (r.toks tk) hu
  | _ => cases hd
end
end Mine
set_option maxRecDepth 100000
namespace Mine
noncomputable section
open PySem PySem.W PyProof.Rows
variable {c : Cx} {k : FC} {f : FA} {fa : List FA} {φ : List Addr} {σ σ' τ : AS} {s s' : Shared} {A : Around} {o : Scope} {b : Bool} {env : Env} {m : Nat}

def pairs (m : Nat) (env : Env) (args : List FE) : List (Bool × Sem Value) := args.map fun e => (false, eval (trE m e) env)
theorem pairs_plain (m : Nat) (env : Env) (args : List FE) : ∀ x ∈ pairs m env args, x.1 = false := by
  intro x hx
  obtain ⟨e, _, rfl⟩ := List.mem_map.mp hx
  rfl
theorem tr_args {args : List FE} (w : args.all (wfE m o) = true) (p : Pos) : backTo p (starEach (args.map (trE m)) env) = pairs m env args := by
  rw [tr_stars w, backTo_plain]; rfl
/-- x.name(args): the callee is sought, the arguments follow -/
theorem meth_rule {a : FE} {x : Nat} {ap p : Pos} {args : List FE} {M : Model} (w0 : wfE m o a = true) (wc : isCallE a = false) (wa : args.all (wfE m o) = true) (hl : (ap.endLine == p.line) = true) (hn : args.length < 20) {Q : Value → Shared → Prop} {E : Value → Shared → Prop}
    (h : wpAny M A (eval (trE m a) env) (fun ov s1 => ∀ pl, wpAny M A (getMethod ov (nm x) pl) (fun fr s2 => wpAny M A (callWith p fr.1 fr.2 (pairs m env args) []) Q E s2) E s1) E s) :
    wpAny M A (eval (.Call (.Attribute (trE m a) (nm x) ap) (args.map (trE m)) [] p) env) Q E s := by
  rw [arm_eval_Call, tr_base w0 wc, tr_args wa]
  refine wpAny_bind (wpAny_mono h (fun ov s1 h1 => wpAny_bind (wpAny_standAt ?_)) fun _ _ e => e)
  have hform : methodCallForm ((args.map (trE m)).length + ([] : List Keyword).length) (pairs m env args) (backToKw p (keywordEach [] env)) = true := by
    unfold methodCallForm
    have h1 : (pairs m env args).all (fun x => !x.1) = true := by
      rw [List.all_eq_true]; intro x hx; rw [pairs_plain m env args x hx]; rfl
    have h3 : decide ((args.map (trE m)).length + ([] : List Keyword).length + (if (backToKw p (keywordEach [] env)).isEmpty then 0 else 1) < 30) = true := by
      refine decide_eq_true ?_
      show (args.map (trE m)).length + 0 + 0 < 30
      rw [List.length_map]; omega
    rw [h1]
    show (true && true && decide _) = true
    rw [h3]; rfl
  have hpos : methodCallPos true (trE m a) env ap p = pure p := by unfold methodCallPos; simp [hl]
  unfold methodCall
  rw [hform]
  refine wpAny_bind (wpAny_holding (wpAny_mono (h1 _) (fun fr s2 h2 => ?_) fun _ _ e => e))
  exact wpAny_bind (wpAny_of_eq hpos h2)

/-! ### the text's own methods -/
def isFnV : Option (Option Value) → Nat → Bool
  | some (some (.ref f)), g => f == g
  | _, _ => false
theorem isFnV_eq {x : Option (Option Value)} {g : Nat} (h : isFnV x g = true) : x = some (some (.ref g)) := by
  rcases x with _ | _ | v
  · cases h
  · cases h
  · cases v <;> first | (rw [show _ = _ from eq_of_beq h]; done) | cases h
def isFnT : Option Value → Bool
  | some (.type t) => t == "function"
  | _ => false
theorem isFnT_eq {x : Option Value} (h : isFnT x = true) : x = some (.type "function") := by
  rcases x with _ | v
  · cases h
  · cases v <;> first | (rw [show _ = _ from eq_of_beq h]; done) | cases h
theorem mth_ok (P : Params) : (mthT.all fun p => p.2.all fun q => Nat.blt q.1 nmN && isFnV (findIn (KS P) (.ref p.1) (nm q.1)) q.2 && isFnT (typeIn (KS P) (.ref q.2))) = true := by kernel_rfl
theorem mth_spec (P : Params) {C x g : Nat} {t : List (Nat × Nat)} (h1 : lk mthT C = some t) (h2 : lk t x = some g) :
    x < nmN ∧ findIn (KS P) (.ref C) (nm x) = some (some (.ref g)) ∧ typeIn (KS P) (.ref g) = some (.type "function") := by
  have h := List.all_eq_true.mp (List.all_eq_true.mp (mth_ok P) _ (lk_in h1)) _ (lk_in h2)
  simp only [Bool.and_eq_true] at h
  exact ⟨Nat.le_of_ble_eq_true h.1.1, isFnV_eq h.1.2, isFnT_eq h.2⟩
theorem ns_none {a : Addr} {es : List (Nat × AV)} {h : Heap} (n : NsR c φ h a es) {x : Nat} (hx : x < nmN) (e : lk es x = none) : ∃ od, h.get? a = some od ∧ lookIn (nm x) od = some none := by
  obtain ⟨mm, hm, q⟩ := n
  obtain ⟨od, ho, hl⟩ := ns_look hm
  have := q x hx
  rw [e] at this
  exact ⟨od, ho, by rw [hl, show mm (nm x) = none from this]⟩
theorem inst_method (B : Base c k) (r : R c fa φ σ s) {C a d' : Nat} {ox : Obj} {x g : Nat} {t : List (Nat × Nat)} (hC : C ∈ instL) (h1 : lk mthT C = some t) (h2 : lk t x = some g) {es : List (Nat × AV)} (ho : s.heap.get? a = some ox) (hcl : ox.cls = .ref C) (hn : notCls ox = true) (hd : ox.dict = some d')
    (hns : NsR c φ s.heap d' es) (hv : lk es x = none) {Q : Value × List Value → Shared → Prop} {E} {pl : Sem Bool} (q : Q (.ref g, [.ref a]) s) : wpAny (model pw c.w) A (getMethod (.ref a) (nm x) pl) Q E s := by
  obtain ⟨hx, hf, ht⟩ := mth_spec c.w.params h1 h2
  obtain ⟨od, hod, hlk⟩ := ns_none hns hx hv
  have hst := List.all_eq_true.mp (cls_dict c.w.params) C hC
  simp only [Bool.and_eq_true] at hst
  have I : InstAt s.heap a ox C (some od) := ⟨ho, hcl, hn, by rw [hd]; exact hod⟩
  refine method_fn (r.ks B) I (isOGA_eq hst.1.2) (isNN_eq hst.2) hf ht ?_ q
  unfold shadowIn
  dsimp only
  rw [hlk]; rfl
theorem dom_method (B : Base c k) (r : R c fa φ σ s) {a d' : Nat} {vs : Array Value} {n : Nat} {x g : Nat} {t : List (Nat × Nat)} (h1 : lk mthT 264 = some t) (h2 : lk t x = some g) {es : List (Nat × AV)} (ho : s.heap.get? a = some (domO d' vs n))
    (hns : NsR c φ s.heap d' es) (hv : lk es x = none) {Q : Value × List Value → Shared → Prop} {E} {pl : Sem Bool} (q : Q (.ref g, [.ref a]) s) : wpAny (model pw c.w) A (getMethod (.ref a) (nm x) pl) Q E s := by
  obtain ⟨hx, hf, ht⟩ := mth_spec c.w.params h1 h2
  obtain ⟨od, hod, hlk⟩ := ns_none hns hx hv
  have X := r.ks B
  have T := dom_type ho (model pw c.w)
  unfold getMethod specialOf
  refine wpAny_bind (wpAny_bind (T.here ((looks_findIn X (ga264 _)).here ?_)))
  dsimp only
  rw [canon_list_getattribute, if_neg (by decide)]
  refine wpAny_bind (wpAny_bind (T.here ((looks_findIn X (isNN_eq (gt264 _))).here ?_)))
  refine wpAny_bind (wpAny_bind (T.here ((looks_findIn X hf).here (wpAny_bind ((looks_typeIn X ht).here ?_)))))
  rw [if_neg (by decide +kernel)]
  refine wpAny_bind (wpAny_loadPart ho ?_)
  refine wpAny_bind (wpAny_bind (wpAny_loadPart hod ?_))
  rw [nsLook_of hlk]
  refine wpAny_pure ?_
  exact wpAny_bind (wpAny_rule (wpAny_pure q))
end
end Mine
set_option maxRecDepth 100000
namespace Mine
noncomputable section
open PySem PySem.W PyProof.Rows MeetsSeq MeetsSeq2 MeetsSeq3 SeqAt
variable {c : Cx} {k : FC} {f : FA} {fa : List FA} {φ : List Addr} {σ σ' τ : AS} {s s' : Shared} {A : Around} {o : Scope} {b : Bool} {env : Env} {m : Nat}

theorem update_turns (s : Shared) (a : Addr) (g : Obj → Obj) : Turns a s { s with heap := s.heap.update a g } := ⟨(Heap.SameBut.update s.heap a g).extBut, by rw [(Heap.SameBut.update s.heap a g).1]; exact Nat.le_refl _, rfl, rfl, rfl⟩
/-- a list's items are turned -/
theorem list_upd (r : R c fa φ σ s) {i : Nat} {a : Addr} (ha : φ[i]? = some a) {xs ys : List AV} (hi : σ.get i = some (.list xs)) {vs : Array Value} {n : Nat} (hl : IsL s.heap a vs n) {g : Array Value → Array Value} (hy : All2 (VR c φ) ys (g vs).toList) (hs : ys.length ≤ 1000) :
    R c fa φ (σ.set i (.list ys)) { s with heap := s.heap.update a (Obj.mapSeq g) } :=
  r.setObj ha (update_turns s a _) (fun es e => by rw [hi] at e; cases e) (obj_noTup hl (by show Value.type "list" ≠ _; decide)) (o := .list ys) ⟨hs, _, _, IsL.update hl g, hy⟩ (fun d es n e => by rcases e with e | e <;> cases e)
theorem dom_update {h : Heap} {a d : Addr} {vs : Array Value} {n : Nat} (hl : h.get? a = some (domO d vs n)) (g : Array Value → Array Value) : ∃ n', (h.update a (Obj.mapSeq g)).get? a = some (domO d (g vs) n') := ⟨_, Heap.get?_update_self _ hl rfl⟩
theorem dom_upd (r : R c fa φ σ s) {i dn : Nat} {a d : Addr} (ha : φ[i]? = some a) (hd : φ[dn]? = some d) {xs ys : List AV} (hi : σ.get i = some (.dom dn xs)) {vs : Array Value} {n : Nat} (hl : s.heap.get? a = some (domO d vs n)) {g : Array Value → Array Value} (hy : All2 (VR c φ) ys (g vs).toList) (hs : ys.length ≤ 1000) :
    R c fa φ (σ.set i (.dom dn ys)) { s with heap := s.heap.update a (Obj.mapSeq g) } := by
  obtain ⟨n', e⟩ := dom_update hl g
  exact r.setObj ha (update_turns s a _) (fun es e => by rw [hi] at e; cases e) (obj_noTup hl (by show Value.ref 264 ≠ _; intro e; cases e)) (o := .dom dn ys) ⟨hs, d, _, n', hd, e, hy⟩ (fun d es n e => by rcases e with e | e <;> cases e)
theorem kept_builtin (c : Cx) (s : Shared) (id : String) : Kept c s (.builtin id) := fun _ _ _ q => wpAny_pure (q _)
theorem kept_type (c : Cx) (s : Shared) (id : String) : Kept c s (.type id) := fun _ _ _ q => wpAny_pure (q _)
theorem ok_append {i : Nat} {xs : List AV} {args : List AV} {v : AV} (hi : σ.get i = some (.list xs)) (h : mAppend i xs args σ = some (v, σ')) {a : Addr} (ha : φ[i]? = some a) {us : List Value} (hv : All2 (VR c φ) args us) :
    OkV c fa A (call (.builtin "list.append") (.ref a :: us)) φ σ σ' v := by
  intro Q E s r q
  obtain ⟨hs, h2⟩ := br_none h
  obtain ⟨w, hw, h3⟩ := ob_eq h2
  obtain rfl := one_eq hw
  obtain ⟨rfl, rfl⟩ := ret_eq h3
  cases hv with
  | cons hu hr =>
    cases hr
    obtain ⟨a', ha', hl, vs, n, e, hvs⟩ := r.obj i _ hi
    rw [ha] at ha'; cases ha'
    have hlt : xs.length < 1000 := Nat.le_of_ble_eq_true hs
    refine call_meets F.slot_list_append ⟨_, e, rfl⟩ F.entry_list_append (F.args_list_append_2 _ _) (list_append a vs n _ (by rw [size_eq hvs]; exact Nat.le_trans hl (by decide))) ⟨e, ?_⟩
    refine q φ _ _ (List.prefix_refl _) ((list_upd r ha hi e (g := fun x => x.push _) (ys := xs ++ [w]) ?_ (by simp; omega)).same rfl rfl rfl rfl) rfl
    rw [Array.toList_push]; exact hvs.append (.cons hu .nil)
theorem ok_pop {i : Nat} {xs : List AV} {args : List AV} {v : AV} (hi : σ.get i = some (.list xs)) (h : mPop i xs args σ = some (v, σ')) {a : Addr} (ha : φ[i]? = some a) {us : List Value} (hv : All2 (VR c φ) args us) :
    OkV c fa A (call (.builtin "list.pop") (.ref a :: us)) φ σ σ' v := by
  intro Q E s r q
  obtain ⟨hs, h2⟩ := br_none h
  obtain ⟨w, hw, h3⟩ := ob_eq h2
  obtain rfl := nul_eq hs
  obtain ⟨rfl, rfl⟩ := ret_eq h3
  cases hv
  obtain ⟨a', ha', hl, vs, n, e, hvs⟩ := r.obj i _ hi
  rw [ha] at ha'; cases ha'
  have hsz := size_eq hvs
  rw [List.getLast?_eq_getElem?] at hw
  obtain ⟨y, hy, hyv⟩ := hvs.get? hw
  rw [Array.getElem?_toList] at hy
  refine call_meets F.slot_list_pop ⟨_, e, rfl⟩ F.entry_list_pop (F.args_list_pop_1 _) (list_pop_last a vs n y (by rw [hsz]; exact hy) (by rw [hsz]; exact Nat.le_trans hl (by decide))) ⟨e, ?_⟩
  refine q φ _ _ (List.prefix_refl _) ((list_upd r ha hi e (g := fun x => x.eraseIdxIfInBounds (vs.size - 1)) (ys := xs.dropLast) ?_ (by simp; omega)).same rfl rfl rfl rfl) hyv
  have hpos : vs.size - 1 < vs.size := by
    have := (Array.getElem?_eq_some_iff.mp hy).1
    omega
  have : (vs.eraseIdxIfInBounds (vs.size - 1)).toList = vs.toList.dropLast := by
    unfold Array.eraseIdxIfInBounds
    rw [dif_pos hpos, Array.toList_eraseIdx]
    rw [show vs.size - 1 = vs.toList.length - 1 by simp, List.eraseIdx_length_sub_one]
  rw [this, List.dropLast_eq_take, List.dropLast_eq_take, ← hvs.length]
  exact hvs.take _
theorem erase_ok {k : Int} : ∀ {xs ys : List AV} {vs : List Value}, eraseInt k xs = some ys → All2 (VR c φ) xs vs → ∃ j, j < vs.length ∧ (∃ v, vs[j]? = some v ∧ isK k v = true) ∧ (∀ m v, m < j → vs[m]? = some v → isK k v = false) ∧ All2 (VR c φ) ys (vs.eraseIdx j) ∧ ys.length ≤ xs.length
  | [], _, _, h, _ => by cases h
  | x :: xs, ys, v :: vs, h, .cons h1 h2 => by
    obtain ⟨i, hi, h3⟩ := ob_eq h
    obtain rfl := isInt_eq hi
    obtain ⟨t, rfl⟩ := h1
    cases e : decide (i = k) with
    | true =>
      rw [e] at h3
      cases h3
      cases of_decide_eq_true e
      exact ⟨0, by simp, ⟨_, rfl, by simp [isK]⟩, fun m v hm => by omega, by simpa using h2, by simp⟩
    | false =>
      rw [e] at h3
      obtain ⟨l, hl, h4⟩ := ob_eq h3
      cases h4
      obtain ⟨j, hj, ⟨w, hw, hwk⟩, hno, hall, hlen⟩ := erase_ok hl h2
      refine ⟨j + 1, by simp; exact hj, ⟨w, by simpa using hw, hwk⟩, fun m v hm hv => ?_, by rw [List.eraseIdx_cons_succ]; exact .cons ⟨t, rfl⟩ hall, by simp; exact hlen⟩
      cases m with
      | zero => simp at hv; subst hv; exact e
      | succ m => exact hno m v (by omega) (by simpa using hv)
theorem ok_dremove (B : Base c k) {i d : Nat} {xs : List AV} {args : List AV} {v : AV} (hi : σ.get i = some (.dom d xs)) (h : mDomRemove i d xs args σ = some (v, σ')) {a : Addr} (ha : φ[i]? = some a) {us : List Value} (hv : All2 (VR c φ) args us) :
    OkV c fa A (call (.builtin "list.remove") (.ref a :: us)) φ σ σ' v := by
  intro Q E s r q
  obtain ⟨w, hw, h2⟩ := ob_eq h
  obtain ⟨z, hz, h3⟩ := ob_eq h2
  obtain ⟨l, hl, h4⟩ := ob_eq h3
  obtain ⟨ys, hys, h5⟩ := ob_eq h4
  obtain rfl := one_eq hw
  obtain rfl := isInt_eq hz
  obtain ⟨rfl, rfl⟩ := ret_eq h5
  cases hv with
  | cons hu hr =>
    cases hr
    obtain ⟨t, rfl⟩ := hu
    obtain ⟨a', ha', hlen, d', vs, n, hd, e, hvs⟩ := r.obj i _ hi
    rw [ha] at ha'; cases ha'
    obtain ⟨_, hints⟩ := intsOf_ok hl hvs
    obtain ⟨j, hj, ⟨w, hw, hwk⟩, hno, hall, hle⟩ := erase_ok hys hvs
    have hj' : j < vs.size := by simpa using hj
    have hjv : vs[j] = w := by simp at hw; exact (Array.getElem?_eq_some_iff.mp hw).2
    refine call_dom (nn := "remove") (r.ks B) e (.inr (by decide +kernel)) (by decide +kernel) (F.args_list_remove_2 _ _) (by decide +kernel) F.entry_list_remove
      (m_remove a d' vs n (.int z t) (isK z) (fun y hy => eqK (hints y (by simpa using hy))) j hj' (by rw [hjv]; exact hwk) (fun m hm hmj => hno m _ hmj (by simp [hm])) (by rw [size_eq hvs]; exact Nat.le_trans hlen (by decide))) ⟨e, ?_⟩
    refine q φ _ _ (List.prefix_refl _) (dom_upd r ha hd hi e (g := fun x => x.eraseIdxIfInBounds j) ?_ (by omega)) rfl
    have : (vs.eraseIdxIfInBounds j).toList = vs.toList.eraseIdx j := by
      unfold Array.eraseIdxIfInBounds
      rw [dif_pos hj', Array.toList_eraseIdx]
    rw [this]; exact hall
theorem ok_dextend (B : Base c k) {i d : Nat} {xs : List AV} {args : List AV} {v : AV} (hi : σ.get i = some (.dom d xs)) (h : mDomExtend i d xs args σ = some (v, σ')) {a : Addr} (ha : φ[i]? = some a) {us : List Value} (hv : All2 (VR c φ) args us) :
    OkV c fa A (call (.builtin "list.extend") (.ref a :: us)) φ σ σ' v := by
  intro Q E s r q
  obtain ⟨w, hw, h2⟩ := ob_eq h
  obtain ⟨j, hj, h3⟩ := ob_eq h2
  obtain ⟨ys, hys, h4⟩ := ob_eq h3
  obtain ⟨hsz, h5⟩ := br_none h4
  obtain rfl := one_eq hw
  obtain rfl := isRef_eq hj
  obtain ⟨rfl, rfl⟩ := ret_eq h5
  have hsz : xs.length + ys.length ≤ 1000 := Nat.le_of_ble_eq_true hsz
  cases hv with
  | cons hu hr =>
    cases hr
    obtain ⟨b, hb, rfl⟩ := hu
    obtain ⟨ob1, g1, e1⟩ := ob_eq hys
    cases ob1 <;> try cases e1
    obtain ⟨b', hb', _, ws, n2, e2, hws⟩ := r.obj j _ g1
    rw [hb] at hb'; cases hb'
    obtain ⟨a', ha', hlen, d', vs, n, hd, e, hvs⟩ := r.obj i _ hi
    rw [ha] at ha'; cases ha'
    have s1 := size_eq hvs
    have s2 := size_eq hws
    have hbig : (1000 : Nat) ≤ sizeLine := by decide
    refine call_dom (nn := "extend") (r.ks B) e (.inr (by decide +kernel)) (by decide +kernel) (F.args_list_extend_2 _ _) (by decide +kernel) F.entry_list_extend
      (m_extend a d' b vs ws n n2 ?_ (by omega) (by omega)) ⟨e, e2, ?_⟩
    · have : Builtin.List.listTooLong (vs.size + ws.size) = false := by
        have hall : ((List.range 1001).all fun n => !(Builtin.List.listTooLong n)) = true := by decide +kernel
        have := List.all_eq_true.mp hall (vs.size + ws.size) (List.mem_range.mpr (by omega))
        simpa using this
      rw [this, Bool.and_false]; decide
    · refine q φ _ _ (List.prefix_refl _) ((dom_upd r ha hd hi e (g := fun x => x ++ ws) (ys := xs ++ ys) ?_ (by simp; omega)).same rfl rfl rfl rfl) rfl
      rw [Array.toList_append]; exact hvs.append hws
theorem count_ok {k : Int} : ∀ {xs : List AV} {vs : List Value} {n : Nat}, countInt k xs = some n → All2 (VR c φ) xs vs → vs.countP (isK k) = n ∧ ∀ v ∈ vs, ∃ i t, v = .int i t
  | [], _, n, h, .nil => by cases h; exact ⟨rfl, fun v hv => by cases hv⟩
  | x :: xs, v :: vs, n, h, .cons h1 h2 => by
    obtain ⟨i, hi, h3⟩ := ob_eq h
    obtain rfl := isInt_eq hi
    obtain ⟨t, rfl⟩ := h1
    obtain ⟨n', hn, h4⟩ := ob_eq h3
    obtain ⟨p, q⟩ := count_ok hn h2
    cases h4
    refine ⟨?_, fun z hv => ?_⟩
    · rw [List.countP_cons, p]
      show n' + (if (i == k) = true then 1 else 0) = br (decide (i = k)) (Nat.succ n') n'
      rw [show (i == k) = decide (i = k) from rfl]
      cases decide (i = k) <;> rfl
    · rcases List.mem_cons.mp hv with rfl | hv
      · exact ⟨i, t, rfl⟩
      · exact q z hv
theorem ok_count {i : Nat} {xs : List AV} {args : List AV} {v : AV} (hi : σ.get i = some (.list xs)) (h : mCount xs args σ = some (v, σ')) {a : Addr} (ha : φ[i]? = some a) {us : List Value} (hv : All2 (VR c φ) args us) :
    OkV c fa A (call (.builtin "list.count") (.ref a :: us)) φ σ σ' v := by
  intro Q E s r q
  obtain ⟨w, hw, h2⟩ := ob_eq h
  obtain ⟨z, hz, h3⟩ := ob_eq h2
  obtain ⟨n', hn, h4⟩ := ob_eq h3
  obtain rfl := one_eq hw
  obtain rfl := isInt_eq hz
  obtain ⟨rfl, rfl⟩ := ret_eq h4
  cases hv with
  | cons hu hr =>
    cases hr
    obtain ⟨t, rfl⟩ := hu
    obtain ⟨a', ha', hl, vs, n, e, hvs⟩ := r.obj i _ hi
    rw [ha] at ha'; cases ha'
    obtain ⟨p1, p2⟩ := count_ok hn hvs
    refine call_meets F.slot_list_count ⟨_, e, rfl⟩ F.entry_list_count (F.args_list_count_2 _ _) (list_count a vs n (.int z t) (isK z) (fun y hy => eqK (p2 y (by simpa using hy)))) ⟨e, ?_⟩
    rw [p1]
    exact q φ _ _ (List.prefix_refl _) (r.toks _) ⟨_, rfl⟩
end
end Mine
set_option maxRecDepth 100000
namespace Mine
noncomputable section
open PySem PySem.W PyProof.Rows
variable {c : Cx} {k : FC} {f : FA} {fa : List FA} {φ : List Addr} {σ σ' τ : AS} {s s' : Shared} {A : Around} {o : Scope} {b : Bool} {env : Env} {m : Nat}

def TupK (h : Heap) (v : Value) (k : List Int) : Prop := ∃ a ws n, v = .ref a ∧ h.get? a = some ⟨.type "tuple", none, .seq ws n, #[]⟩ ∧ ws.toList.map intOf = k ∧ (∀ v ∈ ws.toList, ∃ i t, v = .int i t) ∧ k ≠ []
theorem keys_ok (r : R c fa φ σ s) : ∀ {xs : List AV} {vs : List Value} {ks : List (List Int)}, keysOf σ xs = some ks → All2 (VR c φ) xs vs → All2 (TupK s.heap) vs ks
  | [], _, _, h, .nil => by cases h; exact .nil
  | x :: xs, v :: vs, ks, h, .cons h1 h2 => by
    obtain ⟨i, hi, h⟩ := ob_eq h
    obtain ⟨ys, hy, h⟩ := ob_eq h
    obtain ⟨l, hl, h⟩ := ob_eq h
    obtain ⟨hn, h⟩ := br_none' h
    obtain ⟨r', hr, h⟩ := ob_eq h
    cases h
    obtain rfl := isRef_eq hi
    obtain ⟨a, ha, rfl⟩ := h1
    obtain ⟨o1, g1, e1⟩ := ob_eq hy
    cases o1 <;> try cases e1
    obtain ⟨a', ha', _, ws, n, e, hvs⟩ := r.obj _ _ g1
    rw [ha] at ha'; cases ha'
    obtain ⟨q1, q2⟩ := intsOf_ok hl hvs
    exact .cons ⟨a, ws, n, rfl, e, q1, q2, fun e => by rw [e] at hn; cases hn⟩ (keys_ok r hr h2)
theorem lex_ok {Q : Bool → Shared → Prop} (xs ys : List Value) : ∀ {l1 l2 : List Value} (i : Nat), (∀ v ∈ l1, ∃ i t, v = .int i t) → (∀ v ∈ l2, ∃ i t, v = .int i t) → Q (ltL (l1.map intOf) (l2.map intOf)) s →
    KatLex pw c.w A true (decide (l1.length < l2.length)) Q (l1.zip l2) i s
  | [], [], i, _, _, h => kat_nil (show Q (decide (0 < 0)) s from h)
  | [], v :: r, i, _, _, h => kat_nil (by rw [show decide (([] : List Value).length < (v :: r).length) = true by simp]; exact h)
  | v :: r, [], i, _, _, h => kat_nil (by rw [show decide ((v :: r).length < ([] : List Value).length) = false by simp]; exact h)
  | v :: r, v' :: r', i, h1, h2, h => by
    obtain ⟨x, t, rfl⟩ := h1 v List.mem_cons_self
    obtain ⟨y, u, rfl⟩ := h2 v' List.mem_cons_self
    rw [List.zip_cons_cons]
    refine kat_cons (eqK (k := y) (t := u) (v := .int x t) ⟨x, t, rfl⟩ _ _ _ _ _ _ ?_)
    have h : Q (br (decide (x = y)) (ltL (r.map intOf) (r'.map intOf)) (decide (x < y))) s := h
    refine kat_go (fun e => kat_yes ?_) (fun e => kat_no ?_)
    · rw [show decide (x = y) = true from decide_eq_true (eq_of_beq e)] at h
      have := lex_ok xs ys (l1 := r) (l2 := r') (i + 1) (fun v hv => h1 v (List.mem_cons_of_mem _ hv)) (fun v hv => h2 v (List.mem_cons_of_mem _ hv)) h
      rw [show decide ((Value.int x t :: r).length < (Value.int y u :: r').length) = decide (r.length < r'.length) by simp]
      exact this
    · rw [show decide (x = y) = false from decide_eq_false (fun q => by rw [q] at e; exact absurd e (by show ¬ (y == y) = false; rw [beq_self_eq_true]; decide))] at h
      cases i with
      | zero => exact oneLt_int h
      | succ i => exact kat_one _ _ (PyProof.Rows.lt_int h)
theorem tup_lt {Q : Bool → Shared → Prop} {v v' : Value} {k1 k2 : List Int} (h1 : TupK s.heap v k1) (h2 : TupK s.heap v' k2) (h : Q (ltL k1 k2) s) : wpAny (model pw c.w) A (keyLt' (tuples' true) v v') Q (fun _ _ => False) s := by
  obtain ⟨a, ws, n, rfl, e, rfl, q, _⟩ := h1
  obtain ⟨a', ws', n', rfl, e', rfl, q', _⟩ := h2
  refine kat_lt e rfl e' rfl ?_
  have := lex_ok (c := c) (A := A) (s := s) [] [] (l1 := ws.toList) (l2 := ws'.toList) 0 q q' h
  simpa using this
theorem nth_ok {ks : List (List Int)} {vs : List Value} {h : Heap} (t : All2 (TupK h) vs ks) {i : Nat} (hi : i < vs.length) : TupK h (vs.getD i .none) (nthK ks i) := by
  have e : vs[i]? = some vs[i] := List.getElem?_eq_getElem hi
  obtain ⟨q, hq, z⟩ := t.get? e
  have : vs.getD i .none = vs[i] := by simp [hi]
  rw [this]
  unfold nthK
  rw [hq]; exact z
theorem run_ok {α : Type} {ks : List (List Int)} {vs : List Value} {n : Nat} (lt : ∀ i j (Q : Bool → Shared → Prop), i < n → j < n → Q (ltL (nthK ks i) (nthK ks j)) s → kas_ask pw c.w A (tuples' true) vs i j Q s) {G : α → Shared → Prop} {a : α} :
    ∀ {t : KasT α}, runT n (fun a b => ltL (nthK ks a) (nthK ks b)) t = some a → G a s → t.kasWp (kas_ask pw c.w A (tuples' true) vs) G s
  | .ret _, h, g => by cases h; exact g
  | .ask i j k, h, g => by
    obtain ⟨h1, h⟩ := br_none h
    obtain ⟨h2, h⟩ := br_none h
    exact lt i j _ (Nat.le_of_ble_eq_true h1) (Nat.le_of_ble_eq_true h2) (run_ok lt (t := k (ltL (nthK ks i) (nthK ks j))) h g)
theorem perm_ok {xs : List AV} {vs : List Value} (h : All2 (VR c φ) xs vs) : ∀ p : List Nat, All2 (VR c φ) (permV xs p) (p.map fun i => vs.getD i Value.none)
  | [] => .nil
  | i :: r => by
    refine .cons ?_ (perm_ok h r)
    unfold nthV
    cases e : xs[i]? with
    | none =>
      have := get_none h e
      show VR c φ .none (vs.getD i Value.none)
      rw [List.getD_eq_getElem?_getD, this]; rfl
    | some x =>
      obtain ⟨v, hv, q⟩ := h.get? e
      show VR c φ x (vs.getD i Value.none)
      rw [List.getD_eq_getElem?_getD, hv]; exact q
theorem sort_tree {a : Addr} {vs : List Value} {ks : List (List Int)} {n : Nat} {P : PySem.Fin → Shared → Prop} {E} (ho : s.heap.get? a = some (seqObj "list" vs.toArray n)) (hk : All2 (TupK s.heap) vs ks) (h64 : vs.length < 64)
    {xs ys : List AV} (hv : All2 (VR c φ) xs vs) (hy : sortV xs ks = some ys)
    (h : ∀ (s' : Shared) (ws : Array Value) n', Turns a s s' → s'.heap.get? a = some (seqObj "list" ws n') → All2 (VR c φ) ys ws.toList → ys.length = xs.length → P (.done (.ret .none)) s') :
    wpAny (model pw c.w) A (Builtin.«list.sort» ⟨[.ref a], []⟩) P E s := by
  have ha : a < s.heap.objs.size := Heap.lt_size ho
  have hlen := hv.length
  have s1 := Heap.SameBut.update s.heap a (Obj.mapSeq fun _ => (#[] : Array Value))
  obtain ⟨e1, ho1⟩ : ∃ e1, (s.heap.update a (Obj.mapSeq fun _ => (#[] : Array Value))).get? a = some (seqObj "list" #[] e1) := ⟨_, get?_update_seq ho fun _ => #[]⟩
  rw [list_sort_plain]
  refine wpAny_bind (listItems_at ho rfl ?_)
  refine wpAny_bind (listUpdate_at ho rfl ?_ (by rw [List.size_toArray, sizeLine_eq]; omega) (Nat.zero_le _))
  refine wpAny_bind (seqEpoch_at ho1 rfl ?_)
  refine wpAny_bind (wpAny_newTuple ?_ (by show vs.length ≤ _; rw [sizeLine_eq]; omega))
  refine wpAny_bind (wpAny_newList ?_ (Nat.zero_le _))
  refine wpAny_holding ?_
  show wpAny (model pw c.w) A _ P E { s with heap := ((s.heap.update a (Obj.mapSeq fun _ => (#[] : Array Value))).push (seqObj "tuple" vs.toArray 0)).push (seqObj "list" #[] 0) }
  have ho6 : (((s.heap.update a (Obj.mapSeq fun _ => #[])).push (seqObj "tuple" vs.toArray 0)).push (seqObj "list" #[] 0)).get? a = some (seqObj "list" #[] e1) :=
    Heap.get?_push_of_some _ (Heap.get?_push_of_some _ ho1)
  have hx : Heap.ExtBut a s.heap (((s.heap.update a (Obj.mapSeq fun _ => #[])).push (seqObj "tuple" vs.toArray 0)).push (seqObj "list" #[] 0)) := fun b o hb e =>
    Heap.get?_push_of_some _ (Heap.get?_push_of_some _ (s1.extBut b o hb e))
  have hsz : s.heap.objs.size ≤ (((s.heap.update a (Obj.mapSeq fun _ => #[])).push (seqObj "tuple" vs.toArray 0)).push (seqObj "list" #[] 0)).objs.size := by
    rw [size_push', size_push', Heap.size_update]; omega
  generalize hH : (((s.heap.update a (Obj.mapSeq fun _ => #[])).push (seqObj "tuple" vs.toArray 0)).push (seqObj "list" #[] 0)) = H at ho6 hx hsz
  dsimp only
  have fin : ∀ (out : Array Value), All2 (VR c φ) ys out.toList → ys.length = xs.length → P (.done (.ret .none)) { s with heap := H.update a (Obj.mapSeq fun _ => out) } := fun out q1 q2 => by
    have s2 := Heap.SameBut.update H a (Obj.mapSeq fun _ => out)
    exact h _ out _ ⟨fun b o hb e => s2.extBut b o hb (hx b o hb e), Nat.le_trans hsz (Nat.le_of_eq s2.1.symm), rfl, rfl, rfl⟩ (get?_update_seq ho6 fun _ => out) q1 q2
  have hvz : vs.toArray.size = vs.length := by simp
  by_cases h2 : vs.toArray.size < 2
  · rw [if_pos h2, if_pos h2]
    have hy2 : ys = xs := by
      unfold sortV at hy
      rw [show Nat.blt xs.length 2 = true from Nat.ble_eq_true_of_le (by omega)] at hy
      cases hy; rfl
    refine wpAny_bind (wpAny_pure ?_)
    rw [StateT.run_pure]
    refine wpAny_bind (wpAny_pure ?_)
    dsimp only
    refine wpAny_bind (seqEpoch_at ho6 rfl ?_)
    have hm : (arrOf (SortSt.mk' general' (vs.toArray.zip vs.toArray) #[] 7 none)).map (·.2) = vs.toArray := by
      show (vs.toArray.zip vs.toArray).map (·.2) = _
      apply Array.toList_inj.mp
      rw [Array.toList_map, Array.toList_zip, List.map_snd_zip]; exact Nat.le_refl _
    rw [hm]
    refine wpAny_bind (listUpdate_at ho6 rfl ?_ (Nat.zero_le _) (by rw [List.size_toArray, sizeLine_eq]; omega))
    simp only [bne_self_eq_false, Bool.false_eq_true, if_false]
    exact wpAny_pure (fin vs.toArray (by rw [hy2]; exact hv) (by rw [hy2]))
  · rw [if_neg h2, if_neg h2]
    obtain ⟨p0, hp0, hy⟩ : ∃ p, sortP ks xs.length = some p ∧ ys = permV xs p.toList := by
      unfold sortV at hy
      rw [show Nat.blt xs.length 2 = false from Bool.eq_false_iff.mpr fun e => h2 (by have := Nat.le_of_ble_eq_true e; omega)] at hy
      obtain ⟨p, hp, e⟩ := ob_eq hy
      cases e; exact ⟨p, hp, rfl⟩
    have hk' : All2 (TupK H) vs ks := hk.mono fun v k' ⟨b, ws, n', e, g, q⟩ => ⟨b, ws, n', e, hx b _ (fun eb => by rw [eb, ho] at g; have := congrArg (fun o => o.elim Value.none Obj.cls) g; exact absurd this (by show ¬ Value.type "list" = Value.type "tuple"; decide)) g, q⟩
    obtain ⟨fs, hfs, hft, hfl⟩ : ∃ fs, KatTups H vs fs ∧ (∀ v ∈ fs, Looks (model pw c.w) H (typeOf v) (.type "int")) ∧ fs.length = vs.length := by
      clear hk hy hp0 fin hv h hlen h64 ho h2 hvz hH
      revert hk'
      generalize vs = vs', ks = ks'
      intro hk'
      induction hk' with
      | nil => exact ⟨[], trivial, (fun v hv => by cases hv), rfl⟩
      | cons x _ ih =>
        obtain ⟨fs, q1, q2, q3⟩ := ih
        obtain ⟨b, ws, n', rfl, g, q, z, ne⟩ := x
        cases hw : ws.toList with
        | nil => rw [hw] at q; exact absurd q.symm ne
        | cons f0 fr =>
          obtain ⟨i0, t0, rfl⟩ := z f0 (by rw [hw]; exact List.mem_cons_self)
          refine ⟨.int i0 t0 :: fs, KatTups.cons g rfl rfl (by rw [← Array.getElem?_toList, hw]; rfl) q1, fun v hv => ?_, by rw [List.length_cons, List.length_cons, q3]⟩
          rcases List.mem_cons.mp hv with rfl | hv
          · exact Looks.now
          · exact q2 v hv
    refine wpAny_bind (kat_kind (s := { s with heap := H }) hfs (by omega) hft rfl ?_)
    rw [show (Value.type "int" != Value.type "tuple") = true by decide]
    have run : (kas_sort vs.length).kasWp (kas_ask pw c.w A (tuples' true) vs) (fun p s' => p = p0 ∧ s' = { s with heap := H }) { s with heap := H } := by
      unfold sortP at hp0
      rw [hlen] at hp0
      exact run_ok (s := { s with heap := H }) (fun i j Q hi hj hq => tup_lt (nth_ok hk' hi) (nth_ok hk' hj) hq) hp0 ⟨rfl, rfl⟩
    refine wpAny_bind (wpAny_mono (kat_run (Q := fun st' s' => (arrOf st').map (·.2) = List.toArray (p0.toList.map fun i => vs.getD i Value.none) ∧ p0.size = vs.length ∧ failedOf st' = none ∧ s' = { s with heap := H })
      rfl (by omega) h64 (fun p' st' s' a1 a2 a3 a4 => ⟨by rw [← a4.1]; exact kat_snds rfl a2, by rw [← a4.1]; exact a1, a3, a4.2⟩) run) ?_ fun _ _ e => e)
    rintro ⟨⟨⟩, st'⟩ s' ⟨hout, hp, hf, rfl⟩
    dsimp only
    rw [hout]
    have hsz3 : (List.toArray (p0.toList.map fun i => vs.getD i Value.none)).size = vs.length := by rw [List.size_toArray, List.length_map, Array.length_toList, hp]
    refine wpAny_bind (seqEpoch_at ho6 rfl ?_)
    refine wpAny_bind (listUpdate_at ho6 rfl ?_ (Nat.zero_le _) (Nat.le_trans (Nat.le_of_eq hsz3) (by rw [sizeLine_eq]; omega)))
    rw [hf]
    simp only [bne_self_eq_false, Bool.false_eq_true, if_false]
    refine wpAny_pure (fin _ (by rw [hy]; exact perm_ok hv _) ?_)
    rw [hy, (perm_ok hv p0.toList).length, List.length_map, Array.length_toList, hp, hlen]
theorem ok_sort {i : Nat} {xs : List AV} {args : List AV} {v : AV} (hi : σ.get i = some (.list xs)) (h : mSort i xs args σ = some (v, σ')) {a : Addr} (ha : φ[i]? = some a) {us : List Value} (hv : All2 (VR c φ) args us) :
    OkV c fa A (call (.builtin "list.sort") (.ref a :: us)) φ σ σ' v := by
  intro Q E s r q
  obtain ⟨hs, h2⟩ := br_none h
  obtain ⟨h3, h4⟩ := br_none h2
  obtain ⟨ks, hk, h5⟩ := ob_eq h4
  obtain ⟨ys, hy, h6⟩ := ob_eq h5
  obtain rfl := nul_eq h3
  obtain ⟨rfl, rfl⟩ := ret_eq h6
  cases hv
  obtain ⟨a', ha', hl, vs, n, e, hvs⟩ := r.obj i _ hi
  rw [ha] at ha'; cases ha'
  have hs : xs.length ≤ 60 := Nat.le_of_ble_eq_true hs
  have hlen := hvs.length
  refine wpAny_call_entry slot_list_sort ⟨_, e, rfl⟩ entry_list_sort (sort_tree (vs := vs.toList) e (keys_ok r hk hvs) (by omega) hvs hy fun s' ws n' ht hg hw hl' => ⟨_, rfl, ?_⟩) (args_list_sort _)
  exact q φ s' .none (List.prefix_refl _) (r.setObj ha ht (fun es e => by rw [hi] at e; cases e) (obj_noTup e (by show ¬ Value.type "list" = Value.type "tuple"; decide)) (o := .list ys) ⟨by omega, ws, n', hg, hw⟩ (fun d es n e => by rcases e with e | e <;> cases e)) rfl
end
end Mine
set_option maxRecDepth 100000
namespace Mine
noncomputable section
open PySem PySem.W PyProof.Rows
variable {c : Cx} {k : FC} {f : FA} {fa : List FA} {φ : List Addr} {σ σ' τ : AS} {s s' : Shared} {A : Around} {o : Scope} {b : Bool} {env : Env} {m : Nat}

theorem dict_type {w : World} {h : Shared} {a : Addr} {kvs} (d : h.heap.DictOf (intKind pw w) a kvs) : h.TypeIs (.ref a) "dict" := by
  obtain ⟨o, es, ep, ho, hx, _⟩ := d
  exact ⟨o, ho, hx.1⟩
theorem ok_copy (B : Base c k) {i : Nat} {es : List (Int × AV)} {args : List AV} {v : AV} (hi : σ.get i = some (.dict es)) (h : mCopy es args σ = some (v, σ')) {a : Addr} (ha : φ[i]? = some a) {us : List Value} (hv : All2 (VR c φ) args us) :
    OkV c fa A (call (.builtin "dict.copy") (.ref a :: us)) φ σ σ' v := by
  intro Q E s r q
  obtain ⟨hs, h2⟩ := br_none h
  obtain rfl := nul_eq hs
  obtain ⟨rfl, rfl⟩ := ret_eq h2
  cases hv
  obtain ⟨a', ha', hl, kvs, hd, hk⟩ := r.obj i _ hi
  rw [ha] at ha'; cases ha'
  refine wpAny_with_size (call_meetsIn F.slot_dict_copy (dict_type hd) F.entry_dict_copy (F.args_dict_copy_1 _) (meets_dict_copy (intKind pw c.w) a (r.notSys B ha)) ⟨kvs, hd, by rw [← hk.length]; exact Nat.le_trans hl (by decide), fun h' h1 _ h3 hsz => ?_⟩)
  have hlt : s.heap.objs.size < h'.objs.size := by
    obtain ⟨o, es, ep, ho, _⟩ := h1
    exact Heap.lt_size ho
  refine q (φ ++ [s.heap.objs.size]) _ _ (List.prefix_append _ _) (r.alloc (s' := { s with heap := h' }) ⟨h3, hsz, rfl, rfl, rfl⟩ (Nat.le_refl _) hlt (o := .dict es) ⟨hl, kvs, h1, hk.mono (List.prefix_append _ _)⟩ (fun d es n e => by rcases e with e | e <;> cases e)) ⟨_, ?_, rfl⟩
  rw [← r.len]; simp
theorem ok_values (B : Base c k) {i : Nat} {es : List (Int × AV)} {args : List AV} {v : AV} (hi : σ.get i = some (.dict es) ∨ σ.get i = some (.fdict es)) (h : mValues i args σ = some (v, σ')) {a : Addr} (ha : φ[i]? = some a) {us : List Value} (hv : All2 (VR c φ) args us) :
    OkV c fa A (call (.builtin "dict.values") (.ref a :: us)) φ σ σ' v := by
  intro Q E s r q
  obtain ⟨hs, h2⟩ := br_none h
  obtain rfl := nul_eq hs
  obtain ⟨rfl, rfl⟩ := ret_eq h2
  cases hv
  obtain ⟨kvs, hd⟩ : ∃ kvs, s.heap.DictOf (intKind pw c.w) a kvs := by
    rcases hi with hi | hi
    · obtain ⟨a', ha', _, kvs, hd, _⟩ := r.obj i _ hi
      rw [ha] at ha'; cases ha'; exact ⟨kvs, hd⟩
    · obtain ⟨a', ha', _, kvs, hd, _⟩ := r.obj i _ hi
      rw [ha] at ha'; cases ha'; exact ⟨kvs, hd⟩
  refine call_meetsIn F.slot_dict_values (dict_type hd) F.entry_dict_values (F.args_dict_values_1 _) (meets_dict_values (intKind pw c.w) a (r.notSys B ha)) ⟨⟨kvs, hd⟩, ?_⟩
  refine q (φ ++ [s.heap.objs.size]) _ _ (List.prefix_append _ _) (r.alloc (grows_push s _) (Nat.le_refl _) (push_lt _ _) (o := .vals i) ⟨a, pre_get (List.prefix_append _ _) ha, _, Heap.get?_push_size _ rfl, rfl, rfl⟩ (fun d es n e => by rcases e with e | e <;> cases e)) ⟨_, ?_, rfl⟩
  rw [← r.len]; simp
theorem ok_get (B : Base c k) {i : Nat} {es : List (Int × AV)} {args : List AV} {v : AV} (hi : σ.get i = some (.dict es)) (h : mGet es args σ = some (v, σ')) {a : Addr} (ha : φ[i]? = some a) {us : List Value} (hv : All2 (VR c φ) args us) :
    OkV c fa A (call (.builtin "dict.get") (.ref a :: us)) φ σ σ' v := by
  intro Q E s r q
  obtain ⟨p, hp, h2⟩ := ob_eq h
  obtain ⟨z, hz, h3⟩ := ob_eq h2
  obtain rfl := two_eq hp
  obtain ⟨rfl, rfl⟩ := ret_eq h3
  obtain ⟨a', ha', _, kvs, hd, hk⟩ := r.obj i _ hi
  rw [ha] at ha'; cases ha'
  cases hv with
  | cons h1 h2 =>
    cases h2 with
    | cons h2 h3 =>
      cases h3
      rw [isInt_eq hz] at h1
      obtain ⟨t, rfl⟩ := h1
      refine call_meetsIn F.slot_dict_get (dict_type hd) F.entry_dict_get (F.args_dict_get_3 _ _ _) (meets_dict_get_default (knd := intKind pw c.w) (k := z) (hkey := show (intKind pw c.w).is z (.int z t) = true from by show (z == z) = true; simp) (hd := r.notSys B ha) (dflt := _)) ⟨_, hd.mapOf, ?_⟩
      refine q φ _ _ (List.prefix_refl _) (r.toks _) ?_
      have := lkI_ok hk z
      cases e : lkI z es with
      | none => rw [e] at this; rw [this]; exact h2
      | some w => rw [e] at this; obtain ⟨u, hu, hvr⟩ := this; rw [hu]; exact hvr
end
end Mine
set_option maxRecDepth 100000
namespace Mine
noncomputable section
open PySem PySem.W PyProof.Rows
variable {c : Cx} {k : FC} {f : FA} {fa : List FA} {φ : List Addr} {σ σ' τ : AS} {s s' : Shared} {A : Around}
theorem repI_len (z : Int) (v : AV) : ∀ es : List (Int × AV), (repI z v es).length = es.length
  | [] => rfl
  | (i, u) :: r => by
    show (br (decide (i = z)) ((i, v) :: repI z v r) ((i, u) :: repI z v r)).length = _
    cases decide (i = z) with
    | true => simp [br_true, repI_len z v r]
    | false => simp [br_false, repI_len z v r]
theorem upI_len (z : Int) (v : AV) (es : List (Int × AV)) : (upI z v es).length ≤ es.length + 1 := by
  unfold upI
  cases hasI z es with
  | true => rw [br_true, repI_len]; omega
  | false => rw [br_false]; simp
theorem dropI_len (z : Int) : ∀ es : List (Int × AV), (dropI z es).length ≤ es.length
  | [] => Nat.le_refl _
  | (i, u) :: r => by
    show (br (decide (i = z)) (dropI z r) ((i, u) :: dropI z r)).length ≤ _
    have := dropI_len z r
    cases decide (i = z) with
    | true => simp [br_true]; omega
    | false => simp [br_false]; omega
theorem dict_noTup {w : World} {h : Heap} {a : Addr} {kvs} (d : h.DictOf (intKind pw w) a kvs) : ∀ vs, ¬ h.IsTuple a vs := by
  obtain ⟨o, es, ep, ho, hx, _⟩ := d
  exact obj_noTup ho (by rw [hx.1]; decide)
theorem hasI_ok {es : List (Int × AV)} {kvs : List (Int × Value)} (h : KV c φ es kvs) (z : Int) : hasI z es = kvs.any (fun kv => decide (kv.1 = z)) := by
  induction h with
  | nil => rfl
  | @cons a b as bs x _ ih =>
    obtain ⟨i, u⟩ := a
    obtain ⟨j, w⟩ := b
    obtain ⟨e, _⟩ := x
    have e : i = j := e
    subst e
    show br (decide (i = z)) true (hasI z as) = (decide (i = z) || bs.any _)
    rw [ih]
    cases decide (i = z) <;> rfl
theorem repI_ok {es : List (Int × AV)} {kvs : List (Int × Value)} (h : KV c φ es kvs) (z : Int) {v : AV} {u : Value} (hv : VR c φ v u) : KV c φ (repI z v es) (kvs.map (fun kv => if kv.1 = z then (kv.1, u) else kv)) := by
  induction h with
  | nil => exact .nil
  | @cons a b as bs x _ ih =>
    obtain ⟨i, u'⟩ := a
    obtain ⟨j, w⟩ := b
    obtain ⟨e, q⟩ := x
    have e : i = j := e
    subst e
    show KV c φ (br (decide (i = z)) ((i, v) :: repI z v as) ((i, u') :: repI z v as)) ((if i = z then (i, u) else (i, w)) :: bs.map _)
    by_cases hz : i = z
    · rw [decide_eq_true hz, if_pos hz]; exact .cons ⟨rfl, hv⟩ ih
    · rw [decide_eq_false hz, if_neg hz]; exact .cons ⟨rfl, q⟩ ih
theorem upI_ok {es : List (Int × AV)} {kvs : List (Int × Value)} (h : KV c φ es kvs) (z : Int) {v : AV} {u : Value} (hv : VR c φ v u) : KV c φ (upI z v es) (stored kvs z u) := by
  unfold upI stored
  rw [hasI_ok h z]
  cases e : kvs.any (fun kv => decide (kv.1 = z)) with
  | true => rw [br_true, if_pos rfl]; exact repI_ok h z hv
  | false => rw [br_false, if_neg (by decide)]; exact All2.append h (.cons ⟨rfl, hv⟩ .nil)
theorem dropI_ok {es : List (Int × AV)} {kvs : List (Int × Value)} (h : KV c φ es kvs) (z : Int) : KV c φ (dropI z es) (without kvs z) := by
  induction h with
  | nil => exact .nil
  | @cons a b as bs x _ ih =>
    obtain ⟨i, u'⟩ := a
    obtain ⟨j, w⟩ := b
    obtain ⟨e, q⟩ := x
    have e : i = j := e
    subst e
    unfold without at ih ⊢
    show KV c φ (br (decide (i = z)) (dropI z as) ((i, u') :: dropI z as)) _
    rw [List.filter_cons]
    by_cases hz : i = z
    · rw [decide_eq_true hz, if_neg (by simp [hz])]; exact ih
    · rw [decide_eq_false hz, if_pos (by simp [hz])]; exact .cons ⟨rfl, q⟩ ih
theorem dictAt_eq {j : Nat} {es : List (Int × AV)} (h : dictAt σ j = some es) : σ.get j = some (.dict es) := by
  obtain ⟨o, g, e⟩ := ob_eq h
  cases o <;> cases e
  exact g
theorem dict_upd (r : R c fa φ σ s) {i : Nat} {es es' : List (Int × AV)} (hi : σ.get i = some (.dict es)) {a : Addr} (ha : φ[i]? = some a) {h' : Heap} {tk : Nat} (hs : Heap.SameBut a s.heap h') {kvs kvs'} (hd : s.heap.DictOf (intKind pw c.w) a kvs) (hd' : h'.DictOf (intKind pw c.w) a kvs') (hk : KV c φ es' kvs') (hl : es'.length ≤ 1000) :
    R c fa φ (σ.set i (.dict es')) { s with heap := h', toks := tk } :=
  r.setObj ha (sameBut_turns hs) (fun es e => by rw [hi] at e; cases e) (dict_noTup hd) (o := .dict es') ⟨hl, kvs', hd', hk⟩ (fun d es n e => by rcases e with e | e <;> cases e)
theorem ok_setItem {o i v : AV} (h : setAt o i v σ = some σ') {u w x : Value} (ho : VR c φ o u) (hi : VR c φ i w) (hv : VR c φ v x) : Ok c fa A (setItem u w x) φ σ σ' fun _ _ => True := by
  intro Q E s r q
  obtain ⟨j, hj, h1⟩ := ob_eq h
  obtain ⟨z, hz, h2⟩ := ob_eq h1
  obtain ⟨es, he, h3⟩ := ob_eq h2
  obtain ⟨hs, h4⟩ := br_none h3
  cases h4
  rw [isRef_eq hj] at ho
  rw [isInt_eq hz] at hi
  obtain ⟨a, ha, rfl⟩ := ho
  obtain ⟨t, rfl⟩ := hi
  have hg := dictAt_eq he
  obtain ⟨a', ha', hl, kvs, hd, hk⟩ := r.obj _ _ hg
  rw [ha] at ha'; cases ha'
  have hs : es.length < 1000 := Nat.le_of_ble_eq_true hs
  refine wpAny_setItem_pairs (knd := intKind pw c.w) (k := z) (show (intKind pw c.w).is z (.int z t) = true from by show (z == z) = true; simp) hd (fun h' hd' hs' => ?_) (by rw [← hk.length]; exact Nat.le_trans hl (by decide))
  exact q φ _ () (List.prefix_refl _) (dict_upd r hg ha hs' hd hd' (upI_ok hk z hv) (Nat.le_trans (upI_len z v es) hs)) trivial
theorem ok_delItem (B : Base c k) {o i : AV} (h : delAt o i σ = some σ') {u w : Value} (ho : VR c φ o u) (hi : VR c φ i w) : Ok c fa A (delItem u w) φ σ σ' fun _ _ => True := by
  intro Q E s r q
  obtain ⟨j, hj, h1⟩ := ob_eq h
  obtain ⟨z, hz, h2⟩ := ob_eq h1
  obtain ⟨es, he, h3⟩ := ob_eq h2
  obtain ⟨y, hy, h4⟩ := ob_eq h3
  cases h4
  rw [isRef_eq hj] at ho
  rw [isInt_eq hz] at hi
  obtain ⟨a, ha, rfl⟩ := ho
  obtain ⟨t, rfl⟩ := hi
  have hg := dictAt_eq he
  obtain ⟨a', ha', hl, kvs, hd, hk⟩ := r.obj _ _ hg
  rw [ha] at ha'; cases ha'
  have hv := lkI_ok hk z
  rw [hy] at hv
  obtain ⟨yv, hyv, _⟩ := hv
  unfold delItem
  try with_reducible refine wpAny_holding ?_
  refine wpAny_bind (wpAny_sequenceKey hd.typeIs (by decide) ?_)
  refine wpAny_bind (wpAny_callSpecial?_slot (name := Str.ofString "__delitem__") hd.typeIs PySem.F.slot_dict_delitem
    (call_meetsIn PySem.F.slot_dict_delitem hd.typeIs PySem.F.entry_dict_delitem (PySem.F.args_dict_delitem_2 _ _) (meets_dict_delitem_pairs (intKind pw c.w) a (k := z) (show (intKind pw c.w).is z (.int z t) = true from by show (z == z) = true; simp))
      ⟨kvs, hd, (by rw [← hk.length]; exact Nat.le_trans hl (by decide)), (by rw [hyv]; rfl), fun h' hd' hs => ?_⟩))
  exact wpAny_pure (q φ _ () (List.prefix_refl _) (dict_upd r hg ha hs hd hd' (dropI_ok hk z) (Nat.le_trans (dropI_len z es) hl)) trivial)
end
end Mine
set_option maxRecDepth 100000
namespace Mine
noncomputable section
open PySem PySem.W PyProof.Rows
variable {c : Cx} {k : FC} {f : FA} {fa : List FA} {φ : List Addr} {σ σ' τ : AS} {s s' : Shared} {A : Around}
theorem drop_sel (sel : Nat → Bool) (p : Nat) : ∀ (l : List Value) (i : Nat), (∀ j, i ≤ j → j < i + l.length → sel j = decide (p ≤ j)) →
    ((l.zipIdx i).filterMap fun (x : Value × Nat) => if sel x.2 = true then none else some x.1) = l.take (p - i)
  | [], i, _ => by simp
  | x :: l, i, h => by
    have ih := drop_sel sel p l (i + 1) (fun j h1 h2 => h j (by omega) (by rw [List.length_cons]; omega))
    rw [List.zipIdx_cons, List.filterMap_cons]
    have h0 := h i (Nat.le_refl _) (by rw [List.length_cons]; omega)
    dsimp only
    rw [h0]
    by_cases hp : p ≤ i
    · rw [decide_eq_true hp, if_pos rfl, ih, show p - (i + 1) = 0 by omega, show p - i = 0 by omega]; rfl
    · rw [decide_eq_false hp, if_neg (by decide), ih, show p - i = (p - (i + 1)) + 1 by omega]; rfl
/-- where the cut begins -/
def cutP (n : Nat) : Option Int → Nat
  | none => 0
  | some (.negSucc k) => n - (k + 1)
  | some (.ofNat _) => n
theorem keep_ok {xs ys : List AV} {vs : Array Value} {lo : Option AV} {vl : Value} (hvs : All2 (VR c φ) xs vs.toList) (h : keepAt xs lo = some ys) (hlo : PartR c φ lo vl) :
    ∃ p, IsPart vl p ∧ All2 (VR c φ) ys (vs.toList.take (cutP vs.size p)) ∧ sliceBounds p none none vs.size = (((cutP vs.size p : Nat) : Int), (vs.size : Int), (1 : Int)) := by
  cases lo with
  | none =>
    cases h
    obtain rfl := hlo
    exact ⟨none, .none, .nil, rfl⟩
  | some l =>
    replace h : keepN xs l = some ys := h
    cases l with
    | int z =>
      cases z with
      | negSucc n =>
        cases h
        obtain ⟨t, rfl⟩ := hlo
        refine ⟨_, .int _ t, ?_, ?_⟩
        · show All2 _ _ (vs.toList.take (vs.size - (n + 1)))
          rw [size_eq hvs]; exact hvs.take _
        · have e : sliceBounds (some (Int.negSucc n)) none none vs.size = (max 0 (min (Int.negSucc n + (vs.size : Int)) (vs.size : Int)), (vs.size : Int), (1 : Int)) := by
            unfold sliceBounds
            simp only [Option.getD_none, if_pos (show (1 : Int) > 0 by decide), if_pos (Int.negSucc_lt_zero n)]
          rw [e]
          have : max 0 (min (Int.negSucc n + (vs.size : Int)) (vs.size : Int)) = ((cutP vs.size (some (Int.negSucc n)) : Nat) : Int) := by
            show _ = ((vs.size - (n + 1) : Nat) : Int)
            omega
          rw [this]
      | ofNat n => cases h
    | _ => cases h
theorem ok_delSlice {o : AV} {lo : Option AV} (h : delCut o lo σ = some σ') {u vl : Value} (ho : VR c φ o u) (hlo : PartR c φ lo vl) {Q : Unit → Shared → Prop} {E : Value → Shared → Prop} (r : R c fa φ σ s)
    (q : ∀ s', R c fa φ σ' s' → Q () s') : wpAny (model pw c.w) A (delItem u (.ref s.heap.objs.size)) Q E { s with heap := s.heap.push (sliceO vl) } := by
  obtain ⟨j, hj, h2⟩ := ob_eq h
  obtain ⟨xs, hxs, h3⟩ := ob_eq h2
  obtain ⟨ys, hys, h4⟩ := ob_eq h3
  cases h4
  obtain rfl := isRef_eq hj
  obtain ⟨a, ha, rfl⟩ := ho
  obtain ⟨ob1, g1, e1⟩ := ob_eq hxs
  have r1 := r.grow (grows_push s (sliceO vl))
  obtain ⟨a', ha', ho⟩ := r1.obj _ _ g1
  rw [ha] at ha'; cases ha'
  have hs : (s.heap.push (sliceO vl)).IsSliceOf s.heap.objs.size vl .none .none := Heap.IsSliceOf.new ..
  cases ob1 with
  | list zs =>
    cases e1
    obtain ⟨hl, vs, n, e, hvs⟩ := ho
    obtain ⟨p, pl, hy, hb⟩ := keep_ok hvs hys hlo
    have hsz := size_eq hvs
    have big : (1000 : Nat) ≤ sizeLine := by decide
    generalize hH : s.heap.push (sliceO vl) = H at *
    obtain ⟨os, hos, hcs, hds⟩ := id hs
    have hTs : ({ s with heap := H } : Shared).TypeIs (.ref s.heap.objs.size) "slice" := ⟨os, hos, hcs⟩
    refine wpAny_delItem_slot (s := { s with heap := H }) (show ({ s with heap := H } : Shared).TypeIs (.ref a) "list" from ⟨_, e, rfl⟩) (by decide) F.slot_list_delitem
      (wpAny_call_entry F.slot_list_delitem (show ({ s with heap := H } : Shared).TypeIs (.ref a) "list" from ⟨_, e, rfl⟩) F.entry_list_delitem ?_ (F.args_list_delitem_2 _ _))
    show wpAny _ _ (Builtin.List.listSubscript? (.ref s.heap.objs.size) >>= _) _ _ _
    refine wpAny_bind ?_
    unfold Builtin.List.listSubscript?
    refine wpAny_bind (wpAny_specialOf hTs slice_no_index ?_)
    simp only [Option.isNone_none, if_true]
    refine wpAny_pure ?_
    show wpAny _ _ (typeOf (.ref s.heap.objs.size) >>= _) _ _ _
    refine wpAny_bind (wpAny_typeOf hTs ?_)
    rw [if_neg (by decide)]
    rw [listSliceParts_eq]
    refine wpAny_bind (wpAny_bind (wpAny_field hos hds (x := .none) rfl (wpAny_bind (wpAny_listPart .none ?_))))
    rw [if_neg (by decide)]
    refine wpAny_bind (wpAny_field hos hds (x := vl) rfl (wpAny_bind (wpAny_listPart pl ?_)))
    refine wpAny_bind (wpAny_field hos hds (x := .none) rfl (wpAny_bind (wpAny_listPart .none (wpAny_pure ?_))))
    refine wpAny_bind (listItems_at e rfl ?_)
    refine wpAny_bind (wpAny_of_eq (sliceIndices_raw p none none vs.size (by simp)) ?_)
    rw [hb]
    dsimp only
    refine wpAny_bind (wpAny_rule ?_)
    have key : (List.filterMap (fun (x : Value × Nat) => match x with | (x, k) => if (if (1 : Int) > 0 then decide ((cutP vs.size p : Int) ≤ (k : Int)) && decide ((k : Int) < (vs.size : Int)) && ((k : Int) - (cutP vs.size p : Int)) % 1 == 0 else decide ((vs.size : Int) < (k : Int)) && decide ((k : Int) ≤ (cutP vs.size p : Int)) && ((cutP vs.size p : Int) - (k : Int)) % (-1) == 0) = true then none else some x) vs.toList.zipIdx).toArray = (vs.toList.take (cutP vs.size p)).toArray := by
      have := drop_sel (fun k => (if (1 : Int) > 0 then decide ((cutP vs.size p : Int) ≤ (k : Int)) && decide ((k : Int) < (vs.size : Int)) && ((k : Int) - (cutP vs.size p : Int)) % 1 == 0 else decide ((vs.size : Int) < (k : Int)) && decide ((k : Int) ≤ (cutP vs.size p : Int)) && ((cutP vs.size p : Int) - (k : Int)) % (-1) == 0)) (cutP vs.size p) vs.toList 0 (fun j _ h2 => by
        rw [if_pos (by decide)]
        have h2 : j < vs.size := by simpa using h2
        have e1 : decide ((j : Int) < (vs.size : Int)) = true := decide_eq_true (by omega)
        have e2 : (((j : Int) - (cutP vs.size p : Int)) % 1 == 0) = true := by rw [Int.emod_one]; rfl
        rw [e1, e2, Bool.and_true, Bool.and_true]
        by_cases hc : cutP vs.size p ≤ j
        · rw [decide_eq_true hc, decide_eq_true (by omega)]
        · rw [decide_eq_false hc, decide_eq_false (by omega)])
      rw [Nat.sub_zero] at this
      rw [← this]
    have hlen := hy.length
    have hvl : vs.toList.length = vs.size := Array.length_toList
    have hlt : ys.length ≤ 1000 := by rw [hlen, List.length_take]; omega
    have hk := hy
    rw [show vs.toList.take (cutP vs.size p) = ((vs.toList.take (cutP vs.size p)).toArray).toList from rfl, ← key] at hk
    refine wpAny_bind (listUpdate_at e rfl ?_ (by omega) (Nat.le_trans (Nat.le_of_eq (congrArg Array.size key)) (by rw [List.size_toArray, List.length_take]; omega)))
    refine wpAny_bind (wpAny_letGo ?_)
    refine wpAny_pure ⟨_, rfl, q _ (list_upd (s := { s with heap := H }) r1 ha g1 e (ys := ys) ?_ hlt)⟩
    exact hk
  | _ => cases e1
end
end Mine
set_option maxRecDepth 100000
namespace Mine
noncomputable section
open PySem PySem.W PyProof.Rows
open MeetsSeq SeqAt
variable {c : Cx} {k : FC} {f : FA} {fa : List FA} {φ : List Addr} {σ σ' τ : AS} {s s' : Shared} {A : Around} {o : Scope} {b : Bool} {env : Env} {m : Nat}

/-- what a call must give, at fuel n -/
def CallOk (c : Cx) (n : Nat) (I : IP) : Prop := ∀ fa φ σ σ' A fv args v u us, AOk n A → I.call fv args σ = some (v, σ') → VR c φ fv u → All2 (VR c φ) args us → OkV c fa A (call u us) φ σ σ' v ∧ ∀ s, R c fa φ σ s → Kept c s u

theorem con_eq (P : Params) : (conL.all fun C => isFnV (findIn (KS P) (.ref C) (cmpInfo .Eq).2.1) 282 && conL.all fun C' => notFirst (KS P) C (.ref C')) = true := by kernel_rfl
theorem fn282 (P : Params) : isFn (KS P) (.ref 282) = true := by kernel_rfl
theorem con_spec (P : Params) {C C' : Nat} (h : inL C conL = true) (h' : inL C' conL = true) : findIn (KS P) (.ref C) (cmpInfo .Eq).2.1 = some (some (.ref 282)) ∧ notFirst (KS P) C (.ref C') = true := by
  have := List.all_eq_true.mp (con_eq P) C ((inL_mem _ _).mp h)
  rw [Bool.and_eq_true] at this
  exact ⟨isFnV_eq this.1, List.all_eq_true.mp this.2 C' ((inL_mem _ _).mp h')⟩
theorem cmp_own {x : Addr} {ox : Obj} {od : Option Obj} {C : Nat} {y tb : Value} {Q : Value → Shared → Prop} {E} (hu : A.units < cLine) (X : (KS c.w.params).In s.heap) (I : InstAt s.heap x ox C od) (hb : Looks (model pw c.w) s.heap (typeOf y) tb)
    (hn : notFirst (KS c.w.params) C tb = true) (hs : findIn (KS c.w.params) (.ref C) (cmpInfo .Eq).2.1 = some (some (.ref 282)))
    (h : wpAny (model pw c.w) A (call (.ref 282) [.ref x, y]) (fun v s' => ∃ t, v = .bool t ∧ Q (.bool t) s') E s) : wpAny (model pw c.w) A (richCompare .Eq (.ref x) y) Q E s := by
  have one : wpAny (model pw c.w) A (tryCompare (.ref x) (cmpInfo .Eq).2.1 y) (fun r s' => ∃ v, r = some v ∧ Q v s') E s := by
    unfold tryCompare
    refine wpAny_bind (ifBound_K X I hs (fn282 _) (wpAny_mono h (fun v s' hv => ?_) fun _ _ e => e))
    obtain ⟨t, rfl, hq⟩ := hv
    exact wpAny_pure ⟨_, rfl, hq⟩
  unfold richCompare
  simp only [oneThing_ref]
  refine wpAny_holding (wpAny_bind (wpAny_cRoomFor hu ?_))
  refine wpAny_bind (I.type.here (wpAny_bind (hb.here ?_)))
  split
  · rename_i q
    have e : subIn (KS c.w.params) tb (.ref C) = some false := by
      rcases Bool.or_eq_true_iff.mp hn with e | e
      · rw [beq_iff_eq.mp e] at q; simp at q
      · exact beq_iff_eq.mp e
    refine wpAny_bind ((looks_subIn X e).here ?_)
    simp only [Bool.false_eq_true, if_false]
    refine wpAny_bind (wpAny_mono one (fun r s' z => ?_) fun _ _ e => e)
    obtain ⟨v, rfl, hq⟩ := z
    exact wpAny_pure hq
  · refine wpAny_bind (wpAny_pure ?_)
    simp only [Bool.false_eq_true, if_false]
    refine wpAny_bind (wpAny_mono one (fun r s' z => ?_) fun _ _ e => e)
    obtain ⟨v, rfl, hq⟩ := z
    exact wpAny_pure hq
/-- two pairs, item by item -/
theorem pair_tree {a d : Addr} {x1 x2 y1 y2 : Value} {n n' : Nat} {P : PySem.Fin → Shared → Prop} {E} {vs ws : Array Value} (ha : s.heap.get? a = some ⟨.type "tuple", none, .seq vs n, #[]⟩) (hd : s.heap.get? d = some ⟨.type "tuple", none, .seq ws n', #[]⟩)
    (hv : vs.toList = [x1, x2]) (hw : ws.toList = [y1, y2])
    (h : wpAny (model pw c.w) A (eqBool x1 y1) (fun e s1 => if e = true then wpAny (model pw c.w) A (eqBool x2 y2) (fun e2 s2 => P (.done (.ret (.bool e2))) s2) E s1 else P (.done (.ret (.bool false))) s1) E s) :
    wpAny (model pw c.w) A (Builtin.«tuple.__eq__» ⟨[.ref a, .ref d], []⟩) P E s := by
  show wpAny _ _ (isInstance (.ref d) (.type "tuple") >>= _) _ _ s
  refine wpAny_bind (wpAny_isInstance (show s.TypeIs (.ref d) "tuple" from ⟨_, hd, rfl⟩) isSubtype_tuple_tuple ?_)
  simp only [Bool.not_true, Bool.false_eq_true, if_false]
  refine wpAny_bind (wpAny_tupleItemsOf ha rfl ?_)
  refine wpAny_bind (wpAny_tupleItemsOf hd rfl ?_)
  rw [hv, hw]
  rw [show List.zip [x1, x2] [y1, y2] = [(x1, y1), (x2, y2)] from rfl]
  have hsz : (vs.size == ws.size) = true := by
    have e1 : vs.size = 2 := by rw [← Array.length_toList, hv]; rfl
    have e2 : ws.size = 2 := by rw [← Array.length_toList, hw]; rfl
    rw [e1, e2]; rfl
  refine wpAny_bind ?_
  rw [List.forIn_cons]
  refine wpAny_bind (wpAny_bind (wpAny_mono h (fun e s1 h1 => ?_) fun _ _ x => x))
  cases e with
  | false =>
    simp only [Bool.false_eq_true, if_false] at h1
    simp only [Bool.not_false, if_true]
    exact wpAny_bind (wpAny_pure (wpAny_pure (wpAny_pure (wpAny_pure h1))))
  | true =>
    simp only [if_true] at h1
    simp only [Bool.not_true, Bool.false_eq_true, if_false]
    refine wpAny_pure ?_
    show wpAny _ _ (forIn [(x2, y2)] _ _) _ _ _
    rw [List.forIn_cons]
    refine wpAny_bind (wpAny_bind (wpAny_mono h1 (fun e s2 h2 => ?_) fun _ _ x => x))
    cases e with
    | false =>
      simp only [Bool.not_false, if_true]
      exact wpAny_bind (wpAny_pure (wpAny_pure (wpAny_pure (wpAny_pure h2))))
    | true =>
      simp only [Bool.not_true, Bool.false_eq_true, if_false]
      refine wpAny_pure ?_
      show wpAny _ _ (forIn [] _ _) _ _ _
      rw [List.forIn_nil]
      refine wpAny_pure (wpAny_pure ?_)
      show P (.done (.ret (.bool (vs.size == ws.size)))) s2
      rw [hsz]; exact h2
theorem pairAt_ok (r : R c fa φ σ s) {j x y : Nat} (h : pairAt σ j = some (x, y)) : ∃ d vs n ax ay, φ[j]? = some d ∧ s.heap.get? d = some ⟨.type "tuple", none, .seq vs n, #[]⟩ ∧ φ[x]? = some ax ∧ φ[y]? = some ay ∧ vs.toList = [.ref ax, .ref ay] := by
  obtain ⟨p, hp, h⟩ := ob_eq h
  obtain ⟨q, hq, h⟩ := ob_eq h
  obtain ⟨c1, h1, h⟩ := ob_eq h
  obtain ⟨c2, h2, h⟩ := ob_eq h
  cases h
  obtain rfl := two_eq hq
  rw [isRef_eq h1, isRef_eq h2] at hp
  obtain ⟨o1, g1, e1⟩ := ob_eq hp
  cases o1 <;> try cases e1
  obtain ⟨d, hd, _, vs, n, e, hvs⟩ := r.obj _ _ g1
  generalize hl : vs.toList = l at hvs
  cases hvs with
  | cons z1 z2 =>
    cases z2 with
    | cons z2 z3 =>
      cases z3
      obtain ⟨ax, hax, rfl⟩ := z1
      obtain ⟨ay, hay, rfl⟩ := z2
      exact ⟨d, vs, n, ax, ay, hd, e, hax, hay, hl⟩
theorem eq_same {v : Value} {Q : Bool → Shared → Prop} {E} {M : Model} (h : Q true s) : wpAny M A (eqBool v v) Q E s := by
  unfold eqBool
  refine wpAny_holding ?_
  refine wpAny_ite_split (fun _ => ?_) (fun hab => absurd (beq_self_eq_true v) hab)
  exact wpAny_bind (wpAny_rule (wpAny_pure h))
theorem eq_refs {a d : Addr} {Q : Bool → Shared → Prop} {E} {M : Model} (hne : a ≠ d) (h : wpAny M A (richCompare .Eq (.ref a) (.ref d)) (fun v s' => ∃ t, v = .bool t ∧ Q t s') E s) : wpAny M A (eqBool (.ref a) (.ref d)) Q E s := by
  unfold eqBool
  refine wpAny_holding ?_
  refine wpAny_ite_split (fun hab => absurd (by have := eq_of_beq hab; injection this) hne) (fun _ => ?_)
  refine wpAny_bind (wpAny_mono h (fun v s' hv => ?_) fun _ _ x => x)
  obtain ⟨t, rfl, hq⟩ := hv
  exact wpAny_truthy_bool hq
theorem AOk.in2 {n : Nat} (h : AOk (n + 1) A) : AOk n A.in1.in1 := ⟨h.hh, by have := h.depth; show A.depth + 5 * n ≤ 900; omega, by have := h.units; show A.units + 1 + 1 + 20 * n ≤ 5000; omega⟩
theorem inst_instAt (r : R c fa φ σ s) {x C : Nat} (h : instNs σ x = some C) {a : Addr} (ha : φ[x]? = some a) : ∃ ox od, InstAt s.heap a ox C od := by
  obtain ⟨⟨C', d⟩, h1, h2⟩ := ob_eq h
  obtain ⟨es, h3, h4⟩ := ob_eq h2
  cases h4
  obtain ⟨o1, g1, e1⟩ := ob_eq h1
  cases o1 <;> try cases e1
  obtain ⟨a', ha', b, hb, ho⟩ := r.obj _ _ g1
  rw [ha] at ha'; cases ha'
  obtain ⟨o2, g2, e2⟩ := ob_eq h3
  cases o2 <;> try cases e2
  obtain ⟨b', hb', hn⟩ := r.obj _ _ g2
  rw [hb] at hb'; cases hb'
  obtain ⟨mm, hm, _⟩ := hn
  obtain ⟨od, hod, _⟩ := ns_look hm
  exact ⟨_, some od, ho, rfl, rfl, hod⟩
theorem rem_loop {n : Nat} (B : Base c k) (hA : AOk (n + 1) A) {I : IP} (hc : CallOk c n I) {i j : Nat} {v : AV} {Rr : Result → Shared → Prop} : ∀ {fu idx : Nat} {φ : List Addr} {σ : AS} {s : Shared} {a d : Addr}, remLoop I i j fu idx σ = some (v, σ') → R c fa φ σ s →
    φ[i]? = some a → φ[j]? = some d → (∀ φ' s', φ <+: φ' → R c fa φ' σ' s' → VR c φ' v .none → Rr (.ok (.ret .none)) s') → codeAny (model pw c.w) A (.builtin "list.remove.loop" ⟨[.ref a, .ref d, rawInt idx], []⟩) Rr s
  | 0, _, _, _, _, _, _, h, _, _, _, _ => by cases h
  | fu + 1, idx, φ, σ, s, a, d, h, r, ha, hd, q => by
    obtain ⟨xs, hx, ha1⟩ := ob_eq h
    obtain ⟨x, hxi, ha2⟩ := ob_eq ha1
    obtain ⟨l, hl, ha3⟩ := ob_eq ha2
    obtain ⟨⟨p1, p2⟩, hp, ha4⟩ := ob_eq ha3
    obtain ⟨⟨q1, q2⟩, hq, hz9⟩ := ob_eq ha4
    clear ha1 ha2 ha3 ha4
    dsimp only at hz9
    obtain rfl := isRef_eq hl
    obtain ⟨o1, g1, e1⟩ := ob_eq hx
    cases o1 <;> try cases e1
    obtain ⟨a', ha', hlen, vs, nn, e, hvs⟩ := r.obj _ _ g1
    rw [ha] at ha'; cases ha'
    obtain ⟨y, hy, hyv⟩ := hvs.get? hxi
    obtain ⟨z, hz, rfl⟩ := hyv
    obtain ⟨z', ws, n1, ax, ay, hz', ez, hax, hay, hws⟩ := pairAt_ok r hp
    rw [hz] at hz'; cases hz'
    obtain ⟨d', us, n2, bx, bY, hd', ed, hbx, hby, hus⟩ := pairAt_ok r hq
    rw [hd] at hd'; cases hd'
    have hsz := size_eq hvs
    have hlt : idx < vs.size := by have := (List.getElem?_eq_some_iff.mp hxi).1; omega
    have hit : vs[((idx : Nat) : Int).toNat]? = some (.ref z) := by rw [Int.toNat_natCast, ← Array.getElem?_toList]; exact hy
    refine codeAny_builtin entry_remove_loop ?_
    rw [Around.under_plainId plain_remove_loop _]
    have X := r.ks B
    have big : (1000 : Nat) ≤ sizeLine := by decide
    have hz2 : (vs.eraseIdxIfInBounds idx).size ≤ sizeLine + 1 := Nat.le_trans (size_erased vs _) (by omega)
    have hun := hA.units
    show wpAny _ _ (Builtin.List.listItems (.ref a) >>= _) _ _ s
    refine wpAny_bind (listItems_at e rfl ?_)
    rw [hit]
    dsimp only
    -- what follows a hit, and a miss
    have yes : p1 = q1 → p2 = q2 → wpAny (model pw c.w) A.in1 (Builtin.List.listUpdate (.ref a) (·.eraseIdxIfInBounds ((idx : Nat) : Int).toNat) >>= fun _ => PySem.ret Value.none) (fun (fin : PySem.Fin) s' => match fin with | .done f => Rr (.ok f) s' | .again c' => c'.quiet = true ∧ codeAny (model pw c.w) A c' Rr s') (fun e s' => Rr (.error e) s') s := by
      rintro rfl rfl
      rw [show Nat.beq p1 p1 = true from Nat.beq_refl p1, show Nat.beq p2 p2 = true from Nat.beq_refl p2] at hz9
      obtain ⟨rfl, rfl⟩ := ret_eq hz9
      rw [Int.toNat_natCast]
      refine wpAny_bind (listUpdate_at e rfl ?_ (by omega) hz2)
      refine wpAny_pure (q φ _ (List.prefix_refl _) (list_upd r ha g1 e (g := fun x => x.eraseIdxIfInBounds idx) (ys := xs.eraseIdx idx) ?_ ?_) rfl)
      · have : (vs.eraseIdxIfInBounds idx).toList = vs.toList.eraseIdx idx := by
          unfold Array.eraseIdxIfInBounds
          rw [dif_pos hlt, Array.toList_eraseIdx]
        rw [this, List.eraseIdx_eq_take_drop_succ, List.eraseIdx_eq_take_drop_succ]
        exact (hvs.take _).append (hvs.drop _)
      · exact Nat.le_trans (List.length_eraseIdx_le xs idx) hlen
    by_cases hzd : z = d
    · subst hzd
      have e5 : p1 = q1 ∧ p2 = q2 := by
        rw [ez] at ed; cases ed
        rw [hws] at hus; cases hus
        exact ⟨nodup_get r.nodφ hax hbx, nodup_get r.nodφ hay hby⟩
      refine wpAny_bind (eq_same ?_)
      rw [if_pos rfl]
      exact yes e5.1 e5.2
    · refine wpAny_bind (eq_refs hzd ?_)
      refine wpAny_richCompare_same_room (op := .Eq) ⟨_, ez, rfl⟩ ⟨_, ed, rfl⟩ F.slot_tuple_eq (wpAny_call_entry F.slot_tuple_eq ⟨_, ez, rfl⟩ F.entry_tuple_eq
        (pair_tree ez ed hws hus ?_) (F.args_tuple_eq_2 _ _)) (by show A.units + 1 < 9900; omega)
      by_cases hab : ax = bx
      · subst hab
        obtain rfl : p1 = q1 := nodup_get r.nodφ hax hbx
        refine eq_same ?_
        rw [if_pos rfl]
        rw [show Nat.beq p1 p1 = true from Nat.beq_refl p1] at hz9
        obtain ⟨hb2, h5⟩ := br_none hz9
        obtain rfl := nbeq hb2
        rw [hay] at hby; cases hby
        refine eq_same ⟨_, rfl, (fun e => nomatch e), _, rfl, ?_⟩
        rw [if_pos rfl]
        exact yes rfl rfl
      · have hpq : p1 ≠ q1 := fun e => hab (by rw [e, hbx] at hax; cases hax; rfl)
        rw [show Nat.beq p1 q1 = false from by cases e : Nat.beq p1 q1 with | false => rfl | true => exact absurd (nbeq e) hpq] at hz9
        obtain ⟨C1, hi1, e1⟩ := ob_eq hz9
        obtain ⟨C2, hi2, e2⟩ := ob_eq e1
        obtain ⟨hC1, e3⟩ := br_none e2
        obtain ⟨hC2, e4⟩ := br_none e3
        obtain ⟨bv, σ1, hcall, e5⟩ := bnd_eq e4
        obtain ⟨hf, e6⟩ := br_none e5
        obtain ⟨hs, hn⟩ := con_spec c.w.params hC1 hC2
        obtain ⟨ox, od, I1⟩ := inst_instAt r hi1 hax
        obtain ⟨oy, od2, I2⟩ := inst_instAt r hi2 hbx
        refine eq_refs hab (cmp_own (by show A.units + 1 + 1 < 9900; omega) X I1 I2.type hn hs ?_)
        refine (hc fa φ σ σ1 A.in1.in1 _ _ _ _ _ hA.in2 hcall rfl (.cons ⟨ax, hax, rfl⟩ (.cons ⟨bx, hbx, rfl⟩ .nil))).1 _ _ s r fun φ1 s1 u p r1 hu => ?_
        cases bv with
        | bool t =>
          cases t with
          | true => cases hf
          | false =>
            obtain rfl := hu
            refine ⟨false, rfl, false, rfl, ?_⟩
            rw [if_neg (by decide)]
            refine ⟨_, rfl, (fun e => nomatch e), false, rfl, ?_⟩
            rw [if_neg (by decide)]
            rw [show ((idx : Int) + 1) = ((idx + 1 : Nat) : Int) by push_cast; rfl]
            exact wpAny_pure ⟨plainId_quiet plain_remove_loop _, rem_loop B hA hc e6 r1 (pre_get p ha) (pre_get p hd) fun φ2 s2 p2 => q φ2 s2 (p.trans p2)⟩
        | _ => cases hf
theorem ok_remove {n : Nat} (B : Base c k) (hA : AOk (n + 1) A) {I : IP} (hc : CallOk c n I) {i : Nat} {xs : List AV} {args : List AV} {v : AV} (hi : σ.get i = some (.list xs)) (h : mRemove I i xs args σ = some (v, σ')) {a : Addr} (ha : φ[i]? = some a) {us : List Value} (hv : All2 (VR c φ) args us) :
    OkV c fa A (call (.builtin "list.remove") (.ref a :: us)) φ σ σ' v := by
  intro Q E s r q
  obtain ⟨w, hw, h2⟩ := ob_eq h
  obtain ⟨j, hj, h3⟩ := ob_eq h2
  obtain rfl := one_eq hw
  obtain rfl := isRef_eq hj
  cases hv with
  | cons hu hr =>
    cases hr
    obtain ⟨d, hd, rfl⟩ := hu
    obtain ⟨a', ha', hl, vs, nn, e, hvs⟩ := r.obj i _ hi
    rw [ha] at ha'; cases ha'
    refine wpAny_call (codeAny_call_builtin F.slot_list_remove.plain F.entry_list_remove (F.slot_list_remove.check _ _ _ _ _ _ _ _ ⟨_, e, rfl⟩ (F.args_list_remove_2 _ _) ?_))
    show wpAny _ _ (pure _) _ _ s
    exact wpAny_pure ⟨plainId_quiet plain_remove_loop _, rem_loop B hA hc (idx := 0) h3 r ha hd fun φ1 s1 p r1 hz => q φ1 s1 _ p r1 hz⟩
end
end Mine
set_option maxRecDepth 100000
set_option Elab.async false
namespace Mine
noncomputable section
open PySem PySem.W PySem.W.X PyProof.Rows
variable {c : Cx} {k : FC} {f : FA} {fa : List FA} {φ : List Addr} {σ σ' τ : AS} {s s' : Shared} {A : Around}

/-! ### what a constructor has made -/
theorem away_nil (b : Addr) : away [] b = true := rfl
theorem mem_keep {h₀ h : Heap} {news} (D : Mem h₀ h [] news) : ∀ b o, h₀.get? b = some o → h.get? b = some o := fun b o e => D.keep b o e (by rw [away_nil, Bool.or_true])
def NewIn (c : Cx) (fa : List FA) (φ : List Addr) (h : Heap) (a : Addr) : Prop := a ∉ owns φ fa ∧ a < h.objs.size ∧ ∀ o, ¬ c.kp a o
theorem owns_snoc {a b : Addr} (h : a ∉ owns φ fa) (ne : a ≠ b) : a ∉ owns (φ ++ [b]) fa := by
  unfold owns at h ⊢
  rw [List.append_assoc, List.mem_append, not_or] at *
  refine ⟨h.1, ?_⟩
  rw [List.mem_append, not_or]
  exact ⟨by simpa using ne, h.2⟩
theorem NewIn.snoc {h : Heap} {a b : Addr} (x : NewIn c fa φ h a) (ne : a ≠ b) : NewIn c fa (φ ++ [b]) h a := ⟨owns_snoc x.1 ne, x.2⟩
theorem R.born (r : R c fa φ σ s) {h : Heap} {news} (D : Mem s.heap h [] news) (dd : Dd s.heap h) (tk : Nat) : R c fa φ σ { s with heap := h, toks := tk } ∧ (∀ p ∈ news, NewIn c fa φ h p.1) := by
  refine ⟨r.grow (s' := { s with heap := h, toks := tk }) ⟨mem_keep D, dd.1, rfl, rfl, rfl⟩, fun p hp => ?_⟩
  obtain ⟨e1, e2⟩ := D.nw p hp
  have hf := dd.fresh e2 e1
  exact ⟨fun m => absurd (r.lt _ m) (Nat.not_lt.mpr hf), Heap.lt_size e1, fun o q => absurd (Heap.lt_size (r.keep _ o q)) (Nat.not_lt.mpr hf)⟩
/-- one more of the objects that stand -/
theorem R.adopt (r : R c fa φ σ s) {a : Addr} (x : NewIn c fa φ s.heap a) {o : AO} (ho : OR c (φ ++ [a]) s.heap a o)
    (hz : ∀ d es n, o = .kit d es n ∨ o = .vit d es n → σ.get d = some (.fdict es)) : R c fa (φ ++ [a]) (σ.new o) s := by
  obtain ⟨hn, hlt, hk⟩ := x
  have pre : φ <+: φ ++ [a] := List.prefix_append _ _
  have old : ∀ d b, σ.get d = some b → d ≠ σ.m := fun d b e => by
    obtain ⟨b, hb, _⟩ := r.obj d _ e
    have := (List.getElem?_eq_some_iff.mp hb).1
    rw [r.len] at this; exact Nat.ne_of_lt this
  have perm : (owns (φ ++ [a]) fa).Perm (a :: owns φ fa) := by unfold owns; rw [List.append_assoc]; exact List.perm_middle
  refine ⟨fun i x e => ?_, fun i d es n e => ?_, ?_, ?_, fun b m => ?_, fun b m => ?_, r.keep, ?_, r.gens, r.dr, r.os⟩
  · rcases new_get e with ⟨rfl, rfl⟩ | ⟨_, e⟩
    · exact ⟨a, by rw [← r.len]; simp, ho⟩
    · obtain ⟨b, hb, q⟩ := r.obj i x e
      exact ⟨b, pre_get pre hb, q.mono pre⟩
  · rcases e with e | e <;> rcases new_get e with ⟨_, e'⟩ | ⟨_, e'⟩
    · have := hz d es n (.inl e'.symm); exact (new_get_ne (old _ _ this)).trans this
    · have := r.frz i d es n (.inl e'); exact (new_get_ne (old _ _ this)).trans this
    · have := hz d es n (.inr e'.symm); exact (new_get_ne (old _ _ this)).trans this
    · have := r.frz i d es n (.inr e'); exact (new_get_ne (old _ _ this)).trans this
  · show (φ ++ [a]).length = σ.m.succ; simp [r.len]
  · exact perm.nodup_iff.mpr (List.nodup_cons.mpr ⟨hn, r.nod⟩)
  · rcases List.mem_cons.mp (perm.mem_iff.mp m) with rfl | m
    · exact hlt
    · exact r.lt b m
  · rcases List.mem_cons.mp (perm.mem_iff.mp m) with rfl | m
    · exact hk
    · exact r.new b m
  · exact r.fr.mono fun f m q => q.mono pre
theorem R.snoc (r : R c fa φ σ s) (a : Addr) : (φ ++ [a])[σ.m]? = some a := by rw [← r.len]; simp
/-- a namespace, as it was made -/
theorem ns_made {h : Heap} {a : Addr} {cl : Value} {d : Option Addr} {sl} {ep : Nat} {L : List (Nat × Int × Str × Tok × Value)} (hg : h.get? a = some ⟨cl, d, .dict (L.map fun p => ⟨p.2.1, .str p.2.2.1 p.2.2.2.1, p.2.2.2.2⟩).toArray ep, sl⟩)
    (hn : ∀ p ∈ L, p.1 < nmN ∧ p.2.2.1 = nm p.1) {es : List (Nat × AV)} (hes : All2 (fun (e : Nat × AV) (p : Nat × Int × Str × Tok × Value) => e.1 = p.1 ∧ VR c φ e.2 p.2.2.2.2) es L) : NsR c φ h a es := by
  refine ⟨_, ⟨_, _, _, hg, rfl, fun e he => ?_, fun _ => rfl⟩, fun x hx => ?_⟩
  · have he' : e ∈ (L.map fun p => (⟨p.2.1, .str p.2.2.1 p.2.2.2.1, p.2.2.2.2⟩ : DictEntry)) := by simpa using he
    obtain ⟨p, _, rfl⟩ := List.mem_map.mp he'
    exact ⟨_, _, rfl⟩
  · unfold nsFind findBy
    rw [← Array.find?_toList]
    show OV c φ (lk es x) (Option.map _ ((L.map fun p => (⟨p.2.1, .str p.2.2.1 p.2.2.2.1, p.2.2.2.2⟩ : DictEntry)).find? _))
    clear hg
    induction hes with
    | nil => rfl
    | @cons e p es L he _ ih =>
      obtain ⟨i, v⟩ := e
      obtain ⟨j, hs, n, t, u⟩ := p
      obtain ⟨e1, hv⟩ := he
      have e1 : i = j := e1
      subst e1
      obtain ⟨hi, hnm⟩ := hn _ List.mem_cons_self
      have hnm : n = nm i := hnm
      subst hnm
      rw [lk_cons, List.map_cons, List.find?_cons]
      by_cases q : i = x
      · subst q
        dsimp only
        rw [if_pos rfl, show (Value.str (nm i) t).isStr (nm i) = true by show (nm i == nm i) = true; simp]
        exact ⟨u, rfl, hv⟩
      · dsimp only
        rw [if_neg q, show (Value.str (nm i) t).isStr (nm x) = false by
          show (nm i == nm x) = false
          exact Bool.eq_false_iff.mpr fun e => q (nm_inj i x hi hx (eq_of_beq e))]
        exact ih fun p hp => hn p (List.mem_cons_of_mem _ hp)

def bigA : Around := { depth := 950, units := 9000 }
theorem to_big {α : Type} {n : Nat} (hA : AOk n A) {M : Model} {t : Sem α} {Q : α → Shared → Prop} {E} (h : wpAny M bigA t Q E s) : wpAny M A t Q E s :=
  wpAny_weaken hA.hh (by have := hA.depth; show A.depth ≤ 950; omega) (by have := hA.units; show A.units ≤ 9000; omega) rfl rfl h
def insO (C d : Nat) : Obj := ⟨.ref C, some d, .plain, #[]⟩
def nsO (cl : Value) (es : List DictEntry) (ep : Nat) : Obj := ⟨cl, none, .dict es.toArray ep, #[]⟩
def lsO : Obj := ⟨.type "list", none, .seq #[] 0, #[]⟩
def diO : Obj := ⟨.type "dict", none, .dict #[] 0, #[]⟩
def en (hs : Int) (x : Str) (t : Tok) (v : Value) : DictEntry := ⟨hs, .str x t, v⟩

def W356 (Q : Value → Shared → Prop) (s : Shared) : Prop := ∀ h tk a d, Mem s.heap h [] [(a, insO 356 d), (d, diO)] → Q (.ref a) { s with heap := h, toks := tk }
theorem use356 {Q : Value → Shared → Prop} {h tk a d} (q : W356 Q s) (D : Mem s.heap h [] [(a, insO 356 d), (d, diO)]) : Q (.ref a) { s with heap := h, toks := tk } := q _ _ _ _ D
def W390 (v : Value) (Q : Value → Shared → Prop) (s : Shared) : Prop := ∀ h tk f o a d hs x t ep, x = nm 70 → Mem s.heap h [] [(f, o), (a, insO 390 d), (d, nsO (.type "dict") [en hs x t v] ep)] → Q (.ref a) { s with heap := h, toks := tk }
theorem use390 {v v' : Value} {Q : Value → Shared → Prop} {h tk f o a d hs x t ep} (q : W390 v Q s) (D : Mem s.heap h [] [(f, o), (a, insO 390 d), (d, nsO (.type "dict") [en hs x t v'] ep)]) (e : x = nm 70) (e' : v' = v) : Q (.ref a) { s with heap := h, toks := tk } := by
  subst e'; exact q _ _ _ _ _ _ _ _ _ _ e D
def W336 (Q : Value → Shared → Prop) (s : Shared) : Prop := ∀ h tk f o a d hs x t hs' x' t' ep, x = nm 67 → x' = nm 66 →
  Mem s.heap h [] [(f, o), (a, insO 336 d), (d, nsO (.type "dict") [en hs x t (.ref 407), en hs' x' t' (.bool true)] ep)] → Q (.ref a) { s with heap := h, toks := tk }
theorem use336 {v v' : Value} {Q : Value → Shared → Prop} {h tk f o a d hs x t hs' x' t' ep} (q : W336 Q s) (D : Mem s.heap h [] [(f, o), (a, insO 336 d), (d, nsO (.type "dict") [en hs x t v, en hs' x' t' v'] ep)])
    (e1 : x = nm 67) (e2 : x' = nm 66) (e3 : v = .ref 407) (e4 : v' = .bool true) : Q (.ref a) { s with heap := h, toks := tk } := by
  subst e3; subst e4; exact q _ _ _ _ _ _ _ _ _ _ _ _ _ e1 e2 D
def domW (d : Addr) (vs : Array Value) (n : Nat) : Obj := ⟨.ref 264, some d, .seq vs n, #[]⟩
def W264 (vs : Array Value) (Q : Value → Shared → Prop) (s : Shared) : Prop := ∀ h tk f o a d l1 l2 n hs x t hs' x' t' ep, x = nm 53 → x' = nm 54 →
  Mem s.heap h [] [(l2, lsO), (l1, lsO), (f, o), (a, domW d vs n), (d, nsO (.type "dict") [en hs x t (.ref l1), en hs' x' t' (.ref l2)] ep)] → Q (.ref a) { s with heap := h, toks := tk }
theorem use264 {vs : Array Value} {Q : Value → Shared → Prop} {h tk f o a d l1 l2 n hs x t hs' x' t' ep} (q : W264 vs Q s) (D : Mem s.heap h [] [(l2, lsO), (l1, lsO), (f, o), (a, domW d vs n), (d, nsO (.type "dict") [en hs x t (.ref l1), en hs' x' t' (.ref l2)] ep)])
    (e1 : x = nm 53) (e2 : x' = nm 54) : Q (.ref a) { s with heap := h, toks := tk } := q _ _ _ _ _ _ _ _ _ _ _ _ _ _ _ _ e1 e2 D
def W110 (Q : Value → Shared → Prop) (s : Shared) : Prop := ∀ h tk f o f2 o2 a d b d2 l1 l2 hs x t ep hs1 x1 t1 hs2 x2 t2 hs3 x3 t3 ep', x = nm 44 → x1 = nm 27 → x2 = nm 21 → x3 = nm 10 →
  Mem s.heap h [] [(l2, diO), (l1, lsO), (f, o), (b, insO 186 d2), (d2, nsO (.type "dict") [en hs x t (.bool true)] ep), (f2, o2), (a, insO 110 d),
    (d, nsO (.type "dict") [en hs1 x1 t1 (.ref b), en hs2 x2 t2 (.ref l1), en hs3 x3 t3 (.ref l2)] ep')] → Q (.ref a) { s with heap := h, toks := tk }
theorem use110 {Q : Value → Shared → Prop} {v : Value} {h tk f o f2 o2 a d b d2 l1 l2 hs x t ep hs1 x1 t1 hs2 x2 t2 hs3 x3 t3 ep'} (q : W110 Q s)
    (D : Mem s.heap h [] [(l2, diO), (l1, lsO), (f, o), (b, insO 186 d2), (d2, nsO (.type "dict") [en hs x t v] ep), (f2, o2), (a, insO 110 d),
    (d, nsO (.type "dict") [en hs1 x1 t1 (.ref b), en hs2 x2 t2 (.ref l1), en hs3 x3 t3 (.ref l2)] ep')]) (e : x = nm 44) (e1 : x1 = nm 27) (e2 : x2 = nm 21) (e3 : x3 = nm 10) (e4 : v = .bool true) : Q (.ref a) { s with heap := h, toks := tk } := by
  subst e4; exact q _ _ _ _ _ _ _ _ _ _ _ _ _ _ _ _ _ _ _ _ _ _ _ _ _ _ e e1 e2 e3 D
end
end Mine
set_option maxRecDepth 100000
set_option Elab.async false
namespace Mine
open PySem PySem.W PySem.W.X PyProof.Rows
section
local macro_rules | `(tactic| x_close) => `(tactic| exact use356 (by assumption) (by assumption))
set_option maxHeartbeats 0 in
theorem c356 {w : World} {E : Value → Shared → Prop} {s : Shared} (KX : (KS w.params).In s.heap) (Q : Value → Shared → Prop) (q : W356 Q s)
   : wpAny (model PySem.Challenge.pw_de5024_01 w) bigA (call (.ref 356) []) Q E s := by
  x_run
end
section
local macro_rules | `(tactic| x_close) => `(tactic| (refine use390 (by assumption) (by assumption) ?_ ?_ <;> kernel_rfl))
set_option maxHeartbeats 0 in
theorem c390 {w : World} {E : Value → Shared → Prop} {s : Shared} (KX : (KS w.params).In s.heap) (Q : Value → Shared → Prop) {l : Addr} (q : W390 (.ref l) Q s)
   : wpAny (model PySem.Challenge.pw_de5024_01 w) bigA (call (.ref 390) [.ref l]) Q E s := by
  x_run
end
section
local macro_rules | `(tactic| x_close) => `(tactic| (refine use336 (by assumption) (by assumption) ?_ ?_ ?_ ?_ <;> kernel_rfl))
set_option maxHeartbeats 0 in
theorem c336 {w : World} {E : Value → Shared → Prop} {s : Shared} (KX : (KS w.params).In s.heap) (Q : Value → Shared → Prop) (q : W336 Q s)
   : wpAny (model PySem.Challenge.pw_de5024_01 w) bigA (call (.ref 336) [.ref 407]) Q E s := by
  x_run
end
section
local macro_rules | `(tactic| x_close) => `(tactic| (refine use264 (by assumption) (by assumption) ?_ ?_ <;> kernel_rfl))
set_option maxHeartbeats 0 in
theorem c264 {w : World} {E : Value → Shared → Prop} {s : Shared} (KX : (KS w.params).In s.heap) (Q : Value → Shared → Prop) {l : Addr} {x y : Int} {t u : Tok} {n : Nat} (hl : s.heap.get? l = some ⟨.type "list", none, .seq #[.int x t, .int y u] n, #[]⟩)
   (q : W264 #[.int x t, .int y u] Q s)
   : wpAny (model PySem.Challenge.pw_de5024_01 w) bigA (call (.ref 264) [.ref l]) Q E s := by
  x_run
end
section
local macro_rules | `(tactic| x_close) => `(tactic| (refine use110 (by assumption) (by assumption) ?_ ?_ ?_ ?_ ?_ <;> kernel_rfl))
set_option maxHeartbeats 0 in
theorem c110 {w : World} {E : Value → Shared → Prop} {s : Shared} (KX : (KS w.params).In s.heap) (Q : Value → Shared → Prop) (q : W110 Q s)
   : wpAny (model PySem.Challenge.pw_de5024_01 w) bigA (call (.ref 110) []) Q E s := by
  x_run
end
section
local macro_rules | `(tactic| x_close) => `(tactic| assumption)
set_option maxHeartbeats 0 in
theorem ccal {w : World} {E : Value → Shared → Prop} {s : Shared} (KX : (KS w.params).In s.heap) (Q : Value → Shared → Prop) (q : Q (.bool true) s)
   : wpAny (model PySem.Challenge.pw_de5024_01 w) bigA (call (.builtin "callable") [.ref 407]) Q E s := by
  x_run
theorem cisi {w : World} {E : Value → Shared → Prop} {s : Shared} (KX : (KS w.params).In s.heap) (Q : Value → Shared → Prop) (q : Q (.bool false) { s with toks := s.toks + 1 })
   : wpAny (model PySem.Challenge.pw_de5024_01 w) bigA (call (.builtin "isinstance") [.ref 407, .ref 308]) Q E s := by
  x_run
end
def Whas (Q : Value → Shared → Prop) (s : Shared) : Prop := ∀ h a o, Mem s.heap h [] [(a, o)] → Q (.bool true) { s with heap := h }
theorem useHas {Q : Value → Shared → Prop} {s : Shared} {h a o} (q : Whas Q s) (D : Mem s.heap h [] [(a, o)]) : Q (.bool true) { s with heap := h } := q _ _ _ D
section
local macro_rules | `(tactic| x_close) => `(tactic| exact useHas (by assumption) (by assumption))
set_option maxHeartbeats 0 in
theorem chas {w : World} {E : Value → Shared → Prop} {s : Shared} (KX : (KS w.params).In s.heap) (Q : Value → Shared → Prop) {l : Addr} {vs : Array Value} {n : Nat} (hl : s.heap.get? l = some ⟨.type "list", none, .seq vs n, #[]⟩) {t : Tok} (q : Whas Q s)
   : wpAny (model PySem.Challenge.pw_de5024_01 w) bigA (call (.builtin "hasattr") [.ref l, .str (nm 11) t]) Q E s := by
  x_run
end
end Mine
set_option maxRecDepth 100000
namespace Mine
noncomputable section
open PySem PySem.W PySem.W.X PyProof.Rows
variable {c : Cx} {k : FC} {f : FA} {fa : List FA} {φ : List Addr} {σ σ' τ : AS} {s s' : Shared} {A : Around}

theorem mem_ne {h₀ h : Heap} {news : List (Addr × Obj)} (D : Mem h₀ h [] news) : (news.map (·.1)).Nodup := D.ord.imp fun x => Ne.symm (Nat.ne_of_lt x)
theorem nokit {o : AO} {σ : AS} (h : ∀ d es n, o ≠ .kit d es n ∧ o ≠ .vit d es n) : ∀ d es n, o = .kit d es n ∨ o = .vit d es n → σ.get d = some (.fdict es) := fun d es n e => by
  rcases e with e | e
  · exact absurd e (h d es n).1
  · exact absurd e (h d es n).2
theorem pre2 (φ : List Addr) (a b : Addr) : φ <+: φ ++ [a] ++ [b] := (List.prefix_append _ _).trans (List.prefix_append _ _)
theorem ok_356 {n : Nat} (B : Base c k) (hA : AOk n A) {args : List AV} {v : AV} (h : mk356 args σ = some (v, σ')) {us : List Value} (hv : All2 (VR c φ) args us) : OkV c fa A (call (.ref 356) us) φ σ σ' v := by
  intro Q E s r q
  obtain ⟨h1, h2⟩ := br_none h
  obtain rfl := nul_eq h1
  cases hv
  obtain ⟨d, σ1, e1, h3⟩ := bnd_eq h2
  obtain ⟨i, σ2, e2, h4⟩ := bnd_eq h3
  obtain ⟨rfl, rfl⟩ := newIt_eq e1
  obtain ⟨rfl, rfl⟩ := newIt_eq e2
  obtain ⟨rfl, rfl⟩ := ret_eq h4
  refine to_big hA (wpAny_with_dead (c356 (r.ks B) _ fun h tk a d D dd => ?_))
  obtain ⟨r0, nw⟩ := r.born D dd tk
  have ne := mem_ne D
  have nd := nw (d, diO) (by simp)
  have na := nw (a, insO 356 d) (by simp)
  have hne : a ≠ d := by simpa using ne
  have gd : h.get? d = some diO := (D.nw (d, diO) (by simp)).1
  have ga : h.get? a = some (insO 356 d) := (D.nw (a, insO 356 d) (by simp)).1
  have r1 := r0.adopt nd (o := .ns []) (ns_made (L := []) gd (fun p hp => by cases hp) .nil) (nokit fun _ _ _ => ⟨(fun e => by cases e), fun e => by cases e⟩)
  have r2 := r1.adopt (na.snoc hne) (o := .inst 356 σ.m) ⟨d, by rw [List.append_assoc]; exact pre_get (φ' := φ ++ ([d] ++ [a])) (by rw [← List.append_assoc]; exact List.prefix_append _ _) (r0.snoc d), ga⟩ (nokit fun _ _ _ => ⟨(fun e => by cases e), fun e => by cases e⟩)
  exact q _ _ _ (pre2 _ _ _) r2 ⟨a, r1.snoc a, rfl⟩
theorem ok_390 {n : Nat} (B : Base c k) (hA : AOk n A) {args : List AV} {v : AV} (h : mk390 args σ = some (v, σ')) {us : List Value} (hv : All2 (VR c φ) args us) : OkV c fa A (call (.ref 390) us) φ σ σ' v := by
  intro Q E s r q
  obtain ⟨w, h1, h2⟩ := ob_eq h
  obtain ⟨l, hl, h3⟩ := ob_eq h2
  obtain rfl := one_eq h1
  obtain rfl := isRef_eq hl
  obtain ⟨d, σ1, e1, h4⟩ := bnd_eq h3
  obtain ⟨i, σ2, e2, h5⟩ := bnd_eq h4
  obtain ⟨rfl, rfl⟩ := newIt_eq e1
  obtain ⟨rfl, rfl⟩ := newIt_eq e2
  obtain ⟨rfl, rfl⟩ := ret_eq h5
  cases hv with
  | cons hu hr =>
    cases hr
    obtain ⟨b, hb, rfl⟩ := hu
    refine to_big hA (wpAny_with_dead (c390 (r.ks B) _ fun h tk f o a d hs x t ep hx D dd => ?_))
    obtain ⟨r0, nw⟩ := r.born D dd tk
    have ne := mem_ne D
    have nd := nw (d, _) (List.mem_cons_of_mem _ (List.mem_cons_of_mem _ List.mem_cons_self))
    have na := nw (a, _) (List.mem_cons_of_mem _ List.mem_cons_self)
    have gd := (D.nw (d, _) (List.mem_cons_of_mem _ (List.mem_cons_of_mem _ List.mem_cons_self))).1
    have ga := (D.nw (a, _) (List.mem_cons_of_mem _ List.mem_cons_self)).1
    have hne : a ≠ d := by
      simp only [List.map_cons, List.map_nil, List.nodup_cons, List.mem_cons, List.not_mem_nil, or_false, not_or] at ne
      exact ne.2.1
    have r1 := r0.adopt nd (o := .ns [(70, .ref l)]) (ns_made (L := [(70, hs, x, t, .ref b)]) gd (fun p hp => by obtain rfl := List.mem_singleton.mp hp; exact ⟨Nat.le_of_ble_eq_true rfl, hx⟩) (.cons ⟨rfl, b, pre_get (List.prefix_append _ _) hb, rfl⟩ .nil)) (nokit fun _ _ _ => ⟨(fun e => by cases e), fun e => by cases e⟩)
    have r2 := r1.adopt (na.snoc hne) (o := .inst 390 σ.m) ⟨d, pre_get (List.prefix_append _ _) (r0.snoc d), ga⟩ (nokit fun _ _ _ => ⟨(fun e => by cases e), fun e => by cases e⟩)
    exact q _ _ _ (pre2 _ _ _) r2 ⟨a, r1.snoc a, rfl⟩
theorem ok_336 {n : Nat} (B : Base c k) (hA : AOk n A) {args : List AV} {v : AV} (h : mk336 args σ = some (v, σ')) {us : List Value} (hv : All2 (VR c φ) args us) : OkV c fa A (call (.ref 336) us) φ σ σ' v := by
  intro Q E s r q
  obtain ⟨w, h1, h2⟩ := ob_eq h
  obtain ⟨l, hl, h3⟩ := ob_eq h2
  obtain ⟨hb, h3b⟩ := br_none h3
  obtain rfl := one_eq h1
  obtain rfl := isSt_eq hl
  obtain rfl := nbeq hb
  obtain ⟨d, σ1, e1, h4⟩ := bnd_eq h3b
  obtain ⟨i, σ2, e2, h5⟩ := bnd_eq h4
  obtain ⟨rfl, rfl⟩ := newIt_eq e1
  obtain ⟨rfl, rfl⟩ := newIt_eq e2
  obtain ⟨rfl, rfl⟩ := ret_eq h5
  cases hv with
  | cons hu hr =>
    cases hr
    obtain rfl := hu
    refine to_big hA (wpAny_with_dead (c336 (r.ks B) _ fun h tk f o a d hs x t hs' x' t' ep hx hx' D dd => ?_))
    obtain ⟨r0, nw⟩ := r.born D dd tk
    have ne := mem_ne D
    have nd := nw (d, _) (List.mem_cons_of_mem _ (List.mem_cons_of_mem _ List.mem_cons_self))
    have na := nw (a, _) (List.mem_cons_of_mem _ List.mem_cons_self)
    have gd := (D.nw (d, _) (List.mem_cons_of_mem _ (List.mem_cons_of_mem _ List.mem_cons_self))).1
    have ga := (D.nw (a, _) (List.mem_cons_of_mem _ List.mem_cons_self)).1
    have hne : a ≠ d := by
      simp only [List.map_cons, List.map_nil, List.nodup_cons, List.mem_cons, List.not_mem_nil, or_false, not_or] at ne
      exact ne.2.1
    have r1 := r0.adopt nd (o := .ns [(67, .st 407), (66, .bool true)]) (ns_made (L := [(67, hs, x, t, .ref 407), (66, hs', x', t', .bool true)]) gd (fun p hp => by
      rcases List.mem_cons.mp hp with rfl | hp
      · exact ⟨Nat.le_of_ble_eq_true rfl, hx⟩
      · obtain rfl := List.mem_singleton.mp hp; exact ⟨Nat.le_of_ble_eq_true rfl, hx'⟩) (.cons ⟨rfl, rfl⟩ (.cons ⟨rfl, rfl⟩ .nil))) (nokit fun _ _ _ => ⟨(fun e => by cases e), fun e => by cases e⟩)
    have r2 := r1.adopt (na.snoc hne) (o := .inst 336 σ.m) ⟨d, pre_get (List.prefix_append _ _) (r0.snoc d), ga⟩ (nokit fun _ _ _ => ⟨(fun e => by cases e), fun e => by cases e⟩)
    exact q _ _ _ (pre2 _ _ _) r2 ⟨a, r1.snoc a, rfl⟩
theorem ok_264 {n : Nat} (B : Base c k) (hA : AOk n A) {args : List AV} {v : AV} (h : mk264 args σ = some (v, σ')) {us : List Value} (hv : All2 (VR c φ) args us) : OkV c fa A (call (.ref 264) us) φ σ σ' v := by
  intro Q E s r q
  obtain ⟨w, h1, h2⟩ := ob_eq h
  obtain ⟨l, hl, h3⟩ := ob_eq h2
  obtain ⟨xs, hxs, h4⟩ := ob_eq h3
  obtain ⟨pp, hp, h5⟩ := ob_eq h4
  obtain ⟨z1, hz1, h6⟩ := ob_eq h5
  obtain ⟨z2, hz2, h7⟩ := ob_eq h6
  obtain rfl := one_eq h1
  obtain rfl := isRef_eq hl
  obtain rfl := two_eq hp
  obtain ⟨i1, σ1, e1, h8⟩ := bnd_eq h7
  obtain ⟨i2, σ2, e2, h9⟩ := bnd_eq h8
  obtain ⟨i3, σ3, e3, h10⟩ := bnd_eq h9
  obtain ⟨i4, σ4, e4, h11⟩ := bnd_eq h10
  obtain ⟨rfl, rfl⟩ := newIt_eq e1
  obtain ⟨rfl, rfl⟩ := newIt_eq e2
  obtain ⟨rfl, rfl⟩ := newIt_eq e3
  obtain ⟨rfl, rfl⟩ := newIt_eq e4
  obtain ⟨rfl, rfl⟩ := ret_eq h11
  cases hv with
  | cons hu hr =>
    cases hr
    obtain ⟨b, hb, rfl⟩ := hu
    obtain ⟨ob1, g1, e1⟩ := ob_eq hxs
    cases ob1 <;> try cases e1
    obtain ⟨b', hb', _, vs, n', hw, hws⟩ := r.obj _ _ g1
    rw [hb] at hb'; cases hb'
    have hws0 := hws
    generalize hvl : vs.toList = vl at hws
    cases hws with
    | cons y1 y2 =>
    cases y2 with
    | cons y2 y3 =>
    cases y3
    rw [isInt_eq hz1] at y1
    rw [isInt_eq hz2] at y2
    obtain ⟨t1, rfl⟩ := y1
    obtain ⟨t2, rfl⟩ := y2
    obtain rfl : vs = #[.int z1 t1, .int z2 t2] := Array.toList_inj.mp hvl
    refine to_big hA (wpAny_with_dead (c264 (r.ks B) _ hw fun h tk f o a d l1 l2 n2 hs x t hs' x' t' ep hx hx' D dd => ?_))
    obtain ⟨r0, nw⟩ := r.born D dd tk
    have ne := mem_ne D
    have hD := D.nw
    simp only [List.forall_mem_cons] at nw hD
    obtain ⟨n_l2, n_l1, _, n_a, n_d, _⟩ := nw
    obtain ⟨g_l2, g_l1, _, g_a, g_d, _⟩ := hD
    simp only [List.map_cons, List.map_nil, List.nodup_cons, List.mem_cons, List.not_mem_nil, or_false, not_or] at ne
    obtain ⟨⟨m1, m2, m3, m4⟩, ⟨m5, m6, m7⟩, _, ⟨m8, _⟩⟩ := ne
    have nk : ∀ {τ : AS} (o : AO), (∀ d es n, o ≠ .kit d es n ∧ o ≠ .vit d es n) → ∀ d es n, o = .kit d es n ∨ o = .vit d es n → τ.get d = some (.fdict es) := fun o h => nokit h
    have r1 := r0.adopt n_l1 (o := .list []) ⟨by simp, #[], 0, g_l1.1, .nil⟩ (nk _ fun _ _ _ => ⟨(fun e => by cases e), fun e => by cases e⟩)
    have r2 := r1.adopt (n_l2.snoc m1) (o := .list []) ⟨by simp, #[], 0, g_l2.1, .nil⟩ (nk _ fun _ _ _ => ⟨(fun e => by cases e), fun e => by cases e⟩)
    have k1 := pre_get (List.prefix_append (φ ++ [l1]) [l2]) (r0.snoc l1)
    have k2 := r1.snoc l2
    have r3 := r2.adopt ((n_d.snoc (Ne.symm m7)).snoc (Ne.symm m4)) (o := .ns [(53, .ref σ.m), (54, .ref (σ.new (.list [])).m)]) (ns_made (L := [(53, hs, x, t, .ref l1), (54, hs', x', t', .ref l2)]) g_d.1 (fun p hp => by
      rcases List.mem_cons.mp hp with rfl | hp
      · exact ⟨Nat.le_of_ble_eq_true rfl, hx⟩
      · obtain rfl := List.mem_singleton.mp hp; exact ⟨Nat.le_of_ble_eq_true rfl, hx'⟩) (.cons ⟨rfl, l1, pre_get (List.prefix_append _ _) k1, rfl⟩ (.cons ⟨rfl, l2, pre_get (List.prefix_append _ _) k2, rfl⟩ .nil))) (nk _ fun _ _ _ => ⟨(fun e => by cases e), fun e => by cases e⟩)
    have k3 := r2.snoc d
    have p4 : φ <+: φ ++ [l1] ++ [l2] ++ [d] ++ [a] := (pre2 _ _ _).trans (pre2 _ _ _)
    have r4 := r3.adopt (((n_a.snoc (Ne.symm m6)).snoc (Ne.symm m3)).snoc m8) (o := .dom ((σ.new (.list [])).new (.list [])).m [pp.1, pp.2]) ⟨by simp, d, _, n2, pre_get (List.prefix_append _ _) k3, g_a.1, vrs_mono p4 hws0⟩ (nk _ fun _ _ _ => ⟨(fun e => by cases e), fun e => by cases e⟩)
    exact q _ _ _ p4 r4 ⟨a, r3.snoc a, rfl⟩
theorem ok_110 {n : Nat} (B : Base c k) (hA : AOk n A) {args : List AV} {v : AV} (h : mk110 args σ = some (v, σ')) {us : List Value} (hv : All2 (VR c φ) args us) : OkV c fa A (call (.ref 110) us) φ σ σ' v := by
  intro Q E s r q
  obtain ⟨h1, h2⟩ := br_none h
  obtain rfl := nul_eq h1
  cases hv
  obtain ⟨i1, σ1, e1, h8⟩ := bnd_eq h2
  obtain ⟨i2, σ2, e2, h9⟩ := bnd_eq h8
  obtain ⟨i3, σ3, e3, h10⟩ := bnd_eq h9
  obtain ⟨i4, σ4, e4, h11⟩ := bnd_eq h10
  obtain ⟨i5, σ5, e5, h12⟩ := bnd_eq h11
  obtain ⟨i6, σ6, e6, h13⟩ := bnd_eq h12
  obtain ⟨rfl, rfl⟩ := newIt_eq e1
  obtain ⟨rfl, rfl⟩ := newIt_eq e2
  obtain ⟨rfl, rfl⟩ := newIt_eq e3
  obtain ⟨rfl, rfl⟩ := newIt_eq e4
  obtain ⟨rfl, rfl⟩ := newIt_eq e5
  obtain ⟨rfl, rfl⟩ := newIt_eq e6
  obtain ⟨rfl, rfl⟩ := ret_eq h13
  refine to_big hA (wpAny_with_dead (c110 (r.ks B) _ fun h tk f o f2 o2 a d b d2 l1 l2 hs x t ep hs1 x1 t1 hs2 x2 t2 hs3 x3 t3 ep' hx hx1 hx2 hx3 D dd => ?_))
  obtain ⟨r0, nw⟩ := r.born D dd tk
  have ne := mem_ne D
  have hD := D.nw
  simp only [List.forall_mem_cons] at nw hD
  obtain ⟨n_l2, n_l1, _, n_b, n_d2, _, n_a, n_d, _⟩ := nw
  obtain ⟨g_l2, g_l1, _, g_b, g_d2, _, g_a, g_d, _⟩ := hD
  simp only [List.map_cons, List.map_nil, List.nodup_cons, List.mem_cons, List.not_mem_nil, or_false, not_or] at ne
  -- l2 :: l1 :: f :: b :: d2 :: f2 :: a :: d
  obtain ⟨⟨m1, _, m3, m4, _, m6, m7⟩, ⟨_, m9, m10, _, m12, m13⟩, _, ⟨m14, _, m16, m17⟩, ⟨_, m19, m20⟩, _, ⟨m21, _⟩⟩ := ne
  have nk : ∀ {τ : AS} (o : AO), (∀ d es n, o ≠ .kit d es n ∧ o ≠ .vit d es n) → ∀ d es n, o = .kit d es n ∨ o = .vit d es n → τ.get d = some (.fdict es) := fun o h => nokit h
  have r1 := r0.adopt n_d2 (o := .ns [(44, .bool true)]) (ns_made (L := [(44, hs, x, t, .bool true)]) g_d2.1 (fun p hp => by obtain rfl := List.mem_singleton.mp hp; exact ⟨Nat.le_of_ble_eq_true rfl, hx⟩) (.cons ⟨rfl, rfl⟩ .nil)) (nk _ fun _ _ _ => ⟨(fun e => by cases e), fun e => by cases e⟩)
  have q1 := r0.snoc d2
  have r2 := r1.adopt (n_b.snoc m14) (o := .inst 186 σ.m) ⟨d2, pre_get (List.prefix_append _ _) q1, g_b.1⟩ (nk _ fun _ _ _ => ⟨(fun e => by cases e), fun e => by cases e⟩)
  have q2 := r1.snoc b
  have r3 := r2.adopt ((n_l1.snoc m10).snoc m9) (o := .list []) ⟨by simp, #[], 0, g_l1.1, .nil⟩ (nk _ fun _ _ _ => ⟨(fun e => by cases e), fun e => by cases e⟩)
  have q3 := r2.snoc l1
  have r4 := r3.adopt (((n_l2.snoc m4).snoc m3).snoc m1) (o := .dict []) ⟨by simp, [], ⟨diO, #[], 0, g_l2.1, ⟨rfl, rfl, rfl⟩, rfl, (fun _ he => by simp at he), Pairs.nil, List.nodup_nil⟩, .nil⟩ (nk _ fun _ _ _ => ⟨(fun e => by cases e), fun e => by cases e⟩)
  have q4 := r3.snoc l2
  have p2 : ∀ (ψ : List Addr) (a b c : Addr), ψ <+: ψ ++ [a] ++ [b] ++ [c] := fun ψ a b c => (pre2 ψ a b).trans (List.prefix_append _ _)
  have r5 := r4.adopt ((((n_d.snoc (Ne.symm m20)).snoc (Ne.symm m17)).snoc (Ne.symm m13)).snoc (Ne.symm m7)) (o := .ns [(27, .ref _), (21, .ref _), (10, .ref _)]) (ns_made (L := [(27, hs1, x1, t1, .ref b), (21, hs2, x2, t2, .ref l1), (10, hs3, x3, t3, .ref l2)]) g_d.1 (fun p hp => by
      rcases List.mem_cons.mp hp with rfl | hp
      · exact ⟨Nat.le_of_ble_eq_true rfl, hx1⟩
      · rcases List.mem_cons.mp hp with rfl | hp
        · exact ⟨Nat.le_of_ble_eq_true rfl, hx2⟩
        · obtain rfl := List.mem_singleton.mp hp; exact ⟨Nat.le_of_ble_eq_true rfl, hx3⟩)
    (.cons ⟨rfl, b, pre_get (p2 _ _ _ _) q2, rfl⟩ (.cons ⟨rfl, l1, pre_get (pre2 _ _ _) q3, rfl⟩ (.cons ⟨rfl, l2, pre_get (List.prefix_append _ _) q4, rfl⟩ .nil)))) (nk _ fun _ _ _ => ⟨(fun e => by cases e), fun e => by cases e⟩)
  have q5 := r4.snoc d
  have p6 : φ <+: φ ++ [d2] ++ [b] ++ [l1] ++ [l2] ++ [d] ++ [a] := (p2 _ _ _ _).trans (p2 _ _ _ _)
  have r6 := r5.adopt (((((n_a.snoc (Ne.symm m19)).snoc (Ne.symm m16)).snoc (Ne.symm m12)).snoc (Ne.symm m6)).snoc m21) (o := .inst 110 _) ⟨d, pre_get (List.prefix_append _ _) q5, g_a.1⟩ (nk _ fun _ _ _ => ⟨(fun e => by cases e), fun e => by cases e⟩)
  exact q _ _ _ p6 r6 ⟨a, r5.snoc a, rfl⟩
theorem ok_make {n : Nat} (B : Base c k) (hA : AOk n A) {a : Nat} {args : List AV} {v : AV} (h : construct a args σ = some (v, σ')) {us : List Value} (hv : All2 (VR c φ) args us) : OkV c fa A (call (.ref a) us) φ σ σ' v := by
  obtain ⟨g, hg, h2⟩ := ob_eq h
  simp only [mkT, lk_cons, lk_nil] at hg
  repeat' split at hg
  all_goals first | (cases hg; done) | (cases hg; rename_i e; subst e; first | exact ok_110 B hA h2 hv | exact ok_264 B hA h2 hv | exact ok_336 B hA h2 hv | exact ok_356 B hA h2 hv | exact ok_390 B hA h2 hv)
end
end Mine
set_option maxRecDepth 100000
namespace Mine
noncomputable section
open PySem PySem.W PySem.W.X PyProof.Rows
variable {c : Cx} {k : FC} {f : FA} {fa : List FA} {φ : List Addr} {σ σ' τ : AS} {s s' : Shared} {A : Around}

theorem ok_len (B : Base c k) {args : List AV} {v : AV} (h : bLen args σ = some (v, σ')) {us : List Value} (hv : All2 (VR c φ) args us) : OkV c fa A (call (.builtin "len") us) φ σ σ' v := by
  intro Q E s r q
  obtain ⟨w, h1, h2⟩ := ob_eq h
  obtain rfl := one_eq h1
  cases hv with
  | cons hu hr =>
    cases hr
    cases w with
    | st a =>
      obtain ⟨h3, h4⟩ := br_none h2
      obtain rfl := nbeq h3
      obtain ⟨rfl, rfl⟩ := ret_eq h4
      obtain rfl := hu
      obtain ⟨vs, n, hk, hsz, _⟩ := B.scr
      have hb := B.sz
      refine len_list (seq_list (r.keep _ _ hk)) (by rw [hsz]; omega) ?_
      rw [hsz]
      exact q φ _ _ (List.prefix_refl _) (r.toks _) ⟨_, rfl⟩
    | ref i =>
      obtain ⟨xs, hx, h4⟩ := ob_eq h2
      obtain ⟨rfl, rfl⟩ := ret_eq h4
      obtain ⟨a, ha, rfl⟩ := hu
      obtain ⟨o1, g1, e1⟩ := ob_eq hx
      obtain ⟨a', ha', ho⟩ := r.obj _ _ g1
      rw [ha] at ha'; cases ha'
      cases o1 with
      | list zs =>
        cases e1
        obtain ⟨hl, vs, n, e, hvs⟩ := ho
        have hsz := size_eq hvs
        refine len_list (seq_list e) (by rw [hsz]; omega) ?_
        exact q φ _ _ (List.prefix_refl _) (r.toks _) ⟨_, by rw [hsz]; rfl⟩
      | dom d zs =>
        cases e1
        obtain ⟨hl, b, vs, n, _, e, hvs⟩ := ho
        have hsz := size_eq hvs
        refine dom_len (r.ks B) e (by rw [hsz]; exact hl) ?_
        exact q φ _ _ (List.prefix_refl _) (r.toks _) ⟨_, by rw [hsz]; rfl⟩
      | _ => cases e1
    | _ => cases h2
theorem con_isi (P : Params) : (conL.all fun C => PySem.W.isIn (KS P) (.ref C) 308) = true := by kernel_rfl
theorem ok_isi {n : Nat} (B : Base c k) (hA : AOk n A) {args : List AV} {v : AV} (h : bIsi args σ = some (v, σ')) {us : List Value} (hv : All2 (VR c φ) args us) : OkV c fa A (call (.builtin "isinstance") us) φ σ σ' v := by
  intro Q E s r q
  obtain ⟨p, h1, h2⟩ := ob_eq h
  obtain ⟨a, h3, h4⟩ := ob_eq h2
  obtain ⟨h5, h6⟩ := br_none h4
  obtain ⟨b, h7, h8⟩ := ob_eq h6
  obtain ⟨x, y⟩ := p
  obtain rfl := two_eq h1
  obtain rfl := isSt_eq h3
  obtain rfl := nbeq h5
  obtain ⟨rfl, rfl⟩ := ret_eq h8
  cases hv with
  | cons hx hr =>
  cases hr with
  | cons hy hr =>
  cases hr
  obtain rfl := hy
  cases x with
  | st a =>
    obtain ⟨h9, h10⟩ := br_none h7
    obtain rfl := nbeq h9
    cases h10
    obtain rfl := hx
    exact to_big hA (cisi (r.ks B) _ (q φ _ _ (List.prefix_refl _) (r.toks _) rfl))
  | ref i =>
    obtain ⟨⟨C, d⟩, h9, h10⟩ := ob_eq h7
    obtain ⟨a, ha, rfl⟩ := hx
    obtain ⟨o1, g1, e1⟩ := ob_eq h9
    cases o1 <;> try cases e1
    obtain ⟨a', ha', d', hd', ho⟩ := r.obj _ _ g1
    rw [ha] at ha'; cases ha'
    have hC : C ∈ conL ∧ b = true := by
      simp only [lk_cons, lk_nil] at h10
      repeat' split at h10
      all_goals first | (cases h10; done) | (cases h10; rename_i e; subst e; exact ⟨by decide, rfl⟩)
    obtain ⟨hC, rfl⟩ := hC
    refine isi_call (r.ks B) (t := .ref C) (fun M => (Looks.ld ho).andThen .now) (List.all_eq_true.mp (con_isi _) C hC) (by intro e; cases e) ?_
    exact q φ _ _ (List.prefix_refl _) r rfl
  | _ => cases h7
theorem ok_callable {n : Nat} (B : Base c k) (hA : AOk n A) {args : List AV} {v : AV} (h : bCallable args σ = some (v, σ')) {us : List Value} (hv : All2 (VR c φ) args us) : OkV c fa A (call (.builtin "callable") us) φ σ σ' v := by
  intro Q E s r q
  obtain ⟨x, h1, h2⟩ := ob_eq h
  obtain ⟨a, h3, h4⟩ := ob_eq h2
  obtain ⟨h5, h6⟩ := br_none h4
  obtain rfl := one_eq h1
  obtain rfl := isSt_eq h3
  obtain rfl := nbeq h5
  obtain ⟨rfl, rfl⟩ := ret_eq h6
  cases hv with
  | cons hx hr =>
  cases hr
  obtain rfl := hx
  exact to_big hA (ccal (r.ks B) _ (q φ _ _ (List.prefix_refl _) r rfl))
theorem ok_hasattr {n : Nat} (B : Base c k) (hA : AOk n A) {args : List AV} {v : AV} (h : bHas args σ = some (v, σ')) {us : List Value} (hv : All2 (VR c φ) args us) : OkV c fa A (call (.builtin "hasattr") us) φ σ σ' v := by
  intro Q E s r q
  obtain ⟨⟨x, y⟩, h1, h2⟩ := ob_eq h
  obtain ⟨xn, h3, h4⟩ := ob_eq h2
  obtain ⟨h5, h6⟩ := br_none h4
  obtain ⟨i, h7, h8⟩ := ob_eq h6
  obtain ⟨xs, h9, h10⟩ := ob_eq h8
  obtain rfl := two_eq h1
  obtain rfl : y = .str xn := by cases y <;> first | (cases h3; rfl) | cases h3
  obtain rfl := nbeq h5
  obtain rfl := isRef_eq h7
  obtain ⟨rfl, rfl⟩ := ret_eq h10
  cases hv with
  | cons hx hr =>
  cases hr with
  | cons hy hr =>
  cases hr
  obtain ⟨t, rfl⟩ := hy
  obtain ⟨a, ha, rfl⟩ := hx
  obtain ⟨o1, g1, e1⟩ := ob_eq h9
  cases o1 <;> try cases e1
  obtain ⟨a', ha', _, vs, nn, e, hvs⟩ := r.obj _ _ g1
  rw [ha] at ha'; cases ha'
  refine to_big hA (wpAny_with_size (chas (r.ks B) _ e fun h' a' o' D dd => ?_))
  exact q φ _ _ (List.prefix_refl _) (r.grow (s' := { s with heap := h' }) ⟨mem_keep D, dd, rfl, rfl, rfl⟩) rfl
theorem ok_range {args : List AV} {v : AV} (h : tRange args σ = some (v, σ')) {us : List Value} (hv : All2 (VR c φ) args us) : OkV c fa A (call (.type "range") us) φ σ σ' v := by
  intro Q E s r q
  obtain ⟨x, h1, h2⟩ := ob_eq h
  obtain ⟨n, h3, h4⟩ := ob_eq h2
  obtain ⟨h5, h6⟩ := br_none h4
  obtain rfl := one_eq h1
  obtain rfl := isNat_eq h3
  obtain ⟨rfl, rfl⟩ := ret_eq h6
  cases hv with
  | cons hx hr =>
  cases hr
  obtain ⟨t, rfl⟩ := hx
  refine call_range_1 ?_
  exact q (φ ++ [s.heap.objs.size]) _ _ (List.prefix_append _ _) (r.alloc (grows_push' s _ _) (Nat.le_refl _) (push_lt _ _) (o := .rng n) ⟨Nat.le_of_ble_eq_true h5, _, _, _, IsRange.new ..⟩ (nokit fun _ _ _ => ⟨(fun e => by cases e), fun e => by cases e⟩)) ⟨_, r.snoc _, rfl⟩
theorem all2_of {α β : Type} {P : α → β → Prop} : ∀ {xs : List α} {ys : List β}, xs.length = ys.length → (∀ (i : Nat) x y, xs[i]? = some x → ys[i]? = some y → P x y) → All2 P xs ys
  | [], [], _, _ => .nil
  | [], _ :: _, h, _ => by cases h
  | _ :: _, [], h, _ => by cases h
  | x :: xs, y :: ys, h, q => .cons (q 0 x y rfl rfl) (all2_of (by simpa using h) fun i a b h1 h2 => q (i + 1) a b (by simpa using h1) (by simpa using h2))
theorem keysL_get : ∀ (es : List (Int × AV)) (i : Nat), (keysL es)[i]? = (es[i]?).map fun p => .int p.1
  | [], i => by simp [keysL]
  | p :: r, 0 => rfl
  | p :: r, i + 1 => by
    show (AV.int p.1 :: keysL r)[i + 1]? = _
    rw [List.getElem?_cons_succ, List.getElem?_cons_succ]; exact keysL_get r i
theorem keysL_len : ∀ es : List (Int × AV), (keysL es).length = es.length
  | [] => rfl
  | p :: r => by show (AV.int p.1 :: keysL r).length = _; rw [List.length_cons, List.length_cons, keysL_len r]
theorem intKey_eq {w : World} {z : Int} {v : Value} (h : (intKind pw w).is z v = true) : ∃ t, v = .int z t := by
  cases v <;> first | (cases h; done) | skip
  rename_i i t
  exact ⟨t, by rw [eq_of_beq (show (i == z) = true from h)]⟩
theorem ok_list (B : Base c k) (hh : A.handled = none) {args : List AV} {v : AV} (h : tList args σ = some (v, σ')) {us : List Value} (hv : All2 (VR c φ) args us) : OkV c fa A (call (.type "list") us) φ σ σ' v := by
  intro Q E s r q
  obtain ⟨x, h1, h2⟩ := ob_eq h
  obtain ⟨i, h3, h4⟩ := ob_eq h2
  obtain ⟨o1, g1, h5⟩ := ob_eq h4
  obtain ⟨xs, h6, h7⟩ := ob_eq h5
  obtain rfl := one_eq h1
  obtain rfl := isRef_eq h3
  obtain ⟨rfl, rfl⟩ := ret_eq h7
  cases hv with
  | cons hx hr =>
  cases hr
  obtain ⟨a, ha, rfl⟩ := hx
  obtain ⟨a', ha', ho⟩ := r.obj _ _ g1
  rw [ha] at ha'; cases ha'
  have fin : ∀ (h' : Heap) (tk : Nat) (acc : Array Value) (n : Nat), s.heap.objs.size ≤ h'.objs.size → (∀ b o, s.heap.get? b = some o → h'.get? b = some o) → h'.get? s.heap.objs.size = some { cls := .type "list", dict := none, data := .seq acc n, slots := #[] } →
      xs.length ≤ 1000 → All2 (VR c φ) xs acc.toList → Q (.ref s.heap.objs.size) { s with heap := h', toks := tk } := fun h' tk acc n hs hk hg hl ha =>
    q (φ ++ [s.heap.objs.size]) _ _ (List.prefix_append _ _) (r.alloc (s' := { s with heap := h', toks := tk }) ⟨hk, hs, rfl, rfl, rfl⟩ (Nat.le_refl _) (Heap.lt_size hg) (o := .list xs) ⟨hl, acc, n, hg, vrs_mono (List.prefix_append _ _) ha⟩ (nokit fun _ _ _ => ⟨(fun e => by cases e), fun e => by cases e⟩)) ⟨_, r.snoc _, rfl⟩
  have dict : ∀ es, xs = keysL es → es.length ≤ 1000 → (∃ kvs, s.heap.DictOf (intKind pw c.w) a kvs ∧ KV c φ es kvs) → wpAny (model pw c.w) A (call (.type "list") [.ref a]) Q E s := by
    rintro es rfl hl ⟨kvs, hd, hk⟩
    obtain ⟨ep, hd⟩ := dictOf_at hd
    have hlen := hk.length
    refine wpAny_with_size (kdl_call (kdl_dict (knd := intKind pw c.w) (kvs := kvs) (ep := ep) (r.notSys B ha)) hh hd (by rw [← hlen]; exact Nat.le_trans hl (by decide)) fun h' tk acc c' hkp hg hit hs => ?_)
    refine fin h' tk acc c' hs hkp hg (by rw [keysL_len]; exact hl) (all2_of (by rw [keysL_len, hlen]; exact ((Array.length_toList (xs := acc)).trans hit.1).symm) fun j x y hx hy => ?_)
    rw [keysL_get] at hx
    obtain ⟨p, hp, rfl⟩ := Option.map_eq_some_iff.mp hx
    obtain ⟨⟨z, w⟩, hz, e, _⟩ := hk.get? hp
    obtain ⟨kk, x', hkk, his⟩ := hit.2 j y (by rw [← Array.getElem?_toList]; exact hy)
    rw [hz] at hkk; cases hkk
    obtain ⟨t, rfl⟩ := intKey_eq his
    have e : p.1 = z := e
    exact ⟨t, by rw [e]⟩
  cases o1 with
  | rng n =>
    cases h6
    obtain ⟨hn, t, u, w, hr⟩ := ho
    refine wpAny_with_size (call_list_range (n := n) hh hr (range_small n hn) (rangeSize_to n) (Nat.le_trans hn (by decide)) fun h' tk acc c' hk hg hit hs => ?_)
    refine fin h' tk acc c' hs hk hg (by simpa [rangeL] using hn) (all2_of (by rw [show (rangeL n).length = n by simp [rangeL]]; exact ((Array.length_toList (xs := acc)).trans hit.1).symm) fun j x y hx hy => ?_)
    obtain ⟨t', rfl⟩ := hit.2 j y (by rw [← Array.getElem?_toList]; exact hy)
    have hj : j < n := by
      have := (Array.getElem?_eq_some_iff.mp (show acc[j]? = _ by rw [← Array.getElem?_toList]; exact hy)).1
      rw [hit.1] at this; exact this
    have : x = .int (Int.ofNat j) := by
      unfold rangeL at hx
      rw [List.getElem?_map, List.getElem?_range hj] at hx
      cases hx; rfl
    subst this
    exact ⟨t', by simp⟩
  | dict es => cases h6; exact dict es rfl ho.1 ho.2
  | fdict es => cases h6; exact dict es rfl ho.1 ho.2
  | _ => cases h6
end
end Mine
set_option maxRecDepth 100000
namespace Mine
noncomputable section
open PySem PySem.W PySem.W.X PyProof.Rows
variable {c : Cx} {k : FC} {f : FA} {fa : List FA} {φ : List Addr} {σ σ' τ : AS} {s s' : Shared} {A : Around}

def bnm (n x : Nat) : String := br (Nat.beq n 2) (br (Nat.beq x 31) "dict.copy" (br (Nat.beq x 65) "dict.get" "dict.values"))
  (br (Nat.beq x 22) "list.append" (br (Nat.beq x 48) "list.pop" (br (Nat.beq x 47) "list.sort" (br (Nat.beq x 57) "list.remove" (br (Nat.beq x 101) "list.count" "list.extend")))))
def MSV (x : Nat) : MS → Value
  | .b n => .builtin (bnm n x)
  | .own a => .ref a
def bDom (P : Params) (x : Nat) : Bool := match findIn (KS P) (.ref 264) (nm x) with
  | some (some (.builtin i)) => i == bnm 1 x
  | _ => false
theorem dom_bm (P : Params) : bDom P 57 = true ∧ bDom P 52 = true := ⟨by kernel_rfl, by kernel_rfl⟩
theorem bDom_eq {P : Params} {x : Nat} (h : bDom P x = true) : findIn (KS P) (.ref 264) (nm x) = some (some (.builtin (bnm 1 x))) := by
  unfold bDom at h
  split at h
  · rename_i e; rw [e, eq_of_beq h]
  · cases h
theorem dom_bmethod (B : Base c k) (r : R c fa φ σ s) {a d' : Nat} {vs : Array Value} {n : Nat} {x : Nat} (hx : x < nmN) (hf : bDom c.w.params x = true) (ht : typeOf (.builtin (bnm 1 x)) = pure (.type "method_descriptor")) {es : List (Nat × AV)} (ho : s.heap.get? a = some (domO d' vs n))
    (hns : NsR c φ s.heap d' es) (hv : lk es x = none) {Q : Value × List Value → Shared → Prop} {E} {pl : Sem Bool} (q : Q (.builtin (bnm 1 x), [.ref a]) s) : wpAny (model pw c.w) A (getMethod (.ref a) (nm x) pl) Q E s := by
  obtain ⟨od, hod, hlk⟩ := ns_none hns hx hv
  have X := r.ks B
  have T := dom_type ho (model pw c.w)
  unfold getMethod specialOf
  refine wpAny_bind (wpAny_bind (T.here ((looks_findIn X (ga264 _)).here ?_)))
  dsimp only
  rw [canon_list_getattribute, if_neg (by decide)]
  refine wpAny_bind (wpAny_bind (T.here ((looks_findIn X (isNN_eq (gt264 _))).here ?_)))
  refine wpAny_bind (wpAny_bind (T.here ((looks_findIn X (bDom_eq hf)).here (wpAny_bind (wpAny_of_eq ht ?_)))))
  rw [if_neg (by decide +kernel)]
  refine wpAny_bind (wpAny_loadPart ho ?_)
  refine wpAny_bind (wpAny_bind (wpAny_loadPart hod ?_))
  rw [nsLook_of hlk]
  refine wpAny_pure ?_
  exact wpAny_bind (wpAny_rule (wpAny_pure q))
theorem inL_cons {x y : Nat} {l : List Nat} (h : inL x (y :: l) = true) : x = y ∨ inL x l = true := by
  rw [inL_mem] at h ⊢
  rcases List.mem_cons.mp h with rfl | h
  · exact .inl rfl
  · exact .inr h
theorem nsAt_eq (r : R c fa φ σ s) {d : Nat} {es : List (Nat × AV)} (h : nsAt σ d = some es) {b : Addr} (hb : φ[d]? = some b) : NsR c φ s.heap b es := by
  obtain ⟨o2, g2, e2⟩ := ob_eq h
  cases o2 <;> try cases e2
  obtain ⟨b', hb', hn⟩ := r.obj _ _ g2
  rw [hb] at hb'; cases hb'
  exact hn
theorem isNone_of {α : Type} {x : Option α} (h : some? x = false) : x = none := by
  cases x with
  | none => rfl
  | some a => cases h
theorem ok_sel (B : Base c k) {v : AV} {x : Nat} {g : MS} (h : methSel v x σ = some g) {u : Value} (hv : VR c φ v u) (r : R c fa φ σ s) {Q : Value × List Value → Shared → Prop} {E} {pl : Sem Bool} (q : Q (MSV x g, [u]) s) :
    wpAny (model pw c.w) A (getMethod u (nm x) pl) Q E s := by
  obtain ⟨i, hi, h2⟩ := ob_eq h
  obtain ⟨o1, g1, h3⟩ := ob_eq h2
  obtain rfl := isRef_eq hi
  obtain ⟨a, ha, rfl⟩ := hv
  obtain ⟨a', ha', ho⟩ := r.obj _ _ g1
  rw [ha] at ha'; cases ha'
  cases o1 with
  | list xs =>
    obtain ⟨h4, h5⟩ := br_none h3
    cases h5
    obtain ⟨_, vs, n, e, _⟩ := ho
    have hd : ∀ b, Value.ref a = .ref b → ∃ o, s.heap.get? b = some o ∧ o.dict = none := fun b eb => by cases eb; exact ⟨_, e, rfl⟩
    rcases inL_cons h4 with rfl | h4
    · exact getMethod_builtin (seq_list e).typeIs F.plainAttrs_list F.slot_list_append F.type_list_append hd q
    rcases inL_cons h4 with rfl | h4
    · exact getMethod_builtin (seq_list e).typeIs F.plainAttrs_list F.slot_list_pop F.type_list_pop hd q
    rcases inL_cons h4 with rfl | h4
    · exact getMethod_builtin (seq_list e).typeIs F.plainAttrs_list F.slot_list_sort F.type_list_sort hd q
    rcases inL_cons h4 with rfl | h4
    · exact getMethod_builtin (seq_list e).typeIs F.plainAttrs_list F.slot_list_remove F.type_list_remove hd q
    rcases inL_cons h4 with rfl | h4
    · exact getMethod_builtin (seq_list e).typeIs F.plainAttrs_list F.slot_list_count F.type_list_count hd q
    · cases h4
  | dom d xs =>
    obtain ⟨_, b, vs, n, hb, e, _⟩ := ho
    replace h3 : br (inL x [57, 52]) (ob (nsAt σ d) fun es => br (some? (lk es x)) none (some (MS.b 1))) (selOwn 264 d x σ) = some g := h3
    cases hx : inL x [57, 52] with
    | true =>
      rw [hx] at h3
      obtain ⟨es, he, h4⟩ := ob_eq h3
      obtain ⟨h5, h6⟩ := br_none' h4
      cases h6
      have hns := nsAt_eq r he hb
      rcases inL_cons hx with rfl | hx
      · exact dom_bmethod B r (Nat.le_of_ble_eq_true rfl) (dom_bm _).1 F.type_list_remove e hns (isNone_of h5) q
      rcases inL_cons hx with rfl | hx
      · exact dom_bmethod B r (Nat.le_of_ble_eq_true rfl) (dom_bm _).2 F.type_list_extend e hns (isNone_of h5) q
      · cases hx
    | false =>
      rw [hx] at h3
      obtain ⟨es, he, h4⟩ := ob_eq h3
      obtain ⟨h5, h6⟩ := br_none' h4
      obtain ⟨t, ht, h7⟩ := ob_eq h6
      obtain ⟨g', hg, h8⟩ := ob_eq h7
      cases h8
      exact dom_method B r ht hg e (nsAt_eq r he hb) (isNone_of h5) q
  | dict es =>
    obtain ⟨h4, h5⟩ := br_none h3
    cases h5
    obtain ⟨_, kvs, hd, _⟩ := ho
    have hT := hd.typeIs
    have hd : ∀ b, Value.ref a = .ref b → ∃ o, s.heap.get? b = some o ∧ o.dict = none := fun b eb => by
      cases eb
      obtain ⟨o, es, ep, ho, hx, _⟩ := hd
      exact ⟨o, ho, hx.2.1⟩
    rcases inL_cons h4 with rfl | h4
    · exact getMethod_builtin hT F.plainAttrs_dict F.slot_dict_copy F.type_dict_copy hd q
    rcases inL_cons h4 with rfl | h4
    · exact getMethod_builtin hT F.plainAttrs_dict F.slot_dict_get F.type_dict_get hd q
    rcases inL_cons h4 with rfl | h4
    · exact getMethod_builtin hT F.plainAttrs_dict F.slot_dict_values F.type_dict_values hd q
    · cases h4
  | fdict es =>
    obtain ⟨h4, h5⟩ := br_none h3
    cases h5
    obtain ⟨_, kvs, hd, _⟩ := ho
    have hT := hd.typeIs
    have hd : ∀ b, Value.ref a = .ref b → ∃ o, s.heap.get? b = some o ∧ o.dict = none := fun b eb => by
      cases eb
      obtain ⟨o, es, ep, ho, hx, _⟩ := hd
      exact ⟨o, ho, hx.2.1⟩
    rcases inL_cons h4 with rfl | h4
    · exact getMethod_builtin hT F.plainAttrs_dict F.slot_dict_copy F.type_dict_copy hd q
    rcases inL_cons h4 with rfl | h4
    · exact getMethod_builtin hT F.plainAttrs_dict F.slot_dict_get F.type_dict_get hd q
    rcases inL_cons h4 with rfl | h4
    · exact getMethod_builtin hT F.plainAttrs_dict F.slot_dict_values F.type_dict_values hd q
    · cases h4
  | inst C d =>
    obtain ⟨b, hb, e⟩ := ho
    obtain ⟨hC, h3⟩ := br_none h3
    obtain ⟨es, he, h4⟩ := ob_eq h3
    obtain ⟨h5, h6⟩ := br_none' h4
    obtain ⟨t, ht, h7⟩ := ob_eq h6
    obtain ⟨g', hg, h8⟩ := ob_eq h7
    cases h8
    exact inst_method B r ((inL_mem _ _).mp hC) ht hg e rfl rfl rfl (nsAt_eq r he hb) (isNone_of h5) q
  | _ => cases h3
theorem ok_methOp {n : Nat} (B : Base c k) (hA : AOk (n + 1) A) {I : IP} (hc : CallOk c n I) {v : AV} {x : Nat} {args : List AV} {g : MS} {w : AV} (h : methOp I v x args σ g = some (w, σ')) {u : Value} (hv : VR c φ v u) {us : List Value} (hvs : All2 (VR c φ) args us) :
    OkV c fa A (call (MSV x g) (u :: us)) φ σ σ' w ∧ ∀ s, R c fa φ σ s → Kept c s (MSV x g) := by
  cases g with
  | own a => exact hc _ _ _ _ _ _ _ _ _ _ (hA.mono (Nat.le_succ _)) h rfl (.cons hv hvs)
  | b n =>
    refine ⟨?_, fun s _ => kept_builtin c s _⟩
    obtain ⟨i, hi, h2⟩ := ob_eq h
    obtain ⟨o1, g1, h3⟩ := ob_eq h2
    obtain rfl := isRef_eq hi
    obtain ⟨a, ha, rfl⟩ := hv
    cases o1 with
    | list xs =>
      obtain ⟨h4, h5⟩ := br_none h3
      obtain rfl := nbeq h4
      replace h5 : br (Nat.beq x 22) (mAppend i xs args σ) (br (Nat.beq x 48) (mPop i xs args σ) (br (Nat.beq x 47) (mSort i xs args σ) (br (Nat.beq x 57) (mRemove I i xs args σ) (br (Nat.beq x 101) (mCount xs args σ) none)))) = some (w, σ') := h5
      cases e1 : Nat.beq x 22 with
      | true => rw [e1] at h5; obtain rfl := nbeq e1; exact ok_append g1 h5 ha hvs
      | false =>
      rw [e1] at h5
      cases e2 : Nat.beq x 48 with
      | true => rw [e2] at h5; obtain rfl := nbeq e2; exact ok_pop g1 h5 ha hvs
      | false =>
      rw [e2] at h5
      cases e3 : Nat.beq x 47 with
      | true => rw [e3] at h5; obtain rfl := nbeq e3; exact ok_sort g1 h5 ha hvs
      | false =>
      rw [e3] at h5
      cases e4 : Nat.beq x 57 with
      | true => rw [e4] at h5; obtain rfl := nbeq e4; exact ok_remove B hA hc g1 h5 ha hvs
      | false =>
      rw [e4] at h5
      cases e5 : Nat.beq x 101 with
      | true => rw [e5] at h5; obtain rfl := nbeq e5; exact ok_count g1 h5 ha hvs
      | false => rw [e5] at h5; cases h5
    | dom d xs =>
      obtain ⟨h4, h5⟩ := br_none h3
      obtain rfl := nbeq h4
      replace h5 : br (Nat.beq x 57) (mDomRemove i d xs args σ) (br (Nat.beq x 52) (mDomExtend i d xs args σ) none) = some (w, σ') := h5
      cases e1 : Nat.beq x 57 with
      | true => rw [e1] at h5; obtain rfl := nbeq e1; exact ok_dremove B g1 h5 ha hvs
      | false =>
      rw [e1] at h5
      cases e2 : Nat.beq x 52 with
      | true => rw [e2] at h5; obtain rfl := nbeq e2; exact ok_dextend B g1 h5 ha hvs
      | false => rw [e2] at h5; cases h5
    | dict es =>
      obtain ⟨h4, h5⟩ := br_none h3
      obtain rfl := nbeq h4
      replace h5 : br (Nat.beq x 31) (mCopy es args σ) (br (Nat.beq x 65) (mGet es args σ) (br (Nat.beq x 33) (mValues i args σ) none)) = some (w, σ') := h5
      cases e1 : Nat.beq x 31 with
      | true => rw [e1] at h5; obtain rfl := nbeq e1; exact ok_copy B g1 h5 ha hvs
      | false =>
      rw [e1] at h5
      cases e2 : Nat.beq x 65 with
      | true => rw [e2] at h5; obtain rfl := nbeq e2; exact ok_get B g1 h5 ha hvs
      | false =>
      rw [e2] at h5
      cases e3 : Nat.beq x 33 with
      | true => rw [e3] at h5; obtain rfl := nbeq e3; exact ok_values B (es := es) (.inl g1) h5 ha hvs
      | false => rw [e3] at h5; cases h5
    | fdict es =>
      obtain ⟨h4, h5⟩ := br_none h3
      obtain rfl := nbeq h4
      replace h5 : br (Nat.beq x 33) (mValues i args σ) none = some (w, σ') := h5
      cases e3 : Nat.beq x 33 with
      | true => rw [e3] at h5; obtain rfl := nbeq e3; exact ok_values B (es := es) (.inr g1) h5 ha hvs
      | false => rw [e3] at h5; cases h5
    | _ => cases h3
end
end Mine
set_option maxRecDepth 100000
namespace Mine
noncomputable section
open PySem PySem.W PySem.W.X PyProof.Rows
variable {c : Cx} {k : FC} {f : FA} {fa : List FA} {φ : List Addr} {σ σ' τ : AS} {s s' : Shared} {A : Around} {o : Scope} {b : Bool} {env : Env} {m n : Nat}

def tgtOk (o : Scope) : List (Nat × Bool) → Bool
  | [] => true
  | (x, cl) :: r => okN o x cl && tgtOk o r
/-- the target, as it stands in the text -/
inductive TgtR : PySem.Expr → List (Nat × Bool) → Bool → Prop where
  | name (x : Nat) (p : Pos) (cl : Bool) : TgtR (.Name (nm x) p) [(x, cl)] false
  | tup (xs : List (Nat × Pos × Bool)) (k : Nat) (p : Pos) : TgtR (.Tuple (xs.map nameT) k p) (tnames xs) true

/-- what must hold behind a for's turns: where they are through, the else is a code of its own -/
def LoopQ (c : Cx) (fs : List FA) (Goal : Code → Shared → Prop) (Leaf : Flow → Shared → Prop) (orelse : List PySem.Stmt) (env : Env) (σ' : AS) (φ : List Addr) : Fl → Prop
  | .next => ∀ φ' s', φ <+: φ' → R c fs φ' σ' s' → Goal (.block orelse env) s'
  | .brk => ∀ φ' s', φ <+: φ' → R c fs φ' σ' s' → Leaf .next s'
  | .ret v => ∀ φ' s' u, φ <+: φ' → R c fs φ' σ' s' → VR c φ' v u → Leaf (.ret u) s'
/-- one step of a code suffices: so it is with codeAny, and with a generator's part -/
def OneStep (c : Cx) (A : Around) (Goal : Code → Shared → Prop) (Leaf : Flow → Shared → Prop) (EE : Value → Shared → Prop) (c' : Code) : Prop :=
  ∀ s, wpAny (model pw c.w) A ((model pw c.w).den c') (fun fin s' => match fin with | .done f => Leaf f s' | .again c2 => c2.quiet = true ∧ Goal c2 s') EE s → Goal c' s

structure SndI (c : Cx) (n : Nat) (I : IP) : Prop where
  ev : ∀ {m o f fa b env A φ σ e v σ'}, AOk n A → EnvOk o f b env → (b = false → f.C = none) → wfE m o e = true → I.ev e b σ = some (v, σ') → OkV c (f :: fa) A (eval (trE m e) env) φ σ σ' v
  evu : ∀ {m o f fa env A φ σ elt gens sc p v σ' σ'' x xp}, AOk n A → EnvOk o f false env → f.C = none → wfE m o (.comp elt gens sc p) = true → isLoc o x = true → I.ev (.comp elt gens sc p) false σ = some (v, σ') → setL x v σ' = some σ'' →
    Ok c (f :: fa) A (evalThenUse (trE m (.comp elt gens sc p)) env (assign (.Name (nm x) xp) env)) φ σ σ'' fun _ _ => True
  tt : ∀ {m o f fa b env A φ σ e t σ'}, AOk n A → EnvOk o f b env → (b = false → f.C = none) → wfE m o e = true → I.tt e b σ = some (t, σ') → Ok c (f :: fa) A (isTrue (trE m e) env (eval (trE m e) env)) φ σ σ' fun _ x => x = t
  exs : ∀ {m o f fa env A φ σ l fl σ'}, AOk n A → EnvOk o f false env → f.C = none → l.all (wfS m o) = true → I.exs l σ = some (fl, σ') → Ok c (f :: fa) A (execs (l.map (trS m)) env) φ σ σ' fun φ' x => FlR c φ' fl x
  lp : ∀ {m o f fa env A φ σ xs tu j body fl σ' target orelse s a} {Goal : Code → Shared → Prop} {Leaf : Flow → Shared → Prop} {EE : Value → Shared → Prop}, AOk n A → EnvOk o f false env → f.C = none → TgtR target xs tu → tgtOk o xs = true → body.all (wfS m o) = true → I.lp xs tu j body σ = some (fl, σ') →
    φ[j]? = some a → OneStep c A Goal Leaf EE (.forLoop target (.ref a) (body.map (trS m)) orelse env) → R c (f :: fa) φ σ s → LoopQ c (f :: fa) Goal Leaf orelse env σ' φ fl → Goal (.forLoop target (.ref a) (body.map (trS m)) orelse env) s
  wh : ∀ {m o f fa env A φ σ t body els fl σ' Rr s}, AOk n A → EnvOk o f false env → f.C = none → wfE m o t = true → body.all (wfS m o) = true → els.all (wfS m o) = true → I.wh t body els σ = some (fl, σ') →
    R c (f :: fa) φ σ s → (∀ φ' s' x, φ <+: φ' → R c (f :: fa) φ' σ' s' → FlR c φ' fl x → Rr (.ok x) s') → codeAny (model pw c.w) A (.whileLoop (trE m t) (body.map (trS m)) (els.map (trS m)) env) Rr s
  cl : ∀ {m o f fa env A φ σ elt gens} {whole : GL} {depth j acc σ' pos sc Rr s a d}, AOk n A → EnvOk o f true env → (whole.drop depth = gens) → wfE m o elt = true → (whole.all fun g => isLoc o g.1 && g.2.2.2.all (wfE m o)) = true → ((whole.drop 1).all fun g => wfE m o g.2.2.1) = true →
    I.cl elt gens j acc σ = some σ' → φ[j]? = some a → φ[acc]? = some d → R c (f :: fa) φ σ s → (∀ φ' s', φ <+: φ' → R c (f :: fa) φ' σ' s' → Rr (.ok .next) s') →
    codeAny (model pw c.w) A (.compStart (.ListComp (trE m elt) (whole.map fun g => ⟨.Name (nm g.1) g.2.1, trE m g.2.2.1, g.2.2.2.map (trE m), 0⟩) sc pos) depth (.ref a) (.ref d) env) Rr s ∧
    codeAny (model pw c.w) A (.compLoop (.ListComp (trE m elt) (whole.map fun g => ⟨.Name (nm g.1) g.2.1, trE m g.2.2.1, g.2.2.2.map (trE m), 0⟩) sc pos) depth (.ref a) (.ref d) env) Rr s
  call : CallOk c n I
theorem SndI.bot (c : Cx) (n : Nat) : SndI c n .bot where
  ev := fun _ _ _ _ h => by cases h
  evu := fun _ _ _ _ _ h => by cases h
  tt := fun _ _ _ _ h => by cases h
  exs := fun _ _ _ _ h => by cases h
  lp := fun _ _ _ _ _ _ h => by cases h
  wh := fun _ _ _ _ _ _ h => by cases h
  cl := fun _ _ _ _ _ _ h => by cases h
  call := fun _ _ _ _ _ _ _ _ _ _ _ h => by cases h

/-! ### expressions -/
variable {I : IP} {e : FE} {v : AV}
structure Hy (c : Cx) (k : FC) (n : Nat) (I : IP) (m : Nat) (o : Scope) (f : FA) (b : Bool) (env : Env) (A : Around) : Prop where
  B : Base c k
  S : SndI c n I
  hA : AOk (n + 1) A
  E : EnvOk o f b env
  hC : b = false → f.C = none
theorem Hy.A1 (H : Hy c k n I m o f b env A) : AOk n A := H.hA.mono (Nat.le_succ _)
theorem Hy.ev (H : Hy c k n I m o f b env A) {e : FE} {v : AV} {σ σ' : AS} (w : wfE m o e = true) (h : I.ev e b σ = some (v, σ')) : OkV c (f :: fa) A (eval (trE m e) env) φ σ σ' v := H.S.ev H.A1 H.E H.hC w h
theorem Hy.tt (H : Hy c k n I m o f b env A) {e : FE} {v : Bool} {σ σ' : AS} (w : wfE m o e = true) (h : I.tt e b σ = some (v, σ')) : Ok c (f :: fa) A (isTrue (trE m e) env (eval (trE m e) env)) φ σ σ' fun _ x => x = v := H.S.tt H.A1 H.E H.hC w h
theorem Hy.evs (H : Hy c k n I m o f b env A) {l : List FE} {vs : List AV} {σ σ' : AS} (w : l.all (wfE m o) = true) (h : evs I b l σ = some (vs, σ')) : Ok c (f :: fa) A (spliced (l.map fun e => (false, eval (trE m e) env))) φ σ σ' fun φ' us => All2 (VR c φ') vs us :=
  ok_evs (fun _ _ _ _ _ w h => H.ev w h) w h

theorem ev_attr (H : Hy c k n I m o f b env A) {a : FE} {x : Nat} {p : Pos} (w : (inL x attrNames && wfE m o a && !(isCallE a)) = true) (h : eAttr a x I b σ = some (v, σ')) : OkV c (f :: fa) A (eval (.Attribute (trE m a) (nm x) p) env) φ σ σ' v := by
  simp only [Bool.and_eq_true, Bool.not_eq_true'] at w
  obtain ⟨⟨w1, w2⟩, w3⟩ := w
  obtain ⟨u, σ1, h1, h2⟩ := bnd_eq h
  obtain ⟨r, h3, h4⟩ := ob_eq h2
  obtain ⟨rfl, rfl⟩ := ret_eq h4
  intro Q E s r q
  rw [arm_eval_Attribute, tr_base w2 w3]
  refine wpAny_bind (H.ev w2 h1 _ E s r fun φ1 s1 u1 p1 r1 hu => wpAny_bind (wpAny_standAt (wpAny_bind (wpAny_holding (ok_attr H.B w1 h3 hu _ E s1 r1 fun φ2 s2 u2 p2 r2 hu2 => ?_)))))
  exact wpAny_bind (wpAny_letTemporaryGo (wpAny_pure (q φ2 s2 u2 (p1.trans p2) r2 hu2)))
theorem ev_call (H : Hy c k n I m o f b env A) {g : FE} {args : List FE} {p : Pos} (w : (calleeOk g && wfE m o g && args.all (wfE m o)) = true) (h : eCall g args I b σ = some (v, σ')) : OkV c (f :: fa) A (eval (.Call (trE m g) (args.map (trE m)) [] p) env) φ σ σ' v := by
  simp only [Bool.and_eq_true] at w
  obtain ⟨⟨w1, w2⟩, w3⟩ := w
  obtain ⟨fv, σ1, h1, h2⟩ := bnd_eq h
  obtain ⟨vs, σ2, h3, h4⟩ := bnd_eq h2
  intro Q E s r q
  rw [tr_callee w2 w1, tr_args w3]
  refine wpAny_bind (H.ev w2 h1 _ E s r fun φ1 s1 u1 p1 r1 hu => ?_)
  refine callWith_kept (pairs_plain m env args) (H.evs w3 h3 _ E s1 r1 fun φ2 s2 us p2 r2 hus => ?_)
  obtain ⟨z1, z2⟩ := H.S.call (f :: fa) φ2 σ2 σ' A fv vs v u1 us H.A1 h4 (hu.mono p2) hus
  exact ⟨z2 s2 r2, z1 Q E s2 r2 fun φ3 s3 u3 p3 r3 hu3 => q φ3 s3 u3 ((p1.trans p2).trans p3) r3 hu3⟩
theorem ev_meth (H : Hy c k n I m o f b env A) {a : FE} {x : Nat} {args : List FE} {ap p : Pos} (w : (Nat.blt x nmN && wfE m o a && args.all (wfE m o) && (ap.endLine == p.line) && Nat.blt args.length 20 && !(isCallE a)) = true)
    (h : eMeth a x args I b σ = some (v, σ')) : OkV c (f :: fa) A (eval (.Call (.Attribute (trE m a) (nm x) ap) (args.map (trE m)) [] p) env) φ σ σ' v := by
  simp only [Bool.and_eq_true, Bool.not_eq_true'] at w
  obtain ⟨⟨⟨⟨⟨w1, w2⟩, w3⟩, w4⟩, w5⟩, w6⟩ := w
  obtain ⟨ov, σ1, h1, h2⟩ := bnd_eq h
  obtain ⟨g, h3, h4⟩ := ob_eq h2
  obtain ⟨vs, σ2, h5, h6⟩ := bnd_eq h4
  intro Q E s r q
  refine meth_rule w2 w6 w3 w4 (Nat.le_of_ble_eq_true w5) (H.ev w2 h1 _ E s r fun φ1 s1 u1 p1 r1 hu pl => ok_sel H.B h3 hu r1 ?_)
  refine callWith_kept (pairs_plain m env args) (H.evs w3 h5 _ E s1 r1 fun φ2 s2 us p2 r2 hus => ?_)
  obtain ⟨z1, z2⟩ := ok_methOp (fa := f :: fa) H.B H.hA H.S.call h6 (hu.mono p2) hus
  exact ⟨z2 s2 r2, z1 Q E s2 r2 fun φ3 s3 u3 p3 r3 hu3 => q φ3 s3 u3 ((p1.trans p2).trans p3) r3 hu3⟩
theorem ev_cmp (H : Hy c k n I m o f b env A) {l r' : FE} {op : COp} {p : Pos} (w : (wfE m o l && wfE m o r') = true) (h : eCmp k l op r' I b σ = some (v, σ')) : OkV c (f :: fa) A (eval (.Compare (trE m l) [copT op] [trE m r'] p) env) φ σ σ' v := by
  simp only [Bool.and_eq_true] at w
  obtain ⟨x, σ1, h1, h2⟩ := bnd_eq h
  obtain ⟨y, σ2, h3, h4⟩ := bnd_eq h2
  obtain ⟨t, h5, h6⟩ := ob_eq h4
  obtain ⟨rfl, rfl⟩ := ret_eq h6
  intro Q E s r q
  refine wpAny_Compare1 (H.ev w.1 h1 _ E s r fun φ1 s1 u1 p1 r1 hu => H.ev w.2 h3 _ E s1 r1 fun φ2 s2 u2 p2 r2 hu2 => ?_) (by
    have w2 := w.2
    cases m with
    | zero => cases w2
    | succ m => cases r' <;> first | rfl | (cases w2; done))
  refine ok_cmp H.B (by have := H.hA.units; omega) h5 (hu.mono p2) hu2 _ E s2 r2 fun φ3 s3 u3 p3 r3 hu3 => ?_
  exact q φ3 s3 u3 ((p1.trans p2).trans p3) r3 hu3
theorem ev_not (H : Hy c k n I m o f b env A) {x : FE} {p : Pos} (w : wfE m o x = true) (h : eNot x I b σ = some (v, σ')) : OkV c (f :: fa) A (eval (.UnaryOp .Not (trE m x) p) env) φ σ σ' v := by
  obtain ⟨x', σ1, h1, h2⟩ := bnd_eq h
  obtain ⟨t, h3, h4⟩ := ob_eq h2
  obtain ⟨rfl, rfl⟩ := ret_eq h4
  intro Q E s r q
  refine wpAny_UnaryOp (H.ev w h1 _ E s r fun φ1 s1 u1 p1 r1 hu => not_value (ok_truthy H.B h3 hu _ E s1 r1 fun φ2 s2 t2 p2 r2 ht => ?_))
  subst ht
  exact q φ2 s2 _ (p1.trans p2) r2 rfl
theorem ev_neg (H : Hy c k n I m o f b env A) {x : FE} {p : Pos} (w : wfE m o x = true) (h : eNeg x I b σ = some (v, σ')) : OkV c (f :: fa) A (eval (.UnaryOp .USub (trE m x) p) env) φ σ σ' v := by
  obtain ⟨x', σ1, h1, h2⟩ := bnd_eq h
  obtain ⟨t, h3, h4⟩ := ob_eq h2
  obtain ⟨rfl, rfl⟩ := ret_eq h4
  intro Q E s r q
  refine wpAny_UnaryOp (H.ev w h1 _ E s r fun φ1 s1 u1 p1 r1 hu => ok_neg h3 hu _ E s1 r1 fun φ2 s2 t2 p2 r2 ht => ?_)
  exact q φ2 s2 _ (p1.trans p2) r2 ht
theorem ev_bin (H : Hy c k n I m o f b env A) {l r' : FE} {op : BOp} {p : Pos} (w : (wfE m o l && wfE m o r') = true) (h : eBin k l op r' I b σ = some (v, σ')) : OkV c (f :: fa) A (eval (.BinOp (trE m l) (bopT op) (trE m r') p) env) φ σ σ' v := by
  simp only [Bool.and_eq_true] at w
  obtain ⟨x, σ1, h1, h2⟩ := bnd_eq h
  obtain ⟨y, σ2, h3, h4⟩ := bnd_eq h2
  obtain ⟨t, h5, h6⟩ := ob_eq h4
  obtain ⟨rfl, rfl⟩ := ret_eq h6
  intro Q E s r q
  refine PySem.wpAny_BinOp (H.ev w.1 h1 _ E s r fun φ1 s1 u1 p1 r1 hu => H.ev w.2 h3 _ E s1 r1 fun φ2 s2 u2 p2 r2 hu2 => ?_)
  refine ok_bin H.B h5 (hu.mono p2) hu2 _ E s2 r2 fun φ3 s3 u3 p3 r3 hu3 => ?_
  exact q φ3 s3 u3 ((p1.trans p2).trans p3) r3 hu3
theorem ev_list (H : Hy c k n I m o f b env A) {xs : List FE} {p : Pos} (w : xs.all (wfE m o) = true) (h : eList xs I b σ = some (v, σ')) : OkV c (f :: fa) A (eval (.List (xs.map (trE m)) p) env) φ σ σ' v := by
  obtain ⟨vs, σ1, h1, h2⟩ := bnd_eq h
  obtain ⟨hs, h3⟩ := br_none h2
  obtain ⟨rfl, rfl⟩ := ret_eq h3
  intro Q E s r q
  refine PySem.wpAny_List ?_
  rw [tr_args w]
  refine H.evs w h1 _ E s r fun φ1 s1 us p1 r1 hus => ?_
  have hl : vs.length < 1000 := Nat.le_of_ble_eq_true hs
  have hlen := hus.length
  refine ⟨by have : (1000 : Nat) ≤ sizeLine := by decide
             omega, ?_⟩
  exact q (φ1 ++ [s1.heap.objs.size]) _ _ (p1.trans (List.prefix_append _ _)) (r1.alloc (grows_push s1 _) (Nat.le_refl _) (push_lt _ _) (o := .list vs) ⟨Nat.le_of_lt hl, _, _, Heap.get?_push_size _ rfl, vrs_mono (List.prefix_append _ _) (by simpa using hus)⟩ (nokit fun _ _ _ => ⟨(fun e => by cases e), fun e => by cases e⟩)) ⟨_, r1.snoc _, rfl⟩
theorem ev_tup (H : Hy c k n I m o f b env A) {xs : List FE} {kk : Nat} {p : Pos} (w : xs.all (wfE m o) = true) (h : eTup xs I b σ = some (v, σ')) : OkV c (f :: fa) A (eval (.Tuple (xs.map (trE m)) kk p) env) φ σ σ' v := by
  obtain ⟨vs, σ1, h1, h2⟩ := bnd_eq h
  obtain ⟨hs, h3⟩ := br_none h2
  obtain ⟨rfl, rfl⟩ := ret_eq h3
  intro Q E s r q
  refine PySem.wpAny_Tuple ?_
  rw [tr_args w]
  refine H.evs w h1 _ E s r fun φ1 s1 us p1 r1 hus => ?_
  have hl : vs.length < 1000 := Nat.le_of_ble_eq_true hs
  have hlen := hus.length
  refine ⟨by have : (1000 : Nat) ≤ sizeLine := by decide
             omega, ?_⟩
  exact q (φ1 ++ [s1.heap.objs.size]) _ _ (p1.trans (List.prefix_append _ _)) (r1.alloc (grows_push s1 _) (Nat.le_refl _) (push_lt _ _) (o := .tup vs) ⟨Nat.le_of_lt hl, _, _, Heap.get?_push_size _ rfl, vrs_mono (List.prefix_append _ _) (by simpa using hus)⟩ (nokit fun _ _ _ => ⟨(fun e => by cases e), fun e => by cases e⟩)) ⟨_, r1.snoc _, rfl⟩
theorem ev_ite (H : Hy c k n I m o f b env A) {t x y : FE} {p : Pos} (w : (wfE m o t && wfE m o x && wfE m o y) = true) (h : eIte t x y I b σ = some (v, σ')) : OkV c (f :: fa) A (eval (.IfExp (trE m t) (trE m x) (trE m y) p) env) φ σ σ' v := by
  simp only [Bool.and_eq_true] at w
  obtain ⟨tv, σ1, h1, h2⟩ := bnd_eq h
  intro Q E s r q
  rw [arm_eval_IfExp]
  refine wpAny_bind (H.tt w.1.1 h1 _ E s r fun φ1 s1 t1 p1 r1 ht => ?_)
  subst ht
  cases t1 with
  | true => rw [if_pos rfl]; exact H.ev w.1.2 h2 _ E s1 r1 fun φ2 s2 u2 p2 r2 hu => q φ2 s2 u2 (p1.trans p2) r2 hu
  | false => rw [if_neg (by decide)]; exact H.ev w.2 h2 _ E s1 r1 fun φ2 s2 u2 p2 r2 hu => q φ2 s2 u2 (p1.trans p2) r2 hu
theorem ev_sub (H : Hy c k n I m o f b env A) {a i : FE} {p : Pos} (w : (wfE m o a && wfE m o i) = true) (h : eSub k a i I b σ = some (v, σ')) : OkV c (f :: fa) A (eval (.Subscript (trE m a) (trE m i) p) env) φ σ σ' v := by
  simp only [Bool.and_eq_true] at w
  obtain ⟨x, σ1, h1, h2⟩ := bnd_eq h
  obtain ⟨y, σ2, h3, h4⟩ := bnd_eq h2
  obtain ⟨t, h5, h6⟩ := ob_eq h4
  obtain ⟨rfl, rfl⟩ := ret_eq h6
  intro Q E s r q
  rw [arm_eval_Subscript]
  refine wpAny_bind (H.ev w.1 h1 _ E s r fun φ1 s1 u1 p1 r1 hu => wpAny_bind (wpAny_holding (H.ev w.2 h3 _ E s1 r1 fun φ2 s2 u2 p2 r2 hu2 => wpAny_bind (wpAny_standAt ?_))))
  obtain ⟨z1, z2⟩ := ok_sub (fa := f :: fa) (A := A) H.B h5 (hu.mono p2) hu2 (fun r3 s3 => wpAny (model pw c.w) A (letTemporaryGo (trE m a) u1 r3 >>= fun _ => pure r3) Q E s3) E s2 r2 fun s3 x3 r3 hx => wpAny_bind (wpAny_letTemporaryGo (wpAny_pure (q φ2 s3 x3 (p1.trans p2) r3 hx)))
  refine wpAny_bind (z1 A E _ ?_)
  rw [tr_sub w.2]
  exact wpAny_bind (wpAny_operateT z2)
theorem ok_part (H : Hy c k n I m o f b env A) {lo : Option FE} {vl : Option AV} {sp : Pos} (w : (match lo with | none => true | some e => wfE m o e) = true) (h : evO I b lo σ = some (vl, σ')) {Q : Value → Shared → Prop} {E} (r : R c (f :: fa) φ σ s)
    (q : ∀ φ' s' x, φ <+: φ' → R c (f :: fa) φ' σ' s' → PartR c φ' vl x → Q (.ref s'.heap.objs.size) { s' with heap := s'.heap.push (sliceO x) }) : wpAny (model pw c.w) A (eval (.Slice (lo.map (trE m)) none none sp) env) Q E s := by
  rw [arm_eval_Slice]
  cases lo with
  | none =>
    obtain ⟨rfl, rfl⟩ := ret_eq h
    refine wpAny_bind (wpAny_pure (wpAny_bind (wpAny_holding (wpAny_pure (wpAny_bind (wpAny_holding (wpAny_pure ?_)))))))
    exact wpAny_newObj_type (q φ s .none (List.prefix_refl _) r rfl) (by size_fits)
  | some e =>
    obtain ⟨v, σ1, h1, h2⟩ := bnd_eq (show bnd (I.ev e b σ) (fun v σ => ret (some v) σ) = some (vl, σ') from h)
    obtain ⟨rfl, rfl⟩ := ret_eq h2
    refine wpAny_bind (H.ev (show wfE m o e = true from w) h1 _ E s r fun φ1 s1 u1 p1 r1 hu => ?_)
    refine (wpAny_bind (wpAny_holding (wpAny_pure (wpAny_bind (wpAny_holding (wpAny_pure ?_))))))
    exact wpAny_newObj_type (q φ1 s1 u1 p1 r1 hu) (by size_fits)
theorem ev_slc (H : Hy c k n I m o f b env A) {a : FE} {lo : Option FE} {sp p : Pos} (w : (wfE m o a && (match lo with | none => true | some e => wfE m o e)) = true) (h : eSlc a lo I b σ = some (v, σ')) : OkV c (f :: fa) A (eval (.Subscript (trE m a) (.Slice (lo.map (trE m)) none none sp) p) env) φ σ σ' v := by
  rw [Bool.and_eq_true] at w
  obtain ⟨x, σ1, h1, h2⟩ := bnd_eq h
  obtain ⟨y, σ2, h3, h4⟩ := bnd_eq h2
  intro Q E s r q
  rw [arm_eval_Subscript]
  refine wpAny_bind (H.ev w.1 h1 _ E s r fun φ1 s1 u1 p1 r1 hu => wpAny_bind (wpAny_holding (ok_part H w.2 h3 r1 fun φ2 s2 x2 p2 r2 hx => wpAny_bind (wpAny_standAt ?_))))
  obtain ⟨z1, z2⟩ := ok_slice (A := A) (E := E) H.B h4 (hu.mono p2) hx (Q := fun r3 s3 => wpAny (model pw c.w) A (letTemporaryGo (trE m a) u1 r3 >>= fun _ => pure r3) Q E s3) r2 fun φ3 s3 y3 p3 r3 hy => wpAny_bind (wpAny_letTemporaryGo (wpAny_pure (q φ3 s3 y3 ((p1.trans p2).trans p3) r3 hy)))
  refine wpAny_bind (z1 A E _ ?_)
  exact wpAny_bind (wpAny_operateT z2)
theorem ev_dict0 {p : Pos} (h : eDict0 I b σ = some (v, σ')) : OkV c (f :: fa) A (eval (.Dict [] [] p) env) φ σ σ' v := by
  obtain ⟨rfl, rfl⟩ := ret_eq h
  intro Q E s r q
  have e : eval (.Dict [] [] p) env = (do standAt p; newDict) := by rfl
  rw [e]
  refine wpAny_bind (wpAny_standAt (wpAny_newObj_type ?_ (by size_fits)))
  exact q (φ ++ [s.heap.objs.size]) _ _ (List.prefix_append _ _) (r.alloc (grows_push s _) (Nat.le_refl _) (push_lt _ _) (o := .dict []) ⟨by simp, [], Heap.DictOf.new _, .nil⟩ (nokit fun _ _ _ => ⟨(fun e => by cases e), fun e => by cases e⟩)) ⟨_, r.snoc _, rfl⟩

/-! ### and, or -/
theorem evalEach_map : ∀ (l : List FE), evalEach (l.map (trE m)) env = l.map fun e => eval (trE m e) env
  | [] => rfl
  | e :: r => by rw [List.map_cons, List.map_cons, ← evalEach_map r]; rfl
def bopK (a : Bool) : BoolOp := if a then .And else .Or
theorem ev_bop (H : Hy c k n I m o f b env A) {a : Bool} {p : Pos} : ∀ {l : List FE} {φ : List Addr} {σ σ' : AS} {v : AV}, l.all (wfE m o) = true → bopV I b a l σ = some (v, σ') → OkV c (f :: fa) A (boolOp p (bopK a) (l.map fun e => eval (trE m e) env)) φ σ σ' v
  | [], _, _, _, _, _, h => by cases h
  | [e], _, _, _, _, w, h => by
    rw [List.all_cons, Bool.and_eq_true] at w
    exact H.ev w.1 h
  | e :: e2 :: r, φ, σ, σ', v, w, h => by
    rw [List.all_cons, Bool.and_eq_true] at w
    obtain ⟨x, σ1, h1, h2⟩ := bnd_eq h
    obtain ⟨t, h3, h4⟩ := ob_eq h2
    intro Q E s r' q
    show wpAny _ _ (eval (trE m e) env >>= _) _ _ _
    refine wpAny_bind (H.ev w.1 h1 _ E s r' fun φ1 s1 u1 p1 r1 hu => wpAny_bind (wpAny_standAt (wpAny_bind (wpAny_holding (ok_truthy H.B h3 hu _ E s1 r1 fun φ2 s2 t2 p2 r2 ht => ?_)))))
    subst ht
    have ih := fun (h : bopV I b a (e2 :: r) σ1 = some (v, σ')) => ev_bop H (p := p) (φ := φ2) w.2 h Q E s2 r2 fun φ3 s3 u3 p3 r3 hu3 => q φ3 s3 u3 ((p1.trans p2).trans p3) r3 hu3
    have stop := fun (h : ret x σ1 = some (v, σ')) => by
      obtain ⟨rfl, rfl⟩ := ret_eq h
      exact q φ2 s2 u1 (p1.trans p2) r2 (hu.mono p2)
    cases a with
    | true =>
      cases t2 with
      | true => exact ih h4
      | false => exact wpAny_pure (stop h4)
    | false =>
      cases t2 with
      | true => exact wpAny_pure (stop h4)
      | false => exact ih h4
theorem tt_all (H : Hy c k n I m o f b env A) {a : Bool} : ∀ {l : List FE} {φ : List Addr} {σ σ' : AS} {t : Bool}, l.all (wfE m o) = true → ttAll I b a l σ = some (t, σ') → Ok c (f :: fa) A (allTrue (bopK a) (l.map (trE m)) env) φ σ σ' fun _ x => x = t
  | [], φ, σ, σ', t, _, h => by
    obtain ⟨rfl, rfl⟩ := ret_eq h
    intro Q E s r q
    have := q φ s t (List.prefix_refl _) r rfl
    cases t with
    | true => exact wpAny_allTrue_And_nil this
    | false => exact wpAny_allTrue_Or_nil this
  | e :: r, φ, σ, σ', t, w, h => by
    rw [List.all_cons, Bool.and_eq_true] at w
    obtain ⟨x, σ1, h1, h2⟩ := bnd_eq h
    intro Q E s r' q
    have hx := H.tt (fa := fa) (φ := φ) w.1 h1
    cases a with
    | true =>
      show wpAny _ _ (isTrue (trE m e) env (eval (trE m e) env) >>= _) _ _ _
      refine wpAny_bind (hx _ E s r' fun φ1 s1 t1 p1 r1 ht => ?_)
      subst ht
      cases t1 with
      | true => exact tt_all H (a := true) w.2 h2 Q E s1 r1 fun φ3 s3 u3 p3 r3 hu3 => q φ3 s3 u3 (p1.trans p3) r3 hu3
      | false =>
        obtain ⟨rfl, rfl⟩ := ret_eq h2
        exact wpAny_pure (q φ1 s1 false p1 r1 rfl)
    | false =>
      show wpAny _ _ (isTrue (trE m e) env (eval (trE m e) env) >>= _) _ _ _
      refine wpAny_bind (hx _ E s r' fun φ1 s1 t1 p1 r1 ht => ?_)
      subst ht
      cases t1 with
      | false => exact tt_all H (a := false) w.2 h2 Q E s1 r1 fun φ3 s3 u3 p3 r3 hu3 => q φ3 s3 u3 (p1.trans p3) r3 hu3
      | true =>
        obtain ⟨rfl, rfl⟩ := ret_eq h2
        exact wpAny_pure (q φ1 s1 true p1 r1 rfl)
/-! ### constants -/
theorem ev_const {v' : AV} {e : PySem.Expr} (h : eVal v I b σ = some (v', σ')) (q : ∀ (Q : Value → Shared → Prop) E (s : Shared) φ', (∀ u tk, VR c φ' v u → Q u { s with toks := tk }) → wpAny (model pw c.w) A (eval e env) Q E s) : OkV c (f :: fa) A (eval e env) φ σ σ' v' := by
  obtain ⟨rfl, rfl⟩ := ret_eq h
  intro Q E s r q'
  exact q Q E s φ fun u tk hu => q' φ _ u (List.prefix_refl _) (r.toks tk) hu
/-! ### x.name(*args) -/
theorem callWith_star {g : Value} {first : List Value} {x : Sem Value} {p p' : Pos} {E : Value → Shared → Prop} {Q : Value → Shared → Prop}
    (h : wpAny (model pw c.w) A x (fun v s₁ => StarOf (model pw c.w) A E v (fun vs s₂ => Kept c s₂ g ∧ wpAny (model pw c.w) A (call g (first ++ vs)) Q E s₂) s₁) E s) :
    wpAny (model pw c.w) A (callWith p g first [(true, (do let v ← x; standAt p'; pure v))] []) Q E s := by
  unfold callWith
  refine wpAny_bind (wpAny_holding (ks_lone (Q := fun a s₁ => wpAny (model pw c.w) A _ Q E s₁) (wpAny_mono h (fun v s1 h1 => ?_) fun _ _ x => x)))
  unfold StarOf at h1 ⊢
  refine wpAny_mono h1 (fun b s2 h2 => ⟨h2.1, wpAny_mono h2.2 (fun vs s3 h3 => wpAny_bind (wpAny_standAt ?_)) fun _ _ x => x⟩) fun _ _ x => x
  dsimp only
  have tail : ∀ {t : Sem Value}, wpAny (model pw c.w) A t Q E s3 → wpAny (model pw c.w) A (t >>= fun r => holding [r] point >>= fun _ => pure r) Q E s3 :=
    fun ht => wpAny_bind (wpAny_mono ht (fun r s₂ hr => wpAny_bind (wpAny_holding (wpAny_point (wpAny_pure hr)))) fun _ _ x => x)
  refine wpAny_bind (h3.1 A E _ fun k => ?_)
  have hc := h3.2
  cases k <;> dsimp only [List.any_cons, List.any_nil, Bool.or_false] <;> first | exact tail (by unfold callMarked; exact Calls.wpAny_keep hc) | exact tail (wpAny_operating hc)
theorem star_list (r : R c fa φ σ s) {i : Nat} {xs : List AV} (h : listAt σ i = some xs) {a : Addr} (ha : φ[i]? = some a) {Q : List Value → Shared → Prop} {E} (q : ∀ s' vs, R c fa φ σ s' → All2 (VR c φ) xs vs → Q vs s') : StarOf (model pw c.w) A E (.ref a) Q s := by
  obtain ⟨o1, g1, e1⟩ := ob_eq h
  cases o1 <;> try cases e1
  obtain ⟨a', ha', hl, vs, n, e, hvs⟩ := r.obj _ _ g1
  rw [ha] at ha'; cases ha'
  unfold StarOf notIterableAtAll
  refine wpAny_bind (wpAny_specialOf (seq_list e).typeIs PySem.F.slot_list_iter.lookup (wpAny_pure ⟨rfl, ?_⟩))
  have hlen := hvs.length
  have big : (1000 : Nat) ≤ sizeLine := by decide
  refine wpAny_with_size (PyProof.Rows.collect_list (vs := vs.toList) (by simpa using seq_list e) (fun hs => ?_) (by omega))
  refine q _ _ (r.grow ⟨fun b o hb => ?_, hs, rfl, rfl, rfl⟩) hvs
  rw [Heap.get?_update_ne _ _ _ _ (Nat.ne_of_lt (Heap.lt_size hb))]
  exact Heap.get?_push_of_some _ hb
theorem tr_starred {e : FE} (sp : Pos) : starEach [.Starred (trE m e) sp] env = [(true, eval (trE m e) env)] := rfl
theorem ev_methS (H : Hy c k n I m o f b env A) {a g : FE} {x : Nat} {ap sp p : Pos} (w : (inL x attrNames && wfE m o a && wfE m o g && !(isCallE a)) = true)
    (h : eMethS a x g I b σ = some (v, σ')) : OkV c (f :: fa) A (eval (.Call (.Attribute (trE m a) (nm x) ap) [.Starred (trE m g) sp] [] p) env) φ σ σ' v := by
  simp only [Bool.and_eq_true, Bool.not_eq_true'] at w
  obtain ⟨⟨⟨w1, w2⟩, w3⟩, w4⟩ := w
  obtain ⟨ov, σ1, h1, h2⟩ := bnd_eq h
  obtain ⟨fv, h3, h4⟩ := ob_eq h2
  obtain ⟨wv, σ2, h5, h6⟩ := bnd_eq h4
  obtain ⟨i, h7, h8⟩ := ob_eq h6
  obtain ⟨vs, h9, h10⟩ := ob_eq h8
  obtain rfl := isRef_eq h7
  intro Q E s r q
  rw [arm_eval_Call, tr_base w2 w4]
  refine wpAny_bind (H.ev w2 h1 _ E s r fun φ1 s1 u1 p1 r1 hu => wpAny_bind (wpAny_standAt ?_))
  rw [tr_starred]
  show wpAny _ _ (methodCall (trE m a) (nm x) ap p env u1 _ [(true, (do let v ← eval (trE m g) env; standAt p; pure v))] []) _ _ _
  unfold methodCall
  have hform : ∀ z, methodCallForm z [(true, (do let v ← eval (trE m g) env; standAt p; pure v))] [] = false := fun z => by unfold methodCallForm; rfl
  rw [hform]
  refine wpAny_bind (wpAny_holding ?_)
  unfold calleeOf
  rw [if_neg (by decide)]
  refine wpAny_bind (ok_attr H.B w1 h3 hu _ E s1 r1 fun φ2 s2 u2 p2 r2 hu2 => wpAny_pure ?_)
  dsimp only
  have hpos : methodCallPos false (trE m a) env ap p = pure p := by unfold methodCallPos; rfl
  refine wpAny_bind (wpAny_of_eq hpos ?_)
  refine callWith_star (H.ev w3 h5 _ E s2 r2 fun φ3 s3 u3 p3 r3 hu3 => ?_)
  obtain ⟨a3, ha3, rfl⟩ := hu3
  refine star_list r3 h9 ha3 fun s4 us r4 hus => ?_
  obtain ⟨z1, z2⟩ := H.S.call (f :: fa) φ3 σ2 σ' A fv vs v u2 us H.A1 h10 (hu2.mono p3) hus
  exact ⟨z2 s4 r4, z1 Q E s4 r4 fun φ5 s5 u5 p5 r5 hu5 => q φ5 s5 u5 (((p1.trans p2).trans p3).trans p5) r5 hu5⟩
end
end Mine
set_option maxRecDepth 100000
namespace Mine
noncomputable section
open PySem PySem.W PySem.W.X PyProof.Rows
variable {c : Cx} {k : FC} {f : FA} {fa : List FA} {φ : List Addr} {σ σ' τ : AS} {s s' : Shared} {A : Around} {o : Scope} {b : Bool} {env : Env} {m n : Nat} {I : IP} {e : FE} {v : AV}

/-! ### the comprehension's names -/
def clos (env : Env) : List (Str × NameKind) → List (Str × Addr) → List (Str × Addr)
  | [], cs => cs
  | (n, k) :: r, cs => clos env r (if k = .free then (n, (env.cells.lookup n).getD 0) :: cs else cs)
theorem clos_forIn (env : Env) : ∀ (names : List (Str × NameKind)) (cs : List (Str × Addr)) (F : Str × NameKind → List (Str × Addr) → Sem (ForInStep (List (Str × Addr)))),
    (∀ x ∈ names, ∀ cs, F x cs = pure (.yield (if x.2 = .free then (x.1, (env.cells.lookup x.1).getD 0) :: cs else cs))) → forIn names cs F = (pure (clos env names cs) : Sem _)
  | [], cs, F, _ => by rw [List.forIn_nil]; rfl
  | (n, k) :: r, cs, F, h => by
    rw [List.forIn_cons, h (n, k) List.mem_cons_self cs]
    exact clos_forIn env r _ F fun x hx => h x (List.mem_cons_of_mem _ hx)
theorem closureFor_eq {scope : Scope} (h : ∀ x ∈ scope.names, x.2 = .free → (env.cells.lookup x.1).isSome = true) : closureFor scope env = pure (clos env scope.names []) := by
  simp only [closureFor]
  rw [clos_forIn env scope.names [] _ fun x hx cs => ?_]
  · rfl
  · obtain ⟨n, k⟩ := x
    dsimp only
    by_cases e : k = .free
    · subst e
      have := h (n, .free) hx rfl
      obtain ⟨a, ha⟩ := Option.isSome_iff_exists.mp this
      have hc : cellOf env n = pure a := by unfold cellOf; rw [ha]
      rw [if_pos (by decide), if_pos rfl, hc, ha]
      rfl
    · rw [if_neg (by simpa using e), if_neg e]
theorem clos_cons (env : Env) : ∀ (names : List (Str × NameKind)) (cs : List (Str × Addr)), (∀ p ∈ cs, p.2 = (env.cells.lookup p.1).getD 0) → ∀ p ∈ clos env names cs, p.2 = (env.cells.lookup p.1).getD 0
  | [], cs, h => h
  | (n, k) :: r, cs, h => by
    refine clos_cons env r _ ?_
    split
    · intro p hp
      rcases List.mem_cons.mp hp with rfl | hp
      · rfl
      · exact h p hp
    · exact h
theorem clos_sub (env : Env) : ∀ (names : List (Str × NameKind)) (cs : List (Str × Addr)) (p : Str × Addr), p ∈ cs → p ∈ clos env names cs
  | [], cs, p, h => h
  | (n, k) :: r, cs, p, h => by
    refine clos_sub env r _ p ?_
    split
    · exact List.mem_cons_of_mem _ h
    · exact h
theorem clos_has (env : Env) : ∀ (names : List (Str × NameKind)) (cs : List (Str × Addr)) (n : Str), (n, NameKind.free) ∈ names → ∃ p ∈ clos env names cs, p.1 = n
  | (n', k) :: r, cs, n, h => by
    rcases List.mem_cons.mp h with e | h
    · cases e
      refine ⟨(n', (env.cells.lookup n').getD 0), clos_sub env r _ _ ?_, rfl⟩
      rw [if_pos rfl]; exact List.mem_cons_self
    · exact clos_has env r _ n h
theorem lookup_cons {g : Str → Addr} {n : Str} : ∀ {l : List (Str × Addr)}, (∀ p ∈ l, p.2 = g p.1) → (∃ p ∈ l, p.1 = n) → l.lookup n = some (g n)
  | [], _, ⟨p, hp, _⟩ => by cases hp
  | (m, d) :: r, h, ⟨p, hp, e⟩ => by
    rw [List.lookup_cons]
    cases q : n == m with
    | true =>
      have := h (m, d) List.mem_cons_self
      have : d = g m := this
      rw [eq_of_beq q, this]
    | false =>
      rcases List.mem_cons.mp hp with rfl | hp
      · subst e; simp at q
      · exact lookup_cons (fun p hp => h p (List.mem_cons_of_mem _ hp)) ⟨p, hp, e⟩
theorem clos_lookup (env : Env) {names : List (Str × NameKind)} {n : Str} (h : (n, NameKind.free) ∈ names) : (clos env names []).lookup n = some ((env.cells.lookup n).getD 0) :=
  lookup_cons (g := fun n => (env.cells.lookup n).getD 0) (clos_cons env names [] (fun p hp => by cases hp)) (clos_has env names [] n h)

structure OkC (o i : Scope) : Prop where
  kind : i.kind = .function
  nocell : ∀ y ∈ i.names, y.2 ≠ .cell
  loc : ∀ y ∈ i.names, y.2 = .local → i.names.lookup y.1 = some .local
  free : ∀ y ∈ i.names, y.2 = .free → ∃ x, x < nmN ∧ nm x = y.1 ∧ isCel o x = true
theorem nmL_len : nmL.length = nmN := by decide +kernel
theorem okC_spec {i : Scope} (h : okC o i = true) : OkC o i := by
  unfold okC at h
  simp only [Bool.and_eq_true, List.all_eq_true, Bool.or_eq_true, Bool.not_eq_true'] at h
  obtain ⟨⟨⟨h1, h2⟩, h3⟩, h4⟩ := h
  refine ⟨eq_of_beq h1, fun y hy e => ?_, fun y hy e => ?_, fun y hy e => ?_⟩
  · have := h2 y hy; rw [e] at this; exact absurd this (by decide)
  · rcases h3 y hy with q | q
    · rw [e] at q; exact absurd q (by decide)
    · exact eq_of_beq q
  · rcases h4 y hy with q | ⟨q1, q2⟩
    · rw [e] at q; exact absurd q (by decide)
    · obtain ⟨t, ht, q⟩ := List.any_eq_true.mp q1
      obtain ⟨x, hx, rfl⟩ := List.getElem_of_mem ht
      have hxn : x < nmN := by rw [← nmL_len]; exact hx
      have hnm : nm x = y.1 := by
        unfold nm
        rw [List.getElem?_eq_getElem hx]
        exact eq_of_beq q
      refine ⟨x, hxn, hnm, ?_⟩
      unfold isCel
      rw [Bool.and_eq_true]
      refine ⟨Nat.ble_eq_true_of_le hxn, ?_⟩
      unfold kd
      rw [hnm, Bool.or_eq_true]; exact q2
theorem relS_lookup {i : Scope} (hc : ∀ y ∈ i.names, y.2 ≠ .cell) {x : Str} (h : (relS o i).names.lookup x = some .cell ∨ (relS o i).names.lookup x = some .free) : (x, NameKind.free) ∈ i.names := by
  have key : ∀ {kk : NameKind}, (kk = .cell ∨ kk = .free) → (relS o i).names.lookup x = some kk → (x, NameKind.free) ∈ i.names := by
    intro kk hkk hl
    have hm := lookup_mem' hl
    obtain ⟨⟨n', k'⟩, hy, e⟩ := List.mem_map.mp hm
    dsimp only at e
    split at e
    · rename_i q
      rw [Bool.and_eq_true, Bool.and_eq_true] at q
      cases e
      rw [← eq_of_beq q.1.1]; exact hy
    · cases e
      rcases hkk with rfl | rfl
      · exact absurd rfl (hc _ hy)
      · exact hy
  rcases h with h | h
  · exact key (.inl rfl) h
  · exact key (.inr rfl) h

/-! ### the comprehension's frame comes and goes -/
theorem own_snoc {C : Addr} (hf : f.C = none) : (⟨f.L, f.cs, some C⟩ : FA).own = f.own ++ [C] := by
  unfold FA.own
  rw [hf]; simp
theorem FrR.noC {C : Addr} {h : Heap} {fm : FM} (r : FrR c φ h ⟨f.L, f.cs, some C⟩ fm) (hf : f.C = none) : FrR c φ h f ⟨fm.lo, fm.ce, []⟩ := ⟨r.lo, r.ce, fun C' e => by rw [hf] at e; cases e⟩
theorem R.enterC (r : R c (f :: fa) φ σ s) (hf : f.C = none) {C : Addr} (x : NewIn c (f :: fa) φ s.heap C) (hn : s.heap.Ns C (fun _ => none)) : R c (⟨f.L, f.cs, some C⟩ :: fa) φ (clear σ) s := by
  have perm : (owns φ (⟨f.L, f.cs, some C⟩ :: fa)).Perm (C :: owns φ (f :: fa)) := by
    unfold owns
    rw [List.flatMap_cons, List.flatMap_cons, own_snoc hf, show φ ++ (f.own ++ [C] ++ fa.flatMap FA.own) = (φ ++ f.own) ++ C :: fa.flatMap FA.own by simp]
    refine List.perm_middle.trans ?_
    rw [List.append_assoc]
  refine ⟨r.obj, r.frz, r.len, ?_, fun b m => ?_, fun b m => ?_, r.keep, ?_, r.gens, r.dr, r.os⟩
  · exact perm.nodup_iff.mpr (List.nodup_cons.mpr ⟨x.1, r.nod⟩)
  · rcases List.mem_cons.mp (perm.mem_iff.mp m) with rfl | m
    · exact x.2.1
    · exact r.lt b m
  · rcases List.mem_cons.mp (perm.mem_iff.mp m) with rfl | m
    · exact x.2.2
    · exact r.new b m
  · cases r.fr with
    | cons h rest => exact .cons ⟨h.lo, h.ce, fun C' e => by cases e; exact ⟨_, hn, fun x _ => rfl⟩⟩ rest
theorem R.dropC {C : Addr} (r : R c (⟨f.L, f.cs, some C⟩ :: fa) φ σ s) (hf : f.C = none) : R c (f :: fa) φ (clear σ) s ∧ C ∉ owns φ (f :: fa) ∧ (∀ o, ¬ c.kp C o) ∧ ∃ mm, s.heap.Ns C mm := by
  have perm : (owns φ (⟨f.L, f.cs, some C⟩ :: fa)).Perm (C :: owns φ (f :: fa)) := by
    unfold owns
    rw [List.flatMap_cons, List.flatMap_cons, own_snoc hf, show φ ++ (f.own ++ [C] ++ fa.flatMap FA.own) = (φ ++ f.own) ++ C :: fa.flatMap FA.own by simp]
    refine List.perm_middle.trans ?_
    rw [List.append_assoc]
  have nd := perm.nodup_iff.mp r.nod
  rw [List.nodup_cons] at nd
  refine ⟨⟨r.obj, r.frz, r.len, nd.2, fun b m => r.lt b (perm.mem_iff.mpr (List.mem_cons_of_mem _ m)), fun b m => r.new b (perm.mem_iff.mpr (List.mem_cons_of_mem _ m)), r.keep, ?_, r.gens, r.dr, r.os⟩, nd.1,
    r.new C (perm.mem_iff.mpr List.mem_cons_self), ?_⟩
  · cases r.fr with
    | cons h rest => exact .cons (h.noC hf) rest
  · obtain ⟨mm, hm, _⟩ := r.hd.co C rfl
    exact ⟨mm, hm⟩
/-- an object that is nobody's turns -/
theorem R.away (r : R c fa φ σ s) {C : Addr} (hC : C ∉ owns φ fa) (hk : ∀ o, ¬ c.kp C o) (hnt : ∀ vs, ¬ s.heap.IsTuple C vs) {h' : Heap} (hs : Heap.SameBut C s.heap h') : R c fa φ σ { s with heap := h' } := by
  have k := hs.extBut
  refine ⟨fun j x e => ?_, r.frz, r.len, r.nod, fun a m => by rw [show ({ s with heap := h' } : Shared).heap.objs.size = s.heap.objs.size from hs.1]; exact r.lt a m, r.new, fun b' x q => k _ _ ?_ (r.keep b' x q), ?_, r.gens, r.dr, r.os⟩
  · obtain ⟨a, ha, q⟩ := r.obj j x e
    exact ⟨a, ha, q.ext k (fun e' => hC (e' ▸ mem_owns_φ (get_mem ha))) hnt fun d es n e' hd' => hC (mem_owns_φ (get_mem hd'))⟩
  · intro e; subst e; exact hk x q
  · exact r.fr.imp2 fun g m hg q => q.ext k fun hb' => hC (own_owns hg hb')
theorem R.leaveC {C : Addr} (r : R c (⟨f.L, f.cs, some C⟩ :: fa) φ σ s) (hf : f.C = none) {h' : Heap} (hs : Heap.SameBut C s.heap h') : R c (f :: fa) φ (clear σ) { s with heap := h' } := by
  obtain ⟨r1, h1, h2, mm, h3⟩ := r.dropC hf
  exact r1.away h1 h2 (ns_noTup h3) hs
end
end Mine
set_option maxRecDepth 100000
namespace Mine
noncomputable section
open PySem PySem.W PySem.W.X PyProof.Rows
variable {c : Cx} {k : FC} {f : FA} {fa : List FA} {φ : List Addr} {σ σ' τ : AS} {s s' : Shared} {A : Around} {o : Scope} {b : Bool} {env : Env} {m n : Nat} {I : IP} {e : FE} {v : AV}

def cEnv (i : Scope) (C : Addr) (env : Env) : Env := { scope := relabel i env, locals := C, globals := env.globals, cells := clos env i.names [], qual := env.qual, func := none, code := env.code, frame := env.frame, builtins := env.builtins }
theorem comp_env (E : EnvOk o f false env) {i : Scope} (w : OkC o i) {C : Addr} : EnvOk (relS o i) ⟨f.L, f.cs, some C⟩ true (cEnv i C env) := by
  have hs := E.sc
  have lk : ∀ x, isCel (relS o i) x = true → (nm x, NameKind.free) ∈ i.names ∧ isCel o x = true := fun x hx => by
    obtain ⟨hxn, hk⟩ := isCel_spec hx
    have hm := relS_lookup w.nocell hk
    obtain ⟨y, hy, e, hc⟩ := w.free _ hm rfl
    obtain rfl := nm_inj y x hy hxn e
    exact ⟨hm, hc⟩
  refine ⟨?_, w.kind, (fun h => by cases h), fun _ => rfl, fun x a ha hx => ?_, fun x hx => ?_, E.glo, E.bui⟩
  · show relabel i env = relS o i
    rw [relS_eq, hs]
  · obtain ⟨hm, hc⟩ := lk x hx
    show (clos env i.names []).lookup (nm x) = some a
    rw [clos_lookup env hm, E.cells x a ha hc]; rfl
  · obtain ⟨hm, hc⟩ := lk x hx
    show ((clos env i.names []).lookup (nm x)).isSome = true
    rw [clos_lookup env hm]; rfl
theorem tr_noset {e : FE} (w : wfE m o e = true) (env : Env) (x : Value) : foldedSetIterable (trE m e) env x = pure x := by
  cases m with
  | zero => cases w
  | succ m => cases e <;> first | rfl | (cases w; done)
def trG (m : Nat) (g : Nat × Pos × FE × List FE) : Comprehension := ⟨.Name (nm g.1) g.2.1, trE m g.2.2.1, g.2.2.2.map (trE m), 0⟩
/-- a comprehension, to the point where its list stands -/
theorem comp_run (H : Hy c k n I m o f false env A) {elt : FE} {g : Nat × Pos × FE × List FE} {gs : GL} {sc : Nat} {pos pos' : Pos} {use : Option (Value → Sem Unit)} {v : AV} {σ1 σ2 σ4 : AS} {j : Nat} (hok : okC o (scp sc) = true)
    (w1 : wfE m o g.2.2.1 = true) (w2 : (gs.all fun g => wfE m (relS o (scp sc)) g.2.2.1) = true) (w3 : ((g :: gs).all fun g => isLoc (relS o (scp sc)) g.1 && g.2.2.2.all (wfE m (relS o (scp sc)))) = true) (w4 : wfE m (relS o (scp sc)) elt = true)
    (h1 : I.ev g.2.2.1 false σ = some (v, σ1)) (h2 : Mine.pyIter v σ1 = some (j, σ2)) (h3 : I.cl elt (g :: gs) j σ2.m (clear (σ2.new (.list []))) = some σ4)
    {Q : Value → Shared → Prop} {E} (r : R c (f :: fa) φ σ s)
    (q : ∀ φ' s' d C, φ <+: φ' → R c (⟨f.L, f.cs, some C⟩ :: fa) φ' σ4 s' → φ'[σ2.m]? = some d → compPost (model pw c.w) A E use Q (.ref d) C (.ok .next) s') :
    wpAny (model pw c.w) A (comprehension (.ListComp (trE m elt) ((g :: gs).map (trG m)) (scp sc) pos) (scp sc) env pos' (newList []) false (eval (trE m g.2.2.1) env) use) Q E s := by
  have w := okC_spec hok
  have hf := H.hC rfl
  refine wpAny_comprehension_free (g := trG m g) (gs := gs.map (trG m)) rfl (fun x => tr_noset w1 env x) (closureFor_eq fun x hx e => ?_) w.kind (fun x hx e => w.loc x hx e) ?_
  · obtain ⟨y, _, hy, hc⟩ := w.free x hx e
    rw [← hy]; exact H.E.full y hc
  refine H.ev w1 h1 _ E s r fun φ1 s1 u1 p1 r1 hu => ok_pyIter H.B h2 hu _ E s1 r1 fun φ2 s2 x2 p2 r2 hx => ?_
  obtain ⟨a, ha, rfl⟩ := hx
  refine wpAny_newObj_type ?_ (by size_fits)
  have r3 := r2.alloc (grows_push s2 { cls := .type "list", data := .seq #[] }) (Nat.le_refl _) (push_lt _ _) (o := .list []) ⟨by simp, #[], 0, Heap.get?_push_size _ rfl, .nil⟩ (nokit fun _ _ _ => ⟨(fun e => by cases e), fun e => by cases e⟩)
  have hd := r2.snoc s2.heap.objs.size
  show wpAny _ _ _ _ _ ({ s2 with heap := s2.heap.push { cls := .type "list", data := .seq #[] } } : Shared)
  generalize hs3 : ({ s2 with heap := s2.heap.push { cls := .type "list", data := .seq #[] } } : Shared) = s3 at r3 ⊢
  refine wpAny_newFunctionEnv w.nocell (fun x hx => by cases hx) (fun h' hn hs => ?_) w.kind
  have hsz : h'.objs.size = s3.heap.objs.size + 1 := hs.1.trans (Heap.size_push _ _)
  have hgrow : Grows s3 { s3 with heap := h' } := by
    refine ⟨fun b o hb => ?_, ?_, rfl, rfl, rfl⟩
    · rw [show ({ s3 with heap := h' } : Shared).heap.get? b = _ from hs.2 b (Nat.ne_of_lt (Heap.lt_size hb))]
      exact Heap.get?_push_of_some _ hb
    · show s3.heap.objs.size ≤ h'.objs.size
      rw [hsz]; exact Nat.le_succ _
  have r4 := r3.grow hgrow
  have hC : NewIn c (f :: fa) (φ2 ++ [s2.heap.objs.size]) h' s3.heap.objs.size := ⟨fun m => absurd (r3.lt _ m) (Nat.lt_irrefl _), (by rw [hsz]; exact Nat.lt_succ_self _), fun o q => absurd (Heap.lt_size (r3.keep _ o q)) (Nat.lt_irrefl _)⟩
  have r5 := r4.enterC hf hC hn
  have E5 := comp_env (C := s3.heap.objs.size) H.E w
  have fin := (H.S.cl (A := A) (pos := pos) (sc := scp sc) (depth := 0) (whole := g :: gs) (Rr := compPost (model pw c.w) A E use Q (.ref s2.heap.objs.size) s3.heap.objs.size) H.A1 E5 rfl w4 w3 w2 h3 (pre_get (List.prefix_append _ _) ha) hd r5
    fun φ' s' p' r' => q φ' s' s2.heap.objs.size s3.heap.objs.size (((p1.trans p2).trans (List.prefix_append _ _)).trans p') r' (pre_get p' hd)).1
  exact fin
theorem ev_comp (H : Hy c k n I m o f b env A) {elt : FE} {gens : GL} {sc : Nat} {p : Pos} (w : (okC o (scp sc) && (gens.length != 0) && (match gens with | [] => false | g :: r => wfE m o g.2.2.1 && r.all (fun g => wfE m (relS o (scp sc)) g.2.2.1)) &&
        gens.all (fun g => isLoc (relS o (scp sc)) g.1 && g.2.2.2.all (wfE m (relS o (scp sc)))) && wfE m (relS o (scp sc)) elt) = true) (h : eComp elt gens I b σ = some (v, σ')) : OkV c (f :: fa) A (eval (.ListComp (trE m elt) (gens.map (trG m)) (scp sc) p) env) φ σ σ' v := by
  simp only [Bool.and_eq_true] at w
  obtain ⟨⟨⟨⟨w0, _⟩, w1⟩, w3⟩, w4⟩ := w
  obtain ⟨it, hi, h⟩ := ob_eq h
  obtain ⟨hb, h⟩ := br_none' h
  subst hb
  obtain ⟨u, σ1, h1, hx⟩ := bnd_eq h
  obtain ⟨j, σ2, h2, hx2⟩ := bnd_eq hx
  obtain ⟨acc, σ3, h3, hx3⟩ := bnd_eq hx2
  obtain ⟨rfl, rfl⟩ := newIt_eq h3
  obtain ⟨σ4, h4, hx4⟩ := ob_eq hx3
  obtain ⟨rfl, rfl⟩ := ret_eq hx4
  cases gens with
  | nil => cases w1
  | cons g gs =>
    cases hi
    rw [Bool.and_eq_true] at w1
    intro Q E s r q
    rw [eval_ListComp]
    refine comp_run H w0 w1.1 w1.2 (by rw [List.all_eq_true]; exact fun x hx => by rw [Bool.and_eq_true]; exact (by simpa using List.all_eq_true.mp w3 x hx)) w4 h1 h2 h4 r fun φ' s' d C p' r' hd => ?_
    obtain ⟨mm, hm, _⟩ := r'.hd.co C rfl
    exact ⟨mm, hm, fun h' hs => q φ' _ (.ref d) p' (r'.leaveC (H.hC rfl) hs) ⟨d, hd, rfl⟩⟩
theorem EnvOk.withC (E : EnvOk o f false env) (C : Addr) : EnvOk o ⟨f.L, f.cs, some C⟩ false env := ⟨E.sc, E.kind, E.lo, (fun h => by cases h), E.cells, E.full, E.glo, E.bui⟩
theorem evu_comp (H : Hy c k n I m o f false env A) {elt : FE} {gens : GL} {sc x : Nat} {p xp : Pos} (w : (okC o (scp sc) && (gens.length != 0) && (match gens with | [] => false | g :: r => wfE m o g.2.2.1 && r.all (fun g => wfE m (relS o (scp sc)) g.2.2.1)) &&
        gens.all (fun g => isLoc (relS o (scp sc)) g.1 && g.2.2.2.all (wfE m (relS o (scp sc)))) && wfE m (relS o (scp sc)) elt) = true) (wx : isLoc o x = true) {σ'' : AS} (h : eComp elt gens I false σ = some (v, σ')) (hx : setL x v σ' = some σ'') :
    Ok c (f :: fa) A (evalThenUse (.ListComp (trE m elt) (gens.map (trG m)) (scp sc) p) env (assign (.Name (nm x) xp) env)) φ σ σ'' fun _ _ => True := by
  simp only [Bool.and_eq_true] at w
  obtain ⟨⟨⟨⟨w0, _⟩, w1⟩, w3⟩, w4⟩ := w
  obtain ⟨it, hi, h⟩ := ob_eq h
  obtain ⟨hb, h⟩ := br_none' h
  obtain ⟨u, σ1, h1, hy⟩ := bnd_eq h
  obtain ⟨j, σ2, h2, hx2⟩ := bnd_eq hy
  obtain ⟨acc, σ3, h3, hx3⟩ := bnd_eq hx2
  obtain ⟨rfl, rfl⟩ := newIt_eq h3
  obtain ⟨σ4, h4, hx4⟩ := ob_eq hx3
  obtain ⟨rfl, rfl⟩ := ret_eq hx4
  cases hx
  cases gens with
  | nil => cases w1
  | cons g gs =>
    cases hi
    rw [Bool.and_eq_true] at w1
    intro Q E s r q
    rw [arm_evalThenUse_ListComp]
    refine wpAny_bind (comp_run H w0 w1.1 w1.2 (by rw [List.all_eq_true]; exact fun x hx => by rw [Bool.and_eq_true]; exact (by simpa using List.all_eq_true.mp w3 x hx)) w4 h1 h2 h4 (Q := fun _ s' => wpAny (model pw c.w) A (pure ()) Q E s') r fun φ' s' d C p' r' hd => ?_)
    have hv : VR c φ' (.ref σ2.m) (.ref d) := ⟨d, hd, rfl⟩
    refine PySem.wpAny_assign_Name (ok_setL (H.E.withC C) wx hv (σ := σ4) rfl _ E s' r' fun φ2 s2 _ p2 r2 _ => ?_)
    obtain ⟨mm, hm, _⟩ := r2.hd.co C rfl
    exact ⟨mm, hm, fun h' hs => wpAny_pure (q φ2 _ () (p'.trans p2) (r2.leaveC (H.hC rfl) hs) trivial)⟩
end
end Mine
set_option maxRecDepth 100000
namespace Mine
noncomputable section
open PySem PySem.W PySem.W.X PyProof.Rows
variable {c : Cx} {k : FC} {f : FA} {fa : List FA} {φ : List Addr} {σ σ' τ : AS} {s s' : Shared} {A : Around} {o : Scope} {b : Bool} {env : Env} {m n : Nat} {I : IP} {e : FE} {v : AV}

theorem ifs_ok (H : Hy c k n I m o f b env A) : ∀ {l : List FE} {φ : List Addr} {σ σ' : AS} {t : Bool}, l.all (wfE m o) = true → ttAll I b true l σ = some (t, σ') →
    Ok c (f :: fa) A (forIn (l.map (trE m)) true fun c r => if r = true then do let ok ← PySem.isTrue c env (eval c env); pure (ForInStep.yield ok) else pure (ForInStep.yield r)) φ σ σ' fun _ x => x = t
  | [], φ, σ, σ', t, _, h => by
    obtain ⟨rfl, rfl⟩ := ret_eq h
    intro Q E s r q
    rw [List.map_nil, List.forIn_nil]
    exact wpAny_pure (q φ s true (List.prefix_refl _) r rfl)
  | e :: r, φ, σ, σ', t, w, h => by
    rw [List.all_cons, Bool.and_eq_true] at w
    obtain ⟨x, σ1, h1, h2⟩ := bnd_eq h
    intro Q E s r' q
    rw [List.map_cons, List.forIn_cons, if_pos rfl]
    refine wpAny_bind (wpAny_bind (H.tt (fa := fa) (φ := φ) w.1 h1 _ E s r' fun φ1 s1 t1 p1 r1 ht => wpAny_pure ?_))
    subst ht
    cases t1 with
    | true => exact ifs_ok H w.2 h2 Q E s1 r1 fun φ3 s3 u3 p3 r3 hu3 => q φ3 s3 u3 (p1.trans p3) r3 hu3
    | false =>
      obtain ⟨rfl, rfl⟩ := ret_eq h2
      have skip : ∀ (l : List PySem.Expr), Q false s1 → wpAny (model pw c.w) A (forIn l false fun c r => if r = true then do let ok ← PySem.isTrue c env (eval c env); pure (ForInStep.yield ok) else pure (ForInStep.yield r)) Q E s1 := by
        intro l
        induction l with
        | nil => intro hq; rw [List.forIn_nil]; exact wpAny_pure hq
        | cons y l ih => intro hq; rw [List.forIn_cons, if_neg (by decide)]; exact wpAny_bind (wpAny_pure (ih hq))
      exact skip _ (q φ1 s1 false p1 r1 rfl)
theorem runOwn_ok {c' : Code} {Q : Flow → Shared → Prop} {E : Value → Shared → Prop} (hc : codeAny (model pw c.w) A c' (fun r s' => match r with | .ok f => Q f s' | .error e => cameBackBy (model pw c.w) A env E e s') s) : wpAny (model pw c.w) A (runOwn c' env) Q E s := by
  refine wpAny_runOwn ?_
  exact hc
theorem cl_step (B : Base c k) (S : SndI c n I) (hA : AOk (n + 1) A) (E0 : EnvOk o f true env) {elt : FE} {gens whole : GL} {depth j acc : Nat} {pos : Pos} {sc : Scope} (hw : whole.drop depth = gens) (w4 : wfE m o elt = true) (w3 : (whole.all fun g => isLoc o g.1 && g.2.2.2.all (wfE m o)) = true)
    (w2 : ((whole.drop 1).all fun g => wfE m o g.2.2.1) = true) (h : clS I elt gens j acc σ = some σ') {Rr : Result → Shared → Prop} : ∀ {φ : List Addr} {s : Shared} {a d : Addr}, φ[j]? = some a → φ[acc]? = some d → R c (f :: fa) φ σ s →
    (∀ φ' s', φ <+: φ' → R c (f :: fa) φ' σ' s' → Rr (.ok .next) s') →
    codeAny (model pw c.w) A (.compLoop (.ListComp (trE m elt) (whole.map (trG m)) sc pos) depth (.ref a) (.ref d) env) Rr s := by
  intro φ s a d ha hd r q
  have H : Hy c k n I m o f true env A := ⟨B, S, hA, E0, fun h => by cases h⟩
  cases gens with
  | nil => cases h
  | cons g gs =>
    obtain ⟨⟨x, σ1⟩, h1, h2⟩ := ob_eq h
    have hdepth : whole[depth]? = some g := by
      have : (whole.drop depth)[0]? = some g := by rw [hw]; rfl
      simpa using this
    have hnext : whole.drop (depth + 1) = gs := by
      have : (whole.drop depth).drop 1 = gs := by rw [hw]; rfl
      rw [List.drop_drop] at this; exact this
    have hgm : (whole.map (trG m))[depth]? = some ⟨.Name (nm g.1) g.2.1, trE m g.2.2.1, g.2.2.2.map (trE m), 0⟩ := by rw [List.getElem?_map, hdepth]; rfl
    have wg := List.all_eq_true.mp w3 g (List.mem_of_getElem? hdepth)
    rw [Bool.and_eq_true] at wg
    refine codeAny_of_tree ?_
    show wpAny _ A ((compTurn (.ListComp (trE m elt) (whole.map (trG m)) sc pos) depth (.ref a) (.ref d) env).onRaise (fun x => do noteFrame x env; theTreesLotGoes x)) _ _ s
    refine wpAny_noted ?_
    unfold compTurn
    dsimp only
    rw [hgm]
    dsimp only
    rw [if_neg (by decide), if_neg (by decide)]
    refine wpAny_bind (wpAny_standAt (wpAny_bind (ok_next hA.hh h1 ha _ _ s r fun φ1 s1 y p1 r1 hy => ?_)))
    cases x with
    | none =>
      obtain rfl := hy
      cases h2
      exact wpAny_pure (q φ1 s1 p1 r1)
    | some v =>
      obtain ⟨u, rfl, hu⟩ := hy
      replace h2 : (ob (ttAll I true true g.2.2.2 (setK g.1 v σ1)) fun q => br q.1 (ob (clIn I elt acc gs q.2) fun σ => I.cl elt (g :: gs) j acc σ) (I.cl elt (g :: gs) j acc q.2)) = some σ' := h2
      obtain ⟨⟨t, σ2⟩, h3, h4⟩ := ob_eq h2
      refine wpAny_bind (wpAny_pure (wpAny_bind (PySem.wpAny_assign_Name (ok_setK E0 wg.1 hu _ _ s1 r1 fun φ2 s2 _ p2 r2 _ => ?_))))
      refine wpAny_bind (ifs_ok H wg.2 h3 _ _ s2 r2 fun φ3 s3 t3 p3 r3 ht => ?_)
      subst ht
      have P3 := (p1.trans p2).trans p3
      -- once more
      have on : ∀ {φ4 : List Addr} {σ4 : AS} {s4 : Shared}, I.cl elt (g :: gs) j acc σ4 = some σ' → φ <+: φ4 → R c (f :: fa) φ4 σ4 s4 → codeAny (model pw c.w) A (.compLoop (.ListComp (trE m elt) (whole.map (trG m)) sc pos) depth (.ref a) (.ref d) env) Rr s4 :=
        fun hcl p4 r4 => (S.cl (pos := pos) (sc := sc) H.A1 E0 hw w4 w3 w2 hcl (pre_get p4 ha) (pre_get p4 hd) r4 fun φ' s' p' r' => q φ' s' (p4.trans p') r').2
      cases t3 with
      | false =>
        rw [if_neg (by decide)]
        exact wpAny_pure ⟨rfl, on h4 P3 r3⟩
      | true =>
        obtain ⟨σ4, h5, h6⟩ := ob_eq (show ob (clIn I elt acc gs σ2) (fun σ => I.cl elt (g :: gs) j acc σ) = some σ' from h4)
        rw [if_pos rfl]
        cases gs with
        | nil =>
          have hn : (whole.map (trG m))[depth + 1]? = none := by
            rw [List.getElem?_map]
            have : (whole.drop (depth + 1))[0]? = none := by rw [hnext]; rfl
            simp only [List.getElem?_drop, Nat.add_zero] at this
            rw [this]; rfl
          rw [hn]
          obtain ⟨⟨x, σ5⟩, h7, h8⟩ := ob_eq (show clEmit I elt acc σ2 = some σ4 from h5)
          obtain ⟨vs, h9, h10⟩ := ob_eq h8
          obtain ⟨h11, h12⟩ := br_none h10
          cases h12
          refine wpAny_bind (wpAny_bind (H.ev w4 h7 _ _ s3 r3 fun φ4 s4 u4 p4 r4 hu4 => ?_))
          have hap : mAppend acc vs [x] σ5 = some (.none, σ5.set acc (.list (vs ++ [x]))) := by unfold mAppend; rw [h11]; rfl
          obtain ⟨o1, g1, e1⟩ := ob_eq h9
          cases o1 <;> try cases e1
          refine wpAny_bind (ok_append (fa := f :: fa) g1 hap (pre_get (P3.trans p4) hd) (.cons hu4 .nil) _ _ s4 r4 fun φ5 s5 u5 p5 r5 _ => wpAny_pure ?_)
          exact wpAny_pure ⟨rfl, on h6 ((P3.trans p4).trans p5) r5⟩
        | cons g' gs' =>
          have hd1 : whole[depth + 1]? = some g' := by
            have : (whole.drop (depth + 1))[0]? = some g' := by rw [hnext]; rfl
            simpa using this
          have hn : (whole.map (trG m))[depth + 1]? = some (trG m g') := by rw [List.getElem?_map, hd1]; rfl
          have wit : wfE m o g'.2.2.1 = true := by
            refine List.all_eq_true.mp w2 g' ?_
            have : (whole.drop 1)[depth]? = some g' := by rw [List.getElem?_drop, show 1 + depth = depth + 1 by omega]; exact hd1
            exact List.mem_of_getElem? this
          rw [hn]
          obtain ⟨⟨x, σ5⟩, h7, h8⟩ := ob_eq (show clDeep I elt acc (g' :: gs') g'.2.2.1 σ2 = some σ4 from h5)
          obtain ⟨⟨j', σ6⟩, h9, h10⟩ := ob_eq h8
          dsimp only [trG]
          refine wpAny_bind (H.ev wit h7 _ _ s3 r3 fun φ4 s4 u4 p4 r4 hu4 => wpAny_bind (wpAny_standAt ?_))
          rw [if_neg (by decide)]
          refine wpAny_bind (wpAny_of_eq (tr_noset wit env u4) ?_)
          rw [if_neg (by decide)]
          refine wpAny_bind (wpAny_holding (ok_pyIter B h9 hu4 _ _ s4 r4 fun φ5 s5 x5 p5 r5 hx5 => ?_))
          obtain ⟨a5, ha5, rfl⟩ := hx5
          refine wpAny_bind (runOwn_ok ?_)
          have P5 := (P3.trans p4).trans p5
          refine (S.cl (pos := pos) (sc := sc) (depth := depth + 1) (whole := whole) H.A1 E0 hnext w4 w3 w2 h10 ha5 (pre_get P5 hd) r5 fun φ6 s6 p6 r6 => ?_).1
          exact wpAny_pure ⟨rfl, on h6 (P5.trans p6) r6⟩
theorem cl_both (B : Base c k) (S : SndI c n I) (hA : AOk (n + 1) A) (E0 : EnvOk o f true env) {elt : FE} {gens whole : GL} {depth j acc : Nat} {pos : Pos} {sc : Scope} (hw : whole.drop depth = gens) (w4 : wfE m o elt = true) (w3 : (whole.all fun g => isLoc o g.1 && g.2.2.2.all (wfE m o)) = true)
    (w2 : ((whole.drop 1).all fun g => wfE m o g.2.2.1) = true) (h : clS I elt gens j acc σ = some σ') {Rr : Result → Shared → Prop} {a d : Addr} (ha : φ[j]? = some a) (hd : φ[acc]? = some d) (r : R c (f :: fa) φ σ s)
    (q : ∀ φ' s', φ <+: φ' → R c (f :: fa) φ' σ' s' → Rr (.ok .next) s') :
    codeAny (model pw c.w) A (.compStart (.ListComp (trE m elt) (whole.map (trG m)) sc pos) depth (.ref a) (.ref d) env) Rr s ∧
    codeAny (model pw c.w) A (.compLoop (.ListComp (trE m elt) (whole.map (trG m)) sc pos) depth (.ref a) (.ref d) env) Rr s := by
  have L := fun {φ : List Addr} {s : Shared} {a d : Addr} => cl_step (φ := φ) (s := s) (a := a) (d := d) (fa := fa) (pos := pos) (sc := sc) (Rr := Rr) B S hA E0 hw w4 w3 w2 h
  refine ⟨?_, L ha hd r q⟩
  cases gens with
  | nil => cases h
  | cons g gs =>
    obtain ⟨⟨x, σ1⟩, h1, h2⟩ := ob_eq h
    have hdepth : whole[depth]? = some g := by
      have : (whole.drop depth)[0]? = some g := by rw [hw]; rfl
      simpa using this
    have hgm : (whole.map (trG m))[depth]? = some ⟨.Name (nm g.1) g.2.1, trE m g.2.2.1, g.2.2.2.map (trE m), 0⟩ := by rw [List.getElem?_map, hdepth]; rfl
    refine codeAny_of_tree ?_
    show wpAny _ A ((compStart (.ListComp (trE m elt) (whole.map (trG m)) sc pos) depth (.ref a) (.ref d) env).onRaise (fun x => do noteFrame x env; standAt theWindowsPlace)) _ _ s
    refine wpAny_notedAt ?_
    unfold compStart
    rw [show clausesOf (.ListComp (trE m elt) (whole.map (trG m)) sc pos) = whole.map (trG m) from rfl, hgm]
    dsimp only [Option.elim]
    show wpAny _ A (ask >>= _) _ _ s
    refine wpAny_bind (wpAny_askSetting (wpAny_ite ?_))
    split
    · exact wpAny_bind (wpAny_pure (wpAny_pure ⟨rfl, L ha hd r q⟩))
    · refine wpAny_bind (wpAny_rule (wpAny_bind (wpAny_standAt (wpAny_bind (iter_self h1 ha _ _ s r fun φ1 s1 y p1 r1 hy => ?_)))))
      subst hy
      exact wpAny_pure ⟨rfl, L (pre_get p1 ha) (pre_get p1 hd) r1 fun φ' s' p' r' => q φ' s' (p1.trans p') r'⟩
end
end Mine
set_option maxRecDepth 100000
namespace Mine
noncomputable section
open PySem PySem.W PySem.W.X PyProof.Rows
variable {c : Cx} {k : FC} {f : FA} {fa : List FA} {φ : List Addr} {σ σ' τ : AS} {s s' : Shared} {A : Around} {o : Scope} {b : Bool} {env : Env} {m n : Nat} {I : IP} {e : FE} {v : AV}

theorem ev_all (B : Base c k) (S : SndI c n I) (hA : AOk (n + 1) A) (E0 : EnvOk o f b env) (hC : b = false → f.C = none) (w : wfE m o e = true) (h : evS k e I b σ = some (v, σ')) : OkV c (f :: fa) A (eval (trE m e) env) φ σ σ' v := by
  cases m with
  | zero => cases w
  | succ m =>
    have H : Hy c k n I m o f b env A := ⟨B, S, hA, E0, hC⟩
    cases e with
    | cNone kk p => exact ev_const (I := I) (b := b) h fun Q E s φ' q => wpAny_Constant_none (q _ s.toks rfl)
    | cBool bb kk p => exact ev_const (I := I) (b := b) h fun Q E s φ' q => wpAny_Constant_bool (q _ s.toks rfl)
    | cInt i kk p => exact ev_const (I := I) (b := b) h fun Q E s φ' q => wpAny_Constant_int (q _ _ ⟨_, rfl⟩)
    | cStr x kk p => exact ev_const (I := I) (b := b) h fun Q E s φ' q => wpAny_Constant_str (q _ _ ⟨_, rfl⟩)
    | loc x p =>
      have w := Bool.and_eq_true_iff.mp (show (isLoc o x && notDbg x) = true from w)
      obtain ⟨u, h1, h2⟩ := ob_eq (show ob (getN b x σ) (fun v => ret v σ) = some (v, σ') from h)
      obtain ⟨rfl, rfl⟩ := ret_eq h2
      exact ok_loc E0 w.1 w.2 h1
    | cel x p =>
      have w := Bool.and_eq_true_iff.mp (show (isCel o x && notDbg x) = true from w)
      obtain ⟨u, h1, h2⟩ := ob_eq (show ob (lk σ.f.ce x) (fun v => ob v fun v => ret v σ) = some (v, σ') from h)
      obtain ⟨u', h3, h4⟩ := ob_eq h2
      obtain ⟨rfl, rfl⟩ := ret_eq h4
      exact ok_cel E0 w.1 w.2 (by rw [h1, h3])
    | glo x p =>
      obtain ⟨u, h1, h2⟩ := ob_eq (show ob (lk gloT x) (fun a => ret (.st a) σ) = some (v, σ') from h)
      obtain ⟨rfl, rfl⟩ := ret_eq h2
      exact ok_glo B E0 (show isGlo o x = true from w) h1
    | bui x p =>
      obtain ⟨u, h1, h2⟩ := ob_eq (show ob (lk buiT x) (fun a => ret a σ) = some (v, σ') from h)
      obtain ⟨rfl, rfl⟩ := ret_eq h2
      exact ok_bui B E0 (show isGlo o x = true from w) h1
    | attr a x p => exact ev_attr H w h
    | call g args p => exact ev_call H w h
    | meth a x ap args p => exact ev_meth H w h
    | methS a x ap g sp p => exact ev_methS H w h
    | cmp l op r p => exact ev_cmp H w h
    | bop a vs p =>
      show OkV c (f :: fa) A (boolOp p (bopK a) (evalEach (vs.map (trE m)) env)) φ σ σ' v
      rw [evalEach_map]
      exact ev_bop H w h
    | not x p => exact ev_not H w h
    | neg x p => exact ev_neg H w h
    | bin l op r p => exact ev_bin H w h
    | sub a i p => exact ev_sub H w h
    | slc a lo sp p => exact ev_slc H w h
    | list xs p => exact ev_list H w h
    | tup xs kk p => exact ev_tup H w h
    | dict0 p => exact ev_dict0 (I := I) (b := b) h
    | comp elt gens sc p => exact ev_comp H w h
    | ite t x y p => exact ev_ite H w h
    | opq e => cases w
theorem tt_val (H : Hy c k n I m o f b env A) {e : FE} (w : wfE (m + 1) o e = true) {t : Bool} (h : tVal e I b σ = some (t, σ')) (he : ∀ whole, PySem.isTrue (trE (m + 1) e) env whole = (do let v ← whole; standAt (trE (m + 1) e).pos; holding [v] (PySem.truthy v))) :
    Ok c (f :: fa) A (PySem.isTrue (trE (m + 1) e) env (eval (trE (m + 1) e) env)) φ σ σ' fun _ x => x = t := by
  obtain ⟨x, σ1, h1, h2⟩ := bnd_eq h
  obtain ⟨t', h3, h4⟩ := ob_eq h2
  obtain ⟨rfl, rfl⟩ := ret_eq h4
  intro Q E s r q
  refine wpAny_isTrue_value (H.S.ev H.A1 H.E H.hC w h1 _ E s r fun φ1 s1 u1 p1 r1 hu => ok_truthy H.B h3 hu _ E s1 r1 fun φ2 s2 t2 p2 r2 ht => ?_) (he _)
  exact q φ2 s2 t2 (p1.trans p2) r2 ht
theorem tt_allE (B : Base c k) (S : SndI c n I) (hA : AOk (n + 1) A) (E0 : EnvOk o f b env) (hC : b = false → f.C = none) (w : wfE m o e = true) {t : Bool} (h : ttS k e I b σ = some (t, σ')) :
    Ok c (f :: fa) A (PySem.isTrue (trE m e) env (eval (trE m e) env)) φ σ σ' fun _ x => x = t := by
  cases m with
  | zero => cases w
  | succ m =>
    have H : Hy c k n I m o f b env A := ⟨B, S, hA, E0, hC⟩
    cases e with
    | bop a vs p =>
      intro Q E s r q
      exact wpAny_isTrue_BoolOp (tt_all H (a := a) (show vs.all (wfE m o) = true from w) h Q E s r q)
    | not x p =>
      obtain ⟨y, σ1, h1, h2⟩ := bnd_eq (show bnd (I.tt x b σ) (fun b σ => ret (!b) σ) = some (t, σ') from h)
      obtain ⟨rfl, rfl⟩ := ret_eq h2
      intro Q E s r q
      refine wpAny_isTrue_Not (H.tt (show wfE m o x = true from w) h1 _ E s r fun φ1 s1 t1 p1 r1 ht => ?_)
      exact q φ1 s1 _ p1 r1 (by rw [ht])
    | cmp l op r' p =>
      have w := Bool.and_eq_true_iff.mp (show (wfE m o l && wfE m o r') = true from w)
      obtain ⟨x, σ1, h1, h2⟩ := bnd_eq (show bnd (I.ev l b σ) (fun a σ => bnd (I.ev r' b σ) fun b σ => ob (cmpOp k op a b σ) fun x => ret x σ) = some (t, σ') from h)
      obtain ⟨y, σ2, h3, h4⟩ := bnd_eq h2
      obtain ⟨t', h5, h6⟩ := ob_eq h4
      obtain ⟨rfl, rfl⟩ := ret_eq h6
      intro Q E s r q
      refine PySem.wpAny_isTrue_Compare1 (H.ev w.1 h1 _ E s r fun φ1 s1 u1 p1 r1 hu => H.ev w.2 h3 _ E s1 r1 fun φ2 s2 u2 p2 r2 hu2 => ?_) (by
        have w2 := w.2
        cases m with
        | zero => cases w2
        | succ m => cases r' <;> first | rfl | (cases w2; done))
      refine ok_cmp B (by have := hA.units; omega) h5 (hu.mono p2) hu2 _ E s2 r2 fun φ3 s3 u3 p3 r3 hu3 => ?_
      obtain rfl := hu3
      exact wpAny_truthy_bool (q φ3 s3 _ ((p1.trans p2).trans p3) r3 rfl)
    | ite _ _ _ _ => cases h
    | opq _ => cases w
    | neg x p => exact tt_val H w h fun _ => rfl
    | _ => exact tt_val H w h fun _ => rfl
end
end Mine
set_option maxRecDepth 100000
namespace Mine
noncomputable section
open PySem PySem.W PySem.W.X PyProof.Rows
variable {c : Cx} {k : FC} {f : FA} {fa : List FA} {φ : List Addr} {σ σ' τ : AS} {s s' : Shared} {A : Around} {o : Scope} {b : Bool} {env : Env} {m n : Nat} {I : IP} {e : FE} {v : AV}

theorem ok_storeN (E0 : EnvOk o f false env) {x : Nat} {cl : Bool} (w : okN o x cl = true) {u : Value} (hv : VR c φ v u) (h : storeN x cl v σ = some σ') : Ok c (f :: fa) A (storeName env (nm x) u) φ σ σ' fun _ _ => True := by
  cases cl with
  | true =>
    have w := Bool.and_eq_true_iff.mp (show (isCel o x && (kd o x == some .cell)) = true from w)
    exact ok_setC E0 w.1 (eq_of_beq w.2) hv h
  | false => exact ok_setL E0 (show isLoc o x = true from w) hv h
theorem ok_storeAll (E0 : EnvOk o f false env) : ∀ {xs : List (Nat × Pos × Bool)} {vs : List AV} {us : List Value} {φ : List Addr} {σ σ' : AS}, (xs.all fun t => okN o t.1 t.2.2) = true → storeAll (tnames xs) vs σ = some σ' → All2 (VR c φ) vs us →
    Ok c (f :: fa) A (assignInOrder ((assignEach (xs.map nameT) env).map (·.2)) us) φ σ σ' fun _ _ => True
  | [], vs, us, φ, σ, σ', _, h, hv => by
    cases hv with
    | nil =>
      cases h
      intro Q E s r q
      exact wpAny_pure (q φ s () (List.prefix_refl _) r trivial)
    | cons _ _ => cases h
  | (x, p, cl) :: xs, vs, us, φ, σ, σ', w, h, hv => by
    rw [List.all_cons, Bool.and_eq_true] at w
    cases hv with
    | nil => cases h
    | @cons a u as us h1 h2 =>
      obtain ⟨σ1, h3, h4⟩ := ob_eq (show ob (storeN x cl a σ) (fun σ => storeAll (tnames xs) as σ) = some σ' from h)
      intro Q E s r q
      show wpAny _ _ (holding us (assign (.Name (nm x) p) env u) >>= fun _ => assignInOrder ((assignEach (xs.map nameT) env).map (·.2)) us) _ _ _
      refine wpAny_bind (wpAny_holding (PySem.wpAny_assign_Name (ok_storeN E0 w.1 h1 h3 _ E s r fun φ1 s1 _ p1 r1 _ => ?_)))
      exact ok_storeAll E0 w.2 h4 (vrs_mono p1 h2) Q E s1 r1 fun φ2 s2 u2 p2 r2 _ => q φ2 s2 u2 (p1.trans p2) r2 trivial
theorem tup_at (r : R c fa φ σ s) {i : Nat} {xs : List AV} (h : tupAt σ i = some xs) {a : Addr} (ha : φ[i]? = some a) : ∃ vs, s.heap.IsTuple a vs ∧ All2 (VR c φ) xs vs.toList ∧ vs.size = xs.length := by
  obtain ⟨o1, g1, e1⟩ := ob_eq h
  cases o1 <;> try cases e1
  obtain ⟨a', ha', hl, vs, n, e, hvs⟩ := r.obj _ _ g1
  rw [ha] at ha'; cases ha'
  exact ⟨vs, seq_tup e, hvs, size_eq hvs⟩
theorem ok_unpackItems (hh : A.handled = none) (r : R c fa φ σ s) {i : Nat} {xs : List AV} (h : tupAt σ i = some xs) {a : Addr} (ha : φ[i]? = some a) {Q : List Value → Shared → Prop} {E}
    (q : ∀ s' us, R c fa φ σ s' → All2 (VR c φ) xs us → Q us s') : wpAny (model pw c.w) A (unpackItems (.ref a) xs.length none) Q E s := by
  obtain ⟨vs, ht, hvs, hsz⟩ := tup_at r h ha
  rw [← hsz]
  refine wpAny_with_size (wpAny_unpackItems_tuple hh ht fun h' hx hs => q _ _ (r.grow (s' := { s with heap := h' }) ⟨fun b o hb => hx b o (Nat.ne_of_lt (Heap.lt_size hb)) hb, hs, rfl, rfl, rfl⟩) hvs)
theorem assignEach_len : ∀ (xs : List (Nat × Pos × Bool)), (assignEach (xs.map nameT) env).length = xs.length ∧ (assignEach (xs.map nameT) env).findIdx? (·.1) = none
  | [] => ⟨rfl, rfl⟩
  | x :: xs => by
    obtain ⟨h1, h2⟩ := assignEach_len xs
    have e : assignEach ((x :: xs).map nameT) env = (false, assign (nameT x) env) :: assignEach (xs.map nameT) env := rfl
    rw [e]
    refine ⟨by rw [List.length_cons, List.length_cons, h1], ?_⟩
    rw [List.findIdx?_cons, if_neg (by show ¬ false = true; decide), h2]; rfl
theorem storeAll_len : ∀ {xs : List (Nat × Bool)} {vs : List AV} {σ σ' : AS}, storeAll xs vs σ = some σ' → xs.length = vs.length
  | [], [], _, _, _ => rfl
  | [], _ :: _, _, _, h => by cases h
  | _ :: _, [], _, _, h => by cases h
  | (x, cl) :: xs, v :: vs, σ, σ', h => by
    obtain ⟨σ1, h3, h4⟩ := ob_eq (show ob (storeN x cl v σ) (fun σ => storeAll xs vs σ) = some σ' from h)
    rw [List.length_cons, List.length_cons, storeAll_len h4]
theorem tnames_len : ∀ xs : List (Nat × Pos × Bool), (tnames xs).length = xs.length
  | [] => rfl
  | x :: xs => by show ((x.1, x.2.2) :: tnames xs).length = _; rw [List.length_cons, List.length_cons, tnames_len xs]
/-- a tuple is taken apart -/
theorem ok_unpack (hh : A.handled = none) (E0 : EnvOk o f false env) {xs : List (Nat × Pos × Bool)} {k' : Nat} {p : Pos} (w : (xs.all fun t => okN o t.1 t.2.2) = true) {vs : List AV} (h1 : unpackV v σ = some vs) (h2 : storeAll (tnames xs) vs σ = some σ') {u : Value} (hv : VR c φ v u) :
    Ok c (f :: fa) A (assign (.Tuple (xs.map nameT) k' p) env u) φ σ σ' fun _ _ => True := by
  intro Q E s r q
  obtain ⟨i, hi, h3⟩ := ob_eq h1
  obtain rfl := isRef_eq hi
  obtain ⟨a, ha, rfl⟩ := hv
  obtain ⟨l1, l2⟩ := assignEach_len (env := env) xs
  have hl : (assignEach (xs.map nameT) env).length = vs.length := by rw [l1, ← tnames_len, storeAll_len h2]
  rw [arm_assign_Tuple]
  refine wpAny_bind (wpAny_standAt ?_)
  unfold unpack
  rw [hl, l2]
  exact wpAny_bind (wpAny_holding (ok_unpackItems hh r h3 ha fun s1 us r1 hus => ok_storeAll E0 w h2 hus Q E s1 r1 q))
theorem ok_target (hh : A.handled = none) (E0 : EnvOk o f false env) {target : PySem.Expr} {xs : List (Nat × Bool)} {tu : Bool} (ht : TgtR target xs tu) (w : tgtOk o xs = true) (h : storeT xs tu v σ = some σ') {u : Value} (hv : VR c φ v u) :
    Ok c (f :: fa) A (assign target env u) φ σ σ' fun _ _ => True := by
  cases ht with
  | name x p cl =>
    have w := Bool.and_eq_true_iff.mp (show (okN o x cl && tgtOk o []) = true from w)
    obtain ⟨σ1, h1, h2⟩ := ob_eq (show ob (storeN x cl v σ) (fun σ => storeAll [] [] σ) = some σ' from h)
    cases h2
    intro Q E s r q
    exact PySem.wpAny_assign_Name (ok_storeN E0 w.1 hv h1 Q E s r q)
  | tup xs k' p =>
    obtain ⟨vs, h1, h2⟩ := ob_eq (show ob (unpackV v σ) (fun vs => storeAll (tnames xs) vs σ) = some σ' from h)
    refine ok_unpack hh E0 ?_ h1 h2 hv
    have : ∀ xs : List (Nat × Pos × Bool), tgtOk o (tnames xs) = true → (xs.all fun t => okN o t.1 t.2.2) = true := by
      intro xs
      induction xs with
      | nil => intro _; rfl
      | cons x xs ih =>
        intro h
        have h := Bool.and_eq_true_iff.mp (show (okN o x.1 x.2.2 && tgtOk o (tnames xs)) = true from h)
        rw [List.all_cons, Bool.and_eq_true]
        exact ⟨h.1, ih h.2⟩
    exact this xs w
/-- the iterator's tuple, if it owned one: none of ours does -/
theorem ok_owned (r : R c fa φ σ s) {target : PySem.Expr} {xs : List (Nat × Bool)} {tu : Bool} (ht : TgtR target xs tu) {j : Nat} {y : AO} (hy : σ.get j = some y) (hit : match y with | .lit .. | .tit .. | .kit .. | .vit .. | .rit .. => True | _ => False) {a : Addr} (ha : φ[j]? = some a) {u : Value} {Q : Unit → Shared → Prop} {E} {M : Model} (q : Q () s) :
    wpAny M A (letOwnedTupleGo target (.ref a) u) Q E s := by
  cases ht with
  | name x p cl => exact wpAny_pure q
  | tup xs k' p =>
    obtain ⟨a', ha', ho⟩ := r.obj _ _ hy
    rw [ha] at ha'; cases ha'
    have hcl : ∃ ob T, s.heap.get? a = some ob ∧ ob.cls = .type T ∧ (["enumerate", "zip", "dict_itemiterator", "dict_reverseitemiterator", "odict_iterator", "itertools.zip_longest", "itertools.pairwise"].contains T) = false := by
      cases y with
      | lit l i => obtain ⟨b, _, ob, h1, h2, _⟩ := ho; exact ⟨ob, _, h1, h2, by decide⟩
      | tit xs i => obtain ⟨t, vs, ⟨ob, h1, h2, _⟩, _⟩ := ho; exact ⟨ob, _, h1, h2, by decide⟩
      | kit d es i => obtain ⟨b, kvs, ep, _, ⟨ob, h1, h2, _⟩, _⟩ := ho; exact ⟨ob, _, h1, h2, by decide⟩
      | vit d es i => obtain ⟨b, kvs, ep, _, ⟨ob, h1, h2, _⟩, _⟩ := ho; exact ⟨ob, _, h1, h2, by decide⟩
      | rit i n => exact ⟨_, _, ho, rfl, by decide⟩
      | _ => exact hit.elim
    obtain ⟨ob, T, h1, h2, h3⟩ := hcl
    cases u with
    | ref d =>
      show wpAny _ _ (load a >>= _) _ _ _
      refine wpAny_bind (wpAny_load h1 ?_)
      rw [h2]
      split
      · rename_i n vs e1 e2
        cases e1
        rw [h3, Bool.false_and, if_neg (by decide)]
        exact wpAny_pure q
      · exact wpAny_pure q
    | _ => exact wpAny_pure q
end
end Mine
set_option maxRecDepth 100000
namespace Mine
noncomputable section
open PySem PySem.W PySem.W.X PyProof.Rows
variable {c : Cx} {k : FC} {f : FA} {fa : List FA} {φ : List Addr} {σ σ' τ : AS} {s s' : Shared} {A : Around} {o : Scope} {b : Bool} {env : Env} {m n : Nat} {I : IP} {e : FE} {v : AV} {fl : Fl}

abbrev OkF (c : Cx) (fs : List FA) (A : Around) (t : Sem Flow) (φ : List Addr) (σ σ' : AS) (fl : Fl) : Prop := Ok c fs A t φ σ σ' fun φ' x => FlR c φ' fl x
theorem swaps_no {e : FE} (w : wfE m o e = true) (hc : isCompE e = false) (t : Option PySem.Expr) (l : Nat) : swapsWith (trE m e) t l env = pure false := by
  cases m with
  | zero => cases w
  | succ m => cases e <;> first | rfl | (cases w; done) | (cases hc; done)
theorem interactive_no (E0 : EnvOk o f b env) : interactive env = false := by
  unfold interactive
  rw [E0.sc, E0.kind]; rfl
theorem st_asg (H : Hy c k n I m o f false env A) {x : Nat} {xp p : Pos} {cl : Bool} (w : (okN o x cl && wfE m o e) = true) (h : xAsg x cl e I σ = some (fl, σ')) : OkF c (f :: fa) A (exec (.Assign [.Name (nm x) xp] (trE m e) p) env) φ σ σ' fl := by
  rw [Bool.and_eq_true] at w
  obtain ⟨v, σ1, h1, h2⟩ := bnd_eq h
  obtain ⟨σ2, h3, h4⟩ := ob_eq h2
  obtain ⟨rfl, rfl⟩ := ret_eq h4
  have plain : swapsWith (trE m e) (some (.Name (nm x) xp)) p.line env = pure false → OkF c (f :: fa) A (exec (.Assign [.Name (nm x) xp] (trE m e) p) env) φ σ σ' .next := fun hs Q E s r q =>
    PySem.wpAny_Assign_Name (H.ev w.2 h1 _ E s r fun φ1 s1 u1 p1 r1 hu => ok_storeN H.E w.1 hu h3 _ E s1 r1 fun φ2 s2 _ p2 r2 _ => q φ2 s2 .next (p1.trans p2) r2 rfl) hs
  cases hc : isCompE e with
  | false => exact plain (swaps_no w.2 hc _ _)
  | true =>
    cases m with
    | zero => cases w.2
    | succ m =>
      cases e with
      | comp elt gens sc p' =>
        have hsw : swapsWith (trE (m + 1) (.comp elt gens sc p')) (some (.Name (nm x) xp)) p.line env = pure (env.blockKind == .function && env.kindOf (nm x) == some .local && xp.line == p'.line && !((scp sc).names.any fun y => y.1 == nm x && (y.2 == .local || y.2 == .cell))) := rfl
        cases hb : (env.blockKind == .function && env.kindOf (nm x) == some .local && xp.line == p'.line && !((scp sc).names.any fun y => y.1 == nm x && (y.2 == .local || y.2 == .cell))) with
        | false => rw [hb] at hsw; exact plain hsw
        | true =>
          rw [hb] at hsw
          simp only [Bool.and_eq_true] at hb
          have hloc : env.kindOf (nm x) = some .local := eq_of_beq hb.1.1.2
          have hcl : cl = false := by
            cases cl with
            | false => rfl
            | true =>
              have w1 := Bool.and_eq_true_iff.mp (show (isCel o x && (kd o x == some .cell)) = true from w.1)
              have : o.names.lookup (nm x) = some .cell := eq_of_beq w1.2
              rw [H.E.kindOf, this] at hloc; cases hloc
          subst hcl
          intro Q E s r q
          rw [exec_Assign_Name_used _ _ _ _ hsw]
          refine wpAny_bind (wpAny_standAt (wpAny_bind (H.S.evu H.A1 H.E (H.hC rfl) w.2 (show isLoc o x = true from w.1) h1 h3 _ E s r fun φ1 s1 _ p1 r1 _ => ?_)))
          exact wpAny_pure (q φ1 s1 .next p1 r1 rfl)
      | _ => cases hc
theorem st_asgT (H : Hy c k n I m o f false env A) {xs : List (Nat × Pos × Bool)} {k' : Nat} {tp p : Pos} (w : (xs.all (fun t => okN o t.1 t.2.2) && wfE m o e && !(isCompE e) && (match e with | .tup .. => false | _ => true)) = true) (h : xAsgT xs e I σ = some (fl, σ')) :
    OkF c (f :: fa) A (exec (.Assign [.Tuple (xs.map nameT) k' tp] (trE m e) p) env) φ σ σ' fl := by
  simp only [Bool.and_eq_true, Bool.not_eq_true'] at w
  obtain ⟨⟨⟨w1, w2⟩, w3⟩, w4⟩ := w
  obtain ⟨v, σ1, h1, h2⟩ := bnd_eq h
  obtain ⟨vs, h3, h4⟩ := ob_eq h2
  obtain ⟨σ2, h5, h6⟩ := ob_eq h4
  obtain ⟨rfl, rfl⟩ := ret_eq h6
  intro Q E s r q
  refine wpAny_Assign_stores (H.ev w2 h1 _ E s r fun φ1 s1 u1 p1 r1 hu => ?_) (by unfold swapsWithSole; exact swaps_no w2 w3 _ _) ?_
  · show wpAny _ _ (assign (.Tuple (xs.map nameT) k' tp) env u1) _ _ _
    exact ok_unpack H.hA.hh H.E w1 h3 h5 hu _ E s1 r1 fun φ2 s2 _ p2 r2 _ => q φ2 s2 .next (p1.trans p2) r2 rfl
  · cases m with
    | zero => cases w2
    | succ m => cases e <;> first | rfl | (cases w2; done) | (cases w4; done)
theorem st_asg2 (H : Hy c k n I m o f false env A) {x y : Nat} {xp yp tp vp p : Pos} {k1 k2 : Nat} {a d : FE} (w : (okN o x false && okN o y false && (x != y) && (xp.line == yp.line) && isListE a && wfE m o a && wfE m o d) = true) (h : xAsg2 x y a d I σ = some (fl, σ')) :
    OkF c (f :: fa) A (exec (.Assign [.Tuple [.Name (nm x) xp, .Name (nm y) yp] k1 tp] (.Tuple [trE m a, trE m d] k2 vp) p) env) φ σ σ' fl := by
  simp only [Bool.and_eq_true] at w
  obtain ⟨⟨⟨⟨⟨⟨w1, w2⟩, w3⟩, w4⟩, w5⟩, w6⟩, w7⟩ := w
  obtain ⟨va, σ1, h1, h2⟩ := bnd_eq h
  obtain ⟨vd, σ2, h3, h4⟩ := bnd_eq h2
  obtain ⟨σ3, h5, h6⟩ := ob_eq h4
  obtain ⟨σ4, h7, h8⟩ := ob_eq h6
  obtain ⟨rfl, rfl⟩ := ret_eq h8
  have lx : isLoc o x = true := w1
  have ly : isLoc o y = true := w2
  obtain ⟨hx, kx⟩ := isLoc_spec lx
  obtain ⟨hy, ky⟩ := isLoc_spec ly
  have hne : nm x ≠ nm y := fun e => by
    have := nm_inj x y hx hy e
    rw [this] at w3; simp at w3
  have hbk : env.blockKind = .function := by unfold Env.blockKind; rw [blockKind_fn H.E]; rfl
  have hkx : env.kindOf (nm x) = some .local := by rw [H.E.kindOf]; exact kx
  have hky : env.kindOf (nm y) = some .local := by rw [H.E.kindOf]; exact ky
  have hline : yp.line = xp.line := (eq_of_beq w4).symm
  have hla : ∃ es pp, trE m a = .List es pp := by
    cases m with
    | zero => cases w6
    | succ m => cases a <;> first | exact ⟨_, _, rfl⟩ | (cases w5; done)
  obtain ⟨es, pp, hla⟩ := hla
  have hst : ∀ (e : FE), wfE m o e = true → (match trE m e with | .Starred .. => true | _ => false) = false := fun e we => by
    cases m with
    | zero => cases we
    | succ m => cases e <;> first | rfl | (cases we; done)
  have hsw : swappedStores [.Tuple [.Name (nm x) xp, .Name (nm y) yp] k1 tp] (.Tuple [trE m a, trE m d] k2 vp) env = pure (some [nm x, nm y]) := by
    have hd := hst d w7
    rw [hla]
    have e1 : foldedForSure 8 (.List es pp) = false := rfl
    have e2 : constantsAlone 8 (.List es pp) = false := rfl
    have e3 : [nm x, nm y].eraseDups.length = 2 := by
      rw [List.eraseDups_cons, List.filter_cons, if_pos (by simpa using fun e => hne e.symm)]; rfl
    simp [swappedStores, hbk, hkx, hky, hline, e1, e2, e3, PySem.Expr.pos]
    exact fun hh => absurd (show true = false from hh.symm.trans hd) (by decide)
  intro Q E s r q
  rw [exec_Assign_arm]
  refine wpAny_bind (wpAny_standAt ?_)
  rw [show swapsWithSole [.Tuple [.Name (nm x) xp, .Name (nm y) yp] k1 tp] (.Tuple [trE m a, trE m d] k2 vp) p.line env = pure false from rfl]
  refine wpAny_bind (wpAny_pure ?_)
  rw [if_neg (by decide)]
  refine wpAny_bind (PySem.wpAny_Tuple ?_)
  have hall : [a, d].all (wfE m o) = true := by rw [List.all_cons, List.all_cons, w6, w7]; rfl
  have hevs : evs I false [a, d] σ = some ([va, vd], σ2) := by
    show bnd (I.ev a false σ) (fun v σ => bnd (evs I false [d] σ) fun vs σ => ret (v :: vs) σ) = _
    rw [h1]
    show bnd (bnd (I.ev d false σ1) fun v σ => bnd (evs I false [] σ) fun vs σ => ret (v :: vs) σ) (fun vs σ => ret (va :: vs) σ) = _
    rw [h3]; rfl
  have := tr_args (m := m) (env := env) hall vp
  rw [show [trE m a, trE m d] = [a, d].map (trE m) from rfl, this]
  refine H.evs hall hevs _ E s r fun φ1 s1 us p1 r1 hus => ?_
  cases hus with
  | cons ha hus =>
  cases hus with
  | cons hd hus =>
  cases hus
  rename_i ua ud
  refine ⟨by simp; decide, ?_⟩
  rw [show [a, d].map (trE m) = [trE m a, trE m d] from rfl, hsw]
  refine wpAny_bind (wpAny_pure ?_)
  show wpAny _ _ (rule "assign.swapped-stores" >>= _) _ _ _
  refine wpAny_bind (wpAny_rule ?_)
  have r2 := r1.grow (grows_push s1 { cls := .type "tuple", data := .seq [ua, ud].toArray })
  have htp : (s1.heap.push { cls := .type "tuple", data := .seq [ua, ud].toArray }).IsTuple s1.heap.objs.size #[ua, ud] := ⟨_, Heap.get?_push_size _ rfl, rfl, 0, rfl⟩
  refine wpAny_bind (m := unpackItems (.ref s1.heap.objs.size) (#[ua, ud] : Array Value).size none) (wpAny_with_size (wpAny_unpackItems_tuple H.hA.hh htp fun h' hx' hs => ?_))
  have r3 := r2.grow (s' := { s1 with heap := h' }) ⟨fun b o hb => hx' b o (Nat.ne_of_lt (Heap.lt_size hb)) hb, hs, rfl, rfl, rfl⟩
  show wpAny _ _ (assignInOrder [bindName env (nm y), bindName env (nm x)] [ud, ua] >>= _) _ _ _
  refine wpAny_bind ?_
  show wpAny _ _ (holding [ua] (bindName env (nm y) ud) >>= fun _ => holding [] (bindName env (nm x) ua) >>= fun _ => pure ()) _ _ _
  refine wpAny_bind (wpAny_holding (wpAny_bindName (ok_setL H.E ly hd h5 _ E _ r3 fun φ4 s4 _ p4 r4 _ => ?_)))
  refine wpAny_bind (wpAny_holding (wpAny_bindName (ok_setL H.E lx (ha.mono p4) h7 _ E s4 r4 fun φ5 s5 _ p5 r5 _ => ?_)))
  exact wpAny_pure (wpAny_pure (q φ5 s5 .next ((p1.trans p4).trans p5) r5 rfl))
theorem st_asgS (H : Hy c k n I m o f false env A) {a i : FE} {tp p : Pos} (w : (wfE m o a && wfE m o i && wfE m o e && !(isCompE e) && (match e with | .tup .. => false | _ => true)) = true) (h : xAsgS a i e I σ = some (fl, σ')) :
    OkF c (f :: fa) A (exec (.Assign [.Subscript (trE m a) (trE m i) tp] (trE m e) p) env) φ σ σ' fl := by
  simp only [Bool.and_eq_true, Bool.not_eq_true'] at w
  obtain ⟨⟨⟨⟨w1, w2⟩, w3⟩, w4⟩, w5⟩ := w
  obtain ⟨v, σ1, h1, h2⟩ := bnd_eq h
  obtain ⟨va, σ2, h3, h4⟩ := bnd_eq h2
  obtain ⟨vi, σ3, h5, h6⟩ := bnd_eq h4
  obtain ⟨σ4, h7, h8⟩ := ob_eq h6
  obtain ⟨rfl, rfl⟩ := ret_eq h8
  intro Q E s r q
  refine wpAny_Assign_stores (H.ev w3 h1 _ E s r fun φ1 s1 u1 p1 r1 hu => ?_) (by unfold swapsWithSole; exact swaps_no w3 w4 _ _) rfl
  show wpAny _ _ (assign (.Subscript (trE m a) (trE m i) tp) env u1) _ _ _
  rw [arm_assign_Subscript]
  refine wpAny_bind (wpAny_holding (H.ev w1 h3 _ E s1 r1 fun φ2 s2 u2 p2 r2 hu2 => wpAny_bind (wpAny_holding (H.ev w2 h5 _ E s2 r2 fun φ3 s3 u3 p3 r3 hu3 => wpAny_bind (wpAny_standAt (wpAny_bind (wpAny_holding ?_)))))))
  exact ok_setItem h7 (hu2.mono p3) hu3 (hu.mono (p2.trans p3)) _ E s3 r3 fun φ4 s4 _ p4 r4 _ => wpAny_release (q φ4 s4 .next (((p1.trans p2).trans p3).trans p4) r4 rfl)
theorem st_expr (H : Hy c k n I m o f false env A) {p : Pos} (w : (wfE m o e && !(isCompE e)) = true) (h : xExpr e I σ = some (fl, σ')) : OkF c (f :: fa) A (exec (.Expr (trE m e) p) env) φ σ σ' fl := by
  simp only [Bool.and_eq_true, Bool.not_eq_true'] at w
  obtain ⟨v, σ1, h1, h2⟩ := bnd_eq h
  obtain ⟨rfl, rfl⟩ := ret_eq h2
  intro Q E s r q
  rw [PySem.exec_Expr _ _ _ (interactive_no H.E) (swaps_no w.1 w.2 _ _)]
  refine wpAny_bind (wpAny_standAt (wpAny_bind (H.ev w.1 h1 _ E s r fun φ1 s1 u1 p1 r1 hu => ?_)))
  have q' := q φ1 s1 .next p1 r1 rfl
  unfold dropValue
  split
  · exact wpAny_pure q'
  · exact wpAny_bind (wpAny_standAt (wpAny_bind (wpAny_runValue (codeAny_builtin entry_let_go (show wpAny _ _ (PySem.ret Value.none) _ _ s1 from wpAny_pure (wpAny_pure q'))))))
  · exact wpAny_pure q'
theorem st_iff (H : Hy c k n I m o f false env A) {t : FE} {a d : List FS} {p : Pos} (w : (wfE m o t && a.all (wfS m o) && d.all (wfS m o)) = true) (h : xIff t a d I σ = some (fl, σ')) : OkF c (f :: fa) A (exec (.If (trE m t) (a.map (trS m)) (d.map (trS m)) p) env) φ σ σ' fl := by
  simp only [Bool.and_eq_true] at w
  obtain ⟨tv, σ1, h1, h2⟩ := bnd_eq h
  intro Q E s r q
  refine PySem.wpAny_If (H.tt w.1.1 h1 _ E s r fun φ1 s1 t1 p1 r1 ht => ?_)
  subst ht
  cases t1 with
  | true => rw [if_pos rfl]; exact H.S.exs H.A1 H.E (H.hC rfl) w.1.2 h2 Q E s1 r1 fun φ2 s2 u2 p2 r2 hu => q φ2 s2 u2 (p1.trans p2) r2 hu
  | false => rw [if_neg (by decide)]; exact H.S.exs H.A1 H.E (H.hC rfl) w.2 h2 Q E s1 r1 fun φ2 s2 u2 p2 r2 hu => q φ2 s2 u2 (p1.trans p2) r2 hu
theorem st_for (H : Hy c k n I m o f false env A) {target : PySem.Expr} {xs : List (Nat × Bool)} {tu : Bool} {it : FE} {body els : List FS} {p : Pos} (ht : TgtR target xs tu) (wt : tgtOk o xs = true) (w1 : wfE m o it = true) (w2 : body.all (wfS m o) = true) (w3 : els.all (wfS m o) = true)
    (h : xFor xs tu it body els I σ = some (fl, σ')) : OkF c (f :: fa) A (exec (.For target (trE m it) (body.map (trS m)) (els.map (trS m)) p) env) φ σ σ' fl := by
  obtain ⟨v, σ1, h1, h2⟩ := bnd_eq h
  obtain ⟨j, σ2, h3, h4⟩ := bnd_eq h2
  obtain ⟨f1, σ3, h5, h6⟩ := bnd_eq h4
  intro Q E s r q
  rw [exec_For]
  refine wpAny_bind (wpAny_standAt (wpAny_bind (H.ev w1 h1 _ E s r fun φ1 s1 u1 p1 r1 hu => ?_)))
  refine wpAny_bind (wpAny_of_eq (tr_noset w1 env u1) (wpAny_bind (wpAny_standAt (wpAny_bind (wpAny_holding (ok_pyIter H.B h3 hu _ E s1 r1 fun φ2 s2 x2 p2 r2 hx => ?_))))))
  obtain ⟨a, ha, rfl⟩ := hx
  refine runOwn_ok (H.S.lp (Goal := fun c' s' => codeAny (model pw c.w) A c' (fun r s' => match r with | .ok f => Q f s' | .error e => cameBackBy (model pw c.w) A env E e s') s') (Leaf := Q) (EE := fun e s' => cameBackBy (model pw c.w) A env E e s')
    H.A1 H.E (H.hC rfl) ht wt w2 h5 ha (fun s' hs' => codeAny_of_tree hs') r2 ?_)
  have P := p1.trans p2
  cases f1 with
  | next => exact fun φ3 s3 p3 r3 => codeAny_block (H.S.exs H.A1 H.E (H.hC rfl) w3 h6 _ _ s3 r3 fun φ4 s4 u4 p4 r4 hu4 => q φ4 s4 u4 ((P.trans p3).trans p4) r4 hu4)
  | brk =>
    obtain ⟨rfl, rfl⟩ := ret_eq h6
    exact fun φ3 s3 p3 r3 => q φ3 s3 .next (P.trans p3) r3 rfl
  | ret v =>
    obtain ⟨rfl, rfl⟩ := ret_eq h6
    exact fun φ3 s3 u p3 r3 hu => q φ3 s3 (.ret u) (P.trans p3) r3 ⟨u, rfl, hu⟩
theorem st_whl (H : Hy c k n I m o f false env A) {t : FE} {body els : List FS} {p : Pos} (w : (wfE m o t && body.all (wfS m o) && els.all (wfS m o)) = true) (h : xWhl t body els I σ = some (fl, σ')) : OkF c (f :: fa) A (exec (.While (trE m t) (body.map (trS m)) (els.map (trS m)) p) env) φ σ σ' fl := by
  simp only [Bool.and_eq_true] at w
  intro Q E s r q
  rw [exec_While]
  exact wpAny_bind (wpAny_standAt (runOwn_ok (H.S.wh H.A1 H.E (H.hC rfl) w.1.1 w.1.2 w.2 h r fun φ' s' x p' r' hx => q φ' s' x p' r' hx)))
theorem st_ret (H : Hy c k n I m o f false env A) {p : Pos} (w : wfE m o e = true) (h : xRet e I σ = some (fl, σ')) : OkF c (f :: fa) A (exec (.Return (some (trE m e)) p) env) φ σ σ' fl := by
  obtain ⟨v, σ1, h1, h2⟩ := bnd_eq h
  obtain ⟨rfl, rfl⟩ := ret_eq h2
  intro Q E s r q
  exact wpAny_Return_some (H.ev w h1 _ E s r fun φ1 s1 u1 p1 r1 hu => q φ1 s1 (.ret u1) p1 r1 ⟨u1, rfl, hu⟩)
theorem st_delI (H : Hy c k n I m o f false env A) {a i : FE} {tp p : Pos} (w : (wfE m o a && wfE m o i) = true) (h : xDelI a i I σ = some (fl, σ')) : OkF c (f :: fa) A (exec (.Delete [.Subscript (trE m a) (trE m i) tp] p) env) φ σ σ' fl := by
  simp only [Bool.and_eq_true] at w
  obtain ⟨va, σ1, h1, h2⟩ := bnd_eq h
  obtain ⟨vi, σ2, h3, h4⟩ := bnd_eq h2
  obtain ⟨σ3, h5, h6⟩ := ob_eq h4
  obtain ⟨rfl, rfl⟩ := ret_eq h6
  intro Q E s r q
  refine wpAny_Delete (wpAny_deleteEach_cons ?_)
  rw [arm_delete_Subscript]
  refine wpAny_bind (H.ev w.1 h1 _ E s r fun φ1 s1 u1 p1 r1 hu => wpAny_bind (wpAny_holding (H.ev w.2 h3 _ E s1 r1 fun φ2 s2 u2 p2 r2 hu2 => wpAny_bind (wpAny_standAt (wpAny_bind (wpAny_holding ?_))))))
  exact ok_delItem H.B h5 (hu.mono p2) hu2 _ E s2 r2 fun φ3 s3 _ p3 r3 _ => wpAny_release (wpAny_deleteEach_nil (q φ3 s3 .next ((p1.trans p2).trans p3) r3 rfl))
theorem st_delS (H : Hy c k n I m o f false env A) {a : FE} {lo : Option FE} {sp tp p : Pos} (w : (wfE m o a && (match lo with | none => true | some e => wfE m o e)) = true) (h : xDelS a lo I σ = some (fl, σ')) : OkF c (f :: fa) A (exec (.Delete [.Subscript (trE m a) (.Slice (lo.map (trE m)) none none sp) tp] p) env) φ σ σ' fl := by
  rw [Bool.and_eq_true] at w
  obtain ⟨va, σ1, h1, h2⟩ := bnd_eq h
  obtain ⟨vl, σ2, h3, h4⟩ := bnd_eq h2
  obtain ⟨σ3, h5, h6⟩ := ob_eq h4
  obtain ⟨rfl, rfl⟩ := ret_eq h6
  intro Q E s r q
  refine wpAny_Delete (wpAny_deleteEach_cons ?_)
  rw [arm_delete_Subscript]
  refine wpAny_bind (H.ev w.1 h1 _ E s r fun φ1 s1 u1 p1 r1 hu => wpAny_bind (wpAny_holding (ok_part H w.2 h3 r1 fun φ2 s2 x2 p2 r2 hx => wpAny_bind (wpAny_standAt (wpAny_bind (wpAny_holding ?_))))))
  exact ok_delSlice h5 (hu.mono p2) hx r2 fun s3 r3 => wpAny_release (wpAny_deleteEach_nil (q φ2 s3 .next (p1.trans p2) r3 rfl))
end
end Mine
set_option maxRecDepth 100000
namespace Mine
noncomputable section
open PySem PySem.W PySem.W.X PyProof.Rows
variable {c : Cx} {k : FC} {f : FA} {fa : List FA} {φ : List Addr} {σ σ' τ : AS} {s s' : Shared} {A : Around} {o : Scope} {b : Bool} {env : Env} {m n : Nat} {I : IP} {e : FE} {v : AV} {fl : Fl}

theorem tgt_tup (o : Scope) : ∀ xs : List (Nat × Pos × Bool), (xs.all fun t => okN o t.1 t.2.2) = true → tgtOk o (tnames xs) = true
  | [], _ => rfl
  | x :: xs, h => by
    rw [List.all_cons, Bool.and_eq_true] at h
    show (okN o x.1 x.2.2 && tgtOk o (tnames xs)) = true
    rw [Bool.and_eq_true]
    exact ⟨h.1, tgt_tup o xs h.2⟩
theorem st_all (B : Base c k) (S : SndI c n I) (hA : AOk (n + 1) A) (E0 : EnvOk o f false env) (hC : f.C = none) {st : FS} (w : wfS m o st = true) (h : exS st I σ = some (fl, σ')) : OkF c (f :: fa) A (exec (trS m st) env) φ σ σ' fl := by
  cases m with
  | zero => cases w
  | succ m =>
    have H : Hy c k n I m o f false env A := ⟨B, S, hA, E0, fun _ => hC⟩
    cases st with
    | asg x xp cl v p => exact st_asg H w h
    | asgT xs k' tp v p => exact st_asgT H w h
    | asg2 x y xp yp k1 tp v w' k2 vp p => exact st_asg2 H w h
    | asgS a i tp v p => exact st_asgS H w h
    | expr e p => exact st_expr H w h
    | iff t a d p => exact st_iff H w h
    | forN x xp cl it body els p =>
      have w := (show (okN o x cl && wfE m o it && body.all (wfS m o) && els.all (wfS m o)) = true from w)
      simp only [Bool.and_eq_true] at w
      exact st_for H (.name x xp cl) (show (okN o x cl && true) = true by rw [w.1.1.1]; rfl) w.1.1.2 w.1.2 w.2 h
    | forT xs k' tp it body els p =>
      have w := (show (xs.all (fun t => okN o t.1 t.2.2) && wfE m o it && body.all (wfS m o) && els.all (wfS m o)) = true from w)
      simp only [Bool.and_eq_true] at w
      exact st_for H (.tup xs k' tp) (tgt_tup o xs w.1.1.1) w.1.1.2 w.1.2 w.2 h
    | whl t body els p => exact st_whl H w h
    | ret e p => exact st_ret H w h
    | retN p =>
      obtain ⟨rfl, rfl⟩ := ret_eq (show ret (.ret .none) σ = some (fl, σ') from h)
      intro Q E s r q
      exact wpAny_Return_none (q φ s _ (List.prefix_refl _) r ⟨_, rfl, rfl⟩)
    | brk p =>
      obtain ⟨rfl, rfl⟩ := ret_eq (show ret .brk σ = some (fl, σ') from h)
      intro Q E s r q
      exact wpAny_Break (q φ s _ (List.prefix_refl _) r rfl)
    | delI a i tp p => exact st_delI H w h
    | delS a lo sp tp p => exact st_delS H w h
    | yld e yp p => cases h
    | opq s => cases h
theorem exs_all (B : Base c k) (S : SndI c n I) (hA : AOk (n + 1) A) (E0 : EnvOk o f false env) (hC : f.C = none) : ∀ {l : List FS} {φ : List Addr} {σ σ' : AS} {fl : Fl}, l.all (wfS m o) = true → exsS I l σ = some (fl, σ') → OkF c (f :: fa) A (execs (l.map (trS m)) env) φ σ σ' fl
  | [], φ, σ, σ', fl, _, h => by
    obtain ⟨rfl, rfl⟩ := ret_eq (show ret .next σ = some (fl, σ') from h)
    intro Q E s r q
    exact wpAny_execs_nil (q φ s .next (List.prefix_refl _) r rfl)
  | st :: l, φ, σ, σ', fl, w, h => by
    rw [List.all_cons, Bool.and_eq_true] at w
    obtain ⟨f1, σ1, h1, h2⟩ := bnd_eq (show bnd (exS st I σ) (fun f σ => flK f (fun σ => exsS I l σ) (ret .brk) (fun v => ret (.ret v)) σ) = some (fl, σ') from h)
    intro Q E s r q
    refine wpAny_execs_cons (st_all B S hA E0 hC w.1 h1 _ E s r fun φ1 s1 x p1 r1 hx => ?_)
    cases f1 with
    | next =>
      obtain rfl := hx
      exact exs_all B S hA E0 hC w.2 h2 Q E s1 r1 fun φ2 s2 u2 p2 r2 hu => q φ2 s2 u2 (p1.trans p2) r2 hu
    | brk =>
      obtain rfl := hx
      obtain ⟨rfl, rfl⟩ := ret_eq h2
      exact q φ1 s1 .brk p1 r1 rfl
    | ret v =>
      obtain ⟨u, rfl, hu⟩ := hx
      obtain ⟨rfl, rfl⟩ := ret_eq h2
      exact q φ1 s1 (.ret u) p1 r1 ⟨u, rfl, hu⟩
/-! ### loops -/
def isIt : AO → Prop
  | .lit .. | .tit .. | .kit .. | .vit .. | .rit .. => True
  | _ => False
theorem next_get {j : Nat} {v : AV} (h : next j σ = some (some v, σ')) : ∃ y, σ'.get j = some y ∧ isIt y := by
  obtain ⟨y, hy, h⟩ := ob_eq h
  have key : ∀ {x : Option AV} {z : AO}, isIt z → turn x j z σ = some (some v, σ') → ∃ y, σ'.get j = some y ∧ isIt y := fun hz ht => by
    rcases turn_eq ht with ⟨u, _, _, rfl⟩ | ⟨_, e, _⟩
    · exact ⟨_, set_there hy, hz⟩
    · cases e
  cases y with
  | lit l i => obtain ⟨xs, hx, h⟩ := ob_eq h; exact key (z := .lit l (Nat.succ i)) trivial h
  | tit xs i => exact key (z := .tit xs (Nat.succ i)) trivial h
  | kit d es i => exact key (z := .kit d es (Nat.succ i)) trivial h
  | vit d es i => exact key (z := .vit d es (Nat.succ i)) trivial h
  | rit i n => exact key (z := .rit (Nat.succ i) n) trivial h
  | _ => cases h
theorem lp_step (B : Base c k) (S : SndI c n I) (hA : AOk (n + 1) A) (E0 : EnvOk o f false env) (hC : f.C = none) {xs : List (Nat × Bool)} {tu : Bool} {j : Nat} {body : List FS} {target : PySem.Expr} {orelse : List PySem.Stmt} {Goal : Code → Shared → Prop} {Leaf : Flow → Shared → Prop} {EE : Value → Shared → Prop} {a : Addr} (ht : TgtR target xs tu) (wt : tgtOk o xs = true) (wb : body.all (wfS m o) = true) (h : lpS I xs tu j body σ = some (fl, σ'))
    (ha : φ[j]? = some a) (one : OneStep c A Goal Leaf EE (.forLoop target (.ref a) (body.map (trS m)) orelse env)) (r : R c (f :: fa) φ σ s) (q : LoopQ c (f :: fa) Goal Leaf orelse env σ' φ fl) : Goal (.forLoop target (.ref a) (body.map (trS m)) orelse env) s := by
  have hA1 : AOk n A := hA.mono (Nat.le_succ _)
  obtain ⟨v, σ1, h1, h2⟩ := bnd_eq h
  refine one s ?_
  show wpAny _ A ((forTurn target (.ref a) (body.map (trS m)) orelse env).onRaise (fun x => do noteFrame x env; theTreesLotGoes x)) _ _ s
  refine wpAny_noted ?_
  simp only [forTurn]
  refine wpAny_bind (wpAny_standAt (wpAny_bind (wpAny_onRaise (ok_next hA.hh h1 ha _ _ s r fun φ1 s1 y p1 r1 hy => ?_))))
  cases v with
  | none =>
    obtain rfl := hy
    obtain ⟨rfl, rfl⟩ := ret_eq (show ret .next σ1 = some (fl, σ') from h2)
    exact wpAny_pure ⟨rfl, q φ1 s1 p1 r1⟩
  | some v =>
    obtain ⟨u, rfl, hu⟩ := hy
    obtain ⟨σ2, h3, h4⟩ := ob_eq (show ob (storeT xs tu v σ1) (fun σ => bnd (I.exs body σ) fun f σ => flK f (fun σ => I.lp xs tu j body σ) (ret .brk) (fun v => ret (.ret v)) σ) = some (fl, σ') from h2)
    obtain ⟨f1, σ3, h5, h6⟩ := bnd_eq h4
    obtain ⟨y, hy, hit⟩ := next_get h1
    refine wpAny_bind (ok_owned r1 ht hy (by cases y <;> first | trivial | exact hit.elim) (pre_get p1 ha) ?_)
    refine wpAny_bind (ok_target hA.hh E0 ht wt h3 hu _ _ s1 r1 fun φ2 s2 _ p2 r2 _ => wpAny_bind (S.exs hA1 E0 hC wb h5 _ _ s2 r2 fun φ3 s3 x p3 r3 hx => ?_))
    have P := (p1.trans p2).trans p3
    cases f1 with
    | next =>
      obtain rfl := hx
      refine wpAny_pure ⟨rfl, S.lp hA1 E0 hC ht wt wb h6 (pre_get P ha) one r3 ?_⟩
      cases fl with
      | next => exact fun φ' s' p' r' => q φ' s' (P.trans p') r'
      | brk => exact fun φ' s' p' r' => q φ' s' (P.trans p') r'
      | ret w => exact fun φ' s' u p' r' hu => q φ' s' u (P.trans p') r' hu
    | brk =>
      obtain rfl := hx
      obtain ⟨rfl, rfl⟩ := ret_eq h6
      exact wpAny_pure (q φ3 s3 P r3)
    | ret w =>
      obtain ⟨u', rfl, hu'⟩ := hx
      obtain ⟨rfl, rfl⟩ := ret_eq h6
      exact wpAny_pure (q φ3 s3 u' P r3 hu')
theorem wh_step (B : Base c k) (S : SndI c n I) (hA : AOk (n + 1) A) (E0 : EnvOk o f false env) (hC : f.C = none) {t : FE} {body els : List FS} {Rr : Result → Shared → Prop} (w1 : wfE m o t = true) (w2 : body.all (wfS m o) = true) (w3 : els.all (wfS m o) = true) (h : whS I t body els σ = some (fl, σ'))
    (r : R c (f :: fa) φ σ s) (q : ∀ φ' s' x, φ <+: φ' → R c (f :: fa) φ' σ' s' → FlR c φ' fl x → Rr (.ok x) s') : codeAny (model pw c.w) A (.whileLoop (trE m t) (body.map (trS m)) (els.map (trS m)) env) Rr s := by
  have hA1 : AOk n A := hA.mono (Nat.le_succ _)
  have H : Hy c k n I m o f false env A := ⟨B, S, hA, E0, fun _ => hC⟩
  obtain ⟨tv, σ1, h1, h2⟩ := bnd_eq h
  refine codeAny_of_tree ?_
  show wpAny _ A ((whileTurn (trE m t) (body.map (trS m)) (els.map (trS m)) env).onRaise (fun x => do noteFrame x env; theTreesLotGoes x)) _ _ s
  refine wpAny_noted ?_
  simp only [whileTurn]
  refine wpAny_bind (H.tt w1 h1 _ _ s r fun φ1 s1 t1 p1 r1 ht => ?_)
  subst ht
  cases t1 with
  | false =>
    simp only [Bool.false_eq_true, if_false]
    exact wpAny_bind (S.exs hA1 E0 hC w3 h2 _ _ s1 r1 fun φ2 s2 x p2 r2 hx => wpAny_pure (q φ2 s2 x (p1.trans p2) r2 hx))
  | true =>
    simp only [if_true]
    obtain ⟨f1, σ2, h3, h4⟩ := bnd_eq (show bnd (I.exs body σ1) (fun f σ => flK f (fun σ => I.wh t body els σ) (ret .next) (fun v => ret (.ret v)) σ) = some (fl, σ') from h2)
    refine wpAny_bind (S.exs hA1 E0 hC w2 h3 _ _ s1 r1 fun φ2 s2 x p2 r2 hx => ?_)
    have P := p1.trans p2
    cases f1 with
    | next =>
      obtain rfl := hx
      exact wpAny_pure ⟨rfl, S.wh hA1 E0 hC w1 w2 w3 h4 r2 fun φ' s' x p' r' hx => q φ' s' x (P.trans p') r' hx⟩
    | brk =>
      obtain rfl := hx
      obtain ⟨rfl, rfl⟩ := ret_eq h4
      exact wpAny_pure (q φ2 s2 .next P r2 rfl)
    | ret w =>
      obtain ⟨u', rfl, hu'⟩ := hx
      obtain ⟨rfl, rfl⟩ := ret_eq h4
      exact wpAny_pure (q φ2 s2 (.ret u') P r2 ⟨u', rfl, hu'⟩)
/-! ### calls -/
theorem gen_all : (fnT.all fun p => Nat.beq p.1 169 || !(scp p.2.sc).isGenerator) = true := by decide +kernel
theorem wf_all {a : Nat} {fi : FnI} (h : (a, fi) ∈ fnT) : fi.body.all (wfS 30 (scp fi.sc)) = true := by
  have hpar : parOk fi = true := List.all_eq_true.mp par_all _ h
  unfold parOk at hpar
  simp only [Bool.and_eq_true] at hpar
  exact hpar.2
theorem fn_code (B : Base c k) (S : SndI c n I) (hA : AOk (n + 1) A) {a : Nat} (ha : a ≠ 169) {fi : FnI} (e : lk fnT a = some fi) {args : List AV} (h : callFn I fi args σ = some (v, σ')) {us : List Value} (hv : All2 (VR c φ) args us) {Q : Value → Shared → Prop} {E : Value → Shared → Prop} (r : R c fa φ σ s) (q : ∀ φ' s' u, φ <+: φ' → R c fa φ' σ' s' → VR c φ' v u → Q u s') :
    codeAny (model pw c.w) A (.call (.ref a) ⟨us, []⟩) (fun r s' => match r with | .ok (.ret v) => Q v s' | .ok _ => False | .error e => E e s') s := by
  obtain ⟨fr, h1, h2⟩ := ob_eq h
  obtain ⟨f1, σ1, h3, h4⟩ := bnd_eq h2
  obtain ⟨v', h5, h6⟩ := ob_eq h4
  obtain ⟨σ2, h7, h8⟩ := ob_eq h6
  obtain ⟨rfl, rfl⟩ := ret_eq h8
  have hfi := lk_in e
  have hg : (scp fi.sc).isGenerator = false := by
    have := List.all_eq_true.mp gen_all _ hfi
    rcases Bool.or_eq_true_iff.mp this with q | q
    · exact absurd (nbeq q) ha
    · simpa using q
  exact okc_call B hA e hg h1 hv (fun f env hC E0 => S.exs (hA.deeper env) E0 hC (wf_all hfi) h3) h5 h7 r q
theorem keep_all (P : Params) : ((fnT.map (·.1) ++ mkT.map (·.1)).all fun a => keepIn (KS P) (.ref a)) = true := by kernel_rfl
theorem kept_st (B : Base c k) (r : R c fa φ σ s) {a : Nat} (h : a ∈ fnT.map (·.1) ++ mkT.map (·.1)) : Kept c s (.ref a) := fun A E Q q => by
  obtain ⟨kk, _, L⟩ := keeps_K (M := model pw c.w) (List.all_eq_true.mp (keep_all c.w.params) a h) s.heap (r.ks B)
  exact L.here (q kk)
def cOk (P : Params) (p : Nat × Nat) : Bool := isFnV (findIn (KS P) (.ref p.1) "__call__") p.2 && PySem.W.isFn (KS P) (.ref p.2) && fnIn (KS P) p.2
theorem call_all (P : Params) : (callT.all (cOk P)) = true := by kernel_rfl
def GenOk (c : Cx) (n : Nat) (I : IP) : Prop := ∀ fa φ σ σ' A args v us, AOk (n + 1) A → genRun I args σ = some (v, σ') → All2 (VR c φ) args us → OkV c fa A (call (.ref 183) us) φ σ σ' v
theorem inst_plain (r : R c fa φ σ s) {x C : Nat} (h : instNs σ x = some C) {a : Addr} (ha : φ[x]? = some a) : ∃ ox od, InstAt s.heap a ox C od ∧ ox.data = .plain := by
  obtain ⟨⟨C', d⟩, h1, h2⟩ := ob_eq h
  obtain ⟨es, h3, h4⟩ := ob_eq h2
  cases h4
  obtain ⟨o1, g1, e1⟩ := ob_eq h1
  cases o1 <;> try cases e1
  obtain ⟨a', ha', b, hb, ho⟩ := r.obj _ _ g1
  rw [ha] at ha'; cases ha'
  obtain ⟨mm, hm, _⟩ := nsAt_eq r h3 hb
  obtain ⟨od, hod, _⟩ := ns_look hm
  exact ⟨_, some od, ⟨ho, rfl, rfl, hod⟩, rfl⟩
theorem call_step (B : Base c k) (S : SndI c n I) (G : GenOk c n I) : CallOk c (n + 1) (stepI k I) := by
  intro fa φ σ σ' A fv args v u us hA h hu hv
  replace h : callS fv I args σ = some (v, σ') := h
  cases fv with
  | st a =>
    obtain rfl := hu
    replace h : br (Nat.beq a 183) (genRun I args σ) (br (Nat.beq a 169) none (opt (lk fnT a) (fun fi => callFn I fi args σ) (construct a args σ))) = some (v, σ') := h
    cases e1 : Nat.beq a 183 with
    | true =>
      rw [e1] at h
      obtain rfl := nbeq e1
      exact ⟨G fa φ σ σ' A args v us hA h hv, fun s r => kept_st B r (by decide)⟩
    | false =>
      rw [e1] at h
      obtain ⟨e2, h⟩ := br_none' h
      cases e3 : lk fnT a with
      | some fi =>
        rw [e3] at h
        exact ⟨fun Q E s r q => wpAny_call (fn_code B S hA (nbne e2) e3 h hv r q), fun s r => kept_st B r (List.mem_append_left _ (List.mem_map.mpr ⟨_, lk_in e3, rfl⟩))⟩
      | none =>
        rw [e3] at h
        obtain ⟨g, hg, _⟩ := ob_eq (show construct a args σ = some (v, σ') from h)
        exact ⟨ok_make B hA h hv, fun s r => kept_st B r (List.mem_append_right _ (List.mem_map.mpr ⟨_, lk_in hg, rfl⟩))⟩
  | ref i =>
    obtain ⟨a, ha, rfl⟩ := hu
    obtain ⟨C, h1, h2⟩ := ob_eq (show callOb i I args σ = some (v, σ') from h)
    obtain ⟨g, h3, h4⟩ := ob_eq h2
    obtain ⟨fi, h5, h6⟩ := ob_eq h4
    have hok := List.all_eq_true.mp (call_all c.w.params) _ (lk_in h3)
    unfold cOk at hok
    simp only [Bool.and_eq_true] at hok
    have hg : g ≠ 169 := by
      simp only [callT, lk_cons, lk_nil] at h3
      repeat' split at h3
      all_goals first | (cases h3; decide) | cases h3
    refine ⟨fun Q E s r q => ?_, fun s r A E Q q => ?_⟩
    · obtain ⟨ox, od, I1, hp⟩ := inst_plain r h1 ha
      exact wpAny_call (kco_code (a := ⟨us, []⟩) (r.ks B) I1 hp (isFnV_eq hok.1.1) hok.1.2 hok.2 (fn_code B S hA hg h5 h6 (.cons ⟨a, ha, rfl⟩ hv) r q))
    · obtain ⟨ox, od, I1, hp⟩ := inst_plain r h1 ha
      exact (kco_keeper I1 hp).here (q _)
  | bi x =>
    obtain rfl := hu
    obtain ⟨g, h1, h2⟩ := ob_eq (show ob (lk builtinT x) (fun f => f args σ) = some (v, σ') from h)
    refine ⟨?_, fun s r => kept_builtin c s _⟩
    simp only [builtinT, lk_cons, lk_nil] at h1
    repeat' split at h1
    all_goals first | (cases h1; done) | (cases h1; rename_i e; subst e; first | exact ok_len B h2 hv | exact ok_isi B hA h2 hv | exact ok_callable B hA h2 hv | exact ok_hasattr B hA h2 hv)
  | ty x =>
    obtain rfl := hu
    obtain ⟨g, h1, h2⟩ := ob_eq (show ob (lk typeT x) (fun f => f args σ) = some (v, σ') from h)
    refine ⟨?_, fun s r => kept_type c s _⟩
    simp only [typeT, lk_cons, lk_nil] at h1
    repeat' split at h1
    all_goals first | (cases h1; done) | (cases h1; rename_i e; subst e; first | exact ok_range h2 hv | exact ok_list B hA.hh h2 hv)
  | _ => cases h
theorem snd_step (B : Base c k) (S : SndI c n I) (G : GenOk c n I) : SndI c (n + 1) (stepI k I) where
  ev := fun hA E0 hC w h => ev_all B S hA E0 hC w h
  evu := fun {m o f fa env A φ σ elt gens sc p v σ' σ'' x xp} hA E0 hC w wx h hx => by
    cases m with
    | zero => cases w
    | succ m => exact evu_comp (⟨B, S, hA, E0, fun _ => hC⟩ : Hy c k n I m o f false env A) w wx h hx
  tt := fun hA E0 hC w h => tt_allE B S hA E0 hC w h
  exs := fun hA E0 hC w h => exs_all B S hA E0 hC w h
  lp := fun hA E0 hC ht wt wb h ha one r q => lp_step B S hA E0 hC ht wt wb h ha one r q
  wh := fun hA E0 hC w1 w2 w3 h r q => wh_step B S hA E0 hC w1 w2 w3 h r q
  cl := fun hA E0 hw w4 w3 w2 h ha hd r q => cl_both B S hA E0 hw w4 w3 w2 h ha hd r q
  call := call_step B S G
end
end Mine
set_option maxRecDepth 100000
namespace Mine
noncomputable section
open PySem PySem.W PySem.W.X PyProof.Rows
variable {c : Cx} {k : FC} {f : FA} {fa : List FA} {φ : List Addr} {σ σ' τ : AS} {s s' : Shared} {A : Around} {o : Scope} {b : Bool} {env : Env} {n : Nat} {I : IP} {e : FE} {v : AV} {fl : Fl}

/-! ### a generator's part -/
section seg
variable {M : Model} {R' : GenEnd} {Y : Protocol} {m : Nat} {s₀ : Shared} {c' : Code} {fs : List Frame} {K : Flow → Sem Fin} {H : Value → Sem Fin} {gd : Bool → Bool} {lv : List Value → List Value}
theorem execs_app_wrap (l2 : List PySem.Stmt) : ∀ l1 : List PySem.Stmt, (execs (l1 ++ l2) env).wrap K H gd lv = (execs l1 env).wrap (fun f => match f with | .next => (execs l2 env).wrap K H gd lv | f => K f) H gd lv
  | [] => rfl
  | st :: l1 => by
    rw [List.cons_append, execs_cons_wrap, execs_cons_wrap]
    refine Sem.wrap_congr _ _ _ (fun f => ?_) (fun _ => rfl)
    cases f with
    | next => exact execs_app_wrap l2 l1
    | _ => rfl
theorem seg_bindw {α : Type} {t : Sem α} {u : α → Sem Flow} (h : wpAny M (A.over c' fs) t (fun a s' => Seg M A R' Y m s₀ c' ((u a).wrap K H gd lv) fs s') (fun x s' => Seg M A R' Y m s₀ c' (H x) fs s') s) :
    Seg M A R' Y m s₀ c' ((t >>= u).wrap K H gd lv) fs s := by
  rw [Sem.bind_eq_wrap', Sem.wrap_wrap]; exact seg_wrap h
def backK (K : Flow → Sem Fin) (H : Value → Sem Fin) (gd : Bool → Bool) (lv : List Value → List Value) (env : Env) (r : Result) : Sem Fin :=
  ((match r with | .ok f => (.pure f : Sem Flow) | .error e => .raise e).onRaise fun (x : Value) => do
        if (← field x 1) == Value.none then unsupported "frame.own-activation:exception-without-traceback"
        setFlight x env.frame).wrap K H gd lv
theorem seg_runOwn {c2 : Code} (h : ∀ p, Seg M A R' Y m s₀ c2 (M.den c2) (.ret (backK K H gd lv env) none (gd false) (lv []) c' p [] :: fs) s) : Seg M A R' Y m s₀ c' ((runOwn c2 env).wrap K H gd lv) fs s := seg_call h
theorem seg_back {c2 : Code} {g l p kp} {fl : Flow} (h : Seg M A R' Y m s₀ c' (K fl) fs s) : Seg M A R' Y m s₀ c2 (.pure (.done fl)) (.ret (backK K H gd lv env) none g l c' p kp :: fs) s := seg_leaf (.ok fl) h
end seg
section seg
variable {R' : GenEnd} {Y : Protocol} {m : Nat} {s₀ : Shared} {c' : Code} {fs : List Frame} {K : Flow → Sem Fin} {H : Value → Sem Fin} {gd : Bool → Bool} {lv : List Value → List Value}
theorem seg_one (c2 : Code) : OneStep c (A.over c2 fs) (fun c' s' => Seg (model pw c.w) A R' Y m s₀ c' ((model pw c.w).den c') fs s') (fun f s' => Seg (model pw c.w) A R' Y m s₀ c2 (.pure (.done f)) fs s') (fun e s' => Seg (model pw c.w) A R' Y m s₀ c2 (.raise e) fs s') c2 := fun s h => by
  have := seg_wrap (R := R') (Y := Y) (n := m) (s₀ := s₀) (m := (model pw c.w).den c2) (K := .pure) (H := .raise) (gd := id) (lv := id) (wpAny_mono h (fun fin s' h' => by
    cases fin with
    | done f => exact h'
    | again c3 => exact seg_again h'.1 h'.2) fun _ _ h' => h')
  rwa [← Sem.bind_eq_wrap, Sem.bind_pure] at this
theorem seg_block {stmts : List PySem.Stmt} (h : ∀ H : Value → Sem Fin, Seg (model pw c.w) A R' Y m s₀ (.block stmts env) ((execs stmts env).wrap (fun f => .pure (.done f)) H id id) fs s) :
    Seg (model pw c.w) A R' Y m s₀ (.block stmts env) ((model pw c.w).den (.block stmts env)) fs s := by
  show Seg _ A R' Y m s₀ _ ((execs stmts env).onRaise (fun x => do noteFrame x env; theTreesLotGoes x) >>= fun f => (pure (.done f) : Sem Fin)) fs s
  rw [Sem.onRaise_eq_wrap, Sem.bind_eq_wrap', Sem.wrap_wrap]
  exact h _
/-- what is around a part -/
structure Room (n : Nat) (A : Around) (fs : List Frame) : Prop where
  hh : (marksOver fs (A.handled, A.handled)).1 = none
  depth : A.depth + frameCount (fs.map Frame.where_) + 5 * n ≤ 900
  units : A.units + unitsOf (fs.map Frame.where_) + 20 * n ≤ 5000
  split : splitAtGen fs = none
  guarded : fs.any Frame.guarded = false
theorem Room.ok (h : Room n A fs) (hw : c'.weight = 0) (hu : c'.cUnits = 0) : AOk n (A.over c' fs) :=
  ⟨h.hh, by have := h.depth; show A.depth + frameCount (fs.map Frame.where_) + c'.weight + 5 * n ≤ 900; omega, by have := h.units; show A.units + unitsOf (fs.map Frame.where_) + c'.cUnits + 20 * n ≤ 5000; omega⟩
theorem Room.push (h : Room n A fs) (hw : c'.weight = 0) (hu : c'.cUnits = 0) {kk l p kp} : Room n A (.ret kk none false l c' p kp :: fs) :=
  ⟨h.hh, by have := h.depth; show A.depth + frameCount ((c', p) :: fs.map Frame.where_) + 5 * n ≤ 900; rw [frameCount_cons]; omega, by have := h.units; show A.units + unitsOf ((c', p) :: fs.map Frame.where_) + 20 * n ≤ 5000; rw [unitsOf_cons]; omega,
    by show (splitAtGen fs).map _ = none; rw [h.split]; rfl, by rw [List.any_cons, h.guarded]; rfl⟩
theorem Room.first {n : Nat} {body : List PySem.Stmt} {kk l p kp} (h1 : A.handled = none) (h2 : A.depth + 1 + 5 * n ≤ 900) (h3 : A.units + 3 + 20 * n ≤ 5000) : Room n A [.ret kk none false l (.func body env) p kp] :=
  ⟨h1, by show A.depth + frameCount [(Code.func body env, p)] + 5 * n ≤ 900; rw [frameCount_cons]; exact h2, by show A.units + unitsOf [(Code.func body env, p)] + 20 * n ≤ 5000; rw [unitsOf_cons]; exact h3, rfl, rfl⟩
end seg

/-! ### the list that takes, the generator that gives -/
def lsS (vs : Array Value) (n : Nat) : Obj := ⟨.type "list", none, .seq vs n, #[]⟩
def withS (c : Cx) (S G : Addr) (og : Obj) (vs : Array Value) (n : Nat) : Cx := { c with kp := fun b o => c.kp b o ∨ (b = S ∧ o = lsS vs n) ∨ (b = G ∧ o = og) }
theorem R.keeps (r : R c fa φ σ s) {kp : Addr → Obj → Prop} (hk : ∀ b o, kp b o → s.heap.get? b = some o) (hn : ∀ a ∈ owns φ fa, ∀ o, ¬ kp a o) : R { c with kp := kp } fa φ σ s :=
  ⟨r.obj, r.frz, r.len, r.nod, r.lt, hn, hk, r.fr.mono fun _ _ x => ⟨x.lo, x.ce, x.co⟩, r.gens, r.dr, r.os⟩
variable {S G : Addr} {og : Obj} {vs : Array Value} {m : Nat}
theorem R.bare (r : R (withS c S G og vs m) fa φ σ s) : R c fa φ σ s := r.keeps (kp := c.kp) (fun b o h => r.keep b o (.inl h)) fun a ha o h => r.new a ha o (.inl h)
theorem R.dress (r : R c fa φ σ s) (hS : s.heap.get? S = some (lsS vs m)) (hG : s.heap.get? G = some og) (nS : S ∉ owns φ fa) (nG : G ∉ owns φ fa) : R (withS c S G og vs m) fa φ σ s :=
  r.keeps (fun b o h => by
    rcases h with h | ⟨rfl, rfl⟩ | ⟨rfl, rfl⟩
    · exact r.keep b o h
    · exact hS
    · exact hG) fun a ha o h => by
    rcases h with h | ⟨rfl, rfl⟩ | ⟨rfl, rfl⟩
    · exact r.new a ha o h
    · exact nS ha
    · exact nG ha
theorem R.theS (r : R (withS c S G og vs m) fa φ σ s) : s.heap.get? S = some (lsS vs m) ∧ S ∉ owns φ fa := ⟨r.keep S _ (.inr (.inl ⟨rfl, rfl⟩)), fun h => r.new S h _ (.inr (.inl ⟨rfl, rfl⟩))⟩
theorem R.theG (r : R (withS c S G og vs m) fa φ σ s) : s.heap.get? G = some og ∧ G ∉ owns φ fa := ⟨r.keep G _ (.inr (.inr ⟨rfl, rfl⟩)), fun h => r.new G h _ (.inr (.inr ⟨rfl, rfl⟩))⟩
theorem Base.with (B : Base c k) : Base (withS c S G og vs m) k := ⟨fun a o h => .inl (B.ks a o h), let ⟨vs, n, h, x⟩ := B.scr; ⟨vs, n, .inl h, x⟩, B.ln, B.mask, let ⟨o, h⟩ := B.sys; ⟨o, .inl h⟩, B.sz⟩
/-- the list has taken one more -/
theorem R.took (r : R (withS c S G og vs m) fa φ σ s) (hS : ∀ o, ¬ c.kp S o) (hSG : S ≠ G) {u : Value} (h1 : s'.heap = s.heap.update S (Obj.mapSeq (·.push u))) (h2 : s'.gens = s.gens) (h3 : s'.drawn = s.drawn) (h4 : s'.os = s.os) :
    ∃ m', R (withS c S G og (vs.push u) m') fa φ σ s' := by
  obtain ⟨eS, nS⟩ := r.theS
  obtain ⟨eG, nG⟩ := r.theG
  have sb : Heap.SameBut S s.heap (s.heap.update S (Obj.mapSeq (·.push u))) := Heap.SameBut.update _ _ _
  have r1 := (r.bare.away nS hS (obj_noTup eS (by simp [lsS])) sb).same (s' := s') h1 h2 h3 h4
  have hx : ∃ m', (lsS vs m).mapSeq (·.push u) = lsS (vs.push u) m' := ⟨_, rfl⟩
  obtain ⟨m', hx⟩ := hx
  refine ⟨m', r1.dress ?_ ?_ nS nG⟩
  · rw [h1, ← hx]; exact Heap.get?_update_self _ eS rfl
  · rw [h1]; exact (Heap.get?_update_other _ _ hSG).trans eG
end
end Mine
set_option maxRecDepth 100000
namespace Mine
noncomputable section
open PySem PySem.W PySem.W.X PyProof.Rows
variable {c : Cx} {k : FC} {f : FA} {fa : List FA} {φ : List Addr} {σ σ' τ : AS} {s s' : Shared} {A : Around} {o : Scope} {b : Bool} {env : Env} {n : Nat} {I : IP} {e : FE} {v : AV} {fl : Fl} {S G : Addr} {og : Obj} {vs : Array Value}

def YYp (S G : Addr) : Protocol := fun _ _ v s1 kap => s1.heap.IsGen G 0 ∧ s1.heap.NoLimit ∧ s1.gens = #[.running] ∧ (∃ vs n, s1.heap.get? S = some (lsS vs n) ∧ vs.size ≤ 1000) ∧
  ∀ s2 : Shared, s2.heap = s1.heap.update S (Obj.mapSeq (·.push v)) → s2.gens = s1.gens → s2.drawn = s1.drawn → s2.os = s1.os → kap (.send .none) s2
def RRp (Fin : Shared → Prop) : GenEnd := fun _ _ r s1 => r = .ok (.ret .none) ∧ Fin s1

/-- the generator's next item; at its end the heap has grown -/
theorem next_gen {Fin : Shared → Prop} {nn : Nat} {gs : GenState} {Q : Option Value → Shared → Prop} {E : Value → Shared → Prop} (hh : A.handled = none) (hl : s.heap.NoLimit) (hd : A.depth < 1000) (hG : s.heap.IsGen G 0) (hg : s.gens = #[gs])
    (hgo : gs.Goes (model pw c.w) A.in1 (RRp Fin) (YYp S G) nn (.send .none) (s.setGen 0 .running))
    (hY : ∀ v s₁ gs', YYp S G (nn - 1) (s.setGen 0 .running) v s₁ (fun r' s'' => match nn with | 0 => False | m + 1 => gs'.Goes (model pw c.w) A.in1 (RRp Fin) (YYp S G) m r' s'') → Q (some v) (s₁.setGen 0 gs'))
    (hF : ∀ s₁, Fin s₁ → ∀ h' : Heap, (∀ b o, s₁.heap.get? b = some o → h'.get? b = some o) → s₁.heap.objs.size ≤ h'.objs.size → Q none { s₁.setGen 0 .finished with heap := h' }) :
    wpAny (model pw c.w) A (PySem.pyNext (.ref G)) Q E s := by
  have hgs : s.gens[0]? = some gs := by rw [hg]; rfl
  have tail : ∀ s₁, Fin s₁ → ∀ h' : Heap, (∃ o₁ o₂, h' = (s₁.heap.push o₁).push o₂) → Q none { s₁.setGen 0 .finished with heap := h' } := by
    rintro s₁ hf h' ⟨o₁, o₂, rfl⟩
    refine hF s₁ hf _ (fun b o hb => Heap.get?_push_of_some _ (Heap.get?_push_of_some _ hb)) ?_
    rw [Heap.size_push, Heap.size_push]; omega
  unfold PySem.pyNext
  refine wpAny_bind (wpAny_attempt (wpAny_callSpecial?_slot (name := Str.ofString "__next__") hG.typeIs slot_gen_next (wpAny_call_entry slot_gen_next hG.typeIs entry_gen_next ?_ (args_gen_next _))))
  show wpAny _ _ (Builtin.Generator.genWake (.ref G) (.send .none)) _ _ s
  unfold Builtin.Generator.genWake
  refine wpAny_bind (wpAny_holding (wpAny_genNumber hG (wpAny_bind (wpAny_genState hgs ?_))))
  cases gs with
  | running => exact hgo.elim
  | finished => exact hgo.elim
  | _ =>
    refine wpAny_bind (wpAny_roomToWake hl hd ?_)
    show wpAny _ _ (.resume 0 (.send .none) [] _) _ _ s
    refine wpAny_resume hgs hgo (fun x s₁ hx => ?_) (fun v s₁ gs' hv => wpAny_pure ⟨v, rfl, wpAny_pure (hY v s₁ gs' hv)⟩)
    obtain ⟨rfl, hp⟩ := hx
    show wpAny _ _ (newExc (.type "StopIteration") [] >>= _) _ _ _
    unfold newExc newTuple
    refine wpAny_bind (wpAny_bind (wpAny_newObj_type (wpAny_bind (m := firstArgMember _ _) (wpAny_of_eq (a := Value.none) (by first | rfl | (simp only [firstArgMember]; rfl)) (wpAny_newObj_type ?_ (by size_fits)))) (by size_fits)))
    refine wpAny_bind (wpAny_raiseNew_none hh ?_)
    exact wpAny_bind (wpAny_isInstance (T := "StopIteration") (b := true) ⟨_, Heap.get?_push_size _ rfl, rfl⟩ isSubtype_stop (wpAny_pure (tail s₁ hp _ ⟨_, _, rfl⟩)))
/-- the list takes what the generator gives -/
theorem gen_loop {Fin : Shared → Prop} {Rk : Result → Shared → Prop} (hh : A.handled = none) (hd : A.depth < 1000) (hSG : S ≠ G) (hst : cStatics ≠ S)
    (fin : ∀ (s1 : Shared) (h' : Heap), Fin s1 → (∀ b o, s1.heap.get? b = some o → h'.get? b = some o) → s1.heap.objs.size ≤ h'.objs.size → Rk (.ok (.ret .none)) { s1.setGen 0 .finished with heap := h' }) :
    ∀ (nn : Nat) (gs : GenState) (s : Shared), s.heap.IsGen G 0 → s.heap.NoLimit → s.gens = #[gs] →
      gs.Goes (model pw c.w) A.in1.in1 (RRp Fin) (YYp S G) nn (.send .none) (s.setGen 0 .running) → codeAny (model pw c.w) A (.builtin "list.extend.loop" ⟨[.ref S, .ref G, .none], []⟩) Rk s := by
  intro nn
  induction nn with
  | zero =>
    intro gs s hG hl hg hgo
    refine codeAny_builtin PySem.F.entry_extend_loop ?_
    rw [Around.under_plainId PySem.F.plain_extend_loop _]
    show wpAny _ A.in1 (PySem.pyNext (.ref G) >>= _) _ _ s
    refine wpAny_bind (next_gen (Fin := Fin) (nn := 0) hh hl hd hG hg hgo (fun v s1 gs' hy => ?_) (fun s1 hp h' hk hz => wpAny_pure (fin s1 h' hp hk hz)))
    obtain ⟨_, _, _, _, hy⟩ := hy
    exact (hy { s1 with heap := s1.heap.update S (Obj.mapSeq (·.push v)) } rfl rfl rfl rfl).elim
  | succ nn ih =>
    intro gs s hG hl hg hgo
    refine codeAny_builtin PySem.F.entry_extend_loop ?_
    rw [Around.under_plainId PySem.F.plain_extend_loop _]
    show wpAny _ A.in1 (PySem.pyNext (.ref G) >>= _) _ _ s
    refine wpAny_bind (next_gen (Fin := Fin) (nn := nn + 1) hh hl hd hG hg hgo (fun v s1 gs' hy => ?_) (fun s1 hp h' hk hz => wpAny_pure (fin s1 h' hp hk hz)))
    obtain ⟨y1, y2, y3, ⟨vs, n, y4, y5⟩, hy⟩ := hy
    show wpAny _ A.in1 (updateSeq S (·.push v) >>= _) _ _ _
    have big : (1000 : Nat) ≤ sizeLine := by decide
    have hg1 : (s1.setGen 0 gs').gens = #[gs'] := by
      show s1.gens.setIfInBounds 0 gs' = _
      rw [y3]; rfl
    have sb := Heap.SameBut.update s1.heap S (Obj.mapSeq (·.push v))
    refine wpAny_bind (wpAny_updateSeq (s := s1.setGen 0 gs') y4 rfl (wpAny_pure ⟨plainId_quiet PySem.F.plain_extend_loop _, ih gs' _ (y1.sameBut sb hSG.symm) ?_ hg1 ?_⟩) (by omega) (by show (vs.push v).size ≤ sizeLine + 1; rw [Array.size_push]; omega))
    · exact y2.sameBut sb hst
    · refine hy _ rfl ?_ rfl rfl
      show (s1.setGen 0 gs').gens.setIfInBounds 0 _ = _
      rw [hg1, y3]; rfl

/-! ### the text of the generator -/
def gB : GP := match genParts b_BacktrackingSolver_getSolutionIter with | some g => g | none => ⟨[], [], (0, false), .cNone 0 ⟨0, 0, 0, 0⟩, [], .cNone 0 ⟨0, 0, 0, 0⟩, [], []⟩
def gFor : FS := .forN gB.x.1 ⟨111,16,111,20⟩ gB.x.2 gB.it gB.body (.yld gB.y ⟨121,16,121,40⟩ ⟨121,16,121,40⟩ :: gB.els) ⟨111,12,127,41⟩
def gBody : List FS := gB.a ++ gFor :: gB.z
theorem gB_eq : genParts b_BacktrackingSolver_getSolutionIter = some gB := by rfl
theorem gB_body : b_BacktrackingSolver_getSolutionIter = gB.h ++ [.whl (.cBool true 0 ⟨108,14,108,18⟩) gBody [] ⟨108,8,153,57⟩, .opq (opqS 5 [4])] := by rfl
theorem gB_fn : lk fnT 169 = some ⟨[1, 23, 24, 25], [], [23, 25, 35, 2], b_BacktrackingSolver_getSolutionIter, 5⟩ := by rfl
theorem gB_wf : (gB.h.all (wfS 30 (scp 5)) && gB.a.all (wfS 29 (scp 5)) && okN (scp 5) gB.x.1 gB.x.2 && wfE 28 (scp 5) gB.it && gB.body.all (wfS 28 (scp 5)) && wfE 27 (scp 5) gB.y && gB.els.all (wfS 28 (scp 5)) && gB.z.all (wfS 29 (scp 5))) = true := by decide +kernel
end
end Mine
set_option maxRecDepth 100000
namespace Mine
noncomputable section
open PySem PySem.W PySem.W.X PyProof.Rows
variable {c : Cx} {k : FC} {f : FA} {fa : List FA} {φ : List Addr} {σ σ' τ : AS} {s s' : Shared} {A : Around} {o : Scope} {b : Bool} {env : Env} {n : Nat} {I : IP} {e : FE} {v : AV} {fl : Fl} {S G : Addr} {og : Obj} {vs : Array Value}

theorem noneV_eq {v : AV} (h : noneV v = true) : v = .none := by cases v <;> first | rfl | cases h
theorem flG_eq {α : Type} {fl : Fl} {x y : AS → Res (List AV)} {σ : AS} {z : List AV × AS} (h : flG fl x y σ = some z) : (fl = .next ∧ x σ = some z) ∨ (fl = .ret .none ∧ y σ = some z) := by
  cases fl with
  | next => exact .inl ⟨rfl, h⟩
  | brk => cases h
  | ret v =>
    replace h : (br (noneV v) y (fun _ => none)) σ = some z := h
    cases e : noneV v with
    | false => rw [e] at h; cases h
    | true => rw [e] at h; obtain rfl := noneV_eq e; exact .inr ⟨rfl, h⟩
def wCode (env : Env) : Code := .whileLoop (trE 29 (.cBool true 0 ⟨108,14,108,18⟩)) (gBody.map (trS 29)) [] env
theorem seg_exs (B : Base c k) (SS : ∀ c', Base c' k → SndI c' n I) {R' : GenEnd} {Y : Protocol} {m : Nat} {s₀ : Shared} {c' : Code} {fs : List Frame} {K : Flow → Sem Fin} {H : Value → Sem Fin} {gd : Bool → Bool} {lv : List Value → List Value}
    (hA : AOk n (A.over c' fs)) (E0 : EnvOk (scp 5) f false env) (hC : f.C = none) {mm m' : Nat} {l : List FS} (w : l.all (wfS mm (scp 5)) = true) (h : I.exs l σ = some (fl, σ')) (r : R (withS c S G og vs m') (f :: fa) φ σ s)
    (q : ∀ φ' s' x, φ <+: φ' → R (withS c S G og vs m') (f :: fa) φ' σ' s' → FlR c φ' fl x → Seg (model pw c.w) A R' Y m s₀ c' (K x) fs s') : Seg (model pw c.w) A R' Y m s₀ c' ((execs (l.map (trS mm)) env).wrap K H gd lv) fs s :=
  seg_wrap ((SS _ (B.with (S := S) (G := G) (og := og) (vs := vs) (m := m'))).exs hA E0 hC w h _ _ s r fun φ' s' x p r' hx => q φ' s' x p r' (by cases fl <;> exact hx))

theorem seg_turns (B : Base c k) (SS : ∀ c', Base c' k → SndI c' n I) (E0 : EnvOk (scp 5) f false env) (hC : f.C = none) {fs : List Frame} (rm : Room n A fs) {Fn : Shared → Prop} (hS : ∀ o, ¬ c.kp S o) (hSG : S ≠ G) (hog : ∀ h : Heap, h.get? G = some og → h.IsGen G 0)
    (stop : ∀ m s₀ s', Fn s' → Seg (model pw c.w) A (RRp Fn) (YYp S G) m s₀ (wCode env) (.pure (.done (.ret .none))) fs s') :
    ∀ (N : Nat) (acc : List AV) (φ : List Addr) (σ : AS) (vs : Array Value) (m' : Nat) (s : Shared) (m : Nat) (s₀ : Shared) (acc' : List AV) (σ' : AS), N ≤ m → gloop I gB N acc σ = some (acc', σ') → All2 (VR c φ) acc vs.toList → acc.length + N ≤ 60 →
      R (withS c S G og vs m') (f :: fa) φ σ s → (∀ φ' vs' m'' s', φ <+: φ' → R (withS c S G og vs' m'') (f :: fa) φ' σ' s' → All2 (VR c φ') acc' vs'.toList → Fn s') →
      Seg (model pw c.w) A (RRp Fn) (YYp S G) m s₀ (wCode env) ((model pw c.w).den (wCode env)) fs s := by
  have hw := gB_wf
  simp only [Bool.and_eq_true] at hw
  obtain ⟨⟨⟨⟨⟨⟨⟨w1, w2⟩, w3⟩, w4⟩, w5⟩, w6⟩, w7⟩, w8⟩ := hw
  intro N
  induction N with
  | zero => intro acc φ σ vs m' s m s₀ acc' σ' _ h; cases h
  | succ N ih =>
    intro acc φ σ vs m' s m s₀ acc' σ' hm h hacc hlen r fin
    obtain ⟨m, rfl⟩ : ∃ m1, m = m1 + 1 := ⟨m - 1, by omega⟩
    have hAW : AOk n (A.over (wCode env) fs) := rm.ok (by rfl) (by rfl)
    -- behind the for: the rest of the turn, the turns to come
    have zed : ∀ (acc : List AV) (φ : List Addr) (σ : AS) (vs : Array Value) (m' : Nat) (s : Shared) (m : Nat) (s₀ : Shared), N ≤ m → (bnd (I.exs gB.z σ) fun f σ => flG f (fun σ => gloop I gB N acc σ) (ret acc) σ) = some (acc', σ') →
        All2 (VR c φ) acc vs.toList → acc.length + N ≤ 60 → R (withS c S G og vs m') (f :: fa) φ σ s → (∀ φ' vs' m'' s', φ <+: φ' → R (withS c S G og vs' m'') (f :: fa) φ' σ' s' → All2 (VR c φ') acc' vs'.toList → Fn s') → ∀ H,
        Seg (model pw c.w) A (RRp Fn) (YYp S G) m s₀ (wCode env) ((execs (gB.z.map (trS 29)) env).wrap (fun f => match f with
            | .next | .cont => .pure (.again (wCode env))
            | .brk => .pure (.done .next)
            | .ret v => .pure (.done (.ret v))) H id id) fs s := by
      intro acc φ σ vs m' s m s₀ hm h hacc hlen r fin H
      obtain ⟨fl, σ1, h1, h2⟩ := bnd_eq h
      refine seg_exs B SS hAW E0 hC w8 h1 r fun φ1 s1 x p1 r1 hx => ?_
      rcases flG_eq (α := Nat) h2 with ⟨rfl, h3⟩ | ⟨rfl, h3⟩
      · obtain rfl := hx
        exact seg_again (by rfl) (ih acc φ1 σ1 vs m' s1 m s₀ acc' σ' hm h3 (vrs_mono p1 hacc) hlen r1 fun φ' vs' m'' s' p => fin φ' vs' m'' s' (p1.trans p))
      · obtain ⟨u, rfl, hu⟩ := hx
        obtain rfl : u = .none := hu
        obtain ⟨rfl, rfl⟩ := ret_eq h3
        exact stop m s₀ s1 (fin φ1 vs m' s1 p1 r1 (vrs_mono p1 hacc))
    obtain ⟨f1, σ1, h1, h2⟩ := bnd_eq (show bnd (I.exs gB.a σ) (fun f σ => flG f (fun σ => bnd (I.ev gB.it false σ) fun v σ => bnd (pyIter v σ) fun j σ =>
      bnd (I.lp [gB.x] false j gB.body σ) fun f σ => gturn I gB (gloop I gB N) acc f σ) (fun _ => none) σ) = some (acc', σ') from h)
    refine seg_whileLoop ?_
    refine wpAny_isTrue_value (wpAny_Constant_bool (wpAny_truthy_bool ?_)) (by rfl)
    rw [if_pos rfl]
    show Seg _ _ _ _ _ _ _ ((execs (gBody.map (trS 29)) env).wrap _ _ id id) fs s
    unfold gBody
    rw [List.map_append, execs_app_wrap]
    refine seg_exs B SS hAW E0 hC w2 h1 r fun φ1 s1 x p1 r1 hx => ?_
    rcases flG_eq (α := Nat) h2 with ⟨rfl, h3⟩ | ⟨_, h3⟩
    rotate_left
    · cases h3
    obtain rfl := hx
    obtain ⟨v1, σ2, h4, h5⟩ := bnd_eq h3
    obtain ⟨j, σ3, h6, h7⟩ := bnd_eq h5
    obtain ⟨f2, σ4, h8, h9⟩ := bnd_eq h7
    show Seg _ _ _ _ _ _ _ ((execs (trS 29 gFor :: gB.z.map (trS 29)) env).wrap _ _ id id) fs s1
    rw [execs_cons_wrap]
    show Seg _ _ _ _ _ _ _ ((exec (.For (.Name (nm gB.x.1) ⟨111,16,111,20⟩) (trE 28 gB.it) (gB.body.map (trS 28)) ((.yld gB.y ⟨121,16,121,40⟩ ⟨121,16,121,40⟩ :: gB.els).map (trS 28)) ⟨111,12,127,41⟩) env).wrap _ _ id id) fs s1
    rw [exec_For]
    refine seg_bindw (wpAny_standAt (seg_bindw ?_))
    refine (SS _ B.with).ev hAW E0 (fun _ => hC) w4 h4 _ _ s1 r1 fun φ2 s2 u2 p2 r2 hu2 => ?_
    refine seg_bindw (wpAny_of_eq (tr_noset w4 env u2) (seg_bindw (wpAny_standAt (seg_bindw (wpAny_holding ?_)))))
    refine ok_pyIter B.with h6 hu2 _ _ s2 r2 fun φ3 s3 x3 p3 r3 hx3 => ?_
    obtain ⟨a, ha, rfl⟩ := hx3
    refine seg_runOwn fun p => ?_
    have rm1 : ∀ {kk l}, Room n A (.ret kk none false l (wCode env) p [] :: fs) := rm.push (by rfl) (by rfl)
    have P3 := (p1.trans p2).trans p3
    refine (SS _ B.with).lp (rm1.ok (by rfl) (by rfl)) E0 hC (.name gB.x.1 ⟨111,16,111,20⟩ gB.x.2) (show (okN (scp 5) gB.x.1 gB.x.2 && true) = true by rw [w3]; rfl) w5 h8 ha (seg_one _) r3 ?_
    cases f2 with
    | next =>
      intro φ4 s4 p4 r4
      refine seg_block fun H => ?_
      show Seg _ _ _ _ _ _ _ ((execs (trS 28 (.yld gB.y ⟨121,16,121,40⟩ ⟨121,16,121,40⟩) :: gB.els.map (trS 28)) env).wrap _ _ id id) _ s4
      refine seg_execs_cons ?_
      obtain ⟨y, σ5, h10, h11⟩ := bnd_eq (show bnd (I.ev gB.y false σ4) (fun y σ => br (Nat.beq σ.g 1) (grest I gB (gloop I gB N) (acc ++ [y]) σ) none) = some (acc', σ') from h9)
      obtain ⟨hg, h12⟩ := br_none h11
      obtain ⟨f3, σ6, h13, h14⟩ := bnd_eq (show bnd (I.exs gB.els σ5) (fun f σ => flG f (fun σ => bnd (I.exs gB.z σ) fun f σ => flG f (fun σ => gloop I gB N (acc ++ [y]) σ) (ret (acc ++ [y])) σ) (ret (acc ++ [y])) σ) = some (acc', σ') from h12)
      refine seg_Expr_Yield rm1.split rfl rm1.guarded ?_ (by rw [E0.sc]; rfl) (interactive_no E0)
      refine (SS _ B.with).ev (rm1.ok (by rfl) (by rfl)) E0 (fun _ => hC) w6 h10 _ _ s4 r4 fun φ5 s5 u5 p5 r5 hu5 => fun kap hk => ?_
      have P5 := (P3.trans p4).trans p5
      have hvs := hacc.length
      have hsz : vs.size = acc.length := by rw [hvs]; simp
      refine ⟨hog _ r5.theG.1, ks_noLimit (r5.ks B.with), ?_, ⟨vs, m', r5.theS.1, by omega⟩, fun s6 e1 e2 e3 e4 => hk .none s6 ?_⟩
      · rw [r5.gens, nbeq hg]; rfl
      obtain ⟨m2, r6⟩ := r5.took hS hSG e1 e2 e3 e4
      have hacc2 : All2 (VR c φ5) (acc ++ [y]) (vs.push u5).toList := by
        rw [Array.toList_push]; exact (vrs_mono P5 hacc).append (.cons hu5 .nil)
      have hlen2 : (acc ++ [y]).length + N ≤ 60 := by rw [List.length_append, List.length_singleton]; omega
      refine seg_exs B SS (rm1.ok (by rfl) (by rfl)) E0 hC w7 h13 r6 fun φ7 s7 x p7 r7 hx => ?_
      rcases flG_eq (α := Nat) h14 with ⟨rfl, h15⟩ | ⟨rfl, h15⟩
      · obtain rfl := hx
        refine seg_back ?_
        exact zed _ φ7 σ6 _ m2 s7 m s6 (by omega) h15 (vrs_mono p7 hacc2) hlen2 r7 (fun φ' vs' m'' s' p => fin φ' vs' m'' s' ((P5.trans p7).trans p)) _
      · obtain ⟨u, rfl, hu⟩ := hx
        obtain rfl : u = .none := hu
        obtain ⟨rfl, rfl⟩ := ret_eq h15
        refine seg_back ?_
        exact stop m s6 s7 (fin φ7 _ m2 s7 (P5.trans p7) r7 (vrs_mono p7 hacc2))
    | brk =>
      intro φ4 s4 p4 r4
      refine seg_back ?_
      exact zed acc φ4 σ4 vs m' s4 (m + 1) s₀ (by omega) h9 (vrs_mono (P3.trans p4) hacc) (by omega) r4 (fun φ' vs' m'' s' p => fin φ' vs' m'' s' ((P3.trans p4).trans p)) _
    | ret v => cases h9
end
end Mine
set_option maxRecDepth 100000
namespace Mine
noncomputable section
open PySem PySem.W PySem.W.X PyProof.Rows
variable {c : Cx} {k : FC} {f : FA} {fa : List FA} {φ : List Addr} {σ σ' τ : AS} {s s' : Shared} {A : Around} {o : Scope} {b : Bool} {env : Env} {n : Nat} {I : IP} {e : FE} {v : AV} {fl : Fl} {S G : Addr} {og : Obj} {vs : Array Value}

theorem Room.of (h1 : A.handled = none) (h2 : A.depth + 1 + 5 * n ≤ 900) (h3 : A.units + 3 + 20 * n ≤ 5000) (body : List PySem.Stmt) : AOk n (A.over (.func body env) []) := ⟨h1, h2, h3⟩
/-- the generator, from its start -/
theorem seg_gen (B : Base c k) (SS : ∀ c', Base c' k → SndI c' n I) (E0 : EnvOk (scp 5) f false env) (hC : f.C = none) (h1 : A.handled = none) (h2 : A.depth + 1 + 5 * n ≤ 900) (h3 : A.units + 3 + 20 * n ≤ 5000) {Fn : Shared → Prop} (hS : ∀ o, ¬ c.kp S o) (hSG : S ≠ G)
    (hog : ∀ h : Heap, h.get? G = some og → h.IsGen G 0) {s₀ : Shared} {m' : Nat} {acc' : List AV} {σ1 : AS} (h : bnd (I.exs gB.h σ) (fun f σ => flG f (fun σ => gloop I gB 60 [] σ) (fun _ => none) σ) = some (acc', σ1))
    (r : R (withS c S G og #[] m') (f :: fa) φ σ s) (fin : ∀ φ' vs' m'' s', φ <+: φ' → R (withS c S G og vs' m'') (f :: fa) φ' σ1 s' → All2 (VR c φ') acc' vs'.toList → Fn s') :
    Seg (model pw c.w) A (RRp Fn) (YYp S G) 60 s₀ (.func (b_BacktrackingSolver_getSolutionIter.map (trS 30)) env) ((model pw c.w).den (.func (b_BacktrackingSolver_getSolutionIter.map (trS 30)) env)) [] s := by
  have hw := gB_wf
  simp only [Bool.and_eq_true] at hw
  obtain ⟨⟨⟨⟨⟨⟨⟨w1, w2⟩, w3⟩, w4⟩, w5⟩, w6⟩, w7⟩, w8⟩ := hw
  refine seg_func ?_
  rw [gB_body, List.map_append, execs_app_wrap]
  obtain ⟨f1, σ2, h4, h5⟩ := bnd_eq h
  refine seg_exs B SS (Room.of h1 h2 h3 _) E0 hC w1 h4 r fun φ1 s1 x p1 r1 hx => ?_
  rcases flG_eq (α := Nat) h5 with ⟨rfl, h6⟩ | ⟨_, h6⟩
  rotate_left
  · cases h6
  obtain rfl := hx
  refine seg_execs_cons ?_
  refine seg_While fun p => ?_
  refine seg_turns B SS E0 hC (Room.first h1 h2 h3) hS hSG hog (fun m s₀ s' hf => ?_) 60 [] φ1 σ2 #[] m' s1 60 s₀ acc' σ1 (Nat.le_refl _) h6 .nil (by decide) r1 fun φ' vs' m'' s' p => fin φ' vs' m'' s' (p1.trans p)
  refine seg_leaf (.ok (.ret .none)) ?_
  exact seg_end (.ok (.ret .none)) ⟨rfl, hf⟩

/-- a def is called: its frame stands -/
theorem okc_enter {n : Nat} (B : Base c k) (hA : AOk (n + 1) A) {a : Nat} {fi : FnI} (e : lk fnT a = some fi) (hgen : (scp fi.sc).isGenerator = false) {args : List AV} {fr : FM} (h : bindFn fi args = some fr) {us : List Value} (hv : All2 (VR c φ) args us)
    {Q : Value → Shared → Prop} {E : Value → Shared → Prop} (r : R c fa φ σ s)
    (hbody : ∀ f env s1 E', f.C = none → EnvOk (scp fi.sc) f false env → R c (f :: fa) φ (σ.push fr) s1 → wpAny (model pw c.w) (A.deeper env) (execs (fi.body.map (trS 30)) env) (fun x s' => Q (match x with | .ret v => v | _ => .none) s') E' s1) :
    codeAny (model pw c.w) A (.call (.ref a) ⟨us, []⟩) (fun r s' => match r with | .ok (.ret v) => Q v s' | .ok _ => False | .error e => E e s') s := by
  obtain ⟨D, hbd⟩ := fn_ok c e
  obtain ⟨bs, binds, hbi, hb, rfl, hbs⟩ := hbd φ s (r.ks B) h hv
  have X := r.ks B
  have hfi := lk_in e
  have hpar : parOk fi = true := List.all_eq_true.mp par_all _ hfi
  have hnd : (bs.map (·.1)).Nodup := by
    have hbs : bs.map (·.1) = fi.params := hbs
    rw [hbs]
    unfold parOk at hpar
    simp only [Bool.and_eq_true, decide_eq_true_eq] at hpar
    exact hpar.1.1.1.1
  have hsub : ∀ p ∈ bs, p.1 ∈ fi.params := fun p hp => by
    have hbs : bs.map (·.1) = fi.params := hbs
    rw [← hbs]; exact List.mem_map.mpr ⟨p, hp, rfl⟩
  refine codeAny_call_function (fd := fdA c.w.params a) (o := obA c.w.params a) (by have := hA.depth; show A.depth < 1000; omega) (X _ _ D.look) D.data (by rw [D.scope]; exact D.co) (by rw [D.scope]; exact hgen) D.body (codeRec_of X D.code) (hbi.b _ _ _ _ ?_)
  rw [D.scope, D.glo, D.clo, D.bui]
  refine wpAny_with_size (wpAny_newFunctionEnv_cells D.kind (fun x hx => ?_) (fun env henv s1 hin hs => ⟨ks_noLimit (X.keeps hin.toInCall.keep), codeAny_func ?_⟩))
  · exact binds_kind hfi hb hsub _ x hx
  · obtain ⟨f, hf, he, r1⟩ := frame_new r hfi hb hnd hsub henv hin hs D.kind
    exact hbody f env s1 _ hf he r1
/-- the generator's def is called: its object stands -/
theorem okc_gen {n : Nat} (B : Base c k) (hA : AOk n A) {args : List AV} {fr : FM} (h : bindFn ⟨[1, 23, 24, 25], [], [23, 25, 35, 2], b_BacktrackingSolver_getSolutionIter, 5⟩ args = some fr) {us : List Value} (hv : All2 (VR c φ) args us)
    {Q : Value → Shared → Prop} {E : Value → Shared → Prop} (r : R c fa φ σ s)
    (hq : ∀ f env s1 nm qn tk, f.C = none → EnvOk (scp 5) f false env → R c (f :: fa) φ (σ.push fr) s1 → Q (.ref s1.heap.objs.size) { s1 with gens := s1.gens.push (.fresh (.func (b_BacktrackingSolver_getSolutionIter.map (trS 30)) env)), toks := tk, heap := s1.heap.push { cls := .type "generator", data := .fields #[.int s1.gens.size 0, nm, qn] } }) :
    codeAny (model pw c.w) A (.call (.ref 169) ⟨us, []⟩) (fun r s' => match r with | .ok (.ret v) => Q v s' | .ok _ => False | .error e => E e s') s := by
  have e := gB_fn
  obtain ⟨D, hbd⟩ := fn_ok c e
  obtain ⟨bs, binds, hbi, hb, rfl, hbs⟩ := hbd φ s (r.ks B) h hv
  have X := r.ks B
  have hfi := lk_in e
  have hpar : parOk _ = true := List.all_eq_true.mp par_all _ hfi
  have hnd : (bs.map (·.1)).Nodup := by
    have hbs : bs.map (·.1) = [1, 23, 24, 25] := hbs
    rw [hbs]; decide
  have hsub : ∀ p ∈ bs, p.1 ∈ [1, 23, 24, 25] := fun p hp => by
    have hbs : bs.map (·.1) = [1, 23, 24, 25] := hbs
    rw [← hbs]; exact List.mem_map.mpr ⟨p, hp, rfl⟩
  refine codeAny_call_generator (fd := fdA c.w.params 169) (o := obA c.w.params 169) (by have := hA.depth; show A.depth < 1000; omega) (X _ _ D.look) D.data (by rw [D.scope]; exact D.co) (by rw [D.scope]; decide +kernel) D.body (codeRec_of X D.code) (hbi.b _ _ _ _ ?_)
  rw [D.scope, D.glo, D.clo, D.bui]
  refine wpAny_with_size (wpAny_newFunctionEnv_cells D.kind (fun x hx => ?_) (fun env henv s1 hin hs => ⟨ks_noLimit (X.keeps hin.toInCall.keep), ?_⟩))
  · exact binds_kind hfi hb hsub _ x hx
  · obtain ⟨f, hf, he, r1⟩ := frame_new r hfi hb hnd hsub henv hin hs D.kind
    exact hq f env s1 _ _ _ hf he r1
end
end Mine
set_option maxRecDepth 100000
namespace Mine
noncomputable section
open PySem PySem.W PySem.W.X PyProof.Rows
variable {c : Cx} {k : FC} {f : FA} {fa : List FA} {φ : List Addr} {σ σ' τ : AS} {s s' : Shared} {A : Around} {o : Scope} {b : Bool} {env : Env} {n : Nat} {I : IP} {e : FE} {v : AV} {fl : Fl} {S G : Addr} {og : Obj} {vs : Array Value}

theorem R.regen (r : R c fa φ σ s) {g : Nat} (k : ∀ b o, s.heap.get? b = some o → s'.heap.get? b = some o) (hs : s.heap.objs.size ≤ s'.heap.objs.size) (hg : s'.gens = gensOf g) (hd : s'.drawn = s.drawn) (ho : s'.os = s.os) : R c fa φ (σ.gen g) s' := by
  have r1 := r.grow (s' := { s' with gens := s.gens }) ⟨k, hs, rfl, hd, ho⟩
  exact ⟨r1.obj, r1.frz, r1.len, r1.nod, r1.lt, r1.new, r1.keep, r1.fr, hg, r1.dr, r1.os⟩
theorem ltN {h : Heap} {a : Nat} {o : Obj} (e : h.get? a = some o) : a < h.objs.size := Heap.lt_size e
def gobj (nm qn : Value) : Obj := { cls := .type "generator", data := .fields #[.int 0 0, nm, qn] }
theorem list_gen (B : Base c k) (SS : ∀ c', Base c' k → SndI c' n I) (hh : A.handled = none) (h2 : A.depth + 1 + 5 * n ≤ 900) (h3 : A.units + 6 + 20 * n ≤ 5000) {s1 : Shared} {fr : FM} (E0 : EnvOk (scp 5) f false env) (hC : f.C = none) (r1 : R c (f :: fa) φ (σ.push fr) s1) (hg0 : σ.g = 0)
    {nm qn : Value} {tk : Nat} {acc' : List AV} {σ1 σp : AS} (h : bnd (I.exs gB.h ((σ.push fr).gen 1)) (fun f σ => flG f (fun σ => gloop I gB 60 [] σ) (fun _ => none) σ) = some (acc', σ1)) (hp : σ1.pop = some σp) (hg1 : σp.g = 1) (hl : acc'.length < 1000) {Q : Value → Shared → Prop} {E : Value → Shared → Prop}
    (q : ∀ φ' s' S, φ <+: φ' → R c fa (φ' ++ [S]) ((σp.gen 2).new (.list acc')) s' → (φ' ++ [S])[σp.m]? = some S → Q (.ref S) s') :
    wpAny (model pw c.w) A (call (.type "list") [.ref s1.heap.objs.size]) Q E
      { s1 with gens := s1.gens.push (.fresh (.func (b_BacktrackingSolver_getSolutionIter.map (trS 30)) env)), toks := tk, heap := s1.heap.push { cls := .type "generator", data := .fields #[.int s1.gens.size 0, nm, qn] } } := by
  have hgens : s1.gens = #[] := by rw [r1.gens, show (σ.push fr).g = σ.g from rfl, hg0]; rfl
  generalize hs3 : ({ s1 with gens := s1.gens.push (.fresh (.func (b_BacktrackingSolver_getSolutionIter.map (trS 30)) env)), toks := tk, heap := s1.heap.push { cls := .type "generator", data := .fields #[.int s1.gens.size 0, nm, qn] } } : Shared) = s3
  generalize hG : s1.heap.objs.size = G
  have h3h : s3.heap = s1.heap.push (gobj nm qn) := by rw [← hs3]; show s1.heap.push _ = _; rw [hgens]; rfl
  have h3g : s3.gens = #[.fresh (.func (b_BacktrackingSolver_getSolutionIter.map (trS 30)) env)] := by rw [← hs3]; show s1.gens.push _ = _; rw [hgens]; rfl
  have h3d : s3.drawn = s1.drawn := by rw [← hs3]
  have h3o : s3.os = s1.os := by rw [← hs3]
  have hGo : s3.heap.get? G = some (gobj nm qn) := by rw [h3h, ← hG]; exact Heap.get?_push_size _ rfl
  have hGlt : G < s3.heap.objs.size := ltN hGo
  have hog : ∀ h : Heap, h.get? G = some (gobj nm qn) → h.IsGen G 0 := fun h e => ⟨_, nm, qn, e, rfl, rfl, rfl⟩
  have nl1 : s3.heap.NoLimit := by
    refine ks_noLimit (P := c.w.params) fun a o e => ?_
    rw [h3h]; exact Heap.get?_push_of_some _ (r1.ks B a o e)
  have keep3 : ∀ b o, s1.heap.get? b = some o → s3.heap.get? b = some o := fun b o e => by rw [h3h]; exact Heap.get?_push_of_some _ e
  refine callType_codes (Q₁ := fun obj s₁ => obj = .ref s3.heap.objs.size ∧ s₁ = { s3 with heap := s3.heap.push { cls := .type "list", data := .seq #[] } }) PySem.F.called_list (PySem.F.typeCall_list_1 _) PySem.F.entry_list_init (code_list_new _ ⟨rfl, rfl⟩) fun obj s₁ h₁ => ?_
  obtain ⟨rfl, rfl⟩ := h₁
  generalize hSa : s3.heap.objs.size = S
  have hS0 : (s3.heap.push { cls := .type "list", data := .seq #[] }).get? S = some { cls := .type "list", data := .seq #[] } := by rw [← hSa]; exact Heap.get?_push_size _ rfl
  have hSG : S ≠ G := by omega
  refine ⟨⟨_, hS0, rfl⟩, PySem.F.args_list_init_2 _ _, ?_⟩
  show wpAny _ _ (do let old ← Builtin.List.listItems (.ref S); Builtin.List.listUpdate (.ref S) (fun _ => #[]); letGo old.toList.reverse; Builtin.List.listExtendWith (.ref S) (.ref G) .none) _ _ _
  refine wpAny_bind ?_
  unfold Builtin.List.listItems
  refine wpAny_bind (wpAny_seqItems hS0 rfl (wpAny_pure ?_))
  show wpAny _ _ (updateSeq S (fun _ => #[]) >>= fun _ => letGo (#[] : Array Value).toList.reverse >>= fun _ => Builtin.List.listExtendWith (.ref S) (.ref G) .none) _ _ _
  refine wpAny_bind (wpAny_updateSeq hS0 rfl ?_)
  have hS1 := Heap.get?_update_self (Obj.mapSeq (fun _ => (#[] : Array Value))) hS0 rfl
  refine wpAny_bind (wpAny_letGo ?_)
  have oth1 : ∀ b o, b ≠ S → s3.heap.get? b = some o → ((s3.heap.push { cls := .type "list", data := .seq #[] }).update S (Obj.mapSeq (fun _ => (#[] : Array Value)))).get? b = some o :=
    fun b o hb e => (Heap.get?_update_other _ _ (Ne.symm hb)).trans (Heap.get?_push_of_some _ e)
  have hG1 := hog _ (oth1 G _ hSG.symm hGo)
  unfold Builtin.List.listExtendWith
  refine wpAny_bind (wpAny_typeOf hG1.typeIs ?_)
  have e1 : Builtin.List.listSameRef (.ref S) (.ref G) = false := by simp [Builtin.List.listSameRef, hSG]
  have e2 : (Value.type "generator" == Value.type "list") = false := by decide
  have e3 : (Value.type "generator" == Value.type "tuple") = false := by decide
  simp only [e1, e2, e3, Bool.or_false, Bool.false_eq_true, if_false]
  refine wpAny_bind (wpAny_pyIter_gen hG1 ?_)
  refine wpAny_bind (wpAny_holding ?_)
  unfold Builtin.List.listLengthHint
  refine wpAny_bind (wpAny_specialOf hG1.typeIs PySem.F.gen_no_len ?_)
  show wpAny _ _ (specialOf (Value.ref G) (Str.ofString "__length_hint__") >>= _) _ _ _
  refine wpAny_bind (wpAny_specialOf hG1.typeIs PySem.F.gen_no_hint ?_)
  refine wpAny_pure ?_
  show wpAny _ _ (rule "list.extend.makes-room" >>= fun _ => Builtin.List.listTouch (.ref S) >>= fun _ => again (.builtin "list.extend.loop" ⟨[.ref S, .ref G, .none], []⟩)) _ _ _
  refine wpAny_bind (wpAny_rule ?_)
  refine wpAny_bind ?_
  show wpAny _ _ (updateSeq S (·.push .none) >>= fun _ => updateSeq S (·.pop)) _ _ _
  refine wpAny_bind (wpAny_updateSeq hS1 rfl ?_ (by size_fits) (by seq_fits))
  have hS2 := Heap.get?_update_self (Obj.mapSeq (·.push Value.none)) hS1 rfl
  refine wpAny_updateSeq (hz := by seq_fits) hS2 rfl ?_
  have hS3 := Heap.get?_update_self (Obj.mapSeq (·.pop)) hS2 rfl
  have oth3 : ∀ b o, b ≠ S → s3.heap.get? b = some o → ((((s3.heap.push { cls := .type "list", data := .seq #[] }).update S (Obj.mapSeq (fun _ => (#[] : Array Value)))).update S (Obj.mapSeq (·.push Value.none))).update S (Obj.mapSeq (·.pop))).get? b = some o :=
    fun b o hb e => (Heap.get?_update_other _ _ (Ne.symm hb)).trans ((Heap.get?_update_other _ _ (Ne.symm hb)).trans (oth1 b o hb e))
  have hx : ∃ m', ((({ cls := .type "list", data := .seq #[] } : Obj).mapSeq (fun _ => (#[] : Array Value))).mapSeq (·.push Value.none)).mapSeq (·.pop) = lsS #[] m' := ⟨_, rfl⟩
  obtain ⟨m', hx⟩ := hx
  rw [hx] at hS3
  have hsz3 : s3.heap.objs.size ≤ ((((s3.heap.push { cls := .type "list", data := .seq #[] }).update S (Obj.mapSeq (fun _ => (#[] : Array Value)))).update S (Obj.mapSeq (·.push Value.none))).update S (Obj.mapSeq (·.pop))).objs.size := by
    have := ltN hS3; omega
  generalize ((((s3.heap.push { cls := .type "list", data := .seq #[] }).update S (Obj.mapSeq (fun _ => (#[] : Array Value)))).update S (Obj.mapSeq (·.push Value.none))).update S (Obj.mapSeq (·.pop))) = h5 at hS3 oth3 hsz3 ⊢
  have kp5 : ∀ b o, s3.heap.get? b = some o → h5.get? b = some o := fun b o e => oth3 b o (Nat.ne_of_lt (hSa ▸ ltN e)) e
  have hS0k : ∀ o, ¬ c.kp S o := fun o q => by
    have := ltN (keep3 _ _ (r1.keep S o q)); omega
  have hst : cStatics ≠ S := fun e => by
    obtain ⟨m, ⟨o, es, ep, ho, _⟩, _⟩ := nl1
    rw [e] at ho
    have h0 := ltN ho
    omega
  have sz13 : s1.heap.objs.size ≤ s3.heap.objs.size := by rw [h3h, Heap.size_push]; omega
  refine wpAny_pure ⟨plainId_quiet PySem.F.plain_extend_loop _, ?_⟩
  refine gen_loop (A := A.in1) (Fin := fun s1' => ∃ φ' vs' m'', φ <+: φ' ∧ R (withS c S G (gobj nm qn) vs' m'') (f :: fa) φ' σ1 s1' ∧ All2 (VR c φ') acc' vs'.toList) hh (by show A.depth < 1000; omega) hSG hst ?_ 60 _ _ (hog _ (kp5 _ _ hGo)) ?_ h3g ⟨rfl, ?_⟩
  · rintro s' h' ⟨φ', vs', m'', p, r, hacc⟩ hk hz
    refine ⟨rfl, ?_⟩
    obtain ⟨tS, nS⟩ := r.theS
    have r2 := (r.bare.pop hp).regen (g := 2) (s' := { s'.setGen 0 .finished with heap := h' }) hk hz (by
      show s'.gens.setIfInBounds 0 _ = _
      rw [(r.bare.pop hp).gens, hg1]; rfl) rfl rfl
    have nS' : S ∉ owns φ' fa := fun hm => nS (by
      unfold owns at hm ⊢
      rw [List.flatMap_cons]
      rcases List.mem_append.mp hm with h | h
      · exact List.mem_append_left _ h
      · exact List.mem_append_right _ (List.mem_append_right _ h))
    have r3 := r2.adopt (a := S) (o := .list acc') ⟨nS', Heap.lt_size (hk _ _ tS), hS0k⟩ ⟨Nat.le_of_lt hl, vs', m'', hk _ _ tS, vrs_mono (List.prefix_append _ _) hacc⟩ (nokit fun _ _ _ => ⟨(fun e => by cases e), fun e => by cases e⟩)
    exact q φ' _ S p r3 (r2.snoc S)
  · refine ks_noLimit (P := c.w.params) fun a o e => kp5 _ _ (keep3 _ _ (r1.ks B a o e))
  · have r5 : R c (f :: fa) φ ((σ.push fr).gen 1) (({ s3 with heap := h5 } : Shared).setGen 0 .running) := r1.regen (fun b o e => kp5 _ _ (keep3 _ _ e)) (Nat.le_trans sz13 hsz3) (by
      show s3.gens.setIfInBounds 0 _ = _
      rw [h3g]; rfl) h3d h3o
    have big : ∀ a ∈ owns φ (f :: fa), @LT.lt Nat _ a G := fun a ha => by have h0 : @LT.lt Nat _ a s1.heap.objs.size := r1.lt a ha; omega
    refine seg_gen (A := A.in1.in1.in1) (Fn := fun s1' => ∃ φ' vs' m'', φ <+: φ' ∧ R (withS c S G (gobj nm qn) vs' m'') (f :: fa) φ' σ1 s1' ∧ All2 (VR c φ') acc' vs'.toList) B SS E0 hC hh (by show A.depth + 1 + 5 * n ≤ 900; omega) (by show A.units + 1 + 1 + 1 + 3 + 20 * n ≤ 5000; omega) hS0k hSG hog h (r5.dress hS3 (kp5 _ _ hGo) (fun hm => by have := big _ hm; omega) (fun hm => by have := big _ hm; omega)) fun φ' vs' m'' s' p r ha => ⟨φ', vs', m'', p, r, ha⟩
end
end Mine
set_option maxRecDepth 100000
namespace Mine
noncomputable section
open PySem PySem.W PySem.W.X PyProof.Rows
variable {c : Cx} {k : FC} {f : FA} {fa : List FA} {φ : List Addr} {σ σ' τ : AS} {s s' : Shared} {A : Around} {o : Scope} {b : Bool} {env : Env} {n : Nat} {I : IP} {e : FE} {v : AV} {fl : Fl} {S G : Addr} {og : Obj} {vs : Array Value}

theorem isOwn_eq {a : Nat} {w : MS} (h : isOwn a w = true) : w = .own a := by
  cases w with
  | own b => rw [nbeq (show Nat.beq b a = true from h)]
  | b x => cases h
def gi183 : FnI := ⟨[1, 23, 24, 25], [], [], b_BacktrackingSolver_getSolutions, 8⟩
def gi169 : FnI := ⟨[1, 23, 24, 25], [], [23, 25, 35, 2], b_BacktrackingSolver_getSolutionIter, 5⟩
theorem four {fi : FnI} (hp : fi.params.length = 4) (hd : fi.dfl = []) {args : List AV} {fr : FM} (h : bindFn fi args = some fr) : ∃ a1 a2 a3 a4, args = [a1, a2, a3, a4] := by
  unfold bindFn at h
  obtain ⟨h1, h2⟩ := br_none h
  obtain ⟨h3, h4⟩ := br_none h2
  have h1 := Nat.le_of_ble_eq_true h1
  have h3 := Nat.le_of_ble_eq_true h3
  rw [hd] at h3
  rw [hp] at h1 h3
  have : args.length = 4 := by simp at h3; omega
  match args, this with
  | [a1, a2, a3, a4], _ => exact ⟨a1, a2, a3, a4, rfl⟩
theorem genRun_eq {args : List AV} (h : genRun I args σ = some (v, σ')) : ∃ a1 a2 a3 a4 fr σ1 acc σp, args = [a1, a2, a3, a4] ∧ Nat.beq σ.g 0 = true ∧ methSel a1 51 σ = some (.own 169) ∧ bindFn gi169 args = some fr ∧
    bnd (I.exs gB.h ((σ.push fr).gen 1)) (fun f σ => flG f (fun σ => gloop I gB 60 [] σ) (fun _ => none) σ) = some (acc, σ1) ∧ σ1.pop = some σp ∧ Nat.beq σp.g 1 = true ∧ acc.length < 1000 ∧ v = .ref σp.m ∧ σ' = (σp.gen 2).new (.list acc) := by
  unfold genRun at h
  obtain ⟨hg0, h⟩ := br_none h
  obtain ⟨v1, h1, h⟩ := ob_eq h
  obtain ⟨w, hsel, h⟩ := ob_eq h
  obtain ⟨hw, h⟩ := br_none h
  obtain rfl := isOwn_eq hw
  rw [gB_fn, ob_some] at h
  obtain ⟨fr, hbind, h⟩ := ob_eq h
  replace h : ob (genParts b_BacktrackingSolver_getSolutionIter) _ = _ := h
  rw [gB_eq, ob_some] at h
  obtain ⟨f1, σ1, h2, h⟩ := bnd_eq h
  obtain ⟨acc, σ2, h3, h⟩ := bnd_eq h
  obtain ⟨σp, hpop, h⟩ := ob_eq h
  obtain ⟨hg1, h⟩ := br_none h
  obtain ⟨hsm, h⟩ := br_none h
  obtain ⟨e1, e2⟩ := ret_eq h
  obtain ⟨a1, a2, a3, a4, rfl⟩ := four (by rfl) (by rfl) hbind
  obtain rfl : v1 = a1 := (Option.some.inj h1).symm
  exact ⟨v1, a2, a3, a4, fr, σ2, acc, σp, rfl, hg0, hsel, hbind, by rw [h2]; exact h3, hpop, hg1, Nat.le_of_ble_eq_true hsm, e1, e2⟩
theorem gs_body : gi183.body.map (trS 30) = [.Return (some (.Call (trE 28 (.bui 30 ⟨164,15,164,19⟩)) ([(.meth (.loc 1 ⟨164,20,164,24⟩) 51 ⟨164,20,164,40⟩ [(.loc 23 ⟨164,41,164,48⟩), (.loc 24 ⟨164,50,164,61⟩), (.loc 25 ⟨164,63,164,75⟩)] ⟨164,20,164,76⟩)].map (trE 28)) [] ⟨164,15,164,77⟩)) ⟨164,8,164,77⟩] := by kernel_rfl
theorem ok_gen (B : Base c k) (SS : ∀ c', Base c' k → SndI c' n I) : GenOk c n I := by
  intro fa φ σ σ' A args v us hA h hv
  obtain ⟨v1, a2, a3, a4, fr, σ2, acc, σp, rfl, hg0, hsel, hbind, h3, hpop, hg1, hsm, rfl, rfl⟩ := genRun_eq h
  intro Q E s r q
  refine wpAny_call (okc_enter B hA (a := 183) (fi := gi183) (by rfl) (by decide +kernel) (fr := frameOf [] (zipN [1, 23, 24, 25] [v1, a2, a3, a4])) (by rfl) hv r fun f1 env1 s1 E' hf1 E1 r1 => ?_)
  have hAd := hA.deeper env1
  have hpo : (σ.push (frameOf [] (zipN [1, 23, 24, 25] [v1, a2, a3, a4]))).pop = some σ := rfl
  rw [gs_body]
  refine wpAny_execs_cons (wpAny_Return_some ?_)
  rw [tr_callee (o := scp 8) (by decide +kernel) (by rfl), tr_args (o := scp 8) (by decide +kernel)]
  refine wpAny_bind (ok_bui B E1 (x := 30) (by decide +kernel) (v := .ty 30) (by rfl) _ E' s1 r1 fun φ2 s2 u p2 r2 hu => ?_)
  obtain rfl : u = .type "list" := hu
  refine callWith_kept (pairs_plain 28 env1 _) ?_
  refine Calls.spliced_cons ?_
  refine meth_rule (m := 27) (o := scp 8) (a := .loc 1 ⟨164,20,164,24⟩) (args := [(.loc 23 ⟨164,41,164,48⟩), (.loc 24 ⟨164,50,164,61⟩), (.loc 25 ⟨164,63,164,75⟩)]) (by decide +kernel) (by rfl) (by decide +kernel) (by rfl) (by decide) ?_
  refine ok_loc E1 (x := 1) (by decide +kernel) (by decide +kernel) (v := v1) (by rfl) _ E' s2 r2 fun φ3 s3 u1 p3 r3 hu1 pl => ok_sel (x := 51) B hsel hu1 (r3.pop hpo) ?_
  refine callWith_kept (pairs_plain 27 env1 _) ?_
  refine Calls.spliced_cons (ok_loc E1 (x := 23) (by decide +kernel) (by decide +kernel) (v := a2) (by rfl) _ E' s3 r3 fun φ4 s4 u2 p4 r4 hu2 => ?_)
  refine Calls.spliced_cons (ok_loc E1 (x := 24) (by decide +kernel) (by decide +kernel) (v := a3) (by rfl) _ E' s4 r4 fun φ5 s5 u3 p5 r5 hu3 => ?_)
  refine Calls.spliced_cons (ok_loc E1 (x := 25) (by decide +kernel) (by decide +kernel) (v := a4) (by rfl) _ E' s5 r5 fun φ6 s6 u4 p6 r6 hu4 => ?_)
  refine Calls.spliced_nil ⟨kept_st B (r6.pop hpo) (by decide), ?_⟩
  refine wpAny_call (okc_gen B hAd hbind (.cons (hu1.mono ((p4.trans p5).trans p6)) (.cons (hu2.mono (p5.trans p6)) (.cons (hu3.mono p6) (.cons hu4 .nil)))) (r6.pop hpo) fun f7 env7 s7 nm7 qn7 tk7 hf7 E7 r7 => ?_)
  refine Calls.spliced_nil ⟨kept_type c _ _, ?_⟩
  have P := (((p2.trans p3).trans p4).trans p5).trans p6
  refine list_gen B SS hAd.hh (by have := hA.depth; show A.depth + 1 + 1 + 5 * n ≤ 900; omega) (by have := hA.units; show A.units + 3 + 6 + 20 * n ≤ 5000; omega) E7 hf7 r7 (nbeq hg0) (acc' := acc) (σ1 := σ2) (σp := σp) h3 hpop (nbeq hg1) hsm fun φ' s' S p r8 hS => ?_
  exact q (φ' ++ [S]) s' (.ref S) ((P.trans p).trans (List.prefix_append _ _)) r8 ⟨S, hS, rfl⟩
/-- what F tells is what the program does -/
theorem snd_all (k : FC) : ∀ n c, Base c k → SndI c n (runI k n)
  | 0, c, _ => SndI.bot c 0
  | n + 1, c, B => snd_step B (snd_all k n c B) (ok_gen B fun c' B' => snd_all k n c' B')
end
end Mine
set_option maxRecDepth 100000
namespace Mine
noncomputable section
open PySem
/-- the law's own frame -/
def lawF : FM := frameOf [82, 83, 74, 84, 85, 86] [(82, .st 420)]
def st0 : AS := ⟨.nil, 0, 0, lawF, []⟩
def lawHd : FS := match b_x_law with | s :: _ => s | [] => .brk ⟨0, 0, 0, 0⟩
def lawTl : List FS := match b_x_law with | _ :: l => l | [] => []
theorem law_split : b_x_law = lawHd :: lawTl := by rfl
def aft (ln : Nat) : AS := match exS lawHd (runI ⟨0, ln⟩ 100) st0 with | some p => p.2 | none => st0
def drawL (σ : AS) : Nat := match lk σ.f.ce 83 with | some (some (.ref l)) => l | _ => 0
def syms : List AV := [.sym (.at 0), .sym (.at 1), .sym (.at 2), .sym (.at 3), .sym (.at 4), .sym (.at 5), .sym (.at 6)]
def rests : List Int := [14, 1002, 999, 1003, 1001, 998, 1002]
def drawnL (ln : Nat) : List AV := syms.take ln ++ (rests.drop ln).map .int
def AftOk (ln : Nat) : Prop := (∀ mask, exS lawHd (runI ⟨mask, ln⟩ 100) st0 = some (.next, aft ln)) ∧ (aft ln).get (drawL (aft 7)) = some (.list (drawnL ln)) ∧ (aft ln).set (drawL (aft 7)) (.list syms) = aft 7
theorem aft0 : AftOk 0 := ⟨fun _ => by kernel_rfl, by kernel_rfl, by kernel_rfl⟩
theorem aft1 : AftOk 1 := ⟨fun _ => by kernel_rfl, by kernel_rfl, by kernel_rfl⟩
theorem aft2 : AftOk 2 := ⟨fun _ => by kernel_rfl, by kernel_rfl, by kernel_rfl⟩
theorem aft3 : AftOk 3 := ⟨fun _ => by kernel_rfl, by kernel_rfl, by kernel_rfl⟩
theorem aft4 : AftOk 4 := ⟨fun _ => by kernel_rfl, by kernel_rfl, by kernel_rfl⟩
theorem aft5 : AftOk 5 := ⟨fun _ => by kernel_rfl, by kernel_rfl, by kernel_rfl⟩
theorem aft6 : AftOk 6 := ⟨fun _ => by kernel_rfl, by kernel_rfl, by kernel_rfl⟩
theorem aft7 : AftOk 7 := ⟨fun _ => by kernel_rfl, by kernel_rfl, by kernel_rfl⟩
theorem aft_all (ln : Nat) (h : ln ≤ 7) : AftOk ln := match ln, h with
  | 0, _ => aft0 | 1, _ => aft1 | 2, _ => aft2 | 3, _ => aft3 | 4, _ => aft4 | 5, _ => aft5 | 6, _ => aft6 | 7, _ => aft7
  | n + 8, h => absurd h (by omega)
def law2v (ln mask : Nat) : Res Fl := exsS (runI ⟨mask, ln⟩ 100) lawTl (aft 7)
def Told (m : Nat) : Prop := ∀ ln, isT (law2v ln m) = true
end
end Mine
set_option maxRecDepth 100000
namespace Mine
noncomputable section
open PySem PySem.W PySem.W.X PyProof.Rows
variable {c : Cx} {k : FC} {f : FA} {fa : List FA} {φ : List Addr} {σ σ' τ : AS} {s s' : Shared} {A : Around} {o : Scope} {b : Bool} {env : Env} {n : Nat} {I : IP} {e : FE} {v : AV} {fl : Fl}

/-- the frame that the law's own call opens -/
theorem frame_first (hk : ∀ b o, c.kp b o → s.heap.get? b = some o) (hg0 : s.gens = #[]) (hd0 : s.drawn = c.dr) (ho0 : s.os = c.os) {a : Nat} {fi : FnI} (hfi : (a, fi) ∈ fnT) {bs : List (Nat × AV)} {binds : List (Str × Value)} (hb : BindR c [] bs binds) (hnd : (bs.map (·.1)).Nodup) (hsub : ∀ p ∈ bs, p.1 ∈ fi.params)
    {qual : Str} {fn : Option Addr} {code : Value}
    (henv : env = newEnv (scp fi.sc) s.heap.objs.size 3 (cellsFrom (s.heap.objs.size + 1) (scp fi.sc).names []) qual fn code none 0)
    (hin : InCallC s env.locals (bindL env.kindOf binds fun _ => none) env.cells (bindC env.kindOf binds fun _ => none) s') (hs : s.heap.objs.size ≤ s'.heap.objs.size) (hkind : (scp fi.sc).kind = .function) :
    ∃ f : FA, f.C = none ∧ EnvOk (scp fi.sc) f false env ∧ R c [f] [] ⟨.nil, 0, 0, frameOf fi.cells bs, []⟩ s' := by
  have hpar : parOk fi = true := List.all_eq_true.mp par_all _ hfi
  unfold parOk at hpar
  simp only [Bool.and_eq_true, decide_eq_true_eq, List.all_eq_true] at hpar
  obtain ⟨⟨⟨⟨hp1, hp2⟩, hp3⟩, hp4⟩, _⟩ := hpar
  have hcl := cells_all _ hfi (s.heap.objs.size + 1)
  have hcl : cellsFrom (s.heap.objs.size + 1) (scp fi.sc).names [] = ((fi.cells.zipIdx (s.heap.objs.size + 1)).map fun q => (nm q.1, q.2)).reverse := hcl
  have hcn : ∀ x ∈ fi.cells, x < nmN := fun x hx => Nat.le_of_ble_eq_true (hp4 x hx)
  have hsc : env.scope = scp fi.sc := by rw [henv]; rfl
  have hL : env.locals = s.heap.objs.size := by rw [henv]; rfl
  have hC : env.cells = ((fi.cells.zipIdx (s.heap.objs.size + 1)).map fun q => (nm q.1, q.2)).reverse := by rw [henv]; exact hcl
  have hK : ∀ p ∈ bs, p.1 < nmN ∧ (if inL p.1 fi.cells then env.kindOf (nm p.1) = some .cell else env.kindOf (nm p.1) = some .local) := by
    intro p hp
    have := hp3 p.1 (hsub p hp)
    refine ⟨Nat.le_of_ble_eq_true this.1, ?_⟩
    have h2 := this.2
    unfold Env.kindOf; rw [hsc]
    cases e : inL p.1 fi.cells with
    | true => rw [e] at h2; exact eq_of_beq h2
    | false => rw [e] at h2; exact eq_of_beq h2
  refine ⟨⟨s.heap.objs.size, fi.cells.zipIdx (s.heap.objs.size + 1), none⟩, rfl, ⟨hsc, hkind, fun _ => hL, (fun h => by cases h), (fun x a ha _ => ?_), (fun x hx => ?_), (by rw [henv]; rfl), (by rw [henv]; rfl)⟩, ?_⟩
  · rw [hC]; exact cells_lookup hcn hp2 ha
  · rw [hC]; exact cells_full hfi hcn hp2 hx
  have g := inCall_grows hin hs
  have own : (⟨s.heap.objs.size, fi.cells.zipIdx (s.heap.objs.size + 1), none⟩ : FA).own = s.heap.objs.size :: (fi.cells.zipIdx (s.heap.objs.size + 1)).map (·.2) := by
    show s.heap.objs.size :: (_ ++ []) = _; rw [List.append_nil]
  have hge : ∀ x ∈ (⟨s.heap.objs.size, fi.cells.zipIdx (s.heap.objs.size + 1), none⟩ : FA).own, s.heap.objs.size ≤ x := by
    intro x hx
    rw [own] at hx
    rcases List.mem_cons.mp hx with rfl | hx
    · exact Nat.le_refl _
    · obtain ⟨q, hq, rfl⟩ := List.mem_map.mp hx
      exact Nat.le_of_succ_le (zipIdx_ge _ _ q hq)
  have hlt : ∀ x ∈ (⟨s.heap.objs.size, fi.cells.zipIdx (s.heap.objs.size + 1), none⟩ : FA).own, x < s'.heap.objs.size := by
    intro x hx
    rw [own] at hx
    rcases List.mem_cons.mp hx with rfl | hx
    · obtain ⟨o, es, ep, ho, _⟩ := hin.toInCall.ns
      rw [hL] at ho; exact Heap.lt_size ho
    · obtain ⟨q, hq, rfl⟩ := List.mem_map.mp hx
      have hm : (nm q.1, q.2) ∈ env.cells := by rw [hC]; exact List.mem_reverse.mpr (List.mem_map.mpr ⟨q, hq, rfl⟩)
      have hlk : env.cells.lookup (nm q.1) = some q.2 := by
        obtain ⟨a', ha'⟩ := zipIdx_lk fi.cells (s.heap.objs.size + 1) q.1 (by have := zipIdx_fst fi.cells (s.heap.objs.size + 1); rw [← this]; exact List.mem_map.mpr ⟨q, hq, rfl⟩)
        rw [hC, lookup_unique ?_ (List.mem_reverse.mpr (List.mem_map.mpr ⟨q, hq, rfl⟩))]
        rw [List.map_reverse, (List.reverse_perm _).nodup_iff, List.map_map]
        have : ((fun x : Str × Addr => x.1) ∘ fun q : Nat × Nat => (nm q.1, q.2)) = nm ∘ (·.1) := rfl
        rw [this, ← List.map_map, zipIdx_fst]
        exact mem_nm hcn hp2
      obtain ⟨o, ho, _⟩ := hin.cell _ _ hlk
      exact Heap.lt_size ho
  have ow : owns [] [(⟨s.heap.objs.size, fi.cells.zipIdx (s.heap.objs.size + 1), none⟩ : FA)] = (⟨s.heap.objs.size, fi.cells.zipIdx (s.heap.objs.size + 1), none⟩ : FA).own := by
    unfold owns; simp
  refine ⟨(fun i o e => by have e : (none : Option AO) = some o := e; cases e), (fun i d es n e => by
    rcases e with e | e
    · have e : (none : Option AO) = some _ := e; cases e
    · have e : (none : Option AO) = some _ := e; cases e), rfl, ?_, (fun x hx => hlt x (ow ▸ hx)), (fun x hx o q => absurd (Heap.lt_size (hk _ o q)) (Nat.not_lt.mpr (hge x (ow ▸ hx)))), (fun b o q => g.1 b o (hk b o q)), .cons ⟨?_, ?_, (fun C h => by cases h)⟩ .nil, g.2.2.1.trans hg0, g.2.2.2.1.trans hd0, g.2.2.2.2.trans ho0⟩
  · rw [ow, own, List.nodup_cons]
    refine ⟨fun hm => ?_, zipIdx_nodup _ _⟩
    obtain ⟨q, hq, e⟩ := List.mem_map.mp hm
    have h2 := zipIdx_ge _ _ q hq
    have e : q.2 = s.heap.objs.size := e
    omega
  · refine ⟨_, by have := hin.toInCall.ns; rw [hL] at this; exact this, fun x hx => ?_⟩
    have := bindL_ok (K := env.kindOf) (cells := fi.cells) (fun _ => none) hb hnd hK x hx
    show OV c [] (lk (notIn fi.cells bs) x) _
    cases e : lk (notIn fi.cells bs) x with
    | none => rw [e] at this; exact this
    | some v => rw [e] at this; exact this
  · intro x o e
    obtain ⟨hx, rfl⟩ := mkCells_lk bs fi.cells x o e
    obtain ⟨a', ha'⟩ := zipIdx_lk fi.cells (s.heap.objs.size + 1) x hx
    have hlk : env.cells.lookup (nm x) = some a' := by rw [hC]; exact cells_lookup hcn hp2 ha'
    refine ⟨a', _, ha', hin.cell _ _ hlk, ?_⟩
    have := bindC_ok (K := env.kindOf) (cells := fi.cells) (fun _ => none) hb hnd hK x (hcn x hx) ((inL_mem x fi.cells).mpr hx)
    cases e : lk bs x with
    | none => rw [e] at this; exact this
    | some v => rw [e] at this; exact this

/-- a def is called where no frame of ours stands -/
theorem okc_first {a : Nat} {fi : FnI} (e : lk fnT a = some fi) (hgen : (scp fi.sc).isGenerator = false) {args : List AV} {fr : FM} (h : bindFn fi args = some fr) {us : List Value} (hv : All2 (VR c []) args us)
    (X : (KS c.w.params).In s.heap) (hk : ∀ b o, c.kp b o → s.heap.get? b = some o) (hg0 : s.gens = #[]) (hd0 : s.drawn = c.dr) (ho0 : s.os = c.os) (hA : A.depth < 1000) {Q : Value → Shared → Prop} {E : Value → Shared → Prop}
    (hbody : ∀ f env s1 E', f.C = none → EnvOk (scp fi.sc) f false env → R c [f] [] ⟨.nil, 0, 0, fr, []⟩ s1 → wpAny (model pw c.w) (A.deeper env) (execs (fi.body.map (trS 30)) env) (fun x s' => Q (match x with | .ret v => v | _ => .none) s') E' s1) :
    codeAny (model pw c.w) A (.call (.ref a) ⟨us, []⟩) (fun r s' => match r with | .ok (.ret v) => Q v s' | .ok _ => False | .error e => E e s') s := by
  obtain ⟨D, hbd⟩ := fn_ok c e
  obtain ⟨bs, binds, hbi, hb, rfl, hbs⟩ := hbd [] s X h hv
  have hfi := lk_in e
  have hpar : parOk fi = true := List.all_eq_true.mp par_all _ hfi
  have hnd : (bs.map (·.1)).Nodup := by
    have hbs : bs.map (·.1) = fi.params := hbs
    rw [hbs]
    unfold parOk at hpar
    simp only [Bool.and_eq_true, decide_eq_true_eq] at hpar
    exact hpar.1.1.1.1
  have hsub : ∀ p ∈ bs, p.1 ∈ fi.params := fun p hp => by
    have hbs : bs.map (·.1) = fi.params := hbs
    rw [← hbs]; exact List.mem_map.mpr ⟨p, hp, rfl⟩
  refine codeAny_call_function (fd := fdA c.w.params a) (o := obA c.w.params a) hA (X _ _ D.look) D.data (by rw [D.scope]; exact D.co) (by rw [D.scope]; exact hgen) D.body (codeRec_of X D.code) (hbi.b _ _ _ _ ?_)
  rw [D.scope, D.glo, D.clo, D.bui]
  refine wpAny_with_size (wpAny_newFunctionEnv_cells D.kind (fun x hx => ?_) (fun env henv s1 hin hs => ⟨ks_noLimit (X.keeps hin.toInCall.keep), codeAny_func ?_⟩))
  · exact binds_kind hfi hb hsub _ x hx
  · obtain ⟨f, hf, he, r1⟩ := frame_first hk hg0 hd0 ho0 hfi hb hnd hsub henv hin hs D.kind
    exact hbody f env s1 _ hf he r1
end
end Mine
set_option maxRecDepth 100000
namespace Mine
noncomputable section
open PySem PySem.W PySem.W.X PyProof.Rows
variable {c : Cx} {k : FC} {f : FA} {fa : List FA} {φ : List Addr} {σ σ' τ : AS} {s s' : Shared} {A : Around} {o : Scope} {b : Bool} {env : Env} {n : Nat} {I : IP} {e : FE} {v : AV} {fl : Fl}

theorem ints_get : ∀ {vs : List Value} {ns : List Int}, IntsAre vs ns → vs.length = ns.length ∧ ∀ i, i < ns.length → ∃ t, vs[i]? = some (.int ((ns[i]?).getD 0) t)
  | _, _, .nil => ⟨rfl, fun i h => absurd h (Nat.not_lt_zero _)⟩
  | _, _, .cons n t h => by
    obtain ⟨e, ih⟩ := ints_get h
    refine ⟨by simp [e], fun i hi => ?_⟩
    cases i with
    | zero => exact ⟨t, rfl⟩
    | succ i =>
      obtain ⟨t', ht⟩ := ih i (by simpa using hi)
      exact ⟨t', by simpa using ht⟩
theorem isT_eq {x : Res Fl} (h : isT x = true) : ∃ σ, x = some (.ret (.bool true), σ) := by
  unfold isT at h
  split at h
  · exact ⟨_, rfl⟩
  · cases h
theorem syms_get : ∀ i, i < 7 → syms[i]? = some (.sym (.at i))
  | 0, _ => rfl | 1, _ => rfl | 2, _ => rfl | 3, _ => rfl | 4, _ => rfl | 5, _ => rfl | 6, _ => rfl
  | n + 7, h => absurd h (by omega)
def rho (ns : List Int) (k : Nat) : Int := if k < ns.length then (ns[k]?).getD 0 else (rests[k]?).getD 0
theorem drawn_len (ln : Nat) (h : ln ≤ 7) : (drawnL ln).length = 7 := by
  unfold drawnL
  rw [List.length_append, List.length_take, List.length_map, List.length_drop]
  show min ln 7 + (7 - ln) = 7
  omega
theorem drawn_get (ln i : Nat) (h : ln ≤ 7) (hi : i < 7) : (drawnL ln)[i]? = some (if i < ln then .sym (.at i) else .int ((rests[i]?).getD 0)) := by
  unfold drawnL
  have hl : (syms.take ln).length = ln := by rw [List.length_take]; show min ln 7 = ln; omega
  by_cases l : i < ln
  · rw [if_pos l, List.getElem?_append_left (by omega), List.getElem?_take_of_lt l, syms_get i hi]
  · rw [if_neg l, List.getElem?_append_right (by omega), hl, List.getElem?_map, List.getElem?_drop, show ln + (i - ln) = i by omega]
    have : i < rests.length := hi
    rw [List.getElem?_eq_getElem this]; rfl
theorem retell {vs : List Value} {ns : List Int} (hr : c.ρ = rho ns) (h : All2 (VR c φ) (drawnL (min ns.length 7)) vs) : All2 (VR c φ) syms vs := by
  have hl := h.length
  rw [drawn_len _ (by omega)] at hl
  refine all2_of hl fun i x y hx hy => ?_
  have hi : i < 7 := by
    have := (List.getElem?_eq_some_iff.mp hy).1
    omega
  rw [syms_get i hi] at hx
  cases hx
  obtain ⟨y', hy', q⟩ := h.get? (drawn_get (min ns.length 7) i (by omega) hi)
  rw [hy] at hy'
  cases hy'
  by_cases l : i < min ns.length 7
  · rw [if_pos l] at q; exact q
  · rw [if_neg l] at q
    obtain ⟨t, rfl⟩ := q
    refine ⟨t, ?_⟩
    show Value.int _ t = Value.int (c.ρ i) t
    rw [hr]
    unfold rho
    rw [if_neg (show ¬ i < ns.length by omega)]
theorem bare_of (g : Nat) : AllBare (gensOf g) := by
  unfold gensOf
  cases Nat.beq g 0 with
  | true => exact .empty
  | false =>
    cases Nat.beq g 1 with
    | true => intro y hy; obtain rfl : y = .running := by simpa [br] using hy
              rfl
    | false => intro y hy; obtain rfl : y = .finished := by simpa [br] using hy
               rfl
theorem law_wf : (wfS 30 (scp 23) lawHd && lawTl.all (wfS 30 (scp 23))) = true := by decide +kernel
theorem law_walk {w : World} {s₁ : Shared} {ns : List Int} {vals : List Value} (told : ∀ m, m < 63 → Told m) (KS1 : (KS w.params).In s₁.heap) (h1 : ∃ o, s₁.heap.get? 1 = some o) (hg : s₁.gens = #[]) (hi : IntsAre vals ns) (hlen : ns.length ≤ 63)
    (hsc : s₁.heap.get? 420 = some { cls := .type "list", data := .seq vals.toArray }) {E : Value → Shared → Prop} {Q : Value → Shared → Prop}
    (q : ∀ s', (∀ b o, s₁.heap.get? b = some o → s'.heap.get? b = some o) → s'.os = s₁.os → AllBare s'.gens → Q (.bool true) s') : wpAny (model pw w) callerA (call (.ref 419) [.ref 420]) Q E s₁ := by
  obtain ⟨hvl, hvs⟩ := ints_get hi
  have hnn : 0 ≤ (rho ns 0).fmod 63 := Int.fmod_nonneg_of_pos _ (by decide)
  have hlt : (rho ns 0).fmod 63 < 63 := Int.fmod_lt_of_pos _ (by decide)
  obtain ⟨mask, hm⟩ := Int.eq_ofNat_of_zero_le hnn
  have hm63 : mask < 63 := by omega
  let c : Cx := { w := w, kp := fun b o => s₁.heap.get? b = some o, ρ := rho ns, n := ns.length, os := s₁.os, dr := s₁.drawn, mask := mask }
  let k : FC := ⟨mask, min ns.length 7⟩
  have B : Base c k := by
    refine ⟨KS1, ⟨vals.toArray, _, hsc, by simpa using hvl, fun i hil => ?_⟩, rfl, hm, h1, ?_⟩
    · have hil : i < min ns.length 7 := hil
      obtain ⟨t, ht⟩ := hvs i (by omega)
      refine ⟨t, ?_⟩
      show vals.toArray[i]? = some (.int (rho ns i) t)
      unfold rho
      rw [if_pos (show i < ns.length by omega)]
      simpa using ht
    · show ns.length ≤ 1000; omega
  refine wpAny_call (okc_first (c := c) (fi := fi419) (a := 419) (by rfl) (by decide +kernel) (args := [.st 420]) (fr := lawF) (by rfl) (.cons (show VR c [] (.st 420) (.ref 420) from rfl) .nil) KS1 (fun b o h => h) hg rfl rfl (by decide) fun f env s1 E' hC E0 r1 => ?_)
  show wpAny _ _ (execs (b_x_law.map (trS 30)) env) _ _ _
  have A5 : AOk 101 (callerA.deeper env) := ⟨rfl, by show (1 + claimMargin) + 1 + 5 * 101 ≤ 900; decide, by show 4 + 3 + 20 * 101 ≤ 5000; decide⟩
  have S := snd_all k 100 c B
  have hw := law_wf
  rw [Bool.and_eq_true] at hw
  obtain ⟨e1, e2, e3⟩ := aft_all (min ns.length 7) (by omega)
  rw [law_split, List.map_cons]
  refine wpAny_execs_cons (st_all B S A5 E0 hC hw.1 (e1 mask) _ E' s1 r1 fun φ1 s2 x p1 r2 hx => ?_)
  obtain rfl := hx
  obtain ⟨a, ha, ho⟩ := r2.obj _ _ e2
  obtain ⟨hl, vs, m, hL, hv2⟩ := ho
  have r3 := r2.setObj (s' := s2) ha ⟨fun b o _ e => e, Nat.le_refl _, rfl, rfl, rfl⟩ (fun es h => by rw [e2] at h; cases h) (obj_noTup hL (by simp)) (o := .list syms) ⟨by decide, vs, m, hL, retell rfl hv2⟩ (nokit fun _ _ _ => ⟨(fun e => by cases e), fun e => by cases e⟩)
  rw [e3] at r3
  obtain ⟨σe, he⟩ := isT_eq (told mask hm63 (min ns.length 7))
  refine exs_all B S A5 E0 hC hw.2 he _ E' s2 r3 fun φ2 s3 x p2 r4 hx => ?_
  obtain ⟨u, rfl, hu⟩ := hx
  obtain rfl : u = .bool true := hu
  exact q s3 r4.keep r4.os (by rw [r4.gens]; exact bare_of _)
end
end Mine
set_option maxRecDepth 100000
set_option Elab.async false
namespace Mine
theorem u0 : Told 0 := fun _ => by kernel_rfl
theorem u1 : Told 1 := fun _ => by kernel_rfl
theorem u2 : Told 2 := fun _ => by kernel_rfl
theorem u3 : Told 3 := fun _ => by kernel_rfl
theorem u4 : Told 4 := fun _ => by kernel_rfl
theorem u5 : Told 5 := fun _ => by kernel_rfl
theorem u6 : Told 6 := fun _ => by kernel_rfl
theorem u7 : Told 7 := fun _ => by kernel_rfl
theorem u8 : Told 8 := fun _ => by kernel_rfl
theorem u9 : Told 9 := fun _ => by kernel_rfl
theorem u10 : Told 10 := fun _ => by kernel_rfl
theorem u11 : Told 11 := fun _ => by kernel_rfl
theorem u12 : Told 12 := fun _ => by kernel_rfl
theorem u13 : Told 13 := fun _ => by kernel_rfl
theorem u14 : Told 14 := fun _ => by kernel_rfl
theorem u15 : Told 15 := fun _ => by kernel_rfl
theorem u16 : Told 16 := fun _ => by kernel_rfl
theorem u17 : Told 17 := fun _ => by kernel_rfl
theorem u18 : Told 18 := fun _ => by kernel_rfl
theorem u19 : Told 19 := fun _ => by kernel_rfl
theorem u20 : Told 20 := fun _ => by kernel_rfl
theorem u21 : Told 21 := fun _ => by kernel_rfl
theorem u22 : Told 22 := fun _ => by kernel_rfl
theorem u23 : Told 23 := fun _ => by kernel_rfl
theorem u24 : Told 24 := fun _ => by kernel_rfl
theorem u25 : Told 25 := fun _ => by kernel_rfl
theorem u26 : Told 26 := fun _ => by kernel_rfl
theorem u27 : Told 27 := fun _ => by kernel_rfl
theorem u28 : Told 28 := fun _ => by kernel_rfl
theorem u29 : Told 29 := fun _ => by kernel_rfl
theorem u30 : Told 30 := fun _ => by kernel_rfl
theorem u31 : Told 31 := fun _ => by kernel_rfl
theorem u32 : Told 32 := fun _ => by kernel_rfl
theorem u33 : Told 33 := fun _ => by kernel_rfl
theorem u34 : Told 34 := fun _ => by kernel_rfl
theorem u35 : Told 35 := fun _ => by kernel_rfl
theorem u36 : Told 36 := fun _ => by kernel_rfl
theorem u37 : Told 37 := fun _ => by kernel_rfl
theorem u38 : Told 38 := fun _ => by kernel_rfl
theorem u39 : Told 39 := fun _ => by kernel_rfl
theorem u40 : Told 40 := fun _ => by kernel_rfl
theorem u41 : Told 41 := fun _ => by kernel_rfl
theorem u42 : Told 42 := fun _ => by kernel_rfl
theorem u43 : Told 43 := fun _ => by kernel_rfl
theorem u44 : Told 44 := fun _ => by kernel_rfl
theorem u45 : Told 45 := fun _ => by kernel_rfl
theorem u46 : Told 46 := fun _ => by kernel_rfl
theorem u47 : Told 47 := fun _ => by kernel_rfl
theorem u48 : Told 48 := fun _ => by kernel_rfl
theorem u49 : Told 49 := fun _ => by kernel_rfl
theorem u50 : Told 50 := fun _ => by kernel_rfl
theorem u51 : Told 51 := fun _ => by kernel_rfl
theorem u52 : Told 52 := fun _ => by kernel_rfl
theorem u53 : Told 53 := fun _ => by kernel_rfl
theorem u54 : Told 54 := fun _ => by kernel_rfl
theorem u55 : Told 55 := fun _ => by kernel_rfl
theorem u56 : Told 56 := fun _ => by kernel_rfl
theorem u57 : Told 57 := fun _ => by kernel_rfl
theorem u58 : Told 58 := fun _ => by kernel_rfl
theorem u59 : Told 59 := fun _ => by kernel_rfl
theorem u60 : Told 60 := fun _ => by kernel_rfl
theorem u61 : Told 61 := fun _ => by kernel_rfl
theorem u62 : Told 62 := fun _ => by kernel_rfl
theorem told_all (m : Nat) (h : m < 63) : Told m := match m, h with
  | 0, _ => u0
  | 1, _ => u1
  | 2, _ => u2
  | 3, _ => u3
  | 4, _ => u4
  | 5, _ => u5
  | 6, _ => u6
  | 7, _ => u7
  | 8, _ => u8
  | 9, _ => u9
  | 10, _ => u10
  | 11, _ => u11
  | 12, _ => u12
  | 13, _ => u13
  | 14, _ => u14
  | 15, _ => u15
  | 16, _ => u16
  | 17, _ => u17
  | 18, _ => u18
  | 19, _ => u19
  | 20, _ => u20
  | 21, _ => u21
  | 22, _ => u22
  | 23, _ => u23
  | 24, _ => u24
  | 25, _ => u25
  | 26, _ => u26
  | 27, _ => u27
  | 28, _ => u28
  | 29, _ => u29
  | 30, _ => u30
  | 31, _ => u31
  | 32, _ => u32
  | 33, _ => u33
  | 34, _ => u34
  | 35, _ => u35
  | 36, _ => u36
  | 37, _ => u37
  | 38, _ => u38
  | 39, _ => u39
  | 40, _ => u40
  | 41, _ => u41
  | 42, _ => u42
  | 43, _ => u43
  | 44, _ => u44
  | 45, _ => u45
  | 46, _ => u46
  | 47, _ => u47
  | 48, _ => u48
  | 49, _ => u49
  | 50, _ => u50
  | 51, _ => u51
  | 52, _ => u52
  | 53, _ => u53
  | 54, _ => u54
  | 55, _ => u55
  | 56, _ => u56
  | 57, _ => u57
  | 58, _ => u58
  | 59, _ => u59
  | 60, _ => u60
  | 61, _ => u61
  | 62, _ => u62
  | n + 63, h => absurd h (by omega)
end Mine
set_option Elab.async false
set_option maxRecDepth 100000
namespace Mine
open PySem PySem.W PySem.W.X PyProof.Rows
theorem sub_in {K l : Frag} {h : Heap} (X : K.In h) (e : l.map (fun p => K.lookup p.1) = l.map (fun p => some p.2)) : l.In h := by
  intro a o q
  have : ∀ l : Frag, l.map (fun p => K.lookup p.1) = l.map (fun p => some p.2) → l.lookup a = some o → K.lookup a = some o := by
    intro l
    induction l with
    | nil => intro _ q; cases q
    | cons p r ih =>
      obtain ⟨b, ob⟩ := p
      intro e q
      rw [List.map_cons, List.map_cons] at e
      injection e with e1 e2
      rw [List.lookup_cons] at q
      cases hb : a == b with
      | true => rw [hb] at q; cases q; rw [eq_of_beq hb]; exact e1
      | false => rw [hb] at q; exact ih e2 q
  exact X a o (this l e q)
theorem there_in {K : Frag} {h : Heap} (X : K.In h) (a : Addr) (e : (K.lookup a).isSome = true) : ∃ o, h.get? a = some o := by
  obtain ⟨o, e⟩ := Option.isSome_iff_exists.mp e
  exact ⟨o, X a o e⟩
end Mine
open PySem PySem.W PyProof.Rows PySem.W.X PySem.W.ZRun
set_option maxHeartbeats 8000000 in
theorem PySem.Challenge.cw_de5024_01_holds : PySem.Challenge.rw_de5024_01.Holds := by
  w_on; o_law; z_head; (case hw => w_witness2)
  k_fill
  intro w s₀ s₁ mg mb G y fa o pm cd doc dV kV ho hd hcd hD hmg hg args vals as L hpre hlay hrd hwl hlo
  z_open y L KX ZH ZN ZT
  have KS1 : (Mine.KS w.params).In s₁.heap := Mine.sub_in KX (by kernel_rfl)
  have H1 : ∃ o, s₁.heap.get? 1 = some o := Mine.there_in KX 1 (by kernel_rfl)
  refine Ground.open G ?_
  intro T B D TE TW
  have e1 := mg_of (n := PySem.Str.ofString "law") KS1 (Top.g T) (v := .ref 419) (by kernel_rfl)
  have hfa : fa = 419 := Value.ref.inj (Option.some.inj (hmg.symm.trans e1))
  clear e1
  subst hfa
  wrow_args hpre hlay hrd hwl hlo
  obtain ⟨hat, hsz⟩ := script_at L
  rw [ZN] at hat hsz
  subst hat
  have hsc := script_obj L (by assumption)
  clear G T B D TE TW y ho hd hcd hD hmg KX ZH
  refine Mine.law_walk Mine.told_all KS1 H1 hg (by assumption) (by omega) hsc fun s' hk hos hbare => ?_
  refine ⟨.inl ⟨_, _, [], rfl, fun _ => rfl, ReadsW.bool true, ?_, fun _ => ⟨List.nodup_nil, fun _ hm => (nomatch hm)⟩⟩, .of_keep hk, hos, hbare⟩
  first
    | rfl
    | wrow_post
