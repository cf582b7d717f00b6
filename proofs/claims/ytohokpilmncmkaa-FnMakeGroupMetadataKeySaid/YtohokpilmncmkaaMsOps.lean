/- What each plain operation of the program does, as an equation that a walk can reckon by; each is proved of the model's own operation. -/
import Derived.Test.YtohokpilmncmkaaMsCore
import Derived.Laws.Sem
set_option linter.unusedSimpArgs false
set_option linter.unusedVariables false
namespace Ms
open Go

/-! ### Values -/
def optK {α : Type} : Option α → (α → Prop) → Prop
  | some a, k => k a
  | none, _ => False
theorem optK_some {α : Type} (a : α) (k : α → Prop) : optK (some a) k = k a := nr rfl
def addrK : Value → (Addr → Prop) → Prop
  | .pointer (some a), k => k a
  | _, _ => False
theorem addrK_ptr (a : Addr) (k : Addr → Prop) : addrK (.pointer (some a)) k = k a := nr rfl
def intK : Value → (IntKind → Int → Prop) → Prop
  | .int i n, k => k i n
  | _, _ => False
theorem intK_int (i : IntKind) (n : Int) (k : IntKind → Int → Prop) : intK (.int i n) k = k i n := nr rfl
def boolK : Value → (Bool → Prop) → Prop
  | .bool b, k => k b
  | _, _ => False
theorem boolK_bool (b : Bool) (k : Bool → Prop) : boolK (.bool b) k = k b := nr rfl
def sliceK : Value → (Option Addr → Nat → Nat → Prop) → Prop
  | .slice a n c, k => k a n c
  | _, _ => False
theorem sliceK_slice (a : Option Addr) (n c : Nat) (k : Option Addr → Nat → Nat → Prop) : sliceK (.slice a n c) k = k a n c := nr rfl
def strK : Value → (ByteArray → Prop) → Prop
  | .string s, k => k s
  | _, _ => False
theorem strK_string (s : ByteArray) (k : ByteArray → Prop) : strK (.string s) k = k s := nr rfl
def aggK : Value → (Array Value → Prop) → Prop
  | .agg s, k => k s
  | _, _ => False
theorem aggK_agg (s : Array Value) (k : Array Value → Prop) : aggK (.agg s) k = k s := nr rfl
def tupleK : Value → (Array Value → Prop) → Prop
  | .tuple s, k => k s
  | _, _ => False
theorem tupleK_tuple (s : Array Value) (k : Array Value → Prop) : tupleK (.tuple s) k = k s := nr rfl

/-- A value's cells, a kind's width: names of their own, so that no set of laws unfolds them. -/
def vcells (v : Value) : Array Value := v.cells
def kbits (k : IntKind) : Nat := k.bits
/-! ### Memory -/
abbrev Blk := Array Value × TypeId × (Nat × Nat)
def blk (w : World) (b : Nat) : Option Blk :=
  match w.heap[b]? with
  | some (.cells c T fr) => some (c, T, fr)
  | _ => none
/-- n cells of a block from o on, written anew. -/
def wrArr (c : Array Value) (o : Nat) : List Value → Array Value
  | [] => c
  | v :: vs => wrArr (c.setIfInBounds o v) (o + 1) vs
def wr (w : World) (b o : Nat) (vs : List Value) : World :=
  { w with heap := w.heap.modify b fun
      | .cells c T fr => .cells (wrArr c o vs) T fr
      | x => x }

theorem cell?_blk (w : World) (b o : Nat) : w.cell? ⟨b, o, none⟩ = (blk w b).bind fun x => x.1[o]? := by
  simp only [World.cell?, blk]
  cases w.heap[b]? with
  | none => rfl
  | some x => cases x <;> rfl

theorem frozen?_blk {w : World} {b : Nat} {x : Blk} (h : blk w b = some x) (o : Nat) : w.frozen? ⟨b, o, none⟩ = (x.2.2.1 ≤ o && o < x.2.2.2) := by
  simp only [World.frozen?]
  simp only [blk] at h
  cases hb : w.heap[b]? with
  | none => rw [hb] at h; cases h
  | some y =>
    rw [hb] at h
    cases y <;> first | (simp at h; done) | skip
    simp only [Option.some.injEq] at h
    subst h
    rfl

def zeroOf (P : Program) (T : TypeId) : Option (Array Value) := ((P.info? T).bind (·.zero)).map (·.cells)
def isAggT (P : Program) (T : TypeId) : Option Bool :=
  (P.underlying T).map fun d => match d with | .struct _ => true | .array _ _ => true | _ => false
/-- How a variable of a type is read: as one cell, or as so many cells. -/
def loadKind (P : Program) (T : TypeId) : Option (Option Nat) :=
  match isAggT P T, (P.info? T) with
  | some false, some _ => some none
  | some true, some i => some (some i.size)
  | _, _ => none
def loadOf (P : Program) (T : TypeId) (w : World) : Addr → Option Value
  | ⟨b, o, none⟩ => match loadKind P T with
    | some none => (blk w b).bind fun x => x.1[o]?
    | some (some n) => (blk w b).bind fun x => if o + n ≤ x.1.size then some (.agg (x.1.extract o (o + n))) else none
    | none => none
  | _ => none
def flat (v : Value) : Bool := match v with | .agg _ => false | .tuple _ => false | _ => true
def sizeT (P : Program) (T : TypeId) : Option Nat := (P.info? T).map (·.size)
/-- Are so many cells from o on free of the frozen range? -/
def thaw (fr : Nat × Nat) (o n : Nat) : Bool := Nat.ble fr.2 o || Nat.ble (o + n) fr.1
def storeOf (P : Program) (T : TypeId) (w : World) : Addr → Value → Option World
  | ⟨b, o, none⟩, v => (sizeT P T).bind fun n => (blk w b).bind fun x =>
    if v.cells.size = n ∧ o + n ≤ x.1.size ∧ thaw x.2.2 o n = true ∧ v.cells.toList.all flat = true then some (wr w b o v.cells.toList) else none
  | _, _ => none
def knownT (P : Program) (T : TypeId) : Bool := (P.underlying T).isSome
def fieldOff (P : Program) (T : TypeId) (k : Nat) : Option Nat :=
  match P.underlying T with
  | some (.struct fs) => (fs[k]?).bind fun f => (P.info? f.type).bind fun i => if i.size = 0 then none else some f.offset
  | _ => none
def addOff : Addr → Nat → Option Addr
  | ⟨b, o, none⟩, n => some ⟨b, o + n, none⟩
  | _, _ => none
/-- A slice type's element: its size in cells. -/
def elemSize (P : Program) (T : TypeId) : Option Nat :=
  match P.underlying T with
  | some (.slice e) => (P.info? e).map (·.size)
  | _ => none
def isStrT (P : Program) (T : TypeId) : Bool := match P.underlying T with | some .string => true | _ => false
def isSliceT (P : Program) (T : TypeId) : Bool := match P.underlying T with | some (.slice _) => true | _ => false
def isIfaceT (P : Program) (T : TypeId) : Bool := match P.underlying T with | some (.interface _) => true | _ => false
def intT (P : Program) (T : TypeId) : Option IntKind := match P.underlying T with | some (.int k) => some k | _ => none
def callable (P : Program) (f : FuncId) : Bool :=
  match P.funcs[f]? with
  | some fn => !(fn.name == "runtime.NumGoroutine") && fn.body.isSome
  | none => false

def cmpOf : BinOp → Int → Int → Option Bool
  | .eql, x, y => some (x == y)
  | .neq, x, y => some (x != y)
  | .lss, x, y => some (decide (x < y))
  | .leq, x, y => some (decide (x ≤ y))
  | .gtr, x, y => some (decide (x > y))
  | .geq, x, y => some (decide (x ≥ y))
  | _, _, _ => none
def bitsOf (k : IntKind) : BinOp → Int → Int → Option Int
  | .and, x, y => some (k.wrap ((BitVec.ofInt k.bits x &&& BitVec.ofInt k.bits y).toNat : Int))
  | .or, x, y => some (k.wrap ((BitVec.ofInt k.bits x ||| BitVec.ofInt k.bits y).toNat : Int))
  | .xor, x, y => some (k.wrap ((BitVec.ofInt k.bits x ^^^ BitVec.ofInt k.bits y).toNat : Int))
  | _, _, _ => none
def shlO (k : IntKind) (x y : Int) : Option Value := if y < 0 then none else some (.int k (k.wrap (x * 2 ^ (min y.toNat k.bits))))
def shrO (k : IntKind) (x y : Int) : Option Value := if y < 0 then none else some (.int k (x.fdiv (2 ^ (min y.toNat k.bits))))
theorem shlO_ok (k : IntKind) {x y : Int} (h : 0 ≤ y) : shlO k x y = some (.int k (k.wrap (x * 2 ^ (min y.toNat k.bits)))) := if_neg (by omega)
theorem shrO_ok (k : IntKind) {x y : Int} (h : 0 ≤ y) : shrO k x y = some (.int k (x.fdiv (2 ^ (min y.toNat k.bits)))) := if_neg (by omega)
def idxO (j : Int) (n : Nat) : Option Nat := if 0 ≤ j ∧ j < n then some j.toNat else none
theorem idxO_ok {j : Int} {n : Nat} (h : 0 ≤ j ∧ j < n) : idxO j n = some j.toNat := if_pos h
/-- Arithmetic and comparing of whole numbers of one kind. -/
def intOp (op : BinOp) (k : IntKind) (x y : Int) : Option Value :=
  match op with
  | .add => some (.int k (k.wrap (x + y)))
  | .sub => some (.int k (k.wrap (x - y)))
  | .mul => some (.int k (k.wrap (x * y)))
  | .rem => if y = 0 then none else some (.int k (x.tmod y))
  | .and => (bitsOf k .and x y).map (.int k)
  | .or => (bitsOf k .or x y).map (.int k)
  | .xor => (bitsOf k .xor x y).map (.int k)
  | .quo => none
  | .andNot => none
  | .shl => shlO k x y
  | .shr => shrO k x y
  | op => (cmpOf op x y).map .bool

def isBoolT (P : Program) (T : TypeId) : Bool := match P.underlying T with | some .bool => true | _ => false
def isMapT (P : Program) (T : TypeId) : Bool := match P.underlying T with | some (.map _ _) => true | _ => false
def isPtrT (P : Program) (T : TypeId) : Bool := match P.underlying T with | some (.pointer _) => true | _ => false
def eqV (op : BinOp) (ok r : Bool) : Option Value :=
  if ok = true then match op with | .eql => some (.bool r) | .neq => some (.bool (!r)) | _ => none else none
def intV (op : BinOp) (k k' : IntKind) (x y : Int) : Option Value :=
  match op with
  | .shl => intOp .shl k x y
  | .shr => intOp .shr k x y
  | op => if k = k' then intOp op k x y else none
def binV (P : Program) (op : BinOp) (T : TypeId) (a b : Value) : Option Value :=
  match a with
  | .int k x => match b with | .int k' y => intV op k k' x y | _ => none
  | .bool x => match b with | .bool y => eqV op (isBoolT P T) (x == y) | _ => none
  | .slice a _ _ => match b with | .slice c _ _ => eqV op (isSliceT P T && c.isNone) a.isNone | _ => none
  | .map a => match b with | .map c => eqV op (isMapT P T && c.isNone) a.isNone | _ => none
  | .pointer a => match b with | .pointer c => eqV op (isPtrT P T && c.isNone) a.isNone | _ => none
  | .iface _ _ => match b with | .nilIface => eqV op (isIfaceT P T) false | _ => none
  | _ => none

/-- The literal nil at an interface type's '==' and '!='. -/
def isNilI : Value → Bool
  | .nilIface => true
  | _ => false
def isConstO : Operand → Bool
  | .const _ => true
  | _ => false
def binNil (P : Program) (op : BinOp) (T : TypeId) (y : Operand) (a b : Value) : Option Value :=
  if isNilI a = true then (if isNilI b = true then eqV op (isIfaceT P T && isConstO y) true else none) else binV P op T a b

/-- Where a struct type's fields lie: the first cell and how many. -/
def placesOf (P : Program) (T : TypeId) : Option (List (Nat × Nat)) :=
  match P.underlying T with
  | some (.struct fs) => fs.toList.mapM fun f => (P.info? f.type).map fun i => (f.offset, i.size)
  | _ => none
def putAt (c : List Value) (off : Nat) (vs : List Value) : List Value := c.take off ++ vs ++ c.drop (off + vs.length)
/-- A struct's literal: zero but for the parts that are named. -/
def fillL (places : List (Nat × Nat)) (cells : Array Value) : List (Nat × Value) → Option (Array Value)
  | [] => some cells
  | (i, v) :: rest => match places[i]? with
    | none => none
    | some (off, size) => if v.cells.size = size ∧ off + v.cells.size ≤ cells.size then fillL places (wrArr cells off v.cells.toList) rest else none
/-- A slice type's element type and its size in cells, where it has a zero value. -/
def slElem (P : Program) (T : TypeId) : Option (TypeId × Nat) :=
  match P.underlying T with
  | some (.slice e) => (P.info? e).bind fun i => if i.zero.isSome = true then some (e, i.size) else none
  | _ => none
/-- The cells of a slice's literal all of whose elements are named, in order. -/
def bsl (size : Nat) : Nat → List (Nat × Value) → Option (List Value)
  | _, [] => some []
  | k, (i, v) :: ps => if i = k ∧ v.cells.size = size then (bsl size (k + 1) ps).map (v.cells.toList ++ ·) else none
def funcK : Value → (FuncId → Array Value → Array Value → Prop) → Prop
  | .func (.func f) a b, k => k f a b
  | _, _ => False
theorem funcK_func (f : FuncId) (a b : Array Value) (k : FuncId → Array Value → Array Value → Prop) : funcK (.func (.func f) a b) k = k f a b := nr rfl
def convV (P : Program) (S T : TypeId) : Value → Option Value
  | .int _ n => if knownT P S = true then (intT P T).map fun k => .int k (k.wrap n) else none
  | _ => none
def lenV (P : Program) (T : TypeId) : Value → Option Value
  | .slice _ n _ => if isSliceT P T = true then some (.int .i64 n) else none
  | .string s => if isStrT P T = true then some (.int .i64 s.size) else none
  | _ => none
def minV : Value → Value → Option Value
  | .int k x, .int _ y => some (.int k (if y < x then y else x))
  | _, _ => none
def maxV : Value → Value → Option Value
  | .int k x, .int _ y => some (.int k (if y > x then y else x))
  | _, _ => none
def slBase (a : Option Addr) (l m s : Nat) : Option Addr := if m = l then a else a.map (·.add (l * s))
/-- A bound of a slice expression. -/
def bnd (v : Value) (y : Nat) : Option Nat :=
  match v with
  | .int _ i => if 0 ≤ i ∧ i ≤ y then some i.toNat else none
  | _ => none
theorem bnd_ok {k : IntKind} {i : Int} {y : Nat} (h : 0 ≤ i ∧ i ≤ y) : bnd (.int k i) y = some i.toNat := if_pos h
def sliceV (P : Program) (T : TypeId) (lo hi mx : Option Value) : Value → Option Value
  | .slice a n c => (elemSize P T).bind fun s =>
    (match mx with | none => some c | some v => bnd v c).bind fun m =>
    (match hi, mx with | none, none => some n | none, some _ => none | some v, _ => bnd v m).bind fun h =>
    (match lo with | none => some 0 | some v => bnd v h).bind fun l => some (.slice (slBase a l m s) (h - l) (m - l))
  | _ => none
def bltK (P : Program) (b : Builtin) (ts : Array TypeId) (vs : Array Value) : Option Value :=
  match b with
  | .len => (ts[0]?).bind fun T => (vs[0]?).bind fun v => lenV P T v
  | .min => (vs[0]?).bind fun x => (vs[1]?).bind fun y => if vs.size = 2 then minV x y else none
  | .max => (vs[0]?).bind fun x => (vs[1]?).bind fun y => if vs.size = 2 then maxV x y else none
  | _ => none
/-- Is a built-in function one of the plain ones? -/
def plainB : Builtin → Bool
  | .len => true
  | .min => true
  | .max => true
  | _ => false

/-- An operation that is left as it is: a structure, so that no unifier runs it. -/
structure rawK (P : Program) (o : Oper) (ρ : Regs) (w : World) (K : Regs → World → Prop) : Prop where
  run : WPr P o.dst ρ K ((execOp (ev ρ) o).run P w)
theorem rawK_congr {P : Program} {o : Oper} {ρ ρ' : Regs} {w w' : World} {K : Regs → World → Prop} (h1 : ρ = ρ') (h2 : w = w') : rawK P o ρ w K = rawK P o ρ' w' K := by rw [h1, h2]
/-- A conversion: of a number as it is reckoned; else left as it is. -/
def convK (P : Program) (S T : TypeId) (v : Value) (k : Value → Prop) (raw : Prop) : Prop :=
  match v with
  | .int i n => optK (convV P S T (.int i n)) k
  | _ => raw
theorem convK_int (P : Program) (S T : TypeId) (i : IntKind) (n : Int) (k : Value → Prop) (raw : Prop) : convK P S T (.int i n) k raw = optK (convV P S T (.int i n)) k := nr rfl
theorem convK_slice (P : Program) (S T : TypeId) (a : Option Addr) (n c : Nat) (k : Value → Prop) (raw : Prop) : convK P S T (.slice a n c) k raw = raw := nr rfl
theorem convK_string (P : Program) (S T : TypeId) (s : ByteArray) (k : Value → Prop) (raw : Prop) : convK P S T (.string s) k raw = raw := nr rfl
theorem convK_congr {P : Program} {S T : TypeId} {v v' : Value} {k : Value → Prop} {raw : Prop} (h : v = v') : convK P S T v k raw = convK P S T v' k raw := by rw [h]
/-- A struct's field: how it is read, and where it lies. -/
def fieldO (P : Program) (T : TypeId) (k : Nat) : Option (Option Nat × Nat) :=
  match P.underlying T with
  | some (.struct fs) => (fs[k]?).bind fun f => (loadKind P f.type).map fun o => (o, f.offset)
  | _ => none
def fieldV (P : Program) (T : TypeId) (k : Nat) (cs : Array Value) : Option Value :=
  match fieldO P T k with
  | some (none, o) => cs[o]?
  | some (some n, o) => some (.agg (cs.extract o (o + n)))
  | none => none
theorem fieldV_one {P : Program} {T : TypeId} {k o : Nat} (h : fieldO P T k = some (none, o)) (cs : Array Value) : fieldV P T k cs = cs[o]? := by simp only [fieldV, h]
theorem fieldV_agg {P : Program} {T : TypeId} {k o n : Nat} (h : fieldO P T k = some (some n, o)) (cs : Array Value) : fieldV P T k cs = some (.agg (cs.extract o (o + n))) := by simp only [fieldV, h]

/-- What an operation asks of what follows, where it is one of the plain kinds; else the model's own word. -/
def stepK (P : Program) (o : Oper) (ρ : Regs) (w : World) (K : Regs → World → Prop) : Prop :=
  match o.op with
  | .move x => K (put ρ o.dst (ev ρ x)) w
  | .assign x => K (put ρ o.dst (ev ρ x)) w
  | .pick c a b => boolK (ev ρ c) fun t => K (put ρ o.dst (if t = true then ev ρ a else ev ρ b)) w
  | .alloc T => optK (zeroOf P T) fun z => K (put ρ o.dst (.pointer (some ⟨w.heap.size, 0, none⟩))) (w.alloc (.cells z T))
  | .box T x => K (put ρ o.dst (.pointer (some ⟨w.heap.size, 0, none⟩))) (w.alloc (.cells (ev ρ x).cells T))
  | .load T x => addrK (ev ρ x) fun a => optK (loadOf P T w a) fun v => K (put ρ o.dst v) w
  | .store T x y => addrK (ev ρ x) fun a => optK (storeOf P T w a (ev ρ y)) fun w' => K (put ρ o.dst undef) w'
  | .nilCheck x => addrK (ev ρ x) fun a => K (put ρ o.dst (.pointer (some a))) w
  | .fieldAddr T x k => addrK (ev ρ x) fun a => optK (fieldOff P T k) fun n => optK (addOff a n) fun a' => K (put ρ o.dst (.pointer (some a'))) w
  | .indexAddr T x i => optK (elemSize P T) fun s => sliceK (ev ρ x) fun base len _ => intK (ev ρ i) fun _ j => optK (idxO j len) fun j => optK base fun a => optK (addOff a (j * s)) fun a' => K (put ρ o.dst (.pointer (some a'))) w
  | .binOp op T x y _ => optK (binNil P op T y (ev ρ x) (ev ρ y)) fun v => K (put ρ o.dst v) w
  | .unOp .not _ x => boolK (ev ρ x) fun t => K (put ρ o.dst (.bool (!t))) w
  | .extract x i => tupleK (ev ρ x) fun vs => optK (vs[i]?) fun v => K (put ρ o.dst v) w
  | .makeInterface T x => isIfaceT P T = false ∧ knownT P T = true ∧ K (put ρ o.dst (.iface T (ev ρ x))) w
  | .build T parts => optK (zeroOf P T) fun z => optK (placesOf P T) fun pl => optK (fillL pl z (parts.toList.map fun (i, x) => (i, ev ρ x))) fun cs => K (put ρ o.dst (.agg cs)) w
  | .buildSlice T n parts => optK (slElem P T) fun e => optK (bsl e.2 0 (parts.toList.map fun (i, x) => (i, ev ρ x))) fun cs =>
    (parts.size = n ∧ n * e.2 ≤ 16777216) ∧ K (put ρ o.dst (.slice (some ⟨w.heap.size, 0, none⟩) n n)) (w.alloc (.cells cs.toArray e.1))
  | .convert S T x => convK P S T (ev ρ x) (fun v => K (put ρ o.dst v) w) (rawK P o ρ w K)
  | .field T x k => aggK (ev ρ x) fun cs => optK (fieldV P T k cs) fun v => K (put ρ o.dst v) w
  | .slice T x lo hi mx => optK (sliceV P T (lo.map (ev ρ)) (hi.map (ev ρ)) (mx.map (ev ρ)) (ev ρ x)) fun v => K (put ρ o.dst v) w
  | .call { callee := .value x, args, .. } => funcK (ev ρ x) fun f a b => callable P f = true ∧ Fn P f (a ++ args.map (ev ρ) ++ b) w fun v w' => K (put ρ o.dst v) w'
  | .call { callee := .builtin b, args, argTypes } => if plainB b = true then optK (bltK P b argTypes (args.map (ev ρ))) fun v => K (put ρ o.dst v) w
    else rawK P o ρ w K
  | .makeFunc fn first captured => K (put ρ o.dst (.func fn (first.map (ev ρ)) (captured.map (ev ρ)))) w
  | _ => rawK P o ρ w K

def WPsq (P : Program) (ops : Array Oper) : List Oper → (Regs → World → Prop) → Regs → World → Prop
  | [], K, ρ, w => K ρ w
  | o :: os, K, ρ, w => if wantedR ops o ρ = true then stepK P o ρ w (WPsq P ops os K) else WPsq P ops os K (put ρ o.dst undef) w

section
variable {P : Program}

theorem info_of_under {T : TypeId} {d : TypeDesc} (h : P.underlying T = some d) : (P.info? T).isSome = true := by
  unfold Program.underlying at h
  cases hi : P.info? T with
  | none => rw [hi] at h; cases h
  | some i => rfl

theorem run_typeInfo {T : TypeId} {i : TypeInfo} (h : P.info? T = some i) (w : World) : (typeInfo T).run P w = .ok i w := by
  simp only [typeInfo, Sem.run_bind, program, Sem.run, Result.andThen_ok, h]; rfl
theorem run_underlying {T : TypeId} {d : TypeDesc} (h : P.underlying T = some d) (w : World) : (underlying T).run P w = .ok d w := by
  simp only [underlying, Sem.run_bind, program, Sem.run, Result.andThen_ok, h]; rfl
theorem run_sizeOf {T : TypeId} {i : TypeInfo} (h : P.info? T = some i) (w : World) : (Go.sizeOf T).run P w = .ok i.size w := by
  simp only [Go.sizeOf, Sem.run_bind, run_typeInfo h, Result.andThen_ok]; rfl
theorem run_isAgg {T : TypeId} {b : Bool} (h : isAggT P T = some b) (w : World) : (isAgg T).run P w = .ok b w := by
  simp only [isAggT, Option.map_eq_some_iff] at h
  obtain ⟨d, hd, rfl⟩ := h
  simp only [isAgg, Sem.run_bind, run_underlying hd, Result.andThen_ok]
  cases d <;> rfl
theorem run_zero {T : TypeId} {i : TypeInfo} {z : Value} (h : P.info? T = some i) (hz : i.zero = some z) (w : World) : (zeroValue T).run P w = .ok z w := by
  simp only [zeroValue, Sem.run_bind, run_typeInfo h, Result.andThen_ok, hz]; rfl

theorem run_load1 {w : World} {a : Addr} {v : Value} (h : w.cell? a = some v) : (load a).run P w = .ok v w := by
  simp [h]

theorem add_plain (b o i : Nat) : Addr.add ⟨b, o, none⟩ i = ⟨b, o + i, none⟩ := by
  unfold Addr.add
  by_cases h : i = 0
  · simp [h]
  · simp [h]

theorem run_loadCells {w : World} {b o : Nat} {x : Blk} (hb : blk w b = some x) : ∀ (n i : Nat) (acc : Array Value), o + i + n ≤ x.1.size →
    (loadCellsFrom ⟨b, o, none⟩ i n acc).run P w = .ok (acc ++ x.1.extract (o + i) (o + i + n)) w := by
  intro n
  induction n with
  | zero => intro i acc h; simp [loadCellsFrom, Array.extract_empty_of_stop_le_start]
  | succ n ih =>
    intro i acc h
    have ha : Addr.add ⟨b, o, none⟩ i = ⟨b, o + i, none⟩ := add_plain b o i
    have hc : w.cell? (Addr.add ⟨b, o, none⟩ i) = some (x.1[o + i]'(by omega)) := by
      rw [ha, cell?_blk, hb]; simp
    simp only [loadCellsFrom, Sem.run_bind, run_load1 hc, Result.andThen_ok]
    rw [ih (i + 1) _ (by omega)]
    congr 1
    apply Array.ext
    · simp; omega
    · intro j h1 h2
      simp only [Array.getElem_append, Array.size_push, Array.getElem_push, Array.getElem_extract]
      by_cases hj : j < acc.size
      · simp [hj, Nat.lt_succ_of_lt hj]
      · by_cases hj2 : j = acc.size
        · subst hj2; simp
        · have : ¬ j < acc.size + 1 := by omega
          simp only [hj, this, dif_neg, not_false_iff]
          congr 1; omega

theorem loadOf_sound {T : TypeId} {w : World} {a : Addr} {v : Value} (h : loadOf P T w a = some v) : (loadVar T a).run P w = .ok v w := by
  obtain ⟨b, o, sp⟩ := a
  cases sp with
  | some s => simp [loadOf] at h
  | none =>
    simp only [loadOf, loadKind] at h
    cases hagg : isAggT P T with
    | none => simp [hagg] at h
    | some t =>
      cases hi : P.info? T with
      | none => cases t <;> simp [hagg, hi] at h
      | some i =>
        cases t with
        | false =>
          simp only [hagg, hi] at h
          have hc : w.cell? ⟨b, o, none⟩ = some v := by rw [cell?_blk]; exact h
          simp only [loadVar, Sem.run_bind, run_isAgg hagg, Result.andThen_ok, Bool.false_eq_true, if_false, run_load1 hc]
        | true =>
          simp only [hagg, hi] at h
          cases hb : blk w b with
          | none => simp [hb] at h
          | some x =>
            simp only [hb, Option.bind_some] at h
            by_cases hs : o + i.size ≤ x.1.size
            · rw [if_pos hs] at h
              simp only [Option.some.injEq] at h
              subst h
              simp only [loadVar, Sem.run_bind, run_isAgg hagg, Result.andThen_ok, if_true, run_sizeOf hi, loadCells]
              rw [run_loadCells hb i.size 0 #[] (by omega)]
              simp
            · rw [if_neg hs] at h; cases h

theorem run_store1 {w : World} {b o : Nat} {x : Blk} {v : Value} (hb : blk w b = some x) (ho : o < x.1.size) (hfr : x.2.2.2 ≤ o ∨ o < x.2.2.1) (hv : flat v = true) :
    (store ⟨b, o, none⟩ v).run P w = .ok () (w.setCell ⟨b, o, none⟩ v) := by
  have hc : w.cell? ⟨b, o, none⟩ = some (x.1[o]) := by rw [cell?_blk, hb]; simp [ho]
  have hf : w.frozen? ⟨b, o, none⟩ = false := by rw [frozen?_blk hb]; simp; omega
  cases v <;> first | (simp [flat] at hv; done) | simp [store, Sem.run, hc, hf]

theorem setCell_wr (w : World) (b o : Nat) (v : Value) : w.setCell ⟨b, o, none⟩ v = wr w b o [v] := by
  simp only [World.setCell, wr]
  congr 2

theorem wr_wr {w : World} {b o : Nat} (v : Value) (vs : List Value) : wr (wr w b o [v]) b (o + 1) vs = wr w b o (v :: vs) := by
  simp only [wr]
  congr 1
  apply Array.ext
  · simp
  · intro i h1 h2
    have hi : i < w.heap.size := by simpa using h2
    simp only [Array.getElem_modify]
    split
    · cases w.heap[i]'hi <;> simp [wrArr]
    · rfl

theorem wrArr_size (c : Array Value) (o : Nat) (vs : List Value) : (wrArr c o vs).size = c.size := by
  induction vs generalizing c o with
  | nil => rfl
  | cons v vs ih => simp [wrArr, ih]

theorem blk_wr_same {w : World} {b : Nat} {x : Blk} (o : Nat) (vs : List Value) (h : blk w b = some x) : blk (wr w b o vs) b = some (wrArr x.1 o vs, x.2) := by
  simp only [blk] at h
  simp only [blk, wr, Array.getElem?_modify, if_true]
  cases hb : w.heap[b]? with
  | none => rw [hb] at h; cases h
  | some y =>
    rw [hb] at h
    cases y <;> first | (simp at h; done) | skip
    simp only [Option.some.injEq] at h
    subst h
    rfl

theorem run_storeCells {b : Nat} : ∀ (vs : List Value) (w : World) (o i : Nat) (x : Blk), blk w b = some x → o + i + vs.length ≤ x.1.size → (x.2.2.2 ≤ o + i ∨ o + i + vs.length ≤ x.2.2.1) → vs.all flat = true →
    (storeCells ⟨b, o, none⟩ vs i).run P w = .ok () (wr w b (o + i) vs) := by
  intro vs
  induction vs with
  | nil =>
    intro w o i x hb _ _ _
    have : wr w b (o + i) [] = w := by
      simp only [wr]
      congr 1
      apply Array.ext
      · simp
      · intro j h1 h2
        simp only [Array.getElem_modify]
        split
        · cases w.heap[j]'(by simpa using h2) <;> simp [wrArr]
        · rfl
    rw [this]; rfl
  | cons v vs ih =>
    intro w o i x hb hl hf hv
    simp only [List.length_cons] at hl hf
    simp only [List.all_cons, Bool.and_eq_true] at hv
    have hs := run_store1 (P := P) (o := o + i) hb (by omega) (by omega) hv.1
    simp only [storeCells, Sem.run_bind, add_plain, hs, Result.andThen_ok]
    rw [setCell_wr]
    have := ih (wr w b (o + i) [v]) o (i + 1) _ (blk_wr_same (o + i) [v] hb) (by rw [wrArr_size]; omega) (by simp only []; omega) hv.2
    rw [this, ← Nat.add_assoc, wr_wr]

theorem storeOf_sound {T : TypeId} {w w' : World} {a : Addr} {v : Value} (h : storeOf P T w a v = some w') : (storeVar T a v).run P w = .ok () w' := by
  obtain ⟨b, o, sp⟩ := a
  cases sp with
  | some s => simp [storeOf] at h
  | none =>
    simp only [storeOf, Option.bind_eq_some_iff, sizeT, Option.map_eq_some_iff] at h
    obtain ⟨n, ⟨i, hi, rfl⟩, x, hb, h⟩ := h
    split at h
    · rename_i hc
      obtain ⟨h1, h2, h3, h4⟩ := hc
      simp only [Option.some.injEq] at h
      subst h
      have hl : v.cells.toList.length = i.size := by simpa using h1
      have h3' : x.2.2.2 ≤ o ∨ o + i.size ≤ x.2.2.1 := by simpa [thaw, Nat.ble_eq] using h3
      simp only [storeVar, Sem.run_bind, run_sizeOf hi, Result.andThen_ok]
      rw [if_neg (by simpa using h1)]
      have := run_storeCells (P := P) v.cells.toList w o 0 x hb (by rw [hl]; simpa using h2) (by rw [hl]; simpa using h3') h4
      simpa using this
    · cases h

theorem fieldOff_sound {T k n : Nat} {a a' : Addr} (h : fieldOff P T k = some n) (ha : addOff a n = some a') (w : World) :
    (Instr.fieldAt T (.pointer (some a)) k).run P w = .ok (.pointer (some a')) w := by
  simp only [fieldOff] at h
  split at h
  · rename_i fs hu
    cases hf : fs[k]? with
    | none => simp [hf] at h
    | some f =>
      simp only [hf, Option.bind_some] at h
      cases hi : P.info? f.type with
      | none => simp [hi] at h
      | some i =>
        simp only [hi, Option.bind_some] at h
        split at h
        · cases h
        · rename_i hne
          simp only [Option.some.injEq] at h
          subst h
          simp only [Instr.fieldAt, Sem.run_bind, run_underlying hu, Result.andThen_ok, hf, Instr.sureAddr, Sem.run_pure, fieldPlace, run_sizeOf hi]
          rw [if_neg hne]
          simp only [Sem.run_pure, Result.andThen_ok]
          obtain ⟨b, o, sp⟩ := a
          cases sp with
          | some s => simp [addOff] at ha
          | none =>
            simp only [addOff, Option.some.injEq] at ha
            subst ha
            rw [add_plain]
  · cases h

theorem add_of_addOff {a a' : Addr} {n : Nat} (ha : addOff a n = some a') : a.add n = a' := by
  obtain ⟨b, o, sp⟩ := a
  cases sp with
  | some s => simp [addOff] at ha
  | none =>
    simp only [addOff, Option.some.injEq] at ha
    subst ha
    exact add_plain _ _ _

theorem intOp_sound {op : BinOp} {k k' : IntKind} {x y : Int} {v : Value} {T : TypeId} (h : intV op k k' x y = some v) (w : World) :
    (binOp op T (.int k x) (.int k' y)).run P w = .ok v w := by
  cases op <;> simp only [intV, intOp, shlO, shrO] at h <;>
    first
    | (split at h
       · rename_i hk; subst hk
         first
         | (simp only [Option.some.injEq] at h; subst h; simp [binOp, Op.intArith])
         | (split at h
            · cases h
            · rename_i hy; simp only [Option.some.injEq] at h; subst h; simp [binOp, Op.intDiv, hy])
         | (simp only [bitsOf, Option.map_some, Option.some.injEq] at h; subst h; simp [binOp, Op.intBits])
         | (simp only [cmpOf, Option.map_some, Option.some.injEq] at h; subst h; simp [binOp, Op.intCmp])
         | (simp [cmpOf] at h)
       · cases h)
    | (split at h
       · cases h
       · rename_i hy; simp only [Option.some.injEq] at h; subst h; simp [binOp, Op.shift, hy])
    | (simp [cmpOf] at h)

end
end Ms
