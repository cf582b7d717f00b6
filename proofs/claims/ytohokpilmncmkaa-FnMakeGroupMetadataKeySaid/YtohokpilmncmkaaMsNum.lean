/- Whole numbers: wraps, octets. -/
import Derived.Test.YtohokpilmncmkaaMsAppend
import Derived.IntWalk
set_option linter.unusedSimpArgs false
set_option linter.unusedVariables false
namespace Ms
open Go

theorem i64_wrap {x : Int} (h : -9223372036854775808 ≤ x ∧ x ≤ 9223372036854775807) : IntKind.i64.wrap x = x := IntWalk.i64_in x h
theorem i32_wrap {x : Int} (h : -2147483648 ≤ x ∧ x ≤ 2147483647) : IntKind.i32.wrap x = x := IntWalk.i32_in x h
theorem i16_wrap {x : Int} (h : -32768 ≤ x ∧ x ≤ 32767) : IntKind.i16.wrap x = x := IntWalk.i16_in x h
theorem u32_wrap {x : Int} (h : 0 ≤ x ∧ x ≤ 4294967295) : IntKind.u32.wrap x = x := IntWalk.u32_in x h
theorem u64_wrap {x : Int} (h : 0 ≤ x ∧ x ≤ 18446744073709551615) : IntKind.u64.wrap x = x := IntWalk.u64_in x h

section
variable {P : Program} {T : TypeId}
/-- A type's loads, stores: as facts of a program. -/
def cellsAt (c : Array Value) (o n : Nat) : Option Value := if o + n ≤ c.size then some (.agg (c.extract o (o + n))) else none
theorem cellsAt_ok {c : Array Value} {o n : Nat} (h : o + n ≤ c.size) : cellsAt c o n = some (.agg (c.extract o (o + n))) := if_pos h
theorem loadOf_one (h : loadKind P T = some none) (w : World) (b o : Nat) : loadOf P T w ⟨b, o, none⟩ = (blk w b).bind fun x => x.1[o]? := by simp only [loadOf, h]
theorem loadOf_agg {n : Nat} (h : loadKind P T = some (some n)) (w : World) (b o : Nat) : loadOf P T w ⟨b, o, none⟩ = (blk w b).bind fun x => cellsAt x.1 o n := by simp only [loadOf, h]; rfl
def stO (w : World) (b o : Nat) (v : Value) (x : Blk) (n : Nat) : Option World :=
  if v.cells.size = n ∧ o + n ≤ x.1.size ∧ thaw x.2.2 o n = true ∧ v.cells.toList.all flat = true then some (wr w b o v.cells.toList) else none
theorem storeOf_n {n : Nat} (h : sizeT P T = some n) (w : World) (b o : Nat) (v : Value) : storeOf P T w ⟨b, o, none⟩ v = (blk w b).bind fun x => stO w b o v x n := by simp only [storeOf, h, Option.bind_some]; rfl
theorem stO_eq (w : World) (b o : Nat) (v : Value) (x : Blk) (n : Nat) : stO w b o v x n = if (vcells v).size = n ∧ o + n ≤ x.1.size ∧ thaw x.2.2 o n = true ∧ (vcells v).toList.all flat = true then some (wr w b o (vcells v).toList) else none := nr rfl
theorem thaw_00 (o n : Nat) : thaw (0, 0) o n = true := by simp [thaw, Nat.ble]
theorem binNil_eq (op : BinOp) (y : Operand) (a b : Value) : binNil P op T y a b = if isNilI a = true then (if isNilI b = true then eqV op (isIfaceT P T && isConstO y) true else none) else binV P op T a b := nr rfl
theorem intV_add (k : IntKind) (x y : Int) : intV .add k k x y = some (.int k (k.wrap (x + y))) := by simp [intV, intOp]
theorem intV_sub (k : IntKind) (x y : Int) : intV .sub k k x y = some (.int k (k.wrap (x - y))) := by simp [intV, intOp]
theorem intV_mul (k : IntKind) (x y : Int) : intV .mul k k x y = some (.int k (k.wrap (x * y))) := by simp [intV, intOp]
theorem intV_rem (k : IntKind) {x y : Int} (h : y ≠ 0) : intV .rem k k x y = some (.int k (x.tmod y)) := by simp [intV, intOp, h]
theorem intV_and (k : IntKind) (x y : Int) : intV .and k k x y = some (.int k (k.wrap ((BitVec.ofInt (kbits k) x &&& BitVec.ofInt (kbits k) y).toNat : Int))) := by unfold kbits; simp [intV, intOp, bitsOf]
theorem intV_or (k : IntKind) (x y : Int) : intV .or k k x y = some (.int k (k.wrap ((BitVec.ofInt (kbits k) x ||| BitVec.ofInt (kbits k) y).toNat : Int))) := by unfold kbits; simp [intV, intOp, bitsOf]
theorem intV_xor (k : IntKind) (x y : Int) : intV .xor k k x y = some (.int k (k.wrap ((BitVec.ofInt (kbits k) x ^^^ BitVec.ofInt (kbits k) y).toNat : Int))) := by unfold kbits; simp [intV, intOp, bitsOf]
theorem intV_shl (k k' : IntKind) {x y : Int} (h : 0 ≤ y) : intV .shl k k' x y = some (.int k (k.wrap (x * 2 ^ (min y.toNat (kbits k))))) := shlO_ok k h
theorem intV_shr (k k' : IntKind) {x y : Int} (h : 0 ≤ y) : intV .shr k k' x y = some (.int k (x.fdiv (2 ^ (min y.toNat (kbits k))))) := shrO_ok k h
theorem intV_eql (k : IntKind) (x y : Int) : intV .eql k k x y = some (.bool (x == y)) := by simp [intV, intOp, cmpOf]
theorem intV_neq (k : IntKind) (x y : Int) : intV .neq k k x y = some (.bool (x != y)) := by simp [intV, intOp, cmpOf]
theorem intV_lss (k : IntKind) (x y : Int) : intV .lss k k x y = some (.bool (decide (x < y))) := by simp [intV, intOp, cmpOf]
theorem intV_leq (k : IntKind) (x y : Int) : intV .leq k k x y = some (.bool (decide (x ≤ y))) := by simp [intV, intOp, cmpOf]
theorem intV_gtr (k : IntKind) (x y : Int) : intV .gtr k k x y = some (.bool (decide (x > y))) := by simp [intV, intOp, cmpOf]
theorem intV_geq (k : IntKind) (x y : Int) : intV .geq k k x y = some (.bool (decide (x ≥ y))) := by simp [intV, intOp, cmpOf]
theorem eqV_eql (r : Bool) : eqV .eql true r = some (.bool r) := nr rfl
theorem eqV_neq (r : Bool) : eqV .neq true r = some (.bool (!r)) := nr rfl
theorem plainB_len : plainB .len = true := nr rfl
theorem plainB_min : plainB .min = true := nr rfl
theorem plainB_max : plainB .max = true := nr rfl
theorem plainB_append : plainB .append = false := nr rfl
theorem plainB_copy : plainB .copy = false := nr rfl
theorem bltK_len (v : Value) : bltK P .len #[T] #[v] = lenV P T v := nr rfl
theorem bltK_min (ts : Array TypeId) (x y : Value) : bltK P .min ts #[x, y] = minV x y := nr rfl
theorem bltK_max (ts : Array TypeId) (x y : Value) : bltK P .max ts #[x, y] = maxV x y := nr rfl
theorem fillL_nil (pl : List (Nat × Nat)) (c : Array Value) : fillL pl c [] = some c := nr rfl
theorem fillL_cons (pl : List (Nat × Nat)) (c : Array Value) (i : Nat) (v : Value) (r : List (Nat × Value)) : fillL pl c ((i, v) :: r) =
    (pl[i]?).bind fun p => if (vcells v).size = p.2 ∧ p.1 + (vcells v).size ≤ c.size then fillL pl (wrArr c p.1 (vcells v).toList) r else none := by
  simp only [fillL]; cases pl[i]? <;> rfl
theorem bsl_nil (s k : Nat) : bsl s k [] = some [] := nr rfl
theorem bsl_cons (s k i : Nat) (v : Value) (r : List (Nat × Value)) : bsl s k ((i, v) :: r) = if i = k ∧ (vcells v).size = s then (bsl s (k + 1) r).map ((vcells v).toList ++ ·) else none := nr rfl
theorem wrArr_nil (c : Array Value) (o : Nat) : wrArr c o [] = c := nr rfl
theorem wrArr_cons (c : Array Value) (o : Nat) (v : Value) (vs : List Value) : wrArr c o (v :: vs) = wrArr (c.setIfInBounds o v) (o + 1) vs := nr rfl
theorem resV_one (v : Value) : resV [v] = v := nr rfl
theorem resV_none : resV [] = .tuple #[] := nr rfl
theorem resV_two (u v : Value) : resV [u, v] = .tuple #[u, v] := nr rfl
end
section
variable (P : Program) (op : BinOp) (T : TypeId)
theorem binV_int (k k' : IntKind) (x y : Int) : binV P op T (.int k x) (.int k' y) = intV op k k' x y := nr rfl
theorem binV_bool (x y : Bool) : binV P op T (.bool x) (.bool y) = eqV op (isBoolT P T) (x == y) := nr rfl
theorem binV_slice (a c : Option Addr) (n m k l : Nat) : binV P op T (.slice a n m) (.slice c k l) = eqV op (isSliceT P T && c.isNone) a.isNone := nr rfl
theorem binV_map (a c : Option Nat) : binV P op T (.map a) (.map c) = eqV op (isMapT P T && c.isNone) a.isNone := nr rfl
theorem binV_pointer (a c : Option Addr) : binV P op T (.pointer a) (.pointer c) = eqV op (isPtrT P T && c.isNone) a.isNone := nr rfl
theorem binV_iface (t : TypeId) (v : Value) : binV P op T (.iface t v) .nilIface = eqV op (isIfaceT P T) false := nr rfl
theorem isNilI_int (k : IntKind) (x : Int) : isNilI (.int k x) = false := nr rfl
theorem isNilI_bool (x : Bool) : isNilI (.bool x) = false := nr rfl
theorem isNilI_slice (a : Option Addr) (n m : Nat) : isNilI (.slice a n m) = false := nr rfl
theorem isNilI_map (a : Option Nat) : isNilI (.map a) = false := nr rfl
theorem isNilI_pointer (a : Option Addr) : isNilI (.pointer a) = false := nr rfl
theorem isNilI_iface (t : TypeId) (v : Value) : isNilI (.iface t v) = false := nr rfl
theorem isNilI_nil : isNilI .nilIface = true := nr rfl
theorem isConstO_const (v : Value) : isConstO (.const v) = true := nr rfl
theorem isConstO_tmp (v : Nat) : isConstO (.tmp v) = false := nr rfl
theorem lenV_slice (a : Option Addr) (n m : Nat) : lenV P T (.slice a n m) = if isSliceT P T = true then some (.int .i64 n) else none := nr rfl
theorem lenV_string (s : ByteArray) : lenV P T (.string s) = if isStrT P T = true then some (.int .i64 s.size) else none := nr rfl
theorem convV_int (S : TypeId) (k : IntKind) (n : Int) : convV P S T (.int k n) = if knownT P S = true then (intT P T).map (fun k => .int k (k.wrap n)) else none := nr rfl
theorem minV_int (k k' : IntKind) (x y : Int) : minV (.int k x) (.int k' y) = some (.int k (if y < x then y else x)) := nr rfl
theorem maxV_int (k k' : IntKind) (x y : Int) : maxV (.int k x) (.int k' y) = some (.int k (if y > x then y else x)) := nr rfl
theorem sliceV_slice (lo hi mx : Option Value) (a : Option Addr) (n c : Nat) : sliceV P T lo hi mx (.slice a n c) = (elemSize P T).bind fun s =>
    (match mx with | none => some c | some v => bnd v c).bind fun m =>
    (match hi, mx with | none, none => some n | none, some _ => none | some v, _ => bnd v m).bind fun h =>
    (match lo with | none => some 0 | some v => bnd v h).bind fun l => some (.slice (slBase a l m s) (h - l) (m - l)) := nr rfl
end
theorem beq_tt : (true == true) = true := nr rfl
theorem beq_tf : (true == false) = false := nr rfl
theorem beq_ft : (false == true) = false := nr rfl
theorem beq_ff : (false == false) = true := nr rfl
theorem flat_int (k : IntKind) (x : Int) : flat (.int k x) = true := nr rfl
theorem flat_bool (x : Bool) : flat (.bool x) = true := nr rfl
theorem flat_slice (a : Option Addr) (n m : Nat) : flat (.slice a n m) = true := nr rfl
theorem flat_pointer (a : Option Addr) : flat (.pointer a) = true := nr rfl
theorem flat_string (s : ByteArray) : flat (.string s) = true := nr rfl
theorem flat_map (a : Option Nat) : flat (.map a) = true := nr rfl
theorem flat_iface (t : TypeId) (v : Value) : flat (.iface t v) = true := nr rfl
theorem flat_nilI : flat .nilIface = true := nr rfl
theorem flat_func (f : Go.Fn) (a b : Array Value) : flat (.func f a b) = true := nr rfl

theorem dec_lt_t {x y : Int} (h : x < y) : decide (x < y) = true := decide_eq_true h
theorem dec_lt_f {x y : Int} (h : y ≤ x) : decide (x < y) = false := decide_eq_false (by omega)
theorem dec_le_t {x y : Int} (h : x ≤ y) : decide (x ≤ y) = true := decide_eq_true h
theorem dec_le_f {x y : Int} (h : y < x) : decide (x ≤ y) = false := decide_eq_false (by omega)
theorem dec_gt_t {x y : Int} (h : y < x) : decide (x > y) = true := decide_eq_true h
theorem dec_gt_f {x y : Int} (h : x ≤ y) : decide (x > y) = false := decide_eq_false (by omega)
theorem dec_ge_t {x y : Int} (h : y ≤ x) : decide (x ≥ y) = true := decide_eq_true h
theorem dec_ge_f {x y : Int} (h : x < y) : decide (x ≥ y) = false := decide_eq_false (by omega)
theorem beq_t {x y : Int} (h : x = y) : (x == y) = true := by simp [h]
theorem beq_f {x y : Int} (h : x ≠ y) : (x == y) = false := by simp [h]
theorem bne_t {x y : Int} (h : x ≠ y) : (x != y) = true := by simp [h]
theorem bne_f {x y : Int} (h : x = y) : (x != y) = false := by simp [h]

/-- The lowest octet of a number. -/
def b8 (x : Int) : UInt8 := UInt8.ofNat (x % 256).toNat
theorem b8_toNat (x : Int) : ((b8 x).toNat : Int) = x % 256 := by
  have h1 : (x % 256).toNat < 256 := by omega
  simp only [b8, UInt8.toNat_ofNat']
  omega
theorem u8_byte (x : Int) : Value.int .u8 (IntKind.u8.wrap x) = byteV (b8 x) := by
  simp only [byteV, b8_toNat]
  congr 1
theorem cells_byte (b : UInt8) : vcells (byteV b) = #[byteV b] := nr rfl

theorem OwnBy.app {E : TypeId} {B : Nat} {w : World} {v : Value} {s t : List UInt8} {n : Nat} (h : Own B w E 1 v n (s.map byteV ++ t.map byteV)) (hn : n = s.length + t.length) : OwnBy E B w v (s ++ t) := by
  unfold OwnBy; rw [List.map_append, List.length_append, ← hn]; exact h
theorem OwnBy.snoc {E : TypeId} {B : Nat} {w : World} {v : Value} {s : List UInt8} {b : UInt8} (h : Own B w E 1 v (s.length + 1) (s.map byteV ++ [byteV b])) : OwnBy E B w v (s ++ [b]) :=
  OwnBy.app (t := [b]) h rfl
theorem OwnBy.len {E : TypeId} {B : Nat} {w : World} {v : Value} {s : List UInt8} (h : OwnBy E B w v s) : ∃ a c, v = .slice a s.length c ∧ s.length ≤ c := Own.shape h
theorem flat_bytes (s : List UInt8) : (s.map byteV).all flat = true := by
  simp only [List.all_map, List.all_eq_true]; intro b _; rfl
/-- A step that writes into an own slice alone (its row is newer than w) leaves all of w. -/
theorem Ext.own {w w1 w2 : World} {v : Value} {E : TypeId} {size n : Nat} {cs : List Value} {wa : World} (h : Ext w w1) (ho : Own w.heap.size wa E size v n cs) (hu : Upd (ownB v) w1 w2) : Ext w w2 :=
  Upd.trans' h hu fun i hi hs => by have := ho.above hs; omega
theorem Own.alloc {B : Nat} {w : World} {E : TypeId} {size : Nat} {v : Value} {n : Nat} {cs : List Value} (h : Own B w E size v n cs) (o : Obj) : Own B (w.alloc o) E size v n cs :=
  h.keep fun _ _ hlt => RowKit.Below.heap_alloc _ _ _ hlt
theorem Own.upd {S : Nat → Prop} {B : Nat} {w w' : World} {E : TypeId} {size : Nat} {v : Value} {n : Nat} {cs : List Value} (h : Own B w E size v n cs) (u : Upd S w w') (hs : ∀ b, ownB v b → ¬ S b) : Own B w' E size v n cs :=
  h.keep fun b hb hlt => u.keep b hlt (hs b hb)

end Ms
