/- A part of the proof: see the last text. -/
import Derived.Maps.RangeRun
import Derived.Test.YtfeaoncgnhhjbaaGreatDoorC02
set_option linter.unusedSimpArgs false
set_option linter.unusedVariables false
namespace Ms
open Go Go.ChangeMaps
section
variable {P : Program} {ρ : Regs} {w w' : World} {K : Regs → World → Prop} {d : Option Nat} {type : TypeId} {pos : String} {after : Array Edge} {guard : Option (Nat × Bool)}

theorem wp_raw {o : Oper} {v : Value} (h : (execOp (ev ρ) o).run P w = .ok (.value v) w') (hk : K (put ρ o.dst v) w') : rawK P o ρ w K := ⟨by rw [h];exact hk⟩
theorem wp_skip {o : Oper} (h : (execOp (ev ρ) o).run P w = .ok .skip w') (hk : K (put ρ o.dst undef) w') : rawK P o ρ w K := ⟨by rw [h];exact hk⟩

theorem Upd.setBlock {S : Nat → Prop} {w0 : World} (u : Upd S w0 w) (r : Nat) (o : Obj) (h : w0.heap.size ≤ r ∨ S r) : Upd S w0 (Go.ChangeMaps.setBlock w r o) := by
  refine ⟨u.os,u.tape,u.output,?_,fun b hb hn => ?_⟩
  · show w0.heap.size ≤ (w.heap.setIfInBounds r o).size
    rw [Array.size_setIfInBounds];exact u.size
  · show (w.heap.setIfInBounds r o)[b]? = _
    have hne : r ≠ b := fun e => by
      subst e
      rcases h with h | h
      · omega
      · exact hn h
    rw [Array.getElem?_setIfInBounds_ne hne]
    exact u.keep b hb hn
theorem setBlock_same (w : World) (r : Nat) (o : Obj) (h : r < w.heap.size) : (Go.ChangeMaps.setBlock w r o).heap[r]? = some o := by
  show (w.heap.setIfInBounds r o)[r]? = _
  rw [Array.getElem?_setIfInBounds_self_of_lt h]
theorem setBlock_ne (w : World) (r : Nat) (o : Obj) {b : Nat} (h : b ≠ r) : (Go.ChangeMaps.setBlock w r o).heap[b]? = w.heap[b]? := by
  show (w.heap.setIfInBounds r o)[b]? = _
  rw [Array.getElem?_setIfInBounds_ne (Ne.symm h)]
theorem setBlock_size (w : World) (r : Nat) (o : Obj) : (Go.ChangeMaps.setBlock w r o).heap.size = w.heap.size := by
  show (w.heap.setIfInBounds r o).size = _
  rw [Array.size_setIfInBounds]

theorem wp_makeMap {T : TypeId} (hk : K (put ρ d (.map (some w.heap.size))) (w.alloc (.map #[] 0))) :
    rawK P { dst := d,op := .makeMap T none,type := type,pos := pos,after := after,guard := guard } ρ w K :=
  have h : (Instr.makeMap T none).run P w = .ok (.map (some w.heap.size)) (w.alloc (.map #[] 0)) := rfl
  wp_raw (by simp only [execOp,Option.map_none,Sem.run_bind,h,Result.andThen_ok,Sem.run_pure]) hk

theorem wp_len_map {T k e : TypeId} {x : Operand} {r clock : Nat} {es : Array MapEntry} (hT : P.underlying T = some (.map k e)) (hx : ev ρ x = .map (some r)) (hb : w.heap[r]? = some (.map es clock)) (hk : K (put ρ d (.int .i64 es.size)) w) :
    rawK P { dst := d,op := .call { callee := .builtin .len,args := #[x],argTypes := #[T] },type := type,pos := pos,after := after,guard := guard } ρ w K := by
  refine wp_raw (v := .int .i64 es.size) ?_ hk
  have h1 : (Builtin.len_ #[T] type #[.map (some r)]).run P w = .ok (.int .i64 es.size) w := by
    simp [Builtin.len_,run_underlying hT,MapKept.run_getObj_map hb,goInt]
  simp only [execOp,resolve,Sem.run_bind,Sem.run_pure,Result.andThen_ok,invoke,builtin,List.map_toArray,List.map_cons,List.map_nil,hx,h1]
theorem wp_len_nil {T k e : TypeId} {x : Operand} (hT : P.underlying T = some (.map k e)) (hx : ev ρ x = .map none) (hk : K (put ρ d (.int .i64 0)) w) :
    rawK P { dst := d,op := .call { callee := .builtin .len,args := #[x],argTypes := #[T] },type := type,pos := pos,after := after,guard := guard } ρ w K := by
  refine wp_raw (v := .int .i64 0) ?_ hk
  have h1 : (Builtin.len_ #[T] type #[.map none]).run P w = .ok (.int .i64 0) w := by
    simp [Builtin.len_,run_underlying hT,goInt]
  simp only [execOp,resolve,Sem.run_bind,Sem.run_pure,Result.andThen_ok,invoke,builtin,List.map_toArray,List.map_cons,List.map_nil,hx,h1]

theorem checkKey_int {k : TypeId} {q : IntKind} (hK : P.underlying k = some (.int q)) (b : Bool) (m : Nat) (n : Int) (w : World) : (Instr.checkKey b (m + 1) k (.int q n)).run P w = .ok () w := by
  rw [Instr.checkKey]
  simp only [Sem.run_bind,run_underlying hK,Result.andThen_ok]
  rfl
def KeysU (es : List MapEntry) : Prop := ∀ e ∈ es,∃ n : Int,e.key = .int .u32 n
theorem findNow_none {n : Int} : ∀ {es : List MapEntry} {i : Nat},KeysU es → (∀ e ∈ es,e.key ≠ .int .u32 n) → Instr.findNow (.int .u32) (.int .u32 n) es i = some none
  | [],_,_,_ => rfl
  | e :: es,i,h1,h2 => by
    obtain ⟨m,hm⟩ := h1 e (by simp)
    have hne : n ≠ m := fun h => h2 e (by simp) (by rw [hm,h])
    have : Instr.sameNow (.int .u32) (.int .u32 n) e.key = some false := by rw [hm];simp [Instr.sameNow,hne]
    rw [Instr.findNow,this]
    exact findNow_none (fun e he => h1 e (by simp [he])) fun e he => h2 e (by simp [he])
theorem findNow_hit {n : Int} : ∀ {es : List MapEntry} {i k : Nat} (hk : k < es.length),KeysU es → es[k].key = .int .u32 n → (∀ j (hj : j < es.length),j < k → es[j].key ≠ .int .u32 n) →
    Instr.findNow (.int .u32) (.int .u32 n) es i = some (some (i + k,es[k].val))
  | e :: es,i,0,hk,h1,h2,_ => by
    simp only [List.getElem_cons_zero] at h2 ⊢
    have : Instr.sameNow (.int .u32) (.int .u32 n) e.key = some true := by rw [h2];simp [Instr.sameNow]
    rw [Instr.findNow,this];rfl
  | e :: es,i,k + 1,hk,h1,h2,h3 => by
    obtain ⟨m,hm⟩ := h1 e (by simp)
    have hne : n ≠ m := fun h => h3 0 (by simp) (by omega) (by simp only [List.getElem_cons_zero];rw [hm,h])
    have : Instr.sameNow (.int .u32) (.int .u32 n) e.key = some false := by rw [hm];simp [Instr.sameNow,hne]
    rw [Instr.findNow,this]
    simp only [List.getElem_cons_succ] at h2 ⊢
    have := findNow_hit (i := i + 1) (k := k) (es := es) (by simpa using hk) (fun e he => h1 e (by simp [he])) h2 (fun j hj hjk => by
      have := h3 (j + 1) (by simpa using hj) (by omega)
      simpa using this)
    rw [this,show i + 1 + k = i + (k + 1) by omega]

theorem wp_mapUpdate {T k e : TypeId} {m x y : Operand} {r clock : Nat} {es : Array MapEntry} {n : Int} {v : Value} (hT : P.underlying T = some (.map k e)) (hK : P.underlying k = some (.int .u32)) (hm : ev ρ m = .map (some r)) (hx : ev ρ x = .int .u32 n) (hy : ev ρ y = v)
    (hb : w.heap[r]? = some (.map es clock)) (h1 : KeysU es.toList) (h2 : ∀ e ∈ es.toList,e.key ≠ .int .u32 n) (hk : K (put ρ d undef) (Go.ChangeMaps.setBlock w r (.map (es.push { key := .int .u32 n,val := v,born := clock }) (clock + 1)))) :
    rawK P { dst := d,op := .mapUpdate T m x y,type := type,pos := pos,after := after,guard := guard } ρ w K := by
  refine wp_skip ?_ hk
  have g1 : (getObj r).run P w = .ok (.map es clock) w := MapKept.run_getObj_map hb
  have g2 : (Instr.findKey k (.int .u32 n) es.toList).run P w = .ok none w := by
    simp only [Instr.findKey,Sem.run_bind,run_underlying hK,Result.andThen_ok,findNow_none h1 h2,Sem.run_pure]
  have g3 : (Instr.checkKey false 10000 k (.int .u32 n)).run P w = .ok () w := checkKey_int hK false 9999 n w
  have g4 : (setObj r (.map (es.push { key := .int .u32 n,val := v,born := clock }) (clock + 1))).run P w = .ok () (Go.ChangeMaps.setBlock w r (.map (es.push { key := .int .u32 n,val := v,born := clock }) (clock + 1))) := by
    simp [setObj,Sem.run,hb,Go.ChangeMaps.setBlock]
  simp only [execOp,hm,hx,hy,Instr.mapUpdate,Sem.run_bind,run_underlying hT,Result.andThen_ok,g1,g2,g3,g4,Sem.run_pure]

theorem wp_lookup {T k e : TypeId} {m x : Operand} {r clock i : Nat} {es : Array MapEntry} {n : Int} (hT : P.underlying T = some (.map k e)) (hK : P.underlying k = some (.int .u32)) (hm : ev ρ m = .map (some r)) (hx : ev ρ x = .int .u32 n)
    (hb : w.heap[r]? = some (.map es clock)) (h1 : KeysU es.toList) (hi : i < es.size) (h2 : es[i].key = .int .u32 n) (h3 : ∀ j (hj : j < es.size),j < i → es[j].key ≠ .int .u32 n) (hk : K (put ρ d es[i].val) w) :
    rawK P { dst := d,op := .lookup T m x false,type := type,pos := pos,after := after,guard := guard } ρ w K := by
  refine wp_raw (v := es[i].val) ?_ hk
  have g1 : (getObj r).run P w = .ok (.map es clock) w := MapKept.run_getObj_map hb
  have hf := findNow_hit (i := 0) (k := i) (es := es.toList) (n := n) (by simpa using hi) h1 (by simpa using h2) (fun j hj hji => by simpa using h3 j (by simpa using hj) hji)
  have g2 : (Instr.findKey k (.int .u32 n) es.toList).run P w = .ok (some (i,es[i].val)) w := by
    simp only [Instr.findKey,Sem.run_bind,run_underlying hK,Result.andThen_ok,hf,Sem.run_pure]
    simp
  have g3 : ∀ b,(Instr.checkKey b 10000 k (.int .u32 n)).run P w = .ok () w := fun b => checkKey_int hK b 9999 n w
  simp only [execOp,hm,hx,Instr.lookup,Sem.run_bind,run_underlying hT,Result.andThen_ok,g1,g2,g3,Sem.run_pure,Bool.false_eq_true,if_false]

theorem wp_range {T k e : TypeId} {x : Operand} {r clock : Nat} {es : Array MapEntry} (hT : P.underlying T = some (.map k e)) (hx : ev ρ x = .map (some r)) (hb : w.heap[r]? = some (.map es clock))
    (hk : K (put ρ d (.pointer (some ⟨w.heap.size,0,none⟩))) (w.alloc (.mapIter (some r) clock #[] clock))) :
    rawK P { dst := d,op := .range T x,type := type,pos := pos,after := after,guard := guard } ρ w K := by
  refine wp_raw ?_ hk
  simp only [execOp,hx,Sem.run_bind,run_range_map w T k e r es clock hT hb,Result.andThen_ok,Sem.run_pure]
theorem wp_next {x : Operand} {r b since c0 clock : Nat} {seen : Array Nat} {es : Array MapEntry} (hx : ev ρ x = .pointer (some ⟨r,0,none⟩)) (hr : w.heap[r]? = some (.mapIter (some b) since seen c0)) (hb : w.heap[b]? = some (.map es clock)) (hold : ∀ x ∈ es.toList,x.born < since) (hsc : since ≤ c0)
    (h0 : (leftOf es seen).size = 0 → K (put ρ d (.tuple #[.bool false])) w)
    (h1 : ∀ e ∈ (leftOf es seen).toList,∀ w1,(w1 = w ∨ w1 = w.drew) → K (put ρ d (.tuple #[.bool true,e.key,e.val])) (Go.ChangeMaps.setBlock w1 r (.mapIter (some b) since (seen.push e.born) clock))) :
    rawK P { dst := d,op := .next x false,type := type,pos := pos,after := after,guard := guard } ρ w K := by
  rcases run_next_at (P := P) w type r b since c0 seen es clock hr hb hold hsc with ⟨hs,hrun⟩ | ⟨e,he,w1,hw1,hrun⟩
  · refine wp_raw ?_ (h0 hs)
    simp only [execOp,hx,Sem.run_bind,hrun,Result.andThen_ok,Sem.run_pure]
  · refine wp_raw ?_ (h1 e he w1 hw1)
    simp only [execOp,hx,Sem.run_bind,hrun,Result.andThen_ok,Sem.run_pure]
end
end Ms

namespace Ms
open Go

theorem and127_u32 {m : Nat} (h : m < 4294967296) : (BitVec.ofInt (kbits .u32) (m : Int) &&& BitVec.ofInt (kbits .u32) 127).toNat = m % 128 := by
  show (BitVec.ofInt 32 (m : Int) &&& BitVec.ofInt 32 127).toNat = m % 128
  rw [BitVec.toNat_and,BitVec.ofInt_natCast,BitVec.toNat_ofNat,Nat.mod_eq_of_lt h]
  exact Nat.and_two_pow_sub_one_eq_mod m 7
theorem or128F32 : ∀ y : Fin 128,(BitVec.ofInt 32 ((y.val : Nat) : Int) ||| BitVec.ofInt 32 128).toNat = y.val + 128 := by decide
theorem or128_u32 {y : Nat} (h : y < 128) : (BitVec.ofInt (kbits .u32) (y : Int) ||| BitVec.ofInt (kbits .u32) 128).toNat = y + 128 := or128F32 ⟨y,h⟩
theorem fdiv_nat (n k : Nat) (c : Nat) (h : 2 ^ k = c) : ((n : Int)).fdiv (2 ^ k) = ((n / c : Nat) : Int) := by
  rw [Int.fdiv_eq_ediv_of_nonneg _ (by exact Int.pow_nonneg (by decide))]
  subst h
  rw [Int.natCast_ediv]
  congr 1
theorem uvarS_1 {n : Nat} (h : n < 128) : uvarS n = [b8 n] := uvarS_small (by omega)
theorem uvarS_2 {n : Nat} (h1 : 128 ≤ n) (h : n < 16384) : uvarS n = [b8 ((n % 128 + 128 : Nat) : Int),b8 ((n / 128 : Nat) : Int)] := by
  rw [uvarS_big (by omega),uvarS_small (by omega)];rfl
theorem uvarS_3 {n : Nat} (h1 : 16384 ≤ n) (h : n < 2097152) : uvarS n = [b8 ((n % 128 + 128 : Nat) : Int),b8 ((n / 128 % 128 + 128 : Nat) : Int),b8 ((n / 16384 : Nat) : Int)] := by
  rw [uvarS_big (by omega),uvarS_big (by omega),uvarS_small (by omega),Nat.div_div_eq_div_mul];rfl
theorem uvarS_4 {n : Nat} (h1 : 2097152 ≤ n) (h : n < 268435456) : uvarS n = [b8 ((n % 128 + 128 : Nat) : Int),b8 ((n / 128 % 128 + 128 : Nat) : Int),b8 ((n / 16384 % 128 + 128 : Nat) : Int),b8 ((n / 2097152 : Nat) : Int)] := by
  rw [uvarS_big (by omega),uvarS_big (by omega),uvarS_big (by omega),uvarS_small (by omega),Nat.div_div_eq_div_mul,Nat.div_div_eq_div_mul];rfl
theorem uvarS_5 {n : Nat} (h1 : 268435456 ≤ n) (h : n < 4294967296) : uvarS n = [b8 ((n % 128 + 128 : Nat) : Int),b8 ((n / 128 % 128 + 128 : Nat) : Int),b8 ((n / 16384 % 128 + 128 : Nat) : Int),b8 ((n / 2097152 % 128 + 128 : Nat) : Int),b8 ((n / 268435456 : Nat) : Int)] := by
  rw [uvarS_big (by omega),uvarS_big (by omega),uvarS_big (by omega),uvarS_big (by omega),uvarS_small (by omega),Nat.div_div_eq_div_mul,Nat.div_div_eq_div_mul,Nat.div_div_eq_div_mul];rfl
def uvl (n : Nat) : Nat := if n < 128 then 1 else if n < 16384 then 2 else if n < 2097152 then 3 else if n < 268435456 then 4 else 5
def blen (n : Nat) : Nat := if n = 0 then 0 else n.log2 + 1

def Agree (ρ ρ' : Regs) : List Nat → Prop
  | [] => True
  | r :: l => ρ' r = ρ r ∧ Agree ρ ρ' l
theorem Agree.refl (ρ : Regs) : ∀ l,Agree ρ ρ l
  | [] => trivial
  | _ :: l => ⟨rfl,Agree.refl ρ l⟩
end Ms

namespace Ms
open Go.World renaming size_alloc → qI
open Ms renaming size_wr → qJ,size_drew → qK,not_noB → qL
open W renaming seqR → qA,seq → qB,regR → qC,condK → qD,block → qE,skip → qF,ret → qG,exit → qH
open Nat renaming reduceEqDiff → n0,reduceAdd → n1,reduceMul → n2,reduceSub → n3,reduceLT → n4,reduceLeDiff → n5
open Int renaming reduceEq → i0,reduceLT → i1,reduceLE → i2,reduceNeg → i3,reduceAdd → i4,reduceSub → i5,reduceMul → i6,reduceToNat → i7
set_option maxRecDepth 4000
open Go Go.Proofs
attribute [local congr] W_congr WPsq_congr WPp_congr optK_congr addrK_congr intK_congr boolK_congr sliceK_congr tupleK_congr funcK_congr Fn_congr rawK_congr takeK_congr stepK_congr convK_congr aggK_congr

def tabK (s : ByteArray) (N : Nat) (f : Nat → UInt8) : Bool := (List.range N).all fun i => match s[i]? with | some b => b == f i | none => false
theorem tabK_get {s : ByteArray} {N : Nat} {f : Nat → UInt8} (h : tabK s N f = true) {n : Nat} (hn : n < N) : s[n]? = some (f n) := by
  have := List.all_eq_true.1 h n (List.mem_range.2 hn)
  revert this
  cases s[n]? with
  | none => intro h;simp at h
  | some b => intro h;simp at h;rw [h]
theorem wp_index {P : Program} {ρ : Regs} {w : World} {K : Regs → World → Prop} {d : Option Nat} {type : TypeId} {pos : String} {after : Array Edge} {guard : Option (Nat × Bool)} {T : TypeId} {x y : Operand} {s : ByteArray} {k : IntKind} {n N : Nat} {f : Nat → UInt8}
    (hT : P.underlying T = some .string) (hx : ev ρ x = .string s) (hy : ev ρ y = .int k n) (ht : tabK s N f = true) (hn : n < N) (hk : K (put ρ d (.int .u8 (f n).toNat)) w) :
    rawK P { dst := d,op := .index T x y,type := type,pos := pos,after := after,guard := guard } ρ w K := by
  refine wp_raw (v := .int .u8 (f n).toNat) ?_ hk
  have h1 : (Instr.index T (.string s) (.int k n)).run P w = .ok (.int .u8 (f n).toNat) w := by
    simp [Instr.index,asIntOf,run_underlying hT,tabK_get ht hn]
  simp only [execOp,hx,hy,Sem.run_bind,h1,Result.andThen_ok,Sem.run_pure]

theorem blen_pos {n : Nat} (h : n ≠ 0) : blen n = n.log2 + 1 := if_neg h
theorem blen_lt {n k : Nat} : blen n < k + 1 ↔ n < 2 ^ k := by
  by_cases h : n = 0
  · subst h;simp [blen,Nat.two_pow_pos]
  · rw [blen_pos h,Nat.succ_lt_succ_iff,Nat.log2_lt h]
theorem blen_shift {n k : Nat} (h : 2 ^ k ≤ n) : blen n = blen (n / 2 ^ k) + k := by
  have hk := Nat.two_pow_pos k
  have h1 : n / 2 ^ k ≠ 0 := by have := Nat.div_pos h hk;omega
  have h0 : n ≠ 0 := by omega
  rw [blen_pos h0,blen_pos h1]
  have e : n.log2 = (n / 2 ^ k).log2 + k := by
    rw [Nat.log2_eq_iff h0]
    obtain ⟨g1,g2⟩ := (Nat.log2_eq_iff h1).1 rfl
    rw [Nat.le_div_iff_mul_le hk,← Nat.pow_add] at g1
    rw [Nat.div_lt_iff_lt_mul hk,← Nat.pow_add] at g2
    rw [show (n / 2 ^ k).log2 + k + 1 = (n / 2 ^ k).log2 + 1 + k by omega]
    exact ⟨g1,g2⟩
  omega
theorem blen8 {n : Nat} (h : n < 256) : blen n < 9 := blen_lt.2 h

theorem Len32_fn (n : Nat) (hn : n < 4294967296) (w : World) : Fn Tryz.prog 85 #[.int .u32 n] w fun r w' => r = .int .i64 (blen n) ∧ w' = w := by
  refine fn_of_W Tryz.func85 rfl Tryz.results85 Tryz.ntmps85 rfl ?_
  have e16 : ((n : Nat) : Int).fdiv (2 ^ (min 16 (kbits .u32))) = ((n / 65536 : Nat) : Int) := fdiv_nat n 16 65536 rfl
  have key : ∀ (m b : Nat),m < 256 → m % 256 = m ∧ blen m < 9 := fun m _ h => ⟨by omega,blen8 h⟩
  have u8f : ∀ m : Nat,m < 256 → IntKind.u8.wrap (m : Int) = m := fun m h => IntWalk.u8_in m (by omega)
  have tail : ∀ (m b : Nat) (w' : World),m < 256 → b ≤ 24 → blen m + b = blen n → w' = w → (((UInt8.ofNat (blen m)).toNat : Nat) : Int) = blen m := by
    intro m b w' h1 _ _ _
    have := blen8 h1
    simp [UInt8.toNat_ofNat];omega
  have fin : ∀ m b : Nat,m < 256 → b ≤ 24 → IntKind.i64.wrap ((blen m : Int)) = blen m ∧ IntKind.i64.wrap ((b : Int) + (blen m : Int)) = ((b + blen m : Nat) : Int) := by
    intro m b h1 h2
    have := blen8 h1
    exact ⟨i64_wrap (by omega),by rw [i64_wrap (by omega)];omega⟩
  by_cases h1 : 65536 ≤ n
  · have h1' : (65536 : Int) ≤ (n : Int) := by omega
    have s1 : blen n = blen (n / 65536) + 16 := blen_shift (k := 16) h1
    by_cases h2 : 256 ≤ n / 65536
    · have h2' : (256 : Int) ≤ ((n / 65536 : Nat) : Int) := by omega
      have e8 : ((n / 65536 : Nat) : Int).fdiv (2 ^ (min 8 (kbits .u32))) = ((n / 65536 / 256 : Nat) : Int) := fdiv_nat _ 8 256 rfl
      have s2 : blen (n / 65536) = blen (n / 65536 / 256) + 8 := blen_shift (k := 8) h2
      generalize hm : n / 65536 / 256 = m at *
      have hm8 : m < 256 := by omega
      have f1 := u8f m hm8
      have f2 := tail m 24 w hm8 (by omega) (by omega) rfl
      have f3 := fin m 24 hm8 (by omega)
      have f4 := f3.1
      have f5 := f3.2
      repeat ((first | refine qA rfl ?_|apply qB|refine qC rfl ?_|apply qD|apply qE|apply qF|apply qG|apply qH);try simp (disch:=(first|omega|(simp only [qI,qJ,qK]<;>omega)|exact qL _)) only [go_sem,↓reduceIte,n0,reduceCtorEq,n1,n2,n3,n4,n5,i0,i1,i2,i3,i4,i5,i6,i7,e16,e8,f1])
      refine wp_index (k := .u8) (f := fun i => UInt8.ofNat (blen i)) (N := 256) (n := m) (by kernel_rfl) rfl (by simp (disch:=(first|omega|(simp only [qI,qJ,qK]<;>omega)|exact qL _)) only [go_sem,↓reduceIte,n0,reduceCtorEq,n1,n2,n3,n4,n5,i0,i1,i2,i3,i4,i5,i6,i7]) (by kernel_rfl) hm8 ?_
      simp (disch:=(first|omega|(simp only [qI,qJ,qK]<;>omega)|exact qL _)) only [go_sem,↓reduceIte,n0,reduceCtorEq,n1,n2,n3,n4,n5,i0,i1,i2,i3,i4,i5,i6,i7,f2,f4]
      repeat ((first | refine qA rfl ?_|apply qB|refine qC rfl ?_|apply qD|apply qE|apply qF|apply qG|apply qH);try simp (disch:=(first|omega|(simp only [qI,qJ,qK]<;>omega)|exact qL _)) only [go_sem,↓reduceIte,n0,reduceCtorEq,n1,n2,n3,n4,n5,i0,i1,i2,i3,i4,i5,i6,i7,f5])
      rw [s1,s2,show (24 : Int) = ((24 : Nat) : Int) from rfl,f5]
      congr 1;omega
    · have h2' : ¬ (256 : Int) ≤ ((n / 65536 : Nat) : Int) := by omega
      generalize hm : n / 65536 = m at *
      have hm8 : m < 256 := by omega
      have f1 := u8f m hm8
      have f2 := tail m 16 w hm8 (by omega) (by omega) rfl
      have f3 := fin m 16 hm8 (by omega)
      have f4 := f3.1
      have f5 := f3.2
      repeat ((first | refine qA rfl ?_|apply qB|refine qC rfl ?_|apply qD|apply qE|apply qF|apply qG|apply qH);try simp (disch:=(first|omega|(simp only [qI,qJ,qK]<;>omega)|exact qL _)) only [go_sem,↓reduceIte,n0,reduceCtorEq,n1,n2,n3,n4,n5,i0,i1,i2,i3,i4,i5,i6,i7,e16,f1])
      refine wp_index (k := .u8) (f := fun i => UInt8.ofNat (blen i)) (N := 256) (n := m) (by kernel_rfl) rfl (by simp (disch:=(first|omega|(simp only [qI,qJ,qK]<;>omega)|exact qL _)) only [go_sem,↓reduceIte,n0,reduceCtorEq,n1,n2,n3,n4,n5,i0,i1,i2,i3,i4,i5,i6,i7]) (by kernel_rfl) hm8 ?_
      simp (disch:=(first|omega|(simp only [qI,qJ,qK]<;>omega)|exact qL _)) only [go_sem,↓reduceIte,n0,reduceCtorEq,n1,n2,n3,n4,n5,i0,i1,i2,i3,i4,i5,i6,i7,f2,f4]
      repeat ((first | refine qA rfl ?_|apply qB|refine qC rfl ?_|apply qD|apply qE|apply qF|apply qG|apply qH);try simp (disch:=(first|omega|(simp only [qI,qJ,qK]<;>omega)|exact qL _)) only [go_sem,↓reduceIte,n0,reduceCtorEq,n1,n2,n3,n4,n5,i0,i1,i2,i3,i4,i5,i6,i7,f5])
      rw [s1,show (16 : Int) = ((16 : Nat) : Int) from rfl,f5]
      congr 1;omega
  · have h1' : ¬ (65536 : Int) ≤ (n : Int) := by omega
    by_cases h2 : 256 ≤ n
    · have h2' : (256 : Int) ≤ ((n : Nat) : Int) := by omega
      have e8 : ((n : Nat) : Int).fdiv (2 ^ (min 8 (kbits .u32))) = ((n / 256 : Nat) : Int) := fdiv_nat _ 8 256 rfl
      have s2 : blen n = blen (n / 256) + 8 := blen_shift (k := 8) h2
      generalize hm : n / 256 = m at *
      have hm8 : m < 256 := by omega
      have f1 := u8f m hm8
      have f2 := tail m 8 w hm8 (by omega) (by omega) rfl
      have f3 := fin m 8 hm8 (by omega)
      have f4 := f3.1
      have f5 := f3.2
      repeat ((first | refine qA rfl ?_|apply qB|refine qC rfl ?_|apply qD|apply qE|apply qF|apply qG|apply qH);try simp (disch:=(first|omega|(simp only [qI,qJ,qK]<;>omega)|exact qL _)) only [go_sem,↓reduceIte,n0,reduceCtorEq,n1,n2,n3,n4,n5,i0,i1,i2,i3,i4,i5,i6,i7,e8,f1])
      refine wp_index (k := .u8) (f := fun i => UInt8.ofNat (blen i)) (N := 256) (n := m) (by kernel_rfl) rfl (by simp (disch:=(first|omega|(simp only [qI,qJ,qK]<;>omega)|exact qL _)) only [go_sem,↓reduceIte,n0,reduceCtorEq,n1,n2,n3,n4,n5,i0,i1,i2,i3,i4,i5,i6,i7]) (by kernel_rfl) hm8 ?_
      simp (disch:=(first|omega|(simp only [qI,qJ,qK]<;>omega)|exact qL _)) only [go_sem,↓reduceIte,n0,reduceCtorEq,n1,n2,n3,n4,n5,i0,i1,i2,i3,i4,i5,i6,i7,f2,f4]
      repeat ((first | refine qA rfl ?_|apply qB|refine qC rfl ?_|apply qD|apply qE|apply qF|apply qG|apply qH);try simp (disch:=(first|omega|(simp only [qI,qJ,qK]<;>omega)|exact qL _)) only [go_sem,↓reduceIte,n0,reduceCtorEq,n1,n2,n3,n4,n5,i0,i1,i2,i3,i4,i5,i6,i7,f5])
      rw [s2,show (8 : Int) = ((8 : Nat) : Int) from rfl,f5]
      congr 1;omega
    · have h2' : ¬ (256 : Int) ≤ ((n : Nat) : Int) := by omega
      have hm8 : n < 256 := by omega
      have f1 := u8f n hm8
      have f2 := tail n 0 w hm8 (by omega) (by omega) rfl
      have f3 := fin n 0 hm8 (by omega)
      have f4 := f3.1
      have f5 := f3.2
      repeat ((first | refine qA rfl ?_|apply qB|refine qC rfl ?_|apply qD|apply qE|apply qF|apply qG|apply qH);try simp (disch:=(first|omega|(simp only [qI,qJ,qK]<;>omega)|exact qL _)) only [go_sem,↓reduceIte,n0,reduceCtorEq,n1,n2,n3,n4,n5,i0,i1,i2,i3,i4,i5,i6,i7,f1])
      refine wp_index (k := .u8) (f := fun i => UInt8.ofNat (blen i)) (N := 256) (n := n) (by kernel_rfl) rfl (by simp (disch:=(first|omega|(simp only [qI,qJ,qK]<;>omega)|exact qL _)) only [go_sem,↓reduceIte,n0,reduceCtorEq,n1,n2,n3,n4,n5,i0,i1,i2,i3,i4,i5,i6,i7]) (by kernel_rfl) hm8 ?_
      simp (disch:=(first|omega|(simp only [qI,qJ,qK]<;>omega)|exact qL _)) only [go_sem,↓reduceIte,n0,reduceCtorEq,n1,n2,n3,n4,n5,i0,i1,i2,i3,i4,i5,i6,i7,f2,f4]
      repeat ((first | refine qA rfl ?_|apply qB|refine qC rfl ?_|apply qD|apply qE|apply qF|apply qG|apply qH);try simp (disch:=(first|omega|(simp only [qI,qJ,qK]<;>omega)|exact qL _)) only [go_sem,↓reduceIte,n0,reduceCtorEq,n1,n2,n3,n4,n5,i0,i1,i2,i3,i4,i5,i6,i7,f5,Int.zero_add])
      rw [f4]

def uvT (i : Nat) : UInt8 := if i < 8 then 1 else if i < 15 then 2 else if i < 22 then 3 else if i < 29 then 4 else 5
theorem uvT_blen (n : Nat) : ((uvT (blen n)).toNat : Int) = uvl n := by
  have h1 : blen n < 8 ↔ n < 128 := blen_lt (k := 7)
  have h2 : blen n < 15 ↔ n < 16384 := blen_lt (k := 14)
  have h3 : blen n < 22 ↔ n < 2097152 := blen_lt (k := 21)
  have h4 : blen n < 29 ↔ n < 268435456 := blen_lt (k := 28)
  unfold uvT uvl
  simp only [h1,h2,h3,h4]
  split
  · rfl
  · split
    · rfl
    · split
      · rfl
      · split <;> rfl
theorem UvarintLen_fn (n : Nat) (hn : n < 4294967296) (w : World) : Fn Tryz.prog 76 #[.int .u32 n] w fun r w' => r = .int .i64 (uvl n) ∧ w' = w := by
  refine fn_of_W Tryz.func76 rfl Tryz.results76 Tryz.ntmps76 rfl ?_
  repeat ((first | refine qA rfl ?_|apply qB|refine qC rfl ?_|apply qD|apply qE|apply qF|apply qG|apply qH);try simp (disch:=(first|omega|(simp only [qI,qJ,qK]<;>omega)|exact qL _)) only [go_sem,↓reduceIte,n0,reduceCtorEq,n1,n2,n3,n4,n5,i0,i1,i2,i3,i4,i5,i6,i7])
  refine (Len32_fn n hn w).mono ?_
  rintro r w1 ⟨rfl,rfl⟩
  have hb : blen n < 33 := blen_lt.2 hn
  have f1 : IntKind.u8.wrap (blen n : Int) = blen n := IntWalk.u8_in _ (by omega)
  have f2 := uvT_blen n
  have f3 : IntKind.i64.wrap (uvl n : Int) = uvl n := i64_wrap (by unfold uvl;split <;> (try split) <;> (try split) <;> (try split) <;> omega)
  simp (disch:=(first|omega|(simp only [qI,qJ,qK]<;>omega)|exact qL _)) only [go_sem,↓reduceIte,n0,reduceCtorEq,n1,n2,n3,n4,n5,i0,i1,i2,i3,i4,i5,i6,i7,f1]
  refine wp_index (k := .u8) (f := uvT) (N := 33) (n := blen n) (by kernel_rfl) rfl (by simp (disch:=(first|omega|(simp only [qI,qJ,qK]<;>omega)|exact qL _)) only [go_sem,↓reduceIte,n0,reduceCtorEq,n1,n2,n3,n4,n5,i0,i1,i2,i3,i4,i5,i6,i7]) (by kernel_rfl) hb ?_
  simp (disch:=(first|omega|(simp only [qI,qJ,qK]<;>omega)|exact qL _)) only [go_sem,↓reduceIte,n0,reduceCtorEq,n1,n2,n3,n4,n5,i0,i1,i2,i3,i4,i5,i6,i7,f2,f3]
  repeat ((first | refine qA rfl ?_|apply qB|refine qC rfl ?_|apply qD|apply qE|apply qF|apply qG|apply qH);try simp (disch:=(first|omega|(simp only [qI,qJ,qK]<;>omega)|exact qL _)) only [go_sem,↓reduceIte,n0,reduceCtorEq,n1,n2,n3,n4,n5,i0,i1,i2,i3,i4,i5,i6,i7])

theorem AppendUvarint_fn {B : Nat} (v : Value) (s : List UInt8) (w : World) (ho : OwnBy 5 B w v s) (hB : B ≤ w.heap.size) (n : Nat) (hn : n < 4294967296) (hl : s.length ≤ 2 ^ 45) :
    Fn Tryz.prog 42 #[v,.int .u32 n] w fun r w' => AppR 5 B w v s (uvarS n) r w' := by
  obtain ⟨a,c,rfl,hc⟩ := ho.len
  refine fn_of_W Tryz.func42 rfl Tryz.results42 Tryz.ntmps42 rfl ?_
  have d7 : ((n : Nat) : Int).fdiv (2 ^ (min 7 (kbits .u32))) = ((n / 128 : Nat) : Int) := fdiv_nat n 7 128 rfl
  have d14 : ((n : Nat) : Int).fdiv (2 ^ (min 14 (kbits .u32))) = ((n / 16384 : Nat) : Int) := fdiv_nat n 14 16384 rfl
  have d21 : ((n : Nat) : Int).fdiv (2 ^ (min 21 (kbits .u32))) = ((n / 2097152 : Nat) : Int) := fdiv_nat n 21 2097152 rfl
  have d28 : ((n : Nat) : Int).fdiv (2 ^ (min 28 (kbits .u32))) = ((n / 268435456 : Nat) : Int) := fdiv_nat n 28 268435456 rfl
  repeat ((first | refine qA rfl ?_|apply qB|refine qC rfl ?_|apply qD|apply qE|apply qF|apply qG|apply qH);try simp (disch:=(first|omega|(simp only [qI,qJ,qK]<;>omega)|exact qL _)) only [go_sem,↓reduceIte,n0,reduceCtorEq,n1,n2,n3,n4,n5,i0,i1,i2,i3,i4,i5,i6,i7])
  refine (UvarintLen_fn n hn w).mono ?_
  rintro r w1 ⟨rfl,rfl⟩
  by_cases g1 : n < 128
  · have hU : uvl n = 1 := by simp only [uvl,g1,if_true,if_false]
    have hE := uvarS_1 g1
    have eU : (uvl n : Int) = 1 := by rw [hU];rfl
    simp (disch:=(first|omega|(simp only [qI,qJ,qK]<;>omega)|exact qL _)) only [go_sem,↓reduceIte,n0,reduceCtorEq,n1,n2,n3,n4,n5,i0,i1,i2,i3,i4,i5,i6,i7,eU]
    repeat ((first | refine qA rfl ?_|apply qB|refine qC rfl ?_|apply qD|apply qE|apply qF|apply qG|apply qH);try simp (disch:=(first|omega|(simp only [qI,qJ,qK]<;>omega)|exact qL _)) only [go_sem,↓reduceIte,n0,reduceCtorEq,n1,n2,n3,n4,n5,i0,i1,i2,i3,i4,i5,i6,i7,eU,u8_byte])
    have ho1 := ho.alloc (.cells #[byteV (b8 ((n : Nat) : Int))] 5)
    refine wp_append ap_22_22 (m := 1) (news := [byteV (b8 ((n : Nat) : Int))]) (n := s.length) (cs := s.map byteV) (v := .slice a s.length c) ?_ rfl ho1 (flat_bytes _) (Src.blk (fr := (0,0)) (T := 5) (blk_alloc_new rfl) rfl rfl) ?_ ?_ ?_
    · simp (disch:=(first|omega|(simp only [qI,qJ,qK]<;>omega)|exact qL _)) only [go_sem,↓reduceIte,n0,reduceCtorEq,n1,n2,n3,n4,n5,i0,i1,i2,i3,i4,i5,i6,i7]
    · simp only [World.size_alloc];omega
    · omega
    intro v' w4 ho4 hu4 hfr
    simp (disch:=(first|omega|(simp only [qI,qJ,qK]<;>omega)|exact qL _)) only [go_sem,↓reduceIte,n0,reduceCtorEq,n1,n2,n3,n4,n5,i0,i1,i2,i3,i4,i5,i6,i7]
    repeat ((first | refine qA rfl ?_|apply qB|refine qC rfl ?_|apply qD|apply qE|apply qF|apply qG|apply qH);try simp (disch:=(first|omega|(simp only [qI,qJ,qK]<;>omega)|exact qL _)) only [go_sem,↓reduceIte,n0,reduceCtorEq,n1,n2,n3,n4,n5,i0,i1,i2,i3,i4,i5,i6,i7])
    rw [hE]
    exact AppR.after (Upd.alloc (Upd.refl _ _) _) (AppR.of (t := [b8 ((n : Nat) : Int)]) ho4 rfl hu4 hfr)
  by_cases g2 : n < 16384
  · have hU : uvl n = 2 := by simp only [uvl,g1,g2,if_true,if_false]
    have hE := uvarS_2 (n := n) (by omega) g2
    have a0 : (BitVec.ofInt (kbits .u32) ((n : Nat) : Int) &&& BitVec.ofInt (kbits .u32) 127).toNat = n % 128 := and127_u32 (by omega)
    have o0 : (BitVec.ofInt (kbits .u32) ((n % 128 : Nat) : Int) ||| BitVec.ofInt (kbits .u32) 128).toNat = n % 128 + 128 := or128_u32 (by omega)
    have eU : (uvl n : Int) = 2 := by rw [hU];rfl
    simp (disch:=(first|omega|(simp only [qI,qJ,qK]<;>omega)|exact qL _)) only [go_sem,↓reduceIte,n0,reduceCtorEq,n1,n2,n3,n4,n5,i0,i1,i2,i3,i4,i5,i6,i7,eU]
    repeat ((first | refine qA rfl ?_|apply qB|refine qC rfl ?_|apply qD|apply qE|apply qF|apply qG|apply qH);try simp (disch:=(first|omega|(simp only [qI,qJ,qK]<;>omega)|exact qL _)) only [go_sem,↓reduceIte,n0,reduceCtorEq,n1,n2,n3,n4,n5,i0,i1,i2,i3,i4,i5,i6,i7,eU,d7,a0,o0,u8_byte])
    have ho1 := ho.alloc (.cells #[byteV (b8 ((n % 128 + 128 : Nat) : Int)),byteV (b8 ((n / 128 : Nat) : Int))] 5)
    refine wp_append ap_22_22 (m := 2) (news := [byteV (b8 ((n % 128 + 128 : Nat) : Int)),byteV (b8 ((n / 128 : Nat) : Int))]) (n := s.length) (cs := s.map byteV) (v := .slice a s.length c) ?_ rfl ho1 (flat_bytes _) (Src.blk (fr := (0,0)) (T := 5) (blk_alloc_new rfl) rfl rfl) ?_ ?_ ?_
    · simp (disch:=(first|omega|(simp only [qI,qJ,qK]<;>omega)|exact qL _)) only [go_sem,↓reduceIte,n0,reduceCtorEq,n1,n2,n3,n4,n5,i0,i1,i2,i3,i4,i5,i6,i7]
    · simp only [World.size_alloc];omega
    · omega
    intro v' w4 ho4 hu4 hfr
    simp (disch:=(first|omega|(simp only [qI,qJ,qK]<;>omega)|exact qL _)) only [go_sem,↓reduceIte,n0,reduceCtorEq,n1,n2,n3,n4,n5,i0,i1,i2,i3,i4,i5,i6,i7]
    repeat ((first | refine qA rfl ?_|apply qB|refine qC rfl ?_|apply qD|apply qE|apply qF|apply qG|apply qH);try simp (disch:=(first|omega|(simp only [qI,qJ,qK]<;>omega)|exact qL _)) only [go_sem,↓reduceIte,n0,reduceCtorEq,n1,n2,n3,n4,n5,i0,i1,i2,i3,i4,i5,i6,i7])
    rw [hE]
    exact AppR.after (Upd.alloc (Upd.refl _ _) _) (AppR.of (t := [b8 ((n % 128 + 128 : Nat) : Int),b8 ((n / 128 : Nat) : Int)]) ho4 rfl hu4 hfr)
  by_cases g3 : n < 2097152
  · have hU : uvl n = 3 := by simp only [uvl,g1,g2,g3,if_true,if_false]
    have hE := uvarS_3 (n := n) (by omega) g3
    have a0 : (BitVec.ofInt (kbits .u32) ((n : Nat) : Int) &&& BitVec.ofInt (kbits .u32) 127).toNat = n % 128 := and127_u32 (by omega)
    have o0 : (BitVec.ofInt (kbits .u32) ((n % 128 : Nat) : Int) ||| BitVec.ofInt (kbits .u32) 128).toNat = n % 128 + 128 := or128_u32 (by omega)
    have a1 : (BitVec.ofInt (kbits .u32) ((n / 128 : Nat) : Int) &&& BitVec.ofInt (kbits .u32) 127).toNat = n / 128 % 128 := and127_u32 (by omega)
    have o1 : (BitVec.ofInt (kbits .u32) ((n / 128 % 128 : Nat) : Int) ||| BitVec.ofInt (kbits .u32) 128).toNat = n / 128 % 128 + 128 := or128_u32 (by omega)
    have eU : (uvl n : Int) = 3 := by rw [hU];rfl
    simp (disch:=(first|omega|(simp only [qI,qJ,qK]<;>omega)|exact qL _)) only [go_sem,↓reduceIte,n0,reduceCtorEq,n1,n2,n3,n4,n5,i0,i1,i2,i3,i4,i5,i6,i7,eU]
    repeat ((first | refine qA rfl ?_|apply qB|refine qC rfl ?_|apply qD|apply qE|apply qF|apply qG|apply qH);try simp (disch:=(first|omega|(simp only [qI,qJ,qK]<;>omega)|exact qL _)) only [go_sem,↓reduceIte,n0,reduceCtorEq,n1,n2,n3,n4,n5,i0,i1,i2,i3,i4,i5,i6,i7,eU,d7,d14,a0,o0,a1,o1,u8_byte])
    have ho1 := ho.alloc (.cells #[byteV (b8 ((n % 128 + 128 : Nat) : Int)),byteV (b8 ((n / 128 % 128 + 128 : Nat) : Int)),byteV (b8 ((n / 16384 : Nat) : Int))] 5)
    refine wp_append ap_22_22 (m := 3) (news := [byteV (b8 ((n % 128 + 128 : Nat) : Int)),byteV (b8 ((n / 128 % 128 + 128 : Nat) : Int)),byteV (b8 ((n / 16384 : Nat) : Int))]) (n := s.length) (cs := s.map byteV) (v := .slice a s.length c) ?_ rfl ho1 (flat_bytes _) (Src.blk (fr := (0,0)) (T := 5) (blk_alloc_new rfl) rfl rfl) ?_ ?_ ?_
    · simp (disch:=(first|omega|(simp only [qI,qJ,qK]<;>omega)|exact qL _)) only [go_sem,↓reduceIte,n0,reduceCtorEq,n1,n2,n3,n4,n5,i0,i1,i2,i3,i4,i5,i6,i7]
    · simp only [World.size_alloc];omega
    · omega
    intro v' w4 ho4 hu4 hfr
    simp (disch:=(first|omega|(simp only [qI,qJ,qK]<;>omega)|exact qL _)) only [go_sem,↓reduceIte,n0,reduceCtorEq,n1,n2,n3,n4,n5,i0,i1,i2,i3,i4,i5,i6,i7]
    repeat ((first | refine qA rfl ?_|apply qB|refine qC rfl ?_|apply qD|apply qE|apply qF|apply qG|apply qH);try simp (disch:=(first|omega|(simp only [qI,qJ,qK]<;>omega)|exact qL _)) only [go_sem,↓reduceIte,n0,reduceCtorEq,n1,n2,n3,n4,n5,i0,i1,i2,i3,i4,i5,i6,i7])
    rw [hE]
    exact AppR.after (Upd.alloc (Upd.refl _ _) _) (AppR.of (t := [b8 ((n % 128 + 128 : Nat) : Int),b8 ((n / 128 % 128 + 128 : Nat) : Int),b8 ((n / 16384 : Nat) : Int)]) ho4 rfl hu4 hfr)
  by_cases g4 : n < 268435456
  · have hU : uvl n = 4 := by simp only [uvl,g1,g2,g3,g4,if_true,if_false]
    have hE := uvarS_4 (n := n) (by omega) g4
    have a0 : (BitVec.ofInt (kbits .u32) ((n : Nat) : Int) &&& BitVec.ofInt (kbits .u32) 127).toNat = n % 128 := and127_u32 (by omega)
    have o0 : (BitVec.ofInt (kbits .u32) ((n % 128 : Nat) : Int) ||| BitVec.ofInt (kbits .u32) 128).toNat = n % 128 + 128 := or128_u32 (by omega)
    have a1 : (BitVec.ofInt (kbits .u32) ((n / 128 : Nat) : Int) &&& BitVec.ofInt (kbits .u32) 127).toNat = n / 128 % 128 := and127_u32 (by omega)
    have o1 : (BitVec.ofInt (kbits .u32) ((n / 128 % 128 : Nat) : Int) ||| BitVec.ofInt (kbits .u32) 128).toNat = n / 128 % 128 + 128 := or128_u32 (by omega)
    have a2 : (BitVec.ofInt (kbits .u32) ((n / 16384 : Nat) : Int) &&& BitVec.ofInt (kbits .u32) 127).toNat = n / 16384 % 128 := and127_u32 (by omega)
    have o2 : (BitVec.ofInt (kbits .u32) ((n / 16384 % 128 : Nat) : Int) ||| BitVec.ofInt (kbits .u32) 128).toNat = n / 16384 % 128 + 128 := or128_u32 (by omega)
    have eU : (uvl n : Int) = 4 := by rw [hU];rfl
    simp (disch:=(first|omega|(simp only [qI,qJ,qK]<;>omega)|exact qL _)) only [go_sem,↓reduceIte,n0,reduceCtorEq,n1,n2,n3,n4,n5,i0,i1,i2,i3,i4,i5,i6,i7,eU]
    repeat ((first | refine qA rfl ?_|apply qB|refine qC rfl ?_|apply qD|apply qE|apply qF|apply qG|apply qH);try simp (disch:=(first|omega|(simp only [qI,qJ,qK]<;>omega)|exact qL _)) only [go_sem,↓reduceIte,n0,reduceCtorEq,n1,n2,n3,n4,n5,i0,i1,i2,i3,i4,i5,i6,i7,eU,d7,d14,d21,a0,o0,a1,o1,a2,o2,u8_byte])
    have ho1 := ho.alloc (.cells #[byteV (b8 ((n % 128 + 128 : Nat) : Int)),byteV (b8 ((n / 128 % 128 + 128 : Nat) : Int)),byteV (b8 ((n / 16384 % 128 + 128 : Nat) : Int)),byteV (b8 ((n / 2097152 : Nat) : Int))] 5)
    refine wp_append ap_22_22 (m := 4) (news := [byteV (b8 ((n % 128 + 128 : Nat) : Int)),byteV (b8 ((n / 128 % 128 + 128 : Nat) : Int)),byteV (b8 ((n / 16384 % 128 + 128 : Nat) : Int)),byteV (b8 ((n / 2097152 : Nat) : Int))]) (n := s.length) (cs := s.map byteV) (v := .slice a s.length c) ?_ rfl ho1 (flat_bytes _) (Src.blk (fr := (0,0)) (T := 5) (blk_alloc_new rfl) rfl rfl) ?_ ?_ ?_
    · simp (disch:=(first|omega|(simp only [qI,qJ,qK]<;>omega)|exact qL _)) only [go_sem,↓reduceIte,n0,reduceCtorEq,n1,n2,n3,n4,n5,i0,i1,i2,i3,i4,i5,i6,i7]
    · simp only [World.size_alloc];omega
    · omega
    intro v' w4 ho4 hu4 hfr
    simp (disch:=(first|omega|(simp only [qI,qJ,qK]<;>omega)|exact qL _)) only [go_sem,↓reduceIte,n0,reduceCtorEq,n1,n2,n3,n4,n5,i0,i1,i2,i3,i4,i5,i6,i7]
    repeat ((first | refine qA rfl ?_|apply qB|refine qC rfl ?_|apply qD|apply qE|apply qF|apply qG|apply qH);try simp (disch:=(first|omega|(simp only [qI,qJ,qK]<;>omega)|exact qL _)) only [go_sem,↓reduceIte,n0,reduceCtorEq,n1,n2,n3,n4,n5,i0,i1,i2,i3,i4,i5,i6,i7])
    rw [hE]
    exact AppR.after (Upd.alloc (Upd.refl _ _) _) (AppR.of (t := [b8 ((n % 128 + 128 : Nat) : Int),b8 ((n / 128 % 128 + 128 : Nat) : Int),b8 ((n / 16384 % 128 + 128 : Nat) : Int),b8 ((n / 2097152 : Nat) : Int)]) ho4 rfl hu4 hfr)
  have hU : uvl n = 5 := by simp only [uvl,g1,g2,g3,g4,if_false]
  have hE := uvarS_5 (n := n) (by omega) hn
  have a0 : (BitVec.ofInt (kbits .u32) ((n : Nat) : Int) &&& BitVec.ofInt (kbits .u32) 127).toNat = n % 128 := and127_u32 (by omega)
  have o0 : (BitVec.ofInt (kbits .u32) ((n % 128 : Nat) : Int) ||| BitVec.ofInt (kbits .u32) 128).toNat = n % 128 + 128 := or128_u32 (by omega)
  have a1 : (BitVec.ofInt (kbits .u32) ((n / 128 : Nat) : Int) &&& BitVec.ofInt (kbits .u32) 127).toNat = n / 128 % 128 := and127_u32 (by omega)
  have o1 : (BitVec.ofInt (kbits .u32) ((n / 128 % 128 : Nat) : Int) ||| BitVec.ofInt (kbits .u32) 128).toNat = n / 128 % 128 + 128 := or128_u32 (by omega)
  have a2 : (BitVec.ofInt (kbits .u32) ((n / 16384 : Nat) : Int) &&& BitVec.ofInt (kbits .u32) 127).toNat = n / 16384 % 128 := and127_u32 (by omega)
  have o2 : (BitVec.ofInt (kbits .u32) ((n / 16384 % 128 : Nat) : Int) ||| BitVec.ofInt (kbits .u32) 128).toNat = n / 16384 % 128 + 128 := or128_u32 (by omega)
  have a3 : (BitVec.ofInt (kbits .u32) ((n / 2097152 : Nat) : Int) &&& BitVec.ofInt (kbits .u32) 127).toNat = n / 2097152 % 128 := and127_u32 (by omega)
  have o3 : (BitVec.ofInt (kbits .u32) ((n / 2097152 % 128 : Nat) : Int) ||| BitVec.ofInt (kbits .u32) 128).toNat = n / 2097152 % 128 + 128 := or128_u32 (by omega)
  have eU : (uvl n : Int) = 5 := by rw [hU];rfl
  simp (disch:=(first|omega|(simp only [qI,qJ,qK]<;>omega)|exact qL _)) only [go_sem,↓reduceIte,n0,reduceCtorEq,n1,n2,n3,n4,n5,i0,i1,i2,i3,i4,i5,i6,i7,eU]
  repeat ((first | refine qA rfl ?_|apply qB|refine qC rfl ?_|apply qD|apply qE|apply qF|apply qG|apply qH);try simp (disch:=(first|omega|(simp only [qI,qJ,qK]<;>omega)|exact qL _)) only [go_sem,↓reduceIte,n0,reduceCtorEq,n1,n2,n3,n4,n5,i0,i1,i2,i3,i4,i5,i6,i7,eU,d7,d14,d21,d28,a0,o0,a1,o1,a2,o2,a3,o3,u8_byte])
  have ho1 := ho.alloc (.cells #[byteV (b8 ((n % 128 + 128 : Nat) : Int)),byteV (b8 ((n / 128 % 128 + 128 : Nat) : Int)),byteV (b8 ((n / 16384 % 128 + 128 : Nat) : Int)),byteV (b8 ((n / 2097152 % 128 + 128 : Nat) : Int)),byteV (b8 ((n / 268435456 : Nat) : Int))] 5)
  refine wp_append ap_22_22 (m := 5) (news := [byteV (b8 ((n % 128 + 128 : Nat) : Int)),byteV (b8 ((n / 128 % 128 + 128 : Nat) : Int)),byteV (b8 ((n / 16384 % 128 + 128 : Nat) : Int)),byteV (b8 ((n / 2097152 % 128 + 128 : Nat) : Int)),byteV (b8 ((n / 268435456 : Nat) : Int))]) (n := s.length) (cs := s.map byteV) (v := .slice a s.length c) ?_ rfl ho1 (flat_bytes _) (Src.blk (fr := (0,0)) (T := 5) (blk_alloc_new rfl) rfl rfl) ?_ ?_ ?_
  · simp (disch:=(first|omega|(simp only [qI,qJ,qK]<;>omega)|exact qL _)) only [go_sem,↓reduceIte,n0,reduceCtorEq,n1,n2,n3,n4,n5,i0,i1,i2,i3,i4,i5,i6,i7]
  · simp only [World.size_alloc];omega
  · omega
  intro v' w4 ho4 hu4 hfr
  simp (disch:=(first|omega|(simp only [qI,qJ,qK]<;>omega)|exact qL _)) only [go_sem,↓reduceIte,n0,reduceCtorEq,n1,n2,n3,n4,n5,i0,i1,i2,i3,i4,i5,i6,i7]
  repeat ((first | refine qA rfl ?_|apply qB|refine qC rfl ?_|apply qD|apply qE|apply qF|apply qG|apply qH);try simp (disch:=(first|omega|(simp only [qI,qJ,qK]<;>omega)|exact qL _)) only [go_sem,↓reduceIte,n0,reduceCtorEq,n1,n2,n3,n4,n5,i0,i1,i2,i3,i4,i5,i6,i7])
  rw [hE]
  exact AppR.after (Upd.alloc (Upd.refl _ _) _) (AppR.of (t := [b8 ((n % 128 + 128 : Nat) : Int),b8 ((n / 128 % 128 + 128 : Nat) : Int),b8 ((n / 16384 % 128 + 128 : Nat) : Int),b8 ((n / 2097152 % 128 + 128 : Nat) : Int),b8 ((n / 268435456 : Nat) : Int)]) ho4 rfl hu4 hfr)

theorem BytesV.get {ok : Blocks} {w : World} {base : Option Addr} {n cap : Nat} {s : List UInt8} (h : BytesV ok w (.slice base n cap) s) {i : Nat} (hi : i < s.length) :
    n = s.length ∧ ∃ b o x,base = some ⟨b,o,none⟩ ∧ ok b ∧ blk w b = some x ∧ b < w.heap.size ∧ x.1[o + i]? = some (byteV s[i]) := by
  obtain ⟨h1,b,o,x,h2,h3,h4,h5,h6,h7⟩ := Sl.get (by omega) h (i := i) (by simpa using hi)
  refine ⟨by simpa using h1,b,o,x,h2,h3,h4,blk_lt h4,?_⟩
  have := h7 0 (by omega)
  simpa using this
theorem BytesV.shape {ok : Blocks} {w : World} {v : Value} {s : List UInt8} (h : BytesV ok w v s) : ∃ base cap,v = .slice base s.length cap ∧ s.length ≤ cap := by
  obtain ⟨b,c,h1,h2,_⟩ := h
  exact ⟨b,c,by simpa using h1,by simpa using h2⟩
theorem take_snoc {a b : List UInt8} {j : Nat} (h : a.take j = b.take j) (ha : j < a.length) (hb : j < b.length) (he : a[j] = b[j]) : a.take (j + 1) = b.take (j + 1) := by
  rw [List.take_succ_eq_append_getElem ha,List.take_succ_eq_append_getElem hb,h,he]
theorem byte_eq {x y : UInt8} (h : ((x.toNat : Int) != (y.toNat : Int)) = false) : x = y := by
  have : (x.toNat : Int) = y.toNat := by simpa using h
  exact UInt8.toNat_inj.1 (by omega)

theorem Same_fn {ok : Blocks} (a b : List UInt8) (va vb : Value) (w : World) (ha : BytesV ok w va a) (hb : BytesV ok w vb b) (hla : a.length < 4611686018427387904) :
    Fn Tryz.prog 10 #[va,vb] w fun v w' => v = .bool (decide (a = b)) ∧ Ext w w' := by
  obtain ⟨ba,ca,rfl,hca⟩ := ha.shape
  obtain ⟨bb,cb,rfl,hcb⟩ := hb.shape
  refine fn_of_W Tryz.func10 rfl Tryz.results10 Tryz.ntmps10 rfl ?_
  by_cases hl : a.length = b.length
  · repeat ((first | refine qA rfl ?_|apply qB|refine qC rfl ?_|apply qD|apply qE|apply qF|apply qG|apply qH);try simp (disch:=(first|omega|(simp only [qI,qJ,qK]<;>omega)|exact qL _)) only [go_sem,↓reduceIte,n0,reduceCtorEq,n1,n2,n3,n4,n5,i0,i1,i2,i3,i4,i5,i6,i7])
    refine W.loop (fun ρ w' => ∃ (j : Nat),j ≤ a.length ∧ ρ 13 = .int .i64 j ∧ ρ 12 = .int .i64 a.length ∧ ρ 0 = .slice ba a.length ca ∧ ρ 1 = .slice bb b.length cb ∧ Ext w w' ∧ a.take j = b.take j)
      (fun ρ _ => a.length - (RowKit.intOf (ρ 13)).toNat) ?_ ?_
    · refine ⟨0,Nat.zero_le _,?_,?_,?_,?_,Upd.refl _ _,rfl⟩ <;> simp (disch:=(first|omega|(simp only [qI,qJ,qK]<;>omega)|exact qL _)) only [go_sem,↓reduceIte,n0,reduceCtorEq,n1,n2,n3,n4,n5,i0,i1,i2,i3,i4,i5,i6,i7]
      rfl
    · rintro ρ w1 ⟨j,hj,h13,h12,h0,h1,hext,hs⟩
      have hz := hext.size
      by_cases hlt : j < a.length
      · obtain ⟨_,ab,ao,ax,hba,_,hax,hablt,hav⟩ := ha.get hlt
        obtain ⟨_,bbk,bo,bx,hbb,_,hbx,hbblt,hbv⟩ := hb.get (show j < b.length by omega)
        subst hba;subst hbb
        have hax1 : blk w1 ab = some ax := hext.blk_some hax id
        have hbx1 : blk w1 bbk = some bx := hext.blk_some hbx id
        have hj2 : ((j : Int)).toNat = j := by omega
        repeat ((first | refine qA rfl ?_|apply qB|refine qC rfl ?_|apply qD|apply qE|apply qF|apply qG|apply qH);try simp (disch:=(first|omega|(simp only [qI,qJ,qK]<;>omega)|exact qL _)) only [go_sem,↓reduceIte,n0,reduceCtorEq,n1,n2,n3,n4,n5,i0,i1,i2,i3,i4,i5,i6,i7,h13,h12])
        refine W.drawR (.take 0 (.take 1 (.take 2 (.take 3 (.take 4 (.take 5 (.take 6 (.take 7 (.take 8 .done))))))))) NoB mixed (by kernel_rfl) ?_
        simp (disch:=(first|omega|(simp only [qI,qJ,qK]<;>omega)|exact qL _)) only [go_sem,↓reduceIte,n0,reduceCtorEq,n1,n2,n3,n4,n5,i0,i1,i2,i3,i4,i5,i6,i7,h0,h1,hax1,hbx1,hav,hbv,hj2,Nat.mul_one,byteV]
        repeat ((first | refine qA rfl ?_|apply qB|refine qC rfl ?_|apply qD|apply qE|apply qF|apply qG|apply qH);try simp (disch:=(first|omega|(simp only [qI,qJ,qK]<;>omega)|exact qL _)) only [go_sem,↓reduceIte,n0,reduceCtorEq,n1,n2,n3,n4,n5,i0,i1,i2,i3,i4,i5,i6,i7])
        refine ⟨fun hne => ?_,fun heq => ?_⟩
        · repeat ((first | refine qA rfl ?_|apply qB|refine qC rfl ?_|apply qD|apply qE|apply qF|apply qG|apply qH);try simp (disch:=(first|omega|(simp only [qI,qJ,qK]<;>omega)|exact qL _)) only [go_sem,↓reduceIte,n0,reduceCtorEq,n1,n2,n3,n4,n5,i0,i1,i2,i3,i4,i5,i6,i7])
          refine ⟨?_,hext.drew⟩
          have : a ≠ b := fun e => by subst e;simp at hne
          simp [this]
        · have he := byte_eq heq
          repeat ((first | refine qA rfl ?_|apply qB|refine qC rfl ?_|apply qD|apply qE|apply qF|apply qG|apply qH);try simp (disch:=(first|omega|(simp only [qI,qJ,qK]<;>omega)|exact qL _)) only [go_sem,↓reduceIte,n0,reduceCtorEq,n1,n2,n3,n4,n5,i0,i1,i2,i3,i4,i5,i6,i7,h13,h12,h0,h1])
          refine ⟨⟨j + 1,by omega,?_,hext.drew,take_snoc hs hlt (by omega) he⟩,?_⟩
          · congr 1
          · simp only [RowKit.intOf];omega
      · repeat ((first | refine qA rfl ?_|apply qB|refine qC rfl ?_|apply qD|apply qE|apply qF|apply qG|apply qH);try simp (disch:=(first|omega|(simp only [qI,qJ,qK]<;>omega)|exact qL _)) only [go_sem,↓reduceIte,n0,reduceCtorEq,n1,n2,n3,n4,n5,i0,i1,i2,i3,i4,i5,i6,i7,h13,h12])
        refine ⟨?_,hext⟩
        have e1 : j = a.length := by omega
        subst e1
        rw [List.take_length,hl,List.take_length] at hs
        simp [hs]
  · repeat ((first | refine qA rfl ?_|apply qB|refine qC rfl ?_|apply qD|apply qE|apply qF|apply qG|apply qH);try simp (disch:=(first|omega|(simp only [qI,qJ,qK]<;>omega)|exact qL _)) only [go_sem,↓reduceIte,n0,reduceCtorEq,n1,n2,n3,n4,n5,i0,i1,i2,i3,i4,i5,i6,i7])
    refine ⟨?_,Upd.refl _ _⟩
    have : a ≠ b := fun e => hl (by rw [e])
    simp [this]


theorem AppendCompactString_fn {B : Nat} (v : Value) (s : List UInt8) (w : World) (ho : OwnBy 5 B w v s) (hB : B ≤ w.heap.size) (x : List UInt8) (hx : x.length ≤ 32767) (hl : s.length ≤ 2 ^ 44) :
    Fn Tryz.prog 45 #[v,strV x] w fun r w' => AppR 5 B w v s (uvarS (x.length + 1) ++ x) r w' := by
  obtain ⟨a,c,rfl,hc⟩ := ho.len
  refine fn_of_W Tryz.func45 rfl Tryz.results45 Tryz.ntmps45 rfl ?_
  have ew : IntKind.u32.wrap (x.length : Int) = x.length := u32_wrap (by omega)
  have ew2 : IntKind.u32.wrap (1 + (x.length : Int)) = ((x.length + 1 : Nat) : Int) := by rw [u32_wrap (by omega)];omega
  repeat ((first | refine qA rfl ?_|apply qB|refine qC rfl ?_|apply qD|apply qE|apply qF|apply qG|apply qH);try simp (disch:=(first|omega|(simp only [qI,qJ,qK]<;>omega)|exact qL _)) only [go_sem,↓reduceIte,n0,reduceCtorEq,n1,n2,n3,n4,n5,i0,i1,i2,i3,i4,i5,i6,i7,lenV_strV,ew,ew2])
  refine (AppendUvarint_fn _ s w ho hB (x.length + 1) (by omega) (by omega)).mono ?_
  rintro r w1 h1
  have hz := h1.upd.size
  have hul := uvarS_len 4 (x.length + 1) (by omega)
  have hl2 : (s ++ uvarS (x.length + 1)).length ≤ s.length + 5 := by rw [List.length_append];omega
  repeat ((first | refine qA rfl ?_|apply qB|refine qC rfl ?_|apply qD|apply qE|apply qF|apply qG|apply qH);try simp (disch:=(first|omega|(simp only [qI,qJ,qK]<;>omega)|exact qL _)) only [go_sem,↓reduceIte,n0,reduceCtorEq,n1,n2,n3,n4,n5,i0,i1,i2,i3,i4,i5,i6,i7])
  refine wp_append ap_22_9 (m := x.length) (news := x.map byteV) (n := (s ++ uvarS (x.length + 1)).length) (cs := (s ++ uvarS (x.length + 1)).map byteV) (v := r) ?_ rfl h1.own (flat_bytes _) ?_ ?_ ?_ ?_
  · simp (disch:=(first|omega|(simp only [qI,qJ,qK]<;>omega)|exact qL _)) only [go_sem,↓reduceIte,n0,reduceCtorEq,n1,n2,n3,n4,n5,i0,i1,i2,i3,i4,i5,i6,i7]
  · simp (disch:=(first|omega|(simp only [qI,qJ,qK]<;>omega)|exact qL _)) only [go_sem,↓reduceIte,n0,reduceCtorEq,n1,n2,n3,n4,n5,i0,i1,i2,i3,i4,i5,i6,i7]
    exact strV_src _ _
  · omega
  · omega
  intro v' w4 ho4 hu4 hfr
  simp (disch:=(first|omega|(simp only [qI,qJ,qK]<;>omega)|exact qL _)) only [go_sem,↓reduceIte,n0,reduceCtorEq,n1,n2,n3,n4,n5,i0,i1,i2,i3,i4,i5,i6,i7]
  repeat ((first | refine qA rfl ?_|apply qB|refine qC rfl ?_|apply qD|apply qE|apply qF|apply qG|apply qH);try simp (disch:=(first|omega|(simp only [qI,qJ,qK]<;>omega)|exact qL _)) only [go_sem,↓reduceIte,n0,reduceCtorEq,n1,n2,n3,n4,n5,i0,i1,i2,i3,i4,i5,i6,i7])
  exact h1.trans (AppR.of ho4 rfl hu4 hfr)

theorem AppendCompactNullableString_fn {B : Nat} {ok : Blocks} (v : Value) (s : List UInt8) (w : World) (ho : OwnBy 5 B w v s) (hB : B ≤ w.heap.size) (p : Value) (null : Bool) (x : List UInt8) (hp : PtrText ok w p null x) (hx : x.length ≤ 32767) (hl : s.length ≤ 2 ^ 44) :
    Fn Tryz.prog 36 #[v,p] w fun r w' => AppR 5 B w v s (if null = true then [0] else uvarS (x.length + 1) ++ x) r w' := by
  obtain ⟨a,c,rfl,hc⟩ := ho.len
  refine fn_of_W Tryz.func36 rfl Tryz.results36 Tryz.ntmps36 rfl ?_
  unfold PtrText at hp
  cases null with
  | true =>
    rw [if_pos rfl] at hp ⊢;subst hp
    repeat ((first | refine qA rfl ?_|apply qB|refine qC rfl ?_|apply qD|apply qE|apply qF|apply qG|apply qH);try simp (disch:=(first|omega|(simp only [qI,qJ,qK]<;>omega)|exact qL _)) only [go_sem,↓reduceIte,n0,reduceCtorEq,n1,n2,n3,n4,n5,i0,i1,i2,i3,i4,i5,i6,i7])
    refine (AppendUvarint_fn _ s w ho hB 0 (by omega) (by omega)).mono ?_
    rintro r w1 h1
    repeat ((first | refine qA rfl ?_|apply qB|refine qC rfl ?_|apply qD|apply qE|apply qF|apply qG|apply qH);try simp (disch:=(first|omega|(simp only [qI,qJ,qK]<;>omega)|exact qL _)) only [go_sem,↓reduceIte,n0,reduceCtorEq,n1,n2,n3,n4,n5,i0,i1,i2,i3,i4,i5,i6,i7])
    rw [uvarS_small (by omega)] at h1
    exact h1
  | false =>
    rw [if_neg (by decide)] at hp ⊢
    obtain ⟨b,o,y,rfl,_,hb,hy⟩ := hp
    repeat ((first | refine qA rfl ?_|apply qB|refine qC rfl ?_|apply qD|apply qE|apply qF|apply qG|apply qH);try simp (disch:=(first|omega|(simp only [qI,qJ,qK]<;>omega)|exact qL _)) only [go_sem,↓reduceIte,n0,reduceCtorEq,n1,n2,n3,n4,n5,i0,i1,i2,i3,i4,i5,i6,i7,hb,hy])
    refine (AppendCompactString_fn _ s w ho hB x hx hl).mono ?_
    rintro r w1 h1
    repeat ((first | refine qA rfl ?_|apply qB|refine qC rfl ?_|apply qD|apply qE|apply qF|apply qG|apply qH);try simp (disch:=(first|omega|(simp only [qI,qJ,qK]<;>omega)|exact qL _)) only [go_sem,↓reduceIte,n0,reduceCtorEq,n1,n2,n3,n4,n5,i0,i1,i2,i3,i4,i5,i6,i7])
    exact h1

theorem AppendCompactArrayLen_fn {B : Nat} (v : Value) (s : List UInt8) (w : World) (ho : OwnBy 5 B w v s) (hB : B ≤ w.heap.size) (n : Nat) (hn : n ≤ 32767) (hl : s.length ≤ 2 ^ 44) :
    Fn Tryz.prog 33 #[v,.int .i64 n] w fun r w' => AppR 5 B w v s (uvarS (n + 1)) r w' := by
  obtain ⟨a,c,rfl,hc⟩ := ho.len
  refine fn_of_W Tryz.func33 rfl Tryz.results33 Tryz.ntmps33 rfl ?_
  have ew : IntKind.u32.wrap (n : Int) = n := u32_wrap (by omega)
  have ew2 : IntKind.u32.wrap (1 + (n : Int)) = ((n + 1 : Nat) : Int) := by rw [u32_wrap (by omega)];omega
  repeat ((first | refine qA rfl ?_|apply qB|refine qC rfl ?_|apply qD|apply qE|apply qF|apply qG|apply qH);try simp (disch:=(first|omega|(simp only [qI,qJ,qK]<;>omega)|exact qL _)) only [go_sem,↓reduceIte,n0,reduceCtorEq,n1,n2,n3,n4,n5,i0,i1,i2,i3,i4,i5,i6,i7,ew,ew2])
  refine (AppendUvarint_fn _ s w ho hB (n + 1) (by omega) (by omega)).mono ?_
  rintro r w1 h1
  repeat ((first | refine qA rfl ?_|apply qB|refine qC rfl ?_|apply qD|apply qE|apply qF|apply qG|apply qH);try simp (disch:=(first|omega|(simp only [qI,qJ,qK]<;>omega)|exact qL _)) only [go_sem,↓reduceIte,n0,reduceCtorEq,n1,n2,n3,n4,n5,i0,i1,i2,i3,i4,i5,i6,i7])
  exact h1

theorem Width_fn (k : Int) (w : World) : Fn Tryz.prog 52 #[.int .i64 k] w fun v w' => v = .int .i64 (widthS k : Nat) ∧ w' = w := by
  refine fn_of_W Tryz.func52 rfl Tryz.results52 Tryz.ntmps52 rfl ?_
  by_cases h1 : k = 1
  · subst h1
    repeat ((first | refine qA rfl ?_|apply qB|refine qC rfl ?_|apply qD|apply qE|apply qF|apply qG|apply qH);try simp (disch:=(first|omega|(simp only [qI,qJ,qK]<;>omega)|exact qL _)) only [go_sem,↓reduceIte,n0,reduceCtorEq,n1,n2,n3,n4,n5,i0,i1,i2,i3,i4,i5,i6,i7])
    rfl
  by_cases h2 : k = 2
  · subst h2
    repeat ((first | refine qA rfl ?_|apply qB|refine qC rfl ?_|apply qD|apply qE|apply qF|apply qG|apply qH);try simp (disch:=(first|omega|(simp only [qI,qJ,qK]<;>omega)|exact qL _)) only [go_sem,↓reduceIte,n0,reduceCtorEq,n1,n2,n3,n4,n5,i0,i1,i2,i3,i4,i5,i6,i7])
    rfl
  by_cases h5 : k = 5
  · subst h5
    repeat ((first | refine qA rfl ?_|apply qB|refine qC rfl ?_|apply qD|apply qE|apply qF|apply qG|apply qH);try simp (disch:=(first|omega|(simp only [qI,qJ,qK]<;>omega)|exact qL _)) only [go_sem,↓reduceIte,n0,reduceCtorEq,n1,n2,n3,n4,n5,i0,i1,i2,i3,i4,i5,i6,i7])
    rfl
  by_cases h3 : k = 3
  · subst h3
    repeat ((first | refine qA rfl ?_|apply qB|refine qC rfl ?_|apply qD|apply qE|apply qF|apply qG|apply qH);try simp (disch:=(first|omega|(simp only [qI,qJ,qK]<;>omega)|exact qL _)) only [go_sem,↓reduceIte,n0,reduceCtorEq,n1,n2,n3,n4,n5,i0,i1,i2,i3,i4,i5,i6,i7])
    rfl
  repeat ((first | refine qA rfl ?_|apply qB|refine qC rfl ?_|apply qD|apply qE|apply qF|apply qG|apply qH);try simp (disch:=(first|omega|(simp only [qI,qJ,qK]<;>omega)|exact qL _)) only [go_sem,↓reduceIte,n0,reduceCtorEq,n1,n2,n3,n4,n5,i0,i1,i2,i3,i4,i5,i6,i7])
  simp [widthS,h1,h2,h5,h3]

theorem Has_fn {ok : Blocks} (f : Fld) (v : Int) (cf : List Value) (w : World) (hf : FldC ok w f cf) : Fn Tryz.prog 23 #[.agg cf.toArray,.int .i64 v] w fun r w' => r = .bool (hasS f v) ∧ Ext w w' := by
  obtain ⟨vs,rfl,_⟩ := hf.inv
  refine fn_of_W Tryz.func23 rfl Tryz.results23 Tryz.ntmps23 rfl ?_
  by_cases h1 : f.fr ≤ v
  · by_cases h2 : f.to < 0
    · repeat ((first | refine qA rfl ?_|apply qB|refine qC rfl ?_|apply qD|apply qE|apply qF|apply qG|apply qH);try simp (disch:=(first|omega|(simp only [qI,qJ,qK]<;>omega)|exact qL _)) only [go_sem,↓reduceIte,n0,reduceCtorEq,n1,n2,n3,n4,n5,i0,i1,i2,i3,i4,i5,i6,i7])
      exact ⟨by simp [hasS,h1,h2],Upd.alloc (Upd.refl _ _) _⟩
    · repeat ((first | refine qA rfl ?_|apply qB|refine qC rfl ?_|apply qD|apply qE|apply qF|apply qG|apply qH);try simp (disch:=(first|omega|(simp only [qI,qJ,qK]<;>omega)|exact qL _)) only [go_sem,↓reduceIte,n0,reduceCtorEq,n1,n2,n3,n4,n5,i0,i1,i2,i3,i4,i5,i6,i7])
      exact ⟨by simp [hasS,h1,h2],Upd.alloc (Upd.refl _ _) _⟩
  · repeat ((first | refine qA rfl ?_|apply qB|refine qC rfl ?_|apply qD|apply qE|apply qF|apply qG|apply qH);try simp (disch:=(first|omega|(simp only [qI,qJ,qK]<;>omega)|exact qL _)) only [go_sem,↓reduceIte,n0,reduceCtorEq,n1,n2,n3,n4,n5,i0,i1,i2,i3,i4,i5,i6,i7])
    exact ⟨by simp [hasS,h1],Upd.alloc (Upd.refl _ _) _⟩

theorem Null_fn {ok : Blocks} (f : Fld) (v : Int) (t : Tree) (cf ct : List Value) (w : World) (hf : FldC ok w f cf) (ht : TreeC ok w t ct) : Fn Tryz.prog 47 #[.agg cf.toArray,.int .i64 v,.agg ct.toArray] w fun r w' => r = .bool (nullS f v t) ∧ Ext w w' := by
  obtain ⟨vs,rfl,_⟩ := hf.inv
  obtain ⟨vS,vL,vU,rfl,_⟩ := ht.inv
  refine fn_of_W Tryz.func47 rfl Tryz.results47 Tryz.ntmps47 rfl ?_
  have hE : Ext w ((w.alloc (.cells #[.int .i64 f.kind,.int .i64 f.fr,.int .i64 f.to,.int .i64 f.null,.int .i64 f.tag,.int .i64 f.df,.int .i64 f.of,vs] 45)).alloc (.cells #[.int .i64 t.n,vS,.bool t.null,vL,vU] 26)) := Upd.alloc (Upd.alloc (Upd.refl _ _) _) _
  cases h0 : t.null with
  | false =>
    repeat ((first | refine qA rfl ?_|apply qB|refine qC rfl ?_|apply qD|apply qE|apply qF|apply qG|apply qH);try simp (disch:=(first|omega|(simp only [qI,qJ,qK]<;>omega)|exact qL _)) only [go_sem,↓reduceIte,n0,reduceCtorEq,n1,n2,n3,n4,n5,i0,i1,i2,i3,i4,i5,i6,i7,h0])
    exact ⟨by simp [nullS,h0],by rw [h0] at hE;exact hE⟩
  | true =>
    by_cases h1 : 0 ≤ f.null
    · by_cases h2 : f.null ≤ v
      · repeat ((first | refine qA rfl ?_|apply qB|refine qC rfl ?_|apply qD|apply qE|apply qF|apply qG|apply qH);try simp (disch:=(first|omega|(simp only [qI,qJ,qK]<;>omega)|exact qL _)) only [go_sem,↓reduceIte,n0,reduceCtorEq,n1,n2,n3,n4,n5,i0,i1,i2,i3,i4,i5,i6,i7,h0])
        exact ⟨by simp [nullS,h0,h1,h2],by rw [h0] at hE;exact hE⟩
      · repeat ((first | refine qA rfl ?_|apply qB|refine qC rfl ?_|apply qD|apply qE|apply qF|apply qG|apply qH);try simp (disch:=(first|omega|(simp only [qI,qJ,qK]<;>omega)|exact qL _)) only [go_sem,↓reduceIte,n0,reduceCtorEq,n1,n2,n3,n4,n5,i0,i1,i2,i3,i4,i5,i6,i7,h0])
        exact ⟨by simp [nullS,h0,h2],by rw [h0] at hE;exact hE⟩
    · repeat ((first | refine qA rfl ?_|apply qB|refine qC rfl ?_|apply qD|apply qE|apply qF|apply qG|apply qH);try simp (disch:=(first|omega|(simp only [qI,qJ,qK]<;>omega)|exact qL _)) only [go_sem,↓reduceIte,n0,reduceCtorEq,n1,n2,n3,n4,n5,i0,i1,i2,i3,i4,i5,i6,i7,h0])
      exact ⟨by simp [nullS,h0,h1],by rw [h0] at hE;exact hE⟩

theorem whole_fn {ok : Blocks} (s : List UInt8) (v : Value) (w : World) (h : BytesV ok w v s) : Fn Tryz.prog 30 #[v] w fun r w' => BytesV ok w' r (wholeS s) ∧ w' = w := by
  obtain ⟨base,cap,rfl,hcap⟩ := h.shape
  refine fn_of_W Tryz.func30 rfl Tryz.results30 Tryz.ntmps30 rfl ?_
  have hm := take_min s
  by_cases h1 : (32767 : Int) < s.length
  · repeat ((first | refine qA rfl ?_|apply qB|refine qC rfl ?_|apply qD|apply qE|apply qF|apply qG|apply qH);try simp (disch:=(first|omega|(simp only [qI,qJ,qK]<;>omega)|exact qL _)) only [go_sem,↓reduceIte,n0,reduceCtorEq,n1,n2,n3,n4,n5,i0,i1,i2,i3,i4,i5,i6,i7,h1])
    have e : min s.length 32767 = 32767 := by omega
    rw [wholeS]
    exact h.take 32767 (by omega)
  · repeat ((first | refine qA rfl ?_|apply qB|refine qC rfl ?_|apply qD|apply qE|apply qF|apply qG|apply qH);try simp (disch:=(first|omega|(simp only [qI,qJ,qK]<;>omega)|exact qL _)) only [go_sem,↓reduceIte,n0,reduceCtorEq,n1,n2,n3,n4,n5,i0,i1,i2,i3,i4,i5,i6,i7,h1,Int.toNat_natCast])
    have e : min s.length 32767 = s.length := by omega
    rw [wholeS,← hm,e]
    exact h.take s.length (by omega)
theorem things_fn {ok : Blocks} (s : List Tree) (v : Value) (w : World) (h : TreesV ok w v s) : Fn Tryz.prog 48 #[v] w fun r w' => TreesV ok w' r (thingsS s) ∧ w' = w := by
  obtain ⟨base,cap,rfl,hcap⟩ := SlR.shape h
  refine fn_of_W Tryz.func48 rfl Tryz.results48 Tryz.ntmps48 rfl ?_
  have hm := take_min s
  by_cases h1 : (32767 : Int) < s.length
  · repeat ((first | refine qA rfl ?_|apply qB|refine qC rfl ?_|apply qD|apply qE|apply qF|apply qG|apply qH);try simp (disch:=(first|omega|(simp only [qI,qJ,qK]<;>omega)|exact qL _)) only [go_sem,↓reduceIte,n0,reduceCtorEq,n1,n2,n3,n4,n5,i0,i1,i2,i3,i4,i5,i6,i7,h1])
    rw [thingsS]
    exact SlR.take h 32767 (by omega)
  · repeat ((first | refine qA rfl ?_|apply qB|refine qC rfl ?_|apply qD|apply qE|apply qF|apply qG|apply qH);try simp (disch:=(first|omega|(simp only [qI,qJ,qK]<;>omega)|exact qL _)) only [go_sem,↓reduceIte,n0,reduceCtorEq,n1,n2,n3,n4,n5,i0,i1,i2,i3,i4,i5,i6,i7,h1,Int.toNat_natCast])
    have e : min s.length 32767 = s.length := by omega
    rw [thingsS,← hm,e]
    exact SlR.take h s.length (by omega)
theorem known_fn {ok : Blocks} (fs : List Fld) (v : Value) (w : World) (h : FldsV ok w v fs) (hl : fs.length ≤ 1000) (ht : ∀ f ∈ fs,f.tag ≤ 1000) : Fn Tryz.prog 26 #[v] w fun r w' => r = .int .u32 (knownS fs : Nat) ∧ Ext w w' := by
  obtain ⟨base,cap,rfl,hcap⟩ := SlR.shape h
  refine fn_of_W Tryz.func26 rfl Tryz.results26 Tryz.ntmps26 rfl ?_
  repeat ((first | refine qA rfl ?_|apply qB|refine qC rfl ?_|apply qD|apply qE|apply qF|apply qG|apply qH);try simp (disch:=(first|omega|(simp only [qI,qJ,qK]<;>omega)|exact qL _)) only [go_sem,↓reduceIte,n0,reduceCtorEq,n1,n2,n3,n4,n5,i0,i1,i2,i3,i4,i5,i6,i7])
  refine W.loop (fun ρ w' => ∃ (j : Nat),j ≤ fs.length ∧ ρ 8 = .int .i64 j ∧ ρ 7 = .int .i64 fs.length ∧ ρ 6 = .slice base fs.length cap ∧ ρ 3 = .int .u32 (knownS (fs.take j) : Nat) ∧ Ext w w')
    (fun ρ _ => fs.length - (RowKit.intOf (ρ 8)).toNat) ?_ ?_
  · refine ⟨0,Nat.zero_le _,?_,?_,?_,?_,Upd.refl _ _⟩ <;> simp (disch:=(first|omega|(simp only [qI,qJ,qK]<;>omega)|exact qL _)) only [go_sem,↓reduceIte,n0,reduceCtorEq,n1,n2,n3,n4,n5,i0,i1,i2,i3,i4,i5,i6,i7]
    all_goals rfl
  · rintro ρ w1 ⟨j,hj,h8,h7,h6,h3,hext⟩
    have hz := hext.size
    by_cases hlt : j < fs.length
    · obtain ⟨_,b,o,x,vs,hb,_,hx,hblt,hxs,hxe,hfl,_⟩ := FldsV.get h hlt
      subst hb
      have hx1 : blk w1 b = some x := hext.blk_some hx id
      have hk1 : knownS (fs.take j) ≤ 1001 := knownS_le fun f hf => ht f (List.mem_of_mem_take hf)
      have htj := ht fs[j] (List.getElem_mem hlt)
      have hsn := knownS_snoc fs j hlt
      by_cases h0 : 0 ≤ fs[j].tag
      · have hw : IntKind.u32.wrap fs[j].tag = fs[j].tag := u32_wrap (by omega)
        rw [if_pos h0] at hsn
        by_cases hm : (knownS (fs.take j) : Int) < fs[j].tag + 1
        · repeat ((first | refine qA rfl ?_|apply qB|refine qC rfl ?_|apply qD|apply qE|apply qF|apply qG|apply qH);try simp (disch:=(first|omega|(simp only [qI,qJ,qK]<;>omega)|exact qL _)) only [go_sem,↓reduceIte,n0,reduceCtorEq,n1,n2,n3,n4,n5,i0,i1,i2,i3,i4,i5,i6,i7,h8,h7,h6,h3,hx1,hxe,hfl,Int.toNat_natCast,hw,hm])
          refine ⟨⟨j + 1,by omega,?_,?_,(hext.alloc _).wr _ _ (.inl (by omega))⟩,?_⟩
          · congr 1
          · rw [hsn];congr 1;omega
          · simp only [RowKit.intOf];omega
        · repeat ((first | refine qA rfl ?_|apply qB|refine qC rfl ?_|apply qD|apply qE|apply qF|apply qG|apply qH);try simp (disch:=(first|omega|(simp only [qI,qJ,qK]<;>omega)|exact qL _)) only [go_sem,↓reduceIte,n0,reduceCtorEq,n1,n2,n3,n4,n5,i0,i1,i2,i3,i4,i5,i6,i7,h8,h7,h6,h3,hx1,hxe,hfl,Int.toNat_natCast,hw,hm])
          refine ⟨⟨j + 1,by omega,?_,?_,(hext.alloc _).wr _ _ (.inl (by omega))⟩,?_⟩
          · congr 1
          · rw [hsn];congr 1;omega
          · simp only [RowKit.intOf];omega
      · rw [if_neg h0] at hsn
        repeat ((first | refine qA rfl ?_|apply qB|refine qC rfl ?_|apply qD|apply qE|apply qF|apply qG|apply qH);try simp (disch:=(first|omega|(simp only [qI,qJ,qK]<;>omega)|exact qL _)) only [go_sem,↓reduceIte,n0,reduceCtorEq,n1,n2,n3,n4,n5,i0,i1,i2,i3,i4,i5,i6,i7,h8,h7,h6,h3,hx1,hxe,hfl,Int.toNat_natCast])
        refine ⟨⟨j + 1,by omega,?_,?_,(hext.alloc _).wr _ _ (.inl (by omega))⟩,?_⟩
        · congr 1
        · rw [hsn]
        · simp only [RowKit.intOf];omega
    · repeat ((first | refine qA rfl ?_|apply qB|refine qC rfl ?_|apply qD|apply qE|apply qF|apply qG|apply qH);try simp (disch:=(first|omega|(simp only [qI,qJ,qK]<;>omega)|exact qL _)) only [go_sem,↓reduceIte,n0,reduceCtorEq,n1,n2,n3,n4,n5,i0,i1,i2,i3,i4,i5,i6,i7,h8,h7,h3])
      refine ⟨?_,hext⟩
      have : j = fs.length := by omega
      subst this
      rw [List.take_length]

theorem TreeC.zero (ok : Blocks) (w : World) : TreeC ok w Tree.zero [.int .i64 0,.slice none 0 0,.bool false,.slice none 0 0,.slice none 0 0] :=
  TreeC.intro rfl ⟨none,0,rfl,Nat.le_refl _,by simp,.inl rfl⟩ ⟨[],⟨none,0,rfl,Nat.le_refl _,by simp,.inl rfl⟩,rfl,fun i h => by simp at h⟩ ⟨[],⟨none,0,rfl,Nat.le_refl _,by simp,.inl rfl⟩,rfl,fun i h => by simp at h⟩
theorem Tree.at_lt {t : Tree} {i : Nat} (h : i < t.l.length) : t.at i = t.l[i] := by simp [Tree.at,h]
theorem Tree.at_ge {t : Tree} {i : Nat} (h : t.l.length ≤ i) : t.at i = .zero := by simp [Tree.at,h]

theorem at_fn {ok : Blocks} (t : Tree) (i : Nat) (ct : List Value) (w : World) (ht : TreeC ok w t ct) (hi : i ≤ 1000) (hlen : t.l.length < 4611686018427387904) :
    Fn Tryz.prog 25 #[.agg ct.toArray,.int .i64 i] w fun r w' => (∃ cs,r = .agg cs.toArray ∧ TreeC ok w' (t.at i) cs) ∧ Ext w w' := by
  obtain ⟨vS,vL,vU,rfl,hn,hS,hL,hU⟩ := ht.inv
  obtain ⟨base,cap,rfl,hcap⟩ := SlR.shape hL
  have f1 := hS.flat
  have f2 := SlR.flat hU
  refine fn_of_W Tryz.func25 rfl Tryz.results25 Tryz.ntmps25 rfl ?_
  by_cases h1 : i < t.l.length
  · obtain ⟨_,b,o,x,vS',vL',vU',hb,hok,hx,hlt,hxs,hxe,g1,g2,g3,hc⟩ := TreesV.get hL h1
    subst hb
    repeat ((first | refine qA rfl ?_|apply qB|refine qC rfl ?_|apply qD|apply qE|apply qF|apply qG|apply qH);try simp (disch:=(first|omega|(simp only [qI,qJ,qK]<;>omega)|exact qL _)) only [go_sem,↓reduceIte,n0,reduceCtorEq,n1,n2,n3,n4,n5,i0,i1,i2,i3,i4,i5,i6,i7,f1,f2,g1,g2,g3,hx,hxe,Int.toNat_natCast])
    have hE : Ext w (wr ((w.alloc (.cells #[.int .i64 t.n,vS,.bool t.null,.slice (some ⟨b,o,none⟩) t.l.length cap,vU] 26)).alloc (.cells #[.int .i64 0,.slice none 0 0,.bool false,.slice none 0 0,.slice none 0 0] 26)) (w.heap.size + 1) 0 [.int .i64 t.l[i].n,vS',.bool t.l[i].null,vL',vU']) :=
      Upd.wr (Upd.alloc (Upd.alloc (Upd.refl _ _) _) _) _ _ (.inl (by omega))
    refine ⟨⟨_,rfl,?_⟩,hE⟩
    rw [Tree.at_lt h1]
    exact hc.keep (hE.keeps _)
  · repeat ((first | refine qA rfl ?_|apply qB|refine qC rfl ?_|apply qD|apply qE|apply qF|apply qG|apply qH);try simp (disch:=(first|omega|(simp only [qI,qJ,qK]<;>omega)|exact qL _)) only [go_sem,↓reduceIte,n0,reduceCtorEq,n1,n2,n3,n4,n5,i0,i1,i2,i3,i4,i5,i6,i7,f1,f2])
    refine ⟨⟨_,rfl,?_⟩,?_⟩
    · rw [Tree.at_ge (by omega)]
      exact TreeC.zero _ _
    · exact Upd.wr (Upd.alloc (Upd.alloc (Upd.refl _ _) _) _) _ _ (.inl (by omega))

theorem and127 {m : Nat} (h : m < 2 ^ 64) : (BitVec.ofInt (kbits .u64) (m : Int) &&& BitVec.ofInt (kbits .u64) 127).toNat = m % 128 := by
  show (BitVec.ofInt 64 (m : Int) &&& BitVec.ofInt 64 127).toNat = m % 128
  rw [BitVec.toNat_and,BitVec.ofInt_natCast,BitVec.toNat_ofNat,Nat.mod_eq_of_lt h]
  exact Nat.and_two_pow_sub_one_eq_mod m 7
theorem or128F : ∀ y : Fin 128,(BitVec.ofInt 8 ((y.val : Nat) : Int) ||| BitVec.ofInt 8 128).toNat = y.val + 128 := by decide
theorem or128 {y : Nat} (h : y < 128) : (BitVec.ofInt (kbits .u8) (y : Int) ||| BitVec.ofInt (kbits .u8) 128).toNat = y + 128 := or128F ⟨y,h⟩
theorem u8_wrap {x : Int} (h : 0 ≤ x ∧ x ≤ 255) : IntKind.u8.wrap x = x := IntWalk.u8_in x h

theorem Uvarint_fn (n : Nat) (hn : n < 2 ^ 64) (w : World) : Fn Tryz.prog 28 #[.int .u64 n] w fun v w' => OwnBy 5 w.heap.size w' v (uvarS n) ∧ Ext w w' := by
  have hlen := uvarS_len 9 n (by omega)
  refine fn_of_W Tryz.func28 rfl Tryz.results28 Tryz.ntmps28 rfl ?_
  repeat ((first | refine qA rfl ?_|apply qB|refine qC rfl ?_|apply qD|apply qE|apply qF|apply qG|apply qH);try simp (disch:=(first|omega|(simp only [qI,qJ,qK]<;>omega)|exact qL _)) only [go_sem,↓reduceIte,n0,reduceCtorEq,n1,n2,n3,n4,n5,i0,i1,i2,i3,i4,i5,i6,i7])
  refine W.loop (fun ρ w' => ∃ (m : Nat) (s : List UInt8) (v : Value),m ≤ n ∧ ρ 0 = .int .u64 m ∧ ρ 3 = v ∧ OwnBy 5 w.heap.size w' v s ∧ Ext w w' ∧ s ++ uvarS m = uvarS n)
    (fun ρ _ => (RowKit.intOf (ρ 0)).toNat) ?_ ?_
  · refine ⟨n,[],_,Nat.le_refl _,?_,rfl,?_,Upd.refl _ _,rfl⟩
    · simp (disch:=(first|omega|(simp only [qI,qJ,qK]<;>omega)|exact qL _)) only [go_sem,↓reduceIte,n0,reduceCtorEq,n1,n2,n3,n4,n5,i0,i1,i2,i3,i4,i5,i6,i7]
    · simp (disch:=(first|omega|(simp only [qI,qJ,qK]<;>omega)|exact qL _)) only [go_sem,↓reduceIte,n0,reduceCtorEq,n1,n2,n3,n4,n5,i0,i1,i2,i3,i4,i5,i6,i7]
      exact Own.nil _ _ _ _
  · rintro ρ w1 ⟨m,s,v,hm,h0,h3,hown,hext,hs⟩
    have hz := hext.size
    have hsl : s.length ≤ 10 := by
      have := congrArg List.length hs
      simp only [List.length_append] at this;omega
    by_cases h1 : 127 < m
    · have e1 := and127 (m := m) (by omega)
      have e2 := or128 (y := m % 128) (by omega)
      have e3 : IntKind.u8.wrap ((m % 128 : Nat) : Int) = ((m % 128 : Nat) : Int) := u8_wrap (by omega)
      have e4 : ((m : Int)).fdiv (2 ^ (min 7 64)) = ((m / 128 : Nat) : Int) := by rw [show (2 : Int) ^ (min 7 64) = 128 from by decide,Int.fdiv_eq_ediv_of_nonneg _ (by decide)];omega
      repeat ((first | refine qA rfl ?_|apply qB|refine qC rfl ?_|apply qD|apply qE|apply qF|apply qG|apply qH);try simp (disch:=(first|omega|(simp only [qI,qJ,qK]<;>omega)|exact qL _)) only [go_sem,↓reduceIte,n0,reduceCtorEq,n1,n2,n3,n4,n5,i0,i1,i2,i3,i4,i5,i6,i7,h0,h3,e1,e2,e3,u8_byte])
      refine wp_append ap_22_22 (m := 1) (news := [byteV (b8 ((m % 128 + 128 : Nat) : Int))]) (n := s.length) (cs := s.map byteV) (v := v) ?_ rfl (hown.alloc _) (flat_bytes _) (Src.blk (fr := (0,0)) (T := 5) (blk_alloc_new rfl) rfl rfl) ?_ ?_ ?_
      · simp (disch:=(first|omega|(simp only [qI,qJ,qK]<;>omega)|exact qL _)) only [go_sem,↓reduceIte,n0,reduceCtorEq,n1,n2,n3,n4,n5,i0,i1,i2,i3,i4,i5,i6,i7]
      · simp only [World.size_alloc];omega
      · omega
      intro v' w2 ho hu hfr
      have hz2 := hu.size
      simp (disch:=(first|omega|(simp only [qI,qJ,qK]<;>omega)|exact qL _)) only [go_sem,↓reduceIte,n0,reduceCtorEq,n1,n2,n3,n4,n5,i0,i1,i2,i3,i4,i5,i6,i7]
      repeat ((first | refine qA rfl ?_|apply qB|refine qC rfl ?_|apply qD|apply qE|apply qF|apply qG|apply qH);try simp (disch:=(first|omega|(simp only [qI,qJ,qK]<;>omega)|exact qL _)) only [go_sem,↓reduceIte,n0,reduceCtorEq,n1,n2,n3,n4,n5,i0,i1,i2,i3,i4,i5,i6,i7,h0,h3,e4,kbits])
      refine ⟨⟨m / 128,s ++ [b8 ((m % 128 : Nat) + 128 : Int)],_,by omega,?_,rfl,OwnBy.snoc ho,Ext.own (hext.alloc _) hown hu,?_⟩,?_⟩
      · rfl
      · rw [uvarS_big h1] at hs
        rw [List.append_assoc];exact hs
      · simp only [RowKit.intOf];omega
    · repeat ((first | refine qA rfl ?_|apply qB|refine qC rfl ?_|apply qD|apply qE|apply qF|apply qG|apply qH);try simp (disch:=(first|omega|(simp only [qI,qJ,qK]<;>omega)|exact qL _)) only [go_sem,↓reduceIte,n0,reduceCtorEq,n1,n2,n3,n4,n5,i0,i1,i2,i3,i4,i5,i6,i7,h0,h3,u8_byte])
      refine wp_append ap_22_22 (m := 1) (news := [byteV (b8 (m : Int))]) (n := s.length) (cs := s.map byteV) (v := v) ?_ rfl (hown.alloc _) (flat_bytes _) (Src.blk (fr := (0,0)) (T := 5) (blk_alloc_new rfl) rfl rfl) ?_ ?_ ?_
      · simp (disch:=(first|omega|(simp only [qI,qJ,qK]<;>omega)|exact qL _)) only [go_sem,↓reduceIte,n0,reduceCtorEq,n1,n2,n3,n4,n5,i0,i1,i2,i3,i4,i5,i6,i7]
      · simp only [World.size_alloc];omega
      · omega
      intro v' w2 ho hu hfr
      have hz2 := hu.size
      simp (disch:=(first|omega|(simp only [qI,qJ,qK]<;>omega)|exact qL _)) only [go_sem,↓reduceIte,n0,reduceCtorEq,n1,n2,n3,n4,n5,i0,i1,i2,i3,i4,i5,i6,i7]
      repeat ((first | refine qA rfl ?_|apply qB|refine qC rfl ?_|apply qD|apply qE|apply qF|apply qG|apply qH);try simp (disch:=(first|omega|(simp only [qI,qJ,qK]<;>omega)|exact qL _)) only [go_sem,↓reduceIte,n0,reduceCtorEq,n1,n2,n3,n4,n5,i0,i1,i2,i3,i4,i5,i6,i7,h0,h3])
      refine ⟨?_,Ext.own (hext.alloc _) hown hu⟩
      rw [uvarS_small (by omega)] at hs
      rw [← hs]
      exact OwnBy.snoc ho

theorem counted_fn (flex null : Bool) (n k : Nat) (hk : k ≤ 8) (hn : n < 4611686018427387904) (w : World) :
    Fn Tryz.prog 49 #[.bool flex,.bool null,.int .i64 n,.int .i64 k] w fun v w' => OwnBy 5 w.heap.size w' v (countedS flex null n k) ∧ Ext w w' := by
  refine fn_of_W Tryz.func49 rfl Tryz.results49 Tryz.ntmps49 rfl ?_
  cases flex with
  | true =>
    cases null with
    | true =>
      repeat ((first | refine qA rfl ?_|apply qB|refine qC rfl ?_|apply qD|apply qE|apply qF|apply qG|apply qH);try simp (disch:=(first|omega|(simp only [qI,qJ,qK]<;>omega)|exact qL _)) only [go_sem,↓reduceIte,n0,reduceCtorEq,n1,n2,n3,n4,n5,i0,i1,i2,i3,i4,i5,i6,i7])
      refine ⟨?_,Upd.alloc (Upd.refl _ _) _⟩
      exact Own.blk (n := 1) (cs := [byteV 0]) (blk_alloc_new rfl) rfl (Nat.le_refl _)
    | false =>
      have e : IntKind.u64.wrap (n : Int) = n := u64_wrap (by omega)
      have e' : (n : Int) + 1 = ((n + 1 : Nat) : Int) := rfl
      repeat ((first | refine qA rfl ?_|apply qB|refine qC rfl ?_|apply qD|apply qE|apply qF|apply qG|apply qH);try simp (disch:=(first|omega|(simp only [qI,qJ,qK]<;>omega)|exact qL _)) only [go_sem,↓reduceIte,n0,reduceCtorEq,n1,n2,n3,n4,n5,i0,i1,i2,i3,i4,i5,i6,i7,e,e'])
      refine (Uvarint_fn (n + 1) (by omega) w).mono ?_
      rintro v w' ⟨h1,h2⟩
      repeat ((first | refine qA rfl ?_|apply qB|refine qC rfl ?_|apply qD|apply qE|apply qF|apply qG|apply qH);try simp (disch:=(first|omega|(simp only [qI,qJ,qK]<;>omega)|exact qL _)) only [go_sem,↓reduceIte,n0,reduceCtorEq,n1,n2,n3,n4,n5,i0,i1,i2,i3,i4,i5,i6,i7])
      exact ⟨by simpa [countedS] using h1,h2⟩
  | false =>
    cases null with
    | true =>
      repeat ((first | refine qA rfl ?_|apply qB|refine qC rfl ?_|apply qD|apply qE|apply qF|apply qG|apply qH);try simp (disch:=(first|omega|(simp only [qI,qJ,qK]<;>omega)|exact qL _)) only [go_sem,↓reduceIte,n0,reduceCtorEq,n1,n2,n3,n4,n5,i0,i1,i2,i3,i4,i5,i6,i7])
      refine (Fixed_fn (-1) k hk w).mono ?_
      rintro v w' ⟨h1,h2⟩
      repeat ((first | refine qA rfl ?_|apply qB|refine qC rfl ?_|apply qD|apply qE|apply qF|apply qG|apply qH);try simp (disch:=(first|omega|(simp only [qI,qJ,qK]<;>omega)|exact qL _)) only [go_sem,↓reduceIte,n0,reduceCtorEq,n1,n2,n3,n4,n5,i0,i1,i2,i3,i4,i5,i6,i7])
      exact ⟨by simpa [countedS] using h1,h2⟩
    | false =>
      repeat ((first | refine qA rfl ?_|apply qB|refine qC rfl ?_|apply qD|apply qE|apply qF|apply qG|apply qH);try simp (disch:=(first|omega|(simp only [qI,qJ,qK]<;>omega)|exact qL _)) only [go_sem,↓reduceIte,n0,reduceCtorEq,n1,n2,n3,n4,n5,i0,i1,i2,i3,i4,i5,i6,i7])
      refine (Fixed_fn n k hk w).mono ?_
      rintro v w' ⟨h1,h2⟩
      repeat ((first | refine qA rfl ?_|apply qB|refine qC rfl ?_|apply qD|apply qE|apply qF|apply qG|apply qH);try simp (disch:=(first|omega|(simp only [qI,qJ,qK]<;>omega)|exact qL _)) only [go_sem,↓reduceIte,n0,reduceCtorEq,n1,n2,n3,n4,n5,i0,i1,i2,i3,i4,i5,i6,i7])
      exact ⟨by simpa [countedS] using h1,h2⟩
end Ms

