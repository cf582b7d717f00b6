/- Worlds: which blocks a step may change, how a block reads behind it; the walking rules joined. -/
import Derived.Test.YtohokpilmncmkaaMsStep
import Derived.Below
set_option linter.unusedSimpArgs false
set_option linter.unusedVariables false
namespace Ms
open Go Go.RowKit

/-- From w to w' no block has changed but new ones and those of S; the streams are as they were. -/
structure Upd (S : Nat → Prop) (w w' : World) : Prop where
  os : w'.os = w.os
  tape : w'.tape = w.tape
  output : w'.output = w.output
  size : w.heap.size ≤ w'.heap.size
  keep : ∀ b, b < w.heap.size → ¬ S b → w'.heap[b]? = w.heap[b]?

abbrev Ext (w w' : World) : Prop := Upd (fun _ => False) w w'

theorem Upd.refl (S : Nat → Prop) (w : World) : Upd S w w := ⟨rfl, rfl, rfl, Nat.le_refl _, fun _ _ _ => rfl⟩
theorem Upd.trans {S : Nat → Prop} {a b c : World} (h : Upd S a b) (k : Upd S b c) : Upd S a c :=
  ⟨k.os.trans h.os, k.tape.trans h.tape, k.output.trans h.output, Nat.le_trans h.size k.size, fun i hi hs => (k.keep i (Nat.lt_of_lt_of_le hi h.size) hs).trans (h.keep i hi hs)⟩
/-- The second step may change what the first one has laid anew. -/
theorem Upd.trans' {S S' : Nat → Prop} {a b c : World} (h : Upd S a b) (k : Upd S' b c) (hs : ∀ i, i < a.heap.size → S' i → S i) : Upd S a c :=
  ⟨k.os.trans h.os, k.tape.trans h.tape, k.output.trans h.output, Nat.le_trans h.size k.size, fun i hi hn => (k.keep i (Nat.lt_of_lt_of_le hi h.size) (fun h' => hn (hs i hi h'))).trans (h.keep i hi hn)⟩
theorem Upd.mono {S S' : Nat → Prop} {a b : World} (h : Upd S a b) (hs : ∀ i, S i → S' i) : Upd S' a b :=
  ⟨h.os, h.tape, h.output, h.size, fun i hi hn => h.keep i hi (fun h' => hn (hs i h'))⟩
theorem Ext.upd {S : Nat → Prop} {a b : World} (h : Ext a b) : Upd S a b := h.mono fun _ h => h.elim
theorem Upd.drew {S : Nat → Prop} {a b : World} (h : Upd S a b) : Upd S a b.drew := ⟨h.os, h.tape, h.output, h.size, h.keep⟩
theorem Upd.alloc {S : Nat → Prop} {a b : World} (h : Upd S a b) (o : Obj) : Upd S a (b.alloc o) :=
  ⟨h.os, h.tape, h.output, by simp only [World.size_alloc]; exact Nat.le_succ_of_le h.size, fun i hi hn => by
    rw [Below.heap_alloc _ _ _ (Nat.lt_of_lt_of_le hi h.size)]; exact h.keep i hi hn⟩

theorem heap_wr_ne {w : World} {b o : Nat} {vs : List Value} {i : Nat} (h : i ≠ b) : (wr w b o vs).heap[i]? = w.heap[i]? := by
  simp only [wr, Array.getElem?_modify]; rw [if_neg (Ne.symm h)]
theorem size_wr (w : World) (b o : Nat) (vs : List Value) : (wr w b o vs).heap.size = w.heap.size := by simp [wr]
theorem size_drew (w : World) : w.drew.heap.size = w.heap.size := nr rfl

theorem Upd.wr {S : Nat → Prop} {a w : World} (h : Upd S a w) {b : Nat} (o : Nat) (vs : List Value) (hb : a.heap.size ≤ b ∨ S b) : Upd S a (wr w b o vs) :=
  ⟨h.os, h.tape, h.output, by rw [size_wr]; exact h.size, fun i hi hn => by
    rw [heap_wr_ne (fun e => by subst e; rcases hb with hb | hb; omega; exact hn hb)]; exact h.keep i hi hn⟩

theorem blk_of_heap {w w' : World} {b : Nat} (h : w'.heap[b]? = w.heap[b]?) : blk w' b = blk w b := by simp only [blk, h]
theorem Upd.blk {S : Nat → Prop} {w w' : World} (h : Upd S w w') {b : Nat} (hb : b < w.heap.size) (hs : ¬ S b) : Ms.blk w' b = Ms.blk w b := blk_of_heap (h.keep b hb hs)
theorem blk_lt {w : World} {b : Nat} {x : Blk} (h : blk w b = some x) : b < w.heap.size := by
  simp only [blk] at h
  rcases Nat.lt_or_ge b w.heap.size with h' | h'
  · exact h'
  · rw [Array.getElem?_eq_none h'] at h; cases h
theorem Upd.blk_some {S : Nat → Prop} {w w' : World} (h : Upd S w w') {b : Nat} {x : Blk} (hb : Ms.blk w b = some x) (hs : ¬ S b) : Ms.blk w' b = some x := by
  rw [h.blk (blk_lt hb) hs]; exact hb

theorem blk_alloc_old {w : World} {o : Obj} {b : Nat} (h : b < w.heap.size) : blk (w.alloc o) b = blk w b := blk_of_heap (Below.heap_alloc _ _ _ h)
theorem blk_alloc_new {w : World} {c : Array Value} {T : TypeId} {fr : Nat × Nat} {b : Nat} (h : b = w.heap.size) : blk (w.alloc (.cells c T fr)) b = some (c, T, fr) := by
  subst h; simp only [blk, World.alloc, Array.getElem?_push, if_true]
theorem blk_wr_ne {w : World} {b o : Nat} {vs : List Value} {i : Nat} (h : i ≠ b) : blk (wr w b o vs) i = blk w i := blk_of_heap (heap_wr_ne h)
theorem blk_wr_eq {w : World} {b o : Nat} {vs : List Value} : blk (wr w b o vs) b = (blk w b).map fun x => (wrArr x.1 o vs, x.2) := by
  cases h : blk w b with
  | some x => rw [blk_wr_same o vs h]; rfl
  | none =>
    simp only [blk] at h
    simp only [blk, wr, Array.getElem?_modify, if_true]
    cases hb : w.heap[b]? with
    | none => rfl
    | some y =>
      rw [hb] at h
      cases y <;> first | rfl | (cases h; done)
theorem blk_drew (w : World) (b : Nat) : blk w.drew b = blk w b := nr rfl

theorem wrArr_get (vs : List Value) : ∀ (c : Array Value) (o i : Nat), (wrArr c o vs)[i]? = if o ≤ i ∧ i < o + vs.length ∧ i < c.size then vs[i - o]? else c[i]? := by
  induction vs with
  | nil => intro c o i; simp only [wrArr, List.length_nil]; rw [if_neg (by omega)]
  | cons v vs ih =>
    intro c o i
    simp only [wrArr, ih, Array.size_setIfInBounds, List.length_cons, Array.getElem?_setIfInBounds]
    by_cases hi : i = o
    · subst hi
      rw [if_neg (by omega)]
      by_cases hs : i < c.size
      · simp [hs]
      · simp [hs]
    · by_cases h1 : o + 1 ≤ i ∧ i < o + 1 + vs.length ∧ i < c.size
      · rw [if_pos h1, if_pos (by omega)]
        obtain ⟨k, hk⟩ : ∃ k, i - o = k + 1 := ⟨i - o - 1, by omega⟩
        have hk2 : i - (o + 1) = k := by omega
        simp [hk, hk2]
      · rw [if_neg h1, if_neg (show ¬ o = i by omega), if_neg (show ¬ (o ≤ i ∧ i < o + (vs.length + 1) ∧ i < c.size) by omega)]

theorem wrArr_full {c : Array Value} {vs : List Value} (h : vs.length = c.size) : wrArr c 0 vs = vs.toArray := by
  apply Array.ext_getElem?
  intro i
  rw [wrArr_get]
  by_cases hi : i < c.size
  · rw [if_pos (by omega)]; simp
  · rw [if_neg (by omega), Array.getElem?_eq_none (by omega)]; simp; omega

/-! ### A function's end -/
def resV : List Value → Value
  | [v] => v
  | vs => .tuple vs.toArray
def resK (P : Program) : List ResultVar → Regs → World → (List Value → Prop) → Prop
  | [], _, _, k => k []
  | .tmp t :: rs, ρ, w, k => resK P rs ρ w fun vs => k (ρ t :: vs)
  | .cell t T :: rs, ρ, w, k => addrK (ρ t) fun a => optK (loadOf P T w a) fun v => resK P rs ρ w fun vs => k (v :: vs)

def resF (tmps : Array Value) : ResultVar → Sem Value
  | .tmp t => pure (tmps.getD t undef)
  | .cell c t => do loadVar t (← asAddr (tmps.getD c undef))
theorem results_F (fn : Func) (tmps : Array Value) : results fn tmps = (do let vs ← fn.results.mapM (resF tmps); pure (if h : vs.size = 1 then vs[0] else .tuple vs) : Sem Value) := by
  unfold results
  congr 1

theorem resK_sound {P : Program} {w : World} (a : Act) : ∀ (rs : List ResultVar) (k : List Value → Prop), resK P rs (regs a) w k →
    ∃ vs, (rs.mapM (resF a.tmps)).run P w = .ok vs w ∧ k vs := by
  intro rs
  induction rs with
  | nil => intro k h; exact ⟨[], rfl, h⟩
  | cons r rs ih =>
    intro k h
    cases r with
    | tmp t =>
      obtain ⟨vs, hv, hk⟩ := ih _ h
      refine ⟨_, ?_, hk⟩
      simp only [List.mapM_cons, Sem.run_bind, resF, Sem.run_pure, Result.andThen_ok, hv]
      rfl
    | cell t T =>
      obtain ⟨ad, ha, h⟩ := addrK_elim h
      obtain ⟨v, hl, h⟩ := optK_elim h
      obtain ⟨vs, hv, hk⟩ := ih _ h
      refine ⟨_, ?_, hk⟩
      have ha' : a.tmps.getD t undef = .pointer (some ad) := ha
      have h1 : (resF a.tmps (.cell t T)).run P w = .ok v w := by
        simp only [resF, ha', asAddr, Sem.run_bind, Sem.run_pure, Result.andThen_ok, loadOf_sound hl]
      simp only [List.mapM_cons, Sem.run_bind, h1, Sem.run_pure, Result.andThen_ok, hv]

def endQ (P : Program) (rs : List ResultVar) (R : Value → World → Prop) : Exit → Regs → World → Prop
  | .normal, ρ, w => resK P rs ρ w fun vs => R (resV vs) w
  | .ret, ρ, w => resK P rs ρ w fun vs => R (resV vs) w
  | _, _, _ => False

theorem Res_of {P : Program} {fn : Func} {rs : Array ResultVar} (hrs : fn.results = rs) {ρ : Regs} {w : World} {R : Value → World → Prop} (h : resK P rs.toList ρ w fun vs => R (resV vs) w) : Res P fn ρ w R := by
  intro a ha
  subst ha
  obtain ⟨vs, hv, hk⟩ := resK_sound a _ _ h
  refine ⟨_, ?_, hk⟩
  rw [results_F, hrs]
  simp only [Sem.run_bind]
  rw [Array.mapM_eq_mapM_toList]
  simp only [Sem.run_map, hv, Result.andThen_ok, Sem.run_pure]
  congr 1
  match vs with
  | [] => rfl
  | [v] => rfl
  | v :: u :: vs => simp [resV]

theorem fn_of_W {P : Program} {f : Nat} {fn : Func} {c : Code} {args : Array Value} {w : World} {R : Value → World → Prop} {rs : Array ResultVar}
    (hf : P.funcs[f]? = some fn) (hb : fn.body = some c) (hrs : fn.results = rs) {n : Nat} (hn : fn.ntmps = n) (ha : Nat.ble args.size n = true)
    (h : W P n c (endQ P rs.toList R) (start args) w) : Fn P f args w R := by
  subst hn
  refine fn_of_R hf hb (Nat.le_of_ble_eq_true ha) (h.mono fun e ρ w he => ?_)
  cases e <;> first | exact Res_of hrs he | exact he.elim

/-! ### The walking rules joined -/
theorem thenQ_normal (K : Regs → World → Prop) (Q : Exit → Regs → World → Prop) (ρ : Regs) (w : World) : thenQ K Q .normal ρ w = K ρ w := nr rfl
theorem thenQ_ret (K : Regs → World → Prop) (Q : Exit → Regs → World → Prop) (ρ : Regs) (w : World) : thenQ K Q .ret ρ w = Q .ret ρ w := nr rfl
theorem thenQ_exit (K : Regs → World → Prop) (Q : Exit → Regs → World → Prop) (i : Nat) (ρ : Regs) (w : World) : thenQ K Q (.exit i) ρ w = Q (.exit i) ρ w := nr rfl
theorem thenQ_goto (K : Regs → World → Prop) (Q : Exit → Regs → World → Prop) (i : Nat) (ρ : Regs) (w : World) : thenQ K Q (.goto i) ρ w = Q (.goto i) ρ w := nr rfl
theorem blockQ_normal (i : Nat) (Q : Exit → Regs → World → Prop) (ρ : Regs) (w : World) : blockQ i Q .normal ρ w = Q .normal ρ w := nr rfl
theorem blockQ_ret (i : Nat) (Q : Exit → Regs → World → Prop) (ρ : Regs) (w : World) : blockQ i Q .ret ρ w = Q .ret ρ w := nr rfl
theorem blockQ_goto (i j : Nat) (Q : Exit → Regs → World → Prop) (ρ : Regs) (w : World) : blockQ i Q (.goto j) ρ w = Q (.goto j) ρ w := nr rfl
theorem blockQ_exit (i : Nat) (Q : Exit → Regs → World → Prop) (ρ : Regs) (w : World) : blockQ i Q (.exit i) ρ w = Q .normal ρ w := by simp [blockQ]
theorem blockQ_exit' {i j : Nat} (h : j ≠ i) (Q : Exit → Regs → World → Prop) (ρ : Regs) (w : World) : blockQ i Q (.exit j) ρ w = Q (.exit j) ρ w := by simp [blockQ, h]
theorem endQ_ret (P : Program) (rs : List ResultVar) (R : Value → World → Prop) (ρ : Regs) (w : World) : endQ P rs R .ret ρ w = resK P rs ρ w fun vs => R (resV vs) w := nr rfl
theorem endQ_normal (P : Program) (rs : List ResultVar) (R : Value → World → Prop) (ρ : Regs) (w : World) : endQ P rs R .normal ρ w = resK P rs ρ w fun vs => R (resV vs) w := nr rfl
theorem cells_agg (cs : Array Value) : vcells (Value.agg cs) = cs := nr rfl
theorem cells_int (k : IntKind) (n : Int) : vcells (Value.int k n) = #[.int k n] := nr rfl
theorem cells_bool (b : Bool) : vcells (Value.bool b) = #[.bool b] := nr rfl
theorem cells_slice (a : Option Addr) (n c : Nat) : vcells (Value.slice a n c) = #[.slice a n c] := nr rfl
theorem cells_pointer (a : Option Addr) : vcells (Value.pointer a) = #[.pointer a] := nr rfl
theorem cells_string (s : ByteArray) : vcells (Value.string s) = #[.string s] := nr rfl
theorem cells_map (s : Option Nat) : vcells (Value.map s) = #[.map s] := nr rfl
theorem cells_iface (t : TypeId) (v : Value) : vcells (Value.iface t v) = #[.iface t v] := nr rfl
theorem cells_func (f : Go.Fn) (a b : Array Value) : vcells (Value.func f a b) = #[.func f a b] := nr rfl
theorem addOff_none (b o n : Nat) : addOff ⟨b, o, none⟩ n = some ⟨b, o + n, none⟩ := nr rfl
theorem W_congr {P : Program} {n : Nat} {c : Code} {Q : Exit → Regs → World → Prop} {ρ ρ' : Regs} {w w' : World} (h1 : ρ = ρ') (h2 : w = w') : W P n c Q ρ w = W P n c Q ρ' w' := by rw [h1, h2]
theorem optK_congr {α : Type} {a b : Option α} {k : α → Prop} (h : a = b) : optK a k = optK b k := by rw [h]
theorem addrK_congr {a b : Value} {k : Addr → Prop} (h : a = b) : addrK a k = addrK b k := by rw [h]
theorem intK_congr {a b : Value} {k : IntKind → Int → Prop} (h : a = b) : intK a k = intK b k := by rw [h]
theorem boolK_congr {a b : Value} {k : Bool → Prop} (h : a = b) : boolK a k = boolK b k := by rw [h]
theorem aggK_congr {a b : Value} {k : Array Value → Prop} (h : a = b) : aggK a k = aggK b k := by rw [h]
theorem sliceK_congr {a b : Value} {k : Option Addr → Nat → Nat → Prop} (h : a = b) : sliceK a k = sliceK b k := by rw [h]
theorem tupleK_congr {a b : Value} {k : Array Value → Prop} (h : a = b) : tupleK a k = tupleK b k := by rw [h]
theorem funcK_congr {a b : Value} {k : FuncId → Array Value → Array Value → Prop} (h : a = b) : funcK a k = funcK b k := by rw [h]
theorem Fn_congr {P : Program} {f : Nat} {a b : Array Value} {w w' : World} {R : Value → World → Prop} (h : a = b) (h2 : w = w') : Fn P f a w R = Fn P f b w' R := by rw [h, h2]
theorem WPr_congr {P : Program} {d : Option Nat} {ρ : Regs} {K : Regs → World → Prop} {r r' : Result Next} (h : r = r') : WPr P d ρ K r = WPr P d ρ K r' := by rw [h]
theorem WPsq_congr {P : Program} {ops : Array Oper} {os : List Oper} {K : Regs → World → Prop} {ρ ρ' : Regs} {w w' : World} (h1 : ρ = ρ') (h2 : w = w') : WPsq P ops os K ρ w = WPsq P ops os K ρ' w' := by rw [h1, h2]
section
variable {P : Program} {n : Nat} {Q : Exit → Regs → World → Prop}

/-- A region, and what follows. -/
theorem W.seqR {id : Nat} {ops : Array Oper} {y : Code} {ρ : Regs} {w : World} (hf : fitsL n ops.toList = true)
    (h : WPsq P ops ops.toList (fun ρ w => W P n y Q ρ w) ρ w) : W P n (.seq (.region id ops false) y) Q ρ w :=
  W.seq (W.region hf (WPseq_of_sq _ _ _ _ h))
theorem W.regR {id : Nat} {ops : Array Oper} {ρ : Regs} {w : World} (hf : fitsL n ops.toList = true)
    (h : WPsq P ops ops.toList (Q .normal) ρ w) : W P n (.region id ops false) Q ρ w :=
  W.region hf (WPseq_of_sq _ _ _ _ h)
/-- A condition, and what follows. -/
theorem W.seqC {c : Operand} {x y z : Code} {ρ : Regs} {w : World} {t : Bool} (hc : ev ρ c = .bool t) (h1 : t = true → W P n x (thenQ (W P n z Q) Q) ρ w) (h0 : t = false → W P n y (thenQ (W P n z Q) Q) ρ w) :
    W P n (.seq (.cond c x y) z) Q ρ w := W.seq (W.cond hc h1 h0)
theorem W.seqCK {c : Operand} {x y z : Code} {ρ : Regs} {w : World} (h : boolK (ev ρ c) fun t => (t = true → W P n x (thenQ (W P n z Q) Q) ρ w) ∧ (t = false → W P n y (thenQ (W P n z Q) Q) ρ w)) :
    W P n (.seq (.cond c x y) z) Q ρ w := by
  obtain ⟨t, ht, h1, h0⟩ := boolK_elim h
  exact W.seqC ht h1 h0
theorem W.condK {c : Operand} {x y : Code} {ρ : Regs} {w : World} (h : boolK (ev ρ c) fun t => (t = true → W P n x Q ρ w) ∧ (t = false → W P n y Q ρ w)) :
    W P n (.cond c x y) Q ρ w := by
  obtain ⟨t, ht, h1, h0⟩ := boolK_elim h
  exact W.cond ht h1 h0
theorem W.seqS {z : Code} {ρ : Regs} {w : World} (h : W P n z Q ρ w) : W P n (.seq .skip z) Q ρ w := W.seq (W.skip h)
theorem W.skipT {ρ : Regs} {w : World} {K : Regs → World → Prop} (h : K ρ w) : W P n .skip (thenQ K Q) ρ w := W.skip h
end
end Ms
