/- The program logic that the proofs of this share go by: frames as functions from slots to values, weakest preconditions of regions and of code. -/
import Derived.OrdersHeld
import Derived.ScopeJumps
import Derived.Laws.World
set_option linter.unusedSimpArgs false
set_option linter.unusedVariables false
namespace Ms
open Go
universe u

abbrev Regs := Nat → Value

/-- An equation whose proof simp does not take for a mere unfolding (so that a congruence that uses it counts as a step). -/
theorem nr {α : Sort u} {a b : α} (h : a = b) : a = b := by cases h; rfl

def set (ρ : Regs) (d : Nat) (v : Value) : Regs := fun i => if i = d then v else ρ i

theorem set_apply (ρ : Regs) (d : Nat) (v : Value) (i : Nat) : set ρ d v i = if i = d then v else ρ i := nr rfl
theorem set_same (ρ : Regs) (d : Nat) (v : Value) : set ρ d v d = v := by simp [set]
theorem set_ne (ρ : Regs) {d i : Nat} (v : Value) (h : i ≠ d) : set ρ d v i = ρ i := by simp [set, h]
theorem set_self {ρ : Regs} {d : Nat} {v : Value} (h : ρ d = v) : ρ = set ρ d v := by
  funext i; by_cases hi : i = d <;> simp [set, hi, ← h]

def put (ρ : Regs) : Option Nat → Value → Regs
  | some d, v => set ρ d v
  | none, _ => ρ
theorem put_some (ρ : Regs) (d : Nat) (v : Value) : put ρ (some d) v = set ρ d v := nr rfl
theorem put_none (ρ : Regs) (v : Value) : put ρ none v = ρ := nr rfl

def ev (ρ : Regs) : Operand → Value
  | .tmp t => ρ t
  | .const v => v
  | .global g => .pointer (some ⟨g, 0, none⟩)
  | .func f => .func (.func f) #[] #[]
theorem ev_tmp (ρ : Regs) (t : Nat) : ev ρ (.tmp t) = ρ t := nr rfl
theorem ev_const (ρ : Regs) (v : Value) : ev ρ (.const v) = v := nr rfl
theorem ev_global (ρ : Regs) (g : Nat) : ev ρ (.global g) = .pointer (some ⟨g, 0, none⟩) := nr rfl
theorem ev_func (ρ : Regs) (f : Nat) : ev ρ (.func f) = .func (.func f) #[] #[] := nr rfl

def regs (a : Act) : Regs := fun i => a.tmps.getD i undef

theorem eval_regs (a : Act) : a.eval = ev (regs a) := by funext x; cases x <;> rfl

theorem regs_put (a : Act) (d : Option Nat) (v : Value) (h : ∀ t, d = some t → t < a.tmps.size) : regs (a.put d v) = put (regs a) d v := by
  cases d with
  | none => rfl
  | some t =>
    have ht := h t rfl
    funext i
    simp only [regs, Act.put, put, set]
    by_cases hi : i = t
    · subst hi; simp [ht]
    · simp [hi, Array.getElem?_setIfInBounds_ne (Ne.symm hi)]

theorem size_put (a : Act) (d : Option Nat) (v : Value) : (a.put d v).tmps.size = a.tmps.size := by
  cases d <;> simp [Act.put]
theorem defers_put (a : Act) (d : Option Nat) (v : Value) : (a.put d v).defers = a.defers := by
  cases d <;> rfl

/-- A call of function f comes back with a value, and R tells of it and of the world behind it. -/
def Fn (P : Program) (f : Nat) (args : Array Value) (w : World) (R : Value → World → Prop) : Prop :=
  Calls P f args w fun e w' => match e with | .returned v => R v w' | _ => False

theorem Fn.mono {P : Program} {f : Nat} {args : Array Value} {w : World} {R R' : Value → World → Prop} (h : Fn P f args w R) (hr : ∀ v w', R v w' → R' v w') : Fn P f args w R' :=
  Calls.mono h fun e w' he => by cases e <;> first | exact hr _ _ he | exact he

/-- What an operation's result asks of what follows. -/
def WPr (P : Program) (dst : Option Nat) (ρ : Regs) (K : Regs → World → Prop) : Result Next → Prop
  | .ok (.value v) w' => K (put ρ dst v) w'
  | .ok .skip w' => K (put ρ dst undef) w'
  | .ok (.enter f args) w' => Fn P f args w' fun v w'' => K (put ρ dst v) w''
  | .ok (.row row args) w' => Rows P row args w' fun v w'' => K (put ρ dst v) w''
  | _ => False

def WPop (P : Program) (o : Oper) (ρ : Regs) (w : World) (K : Regs → World → Prop) : Prop :=
  WPr P o.dst ρ K ((execOp (ev ρ) o).run P w)

def wantedR (ops : Array Oper) (o : Oper) (ρ : Regs) : Bool :=
  match o.guard with
  | none => true
  | some (j, b) => match (ops[j]?).bind (·.dst) with
    | some t => match ρ t with
      | .bool c => c == b
      | _ => false
    | none => false

def WPseq (P : Program) (ops : Array Oper) : List Oper → (Regs → World → Prop) → Regs → World → Prop
  | [], K, ρ, w => K ρ w
  | o :: os, K, ρ, w => if wantedR ops o ρ then WPop P o ρ w (WPseq P ops os K) else WPseq P ops os K (put ρ o.dst undef) w

/-- Every operation writes into the frame. -/
def fitsL (n : Nat) : List Oper → Bool
  | [] => true
  | o :: os => (match o.dst with | some d => Nat.blt d n | none => true) && fitsL n os

def liftQ (n : Nat) (Q : Exit → Regs → World → Prop) : Exit → Act → World → Prop
  | .panic _, _, _ => False
  | .outgrown, _, _ => False
  | e, a, w => a.tmps.size = n ∧ a.defers = [] ∧ Q e (regs a) w

def W (P : Program) (n : Nat) (c : Code) (Q : Exit → Regs → World → Prop) (ρ : Regs) (w : World) : Prop :=
  ∀ a : Act, a.tmps.size = n → a.defers = [] → regs a = ρ → c.wp P (liftQ n Q) a w

theorem wanted_regs (ops : Array Oper) (o : Oper) (a : Act) : Region.wanted o (yielded ops a.tmps) = wantedR ops o (regs a) := by
  unfold Region.wanted wantedR
  cases o.guard with
  | none => rfl
  | some jb =>
    obtain ⟨j, b⟩ := jb
    simp only [yielded]
    cases hd : (ops[j]?).bind (·.dst) with
    | none => simp
    | some t =>
      simp only [Option.bind_some, regs]
      cases ht : a.tmps[t]? with
      | none =>
        have hv : a.tmps.getD t undef = undef := by simp [ht]
        rw [hv]; simp [undef]
      | some v =>
        have hv : a.tmps.getD t undef = v := by simp [ht]
        rw [hv]
        cases v <;> simp

section
variable {P : Program} {n : Nat} {Q : Exit → Regs → World → Prop}

theorem wp_of_WPr {o : Oper} {K : Regs → World → Prop} {K' : Act → World → Prop} {a : Act} {r : Result Next} {Q' : Exit → Act → World → Prop}
    (hn : a.tmps.size = n) (hd : a.defers = []) (hfit : ∀ t, o.dst = some t → t < n)
    (hK : ∀ a w, a.tmps.size = n → a.defers = [] → K (regs a) w → K' a w)
    (h : WPr P o.dst (regs a) K r) : o.upon P a K' Q' r := by
  have step : ∀ v w', K (put (regs a) o.dst v) w' → K' (a.put o.dst v) w' := fun v w' hk =>
    hK _ _ (by rw [size_put]; exact hn) (by rw [defers_put]; exact hd) (by rw [regs_put a o.dst v (fun t ht => hn ▸ hfit t ht)]; exact hk)
  cases r with
  | halt x w' => exact h.elim
  | ok x w' =>
    cases x <;> first | exact step _ _ h | exact (h : False).elim | skip
    case enter f args =>
      refine Calls.mono h fun e w'' he => ?_
      cases e with
      | returned v => exact step _ _ he
      | panicked c => exact he.elim
      | outgrown => exact he.elim
    case row row args => exact Rows.mono h fun v w'' he => step _ _ he

theorem wpOps_of_seq (ops : Array Oper) : ∀ (k : Nat) (os : List Oper), ops.toList.drop k = os → ∀ (a : Act) (w : World),
    a.tmps.size = n → a.defers = [] → fitsL n os = true → WPseq P ops os (Q .normal) (regs a) w →
    wpOps P ops (liftQ n Q) (List.range' k os.length) a w := by
  intro k os
  induction os generalizing k with
  | nil => intro _ a w hn hd _ h; exact ⟨hn, hd, h⟩
  | cons o os ih =>
    intro hk a w hn hd hf h
    have hget : ops[k]? = some o := by
      have : (ops.toList.drop k)[0]? = some o := by rw [hk]; rfl
      simpa using this
    have hrest : ops.toList.drop (k + 1) = os := by
      have := congrArg List.tail hk
      simpa using this
    simp only [fitsL, Bool.and_eq_true] at hf
    have hfit : ∀ t, o.dst = some t → t < n := fun t ht => by
      have := hf.1; rw [ht] at this; simpa [Nat.blt_eq] using this
    simp only [List.length_cons, List.range'_succ, wpOps, hget]
    simp only [WPseq] at h
    rw [wanted_regs]
    by_cases hw : wantedR ops o (regs a) = true
    · rw [if_pos hw] at h
      rw [if_pos hw]
      refine .inl ?_
      unfold Oper.wp
      rw [eval_regs]
      exact wp_of_WPr hn hd hfit (fun a w hn hd hk => ih (k + 1) hrest a w hn hd hf.2 hk) h
    · rw [if_neg hw] at h
      rw [if_neg hw]
      refine ih (k + 1) hrest _ w (by rw [size_put]; exact hn) (by rw [defers_put]; exact hd) hf.2 ?_
      rw [regs_put a o.dst undef (fun t ht => hn ▸ hfit t ht)]
      exact h

theorem W.region {id : Nat} {ops : Array Oper} {ρ : Regs} {w : World} (hf : fitsL n ops.toList = true)
    (h : WPseq P ops ops.toList (Q .normal) ρ w) : W P n (.region id ops false) Q ρ w := by
  intro a hn hd hr
  subst hr
  refine wp_region ?_
  have := wpOps_of_seq (P := P) (Q := Q) ops 0 ops.toList (by simp) a w hn hd hf h
  simpa [List.range_eq_range'] using this

/-! ### Regions that draw their order -/

/-- In which order a region that draws is walked: 'take i': number i may come up, and yields its value in every world that meets S: it may be taken first; 'only i': nothing else may come up; 'two i j': either of two. -/
inductive Plan where
  | done
  | take (i : Nat) (r : Plan)
  | only (i : Nat) (r : Plan)
  | last (i : Nat)
  | two (i : Nat) (r : Plan) (j : Nat) (s : Plan)

/-- Does an operation wait for all others of the region, without a go-between? -/
def waitsAll (ops : Array Oper) (i : Nat) : Bool :=
  (List.range ops.size).all fun j => j == i || (match ops[i]? with | some o => o.after.any fun e => Region.binds .any e && e.on == j | none => false)
theorem waitsAll_not {ops : Array Oper} {i j : Nat} {oj : Oper} {listed : Array Bool} (hi : i < ops.size) (hji : j ≠ i) (hoj : ops[j]? = some oj) (hnot : ∀ e ∈ oj.after, Region.binds .any e = true → e.on ≠ i) : waitsAll ops j = false := by
  cases h : waitsAll ops j with
  | false => rfl
  | true =>
    exfalso
    have h1 := List.all_eq_true.1 h i (List.mem_range.2 hi)
    rw [hoj] at h1
    simp only [Bool.or_eq_true, beq_iff_eq, Array.any_eq_true', Bool.and_eq_true] at h1
    rcases h1 with h1 | ⟨e, he, hb, ho⟩
    · exact hji h1.symm
    · exact hnot e he hb ho

/-- Whatever order is picked from here on; S holds behind every operation that is carried out, but for one that waits for all. -/
def wpAnyN (P : Program) (ops : Array Oper) (Q : Exit → Act → World → Prop) (S : World → Prop) : Nat → Array Bool → Act → World → Prop
  | 0, listed, a, w => Region.ready .any ops listed = [] ∧ Q .normal a w
  | fuel + 1, listed, a, w =>
    (Region.ready .any ops listed = [] → Q .normal a w) ∧
    ∀ i ∈ Region.ready .any ops listed, wpOp P ops Q i (fun a' w' => (waitsAll ops i = true ∨ S w') ∧ wpAnyN P ops Q S fuel (listed.setIfInBounds i true) a' w') a w
theorem wpAny_of_N {ops : Array Oper} {Q : Exit → Act → World → Prop} {S : World → Prop} : ∀ (fuel : Nat) (listed : Array Bool) (a : Act) (w : World), wpAnyN P ops Q S fuel listed a w → wpAny P .any ops Q fuel listed a w
  | 0, _, _, _, h => h
  | fuel + 1, _, _, _, h => ⟨h.1, fun i hi => wpOp_mono (fun a' w' h' => wpAny_of_N fuel _ a' w' h'.2) (h.2 i hi)⟩
theorem wpAnyN_first {ops : Array Oper} {Q : Exit → Act → World → Prop} {S : World → Prop} {i : Nat} {oi : Oper} {v : Value} (hi : ops[i]? = some oi) (hsel : ∀ (j : Nat) (o : Oper) cs b, ops[j]? = some o → o.op ≠ .select cs b)
    (hQ : ∀ c a w, Q (.panic c) (a.put oi.dst v) w → Q (.panic c) a w) :
    ∀ (fuel : Nat) (listed : Array Bool) (a : Act) (w : World),
      (∀ j oj, ops[j]? = some oj → j ≠ i → listed.getD j true = false → (∀ e ∈ oj.after, Region.binds .any e = true → e.on ≠ i) → oi.apart ops oj = true) →
      i ∈ Region.ready .any ops listed → YieldsIf P ops S oi v a → S w →
      wpAnyN P ops Q S fuel (listed.setIfInBounds i true) (a.put oi.dst v) w → wpAnyN P ops Q S (fuel + 1) listed a w := by
  intro fuel
  have his : i < ops.size := by
    rcases Nat.lt_or_ge i ops.size with h | h
    · exact h
    · rw [Array.getElem?_eq_none h] at hi; cases hi
  induction fuel with
  | zero =>
    intro listed a w _ hr hy hS H
    refine ⟨fun h => (by rw [h] at hr; cases hr), fun j hj => ?_⟩
    by_cases hji : j = i
    · subst hji; exact hy.wpOp hi hS ⟨.inr hS, H⟩
    · have := ready_mono hj hji
      rw [H.1] at this
      cases this
  | succ fuel ih =>
    intro listed a w hfree hr hy hS H
    refine ⟨fun h => (by rw [h] at hr; cases hr), fun j hj => ?_⟩
    by_cases hji : j = i
    · subst hji; exact hy.wpOp hi hS ⟨.inr hS, H⟩
    · have h1 := H.2 j (ready_mono hj hji)
      obtain ⟨hjun, oj, hoj, hall⟩ := mem_ready.1 hj
      have hnot : ∀ e ∈ oj.after, Region.binds .any e = true → e.on ≠ i := fun e he hb heq => by
        have h1 := hall e he hb
        have h0 := (mem_ready.1 hr).1
        rw [heq] at h1
        rcases Nat.lt_or_ge i listed.size with h' | h'
        · simp [h'] at h0 h1; rw [h0] at h1; cases h1
        · simp [Array.getElem?_eq_none h'] at h1
      have hnw := waitsAll_not (listed := listed) his hji hoj hnot
      have h2 := wpOp_putIf hoj (hfree j oj hoj hji hjun hnot) (fun cs b => hsel i oi cs b hi) (fun cs b => hsel j oj cs b hoj) hQ hy h1
      have hfree' : ∀ k ok, ops[k]? = some ok → k ≠ i → (listed.setIfInBounds j true).getD k true = false →
          (∀ e ∈ ok.after, Region.binds .any e = true → e.on ≠ i) → oi.apart ops ok = true := fun k ok hk hki hun hno => by
        refine hfree k ok hk hki ?_ hno
        by_cases hjk : j = k
        · subst hjk; exact hjun
        · rw [getD_set_ne true hjk] at hun; exact hun
      refine wpOp_mono (fun a' w' h3 => ?_) h2
      have hSw : S w' := h3.2.1.resolve_left (by rw [hnw]; simp)
      refine ⟨.inr hSw, ih (listed.setIfInBounds j true) a' w' hfree' (ready_mono hr (Ne.symm hji)) h3.1 hSw ?_⟩
      rw [Array.setIfInBounds_comm _ _ hji]
      exact h3.2.2
theorem wpAnyN_take {ops : Array Oper} {Q : Exit → Act → World → Prop} {S : World → Prop} {i : Nat} {oi : Oper} {v : Value} {fuel : Nat} {listed : Array Bool} {a : Act} {w : World} (hi : ops[i]? = some oi)
    (hs : Region.noSelect ops = true) (hf : Region.free .any ops listed i = true) (hr : (Region.ready .any ops listed).contains i = true)
    (hQ : ∀ c a w, Q (.panic c) (a.put oi.dst v) w → Q (.panic c) a w) (hy : YieldsIf P ops S oi v a) (hS : S w)
    (h : wpAnyN P ops Q S fuel (listed.setIfInBounds i true) (a.put oi.dst v) w) : wpAnyN P ops Q S (fuel + 1) listed a w :=
  wpAnyN_first hi (Region.noSelect_spec hs) hQ fuel listed a w (Region.free_spec hi hf) (by simpa using hr) hy hS h
theorem wpAnyN_all {ops : Array Oper} {Q : Exit → Act → World → Prop} {S : World → Prop} {rs : List Nat} {fuel : Nat} {listed : Array Bool} {a : Act} {w : World} (hr : Region.ready .any ops listed = rs) (hne : rs ≠ [])
    (h : ∀ i ∈ rs, wpOp P ops Q i (fun a' w' => (waitsAll ops i = true ∨ S w') ∧ wpAnyN P ops Q S fuel (listed.setIfInBounds i true) a' w') a w) : wpAnyN P ops Q S (fuel + 1) listed a w :=
  ⟨fun h0 => absurd (hr ▸ h0) hne, hr ▸ h⟩
theorem wpAnyN_done {ops : Array Oper} {Q : Exit → Act → World → Prop} {S : World → Prop} {listed : Array Bool} {a : Act} {w : World} (hr : Region.ready .any ops listed = []) (h : Q .normal a w) :
    ∀ fuel, wpAnyN P ops Q S fuel listed a w
  | 0 => ⟨hr, h⟩
  | _ + 1 => ⟨fun _ => h, by rw [hr]; simp⟩

def Plan.ok (ops : Array Oper) : Plan → Array Bool → Bool
  | .done, listed => Region.ready .any ops listed == []
  | .take i r, listed => Region.free .any ops listed i && (Region.ready .any ops listed).contains i && r.ok ops (listed.setIfInBounds i true)
  | .only i r, listed => Region.ready .any ops listed == [i] && r.ok ops (listed.setIfInBounds i true)
  | .last i, listed => Region.ready .any ops listed == [i] && (waitsAll ops i && Region.ready .any ops (listed.setIfInBounds i true) == [])
  | .two i r j s, listed => Region.ready .any ops listed == [i, j] && r.ok ops (listed.setIfInBounds i true) && s.ok ops (listed.setIfInBounds j true)

def Plan.len : Plan → Nat
  | .done => 0
  | .take _ r => r.len + 1
  | .only _ r => r.len + 1
  | .last _ => 1
  | .two _ r _ s => max r.len s.len + 1

def nop : Oper := { dst := none, op := .move (.const undef), type := 0, pos := "", after := #[], guard := none }

def WPplan (P : Program) (ops : Array Oper) (S : World → Prop) : Plan → (Regs → World → Prop) → Regs → World → Prop
  | .done, K, ρ, w => K ρ w
  | .take i r, K, ρ, w =>
    if wantedR ops (ops.getD i nop) ρ then ∃ v, (∀ w, S w → (execOp (ev ρ) (ops.getD i nop)).run P w = .ok (.value v) w) ∧ S w ∧ WPplan P ops S r K (put ρ (ops.getD i nop).dst v) w
    else S w ∧ WPplan P ops S r K (put ρ (ops.getD i nop).dst undef) w
  | .only i r, K, ρ, w =>
    if wantedR ops (ops.getD i nop) ρ then WPop P (ops.getD i nop) ρ w (fun ρ' w' => S w' ∧ WPplan P ops S r K ρ' w')
    else S w ∧ WPplan P ops S r K (put ρ (ops.getD i nop).dst undef) w
  | .last i, K, ρ, w =>
    if wantedR ops (ops.getD i nop) ρ then WPop P (ops.getD i nop) ρ w K
    else K (put ρ (ops.getD i nop).dst undef) w
  | .two i r j s, K, ρ, w =>
    (if wantedR ops (ops.getD i nop) ρ then WPop P (ops.getD i nop) ρ w (fun ρ' w' => S w' ∧ WPplan P ops S r K ρ' w')
    else S w ∧ WPplan P ops S r K (put ρ (ops.getD i nop).dst undef) w) ∧
    (if wantedR ops (ops.getD j nop) ρ then WPop P (ops.getD j nop) ρ w (fun ρ' w' => S w' ∧ WPplan P ops S s K ρ' w')
    else S w ∧ WPplan P ops S s K (put ρ (ops.getD j nop).dst undef) w)

theorem getD_of {ops : Array Oper} {i : Nat} {o : Oper} (h : ops[i]? = some o) : ops.getD i nop = o := by simp [h]

theorem ready_some {ops : Array Oper} {listed : Array Bool} {i : Nat} (h : i ∈ Region.ready .any ops listed) : ∃ o, ops[i]? = some o := by
  obtain ⟨_, o, ho, _⟩ := mem_ready.1 h
  exact ⟨o, ho⟩

theorem fits_of {ops : Array Oper} (hf : fitsL n ops.toList = true) {i : Nat} {o : Oper} (ho : ops[i]? = some o) : ∀ t, o.dst = some t → t < n := by
  have hm : o ∈ ops.toList := by
    have := Array.mem_of_getElem? ho
    exact Array.mem_toList_iff.2 this
  revert hm hf
  generalize ops.toList = l
  intro hf hm t ht
  induction l with
  | nil => cases hm
  | cons x xs ih =>
    simp only [fitsL, Bool.and_eq_true] at hf
    cases hm with
    | head => have := hf.1; rw [ht] at this; simpa [Nat.blt_eq] using this
    | tail _ h => exact ih hf.2 h

theorem wpOp_of_plan {ops : Array Oper} {S : World → Prop} {i : Nat} {o : Oper} (ho : ops[i]? = some o) {a : Act} {w : World} (hn : a.tmps.size = n) (hd : a.defers = [])
    (hfit : ∀ t, o.dst = some t → t < n) {X : Regs → World → Prop} {X' : Act → World → Prop} (hX : ∀ a w, a.tmps.size = n → a.defers = [] → X (regs a) w → X' a w)
    (h : if wantedR ops (ops.getD i nop) (regs a) then WPop P (ops.getD i nop) (regs a) w (fun ρ' w' => S w' ∧ X ρ' w')
      else S w ∧ X (put (regs a) (ops.getD i nop).dst undef) w) :
    wpOp P ops (liftQ n Q) i (fun a' w' => S w' ∧ X' a' w') a w := by
  rw [getD_of ho] at h
  unfold wpOp
  simp only [ho]
  rw [wanted_regs]
  by_cases hw : wantedR ops o (regs a) = true
  · rw [if_pos hw] at h ⊢
    refine .inl ?_
    unfold Oper.wp
    rw [eval_regs]
    exact wp_of_WPr hn hd hfit (fun a w hn hd hk => ⟨hk.1, hX a w hn hd hk.2⟩) h
  · rw [if_neg hw] at h ⊢
    refine ⟨h.1, hX _ _ (by rw [size_put]; exact hn) (by rw [defers_put]; exact hd) ?_⟩
    rw [regs_put a o.dst undef (fun t ht => hn ▸ hfit t ht)]
    exact h.2

theorem wpAnyN_of_plan {ops : Array Oper} {S : World → Prop} (hs : Region.noSelect ops = true) (hf : fitsL n ops.toList = true) :
    ∀ (p : Plan) (fuel : Nat) (listed : Array Bool) (a : Act) (w : World), p.len ≤ fuel → p.ok ops listed = true → a.tmps.size = n → a.defers = [] →
      WPplan P ops S p (Q .normal) (regs a) w → wpAnyN P ops (liftQ n Q) S fuel listed a w := by
  intro p
  induction p with
  | done =>
    intro fuel listed a w _ hok hn hd h
    exact wpAnyN_done (by simpa [Plan.ok] using hok) ⟨hn, hd, h⟩ fuel
  | take i r ih =>
    intro fuel listed a w hl hok hn hd h
    simp only [Plan.len] at hl
    simp only [Plan.ok, Bool.and_eq_true] at hok
    obtain ⟨⟨hfree, hrd⟩, hok⟩ := hok
    obtain ⟨fuel, rfl⟩ : ∃ m, fuel = m + 1 := ⟨fuel - 1, by omega⟩
    obtain ⟨o, ho⟩ := ready_some (by simpa using hrd)
    have hfit := fits_of hf ho
    simp only [WPplan] at h
    rw [getD_of ho] at h
    have go : ∀ v, YieldsIf P ops S o v a → S w → WPplan P ops S r (Q .normal) (put (regs a) o.dst v) w → wpAnyN P ops (liftQ n Q) S (fuel + 1) listed a w := fun v hy hS h =>
      wpAnyN_take ho hs hfree hrd (fun c a w h => h.elim) hy hS
        (ih fuel _ _ w (by omega) hok (by rw [size_put]; exact hn) (by rw [defers_put]; exact hd) (by rw [regs_put a o.dst v (fun t ht => hn ▸ hfit t ht)]; exact h))
    by_cases hw : wantedR ops o (regs a) = true
    · rw [if_pos hw] at h
      obtain ⟨v, hv, hS, h⟩ := h
      exact go v (.inl ⟨by rw [wanted_regs]; exact hw, fun w hSw => by rw [eval_regs]; exact hv w hSw⟩) hS h
    · rw [if_neg hw] at h
      exact go undef (.inr ⟨by rw [wanted_regs]; simpa using hw, rfl⟩) h.1 h.2
  | only i r ih =>
    intro fuel listed a w hl hok hn hd h
    simp only [Plan.len] at hl
    simp only [Plan.ok, Bool.and_eq_true, beq_iff_eq] at hok
    obtain ⟨hrd, hok⟩ := hok
    obtain ⟨fuel, rfl⟩ : ∃ m, fuel = m + 1 := ⟨fuel - 1, by omega⟩
    obtain ⟨o, ho⟩ := ready_some (i := i) (by rw [hrd]; simp)
    refine wpAnyN_all hrd (by simp) fun j hj => ?_
    obtain rfl : j = i := by simpa using hj
    exact wpOp_mono (fun a' w' h => ⟨.inr h.1, h.2⟩) (wpOp_of_plan ho hn hd (fits_of hf ho) (fun a w hn hd hk => ih fuel _ a w (by omega) hok hn hd hk) h)
  | last i =>
    intro fuel listed a w hl hok hn hd h
    simp only [Plan.len] at hl
    simp only [Plan.ok, Bool.and_eq_true, beq_iff_eq] at hok
    obtain ⟨hrd, hwa, hok⟩ := hok
    obtain ⟨fuel, rfl⟩ : ∃ m, fuel = m + 1 := ⟨fuel - 1, by omega⟩
    obtain ⟨o, ho⟩ := ready_some (i := i) (by rw [hrd]; simp)
    refine wpAnyN_all hrd (by simp) fun j hj => ?_
    obtain rfl : j = i := by simpa using hj
    refine wpOp_mono (fun a' w' h => ⟨.inl hwa, h.2⟩) (wpOp_of_plan (S := fun _ => True) (X := Q .normal) ho hn hd (fits_of hf ho) (fun a w hn hd hk => wpAnyN_done hok ⟨hn, hd, hk⟩ fuel) ?_)
    simp only [WPplan] at h
    split
    · rename_i hw
      rw [if_pos hw] at h
      unfold WPop at h ⊢
      simpa only [true_and] using h
    · rename_i hw
      rw [if_neg hw] at h
      exact ⟨trivial, h⟩
  | two i r j s ih1 ih2 =>
    intro fuel listed a w hl hok hn hd h
    simp only [Plan.len] at hl
    simp only [Plan.ok, Bool.and_eq_true, beq_iff_eq] at hok
    obtain ⟨⟨hrd, hok1⟩, hok2⟩ := hok
    obtain ⟨fuel, rfl⟩ : ∃ m, fuel = m + 1 := ⟨fuel - 1, by omega⟩
    obtain ⟨oi, hoi⟩ := ready_some (i := i) (by rw [hrd]; simp)
    obtain ⟨oj, hoj⟩ := ready_some (i := j) (by rw [hrd]; simp)
    refine wpAnyN_all hrd (by simp) fun k hk => ?_
    rcases List.mem_cons.1 hk with rfl | hk
    · exact wpOp_mono (fun a' w' h => ⟨.inr h.1, h.2⟩) (wpOp_of_plan hoi hn hd (fits_of hf hoi) (fun a w hn hd hk => ih1 fuel _ a w (by omega) hok1 hn hd hk) h.1)
    · obtain rfl : k = j := by simpa using hk
      exact wpOp_mono (fun a' w' h => ⟨.inr h.1, h.2⟩) (wpOp_of_plan hoj hn hd (fits_of hf hoj) (fun a w hn hd hk => ih2 fuel _ a w (by omega) hok2 hn hd hk) h.2)

theorem W.draw {id : Nat} {ops : Array Oper} {ρ : Regs} {w : World} (p : Plan) (S : World → Prop) (hm : P.follows .mixedOrders = true) (hs : Region.noSelect ops = true)
    (hf : fitsL n ops.toList = true) (hp : (p.ok ops (Array.replicate ops.size false) && Nat.ble p.len ops.size) = true)
    (h : WPplan P ops S p (Q .normal) ρ w.drew) : W P n (.region id ops true) Q ρ w := by
  intro a hn hd hr
  subst hr
  rw [Bool.and_eq_true] at hp
  exact wp_region_any hm (wpAny_of_N _ _ _ _ (wpAnyN_of_plan hs hf p ops.size _ a _ (Nat.le_of_ble_eq_true hp.2) hp.1 hn hd h))

/-! ### Code -/

def thenQ (next : Regs → World → Prop) (Q : Exit → Regs → World → Prop) : Exit → Regs → World → Prop
  | .normal, ρ, w => next ρ w
  | e, ρ, w => Q e ρ w

theorem W.mono {c : Code} {Q' : Exit → Regs → World → Prop} {ρ : Regs} {w : World} (h : W P n c Q ρ w) (hq : ∀ e ρ w, Q e ρ w → Q' e ρ w) : W P n c Q' ρ w :=
  fun a hn hd hr => wp_mono (h a hn hd hr) fun e a w he => by
    cases e <;> first | exact he.elim | exact ⟨he.1, he.2.1, hq _ _ _ he.2.2⟩

theorem W.skip {ρ : Regs} {w : World} (h : Q .normal ρ w) : W P n .skip Q ρ w :=
  fun a hn hd hr => wp_skip ⟨hn, hd, hr ▸ h⟩
theorem W.label {l : Nat} {ρ : Regs} {w : World} (h : Q .normal ρ w) : W P n (.label l) Q ρ w :=
  fun a hn hd hr => wp_label ⟨hn, hd, hr ▸ h⟩
theorem W.exit {id : Nat} {ρ : Regs} {w : World} (h : Q (.exit id) ρ w) : W P n (.exit id) Q ρ w :=
  fun a hn hd hr => wp_exit ⟨hn, hd, hr ▸ h⟩
theorem W.goto {l : Nat} {ρ : Regs} {w : World} (h : Q (.goto l) ρ w) : W P n (.goto l) Q ρ w :=
  fun a hn hd hr => wp_goto ⟨hn, hd, hr ▸ h⟩
theorem W.ret {ρ : Regs} {w : World} (h : Q .ret ρ w) : W P n .ret Q ρ w :=
  fun a hn hd hr => wp_ret ⟨hn, hd, hr ▸ h⟩

theorem W.seq {x y : Code} {ρ : Regs} {w : World} (h : W P n x (thenQ (W P n y Q) Q) ρ w) : W P n (.seq x y) Q ρ w :=
  fun a hn hd hr => wp_seq (wp_mono (h a hn hd hr) fun e a' w' he => by
    cases e <;> first | exact he.elim | exact he | exact he.2.2 a' he.1 he.2.1 rfl)

theorem W.cond {c : Operand} {x y : Code} {ρ : Regs} {w : World} {t : Bool} (hc : ev ρ c = .bool t) (h1 : t = true → W P n x Q ρ w) (h0 : t = false → W P n y Q ρ w) :
    W P n (.cond c x y) Q ρ w :=
  fun a hn hd hr => wp_cond_split (t := t) (by rw [eval_regs, hr]; exact hc) (fun ht => h1 ht a hn hd hr) (fun ht => h0 ht a hn hd hr)

def blockQ (id : Nat) (Q : Exit → Regs → World → Prop) : Exit → Regs → World → Prop
  | .exit id', ρ, w => if id' = id then Q .normal ρ w else Q (.exit id') ρ w
  | e, ρ, w => Q e ρ w

theorem W.block {id : Nat} {c : Code} {ρ : Regs} {w : World} (h : W P n c (blockQ id Q) ρ w) : W P n (.block id c) Q ρ w :=
  fun a hn hd hr => wp_block (wp_mono (h a hn hd hr) fun e a' w' he => by
    cases e with
    | exit id' =>
      obtain ⟨h1, h2, h3⟩ := he
      simp only [blockQ] at h3
      simp only [Exit.inBlock]
      by_cases hi : id' = id
      · simp only [hi, if_true] at h3 ⊢; exact ⟨h1, h2, h3⟩
      · simp only [hi, if_false] at h3 ⊢; exact ⟨h1, h2, h3⟩
    | panic c => exact he.elim
    | outgrown => exact he.elim
    | normal => exact he
    | goto l => exact he
    | ret => exact he)

theorem W.loop {c : Code} {ρ : Regs} {w : World} (I : Regs → World → Prop) (μ : Regs → World → Nat) (h₀ : I ρ w)
    (round : ∀ ρ w, I ρ w → W P n c (thenQ (fun ρ' w' => I ρ' w' ∧ μ ρ' w' < μ ρ w) Q) ρ w) : W P n (.loop c) Q ρ w := by
  intro a hn hd hr
  refine wp_loop (fun a w => a.tmps.size = n ∧ a.defers = [] ∧ I (regs a) w) (fun a w => μ (regs a) w) ⟨hn, hd, hr ▸ h₀⟩ ?_
  intro a w ⟨hn, hd, hI⟩
  refine wp_mono (round _ w hI a hn hd rfl) fun e a' w' he => ?_
  cases e <;> first | exact he.elim | exact he | exact ⟨⟨he.1, he.2.1, he.2.2.1⟩, he.2.2.2⟩

def jumpQ (l : Nat) (J : Regs → World → Prop) (Q : Exit → Regs → World → Prop) : Exit → Regs → World → Prop
  | .goto l', ρ, w => l' = l ∧ J ρ w
  | e, ρ, w => Q e ρ w

theorem W.scope {c rest : Code} {ρ : Regs} {w : World} (l : Nat) (J : Regs → World → Prop) (μ : Regs → World → Nat) (hf : findLabel c l = some rest)
    (first : W P n c (jumpQ l J Q) ρ w)
    (pass : ∀ ρ w, J ρ w → W P n rest (jumpQ l (fun ρ' w' => J ρ' w' ∧ μ ρ' w' < μ ρ w) Q) ρ w) : W P n (.scope c) Q ρ w := by
  intro a hn hd hr
  refine wp_scope_jumps l (fun a w => a.tmps.size = n ∧ a.defers = [] ∧ J (regs a) w) (fun a w => μ (regs a) w) hf ?_ ?_
  · refine wp_mono (first a hn hd hr) fun e a' w' he => ?_
    cases e <;> first | exact he.elim | exact he | exact ⟨he.2.2.1, he.1, he.2.1, he.2.2.2⟩
  · intro a w ⟨hn, hd, hJ⟩
    refine wp_mono (pass _ w hJ a hn hd rfl) fun e a' w' he => ?_
    cases e <;> first | exact he.elim | exact he | exact ⟨he.2.2.1, ⟨he.1, he.2.1, he.2.2.2.1⟩, he.2.2.2.2⟩

/-! ### A function -/

def start (args : Array Value) : Regs := fun i => args.getD i undef
theorem start_get (args : Array Value) (i : Nat) : start args i = args.getD i undef := nr rfl

/-- What a function's frame answers at its end: 'results' comes to v and leaves the world. -/
def Res (P : Program) (fn : Func) (ρ : Regs) (w : World) (R : Value → World → Prop) : Prop :=
  ∀ a : Act, regs a = ρ → ∃ v, (results fn a.tmps).run P w = .ok v w ∧ R v w

def endR (P : Program) (fn : Func) (R : Value → World → Prop) : Exit → Regs → World → Prop
  | .normal, ρ, w => Res P fn ρ w R
  | .ret, ρ, w => Res P fn ρ w R
  | _, _, _ => False

theorem fn_of_R {f : Nat} {fn : Func} {c : Code} {args : Array Value} {w : World} {R : Value → World → Prop}
    (hf : P.funcs[f]? = some fn) (hb : fn.body = some c) (hn : args.size ≤ fn.ntmps)
    (h : W P fn.ntmps c (endR P fn R) (start args) w) : Fn P f args w R := by
  refine calls_of_wp hf hb (wp_mono (h _ (by simp; omega) rfl ?_) ?_)
  · funext i
    simp only [regs, start]
    by_cases hi : i < args.size
    · simp [Array.getElem?_append, hi]
    · simp only [Array.getD_eq_getD_getElem?, Array.getElem?_append, hi, if_false, Array.getElem?_eq_none (Nat.le_of_not_lt hi), Option.getD_none]
      by_cases hj : i - args.size < fn.ntmps - args.size
      · simp [hj]
      · simp [Array.getElem?_eq_none, hj]
  · intro e a' w' he
    cases e with
    | normal => obtain ⟨_, hd, hr⟩ := he; obtain ⟨v, h1, h2⟩ := hr a' rfl; exact ⟨hd, v, h1, h2⟩
    | ret => obtain ⟨_, hd, hr⟩ := he; obtain ⟨v, h1, h2⟩ := hr a' rfl; exact ⟨hd, v, h1, h2⟩
    | exit id => exact he.2.2.elim
    | goto l => exact he.2.2.elim
    | panic c => exact he.elim
    | outgrown => exact he.elim

end
end Ms
