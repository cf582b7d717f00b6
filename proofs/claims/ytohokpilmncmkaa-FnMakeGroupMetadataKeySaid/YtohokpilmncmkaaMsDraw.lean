/- Regions that draw their order, walked by a plan: reading operations first, where nothing writes what they read. -/
import Derived.Test.YtohokpilmncmkaaMsNum
set_option linter.unusedSimpArgs false
set_option linter.unusedVariables false
namespace Ms
open Go

theorem loadOf_upd {P : Program} {T : TypeId} {M : Nat → Prop} {w0 w : World} (u : Upd M w0 w) {a : Addr} (h : a.block < w0.heap.size) (hm : ¬ M a.block) : loadOf P T w a = loadOf P T w0 a := by
  obtain ⟨b, o, sp⟩ := a
  cases sp with
  | some s => rfl
  | none => simp only [loadOf, u.blk h hm]

abbrev NoB : Nat → Prop := fun _ => False
theorem not_noB (b : Nat) : ¬ NoB b := id
open Classical in
noncomputable def ldM (P : Program) (T : TypeId) (M : Nat → Prop) (w0 : World) (a : Addr) : Option Value :=
  if a.block < w0.heap.size ∧ ¬ M a.block then loadOf P T w0 a else none
theorem ldM_ok {P : Program} {T : TypeId} {M : Nat → Prop} {w0 : World} {b o : Nat} (h1 : b < w0.heap.size) (h2 : ¬ M b) : ldM P T M w0 ⟨b, o, none⟩ = loadOf P T w0 ⟨b, o, none⟩ := by
  unfold ldM; rw [if_pos ⟨h1, h2⟩]
theorem ldM_some {P : Program} {T : TypeId} {M : Nat → Prop} {w0 : World} {a : Addr} {v : Value} (h : ldM P T M w0 a = some v) : a.block < w0.heap.size ∧ ¬ M a.block ∧ loadOf P T w0 a = some v := by
  unfold ldM at h
  split at h
  · rename_i hc; exact ⟨hc.1, hc.2, h⟩
  · cases h

/-- What an operation yields that only looks at memory that no operation of the region writes. -/
noncomputable def takeK (P : Program) (M : Nat → Prop) (w0 : World) (o : Oper) (ρ : Regs) (K : Regs → Prop) : Prop :=
  match o.op with
  | .move x => K (put ρ o.dst (ev ρ x))
  | .pick c a b => boolK (ev ρ c) fun t => K (put ρ o.dst (if t = true then ev ρ a else ev ρ b))
  | .load T x => addrK (ev ρ x) fun a => optK (ldM P T M w0 a) fun v => K (put ρ o.dst v)
  | .nilCheck x => addrK (ev ρ x) fun a => K (put ρ o.dst (.pointer (some a)))
  | .fieldAddr T x k => addrK (ev ρ x) fun a => optK (fieldOff P T k) fun n => optK (addOff a n) fun a' => K (put ρ o.dst (.pointer (some a')))
  | .indexAddr T x i => optK (elemSize P T) fun s => sliceK (ev ρ x) fun base len _ => intK (ev ρ i) fun _ j => optK (idxO j len) fun j => optK base fun a => optK (addOff a (j * s)) fun a' => K (put ρ o.dst (.pointer (some a')))
  | .binOp op T x y _ => optK (binNil P op T y (ev ρ x) (ev ρ y)) fun v => K (put ρ o.dst v)
  | .unOp .not _ x => boolK (ev ρ x) fun t => K (put ρ o.dst (.bool (!t)))
  | .convert S T x => optK (convV P S T (ev ρ x)) fun v => K (put ρ o.dst v)
  | .slice T x lo hi mx => optK (sliceV P T (lo.map (ev ρ)) (hi.map (ev ρ)) (mx.map (ev ρ)) (ev ρ x)) fun v => K (put ρ o.dst v)
  | .call { callee := .builtin b, args, argTypes } => plainB b = true ∧ optK (bltK P b argTypes (args.map (ev ρ))) fun v => K (put ρ o.dst v)
  | _ => False

noncomputable def WPp (P : Program) (ops : Array Oper) (M : Nat → Prop) (w0 : World) : Plan → (Regs → World → Prop) → Regs → World → Prop
  | .done, K, ρ, w => K ρ w
  | .take i r, K, ρ, w =>
    if wantedR ops (ops.getD i nop) ρ = true then takeK P M w0 (ops.getD i nop) ρ (fun ρ' => WPp P ops M w0 r K ρ' w)
    else WPp P ops M w0 r K (put ρ (ops.getD i nop).dst undef) w
  | .only i r, K, ρ, w =>
    if wantedR ops (ops.getD i nop) ρ = true then stepK P (ops.getD i nop) ρ w (fun ρ' w' => Upd M w0 w' ∧ WPp P ops M w0 r K ρ' w')
    else WPp P ops M w0 r K (put ρ (ops.getD i nop).dst undef) w
  | .last i, K, ρ, w =>
    if wantedR ops (ops.getD i nop) ρ = true then stepK P (ops.getD i nop) ρ w K
    else K (put ρ (ops.getD i nop).dst undef) w
  | .two i r j s, K, ρ, w =>
    (if wantedR ops (ops.getD i nop) ρ = true then stepK P (ops.getD i nop) ρ w (fun ρ' w' => Upd M w0 w' ∧ WPp P ops M w0 r K ρ' w')
    else WPp P ops M w0 r K (put ρ (ops.getD i nop).dst undef) w) ∧
    (if wantedR ops (ops.getD j nop) ρ = true then stepK P (ops.getD j nop) ρ w (fun ρ' w' => Upd M w0 w' ∧ WPp P ops M w0 s K ρ' w')
    else WPp P ops M w0 s K (put ρ (ops.getD j nop).dst undef) w)

section
variable {P : Program}

theorem WPr_mono {dst : Option Nat} {ρ : Regs} {K K' : Regs → World → Prop} (hk : ∀ ρ w, K ρ w → K' ρ w) {r : Result Next} (h : WPr P dst ρ K r) : WPr P dst ρ K' r := by
  cases r with
  | halt x w' => exact h
  | ok x w' =>
    cases x <;> first | exact hk _ _ h | exact h | skip
    case enter f args => exact Fn.mono h fun v w' hh => hk _ _ hh
    case row row args => exact Rows.mono h fun v w' hh => hk _ _ hh

/-- What yields so, yields its value in every world of the region. -/
theorem take_sound {M : Nat → Prop} {w0 : World} {o : Oper} {ρ : Regs} {K : Regs → Prop} (h : takeK P M w0 o ρ K) :
    ∃ v, (∀ w, Upd M w0 w → (execOp (ev ρ) o).run P w = .ok (.value v) w) ∧ K (put ρ o.dst v) := by
  obtain ⟨dst, op, type, pos, after, guard⟩ := o
  -- the step's own proof tells what the model's operation comes to, world by world
  have via : ∀ (v : Value), K (put ρ dst v) → (∀ w, Upd M w0 w → ∃ s : Sem Value, (execOp (ev ρ) { dst := dst, op := op, type := type, pos := pos, after := after, guard := guard }) = (do pure (.value (← s))) ∧ s.run P w = .ok v w) →
      ∃ v, (∀ w, Upd M w0 w → (execOp (ev ρ) { dst := dst, op := op, type := type, pos := pos, after := after, guard := guard }).run P w = .ok (.value v) w) ∧ K (put ρ dst v) := by
    intro v hk hs
    refine ⟨v, fun w hw => ?_, hk⟩
    obtain ⟨s, h1, h2⟩ := hs w hw
    rw [h1]
    simp only [Sem.run_bind, h2, Result.andThen_ok]; rfl
  cases op <;> first | exact h.elim | skip
  case move x => exact ⟨_, fun w _ => rfl, h⟩
  case pick c a b =>
    obtain ⟨t, ht, hk⟩ := boolK_elim h
    refine ⟨_, fun w _ => ?_, hk⟩
    simp only [execOp, ht, asBool, Sem.run_bind, Sem.run_pure, Result.andThen_ok]
  case load T x =>
    obtain ⟨a, ha, h⟩ := addrK_elim h
    obtain ⟨v, hv, hk⟩ := optK_elim h
    obtain ⟨hb, hm, hv⟩ := ldM_some hv
    refine via v hk fun w hw => ⟨Instr.loadAt T (ev ρ x), rfl, ?_⟩
    simp only [Instr.loadAt, ha, Instr.sureAddr, Sem.run_bind, Sem.run_pure, Result.andThen_ok]
    exact loadOf_sound (by rw [loadOf_upd hw hb hm]; exact hv)
  case nilCheck x =>
    obtain ⟨a, ha, hk⟩ := addrK_elim h
    exact ⟨_, fun w _ => by simp only [execOp, ha]; rfl, hk⟩
  case fieldAddr T x k =>
    obtain ⟨a, ha, h⟩ := addrK_elim h
    obtain ⟨n, hn, h⟩ := optK_elim h
    obtain ⟨a', ha', hk⟩ := optK_elim h
    refine via _ hk fun w _ => ⟨Instr.fieldAt T (ev ρ x) k, rfl, ?_⟩
    rw [ha]; exact fieldOff_sound hn ha' w
  case indexAddr T x i =>
    obtain ⟨s, hs, h⟩ := optK_elim h
    obtain ⟨base, len, cap, hx, h⟩ := sliceK_elim h
    obtain ⟨k, j, hj, h⟩ := intK_elim h
    obtain ⟨jn, hjn, h⟩ := optK_elim h
    obtain ⟨a, ha, h⟩ := optK_elim h
    obtain ⟨a', ha', hk⟩ := optK_elim h
    refine via _ hk fun w _ => ⟨Instr.indexAt T (ev ρ x) (ev ρ i), rfl, ?_⟩
    have hb : 0 ≤ j ∧ j < len := by unfold idxO at hjn; split at hjn <;> simp_all
    have hjn : jn = j.toNat := by rw [idxO_ok hb] at hjn; simpa using hjn.symm
    subst hjn
    simp only [elemSize] at hs
    split at hs
    · rename_i e he
      simp only [Option.map_eq_some_iff] at hs
      obtain ⟨inf, hi, rfl⟩ := hs
      subst ha
      simp only [Instr.indexAt, hx, hj, asIntOf, Sem.run_bind, Sem.run_pure, Result.andThen_ok, run_underlying he]
      simp only [hb, and_self, if_true, Sem.run_bind, run_sizeOf hi, Result.andThen_ok, Sem.run_pure, add_of_addOff ha']
    · cases hs
  case binOp op T x y yT =>
    obtain ⟨v, hv, hk⟩ := optK_elim h
    exact via v hk fun w _ => ⟨_, rfl, binNil_sound hv w⟩
  case unOp op T x =>
    cases op <;> first | exact h.elim | skip
    obtain ⟨t, ht, hk⟩ := boolK_elim h
    refine via _ hk fun w _ => ⟨Op.unary .not (ev ρ x), rfl, ?_⟩
    rw [ht]; rfl
  case convert S T x =>
    obtain ⟨v, hv, hk⟩ := optK_elim h
    exact via v hk fun w _ => ⟨_, rfl, conv_sound hv w⟩
  case slice T x lo hi mx =>
    obtain ⟨v, hv, hk⟩ := optK_elim h
    exact via v hk fun w _ => ⟨_, rfl, slice_sound hv w⟩
  case call c =>
    obtain ⟨callee, args, argTypes⟩ := c
    cases callee with
    | invoke r m => exact h.elim
    | value x => exact h.elim
    | builtin b =>
      obtain ⟨hb, h⟩ := h
      obtain ⟨v, hv, hk⟩ := optK_elim h
      exact ⟨v, fun w _ => plain_run hb hv w, hk⟩

theorem plan_sound {ops : Array Oper} {M : Nat → Prop} {w0 : World} : ∀ (p : Plan) (K : Regs → World → Prop) (ρ : Regs) (w : World), Upd M w0 w → WPp P ops M w0 p K ρ w → WPplan P ops (fun w => Upd M w0 w) p K ρ w := by
  intro p
  induction p with
  | done => intro K ρ w _ h; exact h
  | take i r ih =>
    intro K ρ w hw h
    simp only [WPp] at h
    simp only [WPplan]
    split
    · rename_i hwt
      rw [if_pos hwt] at h
      obtain ⟨v, hv, hk⟩ := take_sound h
      exact ⟨v, hv, hw, ih _ _ _ hw hk⟩
    · rename_i hwt
      rw [if_neg hwt] at h
      exact ⟨hw, ih _ _ _ hw h⟩
  | only i r ih =>
    intro K ρ w hw h
    simp only [WPp] at h
    simp only [WPplan]
    split
    · rename_i hwt
      rw [if_pos hwt] at h
      have := step_sound h
      unfold WPop at this ⊢
      exact WPr_mono (fun ρ' w' hh => ⟨hh.1, ih _ _ _ hh.1 hh.2⟩) this
    · rename_i hwt
      rw [if_neg hwt] at h
      exact ⟨hw, ih _ _ _ hw h⟩
  | last i =>
    intro K ρ w hw h
    simp only [WPp] at h
    simp only [WPplan]
    split
    · rename_i hwt
      rw [if_pos hwt] at h
      exact step_sound h
    · rename_i hwt
      rw [if_neg hwt] at h
      exact h
  | two i r j s ih1 ih2 =>
    intro K ρ w hw h
    simp only [WPp] at h
    simp only [WPplan]
    refine ⟨?_, ?_⟩
    · have h := h.1
      split
      · rename_i hwt
        rw [if_pos hwt] at h
        have := step_sound h
        unfold WPop at this ⊢
        exact WPr_mono (fun ρ' w' hh => ⟨hh.1, ih1 _ _ _ hh.1 hh.2⟩) this
      · rename_i hwt
        rw [if_neg hwt] at h
        exact ⟨hw, ih1 _ _ _ hw h⟩
    · have h := h.2
      split
      · rename_i hwt
        rw [if_pos hwt] at h
        have := step_sound h
        unfold WPop at this ⊢
        exact WPr_mono (fun ρ' w' hh => ⟨hh.1, ih2 _ _ _ hh.1 hh.2⟩) this
      · rename_i hwt
        rw [if_neg hwt] at h
        exact ⟨hw, ih2 _ _ _ hw h⟩

variable {n : Nat} {Q : Exit → Regs → World → Prop}
/-- A region that draws its order, walked by a plan; M: the blocks that its operations may write. -/
theorem W.drawR {id : Nat} {ops : Array Oper} {ρ : Regs} {w : World} (p : Plan) (M : Nat → Prop) (hm : P.follows .mixedOrders = true)
    (hc : (Region.noSelect ops && fitsL n ops.toList && (p.ok ops (Array.replicate ops.size false) && Nat.ble p.len ops.size)) = true)
    (h : WPp P ops M w.drew p (Q .normal) ρ w.drew) : W P n (.region id ops true) Q ρ w := by
  rw [Bool.and_eq_true, Bool.and_eq_true] at hc
  exact W.draw p _ hm hc.1.1 hc.1.2 hc.2 (plan_sound _ _ _ _ (Upd.refl _ _) h)
theorem W.seqD {id : Nat} {ops : Array Oper} {y : Code} {ρ : Regs} {w : World} (p : Plan) (M : Nat → Prop) (hm : P.follows .mixedOrders = true)
    (hc : (Region.noSelect ops && fitsL n ops.toList && (p.ok ops (Array.replicate ops.size false) && Nat.ble p.len ops.size)) = true)
    (h : WPp P ops M w.drew p (fun ρ w => W P n y Q ρ w) ρ w.drew) : W P n (.seq (.region id ops true) y) Q ρ w :=
  W.seq (W.drawR p M hm hc h)
theorem WPp_congr {ops : Array Oper} {M : Nat → Prop} {w0 : World} {p : Plan} {K : Regs → World → Prop} {ρ ρ' : Regs} {w w' : World} (h1 : ρ = ρ') (h2 : w = w') : WPp P ops M w0 p K ρ w = WPp P ops M w0 p K ρ' w' := by rw [h1, h2]

end
/-! ### The steps as equations, for the walks -/
section
variable {P : Program} (ops : Array Oper) (ρ : Regs) (w : World) (K : Regs → World → Prop) (d : Option Nat) (ty : TypeId) (ps : String) (af : Array Edge) (g : Option (Nat × Bool))
theorem step_move (x : Operand) : stepK P { dst := d, op := .move x, type := ty, pos := ps, after := af, guard := g } ρ w K = (K (put ρ d (ev ρ x)) w) := nr rfl
theorem step_assign (x : Operand) : stepK P { dst := d, op := .assign x, type := ty, pos := ps, after := af, guard := g } ρ w K = (K (put ρ d (ev ρ x)) w) := nr rfl
theorem step_pick (c a b : Operand) : stepK P { dst := d, op := .pick c a b, type := ty, pos := ps, after := af, guard := g } ρ w K = (boolK (ev ρ c) fun t => K (put ρ d (if t = true then ev ρ a else ev ρ b)) w) := nr rfl
theorem step_alloc (T : TypeId) : stepK P { dst := d, op := .alloc T, type := ty, pos := ps, after := af, guard := g } ρ w K = (optK (zeroOf P T) fun z => K (put ρ d (.pointer (some ⟨w.heap.size, 0, none⟩))) (w.alloc (.cells z T))) := nr rfl
theorem step_box (T : TypeId) (x : Operand) : stepK P { dst := d, op := .box T x, type := ty, pos := ps, after := af, guard := g } ρ w K = (K (put ρ d (.pointer (some ⟨w.heap.size, 0, none⟩))) (w.alloc (.cells (vcells (ev ρ x)) T))) := nr rfl
theorem step_load (T : TypeId) (x : Operand) : stepK P { dst := d, op := .load T x, type := ty, pos := ps, after := af, guard := g } ρ w K = (addrK (ev ρ x) fun a => optK (loadOf P T w a) fun v => K (put ρ d v) w) := nr rfl
theorem step_store (T : TypeId) (x y : Operand) : stepK P { dst := d, op := .store T x y, type := ty, pos := ps, after := af, guard := g } ρ w K = (addrK (ev ρ x) fun a => optK (storeOf P T w a (ev ρ y)) fun w' => K (put ρ d undef) w') := nr rfl
theorem step_nilCheck (x : Operand) : stepK P { dst := d, op := .nilCheck x, type := ty, pos := ps, after := af, guard := g } ρ w K = (addrK (ev ρ x) fun a => K (put ρ d (.pointer (some a))) w) := nr rfl
theorem step_fieldAddr (T : TypeId) (x : Operand) (k : Nat) : stepK P { dst := d, op := .fieldAddr T x k, type := ty, pos := ps, after := af, guard := g } ρ w K = (addrK (ev ρ x) fun a => optK (fieldOff P T k) fun n => optK (addOff a n) fun a' => K (put ρ d (.pointer (some a'))) w) := nr rfl
theorem step_indexAddr (T : TypeId) (x i : Operand) : stepK P { dst := d, op := .indexAddr T x i, type := ty, pos := ps, after := af, guard := g } ρ w K = (optK (elemSize P T) fun s => sliceK (ev ρ x) fun base len _ => intK (ev ρ i) fun _ j => optK (idxO j len) fun j => optK base fun a => optK (addOff a (j * s)) fun a' => K (put ρ d (.pointer (some a'))) w) := nr rfl
theorem step_binOp (op : BinOp) (T U : TypeId) (x y : Operand) : stepK P { dst := d, op := .binOp op T x y U, type := ty, pos := ps, after := af, guard := g } ρ w K = (optK (binNil P op T y (ev ρ x) (ev ρ y)) fun v => K (put ρ d v) w) := nr rfl
theorem step_not (T : TypeId) (x : Operand) : stepK P { dst := d, op := .unOp .not T x, type := ty, pos := ps, after := af, guard := g } ρ w K = (boolK (ev ρ x) fun t => K (put ρ d (.bool (!t))) w) := nr rfl
theorem step_extract (x : Operand) (i : Nat) : stepK P { dst := d, op := .extract x i, type := ty, pos := ps, after := af, guard := g } ρ w K = (tupleK (ev ρ x) fun vs => optK (vs[i]?) fun v => K (put ρ d v) w) := nr rfl
theorem step_makeInterface (T : TypeId) (x : Operand) : stepK P { dst := d, op := .makeInterface T x, type := ty, pos := ps, after := af, guard := g } ρ w K = ((isIfaceT P T = false ∧ knownT P T = true ∧ K (put ρ d (.iface T (ev ρ x))) w)) := nr rfl
theorem step_makeFunc (fn : Go.Fn) (a b : Array Operand) : stepK P { dst := d, op := .makeFunc fn a b, type := ty, pos := ps, after := af, guard := g } ρ w K = (K (put ρ d (.func fn (a.map (ev ρ)) (b.map (ev ρ)))) w) := nr rfl
theorem step_build (T : TypeId) (parts : Array (Nat × Operand)) : stepK P { dst := d, op := .build T parts, type := ty, pos := ps, after := af, guard := g } ρ w K = (optK (zeroOf P T) fun z => optK (placesOf P T) fun pl => optK (fillL pl z (parts.toList.map fun (i, x) => (i, ev ρ x))) fun cs => K (put ρ d (.agg cs)) w) := nr rfl
theorem step_buildSlice (T : TypeId) (n : Nat) (parts : Array (Nat × Operand)) : stepK P { dst := d, op := .buildSlice T n parts, type := ty, pos := ps, after := af, guard := g } ρ w K = (optK (slElem P T) fun e => optK (bsl e.2 0 (parts.toList.map fun (i, x) => (i, ev ρ x))) fun cs => (parts.size = n ∧ n * e.2 ≤ 16777216) ∧ K (put ρ d (.slice (some ⟨w.heap.size, 0, none⟩) n n)) (w.alloc (.cells cs.toArray e.1))) := nr rfl
theorem step_convert (S T : TypeId) (x : Operand) : stepK P { dst := d, op := .convert S T x, type := ty, pos := ps, after := af, guard := g } ρ w K = convK P S T (ev ρ x) (fun v => K (put ρ d v) w) (rawK P { dst := d, op := .convert S T x, type := ty, pos := ps, after := af, guard := g } ρ w K) := nr rfl
theorem step_field (T : TypeId) (x : Operand) (k : Nat) : stepK P { dst := d, op := .field T x k, type := ty, pos := ps, after := af, guard := g } ρ w K = (aggK (ev ρ x) fun cs => optK (fieldV P T k cs) fun v => K (put ρ d v) w) := nr rfl
theorem step_slice (T : TypeId) (x : Operand) (lo hi mx : Option Operand) : stepK P { dst := d, op := .slice T x lo hi mx, type := ty, pos := ps, after := af, guard := g } ρ w K = (optK (sliceV P T (lo.map (ev ρ)) (hi.map (ev ρ)) (mx.map (ev ρ)) (ev ρ x)) fun v => K (put ρ d v) w) := nr rfl
theorem step_call (x : Operand) (args : Array Operand) (ats : Array TypeId) : stepK P { dst := d, op := .call { callee := .value x, args := args, argTypes := ats }, type := ty, pos := ps, after := af, guard := g } ρ w K = (funcK (ev ρ x) fun f a b => callable P f = true ∧ Fn P f (a ++ args.map (ev ρ) ++ b) w fun v w' => K (put ρ d v) w') := nr rfl
theorem step_builtin (b : Builtin) (args : Array Operand) (ats : Array TypeId) : stepK P { dst := d, op := .call { callee := .builtin b, args := args, argTypes := ats }, type := ty, pos := ps, after := af, guard := g } ρ w K = (if plainB b = true then optK (bltK P b ats (args.map (ev ρ))) fun v => K (put ρ d v) w else rawK P { dst := d, op := .call { callee := .builtin b, args := args, argTypes := ats }, type := ty, pos := ps, after := af, guard := g } ρ w K) := nr rfl
theorem step_make (T : TypeId) (x y : Operand) : stepK P { dst := d, op := .makeSlice T x y, type := ty, pos := ps, after := af, guard := g } ρ w K = rawK P { dst := d, op := .makeSlice T x y, type := ty, pos := ps, after := af, guard := g } ρ w K := nr rfl
theorem WPsq_nil : WPsq P ops [] K ρ w = K ρ w := nr rfl
theorem WPsq_cons (o : Oper) (os : List Oper) : WPsq P ops (o :: os) K ρ w = if wantedR ops o ρ = true then stepK P o ρ w (WPsq P ops os K) else WPsq P ops os K (put ρ o.dst undef) w := nr rfl
theorem wantedR_none (op : Op) : wantedR ops { dst := d, op := op, type := ty, pos := ps, after := af, guard := none } ρ = true := nr rfl
def guardV (t : Option Nat) (ρ : Regs) (b : Bool) : Bool := match t with | some t => (match ρ t with | .bool c => c == b | _ => false) | none => false
def boolIs (v : Value) (b : Bool) : Bool := match v with | .bool c => c == b | _ => false
theorem boolIs_bool (c b : Bool) : boolIs (.bool c) b = (c == b) := nr rfl
theorem boolIs_undef (b : Bool) : boolIs undef b = false := nr rfl
theorem guardV_some (t : Nat) (b : Bool) : guardV (some t) ρ b = boolIs (ρ t) b := nr rfl
theorem wantedR_some (op : Op) (j : Nat) (b : Bool) : wantedR ops { dst := d, op := op, type := ty, pos := ps, after := af, guard := some (j, b) } ρ = guardV ((ops[j]?).bind (·.dst)) ρ b := by
  simp only [wantedR, guardV]
  cases (ops[j]?).bind (·.dst) <;> rfl
end
section
variable {P : Program} (ops : Array Oper) (M : Nat → Prop) (w0 : World) (ρ : Regs) (w : World) (K : Regs → Prop) (Kw : Regs → World → Prop) (d : Option Nat) (ty : TypeId) (ps : String) (af : Array Edge) (g : Option (Nat × Bool))
theorem take_move (x : Operand) : takeK P M w0 { dst := d, op := .move x, type := ty, pos := ps, after := af, guard := g } ρ K = (K (put ρ d (ev ρ x))) := nr rfl
theorem take_pick (c a b : Operand) : takeK P M w0 { dst := d, op := .pick c a b, type := ty, pos := ps, after := af, guard := g } ρ K = (boolK (ev ρ c) fun t => K (put ρ d (if t = true then ev ρ a else ev ρ b))) := nr rfl
theorem take_nilCheck (x : Operand) : takeK P M w0 { dst := d, op := .nilCheck x, type := ty, pos := ps, after := af, guard := g } ρ K = (addrK (ev ρ x) fun a => K (put ρ d (.pointer (some a)))) := nr rfl
theorem take_fieldAddr (T : TypeId) (x : Operand) (k : Nat) : takeK P M w0 { dst := d, op := .fieldAddr T x k, type := ty, pos := ps, after := af, guard := g } ρ K = (addrK (ev ρ x) fun a => optK (fieldOff P T k) fun n => optK (addOff a n) fun a' => K (put ρ d (.pointer (some a')))) := nr rfl
theorem take_indexAddr (T : TypeId) (x i : Operand) : takeK P M w0 { dst := d, op := .indexAddr T x i, type := ty, pos := ps, after := af, guard := g } ρ K = (optK (elemSize P T) fun s => sliceK (ev ρ x) fun base len _ => intK (ev ρ i) fun _ j => optK (idxO j len) fun j => optK base fun a => optK (addOff a (j * s)) fun a' => K (put ρ d (.pointer (some a')))) := nr rfl
theorem take_binOp (op : BinOp) (T U : TypeId) (x y : Operand) : takeK P M w0 { dst := d, op := .binOp op T x y U, type := ty, pos := ps, after := af, guard := g } ρ K = (optK (binNil P op T y (ev ρ x) (ev ρ y)) fun v => K (put ρ d v)) := nr rfl
theorem take_not (T : TypeId) (x : Operand) : takeK P M w0 { dst := d, op := .unOp .not T x, type := ty, pos := ps, after := af, guard := g } ρ K = (boolK (ev ρ x) fun t => K (put ρ d (.bool (!t)))) := nr rfl
theorem take_convert (S T : TypeId) (x : Operand) : takeK P M w0 { dst := d, op := .convert S T x, type := ty, pos := ps, after := af, guard := g } ρ K = (optK (convV P S T (ev ρ x)) fun v => K (put ρ d v)) := nr rfl
theorem take_slice (T : TypeId) (x : Operand) (lo hi mx : Option Operand) : takeK P M w0 { dst := d, op := .slice T x lo hi mx, type := ty, pos := ps, after := af, guard := g } ρ K = (optK (sliceV P T (lo.map (ev ρ)) (hi.map (ev ρ)) (mx.map (ev ρ)) (ev ρ x)) fun v => K (put ρ d v)) := nr rfl
theorem take_load (T : TypeId) (x : Operand) : takeK P M w0 { dst := d, op := .load T x, type := ty, pos := ps, after := af, guard := g } ρ K = (addrK (ev ρ x) fun a => optK (ldM P T M w0 a) fun v => K (put ρ d v)) := nr rfl
theorem take_builtin (b : Builtin) (args : Array Operand) (ats : Array TypeId) : takeK P M w0 { dst := d, op := .call { callee := .builtin b, args := args, argTypes := ats }, type := ty, pos := ps, after := af, guard := g } ρ K = (plainB b = true ∧ optK (bltK P b ats (args.map (ev ρ))) fun v => K (put ρ d v)) := nr rfl
theorem WPp_done : WPp P ops M w0 .done Kw ρ w = Kw ρ w := nr rfl
theorem WPp_take (i : Nat) (r : Plan) : WPp P ops M w0 (.take i r) Kw ρ w = if wantedR ops (ops.getD i nop) ρ = true then takeK P M w0 (ops.getD i nop) ρ (fun ρ' => WPp P ops M w0 r Kw ρ' w) else WPp P ops M w0 r Kw (put ρ (ops.getD i nop).dst undef) w := nr rfl
theorem WPp_only (i : Nat) (r : Plan) : WPp P ops M w0 (.only i r) Kw ρ w = if wantedR ops (ops.getD i nop) ρ = true then stepK P (ops.getD i nop) ρ w (fun ρ' w' => Upd M w0 w' ∧ WPp P ops M w0 r Kw ρ' w') else WPp P ops M w0 r Kw (put ρ (ops.getD i nop).dst undef) w := nr rfl
theorem WPp_last (i : Nat) : WPp P ops M w0 (.last i) Kw ρ w = if wantedR ops (ops.getD i nop) ρ = true then stepK P (ops.getD i nop) ρ w Kw else Kw (put ρ (ops.getD i nop).dst undef) w := nr rfl
theorem WPp_two (i j : Nat) (r s : Plan) : WPp P ops M w0 (.two i r j s) Kw ρ w = ((if wantedR ops (ops.getD i nop) ρ = true then stepK P (ops.getD i nop) ρ w (fun ρ' w' => Upd M w0 w' ∧ WPp P ops M w0 r Kw ρ' w') else WPp P ops M w0 r Kw (put ρ (ops.getD i nop).dst undef) w) ∧
    (if wantedR ops (ops.getD j nop) ρ = true then stepK P (ops.getD j nop) ρ w (fun ρ' w' => Upd M w0 w' ∧ WPp P ops M w0 s Kw ρ' w') else WPp P ops M w0 s Kw (put ρ (ops.getD j nop).dst undef) w)) := nr rfl
theorem ldM_none {T : TypeId} {b o : Nat} (h1 : b < w0.heap.size) (h2 : ¬ M b) : ldM P T M w0 ⟨b, o, none⟩ = loadOf P T w0 ⟨b, o, none⟩ := ldM_ok h1 h2
end
section
variable {P : Program} (ρ : Regs) (w : World) (k : List Value → Prop) (rs : List ResultVar)
theorem resK_nil : resK P [] ρ w k = k [] := nr rfl
theorem resK_tmp (t : Nat) : resK P (.tmp t :: rs) ρ w k = resK P rs ρ w fun vs => k (ρ t :: vs) := nr rfl
theorem resK_cell (t : Nat) (T : TypeId) : resK P (.cell t T :: rs) ρ w k = (addrK (ρ t) fun a => optK (loadOf P T w a) fun v => resK P rs ρ w fun vs => k (v :: vs)) := nr rfl
end

end Ms
