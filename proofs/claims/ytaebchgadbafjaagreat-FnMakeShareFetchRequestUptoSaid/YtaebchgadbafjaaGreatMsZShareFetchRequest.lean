/- Whatever the octet n and the tree t are, where they hold together no more than 1048576 values and letters, laws.FnMakeShareFetchRequest returns true and leaves its arguments as they were. (The bound on what comes in is the given statement's own; no other condition is added.) -/
import Derived.Test.YtaebchgadbafjaaGreatRows
import Derived.JoinedCond
import Derived.Deep.CondSized
import Derived.Test.YtaebchgadbafjaaGreatC07
import Derived.Test.YtaebchgadbafjaaGreatShareFetchRequestP0
import Derived.Test.YtaebchgadbafjaaGreatShareFetchRequestP6
set_option linter.unusedSimpArgs false
set_option linter.unusedVariables false
namespace Go.Proofs.YtaebchgadbafjaaGreat
open Go.ChangeShapes Go.WideShapes Go.ChangeAt Go.RowKit

theorem Tryz.own : ownKnob Tryz.prog.godebug = none := by kernel_rfl
theorem Tryz.laidOut : laidOutB Tryz.prog = true := by kernel_rfl
theorem treeTy : Ms.TreeTy Tryz.prog 5 4 2 64 22 66 24 26 23 where
  uy := by kernel_rfl
  cy := by kernel_rfl
  b_y := by kernel_rfl
  uB := by kernel_rfl
  cB := by kernel_rfl
  uN := by kernel_rfl
  cN := by kernel_rfl
  uK := by kernel_rfl
  cK := by kernel_rfl
  uS := by kernel_rfl
  cS := by kernel_rfl
  uG := ⟨_, Tryz.underlying66, rfl⟩
  cG := by kernel_rfl
  bG := by kernel_rfl
  uU := by kernel_rfl
  cU := by kernel_rfl
  uT := ⟨_, Tryz.underlying26, rfl⟩
  cT := by kernel_rfl
  bT := by kernel_rfl
  uL := by kernel_rfl
  cL := by kernel_rfl
theorem bulks (H : Type) : Ms.Bulk (H := H) Rows.uptoBulk Rows.uptoBulkAll where
  pos d := by
    cases d with
    | lit l => cases l <;> simp [Rows.uptoBulk]
    | nil => simp [Rows.uptoBulk]
    | ptr d => simp [Rows.uptoBulk]
    | slice elems spare => simp [Rows.uptoBulk]
    | agg parts => simp [Rows.uptoBulk]
    | iface t d => simp [Rows.uptoBulk]
    | map entries => simp [Rows.uptoBulk]
    | held h => simp [Rows.uptoBulk]
  slice e s := by rw [Rows.uptoBulk]
  agg p := by rw [Rows.uptoBulk]
  nil := by rw [Rows.uptoBulkAll]
  cons d r := by rw [Rows.uptoBulkAll]

set_option maxRecDepth 100000 in
theorem fnMakeShareFetchRequest_lifted (os : Os) (started : os.Started) (H : Type) (enc : TypeId × Value → H) (F : Stop.Interp) :
    ReturnsInHanded {} Tryz.checked os 3 .any ((Rows.OpenSpec.upto Rows.fnMakeShareFetchRequestSpec).pre6 enc Tryz.prog Tryz.f3 Rows.fnMakeShareFetchRequestUptoRow.domain false) (((Rows.OpenSpec.upto Rows.fnMakeShareFetchRequestSpec).at F).post enc Tryz.prog Tryz.f3 false true false false) := by
  refine returnsInHanded_of_cond_sized (C := Tryz.checked) (s := Rows.OpenSpec.upto Rows.fnMakeShareFetchRequestSpec) (k := Rows.uptoSmall) rfl Tryz.own started (by kernel_rfl) Tryz.func3
    (OpenSpec.witness (enc := enc) (C := Tryz.checked) (s := Rows.OpenSpec.upto Rows.fnMakeShareFetchRequestSpec) (k := Rows.uptoSmall) rfl false ⟨#[], #[.int .u8 0, .agg #[.int .i64 0, .slice none 0 0, .bool false, .slice none 0 0, .slice none 0 0]], []⟩ 8 (by kernel_rfl) (by kernel_rfl) (by kernel_rfl)
      (x := ([.lit (.int .u8 0), .agg [.lit (.int .i64 0), .nil, .lit (.bool false), .nil, .nil]], [], [])) (by kernel_rfl) rfl (by kernel_rfl)) ?_
  intro W base args ds gs before hval0 hW _ hk0 hsz0 _
  have hsz : (DataW.weightsEach Tryz.prog (Tryz.f3.params.toList ++ Rows.fnMakeShareFetchRequestSpec.plain.varTypes Tryz.prog) (ds ++ gs)).all (· ≤ reachBytes) = true := hsz0
  clear hsz0
  have hval : ∀ (j : Nat) t v, Tryz.f3.params[j]? = some t → args[j]? = some v → Value.okWide Tryz.prog W .any base t v := hval0
  have hW' := hW
  obtain ⟨p, q, hA0, hV, rfl, _, _⟩ := hW
  have hA : DataW.TrodAll enc Tryz.prog W 0 (fun _ => true) true Tryz.f3.params.toList args.toList ds p := hA0
  rw [Tryz.params3] at hA hval hsz
  obtain ⟨v0, v1, d0, d1, p0, p1, rfl, rfl, rfl, h0, h1⟩ := trodAll_two hA
  obtain ⟨rfl, rfl⟩ := trodVars_none hV
  obtain ⟨n, rfl, rfl, rfl, wn⟩ := open_int treeTy.uy (hval 0 5 v0 rfl rfl) h0
  have hv1 := hval 1 26 v1 rfl rfl
  obtain ⟨fs, hfs, _⟩ := treeTy.uT
  simp only [Value.okWide, hfs] at hv1
  obtain ⟨cs, rfl, _, _⟩ := hv1
  have h1k := h1
  obtain ⟨fuel, hf⟩ := h1
  clear hA0 hval0
  simp only [List.append_nil] at hW' hk0
  have hlt : ∀ x ∈ p1, x.block < W.heap.size := fun x hx => by simpa using hW'.lt x (by simpa using hx)
  have hargs : ∀ (W' : World), Below W.heap.size W W' → DataW.Trod enc Tryz.prog W' 0 (fun b => decide (b < W.heap.size)) true 26 (.agg cs) d1 p1 :=
    fun W' hn => Below.trod Tryz.laidOut (by kernel_rfl) (of_decide_eq_true (by kernel_rfl)) h1k hn hlt
  obtain ⟨t, ht, hsm, hsd⟩ := Ms.open_treeB (bulks H) treeTy fuel (by simpa [Value.cells] using hf) (Ms.fits_each hsz 1 26 d1 rfl rfl)
  have hbk : Rows.uptoBulk d1 ≤ 1048576 := by
    have h8 : Rows.uptoBulkAll _ ≤ 1048576 := of_decide_eq_true hk0
    have h9 := (bulks H).mem (d := d1) (l := _) (by simp : d1 ∈ [DataW.lit (.int .u8 n), d1])
    exact Nat.le_trans h9 h8
  obtain ⟨k, rfl⟩ : ∃ k : Nat, n = k := by
    simp [Lit.wf, IntKind.min, IntKind.max, IntKind.signed, IntKind.bits] at wn
    exact ⟨n.toNat, by omega⟩
  have hk : k < 256 := by
    simp [Lit.wf, IntKind.min, IntKind.max, IntKind.signed, IntKind.bits] at wn
    omega
  have hlaw := Ms.law_ShareFetchRequest k hk t cs.toList W ht (hsm.mono (by decide)) hbk hsd
  refine Calls.mono hlaw fun e W' he => ?_
  cases e with
  | returned v =>
    obtain ⟨rfl, hE⟩ := he
    have hb : Below W.heap.size W W' := ⟨hE.os, hE.tape, hE.output, hE.size, fun b hb => hE.keep b hb id⟩
    refine ⟨_, rfl, _, _, _, [], _, [], hW', ?_, trodAll_mk2 (shut_int treeTy.uy wn) (hargs _ hb), rfl, hb.frame _, fun h => by cases h⟩
    exact trodAll_mk1 (shut_bool treeTy.uB true)
  | panicked c => exact he.elim
  | outgrown => exact he.elim

theorem fnMakeShareFetchRequest_named : Tryz.pinned.checked.prog.funcNamed Rows.fnMakeShareFetchRequestUptoRow.func = some 3 := by kernel_rfl
theorem fnMakeShareFetchRequest_instance : (Tryz.f3).isInstance Tryz.pinned.checked.prog Rows.fnMakeShareFetchRequestUptoRow.origin Rows.fnMakeShareFetchRequestUptoRow.targs := of_decide_eq_true (by kernel_rfl)
theorem fnMakeShareFetchRequest_wrapper : (Tryz.f3).isWrapper Tryz.pinned.checked.prog Rows.fnMakeShareFetchRequestUptoRow.wrapper Rows.fnMakeShareFetchRequestUptoRow.mainSum := by
  unfold Func.isWrapper; first | (rw [if_pos (by decide +kernel)]; kernel_rfl) | (rw [if_neg (by decide +kernel)]; exact ⟨rfl, rfl⟩)
theorem fnMakeShareFetchRequest_closed : joinedFacts Tryz.pinned.checked.prog 3 Tryz.f3 (Rows.OpenSpec.upto Rows.fnMakeShareFetchRequestSpec).bare Rows.fnMakeShareFetchRequestUptoRow = true := by kernel_rfl

theorem fnMakeShareFetchRequest_holds : Rows.FnMakeShareFetchRequestUptoSaid :=
  OpenClaim.holds_of_cond 3 Tryz.f3 rfl rfl rfl rfl rfl rfl rfl ⟨rfl, rfl, rfl, rfl, rfl⟩ rfl rfl rfl rfl rfl fnMakeShareFetchRequest_named Tryz.func3 fnMakeShareFetchRequest_closed
    fnMakeShareFetchRequest_instance fnMakeShareFetchRequest_wrapper
    (fun os started H enc _ F => fnMakeShareFetchRequest_lifted os started H enc F)
end Go.Proofs.YtaebchgadbafjaaGreat

