/- Whatever the octet n and the tree t are, laws.FnMakeGroupMetadataKey returns true and leaves its arguments as they were. (One plain condition: the row's own reach; no other is added.) -/
import Derived.Test.YtohokpilmncmkaaMsS15
import Derived.Test.YtohokpilmncmkaaMsOpen
import Derived.Test.YtohokpilmncmkaaRows
set_option linter.unusedSimpArgs false
set_option linter.unusedVariables false
namespace Go.Proofs.Ytohokpilmncmkaa
open Go.ChangeShapes Go.WideShapes Go.ChangeAt Go.RowKit

theorem Try.own : ownKnob Try.prog.godebug = none := by kernel_rfl
theorem Try.laidOut : laidOutB Try.prog = true := by kernel_rfl
theorem treeTy : Ms.TreeTy Try.prog 5 4 2 51 22 53 24 26 23 where
  uy := by kernel_rfl
  cy := by kernel_rfl
  b_y := by kernel_rfl
  uB := by kernel_rfl
  cB := by kernel_rfl
  uN := by kernel_rfl
  cN := by kernel_rfl
  uK := by kernel_rfl
  cK := by kernel_rfl
  uS := by kernel_rfl
  cS := by kernel_rfl
  uG := ⟨_, Try.underlying53, rfl⟩
  cG := by kernel_rfl
  bG := by kernel_rfl
  uU := by kernel_rfl
  cU := by kernel_rfl
  uT := ⟨_, Try.underlying26, rfl⟩
  cT := by kernel_rfl
  bT := by kernel_rfl
  uL := by kernel_rfl
  cL := by kernel_rfl

set_option maxRecDepth 100000 in
theorem fnMakeGroupMetadataKey_lifted (os : Os) (started : os.Started) (H : Type) (enc : TypeId × Value → H) :
    ReturnsInHanded {} Try.checked os 3 .any (Rows.fnMakeGroupMetadataKeySpec.pre6 enc Try.prog Try.f3 Rows.fnMakeGroupMetadataKeyRow.domain false) (Rows.fnMakeGroupMetadataKeySpec.post enc Try.prog Try.f3 false true false false) := by
  refine returnsInHanded_of_change_sized (C := Try.checked) Try.own started (by kernel_rfl) Try.func3
    (ChangeSpec.witness6 (enc := enc) (C := Try.checked) false ⟨#[], #[.int .u8 0, .agg #[.int .i64 0, .slice none 0 0, .bool false, .slice none 0 0, .slice none 0 0]], []⟩ 8 (by kernel_rfl) (by kernel_rfl) (by kernel_rfl) (by kernel_rfl)) ?_
  intro W base args ds gs before hval0 hW _ hsz0 _
  have hsz : (DataW.weightsEach Try.prog (Try.f3.params.toList ++ Rows.fnMakeGroupMetadataKeySpec.plain.varTypes Try.prog) (ds ++ gs)).all (· ≤ reachBytes) = true := hsz0
  clear hsz0
  have hval : ∀ (j : Nat) t v, Try.f3.params[j]? = some t → args[j]? = some v → Value.okWide Try.prog W .any base t v := hval0
  have hW' := hW
  obtain ⟨p, q, hA0, hV, rfl, _, _⟩ := hW
  have hA : DataW.TrodAll enc Try.prog W 0 (fun _ => true) true Try.f3.params.toList args.toList ds p := hA0
  rw [Try.params3] at hA hval hsz
  obtain ⟨v0, v1, d0, d1, p0, p1, rfl, rfl, rfl, h0, h1⟩ := trodAll_two hA
  obtain ⟨rfl, rfl⟩ := trodVars_none hV
  obtain ⟨n, rfl, rfl, rfl, wn⟩ := open_int treeTy.uy (hval 0 5 v0 rfl rfl) h0
  have hv1 := hval 1 26 v1 rfl rfl
  obtain ⟨fs, hfs, _⟩ := treeTy.uT
  simp only [Value.okWide, hfs] at hv1
  obtain ⟨cs, rfl, _, _⟩ := hv1
  have h1k := h1
  obtain ⟨fuel, hf⟩ := h1
  clear hA0 hval0
  simp only [List.append_nil] at hW'
  have hlt : ∀ x ∈ p1, x.block < W.heap.size := fun x hx => by simpa using hW'.lt x (by simpa using hx)
  have hargs : ∀ (W' : World), Below W.heap.size W W' → DataW.Trod enc Try.prog W' 0 (fun b => decide (b < W.heap.size)) true 26 (.agg cs) d1 p1 :=
    fun W' hn => Below.trod Try.laidOut (by kernel_rfl) (of_decide_eq_true (by kernel_rfl)) h1k hn hlt
  obtain ⟨t, ht, hsm⟩ := Ms.open_tree' treeTy fuel (by simpa [Value.cells] using hf) (Ms.fits_each hsz 1 26 d1 rfl rfl)
  obtain ⟨k, rfl⟩ : ∃ k : Nat, n = k := by
    simp [Lit.wf, IntKind.min, IntKind.max, IntKind.signed, IntKind.bits] at wn
    exact ⟨n.toNat, by omega⟩
  have hk : k < 256 := by
    simp [Lit.wf, IntKind.min, IntKind.max, IntKind.signed, IntKind.bits] at wn
    omega
  have hlaw := Ms.law_GMK k hk t cs.toList W ht (hsm.mono (by decide))
  refine Calls.mono hlaw fun e W' he => ?_
  cases e with
  | returned v =>
    obtain ⟨rfl, hE⟩ := he
    have hb : Below W.heap.size W W' := ⟨hE.os, hE.tape, hE.output, hE.size, fun b hb => hE.keep b hb id⟩
    refine ⟨_, rfl, _, _, _, [], _, [], hW', ?_, trodAll_mk2 (shut_int treeTy.uy wn) (hargs _ hb), rfl, hb.frame _, fun h => by cases h⟩
    exact trodAll_mk1 (shut_bool treeTy.uB true)
  | panicked c => exact he.elim
  | outgrown => exact he.elim

theorem fnMakeGroupMetadataKey_holds : Rows.FnMakeGroupMetadataKeySaid :=
  OpenClaim.holds_of_wide 3 Try.f3 rfl rfl rfl rfl rfl rfl rfl ⟨rfl, rfl, rfl, rfl, rfl⟩ rfl rfl rfl rfl rfl (by kernel_rfl) Try.func3 (by kernel_rfl)
    (of_decide_eq_true (by kernel_rfl)) (by unfold Func.isWrapper; first | (rw [if_pos (by decide +kernel)]; kernel_rfl) | (rw [if_neg (by decide +kernel)]; exact ⟨rfl, rfl⟩))
    (fun os started H enc _ => fnMakeGroupMetadataKey_lifted os started H enc)
end Go.Proofs.Ytohokpilmncmkaa
