/- Whatever the octet n, the octets dst and the tree t are, where they hold together no more than 1048576 values and letters, laws.FnBehindDescribeTopicPartitionsResponse returns true and leaves its arguments as they were. (The bound on what comes in is the given statement's own; no other condition is added.) -/
import Derived.Test.YtfeaoncgnhhjbaaGreatDoorCards
import Derived.Test.YtfeaoncgnhhjbaaGreatDoorTie
import Derived.Deep.DeepHandedRow
import Derived.Lib.LaidTab
import Derived.JoinedCond
import Derived.Deep.CondSized
import Derived.Test.YtfeaoncgnhhjbaaGreatDoorC06
import Derived.Test.YtfeaoncgnhhjbaaGreatDoorDescribeTopicPartitionsResponseP0
import Derived.Test.YtfeaoncgnhhjbaaGreatDoorDescribeTopicPartitionsResponseP4
set_option linter.unusedSimpArgs false
set_option linter.unusedVariables false
namespace Go.Proofs.YtfeaoncgnhhjbaaGreatDoor
open Go.ChangeShapes Go.WideShapes Go.ChangeAt Go.RowKit

theorem Tryz.own : ownKnob Tryz.prog.godebug = none := by kernel_rfl
theorem Tryz.laidOut : laidOutB Tryz.prog = true := by kernel_rfl
theorem treeTy : Ms.TreeTy Tryz.prog 5 4 2 53 22 55 24 26 23 where
  uy := by kernel_rfl
  cy := by kernel_rfl
  b_y := by kernel_rfl
  uB := by kernel_rfl
  cB := by kernel_rfl
  uN := by kernel_rfl
  cN := by kernel_rfl
  uK := by kernel_rfl
  cK := by kernel_rfl
  uS := by kernel_rfl
  cS := by kernel_rfl
  uG := ⟨_, Tryz.underlying55, rfl⟩
  cG := by kernel_rfl
  bG := by kernel_rfl
  uU := by kernel_rfl
  cU := by kernel_rfl
  uT := ⟨_, Tryz.underlying26, rfl⟩
  cT := by kernel_rfl
  bT := by kernel_rfl
  uL := by kernel_rfl
  cL := by kernel_rfl
theorem bulks (H : Type) : Ms.Bulk (H := H) Rows.uptoBulk Rows.uptoBulkAll where
  pos d := by
    cases d with
    | lit l => cases l <;> simp [Rows.uptoBulk]
    | nil => simp [Rows.uptoBulk]
    | ptr d => simp [Rows.uptoBulk]
    | slice elems spare => simp [Rows.uptoBulk]
    | agg parts => simp [Rows.uptoBulk]
    | iface t d => simp [Rows.uptoBulk]
    | map entries => simp [Rows.uptoBulk]
    | held h => simp [Rows.uptoBulk]
  slice e s := by rw [Rows.uptoBulk]
  agg p := by rw [Rows.uptoBulk]
  nil := by rw [Rows.uptoBulkAll]
  cons d r := by rw [Rows.uptoBulkAll]

theorem glo0 : (((begin Tryz.prog (fun _ _ => 0) default).world.heap[1]?).bind Obj.row?).map (fun x => (x.1.size, x.2)) = some (1, 50) := by kernel_rfl
theorem glo1 : (((begin Tryz.prog (fun _ _ => 0) default).world.heap[0]?).bind Obj.row?).map (fun x => x.1.size) = some 0 := by kernel_rfl
theorem glo2 : 1 < Tryz.prog.globals.size ∧ 0 < Tryz.prog.globals.size := ⟨of_decide_eq_true (by kernel_rfl), of_decide_eq_true (by kernel_rfl)⟩
theorem glo {W : World} (h : W.ShapedOpen Tryz.prog) : ∃ ev, Ms.Glo ev W := by
  obtain ⟨x0, h0, e0⟩ := Option.map_eq_some_iff.1 glo0
  obtain ⟨x1, h1, e1⟩ := Option.map_eq_some_iff.1 glo1
  have hs := glo2
  obtain ⟨c0, g0, s0, _⟩ := h.1 1 x0.1 x0.2 (by omega) h0
  obtain ⟨c1, g1, s1, _⟩ := h.1 0 x1.1 x1.2 (by omega) h1
  have z0 : c0.size = 1 := by rw [s0]; exact congrArg Prod.fst e0
  refine ⟨c0[0]'(by omega), ⟨⟨c1, x1.2, (0, 0)⟩, ?_⟩, ⟨c0, x0.2, (0, 0)⟩, ?_, ?_⟩
  · unfold Ms.blk; rw [g1]
  · unfold Ms.blk; rw [g0]
  · exact Array.getElem?_eq_getElem _
noncomputable def heldHeap (os : Os) : Array Obj := (World.holding Tryz.prog os ⟨#[], #[], []⟩).heap
noncomputable def laidHeap (os : Os) : Array Obj := (heldHeap os).modify 1 fun
  | .cells _ t frozen => .cells #[.iface 164 (.pointer (some ⟨(heldHeap os).size, 0, none⟩))] t frozen
  | o => o
noncomputable def laidWorld (os : Os) : World :=
  { World.holding Tryz.prog os ⟨#[], #[], []⟩ with heap := (laidHeap os).push (.cells #[.string ⟨#[114, 101, 115, 112, 111, 110, 115, 101, 32, 100, 105, 100, 32, 110, 111, 116, 32, 99, 111, 110, 116, 97, 105, 110, 32, 101, 110, 111, 117, 103, 104, 32, 100, 97, 116, 97, 32, 116, 111, 32, 98, 101, 32, 118, 97, 108, 105, 100]⟩] 182 (0, 0)) }
theorem laid_met (os : Os) : laidMet Tryz.prog Rows.fnBehindDescribeTopicPartitionsResponseUptoRow.laid ((laidWorld os).forCall (fun _ _ => 0) ⟨#[], #[.int .u8 0, .slice none 0 0, .agg #[.int .i64 0, .slice none 0 0, .bool false, .slice none 0 0, .slice none 0 0]], []⟩).memory :=
  laidMet_of_run' 8 (by kernel_rfl) (by kernel_rfl)
set_option maxRecDepth 100000 in
theorem fnBehindDescribeTopicPartitionsResponse_lifted (os : Os) (started : os.Started) (H : Type) (enc : TypeId × Value → H) (F : Stop.Interp) :
    ReturnsInHanded {} Tryz.checked os 3 .any ((Rows.OpenSpec.upto Rows.fnBehindDescribeTopicPartitionsResponseSpec).preRow enc Tryz.prog Tryz.f3 Rows.fnBehindDescribeTopicPartitionsResponseUptoRow.domain false Rows.fnBehindDescribeTopicPartitionsResponseUptoRow.laid) (((Rows.OpenSpec.upto Rows.fnBehindDescribeTopicPartitionsResponseSpec).at F).post enc Tryz.prog Tryz.f3 false true false false) := by
  refine returnsInHanded_of_row (C := Tryz.checked) (s := (Rows.OpenSpec.upto Rows.fnBehindDescribeTopicPartitionsResponseSpec)) Tryz.own started (by kernel_rfl) Tryz.func3
    (witness_row_at (enc := enc) (C := Tryz.checked) false (laidWorld os) #[.int .u8 0, .slice none 0 0, .agg #[.int .i64 0, .slice none 0 0, .bool false, .slice none 0 0, .slice none 0 0]] rfl (by kernel_rfl) (by kernel_rfl) (by kernel_rfl)
      (OpenSpec.preRow_of_cond 8 (x := ([.lit (.int .u8 0), .nil, .agg [.lit (.int .i64 0), .nil, .lit (.bool false), .nil, .nil]], [], [])) (by kernel_rfl) (by kernel_rfl) (fun k hk => by cases hk; kernel_rfl) (by kernel_rfl) (laid_met os))) ?_
  intro W base args ds gs before hval0 hW _ hkc hsz0 _ hSh _
  have hk0 := hkc _ rfl
  obtain ⟨ev, hG⟩ := glo hSh
  have hsz : (DataW.weightsEach Tryz.prog (Tryz.f3.params.toList ++ Rows.fnBehindDescribeTopicPartitionsResponseSpec.plain.varTypes Tryz.prog) (ds ++ gs)).all (· ≤ reachBytes) = true := hsz0
  clear hsz0
  have hval : ∀ (j : Nat) t v, Tryz.f3.params[j]? = some t → args[j]? = some v → Value.okWide Tryz.prog W .any base t v := hval0
  have hW' := hW
  obtain ⟨p, q, hA0, hV, rfl, _, _⟩ := hW
  have hA : DataW.TrodAll enc Tryz.prog W 0 (fun _ => true) true Tryz.f3.params.toList args.toList ds p := hA0
  rw [Tryz.params3] at hA hval hsz
  obtain ⟨vn, vd, vt, dn, dd, dt, pn, pd, pt, rfl, rfl, rfl, hn, hd, ht⟩ := trodAll_three hA
  obtain ⟨rfl, rfl⟩ := trodVars_none hV
  obtain ⟨n, rfl, rfl, rfl, wn⟩ := open_int treeTy.uy (hval 0 5 vn rfl rfl) hn
  have hvd := hval 1 22 vd rfl rfl
  have hdk := hd
  obtain ⟨fuel2, hf2⟩ := hd
  obtain ⟨vd', Dd, hcd, hDd, hDl, hDb⟩ := Ms.open_bytesB (bulks H) treeTy.uy treeTy.cy treeTy.b_y treeTy.uS hf2 (Ms.fits_each hsz 1 22 dd rfl rfl)
  obtain rfl : vd = vd' := by
    cases vd <;> simp [Value.okWide, Cell.okWide, Cell.ok, treeTy.uS] at hvd
    all_goals simpa [Value.cells] using hcd
  have hvt := hval 2 26 vt rfl rfl
  obtain ⟨fs, hfs, _⟩ := treeTy.uT
  simp only [Value.okWide, hfs] at hvt
  obtain ⟨cs, rfl, _, _⟩ := hvt
  have htk := ht
  obtain ⟨fuel, hf⟩ := ht
  clear hA0 hval0
  simp only [List.append_nil] at hW' hk0
  have hltd : ∀ x ∈ pd, x.block < W.heap.size := fun x hx => by simpa using hW'.lt x (by simp [hx])
  have hargd : ∀ (W' : World), Below W.heap.size W W' → DataW.Trod enc Tryz.prog W' 0 (fun b => decide (b < W.heap.size)) true 22 vd dd pd :=
    fun W' hn => Below.trod Tryz.laidOut (by kernel_rfl) (of_decide_eq_true (by kernel_rfl)) hdk hn hltd
  have hltt : ∀ x ∈ pt, x.block < W.heap.size := fun x hx => by simpa using hW'.lt x (by simp [hx])
  have hargt : ∀ (W' : World), Below W.heap.size W W' → DataW.Trod enc Tryz.prog W' 0 (fun b => decide (b < W.heap.size)) true 26 (.agg cs) dt pt :=
    fun W' hn => Below.trod Tryz.laidOut (by kernel_rfl) (of_decide_eq_true (by kernel_rfl)) htk hn hltt
  obtain ⟨t, htt, hsm, hsd⟩ := Ms.open_treeB (bulks H) treeTy fuel (by simpa [Value.cells] using hf) (Ms.fits_each hsz 2 26 dt rfl rfl)
  have hbk : Rows.uptoBulk dt ≤ 1048576 := by
    have h8 : Rows.uptoBulkAll _ ≤ 1048576 := of_decide_eq_true hk0
    have h9 := (bulks H).mem (d := dt) (l := _) (by simp : dt ∈ [DataW.lit (.int .u8 n), dd, dt])
    exact Nat.le_trans h9 h8
  have hbd : Dd.length ≤ 1048576 := by
    have h8 : Rows.uptoBulkAll _ ≤ 1048576 := of_decide_eq_true hk0
    have h9 := (bulks H).mem (d := dd) (l := _) (by simp : dd ∈ [DataW.lit (.int .u8 n), dd, dt])
    have h7 : Rows.uptoBulk dd ≤ 1048576 := Nat.le_trans h9 h8
    have h6 : Dd.length + 1 ≤ Rows.uptoBulk dd := hDb
    omega
  obtain ⟨k, rfl⟩ : ∃ k : Nat, n = k := by
    simp [Lit.wf, IntKind.min, IntKind.max, IntKind.signed, IntKind.bits] at wn
    exact ⟨n.toNat, by omega⟩
  have hk : k < 256 := by
    simp [Lit.wf, IntKind.min, IntKind.max, IntKind.signed, IntKind.bits] at wn
    omega
  have hlaw := Ms.law_BehindQ k hk vd Dd t cs.toList W hDd htt (hsm.mono (by decide)) hG hbd hbk hsd
  refine Calls.mono hlaw fun e W' he => ?_
  cases e with
  | returned v =>
    obtain ⟨rfl, hE⟩ := he
    have hb : Below W.heap.size W W' := ⟨hE.os, hE.tape, hE.output, hE.size, fun b hb => hE.keep b hb _root_.id⟩
    refine ⟨_, rfl, _, _, _, [], _, [], hW', ?_, trodAll_mk3 (shut_int treeTy.uy wn) (hargd _ hb) (hargt _ hb), rfl, hb.frame _, fun h => by cases h⟩
    exact trodAll_mk1 (shut_bool treeTy.uB true)
  | panicked c => exact he.elim
  | outgrown => exact he.elim
theorem fnBehindDescribeTopicPartitionsResponse_named : Tryz.pinned.checked.prog.funcNamed Rows.fnBehindDescribeTopicPartitionsResponseUptoRow.func = some 3 := by kernel_rfl
theorem fnBehindDescribeTopicPartitionsResponse_instance : (Tryz.f3).isInstance Tryz.pinned.checked.prog Rows.fnBehindDescribeTopicPartitionsResponseUptoRow.origin Rows.fnBehindDescribeTopicPartitionsResponseUptoRow.targs := of_decide_eq_true (by kernel_rfl)
theorem fnBehindDescribeTopicPartitionsResponse_wrapper : (Tryz.f3).isWrapper Tryz.pinned.checked.prog Rows.fnBehindDescribeTopicPartitionsResponseUptoRow.wrapper Rows.fnBehindDescribeTopicPartitionsResponseUptoRow.mainSum := by
  unfold Func.isWrapper; first | (rw [if_pos (by decide +kernel)]; kernel_rfl) | (rw [if_neg (by decide +kernel)]; exact ⟨rfl, rfl⟩)
theorem fnBehindDescribeTopicPartitionsResponse_in : (Rows.fnBehindDescribeTopicPartitionsResponseUptoRow.inPlace == Tryz.pinned.checked.prog.inPlace 3) = true := by kernel_rfl
theorem fnBehindDescribeTopicPartitionsResponse_un : (Rows.fnBehindDescribeTopicPartitionsResponseUptoRow.unfollowed == Tryz.pinned.checked.prog.unfollowed 3) = true := by kernel_rfl
theorem fnBehindDescribeTopicPartitionsResponse_rec : (Rows.fnBehindDescribeTopicPartitionsResponseUptoRow.recurses == Tryz.pinned.checked.prog.recurses 3) = true := by kernel_rfl
theorem fnBehindDescribeTopicPartitionsResponse_nam : (Rows.fnBehindDescribeTopicPartitionsResponseUptoRow.named == Tryz.pinned.checked.prog.varsNamed 3) = true := by kernel_rfl
theorem fnBehindDescribeTopicPartitionsResponse_goes : false = Rows.fnBehindDescribeTopicPartitionsResponseUptoRow.goesBy Tryz.pinned.checked.prog := by kernel_rfl
theorem fnBehindDescribeTopicPartitionsResponse_closed : joinedFacts Tryz.pinned.checked.prog 3 Tryz.f3 (Rows.OpenSpec.upto Rows.fnBehindDescribeTopicPartitionsResponseSpec).bare Rows.fnBehindDescribeTopicPartitionsResponseUptoRow = true := by
  unfold joinedFacts
  rw [fnBehindDescribeTopicPartitionsResponse_in, fnBehindDescribeTopicPartitionsResponse_un, fnBehindDescribeTopicPartitionsResponse_rec, fnBehindDescribeTopicPartitionsResponse_nam, laid0, rowed0, hears0, enters0, lifts0, make0]
  kernel_rfl

theorem fnBehindDescribeTopicPartitionsResponse_said : Rows.FnBehindDescribeTopicPartitionsResponseUptoSaid :=
  OpenClaim.holds_of_cond 3 Tryz.f3 rfl rfl rfl rfl rfl rfl rfl ⟨rfl, rfl, rfl, rfl, rfl⟩ rfl rfl rfl rfl rfl fnBehindDescribeTopicPartitionsResponse_named Tryz.func3 fnBehindDescribeTopicPartitionsResponse_closed
    fnBehindDescribeTopicPartitionsResponse_instance fnBehindDescribeTopicPartitionsResponse_wrapper
    (fun os started H enc _ F => by rw [OpenClaim.pre_eq_preRow]; exact fnBehindDescribeTopicPartitionsResponse_lifted os started H enc F)
theorem fnBehindDescribeTopicPartitionsResponse_plain (f : FuncId) (fn : Func) (hf : Tryz.pinned.checked.prog.funcNamed Rows.fnBehindDescribeTopicPartitionsResponseUptoRow.func = some f) (hfn : Tryz.pinned.checked.prog.funcs[f]? = some fn) :
    false = Tryz.pinned.checked.prog.looks [] ∧ ∀ (j : Nat) t, fn.params[j]? = some t → Tryz.pinned.checked.prog.wantsStandIn t = false := by
  obtain rfl : f = 3 := (Option.some.inj (fnBehindDescribeTopicPartitionsResponse_named.symm.trans hf)).symm
  obtain rfl : fn = Tryz.f3 := (Option.some.inj (Tryz.func3.symm.trans hfn)).symm
  refine ⟨by kernel_rfl, fun j t ht => ?_⟩
  rw [Tryz.params3] at ht
  have hm := Array.mem_of_getElem? ht
  simp at hm
  rcases hm with rfl | rfl | rfl
  · exact (show Tryz.prog.wantsStandIn 5 = false by kernel_rfl)
  · exact (show Tryz.prog.wantsStandIn 22 = false by kernel_rfl)
  · exact (show Tryz.prog.wantsStandIn 26 = false by kernel_rfl)
theorem fnBehindDescribeTopicPartitionsResponse_holds : Rows.FnBehindDescribeTopicPartitionsResponseUptoCardSaid :=
  Claim7.holds_tied_plain_at .later [] _ _ _ _ fnBehindDescribeTopicPartitionsResponse_said (fun _ h => by cases h) (by kernel_rfl) (fun _ h => by cases h) fnBehindDescribeTopicPartitionsResponseUpto_row_tie rfl ⟨rfl, rfl⟩ (by kernel_rfl) rfl fnBehindDescribeTopicPartitionsResponse_plain fnBehindDescribeTopicPartitionsResponse_goes
end Go.Proofs.YtfeaoncgnhhjbaaGreatDoor

