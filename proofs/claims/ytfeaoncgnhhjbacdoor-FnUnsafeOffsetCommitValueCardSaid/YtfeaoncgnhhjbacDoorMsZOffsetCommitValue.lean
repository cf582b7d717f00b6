/- Whatever the octets data are, laws.FnUnsafeOffsetCommitValue returns true and leaves its arguments as they were. (No condition is added to the given statement's own.) -/
import Derived.Test.YtfeaoncgnhhjbacDoorCards
import Derived.Test.YtfeaoncgnhhjbacDoorTie
import Derived.Deep.DeepHandedRow
import Derived.Lib.LaidTab
import Derived.JoinedCond
import Derived.Deep.CondSized
import Derived.Test.YtfeaoncgnhhjbacDoorC05
import Derived.Test.YtfeaoncgnhhjbacDoorOffsetCommitValueP0
import Derived.Test.YtfeaoncgnhhjbacDoorOffsetCommitValueP2
set_option linter.unusedSimpArgs false
set_option linter.unusedVariables false
namespace Go.Proofs.YtfeaoncgnhhjbacDoor
open Go.ChangeShapes Go.WideShapes Go.ChangeAt Go.RowKit

theorem Tryd.own : ownKnob Tryd.prog.godebug = none := by kernel_rfl
theorem Tryd.laidOut : laidOutB Tryd.prog = true := by kernel_rfl
theorem treeTy : Ms.TreeTy Tryd.prog 5 4 2 58 22 60 35 37 34 where
  uy := by kernel_rfl
  cy := by kernel_rfl
  b_y := by kernel_rfl
  uB := by kernel_rfl
  cB := by kernel_rfl
  uN := by kernel_rfl
  cN := by kernel_rfl
  uK := by kernel_rfl
  cK := by kernel_rfl
  uS := by kernel_rfl
  cS := by kernel_rfl
  uG := ⟨_, Tryd.underlying60, rfl⟩
  cG := by kernel_rfl
  bG := by kernel_rfl
  uU := by kernel_rfl
  cU := by kernel_rfl
  uT := ⟨_, Tryd.underlying37, rfl⟩
  cT := by kernel_rfl
  bT := by kernel_rfl
  uL := by kernel_rfl
  cL := by kernel_rfl
theorem bulks (H : Type) : Ms.Bulk (H := H) Rows.uptoBulk Rows.uptoBulkAll where
  pos d := by
    cases d with
    | lit l => cases l <;> simp [Rows.uptoBulk]
    | nil => simp [Rows.uptoBulk]
    | ptr d => simp [Rows.uptoBulk]
    | slice elems spare => simp [Rows.uptoBulk]
    | agg parts => simp [Rows.uptoBulk]
    | iface t d => simp [Rows.uptoBulk]
    | map entries => simp [Rows.uptoBulk]
    | held h => simp [Rows.uptoBulk]
  slice e s := by rw [Rows.uptoBulk]
  agg p := by rw [Rows.uptoBulk]
  nil := by rw [Rows.uptoBulkAll]
  cons d r := by rw [Rows.uptoBulkAll]

theorem glo0 : (((begin Tryd.prog (fun _ _ => 0) default).world.heap[1]?).bind Obj.row?).map (fun x => (x.1.size, x.2)) = some (1, 50) := by kernel_rfl
theorem glo1 : (((begin Tryd.prog (fun _ _ => 0) default).world.heap[0]?).bind Obj.row?).map (fun x => x.1.size) = some 0 := by kernel_rfl
theorem glo2 : 1 < Tryd.prog.globals.size ∧ 0 < Tryd.prog.globals.size := ⟨of_decide_eq_true (by kernel_rfl), of_decide_eq_true (by kernel_rfl)⟩
theorem glo {W : World} (h : W.ShapedOpen Tryd.prog) : ∃ ev, Ms.Glo ev W := by
  obtain ⟨x0, h0, e0⟩ := Option.map_eq_some_iff.1 glo0
  obtain ⟨x1, h1, e1⟩ := Option.map_eq_some_iff.1 glo1
  have hs := glo2
  obtain ⟨c0, g0, s0, _⟩ := h.1 1 x0.1 x0.2 (by omega) h0
  obtain ⟨c1, g1, s1, _⟩ := h.1 0 x1.1 x1.2 (by omega) h1
  have z0 : c0.size = 1 := by rw [s0]; exact congrArg Prod.fst e0
  refine ⟨c0[0]'(by omega), ⟨⟨c1, x1.2, (0, 0)⟩, ?_⟩, ⟨c0, x0.2, (0, 0)⟩, ?_, ?_⟩
  · unfold Ms.blk; rw [g1]
  · unfold Ms.blk; rw [g0]
  · exact Array.getElem?_eq_getElem _
noncomputable def heldHeap (os : Os) : Array Obj := (World.holding Tryd.prog os ⟨#[], #[], []⟩).heap
noncomputable def laidHeap (os : Os) : Array Obj := (heldHeap os).modify 1 fun
  | .cells _ t frozen => .cells #[.iface 140 (.pointer (some ⟨(heldHeap os).size, 0, none⟩))] t frozen
  | o => o
noncomputable def laidWorld (os : Os) : World :=
  { World.holding Tryd.prog os ⟨#[], #[], []⟩ with heap := (laidHeap os).push (.cells #[.string ⟨#[114, 101, 115, 112, 111, 110, 115, 101, 32, 100, 105, 100, 32, 110, 111, 116, 32, 99, 111, 110, 116, 97, 105, 110, 32, 101, 110, 111, 117, 103, 104, 32, 100, 97, 116, 97, 32, 116, 111, 32, 98, 101, 32, 118, 97, 108, 105, 100]⟩] 158 (0, 0)) }
theorem laid_met (os : Os) : laidMet Tryd.prog Rows.fnUnsafeOffsetCommitValueRow.laid ((laidWorld os).forCall (fun _ _ => 0) ⟨#[], #[.slice none 0 0], []⟩).memory :=
  laidMet_of_run' 8 (by kernel_rfl) (by kernel_rfl)
theorem errNamed : Tryd.prog.globalNamed "pub-mailsack/pub/kmsg/inner/kbin.ErrNotEnoughData" = some 1 := by kernel_rfl
theorem errType : (Tryd.prog.globals[1]?).map (·.type) = some 50 := by kernel_rfl
theorem errIface : ((Tryd.prog.underlying 50).map fun x => match x with | .interface _ => true | _ => false) = some true := by kernel_rfl
theorem laidErr {W : World} (h : laidMetH Tryd.prog Rows.fnUnsafeOffsetCommitValueRow.laid W) : ∃ c, W.var? Tryd.prog "pub-mailsack/pub/kmsg/inner/kbin.ErrNotEnoughData" = some c ∧ ∃ u v, c.toList = [.iface u v] := by
  have h' : laidMet Tryd.prog Rows.fnUnsafeOffsetCommitValueRow.laid W := h
  obtain ⟨ps, ⟨g, t, cs, fuel, p, q, hg, ht, hvar, hd, _⟩, _⟩ := h'
  refine ⟨cs, hvar, ?_⟩
  obtain rfl := Option.some.inj (errNamed.symm.trans hg)
  obtain rfl := Option.some.inj (errType.symm.trans ht)
  obtain ⟨ut, hu, hi⟩ := Option.map_eq_some_iff.1 errIface
  cases ut <;> simp at hi
  exact Ms.iface_of hu hd
theorem gloE {W : World} (h : W.ShapedOpen Tryd.prog) (hl : laidMetH Tryd.prog Rows.fnUnsafeOffsetCommitValueRow.laid W) : ∃ ev, Ms.Glo ev W ∧ ∃ T p, ev = .iface T p := by
  obtain ⟨ev, hG⟩ := glo h
  refine ⟨ev, hG, ?_⟩
  obtain ⟨c, hv, u, v, hc⟩ := laidErr hl
  obtain rfl : c = #[.iface u v] := by apply Array.ext'; rw [hc]
  obtain ⟨_, x, hx, hx0⟩ := hG
  unfold World.var? at hv
  rw [errNamed, Option.bind_some] at hv
  unfold Ms.blk at hx
  cases hh : W.heap[1]? with
  | none => rw [hh] at hv; cases hv
  | some o =>
    rw [hh] at hv hx
    cases o <;> simp at hv hx
    subst hv
    rw [← hx] at hx0
    simp at hx0
    exact ⟨u, v, hx0.symm⟩
set_option maxRecDepth 100000 in
theorem fnUnsafeOffsetCommitValue_lifted (os : Os) (started : os.Started) (H : Type) (enc : TypeId × Value → H) (F : Stop.Interp) :
    ReturnsInHanded {} Tryd.checked os 3 .any ((OpenSpec.ofChange Rows.fnUnsafeOffsetCommitValueSpec).preRow enc Tryd.prog Tryd.f3 Rows.fnUnsafeOffsetCommitValueRow.domain false Rows.fnUnsafeOffsetCommitValueRow.laid) (((OpenSpec.ofChange Rows.fnUnsafeOffsetCommitValueSpec).at F).post enc Tryd.prog Tryd.f3 false true false false) := by
  refine returnsInHanded_of_row (C := Tryd.checked) (s := (OpenSpec.ofChange Rows.fnUnsafeOffsetCommitValueSpec)) Tryd.own started (by kernel_rfl) Tryd.func3
    (witness_row_at (enc := enc) (C := Tryd.checked) false (laidWorld os) #[.slice none 0 0] rfl (by kernel_rfl) (by kernel_rfl) (by kernel_rfl)
      (OpenSpec.preRow_of_cond 8 (x := ([.nil], [], [])) (by kernel_rfl) (by kernel_rfl) (fun k hk => by cases hk) (by kernel_rfl) (laid_met os))) ?_
  intro W base args ds gs before hval0 hW _ _ hsz0 hLd hSh _
  obtain ⟨ev, hG, hev⟩ := gloE hSh hLd
  have hsz : (DataW.weightsEach Tryd.prog (Tryd.f3.params.toList ++ Rows.fnUnsafeOffsetCommitValueSpec.plain.varTypes Tryd.prog) (ds ++ gs)).all (· ≤ reachBytes) = true := hsz0
  clear hsz0
  have hval : ∀ (j : Nat) t v, Tryd.f3.params[j]? = some t → args[j]? = some v → Value.okWide Tryd.prog W .any base t v := hval0
  have hW' := hW
  obtain ⟨pd, q, hA0, hV, rfl, _, _⟩ := hW
  have hA : DataW.TrodAll enc Tryd.prog W 0 (fun _ => true) true Tryd.f3.params.toList args.toList ds pd := hA0
  rw [Tryd.params3] at hA hval hsz
  obtain ⟨vd, dd, rfl, rfl, hd⟩ := trodAll_one hA
  obtain ⟨rfl, rfl⟩ := trodVars_none hV
  have hvd := hval 0 22 vd rfl rfl
  have hdk := hd
  obtain ⟨fuel2, hf2⟩ := hd
  obtain ⟨vd', Dd, hcd, hDd, hDl, hDb⟩ := Ms.open_bytesB (bulks H) treeTy.uy treeTy.cy treeTy.b_y treeTy.uS hf2 (Ms.fits_each hsz 0 22 dd rfl rfl)
  obtain rfl : vd = vd' := by
    cases vd <;> simp [Value.okWide, Cell.okWide, Cell.ok, treeTy.uS] at hvd
    all_goals simpa [Value.cells] using hcd
  clear hA0 hval0
  simp only [List.append_nil] at hW'
  have hltd : ∀ x ∈ pd, x.block < W.heap.size := fun x hx => by simpa using hW'.lt x (by simp [hx])
  have hargd : ∀ (W' : World), Below W.heap.size W W' → DataW.Trod enc Tryd.prog W' 0 (fun b => decide (b < W.heap.size)) true 22 vd dd pd :=
    fun W' hn => Below.trod Tryd.laidOut (by kernel_rfl) (of_decide_eq_true (by kernel_rfl)) hdk hn hltd
  have hlaw := Ms.law_UnsafeOffsetCommitValue vd Dd W hDd hG hev
  refine Calls.mono hlaw fun e W' he => ?_
  cases e with
  | returned v =>
    obtain ⟨rfl, hE⟩ := he
    have hb : Below W.heap.size W W' := ⟨hE.os, hE.tape, hE.output, hE.size, fun b hb => hE.keep b hb _root_.id⟩
    refine ⟨_, rfl, _, _, _, [], _, [], hW', ?_, trodAll_mk1 (hargd _ hb), rfl, hb.frame _, fun h => by cases h⟩
    exact trodAll_mk1 (shut_bool treeTy.uB true)
  | panicked c => exact he.elim
  | outgrown => exact he.elim
theorem fnUnsafeOffsetCommitValue_named : Tryd.pinned.checked.prog.funcNamed Rows.fnUnsafeOffsetCommitValueRow.func = some 3 := by kernel_rfl
theorem fnUnsafeOffsetCommitValue_instance : (Tryd.f3).isInstance Tryd.pinned.checked.prog Rows.fnUnsafeOffsetCommitValueRow.origin Rows.fnUnsafeOffsetCommitValueRow.targs := of_decide_eq_true (by kernel_rfl)
theorem fnUnsafeOffsetCommitValue_wrapper : (Tryd.f3).isWrapper Tryd.pinned.checked.prog Rows.fnUnsafeOffsetCommitValueRow.wrapper Rows.fnUnsafeOffsetCommitValueRow.mainSum := by
  unfold Func.isWrapper; first | (rw [if_pos (by decide +kernel)]; kernel_rfl) | (rw [if_neg (by decide +kernel)]; exact ⟨rfl, rfl⟩)
theorem fnUnsafeOffsetCommitValue_in : (Rows.fnUnsafeOffsetCommitValueRow.inPlace == Tryd.pinned.checked.prog.inPlace 3) = true := by kernel_rfl
theorem fnUnsafeOffsetCommitValue_un : (Rows.fnUnsafeOffsetCommitValueRow.unfollowed == Tryd.pinned.checked.prog.unfollowed 3) = true := by kernel_rfl
theorem fnUnsafeOffsetCommitValue_rec : (Rows.fnUnsafeOffsetCommitValueRow.recurses == Tryd.pinned.checked.prog.recurses 3) = true := by kernel_rfl
theorem fnUnsafeOffsetCommitValue_nam : (Rows.fnUnsafeOffsetCommitValueRow.named == Tryd.pinned.checked.prog.varsNamed 3) = true := by kernel_rfl
theorem fnUnsafeOffsetCommitValue_goes : false = Rows.fnUnsafeOffsetCommitValueRow.goesBy Tryd.pinned.checked.prog := by kernel_rfl
theorem fnUnsafeOffsetCommitValue_closed : joinedFacts Tryd.pinned.checked.prog 3 Tryd.f3 (OpenSpec.ofChange Rows.fnUnsafeOffsetCommitValueSpec).bare Rows.fnUnsafeOffsetCommitValueRow = true := by
  unfold joinedFacts
  rw [fnUnsafeOffsetCommitValue_in, fnUnsafeOffsetCommitValue_un, fnUnsafeOffsetCommitValue_rec, fnUnsafeOffsetCommitValue_nam, laid0, rowed0, hears0, enters0, lifts0, make0]
  kernel_rfl

theorem fnUnsafeOffsetCommitValue_said : Rows.FnUnsafeOffsetCommitValueSaid :=
  OpenClaim.holds_of_cond 3 Tryd.f3 rfl rfl rfl rfl rfl rfl rfl ⟨rfl, rfl, rfl, rfl, rfl⟩ rfl rfl rfl rfl rfl fnUnsafeOffsetCommitValue_named Tryd.func3 fnUnsafeOffsetCommitValue_closed
    fnUnsafeOffsetCommitValue_instance fnUnsafeOffsetCommitValue_wrapper
    (fun os started H enc _ F => by rw [OpenClaim.pre_eq_preRow]; exact fnUnsafeOffsetCommitValue_lifted os started H enc F)
theorem fnUnsafeOffsetCommitValue_plain (f : FuncId) (fn : Func) (hf : Tryd.pinned.checked.prog.funcNamed Rows.fnUnsafeOffsetCommitValueRow.func = some f) (hfn : Tryd.pinned.checked.prog.funcs[f]? = some fn) :
    false = Tryd.pinned.checked.prog.looks [] ∧ ∀ (j : Nat) t, fn.params[j]? = some t → Tryd.pinned.checked.prog.wantsStandIn t = false := by
  obtain rfl : f = 3 := (Option.some.inj (fnUnsafeOffsetCommitValue_named.symm.trans hf)).symm
  obtain rfl : fn = Tryd.f3 := (Option.some.inj (Tryd.func3.symm.trans hfn)).symm
  refine ⟨by kernel_rfl, fun j t ht => ?_⟩
  rw [Tryd.params3] at ht
  have hm := Array.mem_of_getElem? ht
  simp at hm
  subst hm
  exact (show Tryd.prog.wantsStandIn 22 = false by kernel_rfl)
theorem fnUnsafeOffsetCommitValue_holds : Rows.FnUnsafeOffsetCommitValueCardSaid :=
  Claim7.holds_tied_plain_at .later [] _ _ _ _ fnUnsafeOffsetCommitValue_said (fun _ h => by cases h) (by kernel_rfl) (fun _ h => by cases h) fnUnsafeOffsetCommitValue_row_tie rfl ⟨rfl, rfl⟩ (by kernel_rfl) rfl fnUnsafeOffsetCommitValue_plain fnUnsafeOffsetCommitValue_goes
end Go.Proofs.YtfeaoncgnhhjbacDoor

