/- Whatever the octet n and the tree t are, where they hold together no more than 1048576 values and letters, laws.FnDefaultFetchRequest returns true and leaves its arguments as they were. (The bound on what comes in is the given statement's own; no other condition is added.) -/
import Derived.Test.YtfeaoncgnhhjbaeGreatDoorCards
import Derived.Test.YtfeaoncgnhhjbaeGreatDoorTie
import Derived.Deep.DeepHandedRow
import Derived.Lib.LaidTab
import Derived.JoinedCond
import Derived.Deep.CondSized
import Derived.Test.YtfeaoncgnhhjbaeGreatDoorC05
import Derived.Test.YtfeaoncgnhhjbaeGreatDoorFetchRequestP0
import Derived.Test.YtfeaoncgnhhjbaeGreatDoorFetchRequestP5
set_option linter.unusedSimpArgs false
set_option linter.unusedVariables false
namespace Go.Proofs.YtfeaoncgnhhjbaeGreatDoor
open Go.ChangeShapes Go.WideShapes Go.ChangeAt Go.RowKit

theorem Tryz.own : ownKnob Tryz.prog.godebug=none:=by kernel_rfl
theorem Tryz.laidOut : laidOutB Tryz.prog=true:=by kernel_rfl
theorem treeTy : Ms.TreeTy Tryz.prog 5 4 2 60 22 63 24 26 23 where
 uy:=by kernel_rfl
 cy:=by kernel_rfl
 b_y:=by kernel_rfl
 uB:=by kernel_rfl
 cB:=by kernel_rfl
 uN:=by kernel_rfl
 cN:=by kernel_rfl
 uK:=by kernel_rfl
 cK:=by kernel_rfl
 uS:=by kernel_rfl
 cS:=by kernel_rfl
 uG:=⟨_, Tryz.underlying63, rfl⟩
 cG:=by kernel_rfl
 bG:=by kernel_rfl
 uU:=by kernel_rfl
 cU:=by kernel_rfl
 uT:=⟨_, Tryz.underlying26, rfl⟩
 cT:=by kernel_rfl
 bT:=by kernel_rfl
 uL:=by kernel_rfl
 cL:=by kernel_rfl
theorem bulks (H:Type):Ms.Bulk (H:=H) Rows.uptoBulk Rows.uptoBulkAll where
 pos d:=by
  cases d with
  | lit l=>cases l<;>simp [Rows.uptoBulk]
  | nil=>simp [Rows.uptoBulk]
  | ptr d=>simp [Rows.uptoBulk]
  | slice elems spare=>simp [Rows.uptoBulk]
  | agg parts=>simp [Rows.uptoBulk]
  | iface t d=>simp [Rows.uptoBulk]
  | map entries=>simp [Rows.uptoBulk]
  | held h=>simp [Rows.uptoBulk]
 slice e s:=by rw [Rows.uptoBulk]
 agg p:=by rw [Rows.uptoBulk]
 nil:=by rw [Rows.uptoBulkAll]
 cons d r:=by rw [Rows.uptoBulkAll]

theorem glo0 : (((begin Tryz.prog (fun _ _=>0) default).world.heap[1]?).bind Obj.row?).map (fun x=>(x.1.size, x.2))=some (1, 54):=by kernel_rfl
theorem glo1 : (((begin Tryz.prog (fun _ _=>0) default).world.heap[0]?).bind Obj.row?).map (fun x=>x.1.size)=some 0:=by kernel_rfl
theorem glo2 : 1 < Tryz.prog.globals.size∧0 < Tryz.prog.globals.size:=⟨of_decide_eq_true (by kernel_rfl), of_decide_eq_true (by kernel_rfl)⟩
theorem glo {W:World} (h:W.ShapedOpen Tryz.prog):∃ ev, Ms.Glo ev W:=by
 obtain ⟨x0, h0, e0⟩:=Option.map_eq_some_iff.1 glo0
 obtain ⟨x1, h1, e1⟩:=Option.map_eq_some_iff.1 glo1
 have hs:=glo2
 obtain ⟨c0, g0, s0, _⟩:=h.1 1 x0.1 x0.2 (by omega) h0
 obtain ⟨c1, g1, s1, _⟩:=h.1 0 x1.1 x1.2 (by omega) h1
 have z0:c0.size=1:=by rw [s0]; exact congrArg Prod.fst e0
 refine ⟨c0[0]'(by omega), ⟨⟨c1, x1.2, (0, 0)⟩, ?_⟩, ⟨c0, x0.2, (0, 0)⟩, ?_, ?_⟩
 ·unfold Ms.blk; rw [g1]
 ·unfold Ms.blk; rw [g0]
 ·exact Array.getElem?_eq_getElem _
noncomputable def heldHeap (os:Os):Array Obj:=(World.holding Tryz.prog os ⟨#[], #[], []⟩).heap
noncomputable def laidHeap (os:Os):Array Obj:=(heldHeap os).modify 1 fun
 | .cells _ t frozen=>.cells #[.iface 174 (.pointer (some ⟨(heldHeap os).size, 0, none⟩))] t frozen
 | o=>o
noncomputable def laidWorld (os:Os):World :=
 { World.holding Tryz.prog os ⟨#[], #[], []⟩ with heap:=(laidHeap os).push (.cells #[.string ⟨#[114, 101, 115, 112, 111, 110, 115, 101, 32, 100, 105, 100, 32, 110, 111, 116, 32, 99, 111, 110, 116, 97, 105, 110, 32, 101, 110, 111, 117, 103, 104, 32, 100, 97, 116, 97, 32, 116, 111, 32, 98, 101, 32, 118, 97, 108, 105, 100]⟩] 193 (0, 0)) }
theorem laid_met (os:Os):laidMet Tryz.prog Rows.fnDefaultFetchRequestUptoRow.laid ((laidWorld os).forCall (fun _ _=>0) ⟨#[], #[.int .u8 0, .agg #[.int .i64 0, .slice none 0 0, .bool false, .slice none 0 0, .slice none 0 0]], []⟩).memory :=
 laidMet_of_run' 8 (by kernel_rfl) (by kernel_rfl)
theorem errNamed : Tryz.prog.globalNamed "pub-mailsack/pub/kmsg/inner/kbin.ErrNotEnoughData" = some 1 := by kernel_rfl
theorem errType : (Tryz.prog.globals[1]?).map (·.type)=some 54:=by kernel_rfl
theorem errIface : ((Tryz.prog.underlying 54).map fun x=>match x with|.interface _=>true|_=>false)=some true:=by kernel_rfl
theorem laidErr {W : World} (h : laidMetH Tryz.prog Rows.fnDefaultFetchRequestUptoRow.laid W) : ∃ c, W.var? Tryz.prog "pub-mailsack/pub/kmsg/inner/kbin.ErrNotEnoughData" = some c ∧ ∃ u v, c.toList = [.iface u v] := by
 have h':laidMet Tryz.prog Rows.fnDefaultFetchRequestUptoRow.laid W:=h
 obtain ⟨ps, ⟨g, t, cs, fuel, p, q, hg, ht, hvar, hd, _⟩, _⟩:=h'
 refine ⟨cs, hvar, ?_⟩
 obtain rfl:=Option.some.inj (errNamed.symm.trans hg)
 obtain rfl:=Option.some.inj (errType.symm.trans ht)
 obtain ⟨ut, hu, hi⟩:=Option.map_eq_some_iff.1 errIface
 cases ut<;>simp at hi
 exact Ms.iface_of hu hd
theorem gloE {W:World} (h:W.ShapedOpen Tryz.prog) (hl:laidMetH Tryz.prog Rows.fnDefaultFetchRequestUptoRow.laid W):∃ ev, Ms.Glo ev W∧∃ T p, ev = .iface T p:=by
 obtain ⟨ev, hG⟩:=glo h
 refine ⟨ev, hG, ?_⟩
 obtain ⟨c, hv, u, v, hc⟩:=laidErr hl
 obtain rfl:c=#[.iface u v]:=by apply Array.ext'; rw [hc]
 obtain ⟨_, x, hx, hx0⟩:=hG
 unfold World.var? at hv
 rw [errNamed, Option.bind_some] at hv
 unfold Ms.blk at hx
 cases hh:W.heap[1]? with
 | none=>rw [hh] at hv; cases hv
 | some o =>
  rw [hh] at hv hx
  cases o<;>simp at hv hx
  subst hv
  rw [← hx] at hx0
  simp at hx0
  exact ⟨u, v, hx0.symm⟩
set_option maxRecDepth 100000 in
theorem fnDefaultFetchRequest_lifted (os:Os) (started:os.Started) (H:Type) (enc:TypeId × Value→H) (F:Stop.Interp) :
  ReturnsInHanded {} Tryz.checked os 3 .any ((Rows.OpenSpec.upto Rows.fnDefaultFetchRequestSpec).preRow enc Tryz.prog Tryz.f3 Rows.fnDefaultFetchRequestUptoRow.domain false Rows.fnDefaultFetchRequestUptoRow.laid) (((Rows.OpenSpec.upto Rows.fnDefaultFetchRequestSpec).at F).post enc Tryz.prog Tryz.f3 false true false false):=by
 refine returnsInHanded_of_row (C:=Tryz.checked) (s:=(Rows.OpenSpec.upto Rows.fnDefaultFetchRequestSpec)) Tryz.own started (by kernel_rfl) Tryz.func3
  (witness_row_at (enc:=enc) (C:=Tryz.checked) false (laidWorld os) #[.int .u8 0, .agg #[.int .i64 0, .slice none 0 0, .bool false, .slice none 0 0, .slice none 0 0]] rfl (by kernel_rfl) (by kernel_rfl) (by kernel_rfl)
   (OpenSpec.preRow_of_cond 8 (x:=([.lit (.int .u8 0), .agg [.lit (.int .i64 0), .nil, .lit (.bool false), .nil, .nil]], [], [])) (by kernel_rfl) (by kernel_rfl) (fun k hk=>by cases hk; kernel_rfl) (by kernel_rfl) (laid_met os))) ?_
 intro W base args ds gs before hval0 hW _ hkc hsz0 hLd hSh _
 have hk0:=hkc _ rfl
 obtain ⟨ev, hG, hev⟩:=gloE hSh hLd
 have hsz:(DataW.weightsEach Tryz.prog (Tryz.f3.params.toList++Rows.fnDefaultFetchRequestSpec.plain.varTypes Tryz.prog) (ds++gs)).all (·≤reachBytes)=true:=hsz0
 clear hsz0
 have hval:∀ (j:Nat) t v, Tryz.f3.params[j]? = some t→args[j]? = some v→Value.okWide Tryz.prog W .any base t v:=hval0
 have hW':=hW
 obtain ⟨p, q, hA0, hV, rfl, _, _⟩:=hW
 have hA:DataW.TrodAll enc Tryz.prog W 0 (fun _=>true) true Tryz.f3.params.toList args.toList ds p:=hA0
 rw [Tryz.params3] at hA hval hsz
 obtain ⟨vn, vt, dn, dt, pn, pt, rfl, rfl, rfl, hn, ht⟩:=trodAll_two hA
 obtain ⟨rfl, rfl⟩:=trodVars_none hV
 obtain ⟨n, rfl, rfl, rfl, wn⟩:=open_int treeTy.uy (hval 0 5 vn rfl rfl) hn
 have hvt:=hval 1 26 vt rfl rfl
 obtain ⟨fs, hfs, _⟩:=treeTy.uT
 simp only [Value.okWide, hfs] at hvt
 obtain ⟨cs, rfl, _, _⟩:=hvt
 have htk:=ht
 obtain ⟨fuel, hf⟩:=ht
 clear hA0 hval0
 simp only [List.append_nil] at hW' hk0
 have hltt:∀ x∈pt, x.block < W.heap.size:=fun x hx=>by simpa using hW'.lt x (by simp [hx])
 have hargt:∀ (W':World), Below W.heap.size W W'→DataW.Trod enc Tryz.prog W' 0 (fun b=>decide (b < W.heap.size)) true 26 (.agg cs) dt pt :=
  fun W' hn=>Below.trod Tryz.laidOut (by kernel_rfl) (of_decide_eq_true (by kernel_rfl)) htk hn hltt
 obtain ⟨t, htt, hsm, hsd⟩:=Ms.open_treeB (bulks H) treeTy fuel (by simpa [Value.cells] using hf) (Ms.fits_each hsz 1 26 dt rfl rfl)
 have hbk:Rows.uptoBulk dt≤1048576:=by
  have h8:Rows.uptoBulkAll _≤1048576:=of_decide_eq_true hk0
  have h9:=(bulks H).mem (d:=dt) (l:=_) (by simp:dt∈[DataW.lit (.int .u8 n), dt])
  exact Nat.le_trans h9 h8
 obtain ⟨k, rfl⟩:∃ k:Nat, n=k:=by
  simp [Lit.wf, IntKind.min, IntKind.max, IntKind.signed, IntKind.bits] at wn
  exact ⟨n.toNat, by omega⟩
 have hk:k < 256:=by
  simp [Lit.wf, IntKind.min, IntKind.max, IntKind.signed, IntKind.bits] at wn
  omega
 have hlaw:=Ms.law_DefaultQ k hk t cs.toList W htt (hsm.mono (by decide)) hG hev hbk hsd
 refine Calls.mono hlaw fun e W' he => ?_
 cases e with
 | returned v =>
  obtain ⟨rfl, hE⟩:=he
  have hb:Below W.heap.size W W':=⟨hE.os, hE.tape, hE.output, hE.size, fun b hb=>hE.keep b hb _root_.id⟩
  refine ⟨_, rfl, _, _, _, [], _, [], hW', ?_, trodAll_mk2 (shut_int treeTy.uy wn) (hargt _ hb), rfl, hb.frame _, fun h=>by cases h⟩
  exact trodAll_mk1 (shut_bool treeTy.uB true)
 | panicked c=>exact he.elim
 | outgrown=>exact he.elim
theorem fnDefaultFetchRequest_named : Tryz.pinned.checked.prog.funcNamed Rows.fnDefaultFetchRequestUptoRow.func=some 3:=by kernel_rfl
theorem fnDefaultFetchRequest_instance : (Tryz.f3).isInstance Tryz.pinned.checked.prog Rows.fnDefaultFetchRequestUptoRow.origin Rows.fnDefaultFetchRequestUptoRow.targs:=of_decide_eq_true (by kernel_rfl)
theorem fnDefaultFetchRequest_wrapper : (Tryz.f3).isWrapper Tryz.pinned.checked.prog Rows.fnDefaultFetchRequestUptoRow.wrapper Rows.fnDefaultFetchRequestUptoRow.mainSum:=by
 unfold Func.isWrapper; first|(rw [if_pos (by decide +kernel)]; kernel_rfl)|(rw [if_neg (by decide +kernel)]; exact ⟨rfl, rfl⟩)
theorem fnDefaultFetchRequest_in : (Rows.fnDefaultFetchRequestUptoRow.inPlace == Tryz.pinned.checked.prog.inPlace 3)=true:=by kernel_rfl
theorem fnDefaultFetchRequest_un : (Rows.fnDefaultFetchRequestUptoRow.unfollowed == Tryz.pinned.checked.prog.unfollowed 3)=true:=by kernel_rfl
theorem fnDefaultFetchRequest_rec : (Rows.fnDefaultFetchRequestUptoRow.recurses == Tryz.pinned.checked.prog.recurses 3)=true:=by kernel_rfl
theorem fnDefaultFetchRequest_nam : (Rows.fnDefaultFetchRequestUptoRow.named == Tryz.pinned.checked.prog.varsNamed 3)=true:=by kernel_rfl
theorem fnDefaultFetchRequest_goes : false=Rows.fnDefaultFetchRequestUptoRow.goesBy Tryz.pinned.checked.prog:=by kernel_rfl
theorem fnDefaultFetchRequest_closed : joinedFacts Tryz.pinned.checked.prog 3 Tryz.f3 (Rows.OpenSpec.upto Rows.fnDefaultFetchRequestSpec).bare Rows.fnDefaultFetchRequestUptoRow=true:=by
 unfold joinedFacts
 rw [fnDefaultFetchRequest_in, fnDefaultFetchRequest_un, fnDefaultFetchRequest_rec, fnDefaultFetchRequest_nam, laid0, rowed0, hears0, enters0, lifts0, make0]
 kernel_rfl

theorem fnDefaultFetchRequest_said : Rows.FnDefaultFetchRequestUptoSaid :=
 OpenClaim.holds_of_cond 3 Tryz.f3 rfl rfl rfl rfl rfl rfl rfl ⟨rfl, rfl, rfl, rfl, rfl⟩ rfl rfl rfl rfl rfl fnDefaultFetchRequest_named Tryz.func3 fnDefaultFetchRequest_closed
  fnDefaultFetchRequest_instance fnDefaultFetchRequest_wrapper
  (fun os started H enc _ F=>by rw [OpenClaim.pre_eq_preRow]; exact fnDefaultFetchRequest_lifted os started H enc F)
theorem fnDefaultFetchRequest_plain (f:FuncId) (fn:Func) (hf:Tryz.pinned.checked.prog.funcNamed Rows.fnDefaultFetchRequestUptoRow.func=some f) (hfn:Tryz.pinned.checked.prog.funcs[f]? = some fn) :
  false=Tryz.pinned.checked.prog.looks []∧∀ (j:Nat) t, fn.params[j]? = some t→Tryz.pinned.checked.prog.wantsStandIn t=false:=by
 obtain rfl:f=3:=(Option.some.inj (fnDefaultFetchRequest_named.symm.trans hf)).symm
 obtain rfl:fn=Tryz.f3:=(Option.some.inj (Tryz.func3.symm.trans hfn)).symm
 refine ⟨by kernel_rfl, fun j t ht => ?_⟩
 rw [Tryz.params3] at ht
 have hm:=Array.mem_of_getElem? ht
 simp at hm
 rcases hm with rfl|rfl
 ·exact (show Tryz.prog.wantsStandIn 5=false by kernel_rfl)
 ·exact (show Tryz.prog.wantsStandIn 26=false by kernel_rfl)
theorem fnDefaultFetchRequest_holds : Rows.FnDefaultFetchRequestUptoCardSaid :=
 Claim7.holds_tied_plain_at .later [] _ _ _ _ fnDefaultFetchRequest_said (fun _ h=>by cases h) (by kernel_rfl) (fun _ h=>by cases h) fnDefaultFetchRequestUpto_row_tie rfl ⟨rfl, rfl⟩ (by kernel_rfl) rfl fnDefaultFetchRequest_plain fnDefaultFetchRequest_goes
end Go.Proofs.YtfeaoncgnhhjbaeGreatDoor

