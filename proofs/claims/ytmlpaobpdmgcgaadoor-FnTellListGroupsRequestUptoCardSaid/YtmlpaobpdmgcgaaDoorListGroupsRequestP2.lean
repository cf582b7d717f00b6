/- A part of the proof: see the last text. -/
import Derived.Test.YtmlpaobpdmgcgaaDoorC08
import Derived.Test.YtmlpaobpdmgcgaaDoorC09
import Derived.Test.YtmlpaobpdmgcgaaDoorListGroupsRequestP0
set_option linter.unusedSimpArgs false
set_option linter.unusedVariables false
namespace Ms
open Go.World renaming size_alloc → qI
open Ms renaming size_wr → qJ,size_drew → qK,not_noB → qL
open W renaming seqR → qA,seq → qB,regR → qC,condK → qD,block → qE,skip → qF,ret → qG,exit → qH
open Nat renaming reduceEqDiff → n0,reduceAdd → n1,reduceMul → n2,reduceSub → n3,reduceLT → n4,reduceLeDiff → n5
open Int renaming reduceEq → i0,reduceLT → i1,reduceLE → i2,reduceNeg → i3,reduceAdd → i4,reduceSub → i5,reduceMul → i6,reduceToNat → i7
set_option maxRecDepth 8000
open Go Go.Proofs Go.Shelf
attribute [local congr] W_congr WPsq_congr WPp_congr optK_congr addrK_congr intK_congr boolK_congr sliceK_congr tupleK_congr funcK_congr Fn_congr rawK_congr takeK_congr stepK_congr convK_congr aggK_congr

theorem tagclListGroupsRequest_fn {ok OK : Blocks} {B tb : Nat} (c0 c1 c2 c3 v : Value) (done : List TagD) (y : TagD) (vv : Value) (w : World) (hbt : blk w tb = some (#[c0,c1,c2,c3,v],37,(0,0))) (hg : GrowU OK B tb w 68 v done) (hB : B ≤ w.heap.size) (htb : tb < B) (hvv : BytesV ok w vv y.2) (hy : y.1 < 2 ^ 32) (hyl : y.2.length ≤ 32767) (hdl : done.length ≤ 32767) (hOK : ∀ b,B ≤ b → OK b) :
    Fn Tryd.prog 77 #[.int .u32 y.1,vv,.pointer (some ⟨tb,0,none⟩)] w fun _ w' => (∃ v',blk w' tb = some (#[c0,c1,c2,c3,v'],37,(0,0)) ∧ GrowU OK B tb w' 68 v' (done ++ [y])) ∧ Upd (fun b => b = tb ∨ B ≤ b) w w' := by
  have htl := blk_lt hbt
  refine fn_of_W Tryd.func77 rfl Tryd.results77 Tryd.ntmps77 rfl ?_
  repeat ((first | refine qA rfl ?_|refine qB ?_|refine qC rfl ?_|refine qD ?_|refine qE ?_|refine qF ?_|refine qG ?_|refine qH ?_);try simp (maxSteps:=1000000)(disch:=(first|omega|(simp only [qI,qJ,qK]<;>omega)|exact qL _)) only [go_sem,↓reduceIte,n0,reduceCtorEq,n1,n2,n3,n4,n5,i0,i1,i2,i3,i4,i5,i6,i7])
  obtain ⟨av,kv,rfl,_⟩ := hg.shape
  have hnb : ∀ b,b < B ∨ w.heap.size ≤ b → ¬ ownB (.slice av done.length kv) b := fun b hb h => by
    have := hg.above h
    have := hg.below h
    omega
  refine W.drawR (.take 0 (.take 1 (.take 2 (.take 3 (.only 4 (.only 5 (.only 6 (.only 7 (.take 8 (.last 9)))))))))) (ownB (.slice av done.length kv)) mixed (by kernel_rfl) ?_
  simp (maxSteps:=1000000)(disch:=(first|omega|(simp only [qI,qJ,qK]<;>omega)|exact qL _ | (refine hnb _ ?_;first | omega | (simp only [World.size_alloc,size_wr,size_drew] <;> omega)))) only [go_sem,↓reduceIte,n0,reduceCtorEq,n1,n2,n3,n4,n5,i0,i1,i2,i3,i4,i5,i6,i7,hbt]
  refine wp_copyN ap_22_22 (ok := ok) (s := y.2) (v := vv) (by first | rfl | simp (maxSteps:=1000000)(disch:=(first|omega|(simp only [qI,qJ,qK]<;>omega)|exact qL _)) only [go_sem,↓reduceIte,n0,reduceCtorEq,n1,n2,n3,n4,n5,i0,i1,i2,i3,i4,i5,i6,i7]) (by first | rfl | simp (maxSteps:=1000000)(disch:=(first|omega|(simp only [qI,qJ,qK]<;>omega)|exact qL _)) only [go_sem,↓reduceIte,n0,reduceCtorEq,n1,n2,n3,n4,n5,i0,i1,i2,i3,i4,i5,i6,i7]) (hvv.keep (Ext.keeps ((Upd.refl _ _).drew) _)) (by omega) ?_
  intro v1 w1 ho1 hE1 hf1
  obtain ⟨a1,k1,rfl,_⟩ := ho1.shape
  have hB1 := Own.bytes (ok := fun b => w.heap.size ≤ b) ho1 fun b hb => hf1 b hb
  have hP1 : Upd (ownB (.slice av done.length kv)) w.drew w1 := hE1.mono fun _ h => h.elim
  have hs1 := hE1.size
  simp only [size_drew] at hs1
  refine ⟨hP1,?_⟩
  simp (maxSteps:=1000000)(disch:=(first|omega|(simp only [qI,qJ,qK]<;>omega)|exact qL _ | (refine hnb _ ?_;first | omega | (simp only [World.size_alloc,size_wr,size_drew] <;> omega)))) only [go_sem,↓reduceIte,n0,reduceCtorEq,n1,n2,n3,n4,n5,i0,i1,i2,i3,i4,i5,i6,i7,hbt]
  refine ⟨hP1,?_⟩
  have hP2 : Upd (ownB (.slice av done.length kv)) w.drew (w1.alloc (.cells #[.int .u32 y.1,.slice a1 y.2.length k1] 68)) := hP1.alloc _
  have hn2 : blk (w1.alloc (.cells #[.int .u32 y.1,.slice a1 y.2.length k1] 68)) w1.heap.size = some (#[.int .u32 y.1,.slice a1 y.2.length k1],68,(0,0)) := blk_alloc_new rfl
  have hs2 : (w1.alloc (.cells #[.int .u32 y.1,.slice a1 y.2.length k1] 68)).heap.size = w1.heap.size + 1 := World.size_alloc _ _
  have hE2 : Ext w1 (w1.alloc (.cells #[.int .u32 y.1,.slice a1 y.2.length k1] 68)) := Upd.alloc (Upd.refl _ _) _
  refine ⟨hP2,?_⟩
  try simp only [List.append_nil]
  generalize (w1.alloc (.cells #[.int .u32 y.1,.slice a1 y.2.length k1] 68)) = w2 at *
  have hEw : Ext w w2 := (((Upd.refl _ _).drew).trans hE1).trans hE2
  obtain ⟨css,hown,hall⟩ := (hg.ext hEw).ex
  have hcl := hall.1
  have hx2 : TagC (fun b => OK b ∧ b ≠ tb ∧ ¬ ownB (.slice av done.length kv) b) w2 y [.int .u32 y.1,.slice a1 y.2.length k1] := ⟨_,rfl,(hB1.keep (hE2.keeps _)).weaken fun b _ hk => ⟨hOK b (by omega),by omega,hnb b (.inr hk)⟩,hy⟩
  refine wp_append ap_35_35 (m := 1) (news := [.int .u32 y.1,.slice a1 y.2.length k1]) (n := css.length) (cs := css.flatten) (v := .slice av done.length kv) ?_ rfl hown.1 hall.flat_cells (Src.blk (fr := (0,0)) (T := 68) hn2 rfl rfl) ?_ ?_ ?_
  · first | rfl | simp (maxSteps:=1000000)(disch:=(first|omega|(simp only [qI,qJ,qK]<;>omega)|exact qL _)) only [go_sem,↓reduceIte,n0,reduceCtorEq,n1,n2,n3,n4,n5,i0,i1,i2,i3,i4,i5,i6,i7]
  · omega
  · omega
  intro v' w3 ho hu hfr
  have hg3 := GrowU.snoc hown hall hx2 hu hfr ho
  obtain ⟨va,vc,hv',_⟩ := ho.shape
  subst hv'
  have hP3 := hP2.trans hu
  have hs3 := hu.size
  have hbt3 := hP3.blk_some (show blk w.drew tb = _ from hbt) (hnb _ (.inl htb))
  have hne : ¬ ownB (.slice va (css.length + 1) vc) tb := fun h => (hfr _ h).elim (hnb _ (.inl htb)) (fun h => by omega)
  refine ⟨hP3,?_⟩
  simp (maxSteps:=1000000)(disch:=(first|omega|(simp only [qI,qJ,qK]<;>omega)|exact qL _ | (refine hnb _ ?_;first | omega | (simp only [World.size_alloc,size_wr,size_drew] <;> omega)))) only [go_sem,↓reduceIte,n0,reduceCtorEq,n1,n2,n3,n4,n5,i0,i1,i2,i3,i4,i5,i6,i7,hbt3]
  repeat ((first | refine qA rfl ?_|refine qB ?_|refine qC rfl ?_|refine qD ?_|refine qE ?_|refine qF ?_|refine qG ?_|refine qH ?_);try simp (maxSteps:=1000000)(disch:=(first|omega|(simp only [qI,qJ,qK]<;>omega)|exact qL _)) only [go_sem,↓reduceIte,n0,reduceCtorEq,n1,n2,n3,n4,n5,i0,i1,i2,i3,i4,i5,i6,i7])
  refine ⟨⟨.slice va (css.length + 1) vc,by first | (rw [blk_wr_eq,hbt3];rfl) | rfl | (rw [hbt3];rfl) | (rw [blk_wr_eq,hbt3]),hg3.upd ((Upd.refl _ _).wr _ _ (.inr rfl)) hne⟩,?_⟩
  refine Upd.wr ?_ _ _ (.inr (.inl rfl))
  exact (((Upd.refl (fun b => b = tb ∨ B ≤ b) w).drew).trans (hP3.mono fun b h => .inr (hg.above h)))

set_option maxHeartbeats 4000000 in
theorem tellListGroupsRequest_fn {d : Nat} {ok : Blocks} (t : Tree) (cs : List Value) (w : World) {b : Nat} {x : Blk} (hb : blk w b = some x) (hq : ∀ k,k < 3 → x.1[1 + k]? = cs[k]?) (hR : RepS true (d + 1) fs_ListGroupsRequest ok w t cs) (hg : GoodP (d + 1) fs_ListGroupsRequest t) :
    Fn Tryd.prog 52 #[.pointer (some ⟨b,0,none⟩)] w fun r w' => (∃ c,r = .agg c.toArray ∧ TreeC (fun b => w.heap.size ≤ b) w' (tlP (d + 1) fs_ListGroupsRequest t) c) ∧ Ext w w' := by
  have hbl := blk_lt hb
  obtain ⟨⟨gd0,gd1,-⟩,hgu⟩ := hg
  replace gd0 : GoodF (GoodP d) fListGroupsRequest_0 (t.at 0) := gd0
  replace gd1 : GoodF (GoodP d) fListGroupsRequest_1 (t.at 1) := gd1
  obtain ⟨cs0,q,hcs,hL,hT⟩ := hR.inv
  obtain ⟨c0,e0,rfl,h0,c1,e1,rfl,h1,rfl⟩ := hL
  replace h0 : RepF (RepS true d) (szS true d) fListGroupsRequest_0 ok w (t.at 0) c0 := h0
  replace h1 : RepF (RepS true d) (szS true d) fListGroupsRequest_1 ok w (t.at 1) c1 := h1
  obtain ⟨ab0,ac0,L0,rfl,hL0,hnn0,hs0⟩ := RepF_listT rfl h0
  have hgl0 := gd0.listL rfl hL0
  obtain ⟨ab1,ac1,L1,rfl,hL1,hnn1,hs1⟩ := RepF_listT rfl h1
  have hgl1 := gd1.listL rfl hL1
  obtain ⟨qm,rfl⟩ := hT.shape
  subst hcs
  have hq0 : x.1[1]? = some (.slice ab0 L0.length ac0) := hq 0 (by decide)
  have hq1 : x.1[2]? = some (.slice ab1 L1.length ac1) := hq 1 (by decide)
  have hq2 : x.1[3]? = some (.map qm) := hq 2 (by decide)
  refine fn_of_W Tryd.func52 rfl Tryd.results52 Tryd.ntmps52 rfl ?_
  repeat ((first | refine qA rfl ?_|refine qB ?_|refine qC rfl ?_|refine qD ?_|refine qE ?_|refine qF ?_|refine qG ?_|refine qH ?_);try simp (maxSteps:=1000000)(disch:=(first|omega|(simp only [qI,qJ,qK]<;>omega)|exact qL _)) only [go_sem,↓reduceIte,n0,reduceCtorEq,n1,n2,n3,n4,n5,i0,i1,i2,i3,i4,i5,i6,i7])
  refine wp_make (T := 34) (E := 37) (size := 5) (bytes := 88) (z := .agg #[.int .i64 0,.slice none 0 0,.bool false,.slice none 0 0,.slice none 0 0]) (l := 2) (c := 2) (kl := .i64) (kc := .i64) (by kernel_rfl) (by kernel_rfl) (by first | rfl | (simp (maxSteps:=1000000)(disch:=(first|omega|(simp only [qI,qJ,qK]<;>omega)|exact qL _)) only [go_sem,↓reduceIte,n0,reduceCtorEq,n1,n2,n3,n4,n5,i0,i1,i2,i3,i4,i5,i6,i7];rfl)) (by first | rfl | (simp (maxSteps:=1000000)(disch:=(first|omega|(simp only [qI,qJ,qK]<;>omega)|exact qL _)) only [go_sem,↓reduceIte,n0,reduceCtorEq,n1,n2,n3,n4,n5,i0,i1,i2,i3,i4,i5,i6,i7];rfl)) (by omega) (by omega) (by omega) ?_
  have hmd : madeCells (Value.agg #[.int .i64 0,.slice none 0 0,.bool false,.slice none 0 0,.slice none 0 0]).cells (2 * 5) = #[.int .i64 0,.slice none 0 0,.bool false,.slice none 0 0,.slice none 0 0,.int .i64 0,.slice none 0 0,.bool false,.slice none 0 0,.slice none 0 0] := by kernel_rfl
  rw [hmd]
  simp (maxSteps:=1000000)(disch:=(first|omega|(simp only [qI,qJ,qK]<;>omega)|exact qL _)) only [go_sem,↓reduceIte,n0,reduceCtorEq,n1,n2,n3,n4,n5,i0,i1,i2,i3,i4,i5,i6,i7]
  repeat ((first | refine qA rfl ?_|refine qB ?_|refine qC rfl ?_|refine qD ?_|refine qE ?_|refine qF ?_|refine qG ?_|refine qH ?_);try simp (maxSteps:=1000000)(disch:=(first|omega|(simp only [qI,qJ,qK]<;>omega)|exact qL _)) only [go_sem,↓reduceIte,n0,reduceCtorEq,n1,n2,n3,n4,n5,i0,i1,i2,i3,i4,i5,i6,i7])
  have hE1 : Ext w (wr (((w.alloc (.cells #[.int .i64 0,.slice none 0 0,.bool false,.slice none 0 0,.slice none 0 0] 37)).alloc (.cells #[.int .i64 0,.slice none 0 0,.bool false,.slice none 0 0,.slice none 0 0,.int .i64 0,.slice none 0 0,.bool false,.slice none 0 0,.slice none 0 0] 37)).alloc (.cells #[.int .i64 0,.slice none 0 0,.bool false,.slice none 0 0,.slice none 0 0] 37)) (w.heap.size + 2) 0 [.int .i64 0,.slice none 0 0,.bool false,.slice (some ⟨w.heap.size + 1,0,none⟩) 2 2,.slice none 0 0]) := (Upd.alloc (Upd.alloc (Upd.alloc (Upd.refl _ _) _) _) _).wr _ _ (.inl (by omega))
  have hz1 : (wr (((w.alloc (.cells #[.int .i64 0,.slice none 0 0,.bool false,.slice none 0 0,.slice none 0 0] 37)).alloc (.cells #[.int .i64 0,.slice none 0 0,.bool false,.slice none 0 0,.slice none 0 0,.int .i64 0,.slice none 0 0,.bool false,.slice none 0 0,.slice none 0 0] 37)).alloc (.cells #[.int .i64 0,.slice none 0 0,.bool false,.slice none 0 0,.slice none 0 0] 37)) (w.heap.size + 2) 0 [.int .i64 0,.slice none 0 0,.bool false,.slice (some ⟨w.heap.size + 1,0,none⟩) 2 2,.slice none 0 0]).heap.size = w.heap.size + 3 := by simp only [size_wr,World.size_alloc]
  have hl1 : blk (wr (((w.alloc (.cells #[.int .i64 0,.slice none 0 0,.bool false,.slice none 0 0,.slice none 0 0] 37)).alloc (.cells #[.int .i64 0,.slice none 0 0,.bool false,.slice none 0 0,.slice none 0 0,.int .i64 0,.slice none 0 0,.bool false,.slice none 0 0,.slice none 0 0] 37)).alloc (.cells #[.int .i64 0,.slice none 0 0,.bool false,.slice none 0 0,.slice none 0 0] 37)) (w.heap.size + 2) 0 [.int .i64 0,.slice none 0 0,.bool false,.slice (some ⟨w.heap.size + 1,0,none⟩) 2 2,.slice none 0 0]) (w.heap.size + 1) = some (#[.int .i64 0,.slice none 0 0,.bool false,.slice none 0 0,.slice none 0 0,.int .i64 0,.slice none 0 0,.bool false,.slice none 0 0,.slice none 0 0],37,(0,0)) := by simp (maxSteps:=1000000)(disch:=(first|omega|(simp only [qI,qJ,qK]<;>omega)|exact qL _)) only [go_sem,↓reduceIte,n0,reduceCtorEq,n1,n2,n3,n4,n5,i0,i1,i2,i3,i4,i5,i6,i7]
  have ht1 : blk (wr (((w.alloc (.cells #[.int .i64 0,.slice none 0 0,.bool false,.slice none 0 0,.slice none 0 0] 37)).alloc (.cells #[.int .i64 0,.slice none 0 0,.bool false,.slice none 0 0,.slice none 0 0,.int .i64 0,.slice none 0 0,.bool false,.slice none 0 0,.slice none 0 0] 37)).alloc (.cells #[.int .i64 0,.slice none 0 0,.bool false,.slice none 0 0,.slice none 0 0] 37)) (w.heap.size + 2) 0 [.int .i64 0,.slice none 0 0,.bool false,.slice (some ⟨w.heap.size + 1,0,none⟩) 2 2,.slice none 0 0]) (w.heap.size + 2) = some (#[.int .i64 0,.slice none 0 0,.bool false,.slice (some ⟨w.heap.size + 1,0,none⟩) 2 2,.slice none 0 0],37,(0,0)) := by simp (maxSteps:=1000000)(disch:=(first|omega|(simp only [qI,qJ,qK]<;>omega)|exact qL _)) only [go_sem,↓reduceIte,n0,reduceCtorEq,n1,n2,n3,n4,n5,i0,i1,i2,i3,i4,i5,i6,i7]
  have hr1 : blk (wr (((w.alloc (.cells #[.int .i64 0,.slice none 0 0,.bool false,.slice none 0 0,.slice none 0 0] 37)).alloc (.cells #[.int .i64 0,.slice none 0 0,.bool false,.slice none 0 0,.slice none 0 0,.int .i64 0,.slice none 0 0,.bool false,.slice none 0 0,.slice none 0 0] 37)).alloc (.cells #[.int .i64 0,.slice none 0 0,.bool false,.slice none 0 0,.slice none 0 0] 37)) (w.heap.size + 2) 0 [.int .i64 0,.slice none 0 0,.bool false,.slice (some ⟨w.heap.size + 1,0,none⟩) 2 2,.slice none 0 0]) w.heap.size = some (#[.int .i64 0,.slice none 0 0,.bool false,.slice none 0 0,.slice none 0 0],37,(0,0)) := by simp (maxSteps:=1000000)(disch:=(first|omega|(simp only [qI,qJ,qK]<;>omega)|exact qL _)) only [go_sem,↓reduceIte,n0,reduceCtorEq,n1,n2,n3,n4,n5,i0,i1,i2,i3,i4,i5,i6,i7]
  generalize (wr (((w.alloc (.cells #[.int .i64 0,.slice none 0 0,.bool false,.slice none 0 0,.slice none 0 0] 37)).alloc (.cells #[.int .i64 0,.slice none 0 0,.bool false,.slice none 0 0,.slice none 0 0,.int .i64 0,.slice none 0 0,.bool false,.slice none 0 0,.slice none 0 0] 37)).alloc (.cells #[.int .i64 0,.slice none 0 0,.bool false,.slice none 0 0,.slice none 0 0] 37)) (w.heap.size + 2) 0 [.int .i64 0,.slice none 0 0,.bool false,.slice (some ⟨w.heap.size + 1,0,none⟩) 2 2,.slice none 0 0]) = w1 at *
  have hU1 : Upd (fun b => b = w.heap.size + 1 ∨ b = w.heap.size + 2) w1 w1 := Upd.refl _ _
  have hb1 := hE1.blk_some hb id
  repeat ((first | refine qA rfl ?_|refine qB ?_|refine qC rfl ?_|refine qD ?_|refine qE ?_|refine qF ?_|refine qG ?_|refine qH ?_);try simp (maxSteps:=1000000)(disch:=(first|omega|(simp only [qI,qJ,qK]<;>omega)|exact qL _)) only [go_sem,↓reduceIte,n0,reduceCtorEq,n1,n2,n3,n4,n5,i0,i1,i2,i3,i4,i5,i6,i7,hb1,hl1,ht1,hq0,hq1,hq2])
  refine W.drawR (.take 0 (.take 1 (.take 2 (.take 3 (.take 4 (.take 5 (.take 6 (.take 7 (.take 8 (.last 9)))))))))) (NoB) mixed (by kernel_rfl) ?_
  try simp (maxSteps:=1000000)(disch:=(first|omega|(simp only [qI,qJ,qK]<;>omega)|exact qL _)) only [go_sem,↓reduceIte,n0,reduceCtorEq,n1,n2,n3,n4,n5,i0,i1,i2,i3,i4,i5,i6,i7,hb1,hl1,ht1,hq0,hq1,hq2,hnn0]
  generalize hw2 : wr w1.drew (w.heap.size + 1) 2 [.bool (t.at 0).null] = w2
  have hl2 : blk w2 (w.heap.size + 1) = some (#[.int .i64 0,.slice none 0 0,.bool (t.at 0).null,.slice none 0 0,.slice none 0 0,.int .i64 0,.slice none 0 0,.bool false,.slice none 0 0,.slice none 0 0],37,(0,0)) := by rw [← hw2,blk_wr_eq,show blk w1.drew (w.heap.size + 1) = _ from hl1];rfl
  have hV2 : Upd (fun b => b = w.heap.size + 1 ∨ b = w.heap.size + 2) w1 w2 := by rw [← hw2];exact ((Upd.refl _ _).drew).wr _ _ (.inr (.inl rfl))
  have hU2 : Upd (fun b => b = w.heap.size + 1 ∨ b = w.heap.size + 2) w1 w2 := hU1.trans hV2
  have hz2 := hU2.size
  have hX2 : Ext w w2 := hE1.more hU2 fun b hb h => by omega
  have hb2 := hX2.blk_some hb id
  have ht2 : blk w2 (w.heap.size + 2) = some (#[.int .i64 0,.slice none 0 0,.bool false,.slice (some ⟨w.heap.size + 1,0,none⟩) 2 2,.slice none 0 0],37,(0,0)) := by
    rw [← hw2,blk_wr_ne (by omega)]
    exact ht1
  clear hw2
  repeat ((first | refine qA rfl ?_|refine qB ?_|refine qC rfl ?_|refine qD ?_|refine qE ?_|refine qF ?_|refine qG ?_|refine qH ?_);try simp (maxSteps:=1000000)(disch:=(first|omega|(simp only [qI,qJ,qK]<;>omega)|exact qL _)) only [go_sem,↓reduceIte,n0,reduceCtorEq,n1,n2,n3,n4,n5,i0,i1,i2,i3,i4,i5,i6,i7,hb2,hl2,ht2,hq0,hq1,hq2])
  refine W.exitJ 0 (EndQ [(0,.pointer (some ⟨b,0,none⟩)),(2,.pointer (some ⟨w.heap.size,0,none⟩)),(3,.pointer (some ⟨w.heap.size + 2,0,none⟩)),(21,.int .i64 L0.length)] (fun w' => ∃ v,blk w' (w.heap.size + 1) = some (#[.int .i64 0,.slice none 0 0,.bool (t.at 0).null,v,.slice none 0 0,.int .i64 0,.slice none 0 0,.bool false,.slice none 0 0,.slice none 0 0],37,(0,0)) ∧ GrowT (fun b => w1.heap.size ≤ b) w2.heap.size (w.heap.size + 1) w' 37 v (L0.map (tl1 (tlP d) fListGroupsRequest_0.of fListGroupsRequest_0.sub)) ∧ Upd (fun b => b = w.heap.size + 1) w2 w')) (W.loop (LoopL [(0,.pointer (some ⟨b,0,none⟩)),(2,.pointer (some ⟨w.heap.size,0,none⟩)),(3,.pointer (some ⟨w.heap.size + 2,0,none⟩)),(21,.int .i64 L0.length)] 22 (fun j w' => ∃ v,j ≤ L0.length ∧ blk w' (w.heap.size + 1) = some (#[.int .i64 0,.slice none 0 0,.bool (t.at 0).null,v,.slice none 0 0,.int .i64 0,.slice none 0 0,.bool false,.slice none 0 0,.slice none 0 0],37,(0,0)) ∧ GrowT (fun b => w1.heap.size ≤ b) w2.heap.size (w.heap.size + 1) w' 37 v ((L0.take j).map (tl1 (tlP d) fListGroupsRequest_0.of fListGroupsRequest_0.sub)) ∧ Upd (fun b => b = w.heap.size + 1) w2 w')) (fun ρ _ => L0.length - (RowKit.intOf (ρ 22)).toNat) ?_ ?_) ?_
  · exact ⟨(by simp (maxSteps:=1000000)(disch:=(first|omega|(simp only [qI,qJ,qK]<;>omega)|exact qL _)) only [go_sem,↓reduceIte,n0,reduceCtorEq,n1,n2,n3,n4,n5,i0,i1,i2,i3,i4,i5,i6,i7,Holds_nil,Holds_cons]),0,(by simp (maxSteps:=1000000)(disch:=(first|omega|(simp only [qI,qJ,qK]<;>omega)|exact qL _)) only [go_sem,↓reduceIte,n0,reduceCtorEq,n1,n2,n3,n4,n5,i0,i1,i2,i3,i4,i5,i6,i7];all_goals rfl),.slice none 0 0,Nat.zero_le _,hl2,GrowT.nil _ _ _ _ _,Upd.refl _ _⟩
  · rintro ρ w3 ⟨⟨hrc0_0,hrc0_2,hrc0_3,hrc0_21,-⟩,j,hri,v,hj,hl3,hg,hUk⟩
    have hzk := hUk.size
    have hX3 : Ext w w3 := hX2.more hUk fun b hb h => by omega
    have hz3 : w1.heap.size ≤ w3.heap.size := by have := hz2;omega
    have hb3 := hX3.blk_some hb id
    have ht3 := hUk.blk_some ht2 (by omega)
    by_cases hlt : j < L0.length
    · obtain ⟨_,be,oe,xe,ce,hbe,hoke,hxe,hble,hxs,hxx,hqe,hRe⟩ := SlR.get (size := 1) (by decide) hs0 hlt
      subst hbe
      have hcat : L0.take (j + 1) = L0.take j ++ [L0[j]] := List.take_succ_eq_append_getElem hlt
      have hgy := hgl0.2 _ (List.getElem_mem hlt)
      have hll := hgl0.1
      obtain ⟨av,kv,hvs,_⟩ := hg.shape
      have hlj : (List.map (tl1 (tlP d) fListGroupsRequest_0.of fListGroupsRequest_0.sub) (L0.take j)).length = j := by simp;omega
      rw [hlj] at hvs
      subst hvs
      have hnb : ∀ b,b < w2.heap.size ∨ w3.heap.size ≤ b → ¬ ownB (.slice av j kv) b := fun b hb h => by
        have := hg.above h
        have := hg.below h
        omega
      generalize L0[j] = y at *
      obtain rfl := Rep1_text.1 hRe
      have hqe0 : xe.1[oe + j]? = some (strV y.s) := by have := hqe 0 (by decide);rw [Nat.mul_one] at this;exact this
      repeat ((first | refine qA rfl ?_|refine qB ?_|refine qC rfl ?_|refine qD ?_|refine qE ?_|refine qF ?_|refine qG ?_|refine qH ?_);try simp (maxSteps:=1000000)(disch:=(first|omega|(simp only [qI,qJ,qK]<;>omega)|exact qL _)) only [go_sem,↓reduceIte,n0,reduceCtorEq,n1,n2,n3,n4,n5,i0,i1,i2,i3,i4,i5,i6,i7,hb3,hl3,ht3,hq0,hq1,hq2,hrc0_0,hrc0_2,hrc0_3,hrc0_21,hri])
      refine W.drawR (.only 0 (.two 1 (.only 2 (.only 3 .done)) 2 (.only 1 (.only 3 .done)))) NoB mixed (by kernel_rfl) ?_
      try simp (maxSteps:=1000000)(disch:=(first|omega|(simp only [qI,qJ,qK]<;>omega)|exact qL _)) only [go_sem,↓reduceIte,n0,reduceCtorEq,n1,n2,n3,n4,n5,i0,i1,i2,i3,i4,i5,i6,i7,hb3,hl3,ht3,hq0,hq1,hq2,hrc0_0,hrc0_2,hrc0_3,hrc0_21,hri]
      have q0 : Upd NoB w3.drew (w3.alloc (.cells #[.bool false] 4)).drew := show Upd NoB w3.drew (w3.drew.alloc (.cells #[.bool false] 4)) from Upd.alloc (Upd.refl _ _) _
      have q1 : Upd NoB w3.drew (wr (w3.alloc (.cells #[.bool false] 4)).drew w3.heap.size 0 [.bool true]) := q0.wr _ _ (.inl (Nat.le_refl _))
      have q2 : Upd NoB w3.drew (wr (wr (w3.alloc (.cells #[.bool false] 4)).drew w3.heap.size 0 [.bool true]) w3.heap.size 0 [.bool false]) := q1.wr _ _ (.inl (Nat.le_refl _))
      have q3 : Upd NoB w3.drew (wr (w3.alloc (.cells #[.bool false] 4)).drew w3.heap.size 0 [.bool false]) := q0.wr _ _ (.inl (Nat.le_refl _))
      have q4 : Upd NoB w3.drew (wr (wr (w3.alloc (.cells #[.bool false] 4)).drew w3.heap.size 0 [.bool false]) w3.heap.size 0 [.bool true]) := q3.wr _ _ (.inl (Nat.le_refl _))
      refine ⟨q0,⟨q1,q2,q2,?_⟩,⟨q3,q4,q4,?_⟩⟩
      · have hk4 : Ext w3 (wr (wr (w3.alloc (.cells #[.bool false] 4)).drew w3.heap.size 0 [.bool true]) w3.heap.size 0 [.bool false]) := ((Upd.refl _ _).drew).trans q2
        generalize (wr (wr (w3.alloc (.cells #[.bool false] 4)).drew w3.heap.size 0 [.bool true]) w3.heap.size 0 [.bool false]) = w4 at *
        have hzk4 := hk4.size
        have hX4 : Ext w w4 := hX3.trans hk4
        have hb4 := hk4.blk_some hb3 id
        have hl4 := hk4.blk_some hl3 id
        have ht4 := hk4.blk_some ht3 id
        have hxe4 := hX4.blk_some hxe id
        repeat ((first | refine qA rfl ?_|refine qB ?_|refine qC rfl ?_|refine qD ?_|refine qE ?_|refine qF ?_|refine qG ?_|refine qH ?_);try simp (maxSteps:=1000000)(disch:=(first|omega|(simp only [qI,qJ,qK]<;>omega)|exact qL _)) only [go_sem,↓reduceIte,n0,reduceCtorEq,n1,n2,n3,n4,n5,i0,i1,i2,i3,i4,i5,i6,i7,hb4,hl4,ht4,hxe4,Int.toNat_natCast,Nat.mul_one,hq0,hq1,hq2,hqe0,hrc0_0,hrc0_2,hrc0_3,hrc0_21,hri])
        refine W.drawR (.take 0 (.take 1 (.take 2 (.take 3 (.take 4 (.take 5 (.take 6 (.take 7 (.take 8 (.take 9 (.take 10 (.take 11 (.take 12 (.take 13 (.only 14 (.only 15 (.only 16 (.only 17 (.take 18 (.take 19 (.last 20))))))))))))))))))))) (ownB (.slice av j kv)) mixed (by kernel_rfl) ?_
        try simp (maxSteps:=1000000)(disch:=(first|omega|(simp only [qI,qJ,qK]<;>omega)|exact qL _ | (refine hnb _ ?_;first | omega | (simp only [World.size_alloc,size_wr,size_drew] <;> omega)))) only [go_sem,↓reduceIte,n0,reduceCtorEq,n1,n2,n3,n4,n5,i0,i1,i2,i3,i4,i5,i6,i7,hb4,hl4,ht4,hxe4,Int.toNat_natCast,Nat.mul_one,hq0,hq1,hq2,hqe0,hrc0_0,hrc0_2,hrc0_3,hrc0_21,hri]
        refine wp_octets (S := 9) (T := 22) (E := 5) (s := y.s) (by kernel_rfl) (by kernel_rfl) (by kernel_rfl) (by first | rfl | simp (maxSteps:=1000000)(disch:=(first|omega|(simp only [qI,qJ,qK]<;>omega)|exact qL _)) only [go_sem,↓reduceIte,n0,reduceCtorEq,n1,n2,n3,n4,n5,i0,i1,i2,i3,i4,i5,i6,i7,hb4,hl4,ht4,hxe4,Int.toNat_natCast,Nat.mul_one,hq0,hq1,hq2,hqe0,hrc0_0,hrc0_2,hrc0_3,hrc0_21,hri]) ?_
        intro a5 k5 w5 hB5 hEx5
        have hP5 : Upd (ownB (.slice av j kv)) w4.drew w5 := (Upd.refl _ _).trans (hEx5.mono fun _ h => h.elim)
        have hsq5 := hEx5.size
        try simp only [size_drew] at hsq5
        refine ⟨hP5,?_⟩
        try simp (maxSteps:=1000000)(disch:=(first|omega|(simp only [qI,qJ,qK]<;>omega)|exact qL _ | (refine hnb _ ?_;first | omega | (simp only [World.size_alloc,size_wr,size_drew] <;> omega)))) only [go_sem,↓reduceIte,n0,reduceCtorEq,n1,n2,n3,n4,n5,i0,i1,i2,i3,i4,i5,i6,i7,hb4,hl4,ht4,hxe4,Int.toNat_natCast,Nat.mul_one,hq0,hq1,hq2,hqe0,hrc0_0,hrc0_2,hrc0_3,hrc0_21,hri]
        refine ⟨hP5,?_⟩
        have hP6 : Upd (ownB (.slice av j kv)) w4.drew (w5.alloc (.cells #[.int .i64 0,.slice (some a5) y.s.length k5,.bool false,.slice none 0 0,.slice none 0 0] 37)) := show Upd (ownB (.slice av j kv)) w4.drew (w5.alloc (.cells #[.int .i64 0,.slice (some a5) y.s.length k5,.bool false,.slice none 0 0,.slice none 0 0] 37)) from (hP5).alloc _
        have hn6 : blk (w5.alloc (.cells #[.int .i64 0,.slice (some a5) y.s.length k5,.bool false,.slice none 0 0,.slice none 0 0] 37)) w5.heap.size = some (#[.int .i64 0,.slice (some a5) y.s.length k5,.bool false,.slice none 0 0,.slice none 0 0],37,(0,0)) := show blk (w5.alloc (.cells #[.int .i64 0,.slice (some a5) y.s.length k5,.bool false,.slice none 0 0,.slice none 0 0] 37)) w5.heap.size = some (#[.int .i64 0,.slice (some a5) y.s.length k5,.bool false,.slice none 0 0,.slice none 0 0],37,(0,0)) from blk_alloc_new rfl
        have hsq6 : (w5.alloc (.cells #[.int .i64 0,.slice (some a5) y.s.length k5,.bool false,.slice none 0 0,.slice none 0 0] 37)).heap.size = w5.heap.size + 1 := show (w5.alloc (.cells #[.int .i64 0,.slice (some a5) y.s.length k5,.bool false,.slice none 0 0,.slice none 0 0] 37)).heap.size = w5.heap.size + 1 from World.size_alloc _ _
        have hEx6 : Ext w5 (w5.alloc (.cells #[.int .i64 0,.slice (some a5) y.s.length k5,.bool false,.slice none 0 0,.slice none 0 0] 37)) := show Ext w5 (w5.alloc (.cells #[.int .i64 0,.slice (some a5) y.s.length k5,.bool false,.slice none 0 0,.slice none 0 0] 37)) from Upd.alloc (Upd.refl _ _) _
        refine ⟨hP6,?_⟩
        try simp only [List.append_nil]
        generalize (w5.alloc (.cells #[.int .i64 0,.slice (some a5) y.s.length k5,.bool false,.slice none 0 0,.slice none 0 0] 37)) = w6 at *
        try simp only [size_drew] at hsq6
        have hEw7 : Ext w3 w6 := ((hk4.drew.trans hEx5).trans hEx6)
        have hzw7 := hEw7.size
        obtain ⟨css,hown,hall⟩ := (hg.ext hEw7).ex
        have hcl := hall.1
        rw [hlj] at hcl
        have hx7 : TreeC (fun b => (fun b => w1.heap.size ≤ b) b ∧ b ≠ w.heap.size + 1 ∧ ¬ ownB (.slice av j kv) b) w6 ((tl1 (tlP d) fListGroupsRequest_0.of fListGroupsRequest_0.sub) y) [.int .i64 0,.slice (some a5) y.s.length k5,.bool false,.slice none 0 0,.slice none 0 0] := by
          exact TreeC.weaken (fun b _ hk => ⟨by omega,by omega,hnb b (.inr (by omega))⟩) (TreeC.weaken (ok' := fun b => w3.heap.size ≤ b) (fun b _ hk => by have hk' : w4.drew.heap.size ≤ b := hk;(try simp only [size_drew] at hk');omega) (TreeC.keep (Ext.keeps hEx6 _) (TreeC.intro rfl hB5 (treesN _ _) (tagsN _ _) : TreeC _ _ (.oct false y.s) [.int .i64 0,.slice (some a5) y.s.length k5,.bool false,.slice none 0 0,.slice none 0 0])))
        refine wp_append ap_34_34 (m := 1) (news := [.int .i64 0,.slice (some a5) y.s.length k5,.bool false,.slice none 0 0,.slice none 0 0]) (n := css.length) (cs := css.flatten) (v := (.slice av j kv)) ?_ rfl hown.1 (all2_flat_tree hall) (Src.blk (fr := (0,0)) (T := 37) hn6 rfl rfl) ?_ ?_ ?_
        · first | rfl | simp (maxSteps:=1000000)(disch:=(first|omega|(simp only [qI,qJ,qK]<;>omega)|exact qL _)) only [go_sem,↓reduceIte,n0,reduceCtorEq,n1,n2,n3,n4,n5,i0,i1,i2,i3,i4,i5,i6,i7]
        · omega
        · omega
        intro v' w7 ho hu hfr
        have hP7 := (hP6 : Upd (ownB (.slice av j kv)) w4.drew w6).trans hu
        have hzq7 := hP7.size
        simp only [size_drew] at hzq7
        have hlq7 := hP7.blk_some (show blk w4.drew (w.heap.size + 1) = _ from hl4) (hnb _ (.inl (by omega)))
        have hg' := GrowT.snoc hown hall hx7 hu hfr ho
        obtain ⟨va,vc,hv',_⟩ := ho.shape
        subst hv'
        have hne : ¬ ownB (.slice va (css.length + 1) vc) (w.heap.size + 1) := fun h => (hfr _ h).elim (hnb _ (.inl (by omega))) (fun h => by omega)
        refine ⟨hP7,?_⟩
        try simp (maxSteps:=1000000)(disch:=(first|omega|(simp only [qI,qJ,qK]<;>omega)|exact qL _ | (refine hnb _ ?_;first | omega | (simp only [World.size_alloc,size_wr,size_drew] <;> omega)))) only [go_sem,↓reduceIte,n0,reduceCtorEq,n1,n2,n3,n4,n5,i0,i1,i2,i3,i4,i5,i6,i7,hlq7,Int.toNat_natCast,Nat.mul_one,hrc0_0,hrc0_2,hrc0_3,hrc0_21,hri]
        repeat ((first | refine qA rfl ?_|refine qB ?_|refine qC rfl ?_|refine qD ?_|refine qE ?_|refine qF ?_|refine qG ?_|refine qH ?_);try simp (maxSteps:=1000000)(disch:=(first|omega|(simp only [qI,qJ,qK]<;>omega)|exact qL _)) only [go_sem,↓reduceIte,n0,reduceCtorEq,n1,n2,n3,n4,n5,i0,i1,i2,i3,i4,i5,i6,i7,hlq7,Int.toNat_natCast,Nat.mul_one,hrc0_0,hrc0_2,hrc0_3,hrc0_21,hri])
        refine ⟨⟨(by simp (maxSteps:=1000000)(disch:=(first|omega|(simp only [qI,qJ,qK]<;>omega)|exact qL _)) only [go_sem,↓reduceIte,n0,reduceCtorEq,n1,n2,n3,n4,n5,i0,i1,i2,i3,i4,i5,i6,i7,Holds_nil,Holds_cons,hrc0_0,hrc0_2,hrc0_3,hrc0_21,hri]),j + 1,(by simp (maxSteps:=1000000)(disch:=(first|omega|(simp only [qI,qJ,qK]<;>omega)|exact qL _)) only [go_sem,↓reduceIte,n0,reduceCtorEq,n1,n2,n3,n4,n5,i0,i1,i2,i3,i4,i5,i6,i7,hrc0_0,hrc0_2,hrc0_3,hrc0_21,hri];all_goals rfl),.slice va (css.length + 1) vc,by omega,?_,?_,?_⟩,?_⟩
        · rw [blk_wr_eq,hlq7];rfl
        · rw [hcat,List.map_append];exact hg'.upd ((Upd.refl _ _).wr _ _ (.inr rfl)) hne
        · refine Upd.wr ?_ _ _ (.inr rfl)
          exact (hUk.more ((hEw7.mono fun _ h => h.elim).trans hu) fun b hb h => absurd h (hnb b (.inl hb)))
        · try simp (maxSteps:=1000000)(disch:=(first|omega|(simp only [qI,qJ,qK]<;>omega)|exact qL _)) only [go_sem,↓reduceIte,n0,reduceCtorEq,n1,n2,n3,n4,n5,i0,i1,i2,i3,i4,i5,i6,i7,hrc0_0,hrc0_2,hrc0_3,hrc0_21,hri]
          simp only [RowKit.intOf];omega
      · have hk8 : Ext w3 (wr (wr (w3.alloc (.cells #[.bool false] 4)).drew w3.heap.size 0 [.bool false]) w3.heap.size 0 [.bool true]) := ((Upd.refl _ _).drew).trans q4
        generalize (wr (wr (w3.alloc (.cells #[.bool false] 4)).drew w3.heap.size 0 [.bool false]) w3.heap.size 0 [.bool true]) = w8 at *
        have hzk8 := hk8.size
        have hX8 : Ext w w8 := hX3.trans hk8
        have hb8 := hk8.blk_some hb3 id
        have hl8 := hk8.blk_some hl3 id
        have ht8 := hk8.blk_some ht3 id
        have hxe8 := hX8.blk_some hxe id
        repeat ((first | refine qA rfl ?_|refine qB ?_|refine qC rfl ?_|refine qD ?_|refine qE ?_|refine qF ?_|refine qG ?_|refine qH ?_);try simp (maxSteps:=1000000)(disch:=(first|omega|(simp only [qI,qJ,qK]<;>omega)|exact qL _)) only [go_sem,↓reduceIte,n0,reduceCtorEq,n1,n2,n3,n4,n5,i0,i1,i2,i3,i4,i5,i6,i7,hb8,hl8,ht8,hxe8,Int.toNat_natCast,Nat.mul_one,hq0,hq1,hq2,hqe0,hrc0_0,hrc0_2,hrc0_3,hrc0_21,hri])
        refine W.drawR (.take 0 (.take 1 (.take 2 (.take 3 (.take 4 (.take 5 (.take 6 (.take 7 (.take 8 (.take 9 (.take 10 (.take 11 (.take 14 (.two 12 (.two 13 (.only 15 (.only 16 (.take 17 (.take 18 (.last 19))))) 15 (.only 13 (.only 16 (.take 17 (.take 18 (.last 19)))))) 15 (.only 12 (.only 13 (.only 16 (.take 17 (.take 18 (.last 19)))))))))))))))))))) (ownB (.slice av j kv)) mixed (by kernel_rfl) ?_
        try simp (maxSteps:=1000000)(disch:=(first|omega|(simp only [qI,qJ,qK]<;>omega)|exact qL _ | (refine hnb _ ?_;first | omega | (simp only [World.size_alloc,size_wr,size_drew] <;> omega)))) only [go_sem,↓reduceIte,n0,reduceCtorEq,n1,n2,n3,n4,n5,i0,i1,i2,i3,i4,i5,i6,i7,hb8,hl8,ht8,hxe8,Int.toNat_natCast,Nat.mul_one,hq0,hq1,hq2,hqe0,hrc0_0,hrc0_2,hrc0_3,hrc0_21,hri]
        refine ⟨?_,?_⟩
        · skip
          refine wp_octets (S := 9) (T := 22) (E := 5) (s := y.s) (by kernel_rfl) (by kernel_rfl) (by kernel_rfl) (by first | rfl | simp (maxSteps:=1000000)(disch:=(first|omega|(simp only [qI,qJ,qK]<;>omega)|exact qL _)) only [go_sem,↓reduceIte,n0,reduceCtorEq,n1,n2,n3,n4,n5,i0,i1,i2,i3,i4,i5,i6,i7,hb8,hl8,ht8,hxe8,Int.toNat_natCast,Nat.mul_one,hq0,hq1,hq2,hqe0,hrc0_0,hrc0_2,hrc0_3,hrc0_21,hri]) ?_
          intro a9 k9 w9 hB9 hEx9
          have hP9 : Upd (ownB (.slice av j kv)) w8.drew w9 := (Upd.refl _ _).trans (hEx9.mono fun _ h => h.elim)
          have hsq9 := hEx9.size
          try simp only [size_drew] at hsq9
          refine ⟨hP9,?_⟩
          try simp (maxSteps:=1000000)(disch:=(first|omega|(simp only [qI,qJ,qK]<;>omega)|exact qL _ | (refine hnb _ ?_;first | omega | (simp only [World.size_alloc,size_wr,size_drew] <;> omega)))) only [go_sem,↓reduceIte,n0,reduceCtorEq,n1,n2,n3,n4,n5,i0,i1,i2,i3,i4,i5,i6,i7,hb8,hl8,ht8,hxe8,Int.toNat_natCast,Nat.mul_one,hq0,hq1,hq2,hqe0,hrc0_0,hrc0_2,hrc0_3,hrc0_21,hri]
          refine ⟨?_,?_⟩
          · skip
            refine ⟨hP9,?_⟩
            have hP10 : Upd (ownB (.slice av j kv)) w8.drew (w9.alloc (.cells #[.int .i64 0,.slice none 0 0,.bool false,.slice none 0 0,.slice none 0 0] 37)) := show Upd (ownB (.slice av j kv)) w8.drew (w9.alloc (.cells #[.int .i64 0,.slice none 0 0,.bool false,.slice none 0 0,.slice none 0 0] 37)) from (hP9).alloc _
            have hn10 : blk (w9.alloc (.cells #[.int .i64 0,.slice none 0 0,.bool false,.slice none 0 0,.slice none 0 0] 37)) w9.heap.size = some (#[.int .i64 0,.slice none 0 0,.bool false,.slice none 0 0,.slice none 0 0],37,(0,0)) := show blk (w9.alloc (.cells #[.int .i64 0,.slice none 0 0,.bool false,.slice none 0 0,.slice none 0 0] 37)) w9.heap.size = some (#[.int .i64 0,.slice none 0 0,.bool false,.slice none 0 0,.slice none 0 0],37,(0,0)) from blk_alloc_new rfl
            have hsq10 : (w9.alloc (.cells #[.int .i64 0,.slice none 0 0,.bool false,.slice none 0 0,.slice none 0 0] 37)).heap.size = w9.heap.size + 1 := show (w9.alloc (.cells #[.int .i64 0,.slice none 0 0,.bool false,.slice none 0 0,.slice none 0 0] 37)).heap.size = w9.heap.size + 1 from World.size_alloc _ _
            have hEx10 : Ext w9 (w9.alloc (.cells #[.int .i64 0,.slice none 0 0,.bool false,.slice none 0 0,.slice none 0 0] 37)) := show Ext w9 (w9.alloc (.cells #[.int .i64 0,.slice none 0 0,.bool false,.slice none 0 0,.slice none 0 0] 37)) from Upd.alloc (Upd.refl _ _) _
            refine ⟨hP10,?_⟩
            try simp only [List.append_nil]
            generalize (w9.alloc (.cells #[.int .i64 0,.slice none 0 0,.bool false,.slice none 0 0,.slice none 0 0] 37)) = w10 at *
            try simp only [size_drew] at hsq10
            have hEw11 : Ext w3 w10 := ((hk8.drew.trans hEx9).trans hEx10)
            have hzw11 := hEw11.size
            obtain ⟨css,hown,hall⟩ := (hg.ext hEw11).ex
            have hcl := hall.1
            rw [hlj] at hcl
            have hx11 : TreeC (fun b => (fun b => w1.heap.size ≤ b) b ∧ b ≠ w.heap.size + 1 ∧ ¬ ownB (.slice av j kv) b) w10 ((tl1 (tlP d) fListGroupsRequest_0.of fListGroupsRequest_0.sub) y) [.int .i64 0,.slice (some a9) y.s.length k9,.bool false,.slice none 0 0,.slice none 0 0] := by
              exact TreeC.weaken (fun b _ hk => ⟨by omega,by omega,hnb b (.inr (by omega))⟩) (TreeC.weaken (ok' := fun b => w3.heap.size ≤ b) (fun b _ hk => by have hk' : w8.drew.heap.size ≤ b := hk;(try simp only [size_drew] at hk');omega) (TreeC.keep (Ext.keeps hEx10 _) (TreeC.intro rfl hB9 (treesN _ _) (tagsN _ _) : TreeC _ _ (.oct false y.s) [.int .i64 0,.slice (some a9) y.s.length k9,.bool false,.slice none 0 0,.slice none 0 0])))
            refine wp_append ap_34_34 (m := 1) (news := [.int .i64 0,.slice none 0 0,.bool false,.slice none 0 0,.slice none 0 0]) (n := css.length) (cs := css.flatten) (v := (.slice av j kv)) ?_ rfl hown.1 (all2_flat_tree hall) (Src.blk (fr := (0,0)) (T := 37) hn10 rfl rfl) ?_ ?_ ?_
            · first | rfl | simp (maxSteps:=1000000)(disch:=(first|omega|(simp only [qI,qJ,qK]<;>omega)|exact qL _)) only [go_sem,↓reduceIte,n0,reduceCtorEq,n1,n2,n3,n4,n5,i0,i1,i2,i3,i4,i5,i6,i7]
            · omega
            · omega
            intro v' w11 ho hu hfr
            have hP11 := (hP10 : Upd (ownB (.slice av j kv)) w8.drew w10).trans hu
            have hzq11 := hP11.size
            simp only [size_drew] at hzq11
            have hlq11 := hP11.blk_some (show blk w8.drew (w.heap.size + 1) = _ from hl8) (hnb _ (.inl (by omega)))
            rcases ho.2 with ⟨_,h⟩ | ⟨g,cap,rest,fr,hv',hg',hbg,hlen,hth,hle⟩
            · exact absurd h (Nat.succ_ne_zero _)
            subst hv'
            have hgne : ¬ g = w.heap.size + 1 := fun h => (hfr g ⟨_,_,_,rfl,rfl⟩).elim (fun h' => hnb _ (.inl (by omega)) (h ▸ h')) (fun h' => by omega)
            have hfl : css.flatten.length = css.length * 5 := flatten_len hown.2
            have hlen2 : (css.flatten ++ ([.int .i64 0,.slice none 0 0,.bool false,.slice none 0 0,.slice none 0 0] : List Value) ++ rest).length = cap * 5 := by simp only [List.length_append] at hlen ⊢;omega
            obtain ⟨XX,hXX⟩ : ∃ X : Array Value,X = (css.flatten ++ ([.int .i64 0,.slice none 0 0,.bool false,.slice none 0 0,.slice none 0 0] : List Value) ++ rest).toArray := ⟨_,rfl⟩
            have hbgX : blk w11 g = some (XX,37,fr) := by rw [hXX];exact hbg
            have hXsz : XX.size = cap * 5 := by rw [hXX,List.size_toArray];exact hlen2
            have hth2 : thaw fr (css.length * 5) 5 = true := thaw_of hth (by omega)
            have hst : css.length * 5 + 5 ≤ XX.size := by omega
            have hset := Own.setlast (cs := [.int .i64 0,.slice (some a9) y.s.length k9,.bool false,.slice none 0 0,.slice none 0 0]) ho rfl rfl
            have hu2 : Upd (ownB (.slice av j kv)) w10 (wr w11 g (css.length * 5) [.int .i64 0,.slice (some a9) y.s.length k9,.bool false,.slice none 0 0,.slice none 0 0]) := hu.wr _ _ ((hfr g ⟨_,_,_,rfl,rfl⟩).symm)
            have hg2 := GrowT.snoc hown hall hx11 hu2 hfr hset
            have hcj : css.length = j := by first | exact hcl.symm.trans hlj | omega
            simp only [hcj] at hth2 hst hset hu2 hg2
            refine ⟨hP11,?_⟩
            try simp (maxSteps:=1000000)(disch:=(first|omega|(simp only [qI,qJ,qK]<;>omega)|exact qL _ | (refine hnb _ ?_;first | omega | (simp only [World.size_alloc,size_wr,size_drew] <;> omega)))) only [go_sem,↓reduceIte,n0,reduceCtorEq,n1,n2,n3,n4,n5,i0,i1,i2,i3,i4,i5,i6,i7,hlq11,hbgX,hth2,hst,hcj,Int.toNat_natCast,Nat.mul_one,hrc0_0,hrc0_2,hrc0_3,hrc0_21,hri]
            repeat ((first | refine qA rfl ?_|refine qB ?_|refine qC rfl ?_|refine qD ?_|refine qE ?_|refine qF ?_|refine qG ?_|refine qH ?_);try simp (maxSteps:=1000000)(disch:=(first|omega|(simp only [qI,qJ,qK]<;>omega)|exact qL _)) only [go_sem,↓reduceIte,n0,reduceCtorEq,n1,n2,n3,n4,n5,i0,i1,i2,i3,i4,i5,i6,i7,hlq11,hbgX,hth2,hst,hcj,Int.toNat_natCast,Nat.mul_one,hrc0_0,hrc0_2,hrc0_3,hrc0_21,hri])
            refine ⟨⟨(by simp (maxSteps:=1000000)(disch:=(first|omega|(simp only [qI,qJ,qK]<;>omega)|exact qL _)) only [go_sem,↓reduceIte,n0,reduceCtorEq,n1,n2,n3,n4,n5,i0,i1,i2,i3,i4,i5,i6,i7,Holds_nil,Holds_cons,hrc0_0,hrc0_2,hrc0_3,hrc0_21,hri]),j + 1,(by simp (maxSteps:=1000000)(disch:=(first|omega|(simp only [qI,qJ,qK]<;>omega)|exact qL _)) only [go_sem,↓reduceIte,n0,reduceCtorEq,n1,n2,n3,n4,n5,i0,i1,i2,i3,i4,i5,i6,i7,hrc0_0,hrc0_2,hrc0_3,hrc0_21,hri];all_goals rfl),.slice (some ⟨g,0,none⟩) (j + 1) cap,by omega,?_,?_,?_⟩,?_⟩
            · rw [blk_wr_ne (by omega),blk_wr_eq,hlq11];rfl
            · rw [hcat,List.map_append,wr_comm (Ne.symm hgne)]
              exact hg2.upd ((Upd.refl _ _).wr _ _ (.inr rfl)) (fun h => hgne (ownB_row h).symm)
            · rw [wr_comm (Ne.symm hgne)]
              refine Upd.wr ?_ _ _ (.inr rfl)
              exact (hUk.more ((hEw11.mono fun _ h => h.elim).trans hu2) fun b hb h => absurd h (hnb b (.inl hb)))
            · try simp (maxSteps:=1000000)(disch:=(first|omega|(simp only [qI,qJ,qK]<;>omega)|exact qL _)) only [go_sem,↓reduceIte,n0,reduceCtorEq,n1,n2,n3,n4,n5,i0,i1,i2,i3,i4,i5,i6,i7,hrc0_0,hrc0_2,hrc0_3,hrc0_21,hri]
              simp only [RowKit.intOf];omega
          · skip
            have hP12 : Upd (ownB (.slice av j kv)) w8.drew (w9.alloc (.cells #[.int .i64 0,.slice none 0 0,.bool false,.slice none 0 0,.slice none 0 0] 37)) := show Upd (ownB (.slice av j kv)) w8.drew (w9.alloc (.cells #[.int .i64 0,.slice none 0 0,.bool false,.slice none 0 0,.slice none 0 0] 37)) from (hP9).alloc _
            have hn12 : blk (w9.alloc (.cells #[.int .i64 0,.slice none 0 0,.bool false,.slice none 0 0,.slice none 0 0] 37)) w9.heap.size = some (#[.int .i64 0,.slice none 0 0,.bool false,.slice none 0 0,.slice none 0 0],37,(0,0)) := show blk (w9.alloc (.cells #[.int .i64 0,.slice none 0 0,.bool false,.slice none 0 0,.slice none 0 0] 37)) w9.heap.size = some (#[.int .i64 0,.slice none 0 0,.bool false,.slice none 0 0,.slice none 0 0],37,(0,0)) from blk_alloc_new rfl
            have hsq12 : (w9.alloc (.cells #[.int .i64 0,.slice none 0 0,.bool false,.slice none 0 0,.slice none 0 0] 37)).heap.size = w9.heap.size + 1 := show (w9.alloc (.cells #[.int .i64 0,.slice none 0 0,.bool false,.slice none 0 0,.slice none 0 0] 37)).heap.size = w9.heap.size + 1 from World.size_alloc _ _
            have hEx12 : Ext w9 (w9.alloc (.cells #[.int .i64 0,.slice none 0 0,.bool false,.slice none 0 0,.slice none 0 0] 37)) := show Ext w9 (w9.alloc (.cells #[.int .i64 0,.slice none 0 0,.bool false,.slice none 0 0,.slice none 0 0] 37)) from Upd.alloc (Upd.refl _ _) _
            refine ⟨hP12,?_⟩
            try simp only [List.append_nil]
            generalize (w9.alloc (.cells #[.int .i64 0,.slice none 0 0,.bool false,.slice none 0 0,.slice none 0 0] 37)) = w12 at *
            try simp only [size_drew] at hsq12
            refine ⟨hP12,?_⟩
            have hEw13 : Ext w3 w12 := ((hk8.drew.trans hEx9).trans hEx12)
            have hzw13 := hEw13.size
            obtain ⟨css,hown,hall⟩ := (hg.ext hEw13).ex
            have hcl := hall.1
            rw [hlj] at hcl
            have hx13 : TreeC (fun b => (fun b => w1.heap.size ≤ b) b ∧ b ≠ w.heap.size + 1 ∧ ¬ ownB (.slice av j kv) b) w12 ((tl1 (tlP d) fListGroupsRequest_0.of fListGroupsRequest_0.sub) y) [.int .i64 0,.slice (some a9) y.s.length k9,.bool false,.slice none 0 0,.slice none 0 0] := by
              exact TreeC.weaken (fun b _ hk => ⟨by omega,by omega,hnb b (.inr (by omega))⟩) (TreeC.weaken (ok' := fun b => w3.heap.size ≤ b) (fun b _ hk => by have hk' : w8.drew.heap.size ≤ b := hk;(try simp only [size_drew] at hk');omega) (TreeC.keep (Ext.keeps hEx12 _) (TreeC.intro rfl hB9 (treesN _ _) (tagsN _ _) : TreeC _ _ (.oct false y.s) [.int .i64 0,.slice (some a9) y.s.length k9,.bool false,.slice none 0 0,.slice none 0 0])))
            refine wp_append ap_34_34 (m := 1) (news := [.int .i64 0,.slice none 0 0,.bool false,.slice none 0 0,.slice none 0 0]) (n := css.length) (cs := css.flatten) (v := (.slice av j kv)) ?_ rfl hown.1 (all2_flat_tree hall) (Src.blk (fr := (0,0)) (T := 37) hn12 rfl rfl) ?_ ?_ ?_
            · first | rfl | simp (maxSteps:=1000000)(disch:=(first|omega|(simp only [qI,qJ,qK]<;>omega)|exact qL _)) only [go_sem,↓reduceIte,n0,reduceCtorEq,n1,n2,n3,n4,n5,i0,i1,i2,i3,i4,i5,i6,i7]
            · omega
            · omega
            intro v' w13 ho hu hfr
            have hP13 := (hP12 : Upd (ownB (.slice av j kv)) w8.drew w12).trans hu
            have hzq13 := hP13.size
            simp only [size_drew] at hzq13
            have hlq13 := hP13.blk_some (show blk w8.drew (w.heap.size + 1) = _ from hl8) (hnb _ (.inl (by omega)))
            rcases ho.2 with ⟨_,h⟩ | ⟨g,cap,rest,fr,hv',hg',hbg,hlen,hth,hle⟩
            · exact absurd h (Nat.succ_ne_zero _)
            subst hv'
            have hgne : ¬ g = w.heap.size + 1 := fun h => (hfr g ⟨_,_,_,rfl,rfl⟩).elim (fun h' => hnb _ (.inl (by omega)) (h ▸ h')) (fun h' => by omega)
            have hfl : css.flatten.length = css.length * 5 := flatten_len hown.2
            have hlen2 : (css.flatten ++ ([.int .i64 0,.slice none 0 0,.bool false,.slice none 0 0,.slice none 0 0] : List Value) ++ rest).length = cap * 5 := by simp only [List.length_append] at hlen ⊢;omega
            obtain ⟨XX,hXX⟩ : ∃ X : Array Value,X = (css.flatten ++ ([.int .i64 0,.slice none 0 0,.bool false,.slice none 0 0,.slice none 0 0] : List Value) ++ rest).toArray := ⟨_,rfl⟩
            have hbgX : blk w13 g = some (XX,37,fr) := by rw [hXX];exact hbg
            have hXsz : XX.size = cap * 5 := by rw [hXX,List.size_toArray];exact hlen2
            have hth2 : thaw fr (css.length * 5) 5 = true := thaw_of hth (by omega)
            have hst : css.length * 5 + 5 ≤ XX.size := by omega
            have hset := Own.setlast (cs := [.int .i64 0,.slice (some a9) y.s.length k9,.bool false,.slice none 0 0,.slice none 0 0]) ho rfl rfl
            have hu2 : Upd (ownB (.slice av j kv)) w12 (wr w13 g (css.length * 5) [.int .i64 0,.slice (some a9) y.s.length k9,.bool false,.slice none 0 0,.slice none 0 0]) := hu.wr _ _ ((hfr g ⟨_,_,_,rfl,rfl⟩).symm)
            have hg2 := GrowT.snoc hown hall hx13 hu2 hfr hset
            have hcj : css.length = j := by first | exact hcl.symm.trans hlj | omega
            simp only [hcj] at hth2 hst hset hu2 hg2
            refine ⟨hP13,?_⟩
            try simp (maxSteps:=1000000)(disch:=(first|omega|(simp only [qI,qJ,qK]<;>omega)|exact qL _ | (refine hnb _ ?_;first | omega | (simp only [World.size_alloc,size_wr,size_drew] <;> omega)))) only [go_sem,↓reduceIte,n0,reduceCtorEq,n1,n2,n3,n4,n5,i0,i1,i2,i3,i4,i5,i6,i7,hlq13,hbgX,hth2,hst,hcj,Int.toNat_natCast,Nat.mul_one,hrc0_0,hrc0_2,hrc0_3,hrc0_21,hri]
            repeat ((first | refine qA rfl ?_|refine qB ?_|refine qC rfl ?_|refine qD ?_|refine qE ?_|refine qF ?_|refine qG ?_|refine qH ?_);try simp (maxSteps:=1000000)(disch:=(first|omega|(simp only [qI,qJ,qK]<;>omega)|exact qL _)) only [go_sem,↓reduceIte,n0,reduceCtorEq,n1,n2,n3,n4,n5,i0,i1,i2,i3,i4,i5,i6,i7,hlq13,hbgX,hth2,hst,hcj,Int.toNat_natCast,Nat.mul_one,hrc0_0,hrc0_2,hrc0_3,hrc0_21,hri])
            refine ⟨⟨(by simp (maxSteps:=1000000)(disch:=(first|omega|(simp only [qI,qJ,qK]<;>omega)|exact qL _)) only [go_sem,↓reduceIte,n0,reduceCtorEq,n1,n2,n3,n4,n5,i0,i1,i2,i3,i4,i5,i6,i7,Holds_nil,Holds_cons,hrc0_0,hrc0_2,hrc0_3,hrc0_21,hri]),j + 1,(by simp (maxSteps:=1000000)(disch:=(first|omega|(simp only [qI,qJ,qK]<;>omega)|exact qL _)) only [go_sem,↓reduceIte,n0,reduceCtorEq,n1,n2,n3,n4,n5,i0,i1,i2,i3,i4,i5,i6,i7,hrc0_0,hrc0_2,hrc0_3,hrc0_21,hri];all_goals rfl),.slice (some ⟨g,0,none⟩) (j + 1) cap,by omega,?_,?_,?_⟩,?_⟩
            · rw [blk_wr_ne (by omega),blk_wr_eq,hlq13];rfl
            · rw [hcat,List.map_append,wr_comm (Ne.symm hgne)]
              exact hg2.upd ((Upd.refl _ _).wr _ _ (.inr rfl)) (fun h => hgne (ownB_row h).symm)
            · rw [wr_comm (Ne.symm hgne)]
              refine Upd.wr ?_ _ _ (.inr rfl)
              exact (hUk.more ((hEw13.mono fun _ h => h.elim).trans hu2) fun b hb h => absurd h (hnb b (.inl hb)))
            · try simp (maxSteps:=1000000)(disch:=(first|omega|(simp only [qI,qJ,qK]<;>omega)|exact qL _)) only [go_sem,↓reduceIte,n0,reduceCtorEq,n1,n2,n3,n4,n5,i0,i1,i2,i3,i4,i5,i6,i7,hrc0_0,hrc0_2,hrc0_3,hrc0_21,hri]
              simp only [RowKit.intOf];omega
        · skip
          have hP14 : Upd (ownB (.slice av j kv)) w8.drew (w8.alloc (.cells #[.int .i64 0,.slice none 0 0,.bool false,.slice none 0 0,.slice none 0 0] 37)).drew := show Upd (ownB (.slice av j kv)) w8.drew (w8.drew.alloc (.cells #[.int .i64 0,.slice none 0 0,.bool false,.slice none 0 0,.slice none 0 0] 37)) from (Upd.refl _ _).alloc _
          have hn14 : blk (w8.alloc (.cells #[.int .i64 0,.slice none 0 0,.bool false,.slice none 0 0,.slice none 0 0] 37)).drew w8.drew.heap.size = some (#[.int .i64 0,.slice none 0 0,.bool false,.slice none 0 0,.slice none 0 0],37,(0,0)) := show blk (w8.drew.alloc (.cells #[.int .i64 0,.slice none 0 0,.bool false,.slice none 0 0,.slice none 0 0] 37)) w8.drew.heap.size = some (#[.int .i64 0,.slice none 0 0,.bool false,.slice none 0 0,.slice none 0 0],37,(0,0)) from blk_alloc_new rfl
          have hsq14 : (w8.alloc (.cells #[.int .i64 0,.slice none 0 0,.bool false,.slice none 0 0,.slice none 0 0] 37)).drew.heap.size = w8.drew.heap.size + 1 := show (w8.drew.alloc (.cells #[.int .i64 0,.slice none 0 0,.bool false,.slice none 0 0,.slice none 0 0] 37)).heap.size = w8.drew.heap.size + 1 from World.size_alloc _ _
          have hEx14 : Ext w8.drew (w8.alloc (.cells #[.int .i64 0,.slice none 0 0,.bool false,.slice none 0 0,.slice none 0 0] 37)).drew := show Ext w8.drew (w8.drew.alloc (.cells #[.int .i64 0,.slice none 0 0,.bool false,.slice none 0 0,.slice none 0 0] 37)) from Upd.alloc (Upd.refl _ _) _
          refine ⟨hP14,?_⟩
          try simp only [List.append_nil]
          generalize (w8.alloc (.cells #[.int .i64 0,.slice none 0 0,.bool false,.slice none 0 0,.slice none 0 0] 37)).drew = w14 at *
          try simp only [size_drew] at hsq14
          refine wp_octets (S := 9) (T := 22) (E := 5) (s := y.s) (by kernel_rfl) (by kernel_rfl) (by kernel_rfl) (by first | rfl | simp (maxSteps:=1000000)(disch:=(first|omega|(simp only [qI,qJ,qK]<;>omega)|exact qL _)) only [go_sem,↓reduceIte,n0,reduceCtorEq,n1,n2,n3,n4,n5,i0,i1,i2,i3,i4,i5,i6,i7,hb8,hl8,ht8,hxe8,Int.toNat_natCast,Nat.mul_one,hq0,hq1,hq2,hqe0,hrc0_0,hrc0_2,hrc0_3,hrc0_21,hri]) ?_
          intro a15 k15 w15 hB15 hEx15
          have hP15 : Upd (ownB (.slice av j kv)) w8.drew w15 := (hP14).trans (hEx15.mono fun _ h => h.elim)
          have hsq15 := hEx15.size
          try simp only [size_drew] at hsq15
          refine ⟨hP15,?_⟩
          try simp (maxSteps:=1000000)(disch:=(first|omega|(simp only [qI,qJ,qK]<;>omega)|exact qL _ | (refine hnb _ ?_;first | omega | (simp only [World.size_alloc,size_wr,size_drew] <;> omega)))) only [go_sem,↓reduceIte,n0,reduceCtorEq,n1,n2,n3,n4,n5,i0,i1,i2,i3,i4,i5,i6,i7,hb8,hl8,ht8,hxe8,Int.toNat_natCast,Nat.mul_one,hq0,hq1,hq2,hqe0,hrc0_0,hrc0_2,hrc0_3,hrc0_21,hri]
          refine ⟨hP15,?_⟩
          have hEw16 : Ext w3 w15 := ((hk8.drew.trans hEx14).trans hEx15)
          have hzw16 := hEw16.size
          obtain ⟨css,hown,hall⟩ := (hg.ext hEw16).ex
          have hcl := hall.1
          rw [hlj] at hcl
          have hx16 : TreeC (fun b => (fun b => w1.heap.size ≤ b) b ∧ b ≠ w.heap.size + 1 ∧ ¬ ownB (.slice av j kv) b) w15 ((tl1 (tlP d) fListGroupsRequest_0.of fListGroupsRequest_0.sub) y) [.int .i64 0,.slice (some a15) y.s.length k15,.bool false,.slice none 0 0,.slice none 0 0] := by
            exact TreeC.weaken (fun b _ hk => ⟨by omega,by omega,hnb b (.inr (by omega))⟩) (TreeC.intro rfl hB15 (treesN _ _) (tagsN _ _) : TreeC _ _ (.oct false y.s) [.int .i64 0,.slice (some a15) y.s.length k15,.bool false,.slice none 0 0,.slice none 0 0])
          refine wp_append ap_34_34 (m := 1) (news := [.int .i64 0,.slice none 0 0,.bool false,.slice none 0 0,.slice none 0 0]) (n := css.length) (cs := css.flatten) (v := (.slice av j kv)) ?_ rfl hown.1 (all2_flat_tree hall) (Src.blk (fr := (0,0)) (T := 37) (hEx15.blk_some hn14 id) rfl rfl) ?_ ?_ ?_
          · first | rfl | simp (maxSteps:=1000000)(disch:=(first|omega|(simp only [qI,qJ,qK]<;>omega)|exact qL _)) only [go_sem,↓reduceIte,n0,reduceCtorEq,n1,n2,n3,n4,n5,i0,i1,i2,i3,i4,i5,i6,i7]
          · omega
          · omega
          intro v' w16 ho hu hfr
          have hP16 := (hP15 : Upd (ownB (.slice av j kv)) w8.drew w15).trans hu
          have hzq16 := hP16.size
          simp only [size_drew] at hzq16
          have hlq16 := hP16.blk_some (show blk w8.drew (w.heap.size + 1) = _ from hl8) (hnb _ (.inl (by omega)))
          rcases ho.2 with ⟨_,h⟩ | ⟨g,cap,rest,fr,hv',hg',hbg,hlen,hth,hle⟩
          · exact absurd h (Nat.succ_ne_zero _)
          subst hv'
          have hgne : ¬ g = w.heap.size + 1 := fun h => (hfr g ⟨_,_,_,rfl,rfl⟩).elim (fun h' => hnb _ (.inl (by omega)) (h ▸ h')) (fun h' => by omega)
          have hfl : css.flatten.length = css.length * 5 := flatten_len hown.2
          have hlen2 : (css.flatten ++ ([.int .i64 0,.slice none 0 0,.bool false,.slice none 0 0,.slice none 0 0] : List Value) ++ rest).length = cap * 5 := by simp only [List.length_append] at hlen ⊢;omega
          obtain ⟨XX,hXX⟩ : ∃ X : Array Value,X = (css.flatten ++ ([.int .i64 0,.slice none 0 0,.bool false,.slice none 0 0,.slice none 0 0] : List Value) ++ rest).toArray := ⟨_,rfl⟩
          have hbgX : blk w16 g = some (XX,37,fr) := by rw [hXX];exact hbg
          have hXsz : XX.size = cap * 5 := by rw [hXX,List.size_toArray];exact hlen2
          have hth2 : thaw fr (css.length * 5) 5 = true := thaw_of hth (by omega)
          have hst : css.length * 5 + 5 ≤ XX.size := by omega
          have hset := Own.setlast (cs := [.int .i64 0,.slice (some a15) y.s.length k15,.bool false,.slice none 0 0,.slice none 0 0]) ho rfl rfl
          have hu2 : Upd (ownB (.slice av j kv)) w15 (wr w16 g (css.length * 5) [.int .i64 0,.slice (some a15) y.s.length k15,.bool false,.slice none 0 0,.slice none 0 0]) := hu.wr _ _ ((hfr g ⟨_,_,_,rfl,rfl⟩).symm)
          have hg2 := GrowT.snoc hown hall hx16 hu2 hfr hset
          have hcj : css.length = j := by first | exact hcl.symm.trans hlj | omega
          simp only [hcj] at hth2 hst hset hu2 hg2
          refine ⟨hP16,?_⟩
          try simp (maxSteps:=1000000)(disch:=(first|omega|(simp only [qI,qJ,qK]<;>omega)|exact qL _ | (refine hnb _ ?_;first | omega | (simp only [World.size_alloc,size_wr,size_drew] <;> omega)))) only [go_sem,↓reduceIte,n0,reduceCtorEq,n1,n2,n3,n4,n5,i0,i1,i2,i3,i4,i5,i6,i7,hlq16,hbgX,hth2,hst,hcj,Int.toNat_natCast,Nat.mul_one,hrc0_0,hrc0_2,hrc0_3,hrc0_21,hri]
          repeat ((first | refine qA rfl ?_|refine qB ?_|refine qC rfl ?_|refine qD ?_|refine qE ?_|refine qF ?_|refine qG ?_|refine qH ?_);try simp (maxSteps:=1000000)(disch:=(first|omega|(simp only [qI,qJ,qK]<;>omega)|exact qL _)) only [go_sem,↓reduceIte,n0,reduceCtorEq,n1,n2,n3,n4,n5,i0,i1,i2,i3,i4,i5,i6,i7,hlq16,hbgX,hth2,hst,hcj,Int.toNat_natCast,Nat.mul_one,hrc0_0,hrc0_2,hrc0_3,hrc0_21,hri])
          refine ⟨⟨(by simp (maxSteps:=1000000)(disch:=(first|omega|(simp only [qI,qJ,qK]<;>omega)|exact qL _)) only [go_sem,↓reduceIte,n0,reduceCtorEq,n1,n2,n3,n4,n5,i0,i1,i2,i3,i4,i5,i6,i7,Holds_nil,Holds_cons,hrc0_0,hrc0_2,hrc0_3,hrc0_21,hri]),j + 1,(by simp (maxSteps:=1000000)(disch:=(first|omega|(simp only [qI,qJ,qK]<;>omega)|exact qL _)) only [go_sem,↓reduceIte,n0,reduceCtorEq,n1,n2,n3,n4,n5,i0,i1,i2,i3,i4,i5,i6,i7,hrc0_0,hrc0_2,hrc0_3,hrc0_21,hri];all_goals rfl),.slice (some ⟨g,0,none⟩) (j + 1) cap,by omega,?_,?_,?_⟩,?_⟩
          · rw [blk_wr_ne (by omega),blk_wr_eq,hlq16];rfl
          · rw [hcat,List.map_append,wr_comm (Ne.symm hgne)]
            exact hg2.upd ((Upd.refl _ _).wr _ _ (.inr rfl)) (fun h => hgne (ownB_row h).symm)
          · rw [wr_comm (Ne.symm hgne)]
            refine Upd.wr ?_ _ _ (.inr rfl)
            exact (hUk.more ((hEw16.mono fun _ h => h.elim).trans hu2) fun b hb h => absurd h (hnb b (.inl hb)))
          · try simp (maxSteps:=1000000)(disch:=(first|omega|(simp only [qI,qJ,qK]<;>omega)|exact qL _)) only [go_sem,↓reduceIte,n0,reduceCtorEq,n1,n2,n3,n4,n5,i0,i1,i2,i3,i4,i5,i6,i7,hrc0_0,hrc0_2,hrc0_3,hrc0_21,hri]
            simp only [RowKit.intOf];omega
    · have hjn : j = L0.length := by omega
      subst hjn
      rw [List.take_length] at hg
      repeat ((first | refine qA rfl ?_|refine qB ?_|refine qC rfl ?_|refine qD ?_|refine qE ?_|refine qF ?_|refine qG ?_|refine qH ?_);try simp (maxSteps:=1000000)(disch:=(first|omega|(simp only [qI,qJ,qK]<;>omega)|exact qL _)) only [go_sem,↓reduceIte,n0,reduceCtorEq,n1,n2,n3,n4,n5,i0,i1,i2,i3,i4,i5,i6,i7,hrc0_0,hrc0_2,hrc0_3,hrc0_21,hri])
      exact ⟨(by simp (maxSteps:=1000000)(disch:=(first|omega|(simp only [qI,qJ,qK]<;>omega)|exact qL _)) only [go_sem,↓reduceIte,n0,reduceCtorEq,n1,n2,n3,n4,n5,i0,i1,i2,i3,i4,i5,i6,i7,Holds_nil,Holds_cons,hrc0_0,hrc0_2,hrc0_3,hrc0_21,hri]),v,hl3,hg,hUk⟩
  rintro ρ w17 ⟨⟨hrd0_0,hrd0_2,hrd0_3,hrd0_21,-⟩,v,hl17,hg17,hUz17⟩
  have hV17 : Upd (fun b => b = w.heap.size + 1 ∨ b = w.heap.size + 2) w2 w17 := hUz17.mono fun _ h => .inl h
  have hU17 : Upd (fun b => b = w.heap.size + 1 ∨ b = w.heap.size + 2) w1 w17 := hU2.trans hV17
  have hz17 := hU17.size
  have hX17 : Ext w w17 := hE1.more hU17 fun b hb h => by omega
  have hb17 := hX17.blk_some hb id
  have ht17 := hUz17.blk_some ht2 (by omega)
  obtain ⟨av0,kv0,hvs,_⟩ := hg17.shape
  subst hvs
  have hf0 : TreeC (fun b => w1.heap.size ≤ b) w17 (.mk 0 [] (t.at 0).null (L0.map (tl1 (tlP d) fListGroupsRequest_0.of fListGroupsRequest_0.sub)) []) [.int .i64 0,.slice none 0 0,.bool (t.at 0).null,.slice av0 (List.map (tl1 (tlP d) fListGroupsRequest_0.of fListGroupsRequest_0.sub) L0).length kv0,.slice none 0 0] := TreeC.intro rfl (BytesV.nil _ _) (hg17.trees (fun _ _ h => h) (fun b hb => by have := hz2;omega)) (tagsN _ _)
  repeat ((first | refine qA rfl ?_|refine qB ?_|refine qC rfl ?_|refine qD ?_|refine qE ?_|refine qF ?_|refine qG ?_|refine qH ?_);try simp (maxSteps:=1000000)(disch:=(first|omega|(simp only [qI,qJ,qK]<;>omega)|exact qL _)) only [go_sem,↓reduceIte,n0,reduceCtorEq,n1,n2,n3,n4,n5,i0,i1,i2,i3,i4,i5,i6,i7,hb17,hl17,ht17,hq0,hq1,hq2,hrd0_0,hrd0_2,hrd0_3])
  refine W.drawR (.take 0 (.take 1 (.take 2 (.take 3 (.take 4 (.take 5 (.take 6 (.take 7 (.take 8 (.last 9)))))))))) (NoB) mixed (by kernel_rfl) ?_
  try simp (maxSteps:=1000000)(disch:=(first|omega|(simp only [qI,qJ,qK]<;>omega)|exact qL _)) only [go_sem,↓reduceIte,n0,reduceCtorEq,n1,n2,n3,n4,n5,i0,i1,i2,i3,i4,i5,i6,i7,hb17,hl17,ht17,hq0,hq1,hq2,hrd0_0,hrd0_2,hrd0_3,hnn1]
  generalize hw18 : wr w17.drew (w.heap.size + 1) 7 [.bool (t.at 1).null] = w18
  have hl18 : blk w18 (w.heap.size + 1) = some (#[.int .i64 0,.slice none 0 0,.bool (t.at 0).null,.slice av0 (List.map (tl1 (tlP d) fListGroupsRequest_0.of fListGroupsRequest_0.sub) L0).length kv0,.slice none 0 0,.int .i64 0,.slice none 0 0,.bool (t.at 1).null,.slice none 0 0,.slice none 0 0],37,(0,0)) := by rw [← hw18,blk_wr_eq,show blk w17.drew (w.heap.size + 1) = _ from hl17];rfl
  have hV18 : Upd (fun b => b = w.heap.size + 1 ∨ b = w.heap.size + 2) w17 w18 := by rw [← hw18];exact ((Upd.refl _ _).drew).wr _ _ (.inr (.inl rfl))
  have hU18 : Upd (fun b => b = w.heap.size + 1 ∨ b = w.heap.size + 2) w1 w18 := hU17.trans hV18
  have hz18 := hU18.size
  have hX18 : Ext w w18 := hE1.more hU18 fun b hb h => by omega
  have hb18 := hX18.blk_some hb id
  have ht18 : blk w18 (w.heap.size + 2) = some (#[.int .i64 0,.slice none 0 0,.bool false,.slice (some ⟨w.heap.size + 1,0,none⟩) 2 2,.slice none 0 0],37,(0,0)) := by
    rw [← hw18,blk_wr_ne (by omega)]
    exact ht17
  clear hw18
  repeat ((first | refine qA rfl ?_|refine qB ?_|refine qC rfl ?_|refine qD ?_|refine qE ?_|refine qF ?_|refine qG ?_|refine qH ?_);try simp (maxSteps:=1000000)(disch:=(first|omega|(simp only [qI,qJ,qK]<;>omega)|exact qL _)) only [go_sem,↓reduceIte,n0,reduceCtorEq,n1,n2,n3,n4,n5,i0,i1,i2,i3,i4,i5,i6,i7,hb18,hl18,ht18,hq0,hq1,hq2,hrd0_0,hrd0_2,hrd0_3])
  refine W.exitJ 2 (EndQ [(0,.pointer (some ⟨b,0,none⟩)),(2,.pointer (some ⟨w.heap.size,0,none⟩)),(3,.pointer (some ⟨w.heap.size + 2,0,none⟩)),(81,.int .i64 L1.length)] (fun w' => ∃ v,blk w' (w.heap.size + 1) = some (#[.int .i64 0,.slice none 0 0,.bool (t.at 0).null,.slice av0 (List.map (tl1 (tlP d) fListGroupsRequest_0.of fListGroupsRequest_0.sub) L0).length kv0,.slice none 0 0,.int .i64 0,.slice none 0 0,.bool (t.at 1).null,v,.slice none 0 0],37,(0,0)) ∧ GrowT (fun b => w1.heap.size ≤ b) w18.heap.size (w.heap.size + 1) w' 37 v (L1.map (tl1 (tlP d) fListGroupsRequest_1.of fListGroupsRequest_1.sub)) ∧ Upd (fun b => b = w.heap.size + 1) w18 w')) (W.loop (LoopL [(0,.pointer (some ⟨b,0,none⟩)),(2,.pointer (some ⟨w.heap.size,0,none⟩)),(3,.pointer (some ⟨w.heap.size + 2,0,none⟩)),(81,.int .i64 L1.length)] 82 (fun j w' => ∃ v,j ≤ L1.length ∧ blk w' (w.heap.size + 1) = some (#[.int .i64 0,.slice none 0 0,.bool (t.at 0).null,.slice av0 (List.map (tl1 (tlP d) fListGroupsRequest_0.of fListGroupsRequest_0.sub) L0).length kv0,.slice none 0 0,.int .i64 0,.slice none 0 0,.bool (t.at 1).null,v,.slice none 0 0],37,(0,0)) ∧ GrowT (fun b => w1.heap.size ≤ b) w18.heap.size (w.heap.size + 1) w' 37 v ((L1.take j).map (tl1 (tlP d) fListGroupsRequest_1.of fListGroupsRequest_1.sub)) ∧ Upd (fun b => b = w.heap.size + 1) w18 w')) (fun ρ _ => L1.length - (RowKit.intOf (ρ 82)).toNat) ?_ ?_) ?_
  · exact ⟨(by simp (maxSteps:=1000000)(disch:=(first|omega|(simp only [qI,qJ,qK]<;>omega)|exact qL _)) only [go_sem,↓reduceIte,n0,reduceCtorEq,n1,n2,n3,n4,n5,i0,i1,i2,i3,i4,i5,i6,i7,Holds_nil,Holds_cons,hrd0_0,hrd0_2,hrd0_3]),0,(by simp (maxSteps:=1000000)(disch:=(first|omega|(simp only [qI,qJ,qK]<;>omega)|exact qL _)) only [go_sem,↓reduceIte,n0,reduceCtorEq,n1,n2,n3,n4,n5,i0,i1,i2,i3,i4,i5,i6,i7,hrd0_0,hrd0_2,hrd0_3];all_goals rfl),.slice none 0 0,Nat.zero_le _,hl18,GrowT.nil _ _ _ _ _,Upd.refl _ _⟩
  · rintro ρ w19 ⟨⟨hrc1_0,hrc1_2,hrc1_3,hrc1_81,-⟩,j,hri,v,hj,hl19,hg,hUk⟩
    have hzk := hUk.size
    have hX19 : Ext w w19 := hX18.more hUk fun b hb h => by omega
    have hz19 : w1.heap.size ≤ w19.heap.size := by have := hz18;omega
    have hb19 := hX19.blk_some hb id
    have ht19 := hUk.blk_some ht18 (by omega)
    by_cases hlt : j < L1.length
    · obtain ⟨_,be,oe,xe,ce,hbe,hoke,hxe,hble,hxs,hxx,hqe,hRe⟩ := SlR.get (size := 1) (by decide) hs1 hlt
      subst hbe
      have hcat : L1.take (j + 1) = L1.take j ++ [L1[j]] := List.take_succ_eq_append_getElem hlt
      have hgy := hgl1.2 _ (List.getElem_mem hlt)
      have hll := hgl1.1
      obtain ⟨av,kv,hvs,_⟩ := hg.shape
      have hlj : (List.map (tl1 (tlP d) fListGroupsRequest_1.of fListGroupsRequest_1.sub) (L1.take j)).length = j := by simp;omega
      rw [hlj] at hvs
      subst hvs
      have hnb : ∀ b,b < w18.heap.size ∨ w19.heap.size ≤ b → ¬ ownB (.slice av j kv) b := fun b hb h => by
        have := hg.above h
        have := hg.below h
        omega
      generalize L1[j] = y at *
      obtain rfl := Rep1_text.1 hRe
      have hqe0 : xe.1[oe + j]? = some (strV y.s) := by have := hqe 0 (by decide);rw [Nat.mul_one] at this;exact this
      repeat ((first | refine qA rfl ?_|refine qB ?_|refine qC rfl ?_|refine qD ?_|refine qE ?_|refine qF ?_|refine qG ?_|refine qH ?_);try simp (maxSteps:=1000000)(disch:=(first|omega|(simp only [qI,qJ,qK]<;>omega)|exact qL _)) only [go_sem,↓reduceIte,n0,reduceCtorEq,n1,n2,n3,n4,n5,i0,i1,i2,i3,i4,i5,i6,i7,hb19,hl19,ht19,hq0,hq1,hq2,hrc1_0,hrc1_2,hrc1_3,hrc1_81,hri])
      refine W.drawR (.only 0 (.two 1 (.only 2 (.only 3 .done)) 2 (.only 1 (.only 3 .done)))) NoB mixed (by kernel_rfl) ?_
      try simp (maxSteps:=1000000)(disch:=(first|omega|(simp only [qI,qJ,qK]<;>omega)|exact qL _)) only [go_sem,↓reduceIte,n0,reduceCtorEq,n1,n2,n3,n4,n5,i0,i1,i2,i3,i4,i5,i6,i7,hb19,hl19,ht19,hq0,hq1,hq2,hrc1_0,hrc1_2,hrc1_3,hrc1_81,hri]
      have q0 : Upd NoB w19.drew (w19.alloc (.cells #[.bool false] 4)).drew := show Upd NoB w19.drew (w19.drew.alloc (.cells #[.bool false] 4)) from Upd.alloc (Upd.refl _ _) _
      have q1 : Upd NoB w19.drew (wr (w19.alloc (.cells #[.bool false] 4)).drew w19.heap.size 0 [.bool true]) := q0.wr _ _ (.inl (Nat.le_refl _))
      have q2 : Upd NoB w19.drew (wr (wr (w19.alloc (.cells #[.bool false] 4)).drew w19.heap.size 0 [.bool true]) w19.heap.size 0 [.bool false]) := q1.wr _ _ (.inl (Nat.le_refl _))
      have q3 : Upd NoB w19.drew (wr (w19.alloc (.cells #[.bool false] 4)).drew w19.heap.size 0 [.bool false]) := q0.wr _ _ (.inl (Nat.le_refl _))
      have q4 : Upd NoB w19.drew (wr (wr (w19.alloc (.cells #[.bool false] 4)).drew w19.heap.size 0 [.bool false]) w19.heap.size 0 [.bool true]) := q3.wr _ _ (.inl (Nat.le_refl _))
      refine ⟨q0,⟨q1,q2,q2,?_⟩,⟨q3,q4,q4,?_⟩⟩
      · have hk20 : Ext w19 (wr (wr (w19.alloc (.cells #[.bool false] 4)).drew w19.heap.size 0 [.bool true]) w19.heap.size 0 [.bool false]) := ((Upd.refl _ _).drew).trans q2
        generalize (wr (wr (w19.alloc (.cells #[.bool false] 4)).drew w19.heap.size 0 [.bool true]) w19.heap.size 0 [.bool false]) = w20 at *
        have hzk20 := hk20.size
        have hX20 : Ext w w20 := hX19.trans hk20
        have hb20 := hk20.blk_some hb19 id
        have hl20 := hk20.blk_some hl19 id
        have ht20 := hk20.blk_some ht19 id
        have hxe20 := hX20.blk_some hxe id
        repeat ((first | refine qA rfl ?_|refine qB ?_|refine qC rfl ?_|refine qD ?_|refine qE ?_|refine qF ?_|refine qG ?_|refine qH ?_);try simp (maxSteps:=1000000)(disch:=(first|omega|(simp only [qI,qJ,qK]<;>omega)|exact qL _)) only [go_sem,↓reduceIte,n0,reduceCtorEq,n1,n2,n3,n4,n5,i0,i1,i2,i3,i4,i5,i6,i7,hb20,hl20,ht20,hxe20,Int.toNat_natCast,Nat.mul_one,hq0,hq1,hq2,hqe0,hrc1_0,hrc1_2,hrc1_3,hrc1_81,hri])
        refine W.drawR (.take 0 (.take 1 (.take 2 (.take 3 (.take 4 (.take 5 (.take 6 (.take 7 (.take 8 (.take 9 (.take 10 (.take 11 (.take 12 (.take 13 (.only 14 (.only 15 (.only 16 (.only 17 (.take 18 (.take 19 (.last 20))))))))))))))))))))) (ownB (.slice av j kv)) mixed (by kernel_rfl) ?_
        try simp (maxSteps:=1000000)(disch:=(first|omega|(simp only [qI,qJ,qK]<;>omega)|exact qL _ | (refine hnb _ ?_;first | omega | (simp only [World.size_alloc,size_wr,size_drew] <;> omega)))) only [go_sem,↓reduceIte,n0,reduceCtorEq,n1,n2,n3,n4,n5,i0,i1,i2,i3,i4,i5,i6,i7,hb20,hl20,ht20,hxe20,Int.toNat_natCast,Nat.mul_one,hq0,hq1,hq2,hqe0,hrc1_0,hrc1_2,hrc1_3,hrc1_81,hri]
        refine wp_octets (S := 9) (T := 22) (E := 5) (s := y.s) (by kernel_rfl) (by kernel_rfl) (by kernel_rfl) (by first | rfl | simp (maxSteps:=1000000)(disch:=(first|omega|(simp only [qI,qJ,qK]<;>omega)|exact qL _)) only [go_sem,↓reduceIte,n0,reduceCtorEq,n1,n2,n3,n4,n5,i0,i1,i2,i3,i4,i5,i6,i7,hb20,hl20,ht20,hxe20,Int.toNat_natCast,Nat.mul_one,hq0,hq1,hq2,hqe0,hrc1_0,hrc1_2,hrc1_3,hrc1_81,hri]) ?_
        intro a21 k21 w21 hB21 hEx21
        have hP21 : Upd (ownB (.slice av j kv)) w20.drew w21 := (Upd.refl _ _).trans (hEx21.mono fun _ h => h.elim)
        have hsq21 := hEx21.size
        try simp only [size_drew] at hsq21
        refine ⟨hP21,?_⟩
        try simp (maxSteps:=1000000)(disch:=(first|omega|(simp only [qI,qJ,qK]<;>omega)|exact qL _ | (refine hnb _ ?_;first | omega | (simp only [World.size_alloc,size_wr,size_drew] <;> omega)))) only [go_sem,↓reduceIte,n0,reduceCtorEq,n1,n2,n3,n4,n5,i0,i1,i2,i3,i4,i5,i6,i7,hb20,hl20,ht20,hxe20,Int.toNat_natCast,Nat.mul_one,hq0,hq1,hq2,hqe0,hrc1_0,hrc1_2,hrc1_3,hrc1_81,hri]
        refine ⟨hP21,?_⟩
        have hP22 : Upd (ownB (.slice av j kv)) w20.drew (w21.alloc (.cells #[.int .i64 0,.slice (some a21) y.s.length k21,.bool false,.slice none 0 0,.slice none 0 0] 37)) := show Upd (ownB (.slice av j kv)) w20.drew (w21.alloc (.cells #[.int .i64 0,.slice (some a21) y.s.length k21,.bool false,.slice none 0 0,.slice none 0 0] 37)) from (hP21).alloc _
        have hn22 : blk (w21.alloc (.cells #[.int .i64 0,.slice (some a21) y.s.length k21,.bool false,.slice none 0 0,.slice none 0 0] 37)) w21.heap.size = some (#[.int .i64 0,.slice (some a21) y.s.length k21,.bool false,.slice none 0 0,.slice none 0 0],37,(0,0)) := show blk (w21.alloc (.cells #[.int .i64 0,.slice (some a21) y.s.length k21,.bool false,.slice none 0 0,.slice none 0 0] 37)) w21.heap.size = some (#[.int .i64 0,.slice (some a21) y.s.length k21,.bool false,.slice none 0 0,.slice none 0 0],37,(0,0)) from blk_alloc_new rfl
        have hsq22 : (w21.alloc (.cells #[.int .i64 0,.slice (some a21) y.s.length k21,.bool false,.slice none 0 0,.slice none 0 0] 37)).heap.size = w21.heap.size + 1 := show (w21.alloc (.cells #[.int .i64 0,.slice (some a21) y.s.length k21,.bool false,.slice none 0 0,.slice none 0 0] 37)).heap.size = w21.heap.size + 1 from World.size_alloc _ _
        have hEx22 : Ext w21 (w21.alloc (.cells #[.int .i64 0,.slice (some a21) y.s.length k21,.bool false,.slice none 0 0,.slice none 0 0] 37)) := show Ext w21 (w21.alloc (.cells #[.int .i64 0,.slice (some a21) y.s.length k21,.bool false,.slice none 0 0,.slice none 0 0] 37)) from Upd.alloc (Upd.refl _ _) _
        refine ⟨hP22,?_⟩
        try simp only [List.append_nil]
        generalize (w21.alloc (.cells #[.int .i64 0,.slice (some a21) y.s.length k21,.bool false,.slice none 0 0,.slice none 0 0] 37)) = w22 at *
        try simp only [size_drew] at hsq22
        have hEw23 : Ext w19 w22 := ((hk20.drew.trans hEx21).trans hEx22)
        have hzw23 := hEw23.size
        obtain ⟨css,hown,hall⟩ := (hg.ext hEw23).ex
        have hcl := hall.1
        rw [hlj] at hcl
        have hx23 : TreeC (fun b => (fun b => w1.heap.size ≤ b) b ∧ b ≠ w.heap.size + 1 ∧ ¬ ownB (.slice av j kv) b) w22 ((tl1 (tlP d) fListGroupsRequest_1.of fListGroupsRequest_1.sub) y) [.int .i64 0,.slice (some a21) y.s.length k21,.bool false,.slice none 0 0,.slice none 0 0] := by
          exact TreeC.weaken (fun b _ hk => ⟨by omega,by omega,hnb b (.inr (by omega))⟩) (TreeC.weaken (ok' := fun b => w19.heap.size ≤ b) (fun b _ hk => by have hk' : w20.drew.heap.size ≤ b := hk;(try simp only [size_drew] at hk');omega) (TreeC.keep (Ext.keeps hEx22 _) (TreeC.intro rfl hB21 (treesN _ _) (tagsN _ _) : TreeC _ _ (.oct false y.s) [.int .i64 0,.slice (some a21) y.s.length k21,.bool false,.slice none 0 0,.slice none 0 0])))
        refine wp_append ap_34_34 (m := 1) (news := [.int .i64 0,.slice (some a21) y.s.length k21,.bool false,.slice none 0 0,.slice none 0 0]) (n := css.length) (cs := css.flatten) (v := (.slice av j kv)) ?_ rfl hown.1 (all2_flat_tree hall) (Src.blk (fr := (0,0)) (T := 37) hn22 rfl rfl) ?_ ?_ ?_
        · first | rfl | simp (maxSteps:=1000000)(disch:=(first|omega|(simp only [qI,qJ,qK]<;>omega)|exact qL _)) only [go_sem,↓reduceIte,n0,reduceCtorEq,n1,n2,n3,n4,n5,i0,i1,i2,i3,i4,i5,i6,i7]
        · omega
        · omega
        intro v' w23 ho hu hfr
        have hP23 := (hP22 : Upd (ownB (.slice av j kv)) w20.drew w22).trans hu
        have hzq23 := hP23.size
        simp only [size_drew] at hzq23
        have hlq23 := hP23.blk_some (show blk w20.drew (w.heap.size + 1) = _ from hl20) (hnb _ (.inl (by omega)))
        have hg' := GrowT.snoc hown hall hx23 hu hfr ho
        obtain ⟨va,vc,hv',_⟩ := ho.shape
        subst hv'
        have hne : ¬ ownB (.slice va (css.length + 1) vc) (w.heap.size + 1) := fun h => (hfr _ h).elim (hnb _ (.inl (by omega))) (fun h => by omega)
        refine ⟨hP23,?_⟩
        try simp (maxSteps:=1000000)(disch:=(first|omega|(simp only [qI,qJ,qK]<;>omega)|exact qL _ | (refine hnb _ ?_;first | omega | (simp only [World.size_alloc,size_wr,size_drew] <;> omega)))) only [go_sem,↓reduceIte,n0,reduceCtorEq,n1,n2,n3,n4,n5,i0,i1,i2,i3,i4,i5,i6,i7,hlq23,Int.toNat_natCast,Nat.mul_one,hrc1_0,hrc1_2,hrc1_3,hrc1_81,hri]
        repeat ((first | refine qA rfl ?_|refine qB ?_|refine qC rfl ?_|refine qD ?_|refine qE ?_|refine qF ?_|refine qG ?_|refine qH ?_);try simp (maxSteps:=1000000)(disch:=(first|omega|(simp only [qI,qJ,qK]<;>omega)|exact qL _)) only [go_sem,↓reduceIte,n0,reduceCtorEq,n1,n2,n3,n4,n5,i0,i1,i2,i3,i4,i5,i6,i7,hlq23,Int.toNat_natCast,Nat.mul_one,hrc1_0,hrc1_2,hrc1_3,hrc1_81,hri])
        refine ⟨⟨(by simp (maxSteps:=1000000)(disch:=(first|omega|(simp only [qI,qJ,qK]<;>omega)|exact qL _)) only [go_sem,↓reduceIte,n0,reduceCtorEq,n1,n2,n3,n4,n5,i0,i1,i2,i3,i4,i5,i6,i7,Holds_nil,Holds_cons,hrc1_0,hrc1_2,hrc1_3,hrc1_81,hri]),j + 1,(by simp (maxSteps:=1000000)(disch:=(first|omega|(simp only [qI,qJ,qK]<;>omega)|exact qL _)) only [go_sem,↓reduceIte,n0,reduceCtorEq,n1,n2,n3,n4,n5,i0,i1,i2,i3,i4,i5,i6,i7,hrc1_0,hrc1_2,hrc1_3,hrc1_81,hri];all_goals rfl),.slice va (css.length + 1) vc,by omega,?_,?_,?_⟩,?_⟩
        · rw [blk_wr_eq,hlq23];rfl
        · rw [hcat,List.map_append];exact hg'.upd ((Upd.refl _ _).wr _ _ (.inr rfl)) hne
        · refine Upd.wr ?_ _ _ (.inr rfl)
          exact (hUk.more ((hEw23.mono fun _ h => h.elim).trans hu) fun b hb h => absurd h (hnb b (.inl hb)))
        · try simp (maxSteps:=1000000)(disch:=(first|omega|(simp only [qI,qJ,qK]<;>omega)|exact qL _)) only [go_sem,↓reduceIte,n0,reduceCtorEq,n1,n2,n3,n4,n5,i0,i1,i2,i3,i4,i5,i6,i7,hrc1_0,hrc1_2,hrc1_3,hrc1_81,hri]
          simp only [RowKit.intOf];omega
      · have hk24 : Ext w19 (wr (wr (w19.alloc (.cells #[.bool false] 4)).drew w19.heap.size 0 [.bool false]) w19.heap.size 0 [.bool true]) := ((Upd.refl _ _).drew).trans q4
        generalize (wr (wr (w19.alloc (.cells #[.bool false] 4)).drew w19.heap.size 0 [.bool false]) w19.heap.size 0 [.bool true]) = w24 at *
        have hzk24 := hk24.size
        have hX24 : Ext w w24 := hX19.trans hk24
        have hb24 := hk24.blk_some hb19 id
        have hl24 := hk24.blk_some hl19 id
        have ht24 := hk24.blk_some ht19 id
        have hxe24 := hX24.blk_some hxe id
        repeat ((first | refine qA rfl ?_|refine qB ?_|refine qC rfl ?_|refine qD ?_|refine qE ?_|refine qF ?_|refine qG ?_|refine qH ?_);try simp (maxSteps:=1000000)(disch:=(first|omega|(simp only [qI,qJ,qK]<;>omega)|exact qL _)) only [go_sem,↓reduceIte,n0,reduceCtorEq,n1,n2,n3,n4,n5,i0,i1,i2,i3,i4,i5,i6,i7,hb24,hl24,ht24,hxe24,Int.toNat_natCast,Nat.mul_one,hq0,hq1,hq2,hqe0,hrc1_0,hrc1_2,hrc1_3,hrc1_81,hri])
        refine W.drawR (.take 0 (.take 1 (.take 2 (.take 3 (.take 4 (.take 5 (.take 6 (.take 7 (.take 8 (.take 9 (.take 10 (.take 11 (.take 14 (.two 12 (.two 13 (.only 15 (.only 16 (.take 17 (.take 18 (.last 19))))) 15 (.only 13 (.only 16 (.take 17 (.take 18 (.last 19)))))) 15 (.only 12 (.only 13 (.only 16 (.take 17 (.take 18 (.last 19)))))))))))))))))))) (ownB (.slice av j kv)) mixed (by kernel_rfl) ?_
        try simp (maxSteps:=1000000)(disch:=(first|omega|(simp only [qI,qJ,qK]<;>omega)|exact qL _ | (refine hnb _ ?_;first | omega | (simp only [World.size_alloc,size_wr,size_drew] <;> omega)))) only [go_sem,↓reduceIte,n0,reduceCtorEq,n1,n2,n3,n4,n5,i0,i1,i2,i3,i4,i5,i6,i7,hb24,hl24,ht24,hxe24,Int.toNat_natCast,Nat.mul_one,hq0,hq1,hq2,hqe0,hrc1_0,hrc1_2,hrc1_3,hrc1_81,hri]
        refine ⟨?_,?_⟩
        · skip
          refine wp_octets (S := 9) (T := 22) (E := 5) (s := y.s) (by kernel_rfl) (by kernel_rfl) (by kernel_rfl) (by first | rfl | simp (maxSteps:=1000000)(disch:=(first|omega|(simp only [qI,qJ,qK]<;>omega)|exact qL _)) only [go_sem,↓reduceIte,n0,reduceCtorEq,n1,n2,n3,n4,n5,i0,i1,i2,i3,i4,i5,i6,i7,hb24,hl24,ht24,hxe24,Int.toNat_natCast,Nat.mul_one,hq0,hq1,hq2,hqe0,hrc1_0,hrc1_2,hrc1_3,hrc1_81,hri]) ?_
          intro a25 k25 w25 hB25 hEx25
          have hP25 : Upd (ownB (.slice av j kv)) w24.drew w25 := (Upd.refl _ _).trans (hEx25.mono fun _ h => h.elim)
          have hsq25 := hEx25.size
          try simp only [size_drew] at hsq25
          refine ⟨hP25,?_⟩
          try simp (maxSteps:=1000000)(disch:=(first|omega|(simp only [qI,qJ,qK]<;>omega)|exact qL _ | (refine hnb _ ?_;first | omega | (simp only [World.size_alloc,size_wr,size_drew] <;> omega)))) only [go_sem,↓reduceIte,n0,reduceCtorEq,n1,n2,n3,n4,n5,i0,i1,i2,i3,i4,i5,i6,i7,hb24,hl24,ht24,hxe24,Int.toNat_natCast,Nat.mul_one,hq0,hq1,hq2,hqe0,hrc1_0,hrc1_2,hrc1_3,hrc1_81,hri]
          refine ⟨?_,?_⟩
          · skip
            refine ⟨hP25,?_⟩
            have hP26 : Upd (ownB (.slice av j kv)) w24.drew (w25.alloc (.cells #[.int .i64 0,.slice none 0 0,.bool false,.slice none 0 0,.slice none 0 0] 37)) := show Upd (ownB (.slice av j kv)) w24.drew (w25.alloc (.cells #[.int .i64 0,.slice none 0 0,.bool false,.slice none 0 0,.slice none 0 0] 37)) from (hP25).alloc _
            have hn26 : blk (w25.alloc (.cells #[.int .i64 0,.slice none 0 0,.bool false,.slice none 0 0,.slice none 0 0] 37)) w25.heap.size = some (#[.int .i64 0,.slice none 0 0,.bool false,.slice none 0 0,.slice none 0 0],37,(0,0)) := show blk (w25.alloc (.cells #[.int .i64 0,.slice none 0 0,.bool false,.slice none 0 0,.slice none 0 0] 37)) w25.heap.size = some (#[.int .i64 0,.slice none 0 0,.bool false,.slice none 0 0,.slice none 0 0],37,(0,0)) from blk_alloc_new rfl
            have hsq26 : (w25.alloc (.cells #[.int .i64 0,.slice none 0 0,.bool false,.slice none 0 0,.slice none 0 0] 37)).heap.size = w25.heap.size + 1 := show (w25.alloc (.cells #[.int .i64 0,.slice none 0 0,.bool false,.slice none 0 0,.slice none 0 0] 37)).heap.size = w25.heap.size + 1 from World.size_alloc _ _
            have hEx26 : Ext w25 (w25.alloc (.cells #[.int .i64 0,.slice none 0 0,.bool false,.slice none 0 0,.slice none 0 0] 37)) := show Ext w25 (w25.alloc (.cells #[.int .i64 0,.slice none 0 0,.bool false,.slice none 0 0,.slice none 0 0] 37)) from Upd.alloc (Upd.refl _ _) _
            refine ⟨hP26,?_⟩
            try simp only [List.append_nil]
            generalize (w25.alloc (.cells #[.int .i64 0,.slice none 0 0,.bool false,.slice none 0 0,.slice none 0 0] 37)) = w26 at *
            try simp only [size_drew] at hsq26
            have hEw27 : Ext w19 w26 := ((hk24.drew.trans hEx25).trans hEx26)
            have hzw27 := hEw27.size
            obtain ⟨css,hown,hall⟩ := (hg.ext hEw27).ex
            have hcl := hall.1
            rw [hlj] at hcl
            have hx27 : TreeC (fun b => (fun b => w1.heap.size ≤ b) b ∧ b ≠ w.heap.size + 1 ∧ ¬ ownB (.slice av j kv) b) w26 ((tl1 (tlP d) fListGroupsRequest_1.of fListGroupsRequest_1.sub) y) [.int .i64 0,.slice (some a25) y.s.length k25,.bool false,.slice none 0 0,.slice none 0 0] := by
              exact TreeC.weaken (fun b _ hk => ⟨by omega,by omega,hnb b (.inr (by omega))⟩) (TreeC.weaken (ok' := fun b => w19.heap.size ≤ b) (fun b _ hk => by have hk' : w24.drew.heap.size ≤ b := hk;(try simp only [size_drew] at hk');omega) (TreeC.keep (Ext.keeps hEx26 _) (TreeC.intro rfl hB25 (treesN _ _) (tagsN _ _) : TreeC _ _ (.oct false y.s) [.int .i64 0,.slice (some a25) y.s.length k25,.bool false,.slice none 0 0,.slice none 0 0])))
            refine wp_append ap_34_34 (m := 1) (news := [.int .i64 0,.slice none 0 0,.bool false,.slice none 0 0,.slice none 0 0]) (n := css.length) (cs := css.flatten) (v := (.slice av j kv)) ?_ rfl hown.1 (all2_flat_tree hall) (Src.blk (fr := (0,0)) (T := 37) hn26 rfl rfl) ?_ ?_ ?_
            · first | rfl | simp (maxSteps:=1000000)(disch:=(first|omega|(simp only [qI,qJ,qK]<;>omega)|exact qL _)) only [go_sem,↓reduceIte,n0,reduceCtorEq,n1,n2,n3,n4,n5,i0,i1,i2,i3,i4,i5,i6,i7]
            · omega
            · omega
            intro v' w27 ho hu hfr
            have hP27 := (hP26 : Upd (ownB (.slice av j kv)) w24.drew w26).trans hu
            have hzq27 := hP27.size
            simp only [size_drew] at hzq27
            have hlq27 := hP27.blk_some (show blk w24.drew (w.heap.size + 1) = _ from hl24) (hnb _ (.inl (by omega)))
            rcases ho.2 with ⟨_,h⟩ | ⟨g,cap,rest,fr,hv',hg',hbg,hlen,hth,hle⟩
            · exact absurd h (Nat.succ_ne_zero _)
            subst hv'
            have hgne : ¬ g = w.heap.size + 1 := fun h => (hfr g ⟨_,_,_,rfl,rfl⟩).elim (fun h' => hnb _ (.inl (by omega)) (h ▸ h')) (fun h' => by omega)
            have hfl : css.flatten.length = css.length * 5 := flatten_len hown.2
            have hlen2 : (css.flatten ++ ([.int .i64 0,.slice none 0 0,.bool false,.slice none 0 0,.slice none 0 0] : List Value) ++ rest).length = cap * 5 := by simp only [List.length_append] at hlen ⊢;omega
            obtain ⟨XX,hXX⟩ : ∃ X : Array Value,X = (css.flatten ++ ([.int .i64 0,.slice none 0 0,.bool false,.slice none 0 0,.slice none 0 0] : List Value) ++ rest).toArray := ⟨_,rfl⟩
            have hbgX : blk w27 g = some (XX,37,fr) := by rw [hXX];exact hbg
            have hXsz : XX.size = cap * 5 := by rw [hXX,List.size_toArray];exact hlen2
            have hth2 : thaw fr (css.length * 5) 5 = true := thaw_of hth (by omega)
            have hst : css.length * 5 + 5 ≤ XX.size := by omega
            have hset := Own.setlast (cs := [.int .i64 0,.slice (some a25) y.s.length k25,.bool false,.slice none 0 0,.slice none 0 0]) ho rfl rfl
            have hu2 : Upd (ownB (.slice av j kv)) w26 (wr w27 g (css.length * 5) [.int .i64 0,.slice (some a25) y.s.length k25,.bool false,.slice none 0 0,.slice none 0 0]) := hu.wr _ _ ((hfr g ⟨_,_,_,rfl,rfl⟩).symm)
            have hg2 := GrowT.snoc hown hall hx27 hu2 hfr hset
            have hcj : css.length = j := by first | exact hcl.symm.trans hlj | omega
            simp only [hcj] at hth2 hst hset hu2 hg2
            refine ⟨hP27,?_⟩
            try simp (maxSteps:=1000000)(disch:=(first|omega|(simp only [qI,qJ,qK]<;>omega)|exact qL _ | (refine hnb _ ?_;first | omega | (simp only [World.size_alloc,size_wr,size_drew] <;> omega)))) only [go_sem,↓reduceIte,n0,reduceCtorEq,n1,n2,n3,n4,n5,i0,i1,i2,i3,i4,i5,i6,i7,hlq27,hbgX,hth2,hst,hcj,Int.toNat_natCast,Nat.mul_one,hrc1_0,hrc1_2,hrc1_3,hrc1_81,hri]
            repeat ((first | refine qA rfl ?_|refine qB ?_|refine qC rfl ?_|refine qD ?_|refine qE ?_|refine qF ?_|refine qG ?_|refine qH ?_);try simp (maxSteps:=1000000)(disch:=(first|omega|(simp only [qI,qJ,qK]<;>omega)|exact qL _)) only [go_sem,↓reduceIte,n0,reduceCtorEq,n1,n2,n3,n4,n5,i0,i1,i2,i3,i4,i5,i6,i7,hlq27,hbgX,hth2,hst,hcj,Int.toNat_natCast,Nat.mul_one,hrc1_0,hrc1_2,hrc1_3,hrc1_81,hri])
            refine ⟨⟨(by simp (maxSteps:=1000000)(disch:=(first|omega|(simp only [qI,qJ,qK]<;>omega)|exact qL _)) only [go_sem,↓reduceIte,n0,reduceCtorEq,n1,n2,n3,n4,n5,i0,i1,i2,i3,i4,i5,i6,i7,Holds_nil,Holds_cons,hrc1_0,hrc1_2,hrc1_3,hrc1_81,hri]),j + 1,(by simp (maxSteps:=1000000)(disch:=(first|omega|(simp only [qI,qJ,qK]<;>omega)|exact qL _)) only [go_sem,↓reduceIte,n0,reduceCtorEq,n1,n2,n3,n4,n5,i0,i1,i2,i3,i4,i5,i6,i7,hrc1_0,hrc1_2,hrc1_3,hrc1_81,hri];all_goals rfl),.slice (some ⟨g,0,none⟩) (j + 1) cap,by omega,?_,?_,?_⟩,?_⟩
            · rw [blk_wr_ne (by omega),blk_wr_eq,hlq27];rfl
            · rw [hcat,List.map_append,wr_comm (Ne.symm hgne)]
              exact hg2.upd ((Upd.refl _ _).wr _ _ (.inr rfl)) (fun h => hgne (ownB_row h).symm)
            · rw [wr_comm (Ne.symm hgne)]
              refine Upd.wr ?_ _ _ (.inr rfl)
              exact (hUk.more ((hEw27.mono fun _ h => h.elim).trans hu2) fun b hb h => absurd h (hnb b (.inl hb)))
            · try simp (maxSteps:=1000000)(disch:=(first|omega|(simp only [qI,qJ,qK]<;>omega)|exact qL _)) only [go_sem,↓reduceIte,n0,reduceCtorEq,n1,n2,n3,n4,n5,i0,i1,i2,i3,i4,i5,i6,i7,hrc1_0,hrc1_2,hrc1_3,hrc1_81,hri]
              simp only [RowKit.intOf];omega
          · skip
            have hP28 : Upd (ownB (.slice av j kv)) w24.drew (w25.alloc (.cells #[.int .i64 0,.slice none 0 0,.bool false,.slice none 0 0,.slice none 0 0] 37)) := show Upd (ownB (.slice av j kv)) w24.drew (w25.alloc (.cells #[.int .i64 0,.slice none 0 0,.bool false,.slice none 0 0,.slice none 0 0] 37)) from (hP25).alloc _
            have hn28 : blk (w25.alloc (.cells #[.int .i64 0,.slice none 0 0,.bool false,.slice none 0 0,.slice none 0 0] 37)) w25.heap.size = some (#[.int .i64 0,.slice none 0 0,.bool false,.slice none 0 0,.slice none 0 0],37,(0,0)) := show blk (w25.alloc (.cells #[.int .i64 0,.slice none 0 0,.bool false,.slice none 0 0,.slice none 0 0] 37)) w25.heap.size = some (#[.int .i64 0,.slice none 0 0,.bool false,.slice none 0 0,.slice none 0 0],37,(0,0)) from blk_alloc_new rfl
            have hsq28 : (w25.alloc (.cells #[.int .i64 0,.slice none 0 0,.bool false,.slice none 0 0,.slice none 0 0] 37)).heap.size = w25.heap.size + 1 := show (w25.alloc (.cells #[.int .i64 0,.slice none 0 0,.bool false,.slice none 0 0,.slice none 0 0] 37)).heap.size = w25.heap.size + 1 from World.size_alloc _ _
            have hEx28 : Ext w25 (w25.alloc (.cells #[.int .i64 0,.slice none 0 0,.bool false,.slice none 0 0,.slice none 0 0] 37)) := show Ext w25 (w25.alloc (.cells #[.int .i64 0,.slice none 0 0,.bool false,.slice none 0 0,.slice none 0 0] 37)) from Upd.alloc (Upd.refl _ _) _
            refine ⟨hP28,?_⟩
            try simp only [List.append_nil]
            generalize (w25.alloc (.cells #[.int .i64 0,.slice none 0 0,.bool false,.slice none 0 0,.slice none 0 0] 37)) = w28 at *
            try simp only [size_drew] at hsq28
            refine ⟨hP28,?_⟩
            have hEw29 : Ext w19 w28 := ((hk24.drew.trans hEx25).trans hEx28)
            have hzw29 := hEw29.size
            obtain ⟨css,hown,hall⟩ := (hg.ext hEw29).ex
            have hcl := hall.1
            rw [hlj] at hcl
            have hx29 : TreeC (fun b => (fun b => w1.heap.size ≤ b) b ∧ b ≠ w.heap.size + 1 ∧ ¬ ownB (.slice av j kv) b) w28 ((tl1 (tlP d) fListGroupsRequest_1.of fListGroupsRequest_1.sub) y) [.int .i64 0,.slice (some a25) y.s.length k25,.bool false,.slice none 0 0,.slice none 0 0] := by
              exact TreeC.weaken (fun b _ hk => ⟨by omega,by omega,hnb b (.inr (by omega))⟩) (TreeC.weaken (ok' := fun b => w19.heap.size ≤ b) (fun b _ hk => by have hk' : w24.drew.heap.size ≤ b := hk;(try simp only [size_drew] at hk');omega) (TreeC.keep (Ext.keeps hEx28 _) (TreeC.intro rfl hB25 (treesN _ _) (tagsN _ _) : TreeC _ _ (.oct false y.s) [.int .i64 0,.slice (some a25) y.s.length k25,.bool false,.slice none 0 0,.slice none 0 0])))
            refine wp_append ap_34_34 (m := 1) (news := [.int .i64 0,.slice none 0 0,.bool false,.slice none 0 0,.slice none 0 0]) (n := css.length) (cs := css.flatten) (v := (.slice av j kv)) ?_ rfl hown.1 (all2_flat_tree hall) (Src.blk (fr := (0,0)) (T := 37) hn28 rfl rfl) ?_ ?_ ?_
            · first | rfl | simp (maxSteps:=1000000)(disch:=(first|omega|(simp only [qI,qJ,qK]<;>omega)|exact qL _)) only [go_sem,↓reduceIte,n0,reduceCtorEq,n1,n2,n3,n4,n5,i0,i1,i2,i3,i4,i5,i6,i7]
            · omega
            · omega
            intro v' w29 ho hu hfr
            have hP29 := (hP28 : Upd (ownB (.slice av j kv)) w24.drew w28).trans hu
            have hzq29 := hP29.size
            simp only [size_drew] at hzq29
            have hlq29 := hP29.blk_some (show blk w24.drew (w.heap.size + 1) = _ from hl24) (hnb _ (.inl (by omega)))
            rcases ho.2 with ⟨_,h⟩ | ⟨g,cap,rest,fr,hv',hg',hbg,hlen,hth,hle⟩
            · exact absurd h (Nat.succ_ne_zero _)
            subst hv'
            have hgne : ¬ g = w.heap.size + 1 := fun h => (hfr g ⟨_,_,_,rfl,rfl⟩).elim (fun h' => hnb _ (.inl (by omega)) (h ▸ h')) (fun h' => by omega)
            have hfl : css.flatten.length = css.length * 5 := flatten_len hown.2
            have hlen2 : (css.flatten ++ ([.int .i64 0,.slice none 0 0,.bool false,.slice none 0 0,.slice none 0 0] : List Value) ++ rest).length = cap * 5 := by simp only [List.length_append] at hlen ⊢;omega
            obtain ⟨XX,hXX⟩ : ∃ X : Array Value,X = (css.flatten ++ ([.int .i64 0,.slice none 0 0,.bool false,.slice none 0 0,.slice none 0 0] : List Value) ++ rest).toArray := ⟨_,rfl⟩
            have hbgX : blk w29 g = some (XX,37,fr) := by rw [hXX];exact hbg
            have hXsz : XX.size = cap * 5 := by rw [hXX,List.size_toArray];exact hlen2
            have hth2 : thaw fr (css.length * 5) 5 = true := thaw_of hth (by omega)
            have hst : css.length * 5 + 5 ≤ XX.size := by omega
            have hset := Own.setlast (cs := [.int .i64 0,.slice (some a25) y.s.length k25,.bool false,.slice none 0 0,.slice none 0 0]) ho rfl rfl
            have hu2 : Upd (ownB (.slice av j kv)) w28 (wr w29 g (css.length * 5) [.int .i64 0,.slice (some a25) y.s.length k25,.bool false,.slice none 0 0,.slice none 0 0]) := hu.wr _ _ ((hfr g ⟨_,_,_,rfl,rfl⟩).symm)
            have hg2 := GrowT.snoc hown hall hx29 hu2 hfr hset
            have hcj : css.length = j := by first | exact hcl.symm.trans hlj | omega
            simp only [hcj] at hth2 hst hset hu2 hg2
            refine ⟨hP29,?_⟩
            try simp (maxSteps:=1000000)(disch:=(first|omega|(simp only [qI,qJ,qK]<;>omega)|exact qL _ | (refine hnb _ ?_;first | omega | (simp only [World.size_alloc,size_wr,size_drew] <;> omega)))) only [go_sem,↓reduceIte,n0,reduceCtorEq,n1,n2,n3,n4,n5,i0,i1,i2,i3,i4,i5,i6,i7,hlq29,hbgX,hth2,hst,hcj,Int.toNat_natCast,Nat.mul_one,hrc1_0,hrc1_2,hrc1_3,hrc1_81,hri]
            repeat ((first | refine qA rfl ?_|refine qB ?_|refine qC rfl ?_|refine qD ?_|refine qE ?_|refine qF ?_|refine qG ?_|refine qH ?_);try simp (maxSteps:=1000000)(disch:=(first|omega|(simp only [qI,qJ,qK]<;>omega)|exact qL _)) only [go_sem,↓reduceIte,n0,reduceCtorEq,n1,n2,n3,n4,n5,i0,i1,i2,i3,i4,i5,i6,i7,hlq29,hbgX,hth2,hst,hcj,Int.toNat_natCast,Nat.mul_one,hrc1_0,hrc1_2,hrc1_3,hrc1_81,hri])
            refine ⟨⟨(by simp (maxSteps:=1000000)(disch:=(first|omega|(simp only [qI,qJ,qK]<;>omega)|exact qL _)) only [go_sem,↓reduceIte,n0,reduceCtorEq,n1,n2,n3,n4,n5,i0,i1,i2,i3,i4,i5,i6,i7,Holds_nil,Holds_cons,hrc1_0,hrc1_2,hrc1_3,hrc1_81,hri]),j + 1,(by simp (maxSteps:=1000000)(disch:=(first|omega|(simp only [qI,qJ,qK]<;>omega)|exact qL _)) only [go_sem,↓reduceIte,n0,reduceCtorEq,n1,n2,n3,n4,n5,i0,i1,i2,i3,i4,i5,i6,i7,hrc1_0,hrc1_2,hrc1_3,hrc1_81,hri];all_goals rfl),.slice (some ⟨g,0,none⟩) (j + 1) cap,by omega,?_,?_,?_⟩,?_⟩
            · rw [blk_wr_ne (by omega),blk_wr_eq,hlq29];rfl
            · rw [hcat,List.map_append,wr_comm (Ne.symm hgne)]
              exact hg2.upd ((Upd.refl _ _).wr _ _ (.inr rfl)) (fun h => hgne (ownB_row h).symm)
            · rw [wr_comm (Ne.symm hgne)]
              refine Upd.wr ?_ _ _ (.inr rfl)
              exact (hUk.more ((hEw29.mono fun _ h => h.elim).trans hu2) fun b hb h => absurd h (hnb b (.inl hb)))
            · try simp (maxSteps:=1000000)(disch:=(first|omega|(simp only [qI,qJ,qK]<;>omega)|exact qL _)) only [go_sem,↓reduceIte,n0,reduceCtorEq,n1,n2,n3,n4,n5,i0,i1,i2,i3,i4,i5,i6,i7,hrc1_0,hrc1_2,hrc1_3,hrc1_81,hri]
              simp only [RowKit.intOf];omega
        · skip
          have hP30 : Upd (ownB (.slice av j kv)) w24.drew (w24.alloc (.cells #[.int .i64 0,.slice none 0 0,.bool false,.slice none 0 0,.slice none 0 0] 37)).drew := show Upd (ownB (.slice av j kv)) w24.drew (w24.drew.alloc (.cells #[.int .i64 0,.slice none 0 0,.bool false,.slice none 0 0,.slice none 0 0] 37)) from (Upd.refl _ _).alloc _
          have hn30 : blk (w24.alloc (.cells #[.int .i64 0,.slice none 0 0,.bool false,.slice none 0 0,.slice none 0 0] 37)).drew w24.drew.heap.size = some (#[.int .i64 0,.slice none 0 0,.bool false,.slice none 0 0,.slice none 0 0],37,(0,0)) := show blk (w24.drew.alloc (.cells #[.int .i64 0,.slice none 0 0,.bool false,.slice none 0 0,.slice none 0 0] 37)) w24.drew.heap.size = some (#[.int .i64 0,.slice none 0 0,.bool false,.slice none 0 0,.slice none 0 0],37,(0,0)) from blk_alloc_new rfl
          have hsq30 : (w24.alloc (.cells #[.int .i64 0,.slice none 0 0,.bool false,.slice none 0 0,.slice none 0 0] 37)).drew.heap.size = w24.drew.heap.size + 1 := show (w24.drew.alloc (.cells #[.int .i64 0,.slice none 0 0,.bool false,.slice none 0 0,.slice none 0 0] 37)).heap.size = w24.drew.heap.size + 1 from World.size_alloc _ _
          have hEx30 : Ext w24.drew (w24.alloc (.cells #[.int .i64 0,.slice none 0 0,.bool false,.slice none 0 0,.slice none 0 0] 37)).drew := show Ext w24.drew (w24.drew.alloc (.cells #[.int .i64 0,.slice none 0 0,.bool false,.slice none 0 0,.slice none 0 0] 37)) from Upd.alloc (Upd.refl _ _) _
          refine ⟨hP30,?_⟩
          try simp only [List.append_nil]
          generalize (w24.alloc (.cells #[.int .i64 0,.slice none 0 0,.bool false,.slice none 0 0,.slice none 0 0] 37)).drew = w30 at *
          try simp only [size_drew] at hsq30
          refine wp_octets (S := 9) (T := 22) (E := 5) (s := y.s) (by kernel_rfl) (by kernel_rfl) (by kernel_rfl) (by first | rfl | simp (maxSteps:=1000000)(disch:=(first|omega|(simp only [qI,qJ,qK]<;>omega)|exact qL _)) only [go_sem,↓reduceIte,n0,reduceCtorEq,n1,n2,n3,n4,n5,i0,i1,i2,i3,i4,i5,i6,i7,hb24,hl24,ht24,hxe24,Int.toNat_natCast,Nat.mul_one,hq0,hq1,hq2,hqe0,hrc1_0,hrc1_2,hrc1_3,hrc1_81,hri]) ?_
          intro a31 k31 w31 hB31 hEx31
          have hP31 : Upd (ownB (.slice av j kv)) w24.drew w31 := (hP30).trans (hEx31.mono fun _ h => h.elim)
          have hsq31 := hEx31.size
          try simp only [size_drew] at hsq31
          refine ⟨hP31,?_⟩
          try simp (maxSteps:=1000000)(disch:=(first|omega|(simp only [qI,qJ,qK]<;>omega)|exact qL _ | (refine hnb _ ?_;first | omega | (simp only [World.size_alloc,size_wr,size_drew] <;> omega)))) only [go_sem,↓reduceIte,n0,reduceCtorEq,n1,n2,n3,n4,n5,i0,i1,i2,i3,i4,i5,i6,i7,hb24,hl24,ht24,hxe24,Int.toNat_natCast,Nat.mul_one,hq0,hq1,hq2,hqe0,hrc1_0,hrc1_2,hrc1_3,hrc1_81,hri]
          refine ⟨hP31,?_⟩
          have hEw32 : Ext w19 w31 := ((hk24.drew.trans hEx30).trans hEx31)
          have hzw32 := hEw32.size
          obtain ⟨css,hown,hall⟩ := (hg.ext hEw32).ex
          have hcl := hall.1
          rw [hlj] at hcl
          have hx32 : TreeC (fun b => (fun b => w1.heap.size ≤ b) b ∧ b ≠ w.heap.size + 1 ∧ ¬ ownB (.slice av j kv) b) w31 ((tl1 (tlP d) fListGroupsRequest_1.of fListGroupsRequest_1.sub) y) [.int .i64 0,.slice (some a31) y.s.length k31,.bool false,.slice none 0 0,.slice none 0 0] := by
            exact TreeC.weaken (fun b _ hk => ⟨by omega,by omega,hnb b (.inr (by omega))⟩) (TreeC.intro rfl hB31 (treesN _ _) (tagsN _ _) : TreeC _ _ (.oct false y.s) [.int .i64 0,.slice (some a31) y.s.length k31,.bool false,.slice none 0 0,.slice none 0 0])
          refine wp_append ap_34_34 (m := 1) (news := [.int .i64 0,.slice none 0 0,.bool false,.slice none 0 0,.slice none 0 0]) (n := css.length) (cs := css.flatten) (v := (.slice av j kv)) ?_ rfl hown.1 (all2_flat_tree hall) (Src.blk (fr := (0,0)) (T := 37) (hEx31.blk_some hn30 id) rfl rfl) ?_ ?_ ?_
          · first | rfl | simp (maxSteps:=1000000)(disch:=(first|omega|(simp only [qI,qJ,qK]<;>omega)|exact qL _)) only [go_sem,↓reduceIte,n0,reduceCtorEq,n1,n2,n3,n4,n5,i0,i1,i2,i3,i4,i5,i6,i7]
          · omega
          · omega
          intro v' w32 ho hu hfr
          have hP32 := (hP31 : Upd (ownB (.slice av j kv)) w24.drew w31).trans hu
          have hzq32 := hP32.size
          simp only [size_drew] at hzq32
          have hlq32 := hP32.blk_some (show blk w24.drew (w.heap.size + 1) = _ from hl24) (hnb _ (.inl (by omega)))
          rcases ho.2 with ⟨_,h⟩ | ⟨g,cap,rest,fr,hv',hg',hbg,hlen,hth,hle⟩
          · exact absurd h (Nat.succ_ne_zero _)
          subst hv'
          have hgne : ¬ g = w.heap.size + 1 := fun h => (hfr g ⟨_,_,_,rfl,rfl⟩).elim (fun h' => hnb _ (.inl (by omega)) (h ▸ h')) (fun h' => by omega)
          have hfl : css.flatten.length = css.length * 5 := flatten_len hown.2
          have hlen2 : (css.flatten ++ ([.int .i64 0,.slice none 0 0,.bool false,.slice none 0 0,.slice none 0 0] : List Value) ++ rest).length = cap * 5 := by simp only [List.length_append] at hlen ⊢;omega
          obtain ⟨XX,hXX⟩ : ∃ X : Array Value,X = (css.flatten ++ ([.int .i64 0,.slice none 0 0,.bool false,.slice none 0 0,.slice none 0 0] : List Value) ++ rest).toArray := ⟨_,rfl⟩
          have hbgX : blk w32 g = some (XX,37,fr) := by rw [hXX];exact hbg
          have hXsz : XX.size = cap * 5 := by rw [hXX,List.size_toArray];exact hlen2
          have hth2 : thaw fr (css.length * 5) 5 = true := thaw_of hth (by omega)
          have hst : css.length * 5 + 5 ≤ XX.size := by omega
          have hset := Own.setlast (cs := [.int .i64 0,.slice (some a31) y.s.length k31,.bool false,.slice none 0 0,.slice none 0 0]) ho rfl rfl
          have hu2 : Upd (ownB (.slice av j kv)) w31 (wr w32 g (css.length * 5) [.int .i64 0,.slice (some a31) y.s.length k31,.bool false,.slice none 0 0,.slice none 0 0]) := hu.wr _ _ ((hfr g ⟨_,_,_,rfl,rfl⟩).symm)
          have hg2 := GrowT.snoc hown hall hx32 hu2 hfr hset
          have hcj : css.length = j := by first | exact hcl.symm.trans hlj | omega
          simp only [hcj] at hth2 hst hset hu2 hg2
          refine ⟨hP32,?_⟩
          try simp (maxSteps:=1000000)(disch:=(first|omega|(simp only [qI,qJ,qK]<;>omega)|exact qL _ | (refine hnb _ ?_;first | omega | (simp only [World.size_alloc,size_wr,size_drew] <;> omega)))) only [go_sem,↓reduceIte,n0,reduceCtorEq,n1,n2,n3,n4,n5,i0,i1,i2,i3,i4,i5,i6,i7,hlq32,hbgX,hth2,hst,hcj,Int.toNat_natCast,Nat.mul_one,hrc1_0,hrc1_2,hrc1_3,hrc1_81,hri]
          repeat ((first | refine qA rfl ?_|refine qB ?_|refine qC rfl ?_|refine qD ?_|refine qE ?_|refine qF ?_|refine qG ?_|refine qH ?_);try simp (maxSteps:=1000000)(disch:=(first|omega|(simp only [qI,qJ,qK]<;>omega)|exact qL _)) only [go_sem,↓reduceIte,n0,reduceCtorEq,n1,n2,n3,n4,n5,i0,i1,i2,i3,i4,i5,i6,i7,hlq32,hbgX,hth2,hst,hcj,Int.toNat_natCast,Nat.mul_one,hrc1_0,hrc1_2,hrc1_3,hrc1_81,hri])
          refine ⟨⟨(by simp (maxSteps:=1000000)(disch:=(first|omega|(simp only [qI,qJ,qK]<;>omega)|exact qL _)) only [go_sem,↓reduceIte,n0,reduceCtorEq,n1,n2,n3,n4,n5,i0,i1,i2,i3,i4,i5,i6,i7,Holds_nil,Holds_cons,hrc1_0,hrc1_2,hrc1_3,hrc1_81,hri]),j + 1,(by simp (maxSteps:=1000000)(disch:=(first|omega|(simp only [qI,qJ,qK]<;>omega)|exact qL _)) only [go_sem,↓reduceIte,n0,reduceCtorEq,n1,n2,n3,n4,n5,i0,i1,i2,i3,i4,i5,i6,i7,hrc1_0,hrc1_2,hrc1_3,hrc1_81,hri];all_goals rfl),.slice (some ⟨g,0,none⟩) (j + 1) cap,by omega,?_,?_,?_⟩,?_⟩
          · rw [blk_wr_ne (by omega),blk_wr_eq,hlq32];rfl
          · rw [hcat,List.map_append,wr_comm (Ne.symm hgne)]
            exact hg2.upd ((Upd.refl _ _).wr _ _ (.inr rfl)) (fun h => hgne (ownB_row h).symm)
          · rw [wr_comm (Ne.symm hgne)]
            refine Upd.wr ?_ _ _ (.inr rfl)
            exact (hUk.more ((hEw32.mono fun _ h => h.elim).trans hu2) fun b hb h => absurd h (hnb b (.inl hb)))
          · try simp (maxSteps:=1000000)(disch:=(first|omega|(simp only [qI,qJ,qK]<;>omega)|exact qL _)) only [go_sem,↓reduceIte,n0,reduceCtorEq,n1,n2,n3,n4,n5,i0,i1,i2,i3,i4,i5,i6,i7,hrc1_0,hrc1_2,hrc1_3,hrc1_81,hri]
            simp only [RowKit.intOf];omega
    · have hjn : j = L1.length := by omega
      subst hjn
      rw [List.take_length] at hg
      repeat ((first | refine qA rfl ?_|refine qB ?_|refine qC rfl ?_|refine qD ?_|refine qE ?_|refine qF ?_|refine qG ?_|refine qH ?_);try simp (maxSteps:=1000000)(disch:=(first|omega|(simp only [qI,qJ,qK]<;>omega)|exact qL _)) only [go_sem,↓reduceIte,n0,reduceCtorEq,n1,n2,n3,n4,n5,i0,i1,i2,i3,i4,i5,i6,i7,hrc1_0,hrc1_2,hrc1_3,hrc1_81,hri])
      exact ⟨(by simp (maxSteps:=1000000)(disch:=(first|omega|(simp only [qI,qJ,qK]<;>omega)|exact qL _)) only [go_sem,↓reduceIte,n0,reduceCtorEq,n1,n2,n3,n4,n5,i0,i1,i2,i3,i4,i5,i6,i7,Holds_nil,Holds_cons,hrc1_0,hrc1_2,hrc1_3,hrc1_81,hri]),v,hl19,hg,hUk⟩
  rintro ρ w33 ⟨⟨hrd1_0,hrd1_2,hrd1_3,hrd1_81,-⟩,v,hl33,hg33,hUz33⟩
  have hV33 : Upd (fun b => b = w.heap.size + 1 ∨ b = w.heap.size + 2) w18 w33 := hUz33.mono fun _ h => .inl h
  have hU33 : Upd (fun b => b = w.heap.size + 1 ∨ b = w.heap.size + 2) w1 w33 := hU18.trans hV33
  have hz33 := hU33.size
  have hX33 : Ext w w33 := hE1.more hU33 fun b hb h => by omega
  have hb33 := hX33.blk_some hb id
  have ht33 := hUz33.blk_some ht18 (by omega)
  obtain ⟨av1,kv1,hvs,_⟩ := hg33.shape
  subst hvs
  have hf1 : TreeC (fun b => w1.heap.size ≤ b) w33 (.mk 0 [] (t.at 1).null (L1.map (tl1 (tlP d) fListGroupsRequest_1.of fListGroupsRequest_1.sub)) []) [.int .i64 0,.slice none 0 0,.bool (t.at 1).null,.slice av1 (List.map (tl1 (tlP d) fListGroupsRequest_1.of fListGroupsRequest_1.sub) L1).length kv1,.slice none 0 0] := TreeC.intro rfl (BytesV.nil _ _) (hg33.trees (fun _ _ h => h) (fun b hb => by have := hz18;omega)) (tagsN _ _)
  repeat ((first | refine qA rfl ?_|refine qB ?_|refine qC rfl ?_|refine qD ?_|refine qE ?_|refine qF ?_|refine qG ?_|refine qH ?_);try simp (maxSteps:=1000000)(disch:=(first|omega|(simp only [qI,qJ,qK]<;>omega)|exact qL _)) only [go_sem,↓reduceIte,n0,reduceCtorEq,n1,n2,n3,n4,n5,i0,i1,i2,i3,i4,i5,i6,i7,hb33,hl33,ht33,hq0,hq1,hq2,hrd1_0,hrd1_2,hrd1_3])
  refine (EachG_fn (ok := fun b => b < w.heap.size) 77 ca_77 #[.pointer (some ⟨w.heap.size + 2,0,none⟩)] w33 (tb := b) (to := 3) hb33 hq2 ((hT.weaken fun b hb _ => hb).keep (hX33.keeps _)) (sortT_perm _) (sortT_lt hgu.2.1) (by rw [(sortT_perm t.u).length_eq];exact hgu.1)
    (fun b => b = w.heap.size + 2) (by omega) (fun b hb hk e => by have hk' : b < w.heap.size := hk;omega) (fun b hb => by have := blk_lt ht33;omega)
    (fun wl done w' => ∃ v,blk w' (w.heap.size + 2) = some (#[.int .i64 0,.slice none 0 0,.bool false,.slice (some ⟨w.heap.size + 1,0,none⟩) 2 2,v],37,(0,0)) ∧ GrowU (fun b => w1.heap.size ≤ b) wl.heap.size (w.heap.size + 2) w' 68 v done) (fun wl hE => ⟨_,hE.blk_some ht33 id,GrowU.nil _ _ _ _ _⟩) ?_).mono ?_
  · rintro wl hE done y vv wc hpre ⟨v,hbv,hg⟩ hU hvv hy
    have hz' := hE.size
    have hzu := hU.size
    have htl := blk_lt ht33
    have hpl := hpre.length_le
    simp only [List.length_append,List.length_cons,List.length_nil] at hpl
    rw [(sortT_perm t.u).length_eq] at hpl
    have hlu := hgu.1
    have hmy : y ∈ t.u := (sortT_perm t.u).mem_iff.1 (hpre.subset (by simp))
    refine (tagclListGroupsRequest_fn (ok := fun b => b < w.heap.size) _ _ _ _ v done y vv wc hbv hg hzu (by omega) (hvv.keep ((hE.mono (fun _ h => h.elim) |>.trans hU : Upd (fun b => b = w.heap.size + 2) w33 wc).keeps fun b _ hk e => by have hk' : b < w.heap.size := hk;omega)) hy (hgu.2.2 y hmy) (by omega) (fun b hb => by have := hz33;omega)).mono ?_
    rintro _ w2' ⟨⟨v',h1,h2⟩,h3⟩
    exact ⟨⟨v',h1,h2⟩,hU.trans' h3 fun b hb h => h.elim id fun h => by omega⟩
  rintro _ w34 ⟨wl,hEl,⟨v,ht34,hgU⟩,hUe⟩
  have hzl := hEl.size
  obtain ⟨aU,kU,hvs,_⟩ := hgU.shape
  subst hvs
  have hV34 : Upd (fun b => b = w.heap.size + 1 ∨ b = w.heap.size + 2) w33 w34 := (hEl.mono fun _ h => h.elim).trans (hUe.mono fun _ h => .inr h)
  have hU34 : Upd (fun b => b = w.heap.size + 1 ∨ b = w.heap.size + 2) w1 w34 := hU33.trans hV34
  have hz34 := hU34.size
  have hX34 : Ext w w34 := hE1.more hU34 fun b hb h => by omega
  have hb34 := hX34.blk_some hb id
  have hl34 := (((hEl.mono fun _ h => h.elim).trans hUe : Upd (fun b => b = w.heap.size + 2) w33 w34)).blk_some hl33 (by omega)
  have hTU := hgU.tags (ok' := (fun b => w1.heap.size ≤ b)) (fun _ _ h => h) (fun b hb => by have := hz33;omega)
  repeat ((first | refine qA rfl ?_|refine qB ?_|refine qC rfl ?_|refine qD ?_|refine qE ?_|refine qF ?_|refine qG ?_|refine qH ?_);try simp (maxSteps:=1000000)(disch:=(first|omega|(simp only [qI,qJ,qK]<;>omega)|exact qL _)) only [go_sem,↓reduceIte,n0,reduceCtorEq,n1,n2,n3,n4,n5,i0,i1,i2,i3,i4,i5,i6,i7,hb34,hl34,ht34,hq0,hq1,hq2,hrd1_0,hrd1_2,hrd1_3,cellsAt_five])
  refine (sorted_fn _ _ w34 hTU (sortT_lt hgu.2.1) (by rw [(sortT_perm t.u).length_eq];exact hgu.1)).mono ?_
  rintro _ w35 hEs
  have hV35 : Upd (fun b => b = w.heap.size + 1 ∨ b = w.heap.size + 2) w34 w35 := hEs.mono fun _ h => h.elim
  have hU35 : Upd (fun b => b = w.heap.size + 1 ∨ b = w.heap.size + 2) w1 w35 := hU34.trans hV35
  have hz35 := hU35.size
  have hX35 : Ext w w35 := hE1.more hU35 fun b hb h => by omega
  have hb35 := hX35.blk_some hb id
  have hl35 := hEs.blk_some hl34 id
  have ht35 := hEs.blk_some ht34 id
  have hr35 := (hU35.blk_some hr1 (by omega))
  have hC_35 : Upd (fun b => b = w.heap.size + 1 ∨ b = w.heap.size + 2) w35 w35 := Upd.refl _ _
  have hC_34 : Upd (fun b => b = w.heap.size + 1 ∨ b = w.heap.size + 2) w34 w35 := hV35.trans hC_35
  have hC_33 : Upd (fun b => b = w.heap.size + 1 ∨ b = w.heap.size + 2) w33 w35 := hV34.trans hC_34
  have hC_18 : Upd (fun b => b = w.heap.size + 1 ∨ b = w.heap.size + 2) w18 w35 := hV33.trans hC_33
  have hC_17 : Upd (fun b => b = w.heap.size + 1 ∨ b = w.heap.size + 2) w17 w35 := hV18.trans hC_18
  have hC_2 : Upd (fun b => b = w.heap.size + 1 ∨ b = w.heap.size + 2) w2 w35 := hV17.trans hC_17
  have hC_1 : Upd (fun b => b = w.heap.size + 1 ∨ b = w.heap.size + 2) w1 w35 := hV2.trans hC_2
  have hF0 := TreeC.keep (hC_17.keeps fun b hb hk e => by have hk' : w1.heap.size ≤ b := hk;omega) hf0
  have hF1 := TreeC.keep (hC_33.keeps fun b hb hk e => by have hk' : w1.heap.size ≤ b := hk;omega) hf1
  replace hF0 : TreeC (fun b => w1.heap.size ≤ b) w35 (tlF (tlP d) fListGroupsRequest_0 (t.at 0)) [.int .i64 0,.slice none 0 0,.bool (t.at 0).null,.slice av0 (List.map (tl1 (tlP d) fListGroupsRequest_0.of fListGroupsRequest_0.sub) L0).length kv0,.slice none 0 0] := by rw [show tlF (tlP d) fListGroupsRequest_0 (t.at 0) = .mk 0 [] (t.at 0).null ((if (t.at 0).null = true then [] else (t.at 0).l).map (tl1 (tlP d) fListGroupsRequest_0.of fListGroupsRequest_0.sub)) [] from rfl,← hL0];exact hF0
  replace hF1 : TreeC (fun b => w1.heap.size ≤ b) w35 (tlF (tlP d) fListGroupsRequest_1 (t.at 1)) [.int .i64 0,.slice none 0 0,.bool (t.at 1).null,.slice av1 (List.map (tl1 (tlP d) fListGroupsRequest_1.of fListGroupsRequest_1.sub) L1).length kv1,.slice none 0 0] := by rw [show tlF (tlP d) fListGroupsRequest_1 (t.at 1) = .mk 0 [] (t.at 1).null ((if (t.at 1).null = true then [] else (t.at 1).l).map (tl1 (tlP d) fListGroupsRequest_1.of fListGroupsRequest_1.sub)) [] from rfl,← hL1];exact hF1
  have hTL : TreesV (fun b => (fun b => w1.heap.size ≤ b) b ∨ b = w.heap.size + 1) w35 (.slice (some ⟨w.heap.size + 1,0,none⟩) 2 2) [tlF (tlP d) fListGroupsRequest_0 (t.at 0),tlF (tlP d) fListGroupsRequest_1 (t.at 1)] := by
    refine ⟨[[.int .i64 0,.slice none 0 0,.bool (t.at 0).null,.slice av0 (List.map (tl1 (tlP d) fListGroupsRequest_0.of fListGroupsRequest_0.sub) L0).length kv0,.slice none 0 0],[.int .i64 0,.slice none 0 0,.bool (t.at 1).null,.slice av1 (List.map (tl1 (tlP d) fListGroupsRequest_1.of fListGroupsRequest_1.sub) L1).length kv1,.slice none 0 0]],⟨_,2,rfl,Nat.le_refl _,(by intro cs hm;simp only [List.mem_cons,List.not_mem_nil,or_false] at hm;rcases hm with rfl | rfl <;> rfl),.inr ⟨_,rfl,rfl,.inr rfl,_,hl35,fun i hi => by rw [Nat.zero_add,List.getElem?_toArray];rfl⟩⟩,rfl,fun i h1 h2 => ?_⟩
    match i,h1 with
    | 0,_ => exact TreeC.weaken (fun b _ hk => .inl hk) hF0
    | 1,_ => exact TreeC.weaken (fun b _ hk => .inl hk) hF1
  repeat ((first | refine qA rfl ?_|refine qB ?_|refine qC rfl ?_|refine qD ?_|refine qE ?_|refine qF ?_|refine qG ?_|refine qH ?_);try simp (maxSteps:=1000000)(disch:=(first|omega|(simp only [qI,qJ,qK]<;>omega)|exact qL _)) only [go_sem,↓reduceIte,n0,reduceCtorEq,n1,n2,n3,n4,n5,i0,i1,i2,i3,i4,i5,i6,i7,hb35,hl35,ht35,hq0,hq1,hq2,hrd1_0,hrd1_2,hrd1_3,hr35,cellsAt_five])
  refine ⟨⟨_,rfl,?_⟩,hX35.wr _ _ (.inl (Nat.le_refl _))⟩
  have hUr : Upd (fun b => b = w.heap.size) w35 (wr w35 w.heap.size 0 [.int .i64 0,.slice none 0 0,.bool false,.slice (some ⟨w.heap.size + 1,0,none⟩) 2 2,.slice aU (sortT t.u).length kU]) := (Upd.refl _ _).wr _ _ (.inr rfl)
  have hTU2 := hTU.keep (hEs.keeps _)
  exact TreeC.intro rfl (BytesV.nil _ _) ((hTL.keep (hUr.keeps fun b _ hk e => by rcases hk with hk | hk <;> omega)).weaken fun b _ hk => by rcases hk with hk | hk <;> omega) ((hTU2.keep (hUr.keeps fun b _ hk e => by omega)).weaken fun b _ hk => by omega)
end Ms

