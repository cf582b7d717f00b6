/- A part of the proof: see the last text. -/
import Derived.Test.YtpaofegplnfiiaaGreatDoorC10
import Derived.Test.YtpaofegplnfiiaaGreatDoorApiVersionsResponseP0
set_option linter.unusedSimpArgs false
set_option linter.unusedVariables false
namespace Ms
open Go.World renaming size_alloc → qI
open Ms renaming size_wr → qJ,size_drew → qK,not_noB → qL
open W renaming seqR → qA,seq → qB,regR → qC,condK → qD,block → qE,skip → qF,ret → qG,exit → qH
open Nat renaming reduceEqDiff → n0,reduceAdd → n1,reduceMul → n2,reduceSub → n3,reduceLT → n4,reduceLeDiff → n5
open Int renaming reduceEq → i0,reduceLT → i1,reduceLE → i2,reduceNeg → i3,reduceAdd → i4,reduceSub → i5,reduceMul → i6,reduceToNat → i7
set_option maxRecDepth 8000
open Go Go.Proofs Go.Shelf
attribute [local congr] W_congr WPsq_congr WPp_congr optK_congr addrK_congr intK_congr boolK_congr sliceK_congr tupleK_congr funcK_congr Fn_congr rawK_congr takeK_congr stepK_congr convK_congr aggK_congr

theorem tagclX3_fn {ok OK:Blocks} {B tb:Nat} (c0 c1 c2 c3 v:Value) (done:List TagD) (y:TagD) (vv:Value) (w:World) (hbt:blk w tb=some (#[c0,c1,c2,c3,v],37,(0,0))) (hg:GrowU OK B tb w 69 v done) (hB:B≤w.heap.size) (htb:tb < B) (hvv:BytesV ok w vv y.2) (hy:y.1 < 2 ^ 32) (hyl:y.2.length≤32767) (hdl:done.length≤32767) (hOK:∀ b,B≤b→OK b) :
  Fn Tryz.prog 96 #[.int .u32 y.1,vv,.pointer (some ⟨tb,0,none⟩)] w fun _ w'=>(∃ v',blk w' tb=some (#[c0,c1,c2,c3,v'],37,(0,0))∧GrowU OK B tb w' 69 v' (done++[y]))∧Upd (fun b=>b=tb∨B≤b) w w':=by
 have htl:=blk_lt hbt
 refine fn_of_W Tryz.func96 rfl Tryz.results96 Tryz.ntmps96 rfl ?_
 repeat ((first|refine qA rfl ?_|apply qB|refine qC rfl ?_|apply qD|apply qE|apply qF|apply qG|apply qH);try simp (maxSteps:=1000000)(disch:=(first|omega|(simp only [qI,qJ,qK]<;>omega)|exact qL _)) only [go_sem,↓reduceIte,n0,reduceCtorEq,n1,n2,n3,n4,n5,i0,i1,i2,i3,i4,i5,i6,i7])
 obtain ⟨av,kv,rfl,_⟩:=hg.shape
 have hnb:∀ b,b < B∨w.heap.size≤b→¬ ownB (.slice av done.length kv) b:=fun b hb h=>by
  have:=hg.above h
  have:=hg.below h
  omega
 refine W.drawR (.take 0 (.take 1 (.take 2 (.take 3 (.only 4 (.only 5 (.only 6 (.only 7 (.take 8 (.last 9)))))))))) (ownB (.slice av done.length kv)) mixed (by kernel_rfl) ?_
 simp (maxSteps:=1000000)(disch:=(first|omega|(simp only [qI,qJ,qK]<;>omega)|exact qL _|(refine hnb _ ?_;first|omega|(simp only [World.size_alloc,size_wr,size_drew]<;>omega)))) only [go_sem,↓reduceIte,n0,reduceCtorEq,n1,n2,n3,n4,n5,i0,i1,i2,i3,i4,i5,i6,i7,hbt]
 refine wp_copyN ap_22_22 (ok:=ok) (s:=y.2) (v:=vv) (by first|rfl|simp (maxSteps:=1000000)(disch:=(first|omega|(simp only [qI,qJ,qK]<;>omega)|exact qL _)) only [go_sem,↓reduceIte,n0,reduceCtorEq,n1,n2,n3,n4,n5,i0,i1,i2,i3,i4,i5,i6,i7]) (by first|rfl|simp (maxSteps:=1000000)(disch:=(first|omega|(simp only [qI,qJ,qK]<;>omega)|exact qL _)) only [go_sem,↓reduceIte,n0,reduceCtorEq,n1,n2,n3,n4,n5,i0,i1,i2,i3,i4,i5,i6,i7]) (hvv.keep (Ext.keeps ((Upd.refl _ _).drew) _)) (by omega) ?_
 intro v1 w1 ho1 hE1 hf1
 obtain ⟨a1,k1,rfl,_⟩:=ho1.shape
 have hB1:=Own.bytes (ok:=fun b=>w.heap.size≤b) ho1 fun b hb=>hf1 b hb
 have hP1:Upd (ownB (.slice av done.length kv)) w.drew w1:=hE1.mono fun _ h=>h.elim
 have hs1:=hE1.size
 simp only [size_drew] at hs1
 refine ⟨hP1,?_⟩
 simp (maxSteps:=1000000)(disch:=(first|omega|(simp only [qI,qJ,qK]<;>omega)|exact qL _|(refine hnb _ ?_;first|omega|(simp only [World.size_alloc,size_wr,size_drew]<;>omega)))) only [go_sem,↓reduceIte,n0,reduceCtorEq,n1,n2,n3,n4,n5,i0,i1,i2,i3,i4,i5,i6,i7,hbt]
 refine ⟨hP1,?_⟩
 have hP2:Upd (ownB (.slice av done.length kv)) w.drew (w1.alloc (.cells #[.int .u32 y.1,.slice a1 y.2.length k1] 69)):=hP1.alloc _
 have hn2:blk (w1.alloc (.cells #[.int .u32 y.1,.slice a1 y.2.length k1] 69)) w1.heap.size=some (#[.int .u32 y.1,.slice a1 y.2.length k1],69,(0,0)):=blk_alloc_new rfl
 have hs2:(w1.alloc (.cells #[.int .u32 y.1,.slice a1 y.2.length k1] 69)).heap.size=w1.heap.size+1:=World.size_alloc _ _
 have hE2:Ext w1 (w1.alloc (.cells #[.int .u32 y.1,.slice a1 y.2.length k1] 69)):=Upd.alloc (Upd.refl _ _) _
 refine ⟨hP2,?_⟩
 try simp only [List.append_nil]
 generalize (w1.alloc (.cells #[.int .u32 y.1,.slice a1 y.2.length k1] 69))=w2 at *
 have hEw:Ext w w2:=(((Upd.refl _ _).drew).trans hE1).trans hE2
 obtain ⟨css,hown,hall⟩:=(hg.ext hEw).ex
 have hcl:=hall.1
 have hx2:TagC (fun b=>OK b∧b≠tb∧¬ ownB (.slice av done.length kv) b) w2 y [.int .u32 y.1,.slice a1 y.2.length k1]:=⟨_,rfl,(hB1.keep (hE2.keeps _)).weaken fun b _ hk=>⟨hOK b (by omega),by omega,hnb b (.inr hk)⟩,hy⟩
 refine wp_append ap_35_35 (m:=1) (news:=[.int .u32 y.1,.slice a1 y.2.length k1]) (n:=css.length) (cs:=css.flatten) (v:=.slice av done.length kv) ?_ rfl hown.1 hall.flat_cells (Src.blk (fr:=(0,0)) (T:=69) hn2 rfl rfl) ?_ ?_ ?_
 ·first|rfl|simp (maxSteps:=1000000)(disch:=(first|omega|(simp only [qI,qJ,qK]<;>omega)|exact qL _)) only [go_sem,↓reduceIte,n0,reduceCtorEq,n1,n2,n3,n4,n5,i0,i1,i2,i3,i4,i5,i6,i7]
 ·omega
 ·omega
 intro v' w3 ho hu hfr
 have hg3:=GrowU.snoc hown hall hx2 hu hfr ho
 obtain ⟨va,vc,hv',_⟩:=ho.shape
 subst hv'
 have hP3:=hP2.trans hu
 have hs3:=hu.size
 have bB:=hP3.blk_some (show blk w.drew tb=_ from hbt) (hnb _ (.inl htb))
 have hne:¬ ownB (.slice va (css.length+1) vc) tb:=fun h=>(hfr _ h).elim (hnb _ (.inl htb)) (fun h=>by omega)
 refine ⟨hP3,?_⟩
 simp (maxSteps:=1000000)(disch:=(first|omega|(simp only [qI,qJ,qK]<;>omega)|exact qL _|(refine hnb _ ?_;first|omega|(simp only [World.size_alloc,size_wr,size_drew]<;>omega)))) only [go_sem,↓reduceIte,n0,reduceCtorEq,n1,n2,n3,n4,n5,i0,i1,i2,i3,i4,i5,i6,i7,bB]
 repeat ((first|refine qA rfl ?_|apply qB|refine qC rfl ?_|apply qD|apply qE|apply qF|apply qG|apply qH);try simp (maxSteps:=1000000)(disch:=(first|omega|(simp only [qI,qJ,qK]<;>omega)|exact qL _)) only [go_sem,↓reduceIte,n0,reduceCtorEq,n1,n2,n3,n4,n5,i0,i1,i2,i3,i4,i5,i6,i7])
 refine ⟨⟨.slice va (css.length+1) vc,by first|(rw [blk_wr_eq,bB];rfl)|rfl|(rw [bB];rfl)|(rw [blk_wr_eq,bB]),hg3.upd ((Upd.refl _ _).wr _ _ (.inr rfl)) hne⟩,?_⟩
 refine Upd.wr ?_ _ _ (.inr (.inl rfl))
 exact (((Upd.refl (fun b=>b=tb∨B≤b) w).drew).trans (hP3.mono fun b h=>.inr (hg.above h)))

set_option maxHeartbeats 4000000 in
theorem tellX3_fn {d:Nat} {ok:Blocks} (t:Tree) (cs:List Value) (w:World) {b o:Nat} {x:Blk} (hb:blk w b=some x) (hq:∀ k,k < 4→x.1[o+k]? = cs[k]?) (hR:RepS true (d+1) fs_X3 ok w t cs) (hg:GoodP (d+1) fs_X3 t) :
  Fn Tryz.prog 61 #[.pointer (some ⟨b,o,none⟩)] w fun r w'=>(∃ c,r = .agg c.toArray∧TreeC (fun b=>w.heap.size≤b) w' (tlP (d+1) fs_X3 t) c)∧Ext w w':=by
 have hbl:=blk_lt hb
 obtain ⟨⟨gd0,gd1,gd2,-⟩,hgu⟩:=hg
 replace gd0:GoodF (GoodP d) fX3_0 (t.at 0):=gd0
 replace gd1:GoodF (GoodP d) fX3_1 (t.at 1):=gd1
 replace gd2:GoodF (GoodP d) fX3_2 (t.at 2):=gd2
 obtain ⟨cs0,q,hcs,hL,hT⟩:=hR.inv
 obtain ⟨c0,e0,rfl,h0,c1,e1,rfl,h1,c2,e2,rfl,h2,rfl⟩:=hL
 replace h0:RepF (RepS true d) (szS true d) fX3_0 ok w (t.at 0) c0:=h0
 replace h1:RepF (RepS true d) (szS true d) fX3_1 ok w (t.at 1) c1:=h1
 replace h2:RepF (RepS true d) (szS true d) fX3_2 ok w (t.at 2) c2:=h2
 obtain rfl:=(RepF_num (by decide)).1 h0
 obtain rfl:=(RepF_num (by decide)).1 h1
 obtain rfl:=(RepF_num (by decide)).1 h2
 obtain ⟨qm,rfl⟩:=hT.shape
 subst hcs
 have hq0:x.1[o]? = some (.int .i16 (IntKind.i16.wrap (t.at 0).n)):=hq 0 (by decide)
 have hq1:x.1[o+1]? = some (.int .i16 (IntKind.i16.wrap (t.at 1).n)):=hq 1 (by decide)
 have hq2:x.1[o+2]? = some (.int .i16 (IntKind.i16.wrap (t.at 2).n)):=hq 2 (by decide)
 have hq3:x.1[o+3]? = some (.map qm):=hq 3 (by decide)
 refine fn_of_W Tryz.func61 rfl Tryz.results61 Tryz.ntmps61 rfl ?_
 repeat ((first|refine qA rfl ?_|apply qB|refine qC rfl ?_|apply qD|apply qE|apply qF|apply qG|apply qH);try simp (maxSteps:=1000000)(disch:=(first|omega|(simp only [qI,qJ,qK]<;>omega)|exact qL _)) only [go_sem,↓reduceIte,n0,reduceCtorEq,n1,n2,n3,n4,n5,i0,i1,i2,i3,i4,i5,i6,i7])
 refine wp_make (T:=34) (E:=37) (size:=5) (bytes:=88) (z:=.agg qZ5) (l:=3) (c:=3) (kl:=.i64) (kc:=.i64) (by kernel_rfl) (by kernel_rfl) (by first|rfl|(simp (maxSteps:=1000000)(disch:=(first|omega|(simp only [qI,qJ,qK]<;>omega)|exact qL _)) only [go_sem,↓reduceIte,n0,reduceCtorEq,n1,n2,n3,n4,n5,i0,i1,i2,i3,i4,i5,i6,i7];rfl)) (by first|rfl|(simp (maxSteps:=1000000)(disch:=(first|omega|(simp only [qI,qJ,qK]<;>omega)|exact qL _)) only [go_sem,↓reduceIte,n0,reduceCtorEq,n1,n2,n3,n4,n5,i0,i1,i2,i3,i4,i5,i6,i7];rfl)) (by omega) (by omega) (by omega) ?_
 have hmd:madeCells (Value.agg qZ5).cells (3 * 5)=#[.int .i64 0,.slice none 0 0,.bool false,.slice none 0 0,.slice none 0 0,.int .i64 0,.slice none 0 0,.bool false,.slice none 0 0,.slice none 0 0,.int .i64 0,.slice none 0 0,.bool false,.slice none 0 0,.slice none 0 0]:=by kernel_rfl
 rw [hmd]
 simp (maxSteps:=1000000)(disch:=(first|omega|(simp only [qI,qJ,qK]<;>omega)|exact qL _)) only [go_sem,↓reduceIte,n0,reduceCtorEq,n1,n2,n3,n4,n5,i0,i1,i2,i3,i4,i5,i6,i7]
 repeat ((first|refine qA rfl ?_|apply qB|refine qC rfl ?_|apply qD|apply qE|apply qF|apply qG|apply qH);try simp (maxSteps:=1000000)(disch:=(first|omega|(simp only [qI,qJ,qK]<;>omega)|exact qL _)) only [go_sem,↓reduceIte,n0,reduceCtorEq,n1,n2,n3,n4,n5,i0,i1,i2,i3,i4,i5,i6,i7])
 have hE1:Ext w (wr (((w.alloc (.cells qZ5 37)).alloc (.cells #[.int .i64 0,.slice none 0 0,.bool false,.slice none 0 0,.slice none 0 0,.int .i64 0,.slice none 0 0,.bool false,.slice none 0 0,.slice none 0 0,.int .i64 0,.slice none 0 0,.bool false,.slice none 0 0,.slice none 0 0] 37)).alloc (.cells qZ5 37)) (w.heap.size+2) 0 [.int .i64 0,.slice none 0 0,.bool false,.slice (some ⟨w.heap.size+1,0,none⟩) 3 3,.slice none 0 0]):=(Upd.alloc (Upd.alloc (Upd.alloc (Upd.refl _ _) _) _) _).wr _ _ (.inl (by omega))
 have hz1:(wr (((w.alloc (.cells qZ5 37)).alloc (.cells #[.int .i64 0,.slice none 0 0,.bool false,.slice none 0 0,.slice none 0 0,.int .i64 0,.slice none 0 0,.bool false,.slice none 0 0,.slice none 0 0,.int .i64 0,.slice none 0 0,.bool false,.slice none 0 0,.slice none 0 0] 37)).alloc (.cells qZ5 37)) (w.heap.size+2) 0 [.int .i64 0,.slice none 0 0,.bool false,.slice (some ⟨w.heap.size+1,0,none⟩) 3 3,.slice none 0 0]).heap.size=w.heap.size+3:=by simp only [size_wr,World.size_alloc]
 have hl1:blk (wr (((w.alloc (.cells qZ5 37)).alloc (.cells #[.int .i64 0,.slice none 0 0,.bool false,.slice none 0 0,.slice none 0 0,.int .i64 0,.slice none 0 0,.bool false,.slice none 0 0,.slice none 0 0,.int .i64 0,.slice none 0 0,.bool false,.slice none 0 0,.slice none 0 0] 37)).alloc (.cells qZ5 37)) (w.heap.size+2) 0 [.int .i64 0,.slice none 0 0,.bool false,.slice (some ⟨w.heap.size+1,0,none⟩) 3 3,.slice none 0 0]) (w.heap.size+1)=some (#[.int .i64 0,.slice none 0 0,.bool false,.slice none 0 0,.slice none 0 0,.int .i64 0,.slice none 0 0,.bool false,.slice none 0 0,.slice none 0 0,.int .i64 0,.slice none 0 0,.bool false,.slice none 0 0,.slice none 0 0],37,(0,0)):=by simp (maxSteps:=1000000)(disch:=(first|omega|(simp only [qI,qJ,qK]<;>omega)|exact qL _)) only [go_sem,↓reduceIte,n0,reduceCtorEq,n1,n2,n3,n4,n5,i0,i1,i2,i3,i4,i5,i6,i7]
 have ht1:blk (wr (((w.alloc (.cells qZ5 37)).alloc (.cells #[.int .i64 0,.slice none 0 0,.bool false,.slice none 0 0,.slice none 0 0,.int .i64 0,.slice none 0 0,.bool false,.slice none 0 0,.slice none 0 0,.int .i64 0,.slice none 0 0,.bool false,.slice none 0 0,.slice none 0 0] 37)).alloc (.cells qZ5 37)) (w.heap.size+2) 0 [.int .i64 0,.slice none 0 0,.bool false,.slice (some ⟨w.heap.size+1,0,none⟩) 3 3,.slice none 0 0]) (w.heap.size+2)=some (#[.int .i64 0,.slice none 0 0,.bool false,.slice (some ⟨w.heap.size+1,0,none⟩) 3 3,.slice none 0 0],37,(0,0)):=by simp (maxSteps:=1000000)(disch:=(first|omega|(simp only [qI,qJ,qK]<;>omega)|exact qL _)) only [go_sem,↓reduceIte,n0,reduceCtorEq,n1,n2,n3,n4,n5,i0,i1,i2,i3,i4,i5,i6,i7]
 have hr1:blk (wr (((w.alloc (.cells qZ5 37)).alloc (.cells #[.int .i64 0,.slice none 0 0,.bool false,.slice none 0 0,.slice none 0 0,.int .i64 0,.slice none 0 0,.bool false,.slice none 0 0,.slice none 0 0,.int .i64 0,.slice none 0 0,.bool false,.slice none 0 0,.slice none 0 0] 37)).alloc (.cells qZ5 37)) (w.heap.size+2) 0 [.int .i64 0,.slice none 0 0,.bool false,.slice (some ⟨w.heap.size+1,0,none⟩) 3 3,.slice none 0 0]) w.heap.size=some (qZ5,37,(0,0)):=by simp (maxSteps:=1000000)(disch:=(first|omega|(simp only [qI,qJ,qK]<;>omega)|exact qL _)) only [go_sem,↓reduceIte,n0,reduceCtorEq,n1,n2,n3,n4,n5,i0,i1,i2,i3,i4,i5,i6,i7]
 obtain ⟨w1,hw1⟩:∃ y,y=(wr (((w.alloc (.cells qZ5 37)).alloc (.cells #[.int .i64 0,.slice none 0 0,.bool false,.slice none 0 0,.slice none 0 0,.int .i64 0,.slice none 0 0,.bool false,.slice none 0 0,.slice none 0 0,.int .i64 0,.slice none 0 0,.bool false,.slice none 0 0,.slice none 0 0] 37)).alloc (.cells qZ5 37)) (w.heap.size+2) 0 [.int .i64 0,.slice none 0 0,.bool false,.slice (some ⟨w.heap.size+1,0,none⟩) 3 3,.slice none 0 0]):=⟨_,rfl⟩
 rw [← hw1] at hE1 hz1 hl1 ht1 hr1
 rw [← hw1]
 clear hw1
 have hU1:Upd (fun b=>b=w.heap.size+1∨b=w.heap.size+2) w1 w1:=Upd.refl _ _
 have hb1:=hE1.blk_some hb id
 repeat ((first|refine qA rfl ?_|apply qB|refine qC rfl ?_|apply qD|apply qE|apply qF|apply qG|apply qH);try simp (maxSteps:=1000000)(disch:=(first|omega|(simp only [qI,qJ,qK]<;>omega)|exact qL _)) only [go_sem,↓reduceIte,n0,reduceCtorEq,n1,n2,n3,n4,n5,i0,i1,i2,i3,i4,i5,i6,i7,hb1,hl1,ht1,hq0,hq1,hq2,hq3])
 refine W.drawR (.take 0 (.take 1 (.take 2 (.take 3 (.take 4 (.take 5 (.take 6 (.only 7 (.take 8 (.last 9)))))))))) (NoB) mixed (by kernel_rfl) ?_
 try simp (maxSteps:=1000000)(disch:=(first|omega|(simp only [qI,qJ,qK]<;>omega)|exact qL _)) only [go_sem,↓reduceIte,n0,reduceCtorEq,n1,n2,n3,n4,n5,i0,i1,i2,i3,i4,i5,i6,i7,hb1,hl1,ht1,hq0,hq1,hq2,hq3,tl16]
 refine ⟨Upd.refl _ _,?_⟩
 have pK:blk w1.drew (w.heap.size+1)=_:=hl1
 have hx2:Upd (fun b=>b=w.heap.size+1∨b=w.heap.size+2) w1 w1.drew:=(Upd.refl _ _).drew
 generalize hw2:wr w1.drew (w.heap.size+1) 0 [.int .i64 (IntKind.i16.wrap (t.at 0).n),.slice none 0 0,.bool false,.slice none 0 0,.slice none 0 0] = w2
 have hl2:blk w2 (w.heap.size+1)=some (#[.int .i64 (IntKind.i16.wrap (t.at 0).n),.slice none 0 0,.bool false,.slice none 0 0,.slice none 0 0,.int .i64 0,.slice none 0 0,.bool false,.slice none 0 0,.slice none 0 0,.int .i64 0,.slice none 0 0,.bool false,.slice none 0 0,.slice none 0 0],37,(0,0)):=by rw [← hw2,blk_wr_eq,pK];rfl
 have hv2:Upd (fun b=>b=w.heap.size+1∨b=w.heap.size+2) w1.drew w2:=by rw [← hw2];exact (Upd.refl _ _).wr _ _ (.inr (.inl rfl))
 have hV2:Upd (fun b=>b=w.heap.size+1∨b=w.heap.size+2) w1 w2:=hx2.trans hv2
 have hU2:Upd (fun b=>b=w.heap.size+1∨b=w.heap.size+2) w1 w2:=hU1.trans hV2
 have hz2:=hU2.size
 have hX2:Ext w w2:=hE1.more hU2 fun b hb h=>by omega
 have hb2:=hX2.blk_some hb id
 have ht2:blk w2 (w.heap.size+2)=some (#[.int .i64 0,.slice none 0 0,.bool false,.slice (some ⟨w.heap.size+1,0,none⟩) 3 3,.slice none 0 0],37,(0,0)):=by
  rw [← hw2,blk_wr_ne (by omega)]
  exact ht1
 clear hw2
 have hf0:TreeC (fun b=>w1.heap.size≤b) w2 (.num (IntKind.i16.wrap (t.at 0).n)) [.int .i64 (IntKind.i16.wrap (t.at 0).n),.slice none 0 0,.bool false,.slice none 0 0,.slice none 0 0]:=(TreeC.keep (hv2.keeps fun b hb hk e=>by have hk':w1.heap.size≤b:=hk;omega) (TreeC.intro (tl16 _) (BytesV.nil _ _) (treesN _ _) (tagsN _ _):TreeC (fun b=>w1.heap.size≤b) w1.drew (.num (IntKind.i16.wrap (t.at 0).n)) [.int .i64 (IntKind.i16.wrap (t.at 0).n),.slice none 0 0,.bool false,.slice none 0 0,.slice none 0 0]))
 repeat ((first|refine qA rfl ?_|apply qB|refine qC rfl ?_|apply qD|apply qE|apply qF|apply qG|apply qH);try simp (maxSteps:=1000000)(disch:=(first|omega|(simp only [qI,qJ,qK]<;>omega)|exact qL _)) only [go_sem,↓reduceIte,n0,reduceCtorEq,n1,n2,n3,n4,n5,i0,i1,i2,i3,i4,i5,i6,i7,hb2,hl2,ht2,hq0,hq1,hq2,hq3])
 refine W.drawR (.take 0 (.take 1 (.take 2 (.take 3 (.take 4 (.take 5 (.take 6 (.only 7 (.take 8 (.last 9)))))))))) (NoB) mixed (by kernel_rfl) ?_
 try simp (maxSteps:=1000000)(disch:=(first|omega|(simp only [qI,qJ,qK]<;>omega)|exact qL _)) only [go_sem,↓reduceIte,n0,reduceCtorEq,n1,n2,n3,n4,n5,i0,i1,i2,i3,i4,i5,i6,i7,hb2,hl2,ht2,hq0,hq1,hq2,hq3,tl16]
 refine ⟨Upd.refl _ _,?_⟩
 have gO:blk w2.drew (w.heap.size+1)=_:=hl2
 have hx3:Upd (fun b=>b=w.heap.size+1∨b=w.heap.size+2) w2 w2.drew:=(Upd.refl _ _).drew
 generalize hw3:wr w2.drew (w.heap.size+1) 5 [.int .i64 (IntKind.i16.wrap (t.at 1).n),.slice none 0 0,.bool false,.slice none 0 0,.slice none 0 0] = w3
 have hl3:blk w3 (w.heap.size+1)=some (#[.int .i64 (IntKind.i16.wrap (t.at 0).n),.slice none 0 0,.bool false,.slice none 0 0,.slice none 0 0,.int .i64 (IntKind.i16.wrap (t.at 1).n),.slice none 0 0,.bool false,.slice none 0 0,.slice none 0 0,.int .i64 0,.slice none 0 0,.bool false,.slice none 0 0,.slice none 0 0],37,(0,0)):=by rw [← hw3,blk_wr_eq,gO];rfl
 have hv3:Upd (fun b=>b=w.heap.size+1∨b=w.heap.size+2) w2.drew w3:=by rw [← hw3];exact (Upd.refl _ _).wr _ _ (.inr (.inl rfl))
 have hV3:Upd (fun b=>b=w.heap.size+1∨b=w.heap.size+2) w2 w3:=hx3.trans hv3
 have hU3:Upd (fun b=>b=w.heap.size+1∨b=w.heap.size+2) w1 w3:=hU2.trans hV3
 have hz3:=hU3.size
 have hX3:Ext w w3:=hE1.more hU3 fun b hb h=>by omega
 have hb3:=hX3.blk_some hb id
 have ht3:blk w3 (w.heap.size+2)=some (#[.int .i64 0,.slice none 0 0,.bool false,.slice (some ⟨w.heap.size+1,0,none⟩) 3 3,.slice none 0 0],37,(0,0)):=by
  rw [← hw3,blk_wr_ne (by omega)]
  exact ht2
 clear hw3
 have hf1:TreeC (fun b=>w1.heap.size≤b) w3 (.num (IntKind.i16.wrap (t.at 1).n)) [.int .i64 (IntKind.i16.wrap (t.at 1).n),.slice none 0 0,.bool false,.slice none 0 0,.slice none 0 0]:=(TreeC.keep (hv3.keeps fun b hb hk e=>by have hk':w1.heap.size≤b:=hk;omega) (TreeC.intro (tl16 _) (BytesV.nil _ _) (treesN _ _) (tagsN _ _):TreeC (fun b=>w1.heap.size≤b) w2.drew (.num (IntKind.i16.wrap (t.at 1).n)) [.int .i64 (IntKind.i16.wrap (t.at 1).n),.slice none 0 0,.bool false,.slice none 0 0,.slice none 0 0]))
 repeat ((first|refine qA rfl ?_|apply qB|refine qC rfl ?_|apply qD|apply qE|apply qF|apply qG|apply qH);try simp (maxSteps:=1000000)(disch:=(first|omega|(simp only [qI,qJ,qK]<;>omega)|exact qL _)) only [go_sem,↓reduceIte,n0,reduceCtorEq,n1,n2,n3,n4,n5,i0,i1,i2,i3,i4,i5,i6,i7,hb3,hl3,ht3,hq0,hq1,hq2,hq3])
 refine W.drawR (.take 0 (.take 1 (.take 2 (.take 3 (.take 4 (.take 5 (.take 6 (.only 7 (.take 8 (.last 9)))))))))) (NoB) mixed (by kernel_rfl) ?_
 try simp (maxSteps:=1000000)(disch:=(first|omega|(simp only [qI,qJ,qK]<;>omega)|exact qL _)) only [go_sem,↓reduceIte,n0,reduceCtorEq,n1,n2,n3,n4,n5,i0,i1,i2,i3,i4,i5,i6,i7,hb3,hl3,ht3,hq0,hq1,hq2,hq3,tl16]
 refine ⟨Upd.refl _ _,?_⟩
 have kO:blk w3.drew (w.heap.size+1)=_:=hl3
 have hx4:Upd (fun b=>b=w.heap.size+1∨b=w.heap.size+2) w3 w3.drew:=(Upd.refl _ _).drew
 generalize hw4:wr w3.drew (w.heap.size+1) 10 [.int .i64 (IntKind.i16.wrap (t.at 2).n),.slice none 0 0,.bool false,.slice none 0 0,.slice none 0 0] = w4
 have hl4:blk w4 (w.heap.size+1)=some (#[.int .i64 (IntKind.i16.wrap (t.at 0).n),.slice none 0 0,.bool false,.slice none 0 0,.slice none 0 0,.int .i64 (IntKind.i16.wrap (t.at 1).n),.slice none 0 0,.bool false,.slice none 0 0,.slice none 0 0,.int .i64 (IntKind.i16.wrap (t.at 2).n),.slice none 0 0,.bool false,.slice none 0 0,.slice none 0 0],37,(0,0)):=by rw [← hw4,blk_wr_eq,kO];rfl
 have hv4:Upd (fun b=>b=w.heap.size+1∨b=w.heap.size+2) w3.drew w4:=by rw [← hw4];exact (Upd.refl _ _).wr _ _ (.inr (.inl rfl))
 have hV4:Upd (fun b=>b=w.heap.size+1∨b=w.heap.size+2) w3 w4:=hx4.trans hv4
 have hU4:Upd (fun b=>b=w.heap.size+1∨b=w.heap.size+2) w1 w4:=hU3.trans hV4
 have hz4:=hU4.size
 have hX4:Ext w w4:=hE1.more hU4 fun b hb h=>by omega
 have hb4:=hX4.blk_some hb id
 have ht4:blk w4 (w.heap.size+2)=some (#[.int .i64 0,.slice none 0 0,.bool false,.slice (some ⟨w.heap.size+1,0,none⟩) 3 3,.slice none 0 0],37,(0,0)):=by
  rw [← hw4,blk_wr_ne (by omega)]
  exact ht3
 clear hw4
 have hf2:TreeC (fun b=>w1.heap.size≤b) w4 (.num (IntKind.i16.wrap (t.at 2).n)) [.int .i64 (IntKind.i16.wrap (t.at 2).n),.slice none 0 0,.bool false,.slice none 0 0,.slice none 0 0]:=(TreeC.keep (hv4.keeps fun b hb hk e=>by have hk':w1.heap.size≤b:=hk;omega) (TreeC.intro (tl16 _) (BytesV.nil _ _) (treesN _ _) (tagsN _ _):TreeC (fun b=>w1.heap.size≤b) w3.drew (.num (IntKind.i16.wrap (t.at 2).n)) [.int .i64 (IntKind.i16.wrap (t.at 2).n),.slice none 0 0,.bool false,.slice none 0 0,.slice none 0 0]))
 repeat ((first|refine qA rfl ?_|apply qB|refine qC rfl ?_|apply qD|apply qE|apply qF|apply qG|apply qH);try simp (maxSteps:=1000000)(disch:=(first|omega|(simp only [qI,qJ,qK]<;>omega)|exact qL _)) only [go_sem,↓reduceIte,n0,reduceCtorEq,n1,n2,n3,n4,n5,i0,i1,i2,i3,i4,i5,i6,i7,hb4,hl4,ht4,hq0,hq1,hq2,hq3])
 refine (EachG_fn (ok:=fun b=>b < w.heap.size) 96 ca_96 #[.pointer (some ⟨w.heap.size+2,0,none⟩)] w4 (tb:=b) (to:=o+3) hb4 hq3 ((hT.weaken fun b hb _=>hb).keep (hX4.keeps _)) (sortT_perm _) (sortT_lt hgu.2.1) (by rw [(sortT_perm t.u).length_eq];exact hgu.1)
  (fun b=>b=w.heap.size+2) (by omega) (fun b hb hk e=>by have hk':b < w.heap.size:=hk;omega) (fun b hb=>by have:=blk_lt ht4;omega)
  (fun wl done w'=>∃ v,blk w' (w.heap.size+2)=some (#[.int .i64 0,.slice none 0 0,.bool false,.slice (some ⟨w.heap.size+1,0,none⟩) 3 3,v],37,(0,0))∧GrowU (fun b=>w1.heap.size≤b) wl.heap.size (w.heap.size+2) w' 69 v done) (fun wl hE=>⟨_,hE.blk_some ht4 id,GrowU.nil _ _ _ _ _⟩) ?_).mono ?_
 ·rintro wl hE done y vv wc hpre ⟨v,hbv,hg⟩ hU hvv hy
  have hz':=hE.size
  have hzu:=hU.size
  have htl:=blk_lt ht4
  have hpl:=hpre.length_le
  simp only [List.length_append,List.length_cons,List.length_nil] at hpl
  rw [(sortT_perm t.u).length_eq] at hpl
  have hlu:=hgu.1
  have hmy:y∈t.u:=(sortT_perm t.u).mem_iff.1 (hpre.subset (by simp))
  refine (tagclX3_fn (ok:=fun b=>b < w.heap.size) _ _ _ _ v done y vv wc hbv hg hzu (by omega) (hvv.keep ((hE.mono (fun _ h=>h.elim) |>.trans hU:Upd (fun b=>b=w.heap.size+2) w4 wc).keeps fun b _ hk e=>by have hk':b < w.heap.size:=hk;omega)) hy (hgu.2.2 y hmy) (by omega) (fun b hb=>by have:=hz4;omega)).mono ?_
  rintro _ w2' ⟨⟨v',h1,h2⟩,h3⟩
  exact ⟨⟨v',h1,h2⟩,hU.trans' h3 fun b hb h=>h.elim id fun h=>by omega⟩
 rintro _ w5 ⟨wl,hEl,⟨v,ht5,hgU⟩,hUe⟩
 have hzl:=hEl.size
 obtain ⟨aU,kU,hvs,_⟩:=hgU.shape
 subst hvs
 have hV5:Upd (fun b=>b=w.heap.size+1∨b=w.heap.size+2) w4 w5:=(hEl.mono fun _ h=>h.elim).trans (hUe.mono fun _ h=>.inr h)
 have hU5:Upd (fun b=>b=w.heap.size+1∨b=w.heap.size+2) w1 w5:=hU4.trans hV5
 have hz5:=hU5.size
 have hX5:Ext w w5:=hE1.more hU5 fun b hb h=>by omega
 have hb5:=hX5.blk_some hb id
 have hl5:=(((hEl.mono fun _ h=>h.elim).trans hUe:Upd (fun b=>b=w.heap.size+2) w4 w5)).blk_some hl4 (by omega)
 have hTU:=hgU.tags (ok':=(fun b=>w1.heap.size≤b)) (fun _ _ h=>h) (fun b hb=>by have:=hz4;omega)
 repeat ((first|refine qA rfl ?_|apply qB|refine qC rfl ?_|apply qD|apply qE|apply qF|apply qG|apply qH);try simp (maxSteps:=1000000)(disch:=(first|omega|(simp only [qI,qJ,qK]<;>omega)|exact qL _)) only [go_sem,↓reduceIte,n0,reduceCtorEq,n1,n2,n3,n4,n5,i0,i1,i2,i3,i4,i5,i6,i7,hb5,hl5,ht5,hq0,hq1,hq2,hq3,cellsAt_five])
 refine (sorted_fn _ _ w5 hTU (sortT_lt hgu.2.1) (by rw [(sortT_perm t.u).length_eq];exact hgu.1)).mono ?_
 rintro _ w6 hEs
 have hV6:Upd (fun b=>b=w.heap.size+1∨b=w.heap.size+2) w5 w6:=hEs.mono fun _ h=>h.elim
 have hU6:Upd (fun b=>b=w.heap.size+1∨b=w.heap.size+2) w1 w6:=hU5.trans hV6
 have hz6:=hU6.size
 have hX6:Ext w w6:=hE1.more hU6 fun b hb h=>by omega
 have hb6:=hX6.blk_some hb id
 have hl6:=hEs.blk_some hl5 id
 have ht6:=hEs.blk_some ht5 id
 have hr6:=(hU6.blk_some hr1 (by omega))
 have hC_6:Upd (fun b=>b=w.heap.size+1∨b=w.heap.size+2) w6 w6:=Upd.refl _ _
 have hC_5:Upd (fun b=>b=w.heap.size+1∨b=w.heap.size+2) w5 w6:=hV6.trans hC_6
 have hC_4:Upd (fun b=>b=w.heap.size+1∨b=w.heap.size+2) w4 w6:=hV5.trans hC_5
 have hC_3:Upd (fun b=>b=w.heap.size+1∨b=w.heap.size+2) w3 w6:=hV4.trans hC_4
 have hC_2:Upd (fun b=>b=w.heap.size+1∨b=w.heap.size+2) w2 w6:=hV3.trans hC_3
 have hC_1:Upd (fun b=>b=w.heap.size+1∨b=w.heap.size+2) w1 w6:=hV2.trans hC_2
 have hF0:=TreeC.keep (hC_2.keeps fun b hb hk e=>by have hk':w1.heap.size≤b:=hk;omega) hf0
 have hF1:=TreeC.keep (hC_3.keeps fun b hb hk e=>by have hk':w1.heap.size≤b:=hk;omega) hf1
 have hF2:=TreeC.keep (hC_4.keeps fun b hb hk e=>by have hk':w1.heap.size≤b:=hk;omega) hf2
 replace hF0:TreeC (fun b=>w1.heap.size≤b) w6 (tlF (tlP d) fX3_0 (t.at 0)) [.int .i64 (IntKind.i16.wrap (t.at 0).n),.slice none 0 0,.bool false,.slice none 0 0,.slice none 0 0]:=hF0
 replace hF1:TreeC (fun b=>w1.heap.size≤b) w6 (tlF (tlP d) fX3_1 (t.at 1)) [.int .i64 (IntKind.i16.wrap (t.at 1).n),.slice none 0 0,.bool false,.slice none 0 0,.slice none 0 0]:=hF1
 replace hF2:TreeC (fun b=>w1.heap.size≤b) w6 (tlF (tlP d) fX3_2 (t.at 2)) [.int .i64 (IntKind.i16.wrap (t.at 2).n),.slice none 0 0,.bool false,.slice none 0 0,.slice none 0 0]:=hF2
 have hTL:TreesV (fun b=>(fun b=>w1.heap.size≤b) b∨b=w.heap.size+1) w6 (.slice (some ⟨w.heap.size+1,0,none⟩) 3 3) [tlF (tlP d) fX3_0 (t.at 0),tlF (tlP d) fX3_1 (t.at 1),tlF (tlP d) fX3_2 (t.at 2)]:=by
  refine ⟨[[.int .i64 (IntKind.i16.wrap (t.at 0).n),.slice none 0 0,.bool false,.slice none 0 0,.slice none 0 0],[.int .i64 (IntKind.i16.wrap (t.at 1).n),.slice none 0 0,.bool false,.slice none 0 0,.slice none 0 0],[.int .i64 (IntKind.i16.wrap (t.at 2).n),.slice none 0 0,.bool false,.slice none 0 0,.slice none 0 0]],⟨_,3,rfl,Nat.le_refl _,(by intro cs hm;simp only [List.mem_cons,List.not_mem_nil,or_false] at hm;rcases hm with rfl|rfl|rfl<;>rfl),.inr ⟨_,rfl,rfl,.inr rfl,_,hl6,fun i hi=>by rw [Nat.zero_add,List.getElem?_toArray];rfl⟩⟩,rfl,fun i h1 h2 => ?_⟩
  match i,h1 with
  | 0,_=>exact TreeC.weaken (fun b _ hk=>.inl hk) hF0
  | 1,_=>exact TreeC.weaken (fun b _ hk=>.inl hk) hF1
  | 2,_=>exact TreeC.weaken (fun b _ hk=>.inl hk) hF2
 repeat ((first|refine qA rfl ?_|apply qB|refine qC rfl ?_|apply qD|apply qE|apply qF|apply qG|apply qH);try simp (maxSteps:=1000000)(disch:=(first|omega|(simp only [qI,qJ,qK]<;>omega)|exact qL _)) only [go_sem,↓reduceIte,n0,reduceCtorEq,n1,n2,n3,n4,n5,i0,i1,i2,i3,i4,i5,i6,i7,hb6,hl6,ht6,hq0,hq1,hq2,hq3,hr6,cellsAt_five])
 refine ⟨⟨_,rfl,?_⟩,hX6.wr _ _ (.inl (Nat.le_refl _))⟩
 have hUr:Upd (fun b=>b=w.heap.size) w6 (wr w6 w.heap.size 0 [.int .i64 0,.slice none 0 0,.bool false,.slice (some ⟨w.heap.size+1,0,none⟩) 3 3,.slice aU (sortT t.u).length kU]):=(Upd.refl _ _).wr _ _ (.inr rfl)
 have gE:=hTU.keep (hEs.keeps _)
 exact TreeC.intro rfl (BytesV.nil _ _) ((hTL.keep (hUr.keeps fun b _ hk e=>by rcases hk with hk|hk<;>omega)).weaken fun b _ hk=>by rcases hk with hk|hk<;>omega) ((gE.keep (hUr.keeps fun b _ hk e=>by omega)).weaken fun b _ hk=>by omega)

theorem tagclX0_fn {ok OK:Blocks} {B tb:Nat} (c0 c1 c2 c3 v:Value) (done:List TagD) (y:TagD) (vv:Value) (w:World) (hbt:blk w tb=some (#[c0,c1,c2,c3,v],37,(0,0))) (hg:GrowU OK B tb w 69 v done) (hB:B≤w.heap.size) (htb:tb < B) (hvv:BytesV ok w vv y.2) (hy:y.1 < 2 ^ 32) (hyl:y.2.length≤32767) (hdl:done.length≤32767) (hOK:∀ b,B≤b→OK b) :
  Fn Tryz.prog 97 #[.int .u32 y.1,vv,.pointer (some ⟨tb,0,none⟩)] w fun _ w'=>(∃ v',blk w' tb=some (#[c0,c1,c2,c3,v'],37,(0,0))∧GrowU OK B tb w' 69 v' (done++[y]))∧Upd (fun b=>b=tb∨B≤b) w w':=by
 have htl:=blk_lt hbt
 refine fn_of_W Tryz.func97 rfl Tryz.results97 Tryz.ntmps97 rfl ?_
 repeat ((first|refine qA rfl ?_|apply qB|refine qC rfl ?_|apply qD|apply qE|apply qF|apply qG|apply qH);try simp (maxSteps:=1000000)(disch:=(first|omega|(simp only [qI,qJ,qK]<;>omega)|exact qL _)) only [go_sem,↓reduceIte,n0,reduceCtorEq,n1,n2,n3,n4,n5,i0,i1,i2,i3,i4,i5,i6,i7])
 obtain ⟨av,kv,rfl,_⟩:=hg.shape
 have hnb:∀ b,b < B∨w.heap.size≤b→¬ ownB (.slice av done.length kv) b:=fun b hb h=>by
  have:=hg.above h
  have:=hg.below h
  omega
 refine W.drawR (.take 0 (.take 1 (.take 2 (.take 3 (.only 4 (.only 5 (.only 6 (.only 7 (.take 8 (.last 9)))))))))) (ownB (.slice av done.length kv)) mixed (by kernel_rfl) ?_
 simp (maxSteps:=1000000)(disch:=(first|omega|(simp only [qI,qJ,qK]<;>omega)|exact qL _|(refine hnb _ ?_;first|omega|(simp only [World.size_alloc,size_wr,size_drew]<;>omega)))) only [go_sem,↓reduceIte,n0,reduceCtorEq,n1,n2,n3,n4,n5,i0,i1,i2,i3,i4,i5,i6,i7,hbt]
 refine wp_copyN ap_22_22 (ok:=ok) (s:=y.2) (v:=vv) (by first|rfl|simp (maxSteps:=1000000)(disch:=(first|omega|(simp only [qI,qJ,qK]<;>omega)|exact qL _)) only [go_sem,↓reduceIte,n0,reduceCtorEq,n1,n2,n3,n4,n5,i0,i1,i2,i3,i4,i5,i6,i7]) (by first|rfl|simp (maxSteps:=1000000)(disch:=(first|omega|(simp only [qI,qJ,qK]<;>omega)|exact qL _)) only [go_sem,↓reduceIte,n0,reduceCtorEq,n1,n2,n3,n4,n5,i0,i1,i2,i3,i4,i5,i6,i7]) (hvv.keep (Ext.keeps ((Upd.refl _ _).drew) _)) (by omega) ?_
 intro v1 w1 ho1 hE1 hf1
 obtain ⟨a1,k1,rfl,_⟩:=ho1.shape
 have hB1:=Own.bytes (ok:=fun b=>w.heap.size≤b) ho1 fun b hb=>hf1 b hb
 have hP1:Upd (ownB (.slice av done.length kv)) w.drew w1:=hE1.mono fun _ h=>h.elim
 have hs1:=hE1.size
 simp only [size_drew] at hs1
 refine ⟨hP1,?_⟩
 simp (maxSteps:=1000000)(disch:=(first|omega|(simp only [qI,qJ,qK]<;>omega)|exact qL _|(refine hnb _ ?_;first|omega|(simp only [World.size_alloc,size_wr,size_drew]<;>omega)))) only [go_sem,↓reduceIte,n0,reduceCtorEq,n1,n2,n3,n4,n5,i0,i1,i2,i3,i4,i5,i6,i7,hbt]
 refine ⟨hP1,?_⟩
 have hP2:Upd (ownB (.slice av done.length kv)) w.drew (w1.alloc (.cells #[.int .u32 y.1,.slice a1 y.2.length k1] 69)):=hP1.alloc _
 have hn2:blk (w1.alloc (.cells #[.int .u32 y.1,.slice a1 y.2.length k1] 69)) w1.heap.size=some (#[.int .u32 y.1,.slice a1 y.2.length k1],69,(0,0)):=blk_alloc_new rfl
 have hs2:(w1.alloc (.cells #[.int .u32 y.1,.slice a1 y.2.length k1] 69)).heap.size=w1.heap.size+1:=World.size_alloc _ _
 have hE2:Ext w1 (w1.alloc (.cells #[.int .u32 y.1,.slice a1 y.2.length k1] 69)):=Upd.alloc (Upd.refl _ _) _
 refine ⟨hP2,?_⟩
 try simp only [List.append_nil]
 generalize (w1.alloc (.cells #[.int .u32 y.1,.slice a1 y.2.length k1] 69))=w2 at *
 have hEw:Ext w w2:=(((Upd.refl _ _).drew).trans hE1).trans hE2
 obtain ⟨css,hown,hall⟩:=(hg.ext hEw).ex
 have hcl:=hall.1
 have hx2:TagC (fun b=>OK b∧b≠tb∧¬ ownB (.slice av done.length kv) b) w2 y [.int .u32 y.1,.slice a1 y.2.length k1]:=⟨_,rfl,(hB1.keep (hE2.keeps _)).weaken fun b _ hk=>⟨hOK b (by omega),by omega,hnb b (.inr hk)⟩,hy⟩
 refine wp_append ap_35_35 (m:=1) (news:=[.int .u32 y.1,.slice a1 y.2.length k1]) (n:=css.length) (cs:=css.flatten) (v:=.slice av done.length kv) ?_ rfl hown.1 hall.flat_cells (Src.blk (fr:=(0,0)) (T:=69) hn2 rfl rfl) ?_ ?_ ?_
 ·first|rfl|simp (maxSteps:=1000000)(disch:=(first|omega|(simp only [qI,qJ,qK]<;>omega)|exact qL _)) only [go_sem,↓reduceIte,n0,reduceCtorEq,n1,n2,n3,n4,n5,i0,i1,i2,i3,i4,i5,i6,i7]
 ·omega
 ·omega
 intro v' w3 ho hu hfr
 have hg3:=GrowU.snoc hown hall hx2 hu hfr ho
 obtain ⟨va,vc,hv',_⟩:=ho.shape
 subst hv'
 have hP3:=hP2.trans hu
 have hs3:=hu.size
 have bB:=hP3.blk_some (show blk w.drew tb=_ from hbt) (hnb _ (.inl htb))
 have hne:¬ ownB (.slice va (css.length+1) vc) tb:=fun h=>(hfr _ h).elim (hnb _ (.inl htb)) (fun h=>by omega)
 refine ⟨hP3,?_⟩
 simp (maxSteps:=1000000)(disch:=(first|omega|(simp only [qI,qJ,qK]<;>omega)|exact qL _|(refine hnb _ ?_;first|omega|(simp only [World.size_alloc,size_wr,size_drew]<;>omega)))) only [go_sem,↓reduceIte,n0,reduceCtorEq,n1,n2,n3,n4,n5,i0,i1,i2,i3,i4,i5,i6,i7,bB]
 repeat ((first|refine qA rfl ?_|apply qB|refine qC rfl ?_|apply qD|apply qE|apply qF|apply qG|apply qH);try simp (maxSteps:=1000000)(disch:=(first|omega|(simp only [qI,qJ,qK]<;>omega)|exact qL _)) only [go_sem,↓reduceIte,n0,reduceCtorEq,n1,n2,n3,n4,n5,i0,i1,i2,i3,i4,i5,i6,i7])
 refine ⟨⟨.slice va (css.length+1) vc,by first|(rw [blk_wr_eq,bB];rfl)|rfl|(rw [bB];rfl)|(rw [blk_wr_eq,bB]),hg3.upd ((Upd.refl _ _).wr _ _ (.inr rfl)) hne⟩,?_⟩
 refine Upd.wr ?_ _ _ (.inr (.inl rfl))
 exact (((Upd.refl (fun b=>b=tb∨B≤b) w).drew).trans (hP3.mono fun b h=>.inr (hg.above h)))

set_option maxHeartbeats 4000000 in
theorem tellX0_fn {d:Nat} {ok:Blocks} (t:Tree) (cs:List Value) (w:World) {b o:Nat} {x:Blk} (hb:blk w b=some x) (hq:∀ k,k < 4→x.1[o+k]? = cs[k]?) (hR:RepS true (d+1) fs_X0 ok w t cs) (hg:GoodP (d+1) fs_X0 t) :
  Fn Tryz.prog 62 #[.pointer (some ⟨b,o,none⟩)] w fun r w'=>(∃ c,r = .agg c.toArray∧TreeC (fun b=>w.heap.size≤b) w' (tlP (d+1) fs_X0 t) c)∧Ext w w':=by
 have hbl:=blk_lt hb
 obtain ⟨⟨gd0,gd1,gd2,-⟩,hgu⟩:=hg
 replace gd0:GoodF (GoodP d) fX0_0 (t.at 0):=gd0
 replace gd1:GoodF (GoodP d) fX0_1 (t.at 1):=gd1
 replace gd2:GoodF (GoodP d) fX0_2 (t.at 2):=gd2
 obtain ⟨cs0,q,hcs,hL,hT⟩:=hR.inv
 obtain ⟨c0,e0,rfl,h0,c1,e1,rfl,h1,c2,e2,rfl,h2,rfl⟩:=hL
 replace h0:RepF (RepS true d) (szS true d) fX0_0 ok w (t.at 0) c0:=h0
 replace h1:RepF (RepS true d) (szS true d) fX0_1 ok w (t.at 1) c1:=h1
 replace h2:RepF (RepS true d) (szS true d) fX0_2 ok w (t.at 2) c2:=h2
 obtain rfl:=(RepF_text rfl (by decide)).1 h0
 obtain rfl:=(RepF_num (by decide)).1 h1
 obtain rfl:=(RepF_num (by decide)).1 h2
 obtain ⟨qm,rfl⟩:=hT.shape
 subst hcs
 have hq0:x.1[o]? = some (strV (t.at 0).s):=hq 0 (by decide)
 have hq1:x.1[o+1]? = some (.int .i16 (IntKind.i16.wrap (t.at 1).n)):=hq 1 (by decide)
 have hq2:x.1[o+2]? = some (.int .i16 (IntKind.i16.wrap (t.at 2).n)):=hq 2 (by decide)
 have hq3:x.1[o+3]? = some (.map qm):=hq 3 (by decide)
 refine fn_of_W Tryz.func62 rfl Tryz.results62 Tryz.ntmps62 rfl ?_
 repeat ((first|refine qA rfl ?_|apply qB|refine qC rfl ?_|apply qD|apply qE|apply qF|apply qG|apply qH);try simp (maxSteps:=1000000)(disch:=(first|omega|(simp only [qI,qJ,qK]<;>omega)|exact qL _)) only [go_sem,↓reduceIte,n0,reduceCtorEq,n1,n2,n3,n4,n5,i0,i1,i2,i3,i4,i5,i6,i7])
 refine wp_make (T:=34) (E:=37) (size:=5) (bytes:=88) (z:=.agg qZ5) (l:=3) (c:=3) (kl:=.i64) (kc:=.i64) (by kernel_rfl) (by kernel_rfl) (by first|rfl|(simp (maxSteps:=1000000)(disch:=(first|omega|(simp only [qI,qJ,qK]<;>omega)|exact qL _)) only [go_sem,↓reduceIte,n0,reduceCtorEq,n1,n2,n3,n4,n5,i0,i1,i2,i3,i4,i5,i6,i7];rfl)) (by first|rfl|(simp (maxSteps:=1000000)(disch:=(first|omega|(simp only [qI,qJ,qK]<;>omega)|exact qL _)) only [go_sem,↓reduceIte,n0,reduceCtorEq,n1,n2,n3,n4,n5,i0,i1,i2,i3,i4,i5,i6,i7];rfl)) (by omega) (by omega) (by omega) ?_
 have hmd:madeCells (Value.agg qZ5).cells (3 * 5)=#[.int .i64 0,.slice none 0 0,.bool false,.slice none 0 0,.slice none 0 0,.int .i64 0,.slice none 0 0,.bool false,.slice none 0 0,.slice none 0 0,.int .i64 0,.slice none 0 0,.bool false,.slice none 0 0,.slice none 0 0]:=by kernel_rfl
 rw [hmd]
 simp (maxSteps:=1000000)(disch:=(first|omega|(simp only [qI,qJ,qK]<;>omega)|exact qL _)) only [go_sem,↓reduceIte,n0,reduceCtorEq,n1,n2,n3,n4,n5,i0,i1,i2,i3,i4,i5,i6,i7]
 repeat ((first|refine qA rfl ?_|apply qB|refine qC rfl ?_|apply qD|apply qE|apply qF|apply qG|apply qH);try simp (maxSteps:=1000000)(disch:=(first|omega|(simp only [qI,qJ,qK]<;>omega)|exact qL _)) only [go_sem,↓reduceIte,n0,reduceCtorEq,n1,n2,n3,n4,n5,i0,i1,i2,i3,i4,i5,i6,i7])
 have hE1:Ext w (wr (((w.alloc (.cells qZ5 37)).alloc (.cells #[.int .i64 0,.slice none 0 0,.bool false,.slice none 0 0,.slice none 0 0,.int .i64 0,.slice none 0 0,.bool false,.slice none 0 0,.slice none 0 0,.int .i64 0,.slice none 0 0,.bool false,.slice none 0 0,.slice none 0 0] 37)).alloc (.cells qZ5 37)) (w.heap.size+2) 0 [.int .i64 0,.slice none 0 0,.bool false,.slice (some ⟨w.heap.size+1,0,none⟩) 3 3,.slice none 0 0]):=(Upd.alloc (Upd.alloc (Upd.alloc (Upd.refl _ _) _) _) _).wr _ _ (.inl (by omega))
 have hz1:(wr (((w.alloc (.cells qZ5 37)).alloc (.cells #[.int .i64 0,.slice none 0 0,.bool false,.slice none 0 0,.slice none 0 0,.int .i64 0,.slice none 0 0,.bool false,.slice none 0 0,.slice none 0 0,.int .i64 0,.slice none 0 0,.bool false,.slice none 0 0,.slice none 0 0] 37)).alloc (.cells qZ5 37)) (w.heap.size+2) 0 [.int .i64 0,.slice none 0 0,.bool false,.slice (some ⟨w.heap.size+1,0,none⟩) 3 3,.slice none 0 0]).heap.size=w.heap.size+3:=by simp only [size_wr,World.size_alloc]
 have hl1:blk (wr (((w.alloc (.cells qZ5 37)).alloc (.cells #[.int .i64 0,.slice none 0 0,.bool false,.slice none 0 0,.slice none 0 0,.int .i64 0,.slice none 0 0,.bool false,.slice none 0 0,.slice none 0 0,.int .i64 0,.slice none 0 0,.bool false,.slice none 0 0,.slice none 0 0] 37)).alloc (.cells qZ5 37)) (w.heap.size+2) 0 [.int .i64 0,.slice none 0 0,.bool false,.slice (some ⟨w.heap.size+1,0,none⟩) 3 3,.slice none 0 0]) (w.heap.size+1)=some (#[.int .i64 0,.slice none 0 0,.bool false,.slice none 0 0,.slice none 0 0,.int .i64 0,.slice none 0 0,.bool false,.slice none 0 0,.slice none 0 0,.int .i64 0,.slice none 0 0,.bool false,.slice none 0 0,.slice none 0 0],37,(0,0)):=by simp (maxSteps:=1000000)(disch:=(first|omega|(simp only [qI,qJ,qK]<;>omega)|exact qL _)) only [go_sem,↓reduceIte,n0,reduceCtorEq,n1,n2,n3,n4,n5,i0,i1,i2,i3,i4,i5,i6,i7]
 have ht1:blk (wr (((w.alloc (.cells qZ5 37)).alloc (.cells #[.int .i64 0,.slice none 0 0,.bool false,.slice none 0 0,.slice none 0 0,.int .i64 0,.slice none 0 0,.bool false,.slice none 0 0,.slice none 0 0,.int .i64 0,.slice none 0 0,.bool false,.slice none 0 0,.slice none 0 0] 37)).alloc (.cells qZ5 37)) (w.heap.size+2) 0 [.int .i64 0,.slice none 0 0,.bool false,.slice (some ⟨w.heap.size+1,0,none⟩) 3 3,.slice none 0 0]) (w.heap.size+2)=some (#[.int .i64 0,.slice none 0 0,.bool false,.slice (some ⟨w.heap.size+1,0,none⟩) 3 3,.slice none 0 0],37,(0,0)):=by simp (maxSteps:=1000000)(disch:=(first|omega|(simp only [qI,qJ,qK]<;>omega)|exact qL _)) only [go_sem,↓reduceIte,n0,reduceCtorEq,n1,n2,n3,n4,n5,i0,i1,i2,i3,i4,i5,i6,i7]
 have hr1:blk (wr (((w.alloc (.cells qZ5 37)).alloc (.cells #[.int .i64 0,.slice none 0 0,.bool false,.slice none 0 0,.slice none 0 0,.int .i64 0,.slice none 0 0,.bool false,.slice none 0 0,.slice none 0 0,.int .i64 0,.slice none 0 0,.bool false,.slice none 0 0,.slice none 0 0] 37)).alloc (.cells qZ5 37)) (w.heap.size+2) 0 [.int .i64 0,.slice none 0 0,.bool false,.slice (some ⟨w.heap.size+1,0,none⟩) 3 3,.slice none 0 0]) w.heap.size=some (qZ5,37,(0,0)):=by simp (maxSteps:=1000000)(disch:=(first|omega|(simp only [qI,qJ,qK]<;>omega)|exact qL _)) only [go_sem,↓reduceIte,n0,reduceCtorEq,n1,n2,n3,n4,n5,i0,i1,i2,i3,i4,i5,i6,i7]
 obtain ⟨w1,hw1⟩:∃ y,y=(wr (((w.alloc (.cells qZ5 37)).alloc (.cells #[.int .i64 0,.slice none 0 0,.bool false,.slice none 0 0,.slice none 0 0,.int .i64 0,.slice none 0 0,.bool false,.slice none 0 0,.slice none 0 0,.int .i64 0,.slice none 0 0,.bool false,.slice none 0 0,.slice none 0 0] 37)).alloc (.cells qZ5 37)) (w.heap.size+2) 0 [.int .i64 0,.slice none 0 0,.bool false,.slice (some ⟨w.heap.size+1,0,none⟩) 3 3,.slice none 0 0]):=⟨_,rfl⟩
 rw [← hw1] at hE1 hz1 hl1 ht1 hr1
 rw [← hw1]
 clear hw1
 have hU1:Upd (fun b=>b=w.heap.size+1∨b=w.heap.size+2) w1 w1:=Upd.refl _ _
 have hb1:=hE1.blk_some hb id
 repeat ((first|refine qA rfl ?_|apply qB|refine qC rfl ?_|apply qD|apply qE|apply qF|apply qG|apply qH);try simp (maxSteps:=1000000)(disch:=(first|omega|(simp only [qI,qJ,qK]<;>omega)|exact qL _)) only [go_sem,↓reduceIte,n0,reduceCtorEq,n1,n2,n3,n4,n5,i0,i1,i2,i3,i4,i5,i6,i7,hb1,hl1,ht1,hq0,hq1,hq2,hq3])
 refine W.drawR (.take 0 (.take 1 (.take 2 (.take 3 (.take 4 (.take 5 (.only 6 (.only 7 (.take 8 (.last 9)))))))))) (NoB) mixed (by kernel_rfl) ?_
 try simp (maxSteps:=1000000)(disch:=(first|omega|(simp only [qI,qJ,qK]<;>omega)|exact qL _)) only [go_sem,↓reduceIte,n0,reduceCtorEq,n1,n2,n3,n4,n5,i0,i1,i2,i3,i4,i5,i6,i7,hb1,hl1,ht1,hq0,hq1,hq2,hq3]
 refine wp_octets (S:=9) (T:=22) (E:=5) (s:=(t.at 0).s) (by kernel_rfl) (by kernel_rfl) (by kernel_rfl) (by first|rfl|simp (maxSteps:=1000000)(disch:=(first|omega|(simp only [qI,qJ,qK]<;>omega)|exact qL _)) only [go_sem,↓reduceIte,n0,reduceCtorEq,n1,n2,n3,n4,n5,i0,i1,i2,i3,i4,i5,i6,i7,hb1,hl1,ht1,hq0,hq1,hq2,hq3]) ?_
 intro a2 k2 w2 hB2 jI
 have hP2:Upd NoB w1.drew w2:=(Upd.refl _ _).trans (jI.mono fun _ h=>h.elim)
 have rR:=jI.size
 try simp only [size_drew] at rR
 refine ⟨hP2,?_⟩
 try simp (maxSteps:=1000000)(disch:=(first|omega|(simp only [qI,qJ,qK]<;>omega)|exact qL _)) only [go_sem,↓reduceIte,n0,reduceCtorEq,n1,n2,n3,n4,n5,i0,i1,i2,i3,i4,i5,i6,i7,hb1,hl1,ht1,hq0,hq1,hq2,hq3]
 refine ⟨hP2,?_⟩
 have gO:=hP2.blk_some (show blk w1.drew (w.heap.size+1)=_ from hl1) id
 have hx3:Upd (fun b=>b=w.heap.size+1∨b=w.heap.size+2) w1 w2:=((Upd.refl _ _).drew).trans (hP2.mono fun _ h=>h.elim)
 try simp (maxSteps:=1000000)(disch:=(first|omega|(simp only [qI,qJ,qK]<;>omega)|exact qL _)) only [go_sem,↓reduceIte,n0,reduceCtorEq,n1,n2,n3,n4,n5,i0,i1,i2,i3,i4,i5,i6,i7,gO]
 generalize hw3:wr w2 (w.heap.size+1) 0 [.int .i64 0,.slice (some a2) ((t.at 0).s).length k2,.bool false,.slice none 0 0,.slice none 0 0] = w3
 have hl3:blk w3 (w.heap.size+1)=some (#[.int .i64 0,.slice (some a2) ((t.at 0).s).length k2,.bool false,.slice none 0 0,.slice none 0 0,.int .i64 0,.slice none 0 0,.bool false,.slice none 0 0,.slice none 0 0,.int .i64 0,.slice none 0 0,.bool false,.slice none 0 0,.slice none 0 0],37,(0,0)):=by rw [← hw3,blk_wr_eq,gO];rfl
 have hv3:Upd (fun b=>b=w.heap.size+1∨b=w.heap.size+2) w2 w3:=by rw [← hw3];exact (Upd.refl _ _).wr _ _ (.inr (.inl rfl))
 have hV3:Upd (fun b=>b=w.heap.size+1∨b=w.heap.size+2) w1 w3:=hx3.trans hv3
 have hU3:Upd (fun b=>b=w.heap.size+1∨b=w.heap.size+2) w1 w3:=hU1.trans hV3
 have hz3:=hU3.size
 have hX3:Ext w w3:=hE1.more hU3 fun b hb h=>by omega
 have hb3:=hX3.blk_some hb id
 have ht3:blk w3 (w.heap.size+2)=some (#[.int .i64 0,.slice none 0 0,.bool false,.slice (some ⟨w.heap.size+1,0,none⟩) 3 3,.slice none 0 0],37,(0,0)):=by
  rw [← hw3,blk_wr_ne (by omega)]
  exact hP2.blk_some (show blk w1.drew (w.heap.size+2)=_ from ht1) id
 clear hw3
 have hf0:TreeC (fun b=>w1.heap.size≤b) w3 (.oct false (t.at 0).s) [.int .i64 0,.slice (some a2) ((t.at 0).s).length k2,.bool false,.slice none 0 0,.slice none 0 0]:=(TreeC.keep (hv3.keeps fun b hb hk e=>by have hk':w1.heap.size≤b:=hk;omega) (TreeC.intro rfl (hB2.weaken fun b _ hk=>by have hk':w1.drew.heap.size≤b:=hk;(try simp only [size_drew] at hk');omega) (treesN _ _) (tagsN _ _):TreeC (fun b=>w1.heap.size≤b) w2 (.oct false (t.at 0).s) [.int .i64 0,.slice (some a2) ((t.at 0).s).length k2,.bool false,.slice none 0 0,.slice none 0 0]))
 repeat ((first|refine qA rfl ?_|apply qB|refine qC rfl ?_|apply qD|apply qE|apply qF|apply qG|apply qH);try simp (maxSteps:=1000000)(disch:=(first|omega|(simp only [qI,qJ,qK]<;>omega)|exact qL _)) only [go_sem,↓reduceIte,n0,reduceCtorEq,n1,n2,n3,n4,n5,i0,i1,i2,i3,i4,i5,i6,i7,hb3,hl3,ht3,hq0,hq1,hq2,hq3])
 refine W.drawR (.take 0 (.take 1 (.take 2 (.take 3 (.take 4 (.take 5 (.take 6 (.only 7 (.take 8 (.last 9)))))))))) (NoB) mixed (by kernel_rfl) ?_
 try simp (maxSteps:=1000000)(disch:=(first|omega|(simp only [qI,qJ,qK]<;>omega)|exact qL _)) only [go_sem,↓reduceIte,n0,reduceCtorEq,n1,n2,n3,n4,n5,i0,i1,i2,i3,i4,i5,i6,i7,hb3,hl3,ht3,hq0,hq1,hq2,hq3,tl16]
 refine ⟨Upd.refl _ _,?_⟩
 have kO:blk w3.drew (w.heap.size+1)=_:=hl3
 have hx4:Upd (fun b=>b=w.heap.size+1∨b=w.heap.size+2) w3 w3.drew:=(Upd.refl _ _).drew
 generalize hw4:wr w3.drew (w.heap.size+1) 5 [.int .i64 (IntKind.i16.wrap (t.at 1).n),.slice none 0 0,.bool false,.slice none 0 0,.slice none 0 0] = w4
 have hl4:blk w4 (w.heap.size+1)=some (#[.int .i64 0,.slice (some a2) ((t.at 0).s).length k2,.bool false,.slice none 0 0,.slice none 0 0,.int .i64 (IntKind.i16.wrap (t.at 1).n),.slice none 0 0,.bool false,.slice none 0 0,.slice none 0 0,.int .i64 0,.slice none 0 0,.bool false,.slice none 0 0,.slice none 0 0],37,(0,0)):=by rw [← hw4,blk_wr_eq,kO];rfl
 have hv4:Upd (fun b=>b=w.heap.size+1∨b=w.heap.size+2) w3.drew w4:=by rw [← hw4];exact (Upd.refl _ _).wr _ _ (.inr (.inl rfl))
 have hV4:Upd (fun b=>b=w.heap.size+1∨b=w.heap.size+2) w3 w4:=hx4.trans hv4
 have hU4:Upd (fun b=>b=w.heap.size+1∨b=w.heap.size+2) w1 w4:=hU3.trans hV4
 have hz4:=hU4.size
 have hX4:Ext w w4:=hE1.more hU4 fun b hb h=>by omega
 have hb4:=hX4.blk_some hb id
 have ht4:blk w4 (w.heap.size+2)=some (#[.int .i64 0,.slice none 0 0,.bool false,.slice (some ⟨w.heap.size+1,0,none⟩) 3 3,.slice none 0 0],37,(0,0)):=by
  rw [← hw4,blk_wr_ne (by omega)]
  exact ht3
 clear hw4
 have hf1:TreeC (fun b=>w1.heap.size≤b) w4 (.num (IntKind.i16.wrap (t.at 1).n)) [.int .i64 (IntKind.i16.wrap (t.at 1).n),.slice none 0 0,.bool false,.slice none 0 0,.slice none 0 0]:=(TreeC.keep (hv4.keeps fun b hb hk e=>by have hk':w1.heap.size≤b:=hk;omega) (TreeC.intro (tl16 _) (BytesV.nil _ _) (treesN _ _) (tagsN _ _):TreeC (fun b=>w1.heap.size≤b) w3.drew (.num (IntKind.i16.wrap (t.at 1).n)) [.int .i64 (IntKind.i16.wrap (t.at 1).n),.slice none 0 0,.bool false,.slice none 0 0,.slice none 0 0]))
 repeat ((first|refine qA rfl ?_|apply qB|refine qC rfl ?_|apply qD|apply qE|apply qF|apply qG|apply qH);try simp (maxSteps:=1000000)(disch:=(first|omega|(simp only [qI,qJ,qK]<;>omega)|exact qL _)) only [go_sem,↓reduceIte,n0,reduceCtorEq,n1,n2,n3,n4,n5,i0,i1,i2,i3,i4,i5,i6,i7,hb4,hl4,ht4,hq0,hq1,hq2,hq3])
 refine W.drawR (.take 0 (.take 1 (.take 2 (.take 3 (.take 4 (.take 5 (.take 6 (.only 7 (.take 8 (.last 9)))))))))) (NoB) mixed (by kernel_rfl) ?_
 try simp (maxSteps:=1000000)(disch:=(first|omega|(simp only [qI,qJ,qK]<;>omega)|exact qL _)) only [go_sem,↓reduceIte,n0,reduceCtorEq,n1,n2,n3,n4,n5,i0,i1,i2,i3,i4,i5,i6,i7,hb4,hl4,ht4,hq0,hq1,hq2,hq3,tl16]
 refine ⟨Upd.refl _ _,?_⟩
 have pR:blk w4.drew (w.heap.size+1)=_:=hl4
 have hx5:Upd (fun b=>b=w.heap.size+1∨b=w.heap.size+2) w4 w4.drew:=(Upd.refl _ _).drew
 generalize hw5:wr w4.drew (w.heap.size+1) 10 [.int .i64 (IntKind.i16.wrap (t.at 2).n),.slice none 0 0,.bool false,.slice none 0 0,.slice none 0 0] = w5
 have hl5:blk w5 (w.heap.size+1)=some (#[.int .i64 0,.slice (some a2) ((t.at 0).s).length k2,.bool false,.slice none 0 0,.slice none 0 0,.int .i64 (IntKind.i16.wrap (t.at 1).n),.slice none 0 0,.bool false,.slice none 0 0,.slice none 0 0,.int .i64 (IntKind.i16.wrap (t.at 2).n),.slice none 0 0,.bool false,.slice none 0 0,.slice none 0 0],37,(0,0)):=by rw [← hw5,blk_wr_eq,pR];rfl
 have hv5:Upd (fun b=>b=w.heap.size+1∨b=w.heap.size+2) w4.drew w5:=by rw [← hw5];exact (Upd.refl _ _).wr _ _ (.inr (.inl rfl))
 have hV5:Upd (fun b=>b=w.heap.size+1∨b=w.heap.size+2) w4 w5:=hx5.trans hv5
 have hU5:Upd (fun b=>b=w.heap.size+1∨b=w.heap.size+2) w1 w5:=hU4.trans hV5
 have hz5:=hU5.size
 have hX5:Ext w w5:=hE1.more hU5 fun b hb h=>by omega
 have hb5:=hX5.blk_some hb id
 have ht5:blk w5 (w.heap.size+2)=some (#[.int .i64 0,.slice none 0 0,.bool false,.slice (some ⟨w.heap.size+1,0,none⟩) 3 3,.slice none 0 0],37,(0,0)):=by
  rw [← hw5,blk_wr_ne (by omega)]
  exact ht4
 clear hw5
 have hf2:TreeC (fun b=>w1.heap.size≤b) w5 (.num (IntKind.i16.wrap (t.at 2).n)) [.int .i64 (IntKind.i16.wrap (t.at 2).n),.slice none 0 0,.bool false,.slice none 0 0,.slice none 0 0]:=(TreeC.keep (hv5.keeps fun b hb hk e=>by have hk':w1.heap.size≤b:=hk;omega) (TreeC.intro (tl16 _) (BytesV.nil _ _) (treesN _ _) (tagsN _ _):TreeC (fun b=>w1.heap.size≤b) w4.drew (.num (IntKind.i16.wrap (t.at 2).n)) [.int .i64 (IntKind.i16.wrap (t.at 2).n),.slice none 0 0,.bool false,.slice none 0 0,.slice none 0 0]))
 repeat ((first|refine qA rfl ?_|apply qB|refine qC rfl ?_|apply qD|apply qE|apply qF|apply qG|apply qH);try simp (maxSteps:=1000000)(disch:=(first|omega|(simp only [qI,qJ,qK]<;>omega)|exact qL _)) only [go_sem,↓reduceIte,n0,reduceCtorEq,n1,n2,n3,n4,n5,i0,i1,i2,i3,i4,i5,i6,i7,hb5,hl5,ht5,hq0,hq1,hq2,hq3])
 refine (EachG_fn (ok:=fun b=>b < w.heap.size) 97 ca_97 #[.pointer (some ⟨w.heap.size+2,0,none⟩)] w5 (tb:=b) (to:=o+3) hb5 hq3 ((hT.weaken fun b hb _=>hb).keep (hX5.keeps _)) (sortT_perm _) (sortT_lt hgu.2.1) (by rw [(sortT_perm t.u).length_eq];exact hgu.1)
  (fun b=>b=w.heap.size+2) (by omega) (fun b hb hk e=>by have hk':b < w.heap.size:=hk;omega) (fun b hb=>by have:=blk_lt ht5;omega)
  (fun wl done w'=>∃ v,blk w' (w.heap.size+2)=some (#[.int .i64 0,.slice none 0 0,.bool false,.slice (some ⟨w.heap.size+1,0,none⟩) 3 3,v],37,(0,0))∧GrowU (fun b=>w1.heap.size≤b) wl.heap.size (w.heap.size+2) w' 69 v done) (fun wl hE=>⟨_,hE.blk_some ht5 id,GrowU.nil _ _ _ _ _⟩) ?_).mono ?_
 ·rintro wl hE done y vv wc hpre ⟨v,hbv,hg⟩ hU hvv hy
  have hz':=hE.size
  have hzu:=hU.size
  have htl:=blk_lt ht5
  have hpl:=hpre.length_le
  simp only [List.length_append,List.length_cons,List.length_nil] at hpl
  rw [(sortT_perm t.u).length_eq] at hpl
  have hlu:=hgu.1
  have hmy:y∈t.u:=(sortT_perm t.u).mem_iff.1 (hpre.subset (by simp))
  refine (tagclX0_fn (ok:=fun b=>b < w.heap.size) _ _ _ _ v done y vv wc hbv hg hzu (by omega) (hvv.keep ((hE.mono (fun _ h=>h.elim) |>.trans hU:Upd (fun b=>b=w.heap.size+2) w5 wc).keeps fun b _ hk e=>by have hk':b < w.heap.size:=hk;omega)) hy (hgu.2.2 y hmy) (by omega) (fun b hb=>by have:=hz5;omega)).mono ?_
  rintro _ w2' ⟨⟨v',h1,h2⟩,h3⟩
  exact ⟨⟨v',h1,h2⟩,hU.trans' h3 fun b hb h=>h.elim id fun h=>by omega⟩
 rintro _ w6 ⟨wl,hEl,⟨v,ht6,hgU⟩,hUe⟩
 have hzl:=hEl.size
 obtain ⟨aU,kU,hvs,_⟩:=hgU.shape
 subst hvs
 have hV6:Upd (fun b=>b=w.heap.size+1∨b=w.heap.size+2) w5 w6:=(hEl.mono fun _ h=>h.elim).trans (hUe.mono fun _ h=>.inr h)
 have hU6:Upd (fun b=>b=w.heap.size+1∨b=w.heap.size+2) w1 w6:=hU5.trans hV6
 have hz6:=hU6.size
 have hX6:Ext w w6:=hE1.more hU6 fun b hb h=>by omega
 have hb6:=hX6.blk_some hb id
 have hl6:=(((hEl.mono fun _ h=>h.elim).trans hUe:Upd (fun b=>b=w.heap.size+2) w5 w6)).blk_some hl5 (by omega)
 have hTU:=hgU.tags (ok':=(fun b=>w1.heap.size≤b)) (fun _ _ h=>h) (fun b hb=>by have:=hz5;omega)
 repeat ((first|refine qA rfl ?_|apply qB|refine qC rfl ?_|apply qD|apply qE|apply qF|apply qG|apply qH);try simp (maxSteps:=1000000)(disch:=(first|omega|(simp only [qI,qJ,qK]<;>omega)|exact qL _)) only [go_sem,↓reduceIte,n0,reduceCtorEq,n1,n2,n3,n4,n5,i0,i1,i2,i3,i4,i5,i6,i7,hb6,hl6,ht6,hq0,hq1,hq2,hq3,cellsAt_five])
 refine (sorted_fn _ _ w6 hTU (sortT_lt hgu.2.1) (by rw [(sortT_perm t.u).length_eq];exact hgu.1)).mono ?_
 rintro _ w7 hEs
 have hV7:Upd (fun b=>b=w.heap.size+1∨b=w.heap.size+2) w6 w7:=hEs.mono fun _ h=>h.elim
 have hU7:Upd (fun b=>b=w.heap.size+1∨b=w.heap.size+2) w1 w7:=hU6.trans hV7
 have hz7:=hU7.size
 have hX7:Ext w w7:=hE1.more hU7 fun b hb h=>by omega
 have hb7:=hX7.blk_some hb id
 have hl7:=hEs.blk_some hl6 id
 have ht7:=hEs.blk_some ht6 id
 have hr7:=(hU7.blk_some hr1 (by omega))
 have hC_7:Upd (fun b=>b=w.heap.size+1∨b=w.heap.size+2) w7 w7:=Upd.refl _ _
 have hC_6:Upd (fun b=>b=w.heap.size+1∨b=w.heap.size+2) w6 w7:=hV7.trans hC_7
 have hC_5:Upd (fun b=>b=w.heap.size+1∨b=w.heap.size+2) w5 w7:=hV6.trans hC_6
 have hC_4:Upd (fun b=>b=w.heap.size+1∨b=w.heap.size+2) w4 w7:=hV5.trans hC_5
 have hC_3:Upd (fun b=>b=w.heap.size+1∨b=w.heap.size+2) w3 w7:=hV4.trans hC_4
 have hC_1:Upd (fun b=>b=w.heap.size+1∨b=w.heap.size+2) w1 w7:=hV3.trans hC_3
 have hF0:=TreeC.keep (hC_3.keeps fun b hb hk e=>by have hk':w1.heap.size≤b:=hk;omega) hf0
 have hF1:=TreeC.keep (hC_4.keeps fun b hb hk e=>by have hk':w1.heap.size≤b:=hk;omega) hf1
 have hF2:=TreeC.keep (hC_5.keeps fun b hb hk e=>by have hk':w1.heap.size≤b:=hk;omega) hf2
 replace hF0:TreeC (fun b=>w1.heap.size≤b) w7 (tlF (tlP d) fX0_0 (t.at 0)) [.int .i64 0,.slice (some a2) ((t.at 0).s).length k2,.bool false,.slice none 0 0,.slice none 0 0]:=hF0
 replace hF1:TreeC (fun b=>w1.heap.size≤b) w7 (tlF (tlP d) fX0_1 (t.at 1)) [.int .i64 (IntKind.i16.wrap (t.at 1).n),.slice none 0 0,.bool false,.slice none 0 0,.slice none 0 0]:=hF1
 replace hF2:TreeC (fun b=>w1.heap.size≤b) w7 (tlF (tlP d) fX0_2 (t.at 2)) [.int .i64 (IntKind.i16.wrap (t.at 2).n),.slice none 0 0,.bool false,.slice none 0 0,.slice none 0 0]:=hF2
 have hTL:TreesV (fun b=>(fun b=>w1.heap.size≤b) b∨b=w.heap.size+1) w7 (.slice (some ⟨w.heap.size+1,0,none⟩) 3 3) [tlF (tlP d) fX0_0 (t.at 0),tlF (tlP d) fX0_1 (t.at 1),tlF (tlP d) fX0_2 (t.at 2)]:=by
  refine ⟨[[.int .i64 0,.slice (some a2) ((t.at 0).s).length k2,.bool false,.slice none 0 0,.slice none 0 0],[.int .i64 (IntKind.i16.wrap (t.at 1).n),.slice none 0 0,.bool false,.slice none 0 0,.slice none 0 0],[.int .i64 (IntKind.i16.wrap (t.at 2).n),.slice none 0 0,.bool false,.slice none 0 0,.slice none 0 0]],⟨_,3,rfl,Nat.le_refl _,(by intro cs hm;simp only [List.mem_cons,List.not_mem_nil,or_false] at hm;rcases hm with rfl|rfl|rfl<;>rfl),.inr ⟨_,rfl,rfl,.inr rfl,_,hl7,fun i hi=>by rw [Nat.zero_add,List.getElem?_toArray];rfl⟩⟩,rfl,fun i h1 h2 => ?_⟩
  match i,h1 with
  | 0,_=>exact TreeC.weaken (fun b _ hk=>.inl hk) hF0
  | 1,_=>exact TreeC.weaken (fun b _ hk=>.inl hk) hF1
  | 2,_=>exact TreeC.weaken (fun b _ hk=>.inl hk) hF2
 repeat ((first|refine qA rfl ?_|apply qB|refine qC rfl ?_|apply qD|apply qE|apply qF|apply qG|apply qH);try simp (maxSteps:=1000000)(disch:=(first|omega|(simp only [qI,qJ,qK]<;>omega)|exact qL _)) only [go_sem,↓reduceIte,n0,reduceCtorEq,n1,n2,n3,n4,n5,i0,i1,i2,i3,i4,i5,i6,i7,hb7,hl7,ht7,hq0,hq1,hq2,hq3,hr7,cellsAt_five])
 refine ⟨⟨_,rfl,?_⟩,hX7.wr _ _ (.inl (Nat.le_refl _))⟩
 have hUr:Upd (fun b=>b=w.heap.size) w7 (wr w7 w.heap.size 0 [.int .i64 0,.slice none 0 0,.bool false,.slice (some ⟨w.heap.size+1,0,none⟩) 3 3,.slice aU (sortT t.u).length kU]):=(Upd.refl _ _).wr _ _ (.inr rfl)
 have gE:=hTU.keep (hEs.keeps _)
 exact TreeC.intro rfl (BytesV.nil _ _) ((hTL.keep (hUr.keeps fun b _ hk e=>by rcases hk with hk|hk<;>omega)).weaken fun b _ hk=>by rcases hk with hk|hk<;>omega) ((gE.keep (hUr.keeps fun b _ hk e=>by omega)).weaken fun b _ hk=>by omega)

theorem tagclX1_fn {ok OK:Blocks} {B tb:Nat} (c0 c1 c2 c3 v:Value) (done:List TagD) (y:TagD) (vv:Value) (w:World) (hbt:blk w tb=some (#[c0,c1,c2,c3,v],37,(0,0))) (hg:GrowU OK B tb w 69 v done) (hB:B≤w.heap.size) (htb:tb < B) (hvv:BytesV ok w vv y.2) (hy:y.1 < 2 ^ 32) (hyl:y.2.length≤32767) (hdl:done.length≤32767) (hOK:∀ b,B≤b→OK b) :
  Fn Tryz.prog 98 #[.int .u32 y.1,vv,.pointer (some ⟨tb,0,none⟩)] w fun _ w'=>(∃ v',blk w' tb=some (#[c0,c1,c2,c3,v'],37,(0,0))∧GrowU OK B tb w' 69 v' (done++[y]))∧Upd (fun b=>b=tb∨B≤b) w w':=by
 have htl:=blk_lt hbt
 refine fn_of_W Tryz.func98 rfl Tryz.results98 Tryz.ntmps98 rfl ?_
 repeat ((first|refine qA rfl ?_|apply qB|refine qC rfl ?_|apply qD|apply qE|apply qF|apply qG|apply qH);try simp (maxSteps:=1000000)(disch:=(first|omega|(simp only [qI,qJ,qK]<;>omega)|exact qL _)) only [go_sem,↓reduceIte,n0,reduceCtorEq,n1,n2,n3,n4,n5,i0,i1,i2,i3,i4,i5,i6,i7])
 obtain ⟨av,kv,rfl,_⟩:=hg.shape
 have hnb:∀ b,b < B∨w.heap.size≤b→¬ ownB (.slice av done.length kv) b:=fun b hb h=>by
  have:=hg.above h
  have:=hg.below h
  omega
 refine W.drawR (.take 0 (.take 1 (.take 2 (.take 3 (.only 4 (.only 5 (.only 6 (.only 7 (.take 8 (.last 9)))))))))) (ownB (.slice av done.length kv)) mixed (by kernel_rfl) ?_
 simp (maxSteps:=1000000)(disch:=(first|omega|(simp only [qI,qJ,qK]<;>omega)|exact qL _|(refine hnb _ ?_;first|omega|(simp only [World.size_alloc,size_wr,size_drew]<;>omega)))) only [go_sem,↓reduceIte,n0,reduceCtorEq,n1,n2,n3,n4,n5,i0,i1,i2,i3,i4,i5,i6,i7,hbt]
 refine wp_copyN ap_22_22 (ok:=ok) (s:=y.2) (v:=vv) (by first|rfl|simp (maxSteps:=1000000)(disch:=(first|omega|(simp only [qI,qJ,qK]<;>omega)|exact qL _)) only [go_sem,↓reduceIte,n0,reduceCtorEq,n1,n2,n3,n4,n5,i0,i1,i2,i3,i4,i5,i6,i7]) (by first|rfl|simp (maxSteps:=1000000)(disch:=(first|omega|(simp only [qI,qJ,qK]<;>omega)|exact qL _)) only [go_sem,↓reduceIte,n0,reduceCtorEq,n1,n2,n3,n4,n5,i0,i1,i2,i3,i4,i5,i6,i7]) (hvv.keep (Ext.keeps ((Upd.refl _ _).drew) _)) (by omega) ?_
 intro v1 w1 ho1 hE1 hf1
 obtain ⟨a1,k1,rfl,_⟩:=ho1.shape
 have hB1:=Own.bytes (ok:=fun b=>w.heap.size≤b) ho1 fun b hb=>hf1 b hb
 have hP1:Upd (ownB (.slice av done.length kv)) w.drew w1:=hE1.mono fun _ h=>h.elim
 have hs1:=hE1.size
 simp only [size_drew] at hs1
 refine ⟨hP1,?_⟩
 simp (maxSteps:=1000000)(disch:=(first|omega|(simp only [qI,qJ,qK]<;>omega)|exact qL _|(refine hnb _ ?_;first|omega|(simp only [World.size_alloc,size_wr,size_drew]<;>omega)))) only [go_sem,↓reduceIte,n0,reduceCtorEq,n1,n2,n3,n4,n5,i0,i1,i2,i3,i4,i5,i6,i7,hbt]
 refine ⟨hP1,?_⟩
 have hP2:Upd (ownB (.slice av done.length kv)) w.drew (w1.alloc (.cells #[.int .u32 y.1,.slice a1 y.2.length k1] 69)):=hP1.alloc _
 have hn2:blk (w1.alloc (.cells #[.int .u32 y.1,.slice a1 y.2.length k1] 69)) w1.heap.size=some (#[.int .u32 y.1,.slice a1 y.2.length k1],69,(0,0)):=blk_alloc_new rfl
 have hs2:(w1.alloc (.cells #[.int .u32 y.1,.slice a1 y.2.length k1] 69)).heap.size=w1.heap.size+1:=World.size_alloc _ _
 have hE2:Ext w1 (w1.alloc (.cells #[.int .u32 y.1,.slice a1 y.2.length k1] 69)):=Upd.alloc (Upd.refl _ _) _
 refine ⟨hP2,?_⟩
 try simp only [List.append_nil]
 generalize (w1.alloc (.cells #[.int .u32 y.1,.slice a1 y.2.length k1] 69))=w2 at *
 have hEw:Ext w w2:=(((Upd.refl _ _).drew).trans hE1).trans hE2
 obtain ⟨css,hown,hall⟩:=(hg.ext hEw).ex
 have hcl:=hall.1
 have hx2:TagC (fun b=>OK b∧b≠tb∧¬ ownB (.slice av done.length kv) b) w2 y [.int .u32 y.1,.slice a1 y.2.length k1]:=⟨_,rfl,(hB1.keep (hE2.keeps _)).weaken fun b _ hk=>⟨hOK b (by omega),by omega,hnb b (.inr hk)⟩,hy⟩
 refine wp_append ap_35_35 (m:=1) (news:=[.int .u32 y.1,.slice a1 y.2.length k1]) (n:=css.length) (cs:=css.flatten) (v:=.slice av done.length kv) ?_ rfl hown.1 hall.flat_cells (Src.blk (fr:=(0,0)) (T:=69) hn2 rfl rfl) ?_ ?_ ?_
 ·first|rfl|simp (maxSteps:=1000000)(disch:=(first|omega|(simp only [qI,qJ,qK]<;>omega)|exact qL _)) only [go_sem,↓reduceIte,n0,reduceCtorEq,n1,n2,n3,n4,n5,i0,i1,i2,i3,i4,i5,i6,i7]
 ·omega
 ·omega
 intro v' w3 ho hu hfr
 have hg3:=GrowU.snoc hown hall hx2 hu hfr ho
 obtain ⟨va,vc,hv',_⟩:=ho.shape
 subst hv'
 have hP3:=hP2.trans hu
 have hs3:=hu.size
 have bB:=hP3.blk_some (show blk w.drew tb=_ from hbt) (hnb _ (.inl htb))
 have hne:¬ ownB (.slice va (css.length+1) vc) tb:=fun h=>(hfr _ h).elim (hnb _ (.inl htb)) (fun h=>by omega)
 refine ⟨hP3,?_⟩
 simp (maxSteps:=1000000)(disch:=(first|omega|(simp only [qI,qJ,qK]<;>omega)|exact qL _|(refine hnb _ ?_;first|omega|(simp only [World.size_alloc,size_wr,size_drew]<;>omega)))) only [go_sem,↓reduceIte,n0,reduceCtorEq,n1,n2,n3,n4,n5,i0,i1,i2,i3,i4,i5,i6,i7,bB]
 repeat ((first|refine qA rfl ?_|apply qB|refine qC rfl ?_|apply qD|apply qE|apply qF|apply qG|apply qH);try simp (maxSteps:=1000000)(disch:=(first|omega|(simp only [qI,qJ,qK]<;>omega)|exact qL _)) only [go_sem,↓reduceIte,n0,reduceCtorEq,n1,n2,n3,n4,n5,i0,i1,i2,i3,i4,i5,i6,i7])
 refine ⟨⟨.slice va (css.length+1) vc,by first|(rw [blk_wr_eq,bB];rfl)|rfl|(rw [bB];rfl)|(rw [blk_wr_eq,bB]),hg3.upd ((Upd.refl _ _).wr _ _ (.inr rfl)) hne⟩,?_⟩
 refine Upd.wr ?_ _ _ (.inr (.inl rfl))
 exact (((Upd.refl (fun b=>b=tb∨B≤b) w).drew).trans (hP3.mono fun b h=>.inr (hg.above h)))

set_option maxHeartbeats 4000000 in
theorem tellX1_fn {d:Nat} {ok:Blocks} (t:Tree) (cs:List Value) (w:World) {b o:Nat} {x:Blk} (hb:blk w b=some x) (hq:∀ k,k < 4→x.1[o+k]? = cs[k]?) (hR:RepS true (d+1) fs_X1 ok w t cs) (hg:GoodP (d+1) fs_X1 t) :
  Fn Tryz.prog 63 #[.pointer (some ⟨b,o,none⟩)] w fun r w'=>(∃ c,r = .agg c.toArray∧TreeC (fun b=>w.heap.size≤b) w' (tlP (d+1) fs_X1 t) c)∧Ext w w':=by
 have hbl:=blk_lt hb
 obtain ⟨⟨gd0,gd1,gd2,-⟩,hgu⟩:=hg
 replace gd0:GoodF (GoodP d) fX1_0 (t.at 0):=gd0
 replace gd1:GoodF (GoodP d) fX1_1 (t.at 1):=gd1
 replace gd2:GoodF (GoodP d) fX1_2 (t.at 2):=gd2
 obtain ⟨cs0,q,hcs,hL,hT⟩:=hR.inv
 obtain ⟨c0,e0,rfl,h0,c1,e1,rfl,h1,c2,e2,rfl,h2,rfl⟩:=hL
 replace h0:RepF (RepS true d) (szS true d) fX1_0 ok w (t.at 0) c0:=h0
 replace h1:RepF (RepS true d) (szS true d) fX1_1 ok w (t.at 1) c1:=h1
 replace h2:RepF (RepS true d) (szS true d) fX1_2 ok w (t.at 2) c2:=h2
 obtain rfl:=(RepF_text rfl (by decide)).1 h0
 obtain rfl:=(RepF_num (by decide)).1 h1
 obtain rfl:=(RepF_num (by decide)).1 h2
 obtain ⟨qm,rfl⟩:=hT.shape
 subst hcs
 have hq0:x.1[o]? = some (strV (t.at 0).s):=hq 0 (by decide)
 have hq1:x.1[o+1]? = some (.int .i16 (IntKind.i16.wrap (t.at 1).n)):=hq 1 (by decide)
 have hq2:x.1[o+2]? = some (.int .i16 (IntKind.i16.wrap (t.at 2).n)):=hq 2 (by decide)
 have hq3:x.1[o+3]? = some (.map qm):=hq 3 (by decide)
 refine fn_of_W Tryz.func63 rfl Tryz.results63 Tryz.ntmps63 rfl ?_
 repeat ((first|refine qA rfl ?_|apply qB|refine qC rfl ?_|apply qD|apply qE|apply qF|apply qG|apply qH);try simp (maxSteps:=1000000)(disch:=(first|omega|(simp only [qI,qJ,qK]<;>omega)|exact qL _)) only [go_sem,↓reduceIte,n0,reduceCtorEq,n1,n2,n3,n4,n5,i0,i1,i2,i3,i4,i5,i6,i7])
 refine wp_make (T:=34) (E:=37) (size:=5) (bytes:=88) (z:=.agg qZ5) (l:=3) (c:=3) (kl:=.i64) (kc:=.i64) (by kernel_rfl) (by kernel_rfl) (by first|rfl|(simp (maxSteps:=1000000)(disch:=(first|omega|(simp only [qI,qJ,qK]<;>omega)|exact qL _)) only [go_sem,↓reduceIte,n0,reduceCtorEq,n1,n2,n3,n4,n5,i0,i1,i2,i3,i4,i5,i6,i7];rfl)) (by first|rfl|(simp (maxSteps:=1000000)(disch:=(first|omega|(simp only [qI,qJ,qK]<;>omega)|exact qL _)) only [go_sem,↓reduceIte,n0,reduceCtorEq,n1,n2,n3,n4,n5,i0,i1,i2,i3,i4,i5,i6,i7];rfl)) (by omega) (by omega) (by omega) ?_
 have hmd:madeCells (Value.agg qZ5).cells (3 * 5)=#[.int .i64 0,.slice none 0 0,.bool false,.slice none 0 0,.slice none 0 0,.int .i64 0,.slice none 0 0,.bool false,.slice none 0 0,.slice none 0 0,.int .i64 0,.slice none 0 0,.bool false,.slice none 0 0,.slice none 0 0]:=by kernel_rfl
 rw [hmd]
 simp (maxSteps:=1000000)(disch:=(first|omega|(simp only [qI,qJ,qK]<;>omega)|exact qL _)) only [go_sem,↓reduceIte,n0,reduceCtorEq,n1,n2,n3,n4,n5,i0,i1,i2,i3,i4,i5,i6,i7]
 repeat ((first|refine qA rfl ?_|apply qB|refine qC rfl ?_|apply qD|apply qE|apply qF|apply qG|apply qH);try simp (maxSteps:=1000000)(disch:=(first|omega|(simp only [qI,qJ,qK]<;>omega)|exact qL _)) only [go_sem,↓reduceIte,n0,reduceCtorEq,n1,n2,n3,n4,n5,i0,i1,i2,i3,i4,i5,i6,i7])
 have hE1:Ext w (wr (((w.alloc (.cells qZ5 37)).alloc (.cells #[.int .i64 0,.slice none 0 0,.bool false,.slice none 0 0,.slice none 0 0,.int .i64 0,.slice none 0 0,.bool false,.slice none 0 0,.slice none 0 0,.int .i64 0,.slice none 0 0,.bool false,.slice none 0 0,.slice none 0 0] 37)).alloc (.cells qZ5 37)) (w.heap.size+2) 0 [.int .i64 0,.slice none 0 0,.bool false,.slice (some ⟨w.heap.size+1,0,none⟩) 3 3,.slice none 0 0]):=(Upd.alloc (Upd.alloc (Upd.alloc (Upd.refl _ _) _) _) _).wr _ _ (.inl (by omega))
 have hz1:(wr (((w.alloc (.cells qZ5 37)).alloc (.cells #[.int .i64 0,.slice none 0 0,.bool false,.slice none 0 0,.slice none 0 0,.int .i64 0,.slice none 0 0,.bool false,.slice none 0 0,.slice none 0 0,.int .i64 0,.slice none 0 0,.bool false,.slice none 0 0,.slice none 0 0] 37)).alloc (.cells qZ5 37)) (w.heap.size+2) 0 [.int .i64 0,.slice none 0 0,.bool false,.slice (some ⟨w.heap.size+1,0,none⟩) 3 3,.slice none 0 0]).heap.size=w.heap.size+3:=by simp only [size_wr,World.size_alloc]
 have hl1:blk (wr (((w.alloc (.cells qZ5 37)).alloc (.cells #[.int .i64 0,.slice none 0 0,.bool false,.slice none 0 0,.slice none 0 0,.int .i64 0,.slice none 0 0,.bool false,.slice none 0 0,.slice none 0 0,.int .i64 0,.slice none 0 0,.bool false,.slice none 0 0,.slice none 0 0] 37)).alloc (.cells qZ5 37)) (w.heap.size+2) 0 [.int .i64 0,.slice none 0 0,.bool false,.slice (some ⟨w.heap.size+1,0,none⟩) 3 3,.slice none 0 0]) (w.heap.size+1)=some (#[.int .i64 0,.slice none 0 0,.bool false,.slice none 0 0,.slice none 0 0,.int .i64 0,.slice none 0 0,.bool false,.slice none 0 0,.slice none 0 0,.int .i64 0,.slice none 0 0,.bool false,.slice none 0 0,.slice none 0 0],37,(0,0)):=by simp (maxSteps:=1000000)(disch:=(first|omega|(simp only [qI,qJ,qK]<;>omega)|exact qL _)) only [go_sem,↓reduceIte,n0,reduceCtorEq,n1,n2,n3,n4,n5,i0,i1,i2,i3,i4,i5,i6,i7]
 have ht1:blk (wr (((w.alloc (.cells qZ5 37)).alloc (.cells #[.int .i64 0,.slice none 0 0,.bool false,.slice none 0 0,.slice none 0 0,.int .i64 0,.slice none 0 0,.bool false,.slice none 0 0,.slice none 0 0,.int .i64 0,.slice none 0 0,.bool false,.slice none 0 0,.slice none 0 0] 37)).alloc (.cells qZ5 37)) (w.heap.size+2) 0 [.int .i64 0,.slice none 0 0,.bool false,.slice (some ⟨w.heap.size+1,0,none⟩) 3 3,.slice none 0 0]) (w.heap.size+2)=some (#[.int .i64 0,.slice none 0 0,.bool false,.slice (some ⟨w.heap.size+1,0,none⟩) 3 3,.slice none 0 0],37,(0,0)):=by simp (maxSteps:=1000000)(disch:=(first|omega|(simp only [qI,qJ,qK]<;>omega)|exact qL _)) only [go_sem,↓reduceIte,n0,reduceCtorEq,n1,n2,n3,n4,n5,i0,i1,i2,i3,i4,i5,i6,i7]
 have hr1:blk (wr (((w.alloc (.cells qZ5 37)).alloc (.cells #[.int .i64 0,.slice none 0 0,.bool false,.slice none 0 0,.slice none 0 0,.int .i64 0,.slice none 0 0,.bool false,.slice none 0 0,.slice none 0 0,.int .i64 0,.slice none 0 0,.bool false,.slice none 0 0,.slice none 0 0] 37)).alloc (.cells qZ5 37)) (w.heap.size+2) 0 [.int .i64 0,.slice none 0 0,.bool false,.slice (some ⟨w.heap.size+1,0,none⟩) 3 3,.slice none 0 0]) w.heap.size=some (qZ5,37,(0,0)):=by simp (maxSteps:=1000000)(disch:=(first|omega|(simp only [qI,qJ,qK]<;>omega)|exact qL _)) only [go_sem,↓reduceIte,n0,reduceCtorEq,n1,n2,n3,n4,n5,i0,i1,i2,i3,i4,i5,i6,i7]
 obtain ⟨w1,hw1⟩:∃ y,y=(wr (((w.alloc (.cells qZ5 37)).alloc (.cells #[.int .i64 0,.slice none 0 0,.bool false,.slice none 0 0,.slice none 0 0,.int .i64 0,.slice none 0 0,.bool false,.slice none 0 0,.slice none 0 0,.int .i64 0,.slice none 0 0,.bool false,.slice none 0 0,.slice none 0 0] 37)).alloc (.cells qZ5 37)) (w.heap.size+2) 0 [.int .i64 0,.slice none 0 0,.bool false,.slice (some ⟨w.heap.size+1,0,none⟩) 3 3,.slice none 0 0]):=⟨_,rfl⟩
 rw [← hw1] at hE1 hz1 hl1 ht1 hr1
 rw [← hw1]
 clear hw1
 have hU1:Upd (fun b=>b=w.heap.size+1∨b=w.heap.size+2) w1 w1:=Upd.refl _ _
 have hb1:=hE1.blk_some hb id
 repeat ((first|refine qA rfl ?_|apply qB|refine qC rfl ?_|apply qD|apply qE|apply qF|apply qG|apply qH);try simp (maxSteps:=1000000)(disch:=(first|omega|(simp only [qI,qJ,qK]<;>omega)|exact qL _)) only [go_sem,↓reduceIte,n0,reduceCtorEq,n1,n2,n3,n4,n5,i0,i1,i2,i3,i4,i5,i6,i7,hb1,hl1,ht1,hq0,hq1,hq2,hq3])
 refine W.drawR (.take 0 (.take 1 (.take 2 (.take 3 (.take 4 (.take 5 (.only 6 (.only 7 (.take 8 (.last 9)))))))))) (NoB) mixed (by kernel_rfl) ?_
 try simp (maxSteps:=1000000)(disch:=(first|omega|(simp only [qI,qJ,qK]<;>omega)|exact qL _)) only [go_sem,↓reduceIte,n0,reduceCtorEq,n1,n2,n3,n4,n5,i0,i1,i2,i3,i4,i5,i6,i7,hb1,hl1,ht1,hq0,hq1,hq2,hq3]
 refine wp_octets (S:=9) (T:=22) (E:=5) (s:=(t.at 0).s) (by kernel_rfl) (by kernel_rfl) (by kernel_rfl) (by first|rfl|simp (maxSteps:=1000000)(disch:=(first|omega|(simp only [qI,qJ,qK]<;>omega)|exact qL _)) only [go_sem,↓reduceIte,n0,reduceCtorEq,n1,n2,n3,n4,n5,i0,i1,i2,i3,i4,i5,i6,i7,hb1,hl1,ht1,hq0,hq1,hq2,hq3]) ?_
 intro a2 k2 w2 hB2 jI
 have hP2:Upd NoB w1.drew w2:=(Upd.refl _ _).trans (jI.mono fun _ h=>h.elim)
 have rR:=jI.size
 try simp only [size_drew] at rR
 refine ⟨hP2,?_⟩
 try simp (maxSteps:=1000000)(disch:=(first|omega|(simp only [qI,qJ,qK]<;>omega)|exact qL _)) only [go_sem,↓reduceIte,n0,reduceCtorEq,n1,n2,n3,n4,n5,i0,i1,i2,i3,i4,i5,i6,i7,hb1,hl1,ht1,hq0,hq1,hq2,hq3]
 refine ⟨hP2,?_⟩
 have gO:=hP2.blk_some (show blk w1.drew (w.heap.size+1)=_ from hl1) id
 have hx3:Upd (fun b=>b=w.heap.size+1∨b=w.heap.size+2) w1 w2:=((Upd.refl _ _).drew).trans (hP2.mono fun _ h=>h.elim)
 try simp (maxSteps:=1000000)(disch:=(first|omega|(simp only [qI,qJ,qK]<;>omega)|exact qL _)) only [go_sem,↓reduceIte,n0,reduceCtorEq,n1,n2,n3,n4,n5,i0,i1,i2,i3,i4,i5,i6,i7,gO]
 generalize hw3:wr w2 (w.heap.size+1) 0 [.int .i64 0,.slice (some a2) ((t.at 0).s).length k2,.bool false,.slice none 0 0,.slice none 0 0] = w3
 have hl3:blk w3 (w.heap.size+1)=some (#[.int .i64 0,.slice (some a2) ((t.at 0).s).length k2,.bool false,.slice none 0 0,.slice none 0 0,.int .i64 0,.slice none 0 0,.bool false,.slice none 0 0,.slice none 0 0,.int .i64 0,.slice none 0 0,.bool false,.slice none 0 0,.slice none 0 0],37,(0,0)):=by rw [← hw3,blk_wr_eq,gO];rfl
 have hv3:Upd (fun b=>b=w.heap.size+1∨b=w.heap.size+2) w2 w3:=by rw [← hw3];exact (Upd.refl _ _).wr _ _ (.inr (.inl rfl))
 have hV3:Upd (fun b=>b=w.heap.size+1∨b=w.heap.size+2) w1 w3:=hx3.trans hv3
 have hU3:Upd (fun b=>b=w.heap.size+1∨b=w.heap.size+2) w1 w3:=hU1.trans hV3
 have hz3:=hU3.size
 have hX3:Ext w w3:=hE1.more hU3 fun b hb h=>by omega
 have hb3:=hX3.blk_some hb id
 have ht3:blk w3 (w.heap.size+2)=some (#[.int .i64 0,.slice none 0 0,.bool false,.slice (some ⟨w.heap.size+1,0,none⟩) 3 3,.slice none 0 0],37,(0,0)):=by
  rw [← hw3,blk_wr_ne (by omega)]
  exact hP2.blk_some (show blk w1.drew (w.heap.size+2)=_ from ht1) id
 clear hw3
 have hf0:TreeC (fun b=>w1.heap.size≤b) w3 (.oct false (t.at 0).s) [.int .i64 0,.slice (some a2) ((t.at 0).s).length k2,.bool false,.slice none 0 0,.slice none 0 0]:=(TreeC.keep (hv3.keeps fun b hb hk e=>by have hk':w1.heap.size≤b:=hk;omega) (TreeC.intro rfl (hB2.weaken fun b _ hk=>by have hk':w1.drew.heap.size≤b:=hk;(try simp only [size_drew] at hk');omega) (treesN _ _) (tagsN _ _):TreeC (fun b=>w1.heap.size≤b) w2 (.oct false (t.at 0).s) [.int .i64 0,.slice (some a2) ((t.at 0).s).length k2,.bool false,.slice none 0 0,.slice none 0 0]))
 repeat ((first|refine qA rfl ?_|apply qB|refine qC rfl ?_|apply qD|apply qE|apply qF|apply qG|apply qH);try simp (maxSteps:=1000000)(disch:=(first|omega|(simp only [qI,qJ,qK]<;>omega)|exact qL _)) only [go_sem,↓reduceIte,n0,reduceCtorEq,n1,n2,n3,n4,n5,i0,i1,i2,i3,i4,i5,i6,i7,hb3,hl3,ht3,hq0,hq1,hq2,hq3])
 refine W.drawR (.take 0 (.take 1 (.take 2 (.take 3 (.take 4 (.take 5 (.take 6 (.only 7 (.take 8 (.last 9)))))))))) (NoB) mixed (by kernel_rfl) ?_
 try simp (maxSteps:=1000000)(disch:=(first|omega|(simp only [qI,qJ,qK]<;>omega)|exact qL _)) only [go_sem,↓reduceIte,n0,reduceCtorEq,n1,n2,n3,n4,n5,i0,i1,i2,i3,i4,i5,i6,i7,hb3,hl3,ht3,hq0,hq1,hq2,hq3,tl16]
 refine ⟨Upd.refl _ _,?_⟩
 have kO:blk w3.drew (w.heap.size+1)=_:=hl3
 have hx4:Upd (fun b=>b=w.heap.size+1∨b=w.heap.size+2) w3 w3.drew:=(Upd.refl _ _).drew
 generalize hw4:wr w3.drew (w.heap.size+1) 5 [.int .i64 (IntKind.i16.wrap (t.at 1).n),.slice none 0 0,.bool false,.slice none 0 0,.slice none 0 0] = w4
 have hl4:blk w4 (w.heap.size+1)=some (#[.int .i64 0,.slice (some a2) ((t.at 0).s).length k2,.bool false,.slice none 0 0,.slice none 0 0,.int .i64 (IntKind.i16.wrap (t.at 1).n),.slice none 0 0,.bool false,.slice none 0 0,.slice none 0 0,.int .i64 0,.slice none 0 0,.bool false,.slice none 0 0,.slice none 0 0],37,(0,0)):=by rw [← hw4,blk_wr_eq,kO];rfl
 have hv4:Upd (fun b=>b=w.heap.size+1∨b=w.heap.size+2) w3.drew w4:=by rw [← hw4];exact (Upd.refl _ _).wr _ _ (.inr (.inl rfl))
 have hV4:Upd (fun b=>b=w.heap.size+1∨b=w.heap.size+2) w3 w4:=hx4.trans hv4
 have hU4:Upd (fun b=>b=w.heap.size+1∨b=w.heap.size+2) w1 w4:=hU3.trans hV4
 have hz4:=hU4.size
 have hX4:Ext w w4:=hE1.more hU4 fun b hb h=>by omega
 have hb4:=hX4.blk_some hb id
 have ht4:blk w4 (w.heap.size+2)=some (#[.int .i64 0,.slice none 0 0,.bool false,.slice (some ⟨w.heap.size+1,0,none⟩) 3 3,.slice none 0 0],37,(0,0)):=by
  rw [← hw4,blk_wr_ne (by omega)]
  exact ht3
 clear hw4
 have hf1:TreeC (fun b=>w1.heap.size≤b) w4 (.num (IntKind.i16.wrap (t.at 1).n)) [.int .i64 (IntKind.i16.wrap (t.at 1).n),.slice none 0 0,.bool false,.slice none 0 0,.slice none 0 0]:=(TreeC.keep (hv4.keeps fun b hb hk e=>by have hk':w1.heap.size≤b:=hk;omega) (TreeC.intro (tl16 _) (BytesV.nil _ _) (treesN _ _) (tagsN _ _):TreeC (fun b=>w1.heap.size≤b) w3.drew (.num (IntKind.i16.wrap (t.at 1).n)) [.int .i64 (IntKind.i16.wrap (t.at 1).n),.slice none 0 0,.bool false,.slice none 0 0,.slice none 0 0]))
 repeat ((first|refine qA rfl ?_|apply qB|refine qC rfl ?_|apply qD|apply qE|apply qF|apply qG|apply qH);try simp (maxSteps:=1000000)(disch:=(first|omega|(simp only [qI,qJ,qK]<;>omega)|exact qL _)) only [go_sem,↓reduceIte,n0,reduceCtorEq,n1,n2,n3,n4,n5,i0,i1,i2,i3,i4,i5,i6,i7,hb4,hl4,ht4,hq0,hq1,hq2,hq3])
 refine W.drawR (.take 0 (.take 1 (.take 2 (.take 3 (.take 4 (.take 5 (.take 6 (.only 7 (.take 8 (.last 9)))))))))) (NoB) mixed (by kernel_rfl) ?_
 try simp (maxSteps:=1000000)(disch:=(first|omega|(simp only [qI,qJ,qK]<;>omega)|exact qL _)) only [go_sem,↓reduceIte,n0,reduceCtorEq,n1,n2,n3,n4,n5,i0,i1,i2,i3,i4,i5,i6,i7,hb4,hl4,ht4,hq0,hq1,hq2,hq3,tl16]
 refine ⟨Upd.refl _ _,?_⟩
 have pR:blk w4.drew (w.heap.size+1)=_:=hl4
 have hx5:Upd (fun b=>b=w.heap.size+1∨b=w.heap.size+2) w4 w4.drew:=(Upd.refl _ _).drew
 generalize hw5:wr w4.drew (w.heap.size+1) 10 [.int .i64 (IntKind.i16.wrap (t.at 2).n),.slice none 0 0,.bool false,.slice none 0 0,.slice none 0 0] = w5
 have hl5:blk w5 (w.heap.size+1)=some (#[.int .i64 0,.slice (some a2) ((t.at 0).s).length k2,.bool false,.slice none 0 0,.slice none 0 0,.int .i64 (IntKind.i16.wrap (t.at 1).n),.slice none 0 0,.bool false,.slice none 0 0,.slice none 0 0,.int .i64 (IntKind.i16.wrap (t.at 2).n),.slice none 0 0,.bool false,.slice none 0 0,.slice none 0 0],37,(0,0)):=by rw [← hw5,blk_wr_eq,pR];rfl
 have hv5:Upd (fun b=>b=w.heap.size+1∨b=w.heap.size+2) w4.drew w5:=by rw [← hw5];exact (Upd.refl _ _).wr _ _ (.inr (.inl rfl))
 have hV5:Upd (fun b=>b=w.heap.size+1∨b=w.heap.size+2) w4 w5:=hx5.trans hv5
 have hU5:Upd (fun b=>b=w.heap.size+1∨b=w.heap.size+2) w1 w5:=hU4.trans hV5
 have hz5:=hU5.size
 have hX5:Ext w w5:=hE1.more hU5 fun b hb h=>by omega
 have hb5:=hX5.blk_some hb id
 have ht5:blk w5 (w.heap.size+2)=some (#[.int .i64 0,.slice none 0 0,.bool false,.slice (some ⟨w.heap.size+1,0,none⟩) 3 3,.slice none 0 0],37,(0,0)):=by
  rw [← hw5,blk_wr_ne (by omega)]
  exact ht4
 clear hw5
 have hf2:TreeC (fun b=>w1.heap.size≤b) w5 (.num (IntKind.i16.wrap (t.at 2).n)) [.int .i64 (IntKind.i16.wrap (t.at 2).n),.slice none 0 0,.bool false,.slice none 0 0,.slice none 0 0]:=(TreeC.keep (hv5.keeps fun b hb hk e=>by have hk':w1.heap.size≤b:=hk;omega) (TreeC.intro (tl16 _) (BytesV.nil _ _) (treesN _ _) (tagsN _ _):TreeC (fun b=>w1.heap.size≤b) w4.drew (.num (IntKind.i16.wrap (t.at 2).n)) [.int .i64 (IntKind.i16.wrap (t.at 2).n),.slice none 0 0,.bool false,.slice none 0 0,.slice none 0 0]))
 repeat ((first|refine qA rfl ?_|apply qB|refine qC rfl ?_|apply qD|apply qE|apply qF|apply qG|apply qH);try simp (maxSteps:=1000000)(disch:=(first|omega|(simp only [qI,qJ,qK]<;>omega)|exact qL _)) only [go_sem,↓reduceIte,n0,reduceCtorEq,n1,n2,n3,n4,n5,i0,i1,i2,i3,i4,i5,i6,i7,hb5,hl5,ht5,hq0,hq1,hq2,hq3])
 refine (EachG_fn (ok:=fun b=>b < w.heap.size) 98 ca_98 #[.pointer (some ⟨w.heap.size+2,0,none⟩)] w5 (tb:=b) (to:=o+3) hb5 hq3 ((hT.weaken fun b hb _=>hb).keep (hX5.keeps _)) (sortT_perm _) (sortT_lt hgu.2.1) (by rw [(sortT_perm t.u).length_eq];exact hgu.1)
  (fun b=>b=w.heap.size+2) (by omega) (fun b hb hk e=>by have hk':b < w.heap.size:=hk;omega) (fun b hb=>by have:=blk_lt ht5;omega)
  (fun wl done w'=>∃ v,blk w' (w.heap.size+2)=some (#[.int .i64 0,.slice none 0 0,.bool false,.slice (some ⟨w.heap.size+1,0,none⟩) 3 3,v],37,(0,0))∧GrowU (fun b=>w1.heap.size≤b) wl.heap.size (w.heap.size+2) w' 69 v done) (fun wl hE=>⟨_,hE.blk_some ht5 id,GrowU.nil _ _ _ _ _⟩) ?_).mono ?_
 ·rintro wl hE done y vv wc hpre ⟨v,hbv,hg⟩ hU hvv hy
  have hz':=hE.size
  have hzu:=hU.size
  have htl:=blk_lt ht5
  have hpl:=hpre.length_le
  simp only [List.length_append,List.length_cons,List.length_nil] at hpl
  rw [(sortT_perm t.u).length_eq] at hpl
  have hlu:=hgu.1
  have hmy:y∈t.u:=(sortT_perm t.u).mem_iff.1 (hpre.subset (by simp))
  refine (tagclX1_fn (ok:=fun b=>b < w.heap.size) _ _ _ _ v done y vv wc hbv hg hzu (by omega) (hvv.keep ((hE.mono (fun _ h=>h.elim) |>.trans hU:Upd (fun b=>b=w.heap.size+2) w5 wc).keeps fun b _ hk e=>by have hk':b < w.heap.size:=hk;omega)) hy (hgu.2.2 y hmy) (by omega) (fun b hb=>by have:=hz5;omega)).mono ?_
  rintro _ w2' ⟨⟨v',h1,h2⟩,h3⟩
  exact ⟨⟨v',h1,h2⟩,hU.trans' h3 fun b hb h=>h.elim id fun h=>by omega⟩
 rintro _ w6 ⟨wl,hEl,⟨v,ht6,hgU⟩,hUe⟩
 have hzl:=hEl.size
 obtain ⟨aU,kU,hvs,_⟩:=hgU.shape
 subst hvs
 have hV6:Upd (fun b=>b=w.heap.size+1∨b=w.heap.size+2) w5 w6:=(hEl.mono fun _ h=>h.elim).trans (hUe.mono fun _ h=>.inr h)
 have hU6:Upd (fun b=>b=w.heap.size+1∨b=w.heap.size+2) w1 w6:=hU5.trans hV6
 have hz6:=hU6.size
 have hX6:Ext w w6:=hE1.more hU6 fun b hb h=>by omega
 have hb6:=hX6.blk_some hb id
 have hl6:=(((hEl.mono fun _ h=>h.elim).trans hUe:Upd (fun b=>b=w.heap.size+2) w5 w6)).blk_some hl5 (by omega)
 have hTU:=hgU.tags (ok':=(fun b=>w1.heap.size≤b)) (fun _ _ h=>h) (fun b hb=>by have:=hz5;omega)
 repeat ((first|refine qA rfl ?_|apply qB|refine qC rfl ?_|apply qD|apply qE|apply qF|apply qG|apply qH);try simp (maxSteps:=1000000)(disch:=(first|omega|(simp only [qI,qJ,qK]<;>omega)|exact qL _)) only [go_sem,↓reduceIte,n0,reduceCtorEq,n1,n2,n3,n4,n5,i0,i1,i2,i3,i4,i5,i6,i7,hb6,hl6,ht6,hq0,hq1,hq2,hq3,cellsAt_five])
 refine (sorted_fn _ _ w6 hTU (sortT_lt hgu.2.1) (by rw [(sortT_perm t.u).length_eq];exact hgu.1)).mono ?_
 rintro _ w7 hEs
 have hV7:Upd (fun b=>b=w.heap.size+1∨b=w.heap.size+2) w6 w7:=hEs.mono fun _ h=>h.elim
 have hU7:Upd (fun b=>b=w.heap.size+1∨b=w.heap.size+2) w1 w7:=hU6.trans hV7
 have hz7:=hU7.size
 have hX7:Ext w w7:=hE1.more hU7 fun b hb h=>by omega
 have hb7:=hX7.blk_some hb id
 have hl7:=hEs.blk_some hl6 id
 have ht7:=hEs.blk_some ht6 id
 have hr7:=(hU7.blk_some hr1 (by omega))
 have hC_7:Upd (fun b=>b=w.heap.size+1∨b=w.heap.size+2) w7 w7:=Upd.refl _ _
 have hC_6:Upd (fun b=>b=w.heap.size+1∨b=w.heap.size+2) w6 w7:=hV7.trans hC_7
 have hC_5:Upd (fun b=>b=w.heap.size+1∨b=w.heap.size+2) w5 w7:=hV6.trans hC_6
 have hC_4:Upd (fun b=>b=w.heap.size+1∨b=w.heap.size+2) w4 w7:=hV5.trans hC_5
 have hC_3:Upd (fun b=>b=w.heap.size+1∨b=w.heap.size+2) w3 w7:=hV4.trans hC_4
 have hC_1:Upd (fun b=>b=w.heap.size+1∨b=w.heap.size+2) w1 w7:=hV3.trans hC_3
 have hF0:=TreeC.keep (hC_3.keeps fun b hb hk e=>by have hk':w1.heap.size≤b:=hk;omega) hf0
 have hF1:=TreeC.keep (hC_4.keeps fun b hb hk e=>by have hk':w1.heap.size≤b:=hk;omega) hf1
 have hF2:=TreeC.keep (hC_5.keeps fun b hb hk e=>by have hk':w1.heap.size≤b:=hk;omega) hf2
 replace hF0:TreeC (fun b=>w1.heap.size≤b) w7 (tlF (tlP d) fX1_0 (t.at 0)) [.int .i64 0,.slice (some a2) ((t.at 0).s).length k2,.bool false,.slice none 0 0,.slice none 0 0]:=hF0
 replace hF1:TreeC (fun b=>w1.heap.size≤b) w7 (tlF (tlP d) fX1_1 (t.at 1)) [.int .i64 (IntKind.i16.wrap (t.at 1).n),.slice none 0 0,.bool false,.slice none 0 0,.slice none 0 0]:=hF1
 replace hF2:TreeC (fun b=>w1.heap.size≤b) w7 (tlF (tlP d) fX1_2 (t.at 2)) [.int .i64 (IntKind.i16.wrap (t.at 2).n),.slice none 0 0,.bool false,.slice none 0 0,.slice none 0 0]:=hF2
 have hTL:TreesV (fun b=>(fun b=>w1.heap.size≤b) b∨b=w.heap.size+1) w7 (.slice (some ⟨w.heap.size+1,0,none⟩) 3 3) [tlF (tlP d) fX1_0 (t.at 0),tlF (tlP d) fX1_1 (t.at 1),tlF (tlP d) fX1_2 (t.at 2)]:=by
  refine ⟨[[.int .i64 0,.slice (some a2) ((t.at 0).s).length k2,.bool false,.slice none 0 0,.slice none 0 0],[.int .i64 (IntKind.i16.wrap (t.at 1).n),.slice none 0 0,.bool false,.slice none 0 0,.slice none 0 0],[.int .i64 (IntKind.i16.wrap (t.at 2).n),.slice none 0 0,.bool false,.slice none 0 0,.slice none 0 0]],⟨_,3,rfl,Nat.le_refl _,(by intro cs hm;simp only [List.mem_cons,List.not_mem_nil,or_false] at hm;rcases hm with rfl|rfl|rfl<;>rfl),.inr ⟨_,rfl,rfl,.inr rfl,_,hl7,fun i hi=>by rw [Nat.zero_add,List.getElem?_toArray];rfl⟩⟩,rfl,fun i h1 h2 => ?_⟩
  match i,h1 with
  | 0,_=>exact TreeC.weaken (fun b _ hk=>.inl hk) hF0
  | 1,_=>exact TreeC.weaken (fun b _ hk=>.inl hk) hF1
  | 2,_=>exact TreeC.weaken (fun b _ hk=>.inl hk) hF2
 repeat ((first|refine qA rfl ?_|apply qB|refine qC rfl ?_|apply qD|apply qE|apply qF|apply qG|apply qH);try simp (maxSteps:=1000000)(disch:=(first|omega|(simp only [qI,qJ,qK]<;>omega)|exact qL _)) only [go_sem,↓reduceIte,n0,reduceCtorEq,n1,n2,n3,n4,n5,i0,i1,i2,i3,i4,i5,i6,i7,hb7,hl7,ht7,hq0,hq1,hq2,hq3,hr7,cellsAt_five])
 refine ⟨⟨_,rfl,?_⟩,hX7.wr _ _ (.inl (Nat.le_refl _))⟩
 have hUr:Upd (fun b=>b=w.heap.size) w7 (wr w7 w.heap.size 0 [.int .i64 0,.slice none 0 0,.bool false,.slice (some ⟨w.heap.size+1,0,none⟩) 3 3,.slice aU (sortT t.u).length kU]):=(Upd.refl _ _).wr _ _ (.inr rfl)
 have gE:=hTU.keep (hEs.keeps _)
 exact TreeC.intro rfl (BytesV.nil _ _) ((hTL.keep (hUr.keeps fun b _ hk e=>by rcases hk with hk|hk<;>omega)).weaken fun b _ hk=>by rcases hk with hk|hk<;>omega) ((gE.keep (hUr.keeps fun b _ hk e=>by omega)).weaken fun b _ hk=>by omega)

theorem tagclQ_fn {ok OK:Blocks} {B tb:Nat} (c0 c1 c2 c3 v:Value) (done:List TagD) (y:TagD) (vv:Value) (w:World) (hbt:blk w tb=some (#[c0,c1,c2,c3,v],37,(0,0))) (hg:GrowU OK B tb w 69 v done) (hB:B≤w.heap.size) (htb:tb < B) (hvv:BytesV ok w vv y.2) (hy:y.1 < 2 ^ 32) (hyl:y.2.length≤32767) (hdl:done.length≤32767) (hOK:∀ b,B≤b→OK b) :
  Fn Tryz.prog 65 #[.int .u32 y.1,vv,.pointer (some ⟨tb,0,none⟩)] w fun _ w'=>(∃ v',blk w' tb=some (#[c0,c1,c2,c3,v'],37,(0,0))∧GrowU OK B tb w' 69 v' (done++[y]))∧Upd (fun b=>b=tb∨B≤b) w w':=by
 have htl:=blk_lt hbt
 refine fn_of_W Tryz.func65 rfl Tryz.results65 Tryz.ntmps65 rfl ?_
 repeat ((first|refine qA rfl ?_|apply qB|refine qC rfl ?_|apply qD|apply qE|apply qF|apply qG|apply qH);try simp (maxSteps:=1000000)(disch:=(first|omega|(simp only [qI,qJ,qK]<;>omega)|exact qL _)) only [go_sem,↓reduceIte,n0,reduceCtorEq,n1,n2,n3,n4,n5,i0,i1,i2,i3,i4,i5,i6,i7])
 obtain ⟨av,kv,rfl,_⟩:=hg.shape
 have hnb:∀ b,b < B∨w.heap.size≤b→¬ ownB (.slice av done.length kv) b:=fun b hb h=>by
  have:=hg.above h
  have:=hg.below h
  omega
 refine W.drawR (.take 0 (.take 1 (.take 2 (.take 3 (.only 4 (.only 5 (.only 6 (.only 7 (.take 8 (.last 9)))))))))) (ownB (.slice av done.length kv)) mixed (by kernel_rfl) ?_
 simp (maxSteps:=1000000)(disch:=(first|omega|(simp only [qI,qJ,qK]<;>omega)|exact qL _|(refine hnb _ ?_;first|omega|(simp only [World.size_alloc,size_wr,size_drew]<;>omega)))) only [go_sem,↓reduceIte,n0,reduceCtorEq,n1,n2,n3,n4,n5,i0,i1,i2,i3,i4,i5,i6,i7,hbt]
 refine wp_copyN ap_22_22 (ok:=ok) (s:=y.2) (v:=vv) (by first|rfl|simp (maxSteps:=1000000)(disch:=(first|omega|(simp only [qI,qJ,qK]<;>omega)|exact qL _)) only [go_sem,↓reduceIte,n0,reduceCtorEq,n1,n2,n3,n4,n5,i0,i1,i2,i3,i4,i5,i6,i7]) (by first|rfl|simp (maxSteps:=1000000)(disch:=(first|omega|(simp only [qI,qJ,qK]<;>omega)|exact qL _)) only [go_sem,↓reduceIte,n0,reduceCtorEq,n1,n2,n3,n4,n5,i0,i1,i2,i3,i4,i5,i6,i7]) (hvv.keep (Ext.keeps ((Upd.refl _ _).drew) _)) (by omega) ?_
 intro v1 w1 ho1 hE1 hf1
 obtain ⟨a1,k1,rfl,_⟩:=ho1.shape
 have hB1:=Own.bytes (ok:=fun b=>w.heap.size≤b) ho1 fun b hb=>hf1 b hb
 have hP1:Upd (ownB (.slice av done.length kv)) w.drew w1:=hE1.mono fun _ h=>h.elim
 have hs1:=hE1.size
 simp only [size_drew] at hs1
 refine ⟨hP1,?_⟩
 simp (maxSteps:=1000000)(disch:=(first|omega|(simp only [qI,qJ,qK]<;>omega)|exact qL _|(refine hnb _ ?_;first|omega|(simp only [World.size_alloc,size_wr,size_drew]<;>omega)))) only [go_sem,↓reduceIte,n0,reduceCtorEq,n1,n2,n3,n4,n5,i0,i1,i2,i3,i4,i5,i6,i7,hbt]
 refine ⟨hP1,?_⟩
 have hP2:Upd (ownB (.slice av done.length kv)) w.drew (w1.alloc (.cells #[.int .u32 y.1,.slice a1 y.2.length k1] 69)):=hP1.alloc _
 have hn2:blk (w1.alloc (.cells #[.int .u32 y.1,.slice a1 y.2.length k1] 69)) w1.heap.size=some (#[.int .u32 y.1,.slice a1 y.2.length k1],69,(0,0)):=blk_alloc_new rfl
 have hs2:(w1.alloc (.cells #[.int .u32 y.1,.slice a1 y.2.length k1] 69)).heap.size=w1.heap.size+1:=World.size_alloc _ _
 have hE2:Ext w1 (w1.alloc (.cells #[.int .u32 y.1,.slice a1 y.2.length k1] 69)):=Upd.alloc (Upd.refl _ _) _
 refine ⟨hP2,?_⟩
 try simp only [List.append_nil]
 generalize (w1.alloc (.cells #[.int .u32 y.1,.slice a1 y.2.length k1] 69))=w2 at *
 have hEw:Ext w w2:=(((Upd.refl _ _).drew).trans hE1).trans hE2
 obtain ⟨css,hown,hall⟩:=(hg.ext hEw).ex
 have hcl:=hall.1
 have hx2:TagC (fun b=>OK b∧b≠tb∧¬ ownB (.slice av done.length kv) b) w2 y [.int .u32 y.1,.slice a1 y.2.length k1]:=⟨_,rfl,(hB1.keep (hE2.keeps _)).weaken fun b _ hk=>⟨hOK b (by omega),by omega,hnb b (.inr hk)⟩,hy⟩
 refine wp_append ap_35_35 (m:=1) (news:=[.int .u32 y.1,.slice a1 y.2.length k1]) (n:=css.length) (cs:=css.flatten) (v:=.slice av done.length kv) ?_ rfl hown.1 hall.flat_cells (Src.blk (fr:=(0,0)) (T:=69) hn2 rfl rfl) ?_ ?_ ?_
 ·first|rfl|simp (maxSteps:=1000000)(disch:=(first|omega|(simp only [qI,qJ,qK]<;>omega)|exact qL _)) only [go_sem,↓reduceIte,n0,reduceCtorEq,n1,n2,n3,n4,n5,i0,i1,i2,i3,i4,i5,i6,i7]
 ·omega
 ·omega
 intro v' w3 ho hu hfr
 have hg3:=GrowU.snoc hown hall hx2 hu hfr ho
 obtain ⟨va,vc,hv',_⟩:=ho.shape
 subst hv'
 have hP3:=hP2.trans hu
 have hs3:=hu.size
 have bB:=hP3.blk_some (show blk w.drew tb=_ from hbt) (hnb _ (.inl htb))
 have hne:¬ ownB (.slice va (css.length+1) vc) tb:=fun h=>(hfr _ h).elim (hnb _ (.inl htb)) (fun h=>by omega)
 refine ⟨hP3,?_⟩
 simp (maxSteps:=1000000)(disch:=(first|omega|(simp only [qI,qJ,qK]<;>omega)|exact qL _|(refine hnb _ ?_;first|omega|(simp only [World.size_alloc,size_wr,size_drew]<;>omega)))) only [go_sem,↓reduceIte,n0,reduceCtorEq,n1,n2,n3,n4,n5,i0,i1,i2,i3,i4,i5,i6,i7,bB]
 repeat ((first|refine qA rfl ?_|apply qB|refine qC rfl ?_|apply qD|apply qE|apply qF|apply qG|apply qH);try simp (maxSteps:=1000000)(disch:=(first|omega|(simp only [qI,qJ,qK]<;>omega)|exact qL _)) only [go_sem,↓reduceIte,n0,reduceCtorEq,n1,n2,n3,n4,n5,i0,i1,i2,i3,i4,i5,i6,i7])
 refine ⟨⟨.slice va (css.length+1) vc,by first|(rw [blk_wr_eq,bB];rfl)|rfl|(rw [bB];rfl)|(rw [blk_wr_eq,bB]),hg3.upd ((Upd.refl _ _).wr _ _ (.inr rfl)) hne⟩,?_⟩
 refine Upd.wr ?_ _ _ (.inr (.inl rfl))
 exact (((Upd.refl (fun b=>b=tb∨B≤b) w).drew).trans (hP3.mono fun b h=>.inr (hg.above h)))

set_option maxHeartbeats 4000000 in
theorem tellQ_fn {d:Nat} {ok:Blocks} (t:Tree) (cs:List Value) (w:World) {b:Nat} {x:Blk} (hb:blk w b=some x) (hq:∀ k,k < 8→x.1[1+k]? = cs[k]?) (hR:RepS true (d+2) fs_Q ok w t cs) (hg:GoodP (d+2) fs_Q t) :
  Fn Tryz.prog 41 #[.pointer (some ⟨b,0,none⟩)] w fun r w'=>(∃ c,r = .agg c.toArray∧TreeC (fun b=>w.heap.size≤b) w' (tlP (d+2) fs_Q t) c)∧Ext w w':=by
 have hbl:=blk_lt hb
 obtain ⟨⟨gd0,gd1,gd2,gd3,gd4,gd5,gd6,-⟩,hgu⟩:=hg
 replace gd0:GoodF (GoodP (d+1)) fQ_0 (t.at 0):=gd0
 replace gd1:GoodF (GoodP (d+1)) fQ_1 (t.at 1):=gd1
 replace gd2:GoodF (GoodP (d+1)) fQ_2 (t.at 2):=gd2
 replace gd3:GoodF (GoodP (d+1)) fQ_3 (t.at 3):=gd3
 replace gd4:GoodF (GoodP (d+1)) fQ_4 (t.at 4):=gd4
 replace gd5:GoodF (GoodP (d+1)) fQ_5 (t.at 5):=gd5
 replace gd6:GoodF (GoodP (d+1)) fQ_6 (t.at 6):=gd6
 obtain ⟨cs0,q,hcs,hL,hT⟩:=hR.inv
 obtain ⟨c0,e0,rfl,h0,c1,e1,rfl,h1,c2,e2,rfl,h2,c3,e3,rfl,h3,c4,e4,rfl,h4,c5,e5,rfl,h5,c6,e6,rfl,h6,rfl⟩:=hL
 replace h0:RepF (RepS true (d+1)) (szS true (d+1)) fQ_0 ok w (t.at 0) c0:=h0
 replace h1:RepF (RepS true (d+1)) (szS true (d+1)) fQ_1 ok w (t.at 1) c1:=h1
 replace h2:RepF (RepS true (d+1)) (szS true (d+1)) fQ_2 ok w (t.at 2) c2:=h2
 replace h3:RepF (RepS true (d+1)) (szS true (d+1)) fQ_3 ok w (t.at 3) c3:=h3
 replace h4:RepF (RepS true (d+1)) (szS true (d+1)) fQ_4 ok w (t.at 4) c4:=h4
 replace h5:RepF (RepS true (d+1)) (szS true (d+1)) fQ_5 ok w (t.at 5) c5:=h5
 replace h6:RepF (RepS true (d+1)) (szS true (d+1)) fQ_6 ok w (t.at 6) c6:=h6
 obtain rfl:=(RepF_num (by decide)).1 h0
 obtain ⟨ab1,ac1,L1,rfl,hL1,BJ,hs1⟩:=RepF_listT rfl h1
 have vG:=gd1.listL rfl hL1
 obtain rfl:=(RepF_num (by decide)).1 h2
 obtain ⟨ab3,ac3,L3,rfl,hL3,BK,hs3⟩:=RepF_listT rfl h3
 have vH:=gd3.listL rfl hL3
 obtain rfl:=(RepF_num (by decide)).1 h4
 obtain ⟨ab5,ac5,L5,rfl,hL5,BL,hs5⟩:=RepF_listT rfl h5
 have vI:=gd5.listL rfl hL5
 obtain rfl:=(RepF_num (by decide)).1 h6
 obtain ⟨qm,rfl⟩:=hT.shape
 subst hcs
 have hq0:x.1[1]? = some (.int .i16 (IntKind.i16.wrap (t.at 0).n)):=hq 0 (by decide)
 have hq1:x.1[2]? = some (.slice ab1 L1.length ac1):=hq 1 (by decide)
 have hq2:x.1[3]? = some (.int .i32 (IntKind.i32.wrap (t.at 2).n)):=hq 2 (by decide)
 have hq3:x.1[4]? = some (.slice ab3 L3.length ac3):=hq 3 (by decide)
 have hq4:x.1[5]? = some (.int .i64 (t.at 4).n):=hq 4 (by decide)
 have hq5:x.1[6]? = some (.slice ab5 L5.length ac5):=hq 5 (by decide)
 have hq6:x.1[7]? = some (.bool (decide ((t.at 6).n % 2=1))):=hq 6 (by decide)
 have hq7:x.1[8]? = some (.map qm):=hq 7 (by decide)
 have BI:=(gd4.one (by decide)).1 rfl
 refine fn_of_W Tryz.func41 rfl Tryz.results41 Tryz.ntmps41 rfl ?_
 repeat ((first|refine qA rfl ?_|apply qB|refine qC rfl ?_|apply qD|apply qE|apply qF|apply qG|apply qH);try simp (maxSteps:=1000000)(disch:=(first|omega|(simp only [qI,qJ,qK]<;>omega)|exact qL _)) only [go_sem,↓reduceIte,n0,reduceCtorEq,n1,n2,n3,n4,n5,i0,i1,i2,i3,i4,i5,i6,i7])
 refine wp_make (T:=34) (E:=37) (size:=5) (bytes:=88) (z:=.agg qZ5) (l:=7) (c:=7) (kl:=.i64) (kc:=.i64) (by kernel_rfl) (by kernel_rfl) (by first|rfl|(simp (maxSteps:=1000000)(disch:=(first|omega|(simp only [qI,qJ,qK]<;>omega)|exact qL _)) only [go_sem,↓reduceIte,n0,reduceCtorEq,n1,n2,n3,n4,n5,i0,i1,i2,i3,i4,i5,i6,i7];rfl)) (by first|rfl|(simp (maxSteps:=1000000)(disch:=(first|omega|(simp only [qI,qJ,qK]<;>omega)|exact qL _)) only [go_sem,↓reduceIte,n0,reduceCtorEq,n1,n2,n3,n4,n5,i0,i1,i2,i3,i4,i5,i6,i7];rfl)) (by omega) (by omega) (by omega) ?_
 have hmd:madeCells (Value.agg qZ5).cells (7 * 5)=#[.int .i64 0,.slice none 0 0,.bool false,.slice none 0 0,.slice none 0 0,.int .i64 0,.slice none 0 0,.bool false,.slice none 0 0,.slice none 0 0,.int .i64 0,.slice none 0 0,.bool false,.slice none 0 0,.slice none 0 0,.int .i64 0,.slice none 0 0,.bool false,.slice none 0 0,.slice none 0 0,.int .i64 0,.slice none 0 0,.bool false,.slice none 0 0,.slice none 0 0,.int .i64 0,.slice none 0 0,.bool false,.slice none 0 0,.slice none 0 0,.int .i64 0,.slice none 0 0,.bool false,.slice none 0 0,.slice none 0 0]:=by kernel_rfl
 rw [hmd]
 simp (maxSteps:=1000000)(disch:=(first|omega|(simp only [qI,qJ,qK]<;>omega)|exact qL _)) only [go_sem,↓reduceIte,n0,reduceCtorEq,n1,n2,n3,n4,n5,i0,i1,i2,i3,i4,i5,i6,i7]
 repeat ((first|refine qA rfl ?_|apply qB|refine qC rfl ?_|apply qD|apply qE|apply qF|apply qG|apply qH);try simp (maxSteps:=1000000)(disch:=(first|omega|(simp only [qI,qJ,qK]<;>omega)|exact qL _)) only [go_sem,↓reduceIte,n0,reduceCtorEq,n1,n2,n3,n4,n5,i0,i1,i2,i3,i4,i5,i6,i7])
 have hE1:Ext w (wr (((w.alloc (.cells qZ5 37)).alloc (.cells #[.int .i64 0,.slice none 0 0,.bool false,.slice none 0 0,.slice none 0 0,.int .i64 0,.slice none 0 0,.bool false,.slice none 0 0,.slice none 0 0,.int .i64 0,.slice none 0 0,.bool false,.slice none 0 0,.slice none 0 0,.int .i64 0,.slice none 0 0,.bool false,.slice none 0 0,.slice none 0 0,.int .i64 0,.slice none 0 0,.bool false,.slice none 0 0,.slice none 0 0,.int .i64 0,.slice none 0 0,.bool false,.slice none 0 0,.slice none 0 0,.int .i64 0,.slice none 0 0,.bool false,.slice none 0 0,.slice none 0 0] 37)).alloc (.cells qZ5 37)) (w.heap.size+2) 0 [.int .i64 0,.slice none 0 0,.bool false,.slice (some ⟨w.heap.size+1,0,none⟩) 7 7,.slice none 0 0]):=(Upd.alloc (Upd.alloc (Upd.alloc (Upd.refl _ _) _) _) _).wr _ _ (.inl (by omega))
 have hz1:(wr (((w.alloc (.cells qZ5 37)).alloc (.cells #[.int .i64 0,.slice none 0 0,.bool false,.slice none 0 0,.slice none 0 0,.int .i64 0,.slice none 0 0,.bool false,.slice none 0 0,.slice none 0 0,.int .i64 0,.slice none 0 0,.bool false,.slice none 0 0,.slice none 0 0,.int .i64 0,.slice none 0 0,.bool false,.slice none 0 0,.slice none 0 0,.int .i64 0,.slice none 0 0,.bool false,.slice none 0 0,.slice none 0 0,.int .i64 0,.slice none 0 0,.bool false,.slice none 0 0,.slice none 0 0,.int .i64 0,.slice none 0 0,.bool false,.slice none 0 0,.slice none 0 0] 37)).alloc (.cells qZ5 37)) (w.heap.size+2) 0 [.int .i64 0,.slice none 0 0,.bool false,.slice (some ⟨w.heap.size+1,0,none⟩) 7 7,.slice none 0 0]).heap.size=w.heap.size+3:=by simp only [size_wr,World.size_alloc]
 have hl1:blk (wr (((w.alloc (.cells qZ5 37)).alloc (.cells #[.int .i64 0,.slice none 0 0,.bool false,.slice none 0 0,.slice none 0 0,.int .i64 0,.slice none 0 0,.bool false,.slice none 0 0,.slice none 0 0,.int .i64 0,.slice none 0 0,.bool false,.slice none 0 0,.slice none 0 0,.int .i64 0,.slice none 0 0,.bool false,.slice none 0 0,.slice none 0 0,.int .i64 0,.slice none 0 0,.bool false,.slice none 0 0,.slice none 0 0,.int .i64 0,.slice none 0 0,.bool false,.slice none 0 0,.slice none 0 0,.int .i64 0,.slice none 0 0,.bool false,.slice none 0 0,.slice none 0 0] 37)).alloc (.cells qZ5 37)) (w.heap.size+2) 0 [.int .i64 0,.slice none 0 0,.bool false,.slice (some ⟨w.heap.size+1,0,none⟩) 7 7,.slice none 0 0]) (w.heap.size+1)=some (#[.int .i64 0,.slice none 0 0,.bool false,.slice none 0 0,.slice none 0 0,.int .i64 0,.slice none 0 0,.bool false,.slice none 0 0,.slice none 0 0,.int .i64 0,.slice none 0 0,.bool false,.slice none 0 0,.slice none 0 0,.int .i64 0,.slice none 0 0,.bool false,.slice none 0 0,.slice none 0 0,.int .i64 0,.slice none 0 0,.bool false,.slice none 0 0,.slice none 0 0,.int .i64 0,.slice none 0 0,.bool false,.slice none 0 0,.slice none 0 0,.int .i64 0,.slice none 0 0,.bool false,.slice none 0 0,.slice none 0 0],37,(0,0)):=by simp (maxSteps:=1000000)(disch:=(first|omega|(simp only [qI,qJ,qK]<;>omega)|exact qL _)) only [go_sem,↓reduceIte,n0,reduceCtorEq,n1,n2,n3,n4,n5,i0,i1,i2,i3,i4,i5,i6,i7]
 have ht1:blk (wr (((w.alloc (.cells qZ5 37)).alloc (.cells #[.int .i64 0,.slice none 0 0,.bool false,.slice none 0 0,.slice none 0 0,.int .i64 0,.slice none 0 0,.bool false,.slice none 0 0,.slice none 0 0,.int .i64 0,.slice none 0 0,.bool false,.slice none 0 0,.slice none 0 0,.int .i64 0,.slice none 0 0,.bool false,.slice none 0 0,.slice none 0 0,.int .i64 0,.slice none 0 0,.bool false,.slice none 0 0,.slice none 0 0,.int .i64 0,.slice none 0 0,.bool false,.slice none 0 0,.slice none 0 0,.int .i64 0,.slice none 0 0,.bool false,.slice none 0 0,.slice none 0 0] 37)).alloc (.cells qZ5 37)) (w.heap.size+2) 0 [.int .i64 0,.slice none 0 0,.bool false,.slice (some ⟨w.heap.size+1,0,none⟩) 7 7,.slice none 0 0]) (w.heap.size+2)=some (#[.int .i64 0,.slice none 0 0,.bool false,.slice (some ⟨w.heap.size+1,0,none⟩) 7 7,.slice none 0 0],37,(0,0)):=by simp (maxSteps:=1000000)(disch:=(first|omega|(simp only [qI,qJ,qK]<;>omega)|exact qL _)) only [go_sem,↓reduceIte,n0,reduceCtorEq,n1,n2,n3,n4,n5,i0,i1,i2,i3,i4,i5,i6,i7]
 have hr1:blk (wr (((w.alloc (.cells qZ5 37)).alloc (.cells #[.int .i64 0,.slice none 0 0,.bool false,.slice none 0 0,.slice none 0 0,.int .i64 0,.slice none 0 0,.bool false,.slice none 0 0,.slice none 0 0,.int .i64 0,.slice none 0 0,.bool false,.slice none 0 0,.slice none 0 0,.int .i64 0,.slice none 0 0,.bool false,.slice none 0 0,.slice none 0 0,.int .i64 0,.slice none 0 0,.bool false,.slice none 0 0,.slice none 0 0,.int .i64 0,.slice none 0 0,.bool false,.slice none 0 0,.slice none 0 0,.int .i64 0,.slice none 0 0,.bool false,.slice none 0 0,.slice none 0 0] 37)).alloc (.cells qZ5 37)) (w.heap.size+2) 0 [.int .i64 0,.slice none 0 0,.bool false,.slice (some ⟨w.heap.size+1,0,none⟩) 7 7,.slice none 0 0]) w.heap.size=some (qZ5,37,(0,0)):=by simp (maxSteps:=1000000)(disch:=(first|omega|(simp only [qI,qJ,qK]<;>omega)|exact qL _)) only [go_sem,↓reduceIte,n0,reduceCtorEq,n1,n2,n3,n4,n5,i0,i1,i2,i3,i4,i5,i6,i7]
 obtain ⟨w1,hw1⟩:∃ y,y=(wr (((w.alloc (.cells qZ5 37)).alloc (.cells #[.int .i64 0,.slice none 0 0,.bool false,.slice none 0 0,.slice none 0 0,.int .i64 0,.slice none 0 0,.bool false,.slice none 0 0,.slice none 0 0,.int .i64 0,.slice none 0 0,.bool false,.slice none 0 0,.slice none 0 0,.int .i64 0,.slice none 0 0,.bool false,.slice none 0 0,.slice none 0 0,.int .i64 0,.slice none 0 0,.bool false,.slice none 0 0,.slice none 0 0,.int .i64 0,.slice none 0 0,.bool false,.slice none 0 0,.slice none 0 0,.int .i64 0,.slice none 0 0,.bool false,.slice none 0 0,.slice none 0 0] 37)).alloc (.cells qZ5 37)) (w.heap.size+2) 0 [.int .i64 0,.slice none 0 0,.bool false,.slice (some ⟨w.heap.size+1,0,none⟩) 7 7,.slice none 0 0]):=⟨_,rfl⟩
 rw [← hw1] at hE1 hz1 hl1 ht1 hr1
 rw [← hw1]
 clear hw1
 have hU1:Upd (fun b=>b=w.heap.size+1∨b=w.heap.size+2) w1 w1:=Upd.refl _ _
 have hb1:=hE1.blk_some hb id
 repeat ((first|refine qA rfl ?_|apply qB|refine qC rfl ?_|apply qD|apply qE|apply qF|apply qG|apply qH);try simp (maxSteps:=1000000)(disch:=(first|omega|(simp only [qI,qJ,qK]<;>omega)|exact qL _)) only [go_sem,↓reduceIte,n0,reduceCtorEq,n1,n2,n3,n4,n5,i0,i1,i2,i3,i4,i5,i6,i7,hb1,hl1,ht1,hq0,hq1,hq2,hq3,hq4,hq5,hq6,hq7])
 refine W.drawR (.take 0 (.take 1 (.take 2 (.take 3 (.take 4 (.take 5 (.take 6 (.only 7 (.take 8 (.last 9)))))))))) (NoB) mixed (by kernel_rfl) ?_
 try simp (maxSteps:=1000000)(disch:=(first|omega|(simp only [qI,qJ,qK]<;>omega)|exact qL _)) only [go_sem,↓reduceIte,n0,reduceCtorEq,n1,n2,n3,n4,n5,i0,i1,i2,i3,i4,i5,i6,i7,hb1,hl1,ht1,hq0,hq1,hq2,hq3,hq4,hq5,hq6,hq7,tl16]
 refine ⟨Upd.refl _ _,?_⟩
 have pK:blk w1.drew (w.heap.size+1)=_:=hl1
 have hx2:Upd (fun b=>b=w.heap.size+1∨b=w.heap.size+2) w1 w1.drew:=(Upd.refl _ _).drew
 generalize hw2:wr w1.drew (w.heap.size+1) 0 [.int .i64 (IntKind.i16.wrap (t.at 0).n),.slice none 0 0,.bool false,.slice none 0 0,.slice none 0 0] = w2
 have hl2:blk w2 (w.heap.size+1)=some (#[.int .i64 (IntKind.i16.wrap (t.at 0).n),.slice none 0 0,.bool false,.slice none 0 0,.slice none 0 0,.int .i64 0,.slice none 0 0,.bool false,.slice none 0 0,.slice none 0 0,.int .i64 0,.slice none 0 0,.bool false,.slice none 0 0,.slice none 0 0,.int .i64 0,.slice none 0 0,.bool false,.slice none 0 0,.slice none 0 0,.int .i64 0,.slice none 0 0,.bool false,.slice none 0 0,.slice none 0 0,.int .i64 0,.slice none 0 0,.bool false,.slice none 0 0,.slice none 0 0,.int .i64 0,.slice none 0 0,.bool false,.slice none 0 0,.slice none 0 0],37,(0,0)):=by rw [← hw2,blk_wr_eq,pK];rfl
 have hv2:Upd (fun b=>b=w.heap.size+1∨b=w.heap.size+2) w1.drew w2:=by rw [← hw2];exact (Upd.refl _ _).wr _ _ (.inr (.inl rfl))
 have hV2:Upd (fun b=>b=w.heap.size+1∨b=w.heap.size+2) w1 w2:=hx2.trans hv2
 have hU2:Upd (fun b=>b=w.heap.size+1∨b=w.heap.size+2) w1 w2:=hU1.trans hV2
 have hz2:=hU2.size
 have hX2:Ext w w2:=hE1.more hU2 fun b hb h=>by omega
 have hb2:=hX2.blk_some hb id
 have ht2:blk w2 (w.heap.size+2)=some (#[.int .i64 0,.slice none 0 0,.bool false,.slice (some ⟨w.heap.size+1,0,none⟩) 7 7,.slice none 0 0],37,(0,0)):=by
  rw [← hw2,blk_wr_ne (by omega)]
  exact ht1
 clear hw2
 have hf0:TreeC (fun b=>w1.heap.size≤b) w2 (.num (IntKind.i16.wrap (t.at 0).n)) [.int .i64 (IntKind.i16.wrap (t.at 0).n),.slice none 0 0,.bool false,.slice none 0 0,.slice none 0 0]:=(TreeC.keep (hv2.keeps fun b hb hk e=>by have hk':w1.heap.size≤b:=hk;omega) (TreeC.intro (tl16 _) (BytesV.nil _ _) (treesN _ _) (tagsN _ _):TreeC (fun b=>w1.heap.size≤b) w1.drew (.num (IntKind.i16.wrap (t.at 0).n)) [.int .i64 (IntKind.i16.wrap (t.at 0).n),.slice none 0 0,.bool false,.slice none 0 0,.slice none 0 0]))
 repeat ((first|refine qA rfl ?_|apply qB|refine qC rfl ?_|apply qD|apply qE|apply qF|apply qG|apply qH);try simp (maxSteps:=1000000)(disch:=(first|omega|(simp only [qI,qJ,qK]<;>omega)|exact qL _)) only [go_sem,↓reduceIte,n0,reduceCtorEq,n1,n2,n3,n4,n5,i0,i1,i2,i3,i4,i5,i6,i7,hb2,hl2,ht2,hq0,hq1,hq2,hq3,hq4,hq5,hq6,hq7])
 refine W.drawR (.take 0 (.take 1 (.take 2 (.take 3 (.take 4 (.take 5 (.take 6 (.take 7 (.take 8 (.last 9)))))))))) (NoB) mixed (by kernel_rfl) ?_
 try simp (maxSteps:=1000000)(disch:=(first|omega|(simp only [qI,qJ,qK]<;>omega)|exact qL _)) only [go_sem,↓reduceIte,n0,reduceCtorEq,n1,n2,n3,n4,n5,i0,i1,i2,i3,i4,i5,i6,i7,hb2,hl2,ht2,hq0,hq1,hq2,hq3,hq4,hq5,hq6,hq7,BJ]
 generalize hw3:wr w2.drew (w.heap.size+1) 7 [.bool (t.at 1).null] = w3
 have hl3:blk w3 (w.heap.size+1)=some (#[.int .i64 (IntKind.i16.wrap (t.at 0).n),.slice none 0 0,.bool false,.slice none 0 0,.slice none 0 0,.int .i64 0,.slice none 0 0,.bool (t.at 1).null,.slice none 0 0,.slice none 0 0,.int .i64 0,.slice none 0 0,.bool false,.slice none 0 0,.slice none 0 0,.int .i64 0,.slice none 0 0,.bool false,.slice none 0 0,.slice none 0 0,.int .i64 0,.slice none 0 0,.bool false,.slice none 0 0,.slice none 0 0,.int .i64 0,.slice none 0 0,.bool false,.slice none 0 0,.slice none 0 0,.int .i64 0,.slice none 0 0,.bool false,.slice none 0 0,.slice none 0 0],37,(0,0)):=by rw [← hw3,blk_wr_eq,show blk w2.drew (w.heap.size+1)=_ from hl2];rfl
 have hV3:Upd (fun b=>b=w.heap.size+1∨b=w.heap.size+2) w2 w3:=by rw [← hw3];exact ((Upd.refl _ _).drew).wr _ _ (.inr (.inl rfl))
 have hU3:Upd (fun b=>b=w.heap.size+1∨b=w.heap.size+2) w1 w3:=hU2.trans hV3
 have hz3:=hU3.size
 have hX3:Ext w w3:=hE1.more hU3 fun b hb h=>by omega
 have hb3:=hX3.blk_some hb id
 have ht3:blk w3 (w.heap.size+2)=some (#[.int .i64 0,.slice none 0 0,.bool false,.slice (some ⟨w.heap.size+1,0,none⟩) 7 7,.slice none 0 0],37,(0,0)):=by
  rw [← hw3,blk_wr_ne (by omega)]
  exact ht2
 clear hw3
 repeat ((first|refine qA rfl ?_|apply qB|refine qC rfl ?_|apply qD|apply qE|apply qF|apply qG|apply qH);try simp (maxSteps:=1000000)(disch:=(first|omega|(simp only [qI,qJ,qK]<;>omega)|exact qL _)) only [go_sem,↓reduceIte,n0,reduceCtorEq,n1,n2,n3,n4,n5,i0,i1,i2,i3,i4,i5,i6,i7,hb3,hl3,ht3,hq0,hq1,hq2,hq3,hq4,hq5,hq6,hq7])
 refine W.exitJ 0 (EndQ [(0,.pointer (some ⟨b,0,none⟩)),(2,.pointer (some ⟨w.heap.size,0,none⟩)),(3,.pointer (some ⟨w.heap.size+2,0,none⟩)),(31,.int .i64 L1.length)] (fun w'=>∃ v,blk w' (w.heap.size+1)=some (#[.int .i64 (IntKind.i16.wrap (t.at 0).n),.slice none 0 0,.bool false,.slice none 0 0,.slice none 0 0,.int .i64 0,.slice none 0 0,.bool (t.at 1).null,v,.slice none 0 0,.int .i64 0,.slice none 0 0,.bool false,.slice none 0 0,.slice none 0 0,.int .i64 0,.slice none 0 0,.bool false,.slice none 0 0,.slice none 0 0,.int .i64 0,.slice none 0 0,.bool false,.slice none 0 0,.slice none 0 0,.int .i64 0,.slice none 0 0,.bool false,.slice none 0 0,.slice none 0 0,.int .i64 0,.slice none 0 0,.bool false,.slice none 0 0,.slice none 0 0],37,(0,0))∧GrowT (fun b=>w1.heap.size≤b) w3.heap.size (w.heap.size+1) w' 37 v (L1.map (tl1 (tlP (d+1)) fQ_1.of fQ_1.sub))∧Upd (fun b=>b=w.heap.size+1) w3 w')) (W.loop (LoopL [(0,.pointer (some ⟨b,0,none⟩)),(2,.pointer (some ⟨w.heap.size,0,none⟩)),(3,.pointer (some ⟨w.heap.size+2,0,none⟩)),(31,.int .i64 L1.length)] 32 (fun j w'=>∃ v,j≤L1.length∧blk w' (w.heap.size+1)=some (#[.int .i64 (IntKind.i16.wrap (t.at 0).n),.slice none 0 0,.bool false,.slice none 0 0,.slice none 0 0,.int .i64 0,.slice none 0 0,.bool (t.at 1).null,v,.slice none 0 0,.int .i64 0,.slice none 0 0,.bool false,.slice none 0 0,.slice none 0 0,.int .i64 0,.slice none 0 0,.bool false,.slice none 0 0,.slice none 0 0,.int .i64 0,.slice none 0 0,.bool false,.slice none 0 0,.slice none 0 0,.int .i64 0,.slice none 0 0,.bool false,.slice none 0 0,.slice none 0 0,.int .i64 0,.slice none 0 0,.bool false,.slice none 0 0,.slice none 0 0],37,(0,0))∧GrowT (fun b=>w1.heap.size≤b) w3.heap.size (w.heap.size+1) w' 37 v ((L1.take j).map (tl1 (tlP (d+1)) fQ_1.of fQ_1.sub))∧Upd (fun b=>b=w.heap.size+1) w3 w')) (fun ρ _=>L1.length - (RowKit.intOf (ρ 32)).toNat) ?_ ?_) ?_
 ·exact ⟨(by simp (maxSteps:=1000000)(disch:=(first|omega|(simp only [qI,qJ,qK]<;>omega)|exact qL _)) only [go_sem,↓reduceIte,n0,reduceCtorEq,n1,n2,n3,n4,n5,i0,i1,i2,i3,i4,i5,i6,i7,Holds_nil,Holds_cons]),0,(by simp (maxSteps:=1000000)(disch:=(first|omega|(simp only [qI,qJ,qK]<;>omega)|exact qL _)) only [go_sem,↓reduceIte,n0,reduceCtorEq,n1,n2,n3,n4,n5,i0,i1,i2,i3,i4,i5,i6,i7];all_goals rfl),.slice none 0 0,Nat.zero_le _,hl3,GrowT.nil _ _ _ _ _,Upd.refl _ _⟩
 ·rintro ρ w4 ⟨⟨aO,aJ,aP,aQ,-⟩,j,hri,v,hj,hl4,hg,hUk⟩
  have hzk:=hUk.size
  have hX4:Ext w w4:=hX3.more hUk fun b hb h=>by omega
  have hz4:w1.heap.size≤w4.heap.size:=by have:=hz3;omega
  have hb4:=hX4.blk_some hb id
  have ht4:=hUk.blk_some ht3 (by omega)
  by_cases hlt:j < L1.length
  ·obtain ⟨_,be,oe,xe,ce,hbe,hoke,hxe,hble,hxs,hxx,hqe,hRe⟩:=SlR.get (size:=4) (by decide) hs1 hlt
   subst hbe
   have hcat:L1.take (j+1)=L1.take j++[L1[j]]:=List.take_succ_eq_append_getElem hlt
   have hgy:=vG.2 _ (List.getElem_mem hlt)
   have hll:=vG.1
   obtain ⟨av,kv,hvs,_⟩:=hg.shape
   have hlj:(List.map (tl1 (tlP (d+1)) fQ_1.of fQ_1.sub) (L1.take j)).length=j:=by simp;omega
   rw [hlj] at hvs
   subst hvs
   have hnb:∀ b,b < w3.heap.size∨w4.heap.size≤b→¬ ownB (.slice av j kv) b:=fun b hb h=>by
    have:=hg.above h
    have:=hg.below h
    omega
   generalize L1[j] = y at *
   repeat ((first|refine qA rfl ?_|apply qB|refine qC rfl ?_|apply qD|apply qE|apply qF|apply qG|apply qH);try simp (maxSteps:=1000000)(disch:=(first|omega|(simp only [qI,qJ,qK]<;>omega)|exact qL _)) only [go_sem,↓reduceIte,n0,reduceCtorEq,n1,n2,n3,n4,n5,i0,i1,i2,i3,i4,i5,i6,i7,hb4,hl4,ht4,hq0,hq1,hq2,hq3,hq4,hq5,hq6,hq7,aO,aJ,aP,aQ,hri])
   refine W.drawR (.only 0 (.two 1 (.only 2 (.only 3 .done)) 2 (.only 1 (.only 3 .done)))) NoB mixed (by kernel_rfl) ?_
   try simp (maxSteps:=1000000)(disch:=(first|omega|(simp only [qI,qJ,qK]<;>omega)|exact qL _)) only [go_sem,↓reduceIte,n0,reduceCtorEq,n1,n2,n3,n4,n5,i0,i1,i2,i3,i4,i5,i6,i7,hb4,hl4,ht4,hq0,hq1,hq2,hq3,hq4,hq5,hq6,hq7,aO,aJ,aP,aQ,hri]
   have q0:Upd NoB w4.drew (w4.alloc (.cells #[.bool false] 4)).drew:=show Upd NoB w4.drew (w4.drew.alloc (.cells #[.bool false] 4)) from Upd.alloc (Upd.refl _ _) _
   have q1:Upd NoB w4.drew (wr (w4.alloc (.cells #[.bool false] 4)).drew w4.heap.size 0 [.bool true]):=q0.wr _ _ (.inl (Nat.le_refl _))
   have q2:Upd NoB w4.drew (wr (wr (w4.alloc (.cells #[.bool false] 4)).drew w4.heap.size 0 [.bool true]) w4.heap.size 0 [.bool false]):=q1.wr _ _ (.inl (Nat.le_refl _))
   have q3:Upd NoB w4.drew (wr (w4.alloc (.cells #[.bool false] 4)).drew w4.heap.size 0 [.bool false]):=q0.wr _ _ (.inl (Nat.le_refl _))
   have q4:Upd NoB w4.drew (wr (wr (w4.alloc (.cells #[.bool false] 4)).drew w4.heap.size 0 [.bool false]) w4.heap.size 0 [.bool true]):=q3.wr _ _ (.inl (Nat.le_refl _))
   refine ⟨q0,⟨q1,q2,q2,?_⟩,⟨q3,q4,q4,?_⟩⟩
   ·have hk5:Ext w4 (wr (wr (w4.alloc (.cells #[.bool false] 4)).drew w4.heap.size 0 [.bool true]) w4.heap.size 0 [.bool false]):=((Upd.refl _ _).drew).trans q2
    generalize (wr (wr (w4.alloc (.cells #[.bool false] 4)).drew w4.heap.size 0 [.bool true]) w4.heap.size 0 [.bool false])=w5 at *
    have EM:=hk5.size
    have hX5:Ext w w5:=hX4.trans hk5
    have hb5:=hk5.blk_some hb4 id
    have hl5:=hk5.blk_some hl4 id
    have ht5:=hk5.blk_some ht4 id
    have nG:=hX5.blk_some hxe id
    repeat ((first|refine qA rfl ?_|apply qB|refine qC rfl ?_|apply qD|apply qE|apply qF|apply qG|apply qH);try simp (maxSteps:=1000000)(disch:=(first|omega|(simp only [qI,qJ,qK]<;>omega)|exact qL _)) only [go_sem,↓reduceIte,n0,reduceCtorEq,n1,n2,n3,n4,n5,i0,i1,i2,i3,i4,i5,i6,i7,hb5,hl5,ht5,nG,hq0,hq1,hq2,hq3,hq4,hq5,hq6,hq7,aO,aJ,aP,aQ,hri])
    refine W.drawR (.take 0 (.take 1 (.take 2 (.take 3 (.take 4 (.take 5 (.take 6 (.take 7 (.take 8 (.take 9 (.take 10 (.take 11 (.take 12 (.only 13 (.only 14 (.only 15 (.take 16 (.take 17 (.last 18))))))))))))))))))) (ownB (.slice av j kv)) mixed (by kernel_rfl) ?_
    try simp (maxSteps:=1000000)(disch:=(first|omega|(simp only [qI,qJ,qK]<;>omega)|exact qL _|(refine hnb _ ?_;first|omega|(simp only [World.size_alloc,size_wr,size_drew]<;>omega)))) only [go_sem,↓reduceIte,n0,reduceCtorEq,n1,n2,n3,n4,n5,i0,i1,i2,i3,i4,i5,i6,i7,hb5,hl5,ht5,nG,hq0,hq1,hq2,hq3,hq4,hq5,hq6,hq7,aO,aJ,aP,aQ,hri]
    have CZ:=(Upd.refl _ _:Upd (ownB (.slice av j kv)) w5.drew w5.drew).blk_some (show blk w5.drew be=_ from nG) (hnb _ (.inl (by omega)))
    refine (tellX3_fn (d:=d) (ok:=ok) y ce w5.drew (b:=be) (o:=oe+j * 4) CZ (fun k hk=>by have:=hqe k hk;rw [← Nat.add_assoc] at this;exact this) ((RepS_lay true _ _).keep (Rep1_part.1 hRe) ((((hX5.drew).mono fun _ h=>h.elim).trans (Upd.refl _ _):Upd (ownB (.slice av j kv)) w w5.drew).keeps fun b hb _=>hnb b (.inl (by omega)))) (hgy.2.2 rfl)).mono ?_
    rintro _ w6 ⟨⟨c6,rfl,hc6⟩,nY⟩
    obtain ⟨T6,hT6⟩:∃ T,T=tlP (d+1) fs_X3 y:=⟨_,rfl⟩
    replace hc6:TreeC (fun b=>w5.drew.heap.size≤b) w6 T6 c6:=by rw [hT6];exact hc6
    obtain ⟨vS6,vL6,vU6,rfl,hn6,hS6,yZ,zS⟩:=hc6.inv
    have k1_6:=hS6.flat
    have k2_6:=SlR.flat yZ
    have k3_6:=SlR.flat zS
    have hP6:Upd (ownB (.slice av j kv)) w5.drew w6:=(Upd.refl _ _).trans (nY.mono fun _ h=>h.elim)
    have C9:=nY.size
    try simp only [size_drew] at C9
    refine ⟨hP6,?_⟩
    try simp (maxSteps:=1000000)(disch:=(first|omega|(simp only [qI,qJ,qK]<;>omega)|exact qL _|(refine hnb _ ?_;first|omega|(simp only [World.size_alloc,size_wr,size_drew]<;>omega)))) only [go_sem,↓reduceIte,n0,reduceCtorEq,n1,n2,n3,n4,n5,i0,i1,i2,i3,i4,i5,i6,i7,hb5,hl5,ht5,nG,hq0,hq1,hq2,hq3,hq4,hq5,hq6,hq7,aO,aJ,aP,aQ,hri,k1_6,k2_6,k3_6]
    have hP7:Upd (ownB (.slice av j kv)) w5.drew (w6.alloc (.cells #[.int .i64 T6.n,vS6,.bool T6.null,vL6,vU6] 37)):=show Upd (ownB (.slice av j kv)) w5.drew (w6.alloc (.cells #[.int .i64 T6.n,vS6,.bool T6.null,vL6,vU6] 37)) from (hP6).alloc _
    have hn7:blk (w6.alloc (.cells #[.int .i64 T6.n,vS6,.bool T6.null,vL6,vU6] 37)) w6.heap.size=some (#[.int .i64 T6.n,vS6,.bool T6.null,vL6,vU6],37,(0,0)):=show blk (w6.alloc (.cells #[.int .i64 T6.n,vS6,.bool T6.null,vL6,vU6] 37)) w6.heap.size=some (#[.int .i64 T6.n,vS6,.bool T6.null,vL6,vU6],37,(0,0)) from blk_alloc_new rfl
    have CA:(w6.alloc (.cells #[.int .i64 T6.n,vS6,.bool T6.null,vL6,vU6] 37)).heap.size=w6.heap.size+1:=show (w6.alloc (.cells #[.int .i64 T6.n,vS6,.bool T6.null,vL6,vU6] 37)).heap.size=w6.heap.size+1 from World.size_alloc _ _
    have tC:Ext w6 (w6.alloc (.cells #[.int .i64 T6.n,vS6,.bool T6.null,vL6,vU6] 37)):=show Ext w6 (w6.alloc (.cells #[.int .i64 T6.n,vS6,.bool T6.null,vL6,vU6] 37)) from Upd.alloc (Upd.refl _ _) _
    refine ⟨hP7,?_⟩
    try simp only [List.append_nil]
    generalize (w6.alloc (.cells #[.int .i64 T6.n,vS6,.bool T6.null,vL6,vU6] 37))=w7 at *
    try simp only [size_drew] at CA
    have nS:Ext w4 w7:=((hk5.drew.trans nY).trans tC)
    have EW:=nS.size
    obtain ⟨css,hown,hall⟩:=(hg.ext nS).ex
    have hcl:=hall.1
    rw [hlj] at hcl
    have hx8:TreeC (fun b=>(fun b=>w1.heap.size≤b) b∧b≠w.heap.size+1∧¬ ownB (.slice av j kv) b) w7 ((tl1 (tlP (d+1)) fQ_1.of fQ_1.sub) y) [.int .i64 T6.n,vS6,.bool T6.null,vL6,vU6]:=by
     rw [show (tl1 (tlP (d+1)) fQ_1.of fQ_1.sub) y=_ from hT6.symm]
     exact TreeC.weaken (fun b _ hk=>⟨by omega,by omega,hnb b (.inr (by omega))⟩) (TreeC.weaken (ok':=fun b=>w4.heap.size≤b) (fun b _ hk=>by have hk':w5.drew.heap.size≤b:=hk;(try simp only [size_drew] at hk');omega) (TreeC.keep (Ext.keeps tC _) hc6))
    refine wp_append ap_34_34 (m:=1) (news:=[.int .i64 T6.n,vS6,.bool T6.null,vL6,vU6]) (n:=css.length) (cs:=css.flatten) (v:=(.slice av j kv)) ?_ rfl hown.1 (all2_flat_tree hall) (Src.blk (fr:=(0,0)) (T:=37) hn7 rfl (by simp only [List.all_cons,List.all_nil,flat_int,flat_bool,k1_6,k2_6,k3_6,Bool.and_self])) ?_ ?_ ?_
    ·first|rfl|simp (maxSteps:=1000000)(disch:=(first|omega|(simp only [qI,qJ,qK]<;>omega)|exact qL _)) only [go_sem,↓reduceIte,n0,reduceCtorEq,n1,n2,n3,n4,n5,i0,i1,i2,i3,i4,i5,i6,i7]
    ·omega
    ·omega
    intro v' w8 ho hu hfr
    have hP8:=(hP7:Upd (ownB (.slice av j kv)) w5.drew w7).trans hu
    have DI:=hP8.size
    simp only [size_drew] at DI
    have pS:=hP8.blk_some (show blk w5.drew (w.heap.size+1)=_ from hl5) (hnb _ (.inl (by omega)))
    have hg':=GrowT.snoc hown hall hx8 hu hfr ho
    obtain ⟨va,vc,hv',_⟩:=ho.shape
    subst hv'
    have hne:¬ ownB (.slice va (css.length+1) vc) (w.heap.size+1):=fun h=>(hfr _ h).elim (hnb _ (.inl (by omega))) (fun h=>by omega)
    refine ⟨hP8,?_⟩
    try simp (maxSteps:=1000000)(disch:=(first|omega|(simp only [qI,qJ,qK]<;>omega)|exact qL _|(refine hnb _ ?_;first|omega|(simp only [World.size_alloc,size_wr,size_drew]<;>omega)))) only [go_sem,↓reduceIte,n0,reduceCtorEq,n1,n2,n3,n4,n5,i0,i1,i2,i3,i4,i5,i6,i7,pS,aO,aJ,aP,aQ,hri]
    repeat ((first|refine qA rfl ?_|apply qB|refine qC rfl ?_|apply qD|apply qE|apply qF|apply qG|apply qH);try simp (maxSteps:=1000000)(disch:=(first|omega|(simp only [qI,qJ,qK]<;>omega)|exact qL _)) only [go_sem,↓reduceIte,n0,reduceCtorEq,n1,n2,n3,n4,n5,i0,i1,i2,i3,i4,i5,i6,i7,pS,aO,aJ,aP,aQ,hri])
    refine ⟨⟨(by simp (maxSteps:=1000000)(disch:=(first|omega|(simp only [qI,qJ,qK]<;>omega)|exact qL _)) only [go_sem,↓reduceIte,n0,reduceCtorEq,n1,n2,n3,n4,n5,i0,i1,i2,i3,i4,i5,i6,i7,Holds_nil,Holds_cons,aO,aJ,aP,aQ,hri]),j+1,(by simp (maxSteps:=1000000)(disch:=(first|omega|(simp only [qI,qJ,qK]<;>omega)|exact qL _)) only [go_sem,↓reduceIte,n0,reduceCtorEq,n1,n2,n3,n4,n5,i0,i1,i2,i3,i4,i5,i6,i7,aO,aJ,aP,aQ,hri];all_goals rfl),.slice va (css.length+1) vc,by omega,?_,?_,?_⟩,?_⟩
    ·rw [blk_wr_eq,pS];rfl
    ·rw [hcat,List.map_append];exact hg'.upd ((Upd.refl _ _).wr _ _ (.inr rfl)) hne
    ·refine Upd.wr ?_ _ _ (.inr rfl)
     exact (hUk.more ((nS.mono fun _ h=>h.elim).trans hu) fun b hb h=>absurd h (hnb b (.inl hb)))
    ·try simp (maxSteps:=1000000)(disch:=(first|omega|(simp only [qI,qJ,qK]<;>omega)|exact qL _)) only [go_sem,↓reduceIte,n0,reduceCtorEq,n1,n2,n3,n4,n5,i0,i1,i2,i3,i4,i5,i6,i7,aO,aJ,aP,aQ,hri]
     simp only [RowKit.intOf];omega
   ·have hk9:Ext w4 (wr (wr (w4.alloc (.cells #[.bool false] 4)).drew w4.heap.size 0 [.bool false]) w4.heap.size 0 [.bool true]):=((Upd.refl _ _).drew).trans q4
    generalize (wr (wr (w4.alloc (.cells #[.bool false] 4)).drew w4.heap.size 0 [.bool false]) w4.heap.size 0 [.bool true])=w9 at *
    have EN:=hk9.size
    have hX9:Ext w w9:=hX4.trans hk9
    have hb9:=hk9.blk_some hb4 id
    have hl9:=hk9.blk_some hl4 id
    have ht9:=hk9.blk_some ht4 id
    have jD:=hX9.blk_some hxe id
    repeat ((first|refine qA rfl ?_|apply qB|refine qC rfl ?_|apply qD|apply qE|apply qF|apply qG|apply qH);try simp (maxSteps:=1000000)(disch:=(first|omega|(simp only [qI,qJ,qK]<;>omega)|exact qL _)) only [go_sem,↓reduceIte,n0,reduceCtorEq,n1,n2,n3,n4,n5,i0,i1,i2,i3,i4,i5,i6,i7,hb9,hl9,ht9,jD,hq0,hq1,hq2,hq3,hq4,hq5,hq6,hq7,aO,aJ,aP,aQ,hri])
    refine W.drawR (.take 0 (.take 1 (.take 2 (.take 3 (.take 4 (.take 5 (.take 6 (.take 7 (.take 8 (.take 9 (.take 10 (.take 12 (.two 11 (.only 13 (.only 14 (.take 15 (.take 16 (.last 17))))) 13 (.only 11 (.only 14 (.take 15 (.take 16 (.last 17)))))))))))))))))) (ownB (.slice av j kv)) mixed (by kernel_rfl) ?_
    try simp (maxSteps:=1000000)(disch:=(first|omega|(simp only [qI,qJ,qK]<;>omega)|exact qL _|(refine hnb _ ?_;first|omega|(simp only [World.size_alloc,size_wr,size_drew]<;>omega)))) only [go_sem,↓reduceIte,n0,reduceCtorEq,n1,n2,n3,n4,n5,i0,i1,i2,i3,i4,i5,i6,i7,hb9,hl9,ht9,jD,hq0,hq1,hq2,hq3,hq4,hq5,hq6,hq7,aO,aJ,aP,aQ,hri]
    refine ⟨?_,?_⟩
    ·skip
     have CR:=(Upd.refl _ _:Upd (ownB (.slice av j kv)) w9.drew w9.drew).blk_some (show blk w9.drew be=_ from jD) (hnb _ (.inl (by omega)))
     refine (tellX3_fn (d:=d) (ok:=ok) y ce w9.drew (b:=be) (o:=oe+j * 4) CR (fun k hk=>by have:=hqe k hk;rw [← Nat.add_assoc] at this;exact this) ((RepS_lay true _ _).keep (Rep1_part.1 hRe) ((((hX9.drew).mono fun _ h=>h.elim).trans (Upd.refl _ _):Upd (ownB (.slice av j kv)) w w9.drew).keeps fun b hb _=>hnb b (.inl (by omega)))) (hgy.2.2 rfl)).mono ?_
     rintro _ w10 ⟨⟨c10,rfl,iQ⟩,nT⟩
     obtain ⟨T10,tU⟩:∃ T,T=tlP (d+1) fs_X3 y:=⟨_,rfl⟩
     replace iQ:TreeC (fun b=>w9.drew.heap.size≤b) w10 T10 c10:=by rw [tU];exact iQ
     obtain ⟨vS10,vL10,vU10,rfl,DY,z6,yQ,zK⟩:=iQ.inv
     have k1_10:=z6.flat
     have k2_10:=SlR.flat yQ
     have k3_10:=SlR.flat zK
     have tH:Upd (ownB (.slice av j kv)) w9.drew w10:=(Upd.refl _ _).trans (nT.mono fun _ h=>h.elim)
     have BS:=nT.size
     try simp only [size_drew] at BS
     refine ⟨tH,?_⟩
     try simp (maxSteps:=1000000)(disch:=(first|omega|(simp only [qI,qJ,qK]<;>omega)|exact qL _|(refine hnb _ ?_;first|omega|(simp only [World.size_alloc,size_wr,size_drew]<;>omega)))) only [go_sem,↓reduceIte,n0,reduceCtorEq,n1,n2,n3,n4,n5,i0,i1,i2,i3,i4,i5,i6,i7,hb9,hl9,ht9,jD,hq0,hq1,hq2,hq3,hq4,hq5,hq6,hq7,aO,aJ,aP,aQ,hri,k1_10,k2_10,k3_10]
     have tI:Upd (ownB (.slice av j kv)) w9.drew (w10.alloc (.cells qZ5 37)):=show Upd (ownB (.slice av j kv)) w9.drew (w10.alloc (.cells qZ5 37)) from (tH).alloc _
     have B9:blk (w10.alloc (.cells qZ5 37)) w10.heap.size=some (qZ5,37,(0,0)):=show blk (w10.alloc (.cells qZ5 37)) w10.heap.size=some (qZ5,37,(0,0)) from blk_alloc_new rfl
     have BT:(w10.alloc (.cells qZ5 37)).heap.size=w10.heap.size+1:=show (w10.alloc (.cells qZ5 37)).heap.size=w10.heap.size+1 from World.size_alloc _ _
     have t2:Ext w10 (w10.alloc (.cells qZ5 37)):=show Ext w10 (w10.alloc (.cells qZ5 37)) from Upd.alloc (Upd.refl _ _) _
     refine ⟨tI,?_⟩
     try simp only [List.append_nil]
     generalize (w10.alloc (.cells qZ5 37))=w11 at *
     try simp only [size_drew] at BT
     have nK:Ext w4 w11:=((hk9.drew.trans nT).trans t2)
     have EO:=nK.size
     obtain ⟨css,hown,hall⟩:=(hg.ext nK).ex
     have hcl:=hall.1
     rw [hlj] at hcl
     have CF:TreeC (fun b=>(fun b=>w1.heap.size≤b) b∧b≠w.heap.size+1∧¬ ownB (.slice av j kv) b) w11 ((tl1 (tlP (d+1)) fQ_1.of fQ_1.sub) y) [.int .i64 T10.n,vS10,.bool T10.null,vL10,vU10]:=by
      rw [show (tl1 (tlP (d+1)) fQ_1.of fQ_1.sub) y=_ from tU.symm]
      exact TreeC.weaken (fun b _ hk=>⟨by omega,by omega,hnb b (.inr (by omega))⟩) (TreeC.weaken (ok':=fun b=>w4.heap.size≤b) (fun b _ hk=>by have hk':w9.drew.heap.size≤b:=hk;(try simp only [size_drew] at hk');omega) (TreeC.keep (Ext.keeps t2 _) iQ))
     refine wp_append ap_34_34 (m:=1) (news:=[.int .i64 0,.slice none 0 0,.bool false,.slice none 0 0,.slice none 0 0]) (n:=css.length) (cs:=css.flatten) (v:=(.slice av j kv)) ?_ rfl hown.1 (all2_flat_tree hall) (Src.blk (fr:=(0,0)) (T:=37) B9 rfl rfl) ?_ ?_ ?_
     ·first|rfl|simp (maxSteps:=1000000)(disch:=(first|omega|(simp only [qI,qJ,qK]<;>omega)|exact qL _)) only [go_sem,↓reduceIte,n0,reduceCtorEq,n1,n2,n3,n4,n5,i0,i1,i2,i3,i4,i5,i6,i7]
     ·omega
     ·omega
     intro v' w12 ho hu hfr
     have oE:=(tI:Upd (ownB (.slice av j kv)) w9.drew w11).trans hu
     have D9:=oE.size
     simp only [size_drew] at D9
     have pI:=oE.blk_some (show blk w9.drew (w.heap.size+1)=_ from hl9) (hnb _ (.inl (by omega)))
     rcases ho.2 with ⟨_,h⟩|⟨g,cap,rest,fr,hv',hg',hbg,hlen,hth,hle⟩
     ·exact absurd h (Nat.succ_ne_zero _)
     subst hv'
     have hgne:¬ g=w.heap.size+1:=fun h=>(hfr g ⟨_,_,_,rfl,rfl⟩).elim (fun h'=>hnb _ (.inl (by omega)) (h ▸ h')) (fun h'=>by omega)
     have hfl:css.flatten.length=css.length * 5:=flatten_len hown.2
     have dY:(css.flatten++([.int .i64 0,.slice none 0 0,.bool false,.slice none 0 0,.slice none 0 0]:List Value)++rest).length=cap * 5:=by simp only [List.length_append] at hlen ⊢;omega
     obtain ⟨XX,hXX⟩:∃ X:Array Value,X=(css.flatten++([.int .i64 0,.slice none 0 0,.bool false,.slice none 0 0,.slice none 0 0]:List Value)++rest).toArray:=⟨_,rfl⟩
     have hbgX:blk w12 g=some (XX,37,fr):=by rw [hXX];exact hbg
     have hXsz:XX.size=cap * 5:=by rw [hXX,List.size_toArray];exact dY
     have b7:thaw fr (css.length * 5) 5=true:=thaw_of hth (by omega)
     have hst:css.length * 5+5≤XX.size:=by omega
     have hset:=Own.setlast (cs:=[.int .i64 T10.n,vS10,.bool T10.null,vL10,vU10]) ho rfl rfl
     have hu2:Upd (ownB (.slice av j kv)) w11 (wr w12 g (css.length * 5) [.int .i64 T10.n,vS10,.bool T10.null,vL10,vU10]):=hu.wr _ _ ((hfr g ⟨_,_,_,rfl,rfl⟩).symm)
     have hg2:=GrowT.snoc hown hall CF hu2 hfr hset
     have hcj:css.length=j:=by first|exact hcl.symm.trans hlj|omega
     simp only [hcj] at b7 hst hset hu2 hg2
     refine ⟨oE,?_⟩
     try simp (maxSteps:=1000000)(disch:=(first|omega|(simp only [qI,qJ,qK]<;>omega)|exact qL _|(refine hnb _ ?_;first|omega|(simp only [World.size_alloc,size_wr,size_drew]<;>omega)))) only [go_sem,↓reduceIte,n0,reduceCtorEq,n1,n2,n3,n4,n5,i0,i1,i2,i3,i4,i5,i6,i7,pI,hbgX,b7,hst,hcj,k1_10,k2_10,k3_10,aO,aJ,aP,aQ,hri]
     repeat ((first|refine qA rfl ?_|apply qB|refine qC rfl ?_|apply qD|apply qE|apply qF|apply qG|apply qH);try simp (maxSteps:=1000000)(disch:=(first|omega|(simp only [qI,qJ,qK]<;>omega)|exact qL _)) only [go_sem,↓reduceIte,n0,reduceCtorEq,n1,n2,n3,n4,n5,i0,i1,i2,i3,i4,i5,i6,i7,pI,hbgX,b7,hst,hcj,k1_10,k2_10,k3_10,aO,aJ,aP,aQ,hri])
     refine ⟨⟨(by simp (maxSteps:=1000000)(disch:=(first|omega|(simp only [qI,qJ,qK]<;>omega)|exact qL _)) only [go_sem,↓reduceIte,n0,reduceCtorEq,n1,n2,n3,n4,n5,i0,i1,i2,i3,i4,i5,i6,i7,Holds_nil,Holds_cons,aO,aJ,aP,aQ,hri]),j+1,(by simp (maxSteps:=1000000)(disch:=(first|omega|(simp only [qI,qJ,qK]<;>omega)|exact qL _)) only [go_sem,↓reduceIte,n0,reduceCtorEq,n1,n2,n3,n4,n5,i0,i1,i2,i3,i4,i5,i6,i7,aO,aJ,aP,aQ,hri];all_goals rfl),.slice (some ⟨g,0,none⟩) (j+1) cap,by omega,?_,?_,?_⟩,?_⟩
     ·rw [blk_wr_ne (by omega),blk_wr_eq,pI];rfl
     ·rw [hcat,List.map_append,wr_comm (Ne.symm hgne)]
      exact hg2.upd ((Upd.refl _ _).wr _ _ (.inr rfl)) (fun h=>hgne (ownB_row h).symm)
     ·rw [wr_comm (Ne.symm hgne)]
      refine Upd.wr ?_ _ _ (.inr rfl)
      exact (hUk.more ((nK.mono fun _ h=>h.elim).trans hu2) fun b hb h=>absurd h (hnb b (.inl hb)))
     ·try simp (maxSteps:=1000000)(disch:=(first|omega|(simp only [qI,qJ,qK]<;>omega)|exact qL _)) only [go_sem,↓reduceIte,n0,reduceCtorEq,n1,n2,n3,n4,n5,i0,i1,i2,i3,i4,i5,i6,i7,aO,aJ,aP,aQ,hri]
      simp only [RowKit.intOf];omega
    ·skip
     have lZ:Upd (ownB (.slice av j kv)) w9.drew (w9.alloc (.cells qZ5 37)).drew:=show Upd (ownB (.slice av j kv)) w9.drew (w9.drew.alloc (.cells qZ5 37)) from (Upd.refl _ _).alloc _
     have BA:blk (w9.alloc (.cells qZ5 37)).drew w9.drew.heap.size=some (qZ5,37,(0,0)):=show blk (w9.drew.alloc (.cells qZ5 37)) w9.drew.heap.size=some (qZ5,37,(0,0)) from blk_alloc_new rfl
     have BU:(w9.alloc (.cells qZ5 37)).drew.heap.size=w9.drew.heap.size+1:=show (w9.drew.alloc (.cells qZ5 37)).heap.size=w9.drew.heap.size+1 from World.size_alloc _ _
     have yE:Ext w9.drew (w9.alloc (.cells qZ5 37)).drew:=show Ext w9.drew (w9.drew.alloc (.cells qZ5 37)) from Upd.alloc (Upd.refl _ _) _
     refine ⟨lZ,?_⟩
     try simp only [List.append_nil]
     generalize (w9.alloc (.cells qZ5 37)).drew=w13 at *
     try simp only [size_drew] at BU
     have CS:=(lZ:Upd (ownB (.slice av j kv)) w9.drew w13).blk_some (show blk w9.drew be=_ from jD) (hnb _ (.inl (by omega)))
     refine (tellX3_fn (d:=d) (ok:=ok) y ce w13 (b:=be) (o:=oe+j * 4) CS (fun k hk=>by have:=hqe k hk;rw [← Nat.add_assoc] at this;exact this) ((RepS_lay true _ _).keep (Rep1_part.1 hRe) ((((hX9.drew).mono fun _ h=>h.elim).trans (lZ):Upd (ownB (.slice av j kv)) w w13).keeps fun b hb _=>hnb b (.inl (by omega)))) (hgy.2.2 rfl)).mono ?_
     rintro _ w14 ⟨⟨c14,rfl,mD⟩,lT⟩
     obtain ⟨T14,m8⟩:∃ T,T=tlP (d+1) fs_X3 y:=⟨_,rfl⟩
     replace mD:TreeC (fun b=>w13.heap.size≤b) w14 T14 c14:=by rw [m8];exact mD
     obtain ⟨vS14,vL14,vU14,rfl,DZ,z7,yR,zL⟩:=mD.inv
     have k1_14:=z7.flat
     have k2_14:=SlR.flat yR
     have k3_14:=SlR.flat zL
     have tJ:Upd (ownB (.slice av j kv)) w9.drew w14:=(lZ).trans (lT.mono fun _ h=>h.elim)
     have BV:=lT.size
     try simp only [size_drew] at BV
     refine ⟨tJ,?_⟩
     try simp (maxSteps:=1000000)(disch:=(first|omega|(simp only [qI,qJ,qK]<;>omega)|exact qL _|(refine hnb _ ?_;first|omega|(simp only [World.size_alloc,size_wr,size_drew]<;>omega)))) only [go_sem,↓reduceIte,n0,reduceCtorEq,n1,n2,n3,n4,n5,i0,i1,i2,i3,i4,i5,i6,i7,hb9,hl9,ht9,jD,hq0,hq1,hq2,hq3,hq4,hq5,hq6,hq7,aO,aJ,aP,aQ,hri,k1_14,k2_14,k3_14]
     have nL:Ext w4 w14:=((hk9.drew.trans yE).trans lT)
     have EP:=nL.size
     obtain ⟨css,hown,hall⟩:=(hg.ext nL).ex
     have hcl:=hall.1
     rw [hlj] at hcl
     have CG:TreeC (fun b=>(fun b=>w1.heap.size≤b) b∧b≠w.heap.size+1∧¬ ownB (.slice av j kv) b) w14 ((tl1 (tlP (d+1)) fQ_1.of fQ_1.sub) y) [.int .i64 T14.n,vS14,.bool T14.null,vL14,vU14]:=by
      rw [show (tl1 (tlP (d+1)) fQ_1.of fQ_1.sub) y=_ from m8.symm]
      exact TreeC.weaken (fun b _ hk=>⟨by omega,by omega,hnb b (.inr (by omega))⟩) (TreeC.weaken (ok':=fun b=>w4.heap.size≤b) (fun b _ hk=>by have hk':w13.heap.size≤b:=hk;(try simp only [size_drew] at hk');omega) mD)
     refine wp_append ap_34_34 (m:=1) (news:=[.int .i64 0,.slice none 0 0,.bool false,.slice none 0 0,.slice none 0 0]) (n:=css.length) (cs:=css.flatten) (v:=(.slice av j kv)) ?_ rfl hown.1 (all2_flat_tree hall) (Src.blk (fr:=(0,0)) (T:=37) (lT.blk_some BA id) rfl rfl) ?_ ?_ ?_
     ·first|rfl|simp (maxSteps:=1000000)(disch:=(first|omega|(simp only [qI,qJ,qK]<;>omega)|exact qL _)) only [go_sem,↓reduceIte,n0,reduceCtorEq,n1,n2,n3,n4,n5,i0,i1,i2,i3,i4,i5,i6,i7]
     ·omega
     ·omega
     intro v' w15 ho hu hfr
     have oF:=(tJ:Upd (ownB (.slice av j kv)) w9.drew w14).trans hu
     have DA:=oF.size
     simp only [size_drew] at DA
     have pJ:=oF.blk_some (show blk w9.drew (w.heap.size+1)=_ from hl9) (hnb _ (.inl (by omega)))
     rcases ho.2 with ⟨_,h⟩|⟨g,cap,rest,fr,hv',hg',hbg,hlen,hth,hle⟩
     ·exact absurd h (Nat.succ_ne_zero _)
     subst hv'
     have hgne:¬ g=w.heap.size+1:=fun h=>(hfr g ⟨_,_,_,rfl,rfl⟩).elim (fun h'=>hnb _ (.inl (by omega)) (h ▸ h')) (fun h'=>by omega)
     have hfl:css.flatten.length=css.length * 5:=flatten_len hown.2
     have dY:(css.flatten++([.int .i64 0,.slice none 0 0,.bool false,.slice none 0 0,.slice none 0 0]:List Value)++rest).length=cap * 5:=by simp only [List.length_append] at hlen ⊢;omega
     obtain ⟨XX,hXX⟩:∃ X:Array Value,X=(css.flatten++([.int .i64 0,.slice none 0 0,.bool false,.slice none 0 0,.slice none 0 0]:List Value)++rest).toArray:=⟨_,rfl⟩
     have hbgX:blk w15 g=some (XX,37,fr):=by rw [hXX];exact hbg
     have hXsz:XX.size=cap * 5:=by rw [hXX,List.size_toArray];exact dY
     have b7:thaw fr (css.length * 5) 5=true:=thaw_of hth (by omega)
     have hst:css.length * 5+5≤XX.size:=by omega
     have hset:=Own.setlast (cs:=[.int .i64 T14.n,vS14,.bool T14.null,vL14,vU14]) ho rfl rfl
     have hu2:Upd (ownB (.slice av j kv)) w14 (wr w15 g (css.length * 5) [.int .i64 T14.n,vS14,.bool T14.null,vL14,vU14]):=hu.wr _ _ ((hfr g ⟨_,_,_,rfl,rfl⟩).symm)
     have hg2:=GrowT.snoc hown hall CG hu2 hfr hset
     have hcj:css.length=j:=by first|exact hcl.symm.trans hlj|omega
     simp only [hcj] at b7 hst hset hu2 hg2
     refine ⟨oF,?_⟩
     try simp (maxSteps:=1000000)(disch:=(first|omega|(simp only [qI,qJ,qK]<;>omega)|exact qL _|(refine hnb _ ?_;first|omega|(simp only [World.size_alloc,size_wr,size_drew]<;>omega)))) only [go_sem,↓reduceIte,n0,reduceCtorEq,n1,n2,n3,n4,n5,i0,i1,i2,i3,i4,i5,i6,i7,pJ,hbgX,b7,hst,hcj,k1_14,k2_14,k3_14,aO,aJ,aP,aQ,hri]
     repeat ((first|refine qA rfl ?_|apply qB|refine qC rfl ?_|apply qD|apply qE|apply qF|apply qG|apply qH);try simp (maxSteps:=1000000)(disch:=(first|omega|(simp only [qI,qJ,qK]<;>omega)|exact qL _)) only [go_sem,↓reduceIte,n0,reduceCtorEq,n1,n2,n3,n4,n5,i0,i1,i2,i3,i4,i5,i6,i7,pJ,hbgX,b7,hst,hcj,k1_14,k2_14,k3_14,aO,aJ,aP,aQ,hri])
     refine ⟨⟨(by simp (maxSteps:=1000000)(disch:=(first|omega|(simp only [qI,qJ,qK]<;>omega)|exact qL _)) only [go_sem,↓reduceIte,n0,reduceCtorEq,n1,n2,n3,n4,n5,i0,i1,i2,i3,i4,i5,i6,i7,Holds_nil,Holds_cons,aO,aJ,aP,aQ,hri]),j+1,(by simp (maxSteps:=1000000)(disch:=(first|omega|(simp only [qI,qJ,qK]<;>omega)|exact qL _)) only [go_sem,↓reduceIte,n0,reduceCtorEq,n1,n2,n3,n4,n5,i0,i1,i2,i3,i4,i5,i6,i7,aO,aJ,aP,aQ,hri];all_goals rfl),.slice (some ⟨g,0,none⟩) (j+1) cap,by omega,?_,?_,?_⟩,?_⟩
     ·rw [blk_wr_ne (by omega),blk_wr_eq,pJ];rfl
     ·rw [hcat,List.map_append,wr_comm (Ne.symm hgne)]
      exact hg2.upd ((Upd.refl _ _).wr _ _ (.inr rfl)) (fun h=>hgne (ownB_row h).symm)
     ·rw [wr_comm (Ne.symm hgne)]
      refine Upd.wr ?_ _ _ (.inr rfl)
      exact (hUk.more ((nL.mono fun _ h=>h.elim).trans hu2) fun b hb h=>absurd h (hnb b (.inl hb)))
     ·try simp (maxSteps:=1000000)(disch:=(first|omega|(simp only [qI,qJ,qK]<;>omega)|exact qL _)) only [go_sem,↓reduceIte,n0,reduceCtorEq,n1,n2,n3,n4,n5,i0,i1,i2,i3,i4,i5,i6,i7,aO,aJ,aP,aQ,hri]
      simp only [RowKit.intOf];omega
  ·have hjn:j=L1.length:=by omega
   subst hjn
   rw [List.take_length] at hg
   repeat ((first|refine qA rfl ?_|apply qB|refine qC rfl ?_|apply qD|apply qE|apply qF|apply qG|apply qH);try simp (maxSteps:=1000000)(disch:=(first|omega|(simp only [qI,qJ,qK]<;>omega)|exact qL _)) only [go_sem,↓reduceIte,n0,reduceCtorEq,n1,n2,n3,n4,n5,i0,i1,i2,i3,i4,i5,i6,i7,aO,aJ,aP,aQ,hri])
   exact ⟨(by simp (maxSteps:=1000000)(disch:=(first|omega|(simp only [qI,qJ,qK]<;>omega)|exact qL _)) only [go_sem,↓reduceIte,n0,reduceCtorEq,n1,n2,n3,n4,n5,i0,i1,i2,i3,i4,i5,i6,i7,Holds_nil,Holds_cons,aO,aJ,aP,aQ,hri]),v,hl4,hg,hUk⟩
 rintro ρ w16 ⟨⟨gQ,cX,gY,E6,-⟩,v,hl16,vD,u2⟩
 have dW:Upd (fun b=>b=w.heap.size+1∨b=w.heap.size+2) w3 w16:=u2.mono fun _ h=>.inl h
 have eG:Upd (fun b=>b=w.heap.size+1∨b=w.heap.size+2) w1 w16:=hU3.trans dW
 have xP:=eG.size
 have zU:Ext w w16:=hE1.more eG fun b hb h=>by omega
 have hb16:=zU.blk_some hb id
 have rW:=u2.blk_some ht3 (by omega)
 obtain ⟨av1,kv1,hvs,_⟩:=vD.shape
 subst hvs
 have hf1:TreeC (fun b=>w1.heap.size≤b) w16 (.mk 0 [] (t.at 1).null (L1.map (tl1 (tlP (d+1)) fQ_1.of fQ_1.sub)) []) [.int .i64 0,.slice none 0 0,.bool (t.at 1).null,.slice av1 (List.map (tl1 (tlP (d+1)) fQ_1.of fQ_1.sub) L1).length kv1,.slice none 0 0]:=TreeC.intro rfl (BytesV.nil _ _) (vD.trees (fun _ _ h=>h) (fun b hb=>by have:=hz3;omega)) (tagsN _ _)
 repeat ((first|refine qA rfl ?_|apply qB|refine qC rfl ?_|apply qD|apply qE|apply qF|apply qG|apply qH);try simp (maxSteps:=1000000)(disch:=(first|omega|(simp only [qI,qJ,qK]<;>omega)|exact qL _)) only [go_sem,↓reduceIte,n0,reduceCtorEq,n1,n2,n3,n4,n5,i0,i1,i2,i3,i4,i5,i6,i7,hb16,hl16,rW,hq0,hq1,hq2,hq3,hq4,hq5,hq6,hq7,gQ,cX,gY])
 refine W.drawR (.take 0 (.take 1 (.take 2 (.take 3 (.take 4 (.take 5 (.take 6 (.only 7 (.take 8 (.last 9)))))))))) (NoB) mixed (by kernel_rfl) ?_
 try simp (maxSteps:=1000000)(disch:=(first|omega|(simp only [qI,qJ,qK]<;>omega)|exact qL _)) only [go_sem,↓reduceIte,n0,reduceCtorEq,n1,n2,n3,n4,n5,i0,i1,i2,i3,i4,i5,i6,i7,hb16,hl16,rW,hq0,hq1,hq2,hq3,hq4,hq5,hq6,hq7,gQ,cX,gY,tl32]
 refine ⟨Upd.refl _ _,?_⟩
 have AY:blk w16.drew (w.heap.size+1)=_:=hl16
 have CH:Upd (fun b=>b=w.heap.size+1∨b=w.heap.size+2) w16 w16.drew:=(Upd.refl _ _).drew
 generalize dI:wr w16.drew (w.heap.size+1) 10 [.int .i64 (IntKind.i32.wrap (t.at 2).n),.slice none 0 0,.bool false,.slice none 0 0,.slice none 0 0] = w17
 have pF:blk w17 (w.heap.size+1)=some (#[.int .i64 (IntKind.i16.wrap (t.at 0).n),.slice none 0 0,.bool false,.slice none 0 0,.slice none 0 0,.int .i64 0,.slice none 0 0,.bool (t.at 1).null,.slice av1 (List.map (tl1 (tlP (d+1)) fQ_1.of fQ_1.sub) L1).length kv1,.slice none 0 0,.int .i64 (IntKind.i32.wrap (t.at 2).n),.slice none 0 0,.bool false,.slice none 0 0,.slice none 0 0,.int .i64 0,.slice none 0 0,.bool false,.slice none 0 0,.slice none 0 0,.int .i64 0,.slice none 0 0,.bool false,.slice none 0 0,.slice none 0 0,.int .i64 0,.slice none 0 0,.bool false,.slice none 0 0,.slice none 0 0,.int .i64 0,.slice none 0 0,.bool false,.slice none 0 0,.slice none 0 0],37,(0,0)):=by rw [← dI,blk_wr_eq,AY];rfl
 have wS:Upd (fun b=>b=w.heap.size+1∨b=w.heap.size+2) w16.drew w17:=by rw [← dI];exact (Upd.refl _ _).wr _ _ (.inr (.inl rfl))
 have dM:Upd (fun b=>b=w.heap.size+1∨b=w.heap.size+2) w16 w17:=CH.trans wS
 have eH:Upd (fun b=>b=w.heap.size+1∨b=w.heap.size+2) w1 w17:=eG.trans dM
 have xQ:=eH.size
 have zV:Ext w w17:=hE1.more eH fun b hb h=>by omega
 have hb17:=zV.blk_some hb id
 have rX:blk w17 (w.heap.size+2)=some (#[.int .i64 0,.slice none 0 0,.bool false,.slice (some ⟨w.heap.size+1,0,none⟩) 7 7,.slice none 0 0],37,(0,0)):=by
  rw [← dI,blk_wr_ne (by omega)]
  exact rW
 clear dI
 have hf2:TreeC (fun b=>w1.heap.size≤b) w17 (.num (IntKind.i32.wrap (t.at 2).n)) [.int .i64 (IntKind.i32.wrap (t.at 2).n),.slice none 0 0,.bool false,.slice none 0 0,.slice none 0 0]:=(TreeC.keep (wS.keeps fun b hb hk e=>by have hk':w1.heap.size≤b:=hk;omega) (TreeC.intro (tl32 _) (BytesV.nil _ _) (treesN _ _) (tagsN _ _):TreeC (fun b=>w1.heap.size≤b) w16.drew (.num (IntKind.i32.wrap (t.at 2).n)) [.int .i64 (IntKind.i32.wrap (t.at 2).n),.slice none 0 0,.bool false,.slice none 0 0,.slice none 0 0]))
 repeat ((first|refine qA rfl ?_|apply qB|refine qC rfl ?_|apply qD|apply qE|apply qF|apply qG|apply qH);try simp (maxSteps:=1000000)(disch:=(first|omega|(simp only [qI,qJ,qK]<;>omega)|exact qL _)) only [go_sem,↓reduceIte,n0,reduceCtorEq,n1,n2,n3,n4,n5,i0,i1,i2,i3,i4,i5,i6,i7,hb17,pF,rX,hq0,hq1,hq2,hq3,hq4,hq5,hq6,hq7,gQ,cX,gY])
 refine W.drawR (.take 0 (.take 1 (.take 2 (.take 3 (.take 4 (.take 5 (.take 6 (.take 7 (.take 8 (.last 9)))))))))) (NoB) mixed (by kernel_rfl) ?_
 try simp (maxSteps:=1000000)(disch:=(first|omega|(simp only [qI,qJ,qK]<;>omega)|exact qL _)) only [go_sem,↓reduceIte,n0,reduceCtorEq,n1,n2,n3,n4,n5,i0,i1,i2,i3,i4,i5,i6,i7,hb17,pF,rX,hq0,hq1,hq2,hq3,hq4,hq5,hq6,hq7,gQ,cX,gY,BK]
 generalize nA:wr w17.drew (w.heap.size+1) 17 [.bool (t.at 3).null] = w18
 have vO:blk w18 (w.heap.size+1)=some (#[.int .i64 (IntKind.i16.wrap (t.at 0).n),.slice none 0 0,.bool false,.slice none 0 0,.slice none 0 0,.int .i64 0,.slice none 0 0,.bool (t.at 1).null,.slice av1 (List.map (tl1 (tlP (d+1)) fQ_1.of fQ_1.sub) L1).length kv1,.slice none 0 0,.int .i64 (IntKind.i32.wrap (t.at 2).n),.slice none 0 0,.bool false,.slice none 0 0,.slice none 0 0,.int .i64 0,.slice none 0 0,.bool (t.at 3).null,.slice none 0 0,.slice none 0 0,.int .i64 0,.slice none 0 0,.bool false,.slice none 0 0,.slice none 0 0,.int .i64 0,.slice none 0 0,.bool false,.slice none 0 0,.slice none 0 0,.int .i64 0,.slice none 0 0,.bool false,.slice none 0 0,.slice none 0 0],37,(0,0)):=by rw [← nA,blk_wr_eq,show blk w17.drew (w.heap.size+1)=_ from pF];rfl
 have gG:Upd (fun b=>b=w.heap.size+1∨b=w.heap.size+2) w17 w18:=by rw [← nA];exact ((Upd.refl _ _).drew).wr _ _ (.inr (.inl rfl))
 have iP:Upd (fun b=>b=w.heap.size+1∨b=w.heap.size+2) w1 w18:=eH.trans gG
 have sN:=iP.size
 have uD:Ext w w18:=hE1.more iP fun b hb h=>by omega
 have A9:=uD.blk_some hb id
 have rY:blk w18 (w.heap.size+2)=some (#[.int .i64 0,.slice none 0 0,.bool false,.slice (some ⟨w.heap.size+1,0,none⟩) 7 7,.slice none 0 0],37,(0,0)):=by
  rw [← nA,blk_wr_ne (by omega)]
  exact rX
 clear nA
 repeat ((first|refine qA rfl ?_|apply qB|refine qC rfl ?_|apply qD|apply qE|apply qF|apply qG|apply qH);try simp (maxSteps:=1000000)(disch:=(first|omega|(simp only [qI,qJ,qK]<;>omega)|exact qL _)) only [go_sem,↓reduceIte,n0,reduceCtorEq,n1,n2,n3,n4,n5,i0,i1,i2,i3,i4,i5,i6,i7,A9,vO,rY,hq0,hq1,hq2,hq3,hq4,hq5,hq6,hq7,gQ,cX,gY])
 refine W.exitJ 2 (EndQ [(0,.pointer (some ⟨b,0,none⟩)),(2,.pointer (some ⟨w.heap.size,0,none⟩)),(3,.pointer (some ⟨w.heap.size+2,0,none⟩)),(96,.int .i64 L3.length)] (fun w'=>∃ v,blk w' (w.heap.size+1)=some (#[.int .i64 (IntKind.i16.wrap (t.at 0).n),.slice none 0 0,.bool false,.slice none 0 0,.slice none 0 0,.int .i64 0,.slice none 0 0,.bool (t.at 1).null,.slice av1 (List.map (tl1 (tlP (d+1)) fQ_1.of fQ_1.sub) L1).length kv1,.slice none 0 0,.int .i64 (IntKind.i32.wrap (t.at 2).n),.slice none 0 0,.bool false,.slice none 0 0,.slice none 0 0,.int .i64 0,.slice none 0 0,.bool (t.at 3).null,v,.slice none 0 0,.int .i64 0,.slice none 0 0,.bool false,.slice none 0 0,.slice none 0 0,.int .i64 0,.slice none 0 0,.bool false,.slice none 0 0,.slice none 0 0,.int .i64 0,.slice none 0 0,.bool false,.slice none 0 0,.slice none 0 0],37,(0,0))∧GrowT (fun b=>w1.heap.size≤b) w18.heap.size (w.heap.size+1) w' 37 v (L3.map (tl1 (tlP (d+1)) fQ_3.of fQ_3.sub))∧Upd (fun b=>b=w.heap.size+1) w18 w')) (W.loop (LoopL [(0,.pointer (some ⟨b,0,none⟩)),(2,.pointer (some ⟨w.heap.size,0,none⟩)),(3,.pointer (some ⟨w.heap.size+2,0,none⟩)),(96,.int .i64 L3.length)] 97 (fun j w'=>∃ v,j≤L3.length∧blk w' (w.heap.size+1)=some (#[.int .i64 (IntKind.i16.wrap (t.at 0).n),.slice none 0 0,.bool false,.slice none 0 0,.slice none 0 0,.int .i64 0,.slice none 0 0,.bool (t.at 1).null,.slice av1 (List.map (tl1 (tlP (d+1)) fQ_1.of fQ_1.sub) L1).length kv1,.slice none 0 0,.int .i64 (IntKind.i32.wrap (t.at 2).n),.slice none 0 0,.bool false,.slice none 0 0,.slice none 0 0,.int .i64 0,.slice none 0 0,.bool (t.at 3).null,v,.slice none 0 0,.int .i64 0,.slice none 0 0,.bool false,.slice none 0 0,.slice none 0 0,.int .i64 0,.slice none 0 0,.bool false,.slice none 0 0,.slice none 0 0,.int .i64 0,.slice none 0 0,.bool false,.slice none 0 0,.slice none 0 0],37,(0,0))∧GrowT (fun b=>w1.heap.size≤b) w18.heap.size (w.heap.size+1) w' 37 v ((L3.take j).map (tl1 (tlP (d+1)) fQ_3.of fQ_3.sub))∧Upd (fun b=>b=w.heap.size+1) w18 w')) (fun ρ _=>L3.length - (RowKit.intOf (ρ 97)).toNat) ?_ ?_) ?_
 ·exact ⟨(by simp (maxSteps:=1000000)(disch:=(first|omega|(simp only [qI,qJ,qK]<;>omega)|exact qL _)) only [go_sem,↓reduceIte,n0,reduceCtorEq,n1,n2,n3,n4,n5,i0,i1,i2,i3,i4,i5,i6,i7,Holds_nil,Holds_cons,gQ,cX,gY]),0,(by simp (maxSteps:=1000000)(disch:=(first|omega|(simp only [qI,qJ,qK]<;>omega)|exact qL _)) only [go_sem,↓reduceIte,n0,reduceCtorEq,n1,n2,n3,n4,n5,i0,i1,i2,i3,i4,i5,i6,i7,gQ,cX,gY];all_goals rfl),.slice none 0 0,Nat.zero_le _,vO,GrowT.nil _ _ _ _ _,Upd.refl _ _⟩
 ·rintro ρ w19 ⟨⟨aR,aT,aV,aW,-⟩,j,hri,v,hj,kI,hg,hUk⟩
  have hzk:=hUk.size
  have pA:Ext w w19:=uD.more hUk fun b hb h=>by omega
  have D0:w1.heap.size≤w19.heap.size:=by have:=sN;omega
  have mB:=pA.blk_some hb id
  have mX:=hUk.blk_some rY (by omega)
  by_cases hlt:j < L3.length
  ·obtain ⟨_,be,oe,xe,ce,hbe,hoke,hxe,hble,hxs,hxx,hqe,hRe⟩:=SlR.get (size:=4) (by decide) hs3 hlt
   subst hbe
   have hcat:L3.take (j+1)=L3.take j++[L3[j]]:=List.take_succ_eq_append_getElem hlt
   have hgy:=vH.2 _ (List.getElem_mem hlt)
   have hll:=vH.1
   obtain ⟨av,kv,hvs,_⟩:=hg.shape
   have hlj:(List.map (tl1 (tlP (d+1)) fQ_3.of fQ_3.sub) (L3.take j)).length=j:=by simp;omega
   rw [hlj] at hvs
   subst hvs
   have hnb:∀ b,b < w18.heap.size∨w19.heap.size≤b→¬ ownB (.slice av j kv) b:=fun b hb h=>by
    have:=hg.above h
    have:=hg.below h
    omega
   generalize L3[j] = y at *
   repeat ((first|refine qA rfl ?_|apply qB|refine qC rfl ?_|apply qD|apply qE|apply qF|apply qG|apply qH);try simp (maxSteps:=1000000)(disch:=(first|omega|(simp only [qI,qJ,qK]<;>omega)|exact qL _)) only [go_sem,↓reduceIte,n0,reduceCtorEq,n1,n2,n3,n4,n5,i0,i1,i2,i3,i4,i5,i6,i7,mB,kI,mX,hq0,hq1,hq2,hq3,hq4,hq5,hq6,hq7,aR,aT,aV,aW,hri])
   refine W.drawR (.only 0 (.two 1 (.only 2 (.only 3 .done)) 2 (.only 1 (.only 3 .done)))) NoB mixed (by kernel_rfl) ?_
   try simp (maxSteps:=1000000)(disch:=(first|omega|(simp only [qI,qJ,qK]<;>omega)|exact qL _)) only [go_sem,↓reduceIte,n0,reduceCtorEq,n1,n2,n3,n4,n5,i0,i1,i2,i3,i4,i5,i6,i7,mB,kI,mX,hq0,hq1,hq2,hq3,hq4,hq5,hq6,hq7,aR,aT,aV,aW,hri]
   have q0:Upd NoB w19.drew (w19.alloc (.cells #[.bool false] 4)).drew:=show Upd NoB w19.drew (w19.drew.alloc (.cells #[.bool false] 4)) from Upd.alloc (Upd.refl _ _) _
   have q1:Upd NoB w19.drew (wr (w19.alloc (.cells #[.bool false] 4)).drew w19.heap.size 0 [.bool true]):=q0.wr _ _ (.inl (Nat.le_refl _))
   have q2:Upd NoB w19.drew (wr (wr (w19.alloc (.cells #[.bool false] 4)).drew w19.heap.size 0 [.bool true]) w19.heap.size 0 [.bool false]):=q1.wr _ _ (.inl (Nat.le_refl _))
   have q3:Upd NoB w19.drew (wr (w19.alloc (.cells #[.bool false] 4)).drew w19.heap.size 0 [.bool false]):=q0.wr _ _ (.inl (Nat.le_refl _))
   have q4:Upd NoB w19.drew (wr (wr (w19.alloc (.cells #[.bool false] 4)).drew w19.heap.size 0 [.bool false]) w19.heap.size 0 [.bool true]):=q3.wr _ _ (.inl (Nat.le_refl _))
   refine ⟨q0,⟨q1,q2,q2,?_⟩,⟨q3,q4,q4,?_⟩⟩
   ·have iS:Ext w19 (wr (wr (w19.alloc (.cells #[.bool false] 4)).drew w19.heap.size 0 [.bool true]) w19.heap.size 0 [.bool false]):=((Upd.refl _ _).drew).trans q2
    generalize (wr (wr (w19.alloc (.cells #[.bool false] 4)).drew w19.heap.size 0 [.bool true]) w19.heap.size 0 [.bool false])=w20 at *
    have EI:=iS.size
    have uE:Ext w w20:=pA.trans iS
    have pD:=iS.blk_some mB id
    have mK:=iS.blk_some kI id
    have rZ:=iS.blk_some mX id
    have nE:=uE.blk_some hxe id
    repeat ((first|refine qA rfl ?_|apply qB|refine qC rfl ?_|apply qD|apply qE|apply qF|apply qG|apply qH);try simp (maxSteps:=1000000)(disch:=(first|omega|(simp only [qI,qJ,qK]<;>omega)|exact qL _)) only [go_sem,↓reduceIte,n0,reduceCtorEq,n1,n2,n3,n4,n5,i0,i1,i2,i3,i4,i5,i6,i7,pD,mK,rZ,nE,hq0,hq1,hq2,hq3,hq4,hq5,hq6,hq7,aR,aT,aV,aW,hri])
    refine W.drawR (.take 0 (.take 1 (.take 2 (.take 3 (.take 4 (.take 5 (.take 6 (.take 7 (.take 8 (.take 9 (.take 10 (.take 11 (.take 12 (.only 13 (.only 14 (.only 15 (.take 16 (.take 17 (.last 18))))))))))))))))))) (ownB (.slice av j kv)) mixed (by kernel_rfl) ?_
    try simp (maxSteps:=1000000)(disch:=(first|omega|(simp only [qI,qJ,qK]<;>omega)|exact qL _|(refine hnb _ ?_;first|omega|(simp only [World.size_alloc,size_wr,size_drew]<;>omega)))) only [go_sem,↓reduceIte,n0,reduceCtorEq,n1,n2,n3,n4,n5,i0,i1,i2,i3,i4,i5,i6,i7,pD,mK,rZ,nE,hq0,hq1,hq2,hq3,hq4,hq5,hq6,hq7,aR,aT,aV,aW,hri]
    have CT:=(Upd.refl _ _:Upd (ownB (.slice av j kv)) w20.drew w20.drew).blk_some (show blk w20.drew be=_ from nE) (hnb _ (.inl (by omega)))
    refine (tellX0_fn (d:=d) (ok:=ok) y ce w20.drew (b:=be) (o:=oe+j * 4) CT (fun k hk=>by have:=hqe k hk;rw [← Nat.add_assoc] at this;exact this) ((RepS_lay true _ _).keep (Rep1_part.1 hRe) ((((uE.drew).mono fun _ h=>h.elim).trans (Upd.refl _ _):Upd (ownB (.slice av j kv)) w w20.drew).keeps fun b hb _=>hnb b (.inl (by omega)))) (hgy.2.2 rfl)).mono ?_
    rintro _ w21 ⟨⟨c21,rfl,mE⟩,nU⟩
    obtain ⟨T21,tV⟩:∃ T,T=tlP (d+1) fs_X0 y:=⟨_,rfl⟩
    replace mE:TreeC (fun b=>w20.drew.heap.size≤b) w21 T21 c21:=by rw [tV];exact mE
    obtain ⟨vS21,vL21,vU21,rfl,E0,zA,yS,zM⟩:=mE.inv
    have k1_21:=zA.flat
    have k2_21:=SlR.flat yS
    have k3_21:=SlR.flat zM
    have tK:Upd (ownB (.slice av j kv)) w20.drew w21:=(Upd.refl _ _).trans (nU.mono fun _ h=>h.elim)
    have BW:=nU.size
    try simp only [size_drew] at BW
    refine ⟨tK,?_⟩
    try simp (maxSteps:=1000000)(disch:=(first|omega|(simp only [qI,qJ,qK]<;>omega)|exact qL _|(refine hnb _ ?_;first|omega|(simp only [World.size_alloc,size_wr,size_drew]<;>omega)))) only [go_sem,↓reduceIte,n0,reduceCtorEq,n1,n2,n3,n4,n5,i0,i1,i2,i3,i4,i5,i6,i7,pD,mK,rZ,nE,hq0,hq1,hq2,hq3,hq4,hq5,hq6,hq7,aR,aT,aV,aW,hri,k1_21,k2_21,k3_21]
    have tL:Upd (ownB (.slice av j kv)) w20.drew (w21.alloc (.cells #[.int .i64 T21.n,vS21,.bool T21.null,vL21,vU21] 37)):=show Upd (ownB (.slice av j kv)) w20.drew (w21.alloc (.cells #[.int .i64 T21.n,vS21,.bool T21.null,vL21,vU21] 37)) from (tK).alloc _
    have BB:blk (w21.alloc (.cells #[.int .i64 T21.n,vS21,.bool T21.null,vL21,vU21] 37)) w21.heap.size=some (#[.int .i64 T21.n,vS21,.bool T21.null,vL21,vU21],37,(0,0)):=show blk (w21.alloc (.cells #[.int .i64 T21.n,vS21,.bool T21.null,vL21,vU21] 37)) w21.heap.size=some (#[.int .i64 T21.n,vS21,.bool T21.null,vL21,vU21],37,(0,0)) from blk_alloc_new rfl
    have BX:(w21.alloc (.cells #[.int .i64 T21.n,vS21,.bool T21.null,vL21,vU21] 37)).heap.size=w21.heap.size+1:=show (w21.alloc (.cells #[.int .i64 T21.n,vS21,.bool T21.null,vL21,vU21] 37)).heap.size=w21.heap.size+1 from World.size_alloc _ _
    have t6:Ext w21 (w21.alloc (.cells #[.int .i64 T21.n,vS21,.bool T21.null,vL21,vU21] 37)):=show Ext w21 (w21.alloc (.cells #[.int .i64 T21.n,vS21,.bool T21.null,vL21,vU21] 37)) from Upd.alloc (Upd.refl _ _) _
    refine ⟨tL,?_⟩
    try simp only [List.append_nil]
    generalize (w21.alloc (.cells #[.int .i64 T21.n,vS21,.bool T21.null,vL21,vU21] 37))=w22 at *
    try simp only [size_drew] at BX
    have nM:Ext w19 w22:=((iS.drew.trans nU).trans t6)
    have EQ:=nM.size
    obtain ⟨css,hown,hall⟩:=(hg.ext nM).ex
    have hcl:=hall.1
    rw [hlj] at hcl
    have CI:TreeC (fun b=>(fun b=>w1.heap.size≤b) b∧b≠w.heap.size+1∧¬ ownB (.slice av j kv) b) w22 ((tl1 (tlP (d+1)) fQ_3.of fQ_3.sub) y) [.int .i64 T21.n,vS21,.bool T21.null,vL21,vU21]:=by
     rw [show (tl1 (tlP (d+1)) fQ_3.of fQ_3.sub) y=_ from tV.symm]
     exact TreeC.weaken (fun b _ hk=>⟨by omega,by omega,hnb b (.inr (by omega))⟩) (TreeC.weaken (ok':=fun b=>w19.heap.size≤b) (fun b _ hk=>by have hk':w20.drew.heap.size≤b:=hk;(try simp only [size_drew] at hk');omega) (TreeC.keep (Ext.keeps t6 _) mE))
    refine wp_append ap_34_34 (m:=1) (news:=[.int .i64 T21.n,vS21,.bool T21.null,vL21,vU21]) (n:=css.length) (cs:=css.flatten) (v:=(.slice av j kv)) ?_ rfl hown.1 (all2_flat_tree hall) (Src.blk (fr:=(0,0)) (T:=37) BB rfl (by simp only [List.all_cons,List.all_nil,flat_int,flat_bool,k1_21,k2_21,k3_21,Bool.and_self])) ?_ ?_ ?_
    ·first|rfl|simp (maxSteps:=1000000)(disch:=(first|omega|(simp only [qI,qJ,qK]<;>omega)|exact qL _)) only [go_sem,↓reduceIte,n0,reduceCtorEq,n1,n2,n3,n4,n5,i0,i1,i2,i3,i4,i5,i6,i7]
    ·omega
    ·omega
    intro v' w23 ho hu hfr
    have oG:=(tL:Upd (ownB (.slice av j kv)) w20.drew w22).trans hu
    have DB:=oG.size
    simp only [size_drew] at DB
    have pL:=oG.blk_some (show blk w20.drew (w.heap.size+1)=_ from mK) (hnb _ (.inl (by omega)))
    have hg':=GrowT.snoc hown hall CI hu hfr ho
    obtain ⟨va,vc,hv',_⟩:=ho.shape
    subst hv'
    have hne:¬ ownB (.slice va (css.length+1) vc) (w.heap.size+1):=fun h=>(hfr _ h).elim (hnb _ (.inl (by omega))) (fun h=>by omega)
    refine ⟨oG,?_⟩
    try simp (maxSteps:=1000000)(disch:=(first|omega|(simp only [qI,qJ,qK]<;>omega)|exact qL _|(refine hnb _ ?_;first|omega|(simp only [World.size_alloc,size_wr,size_drew]<;>omega)))) only [go_sem,↓reduceIte,n0,reduceCtorEq,n1,n2,n3,n4,n5,i0,i1,i2,i3,i4,i5,i6,i7,pL,aR,aT,aV,aW,hri]
    repeat ((first|refine qA rfl ?_|apply qB|refine qC rfl ?_|apply qD|apply qE|apply qF|apply qG|apply qH);try simp (maxSteps:=1000000)(disch:=(first|omega|(simp only [qI,qJ,qK]<;>omega)|exact qL _)) only [go_sem,↓reduceIte,n0,reduceCtorEq,n1,n2,n3,n4,n5,i0,i1,i2,i3,i4,i5,i6,i7,pL,aR,aT,aV,aW,hri])
    refine ⟨⟨(by simp (maxSteps:=1000000)(disch:=(first|omega|(simp only [qI,qJ,qK]<;>omega)|exact qL _)) only [go_sem,↓reduceIte,n0,reduceCtorEq,n1,n2,n3,n4,n5,i0,i1,i2,i3,i4,i5,i6,i7,Holds_nil,Holds_cons,aR,aT,aV,aW,hri]),j+1,(by simp (maxSteps:=1000000)(disch:=(first|omega|(simp only [qI,qJ,qK]<;>omega)|exact qL _)) only [go_sem,↓reduceIte,n0,reduceCtorEq,n1,n2,n3,n4,n5,i0,i1,i2,i3,i4,i5,i6,i7,aR,aT,aV,aW,hri];all_goals rfl),.slice va (css.length+1) vc,by omega,?_,?_,?_⟩,?_⟩
    ·rw [blk_wr_eq,pL];rfl
    ·rw [hcat,List.map_append];exact hg'.upd ((Upd.refl _ _).wr _ _ (.inr rfl)) hne
    ·refine Upd.wr ?_ _ _ (.inr rfl)
     exact (hUk.more ((nM.mono fun _ h=>h.elim).trans hu) fun b hb h=>absurd h (hnb b (.inl hb)))
    ·try simp (maxSteps:=1000000)(disch:=(first|omega|(simp only [qI,qJ,qK]<;>omega)|exact qL _)) only [go_sem,↓reduceIte,n0,reduceCtorEq,n1,n2,n3,n4,n5,i0,i1,i2,i3,i4,i5,i6,i7,aR,aT,aV,aW,hri]
     simp only [RowKit.intOf];omega
   ·have gM:Ext w19 (wr (wr (w19.alloc (.cells #[.bool false] 4)).drew w19.heap.size 0 [.bool false]) w19.heap.size 0 [.bool true]):=((Upd.refl _ _).drew).trans q4
    generalize (wr (wr (w19.alloc (.cells #[.bool false] 4)).drew w19.heap.size 0 [.bool false]) w19.heap.size 0 [.bool true])=w24 at *
    have EJ:=gM.size
    have pB:Ext w w24:=pA.trans gM
    have hb24:=gM.blk_some mB id
    have iV:=gM.blk_some kI id
    have mY:=gM.blk_some mX id
    have jB:=pB.blk_some hxe id
    repeat ((first|refine qA rfl ?_|apply qB|refine qC rfl ?_|apply qD|apply qE|apply qF|apply qG|apply qH);try simp (maxSteps:=1000000)(disch:=(first|omega|(simp only [qI,qJ,qK]<;>omega)|exact qL _)) only [go_sem,↓reduceIte,n0,reduceCtorEq,n1,n2,n3,n4,n5,i0,i1,i2,i3,i4,i5,i6,i7,hb24,iV,mY,jB,hq0,hq1,hq2,hq3,hq4,hq5,hq6,hq7,aR,aT,aV,aW,hri])
    refine W.drawR (.take 0 (.take 1 (.take 2 (.take 3 (.take 4 (.take 5 (.take 6 (.take 7 (.take 8 (.take 9 (.take 10 (.take 12 (.two 11 (.only 13 (.only 14 (.take 15 (.take 16 (.last 17))))) 13 (.only 11 (.only 14 (.take 15 (.take 16 (.last 17)))))))))))))))))) (ownB (.slice av j kv)) mixed (by kernel_rfl) ?_
    try simp (maxSteps:=1000000)(disch:=(first|omega|(simp only [qI,qJ,qK]<;>omega)|exact qL _|(refine hnb _ ?_;first|omega|(simp only [World.size_alloc,size_wr,size_drew]<;>omega)))) only [go_sem,↓reduceIte,n0,reduceCtorEq,n1,n2,n3,n4,n5,i0,i1,i2,i3,i4,i5,i6,i7,hb24,iV,mY,jB,hq0,hq1,hq2,hq3,hq4,hq5,hq6,hq7,aR,aT,aV,aW,hri]
    refine ⟨?_,?_⟩
    ·skip
     have CU:=(Upd.refl _ _:Upd (ownB (.slice av j kv)) w24.drew w24.drew).blk_some (show blk w24.drew be=_ from jB) (hnb _ (.inl (by omega)))
     refine (tellX0_fn (d:=d) (ok:=ok) y ce w24.drew (b:=be) (o:=oe+j * 4) CU (fun k hk=>by have:=hqe k hk;rw [← Nat.add_assoc] at this;exact this) ((RepS_lay true _ _).keep (Rep1_part.1 hRe) ((((pB.drew).mono fun _ h=>h.elim).trans (Upd.refl _ _):Upd (ownB (.slice av j kv)) w w24.drew).keeps fun b hb _=>hnb b (.inl (by omega)))) (hgy.2.2 rfl)).mono ?_
     rintro _ w25 ⟨⟨c25,rfl,mF⟩,nV⟩
     obtain ⟨T25,tW⟩:∃ T,T=tlP (d+1) fs_X0 y:=⟨_,rfl⟩
     replace mF:TreeC (fun b=>w24.drew.heap.size≤b) w25 T25 c25:=by rw [tW];exact mF
     obtain ⟨vS25,vL25,vU25,rfl,E1,zB,yU,zN⟩:=mF.inv
     have k1_25:=zB.flat
     have k2_25:=SlR.flat yU
     have k3_25:=SlR.flat zN
     have tM:Upd (ownB (.slice av j kv)) w24.drew w25:=(Upd.refl _ _).trans (nV.mono fun _ h=>h.elim)
     have BY:=nV.size
     try simp only [size_drew] at BY
     refine ⟨tM,?_⟩
     try simp (maxSteps:=1000000)(disch:=(first|omega|(simp only [qI,qJ,qK]<;>omega)|exact qL _|(refine hnb _ ?_;first|omega|(simp only [World.size_alloc,size_wr,size_drew]<;>omega)))) only [go_sem,↓reduceIte,n0,reduceCtorEq,n1,n2,n3,n4,n5,i0,i1,i2,i3,i4,i5,i6,i7,hb24,iV,mY,jB,hq0,hq1,hq2,hq3,hq4,hq5,hq6,hq7,aR,aT,aV,aW,hri,k1_25,k2_25,k3_25]
     have tN:Upd (ownB (.slice av j kv)) w24.drew (w25.alloc (.cells qZ5 37)):=show Upd (ownB (.slice av j kv)) w24.drew (w25.alloc (.cells qZ5 37)) from (tM).alloc _
     have BC:blk (w25.alloc (.cells qZ5 37)) w25.heap.size=some (qZ5,37,(0,0)):=show blk (w25.alloc (.cells qZ5 37)) w25.heap.size=some (qZ5,37,(0,0)) from blk_alloc_new rfl
     have BZ:(w25.alloc (.cells qZ5 37)).heap.size=w25.heap.size+1:=show (w25.alloc (.cells qZ5 37)).heap.size=w25.heap.size+1 from World.size_alloc _ _
     have t7:Ext w25 (w25.alloc (.cells qZ5 37)):=show Ext w25 (w25.alloc (.cells qZ5 37)) from Upd.alloc (Upd.refl _ _) _
     refine ⟨tN,?_⟩
     try simp only [List.append_nil]
     generalize (w25.alloc (.cells qZ5 37))=w26 at *
     try simp only [size_drew] at BZ
     have nN:Ext w19 w26:=((gM.drew.trans nV).trans t7)
     have ER:=nN.size
     obtain ⟨css,hown,hall⟩:=(hg.ext nN).ex
     have hcl:=hall.1
     rw [hlj] at hcl
     have CJ:TreeC (fun b=>(fun b=>w1.heap.size≤b) b∧b≠w.heap.size+1∧¬ ownB (.slice av j kv) b) w26 ((tl1 (tlP (d+1)) fQ_3.of fQ_3.sub) y) [.int .i64 T25.n,vS25,.bool T25.null,vL25,vU25]:=by
      rw [show (tl1 (tlP (d+1)) fQ_3.of fQ_3.sub) y=_ from tW.symm]
      exact TreeC.weaken (fun b _ hk=>⟨by omega,by omega,hnb b (.inr (by omega))⟩) (TreeC.weaken (ok':=fun b=>w19.heap.size≤b) (fun b _ hk=>by have hk':w24.drew.heap.size≤b:=hk;(try simp only [size_drew] at hk');omega) (TreeC.keep (Ext.keeps t7 _) mF))
     refine wp_append ap_34_34 (m:=1) (news:=[.int .i64 0,.slice none 0 0,.bool false,.slice none 0 0,.slice none 0 0]) (n:=css.length) (cs:=css.flatten) (v:=(.slice av j kv)) ?_ rfl hown.1 (all2_flat_tree hall) (Src.blk (fr:=(0,0)) (T:=37) BC rfl rfl) ?_ ?_ ?_
     ·first|rfl|simp (maxSteps:=1000000)(disch:=(first|omega|(simp only [qI,qJ,qK]<;>omega)|exact qL _)) only [go_sem,↓reduceIte,n0,reduceCtorEq,n1,n2,n3,n4,n5,i0,i1,i2,i3,i4,i5,i6,i7]
     ·omega
     ·omega
     intro v' w27 ho hu hfr
     have oH:=(tN:Upd (ownB (.slice av j kv)) w24.drew w26).trans hu
     have DC:=oH.size
     simp only [size_drew] at DC
     have pM:=oH.blk_some (show blk w24.drew (w.heap.size+1)=_ from iV) (hnb _ (.inl (by omega)))
     rcases ho.2 with ⟨_,h⟩|⟨g,cap,rest,fr,hv',hg',hbg,hlen,hth,hle⟩
     ·exact absurd h (Nat.succ_ne_zero _)
     subst hv'
     have hgne:¬ g=w.heap.size+1:=fun h=>(hfr g ⟨_,_,_,rfl,rfl⟩).elim (fun h'=>hnb _ (.inl (by omega)) (h ▸ h')) (fun h'=>by omega)
     have hfl:css.flatten.length=css.length * 5:=flatten_len hown.2
     have dY:(css.flatten++([.int .i64 0,.slice none 0 0,.bool false,.slice none 0 0,.slice none 0 0]:List Value)++rest).length=cap * 5:=by simp only [List.length_append] at hlen ⊢;omega
     obtain ⟨XX,hXX⟩:∃ X:Array Value,X=(css.flatten++([.int .i64 0,.slice none 0 0,.bool false,.slice none 0 0,.slice none 0 0]:List Value)++rest).toArray:=⟨_,rfl⟩
     have hbgX:blk w27 g=some (XX,37,fr):=by rw [hXX];exact hbg
     have hXsz:XX.size=cap * 5:=by rw [hXX,List.size_toArray];exact dY
     have b7:thaw fr (css.length * 5) 5=true:=thaw_of hth (by omega)
     have hst:css.length * 5+5≤XX.size:=by omega
     have hset:=Own.setlast (cs:=[.int .i64 T25.n,vS25,.bool T25.null,vL25,vU25]) ho rfl rfl
     have hu2:Upd (ownB (.slice av j kv)) w26 (wr w27 g (css.length * 5) [.int .i64 T25.n,vS25,.bool T25.null,vL25,vU25]):=hu.wr _ _ ((hfr g ⟨_,_,_,rfl,rfl⟩).symm)
     have hg2:=GrowT.snoc hown hall CJ hu2 hfr hset
     have hcj:css.length=j:=by first|exact hcl.symm.trans hlj|omega
     simp only [hcj] at b7 hst hset hu2 hg2
     refine ⟨oH,?_⟩
     try simp (maxSteps:=1000000)(disch:=(first|omega|(simp only [qI,qJ,qK]<;>omega)|exact qL _|(refine hnb _ ?_;first|omega|(simp only [World.size_alloc,size_wr,size_drew]<;>omega)))) only [go_sem,↓reduceIte,n0,reduceCtorEq,n1,n2,n3,n4,n5,i0,i1,i2,i3,i4,i5,i6,i7,pM,hbgX,b7,hst,hcj,k1_25,k2_25,k3_25,aR,aT,aV,aW,hri]
     repeat ((first|refine qA rfl ?_|apply qB|refine qC rfl ?_|apply qD|apply qE|apply qF|apply qG|apply qH);try simp (maxSteps:=1000000)(disch:=(first|omega|(simp only [qI,qJ,qK]<;>omega)|exact qL _)) only [go_sem,↓reduceIte,n0,reduceCtorEq,n1,n2,n3,n4,n5,i0,i1,i2,i3,i4,i5,i6,i7,pM,hbgX,b7,hst,hcj,k1_25,k2_25,k3_25,aR,aT,aV,aW,hri])
     refine ⟨⟨(by simp (maxSteps:=1000000)(disch:=(first|omega|(simp only [qI,qJ,qK]<;>omega)|exact qL _)) only [go_sem,↓reduceIte,n0,reduceCtorEq,n1,n2,n3,n4,n5,i0,i1,i2,i3,i4,i5,i6,i7,Holds_nil,Holds_cons,aR,aT,aV,aW,hri]),j+1,(by simp (maxSteps:=1000000)(disch:=(first|omega|(simp only [qI,qJ,qK]<;>omega)|exact qL _)) only [go_sem,↓reduceIte,n0,reduceCtorEq,n1,n2,n3,n4,n5,i0,i1,i2,i3,i4,i5,i6,i7,aR,aT,aV,aW,hri];all_goals rfl),.slice (some ⟨g,0,none⟩) (j+1) cap,by omega,?_,?_,?_⟩,?_⟩
     ·rw [blk_wr_ne (by omega),blk_wr_eq,pM];rfl
     ·rw [hcat,List.map_append,wr_comm (Ne.symm hgne)]
      exact hg2.upd ((Upd.refl _ _).wr _ _ (.inr rfl)) (fun h=>hgne (ownB_row h).symm)
     ·rw [wr_comm (Ne.symm hgne)]
      refine Upd.wr ?_ _ _ (.inr rfl)
      exact (hUk.more ((nN.mono fun _ h=>h.elim).trans hu2) fun b hb h=>absurd h (hnb b (.inl hb)))
     ·try simp (maxSteps:=1000000)(disch:=(first|omega|(simp only [qI,qJ,qK]<;>omega)|exact qL _)) only [go_sem,↓reduceIte,n0,reduceCtorEq,n1,n2,n3,n4,n5,i0,i1,i2,i3,i4,i5,i6,i7,aR,aT,aV,aW,hri]
      simp only [RowKit.intOf];omega
    ·skip
     have m4:Upd (ownB (.slice av j kv)) w24.drew (w24.alloc (.cells qZ5 37)).drew:=show Upd (ownB (.slice av j kv)) w24.drew (w24.drew.alloc (.cells qZ5 37)) from (Upd.refl _ _).alloc _
     have BD:blk (w24.alloc (.cells qZ5 37)).drew w24.drew.heap.size=some (qZ5,37,(0,0)):=show blk (w24.drew.alloc (.cells qZ5 37)) w24.drew.heap.size=some (qZ5,37,(0,0)) from blk_alloc_new rfl
     have C0:(w24.alloc (.cells qZ5 37)).drew.heap.size=w24.drew.heap.size+1:=show (w24.drew.alloc (.cells qZ5 37)).heap.size=w24.drew.heap.size+1 from World.size_alloc _ _
     have yF:Ext w24.drew (w24.alloc (.cells qZ5 37)).drew:=show Ext w24.drew (w24.drew.alloc (.cells qZ5 37)) from Upd.alloc (Upd.refl _ _) _
     refine ⟨m4,?_⟩
     try simp only [List.append_nil]
     generalize (w24.alloc (.cells qZ5 37)).drew=w28 at *
     try simp only [size_drew] at C0
     have CV:=(m4:Upd (ownB (.slice av j kv)) w24.drew w28).blk_some (show blk w24.drew be=_ from jB) (hnb _ (.inl (by omega)))
     refine (tellX0_fn (d:=d) (ok:=ok) y ce w28 (b:=be) (o:=oe+j * 4) CV (fun k hk=>by have:=hqe k hk;rw [← Nat.add_assoc] at this;exact this) ((RepS_lay true _ _).keep (Rep1_part.1 hRe) ((((pB.drew).mono fun _ h=>h.elim).trans (m4):Upd (ownB (.slice av j kv)) w w28).keeps fun b hb _=>hnb b (.inl (by omega)))) (hgy.2.2 rfl)).mono ?_
     rintro _ w29 ⟨⟨c29,rfl,mG⟩,lU⟩
     obtain ⟨T29,tX⟩:∃ T,T=tlP (d+1) fs_X0 y:=⟨_,rfl⟩
     replace mG:TreeC (fun b=>w28.heap.size≤b) w29 T29 c29:=by rw [tX];exact mG
     obtain ⟨vS29,vL29,vU29,rfl,E2,zC,yV,zO⟩:=mG.inv
     have k1_29:=zC.flat
     have k2_29:=SlR.flat yV
     have k3_29:=SlR.flat zO
     have tO:Upd (ownB (.slice av j kv)) w24.drew w29:=(m4).trans (lU.mono fun _ h=>h.elim)
     have C1:=lU.size
     try simp only [size_drew] at C1
     refine ⟨tO,?_⟩
     try simp (maxSteps:=1000000)(disch:=(first|omega|(simp only [qI,qJ,qK]<;>omega)|exact qL _|(refine hnb _ ?_;first|omega|(simp only [World.size_alloc,size_wr,size_drew]<;>omega)))) only [go_sem,↓reduceIte,n0,reduceCtorEq,n1,n2,n3,n4,n5,i0,i1,i2,i3,i4,i5,i6,i7,hb24,iV,mY,jB,hq0,hq1,hq2,hq3,hq4,hq5,hq6,hq7,aR,aT,aV,aW,hri,k1_29,k2_29,k3_29]
     have nO:Ext w19 w29:=((gM.drew.trans yF).trans lU)
     have ES:=nO.size
     obtain ⟨css,hown,hall⟩:=(hg.ext nO).ex
     have hcl:=hall.1
     rw [hlj] at hcl
     have CK:TreeC (fun b=>(fun b=>w1.heap.size≤b) b∧b≠w.heap.size+1∧¬ ownB (.slice av j kv) b) w29 ((tl1 (tlP (d+1)) fQ_3.of fQ_3.sub) y) [.int .i64 T29.n,vS29,.bool T29.null,vL29,vU29]:=by
      rw [show (tl1 (tlP (d+1)) fQ_3.of fQ_3.sub) y=_ from tX.symm]
      exact TreeC.weaken (fun b _ hk=>⟨by omega,by omega,hnb b (.inr (by omega))⟩) (TreeC.weaken (ok':=fun b=>w19.heap.size≤b) (fun b _ hk=>by have hk':w28.heap.size≤b:=hk;(try simp only [size_drew] at hk');omega) mG)
     refine wp_append ap_34_34 (m:=1) (news:=[.int .i64 0,.slice none 0 0,.bool false,.slice none 0 0,.slice none 0 0]) (n:=css.length) (cs:=css.flatten) (v:=(.slice av j kv)) ?_ rfl hown.1 (all2_flat_tree hall) (Src.blk (fr:=(0,0)) (T:=37) (lU.blk_some BD id) rfl rfl) ?_ ?_ ?_
     ·first|rfl|simp (maxSteps:=1000000)(disch:=(first|omega|(simp only [qI,qJ,qK]<;>omega)|exact qL _)) only [go_sem,↓reduceIte,n0,reduceCtorEq,n1,n2,n3,n4,n5,i0,i1,i2,i3,i4,i5,i6,i7]
     ·omega
     ·omega
     intro v' w30 ho hu hfr
     have oI:=(tO:Upd (ownB (.slice av j kv)) w24.drew w29).trans hu
     have DE:=oI.size
     simp only [size_drew] at DE
     have pN:=oI.blk_some (show blk w24.drew (w.heap.size+1)=_ from iV) (hnb _ (.inl (by omega)))
     rcases ho.2 with ⟨_,h⟩|⟨g,cap,rest,fr,hv',hg',hbg,hlen,hth,hle⟩
     ·exact absurd h (Nat.succ_ne_zero _)
     subst hv'
     have hgne:¬ g=w.heap.size+1:=fun h=>(hfr g ⟨_,_,_,rfl,rfl⟩).elim (fun h'=>hnb _ (.inl (by omega)) (h ▸ h')) (fun h'=>by omega)
     have hfl:css.flatten.length=css.length * 5:=flatten_len hown.2
     have dY:(css.flatten++([.int .i64 0,.slice none 0 0,.bool false,.slice none 0 0,.slice none 0 0]:List Value)++rest).length=cap * 5:=by simp only [List.length_append] at hlen ⊢;omega
     obtain ⟨XX,hXX⟩:∃ X:Array Value,X=(css.flatten++([.int .i64 0,.slice none 0 0,.bool false,.slice none 0 0,.slice none 0 0]:List Value)++rest).toArray:=⟨_,rfl⟩
     have hbgX:blk w30 g=some (XX,37,fr):=by rw [hXX];exact hbg
     have hXsz:XX.size=cap * 5:=by rw [hXX,List.size_toArray];exact dY
     have b7:thaw fr (css.length * 5) 5=true:=thaw_of hth (by omega)
     have hst:css.length * 5+5≤XX.size:=by omega
     have hset:=Own.setlast (cs:=[.int .i64 T29.n,vS29,.bool T29.null,vL29,vU29]) ho rfl rfl
     have hu2:Upd (ownB (.slice av j kv)) w29 (wr w30 g (css.length * 5) [.int .i64 T29.n,vS29,.bool T29.null,vL29,vU29]):=hu.wr _ _ ((hfr g ⟨_,_,_,rfl,rfl⟩).symm)
     have hg2:=GrowT.snoc hown hall CK hu2 hfr hset
     have hcj:css.length=j:=by first|exact hcl.symm.trans hlj|omega
     simp only [hcj] at b7 hst hset hu2 hg2
     refine ⟨oI,?_⟩
     try simp (maxSteps:=1000000)(disch:=(first|omega|(simp only [qI,qJ,qK]<;>omega)|exact qL _|(refine hnb _ ?_;first|omega|(simp only [World.size_alloc,size_wr,size_drew]<;>omega)))) only [go_sem,↓reduceIte,n0,reduceCtorEq,n1,n2,n3,n4,n5,i0,i1,i2,i3,i4,i5,i6,i7,pN,hbgX,b7,hst,hcj,k1_29,k2_29,k3_29,aR,aT,aV,aW,hri]
     repeat ((first|refine qA rfl ?_|apply qB|refine qC rfl ?_|apply qD|apply qE|apply qF|apply qG|apply qH);try simp (maxSteps:=1000000)(disch:=(first|omega|(simp only [qI,qJ,qK]<;>omega)|exact qL _)) only [go_sem,↓reduceIte,n0,reduceCtorEq,n1,n2,n3,n4,n5,i0,i1,i2,i3,i4,i5,i6,i7,pN,hbgX,b7,hst,hcj,k1_29,k2_29,k3_29,aR,aT,aV,aW,hri])
     refine ⟨⟨(by simp (maxSteps:=1000000)(disch:=(first|omega|(simp only [qI,qJ,qK]<;>omega)|exact qL _)) only [go_sem,↓reduceIte,n0,reduceCtorEq,n1,n2,n3,n4,n5,i0,i1,i2,i3,i4,i5,i6,i7,Holds_nil,Holds_cons,aR,aT,aV,aW,hri]),j+1,(by simp (maxSteps:=1000000)(disch:=(first|omega|(simp only [qI,qJ,qK]<;>omega)|exact qL _)) only [go_sem,↓reduceIte,n0,reduceCtorEq,n1,n2,n3,n4,n5,i0,i1,i2,i3,i4,i5,i6,i7,aR,aT,aV,aW,hri];all_goals rfl),.slice (some ⟨g,0,none⟩) (j+1) cap,by omega,?_,?_,?_⟩,?_⟩
     ·rw [blk_wr_ne (by omega),blk_wr_eq,pN];rfl
     ·rw [hcat,List.map_append,wr_comm (Ne.symm hgne)]
      exact hg2.upd ((Upd.refl _ _).wr _ _ (.inr rfl)) (fun h=>hgne (ownB_row h).symm)
     ·rw [wr_comm (Ne.symm hgne)]
      refine Upd.wr ?_ _ _ (.inr rfl)
      exact (hUk.more ((nO.mono fun _ h=>h.elim).trans hu2) fun b hb h=>absurd h (hnb b (.inl hb)))
     ·try simp (maxSteps:=1000000)(disch:=(first|omega|(simp only [qI,qJ,qK]<;>omega)|exact qL _)) only [go_sem,↓reduceIte,n0,reduceCtorEq,n1,n2,n3,n4,n5,i0,i1,i2,i3,i4,i5,i6,i7,aR,aT,aV,aW,hri]
      simp only [RowKit.intOf];omega
  ·have hjn:j=L3.length:=by omega
   subst hjn
   rw [List.take_length] at hg
   repeat ((first|refine qA rfl ?_|apply qB|refine qC rfl ?_|apply qD|apply qE|apply qF|apply qG|apply qH);try simp (maxSteps:=1000000)(disch:=(first|omega|(simp only [qI,qJ,qK]<;>omega)|exact qL _)) only [go_sem,↓reduceIte,n0,reduceCtorEq,n1,n2,n3,n4,n5,i0,i1,i2,i3,i4,i5,i6,i7,aR,aT,aV,aW,hri])
   exact ⟨(by simp (maxSteps:=1000000)(disch:=(first|omega|(simp only [qI,qJ,qK]<;>omega)|exact qL _)) only [go_sem,↓reduceIte,n0,reduceCtorEq,n1,n2,n3,n4,n5,i0,i1,i2,i3,i4,i5,i6,i7,Holds_nil,Holds_cons,aR,aT,aV,aW,hri]),v,kI,hg,hUk⟩
 rintro ρ w31 ⟨⟨iH,iI,iJ,E7,-⟩,v,pG,vE,u3⟩
 have dN:Upd (fun b=>b=w.heap.size+1∨b=w.heap.size+2) w18 w31:=u3.mono fun _ h=>.inl h
 have eI:Upd (fun b=>b=w.heap.size+1∨b=w.heap.size+2) w1 w31:=iP.trans dN
 have xR:=eI.size
 have gJ:Ext w w31:=hE1.more eI fun b hb h=>by omega
 have uW:=gJ.blk_some hb id
 have sB:=u3.blk_some rY (by omega)
 obtain ⟨av3,kv3,hvs,_⟩:=vE.shape
 subst hvs
 have hf3:TreeC (fun b=>w1.heap.size≤b) w31 (.mk 0 [] (t.at 3).null (L3.map (tl1 (tlP (d+1)) fQ_3.of fQ_3.sub)) []) [.int .i64 0,.slice none 0 0,.bool (t.at 3).null,.slice av3 (List.map (tl1 (tlP (d+1)) fQ_3.of fQ_3.sub) L3).length kv3,.slice none 0 0]:=TreeC.intro rfl (BytesV.nil _ _) (vE.trees (fun _ _ h=>h) (fun b hb=>by have:=sN;omega)) (tagsN _ _)
 repeat ((first|refine qA rfl ?_|apply qB|refine qC rfl ?_|apply qD|apply qE|apply qF|apply qG|apply qH);try simp (maxSteps:=1000000)(disch:=(first|omega|(simp only [qI,qJ,qK]<;>omega)|exact qL _)) only [go_sem,↓reduceIte,n0,reduceCtorEq,n1,n2,n3,n4,n5,i0,i1,i2,i3,i4,i5,i6,i7,uW,pG,sB,hq0,hq1,hq2,hq3,hq4,hq5,hq6,hq7,iH,iI,iJ])
 refine W.drawR (.take 0 (.take 1 (.take 2 (.take 3 (.take 4 (.take 5 (.only 6 (.take 7 (.last 8))))))))) (NoB) mixed (by kernel_rfl) ?_
 try simp (maxSteps:=1000000)(disch:=(first|omega|(simp only [qI,qJ,qK]<;>omega)|exact qL _)) only [go_sem,↓reduceIte,n0,reduceCtorEq,n1,n2,n3,n4,n5,i0,i1,i2,i3,i4,i5,i6,i7,uW,pG,sB,hq0,hq1,hq2,hq3,hq4,hq5,hq6,hq7,iH,iI,iJ]
 refine ⟨Upd.refl _ _,?_⟩
 have AZ:blk w31.drew (w.heap.size+1)=_:=pG
 have CL:Upd (fun b=>b=w.heap.size+1∨b=w.heap.size+2) w31 w31.drew:=(Upd.refl _ _).drew
 generalize nC:wr w31.drew (w.heap.size+1) 20 [.int .i64 ((t.at 4).n),.slice none 0 0,.bool false,.slice none 0 0,.slice none 0 0] = w32
 have pH:blk w32 (w.heap.size+1)=some (#[.int .i64 (IntKind.i16.wrap (t.at 0).n),.slice none 0 0,.bool false,.slice none 0 0,.slice none 0 0,.int .i64 0,.slice none 0 0,.bool (t.at 1).null,.slice av1 (List.map (tl1 (tlP (d+1)) fQ_1.of fQ_1.sub) L1).length kv1,.slice none 0 0,.int .i64 (IntKind.i32.wrap (t.at 2).n),.slice none 0 0,.bool false,.slice none 0 0,.slice none 0 0,.int .i64 0,.slice none 0 0,.bool (t.at 3).null,.slice av3 (List.map (tl1 (tlP (d+1)) fQ_3.of fQ_3.sub) L3).length kv3,.slice none 0 0,.int .i64 ((t.at 4).n),.slice none 0 0,.bool false,.slice none 0 0,.slice none 0 0,.int .i64 0,.slice none 0 0,.bool false,.slice none 0 0,.slice none 0 0,.int .i64 0,.slice none 0 0,.bool false,.slice none 0 0,.slice none 0 0],37,(0,0)):=by rw [← nC,blk_wr_eq,AZ];rfl
 have wT:Upd (fun b=>b=w.heap.size+1∨b=w.heap.size+2) w31.drew w32:=by rw [← nC];exact (Upd.refl _ _).wr _ _ (.inr (.inl rfl))
 have dO:Upd (fun b=>b=w.heap.size+1∨b=w.heap.size+2) w31 w32:=CL.trans wT
 have eJ:Upd (fun b=>b=w.heap.size+1∨b=w.heap.size+2) w1 w32:=eI.trans dO
 have xT:=eJ.size
 have gK:Ext w w32:=hE1.more eJ fun b hb h=>by omega
 have uX:=gK.blk_some hb id
 have ht32:blk w32 (w.heap.size+2)=some (#[.int .i64 0,.slice none 0 0,.bool false,.slice (some ⟨w.heap.size+1,0,none⟩) 7 7,.slice none 0 0],37,(0,0)):=by
  rw [← nC,blk_wr_ne (by omega)]
  exact sB
 clear nC
 have hf4:TreeC (fun b=>w1.heap.size≤b) w32 (.num ((t.at 4).n)) [.int .i64 ((t.at 4).n),.slice none 0 0,.bool false,.slice none 0 0,.slice none 0 0]:=(TreeC.keep (wT.keeps fun b hb hk e=>by have hk':w1.heap.size≤b:=hk;omega) (TreeC.intro (BI) (BytesV.nil _ _) (treesN _ _) (tagsN _ _):TreeC (fun b=>w1.heap.size≤b) w31.drew (.num ((t.at 4).n)) [.int .i64 ((t.at 4).n),.slice none 0 0,.bool false,.slice none 0 0,.slice none 0 0]))
 repeat ((first|refine qA rfl ?_|apply qB|refine qC rfl ?_|apply qD|apply qE|apply qF|apply qG|apply qH);try simp (maxSteps:=1000000)(disch:=(first|omega|(simp only [qI,qJ,qK]<;>omega)|exact qL _)) only [go_sem,↓reduceIte,n0,reduceCtorEq,n1,n2,n3,n4,n5,i0,i1,i2,i3,i4,i5,i6,i7,uX,pH,ht32,hq0,hq1,hq2,hq3,hq4,hq5,hq6,hq7,iH,iI,iJ])
 refine W.drawR (.take 0 (.take 1 (.take 2 (.take 3 (.take 4 (.take 5 (.take 6 (.take 7 (.take 8 (.last 9)))))))))) (NoB) mixed (by kernel_rfl) ?_
 try simp (maxSteps:=1000000)(disch:=(first|omega|(simp only [qI,qJ,qK]<;>omega)|exact qL _)) only [go_sem,↓reduceIte,n0,reduceCtorEq,n1,n2,n3,n4,n5,i0,i1,i2,i3,i4,i5,i6,i7,uX,pH,ht32,hq0,hq1,hq2,hq3,hq4,hq5,hq6,hq7,iH,iI,iJ,BL]
 generalize dJ:wr w32.drew (w.heap.size+1) 27 [.bool (t.at 5).null] = w33
 have vP:blk w33 (w.heap.size+1)=some (#[.int .i64 (IntKind.i16.wrap (t.at 0).n),.slice none 0 0,.bool false,.slice none 0 0,.slice none 0 0,.int .i64 0,.slice none 0 0,.bool (t.at 1).null,.slice av1 (List.map (tl1 (tlP (d+1)) fQ_1.of fQ_1.sub) L1).length kv1,.slice none 0 0,.int .i64 (IntKind.i32.wrap (t.at 2).n),.slice none 0 0,.bool false,.slice none 0 0,.slice none 0 0,.int .i64 0,.slice none 0 0,.bool (t.at 3).null,.slice av3 (List.map (tl1 (tlP (d+1)) fQ_3.of fQ_3.sub) L3).length kv3,.slice none 0 0,.int .i64 ((t.at 4).n),.slice none 0 0,.bool false,.slice none 0 0,.slice none 0 0,.int .i64 0,.slice none 0 0,.bool (t.at 5).null,.slice none 0 0,.slice none 0 0,.int .i64 0,.slice none 0 0,.bool false,.slice none 0 0,.slice none 0 0],37,(0,0)):=by rw [← dJ,blk_wr_eq,show blk w32.drew (w.heap.size+1)=_ from pH];rfl
 have dP:Upd (fun b=>b=w.heap.size+1∨b=w.heap.size+2) w32 w33:=by rw [← dJ];exact ((Upd.refl _ _).drew).wr _ _ (.inr (.inl rfl))
 have eK:Upd (fun b=>b=w.heap.size+1∨b=w.heap.size+2) w1 w33:=eJ.trans dP
 have nI:=eK.size
 have fH:Ext w w33:=hE1.more eK fun b hb h=>by omega
 have AA:=fH.blk_some hb id
 have sC:blk w33 (w.heap.size+2)=some (#[.int .i64 0,.slice none 0 0,.bool false,.slice (some ⟨w.heap.size+1,0,none⟩) 7 7,.slice none 0 0],37,(0,0)):=by
  rw [← dJ,blk_wr_ne (by omega)]
  exact ht32
 clear dJ
 repeat ((first|refine qA rfl ?_|apply qB|refine qC rfl ?_|apply qD|apply qE|apply qF|apply qG|apply qH);try simp (maxSteps:=1000000)(disch:=(first|omega|(simp only [qI,qJ,qK]<;>omega)|exact qL _)) only [go_sem,↓reduceIte,n0,reduceCtorEq,n1,n2,n3,n4,n5,i0,i1,i2,i3,i4,i5,i6,i7,AA,vP,sC,hq0,hq1,hq2,hq3,hq4,hq5,hq6,hq7,iH,iI,iJ])
 refine W.exitJ 4 (EndQ [(0,.pointer (some ⟨b,0,none⟩)),(2,.pointer (some ⟨w.heap.size,0,none⟩)),(3,.pointer (some ⟨w.heap.size+2,0,none⟩)),(160,.int .i64 L5.length)] (fun w'=>∃ v,blk w' (w.heap.size+1)=some (#[.int .i64 (IntKind.i16.wrap (t.at 0).n),.slice none 0 0,.bool false,.slice none 0 0,.slice none 0 0,.int .i64 0,.slice none 0 0,.bool (t.at 1).null,.slice av1 (List.map (tl1 (tlP (d+1)) fQ_1.of fQ_1.sub) L1).length kv1,.slice none 0 0,.int .i64 (IntKind.i32.wrap (t.at 2).n),.slice none 0 0,.bool false,.slice none 0 0,.slice none 0 0,.int .i64 0,.slice none 0 0,.bool (t.at 3).null,.slice av3 (List.map (tl1 (tlP (d+1)) fQ_3.of fQ_3.sub) L3).length kv3,.slice none 0 0,.int .i64 ((t.at 4).n),.slice none 0 0,.bool false,.slice none 0 0,.slice none 0 0,.int .i64 0,.slice none 0 0,.bool (t.at 5).null,v,.slice none 0 0,.int .i64 0,.slice none 0 0,.bool false,.slice none 0 0,.slice none 0 0],37,(0,0))∧GrowT (fun b=>w1.heap.size≤b) w33.heap.size (w.heap.size+1) w' 37 v (L5.map (tl1 (tlP (d+1)) fQ_5.of fQ_5.sub))∧Upd (fun b=>b=w.heap.size+1) w33 w')) (W.loop (LoopL [(0,.pointer (some ⟨b,0,none⟩)),(2,.pointer (some ⟨w.heap.size,0,none⟩)),(3,.pointer (some ⟨w.heap.size+2,0,none⟩)),(160,.int .i64 L5.length)] 161 (fun j w'=>∃ v,j≤L5.length∧blk w' (w.heap.size+1)=some (#[.int .i64 (IntKind.i16.wrap (t.at 0).n),.slice none 0 0,.bool false,.slice none 0 0,.slice none 0 0,.int .i64 0,.slice none 0 0,.bool (t.at 1).null,.slice av1 (List.map (tl1 (tlP (d+1)) fQ_1.of fQ_1.sub) L1).length kv1,.slice none 0 0,.int .i64 (IntKind.i32.wrap (t.at 2).n),.slice none 0 0,.bool false,.slice none 0 0,.slice none 0 0,.int .i64 0,.slice none 0 0,.bool (t.at 3).null,.slice av3 (List.map (tl1 (tlP (d+1)) fQ_3.of fQ_3.sub) L3).length kv3,.slice none 0 0,.int .i64 ((t.at 4).n),.slice none 0 0,.bool false,.slice none 0 0,.slice none 0 0,.int .i64 0,.slice none 0 0,.bool (t.at 5).null,v,.slice none 0 0,.int .i64 0,.slice none 0 0,.bool false,.slice none 0 0,.slice none 0 0],37,(0,0))∧GrowT (fun b=>w1.heap.size≤b) w33.heap.size (w.heap.size+1) w' 37 v ((L5.take j).map (tl1 (tlP (d+1)) fQ_5.of fQ_5.sub))∧Upd (fun b=>b=w.heap.size+1) w33 w')) (fun ρ _=>L5.length - (RowKit.intOf (ρ 161)).toNat) ?_ ?_) ?_
 ·exact ⟨(by simp (maxSteps:=1000000)(disch:=(first|omega|(simp only [qI,qJ,qK]<;>omega)|exact qL _)) only [go_sem,↓reduceIte,n0,reduceCtorEq,n1,n2,n3,n4,n5,i0,i1,i2,i3,i4,i5,i6,i7,Holds_nil,Holds_cons,iH,iI,iJ]),0,(by simp (maxSteps:=1000000)(disch:=(first|omega|(simp only [qI,qJ,qK]<;>omega)|exact qL _)) only [go_sem,↓reduceIte,n0,reduceCtorEq,n1,n2,n3,n4,n5,i0,i1,i2,i3,i4,i5,i6,i7,iH,iI,iJ];all_goals rfl),.slice none 0 0,Nat.zero_le _,vP,GrowT.nil _ _ _ _ _,Upd.refl _ _⟩
 ·rintro ρ w34 ⟨⟨aX,aZ,b5,aY,-⟩,j,hri,v,hj,kJ,hg,hUk⟩
  have hzk:=hUk.size
  have eQ:Ext w w34:=fH.more hUk fun b hb h=>by omega
  have xV:w1.heap.size≤w34.heap.size:=by have:=nI;omega
  have fJ:=eQ.blk_some hb id
  have mZ:=hUk.blk_some sC (by omega)
  by_cases hlt:j < L5.length
  ·obtain ⟨_,be,oe,xe,ce,hbe,hoke,hxe,hble,hxs,hxx,hqe,hRe⟩:=SlR.get (size:=4) (by decide) hs5 hlt
   subst hbe
   have hcat:L5.take (j+1)=L5.take j++[L5[j]]:=List.take_succ_eq_append_getElem hlt
   have hgy:=vI.2 _ (List.getElem_mem hlt)
   have hll:=vI.1
   obtain ⟨av,kv,hvs,_⟩:=hg.shape
   have hlj:(List.map (tl1 (tlP (d+1)) fQ_5.of fQ_5.sub) (L5.take j)).length=j:=by simp;omega
   rw [hlj] at hvs
   subst hvs
   have hnb:∀ b,b < w33.heap.size∨w34.heap.size≤b→¬ ownB (.slice av j kv) b:=fun b hb h=>by
    have:=hg.above h
    have:=hg.below h
    omega
   generalize L5[j] = y at *
   repeat ((first|refine qA rfl ?_|apply qB|refine qC rfl ?_|apply qD|apply qE|apply qF|apply qG|apply qH);try simp (maxSteps:=1000000)(disch:=(first|omega|(simp only [qI,qJ,qK]<;>omega)|exact qL _)) only [go_sem,↓reduceIte,n0,reduceCtorEq,n1,n2,n3,n4,n5,i0,i1,i2,i3,i4,i5,i6,i7,fJ,kJ,mZ,hq0,hq1,hq2,hq3,hq4,hq5,hq6,hq7,aX,aZ,b5,aY,hri])
   refine W.drawR (.only 0 (.two 1 (.only 2 (.only 3 .done)) 2 (.only 1 (.only 3 .done)))) NoB mixed (by kernel_rfl) ?_
   try simp (maxSteps:=1000000)(disch:=(first|omega|(simp only [qI,qJ,qK]<;>omega)|exact qL _)) only [go_sem,↓reduceIte,n0,reduceCtorEq,n1,n2,n3,n4,n5,i0,i1,i2,i3,i4,i5,i6,i7,fJ,kJ,mZ,hq0,hq1,hq2,hq3,hq4,hq5,hq6,hq7,aX,aZ,b5,aY,hri]
   have q0:Upd NoB w34.drew (w34.alloc (.cells #[.bool false] 4)).drew:=show Upd NoB w34.drew (w34.drew.alloc (.cells #[.bool false] 4)) from Upd.alloc (Upd.refl _ _) _
   have q1:Upd NoB w34.drew (wr (w34.alloc (.cells #[.bool false] 4)).drew w34.heap.size 0 [.bool true]):=q0.wr _ _ (.inl (Nat.le_refl _))
   have q2:Upd NoB w34.drew (wr (wr (w34.alloc (.cells #[.bool false] 4)).drew w34.heap.size 0 [.bool true]) w34.heap.size 0 [.bool false]):=q1.wr _ _ (.inl (Nat.le_refl _))
   have q3:Upd NoB w34.drew (wr (w34.alloc (.cells #[.bool false] 4)).drew w34.heap.size 0 [.bool false]):=q0.wr _ _ (.inl (Nat.le_refl _))
   have q4:Upd NoB w34.drew (wr (wr (w34.alloc (.cells #[.bool false] 4)).drew w34.heap.size 0 [.bool false]) w34.heap.size 0 [.bool true]):=q3.wr _ _ (.inl (Nat.le_refl _))
   refine ⟨q0,⟨q1,q2,q2,?_⟩,⟨q3,q4,q4,?_⟩⟩
   ·have iU:Ext w34 (wr (wr (w34.alloc (.cells #[.bool false] 4)).drew w34.heap.size 0 [.bool true]) w34.heap.size 0 [.bool false]):=((Upd.refl _ _).drew).trans q2
    generalize (wr (wr (w34.alloc (.cells #[.bool false] 4)).drew w34.heap.size 0 [.bool true]) w34.heap.size 0 [.bool false])=w35 at *
    have EK:=iU.size
    have fI:Ext w w35:=eQ.trans iU
    have pE:=iU.blk_some fJ id
    have mL:=iU.blk_some kJ id
    have sD:=iU.blk_some mZ id
    have nF:=fI.blk_some hxe id
    repeat ((first|refine qA rfl ?_|apply qB|refine qC rfl ?_|apply qD|apply qE|apply qF|apply qG|apply qH);try simp (maxSteps:=1000000)(disch:=(first|omega|(simp only [qI,qJ,qK]<;>omega)|exact qL _)) only [go_sem,↓reduceIte,n0,reduceCtorEq,n1,n2,n3,n4,n5,i0,i1,i2,i3,i4,i5,i6,i7,pE,mL,sD,nF,hq0,hq1,hq2,hq3,hq4,hq5,hq6,hq7,aX,aZ,b5,aY,hri])
    refine W.drawR (.take 0 (.take 1 (.take 2 (.take 3 (.take 4 (.take 5 (.take 6 (.take 7 (.take 8 (.take 9 (.take 10 (.take 11 (.take 12 (.only 13 (.only 14 (.only 15 (.take 16 (.take 17 (.last 18))))))))))))))))))) (ownB (.slice av j kv)) mixed (by kernel_rfl) ?_
    try simp (maxSteps:=1000000)(disch:=(first|omega|(simp only [qI,qJ,qK]<;>omega)|exact qL _|(refine hnb _ ?_;first|omega|(simp only [World.size_alloc,size_wr,size_drew]<;>omega)))) only [go_sem,↓reduceIte,n0,reduceCtorEq,n1,n2,n3,n4,n5,i0,i1,i2,i3,i4,i5,i6,i7,pE,mL,sD,nF,hq0,hq1,hq2,hq3,hq4,hq5,hq6,hq7,aX,aZ,b5,aY,hri]
    have CW:=(Upd.refl _ _:Upd (ownB (.slice av j kv)) w35.drew w35.drew).blk_some (show blk w35.drew be=_ from nF) (hnb _ (.inl (by omega)))
    refine (tellX1_fn (d:=d) (ok:=ok) y ce w35.drew (b:=be) (o:=oe+j * 4) CW (fun k hk=>by have:=hqe k hk;rw [← Nat.add_assoc] at this;exact this) ((RepS_lay true _ _).keep (Rep1_part.1 hRe) ((((fI.drew).mono fun _ h=>h.elim).trans (Upd.refl _ _):Upd (ownB (.slice av j kv)) w w35.drew).keeps fun b hb _=>hnb b (.inl (by omega)))) (hgy.2.2 rfl)).mono ?_
    rintro _ w36 ⟨⟨c36,rfl,mH⟩,nW⟩
    obtain ⟨T36,iN⟩:∃ T,T=tlP (d+1) fs_X1 y:=⟨_,rfl⟩
    replace mH:TreeC (fun b=>w35.drew.heap.size≤b) w36 T36 c36:=by rw [iN];exact mH
    obtain ⟨vS36,vL36,vU36,rfl,E3,zD,yW,zP⟩:=mH.inv
    have k1_36:=zD.flat
    have k2_36:=SlR.flat yW
    have k3_36:=SlR.flat zP
    have tP:Upd (ownB (.slice av j kv)) w35.drew w36:=(Upd.refl _ _).trans (nW.mono fun _ h=>h.elim)
    have C2:=nW.size
    try simp only [size_drew] at C2
    refine ⟨tP,?_⟩
    try simp (maxSteps:=1000000)(disch:=(first|omega|(simp only [qI,qJ,qK]<;>omega)|exact qL _|(refine hnb _ ?_;first|omega|(simp only [World.size_alloc,size_wr,size_drew]<;>omega)))) only [go_sem,↓reduceIte,n0,reduceCtorEq,n1,n2,n3,n4,n5,i0,i1,i2,i3,i4,i5,i6,i7,pE,mL,sD,nF,hq0,hq1,hq2,hq3,hq4,hq5,hq6,hq7,aX,aZ,b5,aY,hri,k1_36,k2_36,k3_36]
    have tQ:Upd (ownB (.slice av j kv)) w35.drew (w36.alloc (.cells #[.int .i64 T36.n,vS36,.bool T36.null,vL36,vU36] 37)):=show Upd (ownB (.slice av j kv)) w35.drew (w36.alloc (.cells #[.int .i64 T36.n,vS36,.bool T36.null,vL36,vU36] 37)) from (tP).alloc _
    have BE:blk (w36.alloc (.cells #[.int .i64 T36.n,vS36,.bool T36.null,vL36,vU36] 37)) w36.heap.size=some (#[.int .i64 T36.n,vS36,.bool T36.null,vL36,vU36],37,(0,0)):=show blk (w36.alloc (.cells #[.int .i64 T36.n,vS36,.bool T36.null,vL36,vU36] 37)) w36.heap.size=some (#[.int .i64 T36.n,vS36,.bool T36.null,vL36,vU36],37,(0,0)) from blk_alloc_new rfl
    have C3:(w36.alloc (.cells #[.int .i64 T36.n,vS36,.bool T36.null,vL36,vU36] 37)).heap.size=w36.heap.size+1:=show (w36.alloc (.cells #[.int .i64 T36.n,vS36,.bool T36.null,vL36,vU36] 37)).heap.size=w36.heap.size+1 from World.size_alloc _ _
    have t8:Ext w36 (w36.alloc (.cells #[.int .i64 T36.n,vS36,.bool T36.null,vL36,vU36] 37)):=show Ext w36 (w36.alloc (.cells #[.int .i64 T36.n,vS36,.bool T36.null,vL36,vU36] 37)) from Upd.alloc (Upd.refl _ _) _
    refine ⟨tQ,?_⟩
    try simp only [List.append_nil]
    generalize (w36.alloc (.cells #[.int .i64 T36.n,vS36,.bool T36.null,vL36,vU36] 37))=w37 at *
    try simp only [size_drew] at C3
    have nP:Ext w34 w37:=((iU.drew.trans nW).trans t8)
    have ET:=nP.size
    obtain ⟨css,hown,hall⟩:=(hg.ext nP).ex
    have hcl:=hall.1
    rw [hlj] at hcl
    have CM:TreeC (fun b=>(fun b=>w1.heap.size≤b) b∧b≠w.heap.size+1∧¬ ownB (.slice av j kv) b) w37 ((tl1 (tlP (d+1)) fQ_5.of fQ_5.sub) y) [.int .i64 T36.n,vS36,.bool T36.null,vL36,vU36]:=by
     rw [show (tl1 (tlP (d+1)) fQ_5.of fQ_5.sub) y=_ from iN.symm]
     exact TreeC.weaken (fun b _ hk=>⟨by omega,by omega,hnb b (.inr (by omega))⟩) (TreeC.weaken (ok':=fun b=>w34.heap.size≤b) (fun b _ hk=>by have hk':w35.drew.heap.size≤b:=hk;(try simp only [size_drew] at hk');omega) (TreeC.keep (Ext.keeps t8 _) mH))
    refine wp_append ap_34_34 (m:=1) (news:=[.int .i64 T36.n,vS36,.bool T36.null,vL36,vU36]) (n:=css.length) (cs:=css.flatten) (v:=(.slice av j kv)) ?_ rfl hown.1 (all2_flat_tree hall) (Src.blk (fr:=(0,0)) (T:=37) BE rfl (by simp only [List.all_cons,List.all_nil,flat_int,flat_bool,k1_36,k2_36,k3_36,Bool.and_self])) ?_ ?_ ?_
    ·first|rfl|simp (maxSteps:=1000000)(disch:=(first|omega|(simp only [qI,qJ,qK]<;>omega)|exact qL _)) only [go_sem,↓reduceIte,n0,reduceCtorEq,n1,n2,n3,n4,n5,i0,i1,i2,i3,i4,i5,i6,i7]
    ·omega
    ·omega
    intro v' w38 ho hu hfr
    have oJ:=(tQ:Upd (ownB (.slice av j kv)) w35.drew w37).trans hu
    have DF:=oJ.size
    simp only [size_drew] at DF
    have pO:=oJ.blk_some (show blk w35.drew (w.heap.size+1)=_ from mL) (hnb _ (.inl (by omega)))
    have hg':=GrowT.snoc hown hall CM hu hfr ho
    obtain ⟨va,vc,hv',_⟩:=ho.shape
    subst hv'
    have hne:¬ ownB (.slice va (css.length+1) vc) (w.heap.size+1):=fun h=>(hfr _ h).elim (hnb _ (.inl (by omega))) (fun h=>by omega)
    refine ⟨oJ,?_⟩
    try simp (maxSteps:=1000000)(disch:=(first|omega|(simp only [qI,qJ,qK]<;>omega)|exact qL _|(refine hnb _ ?_;first|omega|(simp only [World.size_alloc,size_wr,size_drew]<;>omega)))) only [go_sem,↓reduceIte,n0,reduceCtorEq,n1,n2,n3,n4,n5,i0,i1,i2,i3,i4,i5,i6,i7,pO,aX,aZ,b5,aY,hri]
    repeat ((first|refine qA rfl ?_|apply qB|refine qC rfl ?_|apply qD|apply qE|apply qF|apply qG|apply qH);try simp (maxSteps:=1000000)(disch:=(first|omega|(simp only [qI,qJ,qK]<;>omega)|exact qL _)) only [go_sem,↓reduceIte,n0,reduceCtorEq,n1,n2,n3,n4,n5,i0,i1,i2,i3,i4,i5,i6,i7,pO,aX,aZ,b5,aY,hri])
    refine ⟨⟨(by simp (maxSteps:=1000000)(disch:=(first|omega|(simp only [qI,qJ,qK]<;>omega)|exact qL _)) only [go_sem,↓reduceIte,n0,reduceCtorEq,n1,n2,n3,n4,n5,i0,i1,i2,i3,i4,i5,i6,i7,Holds_nil,Holds_cons,aX,aZ,b5,aY,hri]),j+1,(by simp (maxSteps:=1000000)(disch:=(first|omega|(simp only [qI,qJ,qK]<;>omega)|exact qL _)) only [go_sem,↓reduceIte,n0,reduceCtorEq,n1,n2,n3,n4,n5,i0,i1,i2,i3,i4,i5,i6,i7,aX,aZ,b5,aY,hri];all_goals rfl),.slice va (css.length+1) vc,by omega,?_,?_,?_⟩,?_⟩
    ·rw [blk_wr_eq,pO];rfl
    ·rw [hcat,List.map_append];exact hg'.upd ((Upd.refl _ _).wr _ _ (.inr rfl)) hne
    ·refine Upd.wr ?_ _ _ (.inr rfl)
     exact (hUk.more ((nP.mono fun _ h=>h.elim).trans hu) fun b hb h=>absurd h (hnb b (.inl hb)))
    ·try simp (maxSteps:=1000000)(disch:=(first|omega|(simp only [qI,qJ,qK]<;>omega)|exact qL _)) only [go_sem,↓reduceIte,n0,reduceCtorEq,n1,n2,n3,n4,n5,i0,i1,i2,i3,i4,i5,i6,i7,aX,aZ,b5,aY,hri]
     simp only [RowKit.intOf];omega
   ·have gN:Ext w34 (wr (wr (w34.alloc (.cells #[.bool false] 4)).drew w34.heap.size 0 [.bool false]) w34.heap.size 0 [.bool true]):=((Upd.refl _ _).drew).trans q4
    generalize (wr (wr (w34.alloc (.cells #[.bool false] 4)).drew w34.heap.size 0 [.bool false]) w34.heap.size 0 [.bool true])=w39 at *
    have EL:=gN.size
    have pC:Ext w w39:=eQ.trans gN
    have mC:=gN.blk_some fJ id
    have iW:=gN.blk_some kJ id
    have n7:=gN.blk_some mZ id
    have jC:=pC.blk_some hxe id
    repeat ((first|refine qA rfl ?_|apply qB|refine qC rfl ?_|apply qD|apply qE|apply qF|apply qG|apply qH);try simp (maxSteps:=1000000)(disch:=(first|omega|(simp only [qI,qJ,qK]<;>omega)|exact qL _)) only [go_sem,↓reduceIte,n0,reduceCtorEq,n1,n2,n3,n4,n5,i0,i1,i2,i3,i4,i5,i6,i7,mC,iW,n7,jC,hq0,hq1,hq2,hq3,hq4,hq5,hq6,hq7,aX,aZ,b5,aY,hri])
    refine W.drawR (.take 0 (.take 1 (.take 2 (.take 3 (.take 4 (.take 5 (.take 6 (.take 7 (.take 8 (.take 9 (.take 10 (.take 12 (.two 11 (.only 13 (.only 14 (.take 15 (.take 16 (.last 17))))) 13 (.only 11 (.only 14 (.take 15 (.take 16 (.last 17)))))))))))))))))) (ownB (.slice av j kv)) mixed (by kernel_rfl) ?_
    try simp (maxSteps:=1000000)(disch:=(first|omega|(simp only [qI,qJ,qK]<;>omega)|exact qL _|(refine hnb _ ?_;first|omega|(simp only [World.size_alloc,size_wr,size_drew]<;>omega)))) only [go_sem,↓reduceIte,n0,reduceCtorEq,n1,n2,n3,n4,n5,i0,i1,i2,i3,i4,i5,i6,i7,mC,iW,n7,jC,hq0,hq1,hq2,hq3,hq4,hq5,hq6,hq7,aX,aZ,b5,aY,hri]
    refine ⟨?_,?_⟩
    ·skip
     have CX:=(Upd.refl _ _:Upd (ownB (.slice av j kv)) w39.drew w39.drew).blk_some (show blk w39.drew be=_ from jC) (hnb _ (.inl (by omega)))
     refine (tellX1_fn (d:=d) (ok:=ok) y ce w39.drew (b:=be) (o:=oe+j * 4) CX (fun k hk=>by have:=hqe k hk;rw [← Nat.add_assoc] at this;exact this) ((RepS_lay true _ _).keep (Rep1_part.1 hRe) ((((pC.drew).mono fun _ h=>h.elim).trans (Upd.refl _ _):Upd (ownB (.slice av j kv)) w w39.drew).keeps fun b hb _=>hnb b (.inl (by omega)))) (hgy.2.2 rfl)).mono ?_
     rintro _ w40 ⟨⟨c40,rfl,mI⟩,nX⟩
     obtain ⟨T40,tY⟩:∃ T,T=tlP (d+1) fs_X1 y:=⟨_,rfl⟩
     replace mI:TreeC (fun b=>w39.drew.heap.size≤b) w40 T40 c40:=by rw [tY];exact mI
     obtain ⟨vS40,vL40,vU40,rfl,E4,zE,yX,zQ⟩:=mI.inv
     have k1_40:=zE.flat
     have k2_40:=SlR.flat yX
     have k3_40:=SlR.flat zQ
     have tR:Upd (ownB (.slice av j kv)) w39.drew w40:=(Upd.refl _ _).trans (nX.mono fun _ h=>h.elim)
     have C4:=nX.size
     try simp only [size_drew] at C4
     refine ⟨tR,?_⟩
     try simp (maxSteps:=1000000)(disch:=(first|omega|(simp only [qI,qJ,qK]<;>omega)|exact qL _|(refine hnb _ ?_;first|omega|(simp only [World.size_alloc,size_wr,size_drew]<;>omega)))) only [go_sem,↓reduceIte,n0,reduceCtorEq,n1,n2,n3,n4,n5,i0,i1,i2,i3,i4,i5,i6,i7,mC,iW,n7,jC,hq0,hq1,hq2,hq3,hq4,hq5,hq6,hq7,aX,aZ,b5,aY,hri,k1_40,k2_40,k3_40]
     have tS:Upd (ownB (.slice av j kv)) w39.drew (w40.alloc (.cells qZ5 37)):=show Upd (ownB (.slice av j kv)) w39.drew (w40.alloc (.cells qZ5 37)) from (tR).alloc _
     have BF:blk (w40.alloc (.cells qZ5 37)) w40.heap.size=some (qZ5,37,(0,0)):=show blk (w40.alloc (.cells qZ5 37)) w40.heap.size=some (qZ5,37,(0,0)) from blk_alloc_new rfl
     have C5:(w40.alloc (.cells qZ5 37)).heap.size=w40.heap.size+1:=show (w40.alloc (.cells qZ5 37)).heap.size=w40.heap.size+1 from World.size_alloc _ _
     have tA:Ext w40 (w40.alloc (.cells qZ5 37)):=show Ext w40 (w40.alloc (.cells qZ5 37)) from Upd.alloc (Upd.refl _ _) _
     refine ⟨tS,?_⟩
     try simp only [List.append_nil]
     generalize (w40.alloc (.cells qZ5 37))=w41 at *
     try simp only [size_drew] at C5
     have nQ:Ext w34 w41:=((gN.drew.trans nX).trans tA)
     have EU:=nQ.size
     obtain ⟨css,hown,hall⟩:=(hg.ext nQ).ex
     have hcl:=hall.1
     rw [hlj] at hcl
     have CN:TreeC (fun b=>(fun b=>w1.heap.size≤b) b∧b≠w.heap.size+1∧¬ ownB (.slice av j kv) b) w41 ((tl1 (tlP (d+1)) fQ_5.of fQ_5.sub) y) [.int .i64 T40.n,vS40,.bool T40.null,vL40,vU40]:=by
      rw [show (tl1 (tlP (d+1)) fQ_5.of fQ_5.sub) y=_ from tY.symm]
      exact TreeC.weaken (fun b _ hk=>⟨by omega,by omega,hnb b (.inr (by omega))⟩) (TreeC.weaken (ok':=fun b=>w34.heap.size≤b) (fun b _ hk=>by have hk':w39.drew.heap.size≤b:=hk;(try simp only [size_drew] at hk');omega) (TreeC.keep (Ext.keeps tA _) mI))
     refine wp_append ap_34_34 (m:=1) (news:=[.int .i64 0,.slice none 0 0,.bool false,.slice none 0 0,.slice none 0 0]) (n:=css.length) (cs:=css.flatten) (v:=(.slice av j kv)) ?_ rfl hown.1 (all2_flat_tree hall) (Src.blk (fr:=(0,0)) (T:=37) BF rfl rfl) ?_ ?_ ?_
     ·first|rfl|simp (maxSteps:=1000000)(disch:=(first|omega|(simp only [qI,qJ,qK]<;>omega)|exact qL _)) only [go_sem,↓reduceIte,n0,reduceCtorEq,n1,n2,n3,n4,n5,i0,i1,i2,i3,i4,i5,i6,i7]
     ·omega
     ·omega
     intro v' w42 ho hu hfr
     have oK:=(tS:Upd (ownB (.slice av j kv)) w39.drew w41).trans hu
     have DG:=oK.size
     simp only [size_drew] at DG
     have pP:=oK.blk_some (show blk w39.drew (w.heap.size+1)=_ from iW) (hnb _ (.inl (by omega)))
     rcases ho.2 with ⟨_,h⟩|⟨g,cap,rest,fr,hv',hg',hbg,hlen,hth,hle⟩
     ·exact absurd h (Nat.succ_ne_zero _)
     subst hv'
     have hgne:¬ g=w.heap.size+1:=fun h=>(hfr g ⟨_,_,_,rfl,rfl⟩).elim (fun h'=>hnb _ (.inl (by omega)) (h ▸ h')) (fun h'=>by omega)
     have hfl:css.flatten.length=css.length * 5:=flatten_len hown.2
     have dY:(css.flatten++([.int .i64 0,.slice none 0 0,.bool false,.slice none 0 0,.slice none 0 0]:List Value)++rest).length=cap * 5:=by simp only [List.length_append] at hlen ⊢;omega
     obtain ⟨XX,hXX⟩:∃ X:Array Value,X=(css.flatten++([.int .i64 0,.slice none 0 0,.bool false,.slice none 0 0,.slice none 0 0]:List Value)++rest).toArray:=⟨_,rfl⟩
     have hbgX:blk w42 g=some (XX,37,fr):=by rw [hXX];exact hbg
     have hXsz:XX.size=cap * 5:=by rw [hXX,List.size_toArray];exact dY
     have b7:thaw fr (css.length * 5) 5=true:=thaw_of hth (by omega)
     have hst:css.length * 5+5≤XX.size:=by omega
     have hset:=Own.setlast (cs:=[.int .i64 T40.n,vS40,.bool T40.null,vL40,vU40]) ho rfl rfl
     have hu2:Upd (ownB (.slice av j kv)) w41 (wr w42 g (css.length * 5) [.int .i64 T40.n,vS40,.bool T40.null,vL40,vU40]):=hu.wr _ _ ((hfr g ⟨_,_,_,rfl,rfl⟩).symm)
     have hg2:=GrowT.snoc hown hall CN hu2 hfr hset
     have hcj:css.length=j:=by first|exact hcl.symm.trans hlj|omega
     simp only [hcj] at b7 hst hset hu2 hg2
     refine ⟨oK,?_⟩
     try simp (maxSteps:=1000000)(disch:=(first|omega|(simp only [qI,qJ,qK]<;>omega)|exact qL _|(refine hnb _ ?_;first|omega|(simp only [World.size_alloc,size_wr,size_drew]<;>omega)))) only [go_sem,↓reduceIte,n0,reduceCtorEq,n1,n2,n3,n4,n5,i0,i1,i2,i3,i4,i5,i6,i7,pP,hbgX,b7,hst,hcj,k1_40,k2_40,k3_40,aX,aZ,b5,aY,hri]
     repeat ((first|refine qA rfl ?_|apply qB|refine qC rfl ?_|apply qD|apply qE|apply qF|apply qG|apply qH);try simp (maxSteps:=1000000)(disch:=(first|omega|(simp only [qI,qJ,qK]<;>omega)|exact qL _)) only [go_sem,↓reduceIte,n0,reduceCtorEq,n1,n2,n3,n4,n5,i0,i1,i2,i3,i4,i5,i6,i7,pP,hbgX,b7,hst,hcj,k1_40,k2_40,k3_40,aX,aZ,b5,aY,hri])
     refine ⟨⟨(by simp (maxSteps:=1000000)(disch:=(first|omega|(simp only [qI,qJ,qK]<;>omega)|exact qL _)) only [go_sem,↓reduceIte,n0,reduceCtorEq,n1,n2,n3,n4,n5,i0,i1,i2,i3,i4,i5,i6,i7,Holds_nil,Holds_cons,aX,aZ,b5,aY,hri]),j+1,(by simp (maxSteps:=1000000)(disch:=(first|omega|(simp only [qI,qJ,qK]<;>omega)|exact qL _)) only [go_sem,↓reduceIte,n0,reduceCtorEq,n1,n2,n3,n4,n5,i0,i1,i2,i3,i4,i5,i6,i7,aX,aZ,b5,aY,hri];all_goals rfl),.slice (some ⟨g,0,none⟩) (j+1) cap,by omega,?_,?_,?_⟩,?_⟩
     ·rw [blk_wr_ne (by omega),blk_wr_eq,pP];rfl
     ·rw [hcat,List.map_append,wr_comm (Ne.symm hgne)]
      exact hg2.upd ((Upd.refl _ _).wr _ _ (.inr rfl)) (fun h=>hgne (ownB_row h).symm)
     ·rw [wr_comm (Ne.symm hgne)]
      refine Upd.wr ?_ _ _ (.inr rfl)
      exact (hUk.more ((nQ.mono fun _ h=>h.elim).trans hu2) fun b hb h=>absurd h (hnb b (.inl hb)))
     ·try simp (maxSteps:=1000000)(disch:=(first|omega|(simp only [qI,qJ,qK]<;>omega)|exact qL _)) only [go_sem,↓reduceIte,n0,reduceCtorEq,n1,n2,n3,n4,n5,i0,i1,i2,i3,i4,i5,i6,i7,aX,aZ,b5,aY,hri]
      simp only [RowKit.intOf];omega
    ·skip
     have m5:Upd (ownB (.slice av j kv)) w39.drew (w39.alloc (.cells qZ5 37)).drew:=show Upd (ownB (.slice av j kv)) w39.drew (w39.drew.alloc (.cells qZ5 37)) from (Upd.refl _ _).alloc _
     have BG:blk (w39.alloc (.cells qZ5 37)).drew w39.drew.heap.size=some (qZ5,37,(0,0)):=show blk (w39.drew.alloc (.cells qZ5 37)) w39.drew.heap.size=some (qZ5,37,(0,0)) from blk_alloc_new rfl
     have C6:(w39.alloc (.cells qZ5 37)).drew.heap.size=w39.drew.heap.size+1:=show (w39.drew.alloc (.cells qZ5 37)).heap.size=w39.drew.heap.size+1 from World.size_alloc _ _
     have yG:Ext w39.drew (w39.alloc (.cells qZ5 37)).drew:=show Ext w39.drew (w39.drew.alloc (.cells qZ5 37)) from Upd.alloc (Upd.refl _ _) _
     refine ⟨m5,?_⟩
     try simp only [List.append_nil]
     generalize (w39.alloc (.cells qZ5 37)).drew=w43 at *
     try simp only [size_drew] at C6
     have CY:=(m5:Upd (ownB (.slice av j kv)) w39.drew w43).blk_some (show blk w39.drew be=_ from jC) (hnb _ (.inl (by omega)))
     refine (tellX1_fn (d:=d) (ok:=ok) y ce w43 (b:=be) (o:=oe+j * 4) CY (fun k hk=>by have:=hqe k hk;rw [← Nat.add_assoc] at this;exact this) ((RepS_lay true _ _).keep (Rep1_part.1 hRe) ((((pC.drew).mono fun _ h=>h.elim).trans (m5):Upd (ownB (.slice av j kv)) w w43).keeps fun b hb _=>hnb b (.inl (by omega)))) (hgy.2.2 rfl)).mono ?_
     rintro _ w44 ⟨⟨c44,rfl,mJ⟩,lV⟩
     obtain ⟨T44,tZ⟩:∃ T,T=tlP (d+1) fs_X1 y:=⟨_,rfl⟩
     replace mJ:TreeC (fun b=>w43.heap.size≤b) w44 T44 c44:=by rw [tZ];exact mJ
     obtain ⟨vS44,vL44,vU44,rfl,E5,zF,yY,zR⟩:=mJ.inv
     have k1_44:=zF.flat
     have k2_44:=SlR.flat yY
     have k3_44:=SlR.flat zR
     have tT:Upd (ownB (.slice av j kv)) w39.drew w44:=(m5).trans (lV.mono fun _ h=>h.elim)
     have C7:=lV.size
     try simp only [size_drew] at C7
     refine ⟨tT,?_⟩
     try simp (maxSteps:=1000000)(disch:=(first|omega|(simp only [qI,qJ,qK]<;>omega)|exact qL _|(refine hnb _ ?_;first|omega|(simp only [World.size_alloc,size_wr,size_drew]<;>omega)))) only [go_sem,↓reduceIte,n0,reduceCtorEq,n1,n2,n3,n4,n5,i0,i1,i2,i3,i4,i5,i6,i7,mC,iW,n7,jC,hq0,hq1,hq2,hq3,hq4,hq5,hq6,hq7,aX,aZ,b5,aY,hri,k1_44,k2_44,k3_44]
     have nR:Ext w34 w44:=((gN.drew.trans yG).trans lV)
     have EV:=nR.size
     obtain ⟨css,hown,hall⟩:=(hg.ext nR).ex
     have hcl:=hall.1
     rw [hlj] at hcl
     have CO:TreeC (fun b=>(fun b=>w1.heap.size≤b) b∧b≠w.heap.size+1∧¬ ownB (.slice av j kv) b) w44 ((tl1 (tlP (d+1)) fQ_5.of fQ_5.sub) y) [.int .i64 T44.n,vS44,.bool T44.null,vL44,vU44]:=by
      rw [show (tl1 (tlP (d+1)) fQ_5.of fQ_5.sub) y=_ from tZ.symm]
      exact TreeC.weaken (fun b _ hk=>⟨by omega,by omega,hnb b (.inr (by omega))⟩) (TreeC.weaken (ok':=fun b=>w34.heap.size≤b) (fun b _ hk=>by have hk':w43.heap.size≤b:=hk;(try simp only [size_drew] at hk');omega) mJ)
     refine wp_append ap_34_34 (m:=1) (news:=[.int .i64 0,.slice none 0 0,.bool false,.slice none 0 0,.slice none 0 0]) (n:=css.length) (cs:=css.flatten) (v:=(.slice av j kv)) ?_ rfl hown.1 (all2_flat_tree hall) (Src.blk (fr:=(0,0)) (T:=37) (lV.blk_some BG id) rfl rfl) ?_ ?_ ?_
     ·first|rfl|simp (maxSteps:=1000000)(disch:=(first|omega|(simp only [qI,qJ,qK]<;>omega)|exact qL _)) only [go_sem,↓reduceIte,n0,reduceCtorEq,n1,n2,n3,n4,n5,i0,i1,i2,i3,i4,i5,i6,i7]
     ·omega
     ·omega
     intro v' w45 ho hu hfr
     have oL:=(tT:Upd (ownB (.slice av j kv)) w39.drew w44).trans hu
     have DH:=oL.size
     simp only [size_drew] at DH
     have pQ:=oL.blk_some (show blk w39.drew (w.heap.size+1)=_ from iW) (hnb _ (.inl (by omega)))
     rcases ho.2 with ⟨_,h⟩|⟨g,cap,rest,fr,hv',hg',hbg,hlen,hth,hle⟩
     ·exact absurd h (Nat.succ_ne_zero _)
     subst hv'
     have hgne:¬ g=w.heap.size+1:=fun h=>(hfr g ⟨_,_,_,rfl,rfl⟩).elim (fun h'=>hnb _ (.inl (by omega)) (h ▸ h')) (fun h'=>by omega)
     have hfl:css.flatten.length=css.length * 5:=flatten_len hown.2
     have dY:(css.flatten++([.int .i64 0,.slice none 0 0,.bool false,.slice none 0 0,.slice none 0 0]:List Value)++rest).length=cap * 5:=by simp only [List.length_append] at hlen ⊢;omega
     obtain ⟨XX,hXX⟩:∃ X:Array Value,X=(css.flatten++([.int .i64 0,.slice none 0 0,.bool false,.slice none 0 0,.slice none 0 0]:List Value)++rest).toArray:=⟨_,rfl⟩
     have hbgX:blk w45 g=some (XX,37,fr):=by rw [hXX];exact hbg
     have hXsz:XX.size=cap * 5:=by rw [hXX,List.size_toArray];exact dY
     have b7:thaw fr (css.length * 5) 5=true:=thaw_of hth (by omega)
     have hst:css.length * 5+5≤XX.size:=by omega
     have hset:=Own.setlast (cs:=[.int .i64 T44.n,vS44,.bool T44.null,vL44,vU44]) ho rfl rfl
     have hu2:Upd (ownB (.slice av j kv)) w44 (wr w45 g (css.length * 5) [.int .i64 T44.n,vS44,.bool T44.null,vL44,vU44]):=hu.wr _ _ ((hfr g ⟨_,_,_,rfl,rfl⟩).symm)
     have hg2:=GrowT.snoc hown hall CO hu2 hfr hset
     have hcj:css.length=j:=by first|exact hcl.symm.trans hlj|omega
     simp only [hcj] at b7 hst hset hu2 hg2
     refine ⟨oL,?_⟩
     try simp (maxSteps:=1000000)(disch:=(first|omega|(simp only [qI,qJ,qK]<;>omega)|exact qL _|(refine hnb _ ?_;first|omega|(simp only [World.size_alloc,size_wr,size_drew]<;>omega)))) only [go_sem,↓reduceIte,n0,reduceCtorEq,n1,n2,n3,n4,n5,i0,i1,i2,i3,i4,i5,i6,i7,pQ,hbgX,b7,hst,hcj,k1_44,k2_44,k3_44,aX,aZ,b5,aY,hri]
     repeat ((first|refine qA rfl ?_|apply qB|refine qC rfl ?_|apply qD|apply qE|apply qF|apply qG|apply qH);try simp (maxSteps:=1000000)(disch:=(first|omega|(simp only [qI,qJ,qK]<;>omega)|exact qL _)) only [go_sem,↓reduceIte,n0,reduceCtorEq,n1,n2,n3,n4,n5,i0,i1,i2,i3,i4,i5,i6,i7,pQ,hbgX,b7,hst,hcj,k1_44,k2_44,k3_44,aX,aZ,b5,aY,hri])
     refine ⟨⟨(by simp (maxSteps:=1000000)(disch:=(first|omega|(simp only [qI,qJ,qK]<;>omega)|exact qL _)) only [go_sem,↓reduceIte,n0,reduceCtorEq,n1,n2,n3,n4,n5,i0,i1,i2,i3,i4,i5,i6,i7,Holds_nil,Holds_cons,aX,aZ,b5,aY,hri]),j+1,(by simp (maxSteps:=1000000)(disch:=(first|omega|(simp only [qI,qJ,qK]<;>omega)|exact qL _)) only [go_sem,↓reduceIte,n0,reduceCtorEq,n1,n2,n3,n4,n5,i0,i1,i2,i3,i4,i5,i6,i7,aX,aZ,b5,aY,hri];all_goals rfl),.slice (some ⟨g,0,none⟩) (j+1) cap,by omega,?_,?_,?_⟩,?_⟩
     ·rw [blk_wr_ne (by omega),blk_wr_eq,pQ];rfl
     ·rw [hcat,List.map_append,wr_comm (Ne.symm hgne)]
      exact hg2.upd ((Upd.refl _ _).wr _ _ (.inr rfl)) (fun h=>hgne (ownB_row h).symm)
     ·rw [wr_comm (Ne.symm hgne)]
      refine Upd.wr ?_ _ _ (.inr rfl)
      exact (hUk.more ((nR.mono fun _ h=>h.elim).trans hu2) fun b hb h=>absurd h (hnb b (.inl hb)))
     ·try simp (maxSteps:=1000000)(disch:=(first|omega|(simp only [qI,qJ,qK]<;>omega)|exact qL _)) only [go_sem,↓reduceIte,n0,reduceCtorEq,n1,n2,n3,n4,n5,i0,i1,i2,i3,i4,i5,i6,i7,aX,aZ,b5,aY,hri]
      simp only [RowKit.intOf];omega
  ·have hjn:j=L5.length:=by omega
   subst hjn
   rw [List.take_length] at hg
   repeat ((first|refine qA rfl ?_|apply qB|refine qC rfl ?_|apply qD|apply qE|apply qF|apply qG|apply qH);try simp (maxSteps:=1000000)(disch:=(first|omega|(simp only [qI,qJ,qK]<;>omega)|exact qL _)) only [go_sem,↓reduceIte,n0,reduceCtorEq,n1,n2,n3,n4,n5,i0,i1,i2,i3,i4,i5,i6,i7,aX,aZ,b5,aY,hri])
   exact ⟨(by simp (maxSteps:=1000000)(disch:=(first|omega|(simp only [qI,qJ,qK]<;>omega)|exact qL _)) only [go_sem,↓reduceIte,n0,reduceCtorEq,n1,n2,n3,n4,n5,i0,i1,i2,i3,i4,i5,i6,i7,Holds_nil,Holds_cons,aX,aZ,b5,aY,hri]),v,kJ,hg,hUk⟩
 rintro ρ w46 ⟨⟨iY,iZ,jA,E8,-⟩,v,mM,vF,u4⟩
 have u5:Upd (fun b=>b=w.heap.size+1∨b=w.heap.size+2) w33 w46:=u4.mono fun _ h=>.inl h
 have oW:Upd (fun b=>b=w.heap.size+1∨b=w.heap.size+2) w1 w46:=eK.trans u5
 have EE:=oW.size
 have zW:Ext w w46:=hE1.more oW fun b hb h=>by omega
 have hb46:=zW.blk_some hb id
 have n8:=u4.blk_some sC (by omega)
 obtain ⟨av5,kv5,hvs,_⟩:=vF.shape
 subst hvs
 have hf5:TreeC (fun b=>w1.heap.size≤b) w46 (.mk 0 [] (t.at 5).null (L5.map (tl1 (tlP (d+1)) fQ_5.of fQ_5.sub)) []) [.int .i64 0,.slice none 0 0,.bool (t.at 5).null,.slice av5 (List.map (tl1 (tlP (d+1)) fQ_5.of fQ_5.sub) L5).length kv5,.slice none 0 0]:=TreeC.intro rfl (BytesV.nil _ _) (vF.trees (fun _ _ h=>h) (fun b hb=>by have:=nI;omega)) (tagsN _ _)
 repeat ((first|refine qA rfl ?_|apply qB|refine qC rfl ?_|apply qD|apply qE|apply qF|apply qG|apply qH);try simp (maxSteps:=1000000)(disch:=(first|omega|(simp only [qI,qJ,qK]<;>omega)|exact qL _)) only [go_sem,↓reduceIte,n0,reduceCtorEq,n1,n2,n3,n4,n5,i0,i1,i2,i3,i4,i5,i6,i7,hb46,mM,n8,hq0,hq1,hq2,hq3,hq4,hq5,hq6,hq7,iY,iZ,jA])
 refine W.drawR (.take 0 (.take 1 (.take 2 (.take 3 (.take 4 (.take 5 (.only 6 (.take 7 (.last 8))))))))) (NoB) mixed (by kernel_rfl) ?_
 try simp (maxSteps:=1000000)(disch:=(first|omega|(simp only [qI,qJ,qK]<;>omega)|exact qL _)) only [go_sem,↓reduceIte,n0,reduceCtorEq,n1,n2,n3,n4,n5,i0,i1,i2,i3,i4,i5,i6,i7,hb46,mM,n8,hq0,hq1,hq2,hq3,hq4,hq5,hq6,hq7,iY,iZ,jA]
 refine (boolTree_fn _ w46.drew).mono ?_
 rintro _ w47 ⟨rfl,tB⟩
 have AD:(if decide ((t.at 6).n % 2=1)=true then 1 else 0:Int)=(if (t.at 6).n % 2=1 then 1 else 0):=by by_cases h:(t.at 6).n % 2=1<;>simp [h]
 have m6:Upd NoB w46.drew w47:=(Upd.refl _ _).trans (tB.mono fun _ h=>h.elim)
 have C8:=tB.size
 try simp only [size_drew] at C8
 refine ⟨m6,?_⟩
 try simp (maxSteps:=1000000)(disch:=(first|omega|(simp only [qI,qJ,qK]<;>omega)|exact qL _)) only [go_sem,↓reduceIte,n0,reduceCtorEq,n1,n2,n3,n4,n5,i0,i1,i2,i3,i4,i5,i6,i7,hb46,mM,n8,hq0,hq1,hq2,hq3,hq4,hq5,hq6,hq7,iY,iZ,jA]
 have vX:=m6.blk_some (show blk w46.drew (w.heap.size+1)=_ from mM) id
 have CP:Upd (fun b=>b=w.heap.size+1∨b=w.heap.size+2) w46 w47:=((Upd.refl _ _).drew).trans (m6.mono fun _ h=>h.elim)
 try simp (maxSteps:=1000000)(disch:=(first|omega|(simp only [qI,qJ,qK]<;>omega)|exact qL _)) only [go_sem,↓reduceIte,n0,reduceCtorEq,n1,n2,n3,n4,n5,i0,i1,i2,i3,i4,i5,i6,i7,vX]
 generalize nD:wr w47 (w.heap.size+1) 30 [.int .i64 (if decide ((t.at 6).n % 2=1)=true then 1 else 0:Int),.slice none 0 0,.bool false,.slice none 0 0,.slice none 0 0] = w48
 have vQ:blk w48 (w.heap.size+1)=some (#[.int .i64 (IntKind.i16.wrap (t.at 0).n),.slice none 0 0,.bool false,.slice none 0 0,.slice none 0 0,.int .i64 0,.slice none 0 0,.bool (t.at 1).null,.slice av1 (List.map (tl1 (tlP (d+1)) fQ_1.of fQ_1.sub) L1).length kv1,.slice none 0 0,.int .i64 (IntKind.i32.wrap (t.at 2).n),.slice none 0 0,.bool false,.slice none 0 0,.slice none 0 0,.int .i64 0,.slice none 0 0,.bool (t.at 3).null,.slice av3 (List.map (tl1 (tlP (d+1)) fQ_3.of fQ_3.sub) L3).length kv3,.slice none 0 0,.int .i64 ((t.at 4).n),.slice none 0 0,.bool false,.slice none 0 0,.slice none 0 0,.int .i64 0,.slice none 0 0,.bool (t.at 5).null,.slice av5 (List.map (tl1 (tlP (d+1)) fQ_5.of fQ_5.sub) L5).length kv5,.slice none 0 0,.int .i64 (if decide ((t.at 6).n % 2=1)=true then 1 else 0:Int),.slice none 0 0,.bool false,.slice none 0 0,.slice none 0 0],37,(0,0)):=by rw [← nD,blk_wr_eq,vX];rfl
 have wU:Upd (fun b=>b=w.heap.size+1∨b=w.heap.size+2) w47 w48:=by rw [← nD];exact (Upd.refl _ _).wr _ _ (.inr (.inl rfl))
 have u6:Upd (fun b=>b=w.heap.size+1∨b=w.heap.size+2) w46 w48:=CP.trans wU
 have oX:Upd (fun b=>b=w.heap.size+1∨b=w.heap.size+2) w1 w48:=oW.trans u6
 have hz48:=oX.size
 have uF:Ext w w48:=hE1.more oX fun b hb h=>by omega
 have uZ:=uF.blk_some hb id
 have n9:blk w48 (w.heap.size+2)=some (#[.int .i64 0,.slice none 0 0,.bool false,.slice (some ⟨w.heap.size+1,0,none⟩) 7 7,.slice none 0 0],37,(0,0)):=by
  rw [← nD,blk_wr_ne (by omega)]
  exact m6.blk_some (show blk w46.drew (w.heap.size+2)=_ from n8) id
 clear nD
 have hf6:TreeC (fun b=>w1.heap.size≤b) w48 (.num (if (t.at 6).n % 2=1 then 1 else 0)) [.int .i64 (if decide ((t.at 6).n % 2=1)=true then 1 else 0:Int),.slice none 0 0,.bool false,.slice none 0 0,.slice none 0 0]:=(TreeC.keep (wU.keeps fun b hb hk e=>by have hk':w1.heap.size≤b:=hk;omega) (by rw [AD];exact TreeC.intro (by split<;>rfl) (BytesV.nil _ _) (treesN _ _) (tagsN _ _):TreeC (fun b=>w1.heap.size≤b) w47 (.num (if (t.at 6).n % 2=1 then 1 else 0)) [.int .i64 (if decide ((t.at 6).n % 2=1)=true then 1 else 0:Int),.slice none 0 0,.bool false,.slice none 0 0,.slice none 0 0]))
 repeat ((first|refine qA rfl ?_|apply qB|refine qC rfl ?_|apply qD|apply qE|apply qF|apply qG|apply qH);try simp (maxSteps:=1000000)(disch:=(first|omega|(simp only [qI,qJ,qK]<;>omega)|exact qL _)) only [go_sem,↓reduceIte,n0,reduceCtorEq,n1,n2,n3,n4,n5,i0,i1,i2,i3,i4,i5,i6,i7,uZ,vQ,n9,hq0,hq1,hq2,hq3,hq4,hq5,hq6,hq7,iY,iZ,jA])
 refine (EachG_fn (ok:=fun b=>b < w.heap.size) 65 ca_65 #[.pointer (some ⟨w.heap.size+2,0,none⟩)] w48 (tb:=b) (to:=8) uZ hq7 ((hT.weaken fun b hb _=>hb).keep (uF.keeps _)) (sortT_perm _) (sortT_lt hgu.2.1) (by rw [(sortT_perm t.u).length_eq];exact hgu.1)
  (fun b=>b=w.heap.size+2) (by omega) (fun b hb hk e=>by have hk':b < w.heap.size:=hk;omega) (fun b hb=>by have:=blk_lt n9;omega)
  (fun wl done w'=>∃ v,blk w' (w.heap.size+2)=some (#[.int .i64 0,.slice none 0 0,.bool false,.slice (some ⟨w.heap.size+1,0,none⟩) 7 7,v],37,(0,0))∧GrowU (fun b=>w1.heap.size≤b) wl.heap.size (w.heap.size+2) w' 69 v done) (fun wl hE=>⟨_,hE.blk_some n9 id,GrowU.nil _ _ _ _ _⟩) ?_).mono ?_
 ·rintro wl hE done y vv wc hpre ⟨v,hbv,hg⟩ hU hvv hy
  have hz':=hE.size
  have hzu:=hU.size
  have htl:=blk_lt n9
  have hpl:=hpre.length_le
  simp only [List.length_append,List.length_cons,List.length_nil] at hpl
  rw [(sortT_perm t.u).length_eq] at hpl
  have hlu:=hgu.1
  have hmy:y∈t.u:=(sortT_perm t.u).mem_iff.1 (hpre.subset (by simp))
  refine (tagclQ_fn (ok:=fun b=>b < w.heap.size) _ _ _ _ v done y vv wc hbv hg hzu (by omega) (hvv.keep ((hE.mono (fun _ h=>h.elim) |>.trans hU:Upd (fun b=>b=w.heap.size+2) w48 wc).keeps fun b _ hk e=>by have hk':b < w.heap.size:=hk;omega)) hy (hgu.2.2 y hmy) (by omega) (fun b hb=>by have:=hz48;omega)).mono ?_
  rintro _ w2' ⟨⟨v',h1,h2⟩,h3⟩
  exact ⟨⟨v',h1,h2⟩,hU.trans' h3 fun b hb h=>h.elim id fun h=>by omega⟩
 rintro _ w49 ⟨wl,hEl,⟨v,wO,hgU⟩,hUe⟩
 have hzl:=hEl.size
 obtain ⟨aU,kU,hvs,_⟩:=hgU.shape
 subst hvs
 have u7:Upd (fun b=>b=w.heap.size+1∨b=w.heap.size+2) w48 w49:=(hEl.mono fun _ h=>h.elim).trans (hUe.mono fun _ h=>.inr h)
 have oY:Upd (fun b=>b=w.heap.size+1∨b=w.heap.size+2) w1 w49:=oX.trans u7
 have EF:=oY.size
 have zX:Ext w w49:=hE1.more oY fun b hb h=>by omega
 have AB:=zX.blk_some hb id
 have vR:=(((hEl.mono fun _ h=>h.elim).trans hUe:Upd (fun b=>b=w.heap.size+2) w48 w49)).blk_some vQ (by omega)
 have hTU:=hgU.tags (ok':=(fun b=>w1.heap.size≤b)) (fun _ _ h=>h) (fun b hb=>by have:=hz48;omega)
 repeat ((first|refine qA rfl ?_|apply qB|refine qC rfl ?_|apply qD|apply qE|apply qF|apply qG|apply qH);try simp (maxSteps:=1000000)(disch:=(first|omega|(simp only [qI,qJ,qK]<;>omega)|exact qL _)) only [go_sem,↓reduceIte,n0,reduceCtorEq,n1,n2,n3,n4,n5,i0,i1,i2,i3,i4,i5,i6,i7,AB,vR,wO,hq0,hq1,hq2,hq3,hq4,hq5,hq6,hq7,iY,iZ,jA,cellsAt_five])
 refine (sorted_fn _ _ w49 hTU (sortT_lt hgu.2.1) (by rw [(sortT_perm t.u).length_eq];exact hgu.1)).mono ?_
 rintro _ w50 hEs
 have u9:Upd (fun b=>b=w.heap.size+1∨b=w.heap.size+2) w49 w50:=hEs.mono fun _ h=>h.elim
 have oZ:Upd (fun b=>b=w.heap.size+1∨b=w.heap.size+2) w1 w50:=oY.trans u9
 have EG:=oZ.size
 have uH:Ext w w50:=hE1.more oZ fun b hb h=>by omega
 have AC:=uH.blk_some hb id
 have vT:=hEs.blk_some vR id
 have CC:=hEs.blk_some wO id
 have BN:=(oZ.blk_some hr1 (by omega))
 have hC_50:Upd (fun b=>b=w.heap.size+1∨b=w.heap.size+2) w50 w50:=Upd.refl _ _
 have hC_49:Upd (fun b=>b=w.heap.size+1∨b=w.heap.size+2) w49 w50:=u9.trans hC_50
 have hC_48:Upd (fun b=>b=w.heap.size+1∨b=w.heap.size+2) w48 w50:=u7.trans hC_49
 have hC_46:Upd (fun b=>b=w.heap.size+1∨b=w.heap.size+2) w46 w50:=u6.trans hC_48
 have hC_33:Upd (fun b=>b=w.heap.size+1∨b=w.heap.size+2) w33 w50:=u5.trans hC_46
 have hC_32:Upd (fun b=>b=w.heap.size+1∨b=w.heap.size+2) w32 w50:=dP.trans hC_33
 have hC_31:Upd (fun b=>b=w.heap.size+1∨b=w.heap.size+2) w31 w50:=dO.trans hC_32
 have hC_18:Upd (fun b=>b=w.heap.size+1∨b=w.heap.size+2) w18 w50:=dN.trans hC_31
 have hC_17:Upd (fun b=>b=w.heap.size+1∨b=w.heap.size+2) w17 w50:=gG.trans hC_18
 have hC_16:Upd (fun b=>b=w.heap.size+1∨b=w.heap.size+2) w16 w50:=dM.trans hC_17
 have hC_3:Upd (fun b=>b=w.heap.size+1∨b=w.heap.size+2) w3 w50:=dW.trans hC_16
 have hC_2:Upd (fun b=>b=w.heap.size+1∨b=w.heap.size+2) w2 w50:=hV3.trans hC_3
 have hC_1:Upd (fun b=>b=w.heap.size+1∨b=w.heap.size+2) w1 w50:=hV2.trans hC_2
 have hF0:=TreeC.keep (hC_2.keeps fun b hb hk e=>by have hk':w1.heap.size≤b:=hk;omega) hf0
 have hF1:=TreeC.keep (hC_16.keeps fun b hb hk e=>by have hk':w1.heap.size≤b:=hk;omega) hf1
 have hF2:=TreeC.keep (hC_17.keeps fun b hb hk e=>by have hk':w1.heap.size≤b:=hk;omega) hf2
 have hF3:=TreeC.keep (hC_31.keeps fun b hb hk e=>by have hk':w1.heap.size≤b:=hk;omega) hf3
 have hF4:=TreeC.keep (hC_32.keeps fun b hb hk e=>by have hk':w1.heap.size≤b:=hk;omega) hf4
 have hF5:=TreeC.keep (hC_46.keeps fun b hb hk e=>by have hk':w1.heap.size≤b:=hk;omega) hf5
 have hF6:=TreeC.keep (hC_48.keeps fun b hb hk e=>by have hk':w1.heap.size≤b:=hk;omega) hf6
 replace hF0:TreeC (fun b=>w1.heap.size≤b) w50 (tlF (tlP (d+1)) fQ_0 (t.at 0)) [.int .i64 (IntKind.i16.wrap (t.at 0).n),.slice none 0 0,.bool false,.slice none 0 0,.slice none 0 0]:=hF0
 replace hF1:TreeC (fun b=>w1.heap.size≤b) w50 (tlF (tlP (d+1)) fQ_1 (t.at 1)) [.int .i64 0,.slice none 0 0,.bool (t.at 1).null,.slice av1 (List.map (tl1 (tlP (d+1)) fQ_1.of fQ_1.sub) L1).length kv1,.slice none 0 0]:=by rw [show tlF (tlP (d+1)) fQ_1 (t.at 1) = .mk 0 [] (t.at 1).null ((if (t.at 1).null=true then [] else (t.at 1).l).map (tl1 (tlP (d+1)) fQ_1.of fQ_1.sub)) [] from rfl,← hL1];exact hF1
 replace hF2:TreeC (fun b=>w1.heap.size≤b) w50 (tlF (tlP (d+1)) fQ_2 (t.at 2)) [.int .i64 (IntKind.i32.wrap (t.at 2).n),.slice none 0 0,.bool false,.slice none 0 0,.slice none 0 0]:=hF2
 replace hF3:TreeC (fun b=>w1.heap.size≤b) w50 (tlF (tlP (d+1)) fQ_3 (t.at 3)) [.int .i64 0,.slice none 0 0,.bool (t.at 3).null,.slice av3 (List.map (tl1 (tlP (d+1)) fQ_3.of fQ_3.sub) L3).length kv3,.slice none 0 0]:=by rw [show tlF (tlP (d+1)) fQ_3 (t.at 3) = .mk 0 [] (t.at 3).null ((if (t.at 3).null=true then [] else (t.at 3).l).map (tl1 (tlP (d+1)) fQ_3.of fQ_3.sub)) [] from rfl,← hL3];exact hF3
 replace hF4:TreeC (fun b=>w1.heap.size≤b) w50 (tlF (tlP (d+1)) fQ_4 (t.at 4)) [.int .i64 ((t.at 4).n),.slice none 0 0,.bool false,.slice none 0 0,.slice none 0 0]:=hF4
 replace hF5:TreeC (fun b=>w1.heap.size≤b) w50 (tlF (tlP (d+1)) fQ_5 (t.at 5)) [.int .i64 0,.slice none 0 0,.bool (t.at 5).null,.slice av5 (List.map (tl1 (tlP (d+1)) fQ_5.of fQ_5.sub) L5).length kv5,.slice none 0 0]:=by rw [show tlF (tlP (d+1)) fQ_5 (t.at 5) = .mk 0 [] (t.at 5).null ((if (t.at 5).null=true then [] else (t.at 5).l).map (tl1 (tlP (d+1)) fQ_5.of fQ_5.sub)) [] from rfl,← hL5];exact hF5
 replace hF6:TreeC (fun b=>w1.heap.size≤b) w50 (tlF (tlP (d+1)) fQ_6 (t.at 6)) [.int .i64 (if decide ((t.at 6).n % 2=1)=true then 1 else 0:Int),.slice none 0 0,.bool false,.slice none 0 0,.slice none 0 0]:=hF6
 have hTL:TreesV (fun b=>(fun b=>w1.heap.size≤b) b∨b=w.heap.size+1) w50 (.slice (some ⟨w.heap.size+1,0,none⟩) 7 7) [tlF (tlP (d+1)) fQ_0 (t.at 0),tlF (tlP (d+1)) fQ_1 (t.at 1),tlF (tlP (d+1)) fQ_2 (t.at 2),tlF (tlP (d+1)) fQ_3 (t.at 3),tlF (tlP (d+1)) fQ_4 (t.at 4),tlF (tlP (d+1)) fQ_5 (t.at 5),tlF (tlP (d+1)) fQ_6 (t.at 6)]:=by
  refine ⟨[[.int .i64 (IntKind.i16.wrap (t.at 0).n),.slice none 0 0,.bool false,.slice none 0 0,.slice none 0 0],[.int .i64 0,.slice none 0 0,.bool (t.at 1).null,.slice av1 (List.map (tl1 (tlP (d+1)) fQ_1.of fQ_1.sub) L1).length kv1,.slice none 0 0],[.int .i64 (IntKind.i32.wrap (t.at 2).n),.slice none 0 0,.bool false,.slice none 0 0,.slice none 0 0],[.int .i64 0,.slice none 0 0,.bool (t.at 3).null,.slice av3 (List.map (tl1 (tlP (d+1)) fQ_3.of fQ_3.sub) L3).length kv3,.slice none 0 0],[.int .i64 ((t.at 4).n),.slice none 0 0,.bool false,.slice none 0 0,.slice none 0 0],[.int .i64 0,.slice none 0 0,.bool (t.at 5).null,.slice av5 (List.map (tl1 (tlP (d+1)) fQ_5.of fQ_5.sub) L5).length kv5,.slice none 0 0],[.int .i64 (if decide ((t.at 6).n % 2=1)=true then 1 else 0:Int),.slice none 0 0,.bool false,.slice none 0 0,.slice none 0 0]],⟨_,7,rfl,Nat.le_refl _,(by intro cs hm;simp only [List.mem_cons,List.not_mem_nil,or_false] at hm;rcases hm with rfl|rfl|rfl|rfl|rfl|rfl|rfl<;>rfl),.inr ⟨_,rfl,rfl,.inr rfl,_,vT,fun i hi=>by rw [Nat.zero_add,List.getElem?_toArray];rfl⟩⟩,rfl,fun i h1 h2 => ?_⟩
  match i,h1 with
  | 0,_=>exact TreeC.weaken (fun b _ hk=>.inl hk) hF0
  | 1,_=>exact TreeC.weaken (fun b _ hk=>.inl hk) hF1
  | 2,_=>exact TreeC.weaken (fun b _ hk=>.inl hk) hF2
  | 3,_=>exact TreeC.weaken (fun b _ hk=>.inl hk) hF3
  | 4,_=>exact TreeC.weaken (fun b _ hk=>.inl hk) hF4
  | 5,_=>exact TreeC.weaken (fun b _ hk=>.inl hk) hF5
  | 6,_=>exact TreeC.weaken (fun b _ hk=>.inl hk) hF6
 repeat ((first|refine qA rfl ?_|apply qB|refine qC rfl ?_|apply qD|apply qE|apply qF|apply qG|apply qH);try simp (maxSteps:=1000000)(disch:=(first|omega|(simp only [qI,qJ,qK]<;>omega)|exact qL _)) only [go_sem,↓reduceIte,n0,reduceCtorEq,n1,n2,n3,n4,n5,i0,i1,i2,i3,i4,i5,i6,i7,AC,vT,CC,hq0,hq1,hq2,hq3,hq4,hq5,hq6,hq7,iY,iZ,jA,BN,cellsAt_five])
 refine ⟨⟨_,rfl,?_⟩,uH.wr _ _ (.inl (Nat.le_refl _))⟩
 have hUr:Upd (fun b=>b=w.heap.size) w50 (wr w50 w.heap.size 0 [.int .i64 0,.slice none 0 0,.bool false,.slice (some ⟨w.heap.size+1,0,none⟩) 7 7,.slice aU (sortT t.u).length kU]):=(Upd.refl _ _).wr _ _ (.inr rfl)
 have gE:=hTU.keep (hEs.keeps _)
 exact TreeC.intro rfl (BytesV.nil _ _) ((hTL.keep (hUr.keeps fun b _ hk e=>by rcases hk with hk|hk<;>omega)).weaken fun b _ hk=>by rcases hk with hk|hk<;>omega) ((gE.keep (hUr.keeps fun b _ hk e=>by omega)).weaken fun b _ hk=>by omega)
end Ms

