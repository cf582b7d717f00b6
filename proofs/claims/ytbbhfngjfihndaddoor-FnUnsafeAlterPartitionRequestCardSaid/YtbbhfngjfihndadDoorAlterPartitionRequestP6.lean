/- A part of the proof: see the last text. -/
import Derived.Test.YtbbhfngjfihndadDoorC06
import Derived.Test.YtbbhfngjfihndadDoorAlterPartitionRequestP0
set_option linter.unusedSimpArgs false
set_option linter.unusedVariables false
namespace Ms
open Go.World renaming size_alloc → qI
open Ms renaming size_wr → qJ,size_drew → qK,not_noB → qL
open W renaming seqR → qA,seq → qB,regR → qC,condK → qD,block → qE,skip → qF,ret → qG,exit → qH
open Nat renaming reduceEqDiff → n0,reduceAdd → n1,reduceMul → n2,reduceSub → n3,reduceLT → n4,reduceLeDiff → n5
open Int renaming reduceEq → i0,reduceLT → i1,reduceLE → i2,reduceNeg → i3,reduceAdd → i4,reduceSub → i5,reduceMul → i6,reduceToNat → i7
set_option maxRecDepth 8000
open Go Go.Proofs Go.Shelf
attribute [local congr] W_congr WPsq_congr WPp_congr optK_congr addrK_congr intK_congr boolK_congr sliceK_congr tupleK_congr funcK_congr Fn_congr rawK_congr takeK_congr stepK_congr convK_congr aggK_congr

theorem tagclX0_fn {ok OK:Blocks} {B tb:Nat} (c0 c1 c2 c3 v:Value) (done:List TagD) (y:TagD) (vv:Value) (w:World) (hbt:blk w tb=some (#[c0,c1,c2,c3,v],27,(0,0))) (hg:GrowU OK B tb w 51 v done) (hB:B≤w.heap.size) (htb:tb < B) (hvv:BytesV ok w vv y.2) (hy:y.1 < 2 ^ 32) (hyl:y.2.length≤32767) (hdl:done.length≤32767) (hOK:∀ b,B≤b→OK b) :
  Fn Tryd.prog 60 #[.int .u32 y.1,vv,.pointer (some ⟨tb,0,none⟩)] w fun _ w'=>(∃ v',blk w' tb=some (#[c0,c1,c2,c3,v'],27,(0,0))∧GrowU OK B tb w' 51 v' (done++[y]))∧Upd (fun b=>b=tb∨B≤b) w w':=by
 have htl:=blk_lt hbt
 refine fn_of_W Tryd.func60 rfl Tryd.results60 Tryd.ntmps60 rfl ?_
 repeat ((first|refine qA rfl ?_|apply qB|refine qC rfl ?_|apply qD|apply qE|apply qF|apply qG|apply qH);try simp (maxSteps:=1000000)(disch:=(first|omega|(simp only [qI,qJ,qK]<;>omega)|exact qL _)) only [go_sem,↓reduceIte,n0,reduceCtorEq,n1,n2,n3,n4,n5,i0,i1,i2,i3,i4,i5,i6,i7])
 obtain ⟨av,kv,rfl,_⟩:=hg.shape
 have hnb:∀ b,b < B∨w.heap.size≤b→¬ ownB (.slice av done.length kv) b:=fun b hb h=>by
  have:=hg.above h
  have:=hg.below h
  omega
 refine W.drawR (.take 0 (.take 1 (.take 2 (.take 3 (.only 4 (.only 5 (.only 6 (.only 7 (.take 8 (.last 9)))))))))) (ownB (.slice av done.length kv)) mixed (by kernel_rfl) ?_
 simp (maxSteps:=1000000)(disch:=(first|omega|(simp only [qI,qJ,qK]<;>omega)|exact qL _|(refine hnb _ ?_;first|omega|(simp only [World.size_alloc,size_wr,size_drew]<;>omega)))) only [go_sem,↓reduceIte,n0,reduceCtorEq,n1,n2,n3,n4,n5,i0,i1,i2,i3,i4,i5,i6,i7,hbt]
 refine wp_copyN ap_22_22 (ok:=ok) (s:=y.2) (v:=vv) (by first|rfl|simp (maxSteps:=1000000)(disch:=(first|omega|(simp only [qI,qJ,qK]<;>omega)|exact qL _)) only [go_sem,↓reduceIte,n0,reduceCtorEq,n1,n2,n3,n4,n5,i0,i1,i2,i3,i4,i5,i6,i7]) (by first|rfl|simp (maxSteps:=1000000)(disch:=(first|omega|(simp only [qI,qJ,qK]<;>omega)|exact qL _)) only [go_sem,↓reduceIte,n0,reduceCtorEq,n1,n2,n3,n4,n5,i0,i1,i2,i3,i4,i5,i6,i7]) (hvv.keep (Ext.keeps ((Upd.refl _ _).drew) _)) (by omega) ?_
 intro v1 w1 ho1 hE1 hf1
 obtain ⟨a1,k1,rfl,_⟩:=ho1.shape
 have hB1:=Own.bytes (ok:=fun b=>w.heap.size≤b) ho1 fun b hb=>hf1 b hb
 have hP1:Upd (ownB (.slice av done.length kv)) w.drew w1:=hE1.mono fun _ h=>h.elim
 have hs1:=hE1.size
 simp only [size_drew] at hs1
 refine ⟨hP1,?_⟩
 simp (maxSteps:=1000000)(disch:=(first|omega|(simp only [qI,qJ,qK]<;>omega)|exact qL _|(refine hnb _ ?_;first|omega|(simp only [World.size_alloc,size_wr,size_drew]<;>omega)))) only [go_sem,↓reduceIte,n0,reduceCtorEq,n1,n2,n3,n4,n5,i0,i1,i2,i3,i4,i5,i6,i7,hbt]
 refine ⟨hP1,?_⟩
 have hP2:Upd (ownB (.slice av done.length kv)) w.drew (w1.alloc (.cells #[.int .u32 y.1,.slice a1 y.2.length k1] 51)):=hP1.alloc _
 have hn2:blk (w1.alloc (.cells #[.int .u32 y.1,.slice a1 y.2.length k1] 51)) w1.heap.size=some (#[.int .u32 y.1,.slice a1 y.2.length k1],51,(0,0)):=blk_alloc_new rfl
 have hs2:(w1.alloc (.cells #[.int .u32 y.1,.slice a1 y.2.length k1] 51)).heap.size=w1.heap.size+1:=World.size_alloc _ _
 have hE2:Ext w1 (w1.alloc (.cells #[.int .u32 y.1,.slice a1 y.2.length k1] 51)):=Upd.alloc (Upd.refl _ _) _
 refine ⟨hP2,?_⟩
 try simp only [List.append_nil]
 generalize (w1.alloc (.cells #[.int .u32 y.1,.slice a1 y.2.length k1] 51))=w2 at *
 have hEw:Ext w w2:=(((Upd.refl _ _).drew).trans hE1).trans hE2
 obtain ⟨css,hown,hall⟩:=(hg.ext hEw).ex
 have hcl:=hall.1
 have hx2:TagC (fun b=>OK b∧b≠tb∧¬ ownB (.slice av done.length kv) b) w2 y [.int .u32 y.1,.slice a1 y.2.length k1]:=⟨_,rfl,(hB1.keep (hE2.keeps _)).weaken fun b _ hk=>⟨hOK b (by omega),by omega,hnb b (.inr hk)⟩,hy⟩
 refine wp_append ap_25_25 (m:=1) (news:=[.int .u32 y.1,.slice a1 y.2.length k1]) (n:=css.length) (cs:=css.flatten) (v:=.slice av done.length kv) ?_ rfl hown.1 hall.flat_cells (Src.blk (fr:=(0,0)) (T:=51) hn2 rfl rfl) ?_ ?_ ?_
 ·first|rfl|simp (maxSteps:=1000000)(disch:=(first|omega|(simp only [qI,qJ,qK]<;>omega)|exact qL _)) only [go_sem,↓reduceIte,n0,reduceCtorEq,n1,n2,n3,n4,n5,i0,i1,i2,i3,i4,i5,i6,i7]
 ·omega
 ·omega
 intro v' w3 ho hu hfr
 have hg3:=GrowU.snoc hown hall hx2 hu hfr ho
 obtain ⟨va,vc,hv',_⟩:=ho.shape
 subst hv'
 have hP3:=hP2.trans hu
 have hs3:=hu.size
 have hbt3:=hP3.blk_some (show blk w.drew tb=_ from hbt) (hnb _ (.inl htb))
 have hne:¬ ownB (.slice va (css.length+1) vc) tb:=fun h=>(hfr _ h).elim (hnb _ (.inl htb)) (fun h=>by omega)
 refine ⟨hP3,?_⟩
 simp (maxSteps:=1000000)(disch:=(first|omega|(simp only [qI,qJ,qK]<;>omega)|exact qL _|(refine hnb _ ?_;first|omega|(simp only [World.size_alloc,size_wr,size_drew]<;>omega)))) only [go_sem,↓reduceIte,n0,reduceCtorEq,n1,n2,n3,n4,n5,i0,i1,i2,i3,i4,i5,i6,i7,hbt3]
 repeat ((first|refine qA rfl ?_|apply qB|refine qC rfl ?_|apply qD|apply qE|apply qF|apply qG|apply qH);try simp (maxSteps:=1000000)(disch:=(first|omega|(simp only [qI,qJ,qK]<;>omega)|exact qL _)) only [go_sem,↓reduceIte,n0,reduceCtorEq,n1,n2,n3,n4,n5,i0,i1,i2,i3,i4,i5,i6,i7])
 refine ⟨⟨.slice va (css.length+1) vc,by first|(rw [blk_wr_eq,hbt3];rfl)|rfl|(rw [hbt3];rfl)|(rw [blk_wr_eq,hbt3]),hg3.upd ((Upd.refl _ _).wr _ _ (.inr rfl)) hne⟩,?_⟩
 refine Upd.wr ?_ _ _ (.inr (.inl rfl))
 exact (((Upd.refl (fun b=>b=tb∨B≤b) w).drew).trans (hP3.mono fun b h=>.inr (hg.above h)))

set_option maxHeartbeats 4000000 in
theorem tellX0_fn {d:Nat} {ok:Blocks} (t:Tree) (cs:List Value) (w:World) {b o:Nat} {x:Blk} (hb:blk w b=some x) (hq:∀ k,k < 3→x.1[o+k]? = cs[k]?) (hR:RepS true (d+1) fs_X0 ok w t cs) (hg:GoodP (d+1) fs_X0 t) :
  Fn Tryd.prog 50 #[.pointer (some ⟨b,o,none⟩)] w fun r w'=>(∃ c,r = .agg c.toArray∧TreeC (fun b=>w.heap.size≤b) w' (tlP (d+1) fs_X0 t) c)∧Ext w w':=by
 have hbl:=blk_lt hb
 obtain ⟨⟨gd0,gd1,-⟩,hgu⟩:=hg
 replace gd0:GoodF (GoodP d) fX0_0 (t.at 0):=gd0
 replace gd1:GoodF (GoodP d) fX0_1 (t.at 1):=gd1
 obtain ⟨cs0,q,hcs,hL,hT⟩:=hR.inv
 obtain ⟨c0,e0,rfl,h0,c1,e1,rfl,h1,rfl⟩:=hL
 replace h0:RepF (RepS true d) (szS true d) fX0_0 ok w (t.at 0) c0:=h0
 replace h1:RepF (RepS true d) (szS true d) fX0_1 ok w (t.at 1) c1:=h1
 obtain rfl:=(RepF_num (by decide)).1 h0
 obtain rfl:=(RepF_num (by decide)).1 h1
 obtain ⟨qm,rfl⟩:=hT.shape
 subst hcs
 have hq0:x.1[o]? = some (.int .i32 (IntKind.i32.wrap (t.at 0).n)):=hq 0 (by decide)
 have hq1:x.1[o+1]? = some (.int .i64 (t.at 1).n):=hq 1 (by decide)
 have hq2:x.1[o+2]? = some (.map qm):=hq 2 (by decide)
 have hn64_1:=(gd1.one (by decide)).1 rfl
 refine fn_of_W Tryd.func50 rfl Tryd.results50 Tryd.ntmps50 rfl ?_
 repeat ((first|refine qA rfl ?_|apply qB|refine qC rfl ?_|apply qD|apply qE|apply qF|apply qG|apply qH);try simp (maxSteps:=1000000)(disch:=(first|omega|(simp only [qI,qJ,qK]<;>omega)|exact qL _)) only [go_sem,↓reduceIte,n0,reduceCtorEq,n1,n2,n3,n4,n5,i0,i1,i2,i3,i4,i5,i6,i7])
 refine wp_make (T:=24) (E:=27) (size:=5) (bytes:=88) (z:=.agg qZ5) (l:=2) (c:=2) (kl:=.i64) (kc:=.i64) (by kernel_rfl) (by kernel_rfl) (by first|rfl|(simp (maxSteps:=1000000)(disch:=(first|omega|(simp only [qI,qJ,qK]<;>omega)|exact qL _)) only [go_sem,↓reduceIte,n0,reduceCtorEq,n1,n2,n3,n4,n5,i0,i1,i2,i3,i4,i5,i6,i7];rfl)) (by first|rfl|(simp (maxSteps:=1000000)(disch:=(first|omega|(simp only [qI,qJ,qK]<;>omega)|exact qL _)) only [go_sem,↓reduceIte,n0,reduceCtorEq,n1,n2,n3,n4,n5,i0,i1,i2,i3,i4,i5,i6,i7];rfl)) (by omega) (by omega) (by omega) ?_
 have hmd:madeCells (Value.agg qZ5).cells (2 * 5)=#[.int .i64 0,.slice none 0 0,.bool false,.slice none 0 0,.slice none 0 0,.int .i64 0,.slice none 0 0,.bool false,.slice none 0 0,.slice none 0 0]:=by kernel_rfl
 rw [hmd]
 simp (maxSteps:=1000000)(disch:=(first|omega|(simp only [qI,qJ,qK]<;>omega)|exact qL _)) only [go_sem,↓reduceIte,n0,reduceCtorEq,n1,n2,n3,n4,n5,i0,i1,i2,i3,i4,i5,i6,i7]
 repeat ((first|refine qA rfl ?_|apply qB|refine qC rfl ?_|apply qD|apply qE|apply qF|apply qG|apply qH);try simp (maxSteps:=1000000)(disch:=(first|omega|(simp only [qI,qJ,qK]<;>omega)|exact qL _)) only [go_sem,↓reduceIte,n0,reduceCtorEq,n1,n2,n3,n4,n5,i0,i1,i2,i3,i4,i5,i6,i7])
 have hE1:Ext w (wr (((w.alloc (.cells qZ5 27)).alloc (.cells #[.int .i64 0,.slice none 0 0,.bool false,.slice none 0 0,.slice none 0 0,.int .i64 0,.slice none 0 0,.bool false,.slice none 0 0,.slice none 0 0] 27)).alloc (.cells qZ5 27)) (w.heap.size+2) 0 [.int .i64 0,.slice none 0 0,.bool false,.slice (some ⟨w.heap.size+1,0,none⟩) 2 2,.slice none 0 0]):=(Upd.alloc (Upd.alloc (Upd.alloc (Upd.refl _ _) _) _) _).wr _ _ (.inl (by omega))
 have hz1:(wr (((w.alloc (.cells qZ5 27)).alloc (.cells #[.int .i64 0,.slice none 0 0,.bool false,.slice none 0 0,.slice none 0 0,.int .i64 0,.slice none 0 0,.bool false,.slice none 0 0,.slice none 0 0] 27)).alloc (.cells qZ5 27)) (w.heap.size+2) 0 [.int .i64 0,.slice none 0 0,.bool false,.slice (some ⟨w.heap.size+1,0,none⟩) 2 2,.slice none 0 0]).heap.size=w.heap.size+3:=by simp only [size_wr,World.size_alloc]
 have hl1:blk (wr (((w.alloc (.cells qZ5 27)).alloc (.cells #[.int .i64 0,.slice none 0 0,.bool false,.slice none 0 0,.slice none 0 0,.int .i64 0,.slice none 0 0,.bool false,.slice none 0 0,.slice none 0 0] 27)).alloc (.cells qZ5 27)) (w.heap.size+2) 0 [.int .i64 0,.slice none 0 0,.bool false,.slice (some ⟨w.heap.size+1,0,none⟩) 2 2,.slice none 0 0]) (w.heap.size+1)=some (#[.int .i64 0,.slice none 0 0,.bool false,.slice none 0 0,.slice none 0 0,.int .i64 0,.slice none 0 0,.bool false,.slice none 0 0,.slice none 0 0],27,(0,0)):=by simp (maxSteps:=1000000)(disch:=(first|omega|(simp only [qI,qJ,qK]<;>omega)|exact qL _)) only [go_sem,↓reduceIte,n0,reduceCtorEq,n1,n2,n3,n4,n5,i0,i1,i2,i3,i4,i5,i6,i7]
 have ht1:blk (wr (((w.alloc (.cells qZ5 27)).alloc (.cells #[.int .i64 0,.slice none 0 0,.bool false,.slice none 0 0,.slice none 0 0,.int .i64 0,.slice none 0 0,.bool false,.slice none 0 0,.slice none 0 0] 27)).alloc (.cells qZ5 27)) (w.heap.size+2) 0 [.int .i64 0,.slice none 0 0,.bool false,.slice (some ⟨w.heap.size+1,0,none⟩) 2 2,.slice none 0 0]) (w.heap.size+2)=some (#[.int .i64 0,.slice none 0 0,.bool false,.slice (some ⟨w.heap.size+1,0,none⟩) 2 2,.slice none 0 0],27,(0,0)):=by simp (maxSteps:=1000000)(disch:=(first|omega|(simp only [qI,qJ,qK]<;>omega)|exact qL _)) only [go_sem,↓reduceIte,n0,reduceCtorEq,n1,n2,n3,n4,n5,i0,i1,i2,i3,i4,i5,i6,i7]
 have hr1:blk (wr (((w.alloc (.cells qZ5 27)).alloc (.cells #[.int .i64 0,.slice none 0 0,.bool false,.slice none 0 0,.slice none 0 0,.int .i64 0,.slice none 0 0,.bool false,.slice none 0 0,.slice none 0 0] 27)).alloc (.cells qZ5 27)) (w.heap.size+2) 0 [.int .i64 0,.slice none 0 0,.bool false,.slice (some ⟨w.heap.size+1,0,none⟩) 2 2,.slice none 0 0]) w.heap.size=some (qZ5,27,(0,0)):=by simp (maxSteps:=1000000)(disch:=(first|omega|(simp only [qI,qJ,qK]<;>omega)|exact qL _)) only [go_sem,↓reduceIte,n0,reduceCtorEq,n1,n2,n3,n4,n5,i0,i1,i2,i3,i4,i5,i6,i7]
 obtain ⟨w1,hw1⟩:∃ y,y=(wr (((w.alloc (.cells qZ5 27)).alloc (.cells #[.int .i64 0,.slice none 0 0,.bool false,.slice none 0 0,.slice none 0 0,.int .i64 0,.slice none 0 0,.bool false,.slice none 0 0,.slice none 0 0] 27)).alloc (.cells qZ5 27)) (w.heap.size+2) 0 [.int .i64 0,.slice none 0 0,.bool false,.slice (some ⟨w.heap.size+1,0,none⟩) 2 2,.slice none 0 0]):=⟨_,rfl⟩
 rw [← hw1] at hE1 hz1 hl1 ht1 hr1
 rw [← hw1]
 clear hw1
 have hU1:Upd (fun b=>b=w.heap.size+1∨b=w.heap.size+2) w1 w1:=Upd.refl _ _
 have hb1:=hE1.blk_some hb id
 repeat ((first|refine qA rfl ?_|apply qB|refine qC rfl ?_|apply qD|apply qE|apply qF|apply qG|apply qH);try simp (maxSteps:=1000000)(disch:=(first|omega|(simp only [qI,qJ,qK]<;>omega)|exact qL _)) only [go_sem,↓reduceIte,n0,reduceCtorEq,n1,n2,n3,n4,n5,i0,i1,i2,i3,i4,i5,i6,i7,hb1,hl1,ht1,hq0,hq1,hq2])
 refine W.drawR (.take 0 (.take 1 (.take 2 (.take 3 (.take 4 (.take 5 (.take 6 (.only 7 (.take 8 (.last 9)))))))))) (NoB) mixed (by kernel_rfl) ?_
 try simp (maxSteps:=1000000)(disch:=(first|omega|(simp only [qI,qJ,qK]<;>omega)|exact qL _)) only [go_sem,↓reduceIte,n0,reduceCtorEq,n1,n2,n3,n4,n5,i0,i1,i2,i3,i4,i5,i6,i7,hb1,hl1,ht1,hq0,hq1,hq2,tl32]
 refine ⟨Upd.refl _ _,?_⟩
 have hlq2:blk w1.drew (w.heap.size+1)=_:=hl1
 have hx2:Upd (fun b=>b=w.heap.size+1∨b=w.heap.size+2) w1 w1.drew:=(Upd.refl _ _).drew
 generalize hw2:wr w1.drew (w.heap.size+1) 0 [.int .i64 (IntKind.i32.wrap (t.at 0).n),.slice none 0 0,.bool false,.slice none 0 0,.slice none 0 0] = w2
 have hl2:blk w2 (w.heap.size+1)=some (#[.int .i64 (IntKind.i32.wrap (t.at 0).n),.slice none 0 0,.bool false,.slice none 0 0,.slice none 0 0,.int .i64 0,.slice none 0 0,.bool false,.slice none 0 0,.slice none 0 0],27,(0,0)):=by rw [← hw2,blk_wr_eq,hlq2];rfl
 have hv2:Upd (fun b=>b=w.heap.size+1∨b=w.heap.size+2) w1.drew w2:=by rw [← hw2];exact (Upd.refl _ _).wr _ _ (.inr (.inl rfl))
 have hV2:Upd (fun b=>b=w.heap.size+1∨b=w.heap.size+2) w1 w2:=hx2.trans hv2
 have hU2:Upd (fun b=>b=w.heap.size+1∨b=w.heap.size+2) w1 w2:=hU1.trans hV2
 have hz2:=hU2.size
 have hX2:Ext w w2:=hE1.more hU2 fun b hb h=>by omega
 have hb2:=hX2.blk_some hb id
 have ht2:blk w2 (w.heap.size+2)=some (#[.int .i64 0,.slice none 0 0,.bool false,.slice (some ⟨w.heap.size+1,0,none⟩) 2 2,.slice none 0 0],27,(0,0)):=by
  rw [← hw2,blk_wr_ne (by omega)]
  exact ht1
 clear hw2
 have hf0:TreeC (fun b=>w1.heap.size≤b) w2 (.num (IntKind.i32.wrap (t.at 0).n)) [.int .i64 (IntKind.i32.wrap (t.at 0).n),.slice none 0 0,.bool false,.slice none 0 0,.slice none 0 0]:=(TreeC.keep (hv2.keeps fun b hb hk e=>by have hk':w1.heap.size≤b:=hk;omega) (TreeC.intro (tl32 _) (BytesV.nil _ _) (treesN _ _) (tagsN _ _):TreeC (fun b=>w1.heap.size≤b) w1.drew (.num (IntKind.i32.wrap (t.at 0).n)) [.int .i64 (IntKind.i32.wrap (t.at 0).n),.slice none 0 0,.bool false,.slice none 0 0,.slice none 0 0]))
 repeat ((first|refine qA rfl ?_|apply qB|refine qC rfl ?_|apply qD|apply qE|apply qF|apply qG|apply qH);try simp (maxSteps:=1000000)(disch:=(first|omega|(simp only [qI,qJ,qK]<;>omega)|exact qL _)) only [go_sem,↓reduceIte,n0,reduceCtorEq,n1,n2,n3,n4,n5,i0,i1,i2,i3,i4,i5,i6,i7,hb2,hl2,ht2,hq0,hq1,hq2])
 refine W.drawR (.take 0 (.take 1 (.take 2 (.take 3 (.take 4 (.take 5 (.only 6 (.take 7 (.last 8))))))))) (NoB) mixed (by kernel_rfl) ?_
 try simp (maxSteps:=1000000)(disch:=(first|omega|(simp only [qI,qJ,qK]<;>omega)|exact qL _)) only [go_sem,↓reduceIte,n0,reduceCtorEq,n1,n2,n3,n4,n5,i0,i1,i2,i3,i4,i5,i6,i7,hb2,hl2,ht2,hq0,hq1,hq2]
 refine ⟨Upd.refl _ _,?_⟩
 have hlq3:blk w2.drew (w.heap.size+1)=_:=hl2
 have hx3:Upd (fun b=>b=w.heap.size+1∨b=w.heap.size+2) w2 w2.drew:=(Upd.refl _ _).drew
 generalize hw3:wr w2.drew (w.heap.size+1) 5 [.int .i64 ((t.at 1).n),.slice none 0 0,.bool false,.slice none 0 0,.slice none 0 0] = w3
 have hl3:blk w3 (w.heap.size+1)=some (#[.int .i64 (IntKind.i32.wrap (t.at 0).n),.slice none 0 0,.bool false,.slice none 0 0,.slice none 0 0,.int .i64 ((t.at 1).n),.slice none 0 0,.bool false,.slice none 0 0,.slice none 0 0],27,(0,0)):=by rw [← hw3,blk_wr_eq,hlq3];rfl
 have hv3:Upd (fun b=>b=w.heap.size+1∨b=w.heap.size+2) w2.drew w3:=by rw [← hw3];exact (Upd.refl _ _).wr _ _ (.inr (.inl rfl))
 have hV3:Upd (fun b=>b=w.heap.size+1∨b=w.heap.size+2) w2 w3:=hx3.trans hv3
 have hU3:Upd (fun b=>b=w.heap.size+1∨b=w.heap.size+2) w1 w3:=hU2.trans hV3
 have hz3:=hU3.size
 have hX3:Ext w w3:=hE1.more hU3 fun b hb h=>by omega
 have hb3:=hX3.blk_some hb id
 have ht3:blk w3 (w.heap.size+2)=some (#[.int .i64 0,.slice none 0 0,.bool false,.slice (some ⟨w.heap.size+1,0,none⟩) 2 2,.slice none 0 0],27,(0,0)):=by
  rw [← hw3,blk_wr_ne (by omega)]
  exact ht2
 clear hw3
 have hf1:TreeC (fun b=>w1.heap.size≤b) w3 (.num ((t.at 1).n)) [.int .i64 ((t.at 1).n),.slice none 0 0,.bool false,.slice none 0 0,.slice none 0 0]:=(TreeC.keep (hv3.keeps fun b hb hk e=>by have hk':w1.heap.size≤b:=hk;omega) (TreeC.intro (hn64_1) (BytesV.nil _ _) (treesN _ _) (tagsN _ _):TreeC (fun b=>w1.heap.size≤b) w2.drew (.num ((t.at 1).n)) [.int .i64 ((t.at 1).n),.slice none 0 0,.bool false,.slice none 0 0,.slice none 0 0]))
 repeat ((first|refine qA rfl ?_|apply qB|refine qC rfl ?_|apply qD|apply qE|apply qF|apply qG|apply qH);try simp (maxSteps:=1000000)(disch:=(first|omega|(simp only [qI,qJ,qK]<;>omega)|exact qL _)) only [go_sem,↓reduceIte,n0,reduceCtorEq,n1,n2,n3,n4,n5,i0,i1,i2,i3,i4,i5,i6,i7,hb3,hl3,ht3,hq0,hq1,hq2])
 refine (EachG_fn (ok:=fun b=>b < w.heap.size) 60 ca_60 #[.pointer (some ⟨w.heap.size+2,0,none⟩)] w3 (tb:=b) (to:=o+2) hb3 hq2 ((hT.weaken fun b hb _=>hb).keep (hX3.keeps _)) (sortT_perm _) (sortT_lt hgu.2.1) (by rw [(sortT_perm t.u).length_eq];exact hgu.1)
  (fun b=>b=w.heap.size+2) (by omega) (fun b hb hk e=>by have hk':b < w.heap.size:=hk;omega) (fun b hb=>by have:=blk_lt ht3;omega)
  (fun wl done w'=>∃ v,blk w' (w.heap.size+2)=some (#[.int .i64 0,.slice none 0 0,.bool false,.slice (some ⟨w.heap.size+1,0,none⟩) 2 2,v],27,(0,0))∧GrowU (fun b=>w1.heap.size≤b) wl.heap.size (w.heap.size+2) w' 51 v done) (fun wl hE=>⟨_,hE.blk_some ht3 id,GrowU.nil _ _ _ _ _⟩) ?_).mono ?_
 ·rintro wl hE done y vv wc hpre ⟨v,hbv,hg⟩ hU hvv hy
  have hz':=hE.size
  have hzu:=hU.size
  have htl:=blk_lt ht3
  have hpl:=hpre.length_le
  simp only [List.length_append,List.length_cons,List.length_nil] at hpl
  rw [(sortT_perm t.u).length_eq] at hpl
  have hlu:=hgu.1
  have hmy:y∈t.u:=(sortT_perm t.u).mem_iff.1 (hpre.subset (by simp))
  refine (tagclX0_fn (ok:=fun b=>b < w.heap.size) _ _ _ _ v done y vv wc hbv hg hzu (by omega) (hvv.keep ((hE.mono (fun _ h=>h.elim) |>.trans hU:Upd (fun b=>b=w.heap.size+2) w3 wc).keeps fun b _ hk e=>by have hk':b < w.heap.size:=hk;omega)) hy (hgu.2.2 y hmy) (by omega) (fun b hb=>by have:=hz3;omega)).mono ?_
  rintro _ w2' ⟨⟨v',h1,h2⟩,h3⟩
  exact ⟨⟨v',h1,h2⟩,hU.trans' h3 fun b hb h=>h.elim id fun h=>by omega⟩
 rintro _ w4 ⟨wl,hEl,⟨v,ht4,hgU⟩,hUe⟩
 have hzl:=hEl.size
 obtain ⟨aU,kU,hvs,_⟩:=hgU.shape
 subst hvs
 have hV4:Upd (fun b=>b=w.heap.size+1∨b=w.heap.size+2) w3 w4:=(hEl.mono fun _ h=>h.elim).trans (hUe.mono fun _ h=>.inr h)
 have hU4:Upd (fun b=>b=w.heap.size+1∨b=w.heap.size+2) w1 w4:=hU3.trans hV4
 have hz4:=hU4.size
 have hX4:Ext w w4:=hE1.more hU4 fun b hb h=>by omega
 have hb4:=hX4.blk_some hb id
 have hl4:=(((hEl.mono fun _ h=>h.elim).trans hUe:Upd (fun b=>b=w.heap.size+2) w3 w4)).blk_some hl3 (by omega)
 have hTU:=hgU.tags (ok':=(fun b=>w1.heap.size≤b)) (fun _ _ h=>h) (fun b hb=>by have:=hz3;omega)
 repeat ((first|refine qA rfl ?_|apply qB|refine qC rfl ?_|apply qD|apply qE|apply qF|apply qG|apply qH);try simp (maxSteps:=1000000)(disch:=(first|omega|(simp only [qI,qJ,qK]<;>omega)|exact qL _)) only [go_sem,↓reduceIte,n0,reduceCtorEq,n1,n2,n3,n4,n5,i0,i1,i2,i3,i4,i5,i6,i7,hb4,hl4,ht4,hq0,hq1,hq2,cellsAt_five])
 refine (sorted_fn _ _ w4 hTU (sortT_lt hgu.2.1) (by rw [(sortT_perm t.u).length_eq];exact hgu.1)).mono ?_
 rintro _ w5 hEs
 have hV5:Upd (fun b=>b=w.heap.size+1∨b=w.heap.size+2) w4 w5:=hEs.mono fun _ h=>h.elim
 have hU5:Upd (fun b=>b=w.heap.size+1∨b=w.heap.size+2) w1 w5:=hU4.trans hV5
 have hz5:=hU5.size
 have hX5:Ext w w5:=hE1.more hU5 fun b hb h=>by omega
 have hb5:=hX5.blk_some hb id
 have hl5:=hEs.blk_some hl4 id
 have ht5:=hEs.blk_some ht4 id
 have hr5:=(hU5.blk_some hr1 (by omega))
 have hC_5:Upd (fun b=>b=w.heap.size+1∨b=w.heap.size+2) w5 w5:=Upd.refl _ _
 have hC_4:Upd (fun b=>b=w.heap.size+1∨b=w.heap.size+2) w4 w5:=hV5.trans hC_5
 have hC_3:Upd (fun b=>b=w.heap.size+1∨b=w.heap.size+2) w3 w5:=hV4.trans hC_4
 have hC_2:Upd (fun b=>b=w.heap.size+1∨b=w.heap.size+2) w2 w5:=hV3.trans hC_3
 have hC_1:Upd (fun b=>b=w.heap.size+1∨b=w.heap.size+2) w1 w5:=hV2.trans hC_2
 have hF0:=TreeC.keep (hC_2.keeps fun b hb hk e=>by have hk':w1.heap.size≤b:=hk;omega) hf0
 have hF1:=TreeC.keep (hC_3.keeps fun b hb hk e=>by have hk':w1.heap.size≤b:=hk;omega) hf1
 replace hF0:TreeC (fun b=>w1.heap.size≤b) w5 (tlF (tlP d) fX0_0 (t.at 0)) [.int .i64 (IntKind.i32.wrap (t.at 0).n),.slice none 0 0,.bool false,.slice none 0 0,.slice none 0 0]:=hF0
 replace hF1:TreeC (fun b=>w1.heap.size≤b) w5 (tlF (tlP d) fX0_1 (t.at 1)) [.int .i64 ((t.at 1).n),.slice none 0 0,.bool false,.slice none 0 0,.slice none 0 0]:=hF1
 have hTL:TreesV (fun b=>(fun b=>w1.heap.size≤b) b∨b=w.heap.size+1) w5 (.slice (some ⟨w.heap.size+1,0,none⟩) 2 2) [tlF (tlP d) fX0_0 (t.at 0),tlF (tlP d) fX0_1 (t.at 1)]:=by
  refine ⟨[[.int .i64 (IntKind.i32.wrap (t.at 0).n),.slice none 0 0,.bool false,.slice none 0 0,.slice none 0 0],[.int .i64 ((t.at 1).n),.slice none 0 0,.bool false,.slice none 0 0,.slice none 0 0]],⟨_,2,rfl,Nat.le_refl _,(by intro cs hm;simp only [List.mem_cons,List.not_mem_nil,or_false] at hm;rcases hm with rfl|rfl<;>rfl),.inr ⟨_,rfl,rfl,.inr rfl,_,hl5,fun i hi=>by rw [Nat.zero_add,List.getElem?_toArray];rfl⟩⟩,rfl,fun i h1 h2 => ?_⟩
  match i,h1 with
  | 0,_=>exact TreeC.weaken (fun b _ hk=>.inl hk) hF0
  | 1,_=>exact TreeC.weaken (fun b _ hk=>.inl hk) hF1
 repeat ((first|refine qA rfl ?_|apply qB|refine qC rfl ?_|apply qD|apply qE|apply qF|apply qG|apply qH);try simp (maxSteps:=1000000)(disch:=(first|omega|(simp only [qI,qJ,qK]<;>omega)|exact qL _)) only [go_sem,↓reduceIte,n0,reduceCtorEq,n1,n2,n3,n4,n5,i0,i1,i2,i3,i4,i5,i6,i7,hb5,hl5,ht5,hq0,hq1,hq2,hr5,cellsAt_five])
 refine ⟨⟨_,rfl,?_⟩,hX5.wr _ _ (.inl (Nat.le_refl _))⟩
 have hUr:Upd (fun b=>b=w.heap.size) w5 (wr w5 w.heap.size 0 [.int .i64 0,.slice none 0 0,.bool false,.slice (some ⟨w.heap.size+1,0,none⟩) 2 2,.slice aU (sortT t.u).length kU]):=(Upd.refl _ _).wr _ _ (.inr rfl)
 have hTU2:=hTU.keep (hEs.keeps _)
 exact TreeC.intro rfl (BytesV.nil _ _) ((hTL.keep (hUr.keeps fun b _ hk e=>by rcases hk with hk|hk<;>omega)).weaken fun b _ hk=>by rcases hk with hk|hk<;>omega) ((hTU2.keep (hUr.keeps fun b _ hk e=>by omega)).weaken fun b _ hk=>by omega)

theorem tagclX1_fn {ok OK:Blocks} {B tb:Nat} (c0 c1 c2 c3 v:Value) (done:List TagD) (y:TagD) (vv:Value) (w:World) (hbt:blk w tb=some (#[c0,c1,c2,c3,v],27,(0,0))) (hg:GrowU OK B tb w 51 v done) (hB:B≤w.heap.size) (htb:tb < B) (hvv:BytesV ok w vv y.2) (hy:y.1 < 2 ^ 32) (hyl:y.2.length≤32767) (hdl:done.length≤32767) (hOK:∀ b,B≤b→OK b) :
  Fn Tryd.prog 51 #[.int .u32 y.1,vv,.pointer (some ⟨tb,0,none⟩)] w fun _ w'=>(∃ v',blk w' tb=some (#[c0,c1,c2,c3,v'],27,(0,0))∧GrowU OK B tb w' 51 v' (done++[y]))∧Upd (fun b=>b=tb∨B≤b) w w':=by
 have htl:=blk_lt hbt
 refine fn_of_W Tryd.func51 rfl Tryd.results51 Tryd.ntmps51 rfl ?_
 repeat ((first|refine qA rfl ?_|apply qB|refine qC rfl ?_|apply qD|apply qE|apply qF|apply qG|apply qH);try simp (maxSteps:=1000000)(disch:=(first|omega|(simp only [qI,qJ,qK]<;>omega)|exact qL _)) only [go_sem,↓reduceIte,n0,reduceCtorEq,n1,n2,n3,n4,n5,i0,i1,i2,i3,i4,i5,i6,i7])
 obtain ⟨av,kv,rfl,_⟩:=hg.shape
 have hnb:∀ b,b < B∨w.heap.size≤b→¬ ownB (.slice av done.length kv) b:=fun b hb h=>by
  have:=hg.above h
  have:=hg.below h
  omega
 refine W.drawR (.take 0 (.take 1 (.take 2 (.take 3 (.only 4 (.only 5 (.only 6 (.only 7 (.take 8 (.last 9)))))))))) (ownB (.slice av done.length kv)) mixed (by kernel_rfl) ?_
 simp (maxSteps:=1000000)(disch:=(first|omega|(simp only [qI,qJ,qK]<;>omega)|exact qL _|(refine hnb _ ?_;first|omega|(simp only [World.size_alloc,size_wr,size_drew]<;>omega)))) only [go_sem,↓reduceIte,n0,reduceCtorEq,n1,n2,n3,n4,n5,i0,i1,i2,i3,i4,i5,i6,i7,hbt]
 refine wp_copyN ap_22_22 (ok:=ok) (s:=y.2) (v:=vv) (by first|rfl|simp (maxSteps:=1000000)(disch:=(first|omega|(simp only [qI,qJ,qK]<;>omega)|exact qL _)) only [go_sem,↓reduceIte,n0,reduceCtorEq,n1,n2,n3,n4,n5,i0,i1,i2,i3,i4,i5,i6,i7]) (by first|rfl|simp (maxSteps:=1000000)(disch:=(first|omega|(simp only [qI,qJ,qK]<;>omega)|exact qL _)) only [go_sem,↓reduceIte,n0,reduceCtorEq,n1,n2,n3,n4,n5,i0,i1,i2,i3,i4,i5,i6,i7]) (hvv.keep (Ext.keeps ((Upd.refl _ _).drew) _)) (by omega) ?_
 intro v1 w1 ho1 hE1 hf1
 obtain ⟨a1,k1,rfl,_⟩:=ho1.shape
 have hB1:=Own.bytes (ok:=fun b=>w.heap.size≤b) ho1 fun b hb=>hf1 b hb
 have hP1:Upd (ownB (.slice av done.length kv)) w.drew w1:=hE1.mono fun _ h=>h.elim
 have hs1:=hE1.size
 simp only [size_drew] at hs1
 refine ⟨hP1,?_⟩
 simp (maxSteps:=1000000)(disch:=(first|omega|(simp only [qI,qJ,qK]<;>omega)|exact qL _|(refine hnb _ ?_;first|omega|(simp only [World.size_alloc,size_wr,size_drew]<;>omega)))) only [go_sem,↓reduceIte,n0,reduceCtorEq,n1,n2,n3,n4,n5,i0,i1,i2,i3,i4,i5,i6,i7,hbt]
 refine ⟨hP1,?_⟩
 have hP2:Upd (ownB (.slice av done.length kv)) w.drew (w1.alloc (.cells #[.int .u32 y.1,.slice a1 y.2.length k1] 51)):=hP1.alloc _
 have hn2:blk (w1.alloc (.cells #[.int .u32 y.1,.slice a1 y.2.length k1] 51)) w1.heap.size=some (#[.int .u32 y.1,.slice a1 y.2.length k1],51,(0,0)):=blk_alloc_new rfl
 have hs2:(w1.alloc (.cells #[.int .u32 y.1,.slice a1 y.2.length k1] 51)).heap.size=w1.heap.size+1:=World.size_alloc _ _
 have hE2:Ext w1 (w1.alloc (.cells #[.int .u32 y.1,.slice a1 y.2.length k1] 51)):=Upd.alloc (Upd.refl _ _) _
 refine ⟨hP2,?_⟩
 try simp only [List.append_nil]
 generalize (w1.alloc (.cells #[.int .u32 y.1,.slice a1 y.2.length k1] 51))=w2 at *
 have hEw:Ext w w2:=(((Upd.refl _ _).drew).trans hE1).trans hE2
 obtain ⟨css,hown,hall⟩:=(hg.ext hEw).ex
 have hcl:=hall.1
 have hx2:TagC (fun b=>OK b∧b≠tb∧¬ ownB (.slice av done.length kv) b) w2 y [.int .u32 y.1,.slice a1 y.2.length k1]:=⟨_,rfl,(hB1.keep (hE2.keeps _)).weaken fun b _ hk=>⟨hOK b (by omega),by omega,hnb b (.inr hk)⟩,hy⟩
 refine wp_append ap_25_25 (m:=1) (news:=[.int .u32 y.1,.slice a1 y.2.length k1]) (n:=css.length) (cs:=css.flatten) (v:=.slice av done.length kv) ?_ rfl hown.1 hall.flat_cells (Src.blk (fr:=(0,0)) (T:=51) hn2 rfl rfl) ?_ ?_ ?_
 ·first|rfl|simp (maxSteps:=1000000)(disch:=(first|omega|(simp only [qI,qJ,qK]<;>omega)|exact qL _)) only [go_sem,↓reduceIte,n0,reduceCtorEq,n1,n2,n3,n4,n5,i0,i1,i2,i3,i4,i5,i6,i7]
 ·omega
 ·omega
 intro v' w3 ho hu hfr
 have hg3:=GrowU.snoc hown hall hx2 hu hfr ho
 obtain ⟨va,vc,hv',_⟩:=ho.shape
 subst hv'
 have hP3:=hP2.trans hu
 have hs3:=hu.size
 have hbt3:=hP3.blk_some (show blk w.drew tb=_ from hbt) (hnb _ (.inl htb))
 have hne:¬ ownB (.slice va (css.length+1) vc) tb:=fun h=>(hfr _ h).elim (hnb _ (.inl htb)) (fun h=>by omega)
 refine ⟨hP3,?_⟩
 simp (maxSteps:=1000000)(disch:=(first|omega|(simp only [qI,qJ,qK]<;>omega)|exact qL _|(refine hnb _ ?_;first|omega|(simp only [World.size_alloc,size_wr,size_drew]<;>omega)))) only [go_sem,↓reduceIte,n0,reduceCtorEq,n1,n2,n3,n4,n5,i0,i1,i2,i3,i4,i5,i6,i7,hbt3]
 repeat ((first|refine qA rfl ?_|apply qB|refine qC rfl ?_|apply qD|apply qE|apply qF|apply qG|apply qH);try simp (maxSteps:=1000000)(disch:=(first|omega|(simp only [qI,qJ,qK]<;>omega)|exact qL _)) only [go_sem,↓reduceIte,n0,reduceCtorEq,n1,n2,n3,n4,n5,i0,i1,i2,i3,i4,i5,i6,i7])
 refine ⟨⟨.slice va (css.length+1) vc,by first|(rw [blk_wr_eq,hbt3];rfl)|rfl|(rw [hbt3];rfl)|(rw [blk_wr_eq,hbt3]),hg3.upd ((Upd.refl _ _).wr _ _ (.inr rfl)) hne⟩,?_⟩
 refine Upd.wr ?_ _ _ (.inr (.inl rfl))
 exact (((Upd.refl (fun b=>b=tb∨B≤b) w).drew).trans (hP3.mono fun b h=>.inr (hg.above h)))

set_option maxHeartbeats 4000000 in
theorem tellX1_fn {d:Nat} {ok:Blocks} (t:Tree) (cs:List Value) (w:World) {b o:Nat} {x:Blk} (hb:blk w b=some x) (hq:∀ k,k < 7→x.1[o+k]? = cs[k]?) (hR:RepS true (d+2) fs_X1 ok w t cs) (hg:GoodP (d+2) fs_X1 t) :
  Fn Tryd.prog 39 #[.pointer (some ⟨b,o,none⟩)] w fun r w'=>(∃ c,r = .agg c.toArray∧TreeC (fun b=>w.heap.size≤b) w' (tlP (d+2) fs_X1 t) c)∧Ext w w':=by
 have hbl:=blk_lt hb
 obtain ⟨⟨gd0,gd1,gd2,gd3,gd4,gd5,-⟩,hgu⟩:=hg
 replace gd0:GoodF (GoodP (d+1)) fX1_0 (t.at 0):=gd0
 replace gd1:GoodF (GoodP (d+1)) fX1_1 (t.at 1):=gd1
 replace gd2:GoodF (GoodP (d+1)) fX1_2 (t.at 2):=gd2
 replace gd3:GoodF (GoodP (d+1)) fX1_3 (t.at 3):=gd3
 replace gd4:GoodF (GoodP (d+1)) fX1_4 (t.at 4):=gd4
 replace gd5:GoodF (GoodP (d+1)) fX1_5 (t.at 5):=gd5
 obtain ⟨cs0,q,hcs,hL,hT⟩:=hR.inv
 obtain ⟨c0,e0,rfl,h0,c1,e1,rfl,h1,c2,e2,rfl,h2,c3,e3,rfl,h3,c4,e4,rfl,h4,c5,e5,rfl,h5,rfl⟩:=hL
 replace h0:RepF (RepS true (d+1)) (szS true (d+1)) fX1_0 ok w (t.at 0) c0:=h0
 replace h1:RepF (RepS true (d+1)) (szS true (d+1)) fX1_1 ok w (t.at 1) c1:=h1
 replace h2:RepF (RepS true (d+1)) (szS true (d+1)) fX1_2 ok w (t.at 2) c2:=h2
 replace h3:RepF (RepS true (d+1)) (szS true (d+1)) fX1_3 ok w (t.at 3) c3:=h3
 replace h4:RepF (RepS true (d+1)) (szS true (d+1)) fX1_4 ok w (t.at 4) c4:=h4
 replace h5:RepF (RepS true (d+1)) (szS true (d+1)) fX1_5 ok w (t.at 5) c5:=h5
 obtain rfl:=(RepF_num (by decide)).1 h0
 obtain rfl:=(RepF_num (by decide)).1 h1
 obtain ⟨ab2,ac2,L2,rfl,hL2,hnn2,hs2⟩:=RepF_listT rfl h2
 have hgl2:=gd2.listL rfl hL2
 obtain ⟨ab3,ac3,L3,rfl,hL3,hnn3,hs3⟩:=RepF_listT rfl h3
 have hgl3:=gd3.listL rfl hL3
 obtain rfl:=(RepF_num (by decide)).1 h4
 obtain rfl:=(RepF_num (by decide)).1 h5
 obtain ⟨qm,rfl⟩:=hT.shape
 subst hcs
 have hq0:x.1[o]? = some (.int .i32 (IntKind.i32.wrap (t.at 0).n)):=hq 0 (by decide)
 have hq1:x.1[o+1]? = some (.int .i32 (IntKind.i32.wrap (t.at 1).n)):=hq 1 (by decide)
 have hq2:x.1[o+2]? = some (.slice ab2 L2.length ac2):=hq 2 (by decide)
 have hq3:x.1[o+3]? = some (.slice ab3 L3.length ac3):=hq 3 (by decide)
 have hq4:x.1[o+4]? = some (.int .i8 (IntKind.i8.wrap (t.at 4).n)):=hq 4 (by decide)
 have hq5:x.1[o+5]? = some (.int .i32 (IntKind.i32.wrap (t.at 5).n)):=hq 5 (by decide)
 have hq6:x.1[o+6]? = some (.map qm):=hq 6 (by decide)
 refine fn_of_W Tryd.func39 rfl Tryd.results39 Tryd.ntmps39 rfl ?_
 repeat ((first|refine qA rfl ?_|apply qB|refine qC rfl ?_|apply qD|apply qE|apply qF|apply qG|apply qH);try simp (maxSteps:=1000000)(disch:=(first|omega|(simp only [qI,qJ,qK]<;>omega)|exact qL _)) only [go_sem,↓reduceIte,n0,reduceCtorEq,n1,n2,n3,n4,n5,i0,i1,i2,i3,i4,i5,i6,i7])
 refine wp_make (T:=24) (E:=27) (size:=5) (bytes:=88) (z:=.agg qZ5) (l:=6) (c:=6) (kl:=.i64) (kc:=.i64) (by kernel_rfl) (by kernel_rfl) (by first|rfl|(simp (maxSteps:=1000000)(disch:=(first|omega|(simp only [qI,qJ,qK]<;>omega)|exact qL _)) only [go_sem,↓reduceIte,n0,reduceCtorEq,n1,n2,n3,n4,n5,i0,i1,i2,i3,i4,i5,i6,i7];rfl)) (by first|rfl|(simp (maxSteps:=1000000)(disch:=(first|omega|(simp only [qI,qJ,qK]<;>omega)|exact qL _)) only [go_sem,↓reduceIte,n0,reduceCtorEq,n1,n2,n3,n4,n5,i0,i1,i2,i3,i4,i5,i6,i7];rfl)) (by omega) (by omega) (by omega) ?_
 have hmd:madeCells (Value.agg qZ5).cells (6 * 5)=#[.int .i64 0,.slice none 0 0,.bool false,.slice none 0 0,.slice none 0 0,.int .i64 0,.slice none 0 0,.bool false,.slice none 0 0,.slice none 0 0,.int .i64 0,.slice none 0 0,.bool false,.slice none 0 0,.slice none 0 0,.int .i64 0,.slice none 0 0,.bool false,.slice none 0 0,.slice none 0 0,.int .i64 0,.slice none 0 0,.bool false,.slice none 0 0,.slice none 0 0,.int .i64 0,.slice none 0 0,.bool false,.slice none 0 0,.slice none 0 0]:=by kernel_rfl
 rw [hmd]
 simp (maxSteps:=1000000)(disch:=(first|omega|(simp only [qI,qJ,qK]<;>omega)|exact qL _)) only [go_sem,↓reduceIte,n0,reduceCtorEq,n1,n2,n3,n4,n5,i0,i1,i2,i3,i4,i5,i6,i7]
 repeat ((first|refine qA rfl ?_|apply qB|refine qC rfl ?_|apply qD|apply qE|apply qF|apply qG|apply qH);try simp (maxSteps:=1000000)(disch:=(first|omega|(simp only [qI,qJ,qK]<;>omega)|exact qL _)) only [go_sem,↓reduceIte,n0,reduceCtorEq,n1,n2,n3,n4,n5,i0,i1,i2,i3,i4,i5,i6,i7])
 have hE1:Ext w (wr (((w.alloc (.cells qZ5 27)).alloc (.cells #[.int .i64 0,.slice none 0 0,.bool false,.slice none 0 0,.slice none 0 0,.int .i64 0,.slice none 0 0,.bool false,.slice none 0 0,.slice none 0 0,.int .i64 0,.slice none 0 0,.bool false,.slice none 0 0,.slice none 0 0,.int .i64 0,.slice none 0 0,.bool false,.slice none 0 0,.slice none 0 0,.int .i64 0,.slice none 0 0,.bool false,.slice none 0 0,.slice none 0 0,.int .i64 0,.slice none 0 0,.bool false,.slice none 0 0,.slice none 0 0] 27)).alloc (.cells qZ5 27)) (w.heap.size+2) 0 [.int .i64 0,.slice none 0 0,.bool false,.slice (some ⟨w.heap.size+1,0,none⟩) 6 6,.slice none 0 0]):=(Upd.alloc (Upd.alloc (Upd.alloc (Upd.refl _ _) _) _) _).wr _ _ (.inl (by omega))
 have hz1:(wr (((w.alloc (.cells qZ5 27)).alloc (.cells #[.int .i64 0,.slice none 0 0,.bool false,.slice none 0 0,.slice none 0 0,.int .i64 0,.slice none 0 0,.bool false,.slice none 0 0,.slice none 0 0,.int .i64 0,.slice none 0 0,.bool false,.slice none 0 0,.slice none 0 0,.int .i64 0,.slice none 0 0,.bool false,.slice none 0 0,.slice none 0 0,.int .i64 0,.slice none 0 0,.bool false,.slice none 0 0,.slice none 0 0,.int .i64 0,.slice none 0 0,.bool false,.slice none 0 0,.slice none 0 0] 27)).alloc (.cells qZ5 27)) (w.heap.size+2) 0 [.int .i64 0,.slice none 0 0,.bool false,.slice (some ⟨w.heap.size+1,0,none⟩) 6 6,.slice none 0 0]).heap.size=w.heap.size+3:=by simp only [size_wr,World.size_alloc]
 have hl1:blk (wr (((w.alloc (.cells qZ5 27)).alloc (.cells #[.int .i64 0,.slice none 0 0,.bool false,.slice none 0 0,.slice none 0 0,.int .i64 0,.slice none 0 0,.bool false,.slice none 0 0,.slice none 0 0,.int .i64 0,.slice none 0 0,.bool false,.slice none 0 0,.slice none 0 0,.int .i64 0,.slice none 0 0,.bool false,.slice none 0 0,.slice none 0 0,.int .i64 0,.slice none 0 0,.bool false,.slice none 0 0,.slice none 0 0,.int .i64 0,.slice none 0 0,.bool false,.slice none 0 0,.slice none 0 0] 27)).alloc (.cells qZ5 27)) (w.heap.size+2) 0 [.int .i64 0,.slice none 0 0,.bool false,.slice (some ⟨w.heap.size+1,0,none⟩) 6 6,.slice none 0 0]) (w.heap.size+1)=some (#[.int .i64 0,.slice none 0 0,.bool false,.slice none 0 0,.slice none 0 0,.int .i64 0,.slice none 0 0,.bool false,.slice none 0 0,.slice none 0 0,.int .i64 0,.slice none 0 0,.bool false,.slice none 0 0,.slice none 0 0,.int .i64 0,.slice none 0 0,.bool false,.slice none 0 0,.slice none 0 0,.int .i64 0,.slice none 0 0,.bool false,.slice none 0 0,.slice none 0 0,.int .i64 0,.slice none 0 0,.bool false,.slice none 0 0,.slice none 0 0],27,(0,0)):=by simp (maxSteps:=1000000)(disch:=(first|omega|(simp only [qI,qJ,qK]<;>omega)|exact qL _)) only [go_sem,↓reduceIte,n0,reduceCtorEq,n1,n2,n3,n4,n5,i0,i1,i2,i3,i4,i5,i6,i7]
 have ht1:blk (wr (((w.alloc (.cells qZ5 27)).alloc (.cells #[.int .i64 0,.slice none 0 0,.bool false,.slice none 0 0,.slice none 0 0,.int .i64 0,.slice none 0 0,.bool false,.slice none 0 0,.slice none 0 0,.int .i64 0,.slice none 0 0,.bool false,.slice none 0 0,.slice none 0 0,.int .i64 0,.slice none 0 0,.bool false,.slice none 0 0,.slice none 0 0,.int .i64 0,.slice none 0 0,.bool false,.slice none 0 0,.slice none 0 0,.int .i64 0,.slice none 0 0,.bool false,.slice none 0 0,.slice none 0 0] 27)).alloc (.cells qZ5 27)) (w.heap.size+2) 0 [.int .i64 0,.slice none 0 0,.bool false,.slice (some ⟨w.heap.size+1,0,none⟩) 6 6,.slice none 0 0]) (w.heap.size+2)=some (#[.int .i64 0,.slice none 0 0,.bool false,.slice (some ⟨w.heap.size+1,0,none⟩) 6 6,.slice none 0 0],27,(0,0)):=by simp (maxSteps:=1000000)(disch:=(first|omega|(simp only [qI,qJ,qK]<;>omega)|exact qL _)) only [go_sem,↓reduceIte,n0,reduceCtorEq,n1,n2,n3,n4,n5,i0,i1,i2,i3,i4,i5,i6,i7]
 have hr1:blk (wr (((w.alloc (.cells qZ5 27)).alloc (.cells #[.int .i64 0,.slice none 0 0,.bool false,.slice none 0 0,.slice none 0 0,.int .i64 0,.slice none 0 0,.bool false,.slice none 0 0,.slice none 0 0,.int .i64 0,.slice none 0 0,.bool false,.slice none 0 0,.slice none 0 0,.int .i64 0,.slice none 0 0,.bool false,.slice none 0 0,.slice none 0 0,.int .i64 0,.slice none 0 0,.bool false,.slice none 0 0,.slice none 0 0,.int .i64 0,.slice none 0 0,.bool false,.slice none 0 0,.slice none 0 0] 27)).alloc (.cells qZ5 27)) (w.heap.size+2) 0 [.int .i64 0,.slice none 0 0,.bool false,.slice (some ⟨w.heap.size+1,0,none⟩) 6 6,.slice none 0 0]) w.heap.size=some (qZ5,27,(0,0)):=by simp (maxSteps:=1000000)(disch:=(first|omega|(simp only [qI,qJ,qK]<;>omega)|exact qL _)) only [go_sem,↓reduceIte,n0,reduceCtorEq,n1,n2,n3,n4,n5,i0,i1,i2,i3,i4,i5,i6,i7]
 obtain ⟨w1,hw1⟩:∃ y,y=(wr (((w.alloc (.cells qZ5 27)).alloc (.cells #[.int .i64 0,.slice none 0 0,.bool false,.slice none 0 0,.slice none 0 0,.int .i64 0,.slice none 0 0,.bool false,.slice none 0 0,.slice none 0 0,.int .i64 0,.slice none 0 0,.bool false,.slice none 0 0,.slice none 0 0,.int .i64 0,.slice none 0 0,.bool false,.slice none 0 0,.slice none 0 0,.int .i64 0,.slice none 0 0,.bool false,.slice none 0 0,.slice none 0 0,.int .i64 0,.slice none 0 0,.bool false,.slice none 0 0,.slice none 0 0] 27)).alloc (.cells qZ5 27)) (w.heap.size+2) 0 [.int .i64 0,.slice none 0 0,.bool false,.slice (some ⟨w.heap.size+1,0,none⟩) 6 6,.slice none 0 0]):=⟨_,rfl⟩
 rw [← hw1] at hE1 hz1 hl1 ht1 hr1
 rw [← hw1]
 clear hw1
 have hU1:Upd (fun b=>b=w.heap.size+1∨b=w.heap.size+2) w1 w1:=Upd.refl _ _
 have hb1:=hE1.blk_some hb id
 repeat ((first|refine qA rfl ?_|apply qB|refine qC rfl ?_|apply qD|apply qE|apply qF|apply qG|apply qH);try simp (maxSteps:=1000000)(disch:=(first|omega|(simp only [qI,qJ,qK]<;>omega)|exact qL _)) only [go_sem,↓reduceIte,n0,reduceCtorEq,n1,n2,n3,n4,n5,i0,i1,i2,i3,i4,i5,i6,i7,hb1,hl1,ht1,hq0,hq1,hq2,hq3,hq4,hq5,hq6])
 refine W.drawR (.take 0 (.take 1 (.take 2 (.take 3 (.take 4 (.take 5 (.take 6 (.only 7 (.take 8 (.last 9)))))))))) (NoB) mixed (by kernel_rfl) ?_
 try simp (maxSteps:=1000000)(disch:=(first|omega|(simp only [qI,qJ,qK]<;>omega)|exact qL _)) only [go_sem,↓reduceIte,n0,reduceCtorEq,n1,n2,n3,n4,n5,i0,i1,i2,i3,i4,i5,i6,i7,hb1,hl1,ht1,hq0,hq1,hq2,hq3,hq4,hq5,hq6,tl32]
 refine ⟨Upd.refl _ _,?_⟩
 have hlq2:blk w1.drew (w.heap.size+1)=_:=hl1
 have hx2:Upd (fun b=>b=w.heap.size+1∨b=w.heap.size+2) w1 w1.drew:=(Upd.refl _ _).drew
 generalize hw2:wr w1.drew (w.heap.size+1) 0 [.int .i64 (IntKind.i32.wrap (t.at 0).n),.slice none 0 0,.bool false,.slice none 0 0,.slice none 0 0] = w2
 have hl2:blk w2 (w.heap.size+1)=some (#[.int .i64 (IntKind.i32.wrap (t.at 0).n),.slice none 0 0,.bool false,.slice none 0 0,.slice none 0 0,.int .i64 0,.slice none 0 0,.bool false,.slice none 0 0,.slice none 0 0,.int .i64 0,.slice none 0 0,.bool false,.slice none 0 0,.slice none 0 0,.int .i64 0,.slice none 0 0,.bool false,.slice none 0 0,.slice none 0 0,.int .i64 0,.slice none 0 0,.bool false,.slice none 0 0,.slice none 0 0,.int .i64 0,.slice none 0 0,.bool false,.slice none 0 0,.slice none 0 0],27,(0,0)):=by rw [← hw2,blk_wr_eq,hlq2];rfl
 have hv2:Upd (fun b=>b=w.heap.size+1∨b=w.heap.size+2) w1.drew w2:=by rw [← hw2];exact (Upd.refl _ _).wr _ _ (.inr (.inl rfl))
 have hV2:Upd (fun b=>b=w.heap.size+1∨b=w.heap.size+2) w1 w2:=hx2.trans hv2
 have hU2:Upd (fun b=>b=w.heap.size+1∨b=w.heap.size+2) w1 w2:=hU1.trans hV2
 have hz2:=hU2.size
 have hX2:Ext w w2:=hE1.more hU2 fun b hb h=>by omega
 have hb2:=hX2.blk_some hb id
 have ht2:blk w2 (w.heap.size+2)=some (#[.int .i64 0,.slice none 0 0,.bool false,.slice (some ⟨w.heap.size+1,0,none⟩) 6 6,.slice none 0 0],27,(0,0)):=by
  rw [← hw2,blk_wr_ne (by omega)]
  exact ht1
 clear hw2
 have hf0:TreeC (fun b=>w1.heap.size≤b) w2 (.num (IntKind.i32.wrap (t.at 0).n)) [.int .i64 (IntKind.i32.wrap (t.at 0).n),.slice none 0 0,.bool false,.slice none 0 0,.slice none 0 0]:=(TreeC.keep (hv2.keeps fun b hb hk e=>by have hk':w1.heap.size≤b:=hk;omega) (TreeC.intro (tl32 _) (BytesV.nil _ _) (treesN _ _) (tagsN _ _):TreeC (fun b=>w1.heap.size≤b) w1.drew (.num (IntKind.i32.wrap (t.at 0).n)) [.int .i64 (IntKind.i32.wrap (t.at 0).n),.slice none 0 0,.bool false,.slice none 0 0,.slice none 0 0]))
 repeat ((first|refine qA rfl ?_|apply qB|refine qC rfl ?_|apply qD|apply qE|apply qF|apply qG|apply qH);try simp (maxSteps:=1000000)(disch:=(first|omega|(simp only [qI,qJ,qK]<;>omega)|exact qL _)) only [go_sem,↓reduceIte,n0,reduceCtorEq,n1,n2,n3,n4,n5,i0,i1,i2,i3,i4,i5,i6,i7,hb2,hl2,ht2,hq0,hq1,hq2,hq3,hq4,hq5,hq6])
 refine W.drawR (.take 0 (.take 1 (.take 2 (.take 3 (.take 4 (.take 5 (.take 6 (.only 7 (.take 8 (.last 9)))))))))) (NoB) mixed (by kernel_rfl) ?_
 try simp (maxSteps:=1000000)(disch:=(first|omega|(simp only [qI,qJ,qK]<;>omega)|exact qL _)) only [go_sem,↓reduceIte,n0,reduceCtorEq,n1,n2,n3,n4,n5,i0,i1,i2,i3,i4,i5,i6,i7,hb2,hl2,ht2,hq0,hq1,hq2,hq3,hq4,hq5,hq6,tl32]
 refine ⟨Upd.refl _ _,?_⟩
 have hlq3:blk w2.drew (w.heap.size+1)=_:=hl2
 have hx3:Upd (fun b=>b=w.heap.size+1∨b=w.heap.size+2) w2 w2.drew:=(Upd.refl _ _).drew
 generalize hw3:wr w2.drew (w.heap.size+1) 5 [.int .i64 (IntKind.i32.wrap (t.at 1).n),.slice none 0 0,.bool false,.slice none 0 0,.slice none 0 0] = w3
 have hl3:blk w3 (w.heap.size+1)=some (#[.int .i64 (IntKind.i32.wrap (t.at 0).n),.slice none 0 0,.bool false,.slice none 0 0,.slice none 0 0,.int .i64 (IntKind.i32.wrap (t.at 1).n),.slice none 0 0,.bool false,.slice none 0 0,.slice none 0 0,.int .i64 0,.slice none 0 0,.bool false,.slice none 0 0,.slice none 0 0,.int .i64 0,.slice none 0 0,.bool false,.slice none 0 0,.slice none 0 0,.int .i64 0,.slice none 0 0,.bool false,.slice none 0 0,.slice none 0 0,.int .i64 0,.slice none 0 0,.bool false,.slice none 0 0,.slice none 0 0],27,(0,0)):=by rw [← hw3,blk_wr_eq,hlq3];rfl
 have hv3:Upd (fun b=>b=w.heap.size+1∨b=w.heap.size+2) w2.drew w3:=by rw [← hw3];exact (Upd.refl _ _).wr _ _ (.inr (.inl rfl))
 have hV3:Upd (fun b=>b=w.heap.size+1∨b=w.heap.size+2) w2 w3:=hx3.trans hv3
 have hU3:Upd (fun b=>b=w.heap.size+1∨b=w.heap.size+2) w1 w3:=hU2.trans hV3
 have hz3:=hU3.size
 have hX3:Ext w w3:=hE1.more hU3 fun b hb h=>by omega
 have hb3:=hX3.blk_some hb id
 have ht3:blk w3 (w.heap.size+2)=some (#[.int .i64 0,.slice none 0 0,.bool false,.slice (some ⟨w.heap.size+1,0,none⟩) 6 6,.slice none 0 0],27,(0,0)):=by
  rw [← hw3,blk_wr_ne (by omega)]
  exact ht2
 clear hw3
 have hf1:TreeC (fun b=>w1.heap.size≤b) w3 (.num (IntKind.i32.wrap (t.at 1).n)) [.int .i64 (IntKind.i32.wrap (t.at 1).n),.slice none 0 0,.bool false,.slice none 0 0,.slice none 0 0]:=(TreeC.keep (hv3.keeps fun b hb hk e=>by have hk':w1.heap.size≤b:=hk;omega) (TreeC.intro (tl32 _) (BytesV.nil _ _) (treesN _ _) (tagsN _ _):TreeC (fun b=>w1.heap.size≤b) w2.drew (.num (IntKind.i32.wrap (t.at 1).n)) [.int .i64 (IntKind.i32.wrap (t.at 1).n),.slice none 0 0,.bool false,.slice none 0 0,.slice none 0 0]))
 repeat ((first|refine qA rfl ?_|apply qB|refine qC rfl ?_|apply qD|apply qE|apply qF|apply qG|apply qH);try simp (maxSteps:=1000000)(disch:=(first|omega|(simp only [qI,qJ,qK]<;>omega)|exact qL _)) only [go_sem,↓reduceIte,n0,reduceCtorEq,n1,n2,n3,n4,n5,i0,i1,i2,i3,i4,i5,i6,i7,hb3,hl3,ht3,hq0,hq1,hq2,hq3,hq4,hq5,hq6])
 refine W.drawR (.take 0 (.take 1 (.take 2 (.take 3 (.take 4 (.take 5 (.take 6 (.take 7 (.take 8 (.last 9)))))))))) (NoB) mixed (by kernel_rfl) ?_
 try simp (maxSteps:=1000000)(disch:=(first|omega|(simp only [qI,qJ,qK]<;>omega)|exact qL _)) only [go_sem,↓reduceIte,n0,reduceCtorEq,n1,n2,n3,n4,n5,i0,i1,i2,i3,i4,i5,i6,i7,hb3,hl3,ht3,hq0,hq1,hq2,hq3,hq4,hq5,hq6,hnn2]
 generalize hw4:wr w3.drew (w.heap.size+1) 12 [.bool (t.at 2).null] = w4
 have hl4:blk w4 (w.heap.size+1)=some (#[.int .i64 (IntKind.i32.wrap (t.at 0).n),.slice none 0 0,.bool false,.slice none 0 0,.slice none 0 0,.int .i64 (IntKind.i32.wrap (t.at 1).n),.slice none 0 0,.bool false,.slice none 0 0,.slice none 0 0,.int .i64 0,.slice none 0 0,.bool (t.at 2).null,.slice none 0 0,.slice none 0 0,.int .i64 0,.slice none 0 0,.bool false,.slice none 0 0,.slice none 0 0,.int .i64 0,.slice none 0 0,.bool false,.slice none 0 0,.slice none 0 0,.int .i64 0,.slice none 0 0,.bool false,.slice none 0 0,.slice none 0 0],27,(0,0)):=by rw [← hw4,blk_wr_eq,show blk w3.drew (w.heap.size+1)=_ from hl3];rfl
 have hV4:Upd (fun b=>b=w.heap.size+1∨b=w.heap.size+2) w3 w4:=by rw [← hw4];exact ((Upd.refl _ _).drew).wr _ _ (.inr (.inl rfl))
 have hU4:Upd (fun b=>b=w.heap.size+1∨b=w.heap.size+2) w1 w4:=hU3.trans hV4
 have hz4:=hU4.size
 have hX4:Ext w w4:=hE1.more hU4 fun b hb h=>by omega
 have hb4:=hX4.blk_some hb id
 have ht4:blk w4 (w.heap.size+2)=some (#[.int .i64 0,.slice none 0 0,.bool false,.slice (some ⟨w.heap.size+1,0,none⟩) 6 6,.slice none 0 0],27,(0,0)):=by
  rw [← hw4,blk_wr_ne (by omega)]
  exact ht3
 clear hw4
 repeat ((first|refine qA rfl ?_|apply qB|refine qC rfl ?_|apply qD|apply qE|apply qF|apply qG|apply qH);try simp (maxSteps:=1000000)(disch:=(first|omega|(simp only [qI,qJ,qK]<;>omega)|exact qL _)) only [go_sem,↓reduceIte,n0,reduceCtorEq,n1,n2,n3,n4,n5,i0,i1,i2,i3,i4,i5,i6,i7,hb4,hl4,ht4,hq0,hq1,hq2,hq3,hq4,hq5,hq6])
 refine W.exitJ 0 (EndQ [(0,.pointer (some ⟨b,o,none⟩)),(2,.pointer (some ⟨w.heap.size,0,none⟩)),(3,.pointer (some ⟨w.heap.size+2,0,none⟩)),(39,.int .i64 L2.length)] (fun w'=>∃ v,blk w' (w.heap.size+1)=some (#[.int .i64 (IntKind.i32.wrap (t.at 0).n),.slice none 0 0,.bool false,.slice none 0 0,.slice none 0 0,.int .i64 (IntKind.i32.wrap (t.at 1).n),.slice none 0 0,.bool false,.slice none 0 0,.slice none 0 0,.int .i64 0,.slice none 0 0,.bool (t.at 2).null,v,.slice none 0 0,.int .i64 0,.slice none 0 0,.bool false,.slice none 0 0,.slice none 0 0,.int .i64 0,.slice none 0 0,.bool false,.slice none 0 0,.slice none 0 0,.int .i64 0,.slice none 0 0,.bool false,.slice none 0 0,.slice none 0 0],27,(0,0))∧GrowT (fun b=>w1.heap.size≤b) w4.heap.size (w.heap.size+1) w' 27 v (L2.map (tl1 (tlP (d+1)) fX1_2.of fX1_2.sub))∧Upd (fun b=>b=w.heap.size+1) w4 w')) (W.loop (LoopL [(0,.pointer (some ⟨b,o,none⟩)),(2,.pointer (some ⟨w.heap.size,0,none⟩)),(3,.pointer (some ⟨w.heap.size+2,0,none⟩)),(39,.int .i64 L2.length)] 40 (fun j w'=>∃ v,j≤L2.length∧blk w' (w.heap.size+1)=some (#[.int .i64 (IntKind.i32.wrap (t.at 0).n),.slice none 0 0,.bool false,.slice none 0 0,.slice none 0 0,.int .i64 (IntKind.i32.wrap (t.at 1).n),.slice none 0 0,.bool false,.slice none 0 0,.slice none 0 0,.int .i64 0,.slice none 0 0,.bool (t.at 2).null,v,.slice none 0 0,.int .i64 0,.slice none 0 0,.bool false,.slice none 0 0,.slice none 0 0,.int .i64 0,.slice none 0 0,.bool false,.slice none 0 0,.slice none 0 0,.int .i64 0,.slice none 0 0,.bool false,.slice none 0 0,.slice none 0 0],27,(0,0))∧GrowT (fun b=>w1.heap.size≤b) w4.heap.size (w.heap.size+1) w' 27 v ((L2.take j).map (tl1 (tlP (d+1)) fX1_2.of fX1_2.sub))∧Upd (fun b=>b=w.heap.size+1) w4 w')) (fun ρ _=>L2.length - (RowKit.intOf (ρ 40)).toNat) ?_ ?_) ?_
 ·exact ⟨(by simp (maxSteps:=1000000)(disch:=(first|omega|(simp only [qI,qJ,qK]<;>omega)|exact qL _)) only [go_sem,↓reduceIte,n0,reduceCtorEq,n1,n2,n3,n4,n5,i0,i1,i2,i3,i4,i5,i6,i7,Holds_nil,Holds_cons]),0,(by simp (maxSteps:=1000000)(disch:=(first|omega|(simp only [qI,qJ,qK]<;>omega)|exact qL _)) only [go_sem,↓reduceIte,n0,reduceCtorEq,n1,n2,n3,n4,n5,i0,i1,i2,i3,i4,i5,i6,i7];all_goals rfl),.slice none 0 0,Nat.zero_le _,hl4,GrowT.nil _ _ _ _ _,Upd.refl _ _⟩
 ·rintro ρ w5 ⟨⟨hrc2_0,hrc2_2,hrc2_3,hrc2_39,-⟩,j,hri,v,hj,hl5,hg,hUk⟩
  have hzk:=hUk.size
  have hX5:Ext w w5:=hX4.more hUk fun b hb h=>by omega
  have hz5:w1.heap.size≤w5.heap.size:=by have:=hz4;omega
  have hb5:=hX5.blk_some hb id
  have ht5:=hUk.blk_some ht4 (by omega)
  by_cases hlt:j < L2.length
  ·obtain ⟨_,be,oe,xe,ce,hbe,hoke,hxe,hble,hxs,hxx,hqe,hRe⟩:=SlR.get (size:=1) (by decide) hs2 hlt
   subst hbe
   have hcat:L2.take (j+1)=L2.take j++[L2[j]]:=List.take_succ_eq_append_getElem hlt
   have hgy:=hgl2.2 _ (List.getElem_mem hlt)
   have hll:=hgl2.1
   obtain ⟨av,kv,hvs,_⟩:=hg.shape
   have hlj:(List.map (tl1 (tlP (d+1)) fX1_2.of fX1_2.sub) (L2.take j)).length=j:=by simp;omega
   rw [hlj] at hvs
   subst hvs
   have hnb:∀ b,b < w4.heap.size∨w5.heap.size≤b→¬ ownB (.slice av j kv) b:=fun b hb h=>by
    have:=hg.above h
    have:=hg.below h
    omega
   generalize L2[j] = y at *
   obtain rfl:=(Rep1_num (by decide)).1 hRe
   have hqe0:xe.1[oe+j]? = some (.int .i32 (IntKind.i32.wrap y.n)):=by have:=hqe 0 (by decide);rw [Nat.mul_one] at this;exact this
   repeat ((first|refine qA rfl ?_|apply qB|refine qC rfl ?_|apply qD|apply qE|apply qF|apply qG|apply qH);try simp (maxSteps:=1000000)(disch:=(first|omega|(simp only [qI,qJ,qK]<;>omega)|exact qL _)) only [go_sem,↓reduceIte,n0,reduceCtorEq,n1,n2,n3,n4,n5,i0,i1,i2,i3,i4,i5,i6,i7,hb5,hl5,ht5,hq0,hq1,hq2,hq3,hq4,hq5,hq6,hrc2_0,hrc2_2,hrc2_3,hrc2_39,hri])
   refine W.drawR (.only 0 (.two 1 (.only 2 (.only 3 .done)) 2 (.only 1 (.only 3 .done)))) NoB mixed (by kernel_rfl) ?_
   try simp (maxSteps:=1000000)(disch:=(first|omega|(simp only [qI,qJ,qK]<;>omega)|exact qL _)) only [go_sem,↓reduceIte,n0,reduceCtorEq,n1,n2,n3,n4,n5,i0,i1,i2,i3,i4,i5,i6,i7,hb5,hl5,ht5,hq0,hq1,hq2,hq3,hq4,hq5,hq6,hrc2_0,hrc2_2,hrc2_3,hrc2_39,hri]
   have q0:Upd NoB w5.drew (w5.alloc (.cells #[.bool false] 4)).drew:=show Upd NoB w5.drew (w5.drew.alloc (.cells #[.bool false] 4)) from Upd.alloc (Upd.refl _ _) _
   have q1:Upd NoB w5.drew (wr (w5.alloc (.cells #[.bool false] 4)).drew w5.heap.size 0 [.bool true]):=q0.wr _ _ (.inl (Nat.le_refl _))
   have q2:Upd NoB w5.drew (wr (wr (w5.alloc (.cells #[.bool false] 4)).drew w5.heap.size 0 [.bool true]) w5.heap.size 0 [.bool false]):=q1.wr _ _ (.inl (Nat.le_refl _))
   have q3:Upd NoB w5.drew (wr (w5.alloc (.cells #[.bool false] 4)).drew w5.heap.size 0 [.bool false]):=q0.wr _ _ (.inl (Nat.le_refl _))
   have q4:Upd NoB w5.drew (wr (wr (w5.alloc (.cells #[.bool false] 4)).drew w5.heap.size 0 [.bool false]) w5.heap.size 0 [.bool true]):=q3.wr _ _ (.inl (Nat.le_refl _))
   refine ⟨q0,⟨q1,q2,q2,?_⟩,⟨q3,q4,q4,?_⟩⟩
   ·have hk6:Ext w5 (wr (wr (w5.alloc (.cells #[.bool false] 4)).drew w5.heap.size 0 [.bool true]) w5.heap.size 0 [.bool false]):=((Upd.refl _ _).drew).trans q2
    generalize (wr (wr (w5.alloc (.cells #[.bool false] 4)).drew w5.heap.size 0 [.bool true]) w5.heap.size 0 [.bool false])=w6 at *
    have hzk6:=hk6.size
    have hX6:Ext w w6:=hX5.trans hk6
    have hb6:=hk6.blk_some hb5 id
    have hl6:=hk6.blk_some hl5 id
    have ht6:=hk6.blk_some ht5 id
    have hxe6:=hX6.blk_some hxe id
    repeat ((first|refine qA rfl ?_|apply qB|refine qC rfl ?_|apply qD|apply qE|apply qF|apply qG|apply qH);try simp (maxSteps:=1000000)(disch:=(first|omega|(simp only [qI,qJ,qK]<;>omega)|exact qL _)) only [go_sem,↓reduceIte,n0,reduceCtorEq,n1,n2,n3,n4,n5,i0,i1,i2,i3,i4,i5,i6,i7,hb6,hl6,ht6,hxe6,Int.toNat_natCast,Nat.mul_one,hq0,hq1,hq2,hq3,hq4,hq5,hq6,hqe0,tl32,hrc2_0,hrc2_2,hrc2_3,hrc2_39,hri])
    refine W.drawR (.take 0 (.take 1 (.take 2 (.take 3 (.take 4 (.take 5 (.take 6 (.take 7 (.take 8 (.take 9 (.take 10 (.take 11 (.take 12 (.take 13 (.take 14 (.only 15 (.only 16 (.only 17 (.take 18 (.take 19 (.last 20))))))))))))))))))))) (ownB (.slice av j kv)) mixed (by kernel_rfl) ?_
    try simp (maxSteps:=1000000)(disch:=(first|omega|(simp only [qI,qJ,qK]<;>omega)|exact qL _|(refine hnb _ ?_;first|omega|(simp only [World.size_alloc,size_wr,size_drew]<;>omega)))) only [go_sem,↓reduceIte,n0,reduceCtorEq,n1,n2,n3,n4,n5,i0,i1,i2,i3,i4,i5,i6,i7,hb6,hl6,ht6,hxe6,Int.toNat_natCast,Nat.mul_one,hq0,hq1,hq2,hq3,hq4,hq5,hq6,hqe0,tl32,hrc2_0,hrc2_2,hrc2_3,hrc2_39,hri]
    refine ⟨Upd.refl _ _,?_⟩
    have hP7:Upd (ownB (.slice av j kv)) w6.drew (w6.alloc (.cells #[.int .i64 (IntKind.i32.wrap y.n),.slice none 0 0,.bool false,.slice none 0 0,.slice none 0 0] 27)).drew:=show Upd (ownB (.slice av j kv)) w6.drew (w6.drew.alloc (.cells #[.int .i64 (IntKind.i32.wrap y.n),.slice none 0 0,.bool false,.slice none 0 0,.slice none 0 0] 27)) from (Upd.refl _ _).alloc _
    have hn7:blk (w6.alloc (.cells #[.int .i64 (IntKind.i32.wrap y.n),.slice none 0 0,.bool false,.slice none 0 0,.slice none 0 0] 27)).drew w6.drew.heap.size=some (#[.int .i64 (IntKind.i32.wrap y.n),.slice none 0 0,.bool false,.slice none 0 0,.slice none 0 0],27,(0,0)):=show blk (w6.drew.alloc (.cells #[.int .i64 (IntKind.i32.wrap y.n),.slice none 0 0,.bool false,.slice none 0 0,.slice none 0 0] 27)) w6.drew.heap.size=some (#[.int .i64 (IntKind.i32.wrap y.n),.slice none 0 0,.bool false,.slice none 0 0,.slice none 0 0],27,(0,0)) from blk_alloc_new rfl
    have hsq7:(w6.alloc (.cells #[.int .i64 (IntKind.i32.wrap y.n),.slice none 0 0,.bool false,.slice none 0 0,.slice none 0 0] 27)).drew.heap.size=w6.drew.heap.size+1:=show (w6.drew.alloc (.cells #[.int .i64 (IntKind.i32.wrap y.n),.slice none 0 0,.bool false,.slice none 0 0,.slice none 0 0] 27)).heap.size=w6.drew.heap.size+1 from World.size_alloc _ _
    have hEx7:Ext w6.drew (w6.alloc (.cells #[.int .i64 (IntKind.i32.wrap y.n),.slice none 0 0,.bool false,.slice none 0 0,.slice none 0 0] 27)).drew:=show Ext w6.drew (w6.drew.alloc (.cells #[.int .i64 (IntKind.i32.wrap y.n),.slice none 0 0,.bool false,.slice none 0 0,.slice none 0 0] 27)) from Upd.alloc (Upd.refl _ _) _
    refine ⟨hP7,?_⟩
    try simp only [List.append_nil]
    generalize (w6.alloc (.cells #[.int .i64 (IntKind.i32.wrap y.n),.slice none 0 0,.bool false,.slice none 0 0,.slice none 0 0] 27)).drew=w7 at *
    try simp only [size_drew] at hsq7
    have hEw8:Ext w5 w7:=(hk6.drew.trans hEx7)
    have hzw8:=hEw8.size
    obtain ⟨css,hown,hall⟩:=(hg.ext hEw8).ex
    have hcl:=hall.1
    rw [hlj] at hcl
    have hx8:TreeC (fun b=>(fun b=>w1.heap.size≤b) b∧b≠w.heap.size+1∧¬ ownB (.slice av j kv) b) w7 ((tl1 (tlP (d+1)) fX1_2.of fX1_2.sub) y) [.int .i64 (IntKind.i32.wrap y.n),.slice none 0 0,.bool false,.slice none 0 0,.slice none 0 0]:=by
     exact TreeC.weaken (fun b _ hk=>⟨by omega,by omega,hnb b (.inr (by omega))⟩) (TreeC.intro (tl32 _) (BytesV.nil _ _) (treesN _ _) (tagsN _ _):TreeC (fun b=>w5.heap.size≤b) _ (.num (IntKind.i32.wrap y.n)) [.int .i64 (IntKind.i32.wrap y.n),.slice none 0 0,.bool false,.slice none 0 0,.slice none 0 0])
    refine wp_append ap_24_24 (m:=1) (news:=[.int .i64 (IntKind.i32.wrap y.n),.slice none 0 0,.bool false,.slice none 0 0,.slice none 0 0]) (n:=css.length) (cs:=css.flatten) (v:=(.slice av j kv)) ?_ rfl hown.1 (all2_flat_tree hall) (Src.blk (fr:=(0,0)) (T:=27) hn7 rfl rfl) ?_ ?_ ?_
    ·first|rfl|simp (maxSteps:=1000000)(disch:=(first|omega|(simp only [qI,qJ,qK]<;>omega)|exact qL _)) only [go_sem,↓reduceIte,n0,reduceCtorEq,n1,n2,n3,n4,n5,i0,i1,i2,i3,i4,i5,i6,i7]
    ·omega
    ·omega
    intro v' w8 ho hu hfr
    have hP8:=(hP7:Upd (ownB (.slice av j kv)) w6.drew w7).trans hu
    have hzq8:=hP8.size
    simp only [size_drew] at hzq8
    have hlq8:=hP8.blk_some (show blk w6.drew (w.heap.size+1)=_ from hl6) (hnb _ (.inl (by omega)))
    have hg':=GrowT.snoc hown hall hx8 hu hfr ho
    obtain ⟨va,vc,hv',_⟩:=ho.shape
    subst hv'
    have hne:¬ ownB (.slice va (css.length+1) vc) (w.heap.size+1):=fun h=>(hfr _ h).elim (hnb _ (.inl (by omega))) (fun h=>by omega)
    refine ⟨hP8,?_⟩
    try simp (maxSteps:=1000000)(disch:=(first|omega|(simp only [qI,qJ,qK]<;>omega)|exact qL _|(refine hnb _ ?_;first|omega|(simp only [World.size_alloc,size_wr,size_drew]<;>omega)))) only [go_sem,↓reduceIte,n0,reduceCtorEq,n1,n2,n3,n4,n5,i0,i1,i2,i3,i4,i5,i6,i7,hlq8,Int.toNat_natCast,Nat.mul_one,hrc2_0,hrc2_2,hrc2_3,hrc2_39,hri]
    repeat ((first|refine qA rfl ?_|apply qB|refine qC rfl ?_|apply qD|apply qE|apply qF|apply qG|apply qH);try simp (maxSteps:=1000000)(disch:=(first|omega|(simp only [qI,qJ,qK]<;>omega)|exact qL _)) only [go_sem,↓reduceIte,n0,reduceCtorEq,n1,n2,n3,n4,n5,i0,i1,i2,i3,i4,i5,i6,i7,hlq8,Int.toNat_natCast,Nat.mul_one,hrc2_0,hrc2_2,hrc2_3,hrc2_39,hri])
    refine ⟨⟨(by simp (maxSteps:=1000000)(disch:=(first|omega|(simp only [qI,qJ,qK]<;>omega)|exact qL _)) only [go_sem,↓reduceIte,n0,reduceCtorEq,n1,n2,n3,n4,n5,i0,i1,i2,i3,i4,i5,i6,i7,Holds_nil,Holds_cons,hrc2_0,hrc2_2,hrc2_3,hrc2_39,hri]),j+1,(by simp (maxSteps:=1000000)(disch:=(first|omega|(simp only [qI,qJ,qK]<;>omega)|exact qL _)) only [go_sem,↓reduceIte,n0,reduceCtorEq,n1,n2,n3,n4,n5,i0,i1,i2,i3,i4,i5,i6,i7,hrc2_0,hrc2_2,hrc2_3,hrc2_39,hri];all_goals rfl),.slice va (css.length+1) vc,by omega,?_,?_,?_⟩,?_⟩
    ·rw [blk_wr_eq,hlq8];rfl
    ·rw [hcat,List.map_append];exact hg'.upd ((Upd.refl _ _).wr _ _ (.inr rfl)) hne
    ·refine Upd.wr ?_ _ _ (.inr rfl)
     exact (hUk.more ((hEw8.mono fun _ h=>h.elim).trans hu) fun b hb h=>absurd h (hnb b (.inl hb)))
    ·try simp (maxSteps:=1000000)(disch:=(first|omega|(simp only [qI,qJ,qK]<;>omega)|exact qL _)) only [go_sem,↓reduceIte,n0,reduceCtorEq,n1,n2,n3,n4,n5,i0,i1,i2,i3,i4,i5,i6,i7,hrc2_0,hrc2_2,hrc2_3,hrc2_39,hri]
     simp only [RowKit.intOf];omega
   ·have hk9:Ext w5 (wr (wr (w5.alloc (.cells #[.bool false] 4)).drew w5.heap.size 0 [.bool false]) w5.heap.size 0 [.bool true]):=((Upd.refl _ _).drew).trans q4
    generalize (wr (wr (w5.alloc (.cells #[.bool false] 4)).drew w5.heap.size 0 [.bool false]) w5.heap.size 0 [.bool true])=w9 at *
    have hzk9:=hk9.size
    have hX9:Ext w w9:=hX5.trans hk9
    have hb9:=hk9.blk_some hb5 id
    have hl9:=hk9.blk_some hl5 id
    have ht9:=hk9.blk_some ht5 id
    have hxe9:=hX9.blk_some hxe id
    repeat ((first|refine qA rfl ?_|apply qB|refine qC rfl ?_|apply qD|apply qE|apply qF|apply qG|apply qH);try simp (maxSteps:=1000000)(disch:=(first|omega|(simp only [qI,qJ,qK]<;>omega)|exact qL _)) only [go_sem,↓reduceIte,n0,reduceCtorEq,n1,n2,n3,n4,n5,i0,i1,i2,i3,i4,i5,i6,i7,hb9,hl9,ht9,hxe9,Int.toNat_natCast,Nat.mul_one,hq0,hq1,hq2,hq3,hq4,hq5,hq6,hqe0,tl32,hrc2_0,hrc2_2,hrc2_3,hrc2_39,hri])
    refine W.drawR (.take 0 (.take 1 (.take 2 (.take 3 (.take 4 (.take 5 (.take 6 (.take 7 (.take 8 (.take 9 (.take 10 (.take 11 (.take 12 (.take 14 (.two 13 (.only 15 (.only 16 (.take 17 (.take 18 (.last 19))))) 15 (.only 13 (.only 16 (.take 17 (.take 18 (.last 19)))))))))))))))))))) (ownB (.slice av j kv)) mixed (by kernel_rfl) ?_
    try simp (maxSteps:=1000000)(disch:=(first|omega|(simp only [qI,qJ,qK]<;>omega)|exact qL _|(refine hnb _ ?_;first|omega|(simp only [World.size_alloc,size_wr,size_drew]<;>omega)))) only [go_sem,↓reduceIte,n0,reduceCtorEq,n1,n2,n3,n4,n5,i0,i1,i2,i3,i4,i5,i6,i7,hb9,hl9,ht9,hxe9,Int.toNat_natCast,Nat.mul_one,hq0,hq1,hq2,hq3,hq4,hq5,hq6,hqe0,tl32,hrc2_0,hrc2_2,hrc2_3,hrc2_39,hri]
    refine ⟨?_,?_⟩
    ·skip
     refine ⟨Upd.refl _ _,?_⟩
     have hP10:Upd (ownB (.slice av j kv)) w9.drew (w9.alloc (.cells qZ5 27)).drew:=show Upd (ownB (.slice av j kv)) w9.drew (w9.drew.alloc (.cells qZ5 27)) from (Upd.refl _ _).alloc _
     have hn10:blk (w9.alloc (.cells qZ5 27)).drew w9.drew.heap.size=some (qZ5,27,(0,0)):=show blk (w9.drew.alloc (.cells qZ5 27)) w9.drew.heap.size=some (qZ5,27,(0,0)) from blk_alloc_new rfl
     have hsq10:(w9.alloc (.cells qZ5 27)).drew.heap.size=w9.drew.heap.size+1:=show (w9.drew.alloc (.cells qZ5 27)).heap.size=w9.drew.heap.size+1 from World.size_alloc _ _
     have hEx10:Ext w9.drew (w9.alloc (.cells qZ5 27)).drew:=show Ext w9.drew (w9.drew.alloc (.cells qZ5 27)) from Upd.alloc (Upd.refl _ _) _
     refine ⟨hP10,?_⟩
     try simp only [List.append_nil]
     generalize (w9.alloc (.cells qZ5 27)).drew=w10 at *
     try simp only [size_drew] at hsq10
     have hEw11:Ext w5 w10:=(hk9.drew.trans hEx10)
     have hzw11:=hEw11.size
     obtain ⟨css,hown,hall⟩:=(hg.ext hEw11).ex
     have hcl:=hall.1
     rw [hlj] at hcl
     have hx11:TreeC (fun b=>(fun b=>w1.heap.size≤b) b∧b≠w.heap.size+1∧¬ ownB (.slice av j kv) b) w10 ((tl1 (tlP (d+1)) fX1_2.of fX1_2.sub) y) [.int .i64 (IntKind.i32.wrap y.n),.slice none 0 0,.bool false,.slice none 0 0,.slice none 0 0]:=by
      exact TreeC.weaken (fun b _ hk=>⟨by omega,by omega,hnb b (.inr (by omega))⟩) (TreeC.intro (tl32 _) (BytesV.nil _ _) (treesN _ _) (tagsN _ _):TreeC (fun b=>w5.heap.size≤b) _ (.num (IntKind.i32.wrap y.n)) [.int .i64 (IntKind.i32.wrap y.n),.slice none 0 0,.bool false,.slice none 0 0,.slice none 0 0])
     refine wp_append ap_24_24 (m:=1) (news:=[.int .i64 0,.slice none 0 0,.bool false,.slice none 0 0,.slice none 0 0]) (n:=css.length) (cs:=css.flatten) (v:=(.slice av j kv)) ?_ rfl hown.1 (all2_flat_tree hall) (Src.blk (fr:=(0,0)) (T:=27) hn10 rfl rfl) ?_ ?_ ?_
     ·first|rfl|simp (maxSteps:=1000000)(disch:=(first|omega|(simp only [qI,qJ,qK]<;>omega)|exact qL _)) only [go_sem,↓reduceIte,n0,reduceCtorEq,n1,n2,n3,n4,n5,i0,i1,i2,i3,i4,i5,i6,i7]
     ·omega
     ·omega
     intro v' w11 ho hu hfr
     have hP11:=(hP10:Upd (ownB (.slice av j kv)) w9.drew w10).trans hu
     have hzq11:=hP11.size
     simp only [size_drew] at hzq11
     have hlq11:=hP11.blk_some (show blk w9.drew (w.heap.size+1)=_ from hl9) (hnb _ (.inl (by omega)))
     rcases ho.2 with ⟨_,h⟩|⟨g,cap,rest,fr,hv',hg',hbg,hlen,hth,hle⟩
     ·exact absurd h (Nat.succ_ne_zero _)
     subst hv'
     have hgne:¬ g=w.heap.size+1:=fun h=>(hfr g ⟨_,_,_,rfl,rfl⟩).elim (fun h'=>hnb _ (.inl (by omega)) (h ▸ h')) (fun h'=>by omega)
     have hfl:css.flatten.length=css.length * 5:=flatten_len hown.2
     have hlen2:(css.flatten++([.int .i64 0,.slice none 0 0,.bool false,.slice none 0 0,.slice none 0 0]:List Value)++rest).length=cap * 5:=by simp only [List.length_append] at hlen ⊢;omega
     obtain ⟨XX,hXX⟩:∃ X:Array Value,X=(css.flatten++([.int .i64 0,.slice none 0 0,.bool false,.slice none 0 0,.slice none 0 0]:List Value)++rest).toArray:=⟨_,rfl⟩
     have hbgX:blk w11 g=some (XX,27,fr):=by rw [hXX];exact hbg
     have hXsz:XX.size=cap * 5:=by rw [hXX,List.size_toArray];exact hlen2
     have hth2:thaw fr (css.length * 5) 5=true:=thaw_of hth (by omega)
     have hst:css.length * 5+5≤XX.size:=by omega
     have hset:=Own.setlast (cs:=[.int .i64 (IntKind.i32.wrap y.n),.slice none 0 0,.bool false,.slice none 0 0,.slice none 0 0]) ho rfl rfl
     have hu2:Upd (ownB (.slice av j kv)) w10 (wr w11 g (css.length * 5) [.int .i64 (IntKind.i32.wrap y.n),.slice none 0 0,.bool false,.slice none 0 0,.slice none 0 0]):=hu.wr _ _ ((hfr g ⟨_,_,_,rfl,rfl⟩).symm)
     have hg2:=GrowT.snoc hown hall hx11 hu2 hfr hset
     have hcj:css.length=j:=by first|exact hcl.symm.trans hlj|omega
     simp only [hcj] at hth2 hst hset hu2 hg2
     refine ⟨hP11,?_⟩
     try simp (maxSteps:=1000000)(disch:=(first|omega|(simp only [qI,qJ,qK]<;>omega)|exact qL _|(refine hnb _ ?_;first|omega|(simp only [World.size_alloc,size_wr,size_drew]<;>omega)))) only [go_sem,↓reduceIte,n0,reduceCtorEq,n1,n2,n3,n4,n5,i0,i1,i2,i3,i4,i5,i6,i7,hlq11,hbgX,hth2,hst,hcj,Int.toNat_natCast,Nat.mul_one,hrc2_0,hrc2_2,hrc2_3,hrc2_39,hri]
     repeat ((first|refine qA rfl ?_|apply qB|refine qC rfl ?_|apply qD|apply qE|apply qF|apply qG|apply qH);try simp (maxSteps:=1000000)(disch:=(first|omega|(simp only [qI,qJ,qK]<;>omega)|exact qL _)) only [go_sem,↓reduceIte,n0,reduceCtorEq,n1,n2,n3,n4,n5,i0,i1,i2,i3,i4,i5,i6,i7,hlq11,hbgX,hth2,hst,hcj,Int.toNat_natCast,Nat.mul_one,hrc2_0,hrc2_2,hrc2_3,hrc2_39,hri])
     refine ⟨⟨(by simp (maxSteps:=1000000)(disch:=(first|omega|(simp only [qI,qJ,qK]<;>omega)|exact qL _)) only [go_sem,↓reduceIte,n0,reduceCtorEq,n1,n2,n3,n4,n5,i0,i1,i2,i3,i4,i5,i6,i7,Holds_nil,Holds_cons,hrc2_0,hrc2_2,hrc2_3,hrc2_39,hri]),j+1,(by simp (maxSteps:=1000000)(disch:=(first|omega|(simp only [qI,qJ,qK]<;>omega)|exact qL _)) only [go_sem,↓reduceIte,n0,reduceCtorEq,n1,n2,n3,n4,n5,i0,i1,i2,i3,i4,i5,i6,i7,hrc2_0,hrc2_2,hrc2_3,hrc2_39,hri];all_goals rfl),.slice (some ⟨g,0,none⟩) (j+1) cap,by omega,?_,?_,?_⟩,?_⟩
     ·rw [blk_wr_ne (by omega),blk_wr_eq,hlq11];rfl
     ·rw [hcat,List.map_append,wr_comm (Ne.symm hgne)]
      exact hg2.upd ((Upd.refl _ _).wr _ _ (.inr rfl)) (fun h=>hgne (ownB_row h).symm)
     ·rw [wr_comm (Ne.symm hgne)]
      refine Upd.wr ?_ _ _ (.inr rfl)
      exact (hUk.more ((hEw11.mono fun _ h=>h.elim).trans hu2) fun b hb h=>absurd h (hnb b (.inl hb)))
     ·try simp (maxSteps:=1000000)(disch:=(first|omega|(simp only [qI,qJ,qK]<;>omega)|exact qL _)) only [go_sem,↓reduceIte,n0,reduceCtorEq,n1,n2,n3,n4,n5,i0,i1,i2,i3,i4,i5,i6,i7,hrc2_0,hrc2_2,hrc2_3,hrc2_39,hri]
      simp only [RowKit.intOf];omega
    ·skip
     have hP12:Upd (ownB (.slice av j kv)) w9.drew (w9.alloc (.cells qZ5 27)).drew:=show Upd (ownB (.slice av j kv)) w9.drew (w9.drew.alloc (.cells qZ5 27)) from (Upd.refl _ _).alloc _
     have hn12:blk (w9.alloc (.cells qZ5 27)).drew w9.drew.heap.size=some (qZ5,27,(0,0)):=show blk (w9.drew.alloc (.cells qZ5 27)) w9.drew.heap.size=some (qZ5,27,(0,0)) from blk_alloc_new rfl
     have hsq12:(w9.alloc (.cells qZ5 27)).drew.heap.size=w9.drew.heap.size+1:=show (w9.drew.alloc (.cells qZ5 27)).heap.size=w9.drew.heap.size+1 from World.size_alloc _ _
     have hEx12:Ext w9.drew (w9.alloc (.cells qZ5 27)).drew:=show Ext w9.drew (w9.drew.alloc (.cells qZ5 27)) from Upd.alloc (Upd.refl _ _) _
     refine ⟨hP12,?_⟩
     try simp only [List.append_nil]
     generalize (w9.alloc (.cells qZ5 27)).drew=w12 at *
     try simp only [size_drew] at hsq12
     refine ⟨hP12,?_⟩
     have hEw13:Ext w5 w12:=(hk9.drew.trans hEx12)
     have hzw13:=hEw13.size
     obtain ⟨css,hown,hall⟩:=(hg.ext hEw13).ex
     have hcl:=hall.1
     rw [hlj] at hcl
     have hx13:TreeC (fun b=>(fun b=>w1.heap.size≤b) b∧b≠w.heap.size+1∧¬ ownB (.slice av j kv) b) w12 ((tl1 (tlP (d+1)) fX1_2.of fX1_2.sub) y) [.int .i64 (IntKind.i32.wrap y.n),.slice none 0 0,.bool false,.slice none 0 0,.slice none 0 0]:=by
      exact TreeC.weaken (fun b _ hk=>⟨by omega,by omega,hnb b (.inr (by omega))⟩) (TreeC.intro (tl32 _) (BytesV.nil _ _) (treesN _ _) (tagsN _ _):TreeC (fun b=>w5.heap.size≤b) _ (.num (IntKind.i32.wrap y.n)) [.int .i64 (IntKind.i32.wrap y.n),.slice none 0 0,.bool false,.slice none 0 0,.slice none 0 0])
     refine wp_append ap_24_24 (m:=1) (news:=[.int .i64 0,.slice none 0 0,.bool false,.slice none 0 0,.slice none 0 0]) (n:=css.length) (cs:=css.flatten) (v:=(.slice av j kv)) ?_ rfl hown.1 (all2_flat_tree hall) (Src.blk (fr:=(0,0)) (T:=27) hn12 rfl rfl) ?_ ?_ ?_
     ·first|rfl|simp (maxSteps:=1000000)(disch:=(first|omega|(simp only [qI,qJ,qK]<;>omega)|exact qL _)) only [go_sem,↓reduceIte,n0,reduceCtorEq,n1,n2,n3,n4,n5,i0,i1,i2,i3,i4,i5,i6,i7]
     ·omega
     ·omega
     intro v' w13 ho hu hfr
     have hP13:=(hP12:Upd (ownB (.slice av j kv)) w9.drew w12).trans hu
     have hzq13:=hP13.size
     simp only [size_drew] at hzq13
     have hlq13:=hP13.blk_some (show blk w9.drew (w.heap.size+1)=_ from hl9) (hnb _ (.inl (by omega)))
     rcases ho.2 with ⟨_,h⟩|⟨g,cap,rest,fr,hv',hg',hbg,hlen,hth,hle⟩
     ·exact absurd h (Nat.succ_ne_zero _)
     subst hv'
     have hgne:¬ g=w.heap.size+1:=fun h=>(hfr g ⟨_,_,_,rfl,rfl⟩).elim (fun h'=>hnb _ (.inl (by omega)) (h ▸ h')) (fun h'=>by omega)
     have hfl:css.flatten.length=css.length * 5:=flatten_len hown.2
     have hlen2:(css.flatten++([.int .i64 0,.slice none 0 0,.bool false,.slice none 0 0,.slice none 0 0]:List Value)++rest).length=cap * 5:=by simp only [List.length_append] at hlen ⊢;omega
     obtain ⟨XX,hXX⟩:∃ X:Array Value,X=(css.flatten++([.int .i64 0,.slice none 0 0,.bool false,.slice none 0 0,.slice none 0 0]:List Value)++rest).toArray:=⟨_,rfl⟩
     have hbgX:blk w13 g=some (XX,27,fr):=by rw [hXX];exact hbg
     have hXsz:XX.size=cap * 5:=by rw [hXX,List.size_toArray];exact hlen2
     have hth2:thaw fr (css.length * 5) 5=true:=thaw_of hth (by omega)
     have hst:css.length * 5+5≤XX.size:=by omega
     have hset:=Own.setlast (cs:=[.int .i64 (IntKind.i32.wrap y.n),.slice none 0 0,.bool false,.slice none 0 0,.slice none 0 0]) ho rfl rfl
     have hu2:Upd (ownB (.slice av j kv)) w12 (wr w13 g (css.length * 5) [.int .i64 (IntKind.i32.wrap y.n),.slice none 0 0,.bool false,.slice none 0 0,.slice none 0 0]):=hu.wr _ _ ((hfr g ⟨_,_,_,rfl,rfl⟩).symm)
     have hg2:=GrowT.snoc hown hall hx13 hu2 hfr hset
     have hcj:css.length=j:=by first|exact hcl.symm.trans hlj|omega
     simp only [hcj] at hth2 hst hset hu2 hg2
     refine ⟨hP13,?_⟩
     try simp (maxSteps:=1000000)(disch:=(first|omega|(simp only [qI,qJ,qK]<;>omega)|exact qL _|(refine hnb _ ?_;first|omega|(simp only [World.size_alloc,size_wr,size_drew]<;>omega)))) only [go_sem,↓reduceIte,n0,reduceCtorEq,n1,n2,n3,n4,n5,i0,i1,i2,i3,i4,i5,i6,i7,hlq13,hbgX,hth2,hst,hcj,Int.toNat_natCast,Nat.mul_one,hrc2_0,hrc2_2,hrc2_3,hrc2_39,hri]
     repeat ((first|refine qA rfl ?_|apply qB|refine qC rfl ?_|apply qD|apply qE|apply qF|apply qG|apply qH);try simp (maxSteps:=1000000)(disch:=(first|omega|(simp only [qI,qJ,qK]<;>omega)|exact qL _)) only [go_sem,↓reduceIte,n0,reduceCtorEq,n1,n2,n3,n4,n5,i0,i1,i2,i3,i4,i5,i6,i7,hlq13,hbgX,hth2,hst,hcj,Int.toNat_natCast,Nat.mul_one,hrc2_0,hrc2_2,hrc2_3,hrc2_39,hri])
     refine ⟨⟨(by simp (maxSteps:=1000000)(disch:=(first|omega|(simp only [qI,qJ,qK]<;>omega)|exact qL _)) only [go_sem,↓reduceIte,n0,reduceCtorEq,n1,n2,n3,n4,n5,i0,i1,i2,i3,i4,i5,i6,i7,Holds_nil,Holds_cons,hrc2_0,hrc2_2,hrc2_3,hrc2_39,hri]),j+1,(by simp (maxSteps:=1000000)(disch:=(first|omega|(simp only [qI,qJ,qK]<;>omega)|exact qL _)) only [go_sem,↓reduceIte,n0,reduceCtorEq,n1,n2,n3,n4,n5,i0,i1,i2,i3,i4,i5,i6,i7,hrc2_0,hrc2_2,hrc2_3,hrc2_39,hri];all_goals rfl),.slice (some ⟨g,0,none⟩) (j+1) cap,by omega,?_,?_,?_⟩,?_⟩
     ·rw [blk_wr_ne (by omega),blk_wr_eq,hlq13];rfl
     ·rw [hcat,List.map_append,wr_comm (Ne.symm hgne)]
      exact hg2.upd ((Upd.refl _ _).wr _ _ (.inr rfl)) (fun h=>hgne (ownB_row h).symm)
     ·rw [wr_comm (Ne.symm hgne)]
      refine Upd.wr ?_ _ _ (.inr rfl)
      exact (hUk.more ((hEw13.mono fun _ h=>h.elim).trans hu2) fun b hb h=>absurd h (hnb b (.inl hb)))
     ·try simp (maxSteps:=1000000)(disch:=(first|omega|(simp only [qI,qJ,qK]<;>omega)|exact qL _)) only [go_sem,↓reduceIte,n0,reduceCtorEq,n1,n2,n3,n4,n5,i0,i1,i2,i3,i4,i5,i6,i7,hrc2_0,hrc2_2,hrc2_3,hrc2_39,hri]
      simp only [RowKit.intOf];omega
  ·have hjn:j=L2.length:=by omega
   subst hjn
   rw [List.take_length] at hg
   repeat ((first|refine qA rfl ?_|apply qB|refine qC rfl ?_|apply qD|apply qE|apply qF|apply qG|apply qH);try simp (maxSteps:=1000000)(disch:=(first|omega|(simp only [qI,qJ,qK]<;>omega)|exact qL _)) only [go_sem,↓reduceIte,n0,reduceCtorEq,n1,n2,n3,n4,n5,i0,i1,i2,i3,i4,i5,i6,i7,hrc2_0,hrc2_2,hrc2_3,hrc2_39,hri])
   exact ⟨(by simp (maxSteps:=1000000)(disch:=(first|omega|(simp only [qI,qJ,qK]<;>omega)|exact qL _)) only [go_sem,↓reduceIte,n0,reduceCtorEq,n1,n2,n3,n4,n5,i0,i1,i2,i3,i4,i5,i6,i7,Holds_nil,Holds_cons,hrc2_0,hrc2_2,hrc2_3,hrc2_39,hri]),v,hl5,hg,hUk⟩
 rintro ρ w14 ⟨⟨hrd2_0,hrd2_2,hrd2_3,hrd2_39,-⟩,v,hl14,hg14,hUz14⟩
 have hV14:Upd (fun b=>b=w.heap.size+1∨b=w.heap.size+2) w4 w14:=hUz14.mono fun _ h=>.inl h
 have hU14:Upd (fun b=>b=w.heap.size+1∨b=w.heap.size+2) w1 w14:=hU4.trans hV14
 have hz14:=hU14.size
 have hX14:Ext w w14:=hE1.more hU14 fun b hb h=>by omega
 have hb14:=hX14.blk_some hb id
 have ht14:=hUz14.blk_some ht4 (by omega)
 obtain ⟨av2,kv2,hvs,_⟩:=hg14.shape
 subst hvs
 have hf2:TreeC (fun b=>w1.heap.size≤b) w14 (.mk 0 [] (t.at 2).null (L2.map (tl1 (tlP (d+1)) fX1_2.of fX1_2.sub)) []) [.int .i64 0,.slice none 0 0,.bool (t.at 2).null,.slice av2 (List.map (tl1 (tlP (d+1)) fX1_2.of fX1_2.sub) L2).length kv2,.slice none 0 0]:=TreeC.intro rfl (BytesV.nil _ _) (hg14.trees (fun _ _ h=>h) (fun b hb=>by have:=hz4;omega)) (tagsN _ _)
 repeat ((first|refine qA rfl ?_|apply qB|refine qC rfl ?_|apply qD|apply qE|apply qF|apply qG|apply qH);try simp (maxSteps:=1000000)(disch:=(first|omega|(simp only [qI,qJ,qK]<;>omega)|exact qL _)) only [go_sem,↓reduceIte,n0,reduceCtorEq,n1,n2,n3,n4,n5,i0,i1,i2,i3,i4,i5,i6,i7,hb14,hl14,ht14,hq0,hq1,hq2,hq3,hq4,hq5,hq6,hrd2_0,hrd2_2,hrd2_3])
 refine W.drawR (.take 0 (.take 1 (.take 2 (.take 3 (.take 4 (.take 5 (.take 6 (.take 7 (.take 8 (.last 9)))))))))) (NoB) mixed (by kernel_rfl) ?_
 try simp (maxSteps:=1000000)(disch:=(first|omega|(simp only [qI,qJ,qK]<;>omega)|exact qL _)) only [go_sem,↓reduceIte,n0,reduceCtorEq,n1,n2,n3,n4,n5,i0,i1,i2,i3,i4,i5,i6,i7,hb14,hl14,ht14,hq0,hq1,hq2,hq3,hq4,hq5,hq6,hrd2_0,hrd2_2,hrd2_3,hnn3]
 generalize hw15:wr w14.drew (w.heap.size+1) 17 [.bool (t.at 3).null] = w15
 have hl15:blk w15 (w.heap.size+1)=some (#[.int .i64 (IntKind.i32.wrap (t.at 0).n),.slice none 0 0,.bool false,.slice none 0 0,.slice none 0 0,.int .i64 (IntKind.i32.wrap (t.at 1).n),.slice none 0 0,.bool false,.slice none 0 0,.slice none 0 0,.int .i64 0,.slice none 0 0,.bool (t.at 2).null,.slice av2 (List.map (tl1 (tlP (d+1)) fX1_2.of fX1_2.sub) L2).length kv2,.slice none 0 0,.int .i64 0,.slice none 0 0,.bool (t.at 3).null,.slice none 0 0,.slice none 0 0,.int .i64 0,.slice none 0 0,.bool false,.slice none 0 0,.slice none 0 0,.int .i64 0,.slice none 0 0,.bool false,.slice none 0 0,.slice none 0 0],27,(0,0)):=by rw [← hw15,blk_wr_eq,show blk w14.drew (w.heap.size+1)=_ from hl14];rfl
 have hV15:Upd (fun b=>b=w.heap.size+1∨b=w.heap.size+2) w14 w15:=by rw [← hw15];exact ((Upd.refl _ _).drew).wr _ _ (.inr (.inl rfl))
 have hU15:Upd (fun b=>b=w.heap.size+1∨b=w.heap.size+2) w1 w15:=hU14.trans hV15
 have hz15:=hU15.size
 have hX15:Ext w w15:=hE1.more hU15 fun b hb h=>by omega
 have hb15:=hX15.blk_some hb id
 have ht15:blk w15 (w.heap.size+2)=some (#[.int .i64 0,.slice none 0 0,.bool false,.slice (some ⟨w.heap.size+1,0,none⟩) 6 6,.slice none 0 0],27,(0,0)):=by
  rw [← hw15,blk_wr_ne (by omega)]
  exact ht14
 clear hw15
 repeat ((first|refine qA rfl ?_|apply qB|refine qC rfl ?_|apply qD|apply qE|apply qF|apply qG|apply qH);try simp (maxSteps:=1000000)(disch:=(first|omega|(simp only [qI,qJ,qK]<;>omega)|exact qL _)) only [go_sem,↓reduceIte,n0,reduceCtorEq,n1,n2,n3,n4,n5,i0,i1,i2,i3,i4,i5,i6,i7,hb15,hl15,ht15,hq0,hq1,hq2,hq3,hq4,hq5,hq6,hrd2_0,hrd2_2,hrd2_3])
 refine W.exitJ 2 (EndQ [(0,.pointer (some ⟨b,o,none⟩)),(2,.pointer (some ⟨w.heap.size,0,none⟩)),(3,.pointer (some ⟨w.heap.size+2,0,none⟩)),(99,.int .i64 L3.length)] (fun w'=>∃ v,blk w' (w.heap.size+1)=some (#[.int .i64 (IntKind.i32.wrap (t.at 0).n),.slice none 0 0,.bool false,.slice none 0 0,.slice none 0 0,.int .i64 (IntKind.i32.wrap (t.at 1).n),.slice none 0 0,.bool false,.slice none 0 0,.slice none 0 0,.int .i64 0,.slice none 0 0,.bool (t.at 2).null,.slice av2 (List.map (tl1 (tlP (d+1)) fX1_2.of fX1_2.sub) L2).length kv2,.slice none 0 0,.int .i64 0,.slice none 0 0,.bool (t.at 3).null,v,.slice none 0 0,.int .i64 0,.slice none 0 0,.bool false,.slice none 0 0,.slice none 0 0,.int .i64 0,.slice none 0 0,.bool false,.slice none 0 0,.slice none 0 0],27,(0,0))∧GrowT (fun b=>w1.heap.size≤b) w15.heap.size (w.heap.size+1) w' 27 v (L3.map (tl1 (tlP (d+1)) fX1_3.of fX1_3.sub))∧Upd (fun b=>b=w.heap.size+1) w15 w')) (W.loop (LoopL [(0,.pointer (some ⟨b,o,none⟩)),(2,.pointer (some ⟨w.heap.size,0,none⟩)),(3,.pointer (some ⟨w.heap.size+2,0,none⟩)),(99,.int .i64 L3.length)] 100 (fun j w'=>∃ v,j≤L3.length∧blk w' (w.heap.size+1)=some (#[.int .i64 (IntKind.i32.wrap (t.at 0).n),.slice none 0 0,.bool false,.slice none 0 0,.slice none 0 0,.int .i64 (IntKind.i32.wrap (t.at 1).n),.slice none 0 0,.bool false,.slice none 0 0,.slice none 0 0,.int .i64 0,.slice none 0 0,.bool (t.at 2).null,.slice av2 (List.map (tl1 (tlP (d+1)) fX1_2.of fX1_2.sub) L2).length kv2,.slice none 0 0,.int .i64 0,.slice none 0 0,.bool (t.at 3).null,v,.slice none 0 0,.int .i64 0,.slice none 0 0,.bool false,.slice none 0 0,.slice none 0 0,.int .i64 0,.slice none 0 0,.bool false,.slice none 0 0,.slice none 0 0],27,(0,0))∧GrowT (fun b=>w1.heap.size≤b) w15.heap.size (w.heap.size+1) w' 27 v ((L3.take j).map (tl1 (tlP (d+1)) fX1_3.of fX1_3.sub))∧Upd (fun b=>b=w.heap.size+1) w15 w')) (fun ρ _=>L3.length - (RowKit.intOf (ρ 100)).toNat) ?_ ?_) ?_
 ·exact ⟨(by simp (maxSteps:=1000000)(disch:=(first|omega|(simp only [qI,qJ,qK]<;>omega)|exact qL _)) only [go_sem,↓reduceIte,n0,reduceCtorEq,n1,n2,n3,n4,n5,i0,i1,i2,i3,i4,i5,i6,i7,Holds_nil,Holds_cons,hrd2_0,hrd2_2,hrd2_3]),0,(by simp (maxSteps:=1000000)(disch:=(first|omega|(simp only [qI,qJ,qK]<;>omega)|exact qL _)) only [go_sem,↓reduceIte,n0,reduceCtorEq,n1,n2,n3,n4,n5,i0,i1,i2,i3,i4,i5,i6,i7,hrd2_0,hrd2_2,hrd2_3];all_goals rfl),.slice none 0 0,Nat.zero_le _,hl15,GrowT.nil _ _ _ _ _,Upd.refl _ _⟩
 ·rintro ρ w16 ⟨⟨hrc3_0,hrc3_2,hrc3_3,hrc3_99,-⟩,j,hri,v,hj,hl16,hg,hUk⟩
  have hzk:=hUk.size
  have hX16:Ext w w16:=hX15.more hUk fun b hb h=>by omega
  have hz16:w1.heap.size≤w16.heap.size:=by have:=hz15;omega
  have hb16:=hX16.blk_some hb id
  have ht16:=hUk.blk_some ht15 (by omega)
  by_cases hlt:j < L3.length
  ·obtain ⟨_,be,oe,xe,ce,hbe,hoke,hxe,hble,hxs,hxx,hqe,hRe⟩:=SlR.get (size:=3) (by decide) hs3 hlt
   subst hbe
   have hcat:L3.take (j+1)=L3.take j++[L3[j]]:=List.take_succ_eq_append_getElem hlt
   have hgy:=hgl3.2 _ (List.getElem_mem hlt)
   have hll:=hgl3.1
   obtain ⟨av,kv,hvs,_⟩:=hg.shape
   have hlj:(List.map (tl1 (tlP (d+1)) fX1_3.of fX1_3.sub) (L3.take j)).length=j:=by simp;omega
   rw [hlj] at hvs
   subst hvs
   have hnb:∀ b,b < w15.heap.size∨w16.heap.size≤b→¬ ownB (.slice av j kv) b:=fun b hb h=>by
    have:=hg.above h
    have:=hg.below h
    omega
   generalize L3[j] = y at *
   repeat ((first|refine qA rfl ?_|apply qB|refine qC rfl ?_|apply qD|apply qE|apply qF|apply qG|apply qH);try simp (maxSteps:=1000000)(disch:=(first|omega|(simp only [qI,qJ,qK]<;>omega)|exact qL _)) only [go_sem,↓reduceIte,n0,reduceCtorEq,n1,n2,n3,n4,n5,i0,i1,i2,i3,i4,i5,i6,i7,hb16,hl16,ht16,hq0,hq1,hq2,hq3,hq4,hq5,hq6,hrc3_0,hrc3_2,hrc3_3,hrc3_99,hri])
   refine W.drawR (.only 0 (.two 1 (.only 2 (.only 3 .done)) 2 (.only 1 (.only 3 .done)))) NoB mixed (by kernel_rfl) ?_
   try simp (maxSteps:=1000000)(disch:=(first|omega|(simp only [qI,qJ,qK]<;>omega)|exact qL _)) only [go_sem,↓reduceIte,n0,reduceCtorEq,n1,n2,n3,n4,n5,i0,i1,i2,i3,i4,i5,i6,i7,hb16,hl16,ht16,hq0,hq1,hq2,hq3,hq4,hq5,hq6,hrc3_0,hrc3_2,hrc3_3,hrc3_99,hri]
   have q0:Upd NoB w16.drew (w16.alloc (.cells #[.bool false] 4)).drew:=show Upd NoB w16.drew (w16.drew.alloc (.cells #[.bool false] 4)) from Upd.alloc (Upd.refl _ _) _
   have q1:Upd NoB w16.drew (wr (w16.alloc (.cells #[.bool false] 4)).drew w16.heap.size 0 [.bool true]):=q0.wr _ _ (.inl (Nat.le_refl _))
   have q2:Upd NoB w16.drew (wr (wr (w16.alloc (.cells #[.bool false] 4)).drew w16.heap.size 0 [.bool true]) w16.heap.size 0 [.bool false]):=q1.wr _ _ (.inl (Nat.le_refl _))
   have q3:Upd NoB w16.drew (wr (w16.alloc (.cells #[.bool false] 4)).drew w16.heap.size 0 [.bool false]):=q0.wr _ _ (.inl (Nat.le_refl _))
   have q4:Upd NoB w16.drew (wr (wr (w16.alloc (.cells #[.bool false] 4)).drew w16.heap.size 0 [.bool false]) w16.heap.size 0 [.bool true]):=q3.wr _ _ (.inl (Nat.le_refl _))
   refine ⟨q0,⟨q1,q2,q2,?_⟩,⟨q3,q4,q4,?_⟩⟩
   ·have hk17:Ext w16 (wr (wr (w16.alloc (.cells #[.bool false] 4)).drew w16.heap.size 0 [.bool true]) w16.heap.size 0 [.bool false]):=((Upd.refl _ _).drew).trans q2
    generalize (wr (wr (w16.alloc (.cells #[.bool false] 4)).drew w16.heap.size 0 [.bool true]) w16.heap.size 0 [.bool false])=w17 at *
    have hzk17:=hk17.size
    have hX17:Ext w w17:=hX16.trans hk17
    have hb17:=hk17.blk_some hb16 id
    have hl17:=hk17.blk_some hl16 id
    have ht17:=hk17.blk_some ht16 id
    have hxe17:=hX17.blk_some hxe id
    repeat ((first|refine qA rfl ?_|apply qB|refine qC rfl ?_|apply qD|apply qE|apply qF|apply qG|apply qH);try simp (maxSteps:=1000000)(disch:=(first|omega|(simp only [qI,qJ,qK]<;>omega)|exact qL _)) only [go_sem,↓reduceIte,n0,reduceCtorEq,n1,n2,n3,n4,n5,i0,i1,i2,i3,i4,i5,i6,i7,hb17,hl17,ht17,hxe17,Int.toNat_natCast,Nat.mul_one,hq0,hq1,hq2,hq3,hq4,hq5,hq6,hrc3_0,hrc3_2,hrc3_3,hrc3_99,hri])
    refine W.drawR (.take 0 (.take 1 (.take 2 (.take 3 (.take 4 (.take 5 (.take 6 (.take 7 (.take 8 (.take 9 (.take 10 (.take 11 (.take 12 (.only 13 (.only 14 (.only 15 (.take 16 (.take 17 (.last 18))))))))))))))))))) (ownB (.slice av j kv)) mixed (by kernel_rfl) ?_
    try simp (maxSteps:=1000000)(disch:=(first|omega|(simp only [qI,qJ,qK]<;>omega)|exact qL _|(refine hnb _ ?_;first|omega|(simp only [World.size_alloc,size_wr,size_drew]<;>omega)))) only [go_sem,↓reduceIte,n0,reduceCtorEq,n1,n2,n3,n4,n5,i0,i1,i2,i3,i4,i5,i6,i7,hb17,hl17,ht17,hxe17,Int.toNat_natCast,Nat.mul_one,hq0,hq1,hq2,hq3,hq4,hq5,hq6,hrc3_0,hrc3_2,hrc3_3,hrc3_99,hri]
    have hxq18:=(Upd.refl _ _:Upd (ownB (.slice av j kv)) w17.drew w17.drew).blk_some (show blk w17.drew be=_ from hxe17) (hnb _ (.inl (by omega)))
    refine (tellX0_fn (d:=d) (ok:=ok) y ce w17.drew (b:=be) (o:=oe+j * 3) hxq18 (fun k hk=>by have:=hqe k hk;rw [← Nat.add_assoc] at this;exact this) ((RepS_lay true _ _).keep (Rep1_part.1 hRe) ((((hX17.drew).mono fun _ h=>h.elim).trans (Upd.refl _ _):Upd (ownB (.slice av j kv)) w w17.drew).keeps fun b hb _=>hnb b (.inl (by omega)))) (hgy.2.2 rfl)).mono ?_
    rintro _ w18 ⟨⟨c18,rfl,hc18⟩,hEx18⟩
    obtain ⟨T18,hT18⟩:∃ T,T=tlP (d+1) fs_X0 y:=⟨_,rfl⟩
    replace hc18:TreeC (fun b=>w17.drew.heap.size≤b) w18 T18 c18:=by rw [hT18];exact hc18
    obtain ⟨vS18,vL18,vU18,rfl,hn18,hS18,hLL18,hUU18⟩:=hc18.inv
    have k1_18:=hS18.flat
    have k2_18:=SlR.flat hLL18
    have k3_18:=SlR.flat hUU18
    have hP18:Upd (ownB (.slice av j kv)) w17.drew w18:=(Upd.refl _ _).trans (hEx18.mono fun _ h=>h.elim)
    have hsq18:=hEx18.size
    try simp only [size_drew] at hsq18
    refine ⟨hP18,?_⟩
    try simp (maxSteps:=1000000)(disch:=(first|omega|(simp only [qI,qJ,qK]<;>omega)|exact qL _|(refine hnb _ ?_;first|omega|(simp only [World.size_alloc,size_wr,size_drew]<;>omega)))) only [go_sem,↓reduceIte,n0,reduceCtorEq,n1,n2,n3,n4,n5,i0,i1,i2,i3,i4,i5,i6,i7,hb17,hl17,ht17,hxe17,Int.toNat_natCast,Nat.mul_one,hq0,hq1,hq2,hq3,hq4,hq5,hq6,hrc3_0,hrc3_2,hrc3_3,hrc3_99,hri,k1_18,k2_18,k3_18]
    have hP19:Upd (ownB (.slice av j kv)) w17.drew (w18.alloc (.cells #[.int .i64 T18.n,vS18,.bool T18.null,vL18,vU18] 27)):=show Upd (ownB (.slice av j kv)) w17.drew (w18.alloc (.cells #[.int .i64 T18.n,vS18,.bool T18.null,vL18,vU18] 27)) from (hP18).alloc _
    have hn19:blk (w18.alloc (.cells #[.int .i64 T18.n,vS18,.bool T18.null,vL18,vU18] 27)) w18.heap.size=some (#[.int .i64 T18.n,vS18,.bool T18.null,vL18,vU18],27,(0,0)):=show blk (w18.alloc (.cells #[.int .i64 T18.n,vS18,.bool T18.null,vL18,vU18] 27)) w18.heap.size=some (#[.int .i64 T18.n,vS18,.bool T18.null,vL18,vU18],27,(0,0)) from blk_alloc_new rfl
    have hsq19:(w18.alloc (.cells #[.int .i64 T18.n,vS18,.bool T18.null,vL18,vU18] 27)).heap.size=w18.heap.size+1:=show (w18.alloc (.cells #[.int .i64 T18.n,vS18,.bool T18.null,vL18,vU18] 27)).heap.size=w18.heap.size+1 from World.size_alloc _ _
    have hEx19:Ext w18 (w18.alloc (.cells #[.int .i64 T18.n,vS18,.bool T18.null,vL18,vU18] 27)):=show Ext w18 (w18.alloc (.cells #[.int .i64 T18.n,vS18,.bool T18.null,vL18,vU18] 27)) from Upd.alloc (Upd.refl _ _) _
    refine ⟨hP19,?_⟩
    try simp only [List.append_nil]
    generalize (w18.alloc (.cells #[.int .i64 T18.n,vS18,.bool T18.null,vL18,vU18] 27))=w19 at *
    try simp only [size_drew] at hsq19
    have hEw20:Ext w16 w19:=((hk17.drew.trans hEx18).trans hEx19)
    have hzw20:=hEw20.size
    obtain ⟨css,hown,hall⟩:=(hg.ext hEw20).ex
    have hcl:=hall.1
    rw [hlj] at hcl
    have hx20:TreeC (fun b=>(fun b=>w1.heap.size≤b) b∧b≠w.heap.size+1∧¬ ownB (.slice av j kv) b) w19 ((tl1 (tlP (d+1)) fX1_3.of fX1_3.sub) y) [.int .i64 T18.n,vS18,.bool T18.null,vL18,vU18]:=by
     rw [show (tl1 (tlP (d+1)) fX1_3.of fX1_3.sub) y=_ from hT18.symm]
     exact TreeC.weaken (fun b _ hk=>⟨by omega,by omega,hnb b (.inr (by omega))⟩) (TreeC.weaken (ok':=fun b=>w16.heap.size≤b) (fun b _ hk=>by have hk':w17.drew.heap.size≤b:=hk;(try simp only [size_drew] at hk');omega) (TreeC.keep (Ext.keeps hEx19 _) hc18))
    refine wp_append ap_24_24 (m:=1) (news:=[.int .i64 T18.n,vS18,.bool T18.null,vL18,vU18]) (n:=css.length) (cs:=css.flatten) (v:=(.slice av j kv)) ?_ rfl hown.1 (all2_flat_tree hall) (Src.blk (fr:=(0,0)) (T:=27) hn19 rfl (by simp only [List.all_cons,List.all_nil,flat_int,flat_bool,k1_18,k2_18,k3_18,Bool.and_self])) ?_ ?_ ?_
    ·first|rfl|simp (maxSteps:=1000000)(disch:=(first|omega|(simp only [qI,qJ,qK]<;>omega)|exact qL _)) only [go_sem,↓reduceIte,n0,reduceCtorEq,n1,n2,n3,n4,n5,i0,i1,i2,i3,i4,i5,i6,i7]
    ·omega
    ·omega
    intro v' w20 ho hu hfr
    have hP20:=(hP19:Upd (ownB (.slice av j kv)) w17.drew w19).trans hu
    have hzq20:=hP20.size
    simp only [size_drew] at hzq20
    have hlq20:=hP20.blk_some (show blk w17.drew (w.heap.size+1)=_ from hl17) (hnb _ (.inl (by omega)))
    have hg':=GrowT.snoc hown hall hx20 hu hfr ho
    obtain ⟨va,vc,hv',_⟩:=ho.shape
    subst hv'
    have hne:¬ ownB (.slice va (css.length+1) vc) (w.heap.size+1):=fun h=>(hfr _ h).elim (hnb _ (.inl (by omega))) (fun h=>by omega)
    refine ⟨hP20,?_⟩
    try simp (maxSteps:=1000000)(disch:=(first|omega|(simp only [qI,qJ,qK]<;>omega)|exact qL _|(refine hnb _ ?_;first|omega|(simp only [World.size_alloc,size_wr,size_drew]<;>omega)))) only [go_sem,↓reduceIte,n0,reduceCtorEq,n1,n2,n3,n4,n5,i0,i1,i2,i3,i4,i5,i6,i7,hlq20,Int.toNat_natCast,Nat.mul_one,hrc3_0,hrc3_2,hrc3_3,hrc3_99,hri]
    repeat ((first|refine qA rfl ?_|apply qB|refine qC rfl ?_|apply qD|apply qE|apply qF|apply qG|apply qH);try simp (maxSteps:=1000000)(disch:=(first|omega|(simp only [qI,qJ,qK]<;>omega)|exact qL _)) only [go_sem,↓reduceIte,n0,reduceCtorEq,n1,n2,n3,n4,n5,i0,i1,i2,i3,i4,i5,i6,i7,hlq20,Int.toNat_natCast,Nat.mul_one,hrc3_0,hrc3_2,hrc3_3,hrc3_99,hri])
    refine ⟨⟨(by simp (maxSteps:=1000000)(disch:=(first|omega|(simp only [qI,qJ,qK]<;>omega)|exact qL _)) only [go_sem,↓reduceIte,n0,reduceCtorEq,n1,n2,n3,n4,n5,i0,i1,i2,i3,i4,i5,i6,i7,Holds_nil,Holds_cons,hrc3_0,hrc3_2,hrc3_3,hrc3_99,hri]),j+1,(by simp (maxSteps:=1000000)(disch:=(first|omega|(simp only [qI,qJ,qK]<;>omega)|exact qL _)) only [go_sem,↓reduceIte,n0,reduceCtorEq,n1,n2,n3,n4,n5,i0,i1,i2,i3,i4,i5,i6,i7,hrc3_0,hrc3_2,hrc3_3,hrc3_99,hri];all_goals rfl),.slice va (css.length+1) vc,by omega,?_,?_,?_⟩,?_⟩
    ·rw [blk_wr_eq,hlq20];rfl
    ·rw [hcat,List.map_append];exact hg'.upd ((Upd.refl _ _).wr _ _ (.inr rfl)) hne
    ·refine Upd.wr ?_ _ _ (.inr rfl)
     exact (hUk.more ((hEw20.mono fun _ h=>h.elim).trans hu) fun b hb h=>absurd h (hnb b (.inl hb)))
    ·try simp (maxSteps:=1000000)(disch:=(first|omega|(simp only [qI,qJ,qK]<;>omega)|exact qL _)) only [go_sem,↓reduceIte,n0,reduceCtorEq,n1,n2,n3,n4,n5,i0,i1,i2,i3,i4,i5,i6,i7,hrc3_0,hrc3_2,hrc3_3,hrc3_99,hri]
     simp only [RowKit.intOf];omega
   ·have hk21:Ext w16 (wr (wr (w16.alloc (.cells #[.bool false] 4)).drew w16.heap.size 0 [.bool false]) w16.heap.size 0 [.bool true]):=((Upd.refl _ _).drew).trans q4
    generalize (wr (wr (w16.alloc (.cells #[.bool false] 4)).drew w16.heap.size 0 [.bool false]) w16.heap.size 0 [.bool true])=w21 at *
    have hzk21:=hk21.size
    have hX21:Ext w w21:=hX16.trans hk21
    have hb21:=hk21.blk_some hb16 id
    have hl21:=hk21.blk_some hl16 id
    have ht21:=hk21.blk_some ht16 id
    have hxe21:=hX21.blk_some hxe id
    repeat ((first|refine qA rfl ?_|apply qB|refine qC rfl ?_|apply qD|apply qE|apply qF|apply qG|apply qH);try simp (maxSteps:=1000000)(disch:=(first|omega|(simp only [qI,qJ,qK]<;>omega)|exact qL _)) only [go_sem,↓reduceIte,n0,reduceCtorEq,n1,n2,n3,n4,n5,i0,i1,i2,i3,i4,i5,i6,i7,hb21,hl21,ht21,hxe21,Int.toNat_natCast,Nat.mul_one,hq0,hq1,hq2,hq3,hq4,hq5,hq6,hrc3_0,hrc3_2,hrc3_3,hrc3_99,hri])
    refine W.drawR (.take 0 (.take 1 (.take 2 (.take 3 (.take 4 (.take 5 (.take 6 (.take 7 (.take 8 (.take 9 (.take 10 (.take 12 (.two 11 (.only 13 (.only 14 (.take 15 (.take 16 (.last 17))))) 13 (.only 11 (.only 14 (.take 15 (.take 16 (.last 17)))))))))))))))))) (ownB (.slice av j kv)) mixed (by kernel_rfl) ?_
    try simp (maxSteps:=1000000)(disch:=(first|omega|(simp only [qI,qJ,qK]<;>omega)|exact qL _|(refine hnb _ ?_;first|omega|(simp only [World.size_alloc,size_wr,size_drew]<;>omega)))) only [go_sem,↓reduceIte,n0,reduceCtorEq,n1,n2,n3,n4,n5,i0,i1,i2,i3,i4,i5,i6,i7,hb21,hl21,ht21,hxe21,Int.toNat_natCast,Nat.mul_one,hq0,hq1,hq2,hq3,hq4,hq5,hq6,hrc3_0,hrc3_2,hrc3_3,hrc3_99,hri]
    refine ⟨?_,?_⟩
    ·skip
     have hxq22:=(Upd.refl _ _:Upd (ownB (.slice av j kv)) w21.drew w21.drew).blk_some (show blk w21.drew be=_ from hxe21) (hnb _ (.inl (by omega)))
     refine (tellX0_fn (d:=d) (ok:=ok) y ce w21.drew (b:=be) (o:=oe+j * 3) hxq22 (fun k hk=>by have:=hqe k hk;rw [← Nat.add_assoc] at this;exact this) ((RepS_lay true _ _).keep (Rep1_part.1 hRe) ((((hX21.drew).mono fun _ h=>h.elim).trans (Upd.refl _ _):Upd (ownB (.slice av j kv)) w w21.drew).keeps fun b hb _=>hnb b (.inl (by omega)))) (hgy.2.2 rfl)).mono ?_
     rintro _ w22 ⟨⟨c22,rfl,hc22⟩,hEx22⟩
     obtain ⟨T22,hT22⟩:∃ T,T=tlP (d+1) fs_X0 y:=⟨_,rfl⟩
     replace hc22:TreeC (fun b=>w21.drew.heap.size≤b) w22 T22 c22:=by rw [hT22];exact hc22
     obtain ⟨vS22,vL22,vU22,rfl,hn22,hS22,hLL22,hUU22⟩:=hc22.inv
     have k1_22:=hS22.flat
     have k2_22:=SlR.flat hLL22
     have k3_22:=SlR.flat hUU22
     have hP22:Upd (ownB (.slice av j kv)) w21.drew w22:=(Upd.refl _ _).trans (hEx22.mono fun _ h=>h.elim)
     have hsq22:=hEx22.size
     try simp only [size_drew] at hsq22
     refine ⟨hP22,?_⟩
     try simp (maxSteps:=1000000)(disch:=(first|omega|(simp only [qI,qJ,qK]<;>omega)|exact qL _|(refine hnb _ ?_;first|omega|(simp only [World.size_alloc,size_wr,size_drew]<;>omega)))) only [go_sem,↓reduceIte,n0,reduceCtorEq,n1,n2,n3,n4,n5,i0,i1,i2,i3,i4,i5,i6,i7,hb21,hl21,ht21,hxe21,Int.toNat_natCast,Nat.mul_one,hq0,hq1,hq2,hq3,hq4,hq5,hq6,hrc3_0,hrc3_2,hrc3_3,hrc3_99,hri,k1_22,k2_22,k3_22]
     have hP23:Upd (ownB (.slice av j kv)) w21.drew (w22.alloc (.cells qZ5 27)):=show Upd (ownB (.slice av j kv)) w21.drew (w22.alloc (.cells qZ5 27)) from (hP22).alloc _
     have hn23:blk (w22.alloc (.cells qZ5 27)) w22.heap.size=some (qZ5,27,(0,0)):=show blk (w22.alloc (.cells qZ5 27)) w22.heap.size=some (qZ5,27,(0,0)) from blk_alloc_new rfl
     have hsq23:(w22.alloc (.cells qZ5 27)).heap.size=w22.heap.size+1:=show (w22.alloc (.cells qZ5 27)).heap.size=w22.heap.size+1 from World.size_alloc _ _
     have hEx23:Ext w22 (w22.alloc (.cells qZ5 27)):=show Ext w22 (w22.alloc (.cells qZ5 27)) from Upd.alloc (Upd.refl _ _) _
     refine ⟨hP23,?_⟩
     try simp only [List.append_nil]
     generalize (w22.alloc (.cells qZ5 27))=w23 at *
     try simp only [size_drew] at hsq23
     have hEw24:Ext w16 w23:=((hk21.drew.trans hEx22).trans hEx23)
     have hzw24:=hEw24.size
     obtain ⟨css,hown,hall⟩:=(hg.ext hEw24).ex
     have hcl:=hall.1
     rw [hlj] at hcl
     have hx24:TreeC (fun b=>(fun b=>w1.heap.size≤b) b∧b≠w.heap.size+1∧¬ ownB (.slice av j kv) b) w23 ((tl1 (tlP (d+1)) fX1_3.of fX1_3.sub) y) [.int .i64 T22.n,vS22,.bool T22.null,vL22,vU22]:=by
      rw [show (tl1 (tlP (d+1)) fX1_3.of fX1_3.sub) y=_ from hT22.symm]
      exact TreeC.weaken (fun b _ hk=>⟨by omega,by omega,hnb b (.inr (by omega))⟩) (TreeC.weaken (ok':=fun b=>w16.heap.size≤b) (fun b _ hk=>by have hk':w21.drew.heap.size≤b:=hk;(try simp only [size_drew] at hk');omega) (TreeC.keep (Ext.keeps hEx23 _) hc22))
     refine wp_append ap_24_24 (m:=1) (news:=[.int .i64 0,.slice none 0 0,.bool false,.slice none 0 0,.slice none 0 0]) (n:=css.length) (cs:=css.flatten) (v:=(.slice av j kv)) ?_ rfl hown.1 (all2_flat_tree hall) (Src.blk (fr:=(0,0)) (T:=27) hn23 rfl rfl) ?_ ?_ ?_
     ·first|rfl|simp (maxSteps:=1000000)(disch:=(first|omega|(simp only [qI,qJ,qK]<;>omega)|exact qL _)) only [go_sem,↓reduceIte,n0,reduceCtorEq,n1,n2,n3,n4,n5,i0,i1,i2,i3,i4,i5,i6,i7]
     ·omega
     ·omega
     intro v' w24 ho hu hfr
     have hP24:=(hP23:Upd (ownB (.slice av j kv)) w21.drew w23).trans hu
     have hzq24:=hP24.size
     simp only [size_drew] at hzq24
     have hlq24:=hP24.blk_some (show blk w21.drew (w.heap.size+1)=_ from hl21) (hnb _ (.inl (by omega)))
     rcases ho.2 with ⟨_,h⟩|⟨g,cap,rest,fr,hv',hg',hbg,hlen,hth,hle⟩
     ·exact absurd h (Nat.succ_ne_zero _)
     subst hv'
     have hgne:¬ g=w.heap.size+1:=fun h=>(hfr g ⟨_,_,_,rfl,rfl⟩).elim (fun h'=>hnb _ (.inl (by omega)) (h ▸ h')) (fun h'=>by omega)
     have hfl:css.flatten.length=css.length * 5:=flatten_len hown.2
     have hlen2:(css.flatten++([.int .i64 0,.slice none 0 0,.bool false,.slice none 0 0,.slice none 0 0]:List Value)++rest).length=cap * 5:=by simp only [List.length_append] at hlen ⊢;omega
     obtain ⟨XX,hXX⟩:∃ X:Array Value,X=(css.flatten++([.int .i64 0,.slice none 0 0,.bool false,.slice none 0 0,.slice none 0 0]:List Value)++rest).toArray:=⟨_,rfl⟩
     have hbgX:blk w24 g=some (XX,27,fr):=by rw [hXX];exact hbg
     have hXsz:XX.size=cap * 5:=by rw [hXX,List.size_toArray];exact hlen2
     have hth2:thaw fr (css.length * 5) 5=true:=thaw_of hth (by omega)
     have hst:css.length * 5+5≤XX.size:=by omega
     have hset:=Own.setlast (cs:=[.int .i64 T22.n,vS22,.bool T22.null,vL22,vU22]) ho rfl rfl
     have hu2:Upd (ownB (.slice av j kv)) w23 (wr w24 g (css.length * 5) [.int .i64 T22.n,vS22,.bool T22.null,vL22,vU22]):=hu.wr _ _ ((hfr g ⟨_,_,_,rfl,rfl⟩).symm)
     have hg2:=GrowT.snoc hown hall hx24 hu2 hfr hset
     have hcj:css.length=j:=by first|exact hcl.symm.trans hlj|omega
     simp only [hcj] at hth2 hst hset hu2 hg2
     refine ⟨hP24,?_⟩
     try simp (maxSteps:=1000000)(disch:=(first|omega|(simp only [qI,qJ,qK]<;>omega)|exact qL _|(refine hnb _ ?_;first|omega|(simp only [World.size_alloc,size_wr,size_drew]<;>omega)))) only [go_sem,↓reduceIte,n0,reduceCtorEq,n1,n2,n3,n4,n5,i0,i1,i2,i3,i4,i5,i6,i7,hlq24,hbgX,hth2,hst,hcj,Int.toNat_natCast,Nat.mul_one,k1_22,k2_22,k3_22,hrc3_0,hrc3_2,hrc3_3,hrc3_99,hri]
     repeat ((first|refine qA rfl ?_|apply qB|refine qC rfl ?_|apply qD|apply qE|apply qF|apply qG|apply qH);try simp (maxSteps:=1000000)(disch:=(first|omega|(simp only [qI,qJ,qK]<;>omega)|exact qL _)) only [go_sem,↓reduceIte,n0,reduceCtorEq,n1,n2,n3,n4,n5,i0,i1,i2,i3,i4,i5,i6,i7,hlq24,hbgX,hth2,hst,hcj,Int.toNat_natCast,Nat.mul_one,k1_22,k2_22,k3_22,hrc3_0,hrc3_2,hrc3_3,hrc3_99,hri])
     refine ⟨⟨(by simp (maxSteps:=1000000)(disch:=(first|omega|(simp only [qI,qJ,qK]<;>omega)|exact qL _)) only [go_sem,↓reduceIte,n0,reduceCtorEq,n1,n2,n3,n4,n5,i0,i1,i2,i3,i4,i5,i6,i7,Holds_nil,Holds_cons,hrc3_0,hrc3_2,hrc3_3,hrc3_99,hri]),j+1,(by simp (maxSteps:=1000000)(disch:=(first|omega|(simp only [qI,qJ,qK]<;>omega)|exact qL _)) only [go_sem,↓reduceIte,n0,reduceCtorEq,n1,n2,n3,n4,n5,i0,i1,i2,i3,i4,i5,i6,i7,hrc3_0,hrc3_2,hrc3_3,hrc3_99,hri];all_goals rfl),.slice (some ⟨g,0,none⟩) (j+1) cap,by omega,?_,?_,?_⟩,?_⟩
     ·rw [blk_wr_ne (by omega),blk_wr_eq,hlq24];rfl
     ·rw [hcat,List.map_append,wr_comm (Ne.symm hgne)]
      exact hg2.upd ((Upd.refl _ _).wr _ _ (.inr rfl)) (fun h=>hgne (ownB_row h).symm)
     ·rw [wr_comm (Ne.symm hgne)]
      refine Upd.wr ?_ _ _ (.inr rfl)
      exact (hUk.more ((hEw24.mono fun _ h=>h.elim).trans hu2) fun b hb h=>absurd h (hnb b (.inl hb)))
     ·try simp (maxSteps:=1000000)(disch:=(first|omega|(simp only [qI,qJ,qK]<;>omega)|exact qL _)) only [go_sem,↓reduceIte,n0,reduceCtorEq,n1,n2,n3,n4,n5,i0,i1,i2,i3,i4,i5,i6,i7,hrc3_0,hrc3_2,hrc3_3,hrc3_99,hri]
      simp only [RowKit.intOf];omega
    ·skip
     have hP25:Upd (ownB (.slice av j kv)) w21.drew (w21.alloc (.cells qZ5 27)).drew:=show Upd (ownB (.slice av j kv)) w21.drew (w21.drew.alloc (.cells qZ5 27)) from (Upd.refl _ _).alloc _
     have hn25:blk (w21.alloc (.cells qZ5 27)).drew w21.drew.heap.size=some (qZ5,27,(0,0)):=show blk (w21.drew.alloc (.cells qZ5 27)) w21.drew.heap.size=some (qZ5,27,(0,0)) from blk_alloc_new rfl
     have hsq25:(w21.alloc (.cells qZ5 27)).drew.heap.size=w21.drew.heap.size+1:=show (w21.drew.alloc (.cells qZ5 27)).heap.size=w21.drew.heap.size+1 from World.size_alloc _ _
     have hEx25:Ext w21.drew (w21.alloc (.cells qZ5 27)).drew:=show Ext w21.drew (w21.drew.alloc (.cells qZ5 27)) from Upd.alloc (Upd.refl _ _) _
     refine ⟨hP25,?_⟩
     try simp only [List.append_nil]
     generalize (w21.alloc (.cells qZ5 27)).drew=w25 at *
     try simp only [size_drew] at hsq25
     have hxq26:=(hP25:Upd (ownB (.slice av j kv)) w21.drew w25).blk_some (show blk w21.drew be=_ from hxe21) (hnb _ (.inl (by omega)))
     refine (tellX0_fn (d:=d) (ok:=ok) y ce w25 (b:=be) (o:=oe+j * 3) hxq26 (fun k hk=>by have:=hqe k hk;rw [← Nat.add_assoc] at this;exact this) ((RepS_lay true _ _).keep (Rep1_part.1 hRe) ((((hX21.drew).mono fun _ h=>h.elim).trans (hP25):Upd (ownB (.slice av j kv)) w w25).keeps fun b hb _=>hnb b (.inl (by omega)))) (hgy.2.2 rfl)).mono ?_
     rintro _ w26 ⟨⟨c26,rfl,hc26⟩,hEx26⟩
     obtain ⟨T26,hT26⟩:∃ T,T=tlP (d+1) fs_X0 y:=⟨_,rfl⟩
     replace hc26:TreeC (fun b=>w25.heap.size≤b) w26 T26 c26:=by rw [hT26];exact hc26
     obtain ⟨vS26,vL26,vU26,rfl,hn26,hS26,hLL26,hUU26⟩:=hc26.inv
     have k1_26:=hS26.flat
     have k2_26:=SlR.flat hLL26
     have k3_26:=SlR.flat hUU26
     have hP26:Upd (ownB (.slice av j kv)) w21.drew w26:=(hP25).trans (hEx26.mono fun _ h=>h.elim)
     have hsq26:=hEx26.size
     try simp only [size_drew] at hsq26
     refine ⟨hP26,?_⟩
     try simp (maxSteps:=1000000)(disch:=(first|omega|(simp only [qI,qJ,qK]<;>omega)|exact qL _|(refine hnb _ ?_;first|omega|(simp only [World.size_alloc,size_wr,size_drew]<;>omega)))) only [go_sem,↓reduceIte,n0,reduceCtorEq,n1,n2,n3,n4,n5,i0,i1,i2,i3,i4,i5,i6,i7,hb21,hl21,ht21,hxe21,Int.toNat_natCast,Nat.mul_one,hq0,hq1,hq2,hq3,hq4,hq5,hq6,hrc3_0,hrc3_2,hrc3_3,hrc3_99,hri,k1_26,k2_26,k3_26]
     have hEw27:Ext w16 w26:=((hk21.drew.trans hEx25).trans hEx26)
     have hzw27:=hEw27.size
     obtain ⟨css,hown,hall⟩:=(hg.ext hEw27).ex
     have hcl:=hall.1
     rw [hlj] at hcl
     have hx27:TreeC (fun b=>(fun b=>w1.heap.size≤b) b∧b≠w.heap.size+1∧¬ ownB (.slice av j kv) b) w26 ((tl1 (tlP (d+1)) fX1_3.of fX1_3.sub) y) [.int .i64 T26.n,vS26,.bool T26.null,vL26,vU26]:=by
      rw [show (tl1 (tlP (d+1)) fX1_3.of fX1_3.sub) y=_ from hT26.symm]
      exact TreeC.weaken (fun b _ hk=>⟨by omega,by omega,hnb b (.inr (by omega))⟩) (TreeC.weaken (ok':=fun b=>w16.heap.size≤b) (fun b _ hk=>by have hk':w25.heap.size≤b:=hk;(try simp only [size_drew] at hk');omega) hc26)
     refine wp_append ap_24_24 (m:=1) (news:=[.int .i64 0,.slice none 0 0,.bool false,.slice none 0 0,.slice none 0 0]) (n:=css.length) (cs:=css.flatten) (v:=(.slice av j kv)) ?_ rfl hown.1 (all2_flat_tree hall) (Src.blk (fr:=(0,0)) (T:=27) (hEx26.blk_some hn25 id) rfl rfl) ?_ ?_ ?_
     ·first|rfl|simp (maxSteps:=1000000)(disch:=(first|omega|(simp only [qI,qJ,qK]<;>omega)|exact qL _)) only [go_sem,↓reduceIte,n0,reduceCtorEq,n1,n2,n3,n4,n5,i0,i1,i2,i3,i4,i5,i6,i7]
     ·omega
     ·omega
     intro v' w27 ho hu hfr
     have hP27:=(hP26:Upd (ownB (.slice av j kv)) w21.drew w26).trans hu
     have hzq27:=hP27.size
     simp only [size_drew] at hzq27
     have hlq27:=hP27.blk_some (show blk w21.drew (w.heap.size+1)=_ from hl21) (hnb _ (.inl (by omega)))
     rcases ho.2 with ⟨_,h⟩|⟨g,cap,rest,fr,hv',hg',hbg,hlen,hth,hle⟩
     ·exact absurd h (Nat.succ_ne_zero _)
     subst hv'
     have hgne:¬ g=w.heap.size+1:=fun h=>(hfr g ⟨_,_,_,rfl,rfl⟩).elim (fun h'=>hnb _ (.inl (by omega)) (h ▸ h')) (fun h'=>by omega)
     have hfl:css.flatten.length=css.length * 5:=flatten_len hown.2
     have hlen2:(css.flatten++([.int .i64 0,.slice none 0 0,.bool false,.slice none 0 0,.slice none 0 0]:List Value)++rest).length=cap * 5:=by simp only [List.length_append] at hlen ⊢;omega
     obtain ⟨XX,hXX⟩:∃ X:Array Value,X=(css.flatten++([.int .i64 0,.slice none 0 0,.bool false,.slice none 0 0,.slice none 0 0]:List Value)++rest).toArray:=⟨_,rfl⟩
     have hbgX:blk w27 g=some (XX,27,fr):=by rw [hXX];exact hbg
     have hXsz:XX.size=cap * 5:=by rw [hXX,List.size_toArray];exact hlen2
     have hth2:thaw fr (css.length * 5) 5=true:=thaw_of hth (by omega)
     have hst:css.length * 5+5≤XX.size:=by omega
     have hset:=Own.setlast (cs:=[.int .i64 T26.n,vS26,.bool T26.null,vL26,vU26]) ho rfl rfl
     have hu2:Upd (ownB (.slice av j kv)) w26 (wr w27 g (css.length * 5) [.int .i64 T26.n,vS26,.bool T26.null,vL26,vU26]):=hu.wr _ _ ((hfr g ⟨_,_,_,rfl,rfl⟩).symm)
     have hg2:=GrowT.snoc hown hall hx27 hu2 hfr hset
     have hcj:css.length=j:=by first|exact hcl.symm.trans hlj|omega
     simp only [hcj] at hth2 hst hset hu2 hg2
     refine ⟨hP27,?_⟩
     try simp (maxSteps:=1000000)(disch:=(first|omega|(simp only [qI,qJ,qK]<;>omega)|exact qL _|(refine hnb _ ?_;first|omega|(simp only [World.size_alloc,size_wr,size_drew]<;>omega)))) only [go_sem,↓reduceIte,n0,reduceCtorEq,n1,n2,n3,n4,n5,i0,i1,i2,i3,i4,i5,i6,i7,hlq27,hbgX,hth2,hst,hcj,Int.toNat_natCast,Nat.mul_one,k1_26,k2_26,k3_26,hrc3_0,hrc3_2,hrc3_3,hrc3_99,hri]
     repeat ((first|refine qA rfl ?_|apply qB|refine qC rfl ?_|apply qD|apply qE|apply qF|apply qG|apply qH);try simp (maxSteps:=1000000)(disch:=(first|omega|(simp only [qI,qJ,qK]<;>omega)|exact qL _)) only [go_sem,↓reduceIte,n0,reduceCtorEq,n1,n2,n3,n4,n5,i0,i1,i2,i3,i4,i5,i6,i7,hlq27,hbgX,hth2,hst,hcj,Int.toNat_natCast,Nat.mul_one,k1_26,k2_26,k3_26,hrc3_0,hrc3_2,hrc3_3,hrc3_99,hri])
     refine ⟨⟨(by simp (maxSteps:=1000000)(disch:=(first|omega|(simp only [qI,qJ,qK]<;>omega)|exact qL _)) only [go_sem,↓reduceIte,n0,reduceCtorEq,n1,n2,n3,n4,n5,i0,i1,i2,i3,i4,i5,i6,i7,Holds_nil,Holds_cons,hrc3_0,hrc3_2,hrc3_3,hrc3_99,hri]),j+1,(by simp (maxSteps:=1000000)(disch:=(first|omega|(simp only [qI,qJ,qK]<;>omega)|exact qL _)) only [go_sem,↓reduceIte,n0,reduceCtorEq,n1,n2,n3,n4,n5,i0,i1,i2,i3,i4,i5,i6,i7,hrc3_0,hrc3_2,hrc3_3,hrc3_99,hri];all_goals rfl),.slice (some ⟨g,0,none⟩) (j+1) cap,by omega,?_,?_,?_⟩,?_⟩
     ·rw [blk_wr_ne (by omega),blk_wr_eq,hlq27];rfl
     ·rw [hcat,List.map_append,wr_comm (Ne.symm hgne)]
      exact hg2.upd ((Upd.refl _ _).wr _ _ (.inr rfl)) (fun h=>hgne (ownB_row h).symm)
     ·rw [wr_comm (Ne.symm hgne)]
      refine Upd.wr ?_ _ _ (.inr rfl)
      exact (hUk.more ((hEw27.mono fun _ h=>h.elim).trans hu2) fun b hb h=>absurd h (hnb b (.inl hb)))
     ·try simp (maxSteps:=1000000)(disch:=(first|omega|(simp only [qI,qJ,qK]<;>omega)|exact qL _)) only [go_sem,↓reduceIte,n0,reduceCtorEq,n1,n2,n3,n4,n5,i0,i1,i2,i3,i4,i5,i6,i7,hrc3_0,hrc3_2,hrc3_3,hrc3_99,hri]
      simp only [RowKit.intOf];omega
  ·have hjn:j=L3.length:=by omega
   subst hjn
   rw [List.take_length] at hg
   repeat ((first|refine qA rfl ?_|apply qB|refine qC rfl ?_|apply qD|apply qE|apply qF|apply qG|apply qH);try simp (maxSteps:=1000000)(disch:=(first|omega|(simp only [qI,qJ,qK]<;>omega)|exact qL _)) only [go_sem,↓reduceIte,n0,reduceCtorEq,n1,n2,n3,n4,n5,i0,i1,i2,i3,i4,i5,i6,i7,hrc3_0,hrc3_2,hrc3_3,hrc3_99,hri])
   exact ⟨(by simp (maxSteps:=1000000)(disch:=(first|omega|(simp only [qI,qJ,qK]<;>omega)|exact qL _)) only [go_sem,↓reduceIte,n0,reduceCtorEq,n1,n2,n3,n4,n5,i0,i1,i2,i3,i4,i5,i6,i7,Holds_nil,Holds_cons,hrc3_0,hrc3_2,hrc3_3,hrc3_99,hri]),v,hl16,hg,hUk⟩
 rintro ρ w28 ⟨⟨hrd3_0,hrd3_2,hrd3_3,hrd3_99,-⟩,v,hl28,hg28,hUz28⟩
 have hV28:Upd (fun b=>b=w.heap.size+1∨b=w.heap.size+2) w15 w28:=hUz28.mono fun _ h=>.inl h
 have hU28:Upd (fun b=>b=w.heap.size+1∨b=w.heap.size+2) w1 w28:=hU15.trans hV28
 have hz28:=hU28.size
 have hX28:Ext w w28:=hE1.more hU28 fun b hb h=>by omega
 have hb28:=hX28.blk_some hb id
 have ht28:=hUz28.blk_some ht15 (by omega)
 obtain ⟨av3,kv3,hvs,_⟩:=hg28.shape
 subst hvs
 have hf3:TreeC (fun b=>w1.heap.size≤b) w28 (.mk 0 [] (t.at 3).null (L3.map (tl1 (tlP (d+1)) fX1_3.of fX1_3.sub)) []) [.int .i64 0,.slice none 0 0,.bool (t.at 3).null,.slice av3 (List.map (tl1 (tlP (d+1)) fX1_3.of fX1_3.sub) L3).length kv3,.slice none 0 0]:=TreeC.intro rfl (BytesV.nil _ _) (hg28.trees (fun _ _ h=>h) (fun b hb=>by have:=hz15;omega)) (tagsN _ _)
 repeat ((first|refine qA rfl ?_|apply qB|refine qC rfl ?_|apply qD|apply qE|apply qF|apply qG|apply qH);try simp (maxSteps:=1000000)(disch:=(first|omega|(simp only [qI,qJ,qK]<;>omega)|exact qL _)) only [go_sem,↓reduceIte,n0,reduceCtorEq,n1,n2,n3,n4,n5,i0,i1,i2,i3,i4,i5,i6,i7,hb28,hl28,ht28,hq0,hq1,hq2,hq3,hq4,hq5,hq6,hrd3_0,hrd3_2,hrd3_3])
 refine W.drawR (.take 0 (.take 1 (.take 2 (.take 3 (.take 4 (.take 5 (.take 6 (.only 7 (.take 8 (.last 9)))))))))) (NoB) mixed (by kernel_rfl) ?_
 try simp (maxSteps:=1000000)(disch:=(first|omega|(simp only [qI,qJ,qK]<;>omega)|exact qL _)) only [go_sem,↓reduceIte,n0,reduceCtorEq,n1,n2,n3,n4,n5,i0,i1,i2,i3,i4,i5,i6,i7,hb28,hl28,ht28,hq0,hq1,hq2,hq3,hq4,hq5,hq6,hrd3_0,hrd3_2,hrd3_3,tl8]
 refine ⟨Upd.refl _ _,?_⟩
 have hlq29:blk w28.drew (w.heap.size+1)=_:=hl28
 have hx29:Upd (fun b=>b=w.heap.size+1∨b=w.heap.size+2) w28 w28.drew:=(Upd.refl _ _).drew
 generalize hw29:wr w28.drew (w.heap.size+1) 20 [.int .i64 (IntKind.i8.wrap (t.at 4).n),.slice none 0 0,.bool false,.slice none 0 0,.slice none 0 0] = w29
 have hl29:blk w29 (w.heap.size+1)=some (#[.int .i64 (IntKind.i32.wrap (t.at 0).n),.slice none 0 0,.bool false,.slice none 0 0,.slice none 0 0,.int .i64 (IntKind.i32.wrap (t.at 1).n),.slice none 0 0,.bool false,.slice none 0 0,.slice none 0 0,.int .i64 0,.slice none 0 0,.bool (t.at 2).null,.slice av2 (List.map (tl1 (tlP (d+1)) fX1_2.of fX1_2.sub) L2).length kv2,.slice none 0 0,.int .i64 0,.slice none 0 0,.bool (t.at 3).null,.slice av3 (List.map (tl1 (tlP (d+1)) fX1_3.of fX1_3.sub) L3).length kv3,.slice none 0 0,.int .i64 (IntKind.i8.wrap (t.at 4).n),.slice none 0 0,.bool false,.slice none 0 0,.slice none 0 0,.int .i64 0,.slice none 0 0,.bool false,.slice none 0 0,.slice none 0 0],27,(0,0)):=by rw [← hw29,blk_wr_eq,hlq29];rfl
 have hv29:Upd (fun b=>b=w.heap.size+1∨b=w.heap.size+2) w28.drew w29:=by rw [← hw29];exact (Upd.refl _ _).wr _ _ (.inr (.inl rfl))
 have hV29:Upd (fun b=>b=w.heap.size+1∨b=w.heap.size+2) w28 w29:=hx29.trans hv29
 have hU29:Upd (fun b=>b=w.heap.size+1∨b=w.heap.size+2) w1 w29:=hU28.trans hV29
 have hz29:=hU29.size
 have hX29:Ext w w29:=hE1.more hU29 fun b hb h=>by omega
 have hb29:=hX29.blk_some hb id
 have ht29:blk w29 (w.heap.size+2)=some (#[.int .i64 0,.slice none 0 0,.bool false,.slice (some ⟨w.heap.size+1,0,none⟩) 6 6,.slice none 0 0],27,(0,0)):=by
  rw [← hw29,blk_wr_ne (by omega)]
  exact ht28
 clear hw29
 have hf4:TreeC (fun b=>w1.heap.size≤b) w29 (.num (IntKind.i8.wrap (t.at 4).n)) [.int .i64 (IntKind.i8.wrap (t.at 4).n),.slice none 0 0,.bool false,.slice none 0 0,.slice none 0 0]:=(TreeC.keep (hv29.keeps fun b hb hk e=>by have hk':w1.heap.size≤b:=hk;omega) (TreeC.intro (tl8 _) (BytesV.nil _ _) (treesN _ _) (tagsN _ _):TreeC (fun b=>w1.heap.size≤b) w28.drew (.num (IntKind.i8.wrap (t.at 4).n)) [.int .i64 (IntKind.i8.wrap (t.at 4).n),.slice none 0 0,.bool false,.slice none 0 0,.slice none 0 0]))
 repeat ((first|refine qA rfl ?_|apply qB|refine qC rfl ?_|apply qD|apply qE|apply qF|apply qG|apply qH);try simp (maxSteps:=1000000)(disch:=(first|omega|(simp only [qI,qJ,qK]<;>omega)|exact qL _)) only [go_sem,↓reduceIte,n0,reduceCtorEq,n1,n2,n3,n4,n5,i0,i1,i2,i3,i4,i5,i6,i7,hb29,hl29,ht29,hq0,hq1,hq2,hq3,hq4,hq5,hq6,hrd3_0,hrd3_2,hrd3_3])
 refine W.drawR (.take 0 (.take 1 (.take 2 (.take 3 (.take 4 (.take 5 (.take 6 (.only 7 (.take 8 (.last 9)))))))))) (NoB) mixed (by kernel_rfl) ?_
 try simp (maxSteps:=1000000)(disch:=(first|omega|(simp only [qI,qJ,qK]<;>omega)|exact qL _)) only [go_sem,↓reduceIte,n0,reduceCtorEq,n1,n2,n3,n4,n5,i0,i1,i2,i3,i4,i5,i6,i7,hb29,hl29,ht29,hq0,hq1,hq2,hq3,hq4,hq5,hq6,hrd3_0,hrd3_2,hrd3_3,tl32]
 refine ⟨Upd.refl _ _,?_⟩
 have hlq30:blk w29.drew (w.heap.size+1)=_:=hl29
 have hx30:Upd (fun b=>b=w.heap.size+1∨b=w.heap.size+2) w29 w29.drew:=(Upd.refl _ _).drew
 generalize hw30:wr w29.drew (w.heap.size+1) 25 [.int .i64 (IntKind.i32.wrap (t.at 5).n),.slice none 0 0,.bool false,.slice none 0 0,.slice none 0 0] = w30
 have hl30:blk w30 (w.heap.size+1)=some (#[.int .i64 (IntKind.i32.wrap (t.at 0).n),.slice none 0 0,.bool false,.slice none 0 0,.slice none 0 0,.int .i64 (IntKind.i32.wrap (t.at 1).n),.slice none 0 0,.bool false,.slice none 0 0,.slice none 0 0,.int .i64 0,.slice none 0 0,.bool (t.at 2).null,.slice av2 (List.map (tl1 (tlP (d+1)) fX1_2.of fX1_2.sub) L2).length kv2,.slice none 0 0,.int .i64 0,.slice none 0 0,.bool (t.at 3).null,.slice av3 (List.map (tl1 (tlP (d+1)) fX1_3.of fX1_3.sub) L3).length kv3,.slice none 0 0,.int .i64 (IntKind.i8.wrap (t.at 4).n),.slice none 0 0,.bool false,.slice none 0 0,.slice none 0 0,.int .i64 (IntKind.i32.wrap (t.at 5).n),.slice none 0 0,.bool false,.slice none 0 0,.slice none 0 0],27,(0,0)):=by rw [← hw30,blk_wr_eq,hlq30];rfl
 have hv30:Upd (fun b=>b=w.heap.size+1∨b=w.heap.size+2) w29.drew w30:=by rw [← hw30];exact (Upd.refl _ _).wr _ _ (.inr (.inl rfl))
 have hV30:Upd (fun b=>b=w.heap.size+1∨b=w.heap.size+2) w29 w30:=hx30.trans hv30
 have hU30:Upd (fun b=>b=w.heap.size+1∨b=w.heap.size+2) w1 w30:=hU29.trans hV30
 have hz30:=hU30.size
 have hX30:Ext w w30:=hE1.more hU30 fun b hb h=>by omega
 have hb30:=hX30.blk_some hb id
 have ht30:blk w30 (w.heap.size+2)=some (#[.int .i64 0,.slice none 0 0,.bool false,.slice (some ⟨w.heap.size+1,0,none⟩) 6 6,.slice none 0 0],27,(0,0)):=by
  rw [← hw30,blk_wr_ne (by omega)]
  exact ht29
 clear hw30
 have hf5:TreeC (fun b=>w1.heap.size≤b) w30 (.num (IntKind.i32.wrap (t.at 5).n)) [.int .i64 (IntKind.i32.wrap (t.at 5).n),.slice none 0 0,.bool false,.slice none 0 0,.slice none 0 0]:=(TreeC.keep (hv30.keeps fun b hb hk e=>by have hk':w1.heap.size≤b:=hk;omega) (TreeC.intro (tl32 _) (BytesV.nil _ _) (treesN _ _) (tagsN _ _):TreeC (fun b=>w1.heap.size≤b) w29.drew (.num (IntKind.i32.wrap (t.at 5).n)) [.int .i64 (IntKind.i32.wrap (t.at 5).n),.slice none 0 0,.bool false,.slice none 0 0,.slice none 0 0]))
 repeat ((first|refine qA rfl ?_|apply qB|refine qC rfl ?_|apply qD|apply qE|apply qF|apply qG|apply qH);try simp (maxSteps:=1000000)(disch:=(first|omega|(simp only [qI,qJ,qK]<;>omega)|exact qL _)) only [go_sem,↓reduceIte,n0,reduceCtorEq,n1,n2,n3,n4,n5,i0,i1,i2,i3,i4,i5,i6,i7,hb30,hl30,ht30,hq0,hq1,hq2,hq3,hq4,hq5,hq6,hrd3_0,hrd3_2,hrd3_3])
 refine (EachG_fn (ok:=fun b=>b < w.heap.size) 51 ca_51 #[.pointer (some ⟨w.heap.size+2,0,none⟩)] w30 (tb:=b) (to:=o+6) hb30 hq6 ((hT.weaken fun b hb _=>hb).keep (hX30.keeps _)) (sortT_perm _) (sortT_lt hgu.2.1) (by rw [(sortT_perm t.u).length_eq];exact hgu.1)
  (fun b=>b=w.heap.size+2) (by omega) (fun b hb hk e=>by have hk':b < w.heap.size:=hk;omega) (fun b hb=>by have:=blk_lt ht30;omega)
  (fun wl done w'=>∃ v,blk w' (w.heap.size+2)=some (#[.int .i64 0,.slice none 0 0,.bool false,.slice (some ⟨w.heap.size+1,0,none⟩) 6 6,v],27,(0,0))∧GrowU (fun b=>w1.heap.size≤b) wl.heap.size (w.heap.size+2) w' 51 v done) (fun wl hE=>⟨_,hE.blk_some ht30 id,GrowU.nil _ _ _ _ _⟩) ?_).mono ?_
 ·rintro wl hE done y vv wc hpre ⟨v,hbv,hg⟩ hU hvv hy
  have hz':=hE.size
  have hzu:=hU.size
  have htl:=blk_lt ht30
  have hpl:=hpre.length_le
  simp only [List.length_append,List.length_cons,List.length_nil] at hpl
  rw [(sortT_perm t.u).length_eq] at hpl
  have hlu:=hgu.1
  have hmy:y∈t.u:=(sortT_perm t.u).mem_iff.1 (hpre.subset (by simp))
  refine (tagclX1_fn (ok:=fun b=>b < w.heap.size) _ _ _ _ v done y vv wc hbv hg hzu (by omega) (hvv.keep ((hE.mono (fun _ h=>h.elim) |>.trans hU:Upd (fun b=>b=w.heap.size+2) w30 wc).keeps fun b _ hk e=>by have hk':b < w.heap.size:=hk;omega)) hy (hgu.2.2 y hmy) (by omega) (fun b hb=>by have:=hz30;omega)).mono ?_
  rintro _ w2' ⟨⟨v',h1,h2⟩,h3⟩
  exact ⟨⟨v',h1,h2⟩,hU.trans' h3 fun b hb h=>h.elim id fun h=>by omega⟩
 rintro _ w31 ⟨wl,hEl,⟨v,ht31,hgU⟩,hUe⟩
 have hzl:=hEl.size
 obtain ⟨aU,kU,hvs,_⟩:=hgU.shape
 subst hvs
 have hV31:Upd (fun b=>b=w.heap.size+1∨b=w.heap.size+2) w30 w31:=(hEl.mono fun _ h=>h.elim).trans (hUe.mono fun _ h=>.inr h)
 have hU31:Upd (fun b=>b=w.heap.size+1∨b=w.heap.size+2) w1 w31:=hU30.trans hV31
 have hz31:=hU31.size
 have hX31:Ext w w31:=hE1.more hU31 fun b hb h=>by omega
 have hb31:=hX31.blk_some hb id
 have hl31:=(((hEl.mono fun _ h=>h.elim).trans hUe:Upd (fun b=>b=w.heap.size+2) w30 w31)).blk_some hl30 (by omega)
 have hTU:=hgU.tags (ok':=(fun b=>w1.heap.size≤b)) (fun _ _ h=>h) (fun b hb=>by have:=hz30;omega)
 repeat ((first|refine qA rfl ?_|apply qB|refine qC rfl ?_|apply qD|apply qE|apply qF|apply qG|apply qH);try simp (maxSteps:=1000000)(disch:=(first|omega|(simp only [qI,qJ,qK]<;>omega)|exact qL _)) only [go_sem,↓reduceIte,n0,reduceCtorEq,n1,n2,n3,n4,n5,i0,i1,i2,i3,i4,i5,i6,i7,hb31,hl31,ht31,hq0,hq1,hq2,hq3,hq4,hq5,hq6,hrd3_0,hrd3_2,hrd3_3,cellsAt_five])
 refine (sorted_fn _ _ w31 hTU (sortT_lt hgu.2.1) (by rw [(sortT_perm t.u).length_eq];exact hgu.1)).mono ?_
 rintro _ w32 hEs
 have hV32:Upd (fun b=>b=w.heap.size+1∨b=w.heap.size+2) w31 w32:=hEs.mono fun _ h=>h.elim
 have hU32:Upd (fun b=>b=w.heap.size+1∨b=w.heap.size+2) w1 w32:=hU31.trans hV32
 have hz32:=hU32.size
 have hX32:Ext w w32:=hE1.more hU32 fun b hb h=>by omega
 have hb32:=hX32.blk_some hb id
 have hl32:=hEs.blk_some hl31 id
 have ht32:=hEs.blk_some ht31 id
 have hr32:=(hU32.blk_some hr1 (by omega))
 have hC_32:Upd (fun b=>b=w.heap.size+1∨b=w.heap.size+2) w32 w32:=Upd.refl _ _
 have hC_31:Upd (fun b=>b=w.heap.size+1∨b=w.heap.size+2) w31 w32:=hV32.trans hC_32
 have hC_30:Upd (fun b=>b=w.heap.size+1∨b=w.heap.size+2) w30 w32:=hV31.trans hC_31
 have hC_29:Upd (fun b=>b=w.heap.size+1∨b=w.heap.size+2) w29 w32:=hV30.trans hC_30
 have hC_28:Upd (fun b=>b=w.heap.size+1∨b=w.heap.size+2) w28 w32:=hV29.trans hC_29
 have hC_15:Upd (fun b=>b=w.heap.size+1∨b=w.heap.size+2) w15 w32:=hV28.trans hC_28
 have hC_14:Upd (fun b=>b=w.heap.size+1∨b=w.heap.size+2) w14 w32:=hV15.trans hC_15
 have hC_4:Upd (fun b=>b=w.heap.size+1∨b=w.heap.size+2) w4 w32:=hV14.trans hC_14
 have hC_3:Upd (fun b=>b=w.heap.size+1∨b=w.heap.size+2) w3 w32:=hV4.trans hC_4
 have hC_2:Upd (fun b=>b=w.heap.size+1∨b=w.heap.size+2) w2 w32:=hV3.trans hC_3
 have hC_1:Upd (fun b=>b=w.heap.size+1∨b=w.heap.size+2) w1 w32:=hV2.trans hC_2
 have hF0:=TreeC.keep (hC_2.keeps fun b hb hk e=>by have hk':w1.heap.size≤b:=hk;omega) hf0
 have hF1:=TreeC.keep (hC_3.keeps fun b hb hk e=>by have hk':w1.heap.size≤b:=hk;omega) hf1
 have hF2:=TreeC.keep (hC_14.keeps fun b hb hk e=>by have hk':w1.heap.size≤b:=hk;omega) hf2
 have hF3:=TreeC.keep (hC_28.keeps fun b hb hk e=>by have hk':w1.heap.size≤b:=hk;omega) hf3
 have hF4:=TreeC.keep (hC_29.keeps fun b hb hk e=>by have hk':w1.heap.size≤b:=hk;omega) hf4
 have hF5:=TreeC.keep (hC_30.keeps fun b hb hk e=>by have hk':w1.heap.size≤b:=hk;omega) hf5
 replace hF0:TreeC (fun b=>w1.heap.size≤b) w32 (tlF (tlP (d+1)) fX1_0 (t.at 0)) [.int .i64 (IntKind.i32.wrap (t.at 0).n),.slice none 0 0,.bool false,.slice none 0 0,.slice none 0 0]:=hF0
 replace hF1:TreeC (fun b=>w1.heap.size≤b) w32 (tlF (tlP (d+1)) fX1_1 (t.at 1)) [.int .i64 (IntKind.i32.wrap (t.at 1).n),.slice none 0 0,.bool false,.slice none 0 0,.slice none 0 0]:=hF1
 replace hF2:TreeC (fun b=>w1.heap.size≤b) w32 (tlF (tlP (d+1)) fX1_2 (t.at 2)) [.int .i64 0,.slice none 0 0,.bool (t.at 2).null,.slice av2 (List.map (tl1 (tlP (d+1)) fX1_2.of fX1_2.sub) L2).length kv2,.slice none 0 0]:=by rw [show tlF (tlP (d+1)) fX1_2 (t.at 2) = .mk 0 [] (t.at 2).null ((if (t.at 2).null=true then [] else (t.at 2).l).map (tl1 (tlP (d+1)) fX1_2.of fX1_2.sub)) [] from rfl,← hL2];exact hF2
 replace hF3:TreeC (fun b=>w1.heap.size≤b) w32 (tlF (tlP (d+1)) fX1_3 (t.at 3)) [.int .i64 0,.slice none 0 0,.bool (t.at 3).null,.slice av3 (List.map (tl1 (tlP (d+1)) fX1_3.of fX1_3.sub) L3).length kv3,.slice none 0 0]:=by rw [show tlF (tlP (d+1)) fX1_3 (t.at 3) = .mk 0 [] (t.at 3).null ((if (t.at 3).null=true then [] else (t.at 3).l).map (tl1 (tlP (d+1)) fX1_3.of fX1_3.sub)) [] from rfl,← hL3];exact hF3
 replace hF4:TreeC (fun b=>w1.heap.size≤b) w32 (tlF (tlP (d+1)) fX1_4 (t.at 4)) [.int .i64 (IntKind.i8.wrap (t.at 4).n),.slice none 0 0,.bool false,.slice none 0 0,.slice none 0 0]:=hF4
 replace hF5:TreeC (fun b=>w1.heap.size≤b) w32 (tlF (tlP (d+1)) fX1_5 (t.at 5)) [.int .i64 (IntKind.i32.wrap (t.at 5).n),.slice none 0 0,.bool false,.slice none 0 0,.slice none 0 0]:=hF5
 have hTL:TreesV (fun b=>(fun b=>w1.heap.size≤b) b∨b=w.heap.size+1) w32 (.slice (some ⟨w.heap.size+1,0,none⟩) 6 6) [tlF (tlP (d+1)) fX1_0 (t.at 0),tlF (tlP (d+1)) fX1_1 (t.at 1),tlF (tlP (d+1)) fX1_2 (t.at 2),tlF (tlP (d+1)) fX1_3 (t.at 3),tlF (tlP (d+1)) fX1_4 (t.at 4),tlF (tlP (d+1)) fX1_5 (t.at 5)]:=by
  refine ⟨[[.int .i64 (IntKind.i32.wrap (t.at 0).n),.slice none 0 0,.bool false,.slice none 0 0,.slice none 0 0],[.int .i64 (IntKind.i32.wrap (t.at 1).n),.slice none 0 0,.bool false,.slice none 0 0,.slice none 0 0],[.int .i64 0,.slice none 0 0,.bool (t.at 2).null,.slice av2 (List.map (tl1 (tlP (d+1)) fX1_2.of fX1_2.sub) L2).length kv2,.slice none 0 0],[.int .i64 0,.slice none 0 0,.bool (t.at 3).null,.slice av3 (List.map (tl1 (tlP (d+1)) fX1_3.of fX1_3.sub) L3).length kv3,.slice none 0 0],[.int .i64 (IntKind.i8.wrap (t.at 4).n),.slice none 0 0,.bool false,.slice none 0 0,.slice none 0 0],[.int .i64 (IntKind.i32.wrap (t.at 5).n),.slice none 0 0,.bool false,.slice none 0 0,.slice none 0 0]],⟨_,6,rfl,Nat.le_refl _,(by intro cs hm;simp only [List.mem_cons,List.not_mem_nil,or_false] at hm;rcases hm with rfl|rfl|rfl|rfl|rfl|rfl<;>rfl),.inr ⟨_,rfl,rfl,.inr rfl,_,hl32,fun i hi=>by rw [Nat.zero_add,List.getElem?_toArray];rfl⟩⟩,rfl,fun i h1 h2 => ?_⟩
  match i,h1 with
  | 0,_=>exact TreeC.weaken (fun b _ hk=>.inl hk) hF0
  | 1,_=>exact TreeC.weaken (fun b _ hk=>.inl hk) hF1
  | 2,_=>exact TreeC.weaken (fun b _ hk=>.inl hk) hF2
  | 3,_=>exact TreeC.weaken (fun b _ hk=>.inl hk) hF3
  | 4,_=>exact TreeC.weaken (fun b _ hk=>.inl hk) hF4
  | 5,_=>exact TreeC.weaken (fun b _ hk=>.inl hk) hF5
 repeat ((first|refine qA rfl ?_|apply qB|refine qC rfl ?_|apply qD|apply qE|apply qF|apply qG|apply qH);try simp (maxSteps:=1000000)(disch:=(first|omega|(simp only [qI,qJ,qK]<;>omega)|exact qL _)) only [go_sem,↓reduceIte,n0,reduceCtorEq,n1,n2,n3,n4,n5,i0,i1,i2,i3,i4,i5,i6,i7,hb32,hl32,ht32,hq0,hq1,hq2,hq3,hq4,hq5,hq6,hrd3_0,hrd3_2,hrd3_3,hr32,cellsAt_five])
 refine ⟨⟨_,rfl,?_⟩,hX32.wr _ _ (.inl (Nat.le_refl _))⟩
 have hUr:Upd (fun b=>b=w.heap.size) w32 (wr w32 w.heap.size 0 [.int .i64 0,.slice none 0 0,.bool false,.slice (some ⟨w.heap.size+1,0,none⟩) 6 6,.slice aU (sortT t.u).length kU]):=(Upd.refl _ _).wr _ _ (.inr rfl)
 have hTU2:=hTU.keep (hEs.keeps _)
 exact TreeC.intro rfl (BytesV.nil _ _) ((hTL.keep (hUr.keeps fun b _ hk e=>by rcases hk with hk|hk<;>omega)).weaken fun b _ hk=>by rcases hk with hk|hk<;>omega) ((hTU2.keep (hUr.keeps fun b _ hk e=>by omega)).weaken fun b _ hk=>by omega)

theorem tagclX2_fn {ok OK:Blocks} {B tb:Nat} (c0 c1 c2 c3 v:Value) (done:List TagD) (y:TagD) (vv:Value) (w:World) (hbt:blk w tb=some (#[c0,c1,c2,c3,v],27,(0,0))) (hg:GrowU OK B tb w 51 v done) (hB:B≤w.heap.size) (htb:tb < B) (hvv:BytesV ok w vv y.2) (hy:y.1 < 2 ^ 32) (hyl:y.2.length≤32767) (hdl:done.length≤32767) (hOK:∀ b,B≤b→OK b) :
  Fn Tryd.prog 40 #[.int .u32 y.1,vv,.pointer (some ⟨tb,0,none⟩)] w fun _ w'=>(∃ v',blk w' tb=some (#[c0,c1,c2,c3,v'],27,(0,0))∧GrowU OK B tb w' 51 v' (done++[y]))∧Upd (fun b=>b=tb∨B≤b) w w':=by
 have htl:=blk_lt hbt
 refine fn_of_W Tryd.func40 rfl Tryd.results40 Tryd.ntmps40 rfl ?_
 repeat ((first|refine qA rfl ?_|apply qB|refine qC rfl ?_|apply qD|apply qE|apply qF|apply qG|apply qH);try simp (maxSteps:=1000000)(disch:=(first|omega|(simp only [qI,qJ,qK]<;>omega)|exact qL _)) only [go_sem,↓reduceIte,n0,reduceCtorEq,n1,n2,n3,n4,n5,i0,i1,i2,i3,i4,i5,i6,i7])
 obtain ⟨av,kv,rfl,_⟩:=hg.shape
 have hnb:∀ b,b < B∨w.heap.size≤b→¬ ownB (.slice av done.length kv) b:=fun b hb h=>by
  have:=hg.above h
  have:=hg.below h
  omega
 refine W.drawR (.take 0 (.take 1 (.take 2 (.take 3 (.only 4 (.only 5 (.only 6 (.only 7 (.take 8 (.last 9)))))))))) (ownB (.slice av done.length kv)) mixed (by kernel_rfl) ?_
 simp (maxSteps:=1000000)(disch:=(first|omega|(simp only [qI,qJ,qK]<;>omega)|exact qL _|(refine hnb _ ?_;first|omega|(simp only [World.size_alloc,size_wr,size_drew]<;>omega)))) only [go_sem,↓reduceIte,n0,reduceCtorEq,n1,n2,n3,n4,n5,i0,i1,i2,i3,i4,i5,i6,i7,hbt]
 refine wp_copyN ap_22_22 (ok:=ok) (s:=y.2) (v:=vv) (by first|rfl|simp (maxSteps:=1000000)(disch:=(first|omega|(simp only [qI,qJ,qK]<;>omega)|exact qL _)) only [go_sem,↓reduceIte,n0,reduceCtorEq,n1,n2,n3,n4,n5,i0,i1,i2,i3,i4,i5,i6,i7]) (by first|rfl|simp (maxSteps:=1000000)(disch:=(first|omega|(simp only [qI,qJ,qK]<;>omega)|exact qL _)) only [go_sem,↓reduceIte,n0,reduceCtorEq,n1,n2,n3,n4,n5,i0,i1,i2,i3,i4,i5,i6,i7]) (hvv.keep (Ext.keeps ((Upd.refl _ _).drew) _)) (by omega) ?_
 intro v1 w1 ho1 hE1 hf1
 obtain ⟨a1,k1,rfl,_⟩:=ho1.shape
 have hB1:=Own.bytes (ok:=fun b=>w.heap.size≤b) ho1 fun b hb=>hf1 b hb
 have hP1:Upd (ownB (.slice av done.length kv)) w.drew w1:=hE1.mono fun _ h=>h.elim
 have hs1:=hE1.size
 simp only [size_drew] at hs1
 refine ⟨hP1,?_⟩
 simp (maxSteps:=1000000)(disch:=(first|omega|(simp only [qI,qJ,qK]<;>omega)|exact qL _|(refine hnb _ ?_;first|omega|(simp only [World.size_alloc,size_wr,size_drew]<;>omega)))) only [go_sem,↓reduceIte,n0,reduceCtorEq,n1,n2,n3,n4,n5,i0,i1,i2,i3,i4,i5,i6,i7,hbt]
 refine ⟨hP1,?_⟩
 have hP2:Upd (ownB (.slice av done.length kv)) w.drew (w1.alloc (.cells #[.int .u32 y.1,.slice a1 y.2.length k1] 51)):=hP1.alloc _
 have hn2:blk (w1.alloc (.cells #[.int .u32 y.1,.slice a1 y.2.length k1] 51)) w1.heap.size=some (#[.int .u32 y.1,.slice a1 y.2.length k1],51,(0,0)):=blk_alloc_new rfl
 have hs2:(w1.alloc (.cells #[.int .u32 y.1,.slice a1 y.2.length k1] 51)).heap.size=w1.heap.size+1:=World.size_alloc _ _
 have hE2:Ext w1 (w1.alloc (.cells #[.int .u32 y.1,.slice a1 y.2.length k1] 51)):=Upd.alloc (Upd.refl _ _) _
 refine ⟨hP2,?_⟩
 try simp only [List.append_nil]
 generalize (w1.alloc (.cells #[.int .u32 y.1,.slice a1 y.2.length k1] 51))=w2 at *
 have hEw:Ext w w2:=(((Upd.refl _ _).drew).trans hE1).trans hE2
 obtain ⟨css,hown,hall⟩:=(hg.ext hEw).ex
 have hcl:=hall.1
 have hx2:TagC (fun b=>OK b∧b≠tb∧¬ ownB (.slice av done.length kv) b) w2 y [.int .u32 y.1,.slice a1 y.2.length k1]:=⟨_,rfl,(hB1.keep (hE2.keeps _)).weaken fun b _ hk=>⟨hOK b (by omega),by omega,hnb b (.inr hk)⟩,hy⟩
 refine wp_append ap_25_25 (m:=1) (news:=[.int .u32 y.1,.slice a1 y.2.length k1]) (n:=css.length) (cs:=css.flatten) (v:=.slice av done.length kv) ?_ rfl hown.1 hall.flat_cells (Src.blk (fr:=(0,0)) (T:=51) hn2 rfl rfl) ?_ ?_ ?_
 ·first|rfl|simp (maxSteps:=1000000)(disch:=(first|omega|(simp only [qI,qJ,qK]<;>omega)|exact qL _)) only [go_sem,↓reduceIte,n0,reduceCtorEq,n1,n2,n3,n4,n5,i0,i1,i2,i3,i4,i5,i6,i7]
 ·omega
 ·omega
 intro v' w3 ho hu hfr
 have hg3:=GrowU.snoc hown hall hx2 hu hfr ho
 obtain ⟨va,vc,hv',_⟩:=ho.shape
 subst hv'
 have hP3:=hP2.trans hu
 have hs3:=hu.size
 have hbt3:=hP3.blk_some (show blk w.drew tb=_ from hbt) (hnb _ (.inl htb))
 have hne:¬ ownB (.slice va (css.length+1) vc) tb:=fun h=>(hfr _ h).elim (hnb _ (.inl htb)) (fun h=>by omega)
 refine ⟨hP3,?_⟩
 simp (maxSteps:=1000000)(disch:=(first|omega|(simp only [qI,qJ,qK]<;>omega)|exact qL _|(refine hnb _ ?_;first|omega|(simp only [World.size_alloc,size_wr,size_drew]<;>omega)))) only [go_sem,↓reduceIte,n0,reduceCtorEq,n1,n2,n3,n4,n5,i0,i1,i2,i3,i4,i5,i6,i7,hbt3]
 repeat ((first|refine qA rfl ?_|apply qB|refine qC rfl ?_|apply qD|apply qE|apply qF|apply qG|apply qH);try simp (maxSteps:=1000000)(disch:=(first|omega|(simp only [qI,qJ,qK]<;>omega)|exact qL _)) only [go_sem,↓reduceIte,n0,reduceCtorEq,n1,n2,n3,n4,n5,i0,i1,i2,i3,i4,i5,i6,i7])
 refine ⟨⟨.slice va (css.length+1) vc,by first|(rw [blk_wr_eq,hbt3];rfl)|rfl|(rw [hbt3];rfl)|(rw [blk_wr_eq,hbt3]),hg3.upd ((Upd.refl _ _).wr _ _ (.inr rfl)) hne⟩,?_⟩
 refine Upd.wr ?_ _ _ (.inr (.inl rfl))
 exact (((Upd.refl (fun b=>b=tb∨B≤b) w).drew).trans (hP3.mono fun b h=>.inr (hg.above h)))

set_option maxHeartbeats 4000000 in
theorem tellX2_fn {d:Nat} {ok:Blocks} (t:Tree) (cs:List Value) (w:World) {b o:Nat} {x:Blk} (hb:blk w b=some x) (hq:∀ k,k < 19→x.1[o+k]? = cs[k]?) (hR:RepS true (d+3) fs_X2 ok w t cs) (hg:GoodP (d+3) fs_X2 t) :
  Fn Tryd.prog 19 #[.pointer (some ⟨b,o,none⟩)] w fun r w'=>(∃ c,r = .agg c.toArray∧TreeC (fun b=>w.heap.size≤b) w' (tlP (d+3) fs_X2 t) c)∧Ext w w':=by
 have hbl:=blk_lt hb
 obtain ⟨⟨gd0,gd1,gd2,-⟩,hgu⟩:=hg
 replace gd0:GoodF (GoodP (d+2)) fX2_0 (t.at 0):=gd0
 replace gd1:GoodF (GoodP (d+2)) fX2_1 (t.at 1):=gd1
 replace gd2:GoodF (GoodP (d+2)) fX2_2 (t.at 2):=gd2
 obtain ⟨cs0,q,hcs,hL,hT⟩:=hR.inv
 obtain ⟨c0,e0,rfl,h0,c1,e1,rfl,h1,c2,e2,rfl,h2,rfl⟩:=hL
 replace h0:RepF (RepS true (d+2)) (szS true (d+2)) fX2_0 ok w (t.at 0) c0:=h0
 replace h1:RepF (RepS true (d+2)) (szS true (d+2)) fX2_1 ok w (t.at 1) c1:=h1
 replace h2:RepF (RepS true (d+2)) (szS true (d+2)) fX2_2 ok w (t.at 2) c2:=h2
 obtain rfl:=(RepF_text rfl (by decide)).1 h0
 obtain rfl:=(RepF_uuid rfl).1 h1
 have hl16_1:((uuidS (t.at 1).s).map byteV).length=16:=by rw [List.length_map,uuidS_len]
 generalize hZ1:(uuidS (t.at 1).s).map byteV=Z1 at *
 obtain ⟨z1_0,z1_1,z1_2,z1_3,z1_4,z1_5,z1_6,z1_7,z1_8,z1_9,z1_10,z1_11,z1_12,z1_13,z1_14,z1_15,rfl⟩:=list16 hl16_1
 obtain ⟨ab2,ac2,L2,rfl,hL2,hnn2,hs2⟩:=RepF_listT rfl h2
 have hgl2:=gd2.listL rfl hL2
 obtain ⟨qm,rfl⟩:=hT.shape
 subst hcs
 have hq0:x.1[o]? = some (strV (t.at 0).s):=hq 0 (by decide)
 have hq1:x.1[o+1]? = some (z1_0):=hq 1 (by decide)
 have hq2:x.1[o+2]? = some (z1_1):=hq 2 (by decide)
 have hq3:x.1[o+3]? = some (z1_2):=hq 3 (by decide)
 have hq4:x.1[o+4]? = some (z1_3):=hq 4 (by decide)
 have hq5:x.1[o+5]? = some (z1_4):=hq 5 (by decide)
 have hq6:x.1[o+6]? = some (z1_5):=hq 6 (by decide)
 have hq7:x.1[o+7]? = some (z1_6):=hq 7 (by decide)
 have hq8:x.1[o+8]? = some (z1_7):=hq 8 (by decide)
 have hq9:x.1[o+9]? = some (z1_8):=hq 9 (by decide)
 have hq10:x.1[o+10]? = some (z1_9):=hq 10 (by decide)
 have hq11:x.1[o+11]? = some (z1_10):=hq 11 (by decide)
 have hq12:x.1[o+12]? = some (z1_11):=hq 12 (by decide)
 have hq13:x.1[o+13]? = some (z1_12):=hq 13 (by decide)
 have hq14:x.1[o+14]? = some (z1_13):=hq 14 (by decide)
 have hq15:x.1[o+15]? = some (z1_14):=hq 15 (by decide)
 have hq16:x.1[o+16]? = some (z1_15):=hq 16 (by decide)
 have hq17:x.1[o+17]? = some (.slice ab2 L2.length ac2):=hq 17 (by decide)
 have hq18:x.1[o+18]? = some (.map qm):=hq 18 (by decide)
 refine fn_of_W Tryd.func19 rfl Tryd.results19 Tryd.ntmps19 rfl ?_
 repeat ((first|refine qA rfl ?_|apply qB|refine qC rfl ?_|apply qD|apply qE|apply qF|apply qG|apply qH);try simp (maxSteps:=1000000)(disch:=(first|omega|(simp only [qI,qJ,qK]<;>omega)|exact qL _)) only [go_sem,↓reduceIte,n0,reduceCtorEq,n1,n2,n3,n4,n5,i0,i1,i2,i3,i4,i5,i6,i7])
 refine wp_make (T:=24) (E:=27) (size:=5) (bytes:=88) (z:=.agg qZ5) (l:=3) (c:=3) (kl:=.i64) (kc:=.i64) (by kernel_rfl) (by kernel_rfl) (by first|rfl|(simp (maxSteps:=1000000)(disch:=(first|omega|(simp only [qI,qJ,qK]<;>omega)|exact qL _)) only [go_sem,↓reduceIte,n0,reduceCtorEq,n1,n2,n3,n4,n5,i0,i1,i2,i3,i4,i5,i6,i7];rfl)) (by first|rfl|(simp (maxSteps:=1000000)(disch:=(first|omega|(simp only [qI,qJ,qK]<;>omega)|exact qL _)) only [go_sem,↓reduceIte,n0,reduceCtorEq,n1,n2,n3,n4,n5,i0,i1,i2,i3,i4,i5,i6,i7];rfl)) (by omega) (by omega) (by omega) ?_
 have hmd:madeCells (Value.agg qZ5).cells (3 * 5)=#[.int .i64 0,.slice none 0 0,.bool false,.slice none 0 0,.slice none 0 0,.int .i64 0,.slice none 0 0,.bool false,.slice none 0 0,.slice none 0 0,.int .i64 0,.slice none 0 0,.bool false,.slice none 0 0,.slice none 0 0]:=by kernel_rfl
 rw [hmd]
 simp (maxSteps:=1000000)(disch:=(first|omega|(simp only [qI,qJ,qK]<;>omega)|exact qL _)) only [go_sem,↓reduceIte,n0,reduceCtorEq,n1,n2,n3,n4,n5,i0,i1,i2,i3,i4,i5,i6,i7]
 repeat ((first|refine qA rfl ?_|apply qB|refine qC rfl ?_|apply qD|apply qE|apply qF|apply qG|apply qH);try simp (maxSteps:=1000000)(disch:=(first|omega|(simp only [qI,qJ,qK]<;>omega)|exact qL _)) only [go_sem,↓reduceIte,n0,reduceCtorEq,n1,n2,n3,n4,n5,i0,i1,i2,i3,i4,i5,i6,i7])
 have hE1:Ext w (wr (((w.alloc (.cells qZ5 27)).alloc (.cells #[.int .i64 0,.slice none 0 0,.bool false,.slice none 0 0,.slice none 0 0,.int .i64 0,.slice none 0 0,.bool false,.slice none 0 0,.slice none 0 0,.int .i64 0,.slice none 0 0,.bool false,.slice none 0 0,.slice none 0 0] 27)).alloc (.cells qZ5 27)) (w.heap.size+2) 0 [.int .i64 0,.slice none 0 0,.bool false,.slice (some ⟨w.heap.size+1,0,none⟩) 3 3,.slice none 0 0]):=(Upd.alloc (Upd.alloc (Upd.alloc (Upd.refl _ _) _) _) _).wr _ _ (.inl (by omega))
 have hz1:(wr (((w.alloc (.cells qZ5 27)).alloc (.cells #[.int .i64 0,.slice none 0 0,.bool false,.slice none 0 0,.slice none 0 0,.int .i64 0,.slice none 0 0,.bool false,.slice none 0 0,.slice none 0 0,.int .i64 0,.slice none 0 0,.bool false,.slice none 0 0,.slice none 0 0] 27)).alloc (.cells qZ5 27)) (w.heap.size+2) 0 [.int .i64 0,.slice none 0 0,.bool false,.slice (some ⟨w.heap.size+1,0,none⟩) 3 3,.slice none 0 0]).heap.size=w.heap.size+3:=by simp only [size_wr,World.size_alloc]
 have hl1:blk (wr (((w.alloc (.cells qZ5 27)).alloc (.cells #[.int .i64 0,.slice none 0 0,.bool false,.slice none 0 0,.slice none 0 0,.int .i64 0,.slice none 0 0,.bool false,.slice none 0 0,.slice none 0 0,.int .i64 0,.slice none 0 0,.bool false,.slice none 0 0,.slice none 0 0] 27)).alloc (.cells qZ5 27)) (w.heap.size+2) 0 [.int .i64 0,.slice none 0 0,.bool false,.slice (some ⟨w.heap.size+1,0,none⟩) 3 3,.slice none 0 0]) (w.heap.size+1)=some (#[.int .i64 0,.slice none 0 0,.bool false,.slice none 0 0,.slice none 0 0,.int .i64 0,.slice none 0 0,.bool false,.slice none 0 0,.slice none 0 0,.int .i64 0,.slice none 0 0,.bool false,.slice none 0 0,.slice none 0 0],27,(0,0)):=by simp (maxSteps:=1000000)(disch:=(first|omega|(simp only [qI,qJ,qK]<;>omega)|exact qL _)) only [go_sem,↓reduceIte,n0,reduceCtorEq,n1,n2,n3,n4,n5,i0,i1,i2,i3,i4,i5,i6,i7]
 have ht1:blk (wr (((w.alloc (.cells qZ5 27)).alloc (.cells #[.int .i64 0,.slice none 0 0,.bool false,.slice none 0 0,.slice none 0 0,.int .i64 0,.slice none 0 0,.bool false,.slice none 0 0,.slice none 0 0,.int .i64 0,.slice none 0 0,.bool false,.slice none 0 0,.slice none 0 0] 27)).alloc (.cells qZ5 27)) (w.heap.size+2) 0 [.int .i64 0,.slice none 0 0,.bool false,.slice (some ⟨w.heap.size+1,0,none⟩) 3 3,.slice none 0 0]) (w.heap.size+2)=some (#[.int .i64 0,.slice none 0 0,.bool false,.slice (some ⟨w.heap.size+1,0,none⟩) 3 3,.slice none 0 0],27,(0,0)):=by simp (maxSteps:=1000000)(disch:=(first|omega|(simp only [qI,qJ,qK]<;>omega)|exact qL _)) only [go_sem,↓reduceIte,n0,reduceCtorEq,n1,n2,n3,n4,n5,i0,i1,i2,i3,i4,i5,i6,i7]
 have hr1:blk (wr (((w.alloc (.cells qZ5 27)).alloc (.cells #[.int .i64 0,.slice none 0 0,.bool false,.slice none 0 0,.slice none 0 0,.int .i64 0,.slice none 0 0,.bool false,.slice none 0 0,.slice none 0 0,.int .i64 0,.slice none 0 0,.bool false,.slice none 0 0,.slice none 0 0] 27)).alloc (.cells qZ5 27)) (w.heap.size+2) 0 [.int .i64 0,.slice none 0 0,.bool false,.slice (some ⟨w.heap.size+1,0,none⟩) 3 3,.slice none 0 0]) w.heap.size=some (qZ5,27,(0,0)):=by simp (maxSteps:=1000000)(disch:=(first|omega|(simp only [qI,qJ,qK]<;>omega)|exact qL _)) only [go_sem,↓reduceIte,n0,reduceCtorEq,n1,n2,n3,n4,n5,i0,i1,i2,i3,i4,i5,i6,i7]
 obtain ⟨w1,hw1⟩:∃ y,y=(wr (((w.alloc (.cells qZ5 27)).alloc (.cells #[.int .i64 0,.slice none 0 0,.bool false,.slice none 0 0,.slice none 0 0,.int .i64 0,.slice none 0 0,.bool false,.slice none 0 0,.slice none 0 0,.int .i64 0,.slice none 0 0,.bool false,.slice none 0 0,.slice none 0 0] 27)).alloc (.cells qZ5 27)) (w.heap.size+2) 0 [.int .i64 0,.slice none 0 0,.bool false,.slice (some ⟨w.heap.size+1,0,none⟩) 3 3,.slice none 0 0]):=⟨_,rfl⟩
 rw [← hw1] at hE1 hz1 hl1 ht1 hr1
 rw [← hw1]
 clear hw1
 have hU1:Upd (fun b=>b=w.heap.size+1∨b=w.heap.size+2) w1 w1:=Upd.refl _ _
 have hb1:=hE1.blk_some hb id
 repeat ((first|refine qA rfl ?_|apply qB|refine qC rfl ?_|apply qD|apply qE|apply qF|apply qG|apply qH);try simp (maxSteps:=1000000)(disch:=(first|omega|(simp only [qI,qJ,qK]<;>omega)|exact qL _)) only [go_sem,↓reduceIte,n0,reduceCtorEq,n1,n2,n3,n4,n5,i0,i1,i2,i3,i4,i5,i6,i7,hb1,hl1,ht1,hq0,hq1,hq2,hq3,hq4,hq5,hq6,hq7,hq8,hq9,hq10,hq11,hq12,hq13,hq14,hq15,hq16,hq17,hq18])
 refine W.drawR (.take 0 (.take 1 (.take 2 (.take 3 (.take 4 (.take 5 (.only 6 (.only 7 (.take 8 (.last 9)))))))))) (NoB) mixed (by kernel_rfl) ?_
 try simp (maxSteps:=1000000)(disch:=(first|omega|(simp only [qI,qJ,qK]<;>omega)|exact qL _)) only [go_sem,↓reduceIte,n0,reduceCtorEq,n1,n2,n3,n4,n5,i0,i1,i2,i3,i4,i5,i6,i7,hb1,hl1,ht1,hq0,hq1,hq2,hq3,hq4,hq5,hq6,hq7,hq8,hq9,hq10,hq11,hq12,hq13,hq14,hq15,hq16,hq17,hq18]
 refine wp_octets (S:=9) (T:=22) (E:=5) (s:=(t.at 0).s) (by kernel_rfl) (by kernel_rfl) (by kernel_rfl) (by first|rfl|simp (maxSteps:=1000000)(disch:=(first|omega|(simp only [qI,qJ,qK]<;>omega)|exact qL _)) only [go_sem,↓reduceIte,n0,reduceCtorEq,n1,n2,n3,n4,n5,i0,i1,i2,i3,i4,i5,i6,i7,hb1,hl1,ht1,hq0,hq1,hq2,hq3,hq4,hq5,hq6,hq7,hq8,hq9,hq10,hq11,hq12,hq13,hq14,hq15,hq16,hq17,hq18]) ?_
 intro a2 k2 w2 hB2 hEx2
 have hP2:Upd NoB w1.drew w2:=(Upd.refl _ _).trans (hEx2.mono fun _ h=>h.elim)
 have hsq2:=hEx2.size
 try simp only [size_drew] at hsq2
 refine ⟨hP2,?_⟩
 try simp (maxSteps:=1000000)(disch:=(first|omega|(simp only [qI,qJ,qK]<;>omega)|exact qL _)) only [go_sem,↓reduceIte,n0,reduceCtorEq,n1,n2,n3,n4,n5,i0,i1,i2,i3,i4,i5,i6,i7,hb1,hl1,ht1,hq0,hq1,hq2,hq3,hq4,hq5,hq6,hq7,hq8,hq9,hq10,hq11,hq12,hq13,hq14,hq15,hq16,hq17,hq18]
 refine ⟨hP2,?_⟩
 have hlq3:=hP2.blk_some (show blk w1.drew (w.heap.size+1)=_ from hl1) id
 have hx3:Upd (fun b=>b=w.heap.size+1∨b=w.heap.size+2) w1 w2:=((Upd.refl _ _).drew).trans (hP2.mono fun _ h=>h.elim)
 try simp (maxSteps:=1000000)(disch:=(first|omega|(simp only [qI,qJ,qK]<;>omega)|exact qL _)) only [go_sem,↓reduceIte,n0,reduceCtorEq,n1,n2,n3,n4,n5,i0,i1,i2,i3,i4,i5,i6,i7,hlq3]
 generalize hw3:wr w2 (w.heap.size+1) 0 [.int .i64 0,.slice (some a2) ((t.at 0).s).length k2,.bool false,.slice none 0 0,.slice none 0 0] = w3
 have hl3:blk w3 (w.heap.size+1)=some (#[.int .i64 0,.slice (some a2) ((t.at 0).s).length k2,.bool false,.slice none 0 0,.slice none 0 0,.int .i64 0,.slice none 0 0,.bool false,.slice none 0 0,.slice none 0 0,.int .i64 0,.slice none 0 0,.bool false,.slice none 0 0,.slice none 0 0],27,(0,0)):=by rw [← hw3,blk_wr_eq,hlq3];rfl
 have hv3:Upd (fun b=>b=w.heap.size+1∨b=w.heap.size+2) w2 w3:=by rw [← hw3];exact (Upd.refl _ _).wr _ _ (.inr (.inl rfl))
 have hV3:Upd (fun b=>b=w.heap.size+1∨b=w.heap.size+2) w1 w3:=hx3.trans hv3
 have hU3:Upd (fun b=>b=w.heap.size+1∨b=w.heap.size+2) w1 w3:=hU1.trans hV3
 have hz3:=hU3.size
 have hX3:Ext w w3:=hE1.more hU3 fun b hb h=>by omega
 have hb3:=hX3.blk_some hb id
 have ht3:blk w3 (w.heap.size+2)=some (#[.int .i64 0,.slice none 0 0,.bool false,.slice (some ⟨w.heap.size+1,0,none⟩) 3 3,.slice none 0 0],27,(0,0)):=by
  rw [← hw3,blk_wr_ne (by omega)]
  exact hP2.blk_some (show blk w1.drew (w.heap.size+2)=_ from ht1) id
 clear hw3
 have hf0:TreeC (fun b=>w1.heap.size≤b) w3 (.oct false (t.at 0).s) [.int .i64 0,.slice (some a2) ((t.at 0).s).length k2,.bool false,.slice none 0 0,.slice none 0 0]:=(TreeC.keep (hv3.keeps fun b hb hk e=>by have hk':w1.heap.size≤b:=hk;omega) (TreeC.intro rfl (hB2.weaken fun b _ hk=>by have hk':w1.drew.heap.size≤b:=hk;(try simp only [size_drew] at hk');omega) (treesN _ _) (tagsN _ _):TreeC (fun b=>w1.heap.size≤b) w2 (.oct false (t.at 0).s) [.int .i64 0,.slice (some a2) ((t.at 0).s).length k2,.bool false,.slice none 0 0,.slice none 0 0]))
 repeat ((first|refine qA rfl ?_|apply qB|refine qC rfl ?_|apply qD|apply qE|apply qF|apply qG|apply qH);try simp (maxSteps:=1000000)(disch:=(first|omega|(simp only [qI,qJ,qK]<;>omega)|exact qL _)) only [go_sem,↓reduceIte,n0,reduceCtorEq,n1,n2,n3,n4,n5,i0,i1,i2,i3,i4,i5,i6,i7,hb3,hl3,ht3,hq0,hq1,hq2,hq3,hq4,hq5,hq6,hq7,hq8,hq9,hq10,hq11,hq12,hq13,hq14,hq15,hq16,hq17,hq18])
 refine W.drawR (.take 0 (.take 1 (.take 2 (.take 3 (.take 4 (.take 5 (.only 6 (.only 7 (.take 8 (.last 9)))))))))) (NoB) mixed (by kernel_rfl) ?_
 try simp (maxSteps:=1000000)(disch:=(first|omega|(simp only [qI,qJ,qK]<;>omega)|exact qL _)) only [go_sem,↓reduceIte,n0,reduceCtorEq,n1,n2,n3,n4,n5,i0,i1,i2,i3,i4,i5,i6,i7,hb3,hl3,ht3,hq0,hq1,hq2,hq3,hq4,hq5,hq6,hq7,hq8,hq9,hq10,hq11,hq12,hq13,hq14,hq15,hq16,hq17,hq18]
 have hbd4:blk w3.drew b=some x:=hb3
 have hc16_4:BytesV AnyB w3.drew (.slice (some ⟨b,o+1,none⟩) 16 16) (uuidS (t.at 1).s):=bytes_at hbd4 (uuidS_len _) fun j hj=>by
  rw [hZ1,show o+1+j=o+(1+j) from by omega]
  exact (hq (1+j) (by omega)).trans (get_mid (pre:=[strV (t.at 0).s]) (xs:=[z1_0,z1_1,z1_2,z1_3,z1_4,z1_5,z1_6,z1_7,z1_8,z1_9,z1_10,z1_11,z1_12,z1_13,z1_14,z1_15]) (post:=[.slice ab2 L2.length ac2,.map qm]) hj)
 refine wp_copyN ap_22_22 (ok:=AnyB) (s:=uuidS (t.at 1).s) (v:=.slice (some ⟨b,o+1,none⟩) 16 16) (by first|rfl|simp (maxSteps:=1000000)(disch:=(first|omega|(simp only [qI,qJ,qK]<;>omega)|exact qL _)) only [go_sem,↓reduceIte,n0,reduceCtorEq,n1,n2,n3,n4,n5,i0,i1,i2,i3,i4,i5,i6,i7]) (by first|rfl|simp (maxSteps:=1000000)(disch:=(first|omega|(simp only [qI,qJ,qK]<;>omega)|exact qL _)) only [go_sem,↓reduceIte,n0,reduceCtorEq,n1,n2,n3,n4,n5,i0,i1,i2,i3,i4,i5,i6,i7]) hc16_4 (by rw [uuidS_len];omega) ?_
 intro v4 w4 ho4 hEx4 hfr4
 obtain ⟨av4,kv4,rfl,_⟩:=ho4.shape
 have hB4:=Own.bytes (ok:=fun b=>w3.drew.heap.size≤b) ho4 fun b hb=>hfr4 b hb
 have hP4:Upd NoB w3.drew w4:=(Upd.refl _ _).trans (hEx4.mono fun _ h=>h.elim)
 have hsq4:=hEx4.size
 try simp only [size_drew] at hsq4
 refine ⟨hP4,?_⟩
 try simp (maxSteps:=1000000)(disch:=(first|omega|(simp only [qI,qJ,qK]<;>omega)|exact qL _)) only [go_sem,↓reduceIte,n0,reduceCtorEq,n1,n2,n3,n4,n5,i0,i1,i2,i3,i4,i5,i6,i7,hb3,hl3,ht3,hq0,hq1,hq2,hq3,hq4,hq5,hq6,hq7,hq8,hq9,hq10,hq11,hq12,hq13,hq14,hq15,hq16,hq17,hq18]
 refine ⟨hP4,?_⟩
 have hlq5:=hP4.blk_some (show blk w3.drew (w.heap.size+1)=_ from hl3) id
 have hx5:Upd (fun b=>b=w.heap.size+1∨b=w.heap.size+2) w3 w4:=((Upd.refl _ _).drew).trans (hP4.mono fun _ h=>h.elim)
 try simp (maxSteps:=1000000)(disch:=(first|omega|(simp only [qI,qJ,qK]<;>omega)|exact qL _)) only [go_sem,↓reduceIte,n0,reduceCtorEq,n1,n2,n3,n4,n5,i0,i1,i2,i3,i4,i5,i6,i7,hlq5]
 generalize hw5:wr w4 (w.heap.size+1) 5 [.int .i64 0,.slice av4 (uuidS (t.at 1).s).length kv4,.bool false,.slice none 0 0,.slice none 0 0] = w5
 have hl5:blk w5 (w.heap.size+1)=some (#[.int .i64 0,.slice (some a2) ((t.at 0).s).length k2,.bool false,.slice none 0 0,.slice none 0 0,.int .i64 0,.slice av4 (uuidS (t.at 1).s).length kv4,.bool false,.slice none 0 0,.slice none 0 0,.int .i64 0,.slice none 0 0,.bool false,.slice none 0 0,.slice none 0 0],27,(0,0)):=by rw [← hw5,blk_wr_eq,hlq5];rfl
 have hv5:Upd (fun b=>b=w.heap.size+1∨b=w.heap.size+2) w4 w5:=by rw [← hw5];exact (Upd.refl _ _).wr _ _ (.inr (.inl rfl))
 have hV5:Upd (fun b=>b=w.heap.size+1∨b=w.heap.size+2) w3 w5:=hx5.trans hv5
 have hU5:Upd (fun b=>b=w.heap.size+1∨b=w.heap.size+2) w1 w5:=hU3.trans hV5
 have hz5:=hU5.size
 have hX5:Ext w w5:=hE1.more hU5 fun b hb h=>by omega
 have hb5:=hX5.blk_some hb id
 have ht5:blk w5 (w.heap.size+2)=some (#[.int .i64 0,.slice none 0 0,.bool false,.slice (some ⟨w.heap.size+1,0,none⟩) 3 3,.slice none 0 0],27,(0,0)):=by
  rw [← hw5,blk_wr_ne (by omega)]
  exact hP4.blk_some (show blk w3.drew (w.heap.size+2)=_ from ht3) id
 clear hw5
 have hf1:TreeC (fun b=>w1.heap.size≤b) w5 (.oct false (uuidS (t.at 1).s)) [.int .i64 0,.slice av4 (uuidS (t.at 1).s).length kv4,.bool false,.slice none 0 0,.slice none 0 0]:=(TreeC.keep (hv5.keeps fun b hb hk e=>by have hk':w1.heap.size≤b:=hk;omega) (TreeC.intro rfl (hB4.weaken fun b _ hk=>by have hk':w3.drew.heap.size≤b:=hk;(try simp only [size_drew] at hk');omega) (treesN _ _) (tagsN _ _):TreeC (fun b=>w1.heap.size≤b) w4 (.oct false (uuidS (t.at 1).s)) [.int .i64 0,.slice av4 (uuidS (t.at 1).s).length kv4,.bool false,.slice none 0 0,.slice none 0 0]))
 repeat ((first|refine qA rfl ?_|apply qB|refine qC rfl ?_|apply qD|apply qE|apply qF|apply qG|apply qH);try simp (maxSteps:=1000000)(disch:=(first|omega|(simp only [qI,qJ,qK]<;>omega)|exact qL _)) only [go_sem,↓reduceIte,n0,reduceCtorEq,n1,n2,n3,n4,n5,i0,i1,i2,i3,i4,i5,i6,i7,hb5,hl5,ht5,hq0,hq1,hq2,hq3,hq4,hq5,hq6,hq7,hq8,hq9,hq10,hq11,hq12,hq13,hq14,hq15,hq16,hq17,hq18])
 refine W.drawR (.take 0 (.take 1 (.take 2 (.take 3 (.take 4 (.take 5 (.take 6 (.take 7 (.take 8 (.last 9)))))))))) (NoB) mixed (by kernel_rfl) ?_
 try simp (maxSteps:=1000000)(disch:=(first|omega|(simp only [qI,qJ,qK]<;>omega)|exact qL _)) only [go_sem,↓reduceIte,n0,reduceCtorEq,n1,n2,n3,n4,n5,i0,i1,i2,i3,i4,i5,i6,i7,hb5,hl5,ht5,hq0,hq1,hq2,hq3,hq4,hq5,hq6,hq7,hq8,hq9,hq10,hq11,hq12,hq13,hq14,hq15,hq16,hq17,hq18,hnn2]
 generalize hw6:wr w5.drew (w.heap.size+1) 12 [.bool (t.at 2).null] = w6
 have hl6:blk w6 (w.heap.size+1)=some (#[.int .i64 0,.slice (some a2) ((t.at 0).s).length k2,.bool false,.slice none 0 0,.slice none 0 0,.int .i64 0,.slice av4 (uuidS (t.at 1).s).length kv4,.bool false,.slice none 0 0,.slice none 0 0,.int .i64 0,.slice none 0 0,.bool (t.at 2).null,.slice none 0 0,.slice none 0 0],27,(0,0)):=by rw [← hw6,blk_wr_eq,show blk w5.drew (w.heap.size+1)=_ from hl5];rfl
 have hV6:Upd (fun b=>b=w.heap.size+1∨b=w.heap.size+2) w5 w6:=by rw [← hw6];exact ((Upd.refl _ _).drew).wr _ _ (.inr (.inl rfl))
 have hU6:Upd (fun b=>b=w.heap.size+1∨b=w.heap.size+2) w1 w6:=hU5.trans hV6
 have hz6:=hU6.size
 have hX6:Ext w w6:=hE1.more hU6 fun b hb h=>by omega
 have hb6:=hX6.blk_some hb id
 have ht6:blk w6 (w.heap.size+2)=some (#[.int .i64 0,.slice none 0 0,.bool false,.slice (some ⟨w.heap.size+1,0,none⟩) 3 3,.slice none 0 0],27,(0,0)):=by
  rw [← hw6,blk_wr_ne (by omega)]
  exact ht5
 clear hw6
 repeat ((first|refine qA rfl ?_|apply qB|refine qC rfl ?_|apply qD|apply qE|apply qF|apply qG|apply qH);try simp (maxSteps:=1000000)(disch:=(first|omega|(simp only [qI,qJ,qK]<;>omega)|exact qL _)) only [go_sem,↓reduceIte,n0,reduceCtorEq,n1,n2,n3,n4,n5,i0,i1,i2,i3,i4,i5,i6,i7,hb6,hl6,ht6,hq0,hq1,hq2,hq3,hq4,hq5,hq6,hq7,hq8,hq9,hq10,hq11,hq12,hq13,hq14,hq15,hq16,hq17,hq18])
 refine W.exitJ 0 (EndQ [(0,.pointer (some ⟨b,o,none⟩)),(2,.pointer (some ⟨w.heap.size,0,none⟩)),(3,.pointer (some ⟨w.heap.size+2,0,none⟩)),(38,.int .i64 L2.length)] (fun w'=>∃ v,blk w' (w.heap.size+1)=some (#[.int .i64 0,.slice (some a2) ((t.at 0).s).length k2,.bool false,.slice none 0 0,.slice none 0 0,.int .i64 0,.slice av4 (uuidS (t.at 1).s).length kv4,.bool false,.slice none 0 0,.slice none 0 0,.int .i64 0,.slice none 0 0,.bool (t.at 2).null,v,.slice none 0 0],27,(0,0))∧GrowT (fun b=>w1.heap.size≤b) w6.heap.size (w.heap.size+1) w' 27 v (L2.map (tl1 (tlP (d+2)) fX2_2.of fX2_2.sub))∧Upd (fun b=>b=w.heap.size+1) w6 w')) (W.loop (LoopL [(0,.pointer (some ⟨b,o,none⟩)),(2,.pointer (some ⟨w.heap.size,0,none⟩)),(3,.pointer (some ⟨w.heap.size+2,0,none⟩)),(38,.int .i64 L2.length)] 39 (fun j w'=>∃ v,j≤L2.length∧blk w' (w.heap.size+1)=some (#[.int .i64 0,.slice (some a2) ((t.at 0).s).length k2,.bool false,.slice none 0 0,.slice none 0 0,.int .i64 0,.slice av4 (uuidS (t.at 1).s).length kv4,.bool false,.slice none 0 0,.slice none 0 0,.int .i64 0,.slice none 0 0,.bool (t.at 2).null,v,.slice none 0 0],27,(0,0))∧GrowT (fun b=>w1.heap.size≤b) w6.heap.size (w.heap.size+1) w' 27 v ((L2.take j).map (tl1 (tlP (d+2)) fX2_2.of fX2_2.sub))∧Upd (fun b=>b=w.heap.size+1) w6 w')) (fun ρ _=>L2.length - (RowKit.intOf (ρ 39)).toNat) ?_ ?_) ?_
 ·exact ⟨(by simp (maxSteps:=1000000)(disch:=(first|omega|(simp only [qI,qJ,qK]<;>omega)|exact qL _)) only [go_sem,↓reduceIte,n0,reduceCtorEq,n1,n2,n3,n4,n5,i0,i1,i2,i3,i4,i5,i6,i7,Holds_nil,Holds_cons]),0,(by simp (maxSteps:=1000000)(disch:=(first|omega|(simp only [qI,qJ,qK]<;>omega)|exact qL _)) only [go_sem,↓reduceIte,n0,reduceCtorEq,n1,n2,n3,n4,n5,i0,i1,i2,i3,i4,i5,i6,i7];all_goals rfl),.slice none 0 0,Nat.zero_le _,hl6,GrowT.nil _ _ _ _ _,Upd.refl _ _⟩
 ·rintro ρ w7 ⟨⟨hrc2_0,hrc2_2,hrc2_3,hrc2_38,-⟩,j,hri,v,hj,hl7,hg,hUk⟩
  have hzk:=hUk.size
  have hX7:Ext w w7:=hX6.more hUk fun b hb h=>by omega
  have hz7:w1.heap.size≤w7.heap.size:=by have:=hz6;omega
  have hb7:=hX7.blk_some hb id
  have ht7:=hUk.blk_some ht6 (by omega)
  by_cases hlt:j < L2.length
  ·obtain ⟨_,be,oe,xe,ce,hbe,hoke,hxe,hble,hxs,hxx,hqe,hRe⟩:=SlR.get (size:=7) (by decide) hs2 hlt
   subst hbe
   have hcat:L2.take (j+1)=L2.take j++[L2[j]]:=List.take_succ_eq_append_getElem hlt
   have hgy:=hgl2.2 _ (List.getElem_mem hlt)
   have hll:=hgl2.1
   obtain ⟨av,kv,hvs,_⟩:=hg.shape
   have hlj:(List.map (tl1 (tlP (d+2)) fX2_2.of fX2_2.sub) (L2.take j)).length=j:=by simp;omega
   rw [hlj] at hvs
   subst hvs
   have hnb:∀ b,b < w6.heap.size∨w7.heap.size≤b→¬ ownB (.slice av j kv) b:=fun b hb h=>by
    have:=hg.above h
    have:=hg.below h
    omega
   generalize L2[j] = y at *
   repeat ((first|refine qA rfl ?_|apply qB|refine qC rfl ?_|apply qD|apply qE|apply qF|apply qG|apply qH);try simp (maxSteps:=1000000)(disch:=(first|omega|(simp only [qI,qJ,qK]<;>omega)|exact qL _)) only [go_sem,↓reduceIte,n0,reduceCtorEq,n1,n2,n3,n4,n5,i0,i1,i2,i3,i4,i5,i6,i7,hb7,hl7,ht7,hq0,hq1,hq2,hq3,hq4,hq5,hq6,hq7,hq8,hq9,hq10,hq11,hq12,hq13,hq14,hq15,hq16,hq17,hq18,hrc2_0,hrc2_2,hrc2_3,hrc2_38,hri])
   refine W.drawR (.only 0 (.two 1 (.only 2 (.only 3 .done)) 2 (.only 1 (.only 3 .done)))) NoB mixed (by kernel_rfl) ?_
   try simp (maxSteps:=1000000)(disch:=(first|omega|(simp only [qI,qJ,qK]<;>omega)|exact qL _)) only [go_sem,↓reduceIte,n0,reduceCtorEq,n1,n2,n3,n4,n5,i0,i1,i2,i3,i4,i5,i6,i7,hb7,hl7,ht7,hq0,hq1,hq2,hq3,hq4,hq5,hq6,hq7,hq8,hq9,hq10,hq11,hq12,hq13,hq14,hq15,hq16,hq17,hq18,hrc2_0,hrc2_2,hrc2_3,hrc2_38,hri]
   have q0:Upd NoB w7.drew (w7.alloc (.cells #[.bool false] 4)).drew:=show Upd NoB w7.drew (w7.drew.alloc (.cells #[.bool false] 4)) from Upd.alloc (Upd.refl _ _) _
   have q1:Upd NoB w7.drew (wr (w7.alloc (.cells #[.bool false] 4)).drew w7.heap.size 0 [.bool true]):=q0.wr _ _ (.inl (Nat.le_refl _))
   have q2:Upd NoB w7.drew (wr (wr (w7.alloc (.cells #[.bool false] 4)).drew w7.heap.size 0 [.bool true]) w7.heap.size 0 [.bool false]):=q1.wr _ _ (.inl (Nat.le_refl _))
   have q3:Upd NoB w7.drew (wr (w7.alloc (.cells #[.bool false] 4)).drew w7.heap.size 0 [.bool false]):=q0.wr _ _ (.inl (Nat.le_refl _))
   have q4:Upd NoB w7.drew (wr (wr (w7.alloc (.cells #[.bool false] 4)).drew w7.heap.size 0 [.bool false]) w7.heap.size 0 [.bool true]):=q3.wr _ _ (.inl (Nat.le_refl _))
   refine ⟨q0,⟨q1,q2,q2,?_⟩,⟨q3,q4,q4,?_⟩⟩
   ·have hk8:Ext w7 (wr (wr (w7.alloc (.cells #[.bool false] 4)).drew w7.heap.size 0 [.bool true]) w7.heap.size 0 [.bool false]):=((Upd.refl _ _).drew).trans q2
    generalize (wr (wr (w7.alloc (.cells #[.bool false] 4)).drew w7.heap.size 0 [.bool true]) w7.heap.size 0 [.bool false])=w8 at *
    have hzk8:=hk8.size
    have hX8:Ext w w8:=hX7.trans hk8
    have hb8:=hk8.blk_some hb7 id
    have hl8:=hk8.blk_some hl7 id
    have ht8:=hk8.blk_some ht7 id
    have hxe8:=hX8.blk_some hxe id
    repeat ((first|refine qA rfl ?_|apply qB|refine qC rfl ?_|apply qD|apply qE|apply qF|apply qG|apply qH);try simp (maxSteps:=1000000)(disch:=(first|omega|(simp only [qI,qJ,qK]<;>omega)|exact qL _)) only [go_sem,↓reduceIte,n0,reduceCtorEq,n1,n2,n3,n4,n5,i0,i1,i2,i3,i4,i5,i6,i7,hb8,hl8,ht8,hxe8,Int.toNat_natCast,Nat.mul_one,hq0,hq1,hq2,hq3,hq4,hq5,hq6,hq7,hq8,hq9,hq10,hq11,hq12,hq13,hq14,hq15,hq16,hq17,hq18,hrc2_0,hrc2_2,hrc2_3,hrc2_38,hri])
    refine W.drawR (.take 0 (.take 1 (.take 2 (.take 3 (.take 4 (.take 5 (.take 6 (.take 7 (.take 8 (.take 9 (.take 10 (.take 11 (.take 12 (.only 13 (.only 14 (.only 15 (.take 16 (.take 17 (.last 18))))))))))))))))))) (ownB (.slice av j kv)) mixed (by kernel_rfl) ?_
    try simp (maxSteps:=1000000)(disch:=(first|omega|(simp only [qI,qJ,qK]<;>omega)|exact qL _|(refine hnb _ ?_;first|omega|(simp only [World.size_alloc,size_wr,size_drew]<;>omega)))) only [go_sem,↓reduceIte,n0,reduceCtorEq,n1,n2,n3,n4,n5,i0,i1,i2,i3,i4,i5,i6,i7,hb8,hl8,ht8,hxe8,Int.toNat_natCast,Nat.mul_one,hq0,hq1,hq2,hq3,hq4,hq5,hq6,hq7,hq8,hq9,hq10,hq11,hq12,hq13,hq14,hq15,hq16,hq17,hq18,hrc2_0,hrc2_2,hrc2_3,hrc2_38,hri]
    have hxq9:=(Upd.refl _ _:Upd (ownB (.slice av j kv)) w8.drew w8.drew).blk_some (show blk w8.drew be=_ from hxe8) (hnb _ (.inl (by omega)))
    refine (tellX1_fn (d:=d) (ok:=ok) y ce w8.drew (b:=be) (o:=oe+j * 7) hxq9 (fun k hk=>by have:=hqe k hk;rw [← Nat.add_assoc] at this;exact this) ((RepS_lay true _ _).keep (Rep1_part.1 hRe) ((((hX8.drew).mono fun _ h=>h.elim).trans (Upd.refl _ _):Upd (ownB (.slice av j kv)) w w8.drew).keeps fun b hb _=>hnb b (.inl (by omega)))) (hgy.2.2 rfl)).mono ?_
    rintro _ w9 ⟨⟨c9,rfl,hc9⟩,hEx9⟩
    obtain ⟨T9,hT9⟩:∃ T,T=tlP (d+2) fs_X1 y:=⟨_,rfl⟩
    replace hc9:TreeC (fun b=>w8.drew.heap.size≤b) w9 T9 c9:=by rw [hT9];exact hc9
    obtain ⟨vS9,vL9,vU9,rfl,hn9,hS9,hLL9,hUU9⟩:=hc9.inv
    have k1_9:=hS9.flat
    have k2_9:=SlR.flat hLL9
    have k3_9:=SlR.flat hUU9
    have hP9:Upd (ownB (.slice av j kv)) w8.drew w9:=(Upd.refl _ _).trans (hEx9.mono fun _ h=>h.elim)
    have hsq9:=hEx9.size
    try simp only [size_drew] at hsq9
    refine ⟨hP9,?_⟩
    try simp (maxSteps:=1000000)(disch:=(first|omega|(simp only [qI,qJ,qK]<;>omega)|exact qL _|(refine hnb _ ?_;first|omega|(simp only [World.size_alloc,size_wr,size_drew]<;>omega)))) only [go_sem,↓reduceIte,n0,reduceCtorEq,n1,n2,n3,n4,n5,i0,i1,i2,i3,i4,i5,i6,i7,hb8,hl8,ht8,hxe8,Int.toNat_natCast,Nat.mul_one,hq0,hq1,hq2,hq3,hq4,hq5,hq6,hq7,hq8,hq9,hq10,hq11,hq12,hq13,hq14,hq15,hq16,hq17,hq18,hrc2_0,hrc2_2,hrc2_3,hrc2_38,hri,k1_9,k2_9,k3_9]
    have hP10:Upd (ownB (.slice av j kv)) w8.drew (w9.alloc (.cells #[.int .i64 T9.n,vS9,.bool T9.null,vL9,vU9] 27)):=show Upd (ownB (.slice av j kv)) w8.drew (w9.alloc (.cells #[.int .i64 T9.n,vS9,.bool T9.null,vL9,vU9] 27)) from (hP9).alloc _
    have hn10:blk (w9.alloc (.cells #[.int .i64 T9.n,vS9,.bool T9.null,vL9,vU9] 27)) w9.heap.size=some (#[.int .i64 T9.n,vS9,.bool T9.null,vL9,vU9],27,(0,0)):=show blk (w9.alloc (.cells #[.int .i64 T9.n,vS9,.bool T9.null,vL9,vU9] 27)) w9.heap.size=some (#[.int .i64 T9.n,vS9,.bool T9.null,vL9,vU9],27,(0,0)) from blk_alloc_new rfl
    have hsq10:(w9.alloc (.cells #[.int .i64 T9.n,vS9,.bool T9.null,vL9,vU9] 27)).heap.size=w9.heap.size+1:=show (w9.alloc (.cells #[.int .i64 T9.n,vS9,.bool T9.null,vL9,vU9] 27)).heap.size=w9.heap.size+1 from World.size_alloc _ _
    have hEx10:Ext w9 (w9.alloc (.cells #[.int .i64 T9.n,vS9,.bool T9.null,vL9,vU9] 27)):=show Ext w9 (w9.alloc (.cells #[.int .i64 T9.n,vS9,.bool T9.null,vL9,vU9] 27)) from Upd.alloc (Upd.refl _ _) _
    refine ⟨hP10,?_⟩
    try simp only [List.append_nil]
    generalize (w9.alloc (.cells #[.int .i64 T9.n,vS9,.bool T9.null,vL9,vU9] 27))=w10 at *
    try simp only [size_drew] at hsq10
    have hEw11:Ext w7 w10:=((hk8.drew.trans hEx9).trans hEx10)
    have hzw11:=hEw11.size
    obtain ⟨css,hown,hall⟩:=(hg.ext hEw11).ex
    have hcl:=hall.1
    rw [hlj] at hcl
    have hx11:TreeC (fun b=>(fun b=>w1.heap.size≤b) b∧b≠w.heap.size+1∧¬ ownB (.slice av j kv) b) w10 ((tl1 (tlP (d+2)) fX2_2.of fX2_2.sub) y) [.int .i64 T9.n,vS9,.bool T9.null,vL9,vU9]:=by
     rw [show (tl1 (tlP (d+2)) fX2_2.of fX2_2.sub) y=_ from hT9.symm]
     exact TreeC.weaken (fun b _ hk=>⟨by omega,by omega,hnb b (.inr (by omega))⟩) (TreeC.weaken (ok':=fun b=>w7.heap.size≤b) (fun b _ hk=>by have hk':w8.drew.heap.size≤b:=hk;(try simp only [size_drew] at hk');omega) (TreeC.keep (Ext.keeps hEx10 _) hc9))
    refine wp_append ap_24_24 (m:=1) (news:=[.int .i64 T9.n,vS9,.bool T9.null,vL9,vU9]) (n:=css.length) (cs:=css.flatten) (v:=(.slice av j kv)) ?_ rfl hown.1 (all2_flat_tree hall) (Src.blk (fr:=(0,0)) (T:=27) hn10 rfl (by simp only [List.all_cons,List.all_nil,flat_int,flat_bool,k1_9,k2_9,k3_9,Bool.and_self])) ?_ ?_ ?_
    ·first|rfl|simp (maxSteps:=1000000)(disch:=(first|omega|(simp only [qI,qJ,qK]<;>omega)|exact qL _)) only [go_sem,↓reduceIte,n0,reduceCtorEq,n1,n2,n3,n4,n5,i0,i1,i2,i3,i4,i5,i6,i7]
    ·omega
    ·omega
    intro v' w11 ho hu hfr
    have hP11:=(hP10:Upd (ownB (.slice av j kv)) w8.drew w10).trans hu
    have hzq11:=hP11.size
    simp only [size_drew] at hzq11
    have hlq11:=hP11.blk_some (show blk w8.drew (w.heap.size+1)=_ from hl8) (hnb _ (.inl (by omega)))
    have hg':=GrowT.snoc hown hall hx11 hu hfr ho
    obtain ⟨va,vc,hv',_⟩:=ho.shape
    subst hv'
    have hne:¬ ownB (.slice va (css.length+1) vc) (w.heap.size+1):=fun h=>(hfr _ h).elim (hnb _ (.inl (by omega))) (fun h=>by omega)
    refine ⟨hP11,?_⟩
    try simp (maxSteps:=1000000)(disch:=(first|omega|(simp only [qI,qJ,qK]<;>omega)|exact qL _|(refine hnb _ ?_;first|omega|(simp only [World.size_alloc,size_wr,size_drew]<;>omega)))) only [go_sem,↓reduceIte,n0,reduceCtorEq,n1,n2,n3,n4,n5,i0,i1,i2,i3,i4,i5,i6,i7,hlq11,Int.toNat_natCast,Nat.mul_one,hrc2_0,hrc2_2,hrc2_3,hrc2_38,hri]
    repeat ((first|refine qA rfl ?_|apply qB|refine qC rfl ?_|apply qD|apply qE|apply qF|apply qG|apply qH);try simp (maxSteps:=1000000)(disch:=(first|omega|(simp only [qI,qJ,qK]<;>omega)|exact qL _)) only [go_sem,↓reduceIte,n0,reduceCtorEq,n1,n2,n3,n4,n5,i0,i1,i2,i3,i4,i5,i6,i7,hlq11,Int.toNat_natCast,Nat.mul_one,hrc2_0,hrc2_2,hrc2_3,hrc2_38,hri])
    refine ⟨⟨(by simp (maxSteps:=1000000)(disch:=(first|omega|(simp only [qI,qJ,qK]<;>omega)|exact qL _)) only [go_sem,↓reduceIte,n0,reduceCtorEq,n1,n2,n3,n4,n5,i0,i1,i2,i3,i4,i5,i6,i7,Holds_nil,Holds_cons,hrc2_0,hrc2_2,hrc2_3,hrc2_38,hri]),j+1,(by simp (maxSteps:=1000000)(disch:=(first|omega|(simp only [qI,qJ,qK]<;>omega)|exact qL _)) only [go_sem,↓reduceIte,n0,reduceCtorEq,n1,n2,n3,n4,n5,i0,i1,i2,i3,i4,i5,i6,i7,hrc2_0,hrc2_2,hrc2_3,hrc2_38,hri];all_goals rfl),.slice va (css.length+1) vc,by omega,?_,?_,?_⟩,?_⟩
    ·rw [blk_wr_eq,hlq11];rfl
    ·rw [hcat,List.map_append];exact hg'.upd ((Upd.refl _ _).wr _ _ (.inr rfl)) hne
    ·refine Upd.wr ?_ _ _ (.inr rfl)
     exact (hUk.more ((hEw11.mono fun _ h=>h.elim).trans hu) fun b hb h=>absurd h (hnb b (.inl hb)))
    ·try simp (maxSteps:=1000000)(disch:=(first|omega|(simp only [qI,qJ,qK]<;>omega)|exact qL _)) only [go_sem,↓reduceIte,n0,reduceCtorEq,n1,n2,n3,n4,n5,i0,i1,i2,i3,i4,i5,i6,i7,hrc2_0,hrc2_2,hrc2_3,hrc2_38,hri]
     simp only [RowKit.intOf];omega
   ·have hk12:Ext w7 (wr (wr (w7.alloc (.cells #[.bool false] 4)).drew w7.heap.size 0 [.bool false]) w7.heap.size 0 [.bool true]):=((Upd.refl _ _).drew).trans q4
    generalize (wr (wr (w7.alloc (.cells #[.bool false] 4)).drew w7.heap.size 0 [.bool false]) w7.heap.size 0 [.bool true])=w12 at *
    have hzk12:=hk12.size
    have hX12:Ext w w12:=hX7.trans hk12
    have hb12:=hk12.blk_some hb7 id
    have hl12:=hk12.blk_some hl7 id
    have ht12:=hk12.blk_some ht7 id
    have hxe12:=hX12.blk_some hxe id
    repeat ((first|refine qA rfl ?_|apply qB|refine qC rfl ?_|apply qD|apply qE|apply qF|apply qG|apply qH);try simp (maxSteps:=1000000)(disch:=(first|omega|(simp only [qI,qJ,qK]<;>omega)|exact qL _)) only [go_sem,↓reduceIte,n0,reduceCtorEq,n1,n2,n3,n4,n5,i0,i1,i2,i3,i4,i5,i6,i7,hb12,hl12,ht12,hxe12,Int.toNat_natCast,Nat.mul_one,hq0,hq1,hq2,hq3,hq4,hq5,hq6,hq7,hq8,hq9,hq10,hq11,hq12,hq13,hq14,hq15,hq16,hq17,hq18,hrc2_0,hrc2_2,hrc2_3,hrc2_38,hri])
    refine W.drawR (.take 0 (.take 1 (.take 2 (.take 3 (.take 4 (.take 5 (.take 6 (.take 7 (.take 8 (.take 9 (.take 10 (.take 12 (.two 11 (.only 13 (.only 14 (.take 15 (.take 16 (.last 17))))) 13 (.only 11 (.only 14 (.take 15 (.take 16 (.last 17)))))))))))))))))) (ownB (.slice av j kv)) mixed (by kernel_rfl) ?_
    try simp (maxSteps:=1000000)(disch:=(first|omega|(simp only [qI,qJ,qK]<;>omega)|exact qL _|(refine hnb _ ?_;first|omega|(simp only [World.size_alloc,size_wr,size_drew]<;>omega)))) only [go_sem,↓reduceIte,n0,reduceCtorEq,n1,n2,n3,n4,n5,i0,i1,i2,i3,i4,i5,i6,i7,hb12,hl12,ht12,hxe12,Int.toNat_natCast,Nat.mul_one,hq0,hq1,hq2,hq3,hq4,hq5,hq6,hq7,hq8,hq9,hq10,hq11,hq12,hq13,hq14,hq15,hq16,hq17,hq18,hrc2_0,hrc2_2,hrc2_3,hrc2_38,hri]
    refine ⟨?_,?_⟩
    ·skip
     have hxq13:=(Upd.refl _ _:Upd (ownB (.slice av j kv)) w12.drew w12.drew).blk_some (show blk w12.drew be=_ from hxe12) (hnb _ (.inl (by omega)))
     refine (tellX1_fn (d:=d) (ok:=ok) y ce w12.drew (b:=be) (o:=oe+j * 7) hxq13 (fun k hk=>by have:=hqe k hk;rw [← Nat.add_assoc] at this;exact this) ((RepS_lay true _ _).keep (Rep1_part.1 hRe) ((((hX12.drew).mono fun _ h=>h.elim).trans (Upd.refl _ _):Upd (ownB (.slice av j kv)) w w12.drew).keeps fun b hb _=>hnb b (.inl (by omega)))) (hgy.2.2 rfl)).mono ?_
     rintro _ w13 ⟨⟨c13,rfl,hc13⟩,hEx13⟩
     obtain ⟨T13,hT13⟩:∃ T,T=tlP (d+2) fs_X1 y:=⟨_,rfl⟩
     replace hc13:TreeC (fun b=>w12.drew.heap.size≤b) w13 T13 c13:=by rw [hT13];exact hc13
     obtain ⟨vS13,vL13,vU13,rfl,hn13,hS13,hLL13,hUU13⟩:=hc13.inv
     have k1_13:=hS13.flat
     have k2_13:=SlR.flat hLL13
     have k3_13:=SlR.flat hUU13
     have hP13:Upd (ownB (.slice av j kv)) w12.drew w13:=(Upd.refl _ _).trans (hEx13.mono fun _ h=>h.elim)
     have hsq13:=hEx13.size
     try simp only [size_drew] at hsq13
     refine ⟨hP13,?_⟩
     try simp (maxSteps:=1000000)(disch:=(first|omega|(simp only [qI,qJ,qK]<;>omega)|exact qL _|(refine hnb _ ?_;first|omega|(simp only [World.size_alloc,size_wr,size_drew]<;>omega)))) only [go_sem,↓reduceIte,n0,reduceCtorEq,n1,n2,n3,n4,n5,i0,i1,i2,i3,i4,i5,i6,i7,hb12,hl12,ht12,hxe12,Int.toNat_natCast,Nat.mul_one,hq0,hq1,hq2,hq3,hq4,hq5,hq6,hq7,hq8,hq9,hq10,hq11,hq12,hq13,hq14,hq15,hq16,hq17,hq18,hrc2_0,hrc2_2,hrc2_3,hrc2_38,hri,k1_13,k2_13,k3_13]
     have hP14:Upd (ownB (.slice av j kv)) w12.drew (w13.alloc (.cells qZ5 27)):=show Upd (ownB (.slice av j kv)) w12.drew (w13.alloc (.cells qZ5 27)) from (hP13).alloc _
     have hn14:blk (w13.alloc (.cells qZ5 27)) w13.heap.size=some (qZ5,27,(0,0)):=show blk (w13.alloc (.cells qZ5 27)) w13.heap.size=some (qZ5,27,(0,0)) from blk_alloc_new rfl
     have hsq14:(w13.alloc (.cells qZ5 27)).heap.size=w13.heap.size+1:=show (w13.alloc (.cells qZ5 27)).heap.size=w13.heap.size+1 from World.size_alloc _ _
     have hEx14:Ext w13 (w13.alloc (.cells qZ5 27)):=show Ext w13 (w13.alloc (.cells qZ5 27)) from Upd.alloc (Upd.refl _ _) _
     refine ⟨hP14,?_⟩
     try simp only [List.append_nil]
     generalize (w13.alloc (.cells qZ5 27))=w14 at *
     try simp only [size_drew] at hsq14
     have hEw15:Ext w7 w14:=((hk12.drew.trans hEx13).trans hEx14)
     have hzw15:=hEw15.size
     obtain ⟨css,hown,hall⟩:=(hg.ext hEw15).ex
     have hcl:=hall.1
     rw [hlj] at hcl
     have hx15:TreeC (fun b=>(fun b=>w1.heap.size≤b) b∧b≠w.heap.size+1∧¬ ownB (.slice av j kv) b) w14 ((tl1 (tlP (d+2)) fX2_2.of fX2_2.sub) y) [.int .i64 T13.n,vS13,.bool T13.null,vL13,vU13]:=by
      rw [show (tl1 (tlP (d+2)) fX2_2.of fX2_2.sub) y=_ from hT13.symm]
      exact TreeC.weaken (fun b _ hk=>⟨by omega,by omega,hnb b (.inr (by omega))⟩) (TreeC.weaken (ok':=fun b=>w7.heap.size≤b) (fun b _ hk=>by have hk':w12.drew.heap.size≤b:=hk;(try simp only [size_drew] at hk');omega) (TreeC.keep (Ext.keeps hEx14 _) hc13))
     refine wp_append ap_24_24 (m:=1) (news:=[.int .i64 0,.slice none 0 0,.bool false,.slice none 0 0,.slice none 0 0]) (n:=css.length) (cs:=css.flatten) (v:=(.slice av j kv)) ?_ rfl hown.1 (all2_flat_tree hall) (Src.blk (fr:=(0,0)) (T:=27) hn14 rfl rfl) ?_ ?_ ?_
     ·first|rfl|simp (maxSteps:=1000000)(disch:=(first|omega|(simp only [qI,qJ,qK]<;>omega)|exact qL _)) only [go_sem,↓reduceIte,n0,reduceCtorEq,n1,n2,n3,n4,n5,i0,i1,i2,i3,i4,i5,i6,i7]
     ·omega
     ·omega
     intro v' w15 ho hu hfr
     have hP15:=(hP14:Upd (ownB (.slice av j kv)) w12.drew w14).trans hu
     have hzq15:=hP15.size
     simp only [size_drew] at hzq15
     have hlq15:=hP15.blk_some (show blk w12.drew (w.heap.size+1)=_ from hl12) (hnb _ (.inl (by omega)))
     rcases ho.2 with ⟨_,h⟩|⟨g,cap,rest,fr,hv',hg',hbg,hlen,hth,hle⟩
     ·exact absurd h (Nat.succ_ne_zero _)
     subst hv'
     have hgne:¬ g=w.heap.size+1:=fun h=>(hfr g ⟨_,_,_,rfl,rfl⟩).elim (fun h'=>hnb _ (.inl (by omega)) (h ▸ h')) (fun h'=>by omega)
     have hfl:css.flatten.length=css.length * 5:=flatten_len hown.2
     have hlen2:(css.flatten++([.int .i64 0,.slice none 0 0,.bool false,.slice none 0 0,.slice none 0 0]:List Value)++rest).length=cap * 5:=by simp only [List.length_append] at hlen ⊢;omega
     obtain ⟨XX,hXX⟩:∃ X:Array Value,X=(css.flatten++([.int .i64 0,.slice none 0 0,.bool false,.slice none 0 0,.slice none 0 0]:List Value)++rest).toArray:=⟨_,rfl⟩
     have hbgX:blk w15 g=some (XX,27,fr):=by rw [hXX];exact hbg
     have hXsz:XX.size=cap * 5:=by rw [hXX,List.size_toArray];exact hlen2
     have hth2:thaw fr (css.length * 5) 5=true:=thaw_of hth (by omega)
     have hst:css.length * 5+5≤XX.size:=by omega
     have hset:=Own.setlast (cs:=[.int .i64 T13.n,vS13,.bool T13.null,vL13,vU13]) ho rfl rfl
     have hu2:Upd (ownB (.slice av j kv)) w14 (wr w15 g (css.length * 5) [.int .i64 T13.n,vS13,.bool T13.null,vL13,vU13]):=hu.wr _ _ ((hfr g ⟨_,_,_,rfl,rfl⟩).symm)
     have hg2:=GrowT.snoc hown hall hx15 hu2 hfr hset
     have hcj:css.length=j:=by first|exact hcl.symm.trans hlj|omega
     simp only [hcj] at hth2 hst hset hu2 hg2
     refine ⟨hP15,?_⟩
     try simp (maxSteps:=1000000)(disch:=(first|omega|(simp only [qI,qJ,qK]<;>omega)|exact qL _|(refine hnb _ ?_;first|omega|(simp only [World.size_alloc,size_wr,size_drew]<;>omega)))) only [go_sem,↓reduceIte,n0,reduceCtorEq,n1,n2,n3,n4,n5,i0,i1,i2,i3,i4,i5,i6,i7,hlq15,hbgX,hth2,hst,hcj,Int.toNat_natCast,Nat.mul_one,k1_13,k2_13,k3_13,hrc2_0,hrc2_2,hrc2_3,hrc2_38,hri]
     repeat ((first|refine qA rfl ?_|apply qB|refine qC rfl ?_|apply qD|apply qE|apply qF|apply qG|apply qH);try simp (maxSteps:=1000000)(disch:=(first|omega|(simp only [qI,qJ,qK]<;>omega)|exact qL _)) only [go_sem,↓reduceIte,n0,reduceCtorEq,n1,n2,n3,n4,n5,i0,i1,i2,i3,i4,i5,i6,i7,hlq15,hbgX,hth2,hst,hcj,Int.toNat_natCast,Nat.mul_one,k1_13,k2_13,k3_13,hrc2_0,hrc2_2,hrc2_3,hrc2_38,hri])
     refine ⟨⟨(by simp (maxSteps:=1000000)(disch:=(first|omega|(simp only [qI,qJ,qK]<;>omega)|exact qL _)) only [go_sem,↓reduceIte,n0,reduceCtorEq,n1,n2,n3,n4,n5,i0,i1,i2,i3,i4,i5,i6,i7,Holds_nil,Holds_cons,hrc2_0,hrc2_2,hrc2_3,hrc2_38,hri]),j+1,(by simp (maxSteps:=1000000)(disch:=(first|omega|(simp only [qI,qJ,qK]<;>omega)|exact qL _)) only [go_sem,↓reduceIte,n0,reduceCtorEq,n1,n2,n3,n4,n5,i0,i1,i2,i3,i4,i5,i6,i7,hrc2_0,hrc2_2,hrc2_3,hrc2_38,hri];all_goals rfl),.slice (some ⟨g,0,none⟩) (j+1) cap,by omega,?_,?_,?_⟩,?_⟩
     ·rw [blk_wr_ne (by omega),blk_wr_eq,hlq15];rfl
     ·rw [hcat,List.map_append,wr_comm (Ne.symm hgne)]
      exact hg2.upd ((Upd.refl _ _).wr _ _ (.inr rfl)) (fun h=>hgne (ownB_row h).symm)
     ·rw [wr_comm (Ne.symm hgne)]
      refine Upd.wr ?_ _ _ (.inr rfl)
      exact (hUk.more ((hEw15.mono fun _ h=>h.elim).trans hu2) fun b hb h=>absurd h (hnb b (.inl hb)))
     ·try simp (maxSteps:=1000000)(disch:=(first|omega|(simp only [qI,qJ,qK]<;>omega)|exact qL _)) only [go_sem,↓reduceIte,n0,reduceCtorEq,n1,n2,n3,n4,n5,i0,i1,i2,i3,i4,i5,i6,i7,hrc2_0,hrc2_2,hrc2_3,hrc2_38,hri]
      simp only [RowKit.intOf];omega
    ·skip
     have hP16:Upd (ownB (.slice av j kv)) w12.drew (w12.alloc (.cells qZ5 27)).drew:=show Upd (ownB (.slice av j kv)) w12.drew (w12.drew.alloc (.cells qZ5 27)) from (Upd.refl _ _).alloc _
     have hn16:blk (w12.alloc (.cells qZ5 27)).drew w12.drew.heap.size=some (qZ5,27,(0,0)):=show blk (w12.drew.alloc (.cells qZ5 27)) w12.drew.heap.size=some (qZ5,27,(0,0)) from blk_alloc_new rfl
     have hsq16:(w12.alloc (.cells qZ5 27)).drew.heap.size=w12.drew.heap.size+1:=show (w12.drew.alloc (.cells qZ5 27)).heap.size=w12.drew.heap.size+1 from World.size_alloc _ _
     have hEx16:Ext w12.drew (w12.alloc (.cells qZ5 27)).drew:=show Ext w12.drew (w12.drew.alloc (.cells qZ5 27)) from Upd.alloc (Upd.refl _ _) _
     refine ⟨hP16,?_⟩
     try simp only [List.append_nil]
     generalize (w12.alloc (.cells qZ5 27)).drew=w16 at *
     try simp only [size_drew] at hsq16
     have hxq17:=(hP16:Upd (ownB (.slice av j kv)) w12.drew w16).blk_some (show blk w12.drew be=_ from hxe12) (hnb _ (.inl (by omega)))
     refine (tellX1_fn (d:=d) (ok:=ok) y ce w16 (b:=be) (o:=oe+j * 7) hxq17 (fun k hk=>by have:=hqe k hk;rw [← Nat.add_assoc] at this;exact this) ((RepS_lay true _ _).keep (Rep1_part.1 hRe) ((((hX12.drew).mono fun _ h=>h.elim).trans (hP16):Upd (ownB (.slice av j kv)) w w16).keeps fun b hb _=>hnb b (.inl (by omega)))) (hgy.2.2 rfl)).mono ?_
     rintro _ w17 ⟨⟨c17,rfl,hc17⟩,hEx17⟩
     obtain ⟨T17,hT17⟩:∃ T,T=tlP (d+2) fs_X1 y:=⟨_,rfl⟩
     replace hc17:TreeC (fun b=>w16.heap.size≤b) w17 T17 c17:=by rw [hT17];exact hc17
     obtain ⟨vS17,vL17,vU17,rfl,hn17,hS17,hLL17,hUU17⟩:=hc17.inv
     have k1_17:=hS17.flat
     have k2_17:=SlR.flat hLL17
     have k3_17:=SlR.flat hUU17
     have hP17:Upd (ownB (.slice av j kv)) w12.drew w17:=(hP16).trans (hEx17.mono fun _ h=>h.elim)
     have hsq17:=hEx17.size
     try simp only [size_drew] at hsq17
     refine ⟨hP17,?_⟩
     try simp (maxSteps:=1000000)(disch:=(first|omega|(simp only [qI,qJ,qK]<;>omega)|exact qL _|(refine hnb _ ?_;first|omega|(simp only [World.size_alloc,size_wr,size_drew]<;>omega)))) only [go_sem,↓reduceIte,n0,reduceCtorEq,n1,n2,n3,n4,n5,i0,i1,i2,i3,i4,i5,i6,i7,hb12,hl12,ht12,hxe12,Int.toNat_natCast,Nat.mul_one,hq0,hq1,hq2,hq3,hq4,hq5,hq6,hq7,hq8,hq9,hq10,hq11,hq12,hq13,hq14,hq15,hq16,hq17,hq18,hrc2_0,hrc2_2,hrc2_3,hrc2_38,hri,k1_17,k2_17,k3_17]
     have hEw18:Ext w7 w17:=((hk12.drew.trans hEx16).trans hEx17)
     have hzw18:=hEw18.size
     obtain ⟨css,hown,hall⟩:=(hg.ext hEw18).ex
     have hcl:=hall.1
     rw [hlj] at hcl
     have hx18:TreeC (fun b=>(fun b=>w1.heap.size≤b) b∧b≠w.heap.size+1∧¬ ownB (.slice av j kv) b) w17 ((tl1 (tlP (d+2)) fX2_2.of fX2_2.sub) y) [.int .i64 T17.n,vS17,.bool T17.null,vL17,vU17]:=by
      rw [show (tl1 (tlP (d+2)) fX2_2.of fX2_2.sub) y=_ from hT17.symm]
      exact TreeC.weaken (fun b _ hk=>⟨by omega,by omega,hnb b (.inr (by omega))⟩) (TreeC.weaken (ok':=fun b=>w7.heap.size≤b) (fun b _ hk=>by have hk':w16.heap.size≤b:=hk;(try simp only [size_drew] at hk');omega) hc17)
     refine wp_append ap_24_24 (m:=1) (news:=[.int .i64 0,.slice none 0 0,.bool false,.slice none 0 0,.slice none 0 0]) (n:=css.length) (cs:=css.flatten) (v:=(.slice av j kv)) ?_ rfl hown.1 (all2_flat_tree hall) (Src.blk (fr:=(0,0)) (T:=27) (hEx17.blk_some hn16 id) rfl rfl) ?_ ?_ ?_
     ·first|rfl|simp (maxSteps:=1000000)(disch:=(first|omega|(simp only [qI,qJ,qK]<;>omega)|exact qL _)) only [go_sem,↓reduceIte,n0,reduceCtorEq,n1,n2,n3,n4,n5,i0,i1,i2,i3,i4,i5,i6,i7]
     ·omega
     ·omega
     intro v' w18 ho hu hfr
     have hP18:=(hP17:Upd (ownB (.slice av j kv)) w12.drew w17).trans hu
     have hzq18:=hP18.size
     simp only [size_drew] at hzq18
     have hlq18:=hP18.blk_some (show blk w12.drew (w.heap.size+1)=_ from hl12) (hnb _ (.inl (by omega)))
     rcases ho.2 with ⟨_,h⟩|⟨g,cap,rest,fr,hv',hg',hbg,hlen,hth,hle⟩
     ·exact absurd h (Nat.succ_ne_zero _)
     subst hv'
     have hgne:¬ g=w.heap.size+1:=fun h=>(hfr g ⟨_,_,_,rfl,rfl⟩).elim (fun h'=>hnb _ (.inl (by omega)) (h ▸ h')) (fun h'=>by omega)
     have hfl:css.flatten.length=css.length * 5:=flatten_len hown.2
     have hlen2:(css.flatten++([.int .i64 0,.slice none 0 0,.bool false,.slice none 0 0,.slice none 0 0]:List Value)++rest).length=cap * 5:=by simp only [List.length_append] at hlen ⊢;omega
     obtain ⟨XX,hXX⟩:∃ X:Array Value,X=(css.flatten++([.int .i64 0,.slice none 0 0,.bool false,.slice none 0 0,.slice none 0 0]:List Value)++rest).toArray:=⟨_,rfl⟩
     have hbgX:blk w18 g=some (XX,27,fr):=by rw [hXX];exact hbg
     have hXsz:XX.size=cap * 5:=by rw [hXX,List.size_toArray];exact hlen2
     have hth2:thaw fr (css.length * 5) 5=true:=thaw_of hth (by omega)
     have hst:css.length * 5+5≤XX.size:=by omega
     have hset:=Own.setlast (cs:=[.int .i64 T17.n,vS17,.bool T17.null,vL17,vU17]) ho rfl rfl
     have hu2:Upd (ownB (.slice av j kv)) w17 (wr w18 g (css.length * 5) [.int .i64 T17.n,vS17,.bool T17.null,vL17,vU17]):=hu.wr _ _ ((hfr g ⟨_,_,_,rfl,rfl⟩).symm)
     have hg2:=GrowT.snoc hown hall hx18 hu2 hfr hset
     have hcj:css.length=j:=by first|exact hcl.symm.trans hlj|omega
     simp only [hcj] at hth2 hst hset hu2 hg2
     refine ⟨hP18,?_⟩
     try simp (maxSteps:=1000000)(disch:=(first|omega|(simp only [qI,qJ,qK]<;>omega)|exact qL _|(refine hnb _ ?_;first|omega|(simp only [World.size_alloc,size_wr,size_drew]<;>omega)))) only [go_sem,↓reduceIte,n0,reduceCtorEq,n1,n2,n3,n4,n5,i0,i1,i2,i3,i4,i5,i6,i7,hlq18,hbgX,hth2,hst,hcj,Int.toNat_natCast,Nat.mul_one,k1_17,k2_17,k3_17,hrc2_0,hrc2_2,hrc2_3,hrc2_38,hri]
     repeat ((first|refine qA rfl ?_|apply qB|refine qC rfl ?_|apply qD|apply qE|apply qF|apply qG|apply qH);try simp (maxSteps:=1000000)(disch:=(first|omega|(simp only [qI,qJ,qK]<;>omega)|exact qL _)) only [go_sem,↓reduceIte,n0,reduceCtorEq,n1,n2,n3,n4,n5,i0,i1,i2,i3,i4,i5,i6,i7,hlq18,hbgX,hth2,hst,hcj,Int.toNat_natCast,Nat.mul_one,k1_17,k2_17,k3_17,hrc2_0,hrc2_2,hrc2_3,hrc2_38,hri])
     refine ⟨⟨(by simp (maxSteps:=1000000)(disch:=(first|omega|(simp only [qI,qJ,qK]<;>omega)|exact qL _)) only [go_sem,↓reduceIte,n0,reduceCtorEq,n1,n2,n3,n4,n5,i0,i1,i2,i3,i4,i5,i6,i7,Holds_nil,Holds_cons,hrc2_0,hrc2_2,hrc2_3,hrc2_38,hri]),j+1,(by simp (maxSteps:=1000000)(disch:=(first|omega|(simp only [qI,qJ,qK]<;>omega)|exact qL _)) only [go_sem,↓reduceIte,n0,reduceCtorEq,n1,n2,n3,n4,n5,i0,i1,i2,i3,i4,i5,i6,i7,hrc2_0,hrc2_2,hrc2_3,hrc2_38,hri];all_goals rfl),.slice (some ⟨g,0,none⟩) (j+1) cap,by omega,?_,?_,?_⟩,?_⟩
     ·rw [blk_wr_ne (by omega),blk_wr_eq,hlq18];rfl
     ·rw [hcat,List.map_append,wr_comm (Ne.symm hgne)]
      exact hg2.upd ((Upd.refl _ _).wr _ _ (.inr rfl)) (fun h=>hgne (ownB_row h).symm)
     ·rw [wr_comm (Ne.symm hgne)]
      refine Upd.wr ?_ _ _ (.inr rfl)
      exact (hUk.more ((hEw18.mono fun _ h=>h.elim).trans hu2) fun b hb h=>absurd h (hnb b (.inl hb)))
     ·try simp (maxSteps:=1000000)(disch:=(first|omega|(simp only [qI,qJ,qK]<;>omega)|exact qL _)) only [go_sem,↓reduceIte,n0,reduceCtorEq,n1,n2,n3,n4,n5,i0,i1,i2,i3,i4,i5,i6,i7,hrc2_0,hrc2_2,hrc2_3,hrc2_38,hri]
      simp only [RowKit.intOf];omega
  ·have hjn:j=L2.length:=by omega
   subst hjn
   rw [List.take_length] at hg
   repeat ((first|refine qA rfl ?_|apply qB|refine qC rfl ?_|apply qD|apply qE|apply qF|apply qG|apply qH);try simp (maxSteps:=1000000)(disch:=(first|omega|(simp only [qI,qJ,qK]<;>omega)|exact qL _)) only [go_sem,↓reduceIte,n0,reduceCtorEq,n1,n2,n3,n4,n5,i0,i1,i2,i3,i4,i5,i6,i7,hrc2_0,hrc2_2,hrc2_3,hrc2_38,hri])
   exact ⟨(by simp (maxSteps:=1000000)(disch:=(first|omega|(simp only [qI,qJ,qK]<;>omega)|exact qL _)) only [go_sem,↓reduceIte,n0,reduceCtorEq,n1,n2,n3,n4,n5,i0,i1,i2,i3,i4,i5,i6,i7,Holds_nil,Holds_cons,hrc2_0,hrc2_2,hrc2_3,hrc2_38,hri]),v,hl7,hg,hUk⟩
 rintro ρ w19 ⟨⟨hrd2_0,hrd2_2,hrd2_3,hrd2_38,-⟩,v,hl19,hg19,hUz19⟩
 have hV19:Upd (fun b=>b=w.heap.size+1∨b=w.heap.size+2) w6 w19:=hUz19.mono fun _ h=>.inl h
 have hU19:Upd (fun b=>b=w.heap.size+1∨b=w.heap.size+2) w1 w19:=hU6.trans hV19
 have hz19:=hU19.size
 have hX19:Ext w w19:=hE1.more hU19 fun b hb h=>by omega
 have hb19:=hX19.blk_some hb id
 have ht19:=hUz19.blk_some ht6 (by omega)
 obtain ⟨av2,kv2,hvs,_⟩:=hg19.shape
 subst hvs
 have hf2:TreeC (fun b=>w1.heap.size≤b) w19 (.mk 0 [] (t.at 2).null (L2.map (tl1 (tlP (d+2)) fX2_2.of fX2_2.sub)) []) [.int .i64 0,.slice none 0 0,.bool (t.at 2).null,.slice av2 (List.map (tl1 (tlP (d+2)) fX2_2.of fX2_2.sub) L2).length kv2,.slice none 0 0]:=TreeC.intro rfl (BytesV.nil _ _) (hg19.trees (fun _ _ h=>h) (fun b hb=>by have:=hz6;omega)) (tagsN _ _)
 repeat ((first|refine qA rfl ?_|apply qB|refine qC rfl ?_|apply qD|apply qE|apply qF|apply qG|apply qH);try simp (maxSteps:=1000000)(disch:=(first|omega|(simp only [qI,qJ,qK]<;>omega)|exact qL _)) only [go_sem,↓reduceIte,n0,reduceCtorEq,n1,n2,n3,n4,n5,i0,i1,i2,i3,i4,i5,i6,i7,hb19,hl19,ht19,hq0,hq1,hq2,hq3,hq4,hq5,hq6,hq7,hq8,hq9,hq10,hq11,hq12,hq13,hq14,hq15,hq16,hq17,hq18,hrd2_0,hrd2_2,hrd2_3])
 refine (EachG_fn (ok:=fun b=>b < w.heap.size) 40 ca_40 #[.pointer (some ⟨w.heap.size+2,0,none⟩)] w19 (tb:=b) (to:=o+18) hb19 hq18 ((hT.weaken fun b hb _=>hb).keep (hX19.keeps _)) (sortT_perm _) (sortT_lt hgu.2.1) (by rw [(sortT_perm t.u).length_eq];exact hgu.1)
  (fun b=>b=w.heap.size+2) (by omega) (fun b hb hk e=>by have hk':b < w.heap.size:=hk;omega) (fun b hb=>by have:=blk_lt ht19;omega)
  (fun wl done w'=>∃ v,blk w' (w.heap.size+2)=some (#[.int .i64 0,.slice none 0 0,.bool false,.slice (some ⟨w.heap.size+1,0,none⟩) 3 3,v],27,(0,0))∧GrowU (fun b=>w1.heap.size≤b) wl.heap.size (w.heap.size+2) w' 51 v done) (fun wl hE=>⟨_,hE.blk_some ht19 id,GrowU.nil _ _ _ _ _⟩) ?_).mono ?_
 ·rintro wl hE done y vv wc hpre ⟨v,hbv,hg⟩ hU hvv hy
  have hz':=hE.size
  have hzu:=hU.size
  have htl:=blk_lt ht19
  have hpl:=hpre.length_le
  simp only [List.length_append,List.length_cons,List.length_nil] at hpl
  rw [(sortT_perm t.u).length_eq] at hpl
  have hlu:=hgu.1
  have hmy:y∈t.u:=(sortT_perm t.u).mem_iff.1 (hpre.subset (by simp))
  refine (tagclX2_fn (ok:=fun b=>b < w.heap.size) _ _ _ _ v done y vv wc hbv hg hzu (by omega) (hvv.keep ((hE.mono (fun _ h=>h.elim) |>.trans hU:Upd (fun b=>b=w.heap.size+2) w19 wc).keeps fun b _ hk e=>by have hk':b < w.heap.size:=hk;omega)) hy (hgu.2.2 y hmy) (by omega) (fun b hb=>by have:=hz19;omega)).mono ?_
  rintro _ w2' ⟨⟨v',h1,h2⟩,h3⟩
  exact ⟨⟨v',h1,h2⟩,hU.trans' h3 fun b hb h=>h.elim id fun h=>by omega⟩
 rintro _ w20 ⟨wl,hEl,⟨v,ht20,hgU⟩,hUe⟩
 have hzl:=hEl.size
 obtain ⟨aU,kU,hvs,_⟩:=hgU.shape
 subst hvs
 have hV20:Upd (fun b=>b=w.heap.size+1∨b=w.heap.size+2) w19 w20:=(hEl.mono fun _ h=>h.elim).trans (hUe.mono fun _ h=>.inr h)
 have hU20:Upd (fun b=>b=w.heap.size+1∨b=w.heap.size+2) w1 w20:=hU19.trans hV20
 have hz20:=hU20.size
 have hX20:Ext w w20:=hE1.more hU20 fun b hb h=>by omega
 have hb20:=hX20.blk_some hb id
 have hl20:=(((hEl.mono fun _ h=>h.elim).trans hUe:Upd (fun b=>b=w.heap.size+2) w19 w20)).blk_some hl19 (by omega)
 have hTU:=hgU.tags (ok':=(fun b=>w1.heap.size≤b)) (fun _ _ h=>h) (fun b hb=>by have:=hz19;omega)
 repeat ((first|refine qA rfl ?_|apply qB|refine qC rfl ?_|apply qD|apply qE|apply qF|apply qG|apply qH);try simp (maxSteps:=1000000)(disch:=(first|omega|(simp only [qI,qJ,qK]<;>omega)|exact qL _)) only [go_sem,↓reduceIte,n0,reduceCtorEq,n1,n2,n3,n4,n5,i0,i1,i2,i3,i4,i5,i6,i7,hb20,hl20,ht20,hq0,hq1,hq2,hq3,hq4,hq5,hq6,hq7,hq8,hq9,hq10,hq11,hq12,hq13,hq14,hq15,hq16,hq17,hq18,hrd2_0,hrd2_2,hrd2_3,cellsAt_five])
 refine (sorted_fn _ _ w20 hTU (sortT_lt hgu.2.1) (by rw [(sortT_perm t.u).length_eq];exact hgu.1)).mono ?_
 rintro _ w21 hEs
 have hV21:Upd (fun b=>b=w.heap.size+1∨b=w.heap.size+2) w20 w21:=hEs.mono fun _ h=>h.elim
 have hU21:Upd (fun b=>b=w.heap.size+1∨b=w.heap.size+2) w1 w21:=hU20.trans hV21
 have hz21:=hU21.size
 have hX21:Ext w w21:=hE1.more hU21 fun b hb h=>by omega
 have hb21:=hX21.blk_some hb id
 have hl21:=hEs.blk_some hl20 id
 have ht21:=hEs.blk_some ht20 id
 have hr21:=(hU21.blk_some hr1 (by omega))
 have hC_21:Upd (fun b=>b=w.heap.size+1∨b=w.heap.size+2) w21 w21:=Upd.refl _ _
 have hC_20:Upd (fun b=>b=w.heap.size+1∨b=w.heap.size+2) w20 w21:=hV21.trans hC_21
 have hC_19:Upd (fun b=>b=w.heap.size+1∨b=w.heap.size+2) w19 w21:=hV20.trans hC_20
 have hC_6:Upd (fun b=>b=w.heap.size+1∨b=w.heap.size+2) w6 w21:=hV19.trans hC_19
 have hC_5:Upd (fun b=>b=w.heap.size+1∨b=w.heap.size+2) w5 w21:=hV6.trans hC_6
 have hC_3:Upd (fun b=>b=w.heap.size+1∨b=w.heap.size+2) w3 w21:=hV5.trans hC_5
 have hC_1:Upd (fun b=>b=w.heap.size+1∨b=w.heap.size+2) w1 w21:=hV3.trans hC_3
 have hF0:=TreeC.keep (hC_3.keeps fun b hb hk e=>by have hk':w1.heap.size≤b:=hk;omega) hf0
 have hF1:=TreeC.keep (hC_5.keeps fun b hb hk e=>by have hk':w1.heap.size≤b:=hk;omega) hf1
 have hF2:=TreeC.keep (hC_19.keeps fun b hb hk e=>by have hk':w1.heap.size≤b:=hk;omega) hf2
 replace hF0:TreeC (fun b=>w1.heap.size≤b) w21 (tlF (tlP (d+2)) fX2_0 (t.at 0)) [.int .i64 0,.slice (some a2) ((t.at 0).s).length k2,.bool false,.slice none 0 0,.slice none 0 0]:=hF0
 replace hF1:TreeC (fun b=>w1.heap.size≤b) w21 (tlF (tlP (d+2)) fX2_1 (t.at 1)) [.int .i64 0,.slice av4 (uuidS (t.at 1).s).length kv4,.bool false,.slice none 0 0,.slice none 0 0]:=hF1
 replace hF2:TreeC (fun b=>w1.heap.size≤b) w21 (tlF (tlP (d+2)) fX2_2 (t.at 2)) [.int .i64 0,.slice none 0 0,.bool (t.at 2).null,.slice av2 (List.map (tl1 (tlP (d+2)) fX2_2.of fX2_2.sub) L2).length kv2,.slice none 0 0]:=by rw [show tlF (tlP (d+2)) fX2_2 (t.at 2) = .mk 0 [] (t.at 2).null ((if (t.at 2).null=true then [] else (t.at 2).l).map (tl1 (tlP (d+2)) fX2_2.of fX2_2.sub)) [] from rfl,← hL2];exact hF2
 have hTL:TreesV (fun b=>(fun b=>w1.heap.size≤b) b∨b=w.heap.size+1) w21 (.slice (some ⟨w.heap.size+1,0,none⟩) 3 3) [tlF (tlP (d+2)) fX2_0 (t.at 0),tlF (tlP (d+2)) fX2_1 (t.at 1),tlF (tlP (d+2)) fX2_2 (t.at 2)]:=by
  refine ⟨[[.int .i64 0,.slice (some a2) ((t.at 0).s).length k2,.bool false,.slice none 0 0,.slice none 0 0],[.int .i64 0,.slice av4 (uuidS (t.at 1).s).length kv4,.bool false,.slice none 0 0,.slice none 0 0],[.int .i64 0,.slice none 0 0,.bool (t.at 2).null,.slice av2 (List.map (tl1 (tlP (d+2)) fX2_2.of fX2_2.sub) L2).length kv2,.slice none 0 0]],⟨_,3,rfl,Nat.le_refl _,(by intro cs hm;simp only [List.mem_cons,List.not_mem_nil,or_false] at hm;rcases hm with rfl|rfl|rfl<;>rfl),.inr ⟨_,rfl,rfl,.inr rfl,_,hl21,fun i hi=>by rw [Nat.zero_add,List.getElem?_toArray];rfl⟩⟩,rfl,fun i h1 h2 => ?_⟩
  match i,h1 with
  | 0,_=>exact TreeC.weaken (fun b _ hk=>.inl hk) hF0
  | 1,_=>exact TreeC.weaken (fun b _ hk=>.inl hk) hF1
  | 2,_=>exact TreeC.weaken (fun b _ hk=>.inl hk) hF2
 repeat ((first|refine qA rfl ?_|apply qB|refine qC rfl ?_|apply qD|apply qE|apply qF|apply qG|apply qH);try simp (maxSteps:=1000000)(disch:=(first|omega|(simp only [qI,qJ,qK]<;>omega)|exact qL _)) only [go_sem,↓reduceIte,n0,reduceCtorEq,n1,n2,n3,n4,n5,i0,i1,i2,i3,i4,i5,i6,i7,hb21,hl21,ht21,hq0,hq1,hq2,hq3,hq4,hq5,hq6,hq7,hq8,hq9,hq10,hq11,hq12,hq13,hq14,hq15,hq16,hq17,hq18,hrd2_0,hrd2_2,hrd2_3,hr21,cellsAt_five])
 refine ⟨⟨_,rfl,?_⟩,hX21.wr _ _ (.inl (Nat.le_refl _))⟩
 have hUr:Upd (fun b=>b=w.heap.size) w21 (wr w21 w.heap.size 0 [.int .i64 0,.slice none 0 0,.bool false,.slice (some ⟨w.heap.size+1,0,none⟩) 3 3,.slice aU (sortT t.u).length kU]):=(Upd.refl _ _).wr _ _ (.inr rfl)
 have hTU2:=hTU.keep (hEs.keeps _)
 exact TreeC.intro rfl (BytesV.nil _ _) ((hTL.keep (hUr.keeps fun b _ hk e=>by rcases hk with hk|hk<;>omega)).weaken fun b _ hk=>by rcases hk with hk|hk<;>omega) ((hTU2.keep (hUr.keeps fun b _ hk e=>by omega)).weaken fun b _ hk=>by omega)

theorem tagclQ_fn {ok OK:Blocks} {B tb:Nat} (c0 c1 c2 c3 v:Value) (done:List TagD) (y:TagD) (vv:Value) (w:World) (hbt:blk w tb=some (#[c0,c1,c2,c3,v],27,(0,0))) (hg:GrowU OK B tb w 51 v done) (hB:B≤w.heap.size) (htb:tb < B) (hvv:BytesV ok w vv y.2) (hy:y.1 < 2 ^ 32) (hyl:y.2.length≤32767) (hdl:done.length≤32767) (hOK:∀ b,B≤b→OK b) :
  Fn Tryd.prog 21 #[.int .u32 y.1,vv,.pointer (some ⟨tb,0,none⟩)] w fun _ w'=>(∃ v',blk w' tb=some (#[c0,c1,c2,c3,v'],27,(0,0))∧GrowU OK B tb w' 51 v' (done++[y]))∧Upd (fun b=>b=tb∨B≤b) w w':=by
 have htl:=blk_lt hbt
 refine fn_of_W Tryd.func21 rfl Tryd.results21 Tryd.ntmps21 rfl ?_
 repeat ((first|refine qA rfl ?_|apply qB|refine qC rfl ?_|apply qD|apply qE|apply qF|apply qG|apply qH);try simp (maxSteps:=1000000)(disch:=(first|omega|(simp only [qI,qJ,qK]<;>omega)|exact qL _)) only [go_sem,↓reduceIte,n0,reduceCtorEq,n1,n2,n3,n4,n5,i0,i1,i2,i3,i4,i5,i6,i7])
 obtain ⟨av,kv,rfl,_⟩:=hg.shape
 have hnb:∀ b,b < B∨w.heap.size≤b→¬ ownB (.slice av done.length kv) b:=fun b hb h=>by
  have:=hg.above h
  have:=hg.below h
  omega
 refine W.drawR (.take 0 (.take 1 (.take 2 (.take 3 (.only 4 (.only 5 (.only 6 (.only 7 (.take 8 (.last 9)))))))))) (ownB (.slice av done.length kv)) mixed (by kernel_rfl) ?_
 simp (maxSteps:=1000000)(disch:=(first|omega|(simp only [qI,qJ,qK]<;>omega)|exact qL _|(refine hnb _ ?_;first|omega|(simp only [World.size_alloc,size_wr,size_drew]<;>omega)))) only [go_sem,↓reduceIte,n0,reduceCtorEq,n1,n2,n3,n4,n5,i0,i1,i2,i3,i4,i5,i6,i7,hbt]
 refine wp_copyN ap_22_22 (ok:=ok) (s:=y.2) (v:=vv) (by first|rfl|simp (maxSteps:=1000000)(disch:=(first|omega|(simp only [qI,qJ,qK]<;>omega)|exact qL _)) only [go_sem,↓reduceIte,n0,reduceCtorEq,n1,n2,n3,n4,n5,i0,i1,i2,i3,i4,i5,i6,i7]) (by first|rfl|simp (maxSteps:=1000000)(disch:=(first|omega|(simp only [qI,qJ,qK]<;>omega)|exact qL _)) only [go_sem,↓reduceIte,n0,reduceCtorEq,n1,n2,n3,n4,n5,i0,i1,i2,i3,i4,i5,i6,i7]) (hvv.keep (Ext.keeps ((Upd.refl _ _).drew) _)) (by omega) ?_
 intro v1 w1 ho1 hE1 hf1
 obtain ⟨a1,k1,rfl,_⟩:=ho1.shape
 have hB1:=Own.bytes (ok:=fun b=>w.heap.size≤b) ho1 fun b hb=>hf1 b hb
 have hP1:Upd (ownB (.slice av done.length kv)) w.drew w1:=hE1.mono fun _ h=>h.elim
 have hs1:=hE1.size
 simp only [size_drew] at hs1
 refine ⟨hP1,?_⟩
 simp (maxSteps:=1000000)(disch:=(first|omega|(simp only [qI,qJ,qK]<;>omega)|exact qL _|(refine hnb _ ?_;first|omega|(simp only [World.size_alloc,size_wr,size_drew]<;>omega)))) only [go_sem,↓reduceIte,n0,reduceCtorEq,n1,n2,n3,n4,n5,i0,i1,i2,i3,i4,i5,i6,i7,hbt]
 refine ⟨hP1,?_⟩
 have hP2:Upd (ownB (.slice av done.length kv)) w.drew (w1.alloc (.cells #[.int .u32 y.1,.slice a1 y.2.length k1] 51)):=hP1.alloc _
 have hn2:blk (w1.alloc (.cells #[.int .u32 y.1,.slice a1 y.2.length k1] 51)) w1.heap.size=some (#[.int .u32 y.1,.slice a1 y.2.length k1],51,(0,0)):=blk_alloc_new rfl
 have hs2:(w1.alloc (.cells #[.int .u32 y.1,.slice a1 y.2.length k1] 51)).heap.size=w1.heap.size+1:=World.size_alloc _ _
 have hE2:Ext w1 (w1.alloc (.cells #[.int .u32 y.1,.slice a1 y.2.length k1] 51)):=Upd.alloc (Upd.refl _ _) _
 refine ⟨hP2,?_⟩
 try simp only [List.append_nil]
 generalize (w1.alloc (.cells #[.int .u32 y.1,.slice a1 y.2.length k1] 51))=w2 at *
 have hEw:Ext w w2:=(((Upd.refl _ _).drew).trans hE1).trans hE2
 obtain ⟨css,hown,hall⟩:=(hg.ext hEw).ex
 have hcl:=hall.1
 have hx2:TagC (fun b=>OK b∧b≠tb∧¬ ownB (.slice av done.length kv) b) w2 y [.int .u32 y.1,.slice a1 y.2.length k1]:=⟨_,rfl,(hB1.keep (hE2.keeps _)).weaken fun b _ hk=>⟨hOK b (by omega),by omega,hnb b (.inr hk)⟩,hy⟩
 refine wp_append ap_25_25 (m:=1) (news:=[.int .u32 y.1,.slice a1 y.2.length k1]) (n:=css.length) (cs:=css.flatten) (v:=.slice av done.length kv) ?_ rfl hown.1 hall.flat_cells (Src.blk (fr:=(0,0)) (T:=51) hn2 rfl rfl) ?_ ?_ ?_
 ·first|rfl|simp (maxSteps:=1000000)(disch:=(first|omega|(simp only [qI,qJ,qK]<;>omega)|exact qL _)) only [go_sem,↓reduceIte,n0,reduceCtorEq,n1,n2,n3,n4,n5,i0,i1,i2,i3,i4,i5,i6,i7]
 ·omega
 ·omega
 intro v' w3 ho hu hfr
 have hg3:=GrowU.snoc hown hall hx2 hu hfr ho
 obtain ⟨va,vc,hv',_⟩:=ho.shape
 subst hv'
 have hP3:=hP2.trans hu
 have hs3:=hu.size
 have hbt3:=hP3.blk_some (show blk w.drew tb=_ from hbt) (hnb _ (.inl htb))
 have hne:¬ ownB (.slice va (css.length+1) vc) tb:=fun h=>(hfr _ h).elim (hnb _ (.inl htb)) (fun h=>by omega)
 refine ⟨hP3,?_⟩
 simp (maxSteps:=1000000)(disch:=(first|omega|(simp only [qI,qJ,qK]<;>omega)|exact qL _|(refine hnb _ ?_;first|omega|(simp only [World.size_alloc,size_wr,size_drew]<;>omega)))) only [go_sem,↓reduceIte,n0,reduceCtorEq,n1,n2,n3,n4,n5,i0,i1,i2,i3,i4,i5,i6,i7,hbt3]
 repeat ((first|refine qA rfl ?_|apply qB|refine qC rfl ?_|apply qD|apply qE|apply qF|apply qG|apply qH);try simp (maxSteps:=1000000)(disch:=(first|omega|(simp only [qI,qJ,qK]<;>omega)|exact qL _)) only [go_sem,↓reduceIte,n0,reduceCtorEq,n1,n2,n3,n4,n5,i0,i1,i2,i3,i4,i5,i6,i7])
 refine ⟨⟨.slice va (css.length+1) vc,by first|(rw [blk_wr_eq,hbt3];rfl)|rfl|(rw [hbt3];rfl)|(rw [blk_wr_eq,hbt3]),hg3.upd ((Upd.refl _ _).wr _ _ (.inr rfl)) hne⟩,?_⟩
 refine Upd.wr ?_ _ _ (.inr (.inl rfl))
 exact (((Upd.refl (fun b=>b=tb∨B≤b) w).drew).trans (hP3.mono fun b h=>.inr (hg.above h)))

set_option maxHeartbeats 4000000 in
theorem tellQ_fn {d:Nat} {ok:Blocks} (t:Tree) (cs:List Value) (w:World) {b:Nat} {x:Blk} (hb:blk w b=some x) (hq:∀ k,k < 4→x.1[1+k]? = cs[k]?) (hR:RepS true (d+4) fs_Q ok w t cs) (hg:GoodP (d+4) fs_Q t) :
  Fn Tryd.prog 14 #[.pointer (some ⟨b,0,none⟩)] w fun r w'=>(∃ c,r = .agg c.toArray∧TreeC (fun b=>w.heap.size≤b) w' (tlP (d+4) fs_Q t) c)∧Ext w w':=by
 have hbl:=blk_lt hb
 obtain ⟨⟨gd0,gd1,gd2,-⟩,hgu⟩:=hg
 replace gd0:GoodF (GoodP (d+3)) fQ_0 (t.at 0):=gd0
 replace gd1:GoodF (GoodP (d+3)) fQ_1 (t.at 1):=gd1
 replace gd2:GoodF (GoodP (d+3)) fQ_2 (t.at 2):=gd2
 obtain ⟨cs0,q,hcs,hL,hT⟩:=hR.inv
 obtain ⟨c0,e0,rfl,h0,c1,e1,rfl,h1,c2,e2,rfl,h2,rfl⟩:=hL
 replace h0:RepF (RepS true (d+3)) (szS true (d+3)) fQ_0 ok w (t.at 0) c0:=h0
 replace h1:RepF (RepS true (d+3)) (szS true (d+3)) fQ_1 ok w (t.at 1) c1:=h1
 replace h2:RepF (RepS true (d+3)) (szS true (d+3)) fQ_2 ok w (t.at 2) c2:=h2
 obtain rfl:=(RepF_num (by decide)).1 h0
 obtain rfl:=(RepF_num (by decide)).1 h1
 obtain ⟨ab2,ac2,L2,rfl,hL2,hnn2,hs2⟩:=RepF_listT rfl h2
 have hgl2:=gd2.listL rfl hL2
 obtain ⟨qm,rfl⟩:=hT.shape
 subst hcs
 have hq0:x.1[1]? = some (.int .i32 (IntKind.i32.wrap (t.at 0).n)):=hq 0 (by decide)
 have hq1:x.1[2]? = some (.int .i64 (t.at 1).n):=hq 1 (by decide)
 have hq2:x.1[3]? = some (.slice ab2 L2.length ac2):=hq 2 (by decide)
 have hq3:x.1[4]? = some (.map qm):=hq 3 (by decide)
 have hn64_1:=(gd1.one (by decide)).1 rfl
 refine fn_of_W Tryd.func14 rfl Tryd.results14 Tryd.ntmps14 rfl ?_
 repeat ((first|refine qA rfl ?_|apply qB|refine qC rfl ?_|apply qD|apply qE|apply qF|apply qG|apply qH);try simp (maxSteps:=1000000)(disch:=(first|omega|(simp only [qI,qJ,qK]<;>omega)|exact qL _)) only [go_sem,↓reduceIte,n0,reduceCtorEq,n1,n2,n3,n4,n5,i0,i1,i2,i3,i4,i5,i6,i7])
 refine wp_make (T:=24) (E:=27) (size:=5) (bytes:=88) (z:=.agg qZ5) (l:=3) (c:=3) (kl:=.i64) (kc:=.i64) (by kernel_rfl) (by kernel_rfl) (by first|rfl|(simp (maxSteps:=1000000)(disch:=(first|omega|(simp only [qI,qJ,qK]<;>omega)|exact qL _)) only [go_sem,↓reduceIte,n0,reduceCtorEq,n1,n2,n3,n4,n5,i0,i1,i2,i3,i4,i5,i6,i7];rfl)) (by first|rfl|(simp (maxSteps:=1000000)(disch:=(first|omega|(simp only [qI,qJ,qK]<;>omega)|exact qL _)) only [go_sem,↓reduceIte,n0,reduceCtorEq,n1,n2,n3,n4,n5,i0,i1,i2,i3,i4,i5,i6,i7];rfl)) (by omega) (by omega) (by omega) ?_
 have hmd:madeCells (Value.agg qZ5).cells (3 * 5)=#[.int .i64 0,.slice none 0 0,.bool false,.slice none 0 0,.slice none 0 0,.int .i64 0,.slice none 0 0,.bool false,.slice none 0 0,.slice none 0 0,.int .i64 0,.slice none 0 0,.bool false,.slice none 0 0,.slice none 0 0]:=by kernel_rfl
 rw [hmd]
 simp (maxSteps:=1000000)(disch:=(first|omega|(simp only [qI,qJ,qK]<;>omega)|exact qL _)) only [go_sem,↓reduceIte,n0,reduceCtorEq,n1,n2,n3,n4,n5,i0,i1,i2,i3,i4,i5,i6,i7]
 repeat ((first|refine qA rfl ?_|apply qB|refine qC rfl ?_|apply qD|apply qE|apply qF|apply qG|apply qH);try simp (maxSteps:=1000000)(disch:=(first|omega|(simp only [qI,qJ,qK]<;>omega)|exact qL _)) only [go_sem,↓reduceIte,n0,reduceCtorEq,n1,n2,n3,n4,n5,i0,i1,i2,i3,i4,i5,i6,i7])
 have hE1:Ext w (wr (((w.alloc (.cells qZ5 27)).alloc (.cells #[.int .i64 0,.slice none 0 0,.bool false,.slice none 0 0,.slice none 0 0,.int .i64 0,.slice none 0 0,.bool false,.slice none 0 0,.slice none 0 0,.int .i64 0,.slice none 0 0,.bool false,.slice none 0 0,.slice none 0 0] 27)).alloc (.cells qZ5 27)) (w.heap.size+2) 0 [.int .i64 0,.slice none 0 0,.bool false,.slice (some ⟨w.heap.size+1,0,none⟩) 3 3,.slice none 0 0]):=(Upd.alloc (Upd.alloc (Upd.alloc (Upd.refl _ _) _) _) _).wr _ _ (.inl (by omega))
 have hz1:(wr (((w.alloc (.cells qZ5 27)).alloc (.cells #[.int .i64 0,.slice none 0 0,.bool false,.slice none 0 0,.slice none 0 0,.int .i64 0,.slice none 0 0,.bool false,.slice none 0 0,.slice none 0 0,.int .i64 0,.slice none 0 0,.bool false,.slice none 0 0,.slice none 0 0] 27)).alloc (.cells qZ5 27)) (w.heap.size+2) 0 [.int .i64 0,.slice none 0 0,.bool false,.slice (some ⟨w.heap.size+1,0,none⟩) 3 3,.slice none 0 0]).heap.size=w.heap.size+3:=by simp only [size_wr,World.size_alloc]
 have hl1:blk (wr (((w.alloc (.cells qZ5 27)).alloc (.cells #[.int .i64 0,.slice none 0 0,.bool false,.slice none 0 0,.slice none 0 0,.int .i64 0,.slice none 0 0,.bool false,.slice none 0 0,.slice none 0 0,.int .i64 0,.slice none 0 0,.bool false,.slice none 0 0,.slice none 0 0] 27)).alloc (.cells qZ5 27)) (w.heap.size+2) 0 [.int .i64 0,.slice none 0 0,.bool false,.slice (some ⟨w.heap.size+1,0,none⟩) 3 3,.slice none 0 0]) (w.heap.size+1)=some (#[.int .i64 0,.slice none 0 0,.bool false,.slice none 0 0,.slice none 0 0,.int .i64 0,.slice none 0 0,.bool false,.slice none 0 0,.slice none 0 0,.int .i64 0,.slice none 0 0,.bool false,.slice none 0 0,.slice none 0 0],27,(0,0)):=by simp (maxSteps:=1000000)(disch:=(first|omega|(simp only [qI,qJ,qK]<;>omega)|exact qL _)) only [go_sem,↓reduceIte,n0,reduceCtorEq,n1,n2,n3,n4,n5,i0,i1,i2,i3,i4,i5,i6,i7]
 have ht1:blk (wr (((w.alloc (.cells qZ5 27)).alloc (.cells #[.int .i64 0,.slice none 0 0,.bool false,.slice none 0 0,.slice none 0 0,.int .i64 0,.slice none 0 0,.bool false,.slice none 0 0,.slice none 0 0,.int .i64 0,.slice none 0 0,.bool false,.slice none 0 0,.slice none 0 0] 27)).alloc (.cells qZ5 27)) (w.heap.size+2) 0 [.int .i64 0,.slice none 0 0,.bool false,.slice (some ⟨w.heap.size+1,0,none⟩) 3 3,.slice none 0 0]) (w.heap.size+2)=some (#[.int .i64 0,.slice none 0 0,.bool false,.slice (some ⟨w.heap.size+1,0,none⟩) 3 3,.slice none 0 0],27,(0,0)):=by simp (maxSteps:=1000000)(disch:=(first|omega|(simp only [qI,qJ,qK]<;>omega)|exact qL _)) only [go_sem,↓reduceIte,n0,reduceCtorEq,n1,n2,n3,n4,n5,i0,i1,i2,i3,i4,i5,i6,i7]
 have hr1:blk (wr (((w.alloc (.cells qZ5 27)).alloc (.cells #[.int .i64 0,.slice none 0 0,.bool false,.slice none 0 0,.slice none 0 0,.int .i64 0,.slice none 0 0,.bool false,.slice none 0 0,.slice none 0 0,.int .i64 0,.slice none 0 0,.bool false,.slice none 0 0,.slice none 0 0] 27)).alloc (.cells qZ5 27)) (w.heap.size+2) 0 [.int .i64 0,.slice none 0 0,.bool false,.slice (some ⟨w.heap.size+1,0,none⟩) 3 3,.slice none 0 0]) w.heap.size=some (qZ5,27,(0,0)):=by simp (maxSteps:=1000000)(disch:=(first|omega|(simp only [qI,qJ,qK]<;>omega)|exact qL _)) only [go_sem,↓reduceIte,n0,reduceCtorEq,n1,n2,n3,n4,n5,i0,i1,i2,i3,i4,i5,i6,i7]
 obtain ⟨w1,hw1⟩:∃ y,y=(wr (((w.alloc (.cells qZ5 27)).alloc (.cells #[.int .i64 0,.slice none 0 0,.bool false,.slice none 0 0,.slice none 0 0,.int .i64 0,.slice none 0 0,.bool false,.slice none 0 0,.slice none 0 0,.int .i64 0,.slice none 0 0,.bool false,.slice none 0 0,.slice none 0 0] 27)).alloc (.cells qZ5 27)) (w.heap.size+2) 0 [.int .i64 0,.slice none 0 0,.bool false,.slice (some ⟨w.heap.size+1,0,none⟩) 3 3,.slice none 0 0]):=⟨_,rfl⟩
 rw [← hw1] at hE1 hz1 hl1 ht1 hr1
 rw [← hw1]
 clear hw1
 have hU1:Upd (fun b=>b=w.heap.size+1∨b=w.heap.size+2) w1 w1:=Upd.refl _ _
 have hb1:=hE1.blk_some hb id
 repeat ((first|refine qA rfl ?_|apply qB|refine qC rfl ?_|apply qD|apply qE|apply qF|apply qG|apply qH);try simp (maxSteps:=1000000)(disch:=(first|omega|(simp only [qI,qJ,qK]<;>omega)|exact qL _)) only [go_sem,↓reduceIte,n0,reduceCtorEq,n1,n2,n3,n4,n5,i0,i1,i2,i3,i4,i5,i6,i7,hb1,hl1,ht1,hq0,hq1,hq2,hq3])
 refine W.drawR (.take 0 (.take 1 (.take 2 (.take 3 (.take 4 (.take 5 (.take 6 (.only 7 (.take 8 (.last 9)))))))))) (NoB) mixed (by kernel_rfl) ?_
 try simp (maxSteps:=1000000)(disch:=(first|omega|(simp only [qI,qJ,qK]<;>omega)|exact qL _)) only [go_sem,↓reduceIte,n0,reduceCtorEq,n1,n2,n3,n4,n5,i0,i1,i2,i3,i4,i5,i6,i7,hb1,hl1,ht1,hq0,hq1,hq2,hq3,tl32]
 refine ⟨Upd.refl _ _,?_⟩
 have hlq2:blk w1.drew (w.heap.size+1)=_:=hl1
 have hx2:Upd (fun b=>b=w.heap.size+1∨b=w.heap.size+2) w1 w1.drew:=(Upd.refl _ _).drew
 generalize hw2:wr w1.drew (w.heap.size+1) 0 [.int .i64 (IntKind.i32.wrap (t.at 0).n),.slice none 0 0,.bool false,.slice none 0 0,.slice none 0 0] = w2
 have hl2:blk w2 (w.heap.size+1)=some (#[.int .i64 (IntKind.i32.wrap (t.at 0).n),.slice none 0 0,.bool false,.slice none 0 0,.slice none 0 0,.int .i64 0,.slice none 0 0,.bool false,.slice none 0 0,.slice none 0 0,.int .i64 0,.slice none 0 0,.bool false,.slice none 0 0,.slice none 0 0],27,(0,0)):=by rw [← hw2,blk_wr_eq,hlq2];rfl
 have hv2:Upd (fun b=>b=w.heap.size+1∨b=w.heap.size+2) w1.drew w2:=by rw [← hw2];exact (Upd.refl _ _).wr _ _ (.inr (.inl rfl))
 have hV2:Upd (fun b=>b=w.heap.size+1∨b=w.heap.size+2) w1 w2:=hx2.trans hv2
 have hU2:Upd (fun b=>b=w.heap.size+1∨b=w.heap.size+2) w1 w2:=hU1.trans hV2
 have hz2:=hU2.size
 have hX2:Ext w w2:=hE1.more hU2 fun b hb h=>by omega
 have hb2:=hX2.blk_some hb id
 have ht2:blk w2 (w.heap.size+2)=some (#[.int .i64 0,.slice none 0 0,.bool false,.slice (some ⟨w.heap.size+1,0,none⟩) 3 3,.slice none 0 0],27,(0,0)):=by
  rw [← hw2,blk_wr_ne (by omega)]
  exact ht1
 clear hw2
 have hf0:TreeC (fun b=>w1.heap.size≤b) w2 (.num (IntKind.i32.wrap (t.at 0).n)) [.int .i64 (IntKind.i32.wrap (t.at 0).n),.slice none 0 0,.bool false,.slice none 0 0,.slice none 0 0]:=(TreeC.keep (hv2.keeps fun b hb hk e=>by have hk':w1.heap.size≤b:=hk;omega) (TreeC.intro (tl32 _) (BytesV.nil _ _) (treesN _ _) (tagsN _ _):TreeC (fun b=>w1.heap.size≤b) w1.drew (.num (IntKind.i32.wrap (t.at 0).n)) [.int .i64 (IntKind.i32.wrap (t.at 0).n),.slice none 0 0,.bool false,.slice none 0 0,.slice none 0 0]))
 repeat ((first|refine qA rfl ?_|apply qB|refine qC rfl ?_|apply qD|apply qE|apply qF|apply qG|apply qH);try simp (maxSteps:=1000000)(disch:=(first|omega|(simp only [qI,qJ,qK]<;>omega)|exact qL _)) only [go_sem,↓reduceIte,n0,reduceCtorEq,n1,n2,n3,n4,n5,i0,i1,i2,i3,i4,i5,i6,i7,hb2,hl2,ht2,hq0,hq1,hq2,hq3])
 refine W.drawR (.take 0 (.take 1 (.take 2 (.take 3 (.take 4 (.take 5 (.only 6 (.take 7 (.last 8))))))))) (NoB) mixed (by kernel_rfl) ?_
 try simp (maxSteps:=1000000)(disch:=(first|omega|(simp only [qI,qJ,qK]<;>omega)|exact qL _)) only [go_sem,↓reduceIte,n0,reduceCtorEq,n1,n2,n3,n4,n5,i0,i1,i2,i3,i4,i5,i6,i7,hb2,hl2,ht2,hq0,hq1,hq2,hq3]
 refine ⟨Upd.refl _ _,?_⟩
 have hlq3:blk w2.drew (w.heap.size+1)=_:=hl2
 have hx3:Upd (fun b=>b=w.heap.size+1∨b=w.heap.size+2) w2 w2.drew:=(Upd.refl _ _).drew
 generalize hw3:wr w2.drew (w.heap.size+1) 5 [.int .i64 ((t.at 1).n),.slice none 0 0,.bool false,.slice none 0 0,.slice none 0 0] = w3
 have hl3:blk w3 (w.heap.size+1)=some (#[.int .i64 (IntKind.i32.wrap (t.at 0).n),.slice none 0 0,.bool false,.slice none 0 0,.slice none 0 0,.int .i64 ((t.at 1).n),.slice none 0 0,.bool false,.slice none 0 0,.slice none 0 0,.int .i64 0,.slice none 0 0,.bool false,.slice none 0 0,.slice none 0 0],27,(0,0)):=by rw [← hw3,blk_wr_eq,hlq3];rfl
 have hv3:Upd (fun b=>b=w.heap.size+1∨b=w.heap.size+2) w2.drew w3:=by rw [← hw3];exact (Upd.refl _ _).wr _ _ (.inr (.inl rfl))
 have hV3:Upd (fun b=>b=w.heap.size+1∨b=w.heap.size+2) w2 w3:=hx3.trans hv3
 have hU3:Upd (fun b=>b=w.heap.size+1∨b=w.heap.size+2) w1 w3:=hU2.trans hV3
 have hz3:=hU3.size
 have hX3:Ext w w3:=hE1.more hU3 fun b hb h=>by omega
 have hb3:=hX3.blk_some hb id
 have ht3:blk w3 (w.heap.size+2)=some (#[.int .i64 0,.slice none 0 0,.bool false,.slice (some ⟨w.heap.size+1,0,none⟩) 3 3,.slice none 0 0],27,(0,0)):=by
  rw [← hw3,blk_wr_ne (by omega)]
  exact ht2
 clear hw3
 have hf1:TreeC (fun b=>w1.heap.size≤b) w3 (.num ((t.at 1).n)) [.int .i64 ((t.at 1).n),.slice none 0 0,.bool false,.slice none 0 0,.slice none 0 0]:=(TreeC.keep (hv3.keeps fun b hb hk e=>by have hk':w1.heap.size≤b:=hk;omega) (TreeC.intro (hn64_1) (BytesV.nil _ _) (treesN _ _) (tagsN _ _):TreeC (fun b=>w1.heap.size≤b) w2.drew (.num ((t.at 1).n)) [.int .i64 ((t.at 1).n),.slice none 0 0,.bool false,.slice none 0 0,.slice none 0 0]))
 repeat ((first|refine qA rfl ?_|apply qB|refine qC rfl ?_|apply qD|apply qE|apply qF|apply qG|apply qH);try simp (maxSteps:=1000000)(disch:=(first|omega|(simp only [qI,qJ,qK]<;>omega)|exact qL _)) only [go_sem,↓reduceIte,n0,reduceCtorEq,n1,n2,n3,n4,n5,i0,i1,i2,i3,i4,i5,i6,i7,hb3,hl3,ht3,hq0,hq1,hq2,hq3])
 refine W.drawR (.take 0 (.take 1 (.take 2 (.take 3 (.take 4 (.take 5 (.take 6 (.take 7 (.take 8 (.last 9)))))))))) (NoB) mixed (by kernel_rfl) ?_
 try simp (maxSteps:=1000000)(disch:=(first|omega|(simp only [qI,qJ,qK]<;>omega)|exact qL _)) only [go_sem,↓reduceIte,n0,reduceCtorEq,n1,n2,n3,n4,n5,i0,i1,i2,i3,i4,i5,i6,i7,hb3,hl3,ht3,hq0,hq1,hq2,hq3,hnn2]
 generalize hw4:wr w3.drew (w.heap.size+1) 12 [.bool (t.at 2).null] = w4
 have hl4:blk w4 (w.heap.size+1)=some (#[.int .i64 (IntKind.i32.wrap (t.at 0).n),.slice none 0 0,.bool false,.slice none 0 0,.slice none 0 0,.int .i64 ((t.at 1).n),.slice none 0 0,.bool false,.slice none 0 0,.slice none 0 0,.int .i64 0,.slice none 0 0,.bool (t.at 2).null,.slice none 0 0,.slice none 0 0],27,(0,0)):=by rw [← hw4,blk_wr_eq,show blk w3.drew (w.heap.size+1)=_ from hl3];rfl
 have hV4:Upd (fun b=>b=w.heap.size+1∨b=w.heap.size+2) w3 w4:=by rw [← hw4];exact ((Upd.refl _ _).drew).wr _ _ (.inr (.inl rfl))
 have hU4:Upd (fun b=>b=w.heap.size+1∨b=w.heap.size+2) w1 w4:=hU3.trans hV4
 have hz4:=hU4.size
 have hX4:Ext w w4:=hE1.more hU4 fun b hb h=>by omega
 have hb4:=hX4.blk_some hb id
 have ht4:blk w4 (w.heap.size+2)=some (#[.int .i64 0,.slice none 0 0,.bool false,.slice (some ⟨w.heap.size+1,0,none⟩) 3 3,.slice none 0 0],27,(0,0)):=by
  rw [← hw4,blk_wr_ne (by omega)]
  exact ht3
 clear hw4
 repeat ((first|refine qA rfl ?_|apply qB|refine qC rfl ?_|apply qD|apply qE|apply qF|apply qG|apply qH);try simp (maxSteps:=1000000)(disch:=(first|omega|(simp only [qI,qJ,qK]<;>omega)|exact qL _)) only [go_sem,↓reduceIte,n0,reduceCtorEq,n1,n2,n3,n4,n5,i0,i1,i2,i3,i4,i5,i6,i7,hb4,hl4,ht4,hq0,hq1,hq2,hq3])
 refine W.exitJ 0 (EndQ [(0,.pointer (some ⟨b,0,none⟩)),(2,.pointer (some ⟨w.heap.size,0,none⟩)),(3,.pointer (some ⟨w.heap.size+2,0,none⟩)),(37,.int .i64 L2.length)] (fun w'=>∃ v,blk w' (w.heap.size+1)=some (#[.int .i64 (IntKind.i32.wrap (t.at 0).n),.slice none 0 0,.bool false,.slice none 0 0,.slice none 0 0,.int .i64 ((t.at 1).n),.slice none 0 0,.bool false,.slice none 0 0,.slice none 0 0,.int .i64 0,.slice none 0 0,.bool (t.at 2).null,v,.slice none 0 0],27,(0,0))∧GrowT (fun b=>w1.heap.size≤b) w4.heap.size (w.heap.size+1) w' 27 v (L2.map (tl1 (tlP (d+3)) fQ_2.of fQ_2.sub))∧Upd (fun b=>b=w.heap.size+1) w4 w')) (W.loop (LoopL [(0,.pointer (some ⟨b,0,none⟩)),(2,.pointer (some ⟨w.heap.size,0,none⟩)),(3,.pointer (some ⟨w.heap.size+2,0,none⟩)),(37,.int .i64 L2.length)] 38 (fun j w'=>∃ v,j≤L2.length∧blk w' (w.heap.size+1)=some (#[.int .i64 (IntKind.i32.wrap (t.at 0).n),.slice none 0 0,.bool false,.slice none 0 0,.slice none 0 0,.int .i64 ((t.at 1).n),.slice none 0 0,.bool false,.slice none 0 0,.slice none 0 0,.int .i64 0,.slice none 0 0,.bool (t.at 2).null,v,.slice none 0 0],27,(0,0))∧GrowT (fun b=>w1.heap.size≤b) w4.heap.size (w.heap.size+1) w' 27 v ((L2.take j).map (tl1 (tlP (d+3)) fQ_2.of fQ_2.sub))∧Upd (fun b=>b=w.heap.size+1) w4 w')) (fun ρ _=>L2.length - (RowKit.intOf (ρ 38)).toNat) ?_ ?_) ?_
 ·exact ⟨(by simp (maxSteps:=1000000)(disch:=(first|omega|(simp only [qI,qJ,qK]<;>omega)|exact qL _)) only [go_sem,↓reduceIte,n0,reduceCtorEq,n1,n2,n3,n4,n5,i0,i1,i2,i3,i4,i5,i6,i7,Holds_nil,Holds_cons]),0,(by simp (maxSteps:=1000000)(disch:=(first|omega|(simp only [qI,qJ,qK]<;>omega)|exact qL _)) only [go_sem,↓reduceIte,n0,reduceCtorEq,n1,n2,n3,n4,n5,i0,i1,i2,i3,i4,i5,i6,i7];all_goals rfl),.slice none 0 0,Nat.zero_le _,hl4,GrowT.nil _ _ _ _ _,Upd.refl _ _⟩
 ·rintro ρ w5 ⟨⟨hrc2_0,hrc2_2,hrc2_3,hrc2_37,-⟩,j,hri,v,hj,hl5,hg,hUk⟩
  have hzk:=hUk.size
  have hX5:Ext w w5:=hX4.more hUk fun b hb h=>by omega
  have hz5:w1.heap.size≤w5.heap.size:=by have:=hz4;omega
  have hb5:=hX5.blk_some hb id
  have ht5:=hUk.blk_some ht4 (by omega)
  by_cases hlt:j < L2.length
  ·obtain ⟨_,be,oe,xe,ce,hbe,hoke,hxe,hble,hxs,hxx,hqe,hRe⟩:=SlR.get (size:=19) (by decide) hs2 hlt
   subst hbe
   have hcat:L2.take (j+1)=L2.take j++[L2[j]]:=List.take_succ_eq_append_getElem hlt
   have hgy:=hgl2.2 _ (List.getElem_mem hlt)
   have hll:=hgl2.1
   obtain ⟨av,kv,hvs,_⟩:=hg.shape
   have hlj:(List.map (tl1 (tlP (d+3)) fQ_2.of fQ_2.sub) (L2.take j)).length=j:=by simp;omega
   rw [hlj] at hvs
   subst hvs
   have hnb:∀ b,b < w4.heap.size∨w5.heap.size≤b→¬ ownB (.slice av j kv) b:=fun b hb h=>by
    have:=hg.above h
    have:=hg.below h
    omega
   generalize L2[j] = y at *
   repeat ((first|refine qA rfl ?_|apply qB|refine qC rfl ?_|apply qD|apply qE|apply qF|apply qG|apply qH);try simp (maxSteps:=1000000)(disch:=(first|omega|(simp only [qI,qJ,qK]<;>omega)|exact qL _)) only [go_sem,↓reduceIte,n0,reduceCtorEq,n1,n2,n3,n4,n5,i0,i1,i2,i3,i4,i5,i6,i7,hb5,hl5,ht5,hq0,hq1,hq2,hq3,hrc2_0,hrc2_2,hrc2_3,hrc2_37,hri])
   refine W.drawR (.only 0 (.two 1 (.only 2 (.only 3 .done)) 2 (.only 1 (.only 3 .done)))) NoB mixed (by kernel_rfl) ?_
   try simp (maxSteps:=1000000)(disch:=(first|omega|(simp only [qI,qJ,qK]<;>omega)|exact qL _)) only [go_sem,↓reduceIte,n0,reduceCtorEq,n1,n2,n3,n4,n5,i0,i1,i2,i3,i4,i5,i6,i7,hb5,hl5,ht5,hq0,hq1,hq2,hq3,hrc2_0,hrc2_2,hrc2_3,hrc2_37,hri]
   have q0:Upd NoB w5.drew (w5.alloc (.cells #[.bool false] 4)).drew:=show Upd NoB w5.drew (w5.drew.alloc (.cells #[.bool false] 4)) from Upd.alloc (Upd.refl _ _) _
   have q1:Upd NoB w5.drew (wr (w5.alloc (.cells #[.bool false] 4)).drew w5.heap.size 0 [.bool true]):=q0.wr _ _ (.inl (Nat.le_refl _))
   have q2:Upd NoB w5.drew (wr (wr (w5.alloc (.cells #[.bool false] 4)).drew w5.heap.size 0 [.bool true]) w5.heap.size 0 [.bool false]):=q1.wr _ _ (.inl (Nat.le_refl _))
   have q3:Upd NoB w5.drew (wr (w5.alloc (.cells #[.bool false] 4)).drew w5.heap.size 0 [.bool false]):=q0.wr _ _ (.inl (Nat.le_refl _))
   have q4:Upd NoB w5.drew (wr (wr (w5.alloc (.cells #[.bool false] 4)).drew w5.heap.size 0 [.bool false]) w5.heap.size 0 [.bool true]):=q3.wr _ _ (.inl (Nat.le_refl _))
   refine ⟨q0,⟨q1,q2,q2,?_⟩,⟨q3,q4,q4,?_⟩⟩
   ·have hk6:Ext w5 (wr (wr (w5.alloc (.cells #[.bool false] 4)).drew w5.heap.size 0 [.bool true]) w5.heap.size 0 [.bool false]):=((Upd.refl _ _).drew).trans q2
    generalize (wr (wr (w5.alloc (.cells #[.bool false] 4)).drew w5.heap.size 0 [.bool true]) w5.heap.size 0 [.bool false])=w6 at *
    have hzk6:=hk6.size
    have hX6:Ext w w6:=hX5.trans hk6
    have hb6:=hk6.blk_some hb5 id
    have hl6:=hk6.blk_some hl5 id
    have ht6:=hk6.blk_some ht5 id
    have hxe6:=hX6.blk_some hxe id
    repeat ((first|refine qA rfl ?_|apply qB|refine qC rfl ?_|apply qD|apply qE|apply qF|apply qG|apply qH);try simp (maxSteps:=1000000)(disch:=(first|omega|(simp only [qI,qJ,qK]<;>omega)|exact qL _)) only [go_sem,↓reduceIte,n0,reduceCtorEq,n1,n2,n3,n4,n5,i0,i1,i2,i3,i4,i5,i6,i7,hb6,hl6,ht6,hxe6,Int.toNat_natCast,Nat.mul_one,hq0,hq1,hq2,hq3,hrc2_0,hrc2_2,hrc2_3,hrc2_37,hri])
    refine W.drawR (.take 0 (.take 1 (.take 2 (.take 3 (.take 4 (.take 5 (.take 6 (.take 7 (.take 8 (.take 9 (.take 10 (.take 11 (.take 12 (.only 13 (.only 14 (.only 15 (.take 16 (.take 17 (.last 18))))))))))))))))))) (ownB (.slice av j kv)) mixed (by kernel_rfl) ?_
    try simp (maxSteps:=1000000)(disch:=(first|omega|(simp only [qI,qJ,qK]<;>omega)|exact qL _|(refine hnb _ ?_;first|omega|(simp only [World.size_alloc,size_wr,size_drew]<;>omega)))) only [go_sem,↓reduceIte,n0,reduceCtorEq,n1,n2,n3,n4,n5,i0,i1,i2,i3,i4,i5,i6,i7,hb6,hl6,ht6,hxe6,Int.toNat_natCast,Nat.mul_one,hq0,hq1,hq2,hq3,hrc2_0,hrc2_2,hrc2_3,hrc2_37,hri]
    have hxq7:=(Upd.refl _ _:Upd (ownB (.slice av j kv)) w6.drew w6.drew).blk_some (show blk w6.drew be=_ from hxe6) (hnb _ (.inl (by omega)))
    refine (tellX2_fn (d:=d) (ok:=ok) y ce w6.drew (b:=be) (o:=oe+j * 19) hxq7 (fun k hk=>by have:=hqe k hk;rw [← Nat.add_assoc] at this;exact this) ((RepS_lay true _ _).keep (Rep1_part.1 hRe) ((((hX6.drew).mono fun _ h=>h.elim).trans (Upd.refl _ _):Upd (ownB (.slice av j kv)) w w6.drew).keeps fun b hb _=>hnb b (.inl (by omega)))) (hgy.2.2 rfl)).mono ?_
    rintro _ w7 ⟨⟨c7,rfl,hc7⟩,hEx7⟩
    obtain ⟨T7,hT7⟩:∃ T,T=tlP (d+3) fs_X2 y:=⟨_,rfl⟩
    replace hc7:TreeC (fun b=>w6.drew.heap.size≤b) w7 T7 c7:=by rw [hT7];exact hc7
    obtain ⟨vS7,vL7,vU7,rfl,hn7,hS7,hLL7,hUU7⟩:=hc7.inv
    have k1_7:=hS7.flat
    have k2_7:=SlR.flat hLL7
    have k3_7:=SlR.flat hUU7
    have hP7:Upd (ownB (.slice av j kv)) w6.drew w7:=(Upd.refl _ _).trans (hEx7.mono fun _ h=>h.elim)
    have hsq7:=hEx7.size
    try simp only [size_drew] at hsq7
    refine ⟨hP7,?_⟩
    try simp (maxSteps:=1000000)(disch:=(first|omega|(simp only [qI,qJ,qK]<;>omega)|exact qL _|(refine hnb _ ?_;first|omega|(simp only [World.size_alloc,size_wr,size_drew]<;>omega)))) only [go_sem,↓reduceIte,n0,reduceCtorEq,n1,n2,n3,n4,n5,i0,i1,i2,i3,i4,i5,i6,i7,hb6,hl6,ht6,hxe6,Int.toNat_natCast,Nat.mul_one,hq0,hq1,hq2,hq3,hrc2_0,hrc2_2,hrc2_3,hrc2_37,hri,k1_7,k2_7,k3_7]
    have hP8:Upd (ownB (.slice av j kv)) w6.drew (w7.alloc (.cells #[.int .i64 T7.n,vS7,.bool T7.null,vL7,vU7] 27)):=show Upd (ownB (.slice av j kv)) w6.drew (w7.alloc (.cells #[.int .i64 T7.n,vS7,.bool T7.null,vL7,vU7] 27)) from (hP7).alloc _
    have hn8:blk (w7.alloc (.cells #[.int .i64 T7.n,vS7,.bool T7.null,vL7,vU7] 27)) w7.heap.size=some (#[.int .i64 T7.n,vS7,.bool T7.null,vL7,vU7],27,(0,0)):=show blk (w7.alloc (.cells #[.int .i64 T7.n,vS7,.bool T7.null,vL7,vU7] 27)) w7.heap.size=some (#[.int .i64 T7.n,vS7,.bool T7.null,vL7,vU7],27,(0,0)) from blk_alloc_new rfl
    have hsq8:(w7.alloc (.cells #[.int .i64 T7.n,vS7,.bool T7.null,vL7,vU7] 27)).heap.size=w7.heap.size+1:=show (w7.alloc (.cells #[.int .i64 T7.n,vS7,.bool T7.null,vL7,vU7] 27)).heap.size=w7.heap.size+1 from World.size_alloc _ _
    have hEx8:Ext w7 (w7.alloc (.cells #[.int .i64 T7.n,vS7,.bool T7.null,vL7,vU7] 27)):=show Ext w7 (w7.alloc (.cells #[.int .i64 T7.n,vS7,.bool T7.null,vL7,vU7] 27)) from Upd.alloc (Upd.refl _ _) _
    refine ⟨hP8,?_⟩
    try simp only [List.append_nil]
    generalize (w7.alloc (.cells #[.int .i64 T7.n,vS7,.bool T7.null,vL7,vU7] 27))=w8 at *
    try simp only [size_drew] at hsq8
    have hEw9:Ext w5 w8:=((hk6.drew.trans hEx7).trans hEx8)
    have hzw9:=hEw9.size
    obtain ⟨css,hown,hall⟩:=(hg.ext hEw9).ex
    have hcl:=hall.1
    rw [hlj] at hcl
    have hx9:TreeC (fun b=>(fun b=>w1.heap.size≤b) b∧b≠w.heap.size+1∧¬ ownB (.slice av j kv) b) w8 ((tl1 (tlP (d+3)) fQ_2.of fQ_2.sub) y) [.int .i64 T7.n,vS7,.bool T7.null,vL7,vU7]:=by
     rw [show (tl1 (tlP (d+3)) fQ_2.of fQ_2.sub) y=_ from hT7.symm]
     exact TreeC.weaken (fun b _ hk=>⟨by omega,by omega,hnb b (.inr (by omega))⟩) (TreeC.weaken (ok':=fun b=>w5.heap.size≤b) (fun b _ hk=>by have hk':w6.drew.heap.size≤b:=hk;(try simp only [size_drew] at hk');omega) (TreeC.keep (Ext.keeps hEx8 _) hc7))
    refine wp_append ap_24_24 (m:=1) (news:=[.int .i64 T7.n,vS7,.bool T7.null,vL7,vU7]) (n:=css.length) (cs:=css.flatten) (v:=(.slice av j kv)) ?_ rfl hown.1 (all2_flat_tree hall) (Src.blk (fr:=(0,0)) (T:=27) hn8 rfl (by simp only [List.all_cons,List.all_nil,flat_int,flat_bool,k1_7,k2_7,k3_7,Bool.and_self])) ?_ ?_ ?_
    ·first|rfl|simp (maxSteps:=1000000)(disch:=(first|omega|(simp only [qI,qJ,qK]<;>omega)|exact qL _)) only [go_sem,↓reduceIte,n0,reduceCtorEq,n1,n2,n3,n4,n5,i0,i1,i2,i3,i4,i5,i6,i7]
    ·omega
    ·omega
    intro v' w9 ho hu hfr
    have hP9:=(hP8:Upd (ownB (.slice av j kv)) w6.drew w8).trans hu
    have hzq9:=hP9.size
    simp only [size_drew] at hzq9
    have hlq9:=hP9.blk_some (show blk w6.drew (w.heap.size+1)=_ from hl6) (hnb _ (.inl (by omega)))
    have hg':=GrowT.snoc hown hall hx9 hu hfr ho
    obtain ⟨va,vc,hv',_⟩:=ho.shape
    subst hv'
    have hne:¬ ownB (.slice va (css.length+1) vc) (w.heap.size+1):=fun h=>(hfr _ h).elim (hnb _ (.inl (by omega))) (fun h=>by omega)
    refine ⟨hP9,?_⟩
    try simp (maxSteps:=1000000)(disch:=(first|omega|(simp only [qI,qJ,qK]<;>omega)|exact qL _|(refine hnb _ ?_;first|omega|(simp only [World.size_alloc,size_wr,size_drew]<;>omega)))) only [go_sem,↓reduceIte,n0,reduceCtorEq,n1,n2,n3,n4,n5,i0,i1,i2,i3,i4,i5,i6,i7,hlq9,Int.toNat_natCast,Nat.mul_one,hrc2_0,hrc2_2,hrc2_3,hrc2_37,hri]
    repeat ((first|refine qA rfl ?_|apply qB|refine qC rfl ?_|apply qD|apply qE|apply qF|apply qG|apply qH);try simp (maxSteps:=1000000)(disch:=(first|omega|(simp only [qI,qJ,qK]<;>omega)|exact qL _)) only [go_sem,↓reduceIte,n0,reduceCtorEq,n1,n2,n3,n4,n5,i0,i1,i2,i3,i4,i5,i6,i7,hlq9,Int.toNat_natCast,Nat.mul_one,hrc2_0,hrc2_2,hrc2_3,hrc2_37,hri])
    refine ⟨⟨(by simp (maxSteps:=1000000)(disch:=(first|omega|(simp only [qI,qJ,qK]<;>omega)|exact qL _)) only [go_sem,↓reduceIte,n0,reduceCtorEq,n1,n2,n3,n4,n5,i0,i1,i2,i3,i4,i5,i6,i7,Holds_nil,Holds_cons,hrc2_0,hrc2_2,hrc2_3,hrc2_37,hri]),j+1,(by simp (maxSteps:=1000000)(disch:=(first|omega|(simp only [qI,qJ,qK]<;>omega)|exact qL _)) only [go_sem,↓reduceIte,n0,reduceCtorEq,n1,n2,n3,n4,n5,i0,i1,i2,i3,i4,i5,i6,i7,hrc2_0,hrc2_2,hrc2_3,hrc2_37,hri];all_goals rfl),.slice va (css.length+1) vc,by omega,?_,?_,?_⟩,?_⟩
    ·rw [blk_wr_eq,hlq9];rfl
    ·rw [hcat,List.map_append];exact hg'.upd ((Upd.refl _ _).wr _ _ (.inr rfl)) hne
    ·refine Upd.wr ?_ _ _ (.inr rfl)
     exact (hUk.more ((hEw9.mono fun _ h=>h.elim).trans hu) fun b hb h=>absurd h (hnb b (.inl hb)))
    ·try simp (maxSteps:=1000000)(disch:=(first|omega|(simp only [qI,qJ,qK]<;>omega)|exact qL _)) only [go_sem,↓reduceIte,n0,reduceCtorEq,n1,n2,n3,n4,n5,i0,i1,i2,i3,i4,i5,i6,i7,hrc2_0,hrc2_2,hrc2_3,hrc2_37,hri]
     simp only [RowKit.intOf];omega
   ·have hk10:Ext w5 (wr (wr (w5.alloc (.cells #[.bool false] 4)).drew w5.heap.size 0 [.bool false]) w5.heap.size 0 [.bool true]):=((Upd.refl _ _).drew).trans q4
    generalize (wr (wr (w5.alloc (.cells #[.bool false] 4)).drew w5.heap.size 0 [.bool false]) w5.heap.size 0 [.bool true])=w10 at *
    have hzk10:=hk10.size
    have hX10:Ext w w10:=hX5.trans hk10
    have hb10:=hk10.blk_some hb5 id
    have hl10:=hk10.blk_some hl5 id
    have ht10:=hk10.blk_some ht5 id
    have hxe10:=hX10.blk_some hxe id
    repeat ((first|refine qA rfl ?_|apply qB|refine qC rfl ?_|apply qD|apply qE|apply qF|apply qG|apply qH);try simp (maxSteps:=1000000)(disch:=(first|omega|(simp only [qI,qJ,qK]<;>omega)|exact qL _)) only [go_sem,↓reduceIte,n0,reduceCtorEq,n1,n2,n3,n4,n5,i0,i1,i2,i3,i4,i5,i6,i7,hb10,hl10,ht10,hxe10,Int.toNat_natCast,Nat.mul_one,hq0,hq1,hq2,hq3,hrc2_0,hrc2_2,hrc2_3,hrc2_37,hri])
    refine W.drawR (.take 0 (.take 1 (.take 2 (.take 3 (.take 4 (.take 5 (.take 6 (.take 7 (.take 8 (.take 9 (.take 10 (.take 12 (.two 11 (.only 13 (.only 14 (.take 15 (.take 16 (.last 17))))) 13 (.only 11 (.only 14 (.take 15 (.take 16 (.last 17)))))))))))))))))) (ownB (.slice av j kv)) mixed (by kernel_rfl) ?_
    try simp (maxSteps:=1000000)(disch:=(first|omega|(simp only [qI,qJ,qK]<;>omega)|exact qL _|(refine hnb _ ?_;first|omega|(simp only [World.size_alloc,size_wr,size_drew]<;>omega)))) only [go_sem,↓reduceIte,n0,reduceCtorEq,n1,n2,n3,n4,n5,i0,i1,i2,i3,i4,i5,i6,i7,hb10,hl10,ht10,hxe10,Int.toNat_natCast,Nat.mul_one,hq0,hq1,hq2,hq3,hrc2_0,hrc2_2,hrc2_3,hrc2_37,hri]
    refine ⟨?_,?_⟩
    ·skip
     have hxq11:=(Upd.refl _ _:Upd (ownB (.slice av j kv)) w10.drew w10.drew).blk_some (show blk w10.drew be=_ from hxe10) (hnb _ (.inl (by omega)))
     refine (tellX2_fn (d:=d) (ok:=ok) y ce w10.drew (b:=be) (o:=oe+j * 19) hxq11 (fun k hk=>by have:=hqe k hk;rw [← Nat.add_assoc] at this;exact this) ((RepS_lay true _ _).keep (Rep1_part.1 hRe) ((((hX10.drew).mono fun _ h=>h.elim).trans (Upd.refl _ _):Upd (ownB (.slice av j kv)) w w10.drew).keeps fun b hb _=>hnb b (.inl (by omega)))) (hgy.2.2 rfl)).mono ?_
     rintro _ w11 ⟨⟨c11,rfl,hc11⟩,hEx11⟩
     obtain ⟨T11,hT11⟩:∃ T,T=tlP (d+3) fs_X2 y:=⟨_,rfl⟩
     replace hc11:TreeC (fun b=>w10.drew.heap.size≤b) w11 T11 c11:=by rw [hT11];exact hc11
     obtain ⟨vS11,vL11,vU11,rfl,hn11,hS11,hLL11,hUU11⟩:=hc11.inv
     have k1_11:=hS11.flat
     have k2_11:=SlR.flat hLL11
     have k3_11:=SlR.flat hUU11
     have hP11:Upd (ownB (.slice av j kv)) w10.drew w11:=(Upd.refl _ _).trans (hEx11.mono fun _ h=>h.elim)
     have hsq11:=hEx11.size
     try simp only [size_drew] at hsq11
     refine ⟨hP11,?_⟩
     try simp (maxSteps:=1000000)(disch:=(first|omega|(simp only [qI,qJ,qK]<;>omega)|exact qL _|(refine hnb _ ?_;first|omega|(simp only [World.size_alloc,size_wr,size_drew]<;>omega)))) only [go_sem,↓reduceIte,n0,reduceCtorEq,n1,n2,n3,n4,n5,i0,i1,i2,i3,i4,i5,i6,i7,hb10,hl10,ht10,hxe10,Int.toNat_natCast,Nat.mul_one,hq0,hq1,hq2,hq3,hrc2_0,hrc2_2,hrc2_3,hrc2_37,hri,k1_11,k2_11,k3_11]
     have hP12:Upd (ownB (.slice av j kv)) w10.drew (w11.alloc (.cells qZ5 27)):=show Upd (ownB (.slice av j kv)) w10.drew (w11.alloc (.cells qZ5 27)) from (hP11).alloc _
     have hn12:blk (w11.alloc (.cells qZ5 27)) w11.heap.size=some (qZ5,27,(0,0)):=show blk (w11.alloc (.cells qZ5 27)) w11.heap.size=some (qZ5,27,(0,0)) from blk_alloc_new rfl
     have hsq12:(w11.alloc (.cells qZ5 27)).heap.size=w11.heap.size+1:=show (w11.alloc (.cells qZ5 27)).heap.size=w11.heap.size+1 from World.size_alloc _ _
     have hEx12:Ext w11 (w11.alloc (.cells qZ5 27)):=show Ext w11 (w11.alloc (.cells qZ5 27)) from Upd.alloc (Upd.refl _ _) _
     refine ⟨hP12,?_⟩
     try simp only [List.append_nil]
     generalize (w11.alloc (.cells qZ5 27))=w12 at *
     try simp only [size_drew] at hsq12
     have hEw13:Ext w5 w12:=((hk10.drew.trans hEx11).trans hEx12)
     have hzw13:=hEw13.size
     obtain ⟨css,hown,hall⟩:=(hg.ext hEw13).ex
     have hcl:=hall.1
     rw [hlj] at hcl
     have hx13:TreeC (fun b=>(fun b=>w1.heap.size≤b) b∧b≠w.heap.size+1∧¬ ownB (.slice av j kv) b) w12 ((tl1 (tlP (d+3)) fQ_2.of fQ_2.sub) y) [.int .i64 T11.n,vS11,.bool T11.null,vL11,vU11]:=by
      rw [show (tl1 (tlP (d+3)) fQ_2.of fQ_2.sub) y=_ from hT11.symm]
      exact TreeC.weaken (fun b _ hk=>⟨by omega,by omega,hnb b (.inr (by omega))⟩) (TreeC.weaken (ok':=fun b=>w5.heap.size≤b) (fun b _ hk=>by have hk':w10.drew.heap.size≤b:=hk;(try simp only [size_drew] at hk');omega) (TreeC.keep (Ext.keeps hEx12 _) hc11))
     refine wp_append ap_24_24 (m:=1) (news:=[.int .i64 0,.slice none 0 0,.bool false,.slice none 0 0,.slice none 0 0]) (n:=css.length) (cs:=css.flatten) (v:=(.slice av j kv)) ?_ rfl hown.1 (all2_flat_tree hall) (Src.blk (fr:=(0,0)) (T:=27) hn12 rfl rfl) ?_ ?_ ?_
     ·first|rfl|simp (maxSteps:=1000000)(disch:=(first|omega|(simp only [qI,qJ,qK]<;>omega)|exact qL _)) only [go_sem,↓reduceIte,n0,reduceCtorEq,n1,n2,n3,n4,n5,i0,i1,i2,i3,i4,i5,i6,i7]
     ·omega
     ·omega
     intro v' w13 ho hu hfr
     have hP13:=(hP12:Upd (ownB (.slice av j kv)) w10.drew w12).trans hu
     have hzq13:=hP13.size
     simp only [size_drew] at hzq13
     have hlq13:=hP13.blk_some (show blk w10.drew (w.heap.size+1)=_ from hl10) (hnb _ (.inl (by omega)))
     rcases ho.2 with ⟨_,h⟩|⟨g,cap,rest,fr,hv',hg',hbg,hlen,hth,hle⟩
     ·exact absurd h (Nat.succ_ne_zero _)
     subst hv'
     have hgne:¬ g=w.heap.size+1:=fun h=>(hfr g ⟨_,_,_,rfl,rfl⟩).elim (fun h'=>hnb _ (.inl (by omega)) (h ▸ h')) (fun h'=>by omega)
     have hfl:css.flatten.length=css.length * 5:=flatten_len hown.2
     have hlen2:(css.flatten++([.int .i64 0,.slice none 0 0,.bool false,.slice none 0 0,.slice none 0 0]:List Value)++rest).length=cap * 5:=by simp only [List.length_append] at hlen ⊢;omega
     obtain ⟨XX,hXX⟩:∃ X:Array Value,X=(css.flatten++([.int .i64 0,.slice none 0 0,.bool false,.slice none 0 0,.slice none 0 0]:List Value)++rest).toArray:=⟨_,rfl⟩
     have hbgX:blk w13 g=some (XX,27,fr):=by rw [hXX];exact hbg
     have hXsz:XX.size=cap * 5:=by rw [hXX,List.size_toArray];exact hlen2
     have hth2:thaw fr (css.length * 5) 5=true:=thaw_of hth (by omega)
     have hst:css.length * 5+5≤XX.size:=by omega
     have hset:=Own.setlast (cs:=[.int .i64 T11.n,vS11,.bool T11.null,vL11,vU11]) ho rfl rfl
     have hu2:Upd (ownB (.slice av j kv)) w12 (wr w13 g (css.length * 5) [.int .i64 T11.n,vS11,.bool T11.null,vL11,vU11]):=hu.wr _ _ ((hfr g ⟨_,_,_,rfl,rfl⟩).symm)
     have hg2:=GrowT.snoc hown hall hx13 hu2 hfr hset
     have hcj:css.length=j:=by first|exact hcl.symm.trans hlj|omega
     simp only [hcj] at hth2 hst hset hu2 hg2
     refine ⟨hP13,?_⟩
     try simp (maxSteps:=1000000)(disch:=(first|omega|(simp only [qI,qJ,qK]<;>omega)|exact qL _|(refine hnb _ ?_;first|omega|(simp only [World.size_alloc,size_wr,size_drew]<;>omega)))) only [go_sem,↓reduceIte,n0,reduceCtorEq,n1,n2,n3,n4,n5,i0,i1,i2,i3,i4,i5,i6,i7,hlq13,hbgX,hth2,hst,hcj,Int.toNat_natCast,Nat.mul_one,k1_11,k2_11,k3_11,hrc2_0,hrc2_2,hrc2_3,hrc2_37,hri]
     repeat ((first|refine qA rfl ?_|apply qB|refine qC rfl ?_|apply qD|apply qE|apply qF|apply qG|apply qH);try simp (maxSteps:=1000000)(disch:=(first|omega|(simp only [qI,qJ,qK]<;>omega)|exact qL _)) only [go_sem,↓reduceIte,n0,reduceCtorEq,n1,n2,n3,n4,n5,i0,i1,i2,i3,i4,i5,i6,i7,hlq13,hbgX,hth2,hst,hcj,Int.toNat_natCast,Nat.mul_one,k1_11,k2_11,k3_11,hrc2_0,hrc2_2,hrc2_3,hrc2_37,hri])
     refine ⟨⟨(by simp (maxSteps:=1000000)(disch:=(first|omega|(simp only [qI,qJ,qK]<;>omega)|exact qL _)) only [go_sem,↓reduceIte,n0,reduceCtorEq,n1,n2,n3,n4,n5,i0,i1,i2,i3,i4,i5,i6,i7,Holds_nil,Holds_cons,hrc2_0,hrc2_2,hrc2_3,hrc2_37,hri]),j+1,(by simp (maxSteps:=1000000)(disch:=(first|omega|(simp only [qI,qJ,qK]<;>omega)|exact qL _)) only [go_sem,↓reduceIte,n0,reduceCtorEq,n1,n2,n3,n4,n5,i0,i1,i2,i3,i4,i5,i6,i7,hrc2_0,hrc2_2,hrc2_3,hrc2_37,hri];all_goals rfl),.slice (some ⟨g,0,none⟩) (j+1) cap,by omega,?_,?_,?_⟩,?_⟩
     ·rw [blk_wr_ne (by omega),blk_wr_eq,hlq13];rfl
     ·rw [hcat,List.map_append,wr_comm (Ne.symm hgne)]
      exact hg2.upd ((Upd.refl _ _).wr _ _ (.inr rfl)) (fun h=>hgne (ownB_row h).symm)
     ·rw [wr_comm (Ne.symm hgne)]
      refine Upd.wr ?_ _ _ (.inr rfl)
      exact (hUk.more ((hEw13.mono fun _ h=>h.elim).trans hu2) fun b hb h=>absurd h (hnb b (.inl hb)))
     ·try simp (maxSteps:=1000000)(disch:=(first|omega|(simp only [qI,qJ,qK]<;>omega)|exact qL _)) only [go_sem,↓reduceIte,n0,reduceCtorEq,n1,n2,n3,n4,n5,i0,i1,i2,i3,i4,i5,i6,i7,hrc2_0,hrc2_2,hrc2_3,hrc2_37,hri]
      simp only [RowKit.intOf];omega
    ·skip
     have hP14:Upd (ownB (.slice av j kv)) w10.drew (w10.alloc (.cells qZ5 27)).drew:=show Upd (ownB (.slice av j kv)) w10.drew (w10.drew.alloc (.cells qZ5 27)) from (Upd.refl _ _).alloc _
     have hn14:blk (w10.alloc (.cells qZ5 27)).drew w10.drew.heap.size=some (qZ5,27,(0,0)):=show blk (w10.drew.alloc (.cells qZ5 27)) w10.drew.heap.size=some (qZ5,27,(0,0)) from blk_alloc_new rfl
     have hsq14:(w10.alloc (.cells qZ5 27)).drew.heap.size=w10.drew.heap.size+1:=show (w10.drew.alloc (.cells qZ5 27)).heap.size=w10.drew.heap.size+1 from World.size_alloc _ _
     have hEx14:Ext w10.drew (w10.alloc (.cells qZ5 27)).drew:=show Ext w10.drew (w10.drew.alloc (.cells qZ5 27)) from Upd.alloc (Upd.refl _ _) _
     refine ⟨hP14,?_⟩
     try simp only [List.append_nil]
     generalize (w10.alloc (.cells qZ5 27)).drew=w14 at *
     try simp only [size_drew] at hsq14
     have hxq15:=(hP14:Upd (ownB (.slice av j kv)) w10.drew w14).blk_some (show blk w10.drew be=_ from hxe10) (hnb _ (.inl (by omega)))
     refine (tellX2_fn (d:=d) (ok:=ok) y ce w14 (b:=be) (o:=oe+j * 19) hxq15 (fun k hk=>by have:=hqe k hk;rw [← Nat.add_assoc] at this;exact this) ((RepS_lay true _ _).keep (Rep1_part.1 hRe) ((((hX10.drew).mono fun _ h=>h.elim).trans (hP14):Upd (ownB (.slice av j kv)) w w14).keeps fun b hb _=>hnb b (.inl (by omega)))) (hgy.2.2 rfl)).mono ?_
     rintro _ w15 ⟨⟨c15,rfl,hc15⟩,hEx15⟩
     obtain ⟨T15,hT15⟩:∃ T,T=tlP (d+3) fs_X2 y:=⟨_,rfl⟩
     replace hc15:TreeC (fun b=>w14.heap.size≤b) w15 T15 c15:=by rw [hT15];exact hc15
     obtain ⟨vS15,vL15,vU15,rfl,hn15,hS15,hLL15,hUU15⟩:=hc15.inv
     have k1_15:=hS15.flat
     have k2_15:=SlR.flat hLL15
     have k3_15:=SlR.flat hUU15
     have hP15:Upd (ownB (.slice av j kv)) w10.drew w15:=(hP14).trans (hEx15.mono fun _ h=>h.elim)
     have hsq15:=hEx15.size
     try simp only [size_drew] at hsq15
     refine ⟨hP15,?_⟩
     try simp (maxSteps:=1000000)(disch:=(first|omega|(simp only [qI,qJ,qK]<;>omega)|exact qL _|(refine hnb _ ?_;first|omega|(simp only [World.size_alloc,size_wr,size_drew]<;>omega)))) only [go_sem,↓reduceIte,n0,reduceCtorEq,n1,n2,n3,n4,n5,i0,i1,i2,i3,i4,i5,i6,i7,hb10,hl10,ht10,hxe10,Int.toNat_natCast,Nat.mul_one,hq0,hq1,hq2,hq3,hrc2_0,hrc2_2,hrc2_3,hrc2_37,hri,k1_15,k2_15,k3_15]
     have hEw16:Ext w5 w15:=((hk10.drew.trans hEx14).trans hEx15)
     have hzw16:=hEw16.size
     obtain ⟨css,hown,hall⟩:=(hg.ext hEw16).ex
     have hcl:=hall.1
     rw [hlj] at hcl
     have hx16:TreeC (fun b=>(fun b=>w1.heap.size≤b) b∧b≠w.heap.size+1∧¬ ownB (.slice av j kv) b) w15 ((tl1 (tlP (d+3)) fQ_2.of fQ_2.sub) y) [.int .i64 T15.n,vS15,.bool T15.null,vL15,vU15]:=by
      rw [show (tl1 (tlP (d+3)) fQ_2.of fQ_2.sub) y=_ from hT15.symm]
      exact TreeC.weaken (fun b _ hk=>⟨by omega,by omega,hnb b (.inr (by omega))⟩) (TreeC.weaken (ok':=fun b=>w5.heap.size≤b) (fun b _ hk=>by have hk':w14.heap.size≤b:=hk;(try simp only [size_drew] at hk');omega) hc15)
     refine wp_append ap_24_24 (m:=1) (news:=[.int .i64 0,.slice none 0 0,.bool false,.slice none 0 0,.slice none 0 0]) (n:=css.length) (cs:=css.flatten) (v:=(.slice av j kv)) ?_ rfl hown.1 (all2_flat_tree hall) (Src.blk (fr:=(0,0)) (T:=27) (hEx15.blk_some hn14 id) rfl rfl) ?_ ?_ ?_
     ·first|rfl|simp (maxSteps:=1000000)(disch:=(first|omega|(simp only [qI,qJ,qK]<;>omega)|exact qL _)) only [go_sem,↓reduceIte,n0,reduceCtorEq,n1,n2,n3,n4,n5,i0,i1,i2,i3,i4,i5,i6,i7]
     ·omega
     ·omega
     intro v' w16 ho hu hfr
     have hP16:=(hP15:Upd (ownB (.slice av j kv)) w10.drew w15).trans hu
     have hzq16:=hP16.size
     simp only [size_drew] at hzq16
     have hlq16:=hP16.blk_some (show blk w10.drew (w.heap.size+1)=_ from hl10) (hnb _ (.inl (by omega)))
     rcases ho.2 with ⟨_,h⟩|⟨g,cap,rest,fr,hv',hg',hbg,hlen,hth,hle⟩
     ·exact absurd h (Nat.succ_ne_zero _)
     subst hv'
     have hgne:¬ g=w.heap.size+1:=fun h=>(hfr g ⟨_,_,_,rfl,rfl⟩).elim (fun h'=>hnb _ (.inl (by omega)) (h ▸ h')) (fun h'=>by omega)
     have hfl:css.flatten.length=css.length * 5:=flatten_len hown.2
     have hlen2:(css.flatten++([.int .i64 0,.slice none 0 0,.bool false,.slice none 0 0,.slice none 0 0]:List Value)++rest).length=cap * 5:=by simp only [List.length_append] at hlen ⊢;omega
     obtain ⟨XX,hXX⟩:∃ X:Array Value,X=(css.flatten++([.int .i64 0,.slice none 0 0,.bool false,.slice none 0 0,.slice none 0 0]:List Value)++rest).toArray:=⟨_,rfl⟩
     have hbgX:blk w16 g=some (XX,27,fr):=by rw [hXX];exact hbg
     have hXsz:XX.size=cap * 5:=by rw [hXX,List.size_toArray];exact hlen2
     have hth2:thaw fr (css.length * 5) 5=true:=thaw_of hth (by omega)
     have hst:css.length * 5+5≤XX.size:=by omega
     have hset:=Own.setlast (cs:=[.int .i64 T15.n,vS15,.bool T15.null,vL15,vU15]) ho rfl rfl
     have hu2:Upd (ownB (.slice av j kv)) w15 (wr w16 g (css.length * 5) [.int .i64 T15.n,vS15,.bool T15.null,vL15,vU15]):=hu.wr _ _ ((hfr g ⟨_,_,_,rfl,rfl⟩).symm)
     have hg2:=GrowT.snoc hown hall hx16 hu2 hfr hset
     have hcj:css.length=j:=by first|exact hcl.symm.trans hlj|omega
     simp only [hcj] at hth2 hst hset hu2 hg2
     refine ⟨hP16,?_⟩
     try simp (maxSteps:=1000000)(disch:=(first|omega|(simp only [qI,qJ,qK]<;>omega)|exact qL _|(refine hnb _ ?_;first|omega|(simp only [World.size_alloc,size_wr,size_drew]<;>omega)))) only [go_sem,↓reduceIte,n0,reduceCtorEq,n1,n2,n3,n4,n5,i0,i1,i2,i3,i4,i5,i6,i7,hlq16,hbgX,hth2,hst,hcj,Int.toNat_natCast,Nat.mul_one,k1_15,k2_15,k3_15,hrc2_0,hrc2_2,hrc2_3,hrc2_37,hri]
     repeat ((first|refine qA rfl ?_|apply qB|refine qC rfl ?_|apply qD|apply qE|apply qF|apply qG|apply qH);try simp (maxSteps:=1000000)(disch:=(first|omega|(simp only [qI,qJ,qK]<;>omega)|exact qL _)) only [go_sem,↓reduceIte,n0,reduceCtorEq,n1,n2,n3,n4,n5,i0,i1,i2,i3,i4,i5,i6,i7,hlq16,hbgX,hth2,hst,hcj,Int.toNat_natCast,Nat.mul_one,k1_15,k2_15,k3_15,hrc2_0,hrc2_2,hrc2_3,hrc2_37,hri])
     refine ⟨⟨(by simp (maxSteps:=1000000)(disch:=(first|omega|(simp only [qI,qJ,qK]<;>omega)|exact qL _)) only [go_sem,↓reduceIte,n0,reduceCtorEq,n1,n2,n3,n4,n5,i0,i1,i2,i3,i4,i5,i6,i7,Holds_nil,Holds_cons,hrc2_0,hrc2_2,hrc2_3,hrc2_37,hri]),j+1,(by simp (maxSteps:=1000000)(disch:=(first|omega|(simp only [qI,qJ,qK]<;>omega)|exact qL _)) only [go_sem,↓reduceIte,n0,reduceCtorEq,n1,n2,n3,n4,n5,i0,i1,i2,i3,i4,i5,i6,i7,hrc2_0,hrc2_2,hrc2_3,hrc2_37,hri];all_goals rfl),.slice (some ⟨g,0,none⟩) (j+1) cap,by omega,?_,?_,?_⟩,?_⟩
     ·rw [blk_wr_ne (by omega),blk_wr_eq,hlq16];rfl
     ·rw [hcat,List.map_append,wr_comm (Ne.symm hgne)]
      exact hg2.upd ((Upd.refl _ _).wr _ _ (.inr rfl)) (fun h=>hgne (ownB_row h).symm)
     ·rw [wr_comm (Ne.symm hgne)]
      refine Upd.wr ?_ _ _ (.inr rfl)
      exact (hUk.more ((hEw16.mono fun _ h=>h.elim).trans hu2) fun b hb h=>absurd h (hnb b (.inl hb)))
     ·try simp (maxSteps:=1000000)(disch:=(first|omega|(simp only [qI,qJ,qK]<;>omega)|exact qL _)) only [go_sem,↓reduceIte,n0,reduceCtorEq,n1,n2,n3,n4,n5,i0,i1,i2,i3,i4,i5,i6,i7,hrc2_0,hrc2_2,hrc2_3,hrc2_37,hri]
      simp only [RowKit.intOf];omega
  ·have hjn:j=L2.length:=by omega
   subst hjn
   rw [List.take_length] at hg
   repeat ((first|refine qA rfl ?_|apply qB|refine qC rfl ?_|apply qD|apply qE|apply qF|apply qG|apply qH);try simp (maxSteps:=1000000)(disch:=(first|omega|(simp only [qI,qJ,qK]<;>omega)|exact qL _)) only [go_sem,↓reduceIte,n0,reduceCtorEq,n1,n2,n3,n4,n5,i0,i1,i2,i3,i4,i5,i6,i7,hrc2_0,hrc2_2,hrc2_3,hrc2_37,hri])
   exact ⟨(by simp (maxSteps:=1000000)(disch:=(first|omega|(simp only [qI,qJ,qK]<;>omega)|exact qL _)) only [go_sem,↓reduceIte,n0,reduceCtorEq,n1,n2,n3,n4,n5,i0,i1,i2,i3,i4,i5,i6,i7,Holds_nil,Holds_cons,hrc2_0,hrc2_2,hrc2_3,hrc2_37,hri]),v,hl5,hg,hUk⟩
 rintro ρ w17 ⟨⟨hrd2_0,hrd2_2,hrd2_3,hrd2_37,-⟩,v,hl17,hg17,hUz17⟩
 have hV17:Upd (fun b=>b=w.heap.size+1∨b=w.heap.size+2) w4 w17:=hUz17.mono fun _ h=>.inl h
 have hU17:Upd (fun b=>b=w.heap.size+1∨b=w.heap.size+2) w1 w17:=hU4.trans hV17
 have hz17:=hU17.size
 have hX17:Ext w w17:=hE1.more hU17 fun b hb h=>by omega
 have hb17:=hX17.blk_some hb id
 have ht17:=hUz17.blk_some ht4 (by omega)
 obtain ⟨av2,kv2,hvs,_⟩:=hg17.shape
 subst hvs
 have hf2:TreeC (fun b=>w1.heap.size≤b) w17 (.mk 0 [] (t.at 2).null (L2.map (tl1 (tlP (d+3)) fQ_2.of fQ_2.sub)) []) [.int .i64 0,.slice none 0 0,.bool (t.at 2).null,.slice av2 (List.map (tl1 (tlP (d+3)) fQ_2.of fQ_2.sub) L2).length kv2,.slice none 0 0]:=TreeC.intro rfl (BytesV.nil _ _) (hg17.trees (fun _ _ h=>h) (fun b hb=>by have:=hz4;omega)) (tagsN _ _)
 repeat ((first|refine qA rfl ?_|apply qB|refine qC rfl ?_|apply qD|apply qE|apply qF|apply qG|apply qH);try simp (maxSteps:=1000000)(disch:=(first|omega|(simp only [qI,qJ,qK]<;>omega)|exact qL _)) only [go_sem,↓reduceIte,n0,reduceCtorEq,n1,n2,n3,n4,n5,i0,i1,i2,i3,i4,i5,i6,i7,hb17,hl17,ht17,hq0,hq1,hq2,hq3,hrd2_0,hrd2_2,hrd2_3])
 refine (EachG_fn (ok:=fun b=>b < w.heap.size) 21 ca_21 #[.pointer (some ⟨w.heap.size+2,0,none⟩)] w17 (tb:=b) (to:=4) hb17 hq3 ((hT.weaken fun b hb _=>hb).keep (hX17.keeps _)) (sortT_perm _) (sortT_lt hgu.2.1) (by rw [(sortT_perm t.u).length_eq];exact hgu.1)
  (fun b=>b=w.heap.size+2) (by omega) (fun b hb hk e=>by have hk':b < w.heap.size:=hk;omega) (fun b hb=>by have:=blk_lt ht17;omega)
  (fun wl done w'=>∃ v,blk w' (w.heap.size+2)=some (#[.int .i64 0,.slice none 0 0,.bool false,.slice (some ⟨w.heap.size+1,0,none⟩) 3 3,v],27,(0,0))∧GrowU (fun b=>w1.heap.size≤b) wl.heap.size (w.heap.size+2) w' 51 v done) (fun wl hE=>⟨_,hE.blk_some ht17 id,GrowU.nil _ _ _ _ _⟩) ?_).mono ?_
 ·rintro wl hE done y vv wc hpre ⟨v,hbv,hg⟩ hU hvv hy
  have hz':=hE.size
  have hzu:=hU.size
  have htl:=blk_lt ht17
  have hpl:=hpre.length_le
  simp only [List.length_append,List.length_cons,List.length_nil] at hpl
  rw [(sortT_perm t.u).length_eq] at hpl
  have hlu:=hgu.1
  have hmy:y∈t.u:=(sortT_perm t.u).mem_iff.1 (hpre.subset (by simp))
  refine (tagclQ_fn (ok:=fun b=>b < w.heap.size) _ _ _ _ v done y vv wc hbv hg hzu (by omega) (hvv.keep ((hE.mono (fun _ h=>h.elim) |>.trans hU:Upd (fun b=>b=w.heap.size+2) w17 wc).keeps fun b _ hk e=>by have hk':b < w.heap.size:=hk;omega)) hy (hgu.2.2 y hmy) (by omega) (fun b hb=>by have:=hz17;omega)).mono ?_
  rintro _ w2' ⟨⟨v',h1,h2⟩,h3⟩
  exact ⟨⟨v',h1,h2⟩,hU.trans' h3 fun b hb h=>h.elim id fun h=>by omega⟩
 rintro _ w18 ⟨wl,hEl,⟨v,ht18,hgU⟩,hUe⟩
 have hzl:=hEl.size
 obtain ⟨aU,kU,hvs,_⟩:=hgU.shape
 subst hvs
 have hV18:Upd (fun b=>b=w.heap.size+1∨b=w.heap.size+2) w17 w18:=(hEl.mono fun _ h=>h.elim).trans (hUe.mono fun _ h=>.inr h)
 have hU18:Upd (fun b=>b=w.heap.size+1∨b=w.heap.size+2) w1 w18:=hU17.trans hV18
 have hz18:=hU18.size
 have hX18:Ext w w18:=hE1.more hU18 fun b hb h=>by omega
 have hb18:=hX18.blk_some hb id
 have hl18:=(((hEl.mono fun _ h=>h.elim).trans hUe:Upd (fun b=>b=w.heap.size+2) w17 w18)).blk_some hl17 (by omega)
 have hTU:=hgU.tags (ok':=(fun b=>w1.heap.size≤b)) (fun _ _ h=>h) (fun b hb=>by have:=hz17;omega)
 repeat ((first|refine qA rfl ?_|apply qB|refine qC rfl ?_|apply qD|apply qE|apply qF|apply qG|apply qH);try simp (maxSteps:=1000000)(disch:=(first|omega|(simp only [qI,qJ,qK]<;>omega)|exact qL _)) only [go_sem,↓reduceIte,n0,reduceCtorEq,n1,n2,n3,n4,n5,i0,i1,i2,i3,i4,i5,i6,i7,hb18,hl18,ht18,hq0,hq1,hq2,hq3,hrd2_0,hrd2_2,hrd2_3,cellsAt_five])
 refine (sorted_fn _ _ w18 hTU (sortT_lt hgu.2.1) (by rw [(sortT_perm t.u).length_eq];exact hgu.1)).mono ?_
 rintro _ w19 hEs
 have hV19:Upd (fun b=>b=w.heap.size+1∨b=w.heap.size+2) w18 w19:=hEs.mono fun _ h=>h.elim
 have hU19:Upd (fun b=>b=w.heap.size+1∨b=w.heap.size+2) w1 w19:=hU18.trans hV19
 have hz19:=hU19.size
 have hX19:Ext w w19:=hE1.more hU19 fun b hb h=>by omega
 have hb19:=hX19.blk_some hb id
 have hl19:=hEs.blk_some hl18 id
 have ht19:=hEs.blk_some ht18 id
 have hr19:=(hU19.blk_some hr1 (by omega))
 have hC_19:Upd (fun b=>b=w.heap.size+1∨b=w.heap.size+2) w19 w19:=Upd.refl _ _
 have hC_18:Upd (fun b=>b=w.heap.size+1∨b=w.heap.size+2) w18 w19:=hV19.trans hC_19
 have hC_17:Upd (fun b=>b=w.heap.size+1∨b=w.heap.size+2) w17 w19:=hV18.trans hC_18
 have hC_4:Upd (fun b=>b=w.heap.size+1∨b=w.heap.size+2) w4 w19:=hV17.trans hC_17
 have hC_3:Upd (fun b=>b=w.heap.size+1∨b=w.heap.size+2) w3 w19:=hV4.trans hC_4
 have hC_2:Upd (fun b=>b=w.heap.size+1∨b=w.heap.size+2) w2 w19:=hV3.trans hC_3
 have hC_1:Upd (fun b=>b=w.heap.size+1∨b=w.heap.size+2) w1 w19:=hV2.trans hC_2
 have hF0:=TreeC.keep (hC_2.keeps fun b hb hk e=>by have hk':w1.heap.size≤b:=hk;omega) hf0
 have hF1:=TreeC.keep (hC_3.keeps fun b hb hk e=>by have hk':w1.heap.size≤b:=hk;omega) hf1
 have hF2:=TreeC.keep (hC_17.keeps fun b hb hk e=>by have hk':w1.heap.size≤b:=hk;omega) hf2
 replace hF0:TreeC (fun b=>w1.heap.size≤b) w19 (tlF (tlP (d+3)) fQ_0 (t.at 0)) [.int .i64 (IntKind.i32.wrap (t.at 0).n),.slice none 0 0,.bool false,.slice none 0 0,.slice none 0 0]:=hF0
 replace hF1:TreeC (fun b=>w1.heap.size≤b) w19 (tlF (tlP (d+3)) fQ_1 (t.at 1)) [.int .i64 ((t.at 1).n),.slice none 0 0,.bool false,.slice none 0 0,.slice none 0 0]:=hF1
 replace hF2:TreeC (fun b=>w1.heap.size≤b) w19 (tlF (tlP (d+3)) fQ_2 (t.at 2)) [.int .i64 0,.slice none 0 0,.bool (t.at 2).null,.slice av2 (List.map (tl1 (tlP (d+3)) fQ_2.of fQ_2.sub) L2).length kv2,.slice none 0 0]:=by rw [show tlF (tlP (d+3)) fQ_2 (t.at 2) = .mk 0 [] (t.at 2).null ((if (t.at 2).null=true then [] else (t.at 2).l).map (tl1 (tlP (d+3)) fQ_2.of fQ_2.sub)) [] from rfl,← hL2];exact hF2
 have hTL:TreesV (fun b=>(fun b=>w1.heap.size≤b) b∨b=w.heap.size+1) w19 (.slice (some ⟨w.heap.size+1,0,none⟩) 3 3) [tlF (tlP (d+3)) fQ_0 (t.at 0),tlF (tlP (d+3)) fQ_1 (t.at 1),tlF (tlP (d+3)) fQ_2 (t.at 2)]:=by
  refine ⟨[[.int .i64 (IntKind.i32.wrap (t.at 0).n),.slice none 0 0,.bool false,.slice none 0 0,.slice none 0 0],[.int .i64 ((t.at 1).n),.slice none 0 0,.bool false,.slice none 0 0,.slice none 0 0],[.int .i64 0,.slice none 0 0,.bool (t.at 2).null,.slice av2 (List.map (tl1 (tlP (d+3)) fQ_2.of fQ_2.sub) L2).length kv2,.slice none 0 0]],⟨_,3,rfl,Nat.le_refl _,(by intro cs hm;simp only [List.mem_cons,List.not_mem_nil,or_false] at hm;rcases hm with rfl|rfl|rfl<;>rfl),.inr ⟨_,rfl,rfl,.inr rfl,_,hl19,fun i hi=>by rw [Nat.zero_add,List.getElem?_toArray];rfl⟩⟩,rfl,fun i h1 h2 => ?_⟩
  match i,h1 with
  | 0,_=>exact TreeC.weaken (fun b _ hk=>.inl hk) hF0
  | 1,_=>exact TreeC.weaken (fun b _ hk=>.inl hk) hF1
  | 2,_=>exact TreeC.weaken (fun b _ hk=>.inl hk) hF2
 repeat ((first|refine qA rfl ?_|apply qB|refine qC rfl ?_|apply qD|apply qE|apply qF|apply qG|apply qH);try simp (maxSteps:=1000000)(disch:=(first|omega|(simp only [qI,qJ,qK]<;>omega)|exact qL _)) only [go_sem,↓reduceIte,n0,reduceCtorEq,n1,n2,n3,n4,n5,i0,i1,i2,i3,i4,i5,i6,i7,hb19,hl19,ht19,hq0,hq1,hq2,hq3,hrd2_0,hrd2_2,hrd2_3,hr19,cellsAt_five])
 refine ⟨⟨_,rfl,?_⟩,hX19.wr _ _ (.inl (Nat.le_refl _))⟩
 have hUr:Upd (fun b=>b=w.heap.size) w19 (wr w19 w.heap.size 0 [.int .i64 0,.slice none 0 0,.bool false,.slice (some ⟨w.heap.size+1,0,none⟩) 3 3,.slice aU (sortT t.u).length kU]):=(Upd.refl _ _).wr _ _ (.inr rfl)
 have hTU2:=hTU.keep (hEs.keeps _)
 exact TreeC.intro rfl (BytesV.nil _ _) ((hTL.keep (hUr.keeps fun b _ hk e=>by rcases hk with hk|hk<;>omega)).weaken fun b _ hk=>by rcases hk with hk|hk<;>omega) ((hTU2.keep (hUr.keeps fun b _ hk e=>by omega)).weaken fun b _ hk=>by omega)
end Ms

