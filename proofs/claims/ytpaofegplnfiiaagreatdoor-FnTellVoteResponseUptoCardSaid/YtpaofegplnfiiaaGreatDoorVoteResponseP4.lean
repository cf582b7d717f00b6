/- A part of the proof: see the last text. -/
import Derived.Test.YtpaofegplnfiiaaGreatDoorC10
import Derived.Test.YtpaofegplnfiiaaGreatDoorVoteResponseP0
set_option linter.unusedSimpArgs false
set_option linter.unusedVariables false
namespace Ms
open Go.World renaming size_alloc → qI
open Ms renaming size_wr → qJ,size_drew → qK,not_noB → qL
open W renaming seqR → qA,seq → qB,regR → qC,condK → qD,block → qE,skip → qF,ret → qG,exit → qH
open Nat renaming reduceEqDiff → n0,reduceAdd → n1,reduceMul → n2,reduceSub → n3,reduceLT → n4,reduceLeDiff → n5
open Int renaming reduceEq → i0,reduceLT → i1,reduceLE → i2,reduceNeg → i3,reduceAdd → i4,reduceSub → i5,reduceMul → i6,reduceToNat → i7
set_option maxRecDepth 8000
open Go Go.Proofs Go.Shelf
attribute [local congr] W_congr WPsq_congr WPp_congr optK_congr addrK_congr intK_congr boolK_congr sliceK_congr tupleK_congr funcK_congr Fn_congr rawK_congr takeK_congr stepK_congr convK_congr aggK_congr

theorem tagclX2_fn {ok OK:Blocks} {B tb:Nat} (c0 c1 c2 c3 v:Value) (done:List TagD) (y:TagD) (vv:Value) (w:World) (hbt:blk w tb=some (#[c0,c1,c2,c3,v],37,(0,0))) (hg:GrowU OK B tb w 69 v done) (hB:B≤w.heap.size) (htb:tb < B) (hvv:BytesV ok w vv y.2) (hy:y.1 < 2 ^ 32) (hyl:y.2.length≤32767) (hdl:done.length≤32767) (hOK:∀ b,B≤b→OK b) :
  Fn Tryz.prog 103 #[.int .u32 y.1,vv,.pointer (some ⟨tb,0,none⟩)] w fun _ w'=>(∃ v',blk w' tb=some (#[c0,c1,c2,c3,v'],37,(0,0))∧GrowU OK B tb w' 69 v' (done++[y]))∧Upd (fun b=>b=tb∨B≤b) w w':=by
 have htl:=blk_lt hbt
 refine fn_of_W Tryz.func103 rfl Tryz.results103 Tryz.ntmps103 rfl ?_
 repeat ((first|refine qA rfl ?_|apply qB|refine qC rfl ?_|apply qD|apply qE|apply qF|apply qG|apply qH);try simp (maxSteps:=1000000)(disch:=(first|omega|(simp only [qI,qJ,qK]<;>omega)|exact qL _)) only [go_sem,↓reduceIte,n0,reduceCtorEq,n1,n2,n3,n4,n5,i0,i1,i2,i3,i4,i5,i6,i7])
 obtain ⟨av,kv,rfl,_⟩:=hg.shape
 have hnb:∀ b,b < B∨w.heap.size≤b→¬ ownB (.slice av done.length kv) b:=fun b hb h=>by
  have:=hg.above h
  have:=hg.below h
  omega
 refine W.drawR (.take 0 (.take 1 (.take 2 (.take 3 (.only 4 (.only 5 (.only 6 (.only 7 (.take 8 (.last 9)))))))))) (ownB (.slice av done.length kv)) mixed (by kernel_rfl) ?_
 simp (maxSteps:=1000000)(disch:=(first|omega|(simp only [qI,qJ,qK]<;>omega)|exact qL _|(refine hnb _ ?_;first|omega|(simp only [World.size_alloc,size_wr,size_drew]<;>omega)))) only [go_sem,↓reduceIte,n0,reduceCtorEq,n1,n2,n3,n4,n5,i0,i1,i2,i3,i4,i5,i6,i7,hbt]
 refine wp_copyN ap_22_22 (ok:=ok) (s:=y.2) (v:=vv) (by first|rfl|simp (maxSteps:=1000000)(disch:=(first|omega|(simp only [qI,qJ,qK]<;>omega)|exact qL _)) only [go_sem,↓reduceIte,n0,reduceCtorEq,n1,n2,n3,n4,n5,i0,i1,i2,i3,i4,i5,i6,i7]) (by first|rfl|simp (maxSteps:=1000000)(disch:=(first|omega|(simp only [qI,qJ,qK]<;>omega)|exact qL _)) only [go_sem,↓reduceIte,n0,reduceCtorEq,n1,n2,n3,n4,n5,i0,i1,i2,i3,i4,i5,i6,i7]) (hvv.keep (Ext.keeps ((Upd.refl _ _).drew) _)) (by omega) ?_
 intro v1 w1 ho1 hE1 hf1
 obtain ⟨a1,k1,rfl,_⟩:=ho1.shape
 have hB1:=Own.bytes (ok:=fun b=>w.heap.size≤b) ho1 fun b hb=>hf1 b hb
 have hP1:Upd (ownB (.slice av done.length kv)) w.drew w1:=hE1.mono fun _ h=>h.elim
 have hs1:=hE1.size
 simp only [size_drew] at hs1
 refine ⟨hP1,?_⟩
 simp (maxSteps:=1000000)(disch:=(first|omega|(simp only [qI,qJ,qK]<;>omega)|exact qL _|(refine hnb _ ?_;first|omega|(simp only [World.size_alloc,size_wr,size_drew]<;>omega)))) only [go_sem,↓reduceIte,n0,reduceCtorEq,n1,n2,n3,n4,n5,i0,i1,i2,i3,i4,i5,i6,i7,hbt]
 refine ⟨hP1,?_⟩
 have hP2:Upd (ownB (.slice av done.length kv)) w.drew (w1.alloc (.cells #[.int .u32 y.1,.slice a1 y.2.length k1] 69)):=hP1.alloc _
 have hn2:blk (w1.alloc (.cells #[.int .u32 y.1,.slice a1 y.2.length k1] 69)) w1.heap.size=some (#[.int .u32 y.1,.slice a1 y.2.length k1],69,(0,0)):=blk_alloc_new rfl
 have hs2:(w1.alloc (.cells #[.int .u32 y.1,.slice a1 y.2.length k1] 69)).heap.size=w1.heap.size+1:=World.size_alloc _ _
 have hE2:Ext w1 (w1.alloc (.cells #[.int .u32 y.1,.slice a1 y.2.length k1] 69)):=Upd.alloc (Upd.refl _ _) _
 refine ⟨hP2,?_⟩
 try simp only [List.append_nil]
 generalize (w1.alloc (.cells #[.int .u32 y.1,.slice a1 y.2.length k1] 69))=w2 at *
 have hEw:Ext w w2:=(((Upd.refl _ _).drew).trans hE1).trans hE2
 obtain ⟨css,hown,hall⟩:=(hg.ext hEw).ex
 have hcl:=hall.1
 have hx2:TagC (fun b=>OK b∧b≠tb∧¬ ownB (.slice av done.length kv) b) w2 y [.int .u32 y.1,.slice a1 y.2.length k1]:=⟨_,rfl,(hB1.keep (hE2.keeps _)).weaken fun b _ hk=>⟨hOK b (by omega),by omega,hnb b (.inr hk)⟩,hy⟩
 refine wp_append ap_35_35 (m:=1) (news:=[.int .u32 y.1,.slice a1 y.2.length k1]) (n:=css.length) (cs:=css.flatten) (v:=.slice av done.length kv) ?_ rfl hown.1 hall.flat_cells (Src.blk (fr:=(0,0)) (T:=69) hn2 rfl rfl) ?_ ?_ ?_
 ·first|rfl|simp (maxSteps:=1000000)(disch:=(first|omega|(simp only [qI,qJ,qK]<;>omega)|exact qL _)) only [go_sem,↓reduceIte,n0,reduceCtorEq,n1,n2,n3,n4,n5,i0,i1,i2,i3,i4,i5,i6,i7]
 ·omega
 ·omega
 intro v' w3 ho hu hfr
 have hg3:=GrowU.snoc hown hall hx2 hu hfr ho
 obtain ⟨va,vc,hv',_⟩:=ho.shape
 subst hv'
 have hP3:=hP2.trans hu
 have hs3:=hu.size
 have bX:=hP3.blk_some (show blk w.drew tb=_ from hbt) (hnb _ (.inl htb))
 have hne:¬ ownB (.slice va (css.length+1) vc) tb:=fun h=>(hfr _ h).elim (hnb _ (.inl htb)) (fun h=>by omega)
 refine ⟨hP3,?_⟩
 simp (maxSteps:=1000000)(disch:=(first|omega|(simp only [qI,qJ,qK]<;>omega)|exact qL _|(refine hnb _ ?_;first|omega|(simp only [World.size_alloc,size_wr,size_drew]<;>omega)))) only [go_sem,↓reduceIte,n0,reduceCtorEq,n1,n2,n3,n4,n5,i0,i1,i2,i3,i4,i5,i6,i7,bX]
 repeat ((first|refine qA rfl ?_|apply qB|refine qC rfl ?_|apply qD|apply qE|apply qF|apply qG|apply qH);try simp (maxSteps:=1000000)(disch:=(first|omega|(simp only [qI,qJ,qK]<;>omega)|exact qL _)) only [go_sem,↓reduceIte,n0,reduceCtorEq,n1,n2,n3,n4,n5,i0,i1,i2,i3,i4,i5,i6,i7])
 refine ⟨⟨.slice va (css.length+1) vc,by first|(rw [blk_wr_eq,bX];rfl)|rfl|(rw [bX];rfl)|(rw [blk_wr_eq,bX]),hg3.upd ((Upd.refl _ _).wr _ _ (.inr rfl)) hne⟩,?_⟩
 refine Upd.wr ?_ _ _ (.inr (.inl rfl))
 exact (((Upd.refl (fun b=>b=tb∨B≤b) w).drew).trans (hP3.mono fun b h=>.inr (hg.above h)))

set_option maxHeartbeats 4000000 in
theorem tellX2_fn {d:Nat} {ok:Blocks} (t:Tree) (cs:List Value) (w:World) {b o:Nat} {x:Blk} (hb:blk w b=some x) (hq:∀ k,k < 6→x.1[o+k]? = cs[k]?) (hR:RepS true (d+1) fs_X2 ok w t cs) (hg:GoodP (d+1) fs_X2 t) :
  Fn Tryz.prog 85 #[.pointer (some ⟨b,o,none⟩)] w fun r w'=>(∃ c,r = .agg c.toArray∧TreeC (fun b=>w.heap.size≤b) w' (tlP (d+1) fs_X2 t) c)∧Ext w w':=by
 have hbl:=blk_lt hb
 obtain ⟨⟨gd0,gd1,gd2,gd3,gd4,-⟩,hgu⟩:=hg
 replace gd0:GoodF (GoodP d) fX2_0 (t.at 0):=gd0
 replace gd1:GoodF (GoodP d) fX2_1 (t.at 1):=gd1
 replace gd2:GoodF (GoodP d) fX2_2 (t.at 2):=gd2
 replace gd3:GoodF (GoodP d) fX2_3 (t.at 3):=gd3
 replace gd4:GoodF (GoodP d) fX2_4 (t.at 4):=gd4
 obtain ⟨cs0,q,hcs,hL,hT⟩:=hR.inv
 obtain ⟨c0,e0,rfl,h0,c1,e1,rfl,h1,c2,e2,rfl,h2,c3,e3,rfl,h3,c4,e4,rfl,h4,rfl⟩:=hL
 replace h0:RepF (RepS true d) (szS true d) fX2_0 ok w (t.at 0) c0:=h0
 replace h1:RepF (RepS true d) (szS true d) fX2_1 ok w (t.at 1) c1:=h1
 replace h2:RepF (RepS true d) (szS true d) fX2_2 ok w (t.at 2) c2:=h2
 replace h3:RepF (RepS true d) (szS true d) fX2_3 ok w (t.at 3) c3:=h3
 replace h4:RepF (RepS true d) (szS true d) fX2_4 ok w (t.at 4) c4:=h4
 obtain rfl:=(RepF_num (by decide)).1 h0
 obtain rfl:=(RepF_num (by decide)).1 h1
 obtain rfl:=(RepF_num (by decide)).1 h2
 obtain rfl:=(RepF_num (by decide)).1 h3
 obtain rfl:=(RepF_num (by decide)).1 h4
 obtain ⟨qm,rfl⟩:=hT.shape
 subst hcs
 have hq0:x.1[o]? = some (.int .i32 (IntKind.i32.wrap (t.at 0).n)):=hq 0 (by decide)
 have hq1:x.1[o+1]? = some (.int .i16 (IntKind.i16.wrap (t.at 1).n)):=hq 1 (by decide)
 have hq2:x.1[o+2]? = some (.int .i32 (IntKind.i32.wrap (t.at 2).n)):=hq 2 (by decide)
 have hq3:x.1[o+3]? = some (.int .i32 (IntKind.i32.wrap (t.at 3).n)):=hq 3 (by decide)
 have hq4:x.1[o+4]? = some (.bool (decide ((t.at 4).n % 2=1))):=hq 4 (by decide)
 have hq5:x.1[o+5]? = some (.map qm):=hq 5 (by decide)
 refine fn_of_W Tryz.func85 rfl Tryz.results85 Tryz.ntmps85 rfl ?_
 repeat ((first|refine qA rfl ?_|apply qB|refine qC rfl ?_|apply qD|apply qE|apply qF|apply qG|apply qH);try simp (maxSteps:=1000000)(disch:=(first|omega|(simp only [qI,qJ,qK]<;>omega)|exact qL _)) only [go_sem,↓reduceIte,n0,reduceCtorEq,n1,n2,n3,n4,n5,i0,i1,i2,i3,i4,i5,i6,i7])
 refine wp_make (T:=34) (E:=37) (size:=5) (bytes:=88) (z:=.agg qZ5) (l:=5) (c:=5) (kl:=.i64) (kc:=.i64) (by kernel_rfl) (by kernel_rfl) (by first|rfl|(simp (maxSteps:=1000000)(disch:=(first|omega|(simp only [qI,qJ,qK]<;>omega)|exact qL _)) only [go_sem,↓reduceIte,n0,reduceCtorEq,n1,n2,n3,n4,n5,i0,i1,i2,i3,i4,i5,i6,i7];rfl)) (by first|rfl|(simp (maxSteps:=1000000)(disch:=(first|omega|(simp only [qI,qJ,qK]<;>omega)|exact qL _)) only [go_sem,↓reduceIte,n0,reduceCtorEq,n1,n2,n3,n4,n5,i0,i1,i2,i3,i4,i5,i6,i7];rfl)) (by omega) (by omega) (by omega) ?_
 have hmd:madeCells (Value.agg qZ5).cells (5 * 5)=#[.int .i64 0,.slice none 0 0,.bool false,.slice none 0 0,.slice none 0 0,.int .i64 0,.slice none 0 0,.bool false,.slice none 0 0,.slice none 0 0,.int .i64 0,.slice none 0 0,.bool false,.slice none 0 0,.slice none 0 0,.int .i64 0,.slice none 0 0,.bool false,.slice none 0 0,.slice none 0 0,.int .i64 0,.slice none 0 0,.bool false,.slice none 0 0,.slice none 0 0]:=by kernel_rfl
 rw [hmd]
 simp (maxSteps:=1000000)(disch:=(first|omega|(simp only [qI,qJ,qK]<;>omega)|exact qL _)) only [go_sem,↓reduceIte,n0,reduceCtorEq,n1,n2,n3,n4,n5,i0,i1,i2,i3,i4,i5,i6,i7]
 repeat ((first|refine qA rfl ?_|apply qB|refine qC rfl ?_|apply qD|apply qE|apply qF|apply qG|apply qH);try simp (maxSteps:=1000000)(disch:=(first|omega|(simp only [qI,qJ,qK]<;>omega)|exact qL _)) only [go_sem,↓reduceIte,n0,reduceCtorEq,n1,n2,n3,n4,n5,i0,i1,i2,i3,i4,i5,i6,i7])
 have hE1:Ext w (wr (((w.alloc (.cells qZ5 37)).alloc (.cells #[.int .i64 0,.slice none 0 0,.bool false,.slice none 0 0,.slice none 0 0,.int .i64 0,.slice none 0 0,.bool false,.slice none 0 0,.slice none 0 0,.int .i64 0,.slice none 0 0,.bool false,.slice none 0 0,.slice none 0 0,.int .i64 0,.slice none 0 0,.bool false,.slice none 0 0,.slice none 0 0,.int .i64 0,.slice none 0 0,.bool false,.slice none 0 0,.slice none 0 0] 37)).alloc (.cells qZ5 37)) (w.heap.size+2) 0 [.int .i64 0,.slice none 0 0,.bool false,.slice (some ⟨w.heap.size+1,0,none⟩) 5 5,.slice none 0 0]):=(Upd.alloc (Upd.alloc (Upd.alloc (Upd.refl _ _) _) _) _).wr _ _ (.inl (by omega))
 have hz1:(wr (((w.alloc (.cells qZ5 37)).alloc (.cells #[.int .i64 0,.slice none 0 0,.bool false,.slice none 0 0,.slice none 0 0,.int .i64 0,.slice none 0 0,.bool false,.slice none 0 0,.slice none 0 0,.int .i64 0,.slice none 0 0,.bool false,.slice none 0 0,.slice none 0 0,.int .i64 0,.slice none 0 0,.bool false,.slice none 0 0,.slice none 0 0,.int .i64 0,.slice none 0 0,.bool false,.slice none 0 0,.slice none 0 0] 37)).alloc (.cells qZ5 37)) (w.heap.size+2) 0 [.int .i64 0,.slice none 0 0,.bool false,.slice (some ⟨w.heap.size+1,0,none⟩) 5 5,.slice none 0 0]).heap.size=w.heap.size+3:=by simp only [size_wr,World.size_alloc]
 have hl1:blk (wr (((w.alloc (.cells qZ5 37)).alloc (.cells #[.int .i64 0,.slice none 0 0,.bool false,.slice none 0 0,.slice none 0 0,.int .i64 0,.slice none 0 0,.bool false,.slice none 0 0,.slice none 0 0,.int .i64 0,.slice none 0 0,.bool false,.slice none 0 0,.slice none 0 0,.int .i64 0,.slice none 0 0,.bool false,.slice none 0 0,.slice none 0 0,.int .i64 0,.slice none 0 0,.bool false,.slice none 0 0,.slice none 0 0] 37)).alloc (.cells qZ5 37)) (w.heap.size+2) 0 [.int .i64 0,.slice none 0 0,.bool false,.slice (some ⟨w.heap.size+1,0,none⟩) 5 5,.slice none 0 0]) (w.heap.size+1)=some (#[.int .i64 0,.slice none 0 0,.bool false,.slice none 0 0,.slice none 0 0,.int .i64 0,.slice none 0 0,.bool false,.slice none 0 0,.slice none 0 0,.int .i64 0,.slice none 0 0,.bool false,.slice none 0 0,.slice none 0 0,.int .i64 0,.slice none 0 0,.bool false,.slice none 0 0,.slice none 0 0,.int .i64 0,.slice none 0 0,.bool false,.slice none 0 0,.slice none 0 0],37,(0,0)):=by simp (maxSteps:=1000000)(disch:=(first|omega|(simp only [qI,qJ,qK]<;>omega)|exact qL _)) only [go_sem,↓reduceIte,n0,reduceCtorEq,n1,n2,n3,n4,n5,i0,i1,i2,i3,i4,i5,i6,i7]
 have ht1:blk (wr (((w.alloc (.cells qZ5 37)).alloc (.cells #[.int .i64 0,.slice none 0 0,.bool false,.slice none 0 0,.slice none 0 0,.int .i64 0,.slice none 0 0,.bool false,.slice none 0 0,.slice none 0 0,.int .i64 0,.slice none 0 0,.bool false,.slice none 0 0,.slice none 0 0,.int .i64 0,.slice none 0 0,.bool false,.slice none 0 0,.slice none 0 0,.int .i64 0,.slice none 0 0,.bool false,.slice none 0 0,.slice none 0 0] 37)).alloc (.cells qZ5 37)) (w.heap.size+2) 0 [.int .i64 0,.slice none 0 0,.bool false,.slice (some ⟨w.heap.size+1,0,none⟩) 5 5,.slice none 0 0]) (w.heap.size+2)=some (#[.int .i64 0,.slice none 0 0,.bool false,.slice (some ⟨w.heap.size+1,0,none⟩) 5 5,.slice none 0 0],37,(0,0)):=by simp (maxSteps:=1000000)(disch:=(first|omega|(simp only [qI,qJ,qK]<;>omega)|exact qL _)) only [go_sem,↓reduceIte,n0,reduceCtorEq,n1,n2,n3,n4,n5,i0,i1,i2,i3,i4,i5,i6,i7]
 have hr1:blk (wr (((w.alloc (.cells qZ5 37)).alloc (.cells #[.int .i64 0,.slice none 0 0,.bool false,.slice none 0 0,.slice none 0 0,.int .i64 0,.slice none 0 0,.bool false,.slice none 0 0,.slice none 0 0,.int .i64 0,.slice none 0 0,.bool false,.slice none 0 0,.slice none 0 0,.int .i64 0,.slice none 0 0,.bool false,.slice none 0 0,.slice none 0 0,.int .i64 0,.slice none 0 0,.bool false,.slice none 0 0,.slice none 0 0] 37)).alloc (.cells qZ5 37)) (w.heap.size+2) 0 [.int .i64 0,.slice none 0 0,.bool false,.slice (some ⟨w.heap.size+1,0,none⟩) 5 5,.slice none 0 0]) w.heap.size=some (qZ5,37,(0,0)):=by simp (maxSteps:=1000000)(disch:=(first|omega|(simp only [qI,qJ,qK]<;>omega)|exact qL _)) only [go_sem,↓reduceIte,n0,reduceCtorEq,n1,n2,n3,n4,n5,i0,i1,i2,i3,i4,i5,i6,i7]
 obtain ⟨w1,hw1⟩:∃ y,y=(wr (((w.alloc (.cells qZ5 37)).alloc (.cells #[.int .i64 0,.slice none 0 0,.bool false,.slice none 0 0,.slice none 0 0,.int .i64 0,.slice none 0 0,.bool false,.slice none 0 0,.slice none 0 0,.int .i64 0,.slice none 0 0,.bool false,.slice none 0 0,.slice none 0 0,.int .i64 0,.slice none 0 0,.bool false,.slice none 0 0,.slice none 0 0,.int .i64 0,.slice none 0 0,.bool false,.slice none 0 0,.slice none 0 0] 37)).alloc (.cells qZ5 37)) (w.heap.size+2) 0 [.int .i64 0,.slice none 0 0,.bool false,.slice (some ⟨w.heap.size+1,0,none⟩) 5 5,.slice none 0 0]):=⟨_,rfl⟩
 rw [← hw1] at hE1 hz1 hl1 ht1 hr1
 rw [← hw1]
 clear hw1
 have hU1:Upd (fun b=>b=w.heap.size+1∨b=w.heap.size+2) w1 w1:=Upd.refl _ _
 have hb1:=hE1.blk_some hb id
 repeat ((first|refine qA rfl ?_|apply qB|refine qC rfl ?_|apply qD|apply qE|apply qF|apply qG|apply qH);try simp (maxSteps:=1000000)(disch:=(first|omega|(simp only [qI,qJ,qK]<;>omega)|exact qL _)) only [go_sem,↓reduceIte,n0,reduceCtorEq,n1,n2,n3,n4,n5,i0,i1,i2,i3,i4,i5,i6,i7,hb1,hl1,ht1,hq0,hq1,hq2,hq3,hq4,hq5])
 refine W.drawR (.take 0 (.take 1 (.take 2 (.take 3 (.take 4 (.take 5 (.take 6 (.only 7 (.take 8 (.last 9)))))))))) (NoB) mixed (by kernel_rfl) ?_
 try simp (maxSteps:=1000000)(disch:=(first|omega|(simp only [qI,qJ,qK]<;>omega)|exact qL _)) only [go_sem,↓reduceIte,n0,reduceCtorEq,n1,n2,n3,n4,n5,i0,i1,i2,i3,i4,i5,i6,i7,hb1,hl1,ht1,hq0,hq1,hq2,hq3,hq4,hq5,tl32]
 refine ⟨Upd.refl _ _,?_⟩
 have lW:blk w1.drew (w.heap.size+1)=_:=hl1
 have hx2:Upd (fun b=>b=w.heap.size+1∨b=w.heap.size+2) w1 w1.drew:=(Upd.refl _ _).drew
 generalize hw2:wr w1.drew (w.heap.size+1) 0 [.int .i64 (IntKind.i32.wrap (t.at 0).n),.slice none 0 0,.bool false,.slice none 0 0,.slice none 0 0] = w2
 have hl2:blk w2 (w.heap.size+1)=some (#[.int .i64 (IntKind.i32.wrap (t.at 0).n),.slice none 0 0,.bool false,.slice none 0 0,.slice none 0 0,.int .i64 0,.slice none 0 0,.bool false,.slice none 0 0,.slice none 0 0,.int .i64 0,.slice none 0 0,.bool false,.slice none 0 0,.slice none 0 0,.int .i64 0,.slice none 0 0,.bool false,.slice none 0 0,.slice none 0 0,.int .i64 0,.slice none 0 0,.bool false,.slice none 0 0,.slice none 0 0],37,(0,0)):=by rw [← hw2,blk_wr_eq,lW];rfl
 have hv2:Upd (fun b=>b=w.heap.size+1∨b=w.heap.size+2) w1.drew w2:=by rw [← hw2];exact (Upd.refl _ _).wr _ _ (.inr (.inl rfl))
 have hV2:Upd (fun b=>b=w.heap.size+1∨b=w.heap.size+2) w1 w2:=hx2.trans hv2
 have hU2:Upd (fun b=>b=w.heap.size+1∨b=w.heap.size+2) w1 w2:=hU1.trans hV2
 have hz2:=hU2.size
 have hX2:Ext w w2:=hE1.more hU2 fun b hb h=>by omega
 have hb2:=hX2.blk_some hb id
 have ht2:blk w2 (w.heap.size+2)=some (#[.int .i64 0,.slice none 0 0,.bool false,.slice (some ⟨w.heap.size+1,0,none⟩) 5 5,.slice none 0 0],37,(0,0)):=by
  rw [← hw2,blk_wr_ne (by omega)]
  exact ht1
 clear hw2
 have hf0:TreeC (fun b=>w1.heap.size≤b) w2 (.num (IntKind.i32.wrap (t.at 0).n)) [.int .i64 (IntKind.i32.wrap (t.at 0).n),.slice none 0 0,.bool false,.slice none 0 0,.slice none 0 0]:=(TreeC.keep (hv2.keeps fun b hb hk e=>by have hk':w1.heap.size≤b:=hk;omega) (TreeC.intro (tl32 _) (BytesV.nil _ _) (treesN _ _) (tagsN _ _):TreeC (fun b=>w1.heap.size≤b) w1.drew (.num (IntKind.i32.wrap (t.at 0).n)) [.int .i64 (IntKind.i32.wrap (t.at 0).n),.slice none 0 0,.bool false,.slice none 0 0,.slice none 0 0]))
 repeat ((first|refine qA rfl ?_|apply qB|refine qC rfl ?_|apply qD|apply qE|apply qF|apply qG|apply qH);try simp (maxSteps:=1000000)(disch:=(first|omega|(simp only [qI,qJ,qK]<;>omega)|exact qL _)) only [go_sem,↓reduceIte,n0,reduceCtorEq,n1,n2,n3,n4,n5,i0,i1,i2,i3,i4,i5,i6,i7,hb2,hl2,ht2,hq0,hq1,hq2,hq3,hq4,hq5])
 refine W.drawR (.take 0 (.take 1 (.take 2 (.take 3 (.take 4 (.take 5 (.take 6 (.only 7 (.take 8 (.last 9)))))))))) (NoB) mixed (by kernel_rfl) ?_
 try simp (maxSteps:=1000000)(disch:=(first|omega|(simp only [qI,qJ,qK]<;>omega)|exact qL _)) only [go_sem,↓reduceIte,n0,reduceCtorEq,n1,n2,n3,n4,n5,i0,i1,i2,i3,i4,i5,i6,i7,hb2,hl2,ht2,hq0,hq1,hq2,hq3,hq4,hq5,tl16]
 refine ⟨Upd.refl _ _,?_⟩
 have pA:blk w2.drew (w.heap.size+1)=_:=hl2
 have hx3:Upd (fun b=>b=w.heap.size+1∨b=w.heap.size+2) w2 w2.drew:=(Upd.refl _ _).drew
 generalize hw3:wr w2.drew (w.heap.size+1) 5 [.int .i64 (IntKind.i16.wrap (t.at 1).n),.slice none 0 0,.bool false,.slice none 0 0,.slice none 0 0] = w3
 have hl3:blk w3 (w.heap.size+1)=some (#[.int .i64 (IntKind.i32.wrap (t.at 0).n),.slice none 0 0,.bool false,.slice none 0 0,.slice none 0 0,.int .i64 (IntKind.i16.wrap (t.at 1).n),.slice none 0 0,.bool false,.slice none 0 0,.slice none 0 0,.int .i64 0,.slice none 0 0,.bool false,.slice none 0 0,.slice none 0 0,.int .i64 0,.slice none 0 0,.bool false,.slice none 0 0,.slice none 0 0,.int .i64 0,.slice none 0 0,.bool false,.slice none 0 0,.slice none 0 0],37,(0,0)):=by rw [← hw3,blk_wr_eq,pA];rfl
 have hv3:Upd (fun b=>b=w.heap.size+1∨b=w.heap.size+2) w2.drew w3:=by rw [← hw3];exact (Upd.refl _ _).wr _ _ (.inr (.inl rfl))
 have hV3:Upd (fun b=>b=w.heap.size+1∨b=w.heap.size+2) w2 w3:=hx3.trans hv3
 have hU3:Upd (fun b=>b=w.heap.size+1∨b=w.heap.size+2) w1 w3:=hU2.trans hV3
 have hz3:=hU3.size
 have hX3:Ext w w3:=hE1.more hU3 fun b hb h=>by omega
 have hb3:=hX3.blk_some hb id
 have ht3:blk w3 (w.heap.size+2)=some (#[.int .i64 0,.slice none 0 0,.bool false,.slice (some ⟨w.heap.size+1,0,none⟩) 5 5,.slice none 0 0],37,(0,0)):=by
  rw [← hw3,blk_wr_ne (by omega)]
  exact ht2
 clear hw3
 have hf1:TreeC (fun b=>w1.heap.size≤b) w3 (.num (IntKind.i16.wrap (t.at 1).n)) [.int .i64 (IntKind.i16.wrap (t.at 1).n),.slice none 0 0,.bool false,.slice none 0 0,.slice none 0 0]:=(TreeC.keep (hv3.keeps fun b hb hk e=>by have hk':w1.heap.size≤b:=hk;omega) (TreeC.intro (tl16 _) (BytesV.nil _ _) (treesN _ _) (tagsN _ _):TreeC (fun b=>w1.heap.size≤b) w2.drew (.num (IntKind.i16.wrap (t.at 1).n)) [.int .i64 (IntKind.i16.wrap (t.at 1).n),.slice none 0 0,.bool false,.slice none 0 0,.slice none 0 0]))
 repeat ((first|refine qA rfl ?_|apply qB|refine qC rfl ?_|apply qD|apply qE|apply qF|apply qG|apply qH);try simp (maxSteps:=1000000)(disch:=(first|omega|(simp only [qI,qJ,qK]<;>omega)|exact qL _)) only [go_sem,↓reduceIte,n0,reduceCtorEq,n1,n2,n3,n4,n5,i0,i1,i2,i3,i4,i5,i6,i7,hb3,hl3,ht3,hq0,hq1,hq2,hq3,hq4,hq5])
 refine W.drawR (.take 0 (.take 1 (.take 2 (.take 3 (.take 4 (.take 5 (.take 6 (.only 7 (.take 8 (.last 9)))))))))) (NoB) mixed (by kernel_rfl) ?_
 try simp (maxSteps:=1000000)(disch:=(first|omega|(simp only [qI,qJ,qK]<;>omega)|exact qL _)) only [go_sem,↓reduceIte,n0,reduceCtorEq,n1,n2,n3,n4,n5,i0,i1,i2,i3,i4,i5,i6,i7,hb3,hl3,ht3,hq0,hq1,hq2,hq3,hq4,hq5,tl32]
 refine ⟨Upd.refl _ _,?_⟩
 have pB:blk w3.drew (w.heap.size+1)=_:=hl3
 have hx4:Upd (fun b=>b=w.heap.size+1∨b=w.heap.size+2) w3 w3.drew:=(Upd.refl _ _).drew
 generalize hw4:wr w3.drew (w.heap.size+1) 10 [.int .i64 (IntKind.i32.wrap (t.at 2).n),.slice none 0 0,.bool false,.slice none 0 0,.slice none 0 0] = w4
 have hl4:blk w4 (w.heap.size+1)=some (#[.int .i64 (IntKind.i32.wrap (t.at 0).n),.slice none 0 0,.bool false,.slice none 0 0,.slice none 0 0,.int .i64 (IntKind.i16.wrap (t.at 1).n),.slice none 0 0,.bool false,.slice none 0 0,.slice none 0 0,.int .i64 (IntKind.i32.wrap (t.at 2).n),.slice none 0 0,.bool false,.slice none 0 0,.slice none 0 0,.int .i64 0,.slice none 0 0,.bool false,.slice none 0 0,.slice none 0 0,.int .i64 0,.slice none 0 0,.bool false,.slice none 0 0,.slice none 0 0],37,(0,0)):=by rw [← hw4,blk_wr_eq,pB];rfl
 have hv4:Upd (fun b=>b=w.heap.size+1∨b=w.heap.size+2) w3.drew w4:=by rw [← hw4];exact (Upd.refl _ _).wr _ _ (.inr (.inl rfl))
 have hV4:Upd (fun b=>b=w.heap.size+1∨b=w.heap.size+2) w3 w4:=hx4.trans hv4
 have hU4:Upd (fun b=>b=w.heap.size+1∨b=w.heap.size+2) w1 w4:=hU3.trans hV4
 have hz4:=hU4.size
 have hX4:Ext w w4:=hE1.more hU4 fun b hb h=>by omega
 have hb4:=hX4.blk_some hb id
 have ht4:blk w4 (w.heap.size+2)=some (#[.int .i64 0,.slice none 0 0,.bool false,.slice (some ⟨w.heap.size+1,0,none⟩) 5 5,.slice none 0 0],37,(0,0)):=by
  rw [← hw4,blk_wr_ne (by omega)]
  exact ht3
 clear hw4
 have hf2:TreeC (fun b=>w1.heap.size≤b) w4 (.num (IntKind.i32.wrap (t.at 2).n)) [.int .i64 (IntKind.i32.wrap (t.at 2).n),.slice none 0 0,.bool false,.slice none 0 0,.slice none 0 0]:=(TreeC.keep (hv4.keeps fun b hb hk e=>by have hk':w1.heap.size≤b:=hk;omega) (TreeC.intro (tl32 _) (BytesV.nil _ _) (treesN _ _) (tagsN _ _):TreeC (fun b=>w1.heap.size≤b) w3.drew (.num (IntKind.i32.wrap (t.at 2).n)) [.int .i64 (IntKind.i32.wrap (t.at 2).n),.slice none 0 0,.bool false,.slice none 0 0,.slice none 0 0]))
 repeat ((first|refine qA rfl ?_|apply qB|refine qC rfl ?_|apply qD|apply qE|apply qF|apply qG|apply qH);try simp (maxSteps:=1000000)(disch:=(first|omega|(simp only [qI,qJ,qK]<;>omega)|exact qL _)) only [go_sem,↓reduceIte,n0,reduceCtorEq,n1,n2,n3,n4,n5,i0,i1,i2,i3,i4,i5,i6,i7,hb4,hl4,ht4,hq0,hq1,hq2,hq3,hq4,hq5])
 refine W.drawR (.take 0 (.take 1 (.take 2 (.take 3 (.take 4 (.take 5 (.take 6 (.only 7 (.take 8 (.last 9)))))))))) (NoB) mixed (by kernel_rfl) ?_
 try simp (maxSteps:=1000000)(disch:=(first|omega|(simp only [qI,qJ,qK]<;>omega)|exact qL _)) only [go_sem,↓reduceIte,n0,reduceCtorEq,n1,n2,n3,n4,n5,i0,i1,i2,i3,i4,i5,i6,i7,hb4,hl4,ht4,hq0,hq1,hq2,hq3,hq4,hq5,tl32]
 refine ⟨Upd.refl _ _,?_⟩
 have tY:blk w4.drew (w.heap.size+1)=_:=hl4
 have hx5:Upd (fun b=>b=w.heap.size+1∨b=w.heap.size+2) w4 w4.drew:=(Upd.refl _ _).drew
 generalize hw5:wr w4.drew (w.heap.size+1) 15 [.int .i64 (IntKind.i32.wrap (t.at 3).n),.slice none 0 0,.bool false,.slice none 0 0,.slice none 0 0] = w5
 have hl5:blk w5 (w.heap.size+1)=some (#[.int .i64 (IntKind.i32.wrap (t.at 0).n),.slice none 0 0,.bool false,.slice none 0 0,.slice none 0 0,.int .i64 (IntKind.i16.wrap (t.at 1).n),.slice none 0 0,.bool false,.slice none 0 0,.slice none 0 0,.int .i64 (IntKind.i32.wrap (t.at 2).n),.slice none 0 0,.bool false,.slice none 0 0,.slice none 0 0,.int .i64 (IntKind.i32.wrap (t.at 3).n),.slice none 0 0,.bool false,.slice none 0 0,.slice none 0 0,.int .i64 0,.slice none 0 0,.bool false,.slice none 0 0,.slice none 0 0],37,(0,0)):=by rw [← hw5,blk_wr_eq,tY];rfl
 have hv5:Upd (fun b=>b=w.heap.size+1∨b=w.heap.size+2) w4.drew w5:=by rw [← hw5];exact (Upd.refl _ _).wr _ _ (.inr (.inl rfl))
 have hV5:Upd (fun b=>b=w.heap.size+1∨b=w.heap.size+2) w4 w5:=hx5.trans hv5
 have hU5:Upd (fun b=>b=w.heap.size+1∨b=w.heap.size+2) w1 w5:=hU4.trans hV5
 have hz5:=hU5.size
 have hX5:Ext w w5:=hE1.more hU5 fun b hb h=>by omega
 have hb5:=hX5.blk_some hb id
 have ht5:blk w5 (w.heap.size+2)=some (#[.int .i64 0,.slice none 0 0,.bool false,.slice (some ⟨w.heap.size+1,0,none⟩) 5 5,.slice none 0 0],37,(0,0)):=by
  rw [← hw5,blk_wr_ne (by omega)]
  exact ht4
 clear hw5
 have hf3:TreeC (fun b=>w1.heap.size≤b) w5 (.num (IntKind.i32.wrap (t.at 3).n)) [.int .i64 (IntKind.i32.wrap (t.at 3).n),.slice none 0 0,.bool false,.slice none 0 0,.slice none 0 0]:=(TreeC.keep (hv5.keeps fun b hb hk e=>by have hk':w1.heap.size≤b:=hk;omega) (TreeC.intro (tl32 _) (BytesV.nil _ _) (treesN _ _) (tagsN _ _):TreeC (fun b=>w1.heap.size≤b) w4.drew (.num (IntKind.i32.wrap (t.at 3).n)) [.int .i64 (IntKind.i32.wrap (t.at 3).n),.slice none 0 0,.bool false,.slice none 0 0,.slice none 0 0]))
 repeat ((first|refine qA rfl ?_|apply qB|refine qC rfl ?_|apply qD|apply qE|apply qF|apply qG|apply qH);try simp (maxSteps:=1000000)(disch:=(first|omega|(simp only [qI,qJ,qK]<;>omega)|exact qL _)) only [go_sem,↓reduceIte,n0,reduceCtorEq,n1,n2,n3,n4,n5,i0,i1,i2,i3,i4,i5,i6,i7,hb5,hl5,ht5,hq0,hq1,hq2,hq3,hq4,hq5])
 refine W.drawR (.take 0 (.take 1 (.take 2 (.take 3 (.take 4 (.take 5 (.only 6 (.take 7 (.last 8))))))))) (NoB) mixed (by kernel_rfl) ?_
 try simp (maxSteps:=1000000)(disch:=(first|omega|(simp only [qI,qJ,qK]<;>omega)|exact qL _)) only [go_sem,↓reduceIte,n0,reduceCtorEq,n1,n2,n3,n4,n5,i0,i1,i2,i3,i4,i5,i6,i7,hb5,hl5,ht5,hq0,hq1,hq2,hq3,hq4,hq5]
 refine (boolTree_fn _ w5.drew).mono ?_
 rintro _ w6 ⟨rfl,jC⟩
 have C7:(if decide ((t.at 4).n % 2=1)=true then 1 else 0:Int)=(if (t.at 4).n % 2=1 then 1 else 0):=by by_cases h:(t.at 4).n % 2=1<;>simp [h]
 have hP6:Upd NoB w5.drew w6:=(Upd.refl _ _).trans (jC.mono fun _ h=>h.elim)
 have vC:=jC.size
 try simp only [size_drew] at vC
 refine ⟨hP6,?_⟩
 try simp (maxSteps:=1000000)(disch:=(first|omega|(simp only [qI,qJ,qK]<;>omega)|exact qL _)) only [go_sem,↓reduceIte,n0,reduceCtorEq,n1,n2,n3,n4,n5,i0,i1,i2,i3,i4,i5,i6,i7,hb5,hl5,ht5,hq0,hq1,hq2,hq3,hq4,hq5]
 have yL:=hP6.blk_some (show blk w5.drew (w.heap.size+1)=_ from hl5) id
 have hx7:Upd (fun b=>b=w.heap.size+1∨b=w.heap.size+2) w5 w6:=((Upd.refl _ _).drew).trans (hP6.mono fun _ h=>h.elim)
 try simp (maxSteps:=1000000)(disch:=(first|omega|(simp only [qI,qJ,qK]<;>omega)|exact qL _)) only [go_sem,↓reduceIte,n0,reduceCtorEq,n1,n2,n3,n4,n5,i0,i1,i2,i3,i4,i5,i6,i7,yL]
 generalize hw7:wr w6 (w.heap.size+1) 20 [.int .i64 (if decide ((t.at 4).n % 2=1)=true then 1 else 0:Int),.slice none 0 0,.bool false,.slice none 0 0,.slice none 0 0] = w7
 have hl7:blk w7 (w.heap.size+1)=some (#[.int .i64 (IntKind.i32.wrap (t.at 0).n),.slice none 0 0,.bool false,.slice none 0 0,.slice none 0 0,.int .i64 (IntKind.i16.wrap (t.at 1).n),.slice none 0 0,.bool false,.slice none 0 0,.slice none 0 0,.int .i64 (IntKind.i32.wrap (t.at 2).n),.slice none 0 0,.bool false,.slice none 0 0,.slice none 0 0,.int .i64 (IntKind.i32.wrap (t.at 3).n),.slice none 0 0,.bool false,.slice none 0 0,.slice none 0 0,.int .i64 (if decide ((t.at 4).n % 2=1)=true then 1 else 0:Int),.slice none 0 0,.bool false,.slice none 0 0,.slice none 0 0],37,(0,0)):=by rw [← hw7,blk_wr_eq,yL];rfl
 have hv7:Upd (fun b=>b=w.heap.size+1∨b=w.heap.size+2) w6 w7:=by rw [← hw7];exact (Upd.refl _ _).wr _ _ (.inr (.inl rfl))
 have hV7:Upd (fun b=>b=w.heap.size+1∨b=w.heap.size+2) w5 w7:=hx7.trans hv7
 have hU7:Upd (fun b=>b=w.heap.size+1∨b=w.heap.size+2) w1 w7:=hU5.trans hV7
 have hz7:=hU7.size
 have hX7:Ext w w7:=hE1.more hU7 fun b hb h=>by omega
 have hb7:=hX7.blk_some hb id
 have ht7:blk w7 (w.heap.size+2)=some (#[.int .i64 0,.slice none 0 0,.bool false,.slice (some ⟨w.heap.size+1,0,none⟩) 5 5,.slice none 0 0],37,(0,0)):=by
  rw [← hw7,blk_wr_ne (by omega)]
  exact hP6.blk_some (show blk w5.drew (w.heap.size+2)=_ from ht5) id
 clear hw7
 have hf4:TreeC (fun b=>w1.heap.size≤b) w7 (.num (if (t.at 4).n % 2=1 then 1 else 0)) [.int .i64 (if decide ((t.at 4).n % 2=1)=true then 1 else 0:Int),.slice none 0 0,.bool false,.slice none 0 0,.slice none 0 0]:=(TreeC.keep (hv7.keeps fun b hb hk e=>by have hk':w1.heap.size≤b:=hk;omega) (by rw [C7];exact TreeC.intro (by split<;>rfl) (BytesV.nil _ _) (treesN _ _) (tagsN _ _):TreeC (fun b=>w1.heap.size≤b) w6 (.num (if (t.at 4).n % 2=1 then 1 else 0)) [.int .i64 (if decide ((t.at 4).n % 2=1)=true then 1 else 0:Int),.slice none 0 0,.bool false,.slice none 0 0,.slice none 0 0]))
 repeat ((first|refine qA rfl ?_|apply qB|refine qC rfl ?_|apply qD|apply qE|apply qF|apply qG|apply qH);try simp (maxSteps:=1000000)(disch:=(first|omega|(simp only [qI,qJ,qK]<;>omega)|exact qL _)) only [go_sem,↓reduceIte,n0,reduceCtorEq,n1,n2,n3,n4,n5,i0,i1,i2,i3,i4,i5,i6,i7,hb7,hl7,ht7,hq0,hq1,hq2,hq3,hq4,hq5])
 refine (EachG_fn (ok:=fun b=>b < w.heap.size) 103 ca_103 #[.pointer (some ⟨w.heap.size+2,0,none⟩)] w7 (tb:=b) (to:=o+5) hb7 hq5 ((hT.weaken fun b hb _=>hb).keep (hX7.keeps _)) (sortT_perm _) (sortT_lt hgu.2.1) (by rw [(sortT_perm t.u).length_eq];exact hgu.1)
  (fun b=>b=w.heap.size+2) (by omega) (fun b hb hk e=>by have hk':b < w.heap.size:=hk;omega) (fun b hb=>by have:=blk_lt ht7;omega)
  (fun wl done w'=>∃ v,blk w' (w.heap.size+2)=some (#[.int .i64 0,.slice none 0 0,.bool false,.slice (some ⟨w.heap.size+1,0,none⟩) 5 5,v],37,(0,0))∧GrowU (fun b=>w1.heap.size≤b) wl.heap.size (w.heap.size+2) w' 69 v done) (fun wl hE=>⟨_,hE.blk_some ht7 id,GrowU.nil _ _ _ _ _⟩) ?_).mono ?_
 ·rintro wl hE done y vv wc hpre ⟨v,hbv,hg⟩ hU hvv hy
  have hz':=hE.size
  have hzu:=hU.size
  have htl:=blk_lt ht7
  have hpl:=hpre.length_le
  simp only [List.length_append,List.length_cons,List.length_nil] at hpl
  rw [(sortT_perm t.u).length_eq] at hpl
  have hlu:=hgu.1
  have hmy:y∈t.u:=(sortT_perm t.u).mem_iff.1 (hpre.subset (by simp))
  refine (tagclX2_fn (ok:=fun b=>b < w.heap.size) _ _ _ _ v done y vv wc hbv hg hzu (by omega) (hvv.keep ((hE.mono (fun _ h=>h.elim) |>.trans hU:Upd (fun b=>b=w.heap.size+2) w7 wc).keeps fun b _ hk e=>by have hk':b < w.heap.size:=hk;omega)) hy (hgu.2.2 y hmy) (by omega) (fun b hb=>by have:=hz7;omega)).mono ?_
  rintro _ w2' ⟨⟨v',h1,h2⟩,h3⟩
  exact ⟨⟨v',h1,h2⟩,hU.trans' h3 fun b hb h=>h.elim id fun h=>by omega⟩
 rintro _ w8 ⟨wl,hEl,⟨v,ht8,hgU⟩,hUe⟩
 have hzl:=hEl.size
 obtain ⟨aU,kU,hvs,_⟩:=hgU.shape
 subst hvs
 have hV8:Upd (fun b=>b=w.heap.size+1∨b=w.heap.size+2) w7 w8:=(hEl.mono fun _ h=>h.elim).trans (hUe.mono fun _ h=>.inr h)
 have hU8:Upd (fun b=>b=w.heap.size+1∨b=w.heap.size+2) w1 w8:=hU7.trans hV8
 have hz8:=hU8.size
 have hX8:Ext w w8:=hE1.more hU8 fun b hb h=>by omega
 have hb8:=hX8.blk_some hb id
 have hl8:=(((hEl.mono fun _ h=>h.elim).trans hUe:Upd (fun b=>b=w.heap.size+2) w7 w8)).blk_some hl7 (by omega)
 have hTU:=hgU.tags (ok':=(fun b=>w1.heap.size≤b)) (fun _ _ h=>h) (fun b hb=>by have:=hz7;omega)
 repeat ((first|refine qA rfl ?_|apply qB|refine qC rfl ?_|apply qD|apply qE|apply qF|apply qG|apply qH);try simp (maxSteps:=1000000)(disch:=(first|omega|(simp only [qI,qJ,qK]<;>omega)|exact qL _)) only [go_sem,↓reduceIte,n0,reduceCtorEq,n1,n2,n3,n4,n5,i0,i1,i2,i3,i4,i5,i6,i7,hb8,hl8,ht8,hq0,hq1,hq2,hq3,hq4,hq5,cellsAt_five])
 refine (sorted_fn _ _ w8 hTU (sortT_lt hgu.2.1) (by rw [(sortT_perm t.u).length_eq];exact hgu.1)).mono ?_
 rintro _ w9 hEs
 have hV9:Upd (fun b=>b=w.heap.size+1∨b=w.heap.size+2) w8 w9:=hEs.mono fun _ h=>h.elim
 have hU9:Upd (fun b=>b=w.heap.size+1∨b=w.heap.size+2) w1 w9:=hU8.trans hV9
 have hz9:=hU9.size
 have hX9:Ext w w9:=hE1.more hU9 fun b hb h=>by omega
 have hb9:=hX9.blk_some hb id
 have hl9:=hEs.blk_some hl8 id
 have ht9:=hEs.blk_some ht8 id
 have hr9:=(hU9.blk_some hr1 (by omega))
 have hC_9:Upd (fun b=>b=w.heap.size+1∨b=w.heap.size+2) w9 w9:=Upd.refl _ _
 have hC_8:Upd (fun b=>b=w.heap.size+1∨b=w.heap.size+2) w8 w9:=hV9.trans hC_9
 have hC_7:Upd (fun b=>b=w.heap.size+1∨b=w.heap.size+2) w7 w9:=hV8.trans hC_8
 have hC_5:Upd (fun b=>b=w.heap.size+1∨b=w.heap.size+2) w5 w9:=hV7.trans hC_7
 have hC_4:Upd (fun b=>b=w.heap.size+1∨b=w.heap.size+2) w4 w9:=hV5.trans hC_5
 have hC_3:Upd (fun b=>b=w.heap.size+1∨b=w.heap.size+2) w3 w9:=hV4.trans hC_4
 have hC_2:Upd (fun b=>b=w.heap.size+1∨b=w.heap.size+2) w2 w9:=hV3.trans hC_3
 have hC_1:Upd (fun b=>b=w.heap.size+1∨b=w.heap.size+2) w1 w9:=hV2.trans hC_2
 have hF0:=TreeC.keep (hC_2.keeps fun b hb hk e=>by have hk':w1.heap.size≤b:=hk;omega) hf0
 have hF1:=TreeC.keep (hC_3.keeps fun b hb hk e=>by have hk':w1.heap.size≤b:=hk;omega) hf1
 have hF2:=TreeC.keep (hC_4.keeps fun b hb hk e=>by have hk':w1.heap.size≤b:=hk;omega) hf2
 have hF3:=TreeC.keep (hC_5.keeps fun b hb hk e=>by have hk':w1.heap.size≤b:=hk;omega) hf3
 have hF4:=TreeC.keep (hC_7.keeps fun b hb hk e=>by have hk':w1.heap.size≤b:=hk;omega) hf4
 replace hF0:TreeC (fun b=>w1.heap.size≤b) w9 (tlF (tlP d) fX2_0 (t.at 0)) [.int .i64 (IntKind.i32.wrap (t.at 0).n),.slice none 0 0,.bool false,.slice none 0 0,.slice none 0 0]:=hF0
 replace hF1:TreeC (fun b=>w1.heap.size≤b) w9 (tlF (tlP d) fX2_1 (t.at 1)) [.int .i64 (IntKind.i16.wrap (t.at 1).n),.slice none 0 0,.bool false,.slice none 0 0,.slice none 0 0]:=hF1
 replace hF2:TreeC (fun b=>w1.heap.size≤b) w9 (tlF (tlP d) fX2_2 (t.at 2)) [.int .i64 (IntKind.i32.wrap (t.at 2).n),.slice none 0 0,.bool false,.slice none 0 0,.slice none 0 0]:=hF2
 replace hF3:TreeC (fun b=>w1.heap.size≤b) w9 (tlF (tlP d) fX2_3 (t.at 3)) [.int .i64 (IntKind.i32.wrap (t.at 3).n),.slice none 0 0,.bool false,.slice none 0 0,.slice none 0 0]:=hF3
 replace hF4:TreeC (fun b=>w1.heap.size≤b) w9 (tlF (tlP d) fX2_4 (t.at 4)) [.int .i64 (if decide ((t.at 4).n % 2=1)=true then 1 else 0:Int),.slice none 0 0,.bool false,.slice none 0 0,.slice none 0 0]:=hF4
 have hTL:TreesV (fun b=>(fun b=>w1.heap.size≤b) b∨b=w.heap.size+1) w9 (.slice (some ⟨w.heap.size+1,0,none⟩) 5 5) [tlF (tlP d) fX2_0 (t.at 0),tlF (tlP d) fX2_1 (t.at 1),tlF (tlP d) fX2_2 (t.at 2),tlF (tlP d) fX2_3 (t.at 3),tlF (tlP d) fX2_4 (t.at 4)]:=by
  refine ⟨[[.int .i64 (IntKind.i32.wrap (t.at 0).n),.slice none 0 0,.bool false,.slice none 0 0,.slice none 0 0],[.int .i64 (IntKind.i16.wrap (t.at 1).n),.slice none 0 0,.bool false,.slice none 0 0,.slice none 0 0],[.int .i64 (IntKind.i32.wrap (t.at 2).n),.slice none 0 0,.bool false,.slice none 0 0,.slice none 0 0],[.int .i64 (IntKind.i32.wrap (t.at 3).n),.slice none 0 0,.bool false,.slice none 0 0,.slice none 0 0],[.int .i64 (if decide ((t.at 4).n % 2=1)=true then 1 else 0:Int),.slice none 0 0,.bool false,.slice none 0 0,.slice none 0 0]],⟨_,5,rfl,Nat.le_refl _,(by intro cs hm;simp only [List.mem_cons,List.not_mem_nil,or_false] at hm;rcases hm with rfl|rfl|rfl|rfl|rfl<;>rfl),.inr ⟨_,rfl,rfl,.inr rfl,_,hl9,fun i hi=>by rw [Nat.zero_add,List.getElem?_toArray];rfl⟩⟩,rfl,fun i h1 h2 => ?_⟩
  match i,h1 with
  | 0,_=>exact TreeC.weaken (fun b _ hk=>.inl hk) hF0
  | 1,_=>exact TreeC.weaken (fun b _ hk=>.inl hk) hF1
  | 2,_=>exact TreeC.weaken (fun b _ hk=>.inl hk) hF2
  | 3,_=>exact TreeC.weaken (fun b _ hk=>.inl hk) hF3
  | 4,_=>exact TreeC.weaken (fun b _ hk=>.inl hk) hF4
 repeat ((first|refine qA rfl ?_|apply qB|refine qC rfl ?_|apply qD|apply qE|apply qF|apply qG|apply qH);try simp (maxSteps:=1000000)(disch:=(first|omega|(simp only [qI,qJ,qK]<;>omega)|exact qL _)) only [go_sem,↓reduceIte,n0,reduceCtorEq,n1,n2,n3,n4,n5,i0,i1,i2,i3,i4,i5,i6,i7,hb9,hl9,ht9,hq0,hq1,hq2,hq3,hq4,hq5,hr9,cellsAt_five])
 refine ⟨⟨_,rfl,?_⟩,hX9.wr _ _ (.inl (Nat.le_refl _))⟩
 have hUr:Upd (fun b=>b=w.heap.size) w9 (wr w9 w.heap.size 0 [.int .i64 0,.slice none 0 0,.bool false,.slice (some ⟨w.heap.size+1,0,none⟩) 5 5,.slice aU (sortT t.u).length kU]):=(Upd.refl _ _).wr _ _ (.inr rfl)
 have gD:=hTU.keep (hEs.keeps _)
 exact TreeC.intro rfl (BytesV.nil _ _) ((hTL.keep (hUr.keeps fun b _ hk e=>by rcases hk with hk|hk<;>omega)).weaken fun b _ hk=>by rcases hk with hk|hk<;>omega) ((gD.keep (hUr.keeps fun b _ hk e=>by omega)).weaken fun b _ hk=>by omega)

theorem tagclX6_fn {ok OK:Blocks} {B tb:Nat} (c0 c1 c2 c3 v:Value) (done:List TagD) (y:TagD) (vv:Value) (w:World) (hbt:blk w tb=some (#[c0,c1,c2,c3,v],37,(0,0))) (hg:GrowU OK B tb w 69 v done) (hB:B≤w.heap.size) (htb:tb < B) (hvv:BytesV ok w vv y.2) (hy:y.1 < 2 ^ 32) (hyl:y.2.length≤32767) (hdl:done.length≤32767) (hOK:∀ b,B≤b→OK b) :
  Fn Tryz.prog 86 #[.int .u32 y.1,vv,.pointer (some ⟨tb,0,none⟩)] w fun _ w'=>(∃ v',blk w' tb=some (#[c0,c1,c2,c3,v'],37,(0,0))∧GrowU OK B tb w' 69 v' (done++[y]))∧Upd (fun b=>b=tb∨B≤b) w w':=by
 have htl:=blk_lt hbt
 refine fn_of_W Tryz.func86 rfl Tryz.results86 Tryz.ntmps86 rfl ?_
 repeat ((first|refine qA rfl ?_|apply qB|refine qC rfl ?_|apply qD|apply qE|apply qF|apply qG|apply qH);try simp (maxSteps:=1000000)(disch:=(first|omega|(simp only [qI,qJ,qK]<;>omega)|exact qL _)) only [go_sem,↓reduceIte,n0,reduceCtorEq,n1,n2,n3,n4,n5,i0,i1,i2,i3,i4,i5,i6,i7])
 obtain ⟨av,kv,rfl,_⟩:=hg.shape
 have hnb:∀ b,b < B∨w.heap.size≤b→¬ ownB (.slice av done.length kv) b:=fun b hb h=>by
  have:=hg.above h
  have:=hg.below h
  omega
 refine W.drawR (.take 0 (.take 1 (.take 2 (.take 3 (.only 4 (.only 5 (.only 6 (.only 7 (.take 8 (.last 9)))))))))) (ownB (.slice av done.length kv)) mixed (by kernel_rfl) ?_
 simp (maxSteps:=1000000)(disch:=(first|omega|(simp only [qI,qJ,qK]<;>omega)|exact qL _|(refine hnb _ ?_;first|omega|(simp only [World.size_alloc,size_wr,size_drew]<;>omega)))) only [go_sem,↓reduceIte,n0,reduceCtorEq,n1,n2,n3,n4,n5,i0,i1,i2,i3,i4,i5,i6,i7,hbt]
 refine wp_copyN ap_22_22 (ok:=ok) (s:=y.2) (v:=vv) (by first|rfl|simp (maxSteps:=1000000)(disch:=(first|omega|(simp only [qI,qJ,qK]<;>omega)|exact qL _)) only [go_sem,↓reduceIte,n0,reduceCtorEq,n1,n2,n3,n4,n5,i0,i1,i2,i3,i4,i5,i6,i7]) (by first|rfl|simp (maxSteps:=1000000)(disch:=(first|omega|(simp only [qI,qJ,qK]<;>omega)|exact qL _)) only [go_sem,↓reduceIte,n0,reduceCtorEq,n1,n2,n3,n4,n5,i0,i1,i2,i3,i4,i5,i6,i7]) (hvv.keep (Ext.keeps ((Upd.refl _ _).drew) _)) (by omega) ?_
 intro v1 w1 ho1 hE1 hf1
 obtain ⟨a1,k1,rfl,_⟩:=ho1.shape
 have hB1:=Own.bytes (ok:=fun b=>w.heap.size≤b) ho1 fun b hb=>hf1 b hb
 have hP1:Upd (ownB (.slice av done.length kv)) w.drew w1:=hE1.mono fun _ h=>h.elim
 have hs1:=hE1.size
 simp only [size_drew] at hs1
 refine ⟨hP1,?_⟩
 simp (maxSteps:=1000000)(disch:=(first|omega|(simp only [qI,qJ,qK]<;>omega)|exact qL _|(refine hnb _ ?_;first|omega|(simp only [World.size_alloc,size_wr,size_drew]<;>omega)))) only [go_sem,↓reduceIte,n0,reduceCtorEq,n1,n2,n3,n4,n5,i0,i1,i2,i3,i4,i5,i6,i7,hbt]
 refine ⟨hP1,?_⟩
 have hP2:Upd (ownB (.slice av done.length kv)) w.drew (w1.alloc (.cells #[.int .u32 y.1,.slice a1 y.2.length k1] 69)):=hP1.alloc _
 have hn2:blk (w1.alloc (.cells #[.int .u32 y.1,.slice a1 y.2.length k1] 69)) w1.heap.size=some (#[.int .u32 y.1,.slice a1 y.2.length k1],69,(0,0)):=blk_alloc_new rfl
 have hs2:(w1.alloc (.cells #[.int .u32 y.1,.slice a1 y.2.length k1] 69)).heap.size=w1.heap.size+1:=World.size_alloc _ _
 have hE2:Ext w1 (w1.alloc (.cells #[.int .u32 y.1,.slice a1 y.2.length k1] 69)):=Upd.alloc (Upd.refl _ _) _
 refine ⟨hP2,?_⟩
 try simp only [List.append_nil]
 generalize (w1.alloc (.cells #[.int .u32 y.1,.slice a1 y.2.length k1] 69))=w2 at *
 have hEw:Ext w w2:=(((Upd.refl _ _).drew).trans hE1).trans hE2
 obtain ⟨css,hown,hall⟩:=(hg.ext hEw).ex
 have hcl:=hall.1
 have hx2:TagC (fun b=>OK b∧b≠tb∧¬ ownB (.slice av done.length kv) b) w2 y [.int .u32 y.1,.slice a1 y.2.length k1]:=⟨_,rfl,(hB1.keep (hE2.keeps _)).weaken fun b _ hk=>⟨hOK b (by omega),by omega,hnb b (.inr hk)⟩,hy⟩
 refine wp_append ap_35_35 (m:=1) (news:=[.int .u32 y.1,.slice a1 y.2.length k1]) (n:=css.length) (cs:=css.flatten) (v:=.slice av done.length kv) ?_ rfl hown.1 hall.flat_cells (Src.blk (fr:=(0,0)) (T:=69) hn2 rfl rfl) ?_ ?_ ?_
 ·first|rfl|simp (maxSteps:=1000000)(disch:=(first|omega|(simp only [qI,qJ,qK]<;>omega)|exact qL _)) only [go_sem,↓reduceIte,n0,reduceCtorEq,n1,n2,n3,n4,n5,i0,i1,i2,i3,i4,i5,i6,i7]
 ·omega
 ·omega
 intro v' w3 ho hu hfr
 have hg3:=GrowU.snoc hown hall hx2 hu hfr ho
 obtain ⟨va,vc,hv',_⟩:=ho.shape
 subst hv'
 have hP3:=hP2.trans hu
 have hs3:=hu.size
 have bX:=hP3.blk_some (show blk w.drew tb=_ from hbt) (hnb _ (.inl htb))
 have hne:¬ ownB (.slice va (css.length+1) vc) tb:=fun h=>(hfr _ h).elim (hnb _ (.inl htb)) (fun h=>by omega)
 refine ⟨hP3,?_⟩
 simp (maxSteps:=1000000)(disch:=(first|omega|(simp only [qI,qJ,qK]<;>omega)|exact qL _|(refine hnb _ ?_;first|omega|(simp only [World.size_alloc,size_wr,size_drew]<;>omega)))) only [go_sem,↓reduceIte,n0,reduceCtorEq,n1,n2,n3,n4,n5,i0,i1,i2,i3,i4,i5,i6,i7,bX]
 repeat ((first|refine qA rfl ?_|apply qB|refine qC rfl ?_|apply qD|apply qE|apply qF|apply qG|apply qH);try simp (maxSteps:=1000000)(disch:=(first|omega|(simp only [qI,qJ,qK]<;>omega)|exact qL _)) only [go_sem,↓reduceIte,n0,reduceCtorEq,n1,n2,n3,n4,n5,i0,i1,i2,i3,i4,i5,i6,i7])
 refine ⟨⟨.slice va (css.length+1) vc,by first|(rw [blk_wr_eq,bX];rfl)|rfl|(rw [bX];rfl)|(rw [blk_wr_eq,bX]),hg3.upd ((Upd.refl _ _).wr _ _ (.inr rfl)) hne⟩,?_⟩
 refine Upd.wr ?_ _ _ (.inr (.inl rfl))
 exact (((Upd.refl (fun b=>b=tb∨B≤b) w).drew).trans (hP3.mono fun b h=>.inr (hg.above h)))

set_option maxHeartbeats 4000000 in
theorem tellX6_fn {d:Nat} {ok:Blocks} (t:Tree) (cs:List Value) (w:World) {b o:Nat} {x:Blk} (hb:blk w b=some x) (hq:∀ k,k < 3→x.1[o+k]? = cs[k]?) (hR:RepS true (d+2) fs_X6 ok w t cs) (hg:GoodP (d+2) fs_X6 t) :
  Fn Tryz.prog 46 #[.pointer (some ⟨b,o,none⟩)] w fun r w'=>(∃ c,r = .agg c.toArray∧TreeC (fun b=>w.heap.size≤b) w' (tlP (d+2) fs_X6 t) c)∧Ext w w':=by
 have hbl:=blk_lt hb
 obtain ⟨⟨gd0,gd1,-⟩,hgu⟩:=hg
 replace gd0:GoodF (GoodP (d+1)) fX6_0 (t.at 0):=gd0
 replace gd1:GoodF (GoodP (d+1)) fX6_1 (t.at 1):=gd1
 obtain ⟨cs0,q,hcs,hL,hT⟩:=hR.inv
 obtain ⟨c0,e0,rfl,h0,c1,e1,rfl,h1,rfl⟩:=hL
 replace h0:RepF (RepS true (d+1)) (szS true (d+1)) fX6_0 ok w (t.at 0) c0:=h0
 replace h1:RepF (RepS true (d+1)) (szS true (d+1)) fX6_1 ok w (t.at 1) c1:=h1
 obtain rfl:=(RepF_text rfl (by decide)).1 h0
 obtain ⟨ab1,ac1,L1,rfl,hL1,u6,hs1⟩:=RepF_listT rfl h1
 have lJ:=gd1.listL rfl hL1
 obtain ⟨qm,rfl⟩:=hT.shape
 subst hcs
 have hq0:x.1[o]? = some (strV (t.at 0).s):=hq 0 (by decide)
 have hq1:x.1[o+1]? = some (.slice ab1 L1.length ac1):=hq 1 (by decide)
 have hq2:x.1[o+2]? = some (.map qm):=hq 2 (by decide)
 refine fn_of_W Tryz.func46 rfl Tryz.results46 Tryz.ntmps46 rfl ?_
 repeat ((first|refine qA rfl ?_|apply qB|refine qC rfl ?_|apply qD|apply qE|apply qF|apply qG|apply qH);try simp (maxSteps:=1000000)(disch:=(first|omega|(simp only [qI,qJ,qK]<;>omega)|exact qL _)) only [go_sem,↓reduceIte,n0,reduceCtorEq,n1,n2,n3,n4,n5,i0,i1,i2,i3,i4,i5,i6,i7])
 refine wp_make (T:=34) (E:=37) (size:=5) (bytes:=88) (z:=.agg qZ5) (l:=2) (c:=2) (kl:=.i64) (kc:=.i64) (by kernel_rfl) (by kernel_rfl) (by first|rfl|(simp (maxSteps:=1000000)(disch:=(first|omega|(simp only [qI,qJ,qK]<;>omega)|exact qL _)) only [go_sem,↓reduceIte,n0,reduceCtorEq,n1,n2,n3,n4,n5,i0,i1,i2,i3,i4,i5,i6,i7];rfl)) (by first|rfl|(simp (maxSteps:=1000000)(disch:=(first|omega|(simp only [qI,qJ,qK]<;>omega)|exact qL _)) only [go_sem,↓reduceIte,n0,reduceCtorEq,n1,n2,n3,n4,n5,i0,i1,i2,i3,i4,i5,i6,i7];rfl)) (by omega) (by omega) (by omega) ?_
 have hmd:madeCells (Value.agg qZ5).cells (2 * 5)=#[.int .i64 0,.slice none 0 0,.bool false,.slice none 0 0,.slice none 0 0,.int .i64 0,.slice none 0 0,.bool false,.slice none 0 0,.slice none 0 0]:=by kernel_rfl
 rw [hmd]
 simp (maxSteps:=1000000)(disch:=(first|omega|(simp only [qI,qJ,qK]<;>omega)|exact qL _)) only [go_sem,↓reduceIte,n0,reduceCtorEq,n1,n2,n3,n4,n5,i0,i1,i2,i3,i4,i5,i6,i7]
 repeat ((first|refine qA rfl ?_|apply qB|refine qC rfl ?_|apply qD|apply qE|apply qF|apply qG|apply qH);try simp (maxSteps:=1000000)(disch:=(first|omega|(simp only [qI,qJ,qK]<;>omega)|exact qL _)) only [go_sem,↓reduceIte,n0,reduceCtorEq,n1,n2,n3,n4,n5,i0,i1,i2,i3,i4,i5,i6,i7])
 have hE1:Ext w (wr (((w.alloc (.cells qZ5 37)).alloc (.cells #[.int .i64 0,.slice none 0 0,.bool false,.slice none 0 0,.slice none 0 0,.int .i64 0,.slice none 0 0,.bool false,.slice none 0 0,.slice none 0 0] 37)).alloc (.cells qZ5 37)) (w.heap.size+2) 0 [.int .i64 0,.slice none 0 0,.bool false,.slice (some ⟨w.heap.size+1,0,none⟩) 2 2,.slice none 0 0]):=(Upd.alloc (Upd.alloc (Upd.alloc (Upd.refl _ _) _) _) _).wr _ _ (.inl (by omega))
 have hz1:(wr (((w.alloc (.cells qZ5 37)).alloc (.cells #[.int .i64 0,.slice none 0 0,.bool false,.slice none 0 0,.slice none 0 0,.int .i64 0,.slice none 0 0,.bool false,.slice none 0 0,.slice none 0 0] 37)).alloc (.cells qZ5 37)) (w.heap.size+2) 0 [.int .i64 0,.slice none 0 0,.bool false,.slice (some ⟨w.heap.size+1,0,none⟩) 2 2,.slice none 0 0]).heap.size=w.heap.size+3:=by simp only [size_wr,World.size_alloc]
 have hl1:blk (wr (((w.alloc (.cells qZ5 37)).alloc (.cells #[.int .i64 0,.slice none 0 0,.bool false,.slice none 0 0,.slice none 0 0,.int .i64 0,.slice none 0 0,.bool false,.slice none 0 0,.slice none 0 0] 37)).alloc (.cells qZ5 37)) (w.heap.size+2) 0 [.int .i64 0,.slice none 0 0,.bool false,.slice (some ⟨w.heap.size+1,0,none⟩) 2 2,.slice none 0 0]) (w.heap.size+1)=some (#[.int .i64 0,.slice none 0 0,.bool false,.slice none 0 0,.slice none 0 0,.int .i64 0,.slice none 0 0,.bool false,.slice none 0 0,.slice none 0 0],37,(0,0)):=by simp (maxSteps:=1000000)(disch:=(first|omega|(simp only [qI,qJ,qK]<;>omega)|exact qL _)) only [go_sem,↓reduceIte,n0,reduceCtorEq,n1,n2,n3,n4,n5,i0,i1,i2,i3,i4,i5,i6,i7]
 have ht1:blk (wr (((w.alloc (.cells qZ5 37)).alloc (.cells #[.int .i64 0,.slice none 0 0,.bool false,.slice none 0 0,.slice none 0 0,.int .i64 0,.slice none 0 0,.bool false,.slice none 0 0,.slice none 0 0] 37)).alloc (.cells qZ5 37)) (w.heap.size+2) 0 [.int .i64 0,.slice none 0 0,.bool false,.slice (some ⟨w.heap.size+1,0,none⟩) 2 2,.slice none 0 0]) (w.heap.size+2)=some (#[.int .i64 0,.slice none 0 0,.bool false,.slice (some ⟨w.heap.size+1,0,none⟩) 2 2,.slice none 0 0],37,(0,0)):=by simp (maxSteps:=1000000)(disch:=(first|omega|(simp only [qI,qJ,qK]<;>omega)|exact qL _)) only [go_sem,↓reduceIte,n0,reduceCtorEq,n1,n2,n3,n4,n5,i0,i1,i2,i3,i4,i5,i6,i7]
 have hr1:blk (wr (((w.alloc (.cells qZ5 37)).alloc (.cells #[.int .i64 0,.slice none 0 0,.bool false,.slice none 0 0,.slice none 0 0,.int .i64 0,.slice none 0 0,.bool false,.slice none 0 0,.slice none 0 0] 37)).alloc (.cells qZ5 37)) (w.heap.size+2) 0 [.int .i64 0,.slice none 0 0,.bool false,.slice (some ⟨w.heap.size+1,0,none⟩) 2 2,.slice none 0 0]) w.heap.size=some (qZ5,37,(0,0)):=by simp (maxSteps:=1000000)(disch:=(first|omega|(simp only [qI,qJ,qK]<;>omega)|exact qL _)) only [go_sem,↓reduceIte,n0,reduceCtorEq,n1,n2,n3,n4,n5,i0,i1,i2,i3,i4,i5,i6,i7]
 obtain ⟨w1,hw1⟩:∃ y,y=(wr (((w.alloc (.cells qZ5 37)).alloc (.cells #[.int .i64 0,.slice none 0 0,.bool false,.slice none 0 0,.slice none 0 0,.int .i64 0,.slice none 0 0,.bool false,.slice none 0 0,.slice none 0 0] 37)).alloc (.cells qZ5 37)) (w.heap.size+2) 0 [.int .i64 0,.slice none 0 0,.bool false,.slice (some ⟨w.heap.size+1,0,none⟩) 2 2,.slice none 0 0]):=⟨_,rfl⟩
 rw [← hw1] at hE1 hz1 hl1 ht1 hr1
 rw [← hw1]
 clear hw1
 have hU1:Upd (fun b=>b=w.heap.size+1∨b=w.heap.size+2) w1 w1:=Upd.refl _ _
 have hb1:=hE1.blk_some hb id
 repeat ((first|refine qA rfl ?_|apply qB|refine qC rfl ?_|apply qD|apply qE|apply qF|apply qG|apply qH);try simp (maxSteps:=1000000)(disch:=(first|omega|(simp only [qI,qJ,qK]<;>omega)|exact qL _)) only [go_sem,↓reduceIte,n0,reduceCtorEq,n1,n2,n3,n4,n5,i0,i1,i2,i3,i4,i5,i6,i7,hb1,hl1,ht1,hq0,hq1,hq2])
 refine W.drawR (.take 0 (.take 1 (.take 2 (.take 3 (.take 4 (.take 5 (.only 6 (.only 7 (.take 8 (.last 9)))))))))) (NoB) mixed (by kernel_rfl) ?_
 try simp (maxSteps:=1000000)(disch:=(first|omega|(simp only [qI,qJ,qK]<;>omega)|exact qL _)) only [go_sem,↓reduceIte,n0,reduceCtorEq,n1,n2,n3,n4,n5,i0,i1,i2,i3,i4,i5,i6,i7,hb1,hl1,ht1,hq0,hq1,hq2]
 refine wp_octets (S:=9) (T:=22) (E:=5) (s:=(t.at 0).s) (by kernel_rfl) (by kernel_rfl) (by kernel_rfl) (by first|rfl|simp (maxSteps:=1000000)(disch:=(first|omega|(simp only [qI,qJ,qK]<;>omega)|exact qL _)) only [go_sem,↓reduceIte,n0,reduceCtorEq,n1,n2,n3,n4,n5,i0,i1,i2,i3,i4,i5,i6,i7,hb1,hl1,ht1,hq0,hq1,hq2]) ?_
 intro a2 k2 w2 hB2 wY
 have hP2:Upd NoB w1.drew w2:=(Upd.refl _ _).trans (wY.mono fun _ h=>h.elim)
 have CS:=wY.size
 try simp only [size_drew] at CS
 refine ⟨hP2,?_⟩
 try simp (maxSteps:=1000000)(disch:=(first|omega|(simp only [qI,qJ,qK]<;>omega)|exact qL _)) only [go_sem,↓reduceIte,n0,reduceCtorEq,n1,n2,n3,n4,n5,i0,i1,i2,i3,i4,i5,i6,i7,hb1,hl1,ht1,hq0,hq1,hq2]
 refine ⟨hP2,?_⟩
 have pA:=hP2.blk_some (show blk w1.drew (w.heap.size+1)=_ from hl1) id
 have hx3:Upd (fun b=>b=w.heap.size+1∨b=w.heap.size+2) w1 w2:=((Upd.refl _ _).drew).trans (hP2.mono fun _ h=>h.elim)
 try simp (maxSteps:=1000000)(disch:=(first|omega|(simp only [qI,qJ,qK]<;>omega)|exact qL _)) only [go_sem,↓reduceIte,n0,reduceCtorEq,n1,n2,n3,n4,n5,i0,i1,i2,i3,i4,i5,i6,i7,pA]
 generalize hw3:wr w2 (w.heap.size+1) 0 [.int .i64 0,.slice (some a2) ((t.at 0).s).length k2,.bool false,.slice none 0 0,.slice none 0 0] = w3
 have hl3:blk w3 (w.heap.size+1)=some (#[.int .i64 0,.slice (some a2) ((t.at 0).s).length k2,.bool false,.slice none 0 0,.slice none 0 0,.int .i64 0,.slice none 0 0,.bool false,.slice none 0 0,.slice none 0 0],37,(0,0)):=by rw [← hw3,blk_wr_eq,pA];rfl
 have hv3:Upd (fun b=>b=w.heap.size+1∨b=w.heap.size+2) w2 w3:=by rw [← hw3];exact (Upd.refl _ _).wr _ _ (.inr (.inl rfl))
 have hV3:Upd (fun b=>b=w.heap.size+1∨b=w.heap.size+2) w1 w3:=hx3.trans hv3
 have hU3:Upd (fun b=>b=w.heap.size+1∨b=w.heap.size+2) w1 w3:=hU1.trans hV3
 have hz3:=hU3.size
 have hX3:Ext w w3:=hE1.more hU3 fun b hb h=>by omega
 have hb3:=hX3.blk_some hb id
 have ht3:blk w3 (w.heap.size+2)=some (#[.int .i64 0,.slice none 0 0,.bool false,.slice (some ⟨w.heap.size+1,0,none⟩) 2 2,.slice none 0 0],37,(0,0)):=by
  rw [← hw3,blk_wr_ne (by omega)]
  exact hP2.blk_some (show blk w1.drew (w.heap.size+2)=_ from ht1) id
 clear hw3
 have hf0:TreeC (fun b=>w1.heap.size≤b) w3 (.oct false (t.at 0).s) [.int .i64 0,.slice (some a2) ((t.at 0).s).length k2,.bool false,.slice none 0 0,.slice none 0 0]:=(TreeC.keep (hv3.keeps fun b hb hk e=>by have hk':w1.heap.size≤b:=hk;omega) (TreeC.intro rfl (hB2.weaken fun b _ hk=>by have hk':w1.drew.heap.size≤b:=hk;(try simp only [size_drew] at hk');omega) (treesN _ _) (tagsN _ _):TreeC (fun b=>w1.heap.size≤b) w2 (.oct false (t.at 0).s) [.int .i64 0,.slice (some a2) ((t.at 0).s).length k2,.bool false,.slice none 0 0,.slice none 0 0]))
 repeat ((first|refine qA rfl ?_|apply qB|refine qC rfl ?_|apply qD|apply qE|apply qF|apply qG|apply qH);try simp (maxSteps:=1000000)(disch:=(first|omega|(simp only [qI,qJ,qK]<;>omega)|exact qL _)) only [go_sem,↓reduceIte,n0,reduceCtorEq,n1,n2,n3,n4,n5,i0,i1,i2,i3,i4,i5,i6,i7,hb3,hl3,ht3,hq0,hq1,hq2])
 refine W.drawR (.take 0 (.take 1 (.take 2 (.take 3 (.take 4 (.take 5 (.take 6 (.take 7 (.take 8 (.last 9)))))))))) (NoB) mixed (by kernel_rfl) ?_
 try simp (maxSteps:=1000000)(disch:=(first|omega|(simp only [qI,qJ,qK]<;>omega)|exact qL _)) only [go_sem,↓reduceIte,n0,reduceCtorEq,n1,n2,n3,n4,n5,i0,i1,i2,i3,i4,i5,i6,i7,hb3,hl3,ht3,hq0,hq1,hq2,u6]
 generalize hw4:wr w3.drew (w.heap.size+1) 7 [.bool (t.at 1).null] = w4
 have hl4:blk w4 (w.heap.size+1)=some (#[.int .i64 0,.slice (some a2) ((t.at 0).s).length k2,.bool false,.slice none 0 0,.slice none 0 0,.int .i64 0,.slice none 0 0,.bool (t.at 1).null,.slice none 0 0,.slice none 0 0],37,(0,0)):=by rw [← hw4,blk_wr_eq,show blk w3.drew (w.heap.size+1)=_ from hl3];rfl
 have hV4:Upd (fun b=>b=w.heap.size+1∨b=w.heap.size+2) w3 w4:=by rw [← hw4];exact ((Upd.refl _ _).drew).wr _ _ (.inr (.inl rfl))
 have hU4:Upd (fun b=>b=w.heap.size+1∨b=w.heap.size+2) w1 w4:=hU3.trans hV4
 have hz4:=hU4.size
 have hX4:Ext w w4:=hE1.more hU4 fun b hb h=>by omega
 have hb4:=hX4.blk_some hb id
 have ht4:blk w4 (w.heap.size+2)=some (#[.int .i64 0,.slice none 0 0,.bool false,.slice (some ⟨w.heap.size+1,0,none⟩) 2 2,.slice none 0 0],37,(0,0)):=by
  rw [← hw4,blk_wr_ne (by omega)]
  exact ht3
 clear hw4
 repeat ((first|refine qA rfl ?_|apply qB|refine qC rfl ?_|apply qD|apply qE|apply qF|apply qG|apply qH);try simp (maxSteps:=1000000)(disch:=(first|omega|(simp only [qI,qJ,qK]<;>omega)|exact qL _)) only [go_sem,↓reduceIte,n0,reduceCtorEq,n1,n2,n3,n4,n5,i0,i1,i2,i3,i4,i5,i6,i7,hb4,hl4,ht4,hq0,hq1,hq2])
 refine W.exitJ 0 (EndQ [(0,.pointer (some ⟨b,o,none⟩)),(2,.pointer (some ⟨w.heap.size,0,none⟩)),(3,.pointer (some ⟨w.heap.size+2,0,none⟩)),(29,.int .i64 L1.length)] (fun w'=>∃ v,blk w' (w.heap.size+1)=some (#[.int .i64 0,.slice (some a2) ((t.at 0).s).length k2,.bool false,.slice none 0 0,.slice none 0 0,.int .i64 0,.slice none 0 0,.bool (t.at 1).null,v,.slice none 0 0],37,(0,0))∧GrowT (fun b=>w1.heap.size≤b) w4.heap.size (w.heap.size+1) w' 37 v (L1.map (tl1 (tlP (d+1)) fX6_1.of fX6_1.sub))∧Upd (fun b=>b=w.heap.size+1) w4 w')) (W.loop (LoopL [(0,.pointer (some ⟨b,o,none⟩)),(2,.pointer (some ⟨w.heap.size,0,none⟩)),(3,.pointer (some ⟨w.heap.size+2,0,none⟩)),(29,.int .i64 L1.length)] 30 (fun j w'=>∃ v,j≤L1.length∧blk w' (w.heap.size+1)=some (#[.int .i64 0,.slice (some a2) ((t.at 0).s).length k2,.bool false,.slice none 0 0,.slice none 0 0,.int .i64 0,.slice none 0 0,.bool (t.at 1).null,v,.slice none 0 0],37,(0,0))∧GrowT (fun b=>w1.heap.size≤b) w4.heap.size (w.heap.size+1) w' 37 v ((L1.take j).map (tl1 (tlP (d+1)) fX6_1.of fX6_1.sub))∧Upd (fun b=>b=w.heap.size+1) w4 w')) (fun ρ _=>L1.length - (RowKit.intOf (ρ 30)).toNat) ?_ ?_) ?_
 ·exact ⟨(by simp (maxSteps:=1000000)(disch:=(first|omega|(simp only [qI,qJ,qK]<;>omega)|exact qL _)) only [go_sem,↓reduceIte,n0,reduceCtorEq,n1,n2,n3,n4,n5,i0,i1,i2,i3,i4,i5,i6,i7,Holds_nil,Holds_cons]),0,(by simp (maxSteps:=1000000)(disch:=(first|omega|(simp only [qI,qJ,qK]<;>omega)|exact qL _)) only [go_sem,↓reduceIte,n0,reduceCtorEq,n1,n2,n3,n4,n5,i0,i1,i2,i3,i4,i5,i6,i7];all_goals rfl),.slice none 0 0,Nat.zero_le _,hl4,GrowT.nil _ _ _ _ _,Upd.refl _ _⟩
 ·rintro ρ w5 ⟨⟨aD,a8,aE,bI,-⟩,j,hri,v,hj,hl5,hg,hUk⟩
  have hzk:=hUk.size
  have hX5:Ext w w5:=hX4.more hUk fun b hb h=>by omega
  have hz5:w1.heap.size≤w5.heap.size:=by have:=hz4;omega
  have hb5:=hX5.blk_some hb id
  have ht5:=hUk.blk_some ht4 (by omega)
  by_cases hlt:j < L1.length
  ·obtain ⟨_,be,oe,xe,ce,hbe,hoke,hxe,hble,hxs,hxx,hqe,hRe⟩:=SlR.get (size:=6) (by decide) hs1 hlt
   subst hbe
   have hcat:L1.take (j+1)=L1.take j++[L1[j]]:=List.take_succ_eq_append_getElem hlt
   have hgy:=lJ.2 _ (List.getElem_mem hlt)
   have hll:=lJ.1
   obtain ⟨av,kv,hvs,_⟩:=hg.shape
   have hlj:(List.map (tl1 (tlP (d+1)) fX6_1.of fX6_1.sub) (L1.take j)).length=j:=by simp;omega
   rw [hlj] at hvs
   subst hvs
   have hnb:∀ b,b < w4.heap.size∨w5.heap.size≤b→¬ ownB (.slice av j kv) b:=fun b hb h=>by
    have:=hg.above h
    have:=hg.below h
    omega
   generalize L1[j] = y at *
   repeat ((first|refine qA rfl ?_|apply qB|refine qC rfl ?_|apply qD|apply qE|apply qF|apply qG|apply qH);try simp (maxSteps:=1000000)(disch:=(first|omega|(simp only [qI,qJ,qK]<;>omega)|exact qL _)) only [go_sem,↓reduceIte,n0,reduceCtorEq,n1,n2,n3,n4,n5,i0,i1,i2,i3,i4,i5,i6,i7,hb5,hl5,ht5,hq0,hq1,hq2,aD,a8,aE,bI,hri])
   refine W.drawR (.only 0 (.two 1 (.only 2 (.only 3 .done)) 2 (.only 1 (.only 3 .done)))) NoB mixed (by kernel_rfl) ?_
   try simp (maxSteps:=1000000)(disch:=(first|omega|(simp only [qI,qJ,qK]<;>omega)|exact qL _)) only [go_sem,↓reduceIte,n0,reduceCtorEq,n1,n2,n3,n4,n5,i0,i1,i2,i3,i4,i5,i6,i7,hb5,hl5,ht5,hq0,hq1,hq2,aD,a8,aE,bI,hri]
   have q0:Upd NoB w5.drew (w5.alloc (.cells #[.bool false] 4)).drew:=show Upd NoB w5.drew (w5.drew.alloc (.cells #[.bool false] 4)) from Upd.alloc (Upd.refl _ _) _
   have q1:Upd NoB w5.drew (wr (w5.alloc (.cells #[.bool false] 4)).drew w5.heap.size 0 [.bool true]):=q0.wr _ _ (.inl (Nat.le_refl _))
   have q2:Upd NoB w5.drew (wr (wr (w5.alloc (.cells #[.bool false] 4)).drew w5.heap.size 0 [.bool true]) w5.heap.size 0 [.bool false]):=q1.wr _ _ (.inl (Nat.le_refl _))
   have q3:Upd NoB w5.drew (wr (w5.alloc (.cells #[.bool false] 4)).drew w5.heap.size 0 [.bool false]):=q0.wr _ _ (.inl (Nat.le_refl _))
   have q4:Upd NoB w5.drew (wr (wr (w5.alloc (.cells #[.bool false] 4)).drew w5.heap.size 0 [.bool false]) w5.heap.size 0 [.bool true]):=q3.wr _ _ (.inl (Nat.le_refl _))
   refine ⟨q0,⟨q1,q2,q2,?_⟩,⟨q3,q4,q4,?_⟩⟩
   ·have hk6:Ext w5 (wr (wr (w5.alloc (.cells #[.bool false] 4)).drew w5.heap.size 0 [.bool true]) w5.heap.size 0 [.bool false]):=((Upd.refl _ _).drew).trans q2
    generalize (wr (wr (w5.alloc (.cells #[.bool false] 4)).drew w5.heap.size 0 [.bool true]) w5.heap.size 0 [.bool false])=w6 at *
    have FM:=hk6.size
    have hX6:Ext w w6:=hX5.trans hk6
    have hb6:=hk6.blk_some hb5 id
    have hl6:=hk6.blk_some hl5 id
    have ht6:=hk6.blk_some ht5 id
    have pN:=hX6.blk_some hxe id
    repeat ((first|refine qA rfl ?_|apply qB|refine qC rfl ?_|apply qD|apply qE|apply qF|apply qG|apply qH);try simp (maxSteps:=1000000)(disch:=(first|omega|(simp only [qI,qJ,qK]<;>omega)|exact qL _)) only [go_sem,↓reduceIte,n0,reduceCtorEq,n1,n2,n3,n4,n5,i0,i1,i2,i3,i4,i5,i6,i7,hb6,hl6,ht6,pN,hq0,hq1,hq2,aD,a8,aE,bI,hri])
    refine W.drawR (.take 0 (.take 1 (.take 2 (.take 3 (.take 4 (.take 5 (.take 6 (.take 7 (.take 8 (.take 9 (.take 10 (.take 11 (.take 12 (.only 13 (.only 14 (.only 15 (.take 16 (.take 17 (.last 18))))))))))))))))))) (ownB (.slice av j kv)) mixed (by kernel_rfl) ?_
    try simp (maxSteps:=1000000)(disch:=(first|omega|(simp only [qI,qJ,qK]<;>omega)|exact qL _|(refine hnb _ ?_;first|omega|(simp only [World.size_alloc,size_wr,size_drew]<;>omega)))) only [go_sem,↓reduceIte,n0,reduceCtorEq,n1,n2,n3,n4,n5,i0,i1,i2,i3,i4,i5,i6,i7,hb6,hl6,ht6,pN,hq0,hq1,hq2,aD,a8,aE,bI,hri]
    have DR:=(Upd.refl _ _:Upd (ownB (.slice av j kv)) w6.drew w6.drew).blk_some (show blk w6.drew be=_ from pN) (hnb _ (.inl (by omega)))
    refine (tellX2_fn (d:=d) (ok:=ok) y ce w6.drew (b:=be) (o:=oe+j * 6) DR (fun k hk=>by have:=hqe k hk;rw [← Nat.add_assoc] at this;exact this) ((RepS_lay true _ _).keep (Rep1_part.1 hRe) ((((hX6.drew).mono fun _ h=>h.elim).trans (Upd.refl _ _):Upd (ownB (.slice av j kv)) w w6.drew).keeps fun b hb _=>hnb b (.inl (by omega)))) (hgy.2.2 rfl)).mono ?_
    rintro _ w7 ⟨⟨c7,rfl,hc7⟩,jD⟩
    obtain ⟨T7,hT7⟩:∃ T,T=tlP (d+1) fs_X2 y:=⟨_,rfl⟩
    replace hc7:TreeC (fun b=>w6.drew.heap.size≤b) w7 T7 c7:=by rw [hT7];exact hc7
    obtain ⟨vS7,vL7,vU7,rfl,hn7,hS7,AL,BB⟩:=hc7.inv
    have k1_7:=hS7.flat
    have k2_7:=SlR.flat AL
    have k3_7:=SlR.flat BB
    have hP7:Upd (ownB (.slice av j kv)) w6.drew w7:=(Upd.refl _ _).trans (jD.mono fun _ h=>h.elim)
    have vD:=jD.size
    try simp only [size_drew] at vD
    refine ⟨hP7,?_⟩
    try simp (maxSteps:=1000000)(disch:=(first|omega|(simp only [qI,qJ,qK]<;>omega)|exact qL _|(refine hnb _ ?_;first|omega|(simp only [World.size_alloc,size_wr,size_drew]<;>omega)))) only [go_sem,↓reduceIte,n0,reduceCtorEq,n1,n2,n3,n4,n5,i0,i1,i2,i3,i4,i5,i6,i7,hb6,hl6,ht6,pN,hq0,hq1,hq2,aD,a8,aE,bI,hri,k1_7,k2_7,k3_7]
    have hP8:Upd (ownB (.slice av j kv)) w6.drew (w7.alloc (.cells #[.int .i64 T7.n,vS7,.bool T7.null,vL7,vU7] 37)):=show Upd (ownB (.slice av j kv)) w6.drew (w7.alloc (.cells #[.int .i64 T7.n,vS7,.bool T7.null,vL7,vU7] 37)) from (hP7).alloc _
    have hn8:blk (w7.alloc (.cells #[.int .i64 T7.n,vS7,.bool T7.null,vL7,vU7] 37)) w7.heap.size=some (#[.int .i64 T7.n,vS7,.bool T7.null,vL7,vU7],37,(0,0)):=show blk (w7.alloc (.cells #[.int .i64 T7.n,vS7,.bool T7.null,vL7,vU7] 37)) w7.heap.size=some (#[.int .i64 T7.n,vS7,.bool T7.null,vL7,vU7],37,(0,0)) from blk_alloc_new rfl
    have D0:(w7.alloc (.cells #[.int .i64 T7.n,vS7,.bool T7.null,vL7,vU7] 37)).heap.size=w7.heap.size+1:=show (w7.alloc (.cells #[.int .i64 T7.n,vS7,.bool T7.null,vL7,vU7] 37)).heap.size=w7.heap.size+1 from World.size_alloc _ _
    have xC:Ext w7 (w7.alloc (.cells #[.int .i64 T7.n,vS7,.bool T7.null,vL7,vU7] 37)):=show Ext w7 (w7.alloc (.cells #[.int .i64 T7.n,vS7,.bool T7.null,vL7,vU7] 37)) from Upd.alloc (Upd.refl _ _) _
    refine ⟨hP8,?_⟩
    try simp only [List.append_nil]
    generalize (w7.alloc (.cells #[.int .i64 T7.n,vS7,.bool T7.null,vL7,vU7] 37))=w8 at *
    try simp only [size_drew] at D0
    have qZ:Ext w5 w8:=((hk6.drew.trans jD).trans xC)
    have FW:=qZ.size
    obtain ⟨css,hown,hall⟩:=(hg.ext qZ).ex
    have hcl:=hall.1
    rw [hlj] at hcl
    have hx9:TreeC (fun b=>(fun b=>w1.heap.size≤b) b∧b≠w.heap.size+1∧¬ ownB (.slice av j kv) b) w8 ((tl1 (tlP (d+1)) fX6_1.of fX6_1.sub) y) [.int .i64 T7.n,vS7,.bool T7.null,vL7,vU7]:=by
     rw [show (tl1 (tlP (d+1)) fX6_1.of fX6_1.sub) y=_ from hT7.symm]
     exact TreeC.weaken (fun b _ hk=>⟨by omega,by omega,hnb b (.inr (by omega))⟩) (TreeC.weaken (ok':=fun b=>w5.heap.size≤b) (fun b _ hk=>by have hk':w6.drew.heap.size≤b:=hk;(try simp only [size_drew] at hk');omega) (TreeC.keep (Ext.keeps xC _) hc7))
    refine wp_append ap_34_34 (m:=1) (news:=[.int .i64 T7.n,vS7,.bool T7.null,vL7,vU7]) (n:=css.length) (cs:=css.flatten) (v:=(.slice av j kv)) ?_ rfl hown.1 (all2_flat_tree hall) (Src.blk (fr:=(0,0)) (T:=37) hn8 rfl (by simp only [List.all_cons,List.all_nil,flat_int,flat_bool,k1_7,k2_7,k3_7,Bool.and_self])) ?_ ?_ ?_
    ·first|rfl|simp (maxSteps:=1000000)(disch:=(first|omega|(simp only [qI,qJ,qK]<;>omega)|exact qL _)) only [go_sem,↓reduceIte,n0,reduceCtorEq,n1,n2,n3,n4,n5,i0,i1,i2,i3,i4,i5,i6,i7]
    ·omega
    ·omega
    intro v' w9 ho hu hfr
    have hP9:=(hP8:Upd (ownB (.slice av j kv)) w6.drew w8).trans hu
    have ES:=hP9.size
    simp only [size_drew] at ES
    have u1:=hP9.blk_some (show blk w6.drew (w.heap.size+1)=_ from hl6) (hnb _ (.inl (by omega)))
    have hg':=GrowT.snoc hown hall hx9 hu hfr ho
    obtain ⟨va,vc,hv',_⟩:=ho.shape
    subst hv'
    have hne:¬ ownB (.slice va (css.length+1) vc) (w.heap.size+1):=fun h=>(hfr _ h).elim (hnb _ (.inl (by omega))) (fun h=>by omega)
    refine ⟨hP9,?_⟩
    try simp (maxSteps:=1000000)(disch:=(first|omega|(simp only [qI,qJ,qK]<;>omega)|exact qL _|(refine hnb _ ?_;first|omega|(simp only [World.size_alloc,size_wr,size_drew]<;>omega)))) only [go_sem,↓reduceIte,n0,reduceCtorEq,n1,n2,n3,n4,n5,i0,i1,i2,i3,i4,i5,i6,i7,u1,aD,a8,aE,bI,hri]
    repeat ((first|refine qA rfl ?_|apply qB|refine qC rfl ?_|apply qD|apply qE|apply qF|apply qG|apply qH);try simp (maxSteps:=1000000)(disch:=(first|omega|(simp only [qI,qJ,qK]<;>omega)|exact qL _)) only [go_sem,↓reduceIte,n0,reduceCtorEq,n1,n2,n3,n4,n5,i0,i1,i2,i3,i4,i5,i6,i7,u1,aD,a8,aE,bI,hri])
    refine ⟨⟨(by simp (maxSteps:=1000000)(disch:=(first|omega|(simp only [qI,qJ,qK]<;>omega)|exact qL _)) only [go_sem,↓reduceIte,n0,reduceCtorEq,n1,n2,n3,n4,n5,i0,i1,i2,i3,i4,i5,i6,i7,Holds_nil,Holds_cons,aD,a8,aE,bI,hri]),j+1,(by simp (maxSteps:=1000000)(disch:=(first|omega|(simp only [qI,qJ,qK]<;>omega)|exact qL _)) only [go_sem,↓reduceIte,n0,reduceCtorEq,n1,n2,n3,n4,n5,i0,i1,i2,i3,i4,i5,i6,i7,aD,a8,aE,bI,hri];all_goals rfl),.slice va (css.length+1) vc,by omega,?_,?_,?_⟩,?_⟩
    ·rw [blk_wr_eq,u1];rfl
    ·rw [hcat,List.map_append];exact hg'.upd ((Upd.refl _ _).wr _ _ (.inr rfl)) hne
    ·refine Upd.wr ?_ _ _ (.inr rfl)
     exact (hUk.more ((qZ.mono fun _ h=>h.elim).trans hu) fun b hb h=>absurd h (hnb b (.inl hb)))
    ·try simp (maxSteps:=1000000)(disch:=(first|omega|(simp only [qI,qJ,qK]<;>omega)|exact qL _)) only [go_sem,↓reduceIte,n0,reduceCtorEq,n1,n2,n3,n4,n5,i0,i1,i2,i3,i4,i5,i6,i7,aD,a8,aE,bI,hri]
     simp only [RowKit.intOf];omega
   ·have gK:Ext w5 (wr (wr (w5.alloc (.cells #[.bool false] 4)).drew w5.heap.size 0 [.bool false]) w5.heap.size 0 [.bool true]):=((Upd.refl _ _).drew).trans q4
    generalize (wr (wr (w5.alloc (.cells #[.bool false] 4)).drew w5.heap.size 0 [.bool false]) w5.heap.size 0 [.bool true])=w10 at *
    have FI:=gK.size
    have f5:Ext w w10:=hX5.trans gK
    have oT:=gK.blk_some hb5 id
    have jL:=gK.blk_some hl5 id
    have pE:=gK.blk_some ht5 id
    have jO:=f5.blk_some hxe id
    repeat ((first|refine qA rfl ?_|apply qB|refine qC rfl ?_|apply qD|apply qE|apply qF|apply qG|apply qH);try simp (maxSteps:=1000000)(disch:=(first|omega|(simp only [qI,qJ,qK]<;>omega)|exact qL _)) only [go_sem,↓reduceIte,n0,reduceCtorEq,n1,n2,n3,n4,n5,i0,i1,i2,i3,i4,i5,i6,i7,oT,jL,pE,jO,hq0,hq1,hq2,aD,a8,aE,bI,hri])
    refine W.drawR (.take 0 (.take 1 (.take 2 (.take 3 (.take 4 (.take 5 (.take 6 (.take 7 (.take 8 (.take 9 (.take 10 (.take 12 (.two 11 (.only 13 (.only 14 (.take 15 (.take 16 (.last 17))))) 13 (.only 11 (.only 14 (.take 15 (.take 16 (.last 17)))))))))))))))))) (ownB (.slice av j kv)) mixed (by kernel_rfl) ?_
    try simp (maxSteps:=1000000)(disch:=(first|omega|(simp only [qI,qJ,qK]<;>omega)|exact qL _|(refine hnb _ ?_;first|omega|(simp only [World.size_alloc,size_wr,size_drew]<;>omega)))) only [go_sem,↓reduceIte,n0,reduceCtorEq,n1,n2,n3,n4,n5,i0,i1,i2,i3,i4,i5,i6,i7,oT,jL,pE,jO,hq0,hq1,hq2,aD,a8,aE,bI,hri]
    refine ⟨?_,?_⟩
    ·skip
     have DK:=(Upd.refl _ _:Upd (ownB (.slice av j kv)) w10.drew w10.drew).blk_some (show blk w10.drew be=_ from jO) (hnb _ (.inl (by omega)))
     refine (tellX2_fn (d:=d) (ok:=ok) y ce w10.drew (b:=be) (o:=oe+j * 6) DK (fun k hk=>by have:=hqe k hk;rw [← Nat.add_assoc] at this;exact this) ((RepS_lay true _ _).keep (Rep1_part.1 hRe) ((((f5.drew).mono fun _ h=>h.elim).trans (Upd.refl _ _):Upd (ownB (.slice av j kv)) w w10.drew).keeps fun b hb _=>hnb b (.inl (by omega)))) (hgy.2.2 rfl)).mono ?_
     rintro _ w11 ⟨⟨c11,rfl,oU⟩,jA⟩
     obtain ⟨T11,xN⟩:∃ T,T=tlP (d+1) fs_X2 y:=⟨_,rfl⟩
     replace oU:TreeC (fun b=>w10.drew.heap.size≤b) w11 T11 c11:=by rw [xN];exact oU
     obtain ⟨vS11,vL11,vU11,rfl,yM,AQ,AE,B4⟩:=oU.inv
     have k1_11:=AQ.flat
     have k2_11:=SlR.flat AE
     have k3_11:=SlR.flat B4
     have jY:Upd (ownB (.slice av j kv)) w10.drew w11:=(Upd.refl _ _).trans (jA.mono fun _ h=>h.elim)
     have vA:=jA.size
     try simp only [size_drew] at vA
     refine ⟨jY,?_⟩
     try simp (maxSteps:=1000000)(disch:=(first|omega|(simp only [qI,qJ,qK]<;>omega)|exact qL _|(refine hnb _ ?_;first|omega|(simp only [World.size_alloc,size_wr,size_drew]<;>omega)))) only [go_sem,↓reduceIte,n0,reduceCtorEq,n1,n2,n3,n4,n5,i0,i1,i2,i3,i4,i5,i6,i7,oT,jL,pE,jO,hq0,hq1,hq2,aD,a8,aE,bI,hri,k1_11,k2_11,k3_11]
     have jE:Upd (ownB (.slice av j kv)) w10.drew (w11.alloc (.cells qZ5 37)):=show Upd (ownB (.slice av j kv)) w10.drew (w11.alloc (.cells qZ5 37)) from (jY).alloc _
     have CA:blk (w11.alloc (.cells qZ5 37)) w11.heap.size=some (qZ5,37,(0,0)):=show blk (w11.alloc (.cells qZ5 37)) w11.heap.size=some (qZ5,37,(0,0)) from blk_alloc_new rfl
     have CP:(w11.alloc (.cells qZ5 37)).heap.size=w11.heap.size+1:=show (w11.alloc (.cells qZ5 37)).heap.size=w11.heap.size+1 from World.size_alloc _ _
     have wX:Ext w11 (w11.alloc (.cells qZ5 37)):=show Ext w11 (w11.alloc (.cells qZ5 37)) from Upd.alloc (Upd.refl _ _) _
     refine ⟨jE,?_⟩
     try simp only [List.append_nil]
     generalize (w11.alloc (.cells qZ5 37))=w12 at *
     try simp only [size_drew] at CP
     have qS:Ext w5 w12:=((gK.drew.trans jA).trans wX)
     have FP:=qS.size
     obtain ⟨css,hown,hall⟩:=(hg.ext qS).ex
     have hcl:=hall.1
     rw [hlj] at hcl
     have D7:TreeC (fun b=>(fun b=>w1.heap.size≤b) b∧b≠w.heap.size+1∧¬ ownB (.slice av j kv) b) w12 ((tl1 (tlP (d+1)) fX6_1.of fX6_1.sub) y) [.int .i64 T11.n,vS11,.bool T11.null,vL11,vU11]:=by
      rw [show (tl1 (tlP (d+1)) fX6_1.of fX6_1.sub) y=_ from xN.symm]
      exact TreeC.weaken (fun b _ hk=>⟨by omega,by omega,hnb b (.inr (by omega))⟩) (TreeC.weaken (ok':=fun b=>w5.heap.size≤b) (fun b _ hk=>by have hk':w10.drew.heap.size≤b:=hk;(try simp only [size_drew] at hk');omega) (TreeC.keep (Ext.keeps wX _) oU))
     refine wp_append ap_34_34 (m:=1) (news:=[.int .i64 0,.slice none 0 0,.bool false,.slice none 0 0,.slice none 0 0]) (n:=css.length) (cs:=css.flatten) (v:=(.slice av j kv)) ?_ rfl hown.1 (all2_flat_tree hall) (Src.blk (fr:=(0,0)) (T:=37) CA rfl rfl) ?_ ?_ ?_
     ·first|rfl|simp (maxSteps:=1000000)(disch:=(first|omega|(simp only [qI,qJ,qK]<;>omega)|exact qL _)) only [go_sem,↓reduceIte,n0,reduceCtorEq,n1,n2,n3,n4,n5,i0,i1,i2,i3,i4,i5,i6,i7]
     ·omega
     ·omega
     intro v' w13 ho hu hfr
     have fY:=(jE:Upd (ownB (.slice av j kv)) w10.drew w12).trans hu
     have EL:=fY.size
     simp only [size_drew] at EL
     have tS:=fY.blk_some (show blk w10.drew (w.heap.size+1)=_ from jL) (hnb _ (.inl (by omega)))
     rcases ho.2 with ⟨_,h⟩|⟨g,cap,rest,fr,hv',hg',hbg,hlen,hth,hle⟩
     ·exact absurd h (Nat.succ_ne_zero _)
     subst hv'
     have hgne:¬ g=w.heap.size+1:=fun h=>(hfr g ⟨_,_,_,rfl,rfl⟩).elim (fun h'=>hnb _ (.inl (by omega)) (h ▸ h')) (fun h'=>by omega)
     have hfl:css.flatten.length=css.length * 5:=flatten_len hown.2
     have dX:(css.flatten++([.int .i64 0,.slice none 0 0,.bool false,.slice none 0 0,.slice none 0 0]:List Value)++rest).length=cap * 5:=by simp only [List.length_append] at hlen ⊢;omega
     obtain ⟨XX,hXX⟩:∃ X:Array Value,X=(css.flatten++([.int .i64 0,.slice none 0 0,.bool false,.slice none 0 0,.slice none 0 0]:List Value)++rest).toArray:=⟨_,rfl⟩
     have hbgX:blk w13 g=some (XX,37,fr):=by rw [hXX];exact hbg
     have hXsz:XX.size=cap * 5:=by rw [hXX,List.size_toArray];exact dX
     have bQ:thaw fr (css.length * 5) 5=true:=thaw_of hth (by omega)
     have hst:css.length * 5+5≤XX.size:=by omega
     have hset:=Own.setlast (cs:=[.int .i64 T11.n,vS11,.bool T11.null,vL11,vU11]) ho rfl rfl
     have hu2:Upd (ownB (.slice av j kv)) w12 (wr w13 g (css.length * 5) [.int .i64 T11.n,vS11,.bool T11.null,vL11,vU11]):=hu.wr _ _ ((hfr g ⟨_,_,_,rfl,rfl⟩).symm)
     have hg2:=GrowT.snoc hown hall D7 hu2 hfr hset
     have hcj:css.length=j:=by first|exact hcl.symm.trans hlj|omega
     simp only [hcj] at bQ hst hset hu2 hg2
     refine ⟨fY,?_⟩
     try simp (maxSteps:=1000000)(disch:=(first|omega|(simp only [qI,qJ,qK]<;>omega)|exact qL _|(refine hnb _ ?_;first|omega|(simp only [World.size_alloc,size_wr,size_drew]<;>omega)))) only [go_sem,↓reduceIte,n0,reduceCtorEq,n1,n2,n3,n4,n5,i0,i1,i2,i3,i4,i5,i6,i7,tS,hbgX,bQ,hst,hcj,k1_11,k2_11,k3_11,aD,a8,aE,bI,hri]
     repeat ((first|refine qA rfl ?_|apply qB|refine qC rfl ?_|apply qD|apply qE|apply qF|apply qG|apply qH);try simp (maxSteps:=1000000)(disch:=(first|omega|(simp only [qI,qJ,qK]<;>omega)|exact qL _)) only [go_sem,↓reduceIte,n0,reduceCtorEq,n1,n2,n3,n4,n5,i0,i1,i2,i3,i4,i5,i6,i7,tS,hbgX,bQ,hst,hcj,k1_11,k2_11,k3_11,aD,a8,aE,bI,hri])
     refine ⟨⟨(by simp (maxSteps:=1000000)(disch:=(first|omega|(simp only [qI,qJ,qK]<;>omega)|exact qL _)) only [go_sem,↓reduceIte,n0,reduceCtorEq,n1,n2,n3,n4,n5,i0,i1,i2,i3,i4,i5,i6,i7,Holds_nil,Holds_cons,aD,a8,aE,bI,hri]),j+1,(by simp (maxSteps:=1000000)(disch:=(first|omega|(simp only [qI,qJ,qK]<;>omega)|exact qL _)) only [go_sem,↓reduceIte,n0,reduceCtorEq,n1,n2,n3,n4,n5,i0,i1,i2,i3,i4,i5,i6,i7,aD,a8,aE,bI,hri];all_goals rfl),.slice (some ⟨g,0,none⟩) (j+1) cap,by omega,?_,?_,?_⟩,?_⟩
     ·rw [blk_wr_ne (by omega),blk_wr_eq,tS];rfl
     ·rw [hcat,List.map_append,wr_comm (Ne.symm hgne)]
      exact hg2.upd ((Upd.refl _ _).wr _ _ (.inr rfl)) (fun h=>hgne (ownB_row h).symm)
     ·rw [wr_comm (Ne.symm hgne)]
      refine Upd.wr ?_ _ _ (.inr rfl)
      exact (hUk.more ((qS.mono fun _ h=>h.elim).trans hu2) fun b hb h=>absurd h (hnb b (.inl hb)))
     ·try simp (maxSteps:=1000000)(disch:=(first|omega|(simp only [qI,qJ,qK]<;>omega)|exact qL _)) only [go_sem,↓reduceIte,n0,reduceCtorEq,n1,n2,n3,n4,n5,i0,i1,i2,i3,i4,i5,i6,i7,aD,a8,aE,bI,hri]
      simp only [RowKit.intOf];omega
    ·skip
     have gC:Upd (ownB (.slice av j kv)) w10.drew (w10.alloc (.cells qZ5 37)).drew:=show Upd (ownB (.slice av j kv)) w10.drew (w10.drew.alloc (.cells qZ5 37)) from (Upd.refl _ _).alloc _
     have yN:blk (w10.alloc (.cells qZ5 37)).drew w10.drew.heap.size=some (qZ5,37,(0,0)):=show blk (w10.drew.alloc (.cells qZ5 37)) w10.drew.heap.size=some (qZ5,37,(0,0)) from blk_alloc_new rfl
     have vB:(w10.alloc (.cells qZ5 37)).drew.heap.size=w10.drew.heap.size+1:=show (w10.drew.alloc (.cells qZ5 37)).heap.size=w10.drew.heap.size+1 from World.size_alloc _ _
     have jB:Ext w10.drew (w10.alloc (.cells qZ5 37)).drew:=show Ext w10.drew (w10.drew.alloc (.cells qZ5 37)) from Upd.alloc (Upd.refl _ _) _
     refine ⟨gC,?_⟩
     try simp only [List.append_nil]
     generalize (w10.alloc (.cells qZ5 37)).drew=w14 at *
     try simp only [size_drew] at vB
     have DM:=(gC:Upd (ownB (.slice av j kv)) w10.drew w14).blk_some (show blk w10.drew be=_ from jO) (hnb _ (.inl (by omega)))
     refine (tellX2_fn (d:=d) (ok:=ok) y ce w14 (b:=be) (o:=oe+j * 6) DM (fun k hk=>by have:=hqe k hk;rw [← Nat.add_assoc] at this;exact this) ((RepS_lay true _ _).keep (Rep1_part.1 hRe) ((((f5.drew).mono fun _ h=>h.elim).trans (gC):Upd (ownB (.slice av j kv)) w w14).keeps fun b hb _=>hnb b (.inl (by omega)))) (hgy.2.2 rfl)).mono ?_
     rintro _ w15 ⟨⟨c15,rfl,oW⟩,oM⟩
     obtain ⟨T15,xP⟩:∃ T,T=tlP (d+1) fs_X2 y:=⟨_,rfl⟩
     replace oW:TreeC (fun b=>w14.heap.size≤b) w15 T15 c15:=by rw [xP];exact oW
     obtain ⟨vS15,vL15,vU15,rfl,F5,jZ,AG,B6⟩:=oW.inv
     have k1_15:=jZ.flat
     have k2_15:=SlR.flat AG
     have k3_15:=SlR.flat B6
     have jF:Upd (ownB (.slice av j kv)) w10.drew w15:=(gC).trans (oM.mono fun _ h=>h.elim)
     have CR:=oM.size
     try simp only [size_drew] at CR
     refine ⟨jF,?_⟩
     try simp (maxSteps:=1000000)(disch:=(first|omega|(simp only [qI,qJ,qK]<;>omega)|exact qL _|(refine hnb _ ?_;first|omega|(simp only [World.size_alloc,size_wr,size_drew]<;>omega)))) only [go_sem,↓reduceIte,n0,reduceCtorEq,n1,n2,n3,n4,n5,i0,i1,i2,i3,i4,i5,i6,i7,oT,jL,pE,jO,hq0,hq1,hq2,aD,a8,aE,bI,hri,k1_15,k2_15,k3_15]
     have qU:Ext w5 w15:=((gK.drew.trans jB).trans oM)
     have FR:=qU.size
     obtain ⟨css,hown,hall⟩:=(hg.ext qU).ex
     have hcl:=hall.1
     rw [hlj] at hcl
     have D9:TreeC (fun b=>(fun b=>w1.heap.size≤b) b∧b≠w.heap.size+1∧¬ ownB (.slice av j kv) b) w15 ((tl1 (tlP (d+1)) fX6_1.of fX6_1.sub) y) [.int .i64 T15.n,vS15,.bool T15.null,vL15,vU15]:=by
      rw [show (tl1 (tlP (d+1)) fX6_1.of fX6_1.sub) y=_ from xP.symm]
      exact TreeC.weaken (fun b _ hk=>⟨by omega,by omega,hnb b (.inr (by omega))⟩) (TreeC.weaken (ok':=fun b=>w5.heap.size≤b) (fun b _ hk=>by have hk':w14.heap.size≤b:=hk;(try simp only [size_drew] at hk');omega) oW)
     refine wp_append ap_34_34 (m:=1) (news:=[.int .i64 0,.slice none 0 0,.bool false,.slice none 0 0,.slice none 0 0]) (n:=css.length) (cs:=css.flatten) (v:=(.slice av j kv)) ?_ rfl hown.1 (all2_flat_tree hall) (Src.blk (fr:=(0,0)) (T:=37) (oM.blk_some yN id) rfl rfl) ?_ ?_ ?_
     ·first|rfl|simp (maxSteps:=1000000)(disch:=(first|omega|(simp only [qI,qJ,qK]<;>omega)|exact qL _)) only [go_sem,↓reduceIte,n0,reduceCtorEq,n1,n2,n3,n4,n5,i0,i1,i2,i3,i4,i5,i6,i7]
     ·omega
     ·omega
     intro v' w16 ho hu hfr
     have rK:=(jF:Upd (ownB (.slice av j kv)) w10.drew w15).trans hu
     have EN:=rK.size
     simp only [size_drew] at EN
     have tU:=rK.blk_some (show blk w10.drew (w.heap.size+1)=_ from jL) (hnb _ (.inl (by omega)))
     rcases ho.2 with ⟨_,h⟩|⟨g,cap,rest,fr,hv',hg',hbg,hlen,hth,hle⟩
     ·exact absurd h (Nat.succ_ne_zero _)
     subst hv'
     have hgne:¬ g=w.heap.size+1:=fun h=>(hfr g ⟨_,_,_,rfl,rfl⟩).elim (fun h'=>hnb _ (.inl (by omega)) (h ▸ h')) (fun h'=>by omega)
     have hfl:css.flatten.length=css.length * 5:=flatten_len hown.2
     have dX:(css.flatten++([.int .i64 0,.slice none 0 0,.bool false,.slice none 0 0,.slice none 0 0]:List Value)++rest).length=cap * 5:=by simp only [List.length_append] at hlen ⊢;omega
     obtain ⟨XX,hXX⟩:∃ X:Array Value,X=(css.flatten++([.int .i64 0,.slice none 0 0,.bool false,.slice none 0 0,.slice none 0 0]:List Value)++rest).toArray:=⟨_,rfl⟩
     have hbgX:blk w16 g=some (XX,37,fr):=by rw [hXX];exact hbg
     have hXsz:XX.size=cap * 5:=by rw [hXX,List.size_toArray];exact dX
     have bQ:thaw fr (css.length * 5) 5=true:=thaw_of hth (by omega)
     have hst:css.length * 5+5≤XX.size:=by omega
     have hset:=Own.setlast (cs:=[.int .i64 T15.n,vS15,.bool T15.null,vL15,vU15]) ho rfl rfl
     have hu2:Upd (ownB (.slice av j kv)) w15 (wr w16 g (css.length * 5) [.int .i64 T15.n,vS15,.bool T15.null,vL15,vU15]):=hu.wr _ _ ((hfr g ⟨_,_,_,rfl,rfl⟩).symm)
     have hg2:=GrowT.snoc hown hall D9 hu2 hfr hset
     have hcj:css.length=j:=by first|exact hcl.symm.trans hlj|omega
     simp only [hcj] at bQ hst hset hu2 hg2
     refine ⟨rK,?_⟩
     try simp (maxSteps:=1000000)(disch:=(first|omega|(simp only [qI,qJ,qK]<;>omega)|exact qL _|(refine hnb _ ?_;first|omega|(simp only [World.size_alloc,size_wr,size_drew]<;>omega)))) only [go_sem,↓reduceIte,n0,reduceCtorEq,n1,n2,n3,n4,n5,i0,i1,i2,i3,i4,i5,i6,i7,tU,hbgX,bQ,hst,hcj,k1_15,k2_15,k3_15,aD,a8,aE,bI,hri]
     repeat ((first|refine qA rfl ?_|apply qB|refine qC rfl ?_|apply qD|apply qE|apply qF|apply qG|apply qH);try simp (maxSteps:=1000000)(disch:=(first|omega|(simp only [qI,qJ,qK]<;>omega)|exact qL _)) only [go_sem,↓reduceIte,n0,reduceCtorEq,n1,n2,n3,n4,n5,i0,i1,i2,i3,i4,i5,i6,i7,tU,hbgX,bQ,hst,hcj,k1_15,k2_15,k3_15,aD,a8,aE,bI,hri])
     refine ⟨⟨(by simp (maxSteps:=1000000)(disch:=(first|omega|(simp only [qI,qJ,qK]<;>omega)|exact qL _)) only [go_sem,↓reduceIte,n0,reduceCtorEq,n1,n2,n3,n4,n5,i0,i1,i2,i3,i4,i5,i6,i7,Holds_nil,Holds_cons,aD,a8,aE,bI,hri]),j+1,(by simp (maxSteps:=1000000)(disch:=(first|omega|(simp only [qI,qJ,qK]<;>omega)|exact qL _)) only [go_sem,↓reduceIte,n0,reduceCtorEq,n1,n2,n3,n4,n5,i0,i1,i2,i3,i4,i5,i6,i7,aD,a8,aE,bI,hri];all_goals rfl),.slice (some ⟨g,0,none⟩) (j+1) cap,by omega,?_,?_,?_⟩,?_⟩
     ·rw [blk_wr_ne (by omega),blk_wr_eq,tU];rfl
     ·rw [hcat,List.map_append,wr_comm (Ne.symm hgne)]
      exact hg2.upd ((Upd.refl _ _).wr _ _ (.inr rfl)) (fun h=>hgne (ownB_row h).symm)
     ·rw [wr_comm (Ne.symm hgne)]
      refine Upd.wr ?_ _ _ (.inr rfl)
      exact (hUk.more ((qU.mono fun _ h=>h.elim).trans hu2) fun b hb h=>absurd h (hnb b (.inl hb)))
     ·try simp (maxSteps:=1000000)(disch:=(first|omega|(simp only [qI,qJ,qK]<;>omega)|exact qL _)) only [go_sem,↓reduceIte,n0,reduceCtorEq,n1,n2,n3,n4,n5,i0,i1,i2,i3,i4,i5,i6,i7,aD,a8,aE,bI,hri]
      simp only [RowKit.intOf];omega
  ·have hjn:j=L1.length:=by omega
   subst hjn
   rw [List.take_length] at hg
   repeat ((first|refine qA rfl ?_|apply qB|refine qC rfl ?_|apply qD|apply qE|apply qF|apply qG|apply qH);try simp (maxSteps:=1000000)(disch:=(first|omega|(simp only [qI,qJ,qK]<;>omega)|exact qL _)) only [go_sem,↓reduceIte,n0,reduceCtorEq,n1,n2,n3,n4,n5,i0,i1,i2,i3,i4,i5,i6,i7,aD,a8,aE,bI,hri])
   exact ⟨(by simp (maxSteps:=1000000)(disch:=(first|omega|(simp only [qI,qJ,qK]<;>omega)|exact qL _)) only [go_sem,↓reduceIte,n0,reduceCtorEq,n1,n2,n3,n4,n5,i0,i1,i2,i3,i4,i5,i6,i7,Holds_nil,Holds_cons,aD,a8,aE,bI,hri]),v,hl5,hg,hUk⟩
 rintro ρ w17 ⟨⟨f9,bF,fA,F9,-⟩,v,lS,yF,xY⟩
 have cR:Upd (fun b=>b=w.heap.size+1∨b=w.heap.size+2) w4 w17:=xY.mono fun _ h=>.inl h
 have dG:Upd (fun b=>b=w.heap.size+1∨b=w.heap.size+2) w1 w17:=hU4.trans cR
 have iX:=dG.size
 have dU:Ext w w17:=hE1.more dG fun b hb h=>by omega
 have hb17:=dU.blk_some hb id
 have gA:=xY.blk_some ht4 (by omega)
 obtain ⟨av1,kv1,hvs,_⟩:=yF.shape
 subst hvs
 have hf1:TreeC (fun b=>w1.heap.size≤b) w17 (.mk 0 [] (t.at 1).null (L1.map (tl1 (tlP (d+1)) fX6_1.of fX6_1.sub)) []) [.int .i64 0,.slice none 0 0,.bool (t.at 1).null,.slice av1 (List.map (tl1 (tlP (d+1)) fX6_1.of fX6_1.sub) L1).length kv1,.slice none 0 0]:=TreeC.intro rfl (BytesV.nil _ _) (yF.trees (fun _ _ h=>h) (fun b hb=>by have:=hz4;omega)) (tagsN _ _)
 repeat ((first|refine qA rfl ?_|apply qB|refine qC rfl ?_|apply qD|apply qE|apply qF|apply qG|apply qH);try simp (maxSteps:=1000000)(disch:=(first|omega|(simp only [qI,qJ,qK]<;>omega)|exact qL _)) only [go_sem,↓reduceIte,n0,reduceCtorEq,n1,n2,n3,n4,n5,i0,i1,i2,i3,i4,i5,i6,i7,hb17,lS,gA,hq0,hq1,hq2,f9,bF,fA])
 refine (EachG_fn (ok:=fun b=>b < w.heap.size) 86 ca_86 #[.pointer (some ⟨w.heap.size+2,0,none⟩)] w17 (tb:=b) (to:=o+2) hb17 hq2 ((hT.weaken fun b hb _=>hb).keep (dU.keeps _)) (sortT_perm _) (sortT_lt hgu.2.1) (by rw [(sortT_perm t.u).length_eq];exact hgu.1)
  (fun b=>b=w.heap.size+2) (by omega) (fun b hb hk e=>by have hk':b < w.heap.size:=hk;omega) (fun b hb=>by have:=blk_lt gA;omega)
  (fun wl done w'=>∃ v,blk w' (w.heap.size+2)=some (#[.int .i64 0,.slice none 0 0,.bool false,.slice (some ⟨w.heap.size+1,0,none⟩) 2 2,v],37,(0,0))∧GrowU (fun b=>w1.heap.size≤b) wl.heap.size (w.heap.size+2) w' 69 v done) (fun wl hE=>⟨_,hE.blk_some gA id,GrowU.nil _ _ _ _ _⟩) ?_).mono ?_
 ·rintro wl hE done y vv wc hpre ⟨v,hbv,hg⟩ hU hvv hy
  have hz':=hE.size
  have hzu:=hU.size
  have htl:=blk_lt gA
  have hpl:=hpre.length_le
  simp only [List.length_append,List.length_cons,List.length_nil] at hpl
  rw [(sortT_perm t.u).length_eq] at hpl
  have hlu:=hgu.1
  have hmy:y∈t.u:=(sortT_perm t.u).mem_iff.1 (hpre.subset (by simp))
  refine (tagclX6_fn (ok:=fun b=>b < w.heap.size) _ _ _ _ v done y vv wc hbv hg hzu (by omega) (hvv.keep ((hE.mono (fun _ h=>h.elim) |>.trans hU:Upd (fun b=>b=w.heap.size+2) w17 wc).keeps fun b _ hk e=>by have hk':b < w.heap.size:=hk;omega)) hy (hgu.2.2 y hmy) (by omega) (fun b hb=>by have:=iX;omega)).mono ?_
  rintro _ w2' ⟨⟨v',h1,h2⟩,h3⟩
  exact ⟨⟨v',h1,h2⟩,hU.trans' h3 fun b hb h=>h.elim id fun h=>by omega⟩
 rintro _ w18 ⟨wl,hEl,⟨v,iU,hgU⟩,hUe⟩
 have hzl:=hEl.size
 obtain ⟨aU,kU,hvs,_⟩:=hgU.shape
 subst hvs
 have dL:Upd (fun b=>b=w.heap.size+1∨b=w.heap.size+2) w17 w18:=(hEl.mono fun _ h=>h.elim).trans (hUe.mono fun _ h=>.inr h)
 have eH:Upd (fun b=>b=w.heap.size+1∨b=w.heap.size+2) w1 w18:=dG.trans dL
 have wS:=eH.size
 have dV:Ext w w18:=hE1.more eH fun b hb h=>by omega
 have jI:=dV.blk_some hb id
 have g8:=(((hEl.mono fun _ h=>h.elim).trans hUe:Upd (fun b=>b=w.heap.size+2) w17 w18)).blk_some lS (by omega)
 have hTU:=hgU.tags (ok':=(fun b=>w1.heap.size≤b)) (fun _ _ h=>h) (fun b hb=>by have:=iX;omega)
 repeat ((first|refine qA rfl ?_|apply qB|refine qC rfl ?_|apply qD|apply qE|apply qF|apply qG|apply qH);try simp (maxSteps:=1000000)(disch:=(first|omega|(simp only [qI,qJ,qK]<;>omega)|exact qL _)) only [go_sem,↓reduceIte,n0,reduceCtorEq,n1,n2,n3,n4,n5,i0,i1,i2,i3,i4,i5,i6,i7,jI,g8,iU,hq0,hq1,hq2,f9,bF,fA,cellsAt_five])
 refine (sorted_fn _ _ w18 hTU (sortT_lt hgu.2.1) (by rw [(sortT_perm t.u).length_eq];exact hgu.1)).mono ?_
 rintro _ w19 hEs
 have dM:Upd (fun b=>b=w.heap.size+1∨b=w.heap.size+2) w18 w19:=hEs.mono fun _ h=>h.elim
 have eI:Upd (fun b=>b=w.heap.size+1∨b=w.heap.size+2) w1 w19:=eH.trans dM
 have z8:=eI.size
 have dW:Ext w w19:=hE1.more eI fun b hb h=>by omega
 have lF:=dW.blk_some hb id
 have gN:=hEs.blk_some g8 id
 have mQ:=hEs.blk_some iU id
 have CL:=(eI.blk_some hr1 (by omega))
 have hC_19:Upd (fun b=>b=w.heap.size+1∨b=w.heap.size+2) w19 w19:=Upd.refl _ _
 have hC_18:Upd (fun b=>b=w.heap.size+1∨b=w.heap.size+2) w18 w19:=dM.trans hC_19
 have hC_17:Upd (fun b=>b=w.heap.size+1∨b=w.heap.size+2) w17 w19:=dL.trans hC_18
 have hC_4:Upd (fun b=>b=w.heap.size+1∨b=w.heap.size+2) w4 w19:=cR.trans hC_17
 have hC_3:Upd (fun b=>b=w.heap.size+1∨b=w.heap.size+2) w3 w19:=hV4.trans hC_4
 have hC_1:Upd (fun b=>b=w.heap.size+1∨b=w.heap.size+2) w1 w19:=hV3.trans hC_3
 have hF0:=TreeC.keep (hC_3.keeps fun b hb hk e=>by have hk':w1.heap.size≤b:=hk;omega) hf0
 have hF1:=TreeC.keep (hC_17.keeps fun b hb hk e=>by have hk':w1.heap.size≤b:=hk;omega) hf1
 replace hF0:TreeC (fun b=>w1.heap.size≤b) w19 (tlF (tlP (d+1)) fX6_0 (t.at 0)) [.int .i64 0,.slice (some a2) ((t.at 0).s).length k2,.bool false,.slice none 0 0,.slice none 0 0]:=hF0
 replace hF1:TreeC (fun b=>w1.heap.size≤b) w19 (tlF (tlP (d+1)) fX6_1 (t.at 1)) [.int .i64 0,.slice none 0 0,.bool (t.at 1).null,.slice av1 (List.map (tl1 (tlP (d+1)) fX6_1.of fX6_1.sub) L1).length kv1,.slice none 0 0]:=by rw [show tlF (tlP (d+1)) fX6_1 (t.at 1) = .mk 0 [] (t.at 1).null ((if (t.at 1).null=true then [] else (t.at 1).l).map (tl1 (tlP (d+1)) fX6_1.of fX6_1.sub)) [] from rfl,← hL1];exact hF1
 have hTL:TreesV (fun b=>(fun b=>w1.heap.size≤b) b∨b=w.heap.size+1) w19 (.slice (some ⟨w.heap.size+1,0,none⟩) 2 2) [tlF (tlP (d+1)) fX6_0 (t.at 0),tlF (tlP (d+1)) fX6_1 (t.at 1)]:=by
  refine ⟨[[.int .i64 0,.slice (some a2) ((t.at 0).s).length k2,.bool false,.slice none 0 0,.slice none 0 0],[.int .i64 0,.slice none 0 0,.bool (t.at 1).null,.slice av1 (List.map (tl1 (tlP (d+1)) fX6_1.of fX6_1.sub) L1).length kv1,.slice none 0 0]],⟨_,2,rfl,Nat.le_refl _,(by intro cs hm;simp only [List.mem_cons,List.not_mem_nil,or_false] at hm;rcases hm with rfl|rfl<;>rfl),.inr ⟨_,rfl,rfl,.inr rfl,_,gN,fun i hi=>by rw [Nat.zero_add,List.getElem?_toArray];rfl⟩⟩,rfl,fun i h1 h2 => ?_⟩
  match i,h1 with
  | 0,_=>exact TreeC.weaken (fun b _ hk=>.inl hk) hF0
  | 1,_=>exact TreeC.weaken (fun b _ hk=>.inl hk) hF1
 repeat ((first|refine qA rfl ?_|apply qB|refine qC rfl ?_|apply qD|apply qE|apply qF|apply qG|apply qH);try simp (maxSteps:=1000000)(disch:=(first|omega|(simp only [qI,qJ,qK]<;>omega)|exact qL _)) only [go_sem,↓reduceIte,n0,reduceCtorEq,n1,n2,n3,n4,n5,i0,i1,i2,i3,i4,i5,i6,i7,lF,gN,mQ,hq0,hq1,hq2,f9,bF,fA,CL,cellsAt_five])
 refine ⟨⟨_,rfl,?_⟩,dW.wr _ _ (.inl (Nat.le_refl _))⟩
 have hUr:Upd (fun b=>b=w.heap.size) w19 (wr w19 w.heap.size 0 [.int .i64 0,.slice none 0 0,.bool false,.slice (some ⟨w.heap.size+1,0,none⟩) 2 2,.slice aU (sortT t.u).length kU]):=(Upd.refl _ _).wr _ _ (.inr rfl)
 have gD:=hTU.keep (hEs.keeps _)
 exact TreeC.intro rfl (BytesV.nil _ _) ((hTL.keep (hUr.keeps fun b _ hk e=>by rcases hk with hk|hk<;>omega)).weaken fun b _ hk=>by rcases hk with hk|hk<;>omega) ((gD.keep (hUr.keeps fun b _ hk e=>by omega)).weaken fun b _ hk=>by omega)

theorem tagclX4_fn {ok OK:Blocks} {B tb:Nat} (c0 c1 c2 c3 v:Value) (done:List TagD) (y:TagD) (vv:Value) (w:World) (hbt:blk w tb=some (#[c0,c1,c2,c3,v],37,(0,0))) (hg:GrowU OK B tb w 69 v done) (hB:B≤w.heap.size) (htb:tb < B) (hvv:BytesV ok w vv y.2) (hy:y.1 < 2 ^ 32) (hyl:y.2.length≤32767) (hdl:done.length≤32767) (hOK:∀ b,B≤b→OK b) :
  Fn Tryz.prog 87 #[.int .u32 y.1,vv,.pointer (some ⟨tb,0,none⟩)] w fun _ w'=>(∃ v',blk w' tb=some (#[c0,c1,c2,c3,v'],37,(0,0))∧GrowU OK B tb w' 69 v' (done++[y]))∧Upd (fun b=>b=tb∨B≤b) w w':=by
 have htl:=blk_lt hbt
 refine fn_of_W Tryz.func87 rfl Tryz.results87 Tryz.ntmps87 rfl ?_
 repeat ((first|refine qA rfl ?_|apply qB|refine qC rfl ?_|apply qD|apply qE|apply qF|apply qG|apply qH);try simp (maxSteps:=1000000)(disch:=(first|omega|(simp only [qI,qJ,qK]<;>omega)|exact qL _)) only [go_sem,↓reduceIte,n0,reduceCtorEq,n1,n2,n3,n4,n5,i0,i1,i2,i3,i4,i5,i6,i7])
 obtain ⟨av,kv,rfl,_⟩:=hg.shape
 have hnb:∀ b,b < B∨w.heap.size≤b→¬ ownB (.slice av done.length kv) b:=fun b hb h=>by
  have:=hg.above h
  have:=hg.below h
  omega
 refine W.drawR (.take 0 (.take 1 (.take 2 (.take 3 (.only 4 (.only 5 (.only 6 (.only 7 (.take 8 (.last 9)))))))))) (ownB (.slice av done.length kv)) mixed (by kernel_rfl) ?_
 simp (maxSteps:=1000000)(disch:=(first|omega|(simp only [qI,qJ,qK]<;>omega)|exact qL _|(refine hnb _ ?_;first|omega|(simp only [World.size_alloc,size_wr,size_drew]<;>omega)))) only [go_sem,↓reduceIte,n0,reduceCtorEq,n1,n2,n3,n4,n5,i0,i1,i2,i3,i4,i5,i6,i7,hbt]
 refine wp_copyN ap_22_22 (ok:=ok) (s:=y.2) (v:=vv) (by first|rfl|simp (maxSteps:=1000000)(disch:=(first|omega|(simp only [qI,qJ,qK]<;>omega)|exact qL _)) only [go_sem,↓reduceIte,n0,reduceCtorEq,n1,n2,n3,n4,n5,i0,i1,i2,i3,i4,i5,i6,i7]) (by first|rfl|simp (maxSteps:=1000000)(disch:=(first|omega|(simp only [qI,qJ,qK]<;>omega)|exact qL _)) only [go_sem,↓reduceIte,n0,reduceCtorEq,n1,n2,n3,n4,n5,i0,i1,i2,i3,i4,i5,i6,i7]) (hvv.keep (Ext.keeps ((Upd.refl _ _).drew) _)) (by omega) ?_
 intro v1 w1 ho1 hE1 hf1
 obtain ⟨a1,k1,rfl,_⟩:=ho1.shape
 have hB1:=Own.bytes (ok:=fun b=>w.heap.size≤b) ho1 fun b hb=>hf1 b hb
 have hP1:Upd (ownB (.slice av done.length kv)) w.drew w1:=hE1.mono fun _ h=>h.elim
 have hs1:=hE1.size
 simp only [size_drew] at hs1
 refine ⟨hP1,?_⟩
 simp (maxSteps:=1000000)(disch:=(first|omega|(simp only [qI,qJ,qK]<;>omega)|exact qL _|(refine hnb _ ?_;first|omega|(simp only [World.size_alloc,size_wr,size_drew]<;>omega)))) only [go_sem,↓reduceIte,n0,reduceCtorEq,n1,n2,n3,n4,n5,i0,i1,i2,i3,i4,i5,i6,i7,hbt]
 refine ⟨hP1,?_⟩
 have hP2:Upd (ownB (.slice av done.length kv)) w.drew (w1.alloc (.cells #[.int .u32 y.1,.slice a1 y.2.length k1] 69)):=hP1.alloc _
 have hn2:blk (w1.alloc (.cells #[.int .u32 y.1,.slice a1 y.2.length k1] 69)) w1.heap.size=some (#[.int .u32 y.1,.slice a1 y.2.length k1],69,(0,0)):=blk_alloc_new rfl
 have hs2:(w1.alloc (.cells #[.int .u32 y.1,.slice a1 y.2.length k1] 69)).heap.size=w1.heap.size+1:=World.size_alloc _ _
 have hE2:Ext w1 (w1.alloc (.cells #[.int .u32 y.1,.slice a1 y.2.length k1] 69)):=Upd.alloc (Upd.refl _ _) _
 refine ⟨hP2,?_⟩
 try simp only [List.append_nil]
 generalize (w1.alloc (.cells #[.int .u32 y.1,.slice a1 y.2.length k1] 69))=w2 at *
 have hEw:Ext w w2:=(((Upd.refl _ _).drew).trans hE1).trans hE2
 obtain ⟨css,hown,hall⟩:=(hg.ext hEw).ex
 have hcl:=hall.1
 have hx2:TagC (fun b=>OK b∧b≠tb∧¬ ownB (.slice av done.length kv) b) w2 y [.int .u32 y.1,.slice a1 y.2.length k1]:=⟨_,rfl,(hB1.keep (hE2.keeps _)).weaken fun b _ hk=>⟨hOK b (by omega),by omega,hnb b (.inr hk)⟩,hy⟩
 refine wp_append ap_35_35 (m:=1) (news:=[.int .u32 y.1,.slice a1 y.2.length k1]) (n:=css.length) (cs:=css.flatten) (v:=.slice av done.length kv) ?_ rfl hown.1 hall.flat_cells (Src.blk (fr:=(0,0)) (T:=69) hn2 rfl rfl) ?_ ?_ ?_
 ·first|rfl|simp (maxSteps:=1000000)(disch:=(first|omega|(simp only [qI,qJ,qK]<;>omega)|exact qL _)) only [go_sem,↓reduceIte,n0,reduceCtorEq,n1,n2,n3,n4,n5,i0,i1,i2,i3,i4,i5,i6,i7]
 ·omega
 ·omega
 intro v' w3 ho hu hfr
 have hg3:=GrowU.snoc hown hall hx2 hu hfr ho
 obtain ⟨va,vc,hv',_⟩:=ho.shape
 subst hv'
 have hP3:=hP2.trans hu
 have hs3:=hu.size
 have bX:=hP3.blk_some (show blk w.drew tb=_ from hbt) (hnb _ (.inl htb))
 have hne:¬ ownB (.slice va (css.length+1) vc) tb:=fun h=>(hfr _ h).elim (hnb _ (.inl htb)) (fun h=>by omega)
 refine ⟨hP3,?_⟩
 simp (maxSteps:=1000000)(disch:=(first|omega|(simp only [qI,qJ,qK]<;>omega)|exact qL _|(refine hnb _ ?_;first|omega|(simp only [World.size_alloc,size_wr,size_drew]<;>omega)))) only [go_sem,↓reduceIte,n0,reduceCtorEq,n1,n2,n3,n4,n5,i0,i1,i2,i3,i4,i5,i6,i7,bX]
 repeat ((first|refine qA rfl ?_|apply qB|refine qC rfl ?_|apply qD|apply qE|apply qF|apply qG|apply qH);try simp (maxSteps:=1000000)(disch:=(first|omega|(simp only [qI,qJ,qK]<;>omega)|exact qL _)) only [go_sem,↓reduceIte,n0,reduceCtorEq,n1,n2,n3,n4,n5,i0,i1,i2,i3,i4,i5,i6,i7])
 refine ⟨⟨.slice va (css.length+1) vc,by first|(rw [blk_wr_eq,bX];rfl)|rfl|(rw [bX];rfl)|(rw [blk_wr_eq,bX]),hg3.upd ((Upd.refl _ _).wr _ _ (.inr rfl)) hne⟩,?_⟩
 refine Upd.wr ?_ _ _ (.inr (.inl rfl))
 exact (((Upd.refl (fun b=>b=tb∨B≤b) w).drew).trans (hP3.mono fun b h=>.inr (hg.above h)))

set_option maxHeartbeats 4000000 in
theorem tellX4_fn {d:Nat} {ok:Blocks} (t:Tree) (cs:List Value) (w:World) {b o:Nat} {x:Blk} (hb:blk w b=some x) (hq:∀ k,k < 4→x.1[o+k]? = cs[k]?) (hR:RepS true (d+1) fs_X4 ok w t cs) (hg:GoodP (d+1) fs_X4 t) :
  Fn Tryz.prog 47 #[.pointer (some ⟨b,o,none⟩)] w fun r w'=>(∃ c,r = .agg c.toArray∧TreeC (fun b=>w.heap.size≤b) w' (tlP (d+1) fs_X4 t) c)∧Ext w w':=by
 have hbl:=blk_lt hb
 obtain ⟨⟨gd0,gd1,gd2,-⟩,hgu⟩:=hg
 replace gd0:GoodF (GoodP d) fX4_0 (t.at 0):=gd0
 replace gd1:GoodF (GoodP d) fX4_1 (t.at 1):=gd1
 replace gd2:GoodF (GoodP d) fX4_2 (t.at 2):=gd2
 obtain ⟨cs0,q,hcs,hL,hT⟩:=hR.inv
 obtain ⟨c0,e0,rfl,h0,c1,e1,rfl,h1,c2,e2,rfl,h2,rfl⟩:=hL
 replace h0:RepF (RepS true d) (szS true d) fX4_0 ok w (t.at 0) c0:=h0
 replace h1:RepF (RepS true d) (szS true d) fX4_1 ok w (t.at 1) c1:=h1
 replace h2:RepF (RepS true d) (szS true d) fX4_2 ok w (t.at 2) c2:=h2
 obtain rfl:=(RepF_num (by decide)).1 h0
 obtain rfl:=(RepF_text rfl (by decide)).1 h1
 obtain rfl:=(RepF_num (by decide)).1 h2
 obtain ⟨qm,rfl⟩:=hT.shape
 subst hcs
 have hq0:x.1[o]? = some (.int .i32 (IntKind.i32.wrap (t.at 0).n)):=hq 0 (by decide)
 have hq1:x.1[o+1]? = some (strV (t.at 1).s):=hq 1 (by decide)
 have hq2:x.1[o+2]? = some (.int .u16 (IntKind.u16.wrap (t.at 2).n)):=hq 2 (by decide)
 have hq3:x.1[o+3]? = some (.map qm):=hq 3 (by decide)
 refine fn_of_W Tryz.func47 rfl Tryz.results47 Tryz.ntmps47 rfl ?_
 repeat ((first|refine qA rfl ?_|apply qB|refine qC rfl ?_|apply qD|apply qE|apply qF|apply qG|apply qH);try simp (maxSteps:=1000000)(disch:=(first|omega|(simp only [qI,qJ,qK]<;>omega)|exact qL _)) only [go_sem,↓reduceIte,n0,reduceCtorEq,n1,n2,n3,n4,n5,i0,i1,i2,i3,i4,i5,i6,i7])
 refine wp_make (T:=34) (E:=37) (size:=5) (bytes:=88) (z:=.agg qZ5) (l:=3) (c:=3) (kl:=.i64) (kc:=.i64) (by kernel_rfl) (by kernel_rfl) (by first|rfl|(simp (maxSteps:=1000000)(disch:=(first|omega|(simp only [qI,qJ,qK]<;>omega)|exact qL _)) only [go_sem,↓reduceIte,n0,reduceCtorEq,n1,n2,n3,n4,n5,i0,i1,i2,i3,i4,i5,i6,i7];rfl)) (by first|rfl|(simp (maxSteps:=1000000)(disch:=(first|omega|(simp only [qI,qJ,qK]<;>omega)|exact qL _)) only [go_sem,↓reduceIte,n0,reduceCtorEq,n1,n2,n3,n4,n5,i0,i1,i2,i3,i4,i5,i6,i7];rfl)) (by omega) (by omega) (by omega) ?_
 have hmd:madeCells (Value.agg qZ5).cells (3 * 5)=#[.int .i64 0,.slice none 0 0,.bool false,.slice none 0 0,.slice none 0 0,.int .i64 0,.slice none 0 0,.bool false,.slice none 0 0,.slice none 0 0,.int .i64 0,.slice none 0 0,.bool false,.slice none 0 0,.slice none 0 0]:=by kernel_rfl
 rw [hmd]
 simp (maxSteps:=1000000)(disch:=(first|omega|(simp only [qI,qJ,qK]<;>omega)|exact qL _)) only [go_sem,↓reduceIte,n0,reduceCtorEq,n1,n2,n3,n4,n5,i0,i1,i2,i3,i4,i5,i6,i7]
 repeat ((first|refine qA rfl ?_|apply qB|refine qC rfl ?_|apply qD|apply qE|apply qF|apply qG|apply qH);try simp (maxSteps:=1000000)(disch:=(first|omega|(simp only [qI,qJ,qK]<;>omega)|exact qL _)) only [go_sem,↓reduceIte,n0,reduceCtorEq,n1,n2,n3,n4,n5,i0,i1,i2,i3,i4,i5,i6,i7])
 have hE1:Ext w (wr (((w.alloc (.cells qZ5 37)).alloc (.cells #[.int .i64 0,.slice none 0 0,.bool false,.slice none 0 0,.slice none 0 0,.int .i64 0,.slice none 0 0,.bool false,.slice none 0 0,.slice none 0 0,.int .i64 0,.slice none 0 0,.bool false,.slice none 0 0,.slice none 0 0] 37)).alloc (.cells qZ5 37)) (w.heap.size+2) 0 [.int .i64 0,.slice none 0 0,.bool false,.slice (some ⟨w.heap.size+1,0,none⟩) 3 3,.slice none 0 0]):=(Upd.alloc (Upd.alloc (Upd.alloc (Upd.refl _ _) _) _) _).wr _ _ (.inl (by omega))
 have hz1:(wr (((w.alloc (.cells qZ5 37)).alloc (.cells #[.int .i64 0,.slice none 0 0,.bool false,.slice none 0 0,.slice none 0 0,.int .i64 0,.slice none 0 0,.bool false,.slice none 0 0,.slice none 0 0,.int .i64 0,.slice none 0 0,.bool false,.slice none 0 0,.slice none 0 0] 37)).alloc (.cells qZ5 37)) (w.heap.size+2) 0 [.int .i64 0,.slice none 0 0,.bool false,.slice (some ⟨w.heap.size+1,0,none⟩) 3 3,.slice none 0 0]).heap.size=w.heap.size+3:=by simp only [size_wr,World.size_alloc]
 have hl1:blk (wr (((w.alloc (.cells qZ5 37)).alloc (.cells #[.int .i64 0,.slice none 0 0,.bool false,.slice none 0 0,.slice none 0 0,.int .i64 0,.slice none 0 0,.bool false,.slice none 0 0,.slice none 0 0,.int .i64 0,.slice none 0 0,.bool false,.slice none 0 0,.slice none 0 0] 37)).alloc (.cells qZ5 37)) (w.heap.size+2) 0 [.int .i64 0,.slice none 0 0,.bool false,.slice (some ⟨w.heap.size+1,0,none⟩) 3 3,.slice none 0 0]) (w.heap.size+1)=some (#[.int .i64 0,.slice none 0 0,.bool false,.slice none 0 0,.slice none 0 0,.int .i64 0,.slice none 0 0,.bool false,.slice none 0 0,.slice none 0 0,.int .i64 0,.slice none 0 0,.bool false,.slice none 0 0,.slice none 0 0],37,(0,0)):=by simp (maxSteps:=1000000)(disch:=(first|omega|(simp only [qI,qJ,qK]<;>omega)|exact qL _)) only [go_sem,↓reduceIte,n0,reduceCtorEq,n1,n2,n3,n4,n5,i0,i1,i2,i3,i4,i5,i6,i7]
 have ht1:blk (wr (((w.alloc (.cells qZ5 37)).alloc (.cells #[.int .i64 0,.slice none 0 0,.bool false,.slice none 0 0,.slice none 0 0,.int .i64 0,.slice none 0 0,.bool false,.slice none 0 0,.slice none 0 0,.int .i64 0,.slice none 0 0,.bool false,.slice none 0 0,.slice none 0 0] 37)).alloc (.cells qZ5 37)) (w.heap.size+2) 0 [.int .i64 0,.slice none 0 0,.bool false,.slice (some ⟨w.heap.size+1,0,none⟩) 3 3,.slice none 0 0]) (w.heap.size+2)=some (#[.int .i64 0,.slice none 0 0,.bool false,.slice (some ⟨w.heap.size+1,0,none⟩) 3 3,.slice none 0 0],37,(0,0)):=by simp (maxSteps:=1000000)(disch:=(first|omega|(simp only [qI,qJ,qK]<;>omega)|exact qL _)) only [go_sem,↓reduceIte,n0,reduceCtorEq,n1,n2,n3,n4,n5,i0,i1,i2,i3,i4,i5,i6,i7]
 have hr1:blk (wr (((w.alloc (.cells qZ5 37)).alloc (.cells #[.int .i64 0,.slice none 0 0,.bool false,.slice none 0 0,.slice none 0 0,.int .i64 0,.slice none 0 0,.bool false,.slice none 0 0,.slice none 0 0,.int .i64 0,.slice none 0 0,.bool false,.slice none 0 0,.slice none 0 0] 37)).alloc (.cells qZ5 37)) (w.heap.size+2) 0 [.int .i64 0,.slice none 0 0,.bool false,.slice (some ⟨w.heap.size+1,0,none⟩) 3 3,.slice none 0 0]) w.heap.size=some (qZ5,37,(0,0)):=by simp (maxSteps:=1000000)(disch:=(first|omega|(simp only [qI,qJ,qK]<;>omega)|exact qL _)) only [go_sem,↓reduceIte,n0,reduceCtorEq,n1,n2,n3,n4,n5,i0,i1,i2,i3,i4,i5,i6,i7]
 obtain ⟨w1,hw1⟩:∃ y,y=(wr (((w.alloc (.cells qZ5 37)).alloc (.cells #[.int .i64 0,.slice none 0 0,.bool false,.slice none 0 0,.slice none 0 0,.int .i64 0,.slice none 0 0,.bool false,.slice none 0 0,.slice none 0 0,.int .i64 0,.slice none 0 0,.bool false,.slice none 0 0,.slice none 0 0] 37)).alloc (.cells qZ5 37)) (w.heap.size+2) 0 [.int .i64 0,.slice none 0 0,.bool false,.slice (some ⟨w.heap.size+1,0,none⟩) 3 3,.slice none 0 0]):=⟨_,rfl⟩
 rw [← hw1] at hE1 hz1 hl1 ht1 hr1
 rw [← hw1]
 clear hw1
 have hU1:Upd (fun b=>b=w.heap.size+1∨b=w.heap.size+2) w1 w1:=Upd.refl _ _
 have hb1:=hE1.blk_some hb id
 repeat ((first|refine qA rfl ?_|apply qB|refine qC rfl ?_|apply qD|apply qE|apply qF|apply qG|apply qH);try simp (maxSteps:=1000000)(disch:=(first|omega|(simp only [qI,qJ,qK]<;>omega)|exact qL _)) only [go_sem,↓reduceIte,n0,reduceCtorEq,n1,n2,n3,n4,n5,i0,i1,i2,i3,i4,i5,i6,i7,hb1,hl1,ht1,hq0,hq1,hq2,hq3])
 refine W.drawR (.take 0 (.take 1 (.take 2 (.take 3 (.take 4 (.take 5 (.take 6 (.only 7 (.take 8 (.last 9)))))))))) (NoB) mixed (by kernel_rfl) ?_
 try simp (maxSteps:=1000000)(disch:=(first|omega|(simp only [qI,qJ,qK]<;>omega)|exact qL _)) only [go_sem,↓reduceIte,n0,reduceCtorEq,n1,n2,n3,n4,n5,i0,i1,i2,i3,i4,i5,i6,i7,hb1,hl1,ht1,hq0,hq1,hq2,hq3,tl32]
 refine ⟨Upd.refl _ _,?_⟩
 have lW:blk w1.drew (w.heap.size+1)=_:=hl1
 have hx2:Upd (fun b=>b=w.heap.size+1∨b=w.heap.size+2) w1 w1.drew:=(Upd.refl _ _).drew
 generalize hw2:wr w1.drew (w.heap.size+1) 0 [.int .i64 (IntKind.i32.wrap (t.at 0).n),.slice none 0 0,.bool false,.slice none 0 0,.slice none 0 0] = w2
 have hl2:blk w2 (w.heap.size+1)=some (#[.int .i64 (IntKind.i32.wrap (t.at 0).n),.slice none 0 0,.bool false,.slice none 0 0,.slice none 0 0,.int .i64 0,.slice none 0 0,.bool false,.slice none 0 0,.slice none 0 0,.int .i64 0,.slice none 0 0,.bool false,.slice none 0 0,.slice none 0 0],37,(0,0)):=by rw [← hw2,blk_wr_eq,lW];rfl
 have hv2:Upd (fun b=>b=w.heap.size+1∨b=w.heap.size+2) w1.drew w2:=by rw [← hw2];exact (Upd.refl _ _).wr _ _ (.inr (.inl rfl))
 have hV2:Upd (fun b=>b=w.heap.size+1∨b=w.heap.size+2) w1 w2:=hx2.trans hv2
 have hU2:Upd (fun b=>b=w.heap.size+1∨b=w.heap.size+2) w1 w2:=hU1.trans hV2
 have hz2:=hU2.size
 have hX2:Ext w w2:=hE1.more hU2 fun b hb h=>by omega
 have hb2:=hX2.blk_some hb id
 have ht2:blk w2 (w.heap.size+2)=some (#[.int .i64 0,.slice none 0 0,.bool false,.slice (some ⟨w.heap.size+1,0,none⟩) 3 3,.slice none 0 0],37,(0,0)):=by
  rw [← hw2,blk_wr_ne (by omega)]
  exact ht1
 clear hw2
 have hf0:TreeC (fun b=>w1.heap.size≤b) w2 (.num (IntKind.i32.wrap (t.at 0).n)) [.int .i64 (IntKind.i32.wrap (t.at 0).n),.slice none 0 0,.bool false,.slice none 0 0,.slice none 0 0]:=(TreeC.keep (hv2.keeps fun b hb hk e=>by have hk':w1.heap.size≤b:=hk;omega) (TreeC.intro (tl32 _) (BytesV.nil _ _) (treesN _ _) (tagsN _ _):TreeC (fun b=>w1.heap.size≤b) w1.drew (.num (IntKind.i32.wrap (t.at 0).n)) [.int .i64 (IntKind.i32.wrap (t.at 0).n),.slice none 0 0,.bool false,.slice none 0 0,.slice none 0 0]))
 repeat ((first|refine qA rfl ?_|apply qB|refine qC rfl ?_|apply qD|apply qE|apply qF|apply qG|apply qH);try simp (maxSteps:=1000000)(disch:=(first|omega|(simp only [qI,qJ,qK]<;>omega)|exact qL _)) only [go_sem,↓reduceIte,n0,reduceCtorEq,n1,n2,n3,n4,n5,i0,i1,i2,i3,i4,i5,i6,i7,hb2,hl2,ht2,hq0,hq1,hq2,hq3])
 refine W.drawR (.take 0 (.take 1 (.take 2 (.take 3 (.take 4 (.take 5 (.only 6 (.only 7 (.take 8 (.last 9)))))))))) (NoB) mixed (by kernel_rfl) ?_
 try simp (maxSteps:=1000000)(disch:=(first|omega|(simp only [qI,qJ,qK]<;>omega)|exact qL _)) only [go_sem,↓reduceIte,n0,reduceCtorEq,n1,n2,n3,n4,n5,i0,i1,i2,i3,i4,i5,i6,i7,hb2,hl2,ht2,hq0,hq1,hq2,hq3]
 refine wp_octets (S:=9) (T:=22) (E:=5) (s:=(t.at 1).s) (by kernel_rfl) (by kernel_rfl) (by kernel_rfl) (by first|rfl|simp (maxSteps:=1000000)(disch:=(first|omega|(simp only [qI,qJ,qK]<;>omega)|exact qL _)) only [go_sem,↓reduceIte,n0,reduceCtorEq,n1,n2,n3,n4,n5,i0,i1,i2,i3,i4,i5,i6,i7,hb2,hl2,ht2,hq0,hq1,hq2,hq3]) ?_
 intro a3 k3 w3 hB3 xB
 have hP3:Upd NoB w2.drew w3:=(Upd.refl _ _).trans (xB.mono fun _ h=>h.elim)
 have CZ:=xB.size
 try simp only [size_drew] at CZ
 refine ⟨hP3,?_⟩
 try simp (maxSteps:=1000000)(disch:=(first|omega|(simp only [qI,qJ,qK]<;>omega)|exact qL _)) only [go_sem,↓reduceIte,n0,reduceCtorEq,n1,n2,n3,n4,n5,i0,i1,i2,i3,i4,i5,i6,i7,hb2,hl2,ht2,hq0,hq1,hq2,hq3]
 refine ⟨hP3,?_⟩
 have pB:=hP3.blk_some (show blk w2.drew (w.heap.size+1)=_ from hl2) id
 have hx4:Upd (fun b=>b=w.heap.size+1∨b=w.heap.size+2) w2 w3:=((Upd.refl _ _).drew).trans (hP3.mono fun _ h=>h.elim)
 try simp (maxSteps:=1000000)(disch:=(first|omega|(simp only [qI,qJ,qK]<;>omega)|exact qL _)) only [go_sem,↓reduceIte,n0,reduceCtorEq,n1,n2,n3,n4,n5,i0,i1,i2,i3,i4,i5,i6,i7,pB]
 generalize hw4:wr w3 (w.heap.size+1) 5 [.int .i64 0,.slice (some a3) ((t.at 1).s).length k3,.bool false,.slice none 0 0,.slice none 0 0] = w4
 have hl4:blk w4 (w.heap.size+1)=some (#[.int .i64 (IntKind.i32.wrap (t.at 0).n),.slice none 0 0,.bool false,.slice none 0 0,.slice none 0 0,.int .i64 0,.slice (some a3) ((t.at 1).s).length k3,.bool false,.slice none 0 0,.slice none 0 0,.int .i64 0,.slice none 0 0,.bool false,.slice none 0 0,.slice none 0 0],37,(0,0)):=by rw [← hw4,blk_wr_eq,pB];rfl
 have hv4:Upd (fun b=>b=w.heap.size+1∨b=w.heap.size+2) w3 w4:=by rw [← hw4];exact (Upd.refl _ _).wr _ _ (.inr (.inl rfl))
 have hV4:Upd (fun b=>b=w.heap.size+1∨b=w.heap.size+2) w2 w4:=hx4.trans hv4
 have hU4:Upd (fun b=>b=w.heap.size+1∨b=w.heap.size+2) w1 w4:=hU2.trans hV4
 have hz4:=hU4.size
 have hX4:Ext w w4:=hE1.more hU4 fun b hb h=>by omega
 have hb4:=hX4.blk_some hb id
 have ht4:blk w4 (w.heap.size+2)=some (#[.int .i64 0,.slice none 0 0,.bool false,.slice (some ⟨w.heap.size+1,0,none⟩) 3 3,.slice none 0 0],37,(0,0)):=by
  rw [← hw4,blk_wr_ne (by omega)]
  exact hP3.blk_some (show blk w2.drew (w.heap.size+2)=_ from ht2) id
 clear hw4
 have hf1:TreeC (fun b=>w1.heap.size≤b) w4 (.oct false (t.at 1).s) [.int .i64 0,.slice (some a3) ((t.at 1).s).length k3,.bool false,.slice none 0 0,.slice none 0 0]:=(TreeC.keep (hv4.keeps fun b hb hk e=>by have hk':w1.heap.size≤b:=hk;omega) (TreeC.intro rfl (hB3.weaken fun b _ hk=>by have hk':w2.drew.heap.size≤b:=hk;(try simp only [size_drew] at hk');omega) (treesN _ _) (tagsN _ _):TreeC (fun b=>w1.heap.size≤b) w3 (.oct false (t.at 1).s) [.int .i64 0,.slice (some a3) ((t.at 1).s).length k3,.bool false,.slice none 0 0,.slice none 0 0]))
 repeat ((first|refine qA rfl ?_|apply qB|refine qC rfl ?_|apply qD|apply qE|apply qF|apply qG|apply qH);try simp (maxSteps:=1000000)(disch:=(first|omega|(simp only [qI,qJ,qK]<;>omega)|exact qL _)) only [go_sem,↓reduceIte,n0,reduceCtorEq,n1,n2,n3,n4,n5,i0,i1,i2,i3,i4,i5,i6,i7,hb4,hl4,ht4,hq0,hq1,hq2,hq3])
 refine W.drawR (.take 0 (.take 1 (.take 2 (.take 3 (.take 4 (.take 5 (.take 6 (.only 7 (.take 8 (.last 9)))))))))) (NoB) mixed (by kernel_rfl) ?_
 try simp (maxSteps:=1000000)(disch:=(first|omega|(simp only [qI,qJ,qK]<;>omega)|exact qL _)) only [go_sem,↓reduceIte,n0,reduceCtorEq,n1,n2,n3,n4,n5,i0,i1,i2,i3,i4,i5,i6,i7,hb4,hl4,ht4,hq0,hq1,hq2,hq3,tlu16]
 refine ⟨Upd.refl _ _,?_⟩
 have tY:blk w4.drew (w.heap.size+1)=_:=hl4
 have hx5:Upd (fun b=>b=w.heap.size+1∨b=w.heap.size+2) w4 w4.drew:=(Upd.refl _ _).drew
 generalize hw5:wr w4.drew (w.heap.size+1) 10 [.int .i64 (IntKind.u16.wrap (t.at 2).n),.slice none 0 0,.bool false,.slice none 0 0,.slice none 0 0] = w5
 have hl5:blk w5 (w.heap.size+1)=some (#[.int .i64 (IntKind.i32.wrap (t.at 0).n),.slice none 0 0,.bool false,.slice none 0 0,.slice none 0 0,.int .i64 0,.slice (some a3) ((t.at 1).s).length k3,.bool false,.slice none 0 0,.slice none 0 0,.int .i64 (IntKind.u16.wrap (t.at 2).n),.slice none 0 0,.bool false,.slice none 0 0,.slice none 0 0],37,(0,0)):=by rw [← hw5,blk_wr_eq,tY];rfl
 have hv5:Upd (fun b=>b=w.heap.size+1∨b=w.heap.size+2) w4.drew w5:=by rw [← hw5];exact (Upd.refl _ _).wr _ _ (.inr (.inl rfl))
 have hV5:Upd (fun b=>b=w.heap.size+1∨b=w.heap.size+2) w4 w5:=hx5.trans hv5
 have hU5:Upd (fun b=>b=w.heap.size+1∨b=w.heap.size+2) w1 w5:=hU4.trans hV5
 have hz5:=hU5.size
 have hX5:Ext w w5:=hE1.more hU5 fun b hb h=>by omega
 have hb5:=hX5.blk_some hb id
 have ht5:blk w5 (w.heap.size+2)=some (#[.int .i64 0,.slice none 0 0,.bool false,.slice (some ⟨w.heap.size+1,0,none⟩) 3 3,.slice none 0 0],37,(0,0)):=by
  rw [← hw5,blk_wr_ne (by omega)]
  exact ht4
 clear hw5
 have hf2:TreeC (fun b=>w1.heap.size≤b) w5 (.num (IntKind.u16.wrap (t.at 2).n)) [.int .i64 (IntKind.u16.wrap (t.at 2).n),.slice none 0 0,.bool false,.slice none 0 0,.slice none 0 0]:=(TreeC.keep (hv5.keeps fun b hb hk e=>by have hk':w1.heap.size≤b:=hk;omega) (TreeC.intro (tlu16 _) (BytesV.nil _ _) (treesN _ _) (tagsN _ _):TreeC (fun b=>w1.heap.size≤b) w4.drew (.num (IntKind.u16.wrap (t.at 2).n)) [.int .i64 (IntKind.u16.wrap (t.at 2).n),.slice none 0 0,.bool false,.slice none 0 0,.slice none 0 0]))
 repeat ((first|refine qA rfl ?_|apply qB|refine qC rfl ?_|apply qD|apply qE|apply qF|apply qG|apply qH);try simp (maxSteps:=1000000)(disch:=(first|omega|(simp only [qI,qJ,qK]<;>omega)|exact qL _)) only [go_sem,↓reduceIte,n0,reduceCtorEq,n1,n2,n3,n4,n5,i0,i1,i2,i3,i4,i5,i6,i7,hb5,hl5,ht5,hq0,hq1,hq2,hq3])
 refine (EachG_fn (ok:=fun b=>b < w.heap.size) 87 ca_87 #[.pointer (some ⟨w.heap.size+2,0,none⟩)] w5 (tb:=b) (to:=o+3) hb5 hq3 ((hT.weaken fun b hb _=>hb).keep (hX5.keeps _)) (sortT_perm _) (sortT_lt hgu.2.1) (by rw [(sortT_perm t.u).length_eq];exact hgu.1)
  (fun b=>b=w.heap.size+2) (by omega) (fun b hb hk e=>by have hk':b < w.heap.size:=hk;omega) (fun b hb=>by have:=blk_lt ht5;omega)
  (fun wl done w'=>∃ v,blk w' (w.heap.size+2)=some (#[.int .i64 0,.slice none 0 0,.bool false,.slice (some ⟨w.heap.size+1,0,none⟩) 3 3,v],37,(0,0))∧GrowU (fun b=>w1.heap.size≤b) wl.heap.size (w.heap.size+2) w' 69 v done) (fun wl hE=>⟨_,hE.blk_some ht5 id,GrowU.nil _ _ _ _ _⟩) ?_).mono ?_
 ·rintro wl hE done y vv wc hpre ⟨v,hbv,hg⟩ hU hvv hy
  have hz':=hE.size
  have hzu:=hU.size
  have htl:=blk_lt ht5
  have hpl:=hpre.length_le
  simp only [List.length_append,List.length_cons,List.length_nil] at hpl
  rw [(sortT_perm t.u).length_eq] at hpl
  have hlu:=hgu.1
  have hmy:y∈t.u:=(sortT_perm t.u).mem_iff.1 (hpre.subset (by simp))
  refine (tagclX4_fn (ok:=fun b=>b < w.heap.size) _ _ _ _ v done y vv wc hbv hg hzu (by omega) (hvv.keep ((hE.mono (fun _ h=>h.elim) |>.trans hU:Upd (fun b=>b=w.heap.size+2) w5 wc).keeps fun b _ hk e=>by have hk':b < w.heap.size:=hk;omega)) hy (hgu.2.2 y hmy) (by omega) (fun b hb=>by have:=hz5;omega)).mono ?_
  rintro _ w2' ⟨⟨v',h1,h2⟩,h3⟩
  exact ⟨⟨v',h1,h2⟩,hU.trans' h3 fun b hb h=>h.elim id fun h=>by omega⟩
 rintro _ w6 ⟨wl,hEl,⟨v,ht6,hgU⟩,hUe⟩
 have hzl:=hEl.size
 obtain ⟨aU,kU,hvs,_⟩:=hgU.shape
 subst hvs
 have hV6:Upd (fun b=>b=w.heap.size+1∨b=w.heap.size+2) w5 w6:=(hEl.mono fun _ h=>h.elim).trans (hUe.mono fun _ h=>.inr h)
 have hU6:Upd (fun b=>b=w.heap.size+1∨b=w.heap.size+2) w1 w6:=hU5.trans hV6
 have hz6:=hU6.size
 have hX6:Ext w w6:=hE1.more hU6 fun b hb h=>by omega
 have hb6:=hX6.blk_some hb id
 have hl6:=(((hEl.mono fun _ h=>h.elim).trans hUe:Upd (fun b=>b=w.heap.size+2) w5 w6)).blk_some hl5 (by omega)
 have hTU:=hgU.tags (ok':=(fun b=>w1.heap.size≤b)) (fun _ _ h=>h) (fun b hb=>by have:=hz5;omega)
 repeat ((first|refine qA rfl ?_|apply qB|refine qC rfl ?_|apply qD|apply qE|apply qF|apply qG|apply qH);try simp (maxSteps:=1000000)(disch:=(first|omega|(simp only [qI,qJ,qK]<;>omega)|exact qL _)) only [go_sem,↓reduceIte,n0,reduceCtorEq,n1,n2,n3,n4,n5,i0,i1,i2,i3,i4,i5,i6,i7,hb6,hl6,ht6,hq0,hq1,hq2,hq3,cellsAt_five])
 refine (sorted_fn _ _ w6 hTU (sortT_lt hgu.2.1) (by rw [(sortT_perm t.u).length_eq];exact hgu.1)).mono ?_
 rintro _ w7 hEs
 have hV7:Upd (fun b=>b=w.heap.size+1∨b=w.heap.size+2) w6 w7:=hEs.mono fun _ h=>h.elim
 have hU7:Upd (fun b=>b=w.heap.size+1∨b=w.heap.size+2) w1 w7:=hU6.trans hV7
 have hz7:=hU7.size
 have hX7:Ext w w7:=hE1.more hU7 fun b hb h=>by omega
 have hb7:=hX7.blk_some hb id
 have hl7:=hEs.blk_some hl6 id
 have ht7:=hEs.blk_some ht6 id
 have hr7:=(hU7.blk_some hr1 (by omega))
 have hC_7:Upd (fun b=>b=w.heap.size+1∨b=w.heap.size+2) w7 w7:=Upd.refl _ _
 have hC_6:Upd (fun b=>b=w.heap.size+1∨b=w.heap.size+2) w6 w7:=hV7.trans hC_7
 have hC_5:Upd (fun b=>b=w.heap.size+1∨b=w.heap.size+2) w5 w7:=hV6.trans hC_6
 have hC_4:Upd (fun b=>b=w.heap.size+1∨b=w.heap.size+2) w4 w7:=hV5.trans hC_5
 have hC_2:Upd (fun b=>b=w.heap.size+1∨b=w.heap.size+2) w2 w7:=hV4.trans hC_4
 have hC_1:Upd (fun b=>b=w.heap.size+1∨b=w.heap.size+2) w1 w7:=hV2.trans hC_2
 have hF0:=TreeC.keep (hC_2.keeps fun b hb hk e=>by have hk':w1.heap.size≤b:=hk;omega) hf0
 have hF1:=TreeC.keep (hC_4.keeps fun b hb hk e=>by have hk':w1.heap.size≤b:=hk;omega) hf1
 have hF2:=TreeC.keep (hC_5.keeps fun b hb hk e=>by have hk':w1.heap.size≤b:=hk;omega) hf2
 replace hF0:TreeC (fun b=>w1.heap.size≤b) w7 (tlF (tlP d) fX4_0 (t.at 0)) [.int .i64 (IntKind.i32.wrap (t.at 0).n),.slice none 0 0,.bool false,.slice none 0 0,.slice none 0 0]:=hF0
 replace hF1:TreeC (fun b=>w1.heap.size≤b) w7 (tlF (tlP d) fX4_1 (t.at 1)) [.int .i64 0,.slice (some a3) ((t.at 1).s).length k3,.bool false,.slice none 0 0,.slice none 0 0]:=hF1
 replace hF2:TreeC (fun b=>w1.heap.size≤b) w7 (tlF (tlP d) fX4_2 (t.at 2)) [.int .i64 (IntKind.u16.wrap (t.at 2).n),.slice none 0 0,.bool false,.slice none 0 0,.slice none 0 0]:=hF2
 have hTL:TreesV (fun b=>(fun b=>w1.heap.size≤b) b∨b=w.heap.size+1) w7 (.slice (some ⟨w.heap.size+1,0,none⟩) 3 3) [tlF (tlP d) fX4_0 (t.at 0),tlF (tlP d) fX4_1 (t.at 1),tlF (tlP d) fX4_2 (t.at 2)]:=by
  refine ⟨[[.int .i64 (IntKind.i32.wrap (t.at 0).n),.slice none 0 0,.bool false,.slice none 0 0,.slice none 0 0],[.int .i64 0,.slice (some a3) ((t.at 1).s).length k3,.bool false,.slice none 0 0,.slice none 0 0],[.int .i64 (IntKind.u16.wrap (t.at 2).n),.slice none 0 0,.bool false,.slice none 0 0,.slice none 0 0]],⟨_,3,rfl,Nat.le_refl _,(by intro cs hm;simp only [List.mem_cons,List.not_mem_nil,or_false] at hm;rcases hm with rfl|rfl|rfl<;>rfl),.inr ⟨_,rfl,rfl,.inr rfl,_,hl7,fun i hi=>by rw [Nat.zero_add,List.getElem?_toArray];rfl⟩⟩,rfl,fun i h1 h2 => ?_⟩
  match i,h1 with
  | 0,_=>exact TreeC.weaken (fun b _ hk=>.inl hk) hF0
  | 1,_=>exact TreeC.weaken (fun b _ hk=>.inl hk) hF1
  | 2,_=>exact TreeC.weaken (fun b _ hk=>.inl hk) hF2
 repeat ((first|refine qA rfl ?_|apply qB|refine qC rfl ?_|apply qD|apply qE|apply qF|apply qG|apply qH);try simp (maxSteps:=1000000)(disch:=(first|omega|(simp only [qI,qJ,qK]<;>omega)|exact qL _)) only [go_sem,↓reduceIte,n0,reduceCtorEq,n1,n2,n3,n4,n5,i0,i1,i2,i3,i4,i5,i6,i7,hb7,hl7,ht7,hq0,hq1,hq2,hq3,hr7,cellsAt_five])
 refine ⟨⟨_,rfl,?_⟩,hX7.wr _ _ (.inl (Nat.le_refl _))⟩
 have hUr:Upd (fun b=>b=w.heap.size) w7 (wr w7 w.heap.size 0 [.int .i64 0,.slice none 0 0,.bool false,.slice (some ⟨w.heap.size+1,0,none⟩) 3 3,.slice aU (sortT t.u).length kU]):=(Upd.refl _ _).wr _ _ (.inr rfl)
 have gD:=hTU.keep (hEs.keeps _)
 exact TreeC.intro rfl (BytesV.nil _ _) ((hTL.keep (hUr.keeps fun b _ hk e=>by rcases hk with hk|hk<;>omega)).weaken fun b _ hk=>by rcases hk with hk|hk<;>omega) ((gD.keep (hUr.keeps fun b _ hk e=>by omega)).weaken fun b _ hk=>by omega)

theorem tagclQ_fn {ok OK:Blocks} {B tb:Nat} (c0 c1 c2 c3 v:Value) (done:List TagD) (y:TagD) (vv:Value) (w:World) (hbt:blk w tb=some (#[c0,c1,c2,c3,v],37,(0,0))) (hg:GrowU OK B tb w 69 v done) (hB:B≤w.heap.size) (htb:tb < B) (hvv:BytesV ok w vv y.2) (hy:y.1 < 2 ^ 32) (hyl:y.2.length≤32767) (hdl:done.length≤32767) (hOK:∀ b,B≤b→OK b) :
  Fn Tryz.prog 49 #[.int .u32 y.1,vv,.pointer (some ⟨tb,0,none⟩)] w fun _ w'=>(∃ v',blk w' tb=some (#[c0,c1,c2,c3,v'],37,(0,0))∧GrowU OK B tb w' 69 v' (done++[y]))∧Upd (fun b=>b=tb∨B≤b) w w':=by
 have htl:=blk_lt hbt
 refine fn_of_W Tryz.func49 rfl Tryz.results49 Tryz.ntmps49 rfl ?_
 repeat ((first|refine qA rfl ?_|apply qB|refine qC rfl ?_|apply qD|apply qE|apply qF|apply qG|apply qH);try simp (maxSteps:=1000000)(disch:=(first|omega|(simp only [qI,qJ,qK]<;>omega)|exact qL _)) only [go_sem,↓reduceIte,n0,reduceCtorEq,n1,n2,n3,n4,n5,i0,i1,i2,i3,i4,i5,i6,i7])
 obtain ⟨av,kv,rfl,_⟩:=hg.shape
 have hnb:∀ b,b < B∨w.heap.size≤b→¬ ownB (.slice av done.length kv) b:=fun b hb h=>by
  have:=hg.above h
  have:=hg.below h
  omega
 refine W.drawR (.take 0 (.take 1 (.take 2 (.take 3 (.only 4 (.only 5 (.only 6 (.only 7 (.take 8 (.last 9)))))))))) (ownB (.slice av done.length kv)) mixed (by kernel_rfl) ?_
 simp (maxSteps:=1000000)(disch:=(first|omega|(simp only [qI,qJ,qK]<;>omega)|exact qL _|(refine hnb _ ?_;first|omega|(simp only [World.size_alloc,size_wr,size_drew]<;>omega)))) only [go_sem,↓reduceIte,n0,reduceCtorEq,n1,n2,n3,n4,n5,i0,i1,i2,i3,i4,i5,i6,i7,hbt]
 refine wp_copyN ap_22_22 (ok:=ok) (s:=y.2) (v:=vv) (by first|rfl|simp (maxSteps:=1000000)(disch:=(first|omega|(simp only [qI,qJ,qK]<;>omega)|exact qL _)) only [go_sem,↓reduceIte,n0,reduceCtorEq,n1,n2,n3,n4,n5,i0,i1,i2,i3,i4,i5,i6,i7]) (by first|rfl|simp (maxSteps:=1000000)(disch:=(first|omega|(simp only [qI,qJ,qK]<;>omega)|exact qL _)) only [go_sem,↓reduceIte,n0,reduceCtorEq,n1,n2,n3,n4,n5,i0,i1,i2,i3,i4,i5,i6,i7]) (hvv.keep (Ext.keeps ((Upd.refl _ _).drew) _)) (by omega) ?_
 intro v1 w1 ho1 hE1 hf1
 obtain ⟨a1,k1,rfl,_⟩:=ho1.shape
 have hB1:=Own.bytes (ok:=fun b=>w.heap.size≤b) ho1 fun b hb=>hf1 b hb
 have hP1:Upd (ownB (.slice av done.length kv)) w.drew w1:=hE1.mono fun _ h=>h.elim
 have hs1:=hE1.size
 simp only [size_drew] at hs1
 refine ⟨hP1,?_⟩
 simp (maxSteps:=1000000)(disch:=(first|omega|(simp only [qI,qJ,qK]<;>omega)|exact qL _|(refine hnb _ ?_;first|omega|(simp only [World.size_alloc,size_wr,size_drew]<;>omega)))) only [go_sem,↓reduceIte,n0,reduceCtorEq,n1,n2,n3,n4,n5,i0,i1,i2,i3,i4,i5,i6,i7,hbt]
 refine ⟨hP1,?_⟩
 have hP2:Upd (ownB (.slice av done.length kv)) w.drew (w1.alloc (.cells #[.int .u32 y.1,.slice a1 y.2.length k1] 69)):=hP1.alloc _
 have hn2:blk (w1.alloc (.cells #[.int .u32 y.1,.slice a1 y.2.length k1] 69)) w1.heap.size=some (#[.int .u32 y.1,.slice a1 y.2.length k1],69,(0,0)):=blk_alloc_new rfl
 have hs2:(w1.alloc (.cells #[.int .u32 y.1,.slice a1 y.2.length k1] 69)).heap.size=w1.heap.size+1:=World.size_alloc _ _
 have hE2:Ext w1 (w1.alloc (.cells #[.int .u32 y.1,.slice a1 y.2.length k1] 69)):=Upd.alloc (Upd.refl _ _) _
 refine ⟨hP2,?_⟩
 try simp only [List.append_nil]
 generalize (w1.alloc (.cells #[.int .u32 y.1,.slice a1 y.2.length k1] 69))=w2 at *
 have hEw:Ext w w2:=(((Upd.refl _ _).drew).trans hE1).trans hE2
 obtain ⟨css,hown,hall⟩:=(hg.ext hEw).ex
 have hcl:=hall.1
 have hx2:TagC (fun b=>OK b∧b≠tb∧¬ ownB (.slice av done.length kv) b) w2 y [.int .u32 y.1,.slice a1 y.2.length k1]:=⟨_,rfl,(hB1.keep (hE2.keeps _)).weaken fun b _ hk=>⟨hOK b (by omega),by omega,hnb b (.inr hk)⟩,hy⟩
 refine wp_append ap_35_35 (m:=1) (news:=[.int .u32 y.1,.slice a1 y.2.length k1]) (n:=css.length) (cs:=css.flatten) (v:=.slice av done.length kv) ?_ rfl hown.1 hall.flat_cells (Src.blk (fr:=(0,0)) (T:=69) hn2 rfl rfl) ?_ ?_ ?_
 ·first|rfl|simp (maxSteps:=1000000)(disch:=(first|omega|(simp only [qI,qJ,qK]<;>omega)|exact qL _)) only [go_sem,↓reduceIte,n0,reduceCtorEq,n1,n2,n3,n4,n5,i0,i1,i2,i3,i4,i5,i6,i7]
 ·omega
 ·omega
 intro v' w3 ho hu hfr
 have hg3:=GrowU.snoc hown hall hx2 hu hfr ho
 obtain ⟨va,vc,hv',_⟩:=ho.shape
 subst hv'
 have hP3:=hP2.trans hu
 have hs3:=hu.size
 have bX:=hP3.blk_some (show blk w.drew tb=_ from hbt) (hnb _ (.inl htb))
 have hne:¬ ownB (.slice va (css.length+1) vc) tb:=fun h=>(hfr _ h).elim (hnb _ (.inl htb)) (fun h=>by omega)
 refine ⟨hP3,?_⟩
 simp (maxSteps:=1000000)(disch:=(first|omega|(simp only [qI,qJ,qK]<;>omega)|exact qL _|(refine hnb _ ?_;first|omega|(simp only [World.size_alloc,size_wr,size_drew]<;>omega)))) only [go_sem,↓reduceIte,n0,reduceCtorEq,n1,n2,n3,n4,n5,i0,i1,i2,i3,i4,i5,i6,i7,bX]
 repeat ((first|refine qA rfl ?_|apply qB|refine qC rfl ?_|apply qD|apply qE|apply qF|apply qG|apply qH);try simp (maxSteps:=1000000)(disch:=(first|omega|(simp only [qI,qJ,qK]<;>omega)|exact qL _)) only [go_sem,↓reduceIte,n0,reduceCtorEq,n1,n2,n3,n4,n5,i0,i1,i2,i3,i4,i5,i6,i7])
 refine ⟨⟨.slice va (css.length+1) vc,by first|(rw [blk_wr_eq,bX];rfl)|rfl|(rw [bX];rfl)|(rw [blk_wr_eq,bX]),hg3.upd ((Upd.refl _ _).wr _ _ (.inr rfl)) hne⟩,?_⟩
 refine Upd.wr ?_ _ _ (.inr (.inl rfl))
 exact (((Upd.refl (fun b=>b=tb∨B≤b) w).drew).trans (hP3.mono fun b h=>.inr (hg.above h)))

set_option maxHeartbeats 4000000 in
theorem tellQ_fn {d:Nat} {ok:Blocks} (t:Tree) (cs:List Value) (w:World) {b:Nat} {x:Blk} (hb:blk w b=some x) (hq:∀ k,k < 4→x.1[1+k]? = cs[k]?) (hR:RepS true (d+3) fs_Q ok w t cs) (hg:GoodP (d+3) fs_Q t) :
  Fn Tryz.prog 24 #[.pointer (some ⟨b,0,none⟩)] w fun r w'=>(∃ c,r = .agg c.toArray∧TreeC (fun b=>w.heap.size≤b) w' (tlP (d+3) fs_Q t) c)∧Ext w w':=by
 have hbl:=blk_lt hb
 obtain ⟨⟨gd0,gd1,gd2,-⟩,hgu⟩:=hg
 replace gd0:GoodF (GoodP (d+2)) fQ_0 (t.at 0):=gd0
 replace gd1:GoodF (GoodP (d+2)) fQ_1 (t.at 1):=gd1
 replace gd2:GoodF (GoodP (d+2)) fQ_2 (t.at 2):=gd2
 obtain ⟨cs0,q,hcs,hL,hT⟩:=hR.inv
 obtain ⟨c0,e0,rfl,h0,c1,e1,rfl,h1,c2,e2,rfl,h2,rfl⟩:=hL
 replace h0:RepF (RepS true (d+2)) (szS true (d+2)) fQ_0 ok w (t.at 0) c0:=h0
 replace h1:RepF (RepS true (d+2)) (szS true (d+2)) fQ_1 ok w (t.at 1) c1:=h1
 replace h2:RepF (RepS true (d+2)) (szS true (d+2)) fQ_2 ok w (t.at 2) c2:=h2
 obtain rfl:=(RepF_num (by decide)).1 h0
 obtain ⟨ab1,ac1,L1,rfl,hL1,u6,hs1⟩:=RepF_listT rfl h1
 have lJ:=gd1.listL rfl hL1
 obtain ⟨ab2,ac2,L2,rfl,hL2,CG,hs2⟩:=RepF_listT rfl h2
 have yH:=gd2.listL rfl hL2
 obtain ⟨qm,rfl⟩:=hT.shape
 subst hcs
 have hq0:x.1[1]? = some (.int .i16 (IntKind.i16.wrap (t.at 0).n)):=hq 0 (by decide)
 have hq1:x.1[2]? = some (.slice ab1 L1.length ac1):=hq 1 (by decide)
 have hq2:x.1[3]? = some (.slice ab2 L2.length ac2):=hq 2 (by decide)
 have hq3:x.1[4]? = some (.map qm):=hq 3 (by decide)
 refine fn_of_W Tryz.func24 rfl Tryz.results24 Tryz.ntmps24 rfl ?_
 repeat ((first|refine qA rfl ?_|apply qB|refine qC rfl ?_|apply qD|apply qE|apply qF|apply qG|apply qH);try simp (maxSteps:=1000000)(disch:=(first|omega|(simp only [qI,qJ,qK]<;>omega)|exact qL _)) only [go_sem,↓reduceIte,n0,reduceCtorEq,n1,n2,n3,n4,n5,i0,i1,i2,i3,i4,i5,i6,i7])
 refine wp_make (T:=34) (E:=37) (size:=5) (bytes:=88) (z:=.agg qZ5) (l:=3) (c:=3) (kl:=.i64) (kc:=.i64) (by kernel_rfl) (by kernel_rfl) (by first|rfl|(simp (maxSteps:=1000000)(disch:=(first|omega|(simp only [qI,qJ,qK]<;>omega)|exact qL _)) only [go_sem,↓reduceIte,n0,reduceCtorEq,n1,n2,n3,n4,n5,i0,i1,i2,i3,i4,i5,i6,i7];rfl)) (by first|rfl|(simp (maxSteps:=1000000)(disch:=(first|omega|(simp only [qI,qJ,qK]<;>omega)|exact qL _)) only [go_sem,↓reduceIte,n0,reduceCtorEq,n1,n2,n3,n4,n5,i0,i1,i2,i3,i4,i5,i6,i7];rfl)) (by omega) (by omega) (by omega) ?_
 have hmd:madeCells (Value.agg qZ5).cells (3 * 5)=#[.int .i64 0,.slice none 0 0,.bool false,.slice none 0 0,.slice none 0 0,.int .i64 0,.slice none 0 0,.bool false,.slice none 0 0,.slice none 0 0,.int .i64 0,.slice none 0 0,.bool false,.slice none 0 0,.slice none 0 0]:=by kernel_rfl
 rw [hmd]
 simp (maxSteps:=1000000)(disch:=(first|omega|(simp only [qI,qJ,qK]<;>omega)|exact qL _)) only [go_sem,↓reduceIte,n0,reduceCtorEq,n1,n2,n3,n4,n5,i0,i1,i2,i3,i4,i5,i6,i7]
 repeat ((first|refine qA rfl ?_|apply qB|refine qC rfl ?_|apply qD|apply qE|apply qF|apply qG|apply qH);try simp (maxSteps:=1000000)(disch:=(first|omega|(simp only [qI,qJ,qK]<;>omega)|exact qL _)) only [go_sem,↓reduceIte,n0,reduceCtorEq,n1,n2,n3,n4,n5,i0,i1,i2,i3,i4,i5,i6,i7])
 have hE1:Ext w (wr (((w.alloc (.cells qZ5 37)).alloc (.cells #[.int .i64 0,.slice none 0 0,.bool false,.slice none 0 0,.slice none 0 0,.int .i64 0,.slice none 0 0,.bool false,.slice none 0 0,.slice none 0 0,.int .i64 0,.slice none 0 0,.bool false,.slice none 0 0,.slice none 0 0] 37)).alloc (.cells qZ5 37)) (w.heap.size+2) 0 [.int .i64 0,.slice none 0 0,.bool false,.slice (some ⟨w.heap.size+1,0,none⟩) 3 3,.slice none 0 0]):=(Upd.alloc (Upd.alloc (Upd.alloc (Upd.refl _ _) _) _) _).wr _ _ (.inl (by omega))
 have hz1:(wr (((w.alloc (.cells qZ5 37)).alloc (.cells #[.int .i64 0,.slice none 0 0,.bool false,.slice none 0 0,.slice none 0 0,.int .i64 0,.slice none 0 0,.bool false,.slice none 0 0,.slice none 0 0,.int .i64 0,.slice none 0 0,.bool false,.slice none 0 0,.slice none 0 0] 37)).alloc (.cells qZ5 37)) (w.heap.size+2) 0 [.int .i64 0,.slice none 0 0,.bool false,.slice (some ⟨w.heap.size+1,0,none⟩) 3 3,.slice none 0 0]).heap.size=w.heap.size+3:=by simp only [size_wr,World.size_alloc]
 have hl1:blk (wr (((w.alloc (.cells qZ5 37)).alloc (.cells #[.int .i64 0,.slice none 0 0,.bool false,.slice none 0 0,.slice none 0 0,.int .i64 0,.slice none 0 0,.bool false,.slice none 0 0,.slice none 0 0,.int .i64 0,.slice none 0 0,.bool false,.slice none 0 0,.slice none 0 0] 37)).alloc (.cells qZ5 37)) (w.heap.size+2) 0 [.int .i64 0,.slice none 0 0,.bool false,.slice (some ⟨w.heap.size+1,0,none⟩) 3 3,.slice none 0 0]) (w.heap.size+1)=some (#[.int .i64 0,.slice none 0 0,.bool false,.slice none 0 0,.slice none 0 0,.int .i64 0,.slice none 0 0,.bool false,.slice none 0 0,.slice none 0 0,.int .i64 0,.slice none 0 0,.bool false,.slice none 0 0,.slice none 0 0],37,(0,0)):=by simp (maxSteps:=1000000)(disch:=(first|omega|(simp only [qI,qJ,qK]<;>omega)|exact qL _)) only [go_sem,↓reduceIte,n0,reduceCtorEq,n1,n2,n3,n4,n5,i0,i1,i2,i3,i4,i5,i6,i7]
 have ht1:blk (wr (((w.alloc (.cells qZ5 37)).alloc (.cells #[.int .i64 0,.slice none 0 0,.bool false,.slice none 0 0,.slice none 0 0,.int .i64 0,.slice none 0 0,.bool false,.slice none 0 0,.slice none 0 0,.int .i64 0,.slice none 0 0,.bool false,.slice none 0 0,.slice none 0 0] 37)).alloc (.cells qZ5 37)) (w.heap.size+2) 0 [.int .i64 0,.slice none 0 0,.bool false,.slice (some ⟨w.heap.size+1,0,none⟩) 3 3,.slice none 0 0]) (w.heap.size+2)=some (#[.int .i64 0,.slice none 0 0,.bool false,.slice (some ⟨w.heap.size+1,0,none⟩) 3 3,.slice none 0 0],37,(0,0)):=by simp (maxSteps:=1000000)(disch:=(first|omega|(simp only [qI,qJ,qK]<;>omega)|exact qL _)) only [go_sem,↓reduceIte,n0,reduceCtorEq,n1,n2,n3,n4,n5,i0,i1,i2,i3,i4,i5,i6,i7]
 have hr1:blk (wr (((w.alloc (.cells qZ5 37)).alloc (.cells #[.int .i64 0,.slice none 0 0,.bool false,.slice none 0 0,.slice none 0 0,.int .i64 0,.slice none 0 0,.bool false,.slice none 0 0,.slice none 0 0,.int .i64 0,.slice none 0 0,.bool false,.slice none 0 0,.slice none 0 0] 37)).alloc (.cells qZ5 37)) (w.heap.size+2) 0 [.int .i64 0,.slice none 0 0,.bool false,.slice (some ⟨w.heap.size+1,0,none⟩) 3 3,.slice none 0 0]) w.heap.size=some (qZ5,37,(0,0)):=by simp (maxSteps:=1000000)(disch:=(first|omega|(simp only [qI,qJ,qK]<;>omega)|exact qL _)) only [go_sem,↓reduceIte,n0,reduceCtorEq,n1,n2,n3,n4,n5,i0,i1,i2,i3,i4,i5,i6,i7]
 obtain ⟨w1,hw1⟩:∃ y,y=(wr (((w.alloc (.cells qZ5 37)).alloc (.cells #[.int .i64 0,.slice none 0 0,.bool false,.slice none 0 0,.slice none 0 0,.int .i64 0,.slice none 0 0,.bool false,.slice none 0 0,.slice none 0 0,.int .i64 0,.slice none 0 0,.bool false,.slice none 0 0,.slice none 0 0] 37)).alloc (.cells qZ5 37)) (w.heap.size+2) 0 [.int .i64 0,.slice none 0 0,.bool false,.slice (some ⟨w.heap.size+1,0,none⟩) 3 3,.slice none 0 0]):=⟨_,rfl⟩
 rw [← hw1] at hE1 hz1 hl1 ht1 hr1
 rw [← hw1]
 clear hw1
 have hU1:Upd (fun b=>b=w.heap.size+1∨b=w.heap.size+2) w1 w1:=Upd.refl _ _
 have hb1:=hE1.blk_some hb id
 repeat ((first|refine qA rfl ?_|apply qB|refine qC rfl ?_|apply qD|apply qE|apply qF|apply qG|apply qH);try simp (maxSteps:=1000000)(disch:=(first|omega|(simp only [qI,qJ,qK]<;>omega)|exact qL _)) only [go_sem,↓reduceIte,n0,reduceCtorEq,n1,n2,n3,n4,n5,i0,i1,i2,i3,i4,i5,i6,i7,hb1,hl1,ht1,hq0,hq1,hq2,hq3])
 refine W.drawR (.take 0 (.take 1 (.take 2 (.take 3 (.take 4 (.take 5 (.take 6 (.only 7 (.take 8 (.last 9)))))))))) (NoB) mixed (by kernel_rfl) ?_
 try simp (maxSteps:=1000000)(disch:=(first|omega|(simp only [qI,qJ,qK]<;>omega)|exact qL _)) only [go_sem,↓reduceIte,n0,reduceCtorEq,n1,n2,n3,n4,n5,i0,i1,i2,i3,i4,i5,i6,i7,hb1,hl1,ht1,hq0,hq1,hq2,hq3,tl16]
 refine ⟨Upd.refl _ _,?_⟩
 have lW:blk w1.drew (w.heap.size+1)=_:=hl1
 have hx2:Upd (fun b=>b=w.heap.size+1∨b=w.heap.size+2) w1 w1.drew:=(Upd.refl _ _).drew
 generalize hw2:wr w1.drew (w.heap.size+1) 0 [.int .i64 (IntKind.i16.wrap (t.at 0).n),.slice none 0 0,.bool false,.slice none 0 0,.slice none 0 0] = w2
 have hl2:blk w2 (w.heap.size+1)=some (#[.int .i64 (IntKind.i16.wrap (t.at 0).n),.slice none 0 0,.bool false,.slice none 0 0,.slice none 0 0,.int .i64 0,.slice none 0 0,.bool false,.slice none 0 0,.slice none 0 0,.int .i64 0,.slice none 0 0,.bool false,.slice none 0 0,.slice none 0 0],37,(0,0)):=by rw [← hw2,blk_wr_eq,lW];rfl
 have hv2:Upd (fun b=>b=w.heap.size+1∨b=w.heap.size+2) w1.drew w2:=by rw [← hw2];exact (Upd.refl _ _).wr _ _ (.inr (.inl rfl))
 have hV2:Upd (fun b=>b=w.heap.size+1∨b=w.heap.size+2) w1 w2:=hx2.trans hv2
 have hU2:Upd (fun b=>b=w.heap.size+1∨b=w.heap.size+2) w1 w2:=hU1.trans hV2
 have hz2:=hU2.size
 have hX2:Ext w w2:=hE1.more hU2 fun b hb h=>by omega
 have hb2:=hX2.blk_some hb id
 have ht2:blk w2 (w.heap.size+2)=some (#[.int .i64 0,.slice none 0 0,.bool false,.slice (some ⟨w.heap.size+1,0,none⟩) 3 3,.slice none 0 0],37,(0,0)):=by
  rw [← hw2,blk_wr_ne (by omega)]
  exact ht1
 clear hw2
 have hf0:TreeC (fun b=>w1.heap.size≤b) w2 (.num (IntKind.i16.wrap (t.at 0).n)) [.int .i64 (IntKind.i16.wrap (t.at 0).n),.slice none 0 0,.bool false,.slice none 0 0,.slice none 0 0]:=(TreeC.keep (hv2.keeps fun b hb hk e=>by have hk':w1.heap.size≤b:=hk;omega) (TreeC.intro (tl16 _) (BytesV.nil _ _) (treesN _ _) (tagsN _ _):TreeC (fun b=>w1.heap.size≤b) w1.drew (.num (IntKind.i16.wrap (t.at 0).n)) [.int .i64 (IntKind.i16.wrap (t.at 0).n),.slice none 0 0,.bool false,.slice none 0 0,.slice none 0 0]))
 repeat ((first|refine qA rfl ?_|apply qB|refine qC rfl ?_|apply qD|apply qE|apply qF|apply qG|apply qH);try simp (maxSteps:=1000000)(disch:=(first|omega|(simp only [qI,qJ,qK]<;>omega)|exact qL _)) only [go_sem,↓reduceIte,n0,reduceCtorEq,n1,n2,n3,n4,n5,i0,i1,i2,i3,i4,i5,i6,i7,hb2,hl2,ht2,hq0,hq1,hq2,hq3])
 refine W.drawR (.take 0 (.take 1 (.take 2 (.take 3 (.take 4 (.take 5 (.take 6 (.take 7 (.take 8 (.last 9)))))))))) (NoB) mixed (by kernel_rfl) ?_
 try simp (maxSteps:=1000000)(disch:=(first|omega|(simp only [qI,qJ,qK]<;>omega)|exact qL _)) only [go_sem,↓reduceIte,n0,reduceCtorEq,n1,n2,n3,n4,n5,i0,i1,i2,i3,i4,i5,i6,i7,hb2,hl2,ht2,hq0,hq1,hq2,hq3,u6]
 generalize hw3:wr w2.drew (w.heap.size+1) 7 [.bool (t.at 1).null] = w3
 have hl3:blk w3 (w.heap.size+1)=some (#[.int .i64 (IntKind.i16.wrap (t.at 0).n),.slice none 0 0,.bool false,.slice none 0 0,.slice none 0 0,.int .i64 0,.slice none 0 0,.bool (t.at 1).null,.slice none 0 0,.slice none 0 0,.int .i64 0,.slice none 0 0,.bool false,.slice none 0 0,.slice none 0 0],37,(0,0)):=by rw [← hw3,blk_wr_eq,show blk w2.drew (w.heap.size+1)=_ from hl2];rfl
 have hV3:Upd (fun b=>b=w.heap.size+1∨b=w.heap.size+2) w2 w3:=by rw [← hw3];exact ((Upd.refl _ _).drew).wr _ _ (.inr (.inl rfl))
 have hU3:Upd (fun b=>b=w.heap.size+1∨b=w.heap.size+2) w1 w3:=hU2.trans hV3
 have hz3:=hU3.size
 have hX3:Ext w w3:=hE1.more hU3 fun b hb h=>by omega
 have hb3:=hX3.blk_some hb id
 have ht3:blk w3 (w.heap.size+2)=some (#[.int .i64 0,.slice none 0 0,.bool false,.slice (some ⟨w.heap.size+1,0,none⟩) 3 3,.slice none 0 0],37,(0,0)):=by
  rw [← hw3,blk_wr_ne (by omega)]
  exact ht2
 clear hw3
 repeat ((first|refine qA rfl ?_|apply qB|refine qC rfl ?_|apply qD|apply qE|apply qF|apply qG|apply qH);try simp (maxSteps:=1000000)(disch:=(first|omega|(simp only [qI,qJ,qK]<;>omega)|exact qL _)) only [go_sem,↓reduceIte,n0,reduceCtorEq,n1,n2,n3,n4,n5,i0,i1,i2,i3,i4,i5,i6,i7,hb3,hl3,ht3,hq0,hq1,hq2,hq3])
 refine W.exitJ 0 (EndQ [(0,.pointer (some ⟨b,0,none⟩)),(2,.pointer (some ⟨w.heap.size,0,none⟩)),(3,.pointer (some ⟨w.heap.size+2,0,none⟩)),(30,.int .i64 L1.length)] (fun w'=>∃ v,blk w' (w.heap.size+1)=some (#[.int .i64 (IntKind.i16.wrap (t.at 0).n),.slice none 0 0,.bool false,.slice none 0 0,.slice none 0 0,.int .i64 0,.slice none 0 0,.bool (t.at 1).null,v,.slice none 0 0,.int .i64 0,.slice none 0 0,.bool false,.slice none 0 0,.slice none 0 0],37,(0,0))∧GrowT (fun b=>w1.heap.size≤b) w3.heap.size (w.heap.size+1) w' 37 v (L1.map (tl1 (tlP (d+2)) fQ_1.of fQ_1.sub))∧Upd (fun b=>b=w.heap.size+1) w3 w')) (W.loop (LoopL [(0,.pointer (some ⟨b,0,none⟩)),(2,.pointer (some ⟨w.heap.size,0,none⟩)),(3,.pointer (some ⟨w.heap.size+2,0,none⟩)),(30,.int .i64 L1.length)] 31 (fun j w'=>∃ v,j≤L1.length∧blk w' (w.heap.size+1)=some (#[.int .i64 (IntKind.i16.wrap (t.at 0).n),.slice none 0 0,.bool false,.slice none 0 0,.slice none 0 0,.int .i64 0,.slice none 0 0,.bool (t.at 1).null,v,.slice none 0 0,.int .i64 0,.slice none 0 0,.bool false,.slice none 0 0,.slice none 0 0],37,(0,0))∧GrowT (fun b=>w1.heap.size≤b) w3.heap.size (w.heap.size+1) w' 37 v ((L1.take j).map (tl1 (tlP (d+2)) fQ_1.of fQ_1.sub))∧Upd (fun b=>b=w.heap.size+1) w3 w')) (fun ρ _=>L1.length - (RowKit.intOf (ρ 31)).toNat) ?_ ?_) ?_
 ·exact ⟨(by simp (maxSteps:=1000000)(disch:=(first|omega|(simp only [qI,qJ,qK]<;>omega)|exact qL _)) only [go_sem,↓reduceIte,n0,reduceCtorEq,n1,n2,n3,n4,n5,i0,i1,i2,i3,i4,i5,i6,i7,Holds_nil,Holds_cons]),0,(by simp (maxSteps:=1000000)(disch:=(first|omega|(simp only [qI,qJ,qK]<;>omega)|exact qL _)) only [go_sem,↓reduceIte,n0,reduceCtorEq,n1,n2,n3,n4,n5,i0,i1,i2,i3,i4,i5,i6,i7];all_goals rfl),.slice none 0 0,Nat.zero_le _,hl3,GrowT.nil _ _ _ _ _,Upd.refl _ _⟩
 ·rintro ρ w4 ⟨⟨aD,a8,aE,bJ,-⟩,j,hri,v,hj,hl4,hg,hUk⟩
  have hzk:=hUk.size
  have hX4:Ext w w4:=hX3.more hUk fun b hb h=>by omega
  have hz4:w1.heap.size≤w4.heap.size:=by have:=hz3;omega
  have hb4:=hX4.blk_some hb id
  have ht4:=hUk.blk_some ht3 (by omega)
  by_cases hlt:j < L1.length
  ·obtain ⟨_,be,oe,xe,ce,hbe,hoke,hxe,hble,hxs,hxx,hqe,hRe⟩:=SlR.get (size:=3) (by decide) hs1 hlt
   subst hbe
   have hcat:L1.take (j+1)=L1.take j++[L1[j]]:=List.take_succ_eq_append_getElem hlt
   have hgy:=lJ.2 _ (List.getElem_mem hlt)
   have hll:=lJ.1
   obtain ⟨av,kv,hvs,_⟩:=hg.shape
   have hlj:(List.map (tl1 (tlP (d+2)) fQ_1.of fQ_1.sub) (L1.take j)).length=j:=by simp;omega
   rw [hlj] at hvs
   subst hvs
   have hnb:∀ b,b < w3.heap.size∨w4.heap.size≤b→¬ ownB (.slice av j kv) b:=fun b hb h=>by
    have:=hg.above h
    have:=hg.below h
    omega
   generalize L1[j] = y at *
   repeat ((first|refine qA rfl ?_|apply qB|refine qC rfl ?_|apply qD|apply qE|apply qF|apply qG|apply qH);try simp (maxSteps:=1000000)(disch:=(first|omega|(simp only [qI,qJ,qK]<;>omega)|exact qL _)) only [go_sem,↓reduceIte,n0,reduceCtorEq,n1,n2,n3,n4,n5,i0,i1,i2,i3,i4,i5,i6,i7,hb4,hl4,ht4,hq0,hq1,hq2,hq3,aD,a8,aE,bJ,hri])
   refine W.drawR (.only 0 (.two 1 (.only 2 (.only 3 .done)) 2 (.only 1 (.only 3 .done)))) NoB mixed (by kernel_rfl) ?_
   try simp (maxSteps:=1000000)(disch:=(first|omega|(simp only [qI,qJ,qK]<;>omega)|exact qL _)) only [go_sem,↓reduceIte,n0,reduceCtorEq,n1,n2,n3,n4,n5,i0,i1,i2,i3,i4,i5,i6,i7,hb4,hl4,ht4,hq0,hq1,hq2,hq3,aD,a8,aE,bJ,hri]
   have q0:Upd NoB w4.drew (w4.alloc (.cells #[.bool false] 4)).drew:=show Upd NoB w4.drew (w4.drew.alloc (.cells #[.bool false] 4)) from Upd.alloc (Upd.refl _ _) _
   have q1:Upd NoB w4.drew (wr (w4.alloc (.cells #[.bool false] 4)).drew w4.heap.size 0 [.bool true]):=q0.wr _ _ (.inl (Nat.le_refl _))
   have q2:Upd NoB w4.drew (wr (wr (w4.alloc (.cells #[.bool false] 4)).drew w4.heap.size 0 [.bool true]) w4.heap.size 0 [.bool false]):=q1.wr _ _ (.inl (Nat.le_refl _))
   have q3:Upd NoB w4.drew (wr (w4.alloc (.cells #[.bool false] 4)).drew w4.heap.size 0 [.bool false]):=q0.wr _ _ (.inl (Nat.le_refl _))
   have q4:Upd NoB w4.drew (wr (wr (w4.alloc (.cells #[.bool false] 4)).drew w4.heap.size 0 [.bool false]) w4.heap.size 0 [.bool true]):=q3.wr _ _ (.inl (Nat.le_refl _))
   refine ⟨q0,⟨q1,q2,q2,?_⟩,⟨q3,q4,q4,?_⟩⟩
   ·have hk5:Ext w4 (wr (wr (w4.alloc (.cells #[.bool false] 4)).drew w4.heap.size 0 [.bool true]) w4.heap.size 0 [.bool false]):=((Upd.refl _ _).drew).trans q2
    generalize (wr (wr (w4.alloc (.cells #[.bool false] 4)).drew w4.heap.size 0 [.bool true]) w4.heap.size 0 [.bool false])=w5 at *
    have FL:=hk5.size
    have hX5:Ext w w5:=hX4.trans hk5
    have hb5:=hk5.blk_some hb4 id
    have hl5:=hk5.blk_some hl4 id
    have ht5:=hk5.blk_some ht4 id
    have pM:=hX5.blk_some hxe id
    repeat ((first|refine qA rfl ?_|apply qB|refine qC rfl ?_|apply qD|apply qE|apply qF|apply qG|apply qH);try simp (maxSteps:=1000000)(disch:=(first|omega|(simp only [qI,qJ,qK]<;>omega)|exact qL _)) only [go_sem,↓reduceIte,n0,reduceCtorEq,n1,n2,n3,n4,n5,i0,i1,i2,i3,i4,i5,i6,i7,hb5,hl5,ht5,pM,hq0,hq1,hq2,hq3,aD,a8,aE,bJ,hri])
    refine W.drawR (.take 0 (.take 1 (.take 2 (.take 3 (.take 4 (.take 5 (.take 6 (.take 7 (.take 8 (.take 9 (.take 10 (.take 11 (.take 12 (.only 13 (.only 14 (.only 15 (.take 16 (.take 17 (.last 18))))))))))))))))))) (ownB (.slice av j kv)) mixed (by kernel_rfl) ?_
    try simp (maxSteps:=1000000)(disch:=(first|omega|(simp only [qI,qJ,qK]<;>omega)|exact qL _|(refine hnb _ ?_;first|omega|(simp only [World.size_alloc,size_wr,size_drew]<;>omega)))) only [go_sem,↓reduceIte,n0,reduceCtorEq,n1,n2,n3,n4,n5,i0,i1,i2,i3,i4,i5,i6,i7,hb5,hl5,ht5,pM,hq0,hq1,hq2,hq3,aD,a8,aE,bJ,hri]
    have DQ:=(Upd.refl _ _:Upd (ownB (.slice av j kv)) w5.drew w5.drew).blk_some (show blk w5.drew be=_ from pM) (hnb _ (.inl (by omega)))
    refine (tellX6_fn (d:=d) (ok:=ok) y ce w5.drew (b:=be) (o:=oe+j * 3) DQ (fun k hk=>by have:=hqe k hk;rw [← Nat.add_assoc] at this;exact this) ((RepS_lay true _ _).keep (Rep1_part.1 hRe) ((((hX5.drew).mono fun _ h=>h.elim).trans (Upd.refl _ _):Upd (ownB (.slice av j kv)) w w5.drew).keeps fun b hb _=>hnb b (.inl (by omega)))) (hgy.2.2 rfl)).mono ?_
    rintro _ w6 ⟨⟨c6,rfl,hc6⟩,jC⟩
    obtain ⟨T6,hT6⟩:∃ T,T=tlP (d+2) fs_X6 y:=⟨_,rfl⟩
    replace hc6:TreeC (fun b=>w5.drew.heap.size≤b) w6 T6 c6:=by rw [hT6];exact hc6
    obtain ⟨vS6,vL6,vU6,rfl,hn6,hS6,AK,BA⟩:=hc6.inv
    have k1_6:=hS6.flat
    have k2_6:=SlR.flat AK
    have k3_6:=SlR.flat BA
    have hP6:Upd (ownB (.slice av j kv)) w5.drew w6:=(Upd.refl _ _).trans (jC.mono fun _ h=>h.elim)
    have vC:=jC.size
    try simp only [size_drew] at vC
    refine ⟨hP6,?_⟩
    try simp (maxSteps:=1000000)(disch:=(first|omega|(simp only [qI,qJ,qK]<;>omega)|exact qL _|(refine hnb _ ?_;first|omega|(simp only [World.size_alloc,size_wr,size_drew]<;>omega)))) only [go_sem,↓reduceIte,n0,reduceCtorEq,n1,n2,n3,n4,n5,i0,i1,i2,i3,i4,i5,i6,i7,hb5,hl5,ht5,pM,hq0,hq1,hq2,hq3,aD,a8,aE,bJ,hri,k1_6,k2_6,k3_6]
    have hP7:Upd (ownB (.slice av j kv)) w5.drew (w6.alloc (.cells #[.int .i64 T6.n,vS6,.bool T6.null,vL6,vU6] 37)):=show Upd (ownB (.slice av j kv)) w5.drew (w6.alloc (.cells #[.int .i64 T6.n,vS6,.bool T6.null,vL6,vU6] 37)) from (hP6).alloc _
    have hn7:blk (w6.alloc (.cells #[.int .i64 T6.n,vS6,.bool T6.null,vL6,vU6] 37)) w6.heap.size=some (#[.int .i64 T6.n,vS6,.bool T6.null,vL6,vU6],37,(0,0)):=show blk (w6.alloc (.cells #[.int .i64 T6.n,vS6,.bool T6.null,vL6,vU6] 37)) w6.heap.size=some (#[.int .i64 T6.n,vS6,.bool T6.null,vL6,vU6],37,(0,0)) from blk_alloc_new rfl
    have vD:(w6.alloc (.cells #[.int .i64 T6.n,vS6,.bool T6.null,vL6,vU6] 37)).heap.size=w6.heap.size+1:=show (w6.alloc (.cells #[.int .i64 T6.n,vS6,.bool T6.null,vL6,vU6] 37)).heap.size=w6.heap.size+1 from World.size_alloc _ _
    have jD:Ext w6 (w6.alloc (.cells #[.int .i64 T6.n,vS6,.bool T6.null,vL6,vU6] 37)):=show Ext w6 (w6.alloc (.cells #[.int .i64 T6.n,vS6,.bool T6.null,vL6,vU6] 37)) from Upd.alloc (Upd.refl _ _) _
    refine ⟨hP7,?_⟩
    try simp only [List.append_nil]
    generalize (w6.alloc (.cells #[.int .i64 T6.n,vS6,.bool T6.null,vL6,vU6] 37))=w7 at *
    try simp only [size_drew] at vD
    have qY:Ext w4 w7:=((hk5.drew.trans jC).trans jD)
    have FV:=qY.size
    obtain ⟨css,hown,hall⟩:=(hg.ext qY).ex
    have hcl:=hall.1
    rw [hlj] at hcl
    have hx8:TreeC (fun b=>(fun b=>w1.heap.size≤b) b∧b≠w.heap.size+1∧¬ ownB (.slice av j kv) b) w7 ((tl1 (tlP (d+2)) fQ_1.of fQ_1.sub) y) [.int .i64 T6.n,vS6,.bool T6.null,vL6,vU6]:=by
     rw [show (tl1 (tlP (d+2)) fQ_1.of fQ_1.sub) y=_ from hT6.symm]
     exact TreeC.weaken (fun b _ hk=>⟨by omega,by omega,hnb b (.inr (by omega))⟩) (TreeC.weaken (ok':=fun b=>w4.heap.size≤b) (fun b _ hk=>by have hk':w5.drew.heap.size≤b:=hk;(try simp only [size_drew] at hk');omega) (TreeC.keep (Ext.keeps jD _) hc6))
    refine wp_append ap_34_34 (m:=1) (news:=[.int .i64 T6.n,vS6,.bool T6.null,vL6,vU6]) (n:=css.length) (cs:=css.flatten) (v:=(.slice av j kv)) ?_ rfl hown.1 (all2_flat_tree hall) (Src.blk (fr:=(0,0)) (T:=37) hn7 rfl (by simp only [List.all_cons,List.all_nil,flat_int,flat_bool,k1_6,k2_6,k3_6,Bool.and_self])) ?_ ?_ ?_
    ·first|rfl|simp (maxSteps:=1000000)(disch:=(first|omega|(simp only [qI,qJ,qK]<;>omega)|exact qL _)) only [go_sem,↓reduceIte,n0,reduceCtorEq,n1,n2,n3,n4,n5,i0,i1,i2,i3,i4,i5,i6,i7]
    ·omega
    ·omega
    intro v' w8 ho hu hfr
    have hP8:=(hP7:Upd (ownB (.slice av j kv)) w5.drew w7).trans hu
    have ER:=hP8.size
    simp only [size_drew] at ER
    have tZ:=hP8.blk_some (show blk w5.drew (w.heap.size+1)=_ from hl5) (hnb _ (.inl (by omega)))
    have hg':=GrowT.snoc hown hall hx8 hu hfr ho
    obtain ⟨va,vc,hv',_⟩:=ho.shape
    subst hv'
    have hne:¬ ownB (.slice va (css.length+1) vc) (w.heap.size+1):=fun h=>(hfr _ h).elim (hnb _ (.inl (by omega))) (fun h=>by omega)
    refine ⟨hP8,?_⟩
    try simp (maxSteps:=1000000)(disch:=(first|omega|(simp only [qI,qJ,qK]<;>omega)|exact qL _|(refine hnb _ ?_;first|omega|(simp only [World.size_alloc,size_wr,size_drew]<;>omega)))) only [go_sem,↓reduceIte,n0,reduceCtorEq,n1,n2,n3,n4,n5,i0,i1,i2,i3,i4,i5,i6,i7,tZ,aD,a8,aE,bJ,hri]
    repeat ((first|refine qA rfl ?_|apply qB|refine qC rfl ?_|apply qD|apply qE|apply qF|apply qG|apply qH);try simp (maxSteps:=1000000)(disch:=(first|omega|(simp only [qI,qJ,qK]<;>omega)|exact qL _)) only [go_sem,↓reduceIte,n0,reduceCtorEq,n1,n2,n3,n4,n5,i0,i1,i2,i3,i4,i5,i6,i7,tZ,aD,a8,aE,bJ,hri])
    refine ⟨⟨(by simp (maxSteps:=1000000)(disch:=(first|omega|(simp only [qI,qJ,qK]<;>omega)|exact qL _)) only [go_sem,↓reduceIte,n0,reduceCtorEq,n1,n2,n3,n4,n5,i0,i1,i2,i3,i4,i5,i6,i7,Holds_nil,Holds_cons,aD,a8,aE,bJ,hri]),j+1,(by simp (maxSteps:=1000000)(disch:=(first|omega|(simp only [qI,qJ,qK]<;>omega)|exact qL _)) only [go_sem,↓reduceIte,n0,reduceCtorEq,n1,n2,n3,n4,n5,i0,i1,i2,i3,i4,i5,i6,i7,aD,a8,aE,bJ,hri];all_goals rfl),.slice va (css.length+1) vc,by omega,?_,?_,?_⟩,?_⟩
    ·rw [blk_wr_eq,tZ];rfl
    ·rw [hcat,List.map_append];exact hg'.upd ((Upd.refl _ _).wr _ _ (.inr rfl)) hne
    ·refine Upd.wr ?_ _ _ (.inr rfl)
     exact (hUk.more ((qY.mono fun _ h=>h.elim).trans hu) fun b hb h=>absurd h (hnb b (.inl hb)))
    ·try simp (maxSteps:=1000000)(disch:=(first|omega|(simp only [qI,qJ,qK]<;>omega)|exact qL _)) only [go_sem,↓reduceIte,n0,reduceCtorEq,n1,n2,n3,n4,n5,i0,i1,i2,i3,i4,i5,i6,i7,aD,a8,aE,bJ,hri]
     simp only [RowKit.intOf];omega
   ·have hk9:Ext w4 (wr (wr (w4.alloc (.cells #[.bool false] 4)).drew w4.heap.size 0 [.bool false]) w4.heap.size 0 [.bool true]):=((Upd.refl _ _).drew).trans q4
    generalize (wr (wr (w4.alloc (.cells #[.bool false] 4)).drew w4.heap.size 0 [.bool false]) w4.heap.size 0 [.bool true])=w9 at *
    have FN:=hk9.size
    have hX9:Ext w w9:=hX4.trans hk9
    have hb9:=hk9.blk_some hb4 id
    have hl9:=hk9.blk_some hl4 id
    have ht9:=hk9.blk_some ht4 id
    have jQ:=hX9.blk_some hxe id
    repeat ((first|refine qA rfl ?_|apply qB|refine qC rfl ?_|apply qD|apply qE|apply qF|apply qG|apply qH);try simp (maxSteps:=1000000)(disch:=(first|omega|(simp only [qI,qJ,qK]<;>omega)|exact qL _)) only [go_sem,↓reduceIte,n0,reduceCtorEq,n1,n2,n3,n4,n5,i0,i1,i2,i3,i4,i5,i6,i7,hb9,hl9,ht9,jQ,hq0,hq1,hq2,hq3,aD,a8,aE,bJ,hri])
    refine W.drawR (.take 0 (.take 1 (.take 2 (.take 3 (.take 4 (.take 5 (.take 6 (.take 7 (.take 8 (.take 9 (.take 10 (.take 12 (.two 11 (.only 13 (.only 14 (.take 15 (.take 16 (.last 17))))) 13 (.only 11 (.only 14 (.take 15 (.take 16 (.last 17)))))))))))))))))) (ownB (.slice av j kv)) mixed (by kernel_rfl) ?_
    try simp (maxSteps:=1000000)(disch:=(first|omega|(simp only [qI,qJ,qK]<;>omega)|exact qL _|(refine hnb _ ?_;first|omega|(simp only [World.size_alloc,size_wr,size_drew]<;>omega)))) only [go_sem,↓reduceIte,n0,reduceCtorEq,n1,n2,n3,n4,n5,i0,i1,i2,i3,i4,i5,i6,i7,hb9,hl9,ht9,jQ,hq0,hq1,hq2,hq3,aD,a8,aE,bJ,hri]
    refine ⟨?_,?_⟩
    ·skip
     have DJ:=(Upd.refl _ _:Upd (ownB (.slice av j kv)) w9.drew w9.drew).blk_some (show blk w9.drew be=_ from jQ) (hnb _ (.inl (by omega)))
     refine (tellX6_fn (d:=d) (ok:=ok) y ce w9.drew (b:=be) (o:=oe+j * 3) DJ (fun k hk=>by have:=hqe k hk;rw [← Nat.add_assoc] at this;exact this) ((RepS_lay true _ _).keep (Rep1_part.1 hRe) ((((hX9.drew).mono fun _ h=>h.elim).trans (Upd.refl _ _):Upd (ownB (.slice av j kv)) w w9.drew).keeps fun b hb _=>hnb b (.inl (by omega)))) (hgy.2.2 rfl)).mono ?_
     rintro _ w10 ⟨⟨c10,rfl,jJ⟩,r9⟩
     obtain ⟨T10,xM⟩:∃ T,T=tlP (d+2) fs_X6 y:=⟨_,rfl⟩
     replace jJ:TreeC (fun b=>w9.drew.heap.size≤b) w10 T10 c10:=by rw [xM];exact jJ
     obtain ⟨vS10,vL10,vU10,rfl,F4,AP,AD,B3⟩:=jJ.inv
     have k1_10:=AP.flat
     have k2_10:=SlR.flat AD
     have k3_10:=SlR.flat B3
     have xF:Upd (ownB (.slice av j kv)) w9.drew w10:=(Upd.refl _ _).trans (r9.mono fun _ h=>h.elim)
     have CO:=r9.size
     try simp only [size_drew] at CO
     refine ⟨xF,?_⟩
     try simp (maxSteps:=1000000)(disch:=(first|omega|(simp only [qI,qJ,qK]<;>omega)|exact qL _|(refine hnb _ ?_;first|omega|(simp only [World.size_alloc,size_wr,size_drew]<;>omega)))) only [go_sem,↓reduceIte,n0,reduceCtorEq,n1,n2,n3,n4,n5,i0,i1,i2,i3,i4,i5,i6,i7,hb9,hl9,ht9,jQ,hq0,hq1,hq2,hq3,aD,a8,aE,bJ,hri,k1_10,k2_10,k3_10]
     have jY:Upd (ownB (.slice av j kv)) w9.drew (w10.alloc (.cells qZ5 37)):=show Upd (ownB (.slice av j kv)) w9.drew (w10.alloc (.cells qZ5 37)) from (xF).alloc _
     have yM:blk (w10.alloc (.cells qZ5 37)) w10.heap.size=some (qZ5,37,(0,0)):=show blk (w10.alloc (.cells qZ5 37)) w10.heap.size=some (qZ5,37,(0,0)) from blk_alloc_new rfl
     have vA:(w10.alloc (.cells qZ5 37)).heap.size=w10.heap.size+1:=show (w10.alloc (.cells qZ5 37)).heap.size=w10.heap.size+1 from World.size_alloc _ _
     have jA:Ext w10 (w10.alloc (.cells qZ5 37)):=show Ext w10 (w10.alloc (.cells qZ5 37)) from Upd.alloc (Upd.refl _ _) _
     refine ⟨jY,?_⟩
     try simp only [List.append_nil]
     generalize (w10.alloc (.cells qZ5 37))=w11 at *
     try simp only [size_drew] at vA
     have qR:Ext w4 w11:=((hk9.drew.trans r9).trans jA)
     have FO:=qR.size
     obtain ⟨css,hown,hall⟩:=(hg.ext qR).ex
     have hcl:=hall.1
     rw [hlj] at hcl
     have D6:TreeC (fun b=>(fun b=>w1.heap.size≤b) b∧b≠w.heap.size+1∧¬ ownB (.slice av j kv) b) w11 ((tl1 (tlP (d+2)) fQ_1.of fQ_1.sub) y) [.int .i64 T10.n,vS10,.bool T10.null,vL10,vU10]:=by
      rw [show (tl1 (tlP (d+2)) fQ_1.of fQ_1.sub) y=_ from xM.symm]
      exact TreeC.weaken (fun b _ hk=>⟨by omega,by omega,hnb b (.inr (by omega))⟩) (TreeC.weaken (ok':=fun b=>w4.heap.size≤b) (fun b _ hk=>by have hk':w9.drew.heap.size≤b:=hk;(try simp only [size_drew] at hk');omega) (TreeC.keep (Ext.keeps jA _) jJ))
     refine wp_append ap_34_34 (m:=1) (news:=[.int .i64 0,.slice none 0 0,.bool false,.slice none 0 0,.slice none 0 0]) (n:=css.length) (cs:=css.flatten) (v:=(.slice av j kv)) ?_ rfl hown.1 (all2_flat_tree hall) (Src.blk (fr:=(0,0)) (T:=37) yM rfl rfl) ?_ ?_ ?_
     ·first|rfl|simp (maxSteps:=1000000)(disch:=(first|omega|(simp only [qI,qJ,qK]<;>omega)|exact qL _)) only [go_sem,↓reduceIte,n0,reduceCtorEq,n1,n2,n3,n4,n5,i0,i1,i2,i3,i4,i5,i6,i7]
     ·omega
     ·omega
     intro v' w12 ho hu hfr
     have jE:=(jY:Upd (ownB (.slice av j kv)) w9.drew w11).trans hu
     have EK:=jE.size
     simp only [size_drew] at EK
     have tR:=jE.blk_some (show blk w9.drew (w.heap.size+1)=_ from hl9) (hnb _ (.inl (by omega)))
     rcases ho.2 with ⟨_,h⟩|⟨g,cap,rest,fr,hv',hg',hbg,hlen,hth,hle⟩
     ·exact absurd h (Nat.succ_ne_zero _)
     subst hv'
     have hgne:¬ g=w.heap.size+1:=fun h=>(hfr g ⟨_,_,_,rfl,rfl⟩).elim (fun h'=>hnb _ (.inl (by omega)) (h ▸ h')) (fun h'=>by omega)
     have hfl:css.flatten.length=css.length * 5:=flatten_len hown.2
     have dX:(css.flatten++([.int .i64 0,.slice none 0 0,.bool false,.slice none 0 0,.slice none 0 0]:List Value)++rest).length=cap * 5:=by simp only [List.length_append] at hlen ⊢;omega
     obtain ⟨XX,hXX⟩:∃ X:Array Value,X=(css.flatten++([.int .i64 0,.slice none 0 0,.bool false,.slice none 0 0,.slice none 0 0]:List Value)++rest).toArray:=⟨_,rfl⟩
     have hbgX:blk w12 g=some (XX,37,fr):=by rw [hXX];exact hbg
     have hXsz:XX.size=cap * 5:=by rw [hXX,List.size_toArray];exact dX
     have bQ:thaw fr (css.length * 5) 5=true:=thaw_of hth (by omega)
     have hst:css.length * 5+5≤XX.size:=by omega
     have hset:=Own.setlast (cs:=[.int .i64 T10.n,vS10,.bool T10.null,vL10,vU10]) ho rfl rfl
     have hu2:Upd (ownB (.slice av j kv)) w11 (wr w12 g (css.length * 5) [.int .i64 T10.n,vS10,.bool T10.null,vL10,vU10]):=hu.wr _ _ ((hfr g ⟨_,_,_,rfl,rfl⟩).symm)
     have hg2:=GrowT.snoc hown hall D6 hu2 hfr hset
     have hcj:css.length=j:=by first|exact hcl.symm.trans hlj|omega
     simp only [hcj] at bQ hst hset hu2 hg2
     refine ⟨jE,?_⟩
     try simp (maxSteps:=1000000)(disch:=(first|omega|(simp only [qI,qJ,qK]<;>omega)|exact qL _|(refine hnb _ ?_;first|omega|(simp only [World.size_alloc,size_wr,size_drew]<;>omega)))) only [go_sem,↓reduceIte,n0,reduceCtorEq,n1,n2,n3,n4,n5,i0,i1,i2,i3,i4,i5,i6,i7,tR,hbgX,bQ,hst,hcj,k1_10,k2_10,k3_10,aD,a8,aE,bJ,hri]
     repeat ((first|refine qA rfl ?_|apply qB|refine qC rfl ?_|apply qD|apply qE|apply qF|apply qG|apply qH);try simp (maxSteps:=1000000)(disch:=(first|omega|(simp only [qI,qJ,qK]<;>omega)|exact qL _)) only [go_sem,↓reduceIte,n0,reduceCtorEq,n1,n2,n3,n4,n5,i0,i1,i2,i3,i4,i5,i6,i7,tR,hbgX,bQ,hst,hcj,k1_10,k2_10,k3_10,aD,a8,aE,bJ,hri])
     refine ⟨⟨(by simp (maxSteps:=1000000)(disch:=(first|omega|(simp only [qI,qJ,qK]<;>omega)|exact qL _)) only [go_sem,↓reduceIte,n0,reduceCtorEq,n1,n2,n3,n4,n5,i0,i1,i2,i3,i4,i5,i6,i7,Holds_nil,Holds_cons,aD,a8,aE,bJ,hri]),j+1,(by simp (maxSteps:=1000000)(disch:=(first|omega|(simp only [qI,qJ,qK]<;>omega)|exact qL _)) only [go_sem,↓reduceIte,n0,reduceCtorEq,n1,n2,n3,n4,n5,i0,i1,i2,i3,i4,i5,i6,i7,aD,a8,aE,bJ,hri];all_goals rfl),.slice (some ⟨g,0,none⟩) (j+1) cap,by omega,?_,?_,?_⟩,?_⟩
     ·rw [blk_wr_ne (by omega),blk_wr_eq,tR];rfl
     ·rw [hcat,List.map_append,wr_comm (Ne.symm hgne)]
      exact hg2.upd ((Upd.refl _ _).wr _ _ (.inr rfl)) (fun h=>hgne (ownB_row h).symm)
     ·rw [wr_comm (Ne.symm hgne)]
      refine Upd.wr ?_ _ _ (.inr rfl)
      exact (hUk.more ((qR.mono fun _ h=>h.elim).trans hu2) fun b hb h=>absurd h (hnb b (.inl hb)))
     ·try simp (maxSteps:=1000000)(disch:=(first|omega|(simp only [qI,qJ,qK]<;>omega)|exact qL _)) only [go_sem,↓reduceIte,n0,reduceCtorEq,n1,n2,n3,n4,n5,i0,i1,i2,i3,i4,i5,i6,i7,aD,a8,aE,bJ,hri]
      simp only [RowKit.intOf];omega
    ·skip
     have fY:Upd (ownB (.slice av j kv)) w9.drew (w9.alloc (.cells qZ5 37)).drew:=show Upd (ownB (.slice av j kv)) w9.drew (w9.drew.alloc (.cells qZ5 37)) from (Upd.refl _ _).alloc _
     have CB:blk (w9.alloc (.cells qZ5 37)).drew w9.drew.heap.size=some (qZ5,37,(0,0)):=show blk (w9.drew.alloc (.cells qZ5 37)) w9.drew.heap.size=some (qZ5,37,(0,0)) from blk_alloc_new rfl
     have CQ:(w9.alloc (.cells qZ5 37)).drew.heap.size=w9.drew.heap.size+1:=show (w9.drew.alloc (.cells qZ5 37)).heap.size=w9.drew.heap.size+1 from World.size_alloc _ _
     have zK:Ext w9.drew (w9.alloc (.cells qZ5 37)).drew:=show Ext w9.drew (w9.drew.alloc (.cells qZ5 37)) from Upd.alloc (Upd.refl _ _) _
     refine ⟨fY,?_⟩
     try simp only [List.append_nil]
     generalize (w9.alloc (.cells qZ5 37)).drew=w13 at *
     try simp only [size_drew] at CQ
     have DL:=(fY:Upd (ownB (.slice av j kv)) w9.drew w13).blk_some (show blk w9.drew be=_ from jQ) (hnb _ (.inl (by omega)))
     refine (tellX6_fn (d:=d) (ok:=ok) y ce w13 (b:=be) (o:=oe+j * 3) DL (fun k hk=>by have:=hqe k hk;rw [← Nat.add_assoc] at this;exact this) ((RepS_lay true _ _).keep (Rep1_part.1 hRe) ((((hX9.drew).mono fun _ h=>h.elim).trans (fY):Upd (ownB (.slice av j kv)) w w13).keeps fun b hb _=>hnb b (.inl (by omega)))) (hgy.2.2 rfl)).mono ?_
     rintro _ w14 ⟨⟨c14,rfl,oV⟩,jB⟩
     obtain ⟨T14,xO⟩:∃ T,T=tlP (d+2) fs_X6 y:=⟨_,rfl⟩
     replace oV:TreeC (fun b=>w13.heap.size≤b) w14 T14 c14:=by rw [xO];exact oV
     obtain ⟨vS14,vL14,vU14,rfl,yN,AR,AF,B5⟩:=oV.inv
     have k1_14:=AR.flat
     have k2_14:=SlR.flat AF
     have k3_14:=SlR.flat B5
     have gC:Upd (ownB (.slice av j kv)) w9.drew w14:=(fY).trans (jB.mono fun _ h=>h.elim)
     have vB:=jB.size
     try simp only [size_drew] at vB
     refine ⟨gC,?_⟩
     try simp (maxSteps:=1000000)(disch:=(first|omega|(simp only [qI,qJ,qK]<;>omega)|exact qL _|(refine hnb _ ?_;first|omega|(simp only [World.size_alloc,size_wr,size_drew]<;>omega)))) only [go_sem,↓reduceIte,n0,reduceCtorEq,n1,n2,n3,n4,n5,i0,i1,i2,i3,i4,i5,i6,i7,hb9,hl9,ht9,jQ,hq0,hq1,hq2,hq3,aD,a8,aE,bJ,hri,k1_14,k2_14,k3_14]
     have qT:Ext w4 w14:=((hk9.drew.trans zK).trans jB)
     have FQ:=qT.size
     obtain ⟨css,hown,hall⟩:=(hg.ext qT).ex
     have hcl:=hall.1
     rw [hlj] at hcl
     have D8:TreeC (fun b=>(fun b=>w1.heap.size≤b) b∧b≠w.heap.size+1∧¬ ownB (.slice av j kv) b) w14 ((tl1 (tlP (d+2)) fQ_1.of fQ_1.sub) y) [.int .i64 T14.n,vS14,.bool T14.null,vL14,vU14]:=by
      rw [show (tl1 (tlP (d+2)) fQ_1.of fQ_1.sub) y=_ from xO.symm]
      exact TreeC.weaken (fun b _ hk=>⟨by omega,by omega,hnb b (.inr (by omega))⟩) (TreeC.weaken (ok':=fun b=>w4.heap.size≤b) (fun b _ hk=>by have hk':w13.heap.size≤b:=hk;(try simp only [size_drew] at hk');omega) oV)
     refine wp_append ap_34_34 (m:=1) (news:=[.int .i64 0,.slice none 0 0,.bool false,.slice none 0 0,.slice none 0 0]) (n:=css.length) (cs:=css.flatten) (v:=(.slice av j kv)) ?_ rfl hown.1 (all2_flat_tree hall) (Src.blk (fr:=(0,0)) (T:=37) (jB.blk_some CB id) rfl rfl) ?_ ?_ ?_
     ·first|rfl|simp (maxSteps:=1000000)(disch:=(first|omega|(simp only [qI,qJ,qK]<;>omega)|exact qL _)) only [go_sem,↓reduceIte,n0,reduceCtorEq,n1,n2,n3,n4,n5,i0,i1,i2,i3,i4,i5,i6,i7]
     ·omega
     ·omega
     intro v' w15 ho hu hfr
     have jF:=(gC:Upd (ownB (.slice av j kv)) w9.drew w14).trans hu
     have EM:=jF.size
     simp only [size_drew] at EM
     have tT:=jF.blk_some (show blk w9.drew (w.heap.size+1)=_ from hl9) (hnb _ (.inl (by omega)))
     rcases ho.2 with ⟨_,h⟩|⟨g,cap,rest,fr,hv',hg',hbg,hlen,hth,hle⟩
     ·exact absurd h (Nat.succ_ne_zero _)
     subst hv'
     have hgne:¬ g=w.heap.size+1:=fun h=>(hfr g ⟨_,_,_,rfl,rfl⟩).elim (fun h'=>hnb _ (.inl (by omega)) (h ▸ h')) (fun h'=>by omega)
     have hfl:css.flatten.length=css.length * 5:=flatten_len hown.2
     have dX:(css.flatten++([.int .i64 0,.slice none 0 0,.bool false,.slice none 0 0,.slice none 0 0]:List Value)++rest).length=cap * 5:=by simp only [List.length_append] at hlen ⊢;omega
     obtain ⟨XX,hXX⟩:∃ X:Array Value,X=(css.flatten++([.int .i64 0,.slice none 0 0,.bool false,.slice none 0 0,.slice none 0 0]:List Value)++rest).toArray:=⟨_,rfl⟩
     have hbgX:blk w15 g=some (XX,37,fr):=by rw [hXX];exact hbg
     have hXsz:XX.size=cap * 5:=by rw [hXX,List.size_toArray];exact dX
     have bQ:thaw fr (css.length * 5) 5=true:=thaw_of hth (by omega)
     have hst:css.length * 5+5≤XX.size:=by omega
     have hset:=Own.setlast (cs:=[.int .i64 T14.n,vS14,.bool T14.null,vL14,vU14]) ho rfl rfl
     have hu2:Upd (ownB (.slice av j kv)) w14 (wr w15 g (css.length * 5) [.int .i64 T14.n,vS14,.bool T14.null,vL14,vU14]):=hu.wr _ _ ((hfr g ⟨_,_,_,rfl,rfl⟩).symm)
     have hg2:=GrowT.snoc hown hall D8 hu2 hfr hset
     have hcj:css.length=j:=by first|exact hcl.symm.trans hlj|omega
     simp only [hcj] at bQ hst hset hu2 hg2
     refine ⟨jF,?_⟩
     try simp (maxSteps:=1000000)(disch:=(first|omega|(simp only [qI,qJ,qK]<;>omega)|exact qL _|(refine hnb _ ?_;first|omega|(simp only [World.size_alloc,size_wr,size_drew]<;>omega)))) only [go_sem,↓reduceIte,n0,reduceCtorEq,n1,n2,n3,n4,n5,i0,i1,i2,i3,i4,i5,i6,i7,tT,hbgX,bQ,hst,hcj,k1_14,k2_14,k3_14,aD,a8,aE,bJ,hri]
     repeat ((first|refine qA rfl ?_|apply qB|refine qC rfl ?_|apply qD|apply qE|apply qF|apply qG|apply qH);try simp (maxSteps:=1000000)(disch:=(first|omega|(simp only [qI,qJ,qK]<;>omega)|exact qL _)) only [go_sem,↓reduceIte,n0,reduceCtorEq,n1,n2,n3,n4,n5,i0,i1,i2,i3,i4,i5,i6,i7,tT,hbgX,bQ,hst,hcj,k1_14,k2_14,k3_14,aD,a8,aE,bJ,hri])
     refine ⟨⟨(by simp (maxSteps:=1000000)(disch:=(first|omega|(simp only [qI,qJ,qK]<;>omega)|exact qL _)) only [go_sem,↓reduceIte,n0,reduceCtorEq,n1,n2,n3,n4,n5,i0,i1,i2,i3,i4,i5,i6,i7,Holds_nil,Holds_cons,aD,a8,aE,bJ,hri]),j+1,(by simp (maxSteps:=1000000)(disch:=(first|omega|(simp only [qI,qJ,qK]<;>omega)|exact qL _)) only [go_sem,↓reduceIte,n0,reduceCtorEq,n1,n2,n3,n4,n5,i0,i1,i2,i3,i4,i5,i6,i7,aD,a8,aE,bJ,hri];all_goals rfl),.slice (some ⟨g,0,none⟩) (j+1) cap,by omega,?_,?_,?_⟩,?_⟩
     ·rw [blk_wr_ne (by omega),blk_wr_eq,tT];rfl
     ·rw [hcat,List.map_append,wr_comm (Ne.symm hgne)]
      exact hg2.upd ((Upd.refl _ _).wr _ _ (.inr rfl)) (fun h=>hgne (ownB_row h).symm)
     ·rw [wr_comm (Ne.symm hgne)]
      refine Upd.wr ?_ _ _ (.inr rfl)
      exact (hUk.more ((qT.mono fun _ h=>h.elim).trans hu2) fun b hb h=>absurd h (hnb b (.inl hb)))
     ·try simp (maxSteps:=1000000)(disch:=(first|omega|(simp only [qI,qJ,qK]<;>omega)|exact qL _)) only [go_sem,↓reduceIte,n0,reduceCtorEq,n1,n2,n3,n4,n5,i0,i1,i2,i3,i4,i5,i6,i7,aD,a8,aE,bJ,hri]
      simp only [RowKit.intOf];omega
  ·have hjn:j=L1.length:=by omega
   subst hjn
   rw [List.take_length] at hg
   repeat ((first|refine qA rfl ?_|apply qB|refine qC rfl ?_|apply qD|apply qE|apply qF|apply qG|apply qH);try simp (maxSteps:=1000000)(disch:=(first|omega|(simp only [qI,qJ,qK]<;>omega)|exact qL _)) only [go_sem,↓reduceIte,n0,reduceCtorEq,n1,n2,n3,n4,n5,i0,i1,i2,i3,i4,i5,i6,i7,aD,a8,aE,bJ,hri])
   exact ⟨(by simp (maxSteps:=1000000)(disch:=(first|omega|(simp only [qI,qJ,qK]<;>omega)|exact qL _)) only [go_sem,↓reduceIte,n0,reduceCtorEq,n1,n2,n3,n4,n5,i0,i1,i2,i3,i4,i5,i6,i7,Holds_nil,Holds_cons,aD,a8,aE,bJ,hri]),v,hl4,hg,hUk⟩
 rintro ρ w16 ⟨⟨f9,bF,fA,FA,-⟩,v,hl16,yE,xX⟩
 have dK:Upd (fun b=>b=w.heap.size+1∨b=w.heap.size+2) w3 w16:=xX.mono fun _ h=>.inl h
 have eG:Upd (fun b=>b=w.heap.size+1∨b=w.heap.size+2) w1 w16:=hU3.trans dK
 have z7:=eG.size
 have gJ:Ext w w16:=hE1.more eG fun b hb h=>by omega
 have hb16:=gJ.blk_some hb id
 have vP:=xX.blk_some ht3 (by omega)
 obtain ⟨av1,kv1,hvs,_⟩:=yE.shape
 subst hvs
 have hf1:TreeC (fun b=>w1.heap.size≤b) w16 (.mk 0 [] (t.at 1).null (L1.map (tl1 (tlP (d+2)) fQ_1.of fQ_1.sub)) []) [.int .i64 0,.slice none 0 0,.bool (t.at 1).null,.slice av1 (List.map (tl1 (tlP (d+2)) fQ_1.of fQ_1.sub) L1).length kv1,.slice none 0 0]:=TreeC.intro rfl (BytesV.nil _ _) (yE.trees (fun _ _ h=>h) (fun b hb=>by have:=hz3;omega)) (tagsN _ _)
 repeat ((first|refine qA rfl ?_|apply qB|refine qC rfl ?_|apply qD|apply qE|apply qF|apply qG|apply qH);try simp (maxSteps:=1000000)(disch:=(first|omega|(simp only [qI,qJ,qK]<;>omega)|exact qL _)) only [go_sem,↓reduceIte,n0,reduceCtorEq,n1,n2,n3,n4,n5,i0,i1,i2,i3,i4,i5,i6,i7,hb16,hl16,vP,hq0,hq1,hq2,hq3,f9,bF,fA])
 refine W.drawR (.take 0 (.take 1 (.take 2 (.take 3 (.take 4 (.take 5 (.take 6 (.take 7 (.take 8 (.last 9)))))))))) (NoB) mixed (by kernel_rfl) ?_
 try simp (maxSteps:=1000000)(disch:=(first|omega|(simp only [qI,qJ,qK]<;>omega)|exact qL _)) only [go_sem,↓reduceIte,n0,reduceCtorEq,n1,n2,n3,n4,n5,i0,i1,i2,i3,i4,i5,i6,i7,hb16,hl16,vP,hq0,hq1,hq2,hq3,f9,bF,fA,CG]
 generalize dF:wr w16.drew (w.heap.size+1) 12 [.bool (t.at 2).null] = w17
 have lS:blk w17 (w.heap.size+1)=some (#[.int .i64 (IntKind.i16.wrap (t.at 0).n),.slice none 0 0,.bool false,.slice none 0 0,.slice none 0 0,.int .i64 0,.slice none 0 0,.bool (t.at 1).null,.slice av1 (List.map (tl1 (tlP (d+2)) fQ_1.of fQ_1.sub) L1).length kv1,.slice none 0 0,.int .i64 0,.slice none 0 0,.bool (t.at 2).null,.slice none 0 0,.slice none 0 0],37,(0,0)):=by rw [← dF,blk_wr_eq,show blk w16.drew (w.heap.size+1)=_ from hl16];rfl
 have cR:Upd (fun b=>b=w.heap.size+1∨b=w.heap.size+2) w16 w17:=by rw [← dF];exact ((Upd.refl _ _).drew).wr _ _ (.inr (.inl rfl))
 have dG:Upd (fun b=>b=w.heap.size+1∨b=w.heap.size+2) w1 w17:=eG.trans cR
 have iX:=dG.size
 have dU:Ext w w17:=hE1.more dG fun b hb h=>by omega
 have hb17:=dU.blk_some hb id
 have gA:blk w17 (w.heap.size+2)=some (#[.int .i64 0,.slice none 0 0,.bool false,.slice (some ⟨w.heap.size+1,0,none⟩) 3 3,.slice none 0 0],37,(0,0)):=by
  rw [← dF,blk_wr_ne (by omega)]
  exact vP
 clear dF
 repeat ((first|refine qA rfl ?_|apply qB|refine qC rfl ?_|apply qD|apply qE|apply qF|apply qG|apply qH);try simp (maxSteps:=1000000)(disch:=(first|omega|(simp only [qI,qJ,qK]<;>omega)|exact qL _)) only [go_sem,↓reduceIte,n0,reduceCtorEq,n1,n2,n3,n4,n5,i0,i1,i2,i3,i4,i5,i6,i7,hb17,lS,gA,hq0,hq1,hq2,hq3,f9,bF,fA])
 refine W.exitJ 2 (EndQ [(0,.pointer (some ⟨b,0,none⟩)),(2,.pointer (some ⟨w.heap.size,0,none⟩)),(3,.pointer (some ⟨w.heap.size+2,0,none⟩)),(86,.int .i64 L2.length)] (fun w'=>∃ v,blk w' (w.heap.size+1)=some (#[.int .i64 (IntKind.i16.wrap (t.at 0).n),.slice none 0 0,.bool false,.slice none 0 0,.slice none 0 0,.int .i64 0,.slice none 0 0,.bool (t.at 1).null,.slice av1 (List.map (tl1 (tlP (d+2)) fQ_1.of fQ_1.sub) L1).length kv1,.slice none 0 0,.int .i64 0,.slice none 0 0,.bool (t.at 2).null,v,.slice none 0 0],37,(0,0))∧GrowT (fun b=>w1.heap.size≤b) w17.heap.size (w.heap.size+1) w' 37 v (L2.map (tl1 (tlP (d+2)) fQ_2.of fQ_2.sub))∧Upd (fun b=>b=w.heap.size+1) w17 w')) (W.loop (LoopL [(0,.pointer (some ⟨b,0,none⟩)),(2,.pointer (some ⟨w.heap.size,0,none⟩)),(3,.pointer (some ⟨w.heap.size+2,0,none⟩)),(86,.int .i64 L2.length)] 87 (fun j w'=>∃ v,j≤L2.length∧blk w' (w.heap.size+1)=some (#[.int .i64 (IntKind.i16.wrap (t.at 0).n),.slice none 0 0,.bool false,.slice none 0 0,.slice none 0 0,.int .i64 0,.slice none 0 0,.bool (t.at 1).null,.slice av1 (List.map (tl1 (tlP (d+2)) fQ_1.of fQ_1.sub) L1).length kv1,.slice none 0 0,.int .i64 0,.slice none 0 0,.bool (t.at 2).null,v,.slice none 0 0],37,(0,0))∧GrowT (fun b=>w1.heap.size≤b) w17.heap.size (w.heap.size+1) w' 37 v ((L2.take j).map (tl1 (tlP (d+2)) fQ_2.of fQ_2.sub))∧Upd (fun b=>b=w.heap.size+1) w17 w')) (fun ρ _=>L2.length - (RowKit.intOf (ρ 87)).toNat) ?_ ?_) ?_
 ·exact ⟨(by simp (maxSteps:=1000000)(disch:=(first|omega|(simp only [qI,qJ,qK]<;>omega)|exact qL _)) only [go_sem,↓reduceIte,n0,reduceCtorEq,n1,n2,n3,n4,n5,i0,i1,i2,i3,i4,i5,i6,i7,Holds_nil,Holds_cons,f9,bF,fA]),0,(by simp (maxSteps:=1000000)(disch:=(first|omega|(simp only [qI,qJ,qK]<;>omega)|exact qL _)) only [go_sem,↓reduceIte,n0,reduceCtorEq,n1,n2,n3,n4,n5,i0,i1,i2,i3,i4,i5,i6,i7,f9,bF,fA];all_goals rfl),.slice none 0 0,Nat.zero_le _,lS,GrowT.nil _ _ _ _ _,Upd.refl _ _⟩
 ·rintro ρ w18 ⟨⟨bK,aC,bM,bN,-⟩,j,hri,v,hj,g8,hg,hUk⟩
  have hzk:=hUk.size
  have dV:Ext w w18:=dU.more hUk fun b hb h=>by omega
  have wS:w1.heap.size≤w18.heap.size:=by have:=iX;omega
  have jI:=dV.blk_some hb id
  have iU:=hUk.blk_some gA (by omega)
  by_cases hlt:j < L2.length
  ·obtain ⟨_,be,oe,xe,ce,hbe,hoke,hxe,hble,hxs,hxx,hqe,hRe⟩:=SlR.get (size:=4) (by decide) hs2 hlt
   subst hbe
   have hcat:L2.take (j+1)=L2.take j++[L2[j]]:=List.take_succ_eq_append_getElem hlt
   have hgy:=yH.2 _ (List.getElem_mem hlt)
   have hll:=yH.1
   obtain ⟨av,kv,hvs,_⟩:=hg.shape
   have hlj:(List.map (tl1 (tlP (d+2)) fQ_2.of fQ_2.sub) (L2.take j)).length=j:=by simp;omega
   rw [hlj] at hvs
   subst hvs
   have hnb:∀ b,b < w17.heap.size∨w18.heap.size≤b→¬ ownB (.slice av j kv) b:=fun b hb h=>by
    have:=hg.above h
    have:=hg.below h
    omega
   generalize L2[j] = y at *
   repeat ((first|refine qA rfl ?_|apply qB|refine qC rfl ?_|apply qD|apply qE|apply qF|apply qG|apply qH);try simp (maxSteps:=1000000)(disch:=(first|omega|(simp only [qI,qJ,qK]<;>omega)|exact qL _)) only [go_sem,↓reduceIte,n0,reduceCtorEq,n1,n2,n3,n4,n5,i0,i1,i2,i3,i4,i5,i6,i7,jI,g8,iU,hq0,hq1,hq2,hq3,bK,aC,bM,bN,hri])
   refine W.drawR (.only 0 (.two 1 (.only 2 (.only 3 .done)) 2 (.only 1 (.only 3 .done)))) NoB mixed (by kernel_rfl) ?_
   try simp (maxSteps:=1000000)(disch:=(first|omega|(simp only [qI,qJ,qK]<;>omega)|exact qL _)) only [go_sem,↓reduceIte,n0,reduceCtorEq,n1,n2,n3,n4,n5,i0,i1,i2,i3,i4,i5,i6,i7,jI,g8,iU,hq0,hq1,hq2,hq3,bK,aC,bM,bN,hri]
   have q0:Upd NoB w18.drew (w18.alloc (.cells #[.bool false] 4)).drew:=show Upd NoB w18.drew (w18.drew.alloc (.cells #[.bool false] 4)) from Upd.alloc (Upd.refl _ _) _
   have q1:Upd NoB w18.drew (wr (w18.alloc (.cells #[.bool false] 4)).drew w18.heap.size 0 [.bool true]):=q0.wr _ _ (.inl (Nat.le_refl _))
   have q2:Upd NoB w18.drew (wr (wr (w18.alloc (.cells #[.bool false] 4)).drew w18.heap.size 0 [.bool true]) w18.heap.size 0 [.bool false]):=q1.wr _ _ (.inl (Nat.le_refl _))
   have q3:Upd NoB w18.drew (wr (w18.alloc (.cells #[.bool false] 4)).drew w18.heap.size 0 [.bool false]):=q0.wr _ _ (.inl (Nat.le_refl _))
   have q4:Upd NoB w18.drew (wr (wr (w18.alloc (.cells #[.bool false] 4)).drew w18.heap.size 0 [.bool false]) w18.heap.size 0 [.bool true]):=q3.wr _ _ (.inl (Nat.le_refl _))
   refine ⟨q0,⟨q1,q2,q2,?_⟩,⟨q3,q4,q4,?_⟩⟩
   ·have jK:Ext w18 (wr (wr (w18.alloc (.cells #[.bool false] 4)).drew w18.heap.size 0 [.bool true]) w18.heap.size 0 [.bool false]):=((Upd.refl _ _).drew).trans q2
    generalize (wr (wr (w18.alloc (.cells #[.bool false] 4)).drew w18.heap.size 0 [.bool true]) w18.heap.size 0 [.bool false])=w19 at *
    have FJ:=jK.size
    have dW:Ext w w19:=dV.trans jK
    have lF:=jK.blk_some jI id
    have gN:=jK.blk_some g8 id
    have mQ:=jK.blk_some iU id
    have pL:=dW.blk_some hxe id
    repeat ((first|refine qA rfl ?_|apply qB|refine qC rfl ?_|apply qD|apply qE|apply qF|apply qG|apply qH);try simp (maxSteps:=1000000)(disch:=(first|omega|(simp only [qI,qJ,qK]<;>omega)|exact qL _)) only [go_sem,↓reduceIte,n0,reduceCtorEq,n1,n2,n3,n4,n5,i0,i1,i2,i3,i4,i5,i6,i7,lF,gN,mQ,pL,hq0,hq1,hq2,hq3,bK,aC,bM,bN,hri])
    refine W.drawR (.take 0 (.take 1 (.take 2 (.take 3 (.take 4 (.take 5 (.take 6 (.take 7 (.take 8 (.take 9 (.take 10 (.take 11 (.take 12 (.only 13 (.only 14 (.only 15 (.take 16 (.take 17 (.last 18))))))))))))))))))) (ownB (.slice av j kv)) mixed (by kernel_rfl) ?_
    try simp (maxSteps:=1000000)(disch:=(first|omega|(simp only [qI,qJ,qK]<;>omega)|exact qL _|(refine hnb _ ?_;first|omega|(simp only [World.size_alloc,size_wr,size_drew]<;>omega)))) only [go_sem,↓reduceIte,n0,reduceCtorEq,n1,n2,n3,n4,n5,i0,i1,i2,i3,i4,i5,i6,i7,lF,gN,mQ,pL,hq0,hq1,hq2,hq3,bK,aC,bM,bN,hri]
    have DN:=(Upd.refl _ _:Upd (ownB (.slice av j kv)) w19.drew w19.drew).blk_some (show blk w19.drew be=_ from pL) (hnb _ (.inl (by omega)))
    refine (tellX4_fn (d:=d+1) (ok:=ok) y ce w19.drew (b:=be) (o:=oe+j * 4) DN (fun k hk=>by have:=hqe k hk;rw [← Nat.add_assoc] at this;exact this) ((RepS_lay true _ _).keep (Rep1_part.1 hRe) ((((dW.drew).mono fun _ h=>h.elim).trans (Upd.refl _ _):Upd (ownB (.slice av j kv)) w w19.drew).keeps fun b hb _=>hnb b (.inl (by omega)))) (hgy.2.2 rfl)).mono ?_
    rintro _ w20 ⟨⟨c20,rfl,oX⟩,rA⟩
    obtain ⟨T20,xQ⟩:∃ T,T=tlP (d+2) fs_X4 y:=⟨_,rfl⟩
    replace oX:TreeC (fun b=>w19.drew.heap.size≤b) w20 T20 c20:=by rw [xQ];exact oX
    obtain ⟨vS20,vL20,vU20,rfl,F6,AS,AH,B7⟩:=oX.inv
    have k1_20:=AS.flat
    have k2_20:=SlR.flat AH
    have k3_20:=SlR.flat B7
    have xG:Upd (ownB (.slice av j kv)) w19.drew w20:=(Upd.refl _ _).trans (rA.mono fun _ h=>h.elim)
    have CT:=rA.size
    try simp only [size_drew] at CT
    refine ⟨xG,?_⟩
    try simp (maxSteps:=1000000)(disch:=(first|omega|(simp only [qI,qJ,qK]<;>omega)|exact qL _|(refine hnb _ ?_;first|omega|(simp only [World.size_alloc,size_wr,size_drew]<;>omega)))) only [go_sem,↓reduceIte,n0,reduceCtorEq,n1,n2,n3,n4,n5,i0,i1,i2,i3,i4,i5,i6,i7,lF,gN,mQ,pL,hq0,hq1,hq2,hq3,bK,aC,bM,bN,hri,k1_20,k2_20,k3_20]
    have xH:Upd (ownB (.slice av j kv)) w19.drew (w20.alloc (.cells #[.int .i64 T20.n,vS20,.bool T20.null,vL20,vU20] 37)):=show Upd (ownB (.slice av j kv)) w19.drew (w20.alloc (.cells #[.int .i64 T20.n,vS20,.bool T20.null,vL20,vU20] 37)) from (xG).alloc _
    have CC:blk (w20.alloc (.cells #[.int .i64 T20.n,vS20,.bool T20.null,vL20,vU20] 37)) w20.heap.size=some (#[.int .i64 T20.n,vS20,.bool T20.null,vL20,vU20],37,(0,0)):=show blk (w20.alloc (.cells #[.int .i64 T20.n,vS20,.bool T20.null,vL20,vU20] 37)) w20.heap.size=some (#[.int .i64 T20.n,vS20,.bool T20.null,vL20,vU20],37,(0,0)) from blk_alloc_new rfl
    have CU:(w20.alloc (.cells #[.int .i64 T20.n,vS20,.bool T20.null,vL20,vU20] 37)).heap.size=w20.heap.size+1:=show (w20.alloc (.cells #[.int .i64 T20.n,vS20,.bool T20.null,vL20,vU20] 37)).heap.size=w20.heap.size+1 from World.size_alloc _ _
    have wZ:Ext w20 (w20.alloc (.cells #[.int .i64 T20.n,vS20,.bool T20.null,vL20,vU20] 37)):=show Ext w20 (w20.alloc (.cells #[.int .i64 T20.n,vS20,.bool T20.null,vL20,vU20] 37)) from Upd.alloc (Upd.refl _ _) _
    refine ⟨xH,?_⟩
    try simp only [List.append_nil]
    generalize (w20.alloc (.cells #[.int .i64 T20.n,vS20,.bool T20.null,vL20,vU20] 37))=w21 at *
    try simp only [size_drew] at CU
    have qV:Ext w18 w21:=((jK.drew.trans rA).trans wZ)
    have FS:=qV.size
    obtain ⟨css,hown,hall⟩:=(hg.ext qV).ex
    have hcl:=hall.1
    rw [hlj] at hcl
    have DA:TreeC (fun b=>(fun b=>w1.heap.size≤b) b∧b≠w.heap.size+1∧¬ ownB (.slice av j kv) b) w21 ((tl1 (tlP (d+2)) fQ_2.of fQ_2.sub) y) [.int .i64 T20.n,vS20,.bool T20.null,vL20,vU20]:=by
     rw [show (tl1 (tlP (d+2)) fQ_2.of fQ_2.sub) y=_ from xQ.symm]
     exact TreeC.weaken (fun b _ hk=>⟨by omega,by omega,hnb b (.inr (by omega))⟩) (TreeC.weaken (ok':=fun b=>w18.heap.size≤b) (fun b _ hk=>by have hk':w19.drew.heap.size≤b:=hk;(try simp only [size_drew] at hk');omega) (TreeC.keep (Ext.keeps wZ _) oX))
    refine wp_append ap_34_34 (m:=1) (news:=[.int .i64 T20.n,vS20,.bool T20.null,vL20,vU20]) (n:=css.length) (cs:=css.flatten) (v:=(.slice av j kv)) ?_ rfl hown.1 (all2_flat_tree hall) (Src.blk (fr:=(0,0)) (T:=37) CC rfl (by simp only [List.all_cons,List.all_nil,flat_int,flat_bool,k1_20,k2_20,k3_20,Bool.and_self])) ?_ ?_ ?_
    ·first|rfl|simp (maxSteps:=1000000)(disch:=(first|omega|(simp only [qI,qJ,qK]<;>omega)|exact qL _)) only [go_sem,↓reduceIte,n0,reduceCtorEq,n1,n2,n3,n4,n5,i0,i1,i2,i3,i4,i5,i6,i7]
    ·omega
    ·omega
    intro v' w22 ho hu hfr
    have rL:=(xH:Upd (ownB (.slice av j kv)) w19.drew w21).trans hu
    have EO:=rL.size
    simp only [size_drew] at EO
    have tV:=rL.blk_some (show blk w19.drew (w.heap.size+1)=_ from gN) (hnb _ (.inl (by omega)))
    have hg':=GrowT.snoc hown hall DA hu hfr ho
    obtain ⟨va,vc,hv',_⟩:=ho.shape
    subst hv'
    have hne:¬ ownB (.slice va (css.length+1) vc) (w.heap.size+1):=fun h=>(hfr _ h).elim (hnb _ (.inl (by omega))) (fun h=>by omega)
    refine ⟨rL,?_⟩
    try simp (maxSteps:=1000000)(disch:=(first|omega|(simp only [qI,qJ,qK]<;>omega)|exact qL _|(refine hnb _ ?_;first|omega|(simp only [World.size_alloc,size_wr,size_drew]<;>omega)))) only [go_sem,↓reduceIte,n0,reduceCtorEq,n1,n2,n3,n4,n5,i0,i1,i2,i3,i4,i5,i6,i7,tV,bK,aC,bM,bN,hri]
    repeat ((first|refine qA rfl ?_|apply qB|refine qC rfl ?_|apply qD|apply qE|apply qF|apply qG|apply qH);try simp (maxSteps:=1000000)(disch:=(first|omega|(simp only [qI,qJ,qK]<;>omega)|exact qL _)) only [go_sem,↓reduceIte,n0,reduceCtorEq,n1,n2,n3,n4,n5,i0,i1,i2,i3,i4,i5,i6,i7,tV,bK,aC,bM,bN,hri])
    refine ⟨⟨(by simp (maxSteps:=1000000)(disch:=(first|omega|(simp only [qI,qJ,qK]<;>omega)|exact qL _)) only [go_sem,↓reduceIte,n0,reduceCtorEq,n1,n2,n3,n4,n5,i0,i1,i2,i3,i4,i5,i6,i7,Holds_nil,Holds_cons,bK,aC,bM,bN,hri]),j+1,(by simp (maxSteps:=1000000)(disch:=(first|omega|(simp only [qI,qJ,qK]<;>omega)|exact qL _)) only [go_sem,↓reduceIte,n0,reduceCtorEq,n1,n2,n3,n4,n5,i0,i1,i2,i3,i4,i5,i6,i7,bK,aC,bM,bN,hri];all_goals rfl),.slice va (css.length+1) vc,by omega,?_,?_,?_⟩,?_⟩
    ·rw [blk_wr_eq,tV];rfl
    ·rw [hcat,List.map_append];exact hg'.upd ((Upd.refl _ _).wr _ _ (.inr rfl)) hne
    ·refine Upd.wr ?_ _ _ (.inr rfl)
     exact (hUk.more ((qV.mono fun _ h=>h.elim).trans hu) fun b hb h=>absurd h (hnb b (.inl hb)))
    ·try simp (maxSteps:=1000000)(disch:=(first|omega|(simp only [qI,qJ,qK]<;>omega)|exact qL _)) only [go_sem,↓reduceIte,n0,reduceCtorEq,n1,n2,n3,n4,n5,i0,i1,i2,i3,i4,i5,i6,i7,bK,aC,bM,bN,hri]
     simp only [RowKit.intOf];omega
   ·have gM:Ext w18 (wr (wr (w18.alloc (.cells #[.bool false] 4)).drew w18.heap.size 0 [.bool false]) w18.heap.size 0 [.bool true]):=((Upd.refl _ _).drew).trans q4
    generalize (wr (wr (w18.alloc (.cells #[.bool false] 4)).drew w18.heap.size 0 [.bool false]) w18.heap.size 0 [.bool true])=w23 at *
    have FK:=gM.size
    have f7:Ext w w23:=dV.trans gM
    have hb23:=gM.blk_some jI id
    have jM:=gM.blk_some g8 id
    have pF:=gM.blk_some iU id
    have jP:=f7.blk_some hxe id
    repeat ((first|refine qA rfl ?_|apply qB|refine qC rfl ?_|apply qD|apply qE|apply qF|apply qG|apply qH);try simp (maxSteps:=1000000)(disch:=(first|omega|(simp only [qI,qJ,qK]<;>omega)|exact qL _)) only [go_sem,↓reduceIte,n0,reduceCtorEq,n1,n2,n3,n4,n5,i0,i1,i2,i3,i4,i5,i6,i7,hb23,jM,pF,jP,hq0,hq1,hq2,hq3,bK,aC,bM,bN,hri])
    refine W.drawR (.take 0 (.take 1 (.take 2 (.take 3 (.take 4 (.take 5 (.take 6 (.take 7 (.take 8 (.take 9 (.take 10 (.take 12 (.two 11 (.only 13 (.only 14 (.take 15 (.take 16 (.last 17))))) 13 (.only 11 (.only 14 (.take 15 (.take 16 (.last 17)))))))))))))))))) (ownB (.slice av j kv)) mixed (by kernel_rfl) ?_
    try simp (maxSteps:=1000000)(disch:=(first|omega|(simp only [qI,qJ,qK]<;>omega)|exact qL _|(refine hnb _ ?_;first|omega|(simp only [World.size_alloc,size_wr,size_drew]<;>omega)))) only [go_sem,↓reduceIte,n0,reduceCtorEq,n1,n2,n3,n4,n5,i0,i1,i2,i3,i4,i5,i6,i7,hb23,jM,pF,jP,hq0,hq1,hq2,hq3,bK,aC,bM,bN,hri]
    refine ⟨?_,?_⟩
    ·skip
     have DO:=(Upd.refl _ _:Upd (ownB (.slice av j kv)) w23.drew w23.drew).blk_some (show blk w23.drew be=_ from jP) (hnb _ (.inl (by omega)))
     refine (tellX4_fn (d:=d+1) (ok:=ok) y ce w23.drew (b:=be) (o:=oe+j * 4) DO (fun k hk=>by have:=hqe k hk;rw [← Nat.add_assoc] at this;exact this) ((RepS_lay true _ _).keep (Rep1_part.1 hRe) ((((f7.drew).mono fun _ h=>h.elim).trans (Upd.refl _ _):Upd (ownB (.slice av j kv)) w w23.drew).keeps fun b hb _=>hnb b (.inl (by omega)))) (hgy.2.2 rfl)).mono ?_
     rintro _ w24 ⟨⟨c24,rfl,oY⟩,rB⟩
     obtain ⟨T24,jG⟩:∃ T,T=tlP (d+2) fs_X4 y:=⟨_,rfl⟩
     replace oY:TreeC (fun b=>w23.drew.heap.size≤b) w24 T24 c24:=by rw [jG];exact oY
     obtain ⟨vS24,vL24,vU24,rfl,F7,AT,AI,B8⟩:=oY.inv
     have k1_24:=AT.flat
     have k2_24:=SlR.flat AI
     have k3_24:=SlR.flat B8
     have xI:Upd (ownB (.slice av j kv)) w23.drew w24:=(Upd.refl _ _).trans (rB.mono fun _ h=>h.elim)
     have CV:=rB.size
     try simp only [size_drew] at CV
     refine ⟨xI,?_⟩
     try simp (maxSteps:=1000000)(disch:=(first|omega|(simp only [qI,qJ,qK]<;>omega)|exact qL _|(refine hnb _ ?_;first|omega|(simp only [World.size_alloc,size_wr,size_drew]<;>omega)))) only [go_sem,↓reduceIte,n0,reduceCtorEq,n1,n2,n3,n4,n5,i0,i1,i2,i3,i4,i5,i6,i7,hb23,jM,pF,jP,hq0,hq1,hq2,hq3,bK,aC,bM,bN,hri,k1_24,k2_24,k3_24]
     have xJ:Upd (ownB (.slice av j kv)) w23.drew (w24.alloc (.cells qZ5 37)):=show Upd (ownB (.slice av j kv)) w23.drew (w24.alloc (.cells qZ5 37)) from (xI).alloc _
     have CD:blk (w24.alloc (.cells qZ5 37)) w24.heap.size=some (qZ5,37,(0,0)):=show blk (w24.alloc (.cells qZ5 37)) w24.heap.size=some (qZ5,37,(0,0)) from blk_alloc_new rfl
     have CW:(w24.alloc (.cells qZ5 37)).heap.size=w24.heap.size+1:=show (w24.alloc (.cells qZ5 37)).heap.size=w24.heap.size+1 from World.size_alloc _ _
     have xA:Ext w24 (w24.alloc (.cells qZ5 37)):=show Ext w24 (w24.alloc (.cells qZ5 37)) from Upd.alloc (Upd.refl _ _) _
     refine ⟨xJ,?_⟩
     try simp only [List.append_nil]
     generalize (w24.alloc (.cells qZ5 37))=w25 at *
     try simp only [size_drew] at CW
     have qW:Ext w18 w25:=((gM.drew.trans rB).trans xA)
     have FT:=qW.size
     obtain ⟨css,hown,hall⟩:=(hg.ext qW).ex
     have hcl:=hall.1
     rw [hlj] at hcl
     have DB:TreeC (fun b=>(fun b=>w1.heap.size≤b) b∧b≠w.heap.size+1∧¬ ownB (.slice av j kv) b) w25 ((tl1 (tlP (d+2)) fQ_2.of fQ_2.sub) y) [.int .i64 T24.n,vS24,.bool T24.null,vL24,vU24]:=by
      rw [show (tl1 (tlP (d+2)) fQ_2.of fQ_2.sub) y=_ from jG.symm]
      exact TreeC.weaken (fun b _ hk=>⟨by omega,by omega,hnb b (.inr (by omega))⟩) (TreeC.weaken (ok':=fun b=>w18.heap.size≤b) (fun b _ hk=>by have hk':w23.drew.heap.size≤b:=hk;(try simp only [size_drew] at hk');omega) (TreeC.keep (Ext.keeps xA _) oY))
     refine wp_append ap_34_34 (m:=1) (news:=[.int .i64 0,.slice none 0 0,.bool false,.slice none 0 0,.slice none 0 0]) (n:=css.length) (cs:=css.flatten) (v:=(.slice av j kv)) ?_ rfl hown.1 (all2_flat_tree hall) (Src.blk (fr:=(0,0)) (T:=37) CD rfl rfl) ?_ ?_ ?_
     ·first|rfl|simp (maxSteps:=1000000)(disch:=(first|omega|(simp only [qI,qJ,qK]<;>omega)|exact qL _)) only [go_sem,↓reduceIte,n0,reduceCtorEq,n1,n2,n3,n4,n5,i0,i1,i2,i3,i4,i5,i6,i7]
     ·omega
     ·omega
     intro v' w26 ho hu hfr
     have rM:=(xJ:Upd (ownB (.slice av j kv)) w23.drew w25).trans hu
     have EP:=rM.size
     simp only [size_drew] at EP
     have tW:=rM.blk_some (show blk w23.drew (w.heap.size+1)=_ from jM) (hnb _ (.inl (by omega)))
     rcases ho.2 with ⟨_,h⟩|⟨g,cap,rest,fr,hv',hg',hbg,hlen,hth,hle⟩
     ·exact absurd h (Nat.succ_ne_zero _)
     subst hv'
     have hgne:¬ g=w.heap.size+1:=fun h=>(hfr g ⟨_,_,_,rfl,rfl⟩).elim (fun h'=>hnb _ (.inl (by omega)) (h ▸ h')) (fun h'=>by omega)
     have hfl:css.flatten.length=css.length * 5:=flatten_len hown.2
     have dX:(css.flatten++([.int .i64 0,.slice none 0 0,.bool false,.slice none 0 0,.slice none 0 0]:List Value)++rest).length=cap * 5:=by simp only [List.length_append] at hlen ⊢;omega
     obtain ⟨XX,hXX⟩:∃ X:Array Value,X=(css.flatten++([.int .i64 0,.slice none 0 0,.bool false,.slice none 0 0,.slice none 0 0]:List Value)++rest).toArray:=⟨_,rfl⟩
     have hbgX:blk w26 g=some (XX,37,fr):=by rw [hXX];exact hbg
     have hXsz:XX.size=cap * 5:=by rw [hXX,List.size_toArray];exact dX
     have bQ:thaw fr (css.length * 5) 5=true:=thaw_of hth (by omega)
     have hst:css.length * 5+5≤XX.size:=by omega
     have hset:=Own.setlast (cs:=[.int .i64 T24.n,vS24,.bool T24.null,vL24,vU24]) ho rfl rfl
     have hu2:Upd (ownB (.slice av j kv)) w25 (wr w26 g (css.length * 5) [.int .i64 T24.n,vS24,.bool T24.null,vL24,vU24]):=hu.wr _ _ ((hfr g ⟨_,_,_,rfl,rfl⟩).symm)
     have hg2:=GrowT.snoc hown hall DB hu2 hfr hset
     have hcj:css.length=j:=by first|exact hcl.symm.trans hlj|omega
     simp only [hcj] at bQ hst hset hu2 hg2
     refine ⟨rM,?_⟩
     try simp (maxSteps:=1000000)(disch:=(first|omega|(simp only [qI,qJ,qK]<;>omega)|exact qL _|(refine hnb _ ?_;first|omega|(simp only [World.size_alloc,size_wr,size_drew]<;>omega)))) only [go_sem,↓reduceIte,n0,reduceCtorEq,n1,n2,n3,n4,n5,i0,i1,i2,i3,i4,i5,i6,i7,tW,hbgX,bQ,hst,hcj,k1_24,k2_24,k3_24,bK,aC,bM,bN,hri]
     repeat ((first|refine qA rfl ?_|apply qB|refine qC rfl ?_|apply qD|apply qE|apply qF|apply qG|apply qH);try simp (maxSteps:=1000000)(disch:=(first|omega|(simp only [qI,qJ,qK]<;>omega)|exact qL _)) only [go_sem,↓reduceIte,n0,reduceCtorEq,n1,n2,n3,n4,n5,i0,i1,i2,i3,i4,i5,i6,i7,tW,hbgX,bQ,hst,hcj,k1_24,k2_24,k3_24,bK,aC,bM,bN,hri])
     refine ⟨⟨(by simp (maxSteps:=1000000)(disch:=(first|omega|(simp only [qI,qJ,qK]<;>omega)|exact qL _)) only [go_sem,↓reduceIte,n0,reduceCtorEq,n1,n2,n3,n4,n5,i0,i1,i2,i3,i4,i5,i6,i7,Holds_nil,Holds_cons,bK,aC,bM,bN,hri]),j+1,(by simp (maxSteps:=1000000)(disch:=(first|omega|(simp only [qI,qJ,qK]<;>omega)|exact qL _)) only [go_sem,↓reduceIte,n0,reduceCtorEq,n1,n2,n3,n4,n5,i0,i1,i2,i3,i4,i5,i6,i7,bK,aC,bM,bN,hri];all_goals rfl),.slice (some ⟨g,0,none⟩) (j+1) cap,by omega,?_,?_,?_⟩,?_⟩
     ·rw [blk_wr_ne (by omega),blk_wr_eq,tW];rfl
     ·rw [hcat,List.map_append,wr_comm (Ne.symm hgne)]
      exact hg2.upd ((Upd.refl _ _).wr _ _ (.inr rfl)) (fun h=>hgne (ownB_row h).symm)
     ·rw [wr_comm (Ne.symm hgne)]
      refine Upd.wr ?_ _ _ (.inr rfl)
      exact (hUk.more ((qW.mono fun _ h=>h.elim).trans hu2) fun b hb h=>absurd h (hnb b (.inl hb)))
     ·try simp (maxSteps:=1000000)(disch:=(first|omega|(simp only [qI,qJ,qK]<;>omega)|exact qL _)) only [go_sem,↓reduceIte,n0,reduceCtorEq,n1,n2,n3,n4,n5,i0,i1,i2,i3,i4,i5,i6,i7,bK,aC,bM,bN,hri]
      simp only [RowKit.intOf];omega
    ·skip
     have oO:Upd (ownB (.slice av j kv)) w23.drew (w23.alloc (.cells qZ5 37)).drew:=show Upd (ownB (.slice av j kv)) w23.drew (w23.drew.alloc (.cells qZ5 37)) from (Upd.refl _ _).alloc _
     have CE:blk (w23.alloc (.cells qZ5 37)).drew w23.drew.heap.size=some (qZ5,37,(0,0)):=show blk (w23.drew.alloc (.cells qZ5 37)) w23.drew.heap.size=some (qZ5,37,(0,0)) from blk_alloc_new rfl
     have CX:(w23.alloc (.cells qZ5 37)).drew.heap.size=w23.drew.heap.size+1:=show (w23.drew.alloc (.cells qZ5 37)).heap.size=w23.drew.heap.size+1 from World.size_alloc _ _
     have zL:Ext w23.drew (w23.alloc (.cells qZ5 37)).drew:=show Ext w23.drew (w23.drew.alloc (.cells qZ5 37)) from Upd.alloc (Upd.refl _ _) _
     refine ⟨oO,?_⟩
     try simp only [List.append_nil]
     generalize (w23.alloc (.cells qZ5 37)).drew=w27 at *
     try simp only [size_drew] at CX
     have DP:=(oO:Upd (ownB (.slice av j kv)) w23.drew w27).blk_some (show blk w23.drew be=_ from jP) (hnb _ (.inl (by omega)))
     refine (tellX4_fn (d:=d+1) (ok:=ok) y ce w27 (b:=be) (o:=oe+j * 4) DP (fun k hk=>by have:=hqe k hk;rw [← Nat.add_assoc] at this;exact this) ((RepS_lay true _ _).keep (Rep1_part.1 hRe) ((((f7.drew).mono fun _ h=>h.elim).trans (oO):Upd (ownB (.slice av j kv)) w w27).keeps fun b hb _=>hnb b (.inl (by omega)))) (hgy.2.2 rfl)).mono ?_
     rintro _ w28 ⟨⟨c28,rfl,oZ⟩,oN⟩
     obtain ⟨T28,jH⟩:∃ T,T=tlP (d+2) fs_X4 y:=⟨_,rfl⟩
     replace oZ:TreeC (fun b=>w27.heap.size≤b) w28 T28 c28:=by rw [jH];exact oZ
     obtain ⟨vS28,vL28,vU28,rfl,F8,AU,AJ,B9⟩:=oZ.inv
     have k1_28:=AU.flat
     have k2_28:=SlR.flat AJ
     have k3_28:=SlR.flat B9
     have xK:Upd (ownB (.slice av j kv)) w23.drew w28:=(oO).trans (oN.mono fun _ h=>h.elim)
     have CY:=oN.size
     try simp only [size_drew] at CY
     refine ⟨xK,?_⟩
     try simp (maxSteps:=1000000)(disch:=(first|omega|(simp only [qI,qJ,qK]<;>omega)|exact qL _|(refine hnb _ ?_;first|omega|(simp only [World.size_alloc,size_wr,size_drew]<;>omega)))) only [go_sem,↓reduceIte,n0,reduceCtorEq,n1,n2,n3,n4,n5,i0,i1,i2,i3,i4,i5,i6,i7,hb23,jM,pF,jP,hq0,hq1,hq2,hq3,bK,aC,bM,bN,hri,k1_28,k2_28,k3_28]
     have qX:Ext w18 w28:=((gM.drew.trans zL).trans oN)
     have FU:=qX.size
     obtain ⟨css,hown,hall⟩:=(hg.ext qX).ex
     have hcl:=hall.1
     rw [hlj] at hcl
     have DC:TreeC (fun b=>(fun b=>w1.heap.size≤b) b∧b≠w.heap.size+1∧¬ ownB (.slice av j kv) b) w28 ((tl1 (tlP (d+2)) fQ_2.of fQ_2.sub) y) [.int .i64 T28.n,vS28,.bool T28.null,vL28,vU28]:=by
      rw [show (tl1 (tlP (d+2)) fQ_2.of fQ_2.sub) y=_ from jH.symm]
      exact TreeC.weaken (fun b _ hk=>⟨by omega,by omega,hnb b (.inr (by omega))⟩) (TreeC.weaken (ok':=fun b=>w18.heap.size≤b) (fun b _ hk=>by have hk':w27.heap.size≤b:=hk;(try simp only [size_drew] at hk');omega) oZ)
     refine wp_append ap_34_34 (m:=1) (news:=[.int .i64 0,.slice none 0 0,.bool false,.slice none 0 0,.slice none 0 0]) (n:=css.length) (cs:=css.flatten) (v:=(.slice av j kv)) ?_ rfl hown.1 (all2_flat_tree hall) (Src.blk (fr:=(0,0)) (T:=37) (oN.blk_some CE id) rfl rfl) ?_ ?_ ?_
     ·first|rfl|simp (maxSteps:=1000000)(disch:=(first|omega|(simp only [qI,qJ,qK]<;>omega)|exact qL _)) only [go_sem,↓reduceIte,n0,reduceCtorEq,n1,n2,n3,n4,n5,i0,i1,i2,i3,i4,i5,i6,i7]
     ·omega
     ·omega
     intro v' w29 ho hu hfr
     have rN:=(xK:Upd (ownB (.slice av j kv)) w23.drew w28).trans hu
     have EQ:=rN.size
     simp only [size_drew] at EQ
     have tX:=rN.blk_some (show blk w23.drew (w.heap.size+1)=_ from jM) (hnb _ (.inl (by omega)))
     rcases ho.2 with ⟨_,h⟩|⟨g,cap,rest,fr,hv',hg',hbg,hlen,hth,hle⟩
     ·exact absurd h (Nat.succ_ne_zero _)
     subst hv'
     have hgne:¬ g=w.heap.size+1:=fun h=>(hfr g ⟨_,_,_,rfl,rfl⟩).elim (fun h'=>hnb _ (.inl (by omega)) (h ▸ h')) (fun h'=>by omega)
     have hfl:css.flatten.length=css.length * 5:=flatten_len hown.2
     have dX:(css.flatten++([.int .i64 0,.slice none 0 0,.bool false,.slice none 0 0,.slice none 0 0]:List Value)++rest).length=cap * 5:=by simp only [List.length_append] at hlen ⊢;omega
     obtain ⟨XX,hXX⟩:∃ X:Array Value,X=(css.flatten++([.int .i64 0,.slice none 0 0,.bool false,.slice none 0 0,.slice none 0 0]:List Value)++rest).toArray:=⟨_,rfl⟩
     have hbgX:blk w29 g=some (XX,37,fr):=by rw [hXX];exact hbg
     have hXsz:XX.size=cap * 5:=by rw [hXX,List.size_toArray];exact dX
     have bQ:thaw fr (css.length * 5) 5=true:=thaw_of hth (by omega)
     have hst:css.length * 5+5≤XX.size:=by omega
     have hset:=Own.setlast (cs:=[.int .i64 T28.n,vS28,.bool T28.null,vL28,vU28]) ho rfl rfl
     have hu2:Upd (ownB (.slice av j kv)) w28 (wr w29 g (css.length * 5) [.int .i64 T28.n,vS28,.bool T28.null,vL28,vU28]):=hu.wr _ _ ((hfr g ⟨_,_,_,rfl,rfl⟩).symm)
     have hg2:=GrowT.snoc hown hall DC hu2 hfr hset
     have hcj:css.length=j:=by first|exact hcl.symm.trans hlj|omega
     simp only [hcj] at bQ hst hset hu2 hg2
     refine ⟨rN,?_⟩
     try simp (maxSteps:=1000000)(disch:=(first|omega|(simp only [qI,qJ,qK]<;>omega)|exact qL _|(refine hnb _ ?_;first|omega|(simp only [World.size_alloc,size_wr,size_drew]<;>omega)))) only [go_sem,↓reduceIte,n0,reduceCtorEq,n1,n2,n3,n4,n5,i0,i1,i2,i3,i4,i5,i6,i7,tX,hbgX,bQ,hst,hcj,k1_28,k2_28,k3_28,bK,aC,bM,bN,hri]
     repeat ((first|refine qA rfl ?_|apply qB|refine qC rfl ?_|apply qD|apply qE|apply qF|apply qG|apply qH);try simp (maxSteps:=1000000)(disch:=(first|omega|(simp only [qI,qJ,qK]<;>omega)|exact qL _)) only [go_sem,↓reduceIte,n0,reduceCtorEq,n1,n2,n3,n4,n5,i0,i1,i2,i3,i4,i5,i6,i7,tX,hbgX,bQ,hst,hcj,k1_28,k2_28,k3_28,bK,aC,bM,bN,hri])
     refine ⟨⟨(by simp (maxSteps:=1000000)(disch:=(first|omega|(simp only [qI,qJ,qK]<;>omega)|exact qL _)) only [go_sem,↓reduceIte,n0,reduceCtorEq,n1,n2,n3,n4,n5,i0,i1,i2,i3,i4,i5,i6,i7,Holds_nil,Holds_cons,bK,aC,bM,bN,hri]),j+1,(by simp (maxSteps:=1000000)(disch:=(first|omega|(simp only [qI,qJ,qK]<;>omega)|exact qL _)) only [go_sem,↓reduceIte,n0,reduceCtorEq,n1,n2,n3,n4,n5,i0,i1,i2,i3,i4,i5,i6,i7,bK,aC,bM,bN,hri];all_goals rfl),.slice (some ⟨g,0,none⟩) (j+1) cap,by omega,?_,?_,?_⟩,?_⟩
     ·rw [blk_wr_ne (by omega),blk_wr_eq,tX];rfl
     ·rw [hcat,List.map_append,wr_comm (Ne.symm hgne)]
      exact hg2.upd ((Upd.refl _ _).wr _ _ (.inr rfl)) (fun h=>hgne (ownB_row h).symm)
     ·rw [wr_comm (Ne.symm hgne)]
      refine Upd.wr ?_ _ _ (.inr rfl)
      exact (hUk.more ((qX.mono fun _ h=>h.elim).trans hu2) fun b hb h=>absurd h (hnb b (.inl hb)))
     ·try simp (maxSteps:=1000000)(disch:=(first|omega|(simp only [qI,qJ,qK]<;>omega)|exact qL _)) only [go_sem,↓reduceIte,n0,reduceCtorEq,n1,n2,n3,n4,n5,i0,i1,i2,i3,i4,i5,i6,i7,bK,aC,bM,bN,hri]
      simp only [RowKit.intOf];omega
  ·have hjn:j=L2.length:=by omega
   subst hjn
   rw [List.take_length] at hg
   repeat ((first|refine qA rfl ?_|apply qB|refine qC rfl ?_|apply qD|apply qE|apply qF|apply qG|apply qH);try simp (maxSteps:=1000000)(disch:=(first|omega|(simp only [qI,qJ,qK]<;>omega)|exact qL _)) only [go_sem,↓reduceIte,n0,reduceCtorEq,n1,n2,n3,n4,n5,i0,i1,i2,i3,i4,i5,i6,i7,bK,aC,bM,bN,hri])
   exact ⟨(by simp (maxSteps:=1000000)(disch:=(first|omega|(simp only [qI,qJ,qK]<;>omega)|exact qL _)) only [go_sem,↓reduceIte,n0,reduceCtorEq,n1,n2,n3,n4,n5,i0,i1,i2,i3,i4,i5,i6,i7,Holds_nil,Holds_cons,bK,aC,bM,bN,hri]),v,g8,hg,hUk⟩
 rintro ρ w30 ⟨⟨uV,bY,uW,FC,-⟩,v,yI,yG,xZ⟩
 have dN:Upd (fun b=>b=w.heap.size+1∨b=w.heap.size+2) w17 w30:=xZ.mono fun _ h=>.inl h
 have eJ:Upd (fun b=>b=w.heap.size+1∨b=w.heap.size+2) w1 w30:=dG.trans dN
 have pO:=eJ.size
 have y4:Ext w w30:=hE1.more eJ fun b hb h=>by omega
 have yC:=y4.blk_some hb id
 have pG:=xZ.blk_some gA (by omega)
 obtain ⟨av2,kv2,hvs,_⟩:=yG.shape
 subst hvs
 have hf2:TreeC (fun b=>w1.heap.size≤b) w30 (.mk 0 [] (t.at 2).null (L2.map (tl1 (tlP (d+2)) fQ_2.of fQ_2.sub)) []) [.int .i64 0,.slice none 0 0,.bool (t.at 2).null,.slice av2 (List.map (tl1 (tlP (d+2)) fQ_2.of fQ_2.sub) L2).length kv2,.slice none 0 0]:=TreeC.intro rfl (BytesV.nil _ _) (yG.trees (fun _ _ h=>h) (fun b hb=>by have:=iX;omega)) (tagsN _ _)
 repeat ((first|refine qA rfl ?_|apply qB|refine qC rfl ?_|apply qD|apply qE|apply qF|apply qG|apply qH);try simp (maxSteps:=1000000)(disch:=(first|omega|(simp only [qI,qJ,qK]<;>omega)|exact qL _)) only [go_sem,↓reduceIte,n0,reduceCtorEq,n1,n2,n3,n4,n5,i0,i1,i2,i3,i4,i5,i6,i7,yC,yI,pG,hq0,hq1,hq2,hq3,uV,bY,uW])
 refine (EachG_fn (ok:=fun b=>b < w.heap.size) 49 ca_49 #[.pointer (some ⟨w.heap.size+2,0,none⟩)] w30 (tb:=b) (to:=4) yC hq3 ((hT.weaken fun b hb _=>hb).keep (y4.keeps _)) (sortT_perm _) (sortT_lt hgu.2.1) (by rw [(sortT_perm t.u).length_eq];exact hgu.1)
  (fun b=>b=w.heap.size+2) (by omega) (fun b hb hk e=>by have hk':b < w.heap.size:=hk;omega) (fun b hb=>by have:=blk_lt pG;omega)
  (fun wl done w'=>∃ v,blk w' (w.heap.size+2)=some (#[.int .i64 0,.slice none 0 0,.bool false,.slice (some ⟨w.heap.size+1,0,none⟩) 3 3,v],37,(0,0))∧GrowU (fun b=>w1.heap.size≤b) wl.heap.size (w.heap.size+2) w' 69 v done) (fun wl hE=>⟨_,hE.blk_some pG id,GrowU.nil _ _ _ _ _⟩) ?_).mono ?_
 ·rintro wl hE done y vv wc hpre ⟨v,hbv,hg⟩ hU hvv hy
  have hz':=hE.size
  have hzu:=hU.size
  have htl:=blk_lt pG
  have hpl:=hpre.length_le
  simp only [List.length_append,List.length_cons,List.length_nil] at hpl
  rw [(sortT_perm t.u).length_eq] at hpl
  have hlu:=hgu.1
  have hmy:y∈t.u:=(sortT_perm t.u).mem_iff.1 (hpre.subset (by simp))
  refine (tagclQ_fn (ok:=fun b=>b < w.heap.size) _ _ _ _ v done y vv wc hbv hg hzu (by omega) (hvv.keep ((hE.mono (fun _ h=>h.elim) |>.trans hU:Upd (fun b=>b=w.heap.size+2) w30 wc).keeps fun b _ hk e=>by have hk':b < w.heap.size:=hk;omega)) hy (hgu.2.2 y hmy) (by omega) (fun b hb=>by have:=pO;omega)).mono ?_
  rintro _ w2' ⟨⟨v',h1,h2⟩,h3⟩
  exact ⟨⟨v',h1,h2⟩,hU.trans' h3 fun b hb h=>h.elim id fun h=>by omega⟩
 rintro _ w31 ⟨wl,hEl,⟨v,yR,hgU⟩,hUe⟩
 have hzl:=hEl.size
 obtain ⟨aU,kU,hvs,_⟩:=hgU.shape
 subst hvs
 have dE:Upd (fun b=>b=w.heap.size+1∨b=w.heap.size+2) w30 w31:=(hEl.mono fun _ h=>h.elim).trans (hUe.mono fun _ h=>.inr h)
 have eK:Upd (fun b=>b=w.heap.size+1∨b=w.heap.size+2) w1 w31:=eJ.trans dE
 have zA:=eK.size
 have BC:Ext w w31:=hE1.more eK fun b hb h=>by omega
 have C4:=BC.blk_some hb id
 have yJ:=(((hEl.mono fun _ h=>h.elim).trans hUe:Upd (fun b=>b=w.heap.size+2) w30 w31)).blk_some yI (by omega)
 have hTU:=hgU.tags (ok':=(fun b=>w1.heap.size≤b)) (fun _ _ h=>h) (fun b hb=>by have:=pO;omega)
 repeat ((first|refine qA rfl ?_|apply qB|refine qC rfl ?_|apply qD|apply qE|apply qF|apply qG|apply qH);try simp (maxSteps:=1000000)(disch:=(first|omega|(simp only [qI,qJ,qK]<;>omega)|exact qL _)) only [go_sem,↓reduceIte,n0,reduceCtorEq,n1,n2,n3,n4,n5,i0,i1,i2,i3,i4,i5,i6,i7,C4,yJ,yR,hq0,hq1,hq2,hq3,uV,bY,uW,cellsAt_five])
 refine (sorted_fn _ _ w31 hTU (sortT_lt hgu.2.1) (by rw [(sortT_perm t.u).length_eq];exact hgu.1)).mono ?_
 rintro _ w32 hEs
 have dO:Upd (fun b=>b=w.heap.size+1∨b=w.heap.size+2) w31 w32:=hEs.mono fun _ h=>h.elim
 have dP:Upd (fun b=>b=w.heap.size+1∨b=w.heap.size+2) w1 w32:=eK.trans dO
 have zB:=dP.size
 have y5:Ext w w32:=hE1.more dP fun b hb h=>by omega
 have C5:=y5.blk_some hb id
 have yK:=hEs.blk_some yJ id
 have ht32:=hEs.blk_some yR id
 have CM:=(dP.blk_some hr1 (by omega))
 have hC_32:Upd (fun b=>b=w.heap.size+1∨b=w.heap.size+2) w32 w32:=Upd.refl _ _
 have hC_31:Upd (fun b=>b=w.heap.size+1∨b=w.heap.size+2) w31 w32:=dO.trans hC_32
 have hC_30:Upd (fun b=>b=w.heap.size+1∨b=w.heap.size+2) w30 w32:=dE.trans hC_31
 have hC_17:Upd (fun b=>b=w.heap.size+1∨b=w.heap.size+2) w17 w32:=dN.trans hC_30
 have hC_16:Upd (fun b=>b=w.heap.size+1∨b=w.heap.size+2) w16 w32:=cR.trans hC_17
 have hC_3:Upd (fun b=>b=w.heap.size+1∨b=w.heap.size+2) w3 w32:=dK.trans hC_16
 have hC_2:Upd (fun b=>b=w.heap.size+1∨b=w.heap.size+2) w2 w32:=hV3.trans hC_3
 have hC_1:Upd (fun b=>b=w.heap.size+1∨b=w.heap.size+2) w1 w32:=hV2.trans hC_2
 have hF0:=TreeC.keep (hC_2.keeps fun b hb hk e=>by have hk':w1.heap.size≤b:=hk;omega) hf0
 have hF1:=TreeC.keep (hC_16.keeps fun b hb hk e=>by have hk':w1.heap.size≤b:=hk;omega) hf1
 have hF2:=TreeC.keep (hC_30.keeps fun b hb hk e=>by have hk':w1.heap.size≤b:=hk;omega) hf2
 replace hF0:TreeC (fun b=>w1.heap.size≤b) w32 (tlF (tlP (d+2)) fQ_0 (t.at 0)) [.int .i64 (IntKind.i16.wrap (t.at 0).n),.slice none 0 0,.bool false,.slice none 0 0,.slice none 0 0]:=hF0
 replace hF1:TreeC (fun b=>w1.heap.size≤b) w32 (tlF (tlP (d+2)) fQ_1 (t.at 1)) [.int .i64 0,.slice none 0 0,.bool (t.at 1).null,.slice av1 (List.map (tl1 (tlP (d+2)) fQ_1.of fQ_1.sub) L1).length kv1,.slice none 0 0]:=by rw [show tlF (tlP (d+2)) fQ_1 (t.at 1) = .mk 0 [] (t.at 1).null ((if (t.at 1).null=true then [] else (t.at 1).l).map (tl1 (tlP (d+2)) fQ_1.of fQ_1.sub)) [] from rfl,← hL1];exact hF1
 replace hF2:TreeC (fun b=>w1.heap.size≤b) w32 (tlF (tlP (d+2)) fQ_2 (t.at 2)) [.int .i64 0,.slice none 0 0,.bool (t.at 2).null,.slice av2 (List.map (tl1 (tlP (d+2)) fQ_2.of fQ_2.sub) L2).length kv2,.slice none 0 0]:=by rw [show tlF (tlP (d+2)) fQ_2 (t.at 2) = .mk 0 [] (t.at 2).null ((if (t.at 2).null=true then [] else (t.at 2).l).map (tl1 (tlP (d+2)) fQ_2.of fQ_2.sub)) [] from rfl,← hL2];exact hF2
 have hTL:TreesV (fun b=>(fun b=>w1.heap.size≤b) b∨b=w.heap.size+1) w32 (.slice (some ⟨w.heap.size+1,0,none⟩) 3 3) [tlF (tlP (d+2)) fQ_0 (t.at 0),tlF (tlP (d+2)) fQ_1 (t.at 1),tlF (tlP (d+2)) fQ_2 (t.at 2)]:=by
  refine ⟨[[.int .i64 (IntKind.i16.wrap (t.at 0).n),.slice none 0 0,.bool false,.slice none 0 0,.slice none 0 0],[.int .i64 0,.slice none 0 0,.bool (t.at 1).null,.slice av1 (List.map (tl1 (tlP (d+2)) fQ_1.of fQ_1.sub) L1).length kv1,.slice none 0 0],[.int .i64 0,.slice none 0 0,.bool (t.at 2).null,.slice av2 (List.map (tl1 (tlP (d+2)) fQ_2.of fQ_2.sub) L2).length kv2,.slice none 0 0]],⟨_,3,rfl,Nat.le_refl _,(by intro cs hm;simp only [List.mem_cons,List.not_mem_nil,or_false] at hm;rcases hm with rfl|rfl|rfl<;>rfl),.inr ⟨_,rfl,rfl,.inr rfl,_,yK,fun i hi=>by rw [Nat.zero_add,List.getElem?_toArray];rfl⟩⟩,rfl,fun i h1 h2 => ?_⟩
  match i,h1 with
  | 0,_=>exact TreeC.weaken (fun b _ hk=>.inl hk) hF0
  | 1,_=>exact TreeC.weaken (fun b _ hk=>.inl hk) hF1
  | 2,_=>exact TreeC.weaken (fun b _ hk=>.inl hk) hF2
 repeat ((first|refine qA rfl ?_|apply qB|refine qC rfl ?_|apply qD|apply qE|apply qF|apply qG|apply qH);try simp (maxSteps:=1000000)(disch:=(first|omega|(simp only [qI,qJ,qK]<;>omega)|exact qL _)) only [go_sem,↓reduceIte,n0,reduceCtorEq,n1,n2,n3,n4,n5,i0,i1,i2,i3,i4,i5,i6,i7,C5,yK,ht32,hq0,hq1,hq2,hq3,uV,bY,uW,CM,cellsAt_five])
 refine ⟨⟨_,rfl,?_⟩,y5.wr _ _ (.inl (Nat.le_refl _))⟩
 have hUr:Upd (fun b=>b=w.heap.size) w32 (wr w32 w.heap.size 0 [.int .i64 0,.slice none 0 0,.bool false,.slice (some ⟨w.heap.size+1,0,none⟩) 3 3,.slice aU (sortT t.u).length kU]):=(Upd.refl _ _).wr _ _ (.inr rfl)
 have gD:=hTU.keep (hEs.keeps _)
 exact TreeC.intro rfl (BytesV.nil _ _) ((hTL.keep (hUr.keeps fun b _ hk e=>by rcases hk with hk|hk<;>omega)).weaken fun b _ hk=>by rcases hk with hk|hk<;>omega) ((gD.keep (hUr.keeps fun b _ hk e=>by omega)).weaken fun b _ hk=>by omega)
end Ms

