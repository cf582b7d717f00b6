/- A part of the proof: see the last text. -/
import Derived.Test.YtbbhfngjfihndacGreatDoorC09
import Derived.Test.YtbbhfngjfihndacGreatDoorConsumerGroupHeartbeatRequestP0
set_option linter.unusedSimpArgs false
set_option linter.unusedVariables false
namespace Ms
open Go.World renaming size_alloc → qI
open Ms renaming size_wr → qJ,size_drew → qK,not_noB → qL
open W renaming seqR → qA,seq → qB,regR → qC,condK → qD,block → qE,skip → qF,ret → qG,exit → qH
open Nat renaming reduceEqDiff → n0,reduceAdd → n1,reduceMul → n2,reduceSub → n3,reduceLT → n4,reduceLeDiff → n5
open Int renaming reduceEq → i0,reduceLT → i1,reduceLE → i2,reduceNeg → i3,reduceAdd → i4,reduceSub → i5,reduceMul → i6,reduceToNat → i7
set_option maxRecDepth 8000
open Go Go.Proofs Go.Shelf
attribute [local congr] W_congr WPsq_congr WPp_congr optK_congr addrK_congr intK_congr boolK_congr sliceK_congr tupleK_congr funcK_congr Fn_congr rawK_congr takeK_congr stepK_congr convK_congr aggK_congr

theorem tagclX0_fn {ok OK:Blocks} {B tb:Nat} (c0 c1 c2 c3 v:Value) (done:List TagD) (y:TagD) (vv:Value) (w:World) (hbt:blk w tb=some (#[c0,c1,c2,c3,v],37,(0,0))) (hg:GrowU OK B tb w 69 v done) (hB:B≤w.heap.size) (htb:tb < B) (hvv:BytesV ok w vv y.2) (hy:y.1 < 2 ^ 32) (hyl:y.2.length≤32767) (hdl:done.length≤32767) (hOK:∀ b,B≤b→OK b) :
  Fn Tryz.prog 61 #[.int .u32 y.1,vv,.pointer (some ⟨tb,0,none⟩)] w fun _ w'=>(∃ v',blk w' tb=some (#[c0,c1,c2,c3,v'],37,(0,0))∧GrowU OK B tb w' 69 v' (done++[y]))∧Upd (fun b=>b=tb∨B≤b) w w':=by
 have htl:=blk_lt hbt
 refine fn_of_W Tryz.func61 rfl Tryz.results61 Tryz.ntmps61 rfl ?_
 repeat ((first|refine qA rfl ?_|apply qB|refine qC rfl ?_|apply qD|apply qE|apply qF|apply qG|apply qH);try simp (maxSteps:=1000000)(disch:=(first|omega|(simp only [qI,qJ,qK]<;>omega)|exact qL _)) only [go_sem,↓reduceIte,n0,reduceCtorEq,n1,n2,n3,n4,n5,i0,i1,i2,i3,i4,i5,i6,i7])
 obtain ⟨av,kv,rfl,_⟩:=hg.shape
 have hnb:∀ b,b < B∨w.heap.size≤b→¬ ownB (.slice av done.length kv) b:=fun b hb h=>by
  have:=hg.above h
  have:=hg.below h
  omega
 refine W.drawR (.take 0 (.take 1 (.take 2 (.take 3 (.only 4 (.only 5 (.only 6 (.only 7 (.take 8 (.last 9)))))))))) (ownB (.slice av done.length kv)) mixed (by kernel_rfl) ?_
 simp (maxSteps:=1000000)(disch:=(first|omega|(simp only [qI,qJ,qK]<;>omega)|exact qL _|(refine hnb _ ?_;first|omega|(simp only [World.size_alloc,size_wr,size_drew]<;>omega)))) only [go_sem,↓reduceIte,n0,reduceCtorEq,n1,n2,n3,n4,n5,i0,i1,i2,i3,i4,i5,i6,i7,hbt]
 refine wp_copyN ap_22_22 (ok:=ok) (s:=y.2) (v:=vv) (by first|rfl|simp (maxSteps:=1000000)(disch:=(first|omega|(simp only [qI,qJ,qK]<;>omega)|exact qL _)) only [go_sem,↓reduceIte,n0,reduceCtorEq,n1,n2,n3,n4,n5,i0,i1,i2,i3,i4,i5,i6,i7]) (by first|rfl|simp (maxSteps:=1000000)(disch:=(first|omega|(simp only [qI,qJ,qK]<;>omega)|exact qL _)) only [go_sem,↓reduceIte,n0,reduceCtorEq,n1,n2,n3,n4,n5,i0,i1,i2,i3,i4,i5,i6,i7]) (hvv.keep (Ext.keeps ((Upd.refl _ _).drew) _)) (by omega) ?_
 intro v1 w1 ho1 hE1 hf1
 obtain ⟨a1,k1,rfl,_⟩:=ho1.shape
 have hB1:=Own.bytes (ok:=fun b=>w.heap.size≤b) ho1 fun b hb=>hf1 b hb
 have hP1:Upd (ownB (.slice av done.length kv)) w.drew w1:=hE1.mono fun _ h=>h.elim
 have hs1:=hE1.size
 simp only [size_drew] at hs1
 refine ⟨hP1,?_⟩
 simp (maxSteps:=1000000)(disch:=(first|omega|(simp only [qI,qJ,qK]<;>omega)|exact qL _|(refine hnb _ ?_;first|omega|(simp only [World.size_alloc,size_wr,size_drew]<;>omega)))) only [go_sem,↓reduceIte,n0,reduceCtorEq,n1,n2,n3,n4,n5,i0,i1,i2,i3,i4,i5,i6,i7,hbt]
 refine ⟨hP1,?_⟩
 have hP2:Upd (ownB (.slice av done.length kv)) w.drew (w1.alloc (.cells #[.int .u32 y.1,.slice a1 y.2.length k1] 69)):=hP1.alloc _
 have hn2:blk (w1.alloc (.cells #[.int .u32 y.1,.slice a1 y.2.length k1] 69)) w1.heap.size=some (#[.int .u32 y.1,.slice a1 y.2.length k1],69,(0,0)):=blk_alloc_new rfl
 have hs2:(w1.alloc (.cells #[.int .u32 y.1,.slice a1 y.2.length k1] 69)).heap.size=w1.heap.size+1:=World.size_alloc _ _
 have hE2:Ext w1 (w1.alloc (.cells #[.int .u32 y.1,.slice a1 y.2.length k1] 69)):=Upd.alloc (Upd.refl _ _) _
 refine ⟨hP2,?_⟩
 try simp only [List.append_nil]
 generalize (w1.alloc (.cells #[.int .u32 y.1,.slice a1 y.2.length k1] 69))=w2 at *
 have hEw:Ext w w2:=(((Upd.refl _ _).drew).trans hE1).trans hE2
 obtain ⟨css,hown,hall⟩:=(hg.ext hEw).ex
 have hcl:=hall.1
 have hx2:TagC (fun b=>OK b∧b≠tb∧¬ ownB (.slice av done.length kv) b) w2 y [.int .u32 y.1,.slice a1 y.2.length k1]:=⟨_,rfl,(hB1.keep (hE2.keeps _)).weaken fun b _ hk=>⟨hOK b (by omega),by omega,hnb b (.inr hk)⟩,hy⟩
 refine wp_append ap_35_35 (m:=1) (news:=[.int .u32 y.1,.slice a1 y.2.length k1]) (n:=css.length) (cs:=css.flatten) (v:=.slice av done.length kv) ?_ rfl hown.1 hall.flat_cells (Src.blk (fr:=(0,0)) (T:=69) hn2 rfl rfl) ?_ ?_ ?_
 ·first|rfl|simp (maxSteps:=1000000)(disch:=(first|omega|(simp only [qI,qJ,qK]<;>omega)|exact qL _)) only [go_sem,↓reduceIte,n0,reduceCtorEq,n1,n2,n3,n4,n5,i0,i1,i2,i3,i4,i5,i6,i7]
 ·omega
 ·omega
 intro v' w3 ho hu hfr
 have hg3:=GrowU.snoc hown hall hx2 hu hfr ho
 obtain ⟨va,vc,hv',_⟩:=ho.shape
 subst hv'
 have hP3:=hP2.trans hu
 have hs3:=hu.size
 have hbt3:=hP3.blk_some (show blk w.drew tb=_ from hbt) (hnb _ (.inl htb))
 have hne:¬ ownB (.slice va (css.length+1) vc) tb:=fun h=>(hfr _ h).elim (hnb _ (.inl htb)) (fun h=>by omega)
 refine ⟨hP3,?_⟩
 simp (maxSteps:=1000000)(disch:=(first|omega|(simp only [qI,qJ,qK]<;>omega)|exact qL _|(refine hnb _ ?_;first|omega|(simp only [World.size_alloc,size_wr,size_drew]<;>omega)))) only [go_sem,↓reduceIte,n0,reduceCtorEq,n1,n2,n3,n4,n5,i0,i1,i2,i3,i4,i5,i6,i7,hbt3]
 repeat ((first|refine qA rfl ?_|apply qB|refine qC rfl ?_|apply qD|apply qE|apply qF|apply qG|apply qH);try simp (maxSteps:=1000000)(disch:=(first|omega|(simp only [qI,qJ,qK]<;>omega)|exact qL _)) only [go_sem,↓reduceIte,n0,reduceCtorEq,n1,n2,n3,n4,n5,i0,i1,i2,i3,i4,i5,i6,i7])
 refine ⟨⟨.slice va (css.length+1) vc,by first|(rw [blk_wr_eq,hbt3];rfl)|rfl|(rw [hbt3];rfl)|(rw [blk_wr_eq,hbt3]),hg3.upd ((Upd.refl _ _).wr _ _ (.inr rfl)) hne⟩,?_⟩
 refine Upd.wr ?_ _ _ (.inr (.inl rfl))
 exact (((Upd.refl (fun b=>b=tb∨B≤b) w).drew).trans (hP3.mono fun b h=>.inr (hg.above h)))

set_option maxHeartbeats 4000000 in
theorem tellX0_fn {d:Nat} {ok:Blocks} (t:Tree) (cs:List Value) (w:World) {b o:Nat} {x:Blk} (hb:blk w b=some x) (hq:∀ k,k < 18→x.1[o+k]? = cs[k]?) (hR:RepS true (d+1) fs_X0 ok w t cs) (hg:GoodP (d+1) fs_X0 t) :
  Fn Tryz.prog 33 #[.pointer (some ⟨b,o,none⟩)] w fun r w'=>(∃ c,r = .agg c.toArray∧TreeC (fun b=>w.heap.size≤b) w' (tlP (d+1) fs_X0 t) c)∧Ext w w':=by
 have hbl:=blk_lt hb
 obtain ⟨⟨gd0,gd1,-⟩,hgu⟩:=hg
 replace gd0:GoodF (GoodP d) fX0_0 (t.at 0):=gd0
 replace gd1:GoodF (GoodP d) fX0_1 (t.at 1):=gd1
 obtain ⟨cs0,q,hcs,hL,hT⟩:=hR.inv
 obtain ⟨c0,e0,rfl,h0,c1,e1,rfl,h1,rfl⟩:=hL
 replace h0:RepF (RepS true d) (szS true d) fX0_0 ok w (t.at 0) c0:=h0
 replace h1:RepF (RepS true d) (szS true d) fX0_1 ok w (t.at 1) c1:=h1
 obtain rfl:=(RepF_uuid rfl).1 h0
 have hl16_0:((uuidS (t.at 0).s).map byteV).length=16:=by rw [List.length_map,uuidS_len]
 generalize hZ0:(uuidS (t.at 0).s).map byteV=Z0 at *
 obtain ⟨z0_0,z0_1,z0_2,z0_3,z0_4,z0_5,z0_6,z0_7,z0_8,z0_9,z0_10,z0_11,z0_12,z0_13,z0_14,z0_15,rfl⟩:=list16 hl16_0
 obtain ⟨ab1,ac1,L1,rfl,hL1,hnn1,hs1⟩:=RepF_listT rfl h1
 have hgl1:=gd1.listL rfl hL1
 obtain ⟨qm,rfl⟩:=hT.shape
 subst hcs
 have hq0:x.1[o]? = some (z0_0):=hq 0 (by decide)
 have hq1:x.1[o+1]? = some (z0_1):=hq 1 (by decide)
 have hq2:x.1[o+2]? = some (z0_2):=hq 2 (by decide)
 have hq3:x.1[o+3]? = some (z0_3):=hq 3 (by decide)
 have hq4:x.1[o+4]? = some (z0_4):=hq 4 (by decide)
 have hq5:x.1[o+5]? = some (z0_5):=hq 5 (by decide)
 have hq6:x.1[o+6]? = some (z0_6):=hq 6 (by decide)
 have hq7:x.1[o+7]? = some (z0_7):=hq 7 (by decide)
 have hq8:x.1[o+8]? = some (z0_8):=hq 8 (by decide)
 have hq9:x.1[o+9]? = some (z0_9):=hq 9 (by decide)
 have hq10:x.1[o+10]? = some (z0_10):=hq 10 (by decide)
 have hq11:x.1[o+11]? = some (z0_11):=hq 11 (by decide)
 have hq12:x.1[o+12]? = some (z0_12):=hq 12 (by decide)
 have hq13:x.1[o+13]? = some (z0_13):=hq 13 (by decide)
 have hq14:x.1[o+14]? = some (z0_14):=hq 14 (by decide)
 have hq15:x.1[o+15]? = some (z0_15):=hq 15 (by decide)
 have hq16:x.1[o+16]? = some (.slice ab1 L1.length ac1):=hq 16 (by decide)
 have hq17:x.1[o+17]? = some (.map qm):=hq 17 (by decide)
 refine fn_of_W Tryz.func33 rfl Tryz.results33 Tryz.ntmps33 rfl ?_
 repeat ((first|refine qA rfl ?_|apply qB|refine qC rfl ?_|apply qD|apply qE|apply qF|apply qG|apply qH);try simp (maxSteps:=1000000)(disch:=(first|omega|(simp only [qI,qJ,qK]<;>omega)|exact qL _)) only [go_sem,↓reduceIte,n0,reduceCtorEq,n1,n2,n3,n4,n5,i0,i1,i2,i3,i4,i5,i6,i7])
 refine wp_make (T:=34) (E:=37) (size:=5) (bytes:=88) (z:=.agg qZ5) (l:=2) (c:=2) (kl:=.i64) (kc:=.i64) (by kernel_rfl) (by kernel_rfl) (by first|rfl|(simp (maxSteps:=1000000)(disch:=(first|omega|(simp only [qI,qJ,qK]<;>omega)|exact qL _)) only [go_sem,↓reduceIte,n0,reduceCtorEq,n1,n2,n3,n4,n5,i0,i1,i2,i3,i4,i5,i6,i7];rfl)) (by first|rfl|(simp (maxSteps:=1000000)(disch:=(first|omega|(simp only [qI,qJ,qK]<;>omega)|exact qL _)) only [go_sem,↓reduceIte,n0,reduceCtorEq,n1,n2,n3,n4,n5,i0,i1,i2,i3,i4,i5,i6,i7];rfl)) (by omega) (by omega) (by omega) ?_
 have hmd:madeCells (Value.agg qZ5).cells (2 * 5)=#[.int .i64 0,.slice none 0 0,.bool false,.slice none 0 0,.slice none 0 0,.int .i64 0,.slice none 0 0,.bool false,.slice none 0 0,.slice none 0 0]:=by kernel_rfl
 rw [hmd]
 simp (maxSteps:=1000000)(disch:=(first|omega|(simp only [qI,qJ,qK]<;>omega)|exact qL _)) only [go_sem,↓reduceIte,n0,reduceCtorEq,n1,n2,n3,n4,n5,i0,i1,i2,i3,i4,i5,i6,i7]
 repeat ((first|refine qA rfl ?_|apply qB|refine qC rfl ?_|apply qD|apply qE|apply qF|apply qG|apply qH);try simp (maxSteps:=1000000)(disch:=(first|omega|(simp only [qI,qJ,qK]<;>omega)|exact qL _)) only [go_sem,↓reduceIte,n0,reduceCtorEq,n1,n2,n3,n4,n5,i0,i1,i2,i3,i4,i5,i6,i7])
 have hE1:Ext w (wr (((w.alloc (.cells qZ5 37)).alloc (.cells #[.int .i64 0,.slice none 0 0,.bool false,.slice none 0 0,.slice none 0 0,.int .i64 0,.slice none 0 0,.bool false,.slice none 0 0,.slice none 0 0] 37)).alloc (.cells qZ5 37)) (w.heap.size+2) 0 [.int .i64 0,.slice none 0 0,.bool false,.slice (some ⟨w.heap.size+1,0,none⟩) 2 2,.slice none 0 0]):=(Upd.alloc (Upd.alloc (Upd.alloc (Upd.refl _ _) _) _) _).wr _ _ (.inl (by omega))
 have hz1:(wr (((w.alloc (.cells qZ5 37)).alloc (.cells #[.int .i64 0,.slice none 0 0,.bool false,.slice none 0 0,.slice none 0 0,.int .i64 0,.slice none 0 0,.bool false,.slice none 0 0,.slice none 0 0] 37)).alloc (.cells qZ5 37)) (w.heap.size+2) 0 [.int .i64 0,.slice none 0 0,.bool false,.slice (some ⟨w.heap.size+1,0,none⟩) 2 2,.slice none 0 0]).heap.size=w.heap.size+3:=by simp only [size_wr,World.size_alloc]
 have hl1:blk (wr (((w.alloc (.cells qZ5 37)).alloc (.cells #[.int .i64 0,.slice none 0 0,.bool false,.slice none 0 0,.slice none 0 0,.int .i64 0,.slice none 0 0,.bool false,.slice none 0 0,.slice none 0 0] 37)).alloc (.cells qZ5 37)) (w.heap.size+2) 0 [.int .i64 0,.slice none 0 0,.bool false,.slice (some ⟨w.heap.size+1,0,none⟩) 2 2,.slice none 0 0]) (w.heap.size+1)=some (#[.int .i64 0,.slice none 0 0,.bool false,.slice none 0 0,.slice none 0 0,.int .i64 0,.slice none 0 0,.bool false,.slice none 0 0,.slice none 0 0],37,(0,0)):=by simp (maxSteps:=1000000)(disch:=(first|omega|(simp only [qI,qJ,qK]<;>omega)|exact qL _)) only [go_sem,↓reduceIte,n0,reduceCtorEq,n1,n2,n3,n4,n5,i0,i1,i2,i3,i4,i5,i6,i7]
 have ht1:blk (wr (((w.alloc (.cells qZ5 37)).alloc (.cells #[.int .i64 0,.slice none 0 0,.bool false,.slice none 0 0,.slice none 0 0,.int .i64 0,.slice none 0 0,.bool false,.slice none 0 0,.slice none 0 0] 37)).alloc (.cells qZ5 37)) (w.heap.size+2) 0 [.int .i64 0,.slice none 0 0,.bool false,.slice (some ⟨w.heap.size+1,0,none⟩) 2 2,.slice none 0 0]) (w.heap.size+2)=some (#[.int .i64 0,.slice none 0 0,.bool false,.slice (some ⟨w.heap.size+1,0,none⟩) 2 2,.slice none 0 0],37,(0,0)):=by simp (maxSteps:=1000000)(disch:=(first|omega|(simp only [qI,qJ,qK]<;>omega)|exact qL _)) only [go_sem,↓reduceIte,n0,reduceCtorEq,n1,n2,n3,n4,n5,i0,i1,i2,i3,i4,i5,i6,i7]
 have hr1:blk (wr (((w.alloc (.cells qZ5 37)).alloc (.cells #[.int .i64 0,.slice none 0 0,.bool false,.slice none 0 0,.slice none 0 0,.int .i64 0,.slice none 0 0,.bool false,.slice none 0 0,.slice none 0 0] 37)).alloc (.cells qZ5 37)) (w.heap.size+2) 0 [.int .i64 0,.slice none 0 0,.bool false,.slice (some ⟨w.heap.size+1,0,none⟩) 2 2,.slice none 0 0]) w.heap.size=some (qZ5,37,(0,0)):=by simp (maxSteps:=1000000)(disch:=(first|omega|(simp only [qI,qJ,qK]<;>omega)|exact qL _)) only [go_sem,↓reduceIte,n0,reduceCtorEq,n1,n2,n3,n4,n5,i0,i1,i2,i3,i4,i5,i6,i7]
 obtain ⟨w1,hw1⟩:∃ y,y=(wr (((w.alloc (.cells qZ5 37)).alloc (.cells #[.int .i64 0,.slice none 0 0,.bool false,.slice none 0 0,.slice none 0 0,.int .i64 0,.slice none 0 0,.bool false,.slice none 0 0,.slice none 0 0] 37)).alloc (.cells qZ5 37)) (w.heap.size+2) 0 [.int .i64 0,.slice none 0 0,.bool false,.slice (some ⟨w.heap.size+1,0,none⟩) 2 2,.slice none 0 0]):=⟨_,rfl⟩
 rw [← hw1] at hE1 hz1 hl1 ht1 hr1
 rw [← hw1]
 clear hw1
 have hU1:Upd (fun b=>b=w.heap.size+1∨b=w.heap.size+2) w1 w1:=Upd.refl _ _
 have hb1:=hE1.blk_some hb id
 repeat ((first|refine qA rfl ?_|apply qB|refine qC rfl ?_|apply qD|apply qE|apply qF|apply qG|apply qH);try simp (maxSteps:=1000000)(disch:=(first|omega|(simp only [qI,qJ,qK]<;>omega)|exact qL _)) only [go_sem,↓reduceIte,n0,reduceCtorEq,n1,n2,n3,n4,n5,i0,i1,i2,i3,i4,i5,i6,i7,hb1,hl1,ht1,hq0,hq1,hq2,hq3,hq4,hq5,hq6,hq7,hq8,hq9,hq10,hq11,hq12,hq13,hq14,hq15,hq16,hq17])
 refine W.drawR (.take 0 (.take 1 (.take 2 (.take 3 (.take 4 (.take 5 (.only 6 (.only 7 (.take 8 (.last 9)))))))))) (NoB) mixed (by kernel_rfl) ?_
 try simp (maxSteps:=1000000)(disch:=(first|omega|(simp only [qI,qJ,qK]<;>omega)|exact qL _)) only [go_sem,↓reduceIte,n0,reduceCtorEq,n1,n2,n3,n4,n5,i0,i1,i2,i3,i4,i5,i6,i7,hb1,hl1,ht1,hq0,hq1,hq2,hq3,hq4,hq5,hq6,hq7,hq8,hq9,hq10,hq11,hq12,hq13,hq14,hq15,hq16,hq17]
 have hbd2:blk w1.drew b=some x:=hb1
 have hc16_2:BytesV AnyB w1.drew (.slice (some ⟨b,o,none⟩) 16 16) (uuidS (t.at 0).s):=bytes_at hbd2 (uuidS_len _) fun j hj=>by
  rw [hZ0,show o+j=o+(0+j) from by omega]
  exact (hq (0+j) (by omega)).trans (get_mid (pre:=[]) (xs:=[z0_0,z0_1,z0_2,z0_3,z0_4,z0_5,z0_6,z0_7,z0_8,z0_9,z0_10,z0_11,z0_12,z0_13,z0_14,z0_15]) (post:=[.slice ab1 L1.length ac1,.map qm]) hj)
 refine wp_copyN ap_22_22 (ok:=AnyB) (s:=uuidS (t.at 0).s) (v:=.slice (some ⟨b,o,none⟩) 16 16) (by first|rfl|simp (maxSteps:=1000000)(disch:=(first|omega|(simp only [qI,qJ,qK]<;>omega)|exact qL _)) only [go_sem,↓reduceIte,n0,reduceCtorEq,n1,n2,n3,n4,n5,i0,i1,i2,i3,i4,i5,i6,i7]) (by first|rfl|simp (maxSteps:=1000000)(disch:=(first|omega|(simp only [qI,qJ,qK]<;>omega)|exact qL _)) only [go_sem,↓reduceIte,n0,reduceCtorEq,n1,n2,n3,n4,n5,i0,i1,i2,i3,i4,i5,i6,i7]) hc16_2 (by rw [uuidS_len];omega) ?_
 intro v2 w2 ho2 hEx2 hfr2
 obtain ⟨av2,kv2,rfl,_⟩:=ho2.shape
 have hB2:=Own.bytes (ok:=fun b=>w1.drew.heap.size≤b) ho2 fun b hb=>hfr2 b hb
 have hP2:Upd NoB w1.drew w2:=(Upd.refl _ _).trans (hEx2.mono fun _ h=>h.elim)
 have hsq2:=hEx2.size
 try simp only [size_drew] at hsq2
 refine ⟨hP2,?_⟩
 try simp (maxSteps:=1000000)(disch:=(first|omega|(simp only [qI,qJ,qK]<;>omega)|exact qL _)) only [go_sem,↓reduceIte,n0,reduceCtorEq,n1,n2,n3,n4,n5,i0,i1,i2,i3,i4,i5,i6,i7,hb1,hl1,ht1,hq0,hq1,hq2,hq3,hq4,hq5,hq6,hq7,hq8,hq9,hq10,hq11,hq12,hq13,hq14,hq15,hq16,hq17]
 refine ⟨hP2,?_⟩
 have hlq3:=hP2.blk_some (show blk w1.drew (w.heap.size+1)=_ from hl1) id
 have hx3:Upd (fun b=>b=w.heap.size+1∨b=w.heap.size+2) w1 w2:=((Upd.refl _ _).drew).trans (hP2.mono fun _ h=>h.elim)
 try simp (maxSteps:=1000000)(disch:=(first|omega|(simp only [qI,qJ,qK]<;>omega)|exact qL _)) only [go_sem,↓reduceIte,n0,reduceCtorEq,n1,n2,n3,n4,n5,i0,i1,i2,i3,i4,i5,i6,i7,hlq3]
 generalize hw3:wr w2 (w.heap.size+1) 0 [.int .i64 0,.slice av2 (uuidS (t.at 0).s).length kv2,.bool false,.slice none 0 0,.slice none 0 0] = w3
 have hl3:blk w3 (w.heap.size+1)=some (#[.int .i64 0,.slice av2 (uuidS (t.at 0).s).length kv2,.bool false,.slice none 0 0,.slice none 0 0,.int .i64 0,.slice none 0 0,.bool false,.slice none 0 0,.slice none 0 0],37,(0,0)):=by rw [← hw3,blk_wr_eq,hlq3];rfl
 have hv3:Upd (fun b=>b=w.heap.size+1∨b=w.heap.size+2) w2 w3:=by rw [← hw3];exact (Upd.refl _ _).wr _ _ (.inr (.inl rfl))
 have hV3:Upd (fun b=>b=w.heap.size+1∨b=w.heap.size+2) w1 w3:=hx3.trans hv3
 have hU3:Upd (fun b=>b=w.heap.size+1∨b=w.heap.size+2) w1 w3:=hU1.trans hV3
 have hz3:=hU3.size
 have hX3:Ext w w3:=hE1.more hU3 fun b hb h=>by omega
 have hb3:=hX3.blk_some hb id
 have ht3:blk w3 (w.heap.size+2)=some (#[.int .i64 0,.slice none 0 0,.bool false,.slice (some ⟨w.heap.size+1,0,none⟩) 2 2,.slice none 0 0],37,(0,0)):=by
  rw [← hw3,blk_wr_ne (by omega)]
  exact hP2.blk_some (show blk w1.drew (w.heap.size+2)=_ from ht1) id
 clear hw3
 have hf0:TreeC (fun b=>w1.heap.size≤b) w3 (.oct false (uuidS (t.at 0).s)) [.int .i64 0,.slice av2 (uuidS (t.at 0).s).length kv2,.bool false,.slice none 0 0,.slice none 0 0]:=(TreeC.keep (hv3.keeps fun b hb hk e=>by have hk':w1.heap.size≤b:=hk;omega) (TreeC.intro rfl (hB2.weaken fun b _ hk=>by have hk':w1.drew.heap.size≤b:=hk;(try simp only [size_drew] at hk');omega) (treesN _ _) (tagsN _ _):TreeC (fun b=>w1.heap.size≤b) w2 (.oct false (uuidS (t.at 0).s)) [.int .i64 0,.slice av2 (uuidS (t.at 0).s).length kv2,.bool false,.slice none 0 0,.slice none 0 0]))
 repeat ((first|refine qA rfl ?_|apply qB|refine qC rfl ?_|apply qD|apply qE|apply qF|apply qG|apply qH);try simp (maxSteps:=1000000)(disch:=(first|omega|(simp only [qI,qJ,qK]<;>omega)|exact qL _)) only [go_sem,↓reduceIte,n0,reduceCtorEq,n1,n2,n3,n4,n5,i0,i1,i2,i3,i4,i5,i6,i7,hb3,hl3,ht3,hq0,hq1,hq2,hq3,hq4,hq5,hq6,hq7,hq8,hq9,hq10,hq11,hq12,hq13,hq14,hq15,hq16,hq17])
 refine W.drawR (.take 0 (.take 1 (.take 2 (.take 3 (.take 4 (.take 5 (.take 6 (.take 7 (.take 8 (.last 9)))))))))) (NoB) mixed (by kernel_rfl) ?_
 try simp (maxSteps:=1000000)(disch:=(first|omega|(simp only [qI,qJ,qK]<;>omega)|exact qL _)) only [go_sem,↓reduceIte,n0,reduceCtorEq,n1,n2,n3,n4,n5,i0,i1,i2,i3,i4,i5,i6,i7,hb3,hl3,ht3,hq0,hq1,hq2,hq3,hq4,hq5,hq6,hq7,hq8,hq9,hq10,hq11,hq12,hq13,hq14,hq15,hq16,hq17,hnn1]
 generalize hw4:wr w3.drew (w.heap.size+1) 7 [.bool (t.at 1).null] = w4
 have hl4:blk w4 (w.heap.size+1)=some (#[.int .i64 0,.slice av2 (uuidS (t.at 0).s).length kv2,.bool false,.slice none 0 0,.slice none 0 0,.int .i64 0,.slice none 0 0,.bool (t.at 1).null,.slice none 0 0,.slice none 0 0],37,(0,0)):=by rw [← hw4,blk_wr_eq,show blk w3.drew (w.heap.size+1)=_ from hl3];rfl
 have hV4:Upd (fun b=>b=w.heap.size+1∨b=w.heap.size+2) w3 w4:=by rw [← hw4];exact ((Upd.refl _ _).drew).wr _ _ (.inr (.inl rfl))
 have hU4:Upd (fun b=>b=w.heap.size+1∨b=w.heap.size+2) w1 w4:=hU3.trans hV4
 have hz4:=hU4.size
 have hX4:Ext w w4:=hE1.more hU4 fun b hb h=>by omega
 have hb4:=hX4.blk_some hb id
 have ht4:blk w4 (w.heap.size+2)=some (#[.int .i64 0,.slice none 0 0,.bool false,.slice (some ⟨w.heap.size+1,0,none⟩) 2 2,.slice none 0 0],37,(0,0)):=by
  rw [← hw4,blk_wr_ne (by omega)]
  exact ht3
 clear hw4
 repeat ((first|refine qA rfl ?_|apply qB|refine qC rfl ?_|apply qD|apply qE|apply qF|apply qG|apply qH);try simp (maxSteps:=1000000)(disch:=(first|omega|(simp only [qI,qJ,qK]<;>omega)|exact qL _)) only [go_sem,↓reduceIte,n0,reduceCtorEq,n1,n2,n3,n4,n5,i0,i1,i2,i3,i4,i5,i6,i7,hb4,hl4,ht4,hq0,hq1,hq2,hq3,hq4,hq5,hq6,hq7,hq8,hq9,hq10,hq11,hq12,hq13,hq14,hq15,hq16,hq17])
 refine W.exitJ 0 (EndQ [(0,.pointer (some ⟨b,o,none⟩)),(2,.pointer (some ⟨w.heap.size,0,none⟩)),(3,.pointer (some ⟨w.heap.size+2,0,none⟩)),(29,.int .i64 L1.length)] (fun w'=>∃ v,blk w' (w.heap.size+1)=some (#[.int .i64 0,.slice av2 (uuidS (t.at 0).s).length kv2,.bool false,.slice none 0 0,.slice none 0 0,.int .i64 0,.slice none 0 0,.bool (t.at 1).null,v,.slice none 0 0],37,(0,0))∧GrowT (fun b=>w1.heap.size≤b) w4.heap.size (w.heap.size+1) w' 37 v (L1.map (tl1 (tlP d) fX0_1.of fX0_1.sub))∧Upd (fun b=>b=w.heap.size+1) w4 w')) (W.loop (LoopL [(0,.pointer (some ⟨b,o,none⟩)),(2,.pointer (some ⟨w.heap.size,0,none⟩)),(3,.pointer (some ⟨w.heap.size+2,0,none⟩)),(29,.int .i64 L1.length)] 30 (fun j w'=>∃ v,j≤L1.length∧blk w' (w.heap.size+1)=some (#[.int .i64 0,.slice av2 (uuidS (t.at 0).s).length kv2,.bool false,.slice none 0 0,.slice none 0 0,.int .i64 0,.slice none 0 0,.bool (t.at 1).null,v,.slice none 0 0],37,(0,0))∧GrowT (fun b=>w1.heap.size≤b) w4.heap.size (w.heap.size+1) w' 37 v ((L1.take j).map (tl1 (tlP d) fX0_1.of fX0_1.sub))∧Upd (fun b=>b=w.heap.size+1) w4 w')) (fun ρ _=>L1.length - (RowKit.intOf (ρ 30)).toNat) ?_ ?_) ?_
 ·exact ⟨(by simp (maxSteps:=1000000)(disch:=(first|omega|(simp only [qI,qJ,qK]<;>omega)|exact qL _)) only [go_sem,↓reduceIte,n0,reduceCtorEq,n1,n2,n3,n4,n5,i0,i1,i2,i3,i4,i5,i6,i7,Holds_nil,Holds_cons]),0,(by simp (maxSteps:=1000000)(disch:=(first|omega|(simp only [qI,qJ,qK]<;>omega)|exact qL _)) only [go_sem,↓reduceIte,n0,reduceCtorEq,n1,n2,n3,n4,n5,i0,i1,i2,i3,i4,i5,i6,i7];all_goals rfl),.slice none 0 0,Nat.zero_le _,hl4,GrowT.nil _ _ _ _ _,Upd.refl _ _⟩
 ·rintro ρ w5 ⟨⟨hrc1_0,hrc1_2,hrc1_3,hrc1_29,-⟩,j,hri,v,hj,hl5,hg,hUk⟩
  have hzk:=hUk.size
  have hX5:Ext w w5:=hX4.more hUk fun b hb h=>by omega
  have hz5:w1.heap.size≤w5.heap.size:=by have:=hz4;omega
  have hb5:=hX5.blk_some hb id
  have ht5:=hUk.blk_some ht4 (by omega)
  by_cases hlt:j < L1.length
  ·obtain ⟨_,be,oe,xe,ce,hbe,hoke,hxe,hble,hxs,hxx,hqe,hRe⟩:=SlR.get (size:=1) (by decide) hs1 hlt
   subst hbe
   have hcat:L1.take (j+1)=L1.take j++[L1[j]]:=List.take_succ_eq_append_getElem hlt
   have hgy:=hgl1.2 _ (List.getElem_mem hlt)
   have hll:=hgl1.1
   obtain ⟨av,kv,hvs,_⟩:=hg.shape
   have hlj:(List.map (tl1 (tlP d) fX0_1.of fX0_1.sub) (L1.take j)).length=j:=by simp;omega
   rw [hlj] at hvs
   subst hvs
   have hnb:∀ b,b < w4.heap.size∨w5.heap.size≤b→¬ ownB (.slice av j kv) b:=fun b hb h=>by
    have:=hg.above h
    have:=hg.below h
    omega
   generalize L1[j] = y at *
   obtain rfl:=(Rep1_num (by decide)).1 hRe
   have hqe0:xe.1[oe+j]? = some (.int .i32 (IntKind.i32.wrap y.n)):=by have:=hqe 0 (by decide);rw [Nat.mul_one] at this;exact this
   repeat ((first|refine qA rfl ?_|apply qB|refine qC rfl ?_|apply qD|apply qE|apply qF|apply qG|apply qH);try simp (maxSteps:=1000000)(disch:=(first|omega|(simp only [qI,qJ,qK]<;>omega)|exact qL _)) only [go_sem,↓reduceIte,n0,reduceCtorEq,n1,n2,n3,n4,n5,i0,i1,i2,i3,i4,i5,i6,i7,hb5,hl5,ht5,hq0,hq1,hq2,hq3,hq4,hq5,hq6,hq7,hq8,hq9,hq10,hq11,hq12,hq13,hq14,hq15,hq16,hq17,hrc1_0,hrc1_2,hrc1_3,hrc1_29,hri])
   refine W.drawR (.only 0 (.two 1 (.only 2 (.only 3 .done)) 2 (.only 1 (.only 3 .done)))) NoB mixed (by kernel_rfl) ?_
   try simp (maxSteps:=1000000)(disch:=(first|omega|(simp only [qI,qJ,qK]<;>omega)|exact qL _)) only [go_sem,↓reduceIte,n0,reduceCtorEq,n1,n2,n3,n4,n5,i0,i1,i2,i3,i4,i5,i6,i7,hb5,hl5,ht5,hq0,hq1,hq2,hq3,hq4,hq5,hq6,hq7,hq8,hq9,hq10,hq11,hq12,hq13,hq14,hq15,hq16,hq17,hrc1_0,hrc1_2,hrc1_3,hrc1_29,hri]
   have q0:Upd NoB w5.drew (w5.alloc (.cells #[.bool false] 4)).drew:=show Upd NoB w5.drew (w5.drew.alloc (.cells #[.bool false] 4)) from Upd.alloc (Upd.refl _ _) _
   have q1:Upd NoB w5.drew (wr (w5.alloc (.cells #[.bool false] 4)).drew w5.heap.size 0 [.bool true]):=q0.wr _ _ (.inl (Nat.le_refl _))
   have q2:Upd NoB w5.drew (wr (wr (w5.alloc (.cells #[.bool false] 4)).drew w5.heap.size 0 [.bool true]) w5.heap.size 0 [.bool false]):=q1.wr _ _ (.inl (Nat.le_refl _))
   have q3:Upd NoB w5.drew (wr (w5.alloc (.cells #[.bool false] 4)).drew w5.heap.size 0 [.bool false]):=q0.wr _ _ (.inl (Nat.le_refl _))
   have q4:Upd NoB w5.drew (wr (wr (w5.alloc (.cells #[.bool false] 4)).drew w5.heap.size 0 [.bool false]) w5.heap.size 0 [.bool true]):=q3.wr _ _ (.inl (Nat.le_refl _))
   refine ⟨q0,⟨q1,q2,q2,?_⟩,⟨q3,q4,q4,?_⟩⟩
   ·have hk6:Ext w5 (wr (wr (w5.alloc (.cells #[.bool false] 4)).drew w5.heap.size 0 [.bool true]) w5.heap.size 0 [.bool false]):=((Upd.refl _ _).drew).trans q2
    generalize (wr (wr (w5.alloc (.cells #[.bool false] 4)).drew w5.heap.size 0 [.bool true]) w5.heap.size 0 [.bool false])=w6 at *
    have hzk6:=hk6.size
    have hX6:Ext w w6:=hX5.trans hk6
    have hb6:=hk6.blk_some hb5 id
    have hl6:=hk6.blk_some hl5 id
    have ht6:=hk6.blk_some ht5 id
    have hxe6:=hX6.blk_some hxe id
    repeat ((first|refine qA rfl ?_|apply qB|refine qC rfl ?_|apply qD|apply qE|apply qF|apply qG|apply qH);try simp (maxSteps:=1000000)(disch:=(first|omega|(simp only [qI,qJ,qK]<;>omega)|exact qL _)) only [go_sem,↓reduceIte,n0,reduceCtorEq,n1,n2,n3,n4,n5,i0,i1,i2,i3,i4,i5,i6,i7,hb6,hl6,ht6,hxe6,Int.toNat_natCast,Nat.mul_one,hq0,hq1,hq2,hq3,hq4,hq5,hq6,hq7,hq8,hq9,hq10,hq11,hq12,hq13,hq14,hq15,hq16,hq17,hqe0,tl32,hrc1_0,hrc1_2,hrc1_3,hrc1_29,hri])
    refine W.drawR (.take 0 (.take 1 (.take 2 (.take 3 (.take 4 (.take 5 (.take 6 (.take 7 (.take 8 (.take 9 (.take 10 (.take 11 (.take 12 (.take 13 (.take 14 (.only 15 (.only 16 (.only 17 (.take 18 (.take 19 (.last 20))))))))))))))))))))) (ownB (.slice av j kv)) mixed (by kernel_rfl) ?_
    try simp (maxSteps:=1000000)(disch:=(first|omega|(simp only [qI,qJ,qK]<;>omega)|exact qL _|(refine hnb _ ?_;first|omega|(simp only [World.size_alloc,size_wr,size_drew]<;>omega)))) only [go_sem,↓reduceIte,n0,reduceCtorEq,n1,n2,n3,n4,n5,i0,i1,i2,i3,i4,i5,i6,i7,hb6,hl6,ht6,hxe6,Int.toNat_natCast,Nat.mul_one,hq0,hq1,hq2,hq3,hq4,hq5,hq6,hq7,hq8,hq9,hq10,hq11,hq12,hq13,hq14,hq15,hq16,hq17,hqe0,tl32,hrc1_0,hrc1_2,hrc1_3,hrc1_29,hri]
    refine ⟨Upd.refl _ _,?_⟩
    have hP7:Upd (ownB (.slice av j kv)) w6.drew (w6.alloc (.cells #[.int .i64 (IntKind.i32.wrap y.n),.slice none 0 0,.bool false,.slice none 0 0,.slice none 0 0] 37)).drew:=show Upd (ownB (.slice av j kv)) w6.drew (w6.drew.alloc (.cells #[.int .i64 (IntKind.i32.wrap y.n),.slice none 0 0,.bool false,.slice none 0 0,.slice none 0 0] 37)) from (Upd.refl _ _).alloc _
    have hn7:blk (w6.alloc (.cells #[.int .i64 (IntKind.i32.wrap y.n),.slice none 0 0,.bool false,.slice none 0 0,.slice none 0 0] 37)).drew w6.drew.heap.size=some (#[.int .i64 (IntKind.i32.wrap y.n),.slice none 0 0,.bool false,.slice none 0 0,.slice none 0 0],37,(0,0)):=show blk (w6.drew.alloc (.cells #[.int .i64 (IntKind.i32.wrap y.n),.slice none 0 0,.bool false,.slice none 0 0,.slice none 0 0] 37)) w6.drew.heap.size=some (#[.int .i64 (IntKind.i32.wrap y.n),.slice none 0 0,.bool false,.slice none 0 0,.slice none 0 0],37,(0,0)) from blk_alloc_new rfl
    have hsq7:(w6.alloc (.cells #[.int .i64 (IntKind.i32.wrap y.n),.slice none 0 0,.bool false,.slice none 0 0,.slice none 0 0] 37)).drew.heap.size=w6.drew.heap.size+1:=show (w6.drew.alloc (.cells #[.int .i64 (IntKind.i32.wrap y.n),.slice none 0 0,.bool false,.slice none 0 0,.slice none 0 0] 37)).heap.size=w6.drew.heap.size+1 from World.size_alloc _ _
    have hEx7:Ext w6.drew (w6.alloc (.cells #[.int .i64 (IntKind.i32.wrap y.n),.slice none 0 0,.bool false,.slice none 0 0,.slice none 0 0] 37)).drew:=show Ext w6.drew (w6.drew.alloc (.cells #[.int .i64 (IntKind.i32.wrap y.n),.slice none 0 0,.bool false,.slice none 0 0,.slice none 0 0] 37)) from Upd.alloc (Upd.refl _ _) _
    refine ⟨hP7,?_⟩
    try simp only [List.append_nil]
    generalize (w6.alloc (.cells #[.int .i64 (IntKind.i32.wrap y.n),.slice none 0 0,.bool false,.slice none 0 0,.slice none 0 0] 37)).drew=w7 at *
    try simp only [size_drew] at hsq7
    have hEw8:Ext w5 w7:=(hk6.drew.trans hEx7)
    have hzw8:=hEw8.size
    obtain ⟨css,hown,hall⟩:=(hg.ext hEw8).ex
    have hcl:=hall.1
    rw [hlj] at hcl
    have hx8:TreeC (fun b=>(fun b=>w1.heap.size≤b) b∧b≠w.heap.size+1∧¬ ownB (.slice av j kv) b) w7 ((tl1 (tlP d) fX0_1.of fX0_1.sub) y) [.int .i64 (IntKind.i32.wrap y.n),.slice none 0 0,.bool false,.slice none 0 0,.slice none 0 0]:=by
     exact TreeC.weaken (fun b _ hk=>⟨by omega,by omega,hnb b (.inr (by omega))⟩) (TreeC.intro (tl32 _) (BytesV.nil _ _) (treesN _ _) (tagsN _ _):TreeC (fun b=>w5.heap.size≤b) _ (.num (IntKind.i32.wrap y.n)) [.int .i64 (IntKind.i32.wrap y.n),.slice none 0 0,.bool false,.slice none 0 0,.slice none 0 0])
    refine wp_append ap_34_34 (m:=1) (news:=[.int .i64 (IntKind.i32.wrap y.n),.slice none 0 0,.bool false,.slice none 0 0,.slice none 0 0]) (n:=css.length) (cs:=css.flatten) (v:=(.slice av j kv)) ?_ rfl hown.1 (all2_flat_tree hall) (Src.blk (fr:=(0,0)) (T:=37) hn7 rfl rfl) ?_ ?_ ?_
    ·first|rfl|simp (maxSteps:=1000000)(disch:=(first|omega|(simp only [qI,qJ,qK]<;>omega)|exact qL _)) only [go_sem,↓reduceIte,n0,reduceCtorEq,n1,n2,n3,n4,n5,i0,i1,i2,i3,i4,i5,i6,i7]
    ·omega
    ·omega
    intro v' w8 ho hu hfr
    have hP8:=(hP7:Upd (ownB (.slice av j kv)) w6.drew w7).trans hu
    have hzq8:=hP8.size
    simp only [size_drew] at hzq8
    have hlq8:=hP8.blk_some (show blk w6.drew (w.heap.size+1)=_ from hl6) (hnb _ (.inl (by omega)))
    have hg':=GrowT.snoc hown hall hx8 hu hfr ho
    obtain ⟨va,vc,hv',_⟩:=ho.shape
    subst hv'
    have hne:¬ ownB (.slice va (css.length+1) vc) (w.heap.size+1):=fun h=>(hfr _ h).elim (hnb _ (.inl (by omega))) (fun h=>by omega)
    refine ⟨hP8,?_⟩
    try simp (maxSteps:=1000000)(disch:=(first|omega|(simp only [qI,qJ,qK]<;>omega)|exact qL _|(refine hnb _ ?_;first|omega|(simp only [World.size_alloc,size_wr,size_drew]<;>omega)))) only [go_sem,↓reduceIte,n0,reduceCtorEq,n1,n2,n3,n4,n5,i0,i1,i2,i3,i4,i5,i6,i7,hlq8,Int.toNat_natCast,Nat.mul_one,hrc1_0,hrc1_2,hrc1_3,hrc1_29,hri]
    repeat ((first|refine qA rfl ?_|apply qB|refine qC rfl ?_|apply qD|apply qE|apply qF|apply qG|apply qH);try simp (maxSteps:=1000000)(disch:=(first|omega|(simp only [qI,qJ,qK]<;>omega)|exact qL _)) only [go_sem,↓reduceIte,n0,reduceCtorEq,n1,n2,n3,n4,n5,i0,i1,i2,i3,i4,i5,i6,i7,hlq8,Int.toNat_natCast,Nat.mul_one,hrc1_0,hrc1_2,hrc1_3,hrc1_29,hri])
    refine ⟨⟨(by simp (maxSteps:=1000000)(disch:=(first|omega|(simp only [qI,qJ,qK]<;>omega)|exact qL _)) only [go_sem,↓reduceIte,n0,reduceCtorEq,n1,n2,n3,n4,n5,i0,i1,i2,i3,i4,i5,i6,i7,Holds_nil,Holds_cons,hrc1_0,hrc1_2,hrc1_3,hrc1_29,hri]),j+1,(by simp (maxSteps:=1000000)(disch:=(first|omega|(simp only [qI,qJ,qK]<;>omega)|exact qL _)) only [go_sem,↓reduceIte,n0,reduceCtorEq,n1,n2,n3,n4,n5,i0,i1,i2,i3,i4,i5,i6,i7,hrc1_0,hrc1_2,hrc1_3,hrc1_29,hri];all_goals rfl),.slice va (css.length+1) vc,by omega,?_,?_,?_⟩,?_⟩
    ·rw [blk_wr_eq,hlq8];rfl
    ·rw [hcat,List.map_append];exact hg'.upd ((Upd.refl _ _).wr _ _ (.inr rfl)) hne
    ·refine Upd.wr ?_ _ _ (.inr rfl)
     exact (hUk.more ((hEw8.mono fun _ h=>h.elim).trans hu) fun b hb h=>absurd h (hnb b (.inl hb)))
    ·try simp (maxSteps:=1000000)(disch:=(first|omega|(simp only [qI,qJ,qK]<;>omega)|exact qL _)) only [go_sem,↓reduceIte,n0,reduceCtorEq,n1,n2,n3,n4,n5,i0,i1,i2,i3,i4,i5,i6,i7,hrc1_0,hrc1_2,hrc1_3,hrc1_29,hri]
     simp only [RowKit.intOf];omega
   ·have hk9:Ext w5 (wr (wr (w5.alloc (.cells #[.bool false] 4)).drew w5.heap.size 0 [.bool false]) w5.heap.size 0 [.bool true]):=((Upd.refl _ _).drew).trans q4
    generalize (wr (wr (w5.alloc (.cells #[.bool false] 4)).drew w5.heap.size 0 [.bool false]) w5.heap.size 0 [.bool true])=w9 at *
    have hzk9:=hk9.size
    have hX9:Ext w w9:=hX5.trans hk9
    have hb9:=hk9.blk_some hb5 id
    have hl9:=hk9.blk_some hl5 id
    have ht9:=hk9.blk_some ht5 id
    have hxe9:=hX9.blk_some hxe id
    repeat ((first|refine qA rfl ?_|apply qB|refine qC rfl ?_|apply qD|apply qE|apply qF|apply qG|apply qH);try simp (maxSteps:=1000000)(disch:=(first|omega|(simp only [qI,qJ,qK]<;>omega)|exact qL _)) only [go_sem,↓reduceIte,n0,reduceCtorEq,n1,n2,n3,n4,n5,i0,i1,i2,i3,i4,i5,i6,i7,hb9,hl9,ht9,hxe9,Int.toNat_natCast,Nat.mul_one,hq0,hq1,hq2,hq3,hq4,hq5,hq6,hq7,hq8,hq9,hq10,hq11,hq12,hq13,hq14,hq15,hq16,hq17,hqe0,tl32,hrc1_0,hrc1_2,hrc1_3,hrc1_29,hri])
    refine W.drawR (.take 0 (.take 1 (.take 2 (.take 3 (.take 4 (.take 5 (.take 6 (.take 7 (.take 8 (.take 9 (.take 10 (.take 11 (.take 12 (.take 14 (.two 13 (.only 15 (.only 16 (.take 17 (.take 18 (.last 19))))) 15 (.only 13 (.only 16 (.take 17 (.take 18 (.last 19)))))))))))))))))))) (ownB (.slice av j kv)) mixed (by kernel_rfl) ?_
    try simp (maxSteps:=1000000)(disch:=(first|omega|(simp only [qI,qJ,qK]<;>omega)|exact qL _|(refine hnb _ ?_;first|omega|(simp only [World.size_alloc,size_wr,size_drew]<;>omega)))) only [go_sem,↓reduceIte,n0,reduceCtorEq,n1,n2,n3,n4,n5,i0,i1,i2,i3,i4,i5,i6,i7,hb9,hl9,ht9,hxe9,Int.toNat_natCast,Nat.mul_one,hq0,hq1,hq2,hq3,hq4,hq5,hq6,hq7,hq8,hq9,hq10,hq11,hq12,hq13,hq14,hq15,hq16,hq17,hqe0,tl32,hrc1_0,hrc1_2,hrc1_3,hrc1_29,hri]
    refine ⟨?_,?_⟩
    ·skip
     refine ⟨Upd.refl _ _,?_⟩
     have hP10:Upd (ownB (.slice av j kv)) w9.drew (w9.alloc (.cells qZ5 37)).drew:=show Upd (ownB (.slice av j kv)) w9.drew (w9.drew.alloc (.cells qZ5 37)) from (Upd.refl _ _).alloc _
     have hn10:blk (w9.alloc (.cells qZ5 37)).drew w9.drew.heap.size=some (qZ5,37,(0,0)):=show blk (w9.drew.alloc (.cells qZ5 37)) w9.drew.heap.size=some (qZ5,37,(0,0)) from blk_alloc_new rfl
     have hsq10:(w9.alloc (.cells qZ5 37)).drew.heap.size=w9.drew.heap.size+1:=show (w9.drew.alloc (.cells qZ5 37)).heap.size=w9.drew.heap.size+1 from World.size_alloc _ _
     have hEx10:Ext w9.drew (w9.alloc (.cells qZ5 37)).drew:=show Ext w9.drew (w9.drew.alloc (.cells qZ5 37)) from Upd.alloc (Upd.refl _ _) _
     refine ⟨hP10,?_⟩
     try simp only [List.append_nil]
     generalize (w9.alloc (.cells qZ5 37)).drew=w10 at *
     try simp only [size_drew] at hsq10
     have hEw11:Ext w5 w10:=(hk9.drew.trans hEx10)
     have hzw11:=hEw11.size
     obtain ⟨css,hown,hall⟩:=(hg.ext hEw11).ex
     have hcl:=hall.1
     rw [hlj] at hcl
     have hx11:TreeC (fun b=>(fun b=>w1.heap.size≤b) b∧b≠w.heap.size+1∧¬ ownB (.slice av j kv) b) w10 ((tl1 (tlP d) fX0_1.of fX0_1.sub) y) [.int .i64 (IntKind.i32.wrap y.n),.slice none 0 0,.bool false,.slice none 0 0,.slice none 0 0]:=by
      exact TreeC.weaken (fun b _ hk=>⟨by omega,by omega,hnb b (.inr (by omega))⟩) (TreeC.intro (tl32 _) (BytesV.nil _ _) (treesN _ _) (tagsN _ _):TreeC (fun b=>w5.heap.size≤b) _ (.num (IntKind.i32.wrap y.n)) [.int .i64 (IntKind.i32.wrap y.n),.slice none 0 0,.bool false,.slice none 0 0,.slice none 0 0])
     refine wp_append ap_34_34 (m:=1) (news:=[.int .i64 0,.slice none 0 0,.bool false,.slice none 0 0,.slice none 0 0]) (n:=css.length) (cs:=css.flatten) (v:=(.slice av j kv)) ?_ rfl hown.1 (all2_flat_tree hall) (Src.blk (fr:=(0,0)) (T:=37) hn10 rfl rfl) ?_ ?_ ?_
     ·first|rfl|simp (maxSteps:=1000000)(disch:=(first|omega|(simp only [qI,qJ,qK]<;>omega)|exact qL _)) only [go_sem,↓reduceIte,n0,reduceCtorEq,n1,n2,n3,n4,n5,i0,i1,i2,i3,i4,i5,i6,i7]
     ·omega
     ·omega
     intro v' w11 ho hu hfr
     have hP11:=(hP10:Upd (ownB (.slice av j kv)) w9.drew w10).trans hu
     have hzq11:=hP11.size
     simp only [size_drew] at hzq11
     have hlq11:=hP11.blk_some (show blk w9.drew (w.heap.size+1)=_ from hl9) (hnb _ (.inl (by omega)))
     rcases ho.2 with ⟨_,h⟩|⟨g,cap,rest,fr,hv',hg',hbg,hlen,hth,hle⟩
     ·exact absurd h (Nat.succ_ne_zero _)
     subst hv'
     have hgne:¬ g=w.heap.size+1:=fun h=>(hfr g ⟨_,_,_,rfl,rfl⟩).elim (fun h'=>hnb _ (.inl (by omega)) (h ▸ h')) (fun h'=>by omega)
     have hfl:css.flatten.length=css.length * 5:=flatten_len hown.2
     have hlen2:(css.flatten++([.int .i64 0,.slice none 0 0,.bool false,.slice none 0 0,.slice none 0 0]:List Value)++rest).length=cap * 5:=by simp only [List.length_append] at hlen ⊢;omega
     obtain ⟨XX,hXX⟩:∃ X:Array Value,X=(css.flatten++([.int .i64 0,.slice none 0 0,.bool false,.slice none 0 0,.slice none 0 0]:List Value)++rest).toArray:=⟨_,rfl⟩
     have hbgX:blk w11 g=some (XX,37,fr):=by rw [hXX];exact hbg
     have hXsz:XX.size=cap * 5:=by rw [hXX,List.size_toArray];exact hlen2
     have hth2:thaw fr (css.length * 5) 5=true:=thaw_of hth (by omega)
     have hst:css.length * 5+5≤XX.size:=by omega
     have hset:=Own.setlast (cs:=[.int .i64 (IntKind.i32.wrap y.n),.slice none 0 0,.bool false,.slice none 0 0,.slice none 0 0]) ho rfl rfl
     have hu2:Upd (ownB (.slice av j kv)) w10 (wr w11 g (css.length * 5) [.int .i64 (IntKind.i32.wrap y.n),.slice none 0 0,.bool false,.slice none 0 0,.slice none 0 0]):=hu.wr _ _ ((hfr g ⟨_,_,_,rfl,rfl⟩).symm)
     have hg2:=GrowT.snoc hown hall hx11 hu2 hfr hset
     have hcj:css.length=j:=by first|exact hcl.symm.trans hlj|omega
     simp only [hcj] at hth2 hst hset hu2 hg2
     refine ⟨hP11,?_⟩
     try simp (maxSteps:=1000000)(disch:=(first|omega|(simp only [qI,qJ,qK]<;>omega)|exact qL _|(refine hnb _ ?_;first|omega|(simp only [World.size_alloc,size_wr,size_drew]<;>omega)))) only [go_sem,↓reduceIte,n0,reduceCtorEq,n1,n2,n3,n4,n5,i0,i1,i2,i3,i4,i5,i6,i7,hlq11,hbgX,hth2,hst,hcj,Int.toNat_natCast,Nat.mul_one,hrc1_0,hrc1_2,hrc1_3,hrc1_29,hri]
     repeat ((first|refine qA rfl ?_|apply qB|refine qC rfl ?_|apply qD|apply qE|apply qF|apply qG|apply qH);try simp (maxSteps:=1000000)(disch:=(first|omega|(simp only [qI,qJ,qK]<;>omega)|exact qL _)) only [go_sem,↓reduceIte,n0,reduceCtorEq,n1,n2,n3,n4,n5,i0,i1,i2,i3,i4,i5,i6,i7,hlq11,hbgX,hth2,hst,hcj,Int.toNat_natCast,Nat.mul_one,hrc1_0,hrc1_2,hrc1_3,hrc1_29,hri])
     refine ⟨⟨(by simp (maxSteps:=1000000)(disch:=(first|omega|(simp only [qI,qJ,qK]<;>omega)|exact qL _)) only [go_sem,↓reduceIte,n0,reduceCtorEq,n1,n2,n3,n4,n5,i0,i1,i2,i3,i4,i5,i6,i7,Holds_nil,Holds_cons,hrc1_0,hrc1_2,hrc1_3,hrc1_29,hri]),j+1,(by simp (maxSteps:=1000000)(disch:=(first|omega|(simp only [qI,qJ,qK]<;>omega)|exact qL _)) only [go_sem,↓reduceIte,n0,reduceCtorEq,n1,n2,n3,n4,n5,i0,i1,i2,i3,i4,i5,i6,i7,hrc1_0,hrc1_2,hrc1_3,hrc1_29,hri];all_goals rfl),.slice (some ⟨g,0,none⟩) (j+1) cap,by omega,?_,?_,?_⟩,?_⟩
     ·rw [blk_wr_ne (by omega),blk_wr_eq,hlq11];rfl
     ·rw [hcat,List.map_append,wr_comm (Ne.symm hgne)]
      exact hg2.upd ((Upd.refl _ _).wr _ _ (.inr rfl)) (fun h=>hgne (ownB_row h).symm)
     ·rw [wr_comm (Ne.symm hgne)]
      refine Upd.wr ?_ _ _ (.inr rfl)
      exact (hUk.more ((hEw11.mono fun _ h=>h.elim).trans hu2) fun b hb h=>absurd h (hnb b (.inl hb)))
     ·try simp (maxSteps:=1000000)(disch:=(first|omega|(simp only [qI,qJ,qK]<;>omega)|exact qL _)) only [go_sem,↓reduceIte,n0,reduceCtorEq,n1,n2,n3,n4,n5,i0,i1,i2,i3,i4,i5,i6,i7,hrc1_0,hrc1_2,hrc1_3,hrc1_29,hri]
      simp only [RowKit.intOf];omega
    ·skip
     have hP12:Upd (ownB (.slice av j kv)) w9.drew (w9.alloc (.cells qZ5 37)).drew:=show Upd (ownB (.slice av j kv)) w9.drew (w9.drew.alloc (.cells qZ5 37)) from (Upd.refl _ _).alloc _
     have hn12:blk (w9.alloc (.cells qZ5 37)).drew w9.drew.heap.size=some (qZ5,37,(0,0)):=show blk (w9.drew.alloc (.cells qZ5 37)) w9.drew.heap.size=some (qZ5,37,(0,0)) from blk_alloc_new rfl
     have hsq12:(w9.alloc (.cells qZ5 37)).drew.heap.size=w9.drew.heap.size+1:=show (w9.drew.alloc (.cells qZ5 37)).heap.size=w9.drew.heap.size+1 from World.size_alloc _ _
     have hEx12:Ext w9.drew (w9.alloc (.cells qZ5 37)).drew:=show Ext w9.drew (w9.drew.alloc (.cells qZ5 37)) from Upd.alloc (Upd.refl _ _) _
     refine ⟨hP12,?_⟩
     try simp only [List.append_nil]
     generalize (w9.alloc (.cells qZ5 37)).drew=w12 at *
     try simp only [size_drew] at hsq12
     refine ⟨hP12,?_⟩
     have hEw13:Ext w5 w12:=(hk9.drew.trans hEx12)
     have hzw13:=hEw13.size
     obtain ⟨css,hown,hall⟩:=(hg.ext hEw13).ex
     have hcl:=hall.1
     rw [hlj] at hcl
     have hx13:TreeC (fun b=>(fun b=>w1.heap.size≤b) b∧b≠w.heap.size+1∧¬ ownB (.slice av j kv) b) w12 ((tl1 (tlP d) fX0_1.of fX0_1.sub) y) [.int .i64 (IntKind.i32.wrap y.n),.slice none 0 0,.bool false,.slice none 0 0,.slice none 0 0]:=by
      exact TreeC.weaken (fun b _ hk=>⟨by omega,by omega,hnb b (.inr (by omega))⟩) (TreeC.intro (tl32 _) (BytesV.nil _ _) (treesN _ _) (tagsN _ _):TreeC (fun b=>w5.heap.size≤b) _ (.num (IntKind.i32.wrap y.n)) [.int .i64 (IntKind.i32.wrap y.n),.slice none 0 0,.bool false,.slice none 0 0,.slice none 0 0])
     refine wp_append ap_34_34 (m:=1) (news:=[.int .i64 0,.slice none 0 0,.bool false,.slice none 0 0,.slice none 0 0]) (n:=css.length) (cs:=css.flatten) (v:=(.slice av j kv)) ?_ rfl hown.1 (all2_flat_tree hall) (Src.blk (fr:=(0,0)) (T:=37) hn12 rfl rfl) ?_ ?_ ?_
     ·first|rfl|simp (maxSteps:=1000000)(disch:=(first|omega|(simp only [qI,qJ,qK]<;>omega)|exact qL _)) only [go_sem,↓reduceIte,n0,reduceCtorEq,n1,n2,n3,n4,n5,i0,i1,i2,i3,i4,i5,i6,i7]
     ·omega
     ·omega
     intro v' w13 ho hu hfr
     have hP13:=(hP12:Upd (ownB (.slice av j kv)) w9.drew w12).trans hu
     have hzq13:=hP13.size
     simp only [size_drew] at hzq13
     have hlq13:=hP13.blk_some (show blk w9.drew (w.heap.size+1)=_ from hl9) (hnb _ (.inl (by omega)))
     rcases ho.2 with ⟨_,h⟩|⟨g,cap,rest,fr,hv',hg',hbg,hlen,hth,hle⟩
     ·exact absurd h (Nat.succ_ne_zero _)
     subst hv'
     have hgne:¬ g=w.heap.size+1:=fun h=>(hfr g ⟨_,_,_,rfl,rfl⟩).elim (fun h'=>hnb _ (.inl (by omega)) (h ▸ h')) (fun h'=>by omega)
     have hfl:css.flatten.length=css.length * 5:=flatten_len hown.2
     have hlen2:(css.flatten++([.int .i64 0,.slice none 0 0,.bool false,.slice none 0 0,.slice none 0 0]:List Value)++rest).length=cap * 5:=by simp only [List.length_append] at hlen ⊢;omega
     obtain ⟨XX,hXX⟩:∃ X:Array Value,X=(css.flatten++([.int .i64 0,.slice none 0 0,.bool false,.slice none 0 0,.slice none 0 0]:List Value)++rest).toArray:=⟨_,rfl⟩
     have hbgX:blk w13 g=some (XX,37,fr):=by rw [hXX];exact hbg
     have hXsz:XX.size=cap * 5:=by rw [hXX,List.size_toArray];exact hlen2
     have hth2:thaw fr (css.length * 5) 5=true:=thaw_of hth (by omega)
     have hst:css.length * 5+5≤XX.size:=by omega
     have hset:=Own.setlast (cs:=[.int .i64 (IntKind.i32.wrap y.n),.slice none 0 0,.bool false,.slice none 0 0,.slice none 0 0]) ho rfl rfl
     have hu2:Upd (ownB (.slice av j kv)) w12 (wr w13 g (css.length * 5) [.int .i64 (IntKind.i32.wrap y.n),.slice none 0 0,.bool false,.slice none 0 0,.slice none 0 0]):=hu.wr _ _ ((hfr g ⟨_,_,_,rfl,rfl⟩).symm)
     have hg2:=GrowT.snoc hown hall hx13 hu2 hfr hset
     have hcj:css.length=j:=by first|exact hcl.symm.trans hlj|omega
     simp only [hcj] at hth2 hst hset hu2 hg2
     refine ⟨hP13,?_⟩
     try simp (maxSteps:=1000000)(disch:=(first|omega|(simp only [qI,qJ,qK]<;>omega)|exact qL _|(refine hnb _ ?_;first|omega|(simp only [World.size_alloc,size_wr,size_drew]<;>omega)))) only [go_sem,↓reduceIte,n0,reduceCtorEq,n1,n2,n3,n4,n5,i0,i1,i2,i3,i4,i5,i6,i7,hlq13,hbgX,hth2,hst,hcj,Int.toNat_natCast,Nat.mul_one,hrc1_0,hrc1_2,hrc1_3,hrc1_29,hri]
     repeat ((first|refine qA rfl ?_|apply qB|refine qC rfl ?_|apply qD|apply qE|apply qF|apply qG|apply qH);try simp (maxSteps:=1000000)(disch:=(first|omega|(simp only [qI,qJ,qK]<;>omega)|exact qL _)) only [go_sem,↓reduceIte,n0,reduceCtorEq,n1,n2,n3,n4,n5,i0,i1,i2,i3,i4,i5,i6,i7,hlq13,hbgX,hth2,hst,hcj,Int.toNat_natCast,Nat.mul_one,hrc1_0,hrc1_2,hrc1_3,hrc1_29,hri])
     refine ⟨⟨(by simp (maxSteps:=1000000)(disch:=(first|omega|(simp only [qI,qJ,qK]<;>omega)|exact qL _)) only [go_sem,↓reduceIte,n0,reduceCtorEq,n1,n2,n3,n4,n5,i0,i1,i2,i3,i4,i5,i6,i7,Holds_nil,Holds_cons,hrc1_0,hrc1_2,hrc1_3,hrc1_29,hri]),j+1,(by simp (maxSteps:=1000000)(disch:=(first|omega|(simp only [qI,qJ,qK]<;>omega)|exact qL _)) only [go_sem,↓reduceIte,n0,reduceCtorEq,n1,n2,n3,n4,n5,i0,i1,i2,i3,i4,i5,i6,i7,hrc1_0,hrc1_2,hrc1_3,hrc1_29,hri];all_goals rfl),.slice (some ⟨g,0,none⟩) (j+1) cap,by omega,?_,?_,?_⟩,?_⟩
     ·rw [blk_wr_ne (by omega),blk_wr_eq,hlq13];rfl
     ·rw [hcat,List.map_append,wr_comm (Ne.symm hgne)]
      exact hg2.upd ((Upd.refl _ _).wr _ _ (.inr rfl)) (fun h=>hgne (ownB_row h).symm)
     ·rw [wr_comm (Ne.symm hgne)]
      refine Upd.wr ?_ _ _ (.inr rfl)
      exact (hUk.more ((hEw13.mono fun _ h=>h.elim).trans hu2) fun b hb h=>absurd h (hnb b (.inl hb)))
     ·try simp (maxSteps:=1000000)(disch:=(first|omega|(simp only [qI,qJ,qK]<;>omega)|exact qL _)) only [go_sem,↓reduceIte,n0,reduceCtorEq,n1,n2,n3,n4,n5,i0,i1,i2,i3,i4,i5,i6,i7,hrc1_0,hrc1_2,hrc1_3,hrc1_29,hri]
      simp only [RowKit.intOf];omega
  ·have hjn:j=L1.length:=by omega
   subst hjn
   rw [List.take_length] at hg
   repeat ((first|refine qA rfl ?_|apply qB|refine qC rfl ?_|apply qD|apply qE|apply qF|apply qG|apply qH);try simp (maxSteps:=1000000)(disch:=(first|omega|(simp only [qI,qJ,qK]<;>omega)|exact qL _)) only [go_sem,↓reduceIte,n0,reduceCtorEq,n1,n2,n3,n4,n5,i0,i1,i2,i3,i4,i5,i6,i7,hrc1_0,hrc1_2,hrc1_3,hrc1_29,hri])
   exact ⟨(by simp (maxSteps:=1000000)(disch:=(first|omega|(simp only [qI,qJ,qK]<;>omega)|exact qL _)) only [go_sem,↓reduceIte,n0,reduceCtorEq,n1,n2,n3,n4,n5,i0,i1,i2,i3,i4,i5,i6,i7,Holds_nil,Holds_cons,hrc1_0,hrc1_2,hrc1_3,hrc1_29,hri]),v,hl5,hg,hUk⟩
 rintro ρ w14 ⟨⟨hrd1_0,hrd1_2,hrd1_3,hrd1_29,-⟩,v,hl14,hg14,hUz14⟩
 have hV14:Upd (fun b=>b=w.heap.size+1∨b=w.heap.size+2) w4 w14:=hUz14.mono fun _ h=>.inl h
 have hU14:Upd (fun b=>b=w.heap.size+1∨b=w.heap.size+2) w1 w14:=hU4.trans hV14
 have hz14:=hU14.size
 have hX14:Ext w w14:=hE1.more hU14 fun b hb h=>by omega
 have hb14:=hX14.blk_some hb id
 have ht14:=hUz14.blk_some ht4 (by omega)
 obtain ⟨av1,kv1,hvs,_⟩:=hg14.shape
 subst hvs
 have hf1:TreeC (fun b=>w1.heap.size≤b) w14 (.mk 0 [] (t.at 1).null (L1.map (tl1 (tlP d) fX0_1.of fX0_1.sub)) []) [.int .i64 0,.slice none 0 0,.bool (t.at 1).null,.slice av1 (List.map (tl1 (tlP d) fX0_1.of fX0_1.sub) L1).length kv1,.slice none 0 0]:=TreeC.intro rfl (BytesV.nil _ _) (hg14.trees (fun _ _ h=>h) (fun b hb=>by have:=hz4;omega)) (tagsN _ _)
 repeat ((first|refine qA rfl ?_|apply qB|refine qC rfl ?_|apply qD|apply qE|apply qF|apply qG|apply qH);try simp (maxSteps:=1000000)(disch:=(first|omega|(simp only [qI,qJ,qK]<;>omega)|exact qL _)) only [go_sem,↓reduceIte,n0,reduceCtorEq,n1,n2,n3,n4,n5,i0,i1,i2,i3,i4,i5,i6,i7,hb14,hl14,ht14,hq0,hq1,hq2,hq3,hq4,hq5,hq6,hq7,hq8,hq9,hq10,hq11,hq12,hq13,hq14,hq15,hq16,hq17,hrd1_0,hrd1_2,hrd1_3])
 refine (EachG_fn (ok:=fun b=>b < w.heap.size) 61 ca_61 #[.pointer (some ⟨w.heap.size+2,0,none⟩)] w14 (tb:=b) (to:=o+17) hb14 hq17 ((hT.weaken fun b hb _=>hb).keep (hX14.keeps _)) (sortT_perm _) (sortT_lt hgu.2.1) (by rw [(sortT_perm t.u).length_eq];exact hgu.1)
  (fun b=>b=w.heap.size+2) (by omega) (fun b hb hk e=>by have hk':b < w.heap.size:=hk;omega) (fun b hb=>by have:=blk_lt ht14;omega)
  (fun wl done w'=>∃ v,blk w' (w.heap.size+2)=some (#[.int .i64 0,.slice none 0 0,.bool false,.slice (some ⟨w.heap.size+1,0,none⟩) 2 2,v],37,(0,0))∧GrowU (fun b=>w1.heap.size≤b) wl.heap.size (w.heap.size+2) w' 69 v done) (fun wl hE=>⟨_,hE.blk_some ht14 id,GrowU.nil _ _ _ _ _⟩) ?_).mono ?_
 ·rintro wl hE done y vv wc hpre ⟨v,hbv,hg⟩ hU hvv hy
  have hz':=hE.size
  have hzu:=hU.size
  have htl:=blk_lt ht14
  have hpl:=hpre.length_le
  simp only [List.length_append,List.length_cons,List.length_nil] at hpl
  rw [(sortT_perm t.u).length_eq] at hpl
  have hlu:=hgu.1
  have hmy:y∈t.u:=(sortT_perm t.u).mem_iff.1 (hpre.subset (by simp))
  refine (tagclX0_fn (ok:=fun b=>b < w.heap.size) _ _ _ _ v done y vv wc hbv hg hzu (by omega) (hvv.keep ((hE.mono (fun _ h=>h.elim) |>.trans hU:Upd (fun b=>b=w.heap.size+2) w14 wc).keeps fun b _ hk e=>by have hk':b < w.heap.size:=hk;omega)) hy (hgu.2.2 y hmy) (by omega) (fun b hb=>by have:=hz14;omega)).mono ?_
  rintro _ w2' ⟨⟨v',h1,h2⟩,h3⟩
  exact ⟨⟨v',h1,h2⟩,hU.trans' h3 fun b hb h=>h.elim id fun h=>by omega⟩
 rintro _ w15 ⟨wl,hEl,⟨v,ht15,hgU⟩,hUe⟩
 have hzl:=hEl.size
 obtain ⟨aU,kU,hvs,_⟩:=hgU.shape
 subst hvs
 have hV15:Upd (fun b=>b=w.heap.size+1∨b=w.heap.size+2) w14 w15:=(hEl.mono fun _ h=>h.elim).trans (hUe.mono fun _ h=>.inr h)
 have hU15:Upd (fun b=>b=w.heap.size+1∨b=w.heap.size+2) w1 w15:=hU14.trans hV15
 have hz15:=hU15.size
 have hX15:Ext w w15:=hE1.more hU15 fun b hb h=>by omega
 have hb15:=hX15.blk_some hb id
 have hl15:=(((hEl.mono fun _ h=>h.elim).trans hUe:Upd (fun b=>b=w.heap.size+2) w14 w15)).blk_some hl14 (by omega)
 have hTU:=hgU.tags (ok':=(fun b=>w1.heap.size≤b)) (fun _ _ h=>h) (fun b hb=>by have:=hz14;omega)
 repeat ((first|refine qA rfl ?_|apply qB|refine qC rfl ?_|apply qD|apply qE|apply qF|apply qG|apply qH);try simp (maxSteps:=1000000)(disch:=(first|omega|(simp only [qI,qJ,qK]<;>omega)|exact qL _)) only [go_sem,↓reduceIte,n0,reduceCtorEq,n1,n2,n3,n4,n5,i0,i1,i2,i3,i4,i5,i6,i7,hb15,hl15,ht15,hq0,hq1,hq2,hq3,hq4,hq5,hq6,hq7,hq8,hq9,hq10,hq11,hq12,hq13,hq14,hq15,hq16,hq17,hrd1_0,hrd1_2,hrd1_3,cellsAt_five])
 refine (sorted_fn _ _ w15 hTU (sortT_lt hgu.2.1) (by rw [(sortT_perm t.u).length_eq];exact hgu.1)).mono ?_
 rintro _ w16 hEs
 have hV16:Upd (fun b=>b=w.heap.size+1∨b=w.heap.size+2) w15 w16:=hEs.mono fun _ h=>h.elim
 have hU16:Upd (fun b=>b=w.heap.size+1∨b=w.heap.size+2) w1 w16:=hU15.trans hV16
 have hz16:=hU16.size
 have hX16:Ext w w16:=hE1.more hU16 fun b hb h=>by omega
 have hb16:=hX16.blk_some hb id
 have hl16:=hEs.blk_some hl15 id
 have ht16:=hEs.blk_some ht15 id
 have hr16:=(hU16.blk_some hr1 (by omega))
 have hC_16:Upd (fun b=>b=w.heap.size+1∨b=w.heap.size+2) w16 w16:=Upd.refl _ _
 have hC_15:Upd (fun b=>b=w.heap.size+1∨b=w.heap.size+2) w15 w16:=hV16.trans hC_16
 have hC_14:Upd (fun b=>b=w.heap.size+1∨b=w.heap.size+2) w14 w16:=hV15.trans hC_15
 have hC_4:Upd (fun b=>b=w.heap.size+1∨b=w.heap.size+2) w4 w16:=hV14.trans hC_14
 have hC_3:Upd (fun b=>b=w.heap.size+1∨b=w.heap.size+2) w3 w16:=hV4.trans hC_4
 have hC_1:Upd (fun b=>b=w.heap.size+1∨b=w.heap.size+2) w1 w16:=hV3.trans hC_3
 have hF0:=TreeC.keep (hC_3.keeps fun b hb hk e=>by have hk':w1.heap.size≤b:=hk;omega) hf0
 have hF1:=TreeC.keep (hC_14.keeps fun b hb hk e=>by have hk':w1.heap.size≤b:=hk;omega) hf1
 replace hF0:TreeC (fun b=>w1.heap.size≤b) w16 (tlF (tlP d) fX0_0 (t.at 0)) [.int .i64 0,.slice av2 (uuidS (t.at 0).s).length kv2,.bool false,.slice none 0 0,.slice none 0 0]:=hF0
 replace hF1:TreeC (fun b=>w1.heap.size≤b) w16 (tlF (tlP d) fX0_1 (t.at 1)) [.int .i64 0,.slice none 0 0,.bool (t.at 1).null,.slice av1 (List.map (tl1 (tlP d) fX0_1.of fX0_1.sub) L1).length kv1,.slice none 0 0]:=by rw [show tlF (tlP d) fX0_1 (t.at 1) = .mk 0 [] (t.at 1).null ((if (t.at 1).null=true then [] else (t.at 1).l).map (tl1 (tlP d) fX0_1.of fX0_1.sub)) [] from rfl,← hL1];exact hF1
 have hTL:TreesV (fun b=>(fun b=>w1.heap.size≤b) b∨b=w.heap.size+1) w16 (.slice (some ⟨w.heap.size+1,0,none⟩) 2 2) [tlF (tlP d) fX0_0 (t.at 0),tlF (tlP d) fX0_1 (t.at 1)]:=by
  refine ⟨[[.int .i64 0,.slice av2 (uuidS (t.at 0).s).length kv2,.bool false,.slice none 0 0,.slice none 0 0],[.int .i64 0,.slice none 0 0,.bool (t.at 1).null,.slice av1 (List.map (tl1 (tlP d) fX0_1.of fX0_1.sub) L1).length kv1,.slice none 0 0]],⟨_,2,rfl,Nat.le_refl _,(by intro cs hm;simp only [List.mem_cons,List.not_mem_nil,or_false] at hm;rcases hm with rfl|rfl<;>rfl),.inr ⟨_,rfl,rfl,.inr rfl,_,hl16,fun i hi=>by rw [Nat.zero_add,List.getElem?_toArray];rfl⟩⟩,rfl,fun i h1 h2 => ?_⟩
  match i,h1 with
  | 0,_=>exact TreeC.weaken (fun b _ hk=>.inl hk) hF0
  | 1,_=>exact TreeC.weaken (fun b _ hk=>.inl hk) hF1
 repeat ((first|refine qA rfl ?_|apply qB|refine qC rfl ?_|apply qD|apply qE|apply qF|apply qG|apply qH);try simp (maxSteps:=1000000)(disch:=(first|omega|(simp only [qI,qJ,qK]<;>omega)|exact qL _)) only [go_sem,↓reduceIte,n0,reduceCtorEq,n1,n2,n3,n4,n5,i0,i1,i2,i3,i4,i5,i6,i7,hb16,hl16,ht16,hq0,hq1,hq2,hq3,hq4,hq5,hq6,hq7,hq8,hq9,hq10,hq11,hq12,hq13,hq14,hq15,hq16,hq17,hrd1_0,hrd1_2,hrd1_3,hr16,cellsAt_five])
 refine ⟨⟨_,rfl,?_⟩,hX16.wr _ _ (.inl (Nat.le_refl _))⟩
 have hUr:Upd (fun b=>b=w.heap.size) w16 (wr w16 w.heap.size 0 [.int .i64 0,.slice none 0 0,.bool false,.slice (some ⟨w.heap.size+1,0,none⟩) 2 2,.slice aU (sortT t.u).length kU]):=(Upd.refl _ _).wr _ _ (.inr rfl)
 have hTU2:=hTU.keep (hEs.keeps _)
 exact TreeC.intro rfl (BytesV.nil _ _) ((hTL.keep (hUr.keeps fun b _ hk e=>by rcases hk with hk|hk<;>omega)).weaken fun b _ hk=>by rcases hk with hk|hk<;>omega) ((hTU2.keep (hUr.keeps fun b _ hk e=>by omega)).weaken fun b _ hk=>by omega)

theorem tagclQ_fn {ok OK:Blocks} {B tb:Nat} (c0 c1 c2 c3 v:Value) (done:List TagD) (y:TagD) (vv:Value) (w:World) (hbt:blk w tb=some (#[c0,c1,c2,c3,v],37,(0,0))) (hg:GrowU OK B tb w 69 v done) (hB:B≤w.heap.size) (htb:tb < B) (hvv:BytesV ok w vv y.2) (hy:y.1 < 2 ^ 32) (hyl:y.2.length≤32767) (hdl:done.length≤32767) (hOK:∀ b,B≤b→OK b) :
  Fn Tryz.prog 35 #[.int .u32 y.1,vv,.pointer (some ⟨tb,0,none⟩)] w fun _ w'=>(∃ v',blk w' tb=some (#[c0,c1,c2,c3,v'],37,(0,0))∧GrowU OK B tb w' 69 v' (done++[y]))∧Upd (fun b=>b=tb∨B≤b) w w':=by
 have htl:=blk_lt hbt
 refine fn_of_W Tryz.func35 rfl Tryz.results35 Tryz.ntmps35 rfl ?_
 repeat ((first|refine qA rfl ?_|apply qB|refine qC rfl ?_|apply qD|apply qE|apply qF|apply qG|apply qH);try simp (maxSteps:=1000000)(disch:=(first|omega|(simp only [qI,qJ,qK]<;>omega)|exact qL _)) only [go_sem,↓reduceIte,n0,reduceCtorEq,n1,n2,n3,n4,n5,i0,i1,i2,i3,i4,i5,i6,i7])
 obtain ⟨av,kv,rfl,_⟩:=hg.shape
 have hnb:∀ b,b < B∨w.heap.size≤b→¬ ownB (.slice av done.length kv) b:=fun b hb h=>by
  have:=hg.above h
  have:=hg.below h
  omega
 refine W.drawR (.take 0 (.take 1 (.take 2 (.take 3 (.only 4 (.only 5 (.only 6 (.only 7 (.take 8 (.last 9)))))))))) (ownB (.slice av done.length kv)) mixed (by kernel_rfl) ?_
 simp (maxSteps:=1000000)(disch:=(first|omega|(simp only [qI,qJ,qK]<;>omega)|exact qL _|(refine hnb _ ?_;first|omega|(simp only [World.size_alloc,size_wr,size_drew]<;>omega)))) only [go_sem,↓reduceIte,n0,reduceCtorEq,n1,n2,n3,n4,n5,i0,i1,i2,i3,i4,i5,i6,i7,hbt]
 refine wp_copyN ap_22_22 (ok:=ok) (s:=y.2) (v:=vv) (by first|rfl|simp (maxSteps:=1000000)(disch:=(first|omega|(simp only [qI,qJ,qK]<;>omega)|exact qL _)) only [go_sem,↓reduceIte,n0,reduceCtorEq,n1,n2,n3,n4,n5,i0,i1,i2,i3,i4,i5,i6,i7]) (by first|rfl|simp (maxSteps:=1000000)(disch:=(first|omega|(simp only [qI,qJ,qK]<;>omega)|exact qL _)) only [go_sem,↓reduceIte,n0,reduceCtorEq,n1,n2,n3,n4,n5,i0,i1,i2,i3,i4,i5,i6,i7]) (hvv.keep (Ext.keeps ((Upd.refl _ _).drew) _)) (by omega) ?_
 intro v1 w1 ho1 hE1 hf1
 obtain ⟨a1,k1,rfl,_⟩:=ho1.shape
 have hB1:=Own.bytes (ok:=fun b=>w.heap.size≤b) ho1 fun b hb=>hf1 b hb
 have hP1:Upd (ownB (.slice av done.length kv)) w.drew w1:=hE1.mono fun _ h=>h.elim
 have hs1:=hE1.size
 simp only [size_drew] at hs1
 refine ⟨hP1,?_⟩
 simp (maxSteps:=1000000)(disch:=(first|omega|(simp only [qI,qJ,qK]<;>omega)|exact qL _|(refine hnb _ ?_;first|omega|(simp only [World.size_alloc,size_wr,size_drew]<;>omega)))) only [go_sem,↓reduceIte,n0,reduceCtorEq,n1,n2,n3,n4,n5,i0,i1,i2,i3,i4,i5,i6,i7,hbt]
 refine ⟨hP1,?_⟩
 have hP2:Upd (ownB (.slice av done.length kv)) w.drew (w1.alloc (.cells #[.int .u32 y.1,.slice a1 y.2.length k1] 69)):=hP1.alloc _
 have hn2:blk (w1.alloc (.cells #[.int .u32 y.1,.slice a1 y.2.length k1] 69)) w1.heap.size=some (#[.int .u32 y.1,.slice a1 y.2.length k1],69,(0,0)):=blk_alloc_new rfl
 have hs2:(w1.alloc (.cells #[.int .u32 y.1,.slice a1 y.2.length k1] 69)).heap.size=w1.heap.size+1:=World.size_alloc _ _
 have hE2:Ext w1 (w1.alloc (.cells #[.int .u32 y.1,.slice a1 y.2.length k1] 69)):=Upd.alloc (Upd.refl _ _) _
 refine ⟨hP2,?_⟩
 try simp only [List.append_nil]
 generalize (w1.alloc (.cells #[.int .u32 y.1,.slice a1 y.2.length k1] 69))=w2 at *
 have hEw:Ext w w2:=(((Upd.refl _ _).drew).trans hE1).trans hE2
 obtain ⟨css,hown,hall⟩:=(hg.ext hEw).ex
 have hcl:=hall.1
 have hx2:TagC (fun b=>OK b∧b≠tb∧¬ ownB (.slice av done.length kv) b) w2 y [.int .u32 y.1,.slice a1 y.2.length k1]:=⟨_,rfl,(hB1.keep (hE2.keeps _)).weaken fun b _ hk=>⟨hOK b (by omega),by omega,hnb b (.inr hk)⟩,hy⟩
 refine wp_append ap_35_35 (m:=1) (news:=[.int .u32 y.1,.slice a1 y.2.length k1]) (n:=css.length) (cs:=css.flatten) (v:=.slice av done.length kv) ?_ rfl hown.1 hall.flat_cells (Src.blk (fr:=(0,0)) (T:=69) hn2 rfl rfl) ?_ ?_ ?_
 ·first|rfl|simp (maxSteps:=1000000)(disch:=(first|omega|(simp only [qI,qJ,qK]<;>omega)|exact qL _)) only [go_sem,↓reduceIte,n0,reduceCtorEq,n1,n2,n3,n4,n5,i0,i1,i2,i3,i4,i5,i6,i7]
 ·omega
 ·omega
 intro v' w3 ho hu hfr
 have hg3:=GrowU.snoc hown hall hx2 hu hfr ho
 obtain ⟨va,vc,hv',_⟩:=ho.shape
 subst hv'
 have hP3:=hP2.trans hu
 have hs3:=hu.size
 have hbt3:=hP3.blk_some (show blk w.drew tb=_ from hbt) (hnb _ (.inl htb))
 have hne:¬ ownB (.slice va (css.length+1) vc) tb:=fun h=>(hfr _ h).elim (hnb _ (.inl htb)) (fun h=>by omega)
 refine ⟨hP3,?_⟩
 simp (maxSteps:=1000000)(disch:=(first|omega|(simp only [qI,qJ,qK]<;>omega)|exact qL _|(refine hnb _ ?_;first|omega|(simp only [World.size_alloc,size_wr,size_drew]<;>omega)))) only [go_sem,↓reduceIte,n0,reduceCtorEq,n1,n2,n3,n4,n5,i0,i1,i2,i3,i4,i5,i6,i7,hbt3]
 repeat ((first|refine qA rfl ?_|apply qB|refine qC rfl ?_|apply qD|apply qE|apply qF|apply qG|apply qH);try simp (maxSteps:=1000000)(disch:=(first|omega|(simp only [qI,qJ,qK]<;>omega)|exact qL _)) only [go_sem,↓reduceIte,n0,reduceCtorEq,n1,n2,n3,n4,n5,i0,i1,i2,i3,i4,i5,i6,i7])
 refine ⟨⟨.slice va (css.length+1) vc,by first|(rw [blk_wr_eq,hbt3];rfl)|rfl|(rw [hbt3];rfl)|(rw [blk_wr_eq,hbt3]),hg3.upd ((Upd.refl _ _).wr _ _ (.inr rfl)) hne⟩,?_⟩
 refine Upd.wr ?_ _ _ (.inr (.inl rfl))
 exact (((Upd.refl (fun b=>b=tb∨B≤b) w).drew).trans (hP3.mono fun b h=>.inr (hg.above h)))

set_option maxHeartbeats 4000000 in
theorem tellQ_fn {d:Nat} {ok:Blocks} (t:Tree) (cs:List Value) (w:World) {b:Nat} {x:Blk} (hb:blk w b=some x) (hq:∀ k,k < 11→x.1[1+k]? = cs[k]?) (hR:RepS true (d+2) fs_Q ok w t cs) (hg:GoodP (d+2) fs_Q t) :
  Fn Tryz.prog 19 #[.pointer (some ⟨b,0,none⟩)] w fun r w'=>(∃ c,r = .agg c.toArray∧TreeC (fun b=>w.heap.size≤b) w' (tlP (d+2) fs_Q t) c)∧Ext w w':=by
 have hbl:=blk_lt hb
 obtain ⟨⟨gd0,gd1,gd2,gd3,gd4,gd5,gd6,gd7,gd8,gd9,-⟩,hgu⟩:=hg
 replace gd0:GoodF (GoodP (d+1)) fQ_0 (t.at 0):=gd0
 replace gd1:GoodF (GoodP (d+1)) fQ_1 (t.at 1):=gd1
 replace gd2:GoodF (GoodP (d+1)) fQ_2 (t.at 2):=gd2
 replace gd3:GoodF (GoodP (d+1)) fQ_3 (t.at 3):=gd3
 replace gd4:GoodF (GoodP (d+1)) fQ_4 (t.at 4):=gd4
 replace gd5:GoodF (GoodP (d+1)) fQ_5 (t.at 5):=gd5
 replace gd6:GoodF (GoodP (d+1)) fQ_6 (t.at 6):=gd6
 replace gd7:GoodF (GoodP (d+1)) fQ_7 (t.at 7):=gd7
 replace gd8:GoodF (GoodP (d+1)) fQ_8 (t.at 8):=gd8
 replace gd9:GoodF (GoodP (d+1)) fQ_9 (t.at 9):=gd9
 obtain ⟨cs0,q,hcs,hL,hT⟩:=hR.inv
 obtain ⟨c0,e0,rfl,h0,c1,e1,rfl,h1,c2,e2,rfl,h2,c3,e3,rfl,h3,c4,e4,rfl,h4,c5,e5,rfl,h5,c6,e6,rfl,h6,c7,e7,rfl,h7,c8,e8,rfl,h8,c9,e9,rfl,h9,rfl⟩:=hL
 replace h0:RepF (RepS true (d+1)) (szS true (d+1)) fQ_0 ok w (t.at 0) c0:=h0
 replace h1:RepF (RepS true (d+1)) (szS true (d+1)) fQ_1 ok w (t.at 1) c1:=h1
 replace h2:RepF (RepS true (d+1)) (szS true (d+1)) fQ_2 ok w (t.at 2) c2:=h2
 replace h3:RepF (RepS true (d+1)) (szS true (d+1)) fQ_3 ok w (t.at 3) c3:=h3
 replace h4:RepF (RepS true (d+1)) (szS true (d+1)) fQ_4 ok w (t.at 4) c4:=h4
 replace h5:RepF (RepS true (d+1)) (szS true (d+1)) fQ_5 ok w (t.at 5) c5:=h5
 replace h6:RepF (RepS true (d+1)) (szS true (d+1)) fQ_6 ok w (t.at 6) c6:=h6
 replace h7:RepF (RepS true (d+1)) (szS true (d+1)) fQ_7 ok w (t.at 7) c7:=h7
 replace h8:RepF (RepS true (d+1)) (szS true (d+1)) fQ_8 ok w (t.at 8) c8:=h8
 replace h9:RepF (RepS true (d+1)) (szS true (d+1)) fQ_9 ok w (t.at 9) c9:=h9
 obtain rfl:=(RepF_text rfl (by decide)).1 h0
 obtain rfl:=(RepF_text rfl (by decide)).1 h1
 obtain rfl:=(RepF_num (by decide)).1 h2
 obtain ⟨p3,rfl,hp3⟩:=(RepF_ptr rfl (by decide)).1 h3
 obtain ⟨ap3,rfl⟩:=hp3.shape
 obtain ⟨p4,rfl,hp4⟩:=(RepF_ptr rfl (by decide)).1 h4
 obtain ⟨ap4,rfl⟩:=hp4.shape
 obtain rfl:=(RepF_num (by decide)).1 h5
 obtain ⟨ab6,ac6,L6,rfl,hL6,hnn6,hs6⟩:=RepF_listT rfl h6
 have hgl6:=gd6.listL rfl hL6
 obtain ⟨p7,rfl,hp7⟩:=(RepF_ptr rfl (by decide)).1 h7
 obtain ⟨ap7,rfl⟩:=hp7.shape
 obtain ⟨p8,rfl,hp8⟩:=(RepF_ptr rfl (by decide)).1 h8
 obtain ⟨ap8,rfl⟩:=hp8.shape
 obtain ⟨ab9,ac9,L9,rfl,hL9,hnn9,hs9⟩:=RepF_listT rfl h9
 have hgl9:=gd9.listL rfl hL9
 obtain ⟨qm,rfl⟩:=hT.shape
 subst hcs
 have hq0:x.1[1]? = some (strV (t.at 0).s):=hq 0 (by decide)
 have hq1:x.1[2]? = some (strV (t.at 1).s):=hq 1 (by decide)
 have hq2:x.1[3]? = some (.int .i32 (IntKind.i32.wrap (t.at 2).n)):=hq 2 (by decide)
 have hq3:x.1[4]? = some (.pointer ap3):=hq 3 (by decide)
 have hq4:x.1[5]? = some (.pointer ap4):=hq 4 (by decide)
 have hq5:x.1[6]? = some (.int .i32 (IntKind.i32.wrap (t.at 5).n)):=hq 5 (by decide)
 have hq6:x.1[7]? = some (.slice ab6 L6.length ac6):=hq 6 (by decide)
 have hq7:x.1[8]? = some (.pointer ap7):=hq 7 (by decide)
 have hq8:x.1[9]? = some (.pointer ap8):=hq 8 (by decide)
 have hq9:x.1[10]? = some (.slice ab9 L9.length ac9):=hq 9 (by decide)
 have hq10:x.1[11]? = some (.map qm):=hq 10 (by decide)
 refine fn_of_W Tryz.func19 rfl Tryz.results19 Tryz.ntmps19 rfl ?_
 repeat ((first|refine qA rfl ?_|apply qB|refine qC rfl ?_|apply qD|apply qE|apply qF|apply qG|apply qH);try simp (maxSteps:=1000000)(disch:=(first|omega|(simp only [qI,qJ,qK]<;>omega)|exact qL _)) only [go_sem,↓reduceIte,n0,reduceCtorEq,n1,n2,n3,n4,n5,i0,i1,i2,i3,i4,i5,i6,i7])
 refine wp_make (T:=34) (E:=37) (size:=5) (bytes:=88) (z:=.agg qZ5) (l:=10) (c:=10) (kl:=.i64) (kc:=.i64) (by kernel_rfl) (by kernel_rfl) (by first|rfl|(simp (maxSteps:=1000000)(disch:=(first|omega|(simp only [qI,qJ,qK]<;>omega)|exact qL _)) only [go_sem,↓reduceIte,n0,reduceCtorEq,n1,n2,n3,n4,n5,i0,i1,i2,i3,i4,i5,i6,i7];rfl)) (by first|rfl|(simp (maxSteps:=1000000)(disch:=(first|omega|(simp only [qI,qJ,qK]<;>omega)|exact qL _)) only [go_sem,↓reduceIte,n0,reduceCtorEq,n1,n2,n3,n4,n5,i0,i1,i2,i3,i4,i5,i6,i7];rfl)) (by omega) (by omega) (by omega) ?_
 have hmd:madeCells (Value.agg qZ5).cells (10 * 5)=#[.int .i64 0,.slice none 0 0,.bool false,.slice none 0 0,.slice none 0 0,.int .i64 0,.slice none 0 0,.bool false,.slice none 0 0,.slice none 0 0,.int .i64 0,.slice none 0 0,.bool false,.slice none 0 0,.slice none 0 0,.int .i64 0,.slice none 0 0,.bool false,.slice none 0 0,.slice none 0 0,.int .i64 0,.slice none 0 0,.bool false,.slice none 0 0,.slice none 0 0,.int .i64 0,.slice none 0 0,.bool false,.slice none 0 0,.slice none 0 0,.int .i64 0,.slice none 0 0,.bool false,.slice none 0 0,.slice none 0 0,.int .i64 0,.slice none 0 0,.bool false,.slice none 0 0,.slice none 0 0,.int .i64 0,.slice none 0 0,.bool false,.slice none 0 0,.slice none 0 0,.int .i64 0,.slice none 0 0,.bool false,.slice none 0 0,.slice none 0 0]:=by kernel_rfl
 rw [hmd]
 simp (maxSteps:=1000000)(disch:=(first|omega|(simp only [qI,qJ,qK]<;>omega)|exact qL _)) only [go_sem,↓reduceIte,n0,reduceCtorEq,n1,n2,n3,n4,n5,i0,i1,i2,i3,i4,i5,i6,i7]
 repeat ((first|refine qA rfl ?_|apply qB|refine qC rfl ?_|apply qD|apply qE|apply qF|apply qG|apply qH);try simp (maxSteps:=1000000)(disch:=(first|omega|(simp only [qI,qJ,qK]<;>omega)|exact qL _)) only [go_sem,↓reduceIte,n0,reduceCtorEq,n1,n2,n3,n4,n5,i0,i1,i2,i3,i4,i5,i6,i7])
 have hE1:Ext w (wr (((w.alloc (.cells qZ5 37)).alloc (.cells #[.int .i64 0,.slice none 0 0,.bool false,.slice none 0 0,.slice none 0 0,.int .i64 0,.slice none 0 0,.bool false,.slice none 0 0,.slice none 0 0,.int .i64 0,.slice none 0 0,.bool false,.slice none 0 0,.slice none 0 0,.int .i64 0,.slice none 0 0,.bool false,.slice none 0 0,.slice none 0 0,.int .i64 0,.slice none 0 0,.bool false,.slice none 0 0,.slice none 0 0,.int .i64 0,.slice none 0 0,.bool false,.slice none 0 0,.slice none 0 0,.int .i64 0,.slice none 0 0,.bool false,.slice none 0 0,.slice none 0 0,.int .i64 0,.slice none 0 0,.bool false,.slice none 0 0,.slice none 0 0,.int .i64 0,.slice none 0 0,.bool false,.slice none 0 0,.slice none 0 0,.int .i64 0,.slice none 0 0,.bool false,.slice none 0 0,.slice none 0 0] 37)).alloc (.cells qZ5 37)) (w.heap.size+2) 0 [.int .i64 0,.slice none 0 0,.bool false,.slice (some ⟨w.heap.size+1,0,none⟩) 10 10,.slice none 0 0]):=(Upd.alloc (Upd.alloc (Upd.alloc (Upd.refl _ _) _) _) _).wr _ _ (.inl (by omega))
 have hz1:(wr (((w.alloc (.cells qZ5 37)).alloc (.cells #[.int .i64 0,.slice none 0 0,.bool false,.slice none 0 0,.slice none 0 0,.int .i64 0,.slice none 0 0,.bool false,.slice none 0 0,.slice none 0 0,.int .i64 0,.slice none 0 0,.bool false,.slice none 0 0,.slice none 0 0,.int .i64 0,.slice none 0 0,.bool false,.slice none 0 0,.slice none 0 0,.int .i64 0,.slice none 0 0,.bool false,.slice none 0 0,.slice none 0 0,.int .i64 0,.slice none 0 0,.bool false,.slice none 0 0,.slice none 0 0,.int .i64 0,.slice none 0 0,.bool false,.slice none 0 0,.slice none 0 0,.int .i64 0,.slice none 0 0,.bool false,.slice none 0 0,.slice none 0 0,.int .i64 0,.slice none 0 0,.bool false,.slice none 0 0,.slice none 0 0,.int .i64 0,.slice none 0 0,.bool false,.slice none 0 0,.slice none 0 0] 37)).alloc (.cells qZ5 37)) (w.heap.size+2) 0 [.int .i64 0,.slice none 0 0,.bool false,.slice (some ⟨w.heap.size+1,0,none⟩) 10 10,.slice none 0 0]).heap.size=w.heap.size+3:=by simp only [size_wr,World.size_alloc]
 have hl1:blk (wr (((w.alloc (.cells qZ5 37)).alloc (.cells #[.int .i64 0,.slice none 0 0,.bool false,.slice none 0 0,.slice none 0 0,.int .i64 0,.slice none 0 0,.bool false,.slice none 0 0,.slice none 0 0,.int .i64 0,.slice none 0 0,.bool false,.slice none 0 0,.slice none 0 0,.int .i64 0,.slice none 0 0,.bool false,.slice none 0 0,.slice none 0 0,.int .i64 0,.slice none 0 0,.bool false,.slice none 0 0,.slice none 0 0,.int .i64 0,.slice none 0 0,.bool false,.slice none 0 0,.slice none 0 0,.int .i64 0,.slice none 0 0,.bool false,.slice none 0 0,.slice none 0 0,.int .i64 0,.slice none 0 0,.bool false,.slice none 0 0,.slice none 0 0,.int .i64 0,.slice none 0 0,.bool false,.slice none 0 0,.slice none 0 0,.int .i64 0,.slice none 0 0,.bool false,.slice none 0 0,.slice none 0 0] 37)).alloc (.cells qZ5 37)) (w.heap.size+2) 0 [.int .i64 0,.slice none 0 0,.bool false,.slice (some ⟨w.heap.size+1,0,none⟩) 10 10,.slice none 0 0]) (w.heap.size+1)=some (#[.int .i64 0,.slice none 0 0,.bool false,.slice none 0 0,.slice none 0 0,.int .i64 0,.slice none 0 0,.bool false,.slice none 0 0,.slice none 0 0,.int .i64 0,.slice none 0 0,.bool false,.slice none 0 0,.slice none 0 0,.int .i64 0,.slice none 0 0,.bool false,.slice none 0 0,.slice none 0 0,.int .i64 0,.slice none 0 0,.bool false,.slice none 0 0,.slice none 0 0,.int .i64 0,.slice none 0 0,.bool false,.slice none 0 0,.slice none 0 0,.int .i64 0,.slice none 0 0,.bool false,.slice none 0 0,.slice none 0 0,.int .i64 0,.slice none 0 0,.bool false,.slice none 0 0,.slice none 0 0,.int .i64 0,.slice none 0 0,.bool false,.slice none 0 0,.slice none 0 0,.int .i64 0,.slice none 0 0,.bool false,.slice none 0 0,.slice none 0 0],37,(0,0)):=by simp (maxSteps:=1000000)(disch:=(first|omega|(simp only [qI,qJ,qK]<;>omega)|exact qL _)) only [go_sem,↓reduceIte,n0,reduceCtorEq,n1,n2,n3,n4,n5,i0,i1,i2,i3,i4,i5,i6,i7]
 have ht1:blk (wr (((w.alloc (.cells qZ5 37)).alloc (.cells #[.int .i64 0,.slice none 0 0,.bool false,.slice none 0 0,.slice none 0 0,.int .i64 0,.slice none 0 0,.bool false,.slice none 0 0,.slice none 0 0,.int .i64 0,.slice none 0 0,.bool false,.slice none 0 0,.slice none 0 0,.int .i64 0,.slice none 0 0,.bool false,.slice none 0 0,.slice none 0 0,.int .i64 0,.slice none 0 0,.bool false,.slice none 0 0,.slice none 0 0,.int .i64 0,.slice none 0 0,.bool false,.slice none 0 0,.slice none 0 0,.int .i64 0,.slice none 0 0,.bool false,.slice none 0 0,.slice none 0 0,.int .i64 0,.slice none 0 0,.bool false,.slice none 0 0,.slice none 0 0,.int .i64 0,.slice none 0 0,.bool false,.slice none 0 0,.slice none 0 0,.int .i64 0,.slice none 0 0,.bool false,.slice none 0 0,.slice none 0 0] 37)).alloc (.cells qZ5 37)) (w.heap.size+2) 0 [.int .i64 0,.slice none 0 0,.bool false,.slice (some ⟨w.heap.size+1,0,none⟩) 10 10,.slice none 0 0]) (w.heap.size+2)=some (#[.int .i64 0,.slice none 0 0,.bool false,.slice (some ⟨w.heap.size+1,0,none⟩) 10 10,.slice none 0 0],37,(0,0)):=by simp (maxSteps:=1000000)(disch:=(first|omega|(simp only [qI,qJ,qK]<;>omega)|exact qL _)) only [go_sem,↓reduceIte,n0,reduceCtorEq,n1,n2,n3,n4,n5,i0,i1,i2,i3,i4,i5,i6,i7]
 have hr1:blk (wr (((w.alloc (.cells qZ5 37)).alloc (.cells #[.int .i64 0,.slice none 0 0,.bool false,.slice none 0 0,.slice none 0 0,.int .i64 0,.slice none 0 0,.bool false,.slice none 0 0,.slice none 0 0,.int .i64 0,.slice none 0 0,.bool false,.slice none 0 0,.slice none 0 0,.int .i64 0,.slice none 0 0,.bool false,.slice none 0 0,.slice none 0 0,.int .i64 0,.slice none 0 0,.bool false,.slice none 0 0,.slice none 0 0,.int .i64 0,.slice none 0 0,.bool false,.slice none 0 0,.slice none 0 0,.int .i64 0,.slice none 0 0,.bool false,.slice none 0 0,.slice none 0 0,.int .i64 0,.slice none 0 0,.bool false,.slice none 0 0,.slice none 0 0,.int .i64 0,.slice none 0 0,.bool false,.slice none 0 0,.slice none 0 0,.int .i64 0,.slice none 0 0,.bool false,.slice none 0 0,.slice none 0 0] 37)).alloc (.cells qZ5 37)) (w.heap.size+2) 0 [.int .i64 0,.slice none 0 0,.bool false,.slice (some ⟨w.heap.size+1,0,none⟩) 10 10,.slice none 0 0]) w.heap.size=some (qZ5,37,(0,0)):=by simp (maxSteps:=1000000)(disch:=(first|omega|(simp only [qI,qJ,qK]<;>omega)|exact qL _)) only [go_sem,↓reduceIte,n0,reduceCtorEq,n1,n2,n3,n4,n5,i0,i1,i2,i3,i4,i5,i6,i7]
 obtain ⟨w1,hw1⟩:∃ y,y=(wr (((w.alloc (.cells qZ5 37)).alloc (.cells #[.int .i64 0,.slice none 0 0,.bool false,.slice none 0 0,.slice none 0 0,.int .i64 0,.slice none 0 0,.bool false,.slice none 0 0,.slice none 0 0,.int .i64 0,.slice none 0 0,.bool false,.slice none 0 0,.slice none 0 0,.int .i64 0,.slice none 0 0,.bool false,.slice none 0 0,.slice none 0 0,.int .i64 0,.slice none 0 0,.bool false,.slice none 0 0,.slice none 0 0,.int .i64 0,.slice none 0 0,.bool false,.slice none 0 0,.slice none 0 0,.int .i64 0,.slice none 0 0,.bool false,.slice none 0 0,.slice none 0 0,.int .i64 0,.slice none 0 0,.bool false,.slice none 0 0,.slice none 0 0,.int .i64 0,.slice none 0 0,.bool false,.slice none 0 0,.slice none 0 0,.int .i64 0,.slice none 0 0,.bool false,.slice none 0 0,.slice none 0 0] 37)).alloc (.cells qZ5 37)) (w.heap.size+2) 0 [.int .i64 0,.slice none 0 0,.bool false,.slice (some ⟨w.heap.size+1,0,none⟩) 10 10,.slice none 0 0]):=⟨_,rfl⟩
 rw [← hw1] at hE1 hz1 hl1 ht1 hr1
 rw [← hw1]
 clear hw1
 have hU1:Upd (fun b=>b=w.heap.size+1∨b=w.heap.size+2) w1 w1:=Upd.refl _ _
 have hb1:=hE1.blk_some hb id
 repeat ((first|refine qA rfl ?_|apply qB|refine qC rfl ?_|apply qD|apply qE|apply qF|apply qG|apply qH);try simp (maxSteps:=1000000)(disch:=(first|omega|(simp only [qI,qJ,qK]<;>omega)|exact qL _)) only [go_sem,↓reduceIte,n0,reduceCtorEq,n1,n2,n3,n4,n5,i0,i1,i2,i3,i4,i5,i6,i7,hb1,hl1,ht1,hq0,hq1,hq2,hq3,hq4,hq5,hq6,hq7,hq8,hq9,hq10])
 refine W.drawR (.take 0 (.take 1 (.take 2 (.take 3 (.take 4 (.take 5 (.only 6 (.only 7 (.take 8 (.last 9)))))))))) (NoB) mixed (by kernel_rfl) ?_
 try simp (maxSteps:=1000000)(disch:=(first|omega|(simp only [qI,qJ,qK]<;>omega)|exact qL _)) only [go_sem,↓reduceIte,n0,reduceCtorEq,n1,n2,n3,n4,n5,i0,i1,i2,i3,i4,i5,i6,i7,hb1,hl1,ht1,hq0,hq1,hq2,hq3,hq4,hq5,hq6,hq7,hq8,hq9,hq10]
 refine wp_octets (S:=9) (T:=22) (E:=5) (s:=(t.at 0).s) (by kernel_rfl) (by kernel_rfl) (by kernel_rfl) (by first|rfl|simp (maxSteps:=1000000)(disch:=(first|omega|(simp only [qI,qJ,qK]<;>omega)|exact qL _)) only [go_sem,↓reduceIte,n0,reduceCtorEq,n1,n2,n3,n4,n5,i0,i1,i2,i3,i4,i5,i6,i7,hb1,hl1,ht1,hq0,hq1,hq2,hq3,hq4,hq5,hq6,hq7,hq8,hq9,hq10]) ?_
 intro a2 k2 w2 hB2 hEx2
 have hP2:Upd NoB w1.drew w2:=(Upd.refl _ _).trans (hEx2.mono fun _ h=>h.elim)
 have hsq2:=hEx2.size
 try simp only [size_drew] at hsq2
 refine ⟨hP2,?_⟩
 try simp (maxSteps:=1000000)(disch:=(first|omega|(simp only [qI,qJ,qK]<;>omega)|exact qL _)) only [go_sem,↓reduceIte,n0,reduceCtorEq,n1,n2,n3,n4,n5,i0,i1,i2,i3,i4,i5,i6,i7,hb1,hl1,ht1,hq0,hq1,hq2,hq3,hq4,hq5,hq6,hq7,hq8,hq9,hq10]
 refine ⟨hP2,?_⟩
 have hlq3:=hP2.blk_some (show blk w1.drew (w.heap.size+1)=_ from hl1) id
 have hx3:Upd (fun b=>b=w.heap.size+1∨b=w.heap.size+2) w1 w2:=((Upd.refl _ _).drew).trans (hP2.mono fun _ h=>h.elim)
 try simp (maxSteps:=1000000)(disch:=(first|omega|(simp only [qI,qJ,qK]<;>omega)|exact qL _)) only [go_sem,↓reduceIte,n0,reduceCtorEq,n1,n2,n3,n4,n5,i0,i1,i2,i3,i4,i5,i6,i7,hlq3]
 generalize hw3:wr w2 (w.heap.size+1) 0 [.int .i64 0,.slice (some a2) ((t.at 0).s).length k2,.bool false,.slice none 0 0,.slice none 0 0] = w3
 have hl3:blk w3 (w.heap.size+1)=some (#[.int .i64 0,.slice (some a2) ((t.at 0).s).length k2,.bool false,.slice none 0 0,.slice none 0 0,.int .i64 0,.slice none 0 0,.bool false,.slice none 0 0,.slice none 0 0,.int .i64 0,.slice none 0 0,.bool false,.slice none 0 0,.slice none 0 0,.int .i64 0,.slice none 0 0,.bool false,.slice none 0 0,.slice none 0 0,.int .i64 0,.slice none 0 0,.bool false,.slice none 0 0,.slice none 0 0,.int .i64 0,.slice none 0 0,.bool false,.slice none 0 0,.slice none 0 0,.int .i64 0,.slice none 0 0,.bool false,.slice none 0 0,.slice none 0 0,.int .i64 0,.slice none 0 0,.bool false,.slice none 0 0,.slice none 0 0,.int .i64 0,.slice none 0 0,.bool false,.slice none 0 0,.slice none 0 0,.int .i64 0,.slice none 0 0,.bool false,.slice none 0 0,.slice none 0 0],37,(0,0)):=by rw [← hw3,blk_wr_eq,hlq3];rfl
 have hv3:Upd (fun b=>b=w.heap.size+1∨b=w.heap.size+2) w2 w3:=by rw [← hw3];exact (Upd.refl _ _).wr _ _ (.inr (.inl rfl))
 have hV3:Upd (fun b=>b=w.heap.size+1∨b=w.heap.size+2) w1 w3:=hx3.trans hv3
 have hU3:Upd (fun b=>b=w.heap.size+1∨b=w.heap.size+2) w1 w3:=hU1.trans hV3
 have hz3:=hU3.size
 have hX3:Ext w w3:=hE1.more hU3 fun b hb h=>by omega
 have hb3:=hX3.blk_some hb id
 have ht3:blk w3 (w.heap.size+2)=some (#[.int .i64 0,.slice none 0 0,.bool false,.slice (some ⟨w.heap.size+1,0,none⟩) 10 10,.slice none 0 0],37,(0,0)):=by
  rw [← hw3,blk_wr_ne (by omega)]
  exact hP2.blk_some (show blk w1.drew (w.heap.size+2)=_ from ht1) id
 clear hw3
 have hf0:TreeC (fun b=>w1.heap.size≤b) w3 (.oct false (t.at 0).s) [.int .i64 0,.slice (some a2) ((t.at 0).s).length k2,.bool false,.slice none 0 0,.slice none 0 0]:=(TreeC.keep (hv3.keeps fun b hb hk e=>by have hk':w1.heap.size≤b:=hk;omega) (TreeC.intro rfl (hB2.weaken fun b _ hk=>by have hk':w1.drew.heap.size≤b:=hk;(try simp only [size_drew] at hk');omega) (treesN _ _) (tagsN _ _):TreeC (fun b=>w1.heap.size≤b) w2 (.oct false (t.at 0).s) [.int .i64 0,.slice (some a2) ((t.at 0).s).length k2,.bool false,.slice none 0 0,.slice none 0 0]))
 repeat ((first|refine qA rfl ?_|apply qB|refine qC rfl ?_|apply qD|apply qE|apply qF|apply qG|apply qH);try simp (maxSteps:=1000000)(disch:=(first|omega|(simp only [qI,qJ,qK]<;>omega)|exact qL _)) only [go_sem,↓reduceIte,n0,reduceCtorEq,n1,n2,n3,n4,n5,i0,i1,i2,i3,i4,i5,i6,i7,hb3,hl3,ht3,hq0,hq1,hq2,hq3,hq4,hq5,hq6,hq7,hq8,hq9,hq10])
 refine W.drawR (.take 0 (.take 1 (.take 2 (.take 3 (.take 4 (.take 5 (.only 6 (.only 7 (.take 8 (.last 9)))))))))) (NoB) mixed (by kernel_rfl) ?_
 try simp (maxSteps:=1000000)(disch:=(first|omega|(simp only [qI,qJ,qK]<;>omega)|exact qL _)) only [go_sem,↓reduceIte,n0,reduceCtorEq,n1,n2,n3,n4,n5,i0,i1,i2,i3,i4,i5,i6,i7,hb3,hl3,ht3,hq0,hq1,hq2,hq3,hq4,hq5,hq6,hq7,hq8,hq9,hq10]
 refine wp_octets (S:=9) (T:=22) (E:=5) (s:=(t.at 1).s) (by kernel_rfl) (by kernel_rfl) (by kernel_rfl) (by first|rfl|simp (maxSteps:=1000000)(disch:=(first|omega|(simp only [qI,qJ,qK]<;>omega)|exact qL _)) only [go_sem,↓reduceIte,n0,reduceCtorEq,n1,n2,n3,n4,n5,i0,i1,i2,i3,i4,i5,i6,i7,hb3,hl3,ht3,hq0,hq1,hq2,hq3,hq4,hq5,hq6,hq7,hq8,hq9,hq10]) ?_
 intro a4 k4 w4 hB4 hEx4
 have hP4:Upd NoB w3.drew w4:=(Upd.refl _ _).trans (hEx4.mono fun _ h=>h.elim)
 have hsq4:=hEx4.size
 try simp only [size_drew] at hsq4
 refine ⟨hP4,?_⟩
 try simp (maxSteps:=1000000)(disch:=(first|omega|(simp only [qI,qJ,qK]<;>omega)|exact qL _)) only [go_sem,↓reduceIte,n0,reduceCtorEq,n1,n2,n3,n4,n5,i0,i1,i2,i3,i4,i5,i6,i7,hb3,hl3,ht3,hq0,hq1,hq2,hq3,hq4,hq5,hq6,hq7,hq8,hq9,hq10]
 refine ⟨hP4,?_⟩
 have hlq5:=hP4.blk_some (show blk w3.drew (w.heap.size+1)=_ from hl3) id
 have hx5:Upd (fun b=>b=w.heap.size+1∨b=w.heap.size+2) w3 w4:=((Upd.refl _ _).drew).trans (hP4.mono fun _ h=>h.elim)
 try simp (maxSteps:=1000000)(disch:=(first|omega|(simp only [qI,qJ,qK]<;>omega)|exact qL _)) only [go_sem,↓reduceIte,n0,reduceCtorEq,n1,n2,n3,n4,n5,i0,i1,i2,i3,i4,i5,i6,i7,hlq5]
 generalize hw5:wr w4 (w.heap.size+1) 5 [.int .i64 0,.slice (some a4) ((t.at 1).s).length k4,.bool false,.slice none 0 0,.slice none 0 0] = w5
 have hl5:blk w5 (w.heap.size+1)=some (#[.int .i64 0,.slice (some a2) ((t.at 0).s).length k2,.bool false,.slice none 0 0,.slice none 0 0,.int .i64 0,.slice (some a4) ((t.at 1).s).length k4,.bool false,.slice none 0 0,.slice none 0 0,.int .i64 0,.slice none 0 0,.bool false,.slice none 0 0,.slice none 0 0,.int .i64 0,.slice none 0 0,.bool false,.slice none 0 0,.slice none 0 0,.int .i64 0,.slice none 0 0,.bool false,.slice none 0 0,.slice none 0 0,.int .i64 0,.slice none 0 0,.bool false,.slice none 0 0,.slice none 0 0,.int .i64 0,.slice none 0 0,.bool false,.slice none 0 0,.slice none 0 0,.int .i64 0,.slice none 0 0,.bool false,.slice none 0 0,.slice none 0 0,.int .i64 0,.slice none 0 0,.bool false,.slice none 0 0,.slice none 0 0,.int .i64 0,.slice none 0 0,.bool false,.slice none 0 0,.slice none 0 0],37,(0,0)):=by rw [← hw5,blk_wr_eq,hlq5];rfl
 have hv5:Upd (fun b=>b=w.heap.size+1∨b=w.heap.size+2) w4 w5:=by rw [← hw5];exact (Upd.refl _ _).wr _ _ (.inr (.inl rfl))
 have hV5:Upd (fun b=>b=w.heap.size+1∨b=w.heap.size+2) w3 w5:=hx5.trans hv5
 have hU5:Upd (fun b=>b=w.heap.size+1∨b=w.heap.size+2) w1 w5:=hU3.trans hV5
 have hz5:=hU5.size
 have hX5:Ext w w5:=hE1.more hU5 fun b hb h=>by omega
 have hb5:=hX5.blk_some hb id
 have ht5:blk w5 (w.heap.size+2)=some (#[.int .i64 0,.slice none 0 0,.bool false,.slice (some ⟨w.heap.size+1,0,none⟩) 10 10,.slice none 0 0],37,(0,0)):=by
  rw [← hw5,blk_wr_ne (by omega)]
  exact hP4.blk_some (show blk w3.drew (w.heap.size+2)=_ from ht3) id
 clear hw5
 have hf1:TreeC (fun b=>w1.heap.size≤b) w5 (.oct false (t.at 1).s) [.int .i64 0,.slice (some a4) ((t.at 1).s).length k4,.bool false,.slice none 0 0,.slice none 0 0]:=(TreeC.keep (hv5.keeps fun b hb hk e=>by have hk':w1.heap.size≤b:=hk;omega) (TreeC.intro rfl (hB4.weaken fun b _ hk=>by have hk':w3.drew.heap.size≤b:=hk;(try simp only [size_drew] at hk');omega) (treesN _ _) (tagsN _ _):TreeC (fun b=>w1.heap.size≤b) w4 (.oct false (t.at 1).s) [.int .i64 0,.slice (some a4) ((t.at 1).s).length k4,.bool false,.slice none 0 0,.slice none 0 0]))
 repeat ((first|refine qA rfl ?_|apply qB|refine qC rfl ?_|apply qD|apply qE|apply qF|apply qG|apply qH);try simp (maxSteps:=1000000)(disch:=(first|omega|(simp only [qI,qJ,qK]<;>omega)|exact qL _)) only [go_sem,↓reduceIte,n0,reduceCtorEq,n1,n2,n3,n4,n5,i0,i1,i2,i3,i4,i5,i6,i7,hb5,hl5,ht5,hq0,hq1,hq2,hq3,hq4,hq5,hq6,hq7,hq8,hq9,hq10])
 refine W.drawR (.take 0 (.take 1 (.take 2 (.take 3 (.take 4 (.take 5 (.take 6 (.only 7 (.take 8 (.last 9)))))))))) (NoB) mixed (by kernel_rfl) ?_
 try simp (maxSteps:=1000000)(disch:=(first|omega|(simp only [qI,qJ,qK]<;>omega)|exact qL _)) only [go_sem,↓reduceIte,n0,reduceCtorEq,n1,n2,n3,n4,n5,i0,i1,i2,i3,i4,i5,i6,i7,hb5,hl5,ht5,hq0,hq1,hq2,hq3,hq4,hq5,hq6,hq7,hq8,hq9,hq10,tl32]
 refine ⟨Upd.refl _ _,?_⟩
 have hlq6:blk w5.drew (w.heap.size+1)=_:=hl5
 have hx6:Upd (fun b=>b=w.heap.size+1∨b=w.heap.size+2) w5 w5.drew:=(Upd.refl _ _).drew
 generalize hw6:wr w5.drew (w.heap.size+1) 10 [.int .i64 (IntKind.i32.wrap (t.at 2).n),.slice none 0 0,.bool false,.slice none 0 0,.slice none 0 0] = w6
 have hl6:blk w6 (w.heap.size+1)=some (#[.int .i64 0,.slice (some a2) ((t.at 0).s).length k2,.bool false,.slice none 0 0,.slice none 0 0,.int .i64 0,.slice (some a4) ((t.at 1).s).length k4,.bool false,.slice none 0 0,.slice none 0 0,.int .i64 (IntKind.i32.wrap (t.at 2).n),.slice none 0 0,.bool false,.slice none 0 0,.slice none 0 0,.int .i64 0,.slice none 0 0,.bool false,.slice none 0 0,.slice none 0 0,.int .i64 0,.slice none 0 0,.bool false,.slice none 0 0,.slice none 0 0,.int .i64 0,.slice none 0 0,.bool false,.slice none 0 0,.slice none 0 0,.int .i64 0,.slice none 0 0,.bool false,.slice none 0 0,.slice none 0 0,.int .i64 0,.slice none 0 0,.bool false,.slice none 0 0,.slice none 0 0,.int .i64 0,.slice none 0 0,.bool false,.slice none 0 0,.slice none 0 0,.int .i64 0,.slice none 0 0,.bool false,.slice none 0 0,.slice none 0 0],37,(0,0)):=by rw [← hw6,blk_wr_eq,hlq6];rfl
 have hv6:Upd (fun b=>b=w.heap.size+1∨b=w.heap.size+2) w5.drew w6:=by rw [← hw6];exact (Upd.refl _ _).wr _ _ (.inr (.inl rfl))
 have hV6:Upd (fun b=>b=w.heap.size+1∨b=w.heap.size+2) w5 w6:=hx6.trans hv6
 have hU6:Upd (fun b=>b=w.heap.size+1∨b=w.heap.size+2) w1 w6:=hU5.trans hV6
 have hz6:=hU6.size
 have hX6:Ext w w6:=hE1.more hU6 fun b hb h=>by omega
 have hb6:=hX6.blk_some hb id
 have ht6:blk w6 (w.heap.size+2)=some (#[.int .i64 0,.slice none 0 0,.bool false,.slice (some ⟨w.heap.size+1,0,none⟩) 10 10,.slice none 0 0],37,(0,0)):=by
  rw [← hw6,blk_wr_ne (by omega)]
  exact ht5
 clear hw6
 have hf2:TreeC (fun b=>w1.heap.size≤b) w6 (.num (IntKind.i32.wrap (t.at 2).n)) [.int .i64 (IntKind.i32.wrap (t.at 2).n),.slice none 0 0,.bool false,.slice none 0 0,.slice none 0 0]:=(TreeC.keep (hv6.keeps fun b hb hk e=>by have hk':w1.heap.size≤b:=hk;omega) (TreeC.intro (tl32 _) (BytesV.nil _ _) (treesN _ _) (tagsN _ _):TreeC (fun b=>w1.heap.size≤b) w5.drew (.num (IntKind.i32.wrap (t.at 2).n)) [.int .i64 (IntKind.i32.wrap (t.at 2).n),.slice none 0 0,.bool false,.slice none 0 0,.slice none 0 0]))
 repeat ((first|refine qA rfl ?_|apply qB|refine qC rfl ?_|apply qD|apply qE|apply qF|apply qG|apply qH);try simp (maxSteps:=1000000)(disch:=(first|omega|(simp only [qI,qJ,qK]<;>omega)|exact qL _)) only [go_sem,↓reduceIte,n0,reduceCtorEq,n1,n2,n3,n4,n5,i0,i1,i2,i3,i4,i5,i6,i7,hb6,hl6,ht6,hq0,hq1,hq2,hq3,hq4,hq5,hq6,hq7,hq8,hq9,hq10])
 refine W.drawR (.take 0 (.take 1 (.take 2 (.take 3 (.take 4 (.take 5 (.only 6 (.take 7 (.last 8))))))))) (NoB) mixed (by kernel_rfl) ?_
 try simp (maxSteps:=1000000)(disch:=(first|omega|(simp only [qI,qJ,qK]<;>omega)|exact qL _)) only [go_sem,↓reduceIte,n0,reduceCtorEq,n1,n2,n3,n4,n5,i0,i1,i2,i3,i4,i5,i6,i7,hb6,hl6,ht6,hq0,hq1,hq2,hq3,hq4,hq5,hq6,hq7,hq8,hq9,hq10]
 refine (textTree_fn (ok:=ok) _ (t.at 3).null (t.at 3).s w6.drew (hp3.keep (Ext.keeps (hX6.drew) _))).mono ?_
 rintro _ w7 ⟨⟨vS7,rfl,hB7⟩,hEx7⟩
 have hfl7:=hB7.flat
 have hP7:Upd NoB w6.drew w7:=(Upd.refl _ _).trans (hEx7.mono fun _ h=>h.elim)
 have hsq7:=hEx7.size
 try simp only [size_drew] at hsq7
 refine ⟨hP7,?_⟩
 try simp (maxSteps:=1000000)(disch:=(first|omega|(simp only [qI,qJ,qK]<;>omega)|exact qL _)) only [go_sem,↓reduceIte,n0,reduceCtorEq,n1,n2,n3,n4,n5,i0,i1,i2,i3,i4,i5,i6,i7,hb6,hl6,ht6,hq0,hq1,hq2,hq3,hq4,hq5,hq6,hq7,hq8,hq9,hq10,hfl7]
 have hlq8:=hP7.blk_some (show blk w6.drew (w.heap.size+1)=_ from hl6) id
 have hx8:Upd (fun b=>b=w.heap.size+1∨b=w.heap.size+2) w6 w7:=((Upd.refl _ _).drew).trans (hP7.mono fun _ h=>h.elim)
 try simp (maxSteps:=1000000)(disch:=(first|omega|(simp only [qI,qJ,qK]<;>omega)|exact qL _)) only [go_sem,↓reduceIte,n0,reduceCtorEq,n1,n2,n3,n4,n5,i0,i1,i2,i3,i4,i5,i6,i7,hlq8]
 generalize hw8:wr w7 (w.heap.size+1) 15 [.int .i64 0,vS7,.bool (t.at 3).null,.slice none 0 0,.slice none 0 0] = w8
 have hl8:blk w8 (w.heap.size+1)=some (#[.int .i64 0,.slice (some a2) ((t.at 0).s).length k2,.bool false,.slice none 0 0,.slice none 0 0,.int .i64 0,.slice (some a4) ((t.at 1).s).length k4,.bool false,.slice none 0 0,.slice none 0 0,.int .i64 (IntKind.i32.wrap (t.at 2).n),.slice none 0 0,.bool false,.slice none 0 0,.slice none 0 0,.int .i64 0,vS7,.bool (t.at 3).null,.slice none 0 0,.slice none 0 0,.int .i64 0,.slice none 0 0,.bool false,.slice none 0 0,.slice none 0 0,.int .i64 0,.slice none 0 0,.bool false,.slice none 0 0,.slice none 0 0,.int .i64 0,.slice none 0 0,.bool false,.slice none 0 0,.slice none 0 0,.int .i64 0,.slice none 0 0,.bool false,.slice none 0 0,.slice none 0 0,.int .i64 0,.slice none 0 0,.bool false,.slice none 0 0,.slice none 0 0,.int .i64 0,.slice none 0 0,.bool false,.slice none 0 0,.slice none 0 0],37,(0,0)):=by rw [← hw8,blk_wr_eq,hlq8];rfl
 have hv8:Upd (fun b=>b=w.heap.size+1∨b=w.heap.size+2) w7 w8:=by rw [← hw8];exact (Upd.refl _ _).wr _ _ (.inr (.inl rfl))
 have hV8:Upd (fun b=>b=w.heap.size+1∨b=w.heap.size+2) w6 w8:=hx8.trans hv8
 have hU8:Upd (fun b=>b=w.heap.size+1∨b=w.heap.size+2) w1 w8:=hU6.trans hV8
 have hz8:=hU8.size
 have hX8:Ext w w8:=hE1.more hU8 fun b hb h=>by omega
 have hb8:=hX8.blk_some hb id
 have ht8:blk w8 (w.heap.size+2)=some (#[.int .i64 0,.slice none 0 0,.bool false,.slice (some ⟨w.heap.size+1,0,none⟩) 10 10,.slice none 0 0],37,(0,0)):=by
  rw [← hw8,blk_wr_ne (by omega)]
  exact hP7.blk_some (show blk w6.drew (w.heap.size+2)=_ from ht6) id
 clear hw8
 have hf3:TreeC (fun b=>w1.heap.size≤b) w8 (.oct (t.at 3).null (if (t.at 3).null=true then [] else (t.at 3).s)) [.int .i64 0,vS7,.bool (t.at 3).null,.slice none 0 0,.slice none 0 0]:=(TreeC.keep (hv8.keeps fun b hb hk e=>by have hk':w1.heap.size≤b:=hk;omega) (TreeC.intro rfl (hB7.weaken fun b _ hk=>by have hk':w6.drew.heap.size≤b:=hk;(try simp only [size_drew] at hk');omega) (treesN _ _) (tagsN _ _):TreeC (fun b=>w1.heap.size≤b) w7 (.oct (t.at 3).null (if (t.at 3).null=true then [] else (t.at 3).s)) [.int .i64 0,vS7,.bool (t.at 3).null,.slice none 0 0,.slice none 0 0]))
 repeat ((first|refine qA rfl ?_|apply qB|refine qC rfl ?_|apply qD|apply qE|apply qF|apply qG|apply qH);try simp (maxSteps:=1000000)(disch:=(first|omega|(simp only [qI,qJ,qK]<;>omega)|exact qL _)) only [go_sem,↓reduceIte,n0,reduceCtorEq,n1,n2,n3,n4,n5,i0,i1,i2,i3,i4,i5,i6,i7,hb8,hl8,ht8,hq0,hq1,hq2,hq3,hq4,hq5,hq6,hq7,hq8,hq9,hq10])
 refine W.drawR (.take 0 (.take 1 (.take 2 (.take 3 (.take 4 (.take 5 (.only 6 (.take 7 (.last 8))))))))) (NoB) mixed (by kernel_rfl) ?_
 try simp (maxSteps:=1000000)(disch:=(first|omega|(simp only [qI,qJ,qK]<;>omega)|exact qL _)) only [go_sem,↓reduceIte,n0,reduceCtorEq,n1,n2,n3,n4,n5,i0,i1,i2,i3,i4,i5,i6,i7,hb8,hl8,ht8,hq0,hq1,hq2,hq3,hq4,hq5,hq6,hq7,hq8,hq9,hq10]
 refine (textTree_fn (ok:=ok) _ (t.at 4).null (t.at 4).s w8.drew (hp4.keep (Ext.keeps (hX8.drew) _))).mono ?_
 rintro _ w9 ⟨⟨vS9,rfl,hB9⟩,hEx9⟩
 have hfl9:=hB9.flat
 have hP9:Upd NoB w8.drew w9:=(Upd.refl _ _).trans (hEx9.mono fun _ h=>h.elim)
 have hsq9:=hEx9.size
 try simp only [size_drew] at hsq9
 refine ⟨hP9,?_⟩
 try simp (maxSteps:=1000000)(disch:=(first|omega|(simp only [qI,qJ,qK]<;>omega)|exact qL _)) only [go_sem,↓reduceIte,n0,reduceCtorEq,n1,n2,n3,n4,n5,i0,i1,i2,i3,i4,i5,i6,i7,hb8,hl8,ht8,hq0,hq1,hq2,hq3,hq4,hq5,hq6,hq7,hq8,hq9,hq10,hfl9]
 have hlq10:=hP9.blk_some (show blk w8.drew (w.heap.size+1)=_ from hl8) id
 have hx10:Upd (fun b=>b=w.heap.size+1∨b=w.heap.size+2) w8 w9:=((Upd.refl _ _).drew).trans (hP9.mono fun _ h=>h.elim)
 try simp (maxSteps:=1000000)(disch:=(first|omega|(simp only [qI,qJ,qK]<;>omega)|exact qL _)) only [go_sem,↓reduceIte,n0,reduceCtorEq,n1,n2,n3,n4,n5,i0,i1,i2,i3,i4,i5,i6,i7,hlq10]
 generalize hw10:wr w9 (w.heap.size+1) 20 [.int .i64 0,vS9,.bool (t.at 4).null,.slice none 0 0,.slice none 0 0] = w10
 have hl10:blk w10 (w.heap.size+1)=some (#[.int .i64 0,.slice (some a2) ((t.at 0).s).length k2,.bool false,.slice none 0 0,.slice none 0 0,.int .i64 0,.slice (some a4) ((t.at 1).s).length k4,.bool false,.slice none 0 0,.slice none 0 0,.int .i64 (IntKind.i32.wrap (t.at 2).n),.slice none 0 0,.bool false,.slice none 0 0,.slice none 0 0,.int .i64 0,vS7,.bool (t.at 3).null,.slice none 0 0,.slice none 0 0,.int .i64 0,vS9,.bool (t.at 4).null,.slice none 0 0,.slice none 0 0,.int .i64 0,.slice none 0 0,.bool false,.slice none 0 0,.slice none 0 0,.int .i64 0,.slice none 0 0,.bool false,.slice none 0 0,.slice none 0 0,.int .i64 0,.slice none 0 0,.bool false,.slice none 0 0,.slice none 0 0,.int .i64 0,.slice none 0 0,.bool false,.slice none 0 0,.slice none 0 0,.int .i64 0,.slice none 0 0,.bool false,.slice none 0 0,.slice none 0 0],37,(0,0)):=by rw [← hw10,blk_wr_eq,hlq10];rfl
 have hv10:Upd (fun b=>b=w.heap.size+1∨b=w.heap.size+2) w9 w10:=by rw [← hw10];exact (Upd.refl _ _).wr _ _ (.inr (.inl rfl))
 have hV10:Upd (fun b=>b=w.heap.size+1∨b=w.heap.size+2) w8 w10:=hx10.trans hv10
 have hU10:Upd (fun b=>b=w.heap.size+1∨b=w.heap.size+2) w1 w10:=hU8.trans hV10
 have hz10:=hU10.size
 have hX10:Ext w w10:=hE1.more hU10 fun b hb h=>by omega
 have hb10:=hX10.blk_some hb id
 have ht10:blk w10 (w.heap.size+2)=some (#[.int .i64 0,.slice none 0 0,.bool false,.slice (some ⟨w.heap.size+1,0,none⟩) 10 10,.slice none 0 0],37,(0,0)):=by
  rw [← hw10,blk_wr_ne (by omega)]
  exact hP9.blk_some (show blk w8.drew (w.heap.size+2)=_ from ht8) id
 clear hw10
 have hf4:TreeC (fun b=>w1.heap.size≤b) w10 (.oct (t.at 4).null (if (t.at 4).null=true then [] else (t.at 4).s)) [.int .i64 0,vS9,.bool (t.at 4).null,.slice none 0 0,.slice none 0 0]:=(TreeC.keep (hv10.keeps fun b hb hk e=>by have hk':w1.heap.size≤b:=hk;omega) (TreeC.intro rfl (hB9.weaken fun b _ hk=>by have hk':w8.drew.heap.size≤b:=hk;(try simp only [size_drew] at hk');omega) (treesN _ _) (tagsN _ _):TreeC (fun b=>w1.heap.size≤b) w9 (.oct (t.at 4).null (if (t.at 4).null=true then [] else (t.at 4).s)) [.int .i64 0,vS9,.bool (t.at 4).null,.slice none 0 0,.slice none 0 0]))
 repeat ((first|refine qA rfl ?_|apply qB|refine qC rfl ?_|apply qD|apply qE|apply qF|apply qG|apply qH);try simp (maxSteps:=1000000)(disch:=(first|omega|(simp only [qI,qJ,qK]<;>omega)|exact qL _)) only [go_sem,↓reduceIte,n0,reduceCtorEq,n1,n2,n3,n4,n5,i0,i1,i2,i3,i4,i5,i6,i7,hb10,hl10,ht10,hq0,hq1,hq2,hq3,hq4,hq5,hq6,hq7,hq8,hq9,hq10])
 refine W.drawR (.take 0 (.take 1 (.take 2 (.take 3 (.take 4 (.take 5 (.take 6 (.only 7 (.take 8 (.last 9)))))))))) (NoB) mixed (by kernel_rfl) ?_
 try simp (maxSteps:=1000000)(disch:=(first|omega|(simp only [qI,qJ,qK]<;>omega)|exact qL _)) only [go_sem,↓reduceIte,n0,reduceCtorEq,n1,n2,n3,n4,n5,i0,i1,i2,i3,i4,i5,i6,i7,hb10,hl10,ht10,hq0,hq1,hq2,hq3,hq4,hq5,hq6,hq7,hq8,hq9,hq10,tl32]
 refine ⟨Upd.refl _ _,?_⟩
 have hlq11:blk w10.drew (w.heap.size+1)=_:=hl10
 have hx11:Upd (fun b=>b=w.heap.size+1∨b=w.heap.size+2) w10 w10.drew:=(Upd.refl _ _).drew
 generalize hw11:wr w10.drew (w.heap.size+1) 25 [.int .i64 (IntKind.i32.wrap (t.at 5).n),.slice none 0 0,.bool false,.slice none 0 0,.slice none 0 0] = w11
 have hl11:blk w11 (w.heap.size+1)=some (#[.int .i64 0,.slice (some a2) ((t.at 0).s).length k2,.bool false,.slice none 0 0,.slice none 0 0,.int .i64 0,.slice (some a4) ((t.at 1).s).length k4,.bool false,.slice none 0 0,.slice none 0 0,.int .i64 (IntKind.i32.wrap (t.at 2).n),.slice none 0 0,.bool false,.slice none 0 0,.slice none 0 0,.int .i64 0,vS7,.bool (t.at 3).null,.slice none 0 0,.slice none 0 0,.int .i64 0,vS9,.bool (t.at 4).null,.slice none 0 0,.slice none 0 0,.int .i64 (IntKind.i32.wrap (t.at 5).n),.slice none 0 0,.bool false,.slice none 0 0,.slice none 0 0,.int .i64 0,.slice none 0 0,.bool false,.slice none 0 0,.slice none 0 0,.int .i64 0,.slice none 0 0,.bool false,.slice none 0 0,.slice none 0 0,.int .i64 0,.slice none 0 0,.bool false,.slice none 0 0,.slice none 0 0,.int .i64 0,.slice none 0 0,.bool false,.slice none 0 0,.slice none 0 0],37,(0,0)):=by rw [← hw11,blk_wr_eq,hlq11];rfl
 have hv11:Upd (fun b=>b=w.heap.size+1∨b=w.heap.size+2) w10.drew w11:=by rw [← hw11];exact (Upd.refl _ _).wr _ _ (.inr (.inl rfl))
 have hV11:Upd (fun b=>b=w.heap.size+1∨b=w.heap.size+2) w10 w11:=hx11.trans hv11
 have hU11:Upd (fun b=>b=w.heap.size+1∨b=w.heap.size+2) w1 w11:=hU10.trans hV11
 have hz11:=hU11.size
 have hX11:Ext w w11:=hE1.more hU11 fun b hb h=>by omega
 have hb11:=hX11.blk_some hb id
 have ht11:blk w11 (w.heap.size+2)=some (#[.int .i64 0,.slice none 0 0,.bool false,.slice (some ⟨w.heap.size+1,0,none⟩) 10 10,.slice none 0 0],37,(0,0)):=by
  rw [← hw11,blk_wr_ne (by omega)]
  exact ht10
 clear hw11
 have hf5:TreeC (fun b=>w1.heap.size≤b) w11 (.num (IntKind.i32.wrap (t.at 5).n)) [.int .i64 (IntKind.i32.wrap (t.at 5).n),.slice none 0 0,.bool false,.slice none 0 0,.slice none 0 0]:=(TreeC.keep (hv11.keeps fun b hb hk e=>by have hk':w1.heap.size≤b:=hk;omega) (TreeC.intro (tl32 _) (BytesV.nil _ _) (treesN _ _) (tagsN _ _):TreeC (fun b=>w1.heap.size≤b) w10.drew (.num (IntKind.i32.wrap (t.at 5).n)) [.int .i64 (IntKind.i32.wrap (t.at 5).n),.slice none 0 0,.bool false,.slice none 0 0,.slice none 0 0]))
 repeat ((first|refine qA rfl ?_|apply qB|refine qC rfl ?_|apply qD|apply qE|apply qF|apply qG|apply qH);try simp (maxSteps:=1000000)(disch:=(first|omega|(simp only [qI,qJ,qK]<;>omega)|exact qL _)) only [go_sem,↓reduceIte,n0,reduceCtorEq,n1,n2,n3,n4,n5,i0,i1,i2,i3,i4,i5,i6,i7,hb11,hl11,ht11,hq0,hq1,hq2,hq3,hq4,hq5,hq6,hq7,hq8,hq9,hq10])
 refine W.drawR (.take 0 (.take 1 (.take 2 (.take 3 (.take 4 (.take 5 (.take 6 (.take 7 (.take 8 (.last 9)))))))))) (NoB) mixed (by kernel_rfl) ?_
 try simp (maxSteps:=1000000)(disch:=(first|omega|(simp only [qI,qJ,qK]<;>omega)|exact qL _)) only [go_sem,↓reduceIte,n0,reduceCtorEq,n1,n2,n3,n4,n5,i0,i1,i2,i3,i4,i5,i6,i7,hb11,hl11,ht11,hq0,hq1,hq2,hq3,hq4,hq5,hq6,hq7,hq8,hq9,hq10,hnn6]
 generalize hw12:wr w11.drew (w.heap.size+1) 32 [.bool (t.at 6).null] = w12
 have hl12:blk w12 (w.heap.size+1)=some (#[.int .i64 0,.slice (some a2) ((t.at 0).s).length k2,.bool false,.slice none 0 0,.slice none 0 0,.int .i64 0,.slice (some a4) ((t.at 1).s).length k4,.bool false,.slice none 0 0,.slice none 0 0,.int .i64 (IntKind.i32.wrap (t.at 2).n),.slice none 0 0,.bool false,.slice none 0 0,.slice none 0 0,.int .i64 0,vS7,.bool (t.at 3).null,.slice none 0 0,.slice none 0 0,.int .i64 0,vS9,.bool (t.at 4).null,.slice none 0 0,.slice none 0 0,.int .i64 (IntKind.i32.wrap (t.at 5).n),.slice none 0 0,.bool false,.slice none 0 0,.slice none 0 0,.int .i64 0,.slice none 0 0,.bool (t.at 6).null,.slice none 0 0,.slice none 0 0,.int .i64 0,.slice none 0 0,.bool false,.slice none 0 0,.slice none 0 0,.int .i64 0,.slice none 0 0,.bool false,.slice none 0 0,.slice none 0 0,.int .i64 0,.slice none 0 0,.bool false,.slice none 0 0,.slice none 0 0],37,(0,0)):=by rw [← hw12,blk_wr_eq,show blk w11.drew (w.heap.size+1)=_ from hl11];rfl
 have hV12:Upd (fun b=>b=w.heap.size+1∨b=w.heap.size+2) w11 w12:=by rw [← hw12];exact ((Upd.refl _ _).drew).wr _ _ (.inr (.inl rfl))
 have hU12:Upd (fun b=>b=w.heap.size+1∨b=w.heap.size+2) w1 w12:=hU11.trans hV12
 have hz12:=hU12.size
 have hX12:Ext w w12:=hE1.more hU12 fun b hb h=>by omega
 have hb12:=hX12.blk_some hb id
 have ht12:blk w12 (w.heap.size+2)=some (#[.int .i64 0,.slice none 0 0,.bool false,.slice (some ⟨w.heap.size+1,0,none⟩) 10 10,.slice none 0 0],37,(0,0)):=by
  rw [← hw12,blk_wr_ne (by omega)]
  exact ht11
 clear hw12
 repeat ((first|refine qA rfl ?_|apply qB|refine qC rfl ?_|apply qD|apply qE|apply qF|apply qG|apply qH);try simp (maxSteps:=1000000)(disch:=(first|omega|(simp only [qI,qJ,qK]<;>omega)|exact qL _)) only [go_sem,↓reduceIte,n0,reduceCtorEq,n1,n2,n3,n4,n5,i0,i1,i2,i3,i4,i5,i6,i7,hb12,hl12,ht12,hq0,hq1,hq2,hq3,hq4,hq5,hq6,hq7,hq8,hq9,hq10])
 refine W.exitJ 0 (EndQ [(0,.pointer (some ⟨b,0,none⟩)),(2,.pointer (some ⟨w.heap.size,0,none⟩)),(3,.pointer (some ⟨w.heap.size+2,0,none⟩)),(73,.int .i64 L6.length)] (fun w'=>∃ v,blk w' (w.heap.size+1)=some (#[.int .i64 0,.slice (some a2) ((t.at 0).s).length k2,.bool false,.slice none 0 0,.slice none 0 0,.int .i64 0,.slice (some a4) ((t.at 1).s).length k4,.bool false,.slice none 0 0,.slice none 0 0,.int .i64 (IntKind.i32.wrap (t.at 2).n),.slice none 0 0,.bool false,.slice none 0 0,.slice none 0 0,.int .i64 0,vS7,.bool (t.at 3).null,.slice none 0 0,.slice none 0 0,.int .i64 0,vS9,.bool (t.at 4).null,.slice none 0 0,.slice none 0 0,.int .i64 (IntKind.i32.wrap (t.at 5).n),.slice none 0 0,.bool false,.slice none 0 0,.slice none 0 0,.int .i64 0,.slice none 0 0,.bool (t.at 6).null,v,.slice none 0 0,.int .i64 0,.slice none 0 0,.bool false,.slice none 0 0,.slice none 0 0,.int .i64 0,.slice none 0 0,.bool false,.slice none 0 0,.slice none 0 0,.int .i64 0,.slice none 0 0,.bool false,.slice none 0 0,.slice none 0 0],37,(0,0))∧GrowT (fun b=>w1.heap.size≤b) w12.heap.size (w.heap.size+1) w' 37 v (L6.map (tl1 (tlP (d+1)) fQ_6.of fQ_6.sub))∧Upd (fun b=>b=w.heap.size+1) w12 w')) (W.loop (LoopL [(0,.pointer (some ⟨b,0,none⟩)),(2,.pointer (some ⟨w.heap.size,0,none⟩)),(3,.pointer (some ⟨w.heap.size+2,0,none⟩)),(73,.int .i64 L6.length)] 74 (fun j w'=>∃ v,j≤L6.length∧blk w' (w.heap.size+1)=some (#[.int .i64 0,.slice (some a2) ((t.at 0).s).length k2,.bool false,.slice none 0 0,.slice none 0 0,.int .i64 0,.slice (some a4) ((t.at 1).s).length k4,.bool false,.slice none 0 0,.slice none 0 0,.int .i64 (IntKind.i32.wrap (t.at 2).n),.slice none 0 0,.bool false,.slice none 0 0,.slice none 0 0,.int .i64 0,vS7,.bool (t.at 3).null,.slice none 0 0,.slice none 0 0,.int .i64 0,vS9,.bool (t.at 4).null,.slice none 0 0,.slice none 0 0,.int .i64 (IntKind.i32.wrap (t.at 5).n),.slice none 0 0,.bool false,.slice none 0 0,.slice none 0 0,.int .i64 0,.slice none 0 0,.bool (t.at 6).null,v,.slice none 0 0,.int .i64 0,.slice none 0 0,.bool false,.slice none 0 0,.slice none 0 0,.int .i64 0,.slice none 0 0,.bool false,.slice none 0 0,.slice none 0 0,.int .i64 0,.slice none 0 0,.bool false,.slice none 0 0,.slice none 0 0],37,(0,0))∧GrowT (fun b=>w1.heap.size≤b) w12.heap.size (w.heap.size+1) w' 37 v ((L6.take j).map (tl1 (tlP (d+1)) fQ_6.of fQ_6.sub))∧Upd (fun b=>b=w.heap.size+1) w12 w')) (fun ρ _=>L6.length - (RowKit.intOf (ρ 74)).toNat) ?_ ?_) ?_
 ·exact ⟨(by simp (maxSteps:=1000000)(disch:=(first|omega|(simp only [qI,qJ,qK]<;>omega)|exact qL _)) only [go_sem,↓reduceIte,n0,reduceCtorEq,n1,n2,n3,n4,n5,i0,i1,i2,i3,i4,i5,i6,i7,Holds_nil,Holds_cons]),0,(by simp (maxSteps:=1000000)(disch:=(first|omega|(simp only [qI,qJ,qK]<;>omega)|exact qL _)) only [go_sem,↓reduceIte,n0,reduceCtorEq,n1,n2,n3,n4,n5,i0,i1,i2,i3,i4,i5,i6,i7];all_goals rfl),.slice none 0 0,Nat.zero_le _,hl12,GrowT.nil _ _ _ _ _,Upd.refl _ _⟩
 ·rintro ρ w13 ⟨⟨hrc6_0,hrc6_2,hrc6_3,hrc6_73,-⟩,j,hri,v,hj,hl13,hg,hUk⟩
  have hzk:=hUk.size
  have hX13:Ext w w13:=hX12.more hUk fun b hb h=>by omega
  have hz13:w1.heap.size≤w13.heap.size:=by have:=hz12;omega
  have hb13:=hX13.blk_some hb id
  have ht13:=hUk.blk_some ht12 (by omega)
  by_cases hlt:j < L6.length
  ·obtain ⟨_,be,oe,xe,ce,hbe,hoke,hxe,hble,hxs,hxx,hqe,hRe⟩:=SlR.get (size:=1) (by decide) hs6 hlt
   subst hbe
   have hcat:L6.take (j+1)=L6.take j++[L6[j]]:=List.take_succ_eq_append_getElem hlt
   have hgy:=hgl6.2 _ (List.getElem_mem hlt)
   have hll:=hgl6.1
   obtain ⟨av,kv,hvs,_⟩:=hg.shape
   have hlj:(List.map (tl1 (tlP (d+1)) fQ_6.of fQ_6.sub) (L6.take j)).length=j:=by simp;omega
   rw [hlj] at hvs
   subst hvs
   have hnb:∀ b,b < w12.heap.size∨w13.heap.size≤b→¬ ownB (.slice av j kv) b:=fun b hb h=>by
    have:=hg.above h
    have:=hg.below h
    omega
   generalize L6[j] = y at *
   obtain rfl:=Rep1_text.1 hRe
   have hqe0:xe.1[oe+j]? = some (strV y.s):=by have:=hqe 0 (by decide);rw [Nat.mul_one] at this;exact this
   repeat ((first|refine qA rfl ?_|apply qB|refine qC rfl ?_|apply qD|apply qE|apply qF|apply qG|apply qH);try simp (maxSteps:=1000000)(disch:=(first|omega|(simp only [qI,qJ,qK]<;>omega)|exact qL _)) only [go_sem,↓reduceIte,n0,reduceCtorEq,n1,n2,n3,n4,n5,i0,i1,i2,i3,i4,i5,i6,i7,hb13,hl13,ht13,hq0,hq1,hq2,hq3,hq4,hq5,hq6,hq7,hq8,hq9,hq10,hrc6_0,hrc6_2,hrc6_3,hrc6_73,hri])
   refine W.drawR (.only 0 (.two 1 (.only 2 (.only 3 .done)) 2 (.only 1 (.only 3 .done)))) NoB mixed (by kernel_rfl) ?_
   try simp (maxSteps:=1000000)(disch:=(first|omega|(simp only [qI,qJ,qK]<;>omega)|exact qL _)) only [go_sem,↓reduceIte,n0,reduceCtorEq,n1,n2,n3,n4,n5,i0,i1,i2,i3,i4,i5,i6,i7,hb13,hl13,ht13,hq0,hq1,hq2,hq3,hq4,hq5,hq6,hq7,hq8,hq9,hq10,hrc6_0,hrc6_2,hrc6_3,hrc6_73,hri]
   have q0:Upd NoB w13.drew (w13.alloc (.cells #[.bool false] 4)).drew:=show Upd NoB w13.drew (w13.drew.alloc (.cells #[.bool false] 4)) from Upd.alloc (Upd.refl _ _) _
   have q1:Upd NoB w13.drew (wr (w13.alloc (.cells #[.bool false] 4)).drew w13.heap.size 0 [.bool true]):=q0.wr _ _ (.inl (Nat.le_refl _))
   have q2:Upd NoB w13.drew (wr (wr (w13.alloc (.cells #[.bool false] 4)).drew w13.heap.size 0 [.bool true]) w13.heap.size 0 [.bool false]):=q1.wr _ _ (.inl (Nat.le_refl _))
   have q3:Upd NoB w13.drew (wr (w13.alloc (.cells #[.bool false] 4)).drew w13.heap.size 0 [.bool false]):=q0.wr _ _ (.inl (Nat.le_refl _))
   have q4:Upd NoB w13.drew (wr (wr (w13.alloc (.cells #[.bool false] 4)).drew w13.heap.size 0 [.bool false]) w13.heap.size 0 [.bool true]):=q3.wr _ _ (.inl (Nat.le_refl _))
   refine ⟨q0,⟨q1,q2,q2,?_⟩,⟨q3,q4,q4,?_⟩⟩
   ·have hk14:Ext w13 (wr (wr (w13.alloc (.cells #[.bool false] 4)).drew w13.heap.size 0 [.bool true]) w13.heap.size 0 [.bool false]):=((Upd.refl _ _).drew).trans q2
    generalize (wr (wr (w13.alloc (.cells #[.bool false] 4)).drew w13.heap.size 0 [.bool true]) w13.heap.size 0 [.bool false])=w14 at *
    have hzk14:=hk14.size
    have hX14:Ext w w14:=hX13.trans hk14
    have hb14:=hk14.blk_some hb13 id
    have hl14:=hk14.blk_some hl13 id
    have ht14:=hk14.blk_some ht13 id
    have hxe14:=hX14.blk_some hxe id
    repeat ((first|refine qA rfl ?_|apply qB|refine qC rfl ?_|apply qD|apply qE|apply qF|apply qG|apply qH);try simp (maxSteps:=1000000)(disch:=(first|omega|(simp only [qI,qJ,qK]<;>omega)|exact qL _)) only [go_sem,↓reduceIte,n0,reduceCtorEq,n1,n2,n3,n4,n5,i0,i1,i2,i3,i4,i5,i6,i7,hb14,hl14,ht14,hxe14,Int.toNat_natCast,Nat.mul_one,hq0,hq1,hq2,hq3,hq4,hq5,hq6,hq7,hq8,hq9,hq10,hqe0,hrc6_0,hrc6_2,hrc6_3,hrc6_73,hri])
    refine W.drawR (.take 0 (.take 1 (.take 2 (.take 3 (.take 4 (.take 5 (.take 6 (.take 7 (.take 8 (.take 9 (.take 10 (.take 11 (.take 12 (.take 13 (.only 14 (.only 15 (.only 16 (.only 17 (.take 18 (.take 19 (.last 20))))))))))))))))))))) (ownB (.slice av j kv)) mixed (by kernel_rfl) ?_
    try simp (maxSteps:=1000000)(disch:=(first|omega|(simp only [qI,qJ,qK]<;>omega)|exact qL _|(refine hnb _ ?_;first|omega|(simp only [World.size_alloc,size_wr,size_drew]<;>omega)))) only [go_sem,↓reduceIte,n0,reduceCtorEq,n1,n2,n3,n4,n5,i0,i1,i2,i3,i4,i5,i6,i7,hb14,hl14,ht14,hxe14,Int.toNat_natCast,Nat.mul_one,hq0,hq1,hq2,hq3,hq4,hq5,hq6,hq7,hq8,hq9,hq10,hqe0,hrc6_0,hrc6_2,hrc6_3,hrc6_73,hri]
    refine wp_octets (S:=9) (T:=22) (E:=5) (s:=y.s) (by kernel_rfl) (by kernel_rfl) (by kernel_rfl) (by first|rfl|simp (maxSteps:=1000000)(disch:=(first|omega|(simp only [qI,qJ,qK]<;>omega)|exact qL _)) only [go_sem,↓reduceIte,n0,reduceCtorEq,n1,n2,n3,n4,n5,i0,i1,i2,i3,i4,i5,i6,i7,hb14,hl14,ht14,hxe14,Int.toNat_natCast,Nat.mul_one,hq0,hq1,hq2,hq3,hq4,hq5,hq6,hq7,hq8,hq9,hq10,hqe0,hrc6_0,hrc6_2,hrc6_3,hrc6_73,hri]) ?_
    intro a15 k15 w15 hB15 hEx15
    have hP15:Upd (ownB (.slice av j kv)) w14.drew w15:=(Upd.refl _ _).trans (hEx15.mono fun _ h=>h.elim)
    have hsq15:=hEx15.size
    try simp only [size_drew] at hsq15
    refine ⟨hP15,?_⟩
    try simp (maxSteps:=1000000)(disch:=(first|omega|(simp only [qI,qJ,qK]<;>omega)|exact qL _|(refine hnb _ ?_;first|omega|(simp only [World.size_alloc,size_wr,size_drew]<;>omega)))) only [go_sem,↓reduceIte,n0,reduceCtorEq,n1,n2,n3,n4,n5,i0,i1,i2,i3,i4,i5,i6,i7,hb14,hl14,ht14,hxe14,Int.toNat_natCast,Nat.mul_one,hq0,hq1,hq2,hq3,hq4,hq5,hq6,hq7,hq8,hq9,hq10,hqe0,hrc6_0,hrc6_2,hrc6_3,hrc6_73,hri]
    refine ⟨hP15,?_⟩
    have hP16:Upd (ownB (.slice av j kv)) w14.drew (w15.alloc (.cells #[.int .i64 0,.slice (some a15) y.s.length k15,.bool false,.slice none 0 0,.slice none 0 0] 37)):=show Upd (ownB (.slice av j kv)) w14.drew (w15.alloc (.cells #[.int .i64 0,.slice (some a15) y.s.length k15,.bool false,.slice none 0 0,.slice none 0 0] 37)) from (hP15).alloc _
    have hn16:blk (w15.alloc (.cells #[.int .i64 0,.slice (some a15) y.s.length k15,.bool false,.slice none 0 0,.slice none 0 0] 37)) w15.heap.size=some (#[.int .i64 0,.slice (some a15) y.s.length k15,.bool false,.slice none 0 0,.slice none 0 0],37,(0,0)):=show blk (w15.alloc (.cells #[.int .i64 0,.slice (some a15) y.s.length k15,.bool false,.slice none 0 0,.slice none 0 0] 37)) w15.heap.size=some (#[.int .i64 0,.slice (some a15) y.s.length k15,.bool false,.slice none 0 0,.slice none 0 0],37,(0,0)) from blk_alloc_new rfl
    have hsq16:(w15.alloc (.cells #[.int .i64 0,.slice (some a15) y.s.length k15,.bool false,.slice none 0 0,.slice none 0 0] 37)).heap.size=w15.heap.size+1:=show (w15.alloc (.cells #[.int .i64 0,.slice (some a15) y.s.length k15,.bool false,.slice none 0 0,.slice none 0 0] 37)).heap.size=w15.heap.size+1 from World.size_alloc _ _
    have hEx16:Ext w15 (w15.alloc (.cells #[.int .i64 0,.slice (some a15) y.s.length k15,.bool false,.slice none 0 0,.slice none 0 0] 37)):=show Ext w15 (w15.alloc (.cells #[.int .i64 0,.slice (some a15) y.s.length k15,.bool false,.slice none 0 0,.slice none 0 0] 37)) from Upd.alloc (Upd.refl _ _) _
    refine ⟨hP16,?_⟩
    try simp only [List.append_nil]
    generalize (w15.alloc (.cells #[.int .i64 0,.slice (some a15) y.s.length k15,.bool false,.slice none 0 0,.slice none 0 0] 37))=w16 at *
    try simp only [size_drew] at hsq16
    have hEw17:Ext w13 w16:=((hk14.drew.trans hEx15).trans hEx16)
    have hzw17:=hEw17.size
    obtain ⟨css,hown,hall⟩:=(hg.ext hEw17).ex
    have hcl:=hall.1
    rw [hlj] at hcl
    have hx17:TreeC (fun b=>(fun b=>w1.heap.size≤b) b∧b≠w.heap.size+1∧¬ ownB (.slice av j kv) b) w16 ((tl1 (tlP (d+1)) fQ_6.of fQ_6.sub) y) [.int .i64 0,.slice (some a15) y.s.length k15,.bool false,.slice none 0 0,.slice none 0 0]:=by
     exact TreeC.weaken (fun b _ hk=>⟨by omega,by omega,hnb b (.inr (by omega))⟩) (TreeC.weaken (ok':=fun b=>w13.heap.size≤b) (fun b _ hk=>by have hk':w14.drew.heap.size≤b:=hk;(try simp only [size_drew] at hk');omega) (TreeC.keep (Ext.keeps hEx16 _) (TreeC.intro rfl hB15 (treesN _ _) (tagsN _ _):TreeC _ _ (.oct false y.s) [.int .i64 0,.slice (some a15) y.s.length k15,.bool false,.slice none 0 0,.slice none 0 0])))
    refine wp_append ap_34_34 (m:=1) (news:=[.int .i64 0,.slice (some a15) y.s.length k15,.bool false,.slice none 0 0,.slice none 0 0]) (n:=css.length) (cs:=css.flatten) (v:=(.slice av j kv)) ?_ rfl hown.1 (all2_flat_tree hall) (Src.blk (fr:=(0,0)) (T:=37) hn16 rfl rfl) ?_ ?_ ?_
    ·first|rfl|simp (maxSteps:=1000000)(disch:=(first|omega|(simp only [qI,qJ,qK]<;>omega)|exact qL _)) only [go_sem,↓reduceIte,n0,reduceCtorEq,n1,n2,n3,n4,n5,i0,i1,i2,i3,i4,i5,i6,i7]
    ·omega
    ·omega
    intro v' w17 ho hu hfr
    have hP17:=(hP16:Upd (ownB (.slice av j kv)) w14.drew w16).trans hu
    have hzq17:=hP17.size
    simp only [size_drew] at hzq17
    have hlq17:=hP17.blk_some (show blk w14.drew (w.heap.size+1)=_ from hl14) (hnb _ (.inl (by omega)))
    have hg':=GrowT.snoc hown hall hx17 hu hfr ho
    obtain ⟨va,vc,hv',_⟩:=ho.shape
    subst hv'
    have hne:¬ ownB (.slice va (css.length+1) vc) (w.heap.size+1):=fun h=>(hfr _ h).elim (hnb _ (.inl (by omega))) (fun h=>by omega)
    refine ⟨hP17,?_⟩
    try simp (maxSteps:=1000000)(disch:=(first|omega|(simp only [qI,qJ,qK]<;>omega)|exact qL _|(refine hnb _ ?_;first|omega|(simp only [World.size_alloc,size_wr,size_drew]<;>omega)))) only [go_sem,↓reduceIte,n0,reduceCtorEq,n1,n2,n3,n4,n5,i0,i1,i2,i3,i4,i5,i6,i7,hlq17,Int.toNat_natCast,Nat.mul_one,hrc6_0,hrc6_2,hrc6_3,hrc6_73,hri]
    repeat ((first|refine qA rfl ?_|apply qB|refine qC rfl ?_|apply qD|apply qE|apply qF|apply qG|apply qH);try simp (maxSteps:=1000000)(disch:=(first|omega|(simp only [qI,qJ,qK]<;>omega)|exact qL _)) only [go_sem,↓reduceIte,n0,reduceCtorEq,n1,n2,n3,n4,n5,i0,i1,i2,i3,i4,i5,i6,i7,hlq17,Int.toNat_natCast,Nat.mul_one,hrc6_0,hrc6_2,hrc6_3,hrc6_73,hri])
    refine ⟨⟨(by simp (maxSteps:=1000000)(disch:=(first|omega|(simp only [qI,qJ,qK]<;>omega)|exact qL _)) only [go_sem,↓reduceIte,n0,reduceCtorEq,n1,n2,n3,n4,n5,i0,i1,i2,i3,i4,i5,i6,i7,Holds_nil,Holds_cons,hrc6_0,hrc6_2,hrc6_3,hrc6_73,hri]),j+1,(by simp (maxSteps:=1000000)(disch:=(first|omega|(simp only [qI,qJ,qK]<;>omega)|exact qL _)) only [go_sem,↓reduceIte,n0,reduceCtorEq,n1,n2,n3,n4,n5,i0,i1,i2,i3,i4,i5,i6,i7,hrc6_0,hrc6_2,hrc6_3,hrc6_73,hri];all_goals rfl),.slice va (css.length+1) vc,by omega,?_,?_,?_⟩,?_⟩
    ·rw [blk_wr_eq,hlq17];rfl
    ·rw [hcat,List.map_append];exact hg'.upd ((Upd.refl _ _).wr _ _ (.inr rfl)) hne
    ·refine Upd.wr ?_ _ _ (.inr rfl)
     exact (hUk.more ((hEw17.mono fun _ h=>h.elim).trans hu) fun b hb h=>absurd h (hnb b (.inl hb)))
    ·try simp (maxSteps:=1000000)(disch:=(first|omega|(simp only [qI,qJ,qK]<;>omega)|exact qL _)) only [go_sem,↓reduceIte,n0,reduceCtorEq,n1,n2,n3,n4,n5,i0,i1,i2,i3,i4,i5,i6,i7,hrc6_0,hrc6_2,hrc6_3,hrc6_73,hri]
     simp only [RowKit.intOf];omega
   ·have hk18:Ext w13 (wr (wr (w13.alloc (.cells #[.bool false] 4)).drew w13.heap.size 0 [.bool false]) w13.heap.size 0 [.bool true]):=((Upd.refl _ _).drew).trans q4
    generalize (wr (wr (w13.alloc (.cells #[.bool false] 4)).drew w13.heap.size 0 [.bool false]) w13.heap.size 0 [.bool true])=w18 at *
    have hzk18:=hk18.size
    have hX18:Ext w w18:=hX13.trans hk18
    have hb18:=hk18.blk_some hb13 id
    have hl18:=hk18.blk_some hl13 id
    have ht18:=hk18.blk_some ht13 id
    have hxe18:=hX18.blk_some hxe id
    repeat ((first|refine qA rfl ?_|apply qB|refine qC rfl ?_|apply qD|apply qE|apply qF|apply qG|apply qH);try simp (maxSteps:=1000000)(disch:=(first|omega|(simp only [qI,qJ,qK]<;>omega)|exact qL _)) only [go_sem,↓reduceIte,n0,reduceCtorEq,n1,n2,n3,n4,n5,i0,i1,i2,i3,i4,i5,i6,i7,hb18,hl18,ht18,hxe18,Int.toNat_natCast,Nat.mul_one,hq0,hq1,hq2,hq3,hq4,hq5,hq6,hq7,hq8,hq9,hq10,hqe0,hrc6_0,hrc6_2,hrc6_3,hrc6_73,hri])
    refine W.drawR (.take 0 (.take 1 (.take 2 (.take 3 (.take 4 (.take 5 (.take 6 (.take 7 (.take 8 (.take 9 (.take 10 (.take 11 (.take 14 (.two 12 (.two 13 (.only 15 (.only 16 (.take 17 (.take 18 (.last 19))))) 15 (.only 13 (.only 16 (.take 17 (.take 18 (.last 19)))))) 15 (.only 12 (.only 13 (.only 16 (.take 17 (.take 18 (.last 19)))))))))))))))))))) (ownB (.slice av j kv)) mixed (by kernel_rfl) ?_
    try simp (maxSteps:=1000000)(disch:=(first|omega|(simp only [qI,qJ,qK]<;>omega)|exact qL _|(refine hnb _ ?_;first|omega|(simp only [World.size_alloc,size_wr,size_drew]<;>omega)))) only [go_sem,↓reduceIte,n0,reduceCtorEq,n1,n2,n3,n4,n5,i0,i1,i2,i3,i4,i5,i6,i7,hb18,hl18,ht18,hxe18,Int.toNat_natCast,Nat.mul_one,hq0,hq1,hq2,hq3,hq4,hq5,hq6,hq7,hq8,hq9,hq10,hqe0,hrc6_0,hrc6_2,hrc6_3,hrc6_73,hri]
    refine ⟨?_,?_⟩
    ·skip
     refine wp_octets (S:=9) (T:=22) (E:=5) (s:=y.s) (by kernel_rfl) (by kernel_rfl) (by kernel_rfl) (by first|rfl|simp (maxSteps:=1000000)(disch:=(first|omega|(simp only [qI,qJ,qK]<;>omega)|exact qL _)) only [go_sem,↓reduceIte,n0,reduceCtorEq,n1,n2,n3,n4,n5,i0,i1,i2,i3,i4,i5,i6,i7,hb18,hl18,ht18,hxe18,Int.toNat_natCast,Nat.mul_one,hq0,hq1,hq2,hq3,hq4,hq5,hq6,hq7,hq8,hq9,hq10,hqe0,hrc6_0,hrc6_2,hrc6_3,hrc6_73,hri]) ?_
     intro a19 k19 w19 hB19 hEx19
     have hP19:Upd (ownB (.slice av j kv)) w18.drew w19:=(Upd.refl _ _).trans (hEx19.mono fun _ h=>h.elim)
     have hsq19:=hEx19.size
     try simp only [size_drew] at hsq19
     refine ⟨hP19,?_⟩
     try simp (maxSteps:=1000000)(disch:=(first|omega|(simp only [qI,qJ,qK]<;>omega)|exact qL _|(refine hnb _ ?_;first|omega|(simp only [World.size_alloc,size_wr,size_drew]<;>omega)))) only [go_sem,↓reduceIte,n0,reduceCtorEq,n1,n2,n3,n4,n5,i0,i1,i2,i3,i4,i5,i6,i7,hb18,hl18,ht18,hxe18,Int.toNat_natCast,Nat.mul_one,hq0,hq1,hq2,hq3,hq4,hq5,hq6,hq7,hq8,hq9,hq10,hqe0,hrc6_0,hrc6_2,hrc6_3,hrc6_73,hri]
     refine ⟨?_,?_⟩
     ·skip
      refine ⟨hP19,?_⟩
      have hP20:Upd (ownB (.slice av j kv)) w18.drew (w19.alloc (.cells qZ5 37)):=show Upd (ownB (.slice av j kv)) w18.drew (w19.alloc (.cells qZ5 37)) from (hP19).alloc _
      have hn20:blk (w19.alloc (.cells qZ5 37)) w19.heap.size=some (qZ5,37,(0,0)):=show blk (w19.alloc (.cells qZ5 37)) w19.heap.size=some (qZ5,37,(0,0)) from blk_alloc_new rfl
      have hsq20:(w19.alloc (.cells qZ5 37)).heap.size=w19.heap.size+1:=show (w19.alloc (.cells qZ5 37)).heap.size=w19.heap.size+1 from World.size_alloc _ _
      have hEx20:Ext w19 (w19.alloc (.cells qZ5 37)):=show Ext w19 (w19.alloc (.cells qZ5 37)) from Upd.alloc (Upd.refl _ _) _
      refine ⟨hP20,?_⟩
      try simp only [List.append_nil]
      generalize (w19.alloc (.cells qZ5 37))=w20 at *
      try simp only [size_drew] at hsq20
      have hEw21:Ext w13 w20:=((hk18.drew.trans hEx19).trans hEx20)
      have hzw21:=hEw21.size
      obtain ⟨css,hown,hall⟩:=(hg.ext hEw21).ex
      have hcl:=hall.1
      rw [hlj] at hcl
      have hx21:TreeC (fun b=>(fun b=>w1.heap.size≤b) b∧b≠w.heap.size+1∧¬ ownB (.slice av j kv) b) w20 ((tl1 (tlP (d+1)) fQ_6.of fQ_6.sub) y) [.int .i64 0,.slice (some a19) y.s.length k19,.bool false,.slice none 0 0,.slice none 0 0]:=by
       exact TreeC.weaken (fun b _ hk=>⟨by omega,by omega,hnb b (.inr (by omega))⟩) (TreeC.weaken (ok':=fun b=>w13.heap.size≤b) (fun b _ hk=>by have hk':w18.drew.heap.size≤b:=hk;(try simp only [size_drew] at hk');omega) (TreeC.keep (Ext.keeps hEx20 _) (TreeC.intro rfl hB19 (treesN _ _) (tagsN _ _):TreeC _ _ (.oct false y.s) [.int .i64 0,.slice (some a19) y.s.length k19,.bool false,.slice none 0 0,.slice none 0 0])))
      refine wp_append ap_34_34 (m:=1) (news:=[.int .i64 0,.slice none 0 0,.bool false,.slice none 0 0,.slice none 0 0]) (n:=css.length) (cs:=css.flatten) (v:=(.slice av j kv)) ?_ rfl hown.1 (all2_flat_tree hall) (Src.blk (fr:=(0,0)) (T:=37) hn20 rfl rfl) ?_ ?_ ?_
      ·first|rfl|simp (maxSteps:=1000000)(disch:=(first|omega|(simp only [qI,qJ,qK]<;>omega)|exact qL _)) only [go_sem,↓reduceIte,n0,reduceCtorEq,n1,n2,n3,n4,n5,i0,i1,i2,i3,i4,i5,i6,i7]
      ·omega
      ·omega
      intro v' w21 ho hu hfr
      have hP21:=(hP20:Upd (ownB (.slice av j kv)) w18.drew w20).trans hu
      have hzq21:=hP21.size
      simp only [size_drew] at hzq21
      have hlq21:=hP21.blk_some (show blk w18.drew (w.heap.size+1)=_ from hl18) (hnb _ (.inl (by omega)))
      rcases ho.2 with ⟨_,h⟩|⟨g,cap,rest,fr,hv',hg',hbg,hlen,hth,hle⟩
      ·exact absurd h (Nat.succ_ne_zero _)
      subst hv'
      have hgne:¬ g=w.heap.size+1:=fun h=>(hfr g ⟨_,_,_,rfl,rfl⟩).elim (fun h'=>hnb _ (.inl (by omega)) (h ▸ h')) (fun h'=>by omega)
      have hfl:css.flatten.length=css.length * 5:=flatten_len hown.2
      have hlen2:(css.flatten++([.int .i64 0,.slice none 0 0,.bool false,.slice none 0 0,.slice none 0 0]:List Value)++rest).length=cap * 5:=by simp only [List.length_append] at hlen ⊢;omega
      obtain ⟨XX,hXX⟩:∃ X:Array Value,X=(css.flatten++([.int .i64 0,.slice none 0 0,.bool false,.slice none 0 0,.slice none 0 0]:List Value)++rest).toArray:=⟨_,rfl⟩
      have hbgX:blk w21 g=some (XX,37,fr):=by rw [hXX];exact hbg
      have hXsz:XX.size=cap * 5:=by rw [hXX,List.size_toArray];exact hlen2
      have hth2:thaw fr (css.length * 5) 5=true:=thaw_of hth (by omega)
      have hst:css.length * 5+5≤XX.size:=by omega
      have hset:=Own.setlast (cs:=[.int .i64 0,.slice (some a19) y.s.length k19,.bool false,.slice none 0 0,.slice none 0 0]) ho rfl rfl
      have hu2:Upd (ownB (.slice av j kv)) w20 (wr w21 g (css.length * 5) [.int .i64 0,.slice (some a19) y.s.length k19,.bool false,.slice none 0 0,.slice none 0 0]):=hu.wr _ _ ((hfr g ⟨_,_,_,rfl,rfl⟩).symm)
      have hg2:=GrowT.snoc hown hall hx21 hu2 hfr hset
      have hcj:css.length=j:=by first|exact hcl.symm.trans hlj|omega
      simp only [hcj] at hth2 hst hset hu2 hg2
      refine ⟨hP21,?_⟩
      try simp (maxSteps:=1000000)(disch:=(first|omega|(simp only [qI,qJ,qK]<;>omega)|exact qL _|(refine hnb _ ?_;first|omega|(simp only [World.size_alloc,size_wr,size_drew]<;>omega)))) only [go_sem,↓reduceIte,n0,reduceCtorEq,n1,n2,n3,n4,n5,i0,i1,i2,i3,i4,i5,i6,i7,hlq21,hbgX,hth2,hst,hcj,Int.toNat_natCast,Nat.mul_one,hrc6_0,hrc6_2,hrc6_3,hrc6_73,hri]
      repeat ((first|refine qA rfl ?_|apply qB|refine qC rfl ?_|apply qD|apply qE|apply qF|apply qG|apply qH);try simp (maxSteps:=1000000)(disch:=(first|omega|(simp only [qI,qJ,qK]<;>omega)|exact qL _)) only [go_sem,↓reduceIte,n0,reduceCtorEq,n1,n2,n3,n4,n5,i0,i1,i2,i3,i4,i5,i6,i7,hlq21,hbgX,hth2,hst,hcj,Int.toNat_natCast,Nat.mul_one,hrc6_0,hrc6_2,hrc6_3,hrc6_73,hri])
      refine ⟨⟨(by simp (maxSteps:=1000000)(disch:=(first|omega|(simp only [qI,qJ,qK]<;>omega)|exact qL _)) only [go_sem,↓reduceIte,n0,reduceCtorEq,n1,n2,n3,n4,n5,i0,i1,i2,i3,i4,i5,i6,i7,Holds_nil,Holds_cons,hrc6_0,hrc6_2,hrc6_3,hrc6_73,hri]),j+1,(by simp (maxSteps:=1000000)(disch:=(first|omega|(simp only [qI,qJ,qK]<;>omega)|exact qL _)) only [go_sem,↓reduceIte,n0,reduceCtorEq,n1,n2,n3,n4,n5,i0,i1,i2,i3,i4,i5,i6,i7,hrc6_0,hrc6_2,hrc6_3,hrc6_73,hri];all_goals rfl),.slice (some ⟨g,0,none⟩) (j+1) cap,by omega,?_,?_,?_⟩,?_⟩
      ·rw [blk_wr_ne (by omega),blk_wr_eq,hlq21];rfl
      ·rw [hcat,List.map_append,wr_comm (Ne.symm hgne)]
       exact hg2.upd ((Upd.refl _ _).wr _ _ (.inr rfl)) (fun h=>hgne (ownB_row h).symm)
      ·rw [wr_comm (Ne.symm hgne)]
       refine Upd.wr ?_ _ _ (.inr rfl)
       exact (hUk.more ((hEw21.mono fun _ h=>h.elim).trans hu2) fun b hb h=>absurd h (hnb b (.inl hb)))
      ·try simp (maxSteps:=1000000)(disch:=(first|omega|(simp only [qI,qJ,qK]<;>omega)|exact qL _)) only [go_sem,↓reduceIte,n0,reduceCtorEq,n1,n2,n3,n4,n5,i0,i1,i2,i3,i4,i5,i6,i7,hrc6_0,hrc6_2,hrc6_3,hrc6_73,hri]
       simp only [RowKit.intOf];omega
     ·skip
      have hP22:Upd (ownB (.slice av j kv)) w18.drew (w19.alloc (.cells qZ5 37)):=show Upd (ownB (.slice av j kv)) w18.drew (w19.alloc (.cells qZ5 37)) from (hP19).alloc _
      have hn22:blk (w19.alloc (.cells qZ5 37)) w19.heap.size=some (qZ5,37,(0,0)):=show blk (w19.alloc (.cells qZ5 37)) w19.heap.size=some (qZ5,37,(0,0)) from blk_alloc_new rfl
      have hsq22:(w19.alloc (.cells qZ5 37)).heap.size=w19.heap.size+1:=show (w19.alloc (.cells qZ5 37)).heap.size=w19.heap.size+1 from World.size_alloc _ _
      have hEx22:Ext w19 (w19.alloc (.cells qZ5 37)):=show Ext w19 (w19.alloc (.cells qZ5 37)) from Upd.alloc (Upd.refl _ _) _
      refine ⟨hP22,?_⟩
      try simp only [List.append_nil]
      generalize (w19.alloc (.cells qZ5 37))=w22 at *
      try simp only [size_drew] at hsq22
      refine ⟨hP22,?_⟩
      have hEw23:Ext w13 w22:=((hk18.drew.trans hEx19).trans hEx22)
      have hzw23:=hEw23.size
      obtain ⟨css,hown,hall⟩:=(hg.ext hEw23).ex
      have hcl:=hall.1
      rw [hlj] at hcl
      have hx23:TreeC (fun b=>(fun b=>w1.heap.size≤b) b∧b≠w.heap.size+1∧¬ ownB (.slice av j kv) b) w22 ((tl1 (tlP (d+1)) fQ_6.of fQ_6.sub) y) [.int .i64 0,.slice (some a19) y.s.length k19,.bool false,.slice none 0 0,.slice none 0 0]:=by
       exact TreeC.weaken (fun b _ hk=>⟨by omega,by omega,hnb b (.inr (by omega))⟩) (TreeC.weaken (ok':=fun b=>w13.heap.size≤b) (fun b _ hk=>by have hk':w18.drew.heap.size≤b:=hk;(try simp only [size_drew] at hk');omega) (TreeC.keep (Ext.keeps hEx22 _) (TreeC.intro rfl hB19 (treesN _ _) (tagsN _ _):TreeC _ _ (.oct false y.s) [.int .i64 0,.slice (some a19) y.s.length k19,.bool false,.slice none 0 0,.slice none 0 0])))
      refine wp_append ap_34_34 (m:=1) (news:=[.int .i64 0,.slice none 0 0,.bool false,.slice none 0 0,.slice none 0 0]) (n:=css.length) (cs:=css.flatten) (v:=(.slice av j kv)) ?_ rfl hown.1 (all2_flat_tree hall) (Src.blk (fr:=(0,0)) (T:=37) hn22 rfl rfl) ?_ ?_ ?_
      ·first|rfl|simp (maxSteps:=1000000)(disch:=(first|omega|(simp only [qI,qJ,qK]<;>omega)|exact qL _)) only [go_sem,↓reduceIte,n0,reduceCtorEq,n1,n2,n3,n4,n5,i0,i1,i2,i3,i4,i5,i6,i7]
      ·omega
      ·omega
      intro v' w23 ho hu hfr
      have hP23:=(hP22:Upd (ownB (.slice av j kv)) w18.drew w22).trans hu
      have hzq23:=hP23.size
      simp only [size_drew] at hzq23
      have hlq23:=hP23.blk_some (show blk w18.drew (w.heap.size+1)=_ from hl18) (hnb _ (.inl (by omega)))
      rcases ho.2 with ⟨_,h⟩|⟨g,cap,rest,fr,hv',hg',hbg,hlen,hth,hle⟩
      ·exact absurd h (Nat.succ_ne_zero _)
      subst hv'
      have hgne:¬ g=w.heap.size+1:=fun h=>(hfr g ⟨_,_,_,rfl,rfl⟩).elim (fun h'=>hnb _ (.inl (by omega)) (h ▸ h')) (fun h'=>by omega)
      have hfl:css.flatten.length=css.length * 5:=flatten_len hown.2
      have hlen2:(css.flatten++([.int .i64 0,.slice none 0 0,.bool false,.slice none 0 0,.slice none 0 0]:List Value)++rest).length=cap * 5:=by simp only [List.length_append] at hlen ⊢;omega
      obtain ⟨XX,hXX⟩:∃ X:Array Value,X=(css.flatten++([.int .i64 0,.slice none 0 0,.bool false,.slice none 0 0,.slice none 0 0]:List Value)++rest).toArray:=⟨_,rfl⟩
      have hbgX:blk w23 g=some (XX,37,fr):=by rw [hXX];exact hbg
      have hXsz:XX.size=cap * 5:=by rw [hXX,List.size_toArray];exact hlen2
      have hth2:thaw fr (css.length * 5) 5=true:=thaw_of hth (by omega)
      have hst:css.length * 5+5≤XX.size:=by omega
      have hset:=Own.setlast (cs:=[.int .i64 0,.slice (some a19) y.s.length k19,.bool false,.slice none 0 0,.slice none 0 0]) ho rfl rfl
      have hu2:Upd (ownB (.slice av j kv)) w22 (wr w23 g (css.length * 5) [.int .i64 0,.slice (some a19) y.s.length k19,.bool false,.slice none 0 0,.slice none 0 0]):=hu.wr _ _ ((hfr g ⟨_,_,_,rfl,rfl⟩).symm)
      have hg2:=GrowT.snoc hown hall hx23 hu2 hfr hset
      have hcj:css.length=j:=by first|exact hcl.symm.trans hlj|omega
      simp only [hcj] at hth2 hst hset hu2 hg2
      refine ⟨hP23,?_⟩
      try simp (maxSteps:=1000000)(disch:=(first|omega|(simp only [qI,qJ,qK]<;>omega)|exact qL _|(refine hnb _ ?_;first|omega|(simp only [World.size_alloc,size_wr,size_drew]<;>omega)))) only [go_sem,↓reduceIte,n0,reduceCtorEq,n1,n2,n3,n4,n5,i0,i1,i2,i3,i4,i5,i6,i7,hlq23,hbgX,hth2,hst,hcj,Int.toNat_natCast,Nat.mul_one,hrc6_0,hrc6_2,hrc6_3,hrc6_73,hri]
      repeat ((first|refine qA rfl ?_|apply qB|refine qC rfl ?_|apply qD|apply qE|apply qF|apply qG|apply qH);try simp (maxSteps:=1000000)(disch:=(first|omega|(simp only [qI,qJ,qK]<;>omega)|exact qL _)) only [go_sem,↓reduceIte,n0,reduceCtorEq,n1,n2,n3,n4,n5,i0,i1,i2,i3,i4,i5,i6,i7,hlq23,hbgX,hth2,hst,hcj,Int.toNat_natCast,Nat.mul_one,hrc6_0,hrc6_2,hrc6_3,hrc6_73,hri])
      refine ⟨⟨(by simp (maxSteps:=1000000)(disch:=(first|omega|(simp only [qI,qJ,qK]<;>omega)|exact qL _)) only [go_sem,↓reduceIte,n0,reduceCtorEq,n1,n2,n3,n4,n5,i0,i1,i2,i3,i4,i5,i6,i7,Holds_nil,Holds_cons,hrc6_0,hrc6_2,hrc6_3,hrc6_73,hri]),j+1,(by simp (maxSteps:=1000000)(disch:=(first|omega|(simp only [qI,qJ,qK]<;>omega)|exact qL _)) only [go_sem,↓reduceIte,n0,reduceCtorEq,n1,n2,n3,n4,n5,i0,i1,i2,i3,i4,i5,i6,i7,hrc6_0,hrc6_2,hrc6_3,hrc6_73,hri];all_goals rfl),.slice (some ⟨g,0,none⟩) (j+1) cap,by omega,?_,?_,?_⟩,?_⟩
      ·rw [blk_wr_ne (by omega),blk_wr_eq,hlq23];rfl
      ·rw [hcat,List.map_append,wr_comm (Ne.symm hgne)]
       exact hg2.upd ((Upd.refl _ _).wr _ _ (.inr rfl)) (fun h=>hgne (ownB_row h).symm)
      ·rw [wr_comm (Ne.symm hgne)]
       refine Upd.wr ?_ _ _ (.inr rfl)
       exact (hUk.more ((hEw23.mono fun _ h=>h.elim).trans hu2) fun b hb h=>absurd h (hnb b (.inl hb)))
      ·try simp (maxSteps:=1000000)(disch:=(first|omega|(simp only [qI,qJ,qK]<;>omega)|exact qL _)) only [go_sem,↓reduceIte,n0,reduceCtorEq,n1,n2,n3,n4,n5,i0,i1,i2,i3,i4,i5,i6,i7,hrc6_0,hrc6_2,hrc6_3,hrc6_73,hri]
       simp only [RowKit.intOf];omega
    ·skip
     have hP24:Upd (ownB (.slice av j kv)) w18.drew (w18.alloc (.cells qZ5 37)).drew:=show Upd (ownB (.slice av j kv)) w18.drew (w18.drew.alloc (.cells qZ5 37)) from (Upd.refl _ _).alloc _
     have hn24:blk (w18.alloc (.cells qZ5 37)).drew w18.drew.heap.size=some (qZ5,37,(0,0)):=show blk (w18.drew.alloc (.cells qZ5 37)) w18.drew.heap.size=some (qZ5,37,(0,0)) from blk_alloc_new rfl
     have hsq24:(w18.alloc (.cells qZ5 37)).drew.heap.size=w18.drew.heap.size+1:=show (w18.drew.alloc (.cells qZ5 37)).heap.size=w18.drew.heap.size+1 from World.size_alloc _ _
     have hEx24:Ext w18.drew (w18.alloc (.cells qZ5 37)).drew:=show Ext w18.drew (w18.drew.alloc (.cells qZ5 37)) from Upd.alloc (Upd.refl _ _) _
     refine ⟨hP24,?_⟩
     try simp only [List.append_nil]
     generalize (w18.alloc (.cells qZ5 37)).drew=w24 at *
     try simp only [size_drew] at hsq24
     refine wp_octets (S:=9) (T:=22) (E:=5) (s:=y.s) (by kernel_rfl) (by kernel_rfl) (by kernel_rfl) (by first|rfl|simp (maxSteps:=1000000)(disch:=(first|omega|(simp only [qI,qJ,qK]<;>omega)|exact qL _)) only [go_sem,↓reduceIte,n0,reduceCtorEq,n1,n2,n3,n4,n5,i0,i1,i2,i3,i4,i5,i6,i7,hb18,hl18,ht18,hxe18,Int.toNat_natCast,Nat.mul_one,hq0,hq1,hq2,hq3,hq4,hq5,hq6,hq7,hq8,hq9,hq10,hqe0,hrc6_0,hrc6_2,hrc6_3,hrc6_73,hri]) ?_
     intro a25 k25 w25 hB25 hEx25
     have hP25:Upd (ownB (.slice av j kv)) w18.drew w25:=(hP24).trans (hEx25.mono fun _ h=>h.elim)
     have hsq25:=hEx25.size
     try simp only [size_drew] at hsq25
     refine ⟨hP25,?_⟩
     try simp (maxSteps:=1000000)(disch:=(first|omega|(simp only [qI,qJ,qK]<;>omega)|exact qL _|(refine hnb _ ?_;first|omega|(simp only [World.size_alloc,size_wr,size_drew]<;>omega)))) only [go_sem,↓reduceIte,n0,reduceCtorEq,n1,n2,n3,n4,n5,i0,i1,i2,i3,i4,i5,i6,i7,hb18,hl18,ht18,hxe18,Int.toNat_natCast,Nat.mul_one,hq0,hq1,hq2,hq3,hq4,hq5,hq6,hq7,hq8,hq9,hq10,hqe0,hrc6_0,hrc6_2,hrc6_3,hrc6_73,hri]
     refine ⟨hP25,?_⟩
     have hEw26:Ext w13 w25:=((hk18.drew.trans hEx24).trans hEx25)
     have hzw26:=hEw26.size
     obtain ⟨css,hown,hall⟩:=(hg.ext hEw26).ex
     have hcl:=hall.1
     rw [hlj] at hcl
     have hx26:TreeC (fun b=>(fun b=>w1.heap.size≤b) b∧b≠w.heap.size+1∧¬ ownB (.slice av j kv) b) w25 ((tl1 (tlP (d+1)) fQ_6.of fQ_6.sub) y) [.int .i64 0,.slice (some a25) y.s.length k25,.bool false,.slice none 0 0,.slice none 0 0]:=by
      exact TreeC.weaken (fun b _ hk=>⟨by omega,by omega,hnb b (.inr (by omega))⟩) (TreeC.intro rfl hB25 (treesN _ _) (tagsN _ _):TreeC _ _ (.oct false y.s) [.int .i64 0,.slice (some a25) y.s.length k25,.bool false,.slice none 0 0,.slice none 0 0])
     refine wp_append ap_34_34 (m:=1) (news:=[.int .i64 0,.slice none 0 0,.bool false,.slice none 0 0,.slice none 0 0]) (n:=css.length) (cs:=css.flatten) (v:=(.slice av j kv)) ?_ rfl hown.1 (all2_flat_tree hall) (Src.blk (fr:=(0,0)) (T:=37) (hEx25.blk_some hn24 id) rfl rfl) ?_ ?_ ?_
     ·first|rfl|simp (maxSteps:=1000000)(disch:=(first|omega|(simp only [qI,qJ,qK]<;>omega)|exact qL _)) only [go_sem,↓reduceIte,n0,reduceCtorEq,n1,n2,n3,n4,n5,i0,i1,i2,i3,i4,i5,i6,i7]
     ·omega
     ·omega
     intro v' w26 ho hu hfr
     have hP26:=(hP25:Upd (ownB (.slice av j kv)) w18.drew w25).trans hu
     have hzq26:=hP26.size
     simp only [size_drew] at hzq26
     have hlq26:=hP26.blk_some (show blk w18.drew (w.heap.size+1)=_ from hl18) (hnb _ (.inl (by omega)))
     rcases ho.2 with ⟨_,h⟩|⟨g,cap,rest,fr,hv',hg',hbg,hlen,hth,hle⟩
     ·exact absurd h (Nat.succ_ne_zero _)
     subst hv'
     have hgne:¬ g=w.heap.size+1:=fun h=>(hfr g ⟨_,_,_,rfl,rfl⟩).elim (fun h'=>hnb _ (.inl (by omega)) (h ▸ h')) (fun h'=>by omega)
     have hfl:css.flatten.length=css.length * 5:=flatten_len hown.2
     have hlen2:(css.flatten++([.int .i64 0,.slice none 0 0,.bool false,.slice none 0 0,.slice none 0 0]:List Value)++rest).length=cap * 5:=by simp only [List.length_append] at hlen ⊢;omega
     obtain ⟨XX,hXX⟩:∃ X:Array Value,X=(css.flatten++([.int .i64 0,.slice none 0 0,.bool false,.slice none 0 0,.slice none 0 0]:List Value)++rest).toArray:=⟨_,rfl⟩
     have hbgX:blk w26 g=some (XX,37,fr):=by rw [hXX];exact hbg
     have hXsz:XX.size=cap * 5:=by rw [hXX,List.size_toArray];exact hlen2
     have hth2:thaw fr (css.length * 5) 5=true:=thaw_of hth (by omega)
     have hst:css.length * 5+5≤XX.size:=by omega
     have hset:=Own.setlast (cs:=[.int .i64 0,.slice (some a25) y.s.length k25,.bool false,.slice none 0 0,.slice none 0 0]) ho rfl rfl
     have hu2:Upd (ownB (.slice av j kv)) w25 (wr w26 g (css.length * 5) [.int .i64 0,.slice (some a25) y.s.length k25,.bool false,.slice none 0 0,.slice none 0 0]):=hu.wr _ _ ((hfr g ⟨_,_,_,rfl,rfl⟩).symm)
     have hg2:=GrowT.snoc hown hall hx26 hu2 hfr hset
     have hcj:css.length=j:=by first|exact hcl.symm.trans hlj|omega
     simp only [hcj] at hth2 hst hset hu2 hg2
     refine ⟨hP26,?_⟩
     try simp (maxSteps:=1000000)(disch:=(first|omega|(simp only [qI,qJ,qK]<;>omega)|exact qL _|(refine hnb _ ?_;first|omega|(simp only [World.size_alloc,size_wr,size_drew]<;>omega)))) only [go_sem,↓reduceIte,n0,reduceCtorEq,n1,n2,n3,n4,n5,i0,i1,i2,i3,i4,i5,i6,i7,hlq26,hbgX,hth2,hst,hcj,Int.toNat_natCast,Nat.mul_one,hrc6_0,hrc6_2,hrc6_3,hrc6_73,hri]
     repeat ((first|refine qA rfl ?_|apply qB|refine qC rfl ?_|apply qD|apply qE|apply qF|apply qG|apply qH);try simp (maxSteps:=1000000)(disch:=(first|omega|(simp only [qI,qJ,qK]<;>omega)|exact qL _)) only [go_sem,↓reduceIte,n0,reduceCtorEq,n1,n2,n3,n4,n5,i0,i1,i2,i3,i4,i5,i6,i7,hlq26,hbgX,hth2,hst,hcj,Int.toNat_natCast,Nat.mul_one,hrc6_0,hrc6_2,hrc6_3,hrc6_73,hri])
     refine ⟨⟨(by simp (maxSteps:=1000000)(disch:=(first|omega|(simp only [qI,qJ,qK]<;>omega)|exact qL _)) only [go_sem,↓reduceIte,n0,reduceCtorEq,n1,n2,n3,n4,n5,i0,i1,i2,i3,i4,i5,i6,i7,Holds_nil,Holds_cons,hrc6_0,hrc6_2,hrc6_3,hrc6_73,hri]),j+1,(by simp (maxSteps:=1000000)(disch:=(first|omega|(simp only [qI,qJ,qK]<;>omega)|exact qL _)) only [go_sem,↓reduceIte,n0,reduceCtorEq,n1,n2,n3,n4,n5,i0,i1,i2,i3,i4,i5,i6,i7,hrc6_0,hrc6_2,hrc6_3,hrc6_73,hri];all_goals rfl),.slice (some ⟨g,0,none⟩) (j+1) cap,by omega,?_,?_,?_⟩,?_⟩
     ·rw [blk_wr_ne (by omega),blk_wr_eq,hlq26];rfl
     ·rw [hcat,List.map_append,wr_comm (Ne.symm hgne)]
      exact hg2.upd ((Upd.refl _ _).wr _ _ (.inr rfl)) (fun h=>hgne (ownB_row h).symm)
     ·rw [wr_comm (Ne.symm hgne)]
      refine Upd.wr ?_ _ _ (.inr rfl)
      exact (hUk.more ((hEw26.mono fun _ h=>h.elim).trans hu2) fun b hb h=>absurd h (hnb b (.inl hb)))
     ·try simp (maxSteps:=1000000)(disch:=(first|omega|(simp only [qI,qJ,qK]<;>omega)|exact qL _)) only [go_sem,↓reduceIte,n0,reduceCtorEq,n1,n2,n3,n4,n5,i0,i1,i2,i3,i4,i5,i6,i7,hrc6_0,hrc6_2,hrc6_3,hrc6_73,hri]
      simp only [RowKit.intOf];omega
  ·have hjn:j=L6.length:=by omega
   subst hjn
   rw [List.take_length] at hg
   repeat ((first|refine qA rfl ?_|apply qB|refine qC rfl ?_|apply qD|apply qE|apply qF|apply qG|apply qH);try simp (maxSteps:=1000000)(disch:=(first|omega|(simp only [qI,qJ,qK]<;>omega)|exact qL _)) only [go_sem,↓reduceIte,n0,reduceCtorEq,n1,n2,n3,n4,n5,i0,i1,i2,i3,i4,i5,i6,i7,hrc6_0,hrc6_2,hrc6_3,hrc6_73,hri])
   exact ⟨(by simp (maxSteps:=1000000)(disch:=(first|omega|(simp only [qI,qJ,qK]<;>omega)|exact qL _)) only [go_sem,↓reduceIte,n0,reduceCtorEq,n1,n2,n3,n4,n5,i0,i1,i2,i3,i4,i5,i6,i7,Holds_nil,Holds_cons,hrc6_0,hrc6_2,hrc6_3,hrc6_73,hri]),v,hl13,hg,hUk⟩
 rintro ρ w27 ⟨⟨hrd6_0,hrd6_2,hrd6_3,hrd6_73,-⟩,v,hl27,hg27,hUz27⟩
 have hV27:Upd (fun b=>b=w.heap.size+1∨b=w.heap.size+2) w12 w27:=hUz27.mono fun _ h=>.inl h
 have hU27:Upd (fun b=>b=w.heap.size+1∨b=w.heap.size+2) w1 w27:=hU12.trans hV27
 have hz27:=hU27.size
 have hX27:Ext w w27:=hE1.more hU27 fun b hb h=>by omega
 have hb27:=hX27.blk_some hb id
 have ht27:=hUz27.blk_some ht12 (by omega)
 obtain ⟨av6,kv6,hvs,_⟩:=hg27.shape
 subst hvs
 have hf6:TreeC (fun b=>w1.heap.size≤b) w27 (.mk 0 [] (t.at 6).null (L6.map (tl1 (tlP (d+1)) fQ_6.of fQ_6.sub)) []) [.int .i64 0,.slice none 0 0,.bool (t.at 6).null,.slice av6 (List.map (tl1 (tlP (d+1)) fQ_6.of fQ_6.sub) L6).length kv6,.slice none 0 0]:=TreeC.intro rfl (BytesV.nil _ _) (hg27.trees (fun _ _ h=>h) (fun b hb=>by have:=hz12;omega)) (tagsN _ _)
 repeat ((first|refine qA rfl ?_|apply qB|refine qC rfl ?_|apply qD|apply qE|apply qF|apply qG|apply qH);try simp (maxSteps:=1000000)(disch:=(first|omega|(simp only [qI,qJ,qK]<;>omega)|exact qL _)) only [go_sem,↓reduceIte,n0,reduceCtorEq,n1,n2,n3,n4,n5,i0,i1,i2,i3,i4,i5,i6,i7,hb27,hl27,ht27,hq0,hq1,hq2,hq3,hq4,hq5,hq6,hq7,hq8,hq9,hq10,hrd6_0,hrd6_2,hrd6_3])
 refine W.drawR (.take 0 (.take 1 (.take 2 (.take 3 (.take 4 (.take 5 (.only 6 (.take 7 (.last 8))))))))) (NoB) mixed (by kernel_rfl) ?_
 try simp (maxSteps:=1000000)(disch:=(first|omega|(simp only [qI,qJ,qK]<;>omega)|exact qL _)) only [go_sem,↓reduceIte,n0,reduceCtorEq,n1,n2,n3,n4,n5,i0,i1,i2,i3,i4,i5,i6,i7,hb27,hl27,ht27,hq0,hq1,hq2,hq3,hq4,hq5,hq6,hq7,hq8,hq9,hq10,hrd6_0,hrd6_2,hrd6_3]
 refine (textTree_fn (ok:=ok) _ (t.at 7).null (t.at 7).s w27.drew (hp7.keep (Ext.keeps (hX27.drew) _))).mono ?_
 rintro _ w28 ⟨⟨vS28,rfl,hB28⟩,hEx28⟩
 have hfl28:=hB28.flat
 have hP28:Upd NoB w27.drew w28:=(Upd.refl _ _).trans (hEx28.mono fun _ h=>h.elim)
 have hsq28:=hEx28.size
 try simp only [size_drew] at hsq28
 refine ⟨hP28,?_⟩
 try simp (maxSteps:=1000000)(disch:=(first|omega|(simp only [qI,qJ,qK]<;>omega)|exact qL _)) only [go_sem,↓reduceIte,n0,reduceCtorEq,n1,n2,n3,n4,n5,i0,i1,i2,i3,i4,i5,i6,i7,hb27,hl27,ht27,hq0,hq1,hq2,hq3,hq4,hq5,hq6,hq7,hq8,hq9,hq10,hrd6_0,hrd6_2,hrd6_3,hfl28]
 have hlq29:=hP28.blk_some (show blk w27.drew (w.heap.size+1)=_ from hl27) id
 have hx29:Upd (fun b=>b=w.heap.size+1∨b=w.heap.size+2) w27 w28:=((Upd.refl _ _).drew).trans (hP28.mono fun _ h=>h.elim)
 try simp (maxSteps:=1000000)(disch:=(first|omega|(simp only [qI,qJ,qK]<;>omega)|exact qL _)) only [go_sem,↓reduceIte,n0,reduceCtorEq,n1,n2,n3,n4,n5,i0,i1,i2,i3,i4,i5,i6,i7,hlq29]
 generalize hw29:wr w28 (w.heap.size+1) 35 [.int .i64 0,vS28,.bool (t.at 7).null,.slice none 0 0,.slice none 0 0] = w29
 have hl29:blk w29 (w.heap.size+1)=some (#[.int .i64 0,.slice (some a2) ((t.at 0).s).length k2,.bool false,.slice none 0 0,.slice none 0 0,.int .i64 0,.slice (some a4) ((t.at 1).s).length k4,.bool false,.slice none 0 0,.slice none 0 0,.int .i64 (IntKind.i32.wrap (t.at 2).n),.slice none 0 0,.bool false,.slice none 0 0,.slice none 0 0,.int .i64 0,vS7,.bool (t.at 3).null,.slice none 0 0,.slice none 0 0,.int .i64 0,vS9,.bool (t.at 4).null,.slice none 0 0,.slice none 0 0,.int .i64 (IntKind.i32.wrap (t.at 5).n),.slice none 0 0,.bool false,.slice none 0 0,.slice none 0 0,.int .i64 0,.slice none 0 0,.bool (t.at 6).null,.slice av6 (List.map (tl1 (tlP (d+1)) fQ_6.of fQ_6.sub) L6).length kv6,.slice none 0 0,.int .i64 0,vS28,.bool (t.at 7).null,.slice none 0 0,.slice none 0 0,.int .i64 0,.slice none 0 0,.bool false,.slice none 0 0,.slice none 0 0,.int .i64 0,.slice none 0 0,.bool false,.slice none 0 0,.slice none 0 0],37,(0,0)):=by rw [← hw29,blk_wr_eq,hlq29];rfl
 have hv29:Upd (fun b=>b=w.heap.size+1∨b=w.heap.size+2) w28 w29:=by rw [← hw29];exact (Upd.refl _ _).wr _ _ (.inr (.inl rfl))
 have hV29:Upd (fun b=>b=w.heap.size+1∨b=w.heap.size+2) w27 w29:=hx29.trans hv29
 have hU29:Upd (fun b=>b=w.heap.size+1∨b=w.heap.size+2) w1 w29:=hU27.trans hV29
 have hz29:=hU29.size
 have hX29:Ext w w29:=hE1.more hU29 fun b hb h=>by omega
 have hb29:=hX29.blk_some hb id
 have ht29:blk w29 (w.heap.size+2)=some (#[.int .i64 0,.slice none 0 0,.bool false,.slice (some ⟨w.heap.size+1,0,none⟩) 10 10,.slice none 0 0],37,(0,0)):=by
  rw [← hw29,blk_wr_ne (by omega)]
  exact hP28.blk_some (show blk w27.drew (w.heap.size+2)=_ from ht27) id
 clear hw29
 have hf7:TreeC (fun b=>w1.heap.size≤b) w29 (.oct (t.at 7).null (if (t.at 7).null=true then [] else (t.at 7).s)) [.int .i64 0,vS28,.bool (t.at 7).null,.slice none 0 0,.slice none 0 0]:=(TreeC.keep (hv29.keeps fun b hb hk e=>by have hk':w1.heap.size≤b:=hk;omega) (TreeC.intro rfl (hB28.weaken fun b _ hk=>by have hk':w27.drew.heap.size≤b:=hk;(try simp only [size_drew] at hk');omega) (treesN _ _) (tagsN _ _):TreeC (fun b=>w1.heap.size≤b) w28 (.oct (t.at 7).null (if (t.at 7).null=true then [] else (t.at 7).s)) [.int .i64 0,vS28,.bool (t.at 7).null,.slice none 0 0,.slice none 0 0]))
 repeat ((first|refine qA rfl ?_|apply qB|refine qC rfl ?_|apply qD|apply qE|apply qF|apply qG|apply qH);try simp (maxSteps:=1000000)(disch:=(first|omega|(simp only [qI,qJ,qK]<;>omega)|exact qL _)) only [go_sem,↓reduceIte,n0,reduceCtorEq,n1,n2,n3,n4,n5,i0,i1,i2,i3,i4,i5,i6,i7,hb29,hl29,ht29,hq0,hq1,hq2,hq3,hq4,hq5,hq6,hq7,hq8,hq9,hq10,hrd6_0,hrd6_2,hrd6_3])
 refine W.drawR (.take 0 (.take 1 (.take 2 (.take 3 (.take 4 (.take 5 (.only 6 (.take 7 (.last 8))))))))) (NoB) mixed (by kernel_rfl) ?_
 try simp (maxSteps:=1000000)(disch:=(first|omega|(simp only [qI,qJ,qK]<;>omega)|exact qL _)) only [go_sem,↓reduceIte,n0,reduceCtorEq,n1,n2,n3,n4,n5,i0,i1,i2,i3,i4,i5,i6,i7,hb29,hl29,ht29,hq0,hq1,hq2,hq3,hq4,hq5,hq6,hq7,hq8,hq9,hq10,hrd6_0,hrd6_2,hrd6_3]
 refine (textTree_fn (ok:=ok) _ (t.at 8).null (t.at 8).s w29.drew (hp8.keep (Ext.keeps (hX29.drew) _))).mono ?_
 rintro _ w30 ⟨⟨vS30,rfl,hB30⟩,hEx30⟩
 have hfl30:=hB30.flat
 have hP30:Upd NoB w29.drew w30:=(Upd.refl _ _).trans (hEx30.mono fun _ h=>h.elim)
 have hsq30:=hEx30.size
 try simp only [size_drew] at hsq30
 refine ⟨hP30,?_⟩
 try simp (maxSteps:=1000000)(disch:=(first|omega|(simp only [qI,qJ,qK]<;>omega)|exact qL _)) only [go_sem,↓reduceIte,n0,reduceCtorEq,n1,n2,n3,n4,n5,i0,i1,i2,i3,i4,i5,i6,i7,hb29,hl29,ht29,hq0,hq1,hq2,hq3,hq4,hq5,hq6,hq7,hq8,hq9,hq10,hrd6_0,hrd6_2,hrd6_3,hfl30]
 have hlq31:=hP30.blk_some (show blk w29.drew (w.heap.size+1)=_ from hl29) id
 have hx31:Upd (fun b=>b=w.heap.size+1∨b=w.heap.size+2) w29 w30:=((Upd.refl _ _).drew).trans (hP30.mono fun _ h=>h.elim)
 try simp (maxSteps:=1000000)(disch:=(first|omega|(simp only [qI,qJ,qK]<;>omega)|exact qL _)) only [go_sem,↓reduceIte,n0,reduceCtorEq,n1,n2,n3,n4,n5,i0,i1,i2,i3,i4,i5,i6,i7,hlq31]
 generalize hw31:wr w30 (w.heap.size+1) 40 [.int .i64 0,vS30,.bool (t.at 8).null,.slice none 0 0,.slice none 0 0] = w31
 have hl31:blk w31 (w.heap.size+1)=some (#[.int .i64 0,.slice (some a2) ((t.at 0).s).length k2,.bool false,.slice none 0 0,.slice none 0 0,.int .i64 0,.slice (some a4) ((t.at 1).s).length k4,.bool false,.slice none 0 0,.slice none 0 0,.int .i64 (IntKind.i32.wrap (t.at 2).n),.slice none 0 0,.bool false,.slice none 0 0,.slice none 0 0,.int .i64 0,vS7,.bool (t.at 3).null,.slice none 0 0,.slice none 0 0,.int .i64 0,vS9,.bool (t.at 4).null,.slice none 0 0,.slice none 0 0,.int .i64 (IntKind.i32.wrap (t.at 5).n),.slice none 0 0,.bool false,.slice none 0 0,.slice none 0 0,.int .i64 0,.slice none 0 0,.bool (t.at 6).null,.slice av6 (List.map (tl1 (tlP (d+1)) fQ_6.of fQ_6.sub) L6).length kv6,.slice none 0 0,.int .i64 0,vS28,.bool (t.at 7).null,.slice none 0 0,.slice none 0 0,.int .i64 0,vS30,.bool (t.at 8).null,.slice none 0 0,.slice none 0 0,.int .i64 0,.slice none 0 0,.bool false,.slice none 0 0,.slice none 0 0],37,(0,0)):=by rw [← hw31,blk_wr_eq,hlq31];rfl
 have hv31:Upd (fun b=>b=w.heap.size+1∨b=w.heap.size+2) w30 w31:=by rw [← hw31];exact (Upd.refl _ _).wr _ _ (.inr (.inl rfl))
 have hV31:Upd (fun b=>b=w.heap.size+1∨b=w.heap.size+2) w29 w31:=hx31.trans hv31
 have hU31:Upd (fun b=>b=w.heap.size+1∨b=w.heap.size+2) w1 w31:=hU29.trans hV31
 have hz31:=hU31.size
 have hX31:Ext w w31:=hE1.more hU31 fun b hb h=>by omega
 have hb31:=hX31.blk_some hb id
 have ht31:blk w31 (w.heap.size+2)=some (#[.int .i64 0,.slice none 0 0,.bool false,.slice (some ⟨w.heap.size+1,0,none⟩) 10 10,.slice none 0 0],37,(0,0)):=by
  rw [← hw31,blk_wr_ne (by omega)]
  exact hP30.blk_some (show blk w29.drew (w.heap.size+2)=_ from ht29) id
 clear hw31
 have hf8:TreeC (fun b=>w1.heap.size≤b) w31 (.oct (t.at 8).null (if (t.at 8).null=true then [] else (t.at 8).s)) [.int .i64 0,vS30,.bool (t.at 8).null,.slice none 0 0,.slice none 0 0]:=(TreeC.keep (hv31.keeps fun b hb hk e=>by have hk':w1.heap.size≤b:=hk;omega) (TreeC.intro rfl (hB30.weaken fun b _ hk=>by have hk':w29.drew.heap.size≤b:=hk;(try simp only [size_drew] at hk');omega) (treesN _ _) (tagsN _ _):TreeC (fun b=>w1.heap.size≤b) w30 (.oct (t.at 8).null (if (t.at 8).null=true then [] else (t.at 8).s)) [.int .i64 0,vS30,.bool (t.at 8).null,.slice none 0 0,.slice none 0 0]))
 repeat ((first|refine qA rfl ?_|apply qB|refine qC rfl ?_|apply qD|apply qE|apply qF|apply qG|apply qH);try simp (maxSteps:=1000000)(disch:=(first|omega|(simp only [qI,qJ,qK]<;>omega)|exact qL _)) only [go_sem,↓reduceIte,n0,reduceCtorEq,n1,n2,n3,n4,n5,i0,i1,i2,i3,i4,i5,i6,i7,hb31,hl31,ht31,hq0,hq1,hq2,hq3,hq4,hq5,hq6,hq7,hq8,hq9,hq10,hrd6_0,hrd6_2,hrd6_3])
 refine W.drawR (.take 0 (.take 1 (.take 2 (.take 3 (.take 4 (.take 5 (.take 6 (.take 7 (.take 8 (.last 9)))))))))) (NoB) mixed (by kernel_rfl) ?_
 try simp (maxSteps:=1000000)(disch:=(first|omega|(simp only [qI,qJ,qK]<;>omega)|exact qL _)) only [go_sem,↓reduceIte,n0,reduceCtorEq,n1,n2,n3,n4,n5,i0,i1,i2,i3,i4,i5,i6,i7,hb31,hl31,ht31,hq0,hq1,hq2,hq3,hq4,hq5,hq6,hq7,hq8,hq9,hq10,hrd6_0,hrd6_2,hrd6_3,hnn9]
 generalize hw32:wr w31.drew (w.heap.size+1) 47 [.bool (t.at 9).null] = w32
 have hl32:blk w32 (w.heap.size+1)=some (#[.int .i64 0,.slice (some a2) ((t.at 0).s).length k2,.bool false,.slice none 0 0,.slice none 0 0,.int .i64 0,.slice (some a4) ((t.at 1).s).length k4,.bool false,.slice none 0 0,.slice none 0 0,.int .i64 (IntKind.i32.wrap (t.at 2).n),.slice none 0 0,.bool false,.slice none 0 0,.slice none 0 0,.int .i64 0,vS7,.bool (t.at 3).null,.slice none 0 0,.slice none 0 0,.int .i64 0,vS9,.bool (t.at 4).null,.slice none 0 0,.slice none 0 0,.int .i64 (IntKind.i32.wrap (t.at 5).n),.slice none 0 0,.bool false,.slice none 0 0,.slice none 0 0,.int .i64 0,.slice none 0 0,.bool (t.at 6).null,.slice av6 (List.map (tl1 (tlP (d+1)) fQ_6.of fQ_6.sub) L6).length kv6,.slice none 0 0,.int .i64 0,vS28,.bool (t.at 7).null,.slice none 0 0,.slice none 0 0,.int .i64 0,vS30,.bool (t.at 8).null,.slice none 0 0,.slice none 0 0,.int .i64 0,.slice none 0 0,.bool (t.at 9).null,.slice none 0 0,.slice none 0 0],37,(0,0)):=by rw [← hw32,blk_wr_eq,show blk w31.drew (w.heap.size+1)=_ from hl31];rfl
 have hV32:Upd (fun b=>b=w.heap.size+1∨b=w.heap.size+2) w31 w32:=by rw [← hw32];exact ((Upd.refl _ _).drew).wr _ _ (.inr (.inl rfl))
 have hU32:Upd (fun b=>b=w.heap.size+1∨b=w.heap.size+2) w1 w32:=hU31.trans hV32
 have hz32:=hU32.size
 have hX32:Ext w w32:=hE1.more hU32 fun b hb h=>by omega
 have hb32:=hX32.blk_some hb id
 have ht32:blk w32 (w.heap.size+2)=some (#[.int .i64 0,.slice none 0 0,.bool false,.slice (some ⟨w.heap.size+1,0,none⟩) 10 10,.slice none 0 0],37,(0,0)):=by
  rw [← hw32,blk_wr_ne (by omega)]
  exact ht31
 clear hw32
 repeat ((first|refine qA rfl ?_|apply qB|refine qC rfl ?_|apply qD|apply qE|apply qF|apply qG|apply qH);try simp (maxSteps:=1000000)(disch:=(first|omega|(simp only [qI,qJ,qK]<;>omega)|exact qL _)) only [go_sem,↓reduceIte,n0,reduceCtorEq,n1,n2,n3,n4,n5,i0,i1,i2,i3,i4,i5,i6,i7,hb32,hl32,ht32,hq0,hq1,hq2,hq3,hq4,hq5,hq6,hq7,hq8,hq9,hq10,hrd6_0,hrd6_2,hrd6_3])
 refine W.exitJ 2 (EndQ [(0,.pointer (some ⟨b,0,none⟩)),(2,.pointer (some ⟨w.heap.size,0,none⟩)),(3,.pointer (some ⟨w.heap.size+2,0,none⟩)),(149,.int .i64 L9.length)] (fun w'=>∃ v,blk w' (w.heap.size+1)=some (#[.int .i64 0,.slice (some a2) ((t.at 0).s).length k2,.bool false,.slice none 0 0,.slice none 0 0,.int .i64 0,.slice (some a4) ((t.at 1).s).length k4,.bool false,.slice none 0 0,.slice none 0 0,.int .i64 (IntKind.i32.wrap (t.at 2).n),.slice none 0 0,.bool false,.slice none 0 0,.slice none 0 0,.int .i64 0,vS7,.bool (t.at 3).null,.slice none 0 0,.slice none 0 0,.int .i64 0,vS9,.bool (t.at 4).null,.slice none 0 0,.slice none 0 0,.int .i64 (IntKind.i32.wrap (t.at 5).n),.slice none 0 0,.bool false,.slice none 0 0,.slice none 0 0,.int .i64 0,.slice none 0 0,.bool (t.at 6).null,.slice av6 (List.map (tl1 (tlP (d+1)) fQ_6.of fQ_6.sub) L6).length kv6,.slice none 0 0,.int .i64 0,vS28,.bool (t.at 7).null,.slice none 0 0,.slice none 0 0,.int .i64 0,vS30,.bool (t.at 8).null,.slice none 0 0,.slice none 0 0,.int .i64 0,.slice none 0 0,.bool (t.at 9).null,v,.slice none 0 0],37,(0,0))∧GrowT (fun b=>w1.heap.size≤b) w32.heap.size (w.heap.size+1) w' 37 v (L9.map (tl1 (tlP (d+1)) fQ_9.of fQ_9.sub))∧Upd (fun b=>b=w.heap.size+1) w32 w')) (W.loop (LoopL [(0,.pointer (some ⟨b,0,none⟩)),(2,.pointer (some ⟨w.heap.size,0,none⟩)),(3,.pointer (some ⟨w.heap.size+2,0,none⟩)),(149,.int .i64 L9.length)] 150 (fun j w'=>∃ v,j≤L9.length∧blk w' (w.heap.size+1)=some (#[.int .i64 0,.slice (some a2) ((t.at 0).s).length k2,.bool false,.slice none 0 0,.slice none 0 0,.int .i64 0,.slice (some a4) ((t.at 1).s).length k4,.bool false,.slice none 0 0,.slice none 0 0,.int .i64 (IntKind.i32.wrap (t.at 2).n),.slice none 0 0,.bool false,.slice none 0 0,.slice none 0 0,.int .i64 0,vS7,.bool (t.at 3).null,.slice none 0 0,.slice none 0 0,.int .i64 0,vS9,.bool (t.at 4).null,.slice none 0 0,.slice none 0 0,.int .i64 (IntKind.i32.wrap (t.at 5).n),.slice none 0 0,.bool false,.slice none 0 0,.slice none 0 0,.int .i64 0,.slice none 0 0,.bool (t.at 6).null,.slice av6 (List.map (tl1 (tlP (d+1)) fQ_6.of fQ_6.sub) L6).length kv6,.slice none 0 0,.int .i64 0,vS28,.bool (t.at 7).null,.slice none 0 0,.slice none 0 0,.int .i64 0,vS30,.bool (t.at 8).null,.slice none 0 0,.slice none 0 0,.int .i64 0,.slice none 0 0,.bool (t.at 9).null,v,.slice none 0 0],37,(0,0))∧GrowT (fun b=>w1.heap.size≤b) w32.heap.size (w.heap.size+1) w' 37 v ((L9.take j).map (tl1 (tlP (d+1)) fQ_9.of fQ_9.sub))∧Upd (fun b=>b=w.heap.size+1) w32 w')) (fun ρ _=>L9.length - (RowKit.intOf (ρ 150)).toNat) ?_ ?_) ?_
 ·exact ⟨(by simp (maxSteps:=1000000)(disch:=(first|omega|(simp only [qI,qJ,qK]<;>omega)|exact qL _)) only [go_sem,↓reduceIte,n0,reduceCtorEq,n1,n2,n3,n4,n5,i0,i1,i2,i3,i4,i5,i6,i7,Holds_nil,Holds_cons,hrd6_0,hrd6_2,hrd6_3]),0,(by simp (maxSteps:=1000000)(disch:=(first|omega|(simp only [qI,qJ,qK]<;>omega)|exact qL _)) only [go_sem,↓reduceIte,n0,reduceCtorEq,n1,n2,n3,n4,n5,i0,i1,i2,i3,i4,i5,i6,i7,hrd6_0,hrd6_2,hrd6_3];all_goals rfl),.slice none 0 0,Nat.zero_le _,hl32,GrowT.nil _ _ _ _ _,Upd.refl _ _⟩
 ·rintro ρ w33 ⟨⟨hrc9_0,hrc9_2,hrc9_3,hrc9_149,-⟩,j,hri,v,hj,hl33,hg,hUk⟩
  have hzk:=hUk.size
  have hX33:Ext w w33:=hX32.more hUk fun b hb h=>by omega
  have hz33:w1.heap.size≤w33.heap.size:=by have:=hz32;omega
  have hb33:=hX33.blk_some hb id
  have ht33:=hUk.blk_some ht32 (by omega)
  by_cases hlt:j < L9.length
  ·obtain ⟨_,be,oe,xe,ce,hbe,hoke,hxe,hble,hxs,hxx,hqe,hRe⟩:=SlR.get (size:=18) (by decide) hs9 hlt
   subst hbe
   have hcat:L9.take (j+1)=L9.take j++[L9[j]]:=List.take_succ_eq_append_getElem hlt
   have hgy:=hgl9.2 _ (List.getElem_mem hlt)
   have hll:=hgl9.1
   obtain ⟨av,kv,hvs,_⟩:=hg.shape
   have hlj:(List.map (tl1 (tlP (d+1)) fQ_9.of fQ_9.sub) (L9.take j)).length=j:=by simp;omega
   rw [hlj] at hvs
   subst hvs
   have hnb:∀ b,b < w32.heap.size∨w33.heap.size≤b→¬ ownB (.slice av j kv) b:=fun b hb h=>by
    have:=hg.above h
    have:=hg.below h
    omega
   generalize L9[j] = y at *
   repeat ((first|refine qA rfl ?_|apply qB|refine qC rfl ?_|apply qD|apply qE|apply qF|apply qG|apply qH);try simp (maxSteps:=1000000)(disch:=(first|omega|(simp only [qI,qJ,qK]<;>omega)|exact qL _)) only [go_sem,↓reduceIte,n0,reduceCtorEq,n1,n2,n3,n4,n5,i0,i1,i2,i3,i4,i5,i6,i7,hb33,hl33,ht33,hq0,hq1,hq2,hq3,hq4,hq5,hq6,hq7,hq8,hq9,hq10,hrc9_0,hrc9_2,hrc9_3,hrc9_149,hri])
   refine W.drawR (.only 0 (.two 1 (.only 2 (.only 3 .done)) 2 (.only 1 (.only 3 .done)))) NoB mixed (by kernel_rfl) ?_
   try simp (maxSteps:=1000000)(disch:=(first|omega|(simp only [qI,qJ,qK]<;>omega)|exact qL _)) only [go_sem,↓reduceIte,n0,reduceCtorEq,n1,n2,n3,n4,n5,i0,i1,i2,i3,i4,i5,i6,i7,hb33,hl33,ht33,hq0,hq1,hq2,hq3,hq4,hq5,hq6,hq7,hq8,hq9,hq10,hrc9_0,hrc9_2,hrc9_3,hrc9_149,hri]
   have q0:Upd NoB w33.drew (w33.alloc (.cells #[.bool false] 4)).drew:=show Upd NoB w33.drew (w33.drew.alloc (.cells #[.bool false] 4)) from Upd.alloc (Upd.refl _ _) _
   have q1:Upd NoB w33.drew (wr (w33.alloc (.cells #[.bool false] 4)).drew w33.heap.size 0 [.bool true]):=q0.wr _ _ (.inl (Nat.le_refl _))
   have q2:Upd NoB w33.drew (wr (wr (w33.alloc (.cells #[.bool false] 4)).drew w33.heap.size 0 [.bool true]) w33.heap.size 0 [.bool false]):=q1.wr _ _ (.inl (Nat.le_refl _))
   have q3:Upd NoB w33.drew (wr (w33.alloc (.cells #[.bool false] 4)).drew w33.heap.size 0 [.bool false]):=q0.wr _ _ (.inl (Nat.le_refl _))
   have q4:Upd NoB w33.drew (wr (wr (w33.alloc (.cells #[.bool false] 4)).drew w33.heap.size 0 [.bool false]) w33.heap.size 0 [.bool true]):=q3.wr _ _ (.inl (Nat.le_refl _))
   refine ⟨q0,⟨q1,q2,q2,?_⟩,⟨q3,q4,q4,?_⟩⟩
   ·have hk34:Ext w33 (wr (wr (w33.alloc (.cells #[.bool false] 4)).drew w33.heap.size 0 [.bool true]) w33.heap.size 0 [.bool false]):=((Upd.refl _ _).drew).trans q2
    generalize (wr (wr (w33.alloc (.cells #[.bool false] 4)).drew w33.heap.size 0 [.bool true]) w33.heap.size 0 [.bool false])=w34 at *
    have hzk34:=hk34.size
    have hX34:Ext w w34:=hX33.trans hk34
    have hb34:=hk34.blk_some hb33 id
    have hl34:=hk34.blk_some hl33 id
    have ht34:=hk34.blk_some ht33 id
    have hxe34:=hX34.blk_some hxe id
    repeat ((first|refine qA rfl ?_|apply qB|refine qC rfl ?_|apply qD|apply qE|apply qF|apply qG|apply qH);try simp (maxSteps:=1000000)(disch:=(first|omega|(simp only [qI,qJ,qK]<;>omega)|exact qL _)) only [go_sem,↓reduceIte,n0,reduceCtorEq,n1,n2,n3,n4,n5,i0,i1,i2,i3,i4,i5,i6,i7,hb34,hl34,ht34,hxe34,Int.toNat_natCast,Nat.mul_one,hq0,hq1,hq2,hq3,hq4,hq5,hq6,hq7,hq8,hq9,hq10,hrc9_0,hrc9_2,hrc9_3,hrc9_149,hri])
    refine W.drawR (.take 0 (.take 1 (.take 2 (.take 3 (.take 4 (.take 5 (.take 6 (.take 7 (.take 8 (.take 9 (.take 10 (.take 11 (.take 12 (.only 13 (.only 14 (.only 15 (.take 16 (.take 17 (.last 18))))))))))))))))))) (ownB (.slice av j kv)) mixed (by kernel_rfl) ?_
    try simp (maxSteps:=1000000)(disch:=(first|omega|(simp only [qI,qJ,qK]<;>omega)|exact qL _|(refine hnb _ ?_;first|omega|(simp only [World.size_alloc,size_wr,size_drew]<;>omega)))) only [go_sem,↓reduceIte,n0,reduceCtorEq,n1,n2,n3,n4,n5,i0,i1,i2,i3,i4,i5,i6,i7,hb34,hl34,ht34,hxe34,Int.toNat_natCast,Nat.mul_one,hq0,hq1,hq2,hq3,hq4,hq5,hq6,hq7,hq8,hq9,hq10,hrc9_0,hrc9_2,hrc9_3,hrc9_149,hri]
    have hxq35:=(Upd.refl _ _:Upd (ownB (.slice av j kv)) w34.drew w34.drew).blk_some (show blk w34.drew be=_ from hxe34) (hnb _ (.inl (by omega)))
    refine (tellX0_fn (d:=d) (ok:=ok) y ce w34.drew (b:=be) (o:=oe+j * 18) hxq35 (fun k hk=>by have:=hqe k hk;rw [← Nat.add_assoc] at this;exact this) ((RepS_lay true _ _).keep (Rep1_part.1 hRe) ((((hX34.drew).mono fun _ h=>h.elim).trans (Upd.refl _ _):Upd (ownB (.slice av j kv)) w w34.drew).keeps fun b hb _=>hnb b (.inl (by omega)))) (hgy.2.2 rfl)).mono ?_
    rintro _ w35 ⟨⟨c35,rfl,hc35⟩,hEx35⟩
    obtain ⟨T35,hT35⟩:∃ T,T=tlP (d+1) fs_X0 y:=⟨_,rfl⟩
    replace hc35:TreeC (fun b=>w34.drew.heap.size≤b) w35 T35 c35:=by rw [hT35];exact hc35
    obtain ⟨vS35,vL35,vU35,rfl,hn35,hS35,hLL35,hUU35⟩:=hc35.inv
    have k1_35:=hS35.flat
    have k2_35:=SlR.flat hLL35
    have k3_35:=SlR.flat hUU35
    have hP35:Upd (ownB (.slice av j kv)) w34.drew w35:=(Upd.refl _ _).trans (hEx35.mono fun _ h=>h.elim)
    have hsq35:=hEx35.size
    try simp only [size_drew] at hsq35
    refine ⟨hP35,?_⟩
    try simp (maxSteps:=1000000)(disch:=(first|omega|(simp only [qI,qJ,qK]<;>omega)|exact qL _|(refine hnb _ ?_;first|omega|(simp only [World.size_alloc,size_wr,size_drew]<;>omega)))) only [go_sem,↓reduceIte,n0,reduceCtorEq,n1,n2,n3,n4,n5,i0,i1,i2,i3,i4,i5,i6,i7,hb34,hl34,ht34,hxe34,Int.toNat_natCast,Nat.mul_one,hq0,hq1,hq2,hq3,hq4,hq5,hq6,hq7,hq8,hq9,hq10,hrc9_0,hrc9_2,hrc9_3,hrc9_149,hri,k1_35,k2_35,k3_35]
    have hP36:Upd (ownB (.slice av j kv)) w34.drew (w35.alloc (.cells #[.int .i64 T35.n,vS35,.bool T35.null,vL35,vU35] 37)):=show Upd (ownB (.slice av j kv)) w34.drew (w35.alloc (.cells #[.int .i64 T35.n,vS35,.bool T35.null,vL35,vU35] 37)) from (hP35).alloc _
    have hn36:blk (w35.alloc (.cells #[.int .i64 T35.n,vS35,.bool T35.null,vL35,vU35] 37)) w35.heap.size=some (#[.int .i64 T35.n,vS35,.bool T35.null,vL35,vU35],37,(0,0)):=show blk (w35.alloc (.cells #[.int .i64 T35.n,vS35,.bool T35.null,vL35,vU35] 37)) w35.heap.size=some (#[.int .i64 T35.n,vS35,.bool T35.null,vL35,vU35],37,(0,0)) from blk_alloc_new rfl
    have hsq36:(w35.alloc (.cells #[.int .i64 T35.n,vS35,.bool T35.null,vL35,vU35] 37)).heap.size=w35.heap.size+1:=show (w35.alloc (.cells #[.int .i64 T35.n,vS35,.bool T35.null,vL35,vU35] 37)).heap.size=w35.heap.size+1 from World.size_alloc _ _
    have hEx36:Ext w35 (w35.alloc (.cells #[.int .i64 T35.n,vS35,.bool T35.null,vL35,vU35] 37)):=show Ext w35 (w35.alloc (.cells #[.int .i64 T35.n,vS35,.bool T35.null,vL35,vU35] 37)) from Upd.alloc (Upd.refl _ _) _
    refine ⟨hP36,?_⟩
    try simp only [List.append_nil]
    generalize (w35.alloc (.cells #[.int .i64 T35.n,vS35,.bool T35.null,vL35,vU35] 37))=w36 at *
    try simp only [size_drew] at hsq36
    have hEw37:Ext w33 w36:=((hk34.drew.trans hEx35).trans hEx36)
    have hzw37:=hEw37.size
    obtain ⟨css,hown,hall⟩:=(hg.ext hEw37).ex
    have hcl:=hall.1
    rw [hlj] at hcl
    have hx37:TreeC (fun b=>(fun b=>w1.heap.size≤b) b∧b≠w.heap.size+1∧¬ ownB (.slice av j kv) b) w36 ((tl1 (tlP (d+1)) fQ_9.of fQ_9.sub) y) [.int .i64 T35.n,vS35,.bool T35.null,vL35,vU35]:=by
     rw [show (tl1 (tlP (d+1)) fQ_9.of fQ_9.sub) y=_ from hT35.symm]
     exact TreeC.weaken (fun b _ hk=>⟨by omega,by omega,hnb b (.inr (by omega))⟩) (TreeC.weaken (ok':=fun b=>w33.heap.size≤b) (fun b _ hk=>by have hk':w34.drew.heap.size≤b:=hk;(try simp only [size_drew] at hk');omega) (TreeC.keep (Ext.keeps hEx36 _) hc35))
    refine wp_append ap_34_34 (m:=1) (news:=[.int .i64 T35.n,vS35,.bool T35.null,vL35,vU35]) (n:=css.length) (cs:=css.flatten) (v:=(.slice av j kv)) ?_ rfl hown.1 (all2_flat_tree hall) (Src.blk (fr:=(0,0)) (T:=37) hn36 rfl (by simp only [List.all_cons,List.all_nil,flat_int,flat_bool,k1_35,k2_35,k3_35,Bool.and_self])) ?_ ?_ ?_
    ·first|rfl|simp (maxSteps:=1000000)(disch:=(first|omega|(simp only [qI,qJ,qK]<;>omega)|exact qL _)) only [go_sem,↓reduceIte,n0,reduceCtorEq,n1,n2,n3,n4,n5,i0,i1,i2,i3,i4,i5,i6,i7]
    ·omega
    ·omega
    intro v' w37 ho hu hfr
    have hP37:=(hP36:Upd (ownB (.slice av j kv)) w34.drew w36).trans hu
    have hzq37:=hP37.size
    simp only [size_drew] at hzq37
    have hlq37:=hP37.blk_some (show blk w34.drew (w.heap.size+1)=_ from hl34) (hnb _ (.inl (by omega)))
    have hg':=GrowT.snoc hown hall hx37 hu hfr ho
    obtain ⟨va,vc,hv',_⟩:=ho.shape
    subst hv'
    have hne:¬ ownB (.slice va (css.length+1) vc) (w.heap.size+1):=fun h=>(hfr _ h).elim (hnb _ (.inl (by omega))) (fun h=>by omega)
    refine ⟨hP37,?_⟩
    try simp (maxSteps:=1000000)(disch:=(first|omega|(simp only [qI,qJ,qK]<;>omega)|exact qL _|(refine hnb _ ?_;first|omega|(simp only [World.size_alloc,size_wr,size_drew]<;>omega)))) only [go_sem,↓reduceIte,n0,reduceCtorEq,n1,n2,n3,n4,n5,i0,i1,i2,i3,i4,i5,i6,i7,hlq37,Int.toNat_natCast,Nat.mul_one,hrc9_0,hrc9_2,hrc9_3,hrc9_149,hri]
    repeat ((first|refine qA rfl ?_|apply qB|refine qC rfl ?_|apply qD|apply qE|apply qF|apply qG|apply qH);try simp (maxSteps:=1000000)(disch:=(first|omega|(simp only [qI,qJ,qK]<;>omega)|exact qL _)) only [go_sem,↓reduceIte,n0,reduceCtorEq,n1,n2,n3,n4,n5,i0,i1,i2,i3,i4,i5,i6,i7,hlq37,Int.toNat_natCast,Nat.mul_one,hrc9_0,hrc9_2,hrc9_3,hrc9_149,hri])
    refine ⟨⟨(by simp (maxSteps:=1000000)(disch:=(first|omega|(simp only [qI,qJ,qK]<;>omega)|exact qL _)) only [go_sem,↓reduceIte,n0,reduceCtorEq,n1,n2,n3,n4,n5,i0,i1,i2,i3,i4,i5,i6,i7,Holds_nil,Holds_cons,hrc9_0,hrc9_2,hrc9_3,hrc9_149,hri]),j+1,(by simp (maxSteps:=1000000)(disch:=(first|omega|(simp only [qI,qJ,qK]<;>omega)|exact qL _)) only [go_sem,↓reduceIte,n0,reduceCtorEq,n1,n2,n3,n4,n5,i0,i1,i2,i3,i4,i5,i6,i7,hrc9_0,hrc9_2,hrc9_3,hrc9_149,hri];all_goals rfl),.slice va (css.length+1) vc,by omega,?_,?_,?_⟩,?_⟩
    ·rw [blk_wr_eq,hlq37];rfl
    ·rw [hcat,List.map_append];exact hg'.upd ((Upd.refl _ _).wr _ _ (.inr rfl)) hne
    ·refine Upd.wr ?_ _ _ (.inr rfl)
     exact (hUk.more ((hEw37.mono fun _ h=>h.elim).trans hu) fun b hb h=>absurd h (hnb b (.inl hb)))
    ·try simp (maxSteps:=1000000)(disch:=(first|omega|(simp only [qI,qJ,qK]<;>omega)|exact qL _)) only [go_sem,↓reduceIte,n0,reduceCtorEq,n1,n2,n3,n4,n5,i0,i1,i2,i3,i4,i5,i6,i7,hrc9_0,hrc9_2,hrc9_3,hrc9_149,hri]
     simp only [RowKit.intOf];omega
   ·have hk38:Ext w33 (wr (wr (w33.alloc (.cells #[.bool false] 4)).drew w33.heap.size 0 [.bool false]) w33.heap.size 0 [.bool true]):=((Upd.refl _ _).drew).trans q4
    generalize (wr (wr (w33.alloc (.cells #[.bool false] 4)).drew w33.heap.size 0 [.bool false]) w33.heap.size 0 [.bool true])=w38 at *
    have hzk38:=hk38.size
    have hX38:Ext w w38:=hX33.trans hk38
    have hb38:=hk38.blk_some hb33 id
    have hl38:=hk38.blk_some hl33 id
    have ht38:=hk38.blk_some ht33 id
    have hxe38:=hX38.blk_some hxe id
    repeat ((first|refine qA rfl ?_|apply qB|refine qC rfl ?_|apply qD|apply qE|apply qF|apply qG|apply qH);try simp (maxSteps:=1000000)(disch:=(first|omega|(simp only [qI,qJ,qK]<;>omega)|exact qL _)) only [go_sem,↓reduceIte,n0,reduceCtorEq,n1,n2,n3,n4,n5,i0,i1,i2,i3,i4,i5,i6,i7,hb38,hl38,ht38,hxe38,Int.toNat_natCast,Nat.mul_one,hq0,hq1,hq2,hq3,hq4,hq5,hq6,hq7,hq8,hq9,hq10,hrc9_0,hrc9_2,hrc9_3,hrc9_149,hri])
    refine W.drawR (.take 0 (.take 1 (.take 2 (.take 3 (.take 4 (.take 5 (.take 6 (.take 7 (.take 8 (.take 9 (.take 10 (.take 12 (.two 11 (.only 13 (.only 14 (.take 15 (.take 16 (.last 17))))) 13 (.only 11 (.only 14 (.take 15 (.take 16 (.last 17)))))))))))))))))) (ownB (.slice av j kv)) mixed (by kernel_rfl) ?_
    try simp (maxSteps:=1000000)(disch:=(first|omega|(simp only [qI,qJ,qK]<;>omega)|exact qL _|(refine hnb _ ?_;first|omega|(simp only [World.size_alloc,size_wr,size_drew]<;>omega)))) only [go_sem,↓reduceIte,n0,reduceCtorEq,n1,n2,n3,n4,n5,i0,i1,i2,i3,i4,i5,i6,i7,hb38,hl38,ht38,hxe38,Int.toNat_natCast,Nat.mul_one,hq0,hq1,hq2,hq3,hq4,hq5,hq6,hq7,hq8,hq9,hq10,hrc9_0,hrc9_2,hrc9_3,hrc9_149,hri]
    refine ⟨?_,?_⟩
    ·skip
     have hxq39:=(Upd.refl _ _:Upd (ownB (.slice av j kv)) w38.drew w38.drew).blk_some (show blk w38.drew be=_ from hxe38) (hnb _ (.inl (by omega)))
     refine (tellX0_fn (d:=d) (ok:=ok) y ce w38.drew (b:=be) (o:=oe+j * 18) hxq39 (fun k hk=>by have:=hqe k hk;rw [← Nat.add_assoc] at this;exact this) ((RepS_lay true _ _).keep (Rep1_part.1 hRe) ((((hX38.drew).mono fun _ h=>h.elim).trans (Upd.refl _ _):Upd (ownB (.slice av j kv)) w w38.drew).keeps fun b hb _=>hnb b (.inl (by omega)))) (hgy.2.2 rfl)).mono ?_
     rintro _ w39 ⟨⟨c39,rfl,hc39⟩,hEx39⟩
     obtain ⟨T39,hT39⟩:∃ T,T=tlP (d+1) fs_X0 y:=⟨_,rfl⟩
     replace hc39:TreeC (fun b=>w38.drew.heap.size≤b) w39 T39 c39:=by rw [hT39];exact hc39
     obtain ⟨vS39,vL39,vU39,rfl,hn39,hS39,hLL39,hUU39⟩:=hc39.inv
     have k1_39:=hS39.flat
     have k2_39:=SlR.flat hLL39
     have k3_39:=SlR.flat hUU39
     have hP39:Upd (ownB (.slice av j kv)) w38.drew w39:=(Upd.refl _ _).trans (hEx39.mono fun _ h=>h.elim)
     have hsq39:=hEx39.size
     try simp only [size_drew] at hsq39
     refine ⟨hP39,?_⟩
     try simp (maxSteps:=1000000)(disch:=(first|omega|(simp only [qI,qJ,qK]<;>omega)|exact qL _|(refine hnb _ ?_;first|omega|(simp only [World.size_alloc,size_wr,size_drew]<;>omega)))) only [go_sem,↓reduceIte,n0,reduceCtorEq,n1,n2,n3,n4,n5,i0,i1,i2,i3,i4,i5,i6,i7,hb38,hl38,ht38,hxe38,Int.toNat_natCast,Nat.mul_one,hq0,hq1,hq2,hq3,hq4,hq5,hq6,hq7,hq8,hq9,hq10,hrc9_0,hrc9_2,hrc9_3,hrc9_149,hri,k1_39,k2_39,k3_39]
     have hP40:Upd (ownB (.slice av j kv)) w38.drew (w39.alloc (.cells qZ5 37)):=show Upd (ownB (.slice av j kv)) w38.drew (w39.alloc (.cells qZ5 37)) from (hP39).alloc _
     have hn40:blk (w39.alloc (.cells qZ5 37)) w39.heap.size=some (qZ5,37,(0,0)):=show blk (w39.alloc (.cells qZ5 37)) w39.heap.size=some (qZ5,37,(0,0)) from blk_alloc_new rfl
     have hsq40:(w39.alloc (.cells qZ5 37)).heap.size=w39.heap.size+1:=show (w39.alloc (.cells qZ5 37)).heap.size=w39.heap.size+1 from World.size_alloc _ _
     have hEx40:Ext w39 (w39.alloc (.cells qZ5 37)):=show Ext w39 (w39.alloc (.cells qZ5 37)) from Upd.alloc (Upd.refl _ _) _
     refine ⟨hP40,?_⟩
     try simp only [List.append_nil]
     generalize (w39.alloc (.cells qZ5 37))=w40 at *
     try simp only [size_drew] at hsq40
     have hEw41:Ext w33 w40:=((hk38.drew.trans hEx39).trans hEx40)
     have hzw41:=hEw41.size
     obtain ⟨css,hown,hall⟩:=(hg.ext hEw41).ex
     have hcl:=hall.1
     rw [hlj] at hcl
     have hx41:TreeC (fun b=>(fun b=>w1.heap.size≤b) b∧b≠w.heap.size+1∧¬ ownB (.slice av j kv) b) w40 ((tl1 (tlP (d+1)) fQ_9.of fQ_9.sub) y) [.int .i64 T39.n,vS39,.bool T39.null,vL39,vU39]:=by
      rw [show (tl1 (tlP (d+1)) fQ_9.of fQ_9.sub) y=_ from hT39.symm]
      exact TreeC.weaken (fun b _ hk=>⟨by omega,by omega,hnb b (.inr (by omega))⟩) (TreeC.weaken (ok':=fun b=>w33.heap.size≤b) (fun b _ hk=>by have hk':w38.drew.heap.size≤b:=hk;(try simp only [size_drew] at hk');omega) (TreeC.keep (Ext.keeps hEx40 _) hc39))
     refine wp_append ap_34_34 (m:=1) (news:=[.int .i64 0,.slice none 0 0,.bool false,.slice none 0 0,.slice none 0 0]) (n:=css.length) (cs:=css.flatten) (v:=(.slice av j kv)) ?_ rfl hown.1 (all2_flat_tree hall) (Src.blk (fr:=(0,0)) (T:=37) hn40 rfl rfl) ?_ ?_ ?_
     ·first|rfl|simp (maxSteps:=1000000)(disch:=(first|omega|(simp only [qI,qJ,qK]<;>omega)|exact qL _)) only [go_sem,↓reduceIte,n0,reduceCtorEq,n1,n2,n3,n4,n5,i0,i1,i2,i3,i4,i5,i6,i7]
     ·omega
     ·omega
     intro v' w41 ho hu hfr
     have hP41:=(hP40:Upd (ownB (.slice av j kv)) w38.drew w40).trans hu
     have hzq41:=hP41.size
     simp only [size_drew] at hzq41
     have hlq41:=hP41.blk_some (show blk w38.drew (w.heap.size+1)=_ from hl38) (hnb _ (.inl (by omega)))
     rcases ho.2 with ⟨_,h⟩|⟨g,cap,rest,fr,hv',hg',hbg,hlen,hth,hle⟩
     ·exact absurd h (Nat.succ_ne_zero _)
     subst hv'
     have hgne:¬ g=w.heap.size+1:=fun h=>(hfr g ⟨_,_,_,rfl,rfl⟩).elim (fun h'=>hnb _ (.inl (by omega)) (h ▸ h')) (fun h'=>by omega)
     have hfl:css.flatten.length=css.length * 5:=flatten_len hown.2
     have hlen2:(css.flatten++([.int .i64 0,.slice none 0 0,.bool false,.slice none 0 0,.slice none 0 0]:List Value)++rest).length=cap * 5:=by simp only [List.length_append] at hlen ⊢;omega
     obtain ⟨XX,hXX⟩:∃ X:Array Value,X=(css.flatten++([.int .i64 0,.slice none 0 0,.bool false,.slice none 0 0,.slice none 0 0]:List Value)++rest).toArray:=⟨_,rfl⟩
     have hbgX:blk w41 g=some (XX,37,fr):=by rw [hXX];exact hbg
     have hXsz:XX.size=cap * 5:=by rw [hXX,List.size_toArray];exact hlen2
     have hth2:thaw fr (css.length * 5) 5=true:=thaw_of hth (by omega)
     have hst:css.length * 5+5≤XX.size:=by omega
     have hset:=Own.setlast (cs:=[.int .i64 T39.n,vS39,.bool T39.null,vL39,vU39]) ho rfl rfl
     have hu2:Upd (ownB (.slice av j kv)) w40 (wr w41 g (css.length * 5) [.int .i64 T39.n,vS39,.bool T39.null,vL39,vU39]):=hu.wr _ _ ((hfr g ⟨_,_,_,rfl,rfl⟩).symm)
     have hg2:=GrowT.snoc hown hall hx41 hu2 hfr hset
     have hcj:css.length=j:=by first|exact hcl.symm.trans hlj|omega
     simp only [hcj] at hth2 hst hset hu2 hg2
     refine ⟨hP41,?_⟩
     try simp (maxSteps:=1000000)(disch:=(first|omega|(simp only [qI,qJ,qK]<;>omega)|exact qL _|(refine hnb _ ?_;first|omega|(simp only [World.size_alloc,size_wr,size_drew]<;>omega)))) only [go_sem,↓reduceIte,n0,reduceCtorEq,n1,n2,n3,n4,n5,i0,i1,i2,i3,i4,i5,i6,i7,hlq41,hbgX,hth2,hst,hcj,Int.toNat_natCast,Nat.mul_one,k1_39,k2_39,k3_39,hrc9_0,hrc9_2,hrc9_3,hrc9_149,hri]
     repeat ((first|refine qA rfl ?_|apply qB|refine qC rfl ?_|apply qD|apply qE|apply qF|apply qG|apply qH);try simp (maxSteps:=1000000)(disch:=(first|omega|(simp only [qI,qJ,qK]<;>omega)|exact qL _)) only [go_sem,↓reduceIte,n0,reduceCtorEq,n1,n2,n3,n4,n5,i0,i1,i2,i3,i4,i5,i6,i7,hlq41,hbgX,hth2,hst,hcj,Int.toNat_natCast,Nat.mul_one,k1_39,k2_39,k3_39,hrc9_0,hrc9_2,hrc9_3,hrc9_149,hri])
     refine ⟨⟨(by simp (maxSteps:=1000000)(disch:=(first|omega|(simp only [qI,qJ,qK]<;>omega)|exact qL _)) only [go_sem,↓reduceIte,n0,reduceCtorEq,n1,n2,n3,n4,n5,i0,i1,i2,i3,i4,i5,i6,i7,Holds_nil,Holds_cons,hrc9_0,hrc9_2,hrc9_3,hrc9_149,hri]),j+1,(by simp (maxSteps:=1000000)(disch:=(first|omega|(simp only [qI,qJ,qK]<;>omega)|exact qL _)) only [go_sem,↓reduceIte,n0,reduceCtorEq,n1,n2,n3,n4,n5,i0,i1,i2,i3,i4,i5,i6,i7,hrc9_0,hrc9_2,hrc9_3,hrc9_149,hri];all_goals rfl),.slice (some ⟨g,0,none⟩) (j+1) cap,by omega,?_,?_,?_⟩,?_⟩
     ·rw [blk_wr_ne (by omega),blk_wr_eq,hlq41];rfl
     ·rw [hcat,List.map_append,wr_comm (Ne.symm hgne)]
      exact hg2.upd ((Upd.refl _ _).wr _ _ (.inr rfl)) (fun h=>hgne (ownB_row h).symm)
     ·rw [wr_comm (Ne.symm hgne)]
      refine Upd.wr ?_ _ _ (.inr rfl)
      exact (hUk.more ((hEw41.mono fun _ h=>h.elim).trans hu2) fun b hb h=>absurd h (hnb b (.inl hb)))
     ·try simp (maxSteps:=1000000)(disch:=(first|omega|(simp only [qI,qJ,qK]<;>omega)|exact qL _)) only [go_sem,↓reduceIte,n0,reduceCtorEq,n1,n2,n3,n4,n5,i0,i1,i2,i3,i4,i5,i6,i7,hrc9_0,hrc9_2,hrc9_3,hrc9_149,hri]
      simp only [RowKit.intOf];omega
    ·skip
     have hP42:Upd (ownB (.slice av j kv)) w38.drew (w38.alloc (.cells qZ5 37)).drew:=show Upd (ownB (.slice av j kv)) w38.drew (w38.drew.alloc (.cells qZ5 37)) from (Upd.refl _ _).alloc _
     have hn42:blk (w38.alloc (.cells qZ5 37)).drew w38.drew.heap.size=some (qZ5,37,(0,0)):=show blk (w38.drew.alloc (.cells qZ5 37)) w38.drew.heap.size=some (qZ5,37,(0,0)) from blk_alloc_new rfl
     have hsq42:(w38.alloc (.cells qZ5 37)).drew.heap.size=w38.drew.heap.size+1:=show (w38.drew.alloc (.cells qZ5 37)).heap.size=w38.drew.heap.size+1 from World.size_alloc _ _
     have hEx42:Ext w38.drew (w38.alloc (.cells qZ5 37)).drew:=show Ext w38.drew (w38.drew.alloc (.cells qZ5 37)) from Upd.alloc (Upd.refl _ _) _
     refine ⟨hP42,?_⟩
     try simp only [List.append_nil]
     generalize (w38.alloc (.cells qZ5 37)).drew=w42 at *
     try simp only [size_drew] at hsq42
     have hxq43:=(hP42:Upd (ownB (.slice av j kv)) w38.drew w42).blk_some (show blk w38.drew be=_ from hxe38) (hnb _ (.inl (by omega)))
     refine (tellX0_fn (d:=d) (ok:=ok) y ce w42 (b:=be) (o:=oe+j * 18) hxq43 (fun k hk=>by have:=hqe k hk;rw [← Nat.add_assoc] at this;exact this) ((RepS_lay true _ _).keep (Rep1_part.1 hRe) ((((hX38.drew).mono fun _ h=>h.elim).trans (hP42):Upd (ownB (.slice av j kv)) w w42).keeps fun b hb _=>hnb b (.inl (by omega)))) (hgy.2.2 rfl)).mono ?_
     rintro _ w43 ⟨⟨c43,rfl,hc43⟩,hEx43⟩
     obtain ⟨T43,hT43⟩:∃ T,T=tlP (d+1) fs_X0 y:=⟨_,rfl⟩
     replace hc43:TreeC (fun b=>w42.heap.size≤b) w43 T43 c43:=by rw [hT43];exact hc43
     obtain ⟨vS43,vL43,vU43,rfl,hn43,hS43,hLL43,hUU43⟩:=hc43.inv
     have k1_43:=hS43.flat
     have k2_43:=SlR.flat hLL43
     have k3_43:=SlR.flat hUU43
     have hP43:Upd (ownB (.slice av j kv)) w38.drew w43:=(hP42).trans (hEx43.mono fun _ h=>h.elim)
     have hsq43:=hEx43.size
     try simp only [size_drew] at hsq43
     refine ⟨hP43,?_⟩
     try simp (maxSteps:=1000000)(disch:=(first|omega|(simp only [qI,qJ,qK]<;>omega)|exact qL _|(refine hnb _ ?_;first|omega|(simp only [World.size_alloc,size_wr,size_drew]<;>omega)))) only [go_sem,↓reduceIte,n0,reduceCtorEq,n1,n2,n3,n4,n5,i0,i1,i2,i3,i4,i5,i6,i7,hb38,hl38,ht38,hxe38,Int.toNat_natCast,Nat.mul_one,hq0,hq1,hq2,hq3,hq4,hq5,hq6,hq7,hq8,hq9,hq10,hrc9_0,hrc9_2,hrc9_3,hrc9_149,hri,k1_43,k2_43,k3_43]
     have hEw44:Ext w33 w43:=((hk38.drew.trans hEx42).trans hEx43)
     have hzw44:=hEw44.size
     obtain ⟨css,hown,hall⟩:=(hg.ext hEw44).ex
     have hcl:=hall.1
     rw [hlj] at hcl
     have hx44:TreeC (fun b=>(fun b=>w1.heap.size≤b) b∧b≠w.heap.size+1∧¬ ownB (.slice av j kv) b) w43 ((tl1 (tlP (d+1)) fQ_9.of fQ_9.sub) y) [.int .i64 T43.n,vS43,.bool T43.null,vL43,vU43]:=by
      rw [show (tl1 (tlP (d+1)) fQ_9.of fQ_9.sub) y=_ from hT43.symm]
      exact TreeC.weaken (fun b _ hk=>⟨by omega,by omega,hnb b (.inr (by omega))⟩) (TreeC.weaken (ok':=fun b=>w33.heap.size≤b) (fun b _ hk=>by have hk':w42.heap.size≤b:=hk;(try simp only [size_drew] at hk');omega) hc43)
     refine wp_append ap_34_34 (m:=1) (news:=[.int .i64 0,.slice none 0 0,.bool false,.slice none 0 0,.slice none 0 0]) (n:=css.length) (cs:=css.flatten) (v:=(.slice av j kv)) ?_ rfl hown.1 (all2_flat_tree hall) (Src.blk (fr:=(0,0)) (T:=37) (hEx43.blk_some hn42 id) rfl rfl) ?_ ?_ ?_
     ·first|rfl|simp (maxSteps:=1000000)(disch:=(first|omega|(simp only [qI,qJ,qK]<;>omega)|exact qL _)) only [go_sem,↓reduceIte,n0,reduceCtorEq,n1,n2,n3,n4,n5,i0,i1,i2,i3,i4,i5,i6,i7]
     ·omega
     ·omega
     intro v' w44 ho hu hfr
     have hP44:=(hP43:Upd (ownB (.slice av j kv)) w38.drew w43).trans hu
     have hzq44:=hP44.size
     simp only [size_drew] at hzq44
     have hlq44:=hP44.blk_some (show blk w38.drew (w.heap.size+1)=_ from hl38) (hnb _ (.inl (by omega)))
     rcases ho.2 with ⟨_,h⟩|⟨g,cap,rest,fr,hv',hg',hbg,hlen,hth,hle⟩
     ·exact absurd h (Nat.succ_ne_zero _)
     subst hv'
     have hgne:¬ g=w.heap.size+1:=fun h=>(hfr g ⟨_,_,_,rfl,rfl⟩).elim (fun h'=>hnb _ (.inl (by omega)) (h ▸ h')) (fun h'=>by omega)
     have hfl:css.flatten.length=css.length * 5:=flatten_len hown.2
     have hlen2:(css.flatten++([.int .i64 0,.slice none 0 0,.bool false,.slice none 0 0,.slice none 0 0]:List Value)++rest).length=cap * 5:=by simp only [List.length_append] at hlen ⊢;omega
     obtain ⟨XX,hXX⟩:∃ X:Array Value,X=(css.flatten++([.int .i64 0,.slice none 0 0,.bool false,.slice none 0 0,.slice none 0 0]:List Value)++rest).toArray:=⟨_,rfl⟩
     have hbgX:blk w44 g=some (XX,37,fr):=by rw [hXX];exact hbg
     have hXsz:XX.size=cap * 5:=by rw [hXX,List.size_toArray];exact hlen2
     have hth2:thaw fr (css.length * 5) 5=true:=thaw_of hth (by omega)
     have hst:css.length * 5+5≤XX.size:=by omega
     have hset:=Own.setlast (cs:=[.int .i64 T43.n,vS43,.bool T43.null,vL43,vU43]) ho rfl rfl
     have hu2:Upd (ownB (.slice av j kv)) w43 (wr w44 g (css.length * 5) [.int .i64 T43.n,vS43,.bool T43.null,vL43,vU43]):=hu.wr _ _ ((hfr g ⟨_,_,_,rfl,rfl⟩).symm)
     have hg2:=GrowT.snoc hown hall hx44 hu2 hfr hset
     have hcj:css.length=j:=by first|exact hcl.symm.trans hlj|omega
     simp only [hcj] at hth2 hst hset hu2 hg2
     refine ⟨hP44,?_⟩
     try simp (maxSteps:=1000000)(disch:=(first|omega|(simp only [qI,qJ,qK]<;>omega)|exact qL _|(refine hnb _ ?_;first|omega|(simp only [World.size_alloc,size_wr,size_drew]<;>omega)))) only [go_sem,↓reduceIte,n0,reduceCtorEq,n1,n2,n3,n4,n5,i0,i1,i2,i3,i4,i5,i6,i7,hlq44,hbgX,hth2,hst,hcj,Int.toNat_natCast,Nat.mul_one,k1_43,k2_43,k3_43,hrc9_0,hrc9_2,hrc9_3,hrc9_149,hri]
     repeat ((first|refine qA rfl ?_|apply qB|refine qC rfl ?_|apply qD|apply qE|apply qF|apply qG|apply qH);try simp (maxSteps:=1000000)(disch:=(first|omega|(simp only [qI,qJ,qK]<;>omega)|exact qL _)) only [go_sem,↓reduceIte,n0,reduceCtorEq,n1,n2,n3,n4,n5,i0,i1,i2,i3,i4,i5,i6,i7,hlq44,hbgX,hth2,hst,hcj,Int.toNat_natCast,Nat.mul_one,k1_43,k2_43,k3_43,hrc9_0,hrc9_2,hrc9_3,hrc9_149,hri])
     refine ⟨⟨(by simp (maxSteps:=1000000)(disch:=(first|omega|(simp only [qI,qJ,qK]<;>omega)|exact qL _)) only [go_sem,↓reduceIte,n0,reduceCtorEq,n1,n2,n3,n4,n5,i0,i1,i2,i3,i4,i5,i6,i7,Holds_nil,Holds_cons,hrc9_0,hrc9_2,hrc9_3,hrc9_149,hri]),j+1,(by simp (maxSteps:=1000000)(disch:=(first|omega|(simp only [qI,qJ,qK]<;>omega)|exact qL _)) only [go_sem,↓reduceIte,n0,reduceCtorEq,n1,n2,n3,n4,n5,i0,i1,i2,i3,i4,i5,i6,i7,hrc9_0,hrc9_2,hrc9_3,hrc9_149,hri];all_goals rfl),.slice (some ⟨g,0,none⟩) (j+1) cap,by omega,?_,?_,?_⟩,?_⟩
     ·rw [blk_wr_ne (by omega),blk_wr_eq,hlq44];rfl
     ·rw [hcat,List.map_append,wr_comm (Ne.symm hgne)]
      exact hg2.upd ((Upd.refl _ _).wr _ _ (.inr rfl)) (fun h=>hgne (ownB_row h).symm)
     ·rw [wr_comm (Ne.symm hgne)]
      refine Upd.wr ?_ _ _ (.inr rfl)
      exact (hUk.more ((hEw44.mono fun _ h=>h.elim).trans hu2) fun b hb h=>absurd h (hnb b (.inl hb)))
     ·try simp (maxSteps:=1000000)(disch:=(first|omega|(simp only [qI,qJ,qK]<;>omega)|exact qL _)) only [go_sem,↓reduceIte,n0,reduceCtorEq,n1,n2,n3,n4,n5,i0,i1,i2,i3,i4,i5,i6,i7,hrc9_0,hrc9_2,hrc9_3,hrc9_149,hri]
      simp only [RowKit.intOf];omega
  ·have hjn:j=L9.length:=by omega
   subst hjn
   rw [List.take_length] at hg
   repeat ((first|refine qA rfl ?_|apply qB|refine qC rfl ?_|apply qD|apply qE|apply qF|apply qG|apply qH);try simp (maxSteps:=1000000)(disch:=(first|omega|(simp only [qI,qJ,qK]<;>omega)|exact qL _)) only [go_sem,↓reduceIte,n0,reduceCtorEq,n1,n2,n3,n4,n5,i0,i1,i2,i3,i4,i5,i6,i7,hrc9_0,hrc9_2,hrc9_3,hrc9_149,hri])
   exact ⟨(by simp (maxSteps:=1000000)(disch:=(first|omega|(simp only [qI,qJ,qK]<;>omega)|exact qL _)) only [go_sem,↓reduceIte,n0,reduceCtorEq,n1,n2,n3,n4,n5,i0,i1,i2,i3,i4,i5,i6,i7,Holds_nil,Holds_cons,hrc9_0,hrc9_2,hrc9_3,hrc9_149,hri]),v,hl33,hg,hUk⟩
 rintro ρ w45 ⟨⟨hrd9_0,hrd9_2,hrd9_3,hrd9_149,-⟩,v,hl45,hg45,hUz45⟩
 have hV45:Upd (fun b=>b=w.heap.size+1∨b=w.heap.size+2) w32 w45:=hUz45.mono fun _ h=>.inl h
 have hU45:Upd (fun b=>b=w.heap.size+1∨b=w.heap.size+2) w1 w45:=hU32.trans hV45
 have hz45:=hU45.size
 have hX45:Ext w w45:=hE1.more hU45 fun b hb h=>by omega
 have hb45:=hX45.blk_some hb id
 have ht45:=hUz45.blk_some ht32 (by omega)
 obtain ⟨av9,kv9,hvs,_⟩:=hg45.shape
 subst hvs
 have hf9:TreeC (fun b=>w1.heap.size≤b) w45 (.mk 0 [] (t.at 9).null (L9.map (tl1 (tlP (d+1)) fQ_9.of fQ_9.sub)) []) [.int .i64 0,.slice none 0 0,.bool (t.at 9).null,.slice av9 (List.map (tl1 (tlP (d+1)) fQ_9.of fQ_9.sub) L9).length kv9,.slice none 0 0]:=TreeC.intro rfl (BytesV.nil _ _) (hg45.trees (fun _ _ h=>h) (fun b hb=>by have:=hz32;omega)) (tagsN _ _)
 repeat ((first|refine qA rfl ?_|apply qB|refine qC rfl ?_|apply qD|apply qE|apply qF|apply qG|apply qH);try simp (maxSteps:=1000000)(disch:=(first|omega|(simp only [qI,qJ,qK]<;>omega)|exact qL _)) only [go_sem,↓reduceIte,n0,reduceCtorEq,n1,n2,n3,n4,n5,i0,i1,i2,i3,i4,i5,i6,i7,hb45,hl45,ht45,hq0,hq1,hq2,hq3,hq4,hq5,hq6,hq7,hq8,hq9,hq10,hrd9_0,hrd9_2,hrd9_3])
 refine (EachG_fn (ok:=fun b=>b < w.heap.size) 35 ca_35 #[.pointer (some ⟨w.heap.size+2,0,none⟩)] w45 (tb:=b) (to:=11) hb45 hq10 ((hT.weaken fun b hb _=>hb).keep (hX45.keeps _)) (sortT_perm _) (sortT_lt hgu.2.1) (by rw [(sortT_perm t.u).length_eq];exact hgu.1)
  (fun b=>b=w.heap.size+2) (by omega) (fun b hb hk e=>by have hk':b < w.heap.size:=hk;omega) (fun b hb=>by have:=blk_lt ht45;omega)
  (fun wl done w'=>∃ v,blk w' (w.heap.size+2)=some (#[.int .i64 0,.slice none 0 0,.bool false,.slice (some ⟨w.heap.size+1,0,none⟩) 10 10,v],37,(0,0))∧GrowU (fun b=>w1.heap.size≤b) wl.heap.size (w.heap.size+2) w' 69 v done) (fun wl hE=>⟨_,hE.blk_some ht45 id,GrowU.nil _ _ _ _ _⟩) ?_).mono ?_
 ·rintro wl hE done y vv wc hpre ⟨v,hbv,hg⟩ hU hvv hy
  have hz':=hE.size
  have hzu:=hU.size
  have htl:=blk_lt ht45
  have hpl:=hpre.length_le
  simp only [List.length_append,List.length_cons,List.length_nil] at hpl
  rw [(sortT_perm t.u).length_eq] at hpl
  have hlu:=hgu.1
  have hmy:y∈t.u:=(sortT_perm t.u).mem_iff.1 (hpre.subset (by simp))
  refine (tagclQ_fn (ok:=fun b=>b < w.heap.size) _ _ _ _ v done y vv wc hbv hg hzu (by omega) (hvv.keep ((hE.mono (fun _ h=>h.elim) |>.trans hU:Upd (fun b=>b=w.heap.size+2) w45 wc).keeps fun b _ hk e=>by have hk':b < w.heap.size:=hk;omega)) hy (hgu.2.2 y hmy) (by omega) (fun b hb=>by have:=hz45;omega)).mono ?_
  rintro _ w2' ⟨⟨v',h1,h2⟩,h3⟩
  exact ⟨⟨v',h1,h2⟩,hU.trans' h3 fun b hb h=>h.elim id fun h=>by omega⟩
 rintro _ w46 ⟨wl,hEl,⟨v,ht46,hgU⟩,hUe⟩
 have hzl:=hEl.size
 obtain ⟨aU,kU,hvs,_⟩:=hgU.shape
 subst hvs
 have hV46:Upd (fun b=>b=w.heap.size+1∨b=w.heap.size+2) w45 w46:=(hEl.mono fun _ h=>h.elim).trans (hUe.mono fun _ h=>.inr h)
 have hU46:Upd (fun b=>b=w.heap.size+1∨b=w.heap.size+2) w1 w46:=hU45.trans hV46
 have hz46:=hU46.size
 have hX46:Ext w w46:=hE1.more hU46 fun b hb h=>by omega
 have hb46:=hX46.blk_some hb id
 have hl46:=(((hEl.mono fun _ h=>h.elim).trans hUe:Upd (fun b=>b=w.heap.size+2) w45 w46)).blk_some hl45 (by omega)
 have hTU:=hgU.tags (ok':=(fun b=>w1.heap.size≤b)) (fun _ _ h=>h) (fun b hb=>by have:=hz45;omega)
 repeat ((first|refine qA rfl ?_|apply qB|refine qC rfl ?_|apply qD|apply qE|apply qF|apply qG|apply qH);try simp (maxSteps:=1000000)(disch:=(first|omega|(simp only [qI,qJ,qK]<;>omega)|exact qL _)) only [go_sem,↓reduceIte,n0,reduceCtorEq,n1,n2,n3,n4,n5,i0,i1,i2,i3,i4,i5,i6,i7,hb46,hl46,ht46,hq0,hq1,hq2,hq3,hq4,hq5,hq6,hq7,hq8,hq9,hq10,hrd9_0,hrd9_2,hrd9_3,cellsAt_five])
 refine (sorted_fn _ _ w46 hTU (sortT_lt hgu.2.1) (by rw [(sortT_perm t.u).length_eq];exact hgu.1)).mono ?_
 rintro _ w47 hEs
 have hV47:Upd (fun b=>b=w.heap.size+1∨b=w.heap.size+2) w46 w47:=hEs.mono fun _ h=>h.elim
 have hU47:Upd (fun b=>b=w.heap.size+1∨b=w.heap.size+2) w1 w47:=hU46.trans hV47
 have hz47:=hU47.size
 have hX47:Ext w w47:=hE1.more hU47 fun b hb h=>by omega
 have hb47:=hX47.blk_some hb id
 have hl47:=hEs.blk_some hl46 id
 have ht47:=hEs.blk_some ht46 id
 have hr47:=(hU47.blk_some hr1 (by omega))
 have hC_47:Upd (fun b=>b=w.heap.size+1∨b=w.heap.size+2) w47 w47:=Upd.refl _ _
 have hC_46:Upd (fun b=>b=w.heap.size+1∨b=w.heap.size+2) w46 w47:=hV47.trans hC_47
 have hC_45:Upd (fun b=>b=w.heap.size+1∨b=w.heap.size+2) w45 w47:=hV46.trans hC_46
 have hC_32:Upd (fun b=>b=w.heap.size+1∨b=w.heap.size+2) w32 w47:=hV45.trans hC_45
 have hC_31:Upd (fun b=>b=w.heap.size+1∨b=w.heap.size+2) w31 w47:=hV32.trans hC_32
 have hC_29:Upd (fun b=>b=w.heap.size+1∨b=w.heap.size+2) w29 w47:=hV31.trans hC_31
 have hC_27:Upd (fun b=>b=w.heap.size+1∨b=w.heap.size+2) w27 w47:=hV29.trans hC_29
 have hC_12:Upd (fun b=>b=w.heap.size+1∨b=w.heap.size+2) w12 w47:=hV27.trans hC_27
 have hC_11:Upd (fun b=>b=w.heap.size+1∨b=w.heap.size+2) w11 w47:=hV12.trans hC_12
 have hC_10:Upd (fun b=>b=w.heap.size+1∨b=w.heap.size+2) w10 w47:=hV11.trans hC_11
 have hC_8:Upd (fun b=>b=w.heap.size+1∨b=w.heap.size+2) w8 w47:=hV10.trans hC_10
 have hC_6:Upd (fun b=>b=w.heap.size+1∨b=w.heap.size+2) w6 w47:=hV8.trans hC_8
 have hC_5:Upd (fun b=>b=w.heap.size+1∨b=w.heap.size+2) w5 w47:=hV6.trans hC_6
 have hC_3:Upd (fun b=>b=w.heap.size+1∨b=w.heap.size+2) w3 w47:=hV5.trans hC_5
 have hC_1:Upd (fun b=>b=w.heap.size+1∨b=w.heap.size+2) w1 w47:=hV3.trans hC_3
 have hF0:=TreeC.keep (hC_3.keeps fun b hb hk e=>by have hk':w1.heap.size≤b:=hk;omega) hf0
 have hF1:=TreeC.keep (hC_5.keeps fun b hb hk e=>by have hk':w1.heap.size≤b:=hk;omega) hf1
 have hF2:=TreeC.keep (hC_6.keeps fun b hb hk e=>by have hk':w1.heap.size≤b:=hk;omega) hf2
 have hF3:=TreeC.keep (hC_8.keeps fun b hb hk e=>by have hk':w1.heap.size≤b:=hk;omega) hf3
 have hF4:=TreeC.keep (hC_10.keeps fun b hb hk e=>by have hk':w1.heap.size≤b:=hk;omega) hf4
 have hF5:=TreeC.keep (hC_11.keeps fun b hb hk e=>by have hk':w1.heap.size≤b:=hk;omega) hf5
 have hF6:=TreeC.keep (hC_27.keeps fun b hb hk e=>by have hk':w1.heap.size≤b:=hk;omega) hf6
 have hF7:=TreeC.keep (hC_29.keeps fun b hb hk e=>by have hk':w1.heap.size≤b:=hk;omega) hf7
 have hF8:=TreeC.keep (hC_31.keeps fun b hb hk e=>by have hk':w1.heap.size≤b:=hk;omega) hf8
 have hF9:=TreeC.keep (hC_45.keeps fun b hb hk e=>by have hk':w1.heap.size≤b:=hk;omega) hf9
 replace hF0:TreeC (fun b=>w1.heap.size≤b) w47 (tlF (tlP (d+1)) fQ_0 (t.at 0)) [.int .i64 0,.slice (some a2) ((t.at 0).s).length k2,.bool false,.slice none 0 0,.slice none 0 0]:=hF0
 replace hF1:TreeC (fun b=>w1.heap.size≤b) w47 (tlF (tlP (d+1)) fQ_1 (t.at 1)) [.int .i64 0,.slice (some a4) ((t.at 1).s).length k4,.bool false,.slice none 0 0,.slice none 0 0]:=hF1
 replace hF2:TreeC (fun b=>w1.heap.size≤b) w47 (tlF (tlP (d+1)) fQ_2 (t.at 2)) [.int .i64 (IntKind.i32.wrap (t.at 2).n),.slice none 0 0,.bool false,.slice none 0 0,.slice none 0 0]:=hF2
 replace hF3:TreeC (fun b=>w1.heap.size≤b) w47 (tlF (tlP (d+1)) fQ_3 (t.at 3)) [.int .i64 0,vS7,.bool (t.at 3).null,.slice none 0 0,.slice none 0 0]:=hF3
 replace hF4:TreeC (fun b=>w1.heap.size≤b) w47 (tlF (tlP (d+1)) fQ_4 (t.at 4)) [.int .i64 0,vS9,.bool (t.at 4).null,.slice none 0 0,.slice none 0 0]:=hF4
 replace hF5:TreeC (fun b=>w1.heap.size≤b) w47 (tlF (tlP (d+1)) fQ_5 (t.at 5)) [.int .i64 (IntKind.i32.wrap (t.at 5).n),.slice none 0 0,.bool false,.slice none 0 0,.slice none 0 0]:=hF5
 replace hF6:TreeC (fun b=>w1.heap.size≤b) w47 (tlF (tlP (d+1)) fQ_6 (t.at 6)) [.int .i64 0,.slice none 0 0,.bool (t.at 6).null,.slice av6 (List.map (tl1 (tlP (d+1)) fQ_6.of fQ_6.sub) L6).length kv6,.slice none 0 0]:=by rw [show tlF (tlP (d+1)) fQ_6 (t.at 6) = .mk 0 [] (t.at 6).null ((if (t.at 6).null=true then [] else (t.at 6).l).map (tl1 (tlP (d+1)) fQ_6.of fQ_6.sub)) [] from rfl,← hL6];exact hF6
 replace hF7:TreeC (fun b=>w1.heap.size≤b) w47 (tlF (tlP (d+1)) fQ_7 (t.at 7)) [.int .i64 0,vS28,.bool (t.at 7).null,.slice none 0 0,.slice none 0 0]:=hF7
 replace hF8:TreeC (fun b=>w1.heap.size≤b) w47 (tlF (tlP (d+1)) fQ_8 (t.at 8)) [.int .i64 0,vS30,.bool (t.at 8).null,.slice none 0 0,.slice none 0 0]:=hF8
 replace hF9:TreeC (fun b=>w1.heap.size≤b) w47 (tlF (tlP (d+1)) fQ_9 (t.at 9)) [.int .i64 0,.slice none 0 0,.bool (t.at 9).null,.slice av9 (List.map (tl1 (tlP (d+1)) fQ_9.of fQ_9.sub) L9).length kv9,.slice none 0 0]:=by rw [show tlF (tlP (d+1)) fQ_9 (t.at 9) = .mk 0 [] (t.at 9).null ((if (t.at 9).null=true then [] else (t.at 9).l).map (tl1 (tlP (d+1)) fQ_9.of fQ_9.sub)) [] from rfl,← hL9];exact hF9
 have hTL:TreesV (fun b=>(fun b=>w1.heap.size≤b) b∨b=w.heap.size+1) w47 (.slice (some ⟨w.heap.size+1,0,none⟩) 10 10) [tlF (tlP (d+1)) fQ_0 (t.at 0),tlF (tlP (d+1)) fQ_1 (t.at 1),tlF (tlP (d+1)) fQ_2 (t.at 2),tlF (tlP (d+1)) fQ_3 (t.at 3),tlF (tlP (d+1)) fQ_4 (t.at 4),tlF (tlP (d+1)) fQ_5 (t.at 5),tlF (tlP (d+1)) fQ_6 (t.at 6),tlF (tlP (d+1)) fQ_7 (t.at 7),tlF (tlP (d+1)) fQ_8 (t.at 8),tlF (tlP (d+1)) fQ_9 (t.at 9)]:=by
  refine ⟨[[.int .i64 0,.slice (some a2) ((t.at 0).s).length k2,.bool false,.slice none 0 0,.slice none 0 0],[.int .i64 0,.slice (some a4) ((t.at 1).s).length k4,.bool false,.slice none 0 0,.slice none 0 0],[.int .i64 (IntKind.i32.wrap (t.at 2).n),.slice none 0 0,.bool false,.slice none 0 0,.slice none 0 0],[.int .i64 0,vS7,.bool (t.at 3).null,.slice none 0 0,.slice none 0 0],[.int .i64 0,vS9,.bool (t.at 4).null,.slice none 0 0,.slice none 0 0],[.int .i64 (IntKind.i32.wrap (t.at 5).n),.slice none 0 0,.bool false,.slice none 0 0,.slice none 0 0],[.int .i64 0,.slice none 0 0,.bool (t.at 6).null,.slice av6 (List.map (tl1 (tlP (d+1)) fQ_6.of fQ_6.sub) L6).length kv6,.slice none 0 0],[.int .i64 0,vS28,.bool (t.at 7).null,.slice none 0 0,.slice none 0 0],[.int .i64 0,vS30,.bool (t.at 8).null,.slice none 0 0,.slice none 0 0],[.int .i64 0,.slice none 0 0,.bool (t.at 9).null,.slice av9 (List.map (tl1 (tlP (d+1)) fQ_9.of fQ_9.sub) L9).length kv9,.slice none 0 0]],⟨_,10,rfl,Nat.le_refl _,(by intro cs hm;simp only [List.mem_cons,List.not_mem_nil,or_false] at hm;rcases hm with rfl|rfl|rfl|rfl|rfl|rfl|rfl|rfl|rfl|rfl<;>rfl),.inr ⟨_,rfl,rfl,.inr rfl,_,hl47,fun i hi=>by rw [Nat.zero_add,List.getElem?_toArray];rfl⟩⟩,rfl,fun i h1 h2 => ?_⟩
  match i,h1 with
  | 0,_=>exact TreeC.weaken (fun b _ hk=>.inl hk) hF0
  | 1,_=>exact TreeC.weaken (fun b _ hk=>.inl hk) hF1
  | 2,_=>exact TreeC.weaken (fun b _ hk=>.inl hk) hF2
  | 3,_=>exact TreeC.weaken (fun b _ hk=>.inl hk) hF3
  | 4,_=>exact TreeC.weaken (fun b _ hk=>.inl hk) hF4
  | 5,_=>exact TreeC.weaken (fun b _ hk=>.inl hk) hF5
  | 6,_=>exact TreeC.weaken (fun b _ hk=>.inl hk) hF6
  | 7,_=>exact TreeC.weaken (fun b _ hk=>.inl hk) hF7
  | 8,_=>exact TreeC.weaken (fun b _ hk=>.inl hk) hF8
  | 9,_=>exact TreeC.weaken (fun b _ hk=>.inl hk) hF9
 repeat ((first|refine qA rfl ?_|apply qB|refine qC rfl ?_|apply qD|apply qE|apply qF|apply qG|apply qH);try simp (maxSteps:=1000000)(disch:=(first|omega|(simp only [qI,qJ,qK]<;>omega)|exact qL _)) only [go_sem,↓reduceIte,n0,reduceCtorEq,n1,n2,n3,n4,n5,i0,i1,i2,i3,i4,i5,i6,i7,hb47,hl47,ht47,hq0,hq1,hq2,hq3,hq4,hq5,hq6,hq7,hq8,hq9,hq10,hrd9_0,hrd9_2,hrd9_3,hr47,cellsAt_five])
 refine ⟨⟨_,rfl,?_⟩,hX47.wr _ _ (.inl (Nat.le_refl _))⟩
 have hUr:Upd (fun b=>b=w.heap.size) w47 (wr w47 w.heap.size 0 [.int .i64 0,.slice none 0 0,.bool false,.slice (some ⟨w.heap.size+1,0,none⟩) 10 10,.slice aU (sortT t.u).length kU]):=(Upd.refl _ _).wr _ _ (.inr rfl)
 have hTU2:=hTU.keep (hEs.keeps _)
 exact TreeC.intro rfl (BytesV.nil _ _) ((hTL.keep (hUr.keeps fun b _ hk e=>by rcases hk with hk|hk<;>omega)).weaken fun b _ hk=>by rcases hk with hk|hk<;>omega) ((hTU2.keep (hUr.keeps fun b _ hk e=>by omega)).weaken fun b _ hk=>by omega)
end Ms

