/- A part of the proof: see the last text. -/
import Derived.Test.YtpaofegplnfiiaaDoorC09
import Derived.Test.YtpaofegplnfiiaaDoorC10
import Derived.Test.YtpaofegplnfiiaaDoorBrokerHeartbeatRequestP0
set_option linter.unusedSimpArgs false
set_option linter.unusedVariables false
namespace Ms
open Go.World renaming size_alloc → qI
open Ms renaming size_wr → qJ,size_drew → qK,not_noB → qL
open W renaming seqR → qA,seq → qB,regR → qC,condK → qD,block → qE,skip → qF,ret → qG,exit → qH
open Nat renaming reduceEqDiff → n0,reduceAdd → n1,reduceMul → n2,reduceSub → n3,reduceLT → n4,reduceLeDiff → n5
open Int renaming reduceEq → i0,reduceLT → i1,reduceLE → i2,reduceNeg → i3,reduceAdd → i4,reduceSub → i5,reduceMul → i6,reduceToNat → i7
set_option maxRecDepth 8000
open Go Go.Proofs Go.Shelf
attribute [local congr] W_congr WPsq_congr WPp_congr optK_congr addrK_congr intK_congr boolK_congr sliceK_congr tupleK_congr funcK_congr Fn_congr rawK_congr takeK_congr stepK_congr convK_congr aggK_congr

theorem tagclQ_fn {ok OK:Blocks} {B tb:Nat} (c0 c1 c2 c3 v:Value) (done:List TagD) (y:TagD) (vv:Value) (w:World) (hbt:blk w tb=some (#[c0,c1,c2,c3,v],37,(0,0))) (hg:GrowU OK B tb w 61 v done) (hB:B≤w.heap.size) (htb:tb < B) (hvv:BytesV ok w vv y.2) (hy:y.1 < 2 ^ 32) (hyl:y.2.length≤32767) (hdl:done.length≤32767) (hOK:∀ b,B≤b→OK b) :
  Fn Tryd.prog 26 #[.int .u32 y.1,vv,.pointer (some ⟨tb,0,none⟩)] w fun _ w'=>(∃ v',blk w' tb=some (#[c0,c1,c2,c3,v'],37,(0,0))∧GrowU OK B tb w' 61 v' (done++[y]))∧Upd (fun b=>b=tb∨B≤b) w w':=by
 have htl:=blk_lt hbt
 refine fn_of_W Tryd.func26 rfl Tryd.results26 Tryd.ntmps26 rfl ?_
 repeat ((first|refine qA rfl ?_|apply qB|refine qC rfl ?_|apply qD|apply qE|apply qF|apply qG|apply qH);try simp (maxSteps:=1000000)(disch:=(first|omega|(simp only [qI,qJ,qK]<;>omega)|exact qL _)) only [go_sem,↓reduceIte,n0,reduceCtorEq,n1,n2,n3,n4,n5,i0,i1,i2,i3,i4,i5,i6,i7])
 obtain ⟨av,kv,rfl,_⟩:=hg.shape
 have hnb:∀ b,b < B∨w.heap.size≤b→¬ ownB (.slice av done.length kv) b:=fun b hb h=>by
  have:=hg.above h
  have:=hg.below h
  omega
 refine W.drawR (.take 0 (.take 1 (.take 2 (.take 3 (.only 4 (.only 5 (.only 6 (.only 7 (.take 8 (.last 9)))))))))) (ownB (.slice av done.length kv)) mixed (by kernel_rfl) ?_
 simp (maxSteps:=1000000)(disch:=(first|omega|(simp only [qI,qJ,qK]<;>omega)|exact qL _|(refine hnb _ ?_;first|omega|(simp only [World.size_alloc,size_wr,size_drew]<;>omega)))) only [go_sem,↓reduceIte,n0,reduceCtorEq,n1,n2,n3,n4,n5,i0,i1,i2,i3,i4,i5,i6,i7,hbt]
 refine wp_copyN ap_22_22 (ok:=ok) (s:=y.2) (v:=vv) (by first|rfl|simp (maxSteps:=1000000)(disch:=(first|omega|(simp only [qI,qJ,qK]<;>omega)|exact qL _)) only [go_sem,↓reduceIte,n0,reduceCtorEq,n1,n2,n3,n4,n5,i0,i1,i2,i3,i4,i5,i6,i7]) (by first|rfl|simp (maxSteps:=1000000)(disch:=(first|omega|(simp only [qI,qJ,qK]<;>omega)|exact qL _)) only [go_sem,↓reduceIte,n0,reduceCtorEq,n1,n2,n3,n4,n5,i0,i1,i2,i3,i4,i5,i6,i7]) (hvv.keep (Ext.keeps ((Upd.refl _ _).drew) _)) (by omega) ?_
 intro v1 w1 ho1 hE1 hf1
 obtain ⟨a1,k1,rfl,_⟩:=ho1.shape
 have hB1:=Own.bytes (ok:=fun b=>w.heap.size≤b) ho1 fun b hb=>hf1 b hb
 have hP1:Upd (ownB (.slice av done.length kv)) w.drew w1:=hE1.mono fun _ h=>h.elim
 have hs1:=hE1.size
 simp only [size_drew] at hs1
 refine ⟨hP1,?_⟩
 simp (maxSteps:=1000000)(disch:=(first|omega|(simp only [qI,qJ,qK]<;>omega)|exact qL _|(refine hnb _ ?_;first|omega|(simp only [World.size_alloc,size_wr,size_drew]<;>omega)))) only [go_sem,↓reduceIte,n0,reduceCtorEq,n1,n2,n3,n4,n5,i0,i1,i2,i3,i4,i5,i6,i7,hbt]
 refine ⟨hP1,?_⟩
 have hP2:Upd (ownB (.slice av done.length kv)) w.drew (w1.alloc (.cells #[.int .u32 y.1,.slice a1 y.2.length k1] 61)):=hP1.alloc _
 have hn2:blk (w1.alloc (.cells #[.int .u32 y.1,.slice a1 y.2.length k1] 61)) w1.heap.size=some (#[.int .u32 y.1,.slice a1 y.2.length k1],61,(0,0)):=blk_alloc_new rfl
 have hs2:(w1.alloc (.cells #[.int .u32 y.1,.slice a1 y.2.length k1] 61)).heap.size=w1.heap.size+1:=World.size_alloc _ _
 have hE2:Ext w1 (w1.alloc (.cells #[.int .u32 y.1,.slice a1 y.2.length k1] 61)):=Upd.alloc (Upd.refl _ _) _
 refine ⟨hP2,?_⟩
 try simp only [List.append_nil]
 generalize (w1.alloc (.cells #[.int .u32 y.1,.slice a1 y.2.length k1] 61))=w2 at *
 have hEw:Ext w w2:=(((Upd.refl _ _).drew).trans hE1).trans hE2
 obtain ⟨css,hown,hall⟩:=(hg.ext hEw).ex
 have hcl:=hall.1
 have hx2:TagC (fun b=>OK b∧b≠tb∧¬ ownB (.slice av done.length kv) b) w2 y [.int .u32 y.1,.slice a1 y.2.length k1]:=⟨_,rfl,(hB1.keep (hE2.keeps _)).weaken fun b _ hk=>⟨hOK b (by omega),by omega,hnb b (.inr hk)⟩,hy⟩
 refine wp_append ap_35_35 (m:=1) (news:=[.int .u32 y.1,.slice a1 y.2.length k1]) (n:=css.length) (cs:=css.flatten) (v:=.slice av done.length kv) ?_ rfl hown.1 hall.flat_cells (Src.blk (fr:=(0,0)) (T:=61) hn2 rfl rfl) ?_ ?_ ?_
 ·first|rfl|simp (maxSteps:=1000000)(disch:=(first|omega|(simp only [qI,qJ,qK]<;>omega)|exact qL _)) only [go_sem,↓reduceIte,n0,reduceCtorEq,n1,n2,n3,n4,n5,i0,i1,i2,i3,i4,i5,i6,i7]
 ·omega
 ·omega
 intro v' w3 ho hu hfr
 have hg3:=GrowU.snoc hown hall hx2 hu hfr ho
 obtain ⟨va,vc,hv',_⟩:=ho.shape
 subst hv'
 have hP3:=hP2.trans hu
 have hs3:=hu.size
 have fG:=hP3.blk_some (show blk w.drew tb=_ from hbt) (hnb _ (.inl htb))
 have hne:¬ ownB (.slice va (css.length+1) vc) tb:=fun h=>(hfr _ h).elim (hnb _ (.inl htb)) (fun h=>by omega)
 refine ⟨hP3,?_⟩
 simp (maxSteps:=1000000)(disch:=(first|omega|(simp only [qI,qJ,qK]<;>omega)|exact qL _|(refine hnb _ ?_;first|omega|(simp only [World.size_alloc,size_wr,size_drew]<;>omega)))) only [go_sem,↓reduceIte,n0,reduceCtorEq,n1,n2,n3,n4,n5,i0,i1,i2,i3,i4,i5,i6,i7,fG]
 repeat ((first|refine qA rfl ?_|apply qB|refine qC rfl ?_|apply qD|apply qE|apply qF|apply qG|apply qH);try simp (maxSteps:=1000000)(disch:=(first|omega|(simp only [qI,qJ,qK]<;>omega)|exact qL _)) only [go_sem,↓reduceIte,n0,reduceCtorEq,n1,n2,n3,n4,n5,i0,i1,i2,i3,i4,i5,i6,i7])
 refine ⟨⟨.slice va (css.length+1) vc,by first|(rw [blk_wr_eq,fG];rfl)|rfl|(rw [fG];rfl)|(rw [blk_wr_eq,fG]),hg3.upd ((Upd.refl _ _).wr _ _ (.inr rfl)) hne⟩,?_⟩
 refine Upd.wr ?_ _ _ (.inr (.inl rfl))
 exact (((Upd.refl (fun b=>b=tb∨B≤b) w).drew).trans (hP3.mono fun b h=>.inr (hg.above h)))

set_option maxHeartbeats 4000000 in
theorem tellQ_fn {d:Nat} {ok:Blocks} (t:Tree) (cs:List Value) (w:World) {b:Nat} {x:Blk} (hb:blk w b=some x) (hq:∀ k,k < 8→x.1[1+k]? = cs[k]?) (hR:RepS true (d+1) fsr_Q ok w t cs) (hg:GoodP (d+1) fsr_Q t) :
  Fn Tryd.prog 18 #[.pointer (some ⟨b,0,none⟩)] w fun r w'=>(∃ c,r = .agg c.toArray∧TreeC (fun b=>w.heap.size≤b) w' (tlP (d+1) fsr_Q t) c)∧Ext w w':=by
 have hbl:=blk_lt hb
 obtain ⟨⟨gd0,gd1,gd2,gd3,gd4,gd5,gd6,-⟩,hgu⟩:=hg
 replace gd0:GoodF (GoodP d) fQ_0 (t.at 0):=gd0
 replace gd1:GoodF (GoodP d) fQ_1 (t.at 1):=gd1
 replace gd2:GoodF (GoodP d) fQ_2 (t.at 2):=gd2
 replace gd3:GoodF (GoodP d) fQ_3 (t.at 3):=gd3
 replace gd4:GoodF (GoodP d) fQ_4 (t.at 4):=gd4
 replace gd5:GoodF (GoodP d) fQ_5 (t.at 5):=gd5
 replace gd6:GoodF (GoodP d) frQ_6 (t.at 6):=gd6
 obtain ⟨cs0,q,hcs,hL,hT⟩:=hR.inv
 obtain ⟨c0,e0,rfl,h0,c1,e1,rfl,h1,c2,e2,rfl,h2,c3,e3,rfl,h3,c4,e4,rfl,h4,c5,e5,rfl,h5,c6,e6,rfl,h6,rfl⟩:=hL
 replace h0:RepF (RepS true d) (szS true d) fQ_0 ok w (t.at 0) c0:=h0
 replace h1:RepF (RepS true d) (szS true d) fQ_1 ok w (t.at 1) c1:=h1
 replace h2:RepF (RepS true d) (szS true d) fQ_2 ok w (t.at 2) c2:=h2
 replace h3:RepF (RepS true d) (szS true d) fQ_3 ok w (t.at 3) c3:=h3
 replace h4:RepF (RepS true d) (szS true d) fQ_4 ok w (t.at 4) c4:=h4
 replace h5:RepF (RepS true d) (szS true d) fQ_5 ok w (t.at 5) c5:=h5
 replace h6:RepF (RepS true d) (szS true d) frQ_6 ok w (t.at 6) c6:=h6
 obtain rfl:=(RepF_num (by decide)).1 h0
 obtain rfl:=(RepF_num (by decide)).1 h1
 obtain rfl:=(RepF_num (by decide)).1 h2
 obtain rfl:=(RepF_num (by decide)).1 h3
 obtain rfl:=(RepF_num (by decide)).1 h4
 obtain ⟨ab5,ac5,L5,rfl,hL5,lW,hs5⟩:=RepF_listT rfl h5
 have lK:=gd5.listL rfl hL5
 obtain ⟨ab6,ac6,L6,rfl,hL6,lX,hs6⟩:=RepF_listT rfl h6
 have lL:=gd6.listL rfl hL6
 obtain ⟨qm,rfl⟩:=hT.shape
 subst hcs
 have hq0:x.1[1]? = some (.int .i32 (IntKind.i32.wrap (t.at 0).n)):=hq 0 (by decide)
 have hq1:x.1[2]? = some (.int .i64 (t.at 1).n):=hq 1 (by decide)
 have hq2:x.1[3]? = some (.int .i64 (t.at 2).n):=hq 2 (by decide)
 have hq3:x.1[4]? = some (.bool (decide ((t.at 3).n % 2=1))):=hq 3 (by decide)
 have hq4:x.1[5]? = some (.bool (decide ((t.at 4).n % 2=1))):=hq 4 (by decide)
 have hq5:x.1[6]? = some (.slice ab5 L5.length ac5):=hq 5 (by decide)
 have hq6:x.1[7]? = some (.slice ab6 L6.length ac6):=hq 6 (by decide)
 have hq7:x.1[8]? = some (.map qm):=hq 7 (by decide)
 have pJ:=(gd1.one (by decide)).1 rfl
 have pK:=(gd2.one (by decide)).1 rfl
 refine fn_of_W Tryd.func18 rfl Tryd.results18 Tryd.ntmps18 rfl ?_
 repeat ((first|refine qA rfl ?_|apply qB|refine qC rfl ?_|apply qD|apply qE|apply qF|apply qG|apply qH);try simp (maxSteps:=1000000)(disch:=(first|omega|(simp only [qI,qJ,qK]<;>omega)|exact qL _)) only [go_sem,↓reduceIte,n0,reduceCtorEq,n1,n2,n3,n4,n5,i0,i1,i2,i3,i4,i5,i6,i7])
 refine wp_make (T:=34) (E:=37) (size:=5) (bytes:=88) (z:=.agg qZ5) (l:=7) (c:=7) (kl:=.i64) (kc:=.i64) (by kernel_rfl) (by kernel_rfl) (by first|rfl|(simp (maxSteps:=1000000)(disch:=(first|omega|(simp only [qI,qJ,qK]<;>omega)|exact qL _)) only [go_sem,↓reduceIte,n0,reduceCtorEq,n1,n2,n3,n4,n5,i0,i1,i2,i3,i4,i5,i6,i7];rfl)) (by first|rfl|(simp (maxSteps:=1000000)(disch:=(first|omega|(simp only [qI,qJ,qK]<;>omega)|exact qL _)) only [go_sem,↓reduceIte,n0,reduceCtorEq,n1,n2,n3,n4,n5,i0,i1,i2,i3,i4,i5,i6,i7];rfl)) (by omega) (by omega) (by omega) ?_
 have hmd:madeCells (Value.agg qZ5).cells (7 * 5)=#[.int .i64 0,.slice none 0 0,.bool false,.slice none 0 0,.slice none 0 0,.int .i64 0,.slice none 0 0,.bool false,.slice none 0 0,.slice none 0 0,.int .i64 0,.slice none 0 0,.bool false,.slice none 0 0,.slice none 0 0,.int .i64 0,.slice none 0 0,.bool false,.slice none 0 0,.slice none 0 0,.int .i64 0,.slice none 0 0,.bool false,.slice none 0 0,.slice none 0 0,.int .i64 0,.slice none 0 0,.bool false,.slice none 0 0,.slice none 0 0,.int .i64 0,.slice none 0 0,.bool false,.slice none 0 0,.slice none 0 0]:=by kernel_rfl
 rw [hmd]
 simp (maxSteps:=1000000)(disch:=(first|omega|(simp only [qI,qJ,qK]<;>omega)|exact qL _)) only [go_sem,↓reduceIte,n0,reduceCtorEq,n1,n2,n3,n4,n5,i0,i1,i2,i3,i4,i5,i6,i7]
 repeat ((first|refine qA rfl ?_|apply qB|refine qC rfl ?_|apply qD|apply qE|apply qF|apply qG|apply qH);try simp (maxSteps:=1000000)(disch:=(first|omega|(simp only [qI,qJ,qK]<;>omega)|exact qL _)) only [go_sem,↓reduceIte,n0,reduceCtorEq,n1,n2,n3,n4,n5,i0,i1,i2,i3,i4,i5,i6,i7])
 have hE1:Ext w (wr (((w.alloc (.cells qZ5 37)).alloc (.cells #[.int .i64 0,.slice none 0 0,.bool false,.slice none 0 0,.slice none 0 0,.int .i64 0,.slice none 0 0,.bool false,.slice none 0 0,.slice none 0 0,.int .i64 0,.slice none 0 0,.bool false,.slice none 0 0,.slice none 0 0,.int .i64 0,.slice none 0 0,.bool false,.slice none 0 0,.slice none 0 0,.int .i64 0,.slice none 0 0,.bool false,.slice none 0 0,.slice none 0 0,.int .i64 0,.slice none 0 0,.bool false,.slice none 0 0,.slice none 0 0,.int .i64 0,.slice none 0 0,.bool false,.slice none 0 0,.slice none 0 0] 37)).alloc (.cells qZ5 37)) (w.heap.size+2) 0 [.int .i64 0,.slice none 0 0,.bool false,.slice (some ⟨w.heap.size+1,0,none⟩) 7 7,.slice none 0 0]):=(Upd.alloc (Upd.alloc (Upd.alloc (Upd.refl _ _) _) _) _).wr _ _ (.inl (by omega))
 have hz1:(wr (((w.alloc (.cells qZ5 37)).alloc (.cells #[.int .i64 0,.slice none 0 0,.bool false,.slice none 0 0,.slice none 0 0,.int .i64 0,.slice none 0 0,.bool false,.slice none 0 0,.slice none 0 0,.int .i64 0,.slice none 0 0,.bool false,.slice none 0 0,.slice none 0 0,.int .i64 0,.slice none 0 0,.bool false,.slice none 0 0,.slice none 0 0,.int .i64 0,.slice none 0 0,.bool false,.slice none 0 0,.slice none 0 0,.int .i64 0,.slice none 0 0,.bool false,.slice none 0 0,.slice none 0 0,.int .i64 0,.slice none 0 0,.bool false,.slice none 0 0,.slice none 0 0] 37)).alloc (.cells qZ5 37)) (w.heap.size+2) 0 [.int .i64 0,.slice none 0 0,.bool false,.slice (some ⟨w.heap.size+1,0,none⟩) 7 7,.slice none 0 0]).heap.size=w.heap.size+3:=by simp only [size_wr,World.size_alloc]
 have hl1:blk (wr (((w.alloc (.cells qZ5 37)).alloc (.cells #[.int .i64 0,.slice none 0 0,.bool false,.slice none 0 0,.slice none 0 0,.int .i64 0,.slice none 0 0,.bool false,.slice none 0 0,.slice none 0 0,.int .i64 0,.slice none 0 0,.bool false,.slice none 0 0,.slice none 0 0,.int .i64 0,.slice none 0 0,.bool false,.slice none 0 0,.slice none 0 0,.int .i64 0,.slice none 0 0,.bool false,.slice none 0 0,.slice none 0 0,.int .i64 0,.slice none 0 0,.bool false,.slice none 0 0,.slice none 0 0,.int .i64 0,.slice none 0 0,.bool false,.slice none 0 0,.slice none 0 0] 37)).alloc (.cells qZ5 37)) (w.heap.size+2) 0 [.int .i64 0,.slice none 0 0,.bool false,.slice (some ⟨w.heap.size+1,0,none⟩) 7 7,.slice none 0 0]) (w.heap.size+1)=some (#[.int .i64 0,.slice none 0 0,.bool false,.slice none 0 0,.slice none 0 0,.int .i64 0,.slice none 0 0,.bool false,.slice none 0 0,.slice none 0 0,.int .i64 0,.slice none 0 0,.bool false,.slice none 0 0,.slice none 0 0,.int .i64 0,.slice none 0 0,.bool false,.slice none 0 0,.slice none 0 0,.int .i64 0,.slice none 0 0,.bool false,.slice none 0 0,.slice none 0 0,.int .i64 0,.slice none 0 0,.bool false,.slice none 0 0,.slice none 0 0,.int .i64 0,.slice none 0 0,.bool false,.slice none 0 0,.slice none 0 0],37,(0,0)):=by simp (maxSteps:=1000000)(disch:=(first|omega|(simp only [qI,qJ,qK]<;>omega)|exact qL _)) only [go_sem,↓reduceIte,n0,reduceCtorEq,n1,n2,n3,n4,n5,i0,i1,i2,i3,i4,i5,i6,i7]
 have ht1:blk (wr (((w.alloc (.cells qZ5 37)).alloc (.cells #[.int .i64 0,.slice none 0 0,.bool false,.slice none 0 0,.slice none 0 0,.int .i64 0,.slice none 0 0,.bool false,.slice none 0 0,.slice none 0 0,.int .i64 0,.slice none 0 0,.bool false,.slice none 0 0,.slice none 0 0,.int .i64 0,.slice none 0 0,.bool false,.slice none 0 0,.slice none 0 0,.int .i64 0,.slice none 0 0,.bool false,.slice none 0 0,.slice none 0 0,.int .i64 0,.slice none 0 0,.bool false,.slice none 0 0,.slice none 0 0,.int .i64 0,.slice none 0 0,.bool false,.slice none 0 0,.slice none 0 0] 37)).alloc (.cells qZ5 37)) (w.heap.size+2) 0 [.int .i64 0,.slice none 0 0,.bool false,.slice (some ⟨w.heap.size+1,0,none⟩) 7 7,.slice none 0 0]) (w.heap.size+2)=some (#[.int .i64 0,.slice none 0 0,.bool false,.slice (some ⟨w.heap.size+1,0,none⟩) 7 7,.slice none 0 0],37,(0,0)):=by simp (maxSteps:=1000000)(disch:=(first|omega|(simp only [qI,qJ,qK]<;>omega)|exact qL _)) only [go_sem,↓reduceIte,n0,reduceCtorEq,n1,n2,n3,n4,n5,i0,i1,i2,i3,i4,i5,i6,i7]
 have hr1:blk (wr (((w.alloc (.cells qZ5 37)).alloc (.cells #[.int .i64 0,.slice none 0 0,.bool false,.slice none 0 0,.slice none 0 0,.int .i64 0,.slice none 0 0,.bool false,.slice none 0 0,.slice none 0 0,.int .i64 0,.slice none 0 0,.bool false,.slice none 0 0,.slice none 0 0,.int .i64 0,.slice none 0 0,.bool false,.slice none 0 0,.slice none 0 0,.int .i64 0,.slice none 0 0,.bool false,.slice none 0 0,.slice none 0 0,.int .i64 0,.slice none 0 0,.bool false,.slice none 0 0,.slice none 0 0,.int .i64 0,.slice none 0 0,.bool false,.slice none 0 0,.slice none 0 0] 37)).alloc (.cells qZ5 37)) (w.heap.size+2) 0 [.int .i64 0,.slice none 0 0,.bool false,.slice (some ⟨w.heap.size+1,0,none⟩) 7 7,.slice none 0 0]) w.heap.size=some (qZ5,37,(0,0)):=by simp (maxSteps:=1000000)(disch:=(first|omega|(simp only [qI,qJ,qK]<;>omega)|exact qL _)) only [go_sem,↓reduceIte,n0,reduceCtorEq,n1,n2,n3,n4,n5,i0,i1,i2,i3,i4,i5,i6,i7]
 obtain ⟨w1,hw1⟩:∃ y,y=(wr (((w.alloc (.cells qZ5 37)).alloc (.cells #[.int .i64 0,.slice none 0 0,.bool false,.slice none 0 0,.slice none 0 0,.int .i64 0,.slice none 0 0,.bool false,.slice none 0 0,.slice none 0 0,.int .i64 0,.slice none 0 0,.bool false,.slice none 0 0,.slice none 0 0,.int .i64 0,.slice none 0 0,.bool false,.slice none 0 0,.slice none 0 0,.int .i64 0,.slice none 0 0,.bool false,.slice none 0 0,.slice none 0 0,.int .i64 0,.slice none 0 0,.bool false,.slice none 0 0,.slice none 0 0,.int .i64 0,.slice none 0 0,.bool false,.slice none 0 0,.slice none 0 0] 37)).alloc (.cells qZ5 37)) (w.heap.size+2) 0 [.int .i64 0,.slice none 0 0,.bool false,.slice (some ⟨w.heap.size+1,0,none⟩) 7 7,.slice none 0 0]):=⟨_,rfl⟩
 rw [← hw1] at hE1 hz1 hl1 ht1 hr1
 rw [← hw1]
 clear hw1
 have hU1:Upd (fun b=>b=w.heap.size+1∨b=w.heap.size+2) w1 w1:=Upd.refl _ _
 have hb1:=hE1.blk_some hb id
 repeat ((first|refine qA rfl ?_|apply qB|refine qC rfl ?_|apply qD|apply qE|apply qF|apply qG|apply qH);try simp (maxSteps:=1000000)(disch:=(first|omega|(simp only [qI,qJ,qK]<;>omega)|exact qL _)) only [go_sem,↓reduceIte,n0,reduceCtorEq,n1,n2,n3,n4,n5,i0,i1,i2,i3,i4,i5,i6,i7,hb1,hl1,ht1,hq0,hq1,hq2,hq3,hq4,hq5,hq6,hq7])
 refine W.drawR (.take 0 (.take 1 (.take 2 (.take 3 (.take 4 (.take 5 (.take 6 (.only 7 (.take 8 (.last 9)))))))))) (NoB) mixed (by kernel_rfl) ?_
 try simp (maxSteps:=1000000)(disch:=(first|omega|(simp only [qI,qJ,qK]<;>omega)|exact qL _)) only [go_sem,↓reduceIte,n0,reduceCtorEq,n1,n2,n3,n4,n5,i0,i1,i2,i3,i4,i5,i6,i7,hb1,hl1,ht1,hq0,hq1,hq2,hq3,hq4,hq5,hq6,hq7,tl32]
 refine ⟨Upd.refl _ _,?_⟩
 have oY:blk w1.drew (w.heap.size+1)=_:=hl1
 have hx2:Upd (fun b=>b=w.heap.size+1∨b=w.heap.size+2) w1 w1.drew:=(Upd.refl _ _).drew
 generalize hw2:wr w1.drew (w.heap.size+1) 0 [.int .i64 (IntKind.i32.wrap (t.at 0).n),.slice none 0 0,.bool false,.slice none 0 0,.slice none 0 0] = w2
 have hl2:blk w2 (w.heap.size+1)=some (#[.int .i64 (IntKind.i32.wrap (t.at 0).n),.slice none 0 0,.bool false,.slice none 0 0,.slice none 0 0,.int .i64 0,.slice none 0 0,.bool false,.slice none 0 0,.slice none 0 0,.int .i64 0,.slice none 0 0,.bool false,.slice none 0 0,.slice none 0 0,.int .i64 0,.slice none 0 0,.bool false,.slice none 0 0,.slice none 0 0,.int .i64 0,.slice none 0 0,.bool false,.slice none 0 0,.slice none 0 0,.int .i64 0,.slice none 0 0,.bool false,.slice none 0 0,.slice none 0 0,.int .i64 0,.slice none 0 0,.bool false,.slice none 0 0,.slice none 0 0],37,(0,0)):=by rw [← hw2,blk_wr_eq,oY];rfl
 have hv2:Upd (fun b=>b=w.heap.size+1∨b=w.heap.size+2) w1.drew w2:=by rw [← hw2];exact (Upd.refl _ _).wr _ _ (.inr (.inl rfl))
 have hV2:Upd (fun b=>b=w.heap.size+1∨b=w.heap.size+2) w1 w2:=hx2.trans hv2
 have hU2:Upd (fun b=>b=w.heap.size+1∨b=w.heap.size+2) w1 w2:=hU1.trans hV2
 have hz2:=hU2.size
 have hX2:Ext w w2:=hE1.more hU2 fun b hb h=>by omega
 have hb2:=hX2.blk_some hb id
 have ht2:blk w2 (w.heap.size+2)=some (#[.int .i64 0,.slice none 0 0,.bool false,.slice (some ⟨w.heap.size+1,0,none⟩) 7 7,.slice none 0 0],37,(0,0)):=by
  rw [← hw2,blk_wr_ne (by omega)]
  exact ht1
 clear hw2
 have hf0:TreeC (fun b=>w1.heap.size≤b) w2 (.num (IntKind.i32.wrap (t.at 0).n)) [.int .i64 (IntKind.i32.wrap (t.at 0).n),.slice none 0 0,.bool false,.slice none 0 0,.slice none 0 0]:=(TreeC.keep (hv2.keeps fun b hb hk e=>by have hk':w1.heap.size≤b:=hk;omega) (TreeC.intro (tl32 _) (BytesV.nil _ _) (treesN _ _) (tagsN _ _):TreeC (fun b=>w1.heap.size≤b) w1.drew (.num (IntKind.i32.wrap (t.at 0).n)) [.int .i64 (IntKind.i32.wrap (t.at 0).n),.slice none 0 0,.bool false,.slice none 0 0,.slice none 0 0]))
 repeat ((first|refine qA rfl ?_|apply qB|refine qC rfl ?_|apply qD|apply qE|apply qF|apply qG|apply qH);try simp (maxSteps:=1000000)(disch:=(first|omega|(simp only [qI,qJ,qK]<;>omega)|exact qL _)) only [go_sem,↓reduceIte,n0,reduceCtorEq,n1,n2,n3,n4,n5,i0,i1,i2,i3,i4,i5,i6,i7,hb2,hl2,ht2,hq0,hq1,hq2,hq3,hq4,hq5,hq6,hq7])
 refine W.drawR (.take 0 (.take 1 (.take 2 (.take 3 (.take 4 (.take 5 (.only 6 (.take 7 (.last 8))))))))) (NoB) mixed (by kernel_rfl) ?_
 try simp (maxSteps:=1000000)(disch:=(first|omega|(simp only [qI,qJ,qK]<;>omega)|exact qL _)) only [go_sem,↓reduceIte,n0,reduceCtorEq,n1,n2,n3,n4,n5,i0,i1,i2,i3,i4,i5,i6,i7,hb2,hl2,ht2,hq0,hq1,hq2,hq3,hq4,hq5,hq6,hq7]
 refine ⟨Upd.refl _ _,?_⟩
 have oZ:blk w2.drew (w.heap.size+1)=_:=hl2
 have hx3:Upd (fun b=>b=w.heap.size+1∨b=w.heap.size+2) w2 w2.drew:=(Upd.refl _ _).drew
 generalize hw3:wr w2.drew (w.heap.size+1) 5 [.int .i64 ((t.at 1).n),.slice none 0 0,.bool false,.slice none 0 0,.slice none 0 0] = w3
 have hl3:blk w3 (w.heap.size+1)=some (#[.int .i64 (IntKind.i32.wrap (t.at 0).n),.slice none 0 0,.bool false,.slice none 0 0,.slice none 0 0,.int .i64 ((t.at 1).n),.slice none 0 0,.bool false,.slice none 0 0,.slice none 0 0,.int .i64 0,.slice none 0 0,.bool false,.slice none 0 0,.slice none 0 0,.int .i64 0,.slice none 0 0,.bool false,.slice none 0 0,.slice none 0 0,.int .i64 0,.slice none 0 0,.bool false,.slice none 0 0,.slice none 0 0,.int .i64 0,.slice none 0 0,.bool false,.slice none 0 0,.slice none 0 0,.int .i64 0,.slice none 0 0,.bool false,.slice none 0 0,.slice none 0 0],37,(0,0)):=by rw [← hw3,blk_wr_eq,oZ];rfl
 have hv3:Upd (fun b=>b=w.heap.size+1∨b=w.heap.size+2) w2.drew w3:=by rw [← hw3];exact (Upd.refl _ _).wr _ _ (.inr (.inl rfl))
 have hV3:Upd (fun b=>b=w.heap.size+1∨b=w.heap.size+2) w2 w3:=hx3.trans hv3
 have hU3:Upd (fun b=>b=w.heap.size+1∨b=w.heap.size+2) w1 w3:=hU2.trans hV3
 have hz3:=hU3.size
 have hX3:Ext w w3:=hE1.more hU3 fun b hb h=>by omega
 have hb3:=hX3.blk_some hb id
 have ht3:blk w3 (w.heap.size+2)=some (#[.int .i64 0,.slice none 0 0,.bool false,.slice (some ⟨w.heap.size+1,0,none⟩) 7 7,.slice none 0 0],37,(0,0)):=by
  rw [← hw3,blk_wr_ne (by omega)]
  exact ht2
 clear hw3
 have hf1:TreeC (fun b=>w1.heap.size≤b) w3 (.num ((t.at 1).n)) [.int .i64 ((t.at 1).n),.slice none 0 0,.bool false,.slice none 0 0,.slice none 0 0]:=(TreeC.keep (hv3.keeps fun b hb hk e=>by have hk':w1.heap.size≤b:=hk;omega) (TreeC.intro (pJ) (BytesV.nil _ _) (treesN _ _) (tagsN _ _):TreeC (fun b=>w1.heap.size≤b) w2.drew (.num ((t.at 1).n)) [.int .i64 ((t.at 1).n),.slice none 0 0,.bool false,.slice none 0 0,.slice none 0 0]))
 repeat ((first|refine qA rfl ?_|apply qB|refine qC rfl ?_|apply qD|apply qE|apply qF|apply qG|apply qH);try simp (maxSteps:=1000000)(disch:=(first|omega|(simp only [qI,qJ,qK]<;>omega)|exact qL _)) only [go_sem,↓reduceIte,n0,reduceCtorEq,n1,n2,n3,n4,n5,i0,i1,i2,i3,i4,i5,i6,i7,hb3,hl3,ht3,hq0,hq1,hq2,hq3,hq4,hq5,hq6,hq7])
 refine W.drawR (.take 0 (.take 1 (.take 2 (.take 3 (.take 4 (.take 5 (.only 6 (.take 7 (.last 8))))))))) (NoB) mixed (by kernel_rfl) ?_
 try simp (maxSteps:=1000000)(disch:=(first|omega|(simp only [qI,qJ,qK]<;>omega)|exact qL _)) only [go_sem,↓reduceIte,n0,reduceCtorEq,n1,n2,n3,n4,n5,i0,i1,i2,i3,i4,i5,i6,i7,hb3,hl3,ht3,hq0,hq1,hq2,hq3,hq4,hq5,hq6,hq7]
 refine ⟨Upd.refl _ _,?_⟩
 have pA:blk w3.drew (w.heap.size+1)=_:=hl3
 have hx4:Upd (fun b=>b=w.heap.size+1∨b=w.heap.size+2) w3 w3.drew:=(Upd.refl _ _).drew
 generalize hw4:wr w3.drew (w.heap.size+1) 10 [.int .i64 ((t.at 2).n),.slice none 0 0,.bool false,.slice none 0 0,.slice none 0 0] = w4
 have hl4:blk w4 (w.heap.size+1)=some (#[.int .i64 (IntKind.i32.wrap (t.at 0).n),.slice none 0 0,.bool false,.slice none 0 0,.slice none 0 0,.int .i64 ((t.at 1).n),.slice none 0 0,.bool false,.slice none 0 0,.slice none 0 0,.int .i64 ((t.at 2).n),.slice none 0 0,.bool false,.slice none 0 0,.slice none 0 0,.int .i64 0,.slice none 0 0,.bool false,.slice none 0 0,.slice none 0 0,.int .i64 0,.slice none 0 0,.bool false,.slice none 0 0,.slice none 0 0,.int .i64 0,.slice none 0 0,.bool false,.slice none 0 0,.slice none 0 0,.int .i64 0,.slice none 0 0,.bool false,.slice none 0 0,.slice none 0 0],37,(0,0)):=by rw [← hw4,blk_wr_eq,pA];rfl
 have hv4:Upd (fun b=>b=w.heap.size+1∨b=w.heap.size+2) w3.drew w4:=by rw [← hw4];exact (Upd.refl _ _).wr _ _ (.inr (.inl rfl))
 have hV4:Upd (fun b=>b=w.heap.size+1∨b=w.heap.size+2) w3 w4:=hx4.trans hv4
 have hU4:Upd (fun b=>b=w.heap.size+1∨b=w.heap.size+2) w1 w4:=hU3.trans hV4
 have hz4:=hU4.size
 have hX4:Ext w w4:=hE1.more hU4 fun b hb h=>by omega
 have hb4:=hX4.blk_some hb id
 have ht4:blk w4 (w.heap.size+2)=some (#[.int .i64 0,.slice none 0 0,.bool false,.slice (some ⟨w.heap.size+1,0,none⟩) 7 7,.slice none 0 0],37,(0,0)):=by
  rw [← hw4,blk_wr_ne (by omega)]
  exact ht3
 clear hw4
 have hf2:TreeC (fun b=>w1.heap.size≤b) w4 (.num ((t.at 2).n)) [.int .i64 ((t.at 2).n),.slice none 0 0,.bool false,.slice none 0 0,.slice none 0 0]:=(TreeC.keep (hv4.keeps fun b hb hk e=>by have hk':w1.heap.size≤b:=hk;omega) (TreeC.intro (pK) (BytesV.nil _ _) (treesN _ _) (tagsN _ _):TreeC (fun b=>w1.heap.size≤b) w3.drew (.num ((t.at 2).n)) [.int .i64 ((t.at 2).n),.slice none 0 0,.bool false,.slice none 0 0,.slice none 0 0]))
 repeat ((first|refine qA rfl ?_|apply qB|refine qC rfl ?_|apply qD|apply qE|apply qF|apply qG|apply qH);try simp (maxSteps:=1000000)(disch:=(first|omega|(simp only [qI,qJ,qK]<;>omega)|exact qL _)) only [go_sem,↓reduceIte,n0,reduceCtorEq,n1,n2,n3,n4,n5,i0,i1,i2,i3,i4,i5,i6,i7,hb4,hl4,ht4,hq0,hq1,hq2,hq3,hq4,hq5,hq6,hq7])
 refine W.drawR (.take 0 (.take 1 (.take 2 (.take 3 (.take 4 (.take 5 (.only 6 (.take 7 (.last 8))))))))) (NoB) mixed (by kernel_rfl) ?_
 try simp (maxSteps:=1000000)(disch:=(first|omega|(simp only [qI,qJ,qK]<;>omega)|exact qL _)) only [go_sem,↓reduceIte,n0,reduceCtorEq,n1,n2,n3,n4,n5,i0,i1,i2,i3,i4,i5,i6,i7,hb4,hl4,ht4,hq0,hq1,hq2,hq3,hq4,hq5,hq6,hq7]
 refine (boolTree_fn _ w4.drew).mono ?_
 rintro _ w5 ⟨rfl,kQ⟩
 have oD:(if decide ((t.at 3).n % 2=1)=true then 1 else 0:Int)=(if (t.at 3).n % 2=1 then 1 else 0):=by by_cases h:(t.at 3).n % 2=1<;>simp [h]
 have hP5:Upd NoB w4.drew w5:=(Upd.refl _ _).trans (kQ.mono fun _ h=>h.elim)
 have qV:=kQ.size
 try simp only [size_drew] at qV
 refine ⟨hP5,?_⟩
 try simp (maxSteps:=1000000)(disch:=(first|omega|(simp only [qI,qJ,qK]<;>omega)|exact qL _)) only [go_sem,↓reduceIte,n0,reduceCtorEq,n1,n2,n3,n4,n5,i0,i1,i2,i3,i4,i5,i6,i7,hb4,hl4,ht4,hq0,hq1,hq2,hq3,hq4,hq5,hq6,hq7]
 have lQ:=hP5.blk_some (show blk w4.drew (w.heap.size+1)=_ from hl4) id
 have hx6:Upd (fun b=>b=w.heap.size+1∨b=w.heap.size+2) w4 w5:=((Upd.refl _ _).drew).trans (hP5.mono fun _ h=>h.elim)
 try simp (maxSteps:=1000000)(disch:=(first|omega|(simp only [qI,qJ,qK]<;>omega)|exact qL _)) only [go_sem,↓reduceIte,n0,reduceCtorEq,n1,n2,n3,n4,n5,i0,i1,i2,i3,i4,i5,i6,i7,lQ]
 generalize hw6:wr w5 (w.heap.size+1) 15 [.int .i64 (if decide ((t.at 3).n % 2=1)=true then 1 else 0:Int),.slice none 0 0,.bool false,.slice none 0 0,.slice none 0 0] = w6
 have hl6:blk w6 (w.heap.size+1)=some (#[.int .i64 (IntKind.i32.wrap (t.at 0).n),.slice none 0 0,.bool false,.slice none 0 0,.slice none 0 0,.int .i64 ((t.at 1).n),.slice none 0 0,.bool false,.slice none 0 0,.slice none 0 0,.int .i64 ((t.at 2).n),.slice none 0 0,.bool false,.slice none 0 0,.slice none 0 0,.int .i64 (if decide ((t.at 3).n % 2=1)=true then 1 else 0:Int),.slice none 0 0,.bool false,.slice none 0 0,.slice none 0 0,.int .i64 0,.slice none 0 0,.bool false,.slice none 0 0,.slice none 0 0,.int .i64 0,.slice none 0 0,.bool false,.slice none 0 0,.slice none 0 0,.int .i64 0,.slice none 0 0,.bool false,.slice none 0 0,.slice none 0 0],37,(0,0)):=by rw [← hw6,blk_wr_eq,lQ];rfl
 have hv6:Upd (fun b=>b=w.heap.size+1∨b=w.heap.size+2) w5 w6:=by rw [← hw6];exact (Upd.refl _ _).wr _ _ (.inr (.inl rfl))
 have hV6:Upd (fun b=>b=w.heap.size+1∨b=w.heap.size+2) w4 w6:=hx6.trans hv6
 have hU6:Upd (fun b=>b=w.heap.size+1∨b=w.heap.size+2) w1 w6:=hU4.trans hV6
 have hz6:=hU6.size
 have hX6:Ext w w6:=hE1.more hU6 fun b hb h=>by omega
 have hb6:=hX6.blk_some hb id
 have ht6:blk w6 (w.heap.size+2)=some (#[.int .i64 0,.slice none 0 0,.bool false,.slice (some ⟨w.heap.size+1,0,none⟩) 7 7,.slice none 0 0],37,(0,0)):=by
  rw [← hw6,blk_wr_ne (by omega)]
  exact hP5.blk_some (show blk w4.drew (w.heap.size+2)=_ from ht4) id
 clear hw6
 have hf3:TreeC (fun b=>w1.heap.size≤b) w6 (.num (if (t.at 3).n % 2=1 then 1 else 0)) [.int .i64 (if decide ((t.at 3).n % 2=1)=true then 1 else 0:Int),.slice none 0 0,.bool false,.slice none 0 0,.slice none 0 0]:=(TreeC.keep (hv6.keeps fun b hb hk e=>by have hk':w1.heap.size≤b:=hk;omega) (by rw [oD];exact TreeC.intro (by split<;>rfl) (BytesV.nil _ _) (treesN _ _) (tagsN _ _):TreeC (fun b=>w1.heap.size≤b) w5 (.num (if (t.at 3).n % 2=1 then 1 else 0)) [.int .i64 (if decide ((t.at 3).n % 2=1)=true then 1 else 0:Int),.slice none 0 0,.bool false,.slice none 0 0,.slice none 0 0]))
 repeat ((first|refine qA rfl ?_|apply qB|refine qC rfl ?_|apply qD|apply qE|apply qF|apply qG|apply qH);try simp (maxSteps:=1000000)(disch:=(first|omega|(simp only [qI,qJ,qK]<;>omega)|exact qL _)) only [go_sem,↓reduceIte,n0,reduceCtorEq,n1,n2,n3,n4,n5,i0,i1,i2,i3,i4,i5,i6,i7,hb6,hl6,ht6,hq0,hq1,hq2,hq3,hq4,hq5,hq6,hq7])
 refine W.drawR (.take 0 (.take 1 (.take 2 (.take 3 (.take 4 (.take 5 (.only 6 (.take 7 (.last 8))))))))) (NoB) mixed (by kernel_rfl) ?_
 try simp (maxSteps:=1000000)(disch:=(first|omega|(simp only [qI,qJ,qK]<;>omega)|exact qL _)) only [go_sem,↓reduceIte,n0,reduceCtorEq,n1,n2,n3,n4,n5,i0,i1,i2,i3,i4,i5,i6,i7,hb6,hl6,ht6,hq0,hq1,hq2,hq3,hq4,hq5,hq6,hq7]
 refine (boolTree_fn _ w6.drew).mono ?_
 rintro _ w7 ⟨rfl,kR⟩
 have oE:(if decide ((t.at 4).n % 2=1)=true then 1 else 0:Int)=(if (t.at 4).n % 2=1 then 1 else 0):=by by_cases h:(t.at 4).n % 2=1<;>simp [h]
 have hP7:Upd NoB w6.drew w7:=(Upd.refl _ _).trans (kR.mono fun _ h=>h.elim)
 have qW:=kR.size
 try simp only [size_drew] at qW
 refine ⟨hP7,?_⟩
 try simp (maxSteps:=1000000)(disch:=(first|omega|(simp only [qI,qJ,qK]<;>omega)|exact qL _)) only [go_sem,↓reduceIte,n0,reduceCtorEq,n1,n2,n3,n4,n5,i0,i1,i2,i3,i4,i5,i6,i7,hb6,hl6,ht6,hq0,hq1,hq2,hq3,hq4,hq5,hq6,hq7]
 have lR:=hP7.blk_some (show blk w6.drew (w.heap.size+1)=_ from hl6) id
 have hx8:Upd (fun b=>b=w.heap.size+1∨b=w.heap.size+2) w6 w7:=((Upd.refl _ _).drew).trans (hP7.mono fun _ h=>h.elim)
 try simp (maxSteps:=1000000)(disch:=(first|omega|(simp only [qI,qJ,qK]<;>omega)|exact qL _)) only [go_sem,↓reduceIte,n0,reduceCtorEq,n1,n2,n3,n4,n5,i0,i1,i2,i3,i4,i5,i6,i7,lR]
 generalize hw8:wr w7 (w.heap.size+1) 20 [.int .i64 (if decide ((t.at 4).n % 2=1)=true then 1 else 0:Int),.slice none 0 0,.bool false,.slice none 0 0,.slice none 0 0] = w8
 have hl8:blk w8 (w.heap.size+1)=some (#[.int .i64 (IntKind.i32.wrap (t.at 0).n),.slice none 0 0,.bool false,.slice none 0 0,.slice none 0 0,.int .i64 ((t.at 1).n),.slice none 0 0,.bool false,.slice none 0 0,.slice none 0 0,.int .i64 ((t.at 2).n),.slice none 0 0,.bool false,.slice none 0 0,.slice none 0 0,.int .i64 (if decide ((t.at 3).n % 2=1)=true then 1 else 0:Int),.slice none 0 0,.bool false,.slice none 0 0,.slice none 0 0,.int .i64 (if decide ((t.at 4).n % 2=1)=true then 1 else 0:Int),.slice none 0 0,.bool false,.slice none 0 0,.slice none 0 0,.int .i64 0,.slice none 0 0,.bool false,.slice none 0 0,.slice none 0 0,.int .i64 0,.slice none 0 0,.bool false,.slice none 0 0,.slice none 0 0],37,(0,0)):=by rw [← hw8,blk_wr_eq,lR];rfl
 have hv8:Upd (fun b=>b=w.heap.size+1∨b=w.heap.size+2) w7 w8:=by rw [← hw8];exact (Upd.refl _ _).wr _ _ (.inr (.inl rfl))
 have hV8:Upd (fun b=>b=w.heap.size+1∨b=w.heap.size+2) w6 w8:=hx8.trans hv8
 have hU8:Upd (fun b=>b=w.heap.size+1∨b=w.heap.size+2) w1 w8:=hU6.trans hV8
 have hz8:=hU8.size
 have hX8:Ext w w8:=hE1.more hU8 fun b hb h=>by omega
 have hb8:=hX8.blk_some hb id
 have ht8:blk w8 (w.heap.size+2)=some (#[.int .i64 0,.slice none 0 0,.bool false,.slice (some ⟨w.heap.size+1,0,none⟩) 7 7,.slice none 0 0],37,(0,0)):=by
  rw [← hw8,blk_wr_ne (by omega)]
  exact hP7.blk_some (show blk w6.drew (w.heap.size+2)=_ from ht6) id
 clear hw8
 have hf4:TreeC (fun b=>w1.heap.size≤b) w8 (.num (if (t.at 4).n % 2=1 then 1 else 0)) [.int .i64 (if decide ((t.at 4).n % 2=1)=true then 1 else 0:Int),.slice none 0 0,.bool false,.slice none 0 0,.slice none 0 0]:=(TreeC.keep (hv8.keeps fun b hb hk e=>by have hk':w1.heap.size≤b:=hk;omega) (by rw [oE];exact TreeC.intro (by split<;>rfl) (BytesV.nil _ _) (treesN _ _) (tagsN _ _):TreeC (fun b=>w1.heap.size≤b) w7 (.num (if (t.at 4).n % 2=1 then 1 else 0)) [.int .i64 (if decide ((t.at 4).n % 2=1)=true then 1 else 0:Int),.slice none 0 0,.bool false,.slice none 0 0,.slice none 0 0]))
 repeat ((first|refine qA rfl ?_|apply qB|refine qC rfl ?_|apply qD|apply qE|apply qF|apply qG|apply qH);try simp (maxSteps:=1000000)(disch:=(first|omega|(simp only [qI,qJ,qK]<;>omega)|exact qL _)) only [go_sem,↓reduceIte,n0,reduceCtorEq,n1,n2,n3,n4,n5,i0,i1,i2,i3,i4,i5,i6,i7,hb8,hl8,ht8,hq0,hq1,hq2,hq3,hq4,hq5,hq6,hq7])
 refine W.drawR (.take 0 (.take 1 (.take 2 (.take 3 (.take 4 (.take 5 (.take 6 (.take 7 (.take 8 (.last 9)))))))))) (NoB) mixed (by kernel_rfl) ?_
 try simp (maxSteps:=1000000)(disch:=(first|omega|(simp only [qI,qJ,qK]<;>omega)|exact qL _)) only [go_sem,↓reduceIte,n0,reduceCtorEq,n1,n2,n3,n4,n5,i0,i1,i2,i3,i4,i5,i6,i7,hb8,hl8,ht8,hq0,hq1,hq2,hq3,hq4,hq5,hq6,hq7,lW]
 generalize hw9:wr w8.drew (w.heap.size+1) 27 [.bool (t.at 5).null] = w9
 have hl9:blk w9 (w.heap.size+1)=some (#[.int .i64 (IntKind.i32.wrap (t.at 0).n),.slice none 0 0,.bool false,.slice none 0 0,.slice none 0 0,.int .i64 ((t.at 1).n),.slice none 0 0,.bool false,.slice none 0 0,.slice none 0 0,.int .i64 ((t.at 2).n),.slice none 0 0,.bool false,.slice none 0 0,.slice none 0 0,.int .i64 (if decide ((t.at 3).n % 2=1)=true then 1 else 0:Int),.slice none 0 0,.bool false,.slice none 0 0,.slice none 0 0,.int .i64 (if decide ((t.at 4).n % 2=1)=true then 1 else 0:Int),.slice none 0 0,.bool false,.slice none 0 0,.slice none 0 0,.int .i64 0,.slice none 0 0,.bool (t.at 5).null,.slice none 0 0,.slice none 0 0,.int .i64 0,.slice none 0 0,.bool false,.slice none 0 0,.slice none 0 0],37,(0,0)):=by rw [← hw9,blk_wr_eq,show blk w8.drew (w.heap.size+1)=_ from hl8];rfl
 have hV9:Upd (fun b=>b=w.heap.size+1∨b=w.heap.size+2) w8 w9:=by rw [← hw9];exact ((Upd.refl _ _).drew).wr _ _ (.inr (.inl rfl))
 have hU9:Upd (fun b=>b=w.heap.size+1∨b=w.heap.size+2) w1 w9:=hU8.trans hV9
 have hz9:=hU9.size
 have hX9:Ext w w9:=hE1.more hU9 fun b hb h=>by omega
 have hb9:=hX9.blk_some hb id
 have ht9:blk w9 (w.heap.size+2)=some (#[.int .i64 0,.slice none 0 0,.bool false,.slice (some ⟨w.heap.size+1,0,none⟩) 7 7,.slice none 0 0],37,(0,0)):=by
  rw [← hw9,blk_wr_ne (by omega)]
  exact ht8
 clear hw9
 repeat ((first|refine qA rfl ?_|apply qB|refine qC rfl ?_|apply qD|apply qE|apply qF|apply qG|apply qH);try simp (maxSteps:=1000000)(disch:=(first|omega|(simp only [qI,qJ,qK]<;>omega)|exact qL _)) only [go_sem,↓reduceIte,n0,reduceCtorEq,n1,n2,n3,n4,n5,i0,i1,i2,i3,i4,i5,i6,i7,hb9,hl9,ht9,hq0,hq1,hq2,hq3,hq4,hq5,hq6,hq7])
 refine W.exitJ 0 (EndQ [(0,.pointer (some ⟨b,0,none⟩)),(2,.pointer (some ⟨w.heap.size,0,none⟩)),(3,.pointer (some ⟨w.heap.size+2,0,none⟩)),(62,.int .i64 L5.length)] (fun w'=>∃ v,blk w' (w.heap.size+1)=some (#[.int .i64 (IntKind.i32.wrap (t.at 0).n),.slice none 0 0,.bool false,.slice none 0 0,.slice none 0 0,.int .i64 ((t.at 1).n),.slice none 0 0,.bool false,.slice none 0 0,.slice none 0 0,.int .i64 ((t.at 2).n),.slice none 0 0,.bool false,.slice none 0 0,.slice none 0 0,.int .i64 (if decide ((t.at 3).n % 2=1)=true then 1 else 0:Int),.slice none 0 0,.bool false,.slice none 0 0,.slice none 0 0,.int .i64 (if decide ((t.at 4).n % 2=1)=true then 1 else 0:Int),.slice none 0 0,.bool false,.slice none 0 0,.slice none 0 0,.int .i64 0,.slice none 0 0,.bool (t.at 5).null,v,.slice none 0 0,.int .i64 0,.slice none 0 0,.bool false,.slice none 0 0,.slice none 0 0],37,(0,0))∧GrowT (fun b=>w1.heap.size≤b) w9.heap.size (w.heap.size+1) w' 37 v (L5.map (tl1 (tlP d) fQ_5.of fQ_5.sub))∧Upd (fun b=>b=w.heap.size+1) w9 w')) (W.loop (LoopL [(0,.pointer (some ⟨b,0,none⟩)),(2,.pointer (some ⟨w.heap.size,0,none⟩)),(3,.pointer (some ⟨w.heap.size+2,0,none⟩)),(62,.int .i64 L5.length)] 63 (fun j w'=>∃ v,j≤L5.length∧blk w' (w.heap.size+1)=some (#[.int .i64 (IntKind.i32.wrap (t.at 0).n),.slice none 0 0,.bool false,.slice none 0 0,.slice none 0 0,.int .i64 ((t.at 1).n),.slice none 0 0,.bool false,.slice none 0 0,.slice none 0 0,.int .i64 ((t.at 2).n),.slice none 0 0,.bool false,.slice none 0 0,.slice none 0 0,.int .i64 (if decide ((t.at 3).n % 2=1)=true then 1 else 0:Int),.slice none 0 0,.bool false,.slice none 0 0,.slice none 0 0,.int .i64 (if decide ((t.at 4).n % 2=1)=true then 1 else 0:Int),.slice none 0 0,.bool false,.slice none 0 0,.slice none 0 0,.int .i64 0,.slice none 0 0,.bool (t.at 5).null,v,.slice none 0 0,.int .i64 0,.slice none 0 0,.bool false,.slice none 0 0,.slice none 0 0],37,(0,0))∧GrowT (fun b=>w1.heap.size≤b) w9.heap.size (w.heap.size+1) w' 37 v ((L5.take j).map (tl1 (tlP d) fQ_5.of fQ_5.sub))∧Upd (fun b=>b=w.heap.size+1) w9 w')) (fun ρ _=>L5.length - (RowKit.intOf (ρ 63)).toNat) ?_ ?_) ?_
 ·exact ⟨(by simp (maxSteps:=1000000)(disch:=(first|omega|(simp only [qI,qJ,qK]<;>omega)|exact qL _)) only [go_sem,↓reduceIte,n0,reduceCtorEq,n1,n2,n3,n4,n5,i0,i1,i2,i3,i4,i5,i6,i7,Holds_nil,Holds_cons]),0,(by simp (maxSteps:=1000000)(disch:=(first|omega|(simp only [qI,qJ,qK]<;>omega)|exact qL _)) only [go_sem,↓reduceIte,n0,reduceCtorEq,n1,n2,n3,n4,n5,i0,i1,i2,i3,i4,i5,i6,i7];all_goals rfl),.slice none 0 0,Nat.zero_le _,hl9,GrowT.nil _ _ _ _ _,Upd.refl _ _⟩
 ·rintro ρ w10 ⟨⟨a8,aA,aB,aC,-⟩,j,hri,v,hj,eA,hg,hUk⟩
  have hzk:=hUk.size
  have iN:Ext w w10:=hX9.more hUk fun b hb h=>by omega
  have hz10:w1.heap.size≤w10.heap.size:=by have:=hz9;omega
  have fC:=iN.blk_some hb id
  have fS:=hUk.blk_some ht9 (by omega)
  by_cases hlt:j < L5.length
  ·obtain ⟨_,be,oe,xe,ce,hbe,hoke,hxe,hble,hxs,hxx,hqe,hRe⟩:=SlR.get (size:=16) (by decide) hs5 hlt
   subst hbe
   have hcat:L5.take (j+1)=L5.take j++[L5[j]]:=List.take_succ_eq_append_getElem hlt
   have hgy:=lK.2 _ (List.getElem_mem hlt)
   have hll:=lK.1
   obtain ⟨av,kv,hvs,_⟩:=hg.shape
   have hlj:(List.map (tl1 (tlP d) fQ_5.of fQ_5.sub) (L5.take j)).length=j:=by simp;omega
   rw [hlj] at hvs
   subst hvs
   have hnb:∀ b,b < w9.heap.size∨w10.heap.size≤b→¬ ownB (.slice av j kv) b:=fun b hb h=>by
    have:=hg.above h
    have:=hg.below h
    omega
   generalize L5[j] = y at *
   have hce:ce=(uuidS y.s).map byteV:=by
    have h:Rep1 _ 7 _ _ _ _ _:=hRe
    unfold Rep1 at h;rw [if_pos rfl] at h;exact h
   subst hce
   have cW:∀ k,k < 16→xe.1[oe+j * 16+k]? = ((uuidS y.s).map byteV)[k]?:=fun k hk=>by have h:=hqe k hk;rw [← Nat.add_assoc] at h;exact h
   repeat ((first|refine qA rfl ?_|apply qB|refine qC rfl ?_|apply qD|apply qE|apply qF|apply qG|apply qH);try simp (maxSteps:=1000000)(disch:=(first|omega|(simp only [qI,qJ,qK]<;>omega)|exact qL _)) only [go_sem,↓reduceIte,n0,reduceCtorEq,n1,n2,n3,n4,n5,i0,i1,i2,i3,i4,i5,i6,i7,fC,eA,fS,hq0,hq1,hq2,hq3,hq4,hq5,hq6,hq7,a8,aA,aB,aC,hri])
   refine W.drawR (.only 0 (.two 1 (.only 2 (.only 3 .done)) 2 (.only 1 (.only 3 .done)))) NoB mixed (by kernel_rfl) ?_
   try simp (maxSteps:=1000000)(disch:=(first|omega|(simp only [qI,qJ,qK]<;>omega)|exact qL _)) only [go_sem,↓reduceIte,n0,reduceCtorEq,n1,n2,n3,n4,n5,i0,i1,i2,i3,i4,i5,i6,i7,fC,eA,fS,hq0,hq1,hq2,hq3,hq4,hq5,hq6,hq7,a8,aA,aB,aC,hri]
   have q0:Upd NoB w10.drew (w10.alloc (.cells #[.bool false] 4)).drew:=show Upd NoB w10.drew (w10.drew.alloc (.cells #[.bool false] 4)) from Upd.alloc (Upd.refl _ _) _
   have q1:Upd NoB w10.drew (wr (w10.alloc (.cells #[.bool false] 4)).drew w10.heap.size 0 [.bool true]):=q0.wr _ _ (.inl (Nat.le_refl _))
   have q2:Upd NoB w10.drew (wr (wr (w10.alloc (.cells #[.bool false] 4)).drew w10.heap.size 0 [.bool true]) w10.heap.size 0 [.bool false]):=q1.wr _ _ (.inl (Nat.le_refl _))
   have q3:Upd NoB w10.drew (wr (w10.alloc (.cells #[.bool false] 4)).drew w10.heap.size 0 [.bool false]):=q0.wr _ _ (.inl (Nat.le_refl _))
   have q4:Upd NoB w10.drew (wr (wr (w10.alloc (.cells #[.bool false] 4)).drew w10.heap.size 0 [.bool false]) w10.heap.size 0 [.bool true]):=q3.wr _ _ (.inl (Nat.le_refl _))
   refine ⟨q0,⟨q1,q2,q2,?_⟩,⟨q3,q4,q4,?_⟩⟩
   ·have hk11:Ext w10 (wr (wr (w10.alloc (.cells #[.bool false] 4)).drew w10.heap.size 0 [.bool true]) w10.heap.size 0 [.bool false]):=((Upd.refl _ _).drew).trans q2
    generalize (wr (wr (w10.alloc (.cells #[.bool false] 4)).drew w10.heap.size 0 [.bool true]) w10.heap.size 0 [.bool false])=w11 at *
    have t8:=hk11.size
    have nU:Ext w w11:=iN.trans hk11
    have iP:=hk11.blk_some fC id
    have fH:=hk11.blk_some eA id
    have kB:=hk11.blk_some fS id
    have gB:=nU.blk_some hxe id
    repeat ((first|refine qA rfl ?_|apply qB|refine qC rfl ?_|apply qD|apply qE|apply qF|apply qG|apply qH);try simp (maxSteps:=1000000)(disch:=(first|omega|(simp only [qI,qJ,qK]<;>omega)|exact qL _)) only [go_sem,↓reduceIte,n0,reduceCtorEq,n1,n2,n3,n4,n5,i0,i1,i2,i3,i4,i5,i6,i7,iP,fH,kB,gB,hq0,hq1,hq2,hq3,hq4,hq5,hq6,hq7,a8,aA,aB,aC,hri])
    refine W.drawR (.take 0 (.take 1 (.take 2 (.take 3 (.take 4 (.take 5 (.take 6 (.take 7 (.take 8 (.take 9 (.take 10 (.take 11 (.take 12 (.take 13 (.only 14 (.only 15 (.only 16 (.only 17 (.take 18 (.take 19 (.last 20))))))))))))))))))))) (ownB (.slice av j kv)) mixed (by kernel_rfl) ?_
    try simp (maxSteps:=1000000)(disch:=(first|omega|(simp only [qI,qJ,qK]<;>omega)|exact qL _|(refine hnb _ ?_;first|omega|(simp only [World.size_alloc,size_wr,size_drew]<;>omega)))) only [go_sem,↓reduceIte,n0,reduceCtorEq,n1,n2,n3,n4,n5,i0,i1,i2,i3,i4,i5,i6,i7,iP,fH,kB,gB,hq0,hq1,hq2,hq3,hq4,hq5,hq6,hq7,a8,aA,aB,aC,hri]
    have rI:=(Upd.refl _ _:Upd (ownB (.slice av j kv)) w11.drew w11.drew).blk_some (show blk w11.drew be=_ from gB) (hnb _ (.inl (by omega)))
    have oG:BytesV AnyB w11.drew (.slice (some ⟨be,oe+j * 16,none⟩) 16 16) (uuidS y.s):=bytes_at rI (uuidS_len _) cW
    refine wp_copyN ap_22_22 (ok:=AnyB) (s:=uuidS y.s) (v:=.slice (some ⟨be,oe+j * 16,none⟩) 16 16) (by first|rfl|simp (maxSteps:=1000000)(disch:=(first|omega|(simp only [qI,qJ,qK]<;>omega)|exact qL _)) only [go_sem,↓reduceIte,n0,reduceCtorEq,n1,n2,n3,n4,n5,i0,i1,i2,i3,i4,i5,i6,i7]) (by first|rfl|simp (maxSteps:=1000000)(disch:=(first|omega|(simp only [qI,qJ,qK]<;>omega)|exact qL _)) only [go_sem,↓reduceIte,n0,reduceCtorEq,n1,n2,n3,n4,n5,i0,i1,i2,i3,i4,i5,i6,i7]) oG (by rw [uuidS_len];omega) ?_
    intro v12 w12 lY gP oM
    obtain ⟨av12,kv12,rfl,_⟩:=lY.shape
    have mW:=Own.bytes (ok:=fun b=>w11.drew.heap.size≤b) lY fun b hb=>oM b hb
    have gR:Upd (ownB (.slice av j kv)) w11.drew w12:=(Upd.refl _ _).trans (gP.mono fun _ h=>h.elim)
    have pV:=gP.size
    try simp only [size_drew] at pV
    refine ⟨gR,?_⟩
    try simp (maxSteps:=1000000)(disch:=(first|omega|(simp only [qI,qJ,qK]<;>omega)|exact qL _|(refine hnb _ ?_;first|omega|(simp only [World.size_alloc,size_wr,size_drew]<;>omega)))) only [go_sem,↓reduceIte,n0,reduceCtorEq,n1,n2,n3,n4,n5,i0,i1,i2,i3,i4,i5,i6,i7,iP,fH,kB,gB,hq0,hq1,hq2,hq3,hq4,hq5,hq6,hq7,a8,aA,aB,aC,hri]
    refine ⟨gR,?_⟩
    have kT:Upd (ownB (.slice av j kv)) w11.drew (w12.alloc (.cells #[.int .i64 0,.slice av12 (uuidS y.s).length kv12,.bool false,.slice none 0 0,.slice none 0 0] 37)):=show Upd (ownB (.slice av j kv)) w11.drew (w12.alloc (.cells #[.int .i64 0,.slice av12 (uuidS y.s).length kv12,.bool false,.slice none 0 0,.slice none 0 0] 37)) from (gR).alloc _
    have pB:blk (w12.alloc (.cells #[.int .i64 0,.slice av12 (uuidS y.s).length kv12,.bool false,.slice none 0 0,.slice none 0 0] 37)) w12.heap.size=some (#[.int .i64 0,.slice av12 (uuidS y.s).length kv12,.bool false,.slice none 0 0,.slice none 0 0],37,(0,0)):=show blk (w12.alloc (.cells #[.int .i64 0,.slice av12 (uuidS y.s).length kv12,.bool false,.slice none 0 0,.slice none 0 0] 37)) w12.heap.size=some (#[.int .i64 0,.slice av12 (uuidS y.s).length kv12,.bool false,.slice none 0 0,.slice none 0 0],37,(0,0)) from blk_alloc_new rfl
    have pW:(w12.alloc (.cells #[.int .i64 0,.slice av12 (uuidS y.s).length kv12,.bool false,.slice none 0 0,.slice none 0 0] 37)).heap.size=w12.heap.size+1:=show (w12.alloc (.cells #[.int .i64 0,.slice av12 (uuidS y.s).length kv12,.bool false,.slice none 0 0,.slice none 0 0] 37)).heap.size=w12.heap.size+1 from World.size_alloc _ _
    have kK:Ext w12 (w12.alloc (.cells #[.int .i64 0,.slice av12 (uuidS y.s).length kv12,.bool false,.slice none 0 0,.slice none 0 0] 37)):=show Ext w12 (w12.alloc (.cells #[.int .i64 0,.slice av12 (uuidS y.s).length kv12,.bool false,.slice none 0 0,.slice none 0 0] 37)) from Upd.alloc (Upd.refl _ _) _
    refine ⟨kT,?_⟩
    try simp only [List.append_nil]
    generalize (w12.alloc (.cells #[.int .i64 0,.slice av12 (uuidS y.s).length kv12,.bool false,.slice none 0 0,.slice none 0 0] 37))=w13 at *
    try simp only [size_drew] at pW
    have gG:Ext w10 w13:=((hk11.drew.trans gP).trans kK)
    have tD:=gG.size
    obtain ⟨css,hown,hall⟩:=(hg.ext gG).ex
    have hcl:=hall.1
    rw [hlj] at hcl
    have r9:TreeC (fun b=>(fun b=>w1.heap.size≤b) b∧b≠w.heap.size+1∧¬ ownB (.slice av j kv) b) w13 ((tl1 (tlP d) fQ_5.of fQ_5.sub) y) [.int .i64 0,.slice av12 (uuidS y.s).length kv12,.bool false,.slice none 0 0,.slice none 0 0]:=by
     exact TreeC.weaken (fun b _ hk=>⟨by omega,by omega,hnb b (.inr (by omega))⟩) (TreeC.weaken (ok':=fun b=>w10.heap.size≤b) (fun b _ hk=>by have hk':w11.drew.heap.size≤b:=hk;(try simp only [size_drew] at hk');omega) (TreeC.keep (Ext.keeps kK _) (TreeC.intro rfl mW (treesN _ _) (tagsN _ _):TreeC _ _ (.oct false (uuidS y.s)) [.int .i64 0,.slice av12 (uuidS y.s).length kv12,.bool false,.slice none 0 0,.slice none 0 0])))
    refine wp_append ap_34_34 (m:=1) (news:=[.int .i64 0,.slice av12 (uuidS y.s).length kv12,.bool false,.slice none 0 0,.slice none 0 0]) (n:=css.length) (cs:=css.flatten) (v:=(.slice av j kv)) ?_ rfl hown.1 (all2_flat_tree hall) (Src.blk (fr:=(0,0)) (T:=37) pB rfl rfl) ?_ ?_ ?_
    ·first|rfl|simp (maxSteps:=1000000)(disch:=(first|omega|(simp only [qI,qJ,qK]<;>omega)|exact qL _)) only [go_sem,↓reduceIte,n0,reduceCtorEq,n1,n2,n3,n4,n5,i0,i1,i2,i3,i4,i5,i6,i7]
    ·omega
    ·omega
    intro v' w14 ho hu hfr
    have gT:=(kT:Upd (ownB (.slice av j kv)) w11.drew w13).trans hu
    have rV:=gT.size
    simp only [size_drew] at rV
    have iS:=gT.blk_some (show blk w11.drew (w.heap.size+1)=_ from fH) (hnb _ (.inl (by omega)))
    have hg':=GrowT.snoc hown hall r9 hu hfr ho
    obtain ⟨va,vc,hv',_⟩:=ho.shape
    subst hv'
    have hne:¬ ownB (.slice va (css.length+1) vc) (w.heap.size+1):=fun h=>(hfr _ h).elim (hnb _ (.inl (by omega))) (fun h=>by omega)
    refine ⟨gT,?_⟩
    try simp (maxSteps:=1000000)(disch:=(first|omega|(simp only [qI,qJ,qK]<;>omega)|exact qL _|(refine hnb _ ?_;first|omega|(simp only [World.size_alloc,size_wr,size_drew]<;>omega)))) only [go_sem,↓reduceIte,n0,reduceCtorEq,n1,n2,n3,n4,n5,i0,i1,i2,i3,i4,i5,i6,i7,iS,a8,aA,aB,aC,hri]
    repeat ((first|refine qA rfl ?_|apply qB|refine qC rfl ?_|apply qD|apply qE|apply qF|apply qG|apply qH);try simp (maxSteps:=1000000)(disch:=(first|omega|(simp only [qI,qJ,qK]<;>omega)|exact qL _)) only [go_sem,↓reduceIte,n0,reduceCtorEq,n1,n2,n3,n4,n5,i0,i1,i2,i3,i4,i5,i6,i7,iS,a8,aA,aB,aC,hri])
    refine ⟨⟨(by simp (maxSteps:=1000000)(disch:=(first|omega|(simp only [qI,qJ,qK]<;>omega)|exact qL _)) only [go_sem,↓reduceIte,n0,reduceCtorEq,n1,n2,n3,n4,n5,i0,i1,i2,i3,i4,i5,i6,i7,Holds_nil,Holds_cons,a8,aA,aB,aC,hri]),j+1,(by simp (maxSteps:=1000000)(disch:=(first|omega|(simp only [qI,qJ,qK]<;>omega)|exact qL _)) only [go_sem,↓reduceIte,n0,reduceCtorEq,n1,n2,n3,n4,n5,i0,i1,i2,i3,i4,i5,i6,i7,a8,aA,aB,aC,hri];all_goals rfl),.slice va (css.length+1) vc,by omega,?_,?_,?_⟩,?_⟩
    ·rw [blk_wr_eq,iS];rfl
    ·rw [hcat,List.map_append];exact hg'.upd ((Upd.refl _ _).wr _ _ (.inr rfl)) hne
    ·refine Upd.wr ?_ _ _ (.inr rfl)
     exact (hUk.more ((gG.mono fun _ h=>h.elim).trans hu) fun b hb h=>absurd h (hnb b (.inl hb)))
    ·try simp (maxSteps:=1000000)(disch:=(first|omega|(simp only [qI,qJ,qK]<;>omega)|exact qL _)) only [go_sem,↓reduceIte,n0,reduceCtorEq,n1,n2,n3,n4,n5,i0,i1,i2,i3,i4,i5,i6,i7,a8,aA,aB,aC,hri]
     simp only [RowKit.intOf];omega
   ·have cE:Ext w10 (wr (wr (w10.alloc (.cells #[.bool false] 4)).drew w10.heap.size 0 [.bool false]) w10.heap.size 0 [.bool true]):=((Upd.refl _ _).drew).trans q4
    generalize (wr (wr (w10.alloc (.cells #[.bool false] 4)).drew w10.heap.size 0 [.bool false]) w10.heap.size 0 [.bool true])=w15 at *
    have tA:=cE.size
    have nV:Ext w w15:=iN.trans cE
    have hb15:=cE.blk_some fC id
    have cR:=cE.blk_some eA id
    have fT:=cE.blk_some fS id
    have dQ:=nV.blk_some hxe id
    repeat ((first|refine qA rfl ?_|apply qB|refine qC rfl ?_|apply qD|apply qE|apply qF|apply qG|apply qH);try simp (maxSteps:=1000000)(disch:=(first|omega|(simp only [qI,qJ,qK]<;>omega)|exact qL _)) only [go_sem,↓reduceIte,n0,reduceCtorEq,n1,n2,n3,n4,n5,i0,i1,i2,i3,i4,i5,i6,i7,hb15,cR,fT,dQ,hq0,hq1,hq2,hq3,hq4,hq5,hq6,hq7,a8,aA,aB,aC,hri])
    refine W.drawR (.take 0 (.take 1 (.take 2 (.take 3 (.take 4 (.take 5 (.take 6 (.take 7 (.take 8 (.take 9 (.take 10 (.take 11 (.take 14 (.two 12 (.two 13 (.only 15 (.only 16 (.take 17 (.take 18 (.last 19))))) 15 (.only 13 (.only 16 (.take 17 (.take 18 (.last 19)))))) 15 (.only 12 (.only 13 (.only 16 (.take 17 (.take 18 (.last 19)))))))))))))))))))) (ownB (.slice av j kv)) mixed (by kernel_rfl) ?_
    try simp (maxSteps:=1000000)(disch:=(first|omega|(simp only [qI,qJ,qK]<;>omega)|exact qL _|(refine hnb _ ?_;first|omega|(simp only [World.size_alloc,size_wr,size_drew]<;>omega)))) only [go_sem,↓reduceIte,n0,reduceCtorEq,n1,n2,n3,n4,n5,i0,i1,i2,i3,i4,i5,i6,i7,hb15,cR,fT,dQ,hq0,hq1,hq2,hq3,hq4,hq5,hq6,hq7,a8,aA,aB,aC,hri]
    refine ⟨?_,?_⟩
    ·skip
     have rJ:=(Upd.refl _ _:Upd (ownB (.slice av j kv)) w15.drew w15.drew).blk_some (show blk w15.drew be=_ from dQ) (hnb _ (.inl (by omega)))
     have oH:BytesV AnyB w15.drew (.slice (some ⟨be,oe+j * 16,none⟩) 16 16) (uuidS y.s):=bytes_at rJ (uuidS_len _) cW
     refine wp_copyN ap_22_22 (ok:=AnyB) (s:=uuidS y.s) (v:=.slice (some ⟨be,oe+j * 16,none⟩) 16 16) (by first|rfl|simp (maxSteps:=1000000)(disch:=(first|omega|(simp only [qI,qJ,qK]<;>omega)|exact qL _)) only [go_sem,↓reduceIte,n0,reduceCtorEq,n1,n2,n3,n4,n5,i0,i1,i2,i3,i4,i5,i6,i7]) (by first|rfl|simp (maxSteps:=1000000)(disch:=(first|omega|(simp only [qI,qJ,qK]<;>omega)|exact qL _)) only [go_sem,↓reduceIte,n0,reduceCtorEq,n1,n2,n3,n4,n5,i0,i1,i2,i3,i4,i5,i6,i7]) oH (by rw [uuidS_len];omega) ?_
     intro v16 w16 lZ eP oN
     obtain ⟨av16,kv16,rfl,_⟩:=lZ.shape
     have kH:=Own.bytes (ok:=fun b=>w15.drew.heap.size≤b) lZ fun b hb=>oN b hb
     have eV:Upd (ownB (.slice av j kv)) w15.drew w16:=(Upd.refl _ _).trans (eP.mono fun _ h=>h.elim)
     have pX:=eP.size
     try simp only [size_drew] at pX
     refine ⟨eV,?_⟩
     try simp (maxSteps:=1000000)(disch:=(first|omega|(simp only [qI,qJ,qK]<;>omega)|exact qL _|(refine hnb _ ?_;first|omega|(simp only [World.size_alloc,size_wr,size_drew]<;>omega)))) only [go_sem,↓reduceIte,n0,reduceCtorEq,n1,n2,n3,n4,n5,i0,i1,i2,i3,i4,i5,i6,i7,hb15,cR,fT,dQ,hq0,hq1,hq2,hq3,hq4,hq5,hq6,hq7,a8,aA,aB,aC,hri]
     refine ⟨?_,?_⟩
     ·skip
      refine ⟨eV,?_⟩
      have kV:Upd (ownB (.slice av j kv)) w15.drew (w16.alloc (.cells qZ5 37)):=show Upd (ownB (.slice av j kv)) w15.drew (w16.alloc (.cells qZ5 37)) from (eV).alloc _
      have pC:blk (w16.alloc (.cells qZ5 37)) w16.heap.size=some (qZ5,37,(0,0)):=show blk (w16.alloc (.cells qZ5 37)) w16.heap.size=some (qZ5,37,(0,0)) from blk_alloc_new rfl
      have pY:(w16.alloc (.cells qZ5 37)).heap.size=w16.heap.size+1:=show (w16.alloc (.cells qZ5 37)).heap.size=w16.heap.size+1 from World.size_alloc _ _
      have kL:Ext w16 (w16.alloc (.cells qZ5 37)):=show Ext w16 (w16.alloc (.cells qZ5 37)) from Upd.alloc (Upd.refl _ _) _
      refine ⟨kV,?_⟩
      try simp only [List.append_nil]
      generalize (w16.alloc (.cells qZ5 37))=w17 at *
      try simp only [size_drew] at pY
      have gH:Ext w10 w17:=((cE.drew.trans eP).trans kL)
      have tE:=gH.size
      obtain ⟨css,hown,hall⟩:=(hg.ext gH).ex
      have hcl:=hall.1
      rw [hlj] at hcl
      have rA:TreeC (fun b=>(fun b=>w1.heap.size≤b) b∧b≠w.heap.size+1∧¬ ownB (.slice av j kv) b) w17 ((tl1 (tlP d) fQ_5.of fQ_5.sub) y) [.int .i64 0,.slice av16 (uuidS y.s).length kv16,.bool false,.slice none 0 0,.slice none 0 0]:=by
       exact TreeC.weaken (fun b _ hk=>⟨by omega,by omega,hnb b (.inr (by omega))⟩) (TreeC.weaken (ok':=fun b=>w10.heap.size≤b) (fun b _ hk=>by have hk':w15.drew.heap.size≤b:=hk;(try simp only [size_drew] at hk');omega) (TreeC.keep (Ext.keeps kL _) (TreeC.intro rfl kH (treesN _ _) (tagsN _ _):TreeC _ _ (.oct false (uuidS y.s)) [.int .i64 0,.slice av16 (uuidS y.s).length kv16,.bool false,.slice none 0 0,.slice none 0 0])))
      refine wp_append ap_34_34 (m:=1) (news:=[.int .i64 0,.slice none 0 0,.bool false,.slice none 0 0,.slice none 0 0]) (n:=css.length) (cs:=css.flatten) (v:=(.slice av j kv)) ?_ rfl hown.1 (all2_flat_tree hall) (Src.blk (fr:=(0,0)) (T:=37) pC rfl rfl) ?_ ?_ ?_
      ·first|rfl|simp (maxSteps:=1000000)(disch:=(first|omega|(simp only [qI,qJ,qK]<;>omega)|exact qL _)) only [go_sem,↓reduceIte,n0,reduceCtorEq,n1,n2,n3,n4,n5,i0,i1,i2,i3,i4,i5,i6,i7]
      ·omega
      ·omega
      intro v' w18 ho hu hfr
      have gV:=(kV:Upd (ownB (.slice av j kv)) w15.drew w17).trans hu
      have rW:=gV.size
      simp only [size_drew] at rW
      have iU:=gV.blk_some (show blk w15.drew (w.heap.size+1)=_ from cR) (hnb _ (.inl (by omega)))
      rcases ho.2 with ⟨_,h⟩|⟨g,cap,rest,fr,hv',hg',hbg,hlen,hth,hle⟩
      ·exact absurd h (Nat.succ_ne_zero _)
      subst hv'
      have hgne:¬ g=w.heap.size+1:=fun h=>(hfr g ⟨_,_,_,rfl,rfl⟩).elim (fun h'=>hnb _ (.inl (by omega)) (h ▸ h')) (fun h'=>by omega)
      have hfl:css.flatten.length=css.length * 5:=flatten_len hown.2
      have b7:(css.flatten++([.int .i64 0,.slice none 0 0,.bool false,.slice none 0 0,.slice none 0 0]:List Value)++rest).length=cap * 5:=by simp only [List.length_append] at hlen ⊢;omega
      obtain ⟨XX,hXX⟩:∃ X:Array Value,X=(css.flatten++([.int .i64 0,.slice none 0 0,.bool false,.slice none 0 0,.slice none 0 0]:List Value)++rest).toArray:=⟨_,rfl⟩
      have hbgX:blk w18 g=some (XX,37,fr):=by rw [hXX];exact hbg
      have hXsz:XX.size=cap * 5:=by rw [hXX,List.size_toArray];exact b7
      have aI:thaw fr (css.length * 5) 5=true:=thaw_of hth (by omega)
      have hst:css.length * 5+5≤XX.size:=by omega
      have hset:=Own.setlast (cs:=[.int .i64 0,.slice av16 (uuidS y.s).length kv16,.bool false,.slice none 0 0,.slice none 0 0]) ho rfl rfl
      have hu2:Upd (ownB (.slice av j kv)) w17 (wr w18 g (css.length * 5) [.int .i64 0,.slice av16 (uuidS y.s).length kv16,.bool false,.slice none 0 0,.slice none 0 0]):=hu.wr _ _ ((hfr g ⟨_,_,_,rfl,rfl⟩).symm)
      have hg2:=GrowT.snoc hown hall rA hu2 hfr hset
      have hcj:css.length=j:=by first|exact hcl.symm.trans hlj|omega
      simp only [hcj] at aI hst hset hu2 hg2
      refine ⟨gV,?_⟩
      try simp (maxSteps:=1000000)(disch:=(first|omega|(simp only [qI,qJ,qK]<;>omega)|exact qL _|(refine hnb _ ?_;first|omega|(simp only [World.size_alloc,size_wr,size_drew]<;>omega)))) only [go_sem,↓reduceIte,n0,reduceCtorEq,n1,n2,n3,n4,n5,i0,i1,i2,i3,i4,i5,i6,i7,iU,hbgX,aI,hst,hcj,a8,aA,aB,aC,hri]
      repeat ((first|refine qA rfl ?_|apply qB|refine qC rfl ?_|apply qD|apply qE|apply qF|apply qG|apply qH);try simp (maxSteps:=1000000)(disch:=(first|omega|(simp only [qI,qJ,qK]<;>omega)|exact qL _)) only [go_sem,↓reduceIte,n0,reduceCtorEq,n1,n2,n3,n4,n5,i0,i1,i2,i3,i4,i5,i6,i7,iU,hbgX,aI,hst,hcj,a8,aA,aB,aC,hri])
      refine ⟨⟨(by simp (maxSteps:=1000000)(disch:=(first|omega|(simp only [qI,qJ,qK]<;>omega)|exact qL _)) only [go_sem,↓reduceIte,n0,reduceCtorEq,n1,n2,n3,n4,n5,i0,i1,i2,i3,i4,i5,i6,i7,Holds_nil,Holds_cons,a8,aA,aB,aC,hri]),j+1,(by simp (maxSteps:=1000000)(disch:=(first|omega|(simp only [qI,qJ,qK]<;>omega)|exact qL _)) only [go_sem,↓reduceIte,n0,reduceCtorEq,n1,n2,n3,n4,n5,i0,i1,i2,i3,i4,i5,i6,i7,a8,aA,aB,aC,hri];all_goals rfl),.slice (some ⟨g,0,none⟩) (j+1) cap,by omega,?_,?_,?_⟩,?_⟩
      ·rw [blk_wr_ne (by omega),blk_wr_eq,iU];rfl
      ·rw [hcat,List.map_append,wr_comm (Ne.symm hgne)]
       exact hg2.upd ((Upd.refl _ _).wr _ _ (.inr rfl)) (fun h=>hgne (ownB_row h).symm)
      ·rw [wr_comm (Ne.symm hgne)]
       refine Upd.wr ?_ _ _ (.inr rfl)
       exact (hUk.more ((gH.mono fun _ h=>h.elim).trans hu2) fun b hb h=>absurd h (hnb b (.inl hb)))
      ·try simp (maxSteps:=1000000)(disch:=(first|omega|(simp only [qI,qJ,qK]<;>omega)|exact qL _)) only [go_sem,↓reduceIte,n0,reduceCtorEq,n1,n2,n3,n4,n5,i0,i1,i2,i3,i4,i5,i6,i7,a8,aA,aB,aC,hri]
       simp only [RowKit.intOf];omega
     ·skip
      have gW:Upd (ownB (.slice av j kv)) w15.drew (w16.alloc (.cells qZ5 37)):=show Upd (ownB (.slice av j kv)) w15.drew (w16.alloc (.cells qZ5 37)) from (eV).alloc _
      have pD:blk (w16.alloc (.cells qZ5 37)) w16.heap.size=some (qZ5,37,(0,0)):=show blk (w16.alloc (.cells qZ5 37)) w16.heap.size=some (qZ5,37,(0,0)) from blk_alloc_new rfl
      have pZ:(w16.alloc (.cells qZ5 37)).heap.size=w16.heap.size+1:=show (w16.alloc (.cells qZ5 37)).heap.size=w16.heap.size+1 from World.size_alloc _ _
      have kM:Ext w16 (w16.alloc (.cells qZ5 37)):=show Ext w16 (w16.alloc (.cells qZ5 37)) from Upd.alloc (Upd.refl _ _) _
      refine ⟨gW,?_⟩
      try simp only [List.append_nil]
      generalize (w16.alloc (.cells qZ5 37))=w19 at *
      try simp only [size_drew] at pZ
      refine ⟨gW,?_⟩
      have gI:Ext w10 w19:=((cE.drew.trans eP).trans kM)
      have tF:=gI.size
      obtain ⟨css,hown,hall⟩:=(hg.ext gI).ex
      have hcl:=hall.1
      rw [hlj] at hcl
      have rB:TreeC (fun b=>(fun b=>w1.heap.size≤b) b∧b≠w.heap.size+1∧¬ ownB (.slice av j kv) b) w19 ((tl1 (tlP d) fQ_5.of fQ_5.sub) y) [.int .i64 0,.slice av16 (uuidS y.s).length kv16,.bool false,.slice none 0 0,.slice none 0 0]:=by
       exact TreeC.weaken (fun b _ hk=>⟨by omega,by omega,hnb b (.inr (by omega))⟩) (TreeC.weaken (ok':=fun b=>w10.heap.size≤b) (fun b _ hk=>by have hk':w15.drew.heap.size≤b:=hk;(try simp only [size_drew] at hk');omega) (TreeC.keep (Ext.keeps kM _) (TreeC.intro rfl kH (treesN _ _) (tagsN _ _):TreeC _ _ (.oct false (uuidS y.s)) [.int .i64 0,.slice av16 (uuidS y.s).length kv16,.bool false,.slice none 0 0,.slice none 0 0])))
      refine wp_append ap_34_34 (m:=1) (news:=[.int .i64 0,.slice none 0 0,.bool false,.slice none 0 0,.slice none 0 0]) (n:=css.length) (cs:=css.flatten) (v:=(.slice av j kv)) ?_ rfl hown.1 (all2_flat_tree hall) (Src.blk (fr:=(0,0)) (T:=37) pD rfl rfl) ?_ ?_ ?_
      ·first|rfl|simp (maxSteps:=1000000)(disch:=(first|omega|(simp only [qI,qJ,qK]<;>omega)|exact qL _)) only [go_sem,↓reduceIte,n0,reduceCtorEq,n1,n2,n3,n4,n5,i0,i1,i2,i3,i4,i5,i6,i7]
      ·omega
      ·omega
      intro v' w20 ho hu hfr
      have gX:=(gW:Upd (ownB (.slice av j kv)) w15.drew w19).trans hu
      have rX:=gX.size
      simp only [size_drew] at rX
      have iV:=gX.blk_some (show blk w15.drew (w.heap.size+1)=_ from cR) (hnb _ (.inl (by omega)))
      rcases ho.2 with ⟨_,h⟩|⟨g,cap,rest,fr,hv',hg',hbg,hlen,hth,hle⟩
      ·exact absurd h (Nat.succ_ne_zero _)
      subst hv'
      have hgne:¬ g=w.heap.size+1:=fun h=>(hfr g ⟨_,_,_,rfl,rfl⟩).elim (fun h'=>hnb _ (.inl (by omega)) (h ▸ h')) (fun h'=>by omega)
      have hfl:css.flatten.length=css.length * 5:=flatten_len hown.2
      have b7:(css.flatten++([.int .i64 0,.slice none 0 0,.bool false,.slice none 0 0,.slice none 0 0]:List Value)++rest).length=cap * 5:=by simp only [List.length_append] at hlen ⊢;omega
      obtain ⟨XX,hXX⟩:∃ X:Array Value,X=(css.flatten++([.int .i64 0,.slice none 0 0,.bool false,.slice none 0 0,.slice none 0 0]:List Value)++rest).toArray:=⟨_,rfl⟩
      have hbgX:blk w20 g=some (XX,37,fr):=by rw [hXX];exact hbg
      have hXsz:XX.size=cap * 5:=by rw [hXX,List.size_toArray];exact b7
      have aI:thaw fr (css.length * 5) 5=true:=thaw_of hth (by omega)
      have hst:css.length * 5+5≤XX.size:=by omega
      have hset:=Own.setlast (cs:=[.int .i64 0,.slice av16 (uuidS y.s).length kv16,.bool false,.slice none 0 0,.slice none 0 0]) ho rfl rfl
      have hu2:Upd (ownB (.slice av j kv)) w19 (wr w20 g (css.length * 5) [.int .i64 0,.slice av16 (uuidS y.s).length kv16,.bool false,.slice none 0 0,.slice none 0 0]):=hu.wr _ _ ((hfr g ⟨_,_,_,rfl,rfl⟩).symm)
      have hg2:=GrowT.snoc hown hall rB hu2 hfr hset
      have hcj:css.length=j:=by first|exact hcl.symm.trans hlj|omega
      simp only [hcj] at aI hst hset hu2 hg2
      refine ⟨gX,?_⟩
      try simp (maxSteps:=1000000)(disch:=(first|omega|(simp only [qI,qJ,qK]<;>omega)|exact qL _|(refine hnb _ ?_;first|omega|(simp only [World.size_alloc,size_wr,size_drew]<;>omega)))) only [go_sem,↓reduceIte,n0,reduceCtorEq,n1,n2,n3,n4,n5,i0,i1,i2,i3,i4,i5,i6,i7,iV,hbgX,aI,hst,hcj,a8,aA,aB,aC,hri]
      repeat ((first|refine qA rfl ?_|apply qB|refine qC rfl ?_|apply qD|apply qE|apply qF|apply qG|apply qH);try simp (maxSteps:=1000000)(disch:=(first|omega|(simp only [qI,qJ,qK]<;>omega)|exact qL _)) only [go_sem,↓reduceIte,n0,reduceCtorEq,n1,n2,n3,n4,n5,i0,i1,i2,i3,i4,i5,i6,i7,iV,hbgX,aI,hst,hcj,a8,aA,aB,aC,hri])
      refine ⟨⟨(by simp (maxSteps:=1000000)(disch:=(first|omega|(simp only [qI,qJ,qK]<;>omega)|exact qL _)) only [go_sem,↓reduceIte,n0,reduceCtorEq,n1,n2,n3,n4,n5,i0,i1,i2,i3,i4,i5,i6,i7,Holds_nil,Holds_cons,a8,aA,aB,aC,hri]),j+1,(by simp (maxSteps:=1000000)(disch:=(first|omega|(simp only [qI,qJ,qK]<;>omega)|exact qL _)) only [go_sem,↓reduceIte,n0,reduceCtorEq,n1,n2,n3,n4,n5,i0,i1,i2,i3,i4,i5,i6,i7,a8,aA,aB,aC,hri];all_goals rfl),.slice (some ⟨g,0,none⟩) (j+1) cap,by omega,?_,?_,?_⟩,?_⟩
      ·rw [blk_wr_ne (by omega),blk_wr_eq,iV];rfl
      ·rw [hcat,List.map_append,wr_comm (Ne.symm hgne)]
       exact hg2.upd ((Upd.refl _ _).wr _ _ (.inr rfl)) (fun h=>hgne (ownB_row h).symm)
      ·rw [wr_comm (Ne.symm hgne)]
       refine Upd.wr ?_ _ _ (.inr rfl)
       exact (hUk.more ((gI.mono fun _ h=>h.elim).trans hu2) fun b hb h=>absurd h (hnb b (.inl hb)))
      ·try simp (maxSteps:=1000000)(disch:=(first|omega|(simp only [qI,qJ,qK]<;>omega)|exact qL _)) only [go_sem,↓reduceIte,n0,reduceCtorEq,n1,n2,n3,n4,n5,i0,i1,i2,i3,i4,i5,i6,i7,a8,aA,aB,aC,hri]
       simp only [RowKit.intOf];omega
    ·skip
     have gY:Upd (ownB (.slice av j kv)) w15.drew (w15.alloc (.cells qZ5 37)).drew:=show Upd (ownB (.slice av j kv)) w15.drew (w15.drew.alloc (.cells qZ5 37)) from (Upd.refl _ _).alloc _
     have pE:blk (w15.alloc (.cells qZ5 37)).drew w15.drew.heap.size=some (qZ5,37,(0,0)):=show blk (w15.drew.alloc (.cells qZ5 37)) w15.drew.heap.size=some (qZ5,37,(0,0)) from blk_alloc_new rfl
     have qM:(w15.alloc (.cells qZ5 37)).drew.heap.size=w15.drew.heap.size+1:=show (w15.drew.alloc (.cells qZ5 37)).heap.size=w15.drew.heap.size+1 from World.size_alloc _ _
     have n8:Ext w15.drew (w15.alloc (.cells qZ5 37)).drew:=show Ext w15.drew (w15.drew.alloc (.cells qZ5 37)) from Upd.alloc (Upd.refl _ _) _
     refine ⟨gY,?_⟩
     try simp only [List.append_nil]
     generalize (w15.alloc (.cells qZ5 37)).drew=w21 at *
     try simp only [size_drew] at qM
     have rK:=(gY:Upd (ownB (.slice av j kv)) w15.drew w21).blk_some (show blk w15.drew be=_ from dQ) (hnb _ (.inl (by omega)))
     have oI:BytesV AnyB w21 (.slice (some ⟨be,oe+j * 16,none⟩) 16 16) (uuidS y.s):=bytes_at rK (uuidS_len _) cW
     refine wp_copyN ap_22_22 (ok:=AnyB) (s:=uuidS y.s) (v:=.slice (some ⟨be,oe+j * 16,none⟩) 16 16) (by first|rfl|simp (maxSteps:=1000000)(disch:=(first|omega|(simp only [qI,qJ,qK]<;>omega)|exact qL _)) only [go_sem,↓reduceIte,n0,reduceCtorEq,n1,n2,n3,n4,n5,i0,i1,i2,i3,i4,i5,i6,i7]) (by first|rfl|simp (maxSteps:=1000000)(disch:=(first|omega|(simp only [qI,qJ,qK]<;>omega)|exact qL _)) only [go_sem,↓reduceIte,n0,reduceCtorEq,n1,n2,n3,n4,n5,i0,i1,i2,i3,i4,i5,i6,i7]) oI (by rw [uuidS_len];omega) ?_
     intro v22 w22 m4 eQ oO
     obtain ⟨av22,kv22,rfl,_⟩:=m4.shape
     have mX:=Own.bytes (ok:=fun b=>w21.heap.size≤b) m4 fun b hb=>oO b hb
     have gZ:Upd (ownB (.slice av j kv)) w15.drew w22:=(gY).trans (eQ.mono fun _ h=>h.elim)
     have qN:=eQ.size
     try simp only [size_drew] at qN
     refine ⟨gZ,?_⟩
     try simp (maxSteps:=1000000)(disch:=(first|omega|(simp only [qI,qJ,qK]<;>omega)|exact qL _|(refine hnb _ ?_;first|omega|(simp only [World.size_alloc,size_wr,size_drew]<;>omega)))) only [go_sem,↓reduceIte,n0,reduceCtorEq,n1,n2,n3,n4,n5,i0,i1,i2,i3,i4,i5,i6,i7,hb15,cR,fT,dQ,hq0,hq1,hq2,hq3,hq4,hq5,hq6,hq7,a8,aA,aB,aC,hri]
     refine ⟨gZ,?_⟩
     have gJ:Ext w10 w22:=((cE.drew.trans n8).trans eQ)
     have tG:=gJ.size
     obtain ⟨css,hown,hall⟩:=(hg.ext gJ).ex
     have hcl:=hall.1
     rw [hlj] at hcl
     have rC:TreeC (fun b=>(fun b=>w1.heap.size≤b) b∧b≠w.heap.size+1∧¬ ownB (.slice av j kv) b) w22 ((tl1 (tlP d) fQ_5.of fQ_5.sub) y) [.int .i64 0,.slice av22 (uuidS y.s).length kv22,.bool false,.slice none 0 0,.slice none 0 0]:=by
      exact TreeC.weaken (fun b _ hk=>⟨by omega,by omega,hnb b (.inr (by omega))⟩) (TreeC.intro rfl mX (treesN _ _) (tagsN _ _):TreeC _ _ (.oct false (uuidS y.s)) [.int .i64 0,.slice av22 (uuidS y.s).length kv22,.bool false,.slice none 0 0,.slice none 0 0])
     refine wp_append ap_34_34 (m:=1) (news:=[.int .i64 0,.slice none 0 0,.bool false,.slice none 0 0,.slice none 0 0]) (n:=css.length) (cs:=css.flatten) (v:=(.slice av j kv)) ?_ rfl hown.1 (all2_flat_tree hall) (Src.blk (fr:=(0,0)) (T:=37) (eQ.blk_some pE id) rfl rfl) ?_ ?_ ?_
     ·first|rfl|simp (maxSteps:=1000000)(disch:=(first|omega|(simp only [qI,qJ,qK]<;>omega)|exact qL _)) only [go_sem,↓reduceIte,n0,reduceCtorEq,n1,n2,n3,n4,n5,i0,i1,i2,i3,i4,i5,i6,i7]
     ·omega
     ·omega
     intro v' w23 ho hu hfr
     have hC:=(gZ:Upd (ownB (.slice av j kv)) w15.drew w22).trans hu
     have rY:=hC.size
     simp only [size_drew] at rY
     have iW:=hC.blk_some (show blk w15.drew (w.heap.size+1)=_ from cR) (hnb _ (.inl (by omega)))
     rcases ho.2 with ⟨_,h⟩|⟨g,cap,rest,fr,hv',hg',hbg,hlen,hth,hle⟩
     ·exact absurd h (Nat.succ_ne_zero _)
     subst hv'
     have hgne:¬ g=w.heap.size+1:=fun h=>(hfr g ⟨_,_,_,rfl,rfl⟩).elim (fun h'=>hnb _ (.inl (by omega)) (h ▸ h')) (fun h'=>by omega)
     have hfl:css.flatten.length=css.length * 5:=flatten_len hown.2
     have b7:(css.flatten++([.int .i64 0,.slice none 0 0,.bool false,.slice none 0 0,.slice none 0 0]:List Value)++rest).length=cap * 5:=by simp only [List.length_append] at hlen ⊢;omega
     obtain ⟨XX,hXX⟩:∃ X:Array Value,X=(css.flatten++([.int .i64 0,.slice none 0 0,.bool false,.slice none 0 0,.slice none 0 0]:List Value)++rest).toArray:=⟨_,rfl⟩
     have hbgX:blk w23 g=some (XX,37,fr):=by rw [hXX];exact hbg
     have hXsz:XX.size=cap * 5:=by rw [hXX,List.size_toArray];exact b7
     have aI:thaw fr (css.length * 5) 5=true:=thaw_of hth (by omega)
     have hst:css.length * 5+5≤XX.size:=by omega
     have hset:=Own.setlast (cs:=[.int .i64 0,.slice av22 (uuidS y.s).length kv22,.bool false,.slice none 0 0,.slice none 0 0]) ho rfl rfl
     have hu2:Upd (ownB (.slice av j kv)) w22 (wr w23 g (css.length * 5) [.int .i64 0,.slice av22 (uuidS y.s).length kv22,.bool false,.slice none 0 0,.slice none 0 0]):=hu.wr _ _ ((hfr g ⟨_,_,_,rfl,rfl⟩).symm)
     have hg2:=GrowT.snoc hown hall rC hu2 hfr hset
     have hcj:css.length=j:=by first|exact hcl.symm.trans hlj|omega
     simp only [hcj] at aI hst hset hu2 hg2
     refine ⟨hC,?_⟩
     try simp (maxSteps:=1000000)(disch:=(first|omega|(simp only [qI,qJ,qK]<;>omega)|exact qL _|(refine hnb _ ?_;first|omega|(simp only [World.size_alloc,size_wr,size_drew]<;>omega)))) only [go_sem,↓reduceIte,n0,reduceCtorEq,n1,n2,n3,n4,n5,i0,i1,i2,i3,i4,i5,i6,i7,iW,hbgX,aI,hst,hcj,a8,aA,aB,aC,hri]
     repeat ((first|refine qA rfl ?_|apply qB|refine qC rfl ?_|apply qD|apply qE|apply qF|apply qG|apply qH);try simp (maxSteps:=1000000)(disch:=(first|omega|(simp only [qI,qJ,qK]<;>omega)|exact qL _)) only [go_sem,↓reduceIte,n0,reduceCtorEq,n1,n2,n3,n4,n5,i0,i1,i2,i3,i4,i5,i6,i7,iW,hbgX,aI,hst,hcj,a8,aA,aB,aC,hri])
     refine ⟨⟨(by simp (maxSteps:=1000000)(disch:=(first|omega|(simp only [qI,qJ,qK]<;>omega)|exact qL _)) only [go_sem,↓reduceIte,n0,reduceCtorEq,n1,n2,n3,n4,n5,i0,i1,i2,i3,i4,i5,i6,i7,Holds_nil,Holds_cons,a8,aA,aB,aC,hri]),j+1,(by simp (maxSteps:=1000000)(disch:=(first|omega|(simp only [qI,qJ,qK]<;>omega)|exact qL _)) only [go_sem,↓reduceIte,n0,reduceCtorEq,n1,n2,n3,n4,n5,i0,i1,i2,i3,i4,i5,i6,i7,a8,aA,aB,aC,hri];all_goals rfl),.slice (some ⟨g,0,none⟩) (j+1) cap,by omega,?_,?_,?_⟩,?_⟩
     ·rw [blk_wr_ne (by omega),blk_wr_eq,iW];rfl
     ·rw [hcat,List.map_append,wr_comm (Ne.symm hgne)]
      exact hg2.upd ((Upd.refl _ _).wr _ _ (.inr rfl)) (fun h=>hgne (ownB_row h).symm)
     ·rw [wr_comm (Ne.symm hgne)]
      refine Upd.wr ?_ _ _ (.inr rfl)
      exact (hUk.more ((gJ.mono fun _ h=>h.elim).trans hu2) fun b hb h=>absurd h (hnb b (.inl hb)))
     ·try simp (maxSteps:=1000000)(disch:=(first|omega|(simp only [qI,qJ,qK]<;>omega)|exact qL _)) only [go_sem,↓reduceIte,n0,reduceCtorEq,n1,n2,n3,n4,n5,i0,i1,i2,i3,i4,i5,i6,i7,a8,aA,aB,aC,hri]
      simp only [RowKit.intOf];omega
  ·have hjn:j=L5.length:=by omega
   subst hjn
   rw [List.take_length] at hg
   repeat ((first|refine qA rfl ?_|apply qB|refine qC rfl ?_|apply qD|apply qE|apply qF|apply qG|apply qH);try simp (maxSteps:=1000000)(disch:=(first|omega|(simp only [qI,qJ,qK]<;>omega)|exact qL _)) only [go_sem,↓reduceIte,n0,reduceCtorEq,n1,n2,n3,n4,n5,i0,i1,i2,i3,i4,i5,i6,i7,a8,aA,aB,aC,hri])
   exact ⟨(by simp (maxSteps:=1000000)(disch:=(first|omega|(simp only [qI,qJ,qK]<;>omega)|exact qL _)) only [go_sem,↓reduceIte,n0,reduceCtorEq,n1,n2,n3,n4,n5,i0,i1,i2,i3,i4,i5,i6,i7,Holds_nil,Holds_cons,a8,aA,aB,aC,hri]),v,eA,hg,hUk⟩
 rintro ρ w24 ⟨⟨eH,eI,eJ,sQ,-⟩,v,iR,lI,l4⟩
 have bD:Upd (fun b=>b=w.heap.size+1∨b=w.heap.size+2) w9 w24:=l4.mono fun _ h=>.inl h
 have cD:Upd (fun b=>b=w.heap.size+1∨b=w.heap.size+2) w1 w24:=hU9.trans bD
 have mU:=cD.size
 have fB:Ext w w24:=hE1.more cD fun b hb h=>by omega
 have lE:=fB.blk_some hb id
 have kC:=l4.blk_some ht9 (by omega)
 obtain ⟨av5,kv5,hvs,_⟩:=lI.shape
 subst hvs
 have hf5:TreeC (fun b=>w1.heap.size≤b) w24 (.mk 0 [] (t.at 5).null (L5.map (tl1 (tlP d) fQ_5.of fQ_5.sub)) []) [.int .i64 0,.slice none 0 0,.bool (t.at 5).null,.slice av5 (List.map (tl1 (tlP d) fQ_5.of fQ_5.sub) L5).length kv5,.slice none 0 0]:=TreeC.intro rfl (BytesV.nil _ _) (lI.trees (fun _ _ h=>h) (fun b hb=>by have:=hz9;omega)) (tagsN _ _)
 repeat ((first|refine qA rfl ?_|apply qB|refine qC rfl ?_|apply qD|apply qE|apply qF|apply qG|apply qH);try simp (maxSteps:=1000000)(disch:=(first|omega|(simp only [qI,qJ,qK]<;>omega)|exact qL _)) only [go_sem,↓reduceIte,n0,reduceCtorEq,n1,n2,n3,n4,n5,i0,i1,i2,i3,i4,i5,i6,i7,lE,iR,kC,hq0,hq1,hq2,hq3,hq4,hq5,hq6,hq7,eH,eI,eJ])
 refine W.drawR (.take 0 (.take 1 (.take 2 (.take 3 (.take 4 (.take 5 (.take 6 (.take 7 (.take 8 (.last 9)))))))))) (NoB) mixed (by kernel_rfl) ?_
 try simp (maxSteps:=1000000)(disch:=(first|omega|(simp only [qI,qJ,qK]<;>omega)|exact qL _)) only [go_sem,↓reduceIte,n0,reduceCtorEq,n1,n2,n3,n4,n5,i0,i1,i2,i3,i4,i5,i6,i7,lE,iR,kC,hq0,hq1,hq2,hq3,hq4,hq5,hq6,hq7,eH,eI,eJ,lX]
 generalize cC:wr w24.drew (w.heap.size+1) 32 [.bool (t.at 6).null] = w25
 have lM:blk w25 (w.heap.size+1)=some (#[.int .i64 (IntKind.i32.wrap (t.at 0).n),.slice none 0 0,.bool false,.slice none 0 0,.slice none 0 0,.int .i64 ((t.at 1).n),.slice none 0 0,.bool false,.slice none 0 0,.slice none 0 0,.int .i64 ((t.at 2).n),.slice none 0 0,.bool false,.slice none 0 0,.slice none 0 0,.int .i64 (if decide ((t.at 3).n % 2=1)=true then 1 else 0:Int),.slice none 0 0,.bool false,.slice none 0 0,.slice none 0 0,.int .i64 (if decide ((t.at 4).n % 2=1)=true then 1 else 0:Int),.slice none 0 0,.bool false,.slice none 0 0,.slice none 0 0,.int .i64 0,.slice none 0 0,.bool (t.at 5).null,.slice av5 (List.map (tl1 (tlP d) fQ_5.of fQ_5.sub) L5).length kv5,.slice none 0 0,.int .i64 0,.slice none 0 0,.bool (t.at 6).null,.slice none 0 0,.slice none 0 0],37,(0,0)):=by rw [← cC,blk_wr_eq,show blk w24.drew (w.heap.size+1)=_ from iR];rfl
 have bE:Upd (fun b=>b=w.heap.size+1∨b=w.heap.size+2) w24 w25:=by rw [← cC];exact ((Upd.refl _ _).drew).wr _ _ (.inr (.inl rfl))
 have b5:Upd (fun b=>b=w.heap.size+1∨b=w.heap.size+2) w1 w25:=cD.trans bE
 have gD:=b5.size
 have lB:Ext w w25:=hE1.more b5 fun b hb h=>by omega
 have oA:=lB.blk_some hb id
 have kD:blk w25 (w.heap.size+2)=some (#[.int .i64 0,.slice none 0 0,.bool false,.slice (some ⟨w.heap.size+1,0,none⟩) 7 7,.slice none 0 0],37,(0,0)):=by
  rw [← cC,blk_wr_ne (by omega)]
  exact kC
 clear cC
 repeat ((first|refine qA rfl ?_|apply qB|refine qC rfl ?_|apply qD|apply qE|apply qF|apply qG|apply qH);try simp (maxSteps:=1000000)(disch:=(first|omega|(simp only [qI,qJ,qK]<;>omega)|exact qL _)) only [go_sem,↓reduceIte,n0,reduceCtorEq,n1,n2,n3,n4,n5,i0,i1,i2,i3,i4,i5,i6,i7,oA,lM,kD,hq0,hq1,hq2,hq3,hq4,hq5,hq6,hq7,eH,eI,eJ])
 refine W.exitJ 2 (EndQ [(0,.pointer (some ⟨b,0,none⟩)),(2,.pointer (some ⟨w.heap.size,0,none⟩)),(3,.pointer (some ⟨w.heap.size+2,0,none⟩)),(122,.int .i64 L6.length)] (fun w'=>∃ v,blk w' (w.heap.size+1)=some (#[.int .i64 (IntKind.i32.wrap (t.at 0).n),.slice none 0 0,.bool false,.slice none 0 0,.slice none 0 0,.int .i64 ((t.at 1).n),.slice none 0 0,.bool false,.slice none 0 0,.slice none 0 0,.int .i64 ((t.at 2).n),.slice none 0 0,.bool false,.slice none 0 0,.slice none 0 0,.int .i64 (if decide ((t.at 3).n % 2=1)=true then 1 else 0:Int),.slice none 0 0,.bool false,.slice none 0 0,.slice none 0 0,.int .i64 (if decide ((t.at 4).n % 2=1)=true then 1 else 0:Int),.slice none 0 0,.bool false,.slice none 0 0,.slice none 0 0,.int .i64 0,.slice none 0 0,.bool (t.at 5).null,.slice av5 (List.map (tl1 (tlP d) fQ_5.of fQ_5.sub) L5).length kv5,.slice none 0 0,.int .i64 0,.slice none 0 0,.bool (t.at 6).null,v,.slice none 0 0],37,(0,0))∧GrowT (fun b=>w1.heap.size≤b) w25.heap.size (w.heap.size+1) w' 37 v (L6.map (tl1 (tlP d) frQ_6.of frQ_6.sub))∧Upd (fun b=>b=w.heap.size+1) w25 w')) (W.loop (LoopL [(0,.pointer (some ⟨b,0,none⟩)),(2,.pointer (some ⟨w.heap.size,0,none⟩)),(3,.pointer (some ⟨w.heap.size+2,0,none⟩)),(122,.int .i64 L6.length)] 123 (fun j w'=>∃ v,j≤L6.length∧blk w' (w.heap.size+1)=some (#[.int .i64 (IntKind.i32.wrap (t.at 0).n),.slice none 0 0,.bool false,.slice none 0 0,.slice none 0 0,.int .i64 ((t.at 1).n),.slice none 0 0,.bool false,.slice none 0 0,.slice none 0 0,.int .i64 ((t.at 2).n),.slice none 0 0,.bool false,.slice none 0 0,.slice none 0 0,.int .i64 (if decide ((t.at 3).n % 2=1)=true then 1 else 0:Int),.slice none 0 0,.bool false,.slice none 0 0,.slice none 0 0,.int .i64 (if decide ((t.at 4).n % 2=1)=true then 1 else 0:Int),.slice none 0 0,.bool false,.slice none 0 0,.slice none 0 0,.int .i64 0,.slice none 0 0,.bool (t.at 5).null,.slice av5 (List.map (tl1 (tlP d) fQ_5.of fQ_5.sub) L5).length kv5,.slice none 0 0,.int .i64 0,.slice none 0 0,.bool (t.at 6).null,v,.slice none 0 0],37,(0,0))∧GrowT (fun b=>w1.heap.size≤b) w25.heap.size (w.heap.size+1) w' 37 v ((L6.take j).map (tl1 (tlP d) frQ_6.of frQ_6.sub))∧Upd (fun b=>b=w.heap.size+1) w25 w')) (fun ρ _=>L6.length - (RowKit.intOf (ρ 123)).toNat) ?_ ?_) ?_
 ·exact ⟨(by simp (maxSteps:=1000000)(disch:=(first|omega|(simp only [qI,qJ,qK]<;>omega)|exact qL _)) only [go_sem,↓reduceIte,n0,reduceCtorEq,n1,n2,n3,n4,n5,i0,i1,i2,i3,i4,i5,i6,i7,Holds_nil,Holds_cons,eH,eI,eJ]),0,(by simp (maxSteps:=1000000)(disch:=(first|omega|(simp only [qI,qJ,qK]<;>omega)|exact qL _)) only [go_sem,↓reduceIte,n0,reduceCtorEq,n1,n2,n3,n4,n5,i0,i1,i2,i3,i4,i5,i6,i7,eH,eI,eJ];all_goals rfl),.slice none 0 0,Nat.zero_le _,lM,GrowT.nil _ _ _ _ _,Upd.refl _ _⟩
 ·rintro ρ w26 ⟨⟨aD,aF,aG,aE,-⟩,j,hri,v,hj,eB,hg,hUk⟩
  have hzk:=hUk.size
  have iO:Ext w w26:=lB.more hUk fun b hb h=>by omega
  have rU:w1.heap.size≤w26.heap.size:=by have:=gD;omega
  have fD:=iO.blk_some hb id
  have fV:=hUk.blk_some kD (by omega)
  by_cases hlt:j < L6.length
  ·obtain ⟨_,be,oe,xe,ce,hbe,hoke,hxe,hble,hxs,hxx,hqe,hRe⟩:=SlR.get (size:=16) (by decide) hs6 hlt
   subst hbe
   have hcat:L6.take (j+1)=L6.take j++[L6[j]]:=List.take_succ_eq_append_getElem hlt
   have hgy:=lL.2 _ (List.getElem_mem hlt)
   have hll:=lL.1
   obtain ⟨av,kv,hvs,_⟩:=hg.shape
   have hlj:(List.map (tl1 (tlP d) frQ_6.of frQ_6.sub) (L6.take j)).length=j:=by simp;omega
   rw [hlj] at hvs
   subst hvs
   have hnb:∀ b,b < w25.heap.size∨w26.heap.size≤b→¬ ownB (.slice av j kv) b:=fun b hb h=>by
    have:=hg.above h
    have:=hg.below h
    omega
   generalize L6[j] = y at *
   have hce:ce=(uuidS y.s).map byteV:=by
    have h:Rep1 _ 7 _ _ _ _ _:=hRe
    unfold Rep1 at h;rw [if_pos rfl] at h;exact h
   subst hce
   have cW:∀ k,k < 16→xe.1[oe+j * 16+k]? = ((uuidS y.s).map byteV)[k]?:=fun k hk=>by have h:=hqe k hk;rw [← Nat.add_assoc] at h;exact h
   repeat ((first|refine qA rfl ?_|apply qB|refine qC rfl ?_|apply qD|apply qE|apply qF|apply qG|apply qH);try simp (maxSteps:=1000000)(disch:=(first|omega|(simp only [qI,qJ,qK]<;>omega)|exact qL _)) only [go_sem,↓reduceIte,n0,reduceCtorEq,n1,n2,n3,n4,n5,i0,i1,i2,i3,i4,i5,i6,i7,fD,eB,fV,hq0,hq1,hq2,hq3,hq4,hq5,hq6,hq7,aD,aF,aG,aE,hri])
   refine W.drawR (.only 0 (.two 1 (.only 2 (.only 3 .done)) 2 (.only 1 (.only 3 .done)))) NoB mixed (by kernel_rfl) ?_
   try simp (maxSteps:=1000000)(disch:=(first|omega|(simp only [qI,qJ,qK]<;>omega)|exact qL _)) only [go_sem,↓reduceIte,n0,reduceCtorEq,n1,n2,n3,n4,n5,i0,i1,i2,i3,i4,i5,i6,i7,fD,eB,fV,hq0,hq1,hq2,hq3,hq4,hq5,hq6,hq7,aD,aF,aG,aE,hri]
   have q0:Upd NoB w26.drew (w26.alloc (.cells #[.bool false] 4)).drew:=show Upd NoB w26.drew (w26.drew.alloc (.cells #[.bool false] 4)) from Upd.alloc (Upd.refl _ _) _
   have q1:Upd NoB w26.drew (wr (w26.alloc (.cells #[.bool false] 4)).drew w26.heap.size 0 [.bool true]):=q0.wr _ _ (.inl (Nat.le_refl _))
   have q2:Upd NoB w26.drew (wr (wr (w26.alloc (.cells #[.bool false] 4)).drew w26.heap.size 0 [.bool true]) w26.heap.size 0 [.bool false]):=q1.wr _ _ (.inl (Nat.le_refl _))
   have q3:Upd NoB w26.drew (wr (w26.alloc (.cells #[.bool false] 4)).drew w26.heap.size 0 [.bool false]):=q0.wr _ _ (.inl (Nat.le_refl _))
   have q4:Upd NoB w26.drew (wr (wr (w26.alloc (.cells #[.bool false] 4)).drew w26.heap.size 0 [.bool false]) w26.heap.size 0 [.bool true]):=q3.wr _ _ (.inl (Nat.le_refl _))
   refine ⟨q0,⟨q1,q2,q2,?_⟩,⟨q3,q4,q4,?_⟩⟩
   ·have dP:Ext w26 (wr (wr (w26.alloc (.cells #[.bool false] 4)).drew w26.heap.size 0 [.bool true]) w26.heap.size 0 [.bool false]):=((Upd.refl _ _).drew).trans q2
    generalize (wr (wr (w26.alloc (.cells #[.bool false] 4)).drew w26.heap.size 0 [.bool true]) w26.heap.size 0 [.bool false])=w27 at *
    have tB:=dP.size
    have nW:Ext w w27:=iO.trans dP
    have iQ:=dP.blk_some fD id
    have fI:=dP.blk_some eB id
    have kE:=dP.blk_some fV id
    have gC:=nW.blk_some hxe id
    repeat ((first|refine qA rfl ?_|apply qB|refine qC rfl ?_|apply qD|apply qE|apply qF|apply qG|apply qH);try simp (maxSteps:=1000000)(disch:=(first|omega|(simp only [qI,qJ,qK]<;>omega)|exact qL _)) only [go_sem,↓reduceIte,n0,reduceCtorEq,n1,n2,n3,n4,n5,i0,i1,i2,i3,i4,i5,i6,i7,iQ,fI,kE,gC,hq0,hq1,hq2,hq3,hq4,hq5,hq6,hq7,aD,aF,aG,aE,hri])
    refine W.drawR (.take 0 (.take 1 (.take 2 (.take 3 (.take 4 (.take 5 (.take 6 (.take 7 (.take 8 (.take 9 (.take 10 (.take 11 (.take 12 (.take 13 (.only 14 (.only 15 (.only 16 (.only 17 (.take 18 (.take 19 (.last 20))))))))))))))))))))) (ownB (.slice av j kv)) mixed (by kernel_rfl) ?_
    try simp (maxSteps:=1000000)(disch:=(first|omega|(simp only [qI,qJ,qK]<;>omega)|exact qL _|(refine hnb _ ?_;first|omega|(simp only [World.size_alloc,size_wr,size_drew]<;>omega)))) only [go_sem,↓reduceIte,n0,reduceCtorEq,n1,n2,n3,n4,n5,i0,i1,i2,i3,i4,i5,i6,i7,iQ,fI,kE,gC,hq0,hq1,hq2,hq3,hq4,hq5,hq6,hq7,aD,aF,aG,aE,hri]
    have rL:=(Upd.refl _ _:Upd (ownB (.slice av j kv)) w27.drew w27.drew).blk_some (show blk w27.drew be=_ from gC) (hnb _ (.inl (by omega)))
    have oJ:BytesV AnyB w27.drew (.slice (some ⟨be,oe+j * 16,none⟩) 16 16) (uuidS y.s):=bytes_at rL (uuidS_len _) cW
    refine wp_copyN ap_22_22 (ok:=AnyB) (s:=uuidS y.s) (v:=.slice (some ⟨be,oe+j * 16,none⟩) 16 16) (by first|rfl|simp (maxSteps:=1000000)(disch:=(first|omega|(simp only [qI,qJ,qK]<;>omega)|exact qL _)) only [go_sem,↓reduceIte,n0,reduceCtorEq,n1,n2,n3,n4,n5,i0,i1,i2,i3,i4,i5,i6,i7]) (by first|rfl|simp (maxSteps:=1000000)(disch:=(first|omega|(simp only [qI,qJ,qK]<;>omega)|exact qL _)) only [go_sem,↓reduceIte,n0,reduceCtorEq,n1,n2,n3,n4,n5,i0,i1,i2,i3,i4,i5,i6,i7]) oJ (by rw [uuidS_len];omega) ?_
    intro v28 w28 m5 gQ oP
    obtain ⟨av28,kv28,rfl,_⟩:=m5.shape
    have mY:=Own.bytes (ok:=fun b=>w27.drew.heap.size≤b) m5 fun b hb=>oP b hb
    have hD:Upd (ownB (.slice av j kv)) w27.drew w28:=(Upd.refl _ _).trans (gQ.mono fun _ h=>h.elim)
    have qO:=gQ.size
    try simp only [size_drew] at qO
    refine ⟨hD,?_⟩
    try simp (maxSteps:=1000000)(disch:=(first|omega|(simp only [qI,qJ,qK]<;>omega)|exact qL _|(refine hnb _ ?_;first|omega|(simp only [World.size_alloc,size_wr,size_drew]<;>omega)))) only [go_sem,↓reduceIte,n0,reduceCtorEq,n1,n2,n3,n4,n5,i0,i1,i2,i3,i4,i5,i6,i7,iQ,fI,kE,gC,hq0,hq1,hq2,hq3,hq4,hq5,hq6,hq7,aD,aF,aG,aE,hri]
    refine ⟨hD,?_⟩
    have kW:Upd (ownB (.slice av j kv)) w27.drew (w28.alloc (.cells #[.int .i64 0,.slice av28 (uuidS y.s).length kv28,.bool false,.slice none 0 0,.slice none 0 0] 37)):=show Upd (ownB (.slice av j kv)) w27.drew (w28.alloc (.cells #[.int .i64 0,.slice av28 (uuidS y.s).length kv28,.bool false,.slice none 0 0,.slice none 0 0] 37)) from (hD).alloc _
    have pF:blk (w28.alloc (.cells #[.int .i64 0,.slice av28 (uuidS y.s).length kv28,.bool false,.slice none 0 0,.slice none 0 0] 37)) w28.heap.size=some (#[.int .i64 0,.slice av28 (uuidS y.s).length kv28,.bool false,.slice none 0 0,.slice none 0 0],37,(0,0)):=show blk (w28.alloc (.cells #[.int .i64 0,.slice av28 (uuidS y.s).length kv28,.bool false,.slice none 0 0,.slice none 0 0] 37)) w28.heap.size=some (#[.int .i64 0,.slice av28 (uuidS y.s).length kv28,.bool false,.slice none 0 0,.slice none 0 0],37,(0,0)) from blk_alloc_new rfl
    have qP:(w28.alloc (.cells #[.int .i64 0,.slice av28 (uuidS y.s).length kv28,.bool false,.slice none 0 0,.slice none 0 0] 37)).heap.size=w28.heap.size+1:=show (w28.alloc (.cells #[.int .i64 0,.slice av28 (uuidS y.s).length kv28,.bool false,.slice none 0 0,.slice none 0 0] 37)).heap.size=w28.heap.size+1 from World.size_alloc _ _
    have kN:Ext w28 (w28.alloc (.cells #[.int .i64 0,.slice av28 (uuidS y.s).length kv28,.bool false,.slice none 0 0,.slice none 0 0] 37)):=show Ext w28 (w28.alloc (.cells #[.int .i64 0,.slice av28 (uuidS y.s).length kv28,.bool false,.slice none 0 0,.slice none 0 0] 37)) from Upd.alloc (Upd.refl _ _) _
    refine ⟨kW,?_⟩
    try simp only [List.append_nil]
    generalize (w28.alloc (.cells #[.int .i64 0,.slice av28 (uuidS y.s).length kv28,.bool false,.slice none 0 0,.slice none 0 0] 37))=w29 at *
    try simp only [size_drew] at qP
    have gK:Ext w26 w29:=((dP.drew.trans gQ).trans kN)
    have tH:=gK.size
    obtain ⟨css,hown,hall⟩:=(hg.ext gK).ex
    have hcl:=hall.1
    rw [hlj] at hcl
    have rD:TreeC (fun b=>(fun b=>w1.heap.size≤b) b∧b≠w.heap.size+1∧¬ ownB (.slice av j kv) b) w29 ((tl1 (tlP d) frQ_6.of frQ_6.sub) y) [.int .i64 0,.slice av28 (uuidS y.s).length kv28,.bool false,.slice none 0 0,.slice none 0 0]:=by
     exact TreeC.weaken (fun b _ hk=>⟨by omega,by omega,hnb b (.inr (by omega))⟩) (TreeC.weaken (ok':=fun b=>w26.heap.size≤b) (fun b _ hk=>by have hk':w27.drew.heap.size≤b:=hk;(try simp only [size_drew] at hk');omega) (TreeC.keep (Ext.keeps kN _) (TreeC.intro rfl mY (treesN _ _) (tagsN _ _):TreeC _ _ (.oct false (uuidS y.s)) [.int .i64 0,.slice av28 (uuidS y.s).length kv28,.bool false,.slice none 0 0,.slice none 0 0])))
    refine wp_append ap_34_34 (m:=1) (news:=[.int .i64 0,.slice av28 (uuidS y.s).length kv28,.bool false,.slice none 0 0,.slice none 0 0]) (n:=css.length) (cs:=css.flatten) (v:=(.slice av j kv)) ?_ rfl hown.1 (all2_flat_tree hall) (Src.blk (fr:=(0,0)) (T:=37) pF rfl rfl) ?_ ?_ ?_
    ·first|rfl|simp (maxSteps:=1000000)(disch:=(first|omega|(simp only [qI,qJ,qK]<;>omega)|exact qL _)) only [go_sem,↓reduceIte,n0,reduceCtorEq,n1,n2,n3,n4,n5,i0,i1,i2,i3,i4,i5,i6,i7]
    ·omega
    ·omega
    intro v' w30 ho hu hfr
    have hH:=(kW:Upd (ownB (.slice av j kv)) w27.drew w29).trans hu
    have rZ:=hH.size
    simp only [size_drew] at rZ
    have iX:=hH.blk_some (show blk w27.drew (w.heap.size+1)=_ from fI) (hnb _ (.inl (by omega)))
    have hg':=GrowT.snoc hown hall rD hu hfr ho
    obtain ⟨va,vc,hv',_⟩:=ho.shape
    subst hv'
    have hne:¬ ownB (.slice va (css.length+1) vc) (w.heap.size+1):=fun h=>(hfr _ h).elim (hnb _ (.inl (by omega))) (fun h=>by omega)
    refine ⟨hH,?_⟩
    try simp (maxSteps:=1000000)(disch:=(first|omega|(simp only [qI,qJ,qK]<;>omega)|exact qL _|(refine hnb _ ?_;first|omega|(simp only [World.size_alloc,size_wr,size_drew]<;>omega)))) only [go_sem,↓reduceIte,n0,reduceCtorEq,n1,n2,n3,n4,n5,i0,i1,i2,i3,i4,i5,i6,i7,iX,aD,aF,aG,aE,hri]
    repeat ((first|refine qA rfl ?_|apply qB|refine qC rfl ?_|apply qD|apply qE|apply qF|apply qG|apply qH);try simp (maxSteps:=1000000)(disch:=(first|omega|(simp only [qI,qJ,qK]<;>omega)|exact qL _)) only [go_sem,↓reduceIte,n0,reduceCtorEq,n1,n2,n3,n4,n5,i0,i1,i2,i3,i4,i5,i6,i7,iX,aD,aF,aG,aE,hri])
    refine ⟨⟨(by simp (maxSteps:=1000000)(disch:=(first|omega|(simp only [qI,qJ,qK]<;>omega)|exact qL _)) only [go_sem,↓reduceIte,n0,reduceCtorEq,n1,n2,n3,n4,n5,i0,i1,i2,i3,i4,i5,i6,i7,Holds_nil,Holds_cons,aD,aF,aG,aE,hri]),j+1,(by simp (maxSteps:=1000000)(disch:=(first|omega|(simp only [qI,qJ,qK]<;>omega)|exact qL _)) only [go_sem,↓reduceIte,n0,reduceCtorEq,n1,n2,n3,n4,n5,i0,i1,i2,i3,i4,i5,i6,i7,aD,aF,aG,aE,hri];all_goals rfl),.slice va (css.length+1) vc,by omega,?_,?_,?_⟩,?_⟩
    ·rw [blk_wr_eq,iX];rfl
    ·rw [hcat,List.map_append];exact hg'.upd ((Upd.refl _ _).wr _ _ (.inr rfl)) hne
    ·refine Upd.wr ?_ _ _ (.inr rfl)
     exact (hUk.more ((gK.mono fun _ h=>h.elim).trans hu) fun b hb h=>absurd h (hnb b (.inl hb)))
    ·try simp (maxSteps:=1000000)(disch:=(first|omega|(simp only [qI,qJ,qK]<;>omega)|exact qL _)) only [go_sem,↓reduceIte,n0,reduceCtorEq,n1,n2,n3,n4,n5,i0,i1,i2,i3,i4,i5,i6,i7,aD,aF,aG,aE,hri]
     simp only [RowKit.intOf];omega
   ·have cF:Ext w26 (wr (wr (w26.alloc (.cells #[.bool false] 4)).drew w26.heap.size 0 [.bool false]) w26.heap.size 0 [.bool true]):=((Upd.refl _ _).drew).trans q4
    generalize (wr (wr (w26.alloc (.cells #[.bool false] 4)).drew w26.heap.size 0 [.bool false]) w26.heap.size 0 [.bool true])=w31 at *
    have tC:=cF.size
    have nX:Ext w w31:=iO.trans cF
    have fE:=cF.blk_some fD id
    have cV:=cF.blk_some eB id
    have fW:=cF.blk_some fV id
    have dR:=nX.blk_some hxe id
    repeat ((first|refine qA rfl ?_|apply qB|refine qC rfl ?_|apply qD|apply qE|apply qF|apply qG|apply qH);try simp (maxSteps:=1000000)(disch:=(first|omega|(simp only [qI,qJ,qK]<;>omega)|exact qL _)) only [go_sem,↓reduceIte,n0,reduceCtorEq,n1,n2,n3,n4,n5,i0,i1,i2,i3,i4,i5,i6,i7,fE,cV,fW,dR,hq0,hq1,hq2,hq3,hq4,hq5,hq6,hq7,aD,aF,aG,aE,hri])
    refine W.drawR (.take 0 (.take 1 (.take 2 (.take 3 (.take 4 (.take 5 (.take 6 (.take 7 (.take 8 (.take 9 (.take 10 (.take 11 (.take 14 (.two 12 (.two 13 (.only 15 (.only 16 (.take 17 (.take 18 (.last 19))))) 15 (.only 13 (.only 16 (.take 17 (.take 18 (.last 19)))))) 15 (.only 12 (.only 13 (.only 16 (.take 17 (.take 18 (.last 19)))))))))))))))))))) (ownB (.slice av j kv)) mixed (by kernel_rfl) ?_
    try simp (maxSteps:=1000000)(disch:=(first|omega|(simp only [qI,qJ,qK]<;>omega)|exact qL _|(refine hnb _ ?_;first|omega|(simp only [World.size_alloc,size_wr,size_drew]<;>omega)))) only [go_sem,↓reduceIte,n0,reduceCtorEq,n1,n2,n3,n4,n5,i0,i1,i2,i3,i4,i5,i6,i7,fE,cV,fW,dR,hq0,hq1,hq2,hq3,hq4,hq5,hq6,hq7,aD,aF,aG,aE,hri]
    refine ⟨?_,?_⟩
    ·skip
     have rM:=(Upd.refl _ _:Upd (ownB (.slice av j kv)) w31.drew w31.drew).blk_some (show blk w31.drew be=_ from dR) (hnb _ (.inl (by omega)))
     have oK:BytesV AnyB w31.drew (.slice (some ⟨be,oe+j * 16,none⟩) 16 16) (uuidS y.s):=bytes_at rM (uuidS_len _) cW
     refine wp_copyN ap_22_22 (ok:=AnyB) (s:=uuidS y.s) (v:=.slice (some ⟨be,oe+j * 16,none⟩) 16 16) (by first|rfl|simp (maxSteps:=1000000)(disch:=(first|omega|(simp only [qI,qJ,qK]<;>omega)|exact qL _)) only [go_sem,↓reduceIte,n0,reduceCtorEq,n1,n2,n3,n4,n5,i0,i1,i2,i3,i4,i5,i6,i7]) (by first|rfl|simp (maxSteps:=1000000)(disch:=(first|omega|(simp only [qI,qJ,qK]<;>omega)|exact qL _)) only [go_sem,↓reduceIte,n0,reduceCtorEq,n1,n2,n3,n4,n5,i0,i1,i2,i3,i4,i5,i6,i7]) oK (by rw [uuidS_len];omega) ?_
     intro v32 w32 m6 eR oQ
     obtain ⟨av32,kv32,rfl,_⟩:=m6.shape
     have kI:=Own.bytes (ok:=fun b=>w31.drew.heap.size≤b) m6 fun b hb=>oQ b hb
     have eW:Upd (ownB (.slice av j kv)) w31.drew w32:=(Upd.refl _ _).trans (eR.mono fun _ h=>h.elim)
     have qQ:=eR.size
     try simp only [size_drew] at qQ
     refine ⟨eW,?_⟩
     try simp (maxSteps:=1000000)(disch:=(first|omega|(simp only [qI,qJ,qK]<;>omega)|exact qL _|(refine hnb _ ?_;first|omega|(simp only [World.size_alloc,size_wr,size_drew]<;>omega)))) only [go_sem,↓reduceIte,n0,reduceCtorEq,n1,n2,n3,n4,n5,i0,i1,i2,i3,i4,i5,i6,i7,fE,cV,fW,dR,hq0,hq1,hq2,hq3,hq4,hq5,hq6,hq7,aD,aF,aG,aE,hri]
     refine ⟨?_,?_⟩
     ·skip
      refine ⟨eW,?_⟩
      have kX:Upd (ownB (.slice av j kv)) w31.drew (w32.alloc (.cells qZ5 37)):=show Upd (ownB (.slice av j kv)) w31.drew (w32.alloc (.cells qZ5 37)) from (eW).alloc _
      have pG:blk (w32.alloc (.cells qZ5 37)) w32.heap.size=some (qZ5,37,(0,0)):=show blk (w32.alloc (.cells qZ5 37)) w32.heap.size=some (qZ5,37,(0,0)) from blk_alloc_new rfl
      have qR:(w32.alloc (.cells qZ5 37)).heap.size=w32.heap.size+1:=show (w32.alloc (.cells qZ5 37)).heap.size=w32.heap.size+1 from World.size_alloc _ _
      have kO:Ext w32 (w32.alloc (.cells qZ5 37)):=show Ext w32 (w32.alloc (.cells qZ5 37)) from Upd.alloc (Upd.refl _ _) _
      refine ⟨kX,?_⟩
      try simp only [List.append_nil]
      generalize (w32.alloc (.cells qZ5 37))=w33 at *
      try simp only [size_drew] at qR
      have gM:Ext w26 w33:=((cF.drew.trans eR).trans kO)
      have tI:=gM.size
      obtain ⟨css,hown,hall⟩:=(hg.ext gM).ex
      have hcl:=hall.1
      rw [hlj] at hcl
      have rE:TreeC (fun b=>(fun b=>w1.heap.size≤b) b∧b≠w.heap.size+1∧¬ ownB (.slice av j kv) b) w33 ((tl1 (tlP d) frQ_6.of frQ_6.sub) y) [.int .i64 0,.slice av32 (uuidS y.s).length kv32,.bool false,.slice none 0 0,.slice none 0 0]:=by
       exact TreeC.weaken (fun b _ hk=>⟨by omega,by omega,hnb b (.inr (by omega))⟩) (TreeC.weaken (ok':=fun b=>w26.heap.size≤b) (fun b _ hk=>by have hk':w31.drew.heap.size≤b:=hk;(try simp only [size_drew] at hk');omega) (TreeC.keep (Ext.keeps kO _) (TreeC.intro rfl kI (treesN _ _) (tagsN _ _):TreeC _ _ (.oct false (uuidS y.s)) [.int .i64 0,.slice av32 (uuidS y.s).length kv32,.bool false,.slice none 0 0,.slice none 0 0])))
      refine wp_append ap_34_34 (m:=1) (news:=[.int .i64 0,.slice none 0 0,.bool false,.slice none 0 0,.slice none 0 0]) (n:=css.length) (cs:=css.flatten) (v:=(.slice av j kv)) ?_ rfl hown.1 (all2_flat_tree hall) (Src.blk (fr:=(0,0)) (T:=37) pG rfl rfl) ?_ ?_ ?_
      ·first|rfl|simp (maxSteps:=1000000)(disch:=(first|omega|(simp only [qI,qJ,qK]<;>omega)|exact qL _)) only [go_sem,↓reduceIte,n0,reduceCtorEq,n1,n2,n3,n4,n5,i0,i1,i2,i3,i4,i5,i6,i7]
      ·omega
      ·omega
      intro v' w34 ho hu hfr
      have hY:=(kX:Upd (ownB (.slice av j kv)) w31.drew w33).trans hu
      have sB:=hY.size
      simp only [size_drew] at sB
      have iY:=hY.blk_some (show blk w31.drew (w.heap.size+1)=_ from cV) (hnb _ (.inl (by omega)))
      rcases ho.2 with ⟨_,h⟩|⟨g,cap,rest,fr,hv',hg',hbg,hlen,hth,hle⟩
      ·exact absurd h (Nat.succ_ne_zero _)
      subst hv'
      have hgne:¬ g=w.heap.size+1:=fun h=>(hfr g ⟨_,_,_,rfl,rfl⟩).elim (fun h'=>hnb _ (.inl (by omega)) (h ▸ h')) (fun h'=>by omega)
      have hfl:css.flatten.length=css.length * 5:=flatten_len hown.2
      have b7:(css.flatten++([.int .i64 0,.slice none 0 0,.bool false,.slice none 0 0,.slice none 0 0]:List Value)++rest).length=cap * 5:=by simp only [List.length_append] at hlen ⊢;omega
      obtain ⟨XX,hXX⟩:∃ X:Array Value,X=(css.flatten++([.int .i64 0,.slice none 0 0,.bool false,.slice none 0 0,.slice none 0 0]:List Value)++rest).toArray:=⟨_,rfl⟩
      have hbgX:blk w34 g=some (XX,37,fr):=by rw [hXX];exact hbg
      have hXsz:XX.size=cap * 5:=by rw [hXX,List.size_toArray];exact b7
      have aI:thaw fr (css.length * 5) 5=true:=thaw_of hth (by omega)
      have hst:css.length * 5+5≤XX.size:=by omega
      have hset:=Own.setlast (cs:=[.int .i64 0,.slice av32 (uuidS y.s).length kv32,.bool false,.slice none 0 0,.slice none 0 0]) ho rfl rfl
      have hu2:Upd (ownB (.slice av j kv)) w33 (wr w34 g (css.length * 5) [.int .i64 0,.slice av32 (uuidS y.s).length kv32,.bool false,.slice none 0 0,.slice none 0 0]):=hu.wr _ _ ((hfr g ⟨_,_,_,rfl,rfl⟩).symm)
      have hg2:=GrowT.snoc hown hall rE hu2 hfr hset
      have hcj:css.length=j:=by first|exact hcl.symm.trans hlj|omega
      simp only [hcj] at aI hst hset hu2 hg2
      refine ⟨hY,?_⟩
      try simp (maxSteps:=1000000)(disch:=(first|omega|(simp only [qI,qJ,qK]<;>omega)|exact qL _|(refine hnb _ ?_;first|omega|(simp only [World.size_alloc,size_wr,size_drew]<;>omega)))) only [go_sem,↓reduceIte,n0,reduceCtorEq,n1,n2,n3,n4,n5,i0,i1,i2,i3,i4,i5,i6,i7,iY,hbgX,aI,hst,hcj,aD,aF,aG,aE,hri]
      repeat ((first|refine qA rfl ?_|apply qB|refine qC rfl ?_|apply qD|apply qE|apply qF|apply qG|apply qH);try simp (maxSteps:=1000000)(disch:=(first|omega|(simp only [qI,qJ,qK]<;>omega)|exact qL _)) only [go_sem,↓reduceIte,n0,reduceCtorEq,n1,n2,n3,n4,n5,i0,i1,i2,i3,i4,i5,i6,i7,iY,hbgX,aI,hst,hcj,aD,aF,aG,aE,hri])
      refine ⟨⟨(by simp (maxSteps:=1000000)(disch:=(first|omega|(simp only [qI,qJ,qK]<;>omega)|exact qL _)) only [go_sem,↓reduceIte,n0,reduceCtorEq,n1,n2,n3,n4,n5,i0,i1,i2,i3,i4,i5,i6,i7,Holds_nil,Holds_cons,aD,aF,aG,aE,hri]),j+1,(by simp (maxSteps:=1000000)(disch:=(first|omega|(simp only [qI,qJ,qK]<;>omega)|exact qL _)) only [go_sem,↓reduceIte,n0,reduceCtorEq,n1,n2,n3,n4,n5,i0,i1,i2,i3,i4,i5,i6,i7,aD,aF,aG,aE,hri];all_goals rfl),.slice (some ⟨g,0,none⟩) (j+1) cap,by omega,?_,?_,?_⟩,?_⟩
      ·rw [blk_wr_ne (by omega),blk_wr_eq,iY];rfl
      ·rw [hcat,List.map_append,wr_comm (Ne.symm hgne)]
       exact hg2.upd ((Upd.refl _ _).wr _ _ (.inr rfl)) (fun h=>hgne (ownB_row h).symm)
      ·rw [wr_comm (Ne.symm hgne)]
       refine Upd.wr ?_ _ _ (.inr rfl)
       exact (hUk.more ((gM.mono fun _ h=>h.elim).trans hu2) fun b hb h=>absurd h (hnb b (.inl hb)))
      ·try simp (maxSteps:=1000000)(disch:=(first|omega|(simp only [qI,qJ,qK]<;>omega)|exact qL _)) only [go_sem,↓reduceIte,n0,reduceCtorEq,n1,n2,n3,n4,n5,i0,i1,i2,i3,i4,i5,i6,i7,aD,aF,aG,aE,hri]
       simp only [RowKit.intOf];omega
     ·skip
      have hZ:Upd (ownB (.slice av j kv)) w31.drew (w32.alloc (.cells qZ5 37)):=show Upd (ownB (.slice av j kv)) w31.drew (w32.alloc (.cells qZ5 37)) from (eW).alloc _
      have pH:blk (w32.alloc (.cells qZ5 37)) w32.heap.size=some (qZ5,37,(0,0)):=show blk (w32.alloc (.cells qZ5 37)) w32.heap.size=some (qZ5,37,(0,0)) from blk_alloc_new rfl
      have qS:(w32.alloc (.cells qZ5 37)).heap.size=w32.heap.size+1:=show (w32.alloc (.cells qZ5 37)).heap.size=w32.heap.size+1 from World.size_alloc _ _
      have kP:Ext w32 (w32.alloc (.cells qZ5 37)):=show Ext w32 (w32.alloc (.cells qZ5 37)) from Upd.alloc (Upd.refl _ _) _
      refine ⟨hZ,?_⟩
      try simp only [List.append_nil]
      generalize (w32.alloc (.cells qZ5 37))=w35 at *
      try simp only [size_drew] at qS
      refine ⟨hZ,?_⟩
      have gN:Ext w26 w35:=((cF.drew.trans eR).trans kP)
      have tJ:=gN.size
      obtain ⟨css,hown,hall⟩:=(hg.ext gN).ex
      have hcl:=hall.1
      rw [hlj] at hcl
      have rF:TreeC (fun b=>(fun b=>w1.heap.size≤b) b∧b≠w.heap.size+1∧¬ ownB (.slice av j kv) b) w35 ((tl1 (tlP d) frQ_6.of frQ_6.sub) y) [.int .i64 0,.slice av32 (uuidS y.s).length kv32,.bool false,.slice none 0 0,.slice none 0 0]:=by
       exact TreeC.weaken (fun b _ hk=>⟨by omega,by omega,hnb b (.inr (by omega))⟩) (TreeC.weaken (ok':=fun b=>w26.heap.size≤b) (fun b _ hk=>by have hk':w31.drew.heap.size≤b:=hk;(try simp only [size_drew] at hk');omega) (TreeC.keep (Ext.keeps kP _) (TreeC.intro rfl kI (treesN _ _) (tagsN _ _):TreeC _ _ (.oct false (uuidS y.s)) [.int .i64 0,.slice av32 (uuidS y.s).length kv32,.bool false,.slice none 0 0,.slice none 0 0])))
      refine wp_append ap_34_34 (m:=1) (news:=[.int .i64 0,.slice none 0 0,.bool false,.slice none 0 0,.slice none 0 0]) (n:=css.length) (cs:=css.flatten) (v:=(.slice av j kv)) ?_ rfl hown.1 (all2_flat_tree hall) (Src.blk (fr:=(0,0)) (T:=37) pH rfl rfl) ?_ ?_ ?_
      ·first|rfl|simp (maxSteps:=1000000)(disch:=(first|omega|(simp only [qI,qJ,qK]<;>omega)|exact qL _)) only [go_sem,↓reduceIte,n0,reduceCtorEq,n1,n2,n3,n4,n5,i0,i1,i2,i3,i4,i5,i6,i7]
      ·omega
      ·omega
      intro v' w36 ho hu hfr
      have iA:=(hZ:Upd (ownB (.slice av j kv)) w31.drew w35).trans hu
      have sC:=iA.size
      simp only [size_drew] at sC
      have iZ:=iA.blk_some (show blk w31.drew (w.heap.size+1)=_ from cV) (hnb _ (.inl (by omega)))
      rcases ho.2 with ⟨_,h⟩|⟨g,cap,rest,fr,hv',hg',hbg,hlen,hth,hle⟩
      ·exact absurd h (Nat.succ_ne_zero _)
      subst hv'
      have hgne:¬ g=w.heap.size+1:=fun h=>(hfr g ⟨_,_,_,rfl,rfl⟩).elim (fun h'=>hnb _ (.inl (by omega)) (h ▸ h')) (fun h'=>by omega)
      have hfl:css.flatten.length=css.length * 5:=flatten_len hown.2
      have b7:(css.flatten++([.int .i64 0,.slice none 0 0,.bool false,.slice none 0 0,.slice none 0 0]:List Value)++rest).length=cap * 5:=by simp only [List.length_append] at hlen ⊢;omega
      obtain ⟨XX,hXX⟩:∃ X:Array Value,X=(css.flatten++([.int .i64 0,.slice none 0 0,.bool false,.slice none 0 0,.slice none 0 0]:List Value)++rest).toArray:=⟨_,rfl⟩
      have hbgX:blk w36 g=some (XX,37,fr):=by rw [hXX];exact hbg
      have hXsz:XX.size=cap * 5:=by rw [hXX,List.size_toArray];exact b7
      have aI:thaw fr (css.length * 5) 5=true:=thaw_of hth (by omega)
      have hst:css.length * 5+5≤XX.size:=by omega
      have hset:=Own.setlast (cs:=[.int .i64 0,.slice av32 (uuidS y.s).length kv32,.bool false,.slice none 0 0,.slice none 0 0]) ho rfl rfl
      have hu2:Upd (ownB (.slice av j kv)) w35 (wr w36 g (css.length * 5) [.int .i64 0,.slice av32 (uuidS y.s).length kv32,.bool false,.slice none 0 0,.slice none 0 0]):=hu.wr _ _ ((hfr g ⟨_,_,_,rfl,rfl⟩).symm)
      have hg2:=GrowT.snoc hown hall rF hu2 hfr hset
      have hcj:css.length=j:=by first|exact hcl.symm.trans hlj|omega
      simp only [hcj] at aI hst hset hu2 hg2
      refine ⟨iA,?_⟩
      try simp (maxSteps:=1000000)(disch:=(first|omega|(simp only [qI,qJ,qK]<;>omega)|exact qL _|(refine hnb _ ?_;first|omega|(simp only [World.size_alloc,size_wr,size_drew]<;>omega)))) only [go_sem,↓reduceIte,n0,reduceCtorEq,n1,n2,n3,n4,n5,i0,i1,i2,i3,i4,i5,i6,i7,iZ,hbgX,aI,hst,hcj,aD,aF,aG,aE,hri]
      repeat ((first|refine qA rfl ?_|apply qB|refine qC rfl ?_|apply qD|apply qE|apply qF|apply qG|apply qH);try simp (maxSteps:=1000000)(disch:=(first|omega|(simp only [qI,qJ,qK]<;>omega)|exact qL _)) only [go_sem,↓reduceIte,n0,reduceCtorEq,n1,n2,n3,n4,n5,i0,i1,i2,i3,i4,i5,i6,i7,iZ,hbgX,aI,hst,hcj,aD,aF,aG,aE,hri])
      refine ⟨⟨(by simp (maxSteps:=1000000)(disch:=(first|omega|(simp only [qI,qJ,qK]<;>omega)|exact qL _)) only [go_sem,↓reduceIte,n0,reduceCtorEq,n1,n2,n3,n4,n5,i0,i1,i2,i3,i4,i5,i6,i7,Holds_nil,Holds_cons,aD,aF,aG,aE,hri]),j+1,(by simp (maxSteps:=1000000)(disch:=(first|omega|(simp only [qI,qJ,qK]<;>omega)|exact qL _)) only [go_sem,↓reduceIte,n0,reduceCtorEq,n1,n2,n3,n4,n5,i0,i1,i2,i3,i4,i5,i6,i7,aD,aF,aG,aE,hri];all_goals rfl),.slice (some ⟨g,0,none⟩) (j+1) cap,by omega,?_,?_,?_⟩,?_⟩
      ·rw [blk_wr_ne (by omega),blk_wr_eq,iZ];rfl
      ·rw [hcat,List.map_append,wr_comm (Ne.symm hgne)]
       exact hg2.upd ((Upd.refl _ _).wr _ _ (.inr rfl)) (fun h=>hgne (ownB_row h).symm)
      ·rw [wr_comm (Ne.symm hgne)]
       refine Upd.wr ?_ _ _ (.inr rfl)
       exact (hUk.more ((gN.mono fun _ h=>h.elim).trans hu2) fun b hb h=>absurd h (hnb b (.inl hb)))
      ·try simp (maxSteps:=1000000)(disch:=(first|omega|(simp only [qI,qJ,qK]<;>omega)|exact qL _)) only [go_sem,↓reduceIte,n0,reduceCtorEq,n1,n2,n3,n4,n5,i0,i1,i2,i3,i4,i5,i6,i7,aD,aF,aG,aE,hri]
       simp only [RowKit.intOf];omega
    ·skip
     have iB:Upd (ownB (.slice av j kv)) w31.drew (w31.alloc (.cells qZ5 37)).drew:=show Upd (ownB (.slice av j kv)) w31.drew (w31.drew.alloc (.cells qZ5 37)) from (Upd.refl _ _).alloc _
     have pI:blk (w31.alloc (.cells qZ5 37)).drew w31.drew.heap.size=some (qZ5,37,(0,0)):=show blk (w31.drew.alloc (.cells qZ5 37)) w31.drew.heap.size=some (qZ5,37,(0,0)) from blk_alloc_new rfl
     have qT:(w31.alloc (.cells qZ5 37)).drew.heap.size=w31.drew.heap.size+1:=show (w31.drew.alloc (.cells qZ5 37)).heap.size=w31.drew.heap.size+1 from World.size_alloc _ _
     have n9:Ext w31.drew (w31.alloc (.cells qZ5 37)).drew:=show Ext w31.drew (w31.drew.alloc (.cells qZ5 37)) from Upd.alloc (Upd.refl _ _) _
     refine ⟨iB,?_⟩
     try simp only [List.append_nil]
     generalize (w31.alloc (.cells qZ5 37)).drew=w37 at *
     try simp only [size_drew] at qT
     have rN:=(iB:Upd (ownB (.slice av j kv)) w31.drew w37).blk_some (show blk w31.drew be=_ from dR) (hnb _ (.inl (by omega)))
     have oL:BytesV AnyB w37 (.slice (some ⟨be,oe+j * 16,none⟩) 16 16) (uuidS y.s):=bytes_at rN (uuidS_len _) cW
     refine wp_copyN ap_22_22 (ok:=AnyB) (s:=uuidS y.s) (v:=.slice (some ⟨be,oe+j * 16,none⟩) 16 16) (by first|rfl|simp (maxSteps:=1000000)(disch:=(first|omega|(simp only [qI,qJ,qK]<;>omega)|exact qL _)) only [go_sem,↓reduceIte,n0,reduceCtorEq,n1,n2,n3,n4,n5,i0,i1,i2,i3,i4,i5,i6,i7]) (by first|rfl|simp (maxSteps:=1000000)(disch:=(first|omega|(simp only [qI,qJ,qK]<;>omega)|exact qL _)) only [go_sem,↓reduceIte,n0,reduceCtorEq,n1,n2,n3,n4,n5,i0,i1,i2,i3,i4,i5,i6,i7]) oL (by rw [uuidS_len];omega) ?_
     intro v38 w38 m7 eS oR
     obtain ⟨av38,kv38,rfl,_⟩:=m7.shape
     have mZ:=Own.bytes (ok:=fun b=>w37.heap.size≤b) m7 fun b hb=>oR b hb
     have iC:Upd (ownB (.slice av j kv)) w31.drew w38:=(iB).trans (eS.mono fun _ h=>h.elim)
     have qU:=eS.size
     try simp only [size_drew] at qU
     refine ⟨iC,?_⟩
     try simp (maxSteps:=1000000)(disch:=(first|omega|(simp only [qI,qJ,qK]<;>omega)|exact qL _|(refine hnb _ ?_;first|omega|(simp only [World.size_alloc,size_wr,size_drew]<;>omega)))) only [go_sem,↓reduceIte,n0,reduceCtorEq,n1,n2,n3,n4,n5,i0,i1,i2,i3,i4,i5,i6,i7,fE,cV,fW,dR,hq0,hq1,hq2,hq3,hq4,hq5,hq6,hq7,aD,aF,aG,aE,hri]
     refine ⟨iC,?_⟩
     have gO:Ext w26 w38:=((cF.drew.trans n9).trans eS)
     have tK:=gO.size
     obtain ⟨css,hown,hall⟩:=(hg.ext gO).ex
     have hcl:=hall.1
     rw [hlj] at hcl
     have rG:TreeC (fun b=>(fun b=>w1.heap.size≤b) b∧b≠w.heap.size+1∧¬ ownB (.slice av j kv) b) w38 ((tl1 (tlP d) frQ_6.of frQ_6.sub) y) [.int .i64 0,.slice av38 (uuidS y.s).length kv38,.bool false,.slice none 0 0,.slice none 0 0]:=by
      exact TreeC.weaken (fun b _ hk=>⟨by omega,by omega,hnb b (.inr (by omega))⟩) (TreeC.intro rfl mZ (treesN _ _) (tagsN _ _):TreeC _ _ (.oct false (uuidS y.s)) [.int .i64 0,.slice av38 (uuidS y.s).length kv38,.bool false,.slice none 0 0,.slice none 0 0])
     refine wp_append ap_34_34 (m:=1) (news:=[.int .i64 0,.slice none 0 0,.bool false,.slice none 0 0,.slice none 0 0]) (n:=css.length) (cs:=css.flatten) (v:=(.slice av j kv)) ?_ rfl hown.1 (all2_flat_tree hall) (Src.blk (fr:=(0,0)) (T:=37) (eS.blk_some pI id) rfl rfl) ?_ ?_ ?_
     ·first|rfl|simp (maxSteps:=1000000)(disch:=(first|omega|(simp only [qI,qJ,qK]<;>omega)|exact qL _)) only [go_sem,↓reduceIte,n0,reduceCtorEq,n1,n2,n3,n4,n5,i0,i1,i2,i3,i4,i5,i6,i7]
     ·omega
     ·omega
     intro v' w39 ho hu hfr
     have iD:=(iC:Upd (ownB (.slice av j kv)) w31.drew w38).trans hu
     have sD:=iD.size
     simp only [size_drew] at sD
     have jA:=iD.blk_some (show blk w31.drew (w.heap.size+1)=_ from cV) (hnb _ (.inl (by omega)))
     rcases ho.2 with ⟨_,h⟩|⟨g,cap,rest,fr,hv',hg',hbg,hlen,hth,hle⟩
     ·exact absurd h (Nat.succ_ne_zero _)
     subst hv'
     have hgne:¬ g=w.heap.size+1:=fun h=>(hfr g ⟨_,_,_,rfl,rfl⟩).elim (fun h'=>hnb _ (.inl (by omega)) (h ▸ h')) (fun h'=>by omega)
     have hfl:css.flatten.length=css.length * 5:=flatten_len hown.2
     have b7:(css.flatten++([.int .i64 0,.slice none 0 0,.bool false,.slice none 0 0,.slice none 0 0]:List Value)++rest).length=cap * 5:=by simp only [List.length_append] at hlen ⊢;omega
     obtain ⟨XX,hXX⟩:∃ X:Array Value,X=(css.flatten++([.int .i64 0,.slice none 0 0,.bool false,.slice none 0 0,.slice none 0 0]:List Value)++rest).toArray:=⟨_,rfl⟩
     have hbgX:blk w39 g=some (XX,37,fr):=by rw [hXX];exact hbg
     have hXsz:XX.size=cap * 5:=by rw [hXX,List.size_toArray];exact b7
     have aI:thaw fr (css.length * 5) 5=true:=thaw_of hth (by omega)
     have hst:css.length * 5+5≤XX.size:=by omega
     have hset:=Own.setlast (cs:=[.int .i64 0,.slice av38 (uuidS y.s).length kv38,.bool false,.slice none 0 0,.slice none 0 0]) ho rfl rfl
     have hu2:Upd (ownB (.slice av j kv)) w38 (wr w39 g (css.length * 5) [.int .i64 0,.slice av38 (uuidS y.s).length kv38,.bool false,.slice none 0 0,.slice none 0 0]):=hu.wr _ _ ((hfr g ⟨_,_,_,rfl,rfl⟩).symm)
     have hg2:=GrowT.snoc hown hall rG hu2 hfr hset
     have hcj:css.length=j:=by first|exact hcl.symm.trans hlj|omega
     simp only [hcj] at aI hst hset hu2 hg2
     refine ⟨iD,?_⟩
     try simp (maxSteps:=1000000)(disch:=(first|omega|(simp only [qI,qJ,qK]<;>omega)|exact qL _|(refine hnb _ ?_;first|omega|(simp only [World.size_alloc,size_wr,size_drew]<;>omega)))) only [go_sem,↓reduceIte,n0,reduceCtorEq,n1,n2,n3,n4,n5,i0,i1,i2,i3,i4,i5,i6,i7,jA,hbgX,aI,hst,hcj,aD,aF,aG,aE,hri]
     repeat ((first|refine qA rfl ?_|apply qB|refine qC rfl ?_|apply qD|apply qE|apply qF|apply qG|apply qH);try simp (maxSteps:=1000000)(disch:=(first|omega|(simp only [qI,qJ,qK]<;>omega)|exact qL _)) only [go_sem,↓reduceIte,n0,reduceCtorEq,n1,n2,n3,n4,n5,i0,i1,i2,i3,i4,i5,i6,i7,jA,hbgX,aI,hst,hcj,aD,aF,aG,aE,hri])
     refine ⟨⟨(by simp (maxSteps:=1000000)(disch:=(first|omega|(simp only [qI,qJ,qK]<;>omega)|exact qL _)) only [go_sem,↓reduceIte,n0,reduceCtorEq,n1,n2,n3,n4,n5,i0,i1,i2,i3,i4,i5,i6,i7,Holds_nil,Holds_cons,aD,aF,aG,aE,hri]),j+1,(by simp (maxSteps:=1000000)(disch:=(first|omega|(simp only [qI,qJ,qK]<;>omega)|exact qL _)) only [go_sem,↓reduceIte,n0,reduceCtorEq,n1,n2,n3,n4,n5,i0,i1,i2,i3,i4,i5,i6,i7,aD,aF,aG,aE,hri];all_goals rfl),.slice (some ⟨g,0,none⟩) (j+1) cap,by omega,?_,?_,?_⟩,?_⟩
     ·rw [blk_wr_ne (by omega),blk_wr_eq,jA];rfl
     ·rw [hcat,List.map_append,wr_comm (Ne.symm hgne)]
      exact hg2.upd ((Upd.refl _ _).wr _ _ (.inr rfl)) (fun h=>hgne (ownB_row h).symm)
     ·rw [wr_comm (Ne.symm hgne)]
      refine Upd.wr ?_ _ _ (.inr rfl)
      exact (hUk.more ((gO.mono fun _ h=>h.elim).trans hu2) fun b hb h=>absurd h (hnb b (.inl hb)))
     ·try simp (maxSteps:=1000000)(disch:=(first|omega|(simp only [qI,qJ,qK]<;>omega)|exact qL _)) only [go_sem,↓reduceIte,n0,reduceCtorEq,n1,n2,n3,n4,n5,i0,i1,i2,i3,i4,i5,i6,i7,aD,aF,aG,aE,hri]
      simp only [RowKit.intOf];omega
  ·have hjn:j=L6.length:=by omega
   subst hjn
   rw [List.take_length] at hg
   repeat ((first|refine qA rfl ?_|apply qB|refine qC rfl ?_|apply qD|apply qE|apply qF|apply qG|apply qH);try simp (maxSteps:=1000000)(disch:=(first|omega|(simp only [qI,qJ,qK]<;>omega)|exact qL _)) only [go_sem,↓reduceIte,n0,reduceCtorEq,n1,n2,n3,n4,n5,i0,i1,i2,i3,i4,i5,i6,i7,aD,aF,aG,aE,hri])
   exact ⟨(by simp (maxSteps:=1000000)(disch:=(first|omega|(simp only [qI,qJ,qK]<;>omega)|exact qL _)) only [go_sem,↓reduceIte,n0,reduceCtorEq,n1,n2,n3,n4,n5,i0,i1,i2,i3,i4,i5,i6,i7,Holds_nil,Holds_cons,aD,aF,aG,aE,hri]),v,eB,hg,hUk⟩
 rintro ρ w40 ⟨⟨jW,jX,jY,sR,-⟩,v,lN,lJ,l5⟩
 have l7:Upd (fun b=>b=w.heap.size+1∨b=w.heap.size+2) w25 w40:=l5.mono fun _ h=>.inl h
 have iI:Upd (fun b=>b=w.heap.size+1∨b=w.heap.size+2) w1 w40:=b5.trans l7
 have mV:=iI.size
 have lC:Ext w w40:=hE1.more iI fun b hb h=>by omega
 have lG:=lC.blk_some hb id
 have fX:=l5.blk_some kD (by omega)
 obtain ⟨av6,kv6,hvs,_⟩:=lJ.shape
 subst hvs
 have hf6:TreeC (fun b=>w1.heap.size≤b) w40 (.mk 0 [] (t.at 6).null (L6.map (tl1 (tlP d) frQ_6.of frQ_6.sub)) []) [.int .i64 0,.slice none 0 0,.bool (t.at 6).null,.slice av6 (List.map (tl1 (tlP d) frQ_6.of frQ_6.sub) L6).length kv6,.slice none 0 0]:=TreeC.intro rfl (BytesV.nil _ _) (lJ.trees (fun _ _ h=>h) (fun b hb=>by have:=gD;omega)) (tagsN _ _)
 repeat ((first|refine qA rfl ?_|apply qB|refine qC rfl ?_|apply qD|apply qE|apply qF|apply qG|apply qH);try simp (maxSteps:=1000000)(disch:=(first|omega|(simp only [qI,qJ,qK]<;>omega)|exact qL _)) only [go_sem,↓reduceIte,n0,reduceCtorEq,n1,n2,n3,n4,n5,i0,i1,i2,i3,i4,i5,i6,i7,lG,lN,fX,hq0,hq1,hq2,hq3,hq4,hq5,hq6,hq7,jW,jX,jY])
 refine (EachG_fn (ok:=fun b=>b < w.heap.size) 26 ca_26 #[.pointer (some ⟨w.heap.size+2,0,none⟩)] w40 (tb:=b) (to:=8) lG hq7 ((hT.weaken fun b hb _=>hb).keep (lC.keeps _)) (sortT_perm _) (sortT_lt hgu.2.1) (by rw [(sortT_perm t.u).length_eq];exact hgu.1)
  (fun b=>b=w.heap.size+2) (by omega) (fun b hb hk e=>by have hk':b < w.heap.size:=hk;omega) (fun b hb=>by have:=blk_lt fX;omega)
  (fun wl done w'=>∃ v,blk w' (w.heap.size+2)=some (#[.int .i64 0,.slice none 0 0,.bool false,.slice (some ⟨w.heap.size+1,0,none⟩) 7 7,v],37,(0,0))∧GrowU (fun b=>w1.heap.size≤b) wl.heap.size (w.heap.size+2) w' 61 v done) (fun wl hE=>⟨_,hE.blk_some fX id,GrowU.nil _ _ _ _ _⟩) ?_).mono ?_
 ·rintro wl hE done y vv wc hpre ⟨v,hbv,hg⟩ hU hvv hy
  have hz':=hE.size
  have hzu:=hU.size
  have htl:=blk_lt fX
  have hpl:=hpre.length_le
  simp only [List.length_append,List.length_cons,List.length_nil] at hpl
  rw [(sortT_perm t.u).length_eq] at hpl
  have hlu:=hgu.1
  have hmy:y∈t.u:=(sortT_perm t.u).mem_iff.1 (hpre.subset (by simp))
  refine (tagclQ_fn (ok:=fun b=>b < w.heap.size) _ _ _ _ v done y vv wc hbv hg hzu (by omega) (hvv.keep ((hE.mono (fun _ h=>h.elim) |>.trans hU:Upd (fun b=>b=w.heap.size+2) w40 wc).keeps fun b _ hk e=>by have hk':b < w.heap.size:=hk;omega)) hy (hgu.2.2 y hmy) (by omega) (fun b hb=>by have:=mV;omega)).mono ?_
  rintro _ w2' ⟨⟨v',h1,h2⟩,h3⟩
  exact ⟨⟨v',h1,h2⟩,hU.trans' h3 fun b hb h=>h.elim id fun h=>by omega⟩
 rintro _ w41 ⟨wl,hEl,⟨v,mH,hgU⟩,hUe⟩
 have hzl:=hEl.size
 obtain ⟨aU,kU,hvs,_⟩:=hgU.shape
 subst hvs
 have l8:Upd (fun b=>b=w.heap.size+1∨b=w.heap.size+2) w40 w41:=(hEl.mono fun _ h=>h.elim).trans (hUe.mono fun _ h=>.inr h)
 have iJ:Upd (fun b=>b=w.heap.size+1∨b=w.heap.size+2) w1 w41:=iI.trans l8
 have t2:=iJ.size
 have nY:Ext w w41:=hE1.more iJ fun b hb h=>by omega
 have oB:=nY.blk_some hb id
 have lO:=(((hEl.mono fun _ h=>h.elim).trans hUe:Upd (fun b=>b=w.heap.size+2) w40 w41)).blk_some lN (by omega)
 have hTU:=hgU.tags (ok':=(fun b=>w1.heap.size≤b)) (fun _ _ h=>h) (fun b hb=>by have:=mV;omega)
 repeat ((first|refine qA rfl ?_|apply qB|refine qC rfl ?_|apply qD|apply qE|apply qF|apply qG|apply qH);try simp (maxSteps:=1000000)(disch:=(first|omega|(simp only [qI,qJ,qK]<;>omega)|exact qL _)) only [go_sem,↓reduceIte,n0,reduceCtorEq,n1,n2,n3,n4,n5,i0,i1,i2,i3,i4,i5,i6,i7,oB,lO,mH,hq0,hq1,hq2,hq3,hq4,hq5,hq6,hq7,jW,jX,jY,cellsAt_five])
 refine (sorted_fn _ _ w41 hTU (sortT_lt hgu.2.1) (by rw [(sortT_perm t.u).length_eq];exact hgu.1)).mono ?_
 rintro _ w42 hEs
 have l9:Upd (fun b=>b=w.heap.size+1∨b=w.heap.size+2) w41 w42:=hEs.mono fun _ h=>h.elim
 have iK:Upd (fun b=>b=w.heap.size+1∨b=w.heap.size+2) w1 w42:=iJ.trans l9
 have t6:=iK.size
 have lD:Ext w w42:=hE1.more iK fun b hb h=>by omega
 have oC:=lD.blk_some hb id
 have lP:=hEs.blk_some lO id
 have r0:=hEs.blk_some mH id
 have pS:=(iK.blk_some hr1 (by omega))
 have hC_42:Upd (fun b=>b=w.heap.size+1∨b=w.heap.size+2) w42 w42:=Upd.refl _ _
 have hC_41:Upd (fun b=>b=w.heap.size+1∨b=w.heap.size+2) w41 w42:=l9.trans hC_42
 have hC_40:Upd (fun b=>b=w.heap.size+1∨b=w.heap.size+2) w40 w42:=l8.trans hC_41
 have hC_25:Upd (fun b=>b=w.heap.size+1∨b=w.heap.size+2) w25 w42:=l7.trans hC_40
 have hC_24:Upd (fun b=>b=w.heap.size+1∨b=w.heap.size+2) w24 w42:=bE.trans hC_25
 have hC_9:Upd (fun b=>b=w.heap.size+1∨b=w.heap.size+2) w9 w42:=bD.trans hC_24
 have hC_8:Upd (fun b=>b=w.heap.size+1∨b=w.heap.size+2) w8 w42:=hV9.trans hC_9
 have hC_6:Upd (fun b=>b=w.heap.size+1∨b=w.heap.size+2) w6 w42:=hV8.trans hC_8
 have hC_4:Upd (fun b=>b=w.heap.size+1∨b=w.heap.size+2) w4 w42:=hV6.trans hC_6
 have hC_3:Upd (fun b=>b=w.heap.size+1∨b=w.heap.size+2) w3 w42:=hV4.trans hC_4
 have hC_2:Upd (fun b=>b=w.heap.size+1∨b=w.heap.size+2) w2 w42:=hV3.trans hC_3
 have hC_1:Upd (fun b=>b=w.heap.size+1∨b=w.heap.size+2) w1 w42:=hV2.trans hC_2
 have hF0:=TreeC.keep (hC_2.keeps fun b hb hk e=>by have hk':w1.heap.size≤b:=hk;omega) hf0
 have hF1:=TreeC.keep (hC_3.keeps fun b hb hk e=>by have hk':w1.heap.size≤b:=hk;omega) hf1
 have hF2:=TreeC.keep (hC_4.keeps fun b hb hk e=>by have hk':w1.heap.size≤b:=hk;omega) hf2
 have hF3:=TreeC.keep (hC_6.keeps fun b hb hk e=>by have hk':w1.heap.size≤b:=hk;omega) hf3
 have hF4:=TreeC.keep (hC_8.keeps fun b hb hk e=>by have hk':w1.heap.size≤b:=hk;omega) hf4
 have hF5:=TreeC.keep (hC_24.keeps fun b hb hk e=>by have hk':w1.heap.size≤b:=hk;omega) hf5
 have hF6:=TreeC.keep (hC_40.keeps fun b hb hk e=>by have hk':w1.heap.size≤b:=hk;omega) hf6
 replace hF0:TreeC (fun b=>w1.heap.size≤b) w42 (tlF (tlP d) fQ_0 (t.at 0)) [.int .i64 (IntKind.i32.wrap (t.at 0).n),.slice none 0 0,.bool false,.slice none 0 0,.slice none 0 0]:=hF0
 replace hF1:TreeC (fun b=>w1.heap.size≤b) w42 (tlF (tlP d) fQ_1 (t.at 1)) [.int .i64 ((t.at 1).n),.slice none 0 0,.bool false,.slice none 0 0,.slice none 0 0]:=hF1
 replace hF2:TreeC (fun b=>w1.heap.size≤b) w42 (tlF (tlP d) fQ_2 (t.at 2)) [.int .i64 ((t.at 2).n),.slice none 0 0,.bool false,.slice none 0 0,.slice none 0 0]:=hF2
 replace hF3:TreeC (fun b=>w1.heap.size≤b) w42 (tlF (tlP d) fQ_3 (t.at 3)) [.int .i64 (if decide ((t.at 3).n % 2=1)=true then 1 else 0:Int),.slice none 0 0,.bool false,.slice none 0 0,.slice none 0 0]:=hF3
 replace hF4:TreeC (fun b=>w1.heap.size≤b) w42 (tlF (tlP d) fQ_4 (t.at 4)) [.int .i64 (if decide ((t.at 4).n % 2=1)=true then 1 else 0:Int),.slice none 0 0,.bool false,.slice none 0 0,.slice none 0 0]:=hF4
 replace hF5:TreeC (fun b=>w1.heap.size≤b) w42 (tlF (tlP d) fQ_5 (t.at 5)) [.int .i64 0,.slice none 0 0,.bool (t.at 5).null,.slice av5 (List.map (tl1 (tlP d) fQ_5.of fQ_5.sub) L5).length kv5,.slice none 0 0]:=by rw [show tlF (tlP d) fQ_5 (t.at 5) = .mk 0 [] (t.at 5).null ((if (t.at 5).null=true then [] else (t.at 5).l).map (tl1 (tlP d) fQ_5.of fQ_5.sub)) [] from rfl,← hL5];exact hF5
 replace hF6:TreeC (fun b=>w1.heap.size≤b) w42 (tlF (tlP d) frQ_6 (t.at 6)) [.int .i64 0,.slice none 0 0,.bool (t.at 6).null,.slice av6 (List.map (tl1 (tlP d) frQ_6.of frQ_6.sub) L6).length kv6,.slice none 0 0]:=by rw [show tlF (tlP d) frQ_6 (t.at 6) = .mk 0 [] (t.at 6).null ((if (t.at 6).null=true then [] else (t.at 6).l).map (tl1 (tlP d) frQ_6.of frQ_6.sub)) [] from rfl,← hL6];exact hF6
 have hTL:TreesV (fun b=>(fun b=>w1.heap.size≤b) b∨b=w.heap.size+1) w42 (.slice (some ⟨w.heap.size+1,0,none⟩) 7 7) [tlF (tlP d) fQ_0 (t.at 0),tlF (tlP d) fQ_1 (t.at 1),tlF (tlP d) fQ_2 (t.at 2),tlF (tlP d) fQ_3 (t.at 3),tlF (tlP d) fQ_4 (t.at 4),tlF (tlP d) fQ_5 (t.at 5),tlF (tlP d) frQ_6 (t.at 6)]:=by
  refine ⟨[[.int .i64 (IntKind.i32.wrap (t.at 0).n),.slice none 0 0,.bool false,.slice none 0 0,.slice none 0 0],[.int .i64 ((t.at 1).n),.slice none 0 0,.bool false,.slice none 0 0,.slice none 0 0],[.int .i64 ((t.at 2).n),.slice none 0 0,.bool false,.slice none 0 0,.slice none 0 0],[.int .i64 (if decide ((t.at 3).n % 2=1)=true then 1 else 0:Int),.slice none 0 0,.bool false,.slice none 0 0,.slice none 0 0],[.int .i64 (if decide ((t.at 4).n % 2=1)=true then 1 else 0:Int),.slice none 0 0,.bool false,.slice none 0 0,.slice none 0 0],[.int .i64 0,.slice none 0 0,.bool (t.at 5).null,.slice av5 (List.map (tl1 (tlP d) fQ_5.of fQ_5.sub) L5).length kv5,.slice none 0 0],[.int .i64 0,.slice none 0 0,.bool (t.at 6).null,.slice av6 (List.map (tl1 (tlP d) frQ_6.of frQ_6.sub) L6).length kv6,.slice none 0 0]],⟨_,7,rfl,Nat.le_refl _,(by intro cs hm;simp only [List.mem_cons,List.not_mem_nil,or_false] at hm;rcases hm with rfl|rfl|rfl|rfl|rfl|rfl|rfl<;>rfl),.inr ⟨_,rfl,rfl,.inr rfl,_,lP,fun i hi=>by rw [Nat.zero_add,List.getElem?_toArray];rfl⟩⟩,rfl,fun i h1 h2 => ?_⟩
  match i,h1 with
  | 0,_=>exact TreeC.weaken (fun b _ hk=>.inl hk) hF0
  | 1,_=>exact TreeC.weaken (fun b _ hk=>.inl hk) hF1
  | 2,_=>exact TreeC.weaken (fun b _ hk=>.inl hk) hF2
  | 3,_=>exact TreeC.weaken (fun b _ hk=>.inl hk) hF3
  | 4,_=>exact TreeC.weaken (fun b _ hk=>.inl hk) hF4
  | 5,_=>exact TreeC.weaken (fun b _ hk=>.inl hk) hF5
  | 6,_=>exact TreeC.weaken (fun b _ hk=>.inl hk) hF6
 repeat ((first|refine qA rfl ?_|apply qB|refine qC rfl ?_|apply qD|apply qE|apply qF|apply qG|apply qH);try simp (maxSteps:=1000000)(disch:=(first|omega|(simp only [qI,qJ,qK]<;>omega)|exact qL _)) only [go_sem,↓reduceIte,n0,reduceCtorEq,n1,n2,n3,n4,n5,i0,i1,i2,i3,i4,i5,i6,i7,oC,lP,r0,hq0,hq1,hq2,hq3,hq4,hq5,hq6,hq7,jW,jX,jY,pS,cellsAt_five])
 refine ⟨⟨_,rfl,?_⟩,lD.wr _ _ (.inl (Nat.le_refl _))⟩
 have hUr:Upd (fun b=>b=w.heap.size) w42 (wr w42 w.heap.size 0 [.int .i64 0,.slice none 0 0,.bool false,.slice (some ⟨w.heap.size+1,0,none⟩) 7 7,.slice aU (sortT t.u).length kU]):=(Upd.refl _ _).wr _ _ (.inr rfl)
 have nS:=hTU.keep (hEs.keeps _)
 exact TreeC.intro rfl (BytesV.nil _ _) ((hTL.keep (hUr.keeps fun b _ hk e=>by rcases hk with hk|hk<;>omega)).weaken fun b _ hk=>by rcases hk with hk|hk<;>omega) ((nS.keep (hUr.keeps fun b _ hk e=>by omega)).weaken fun b _ hk=>by omega)
end Ms

