/- A part of the proof: see the last text. -/
import Derived.Test.YtfeaoncgnhhjbaeGreatDoorC10
import Derived.Test.YtfeaoncgnhhjbaeGreatDoorFetchRequestP0
set_option linter.unusedSimpArgs false
set_option linter.unusedVariables false
namespace Ms
open Go.World renaming size_alloc → qI
open Ms renaming size_wr → qJ,size_drew → qK,not_noB → qL
open W renaming seqF → qA,seq → qB,regF → qC,condK → qD,block → qE,skip → qF,ret → qG,exit → qH
set_option maxRecDepth 8000
open Go Go.Proofs Go.Shelf
attribute [local congr] W_congr WPsq_congr WPp_congr optK_congr addrK_congr intK_congr boolK_congr sliceK_congr tupleK_congr funcK_congr Fn_congr rawK_congr takeK_congr stepK_congr convK_congr aggK_congr

theorem tagclX2_fn {ok OK:Blocks} {B tb:Nat} (c0 c1 c2 c3 v:Value) (done:List TagD) (y:TagD) (vv:Value) (w:World) (hbt:blk w tb=some (#[c0,c1,c2,c3,v],37,(0,0))) (hg:GrowU OK B tb w 62 v done) (hB:B≤w.heap.size) (htb:tb < B) (hvv:BytesV ok w vv y.2) (hy:y.1 < 2 ^ 32) (hyl:y.2.length≤32767) (hdl:done.length≤32767) (hOK:∀ b,B≤b→OK b) :
  Fn Tryz.prog 66 #[.int .u32 y.1,vv,.pointer (some ⟨tb,0,none⟩)] w fun _ w'=>(∃ v',blk w' tb=some (#[c0,c1,c2,c3,v'],37,(0,0))∧GrowU OK B tb w' 62 v' (done++[y]))∧Upd (fun b=>b=tb∨B≤b) w w':=by
 have htl:=blk_lt hbt
 refine fn_of_W Tryz.func66 rfl Tryz.results66 Tryz.ntmps66 rfl ?_
 repeat ((first|refine qA ?_|apply qB|refine qC ?_|apply qD|apply qE|apply qF|apply qG|apply qH);try simp (disch:=(first|omega|(simp only [qI,qJ,qK]<;>omega)|exact qL _)) only [go_sem])
 obtain ⟨av,kv,rfl,_⟩:=hg.shape
 have hnb:∀ b,b < B∨w.heap.size≤b→¬ ownB (.slice av done.length kv) b:=fun b hb h=>by
  have:=hg.above h
  have:=hg.below h
  omega
 refine W.drawR (.take 0 (.take 1 (.take 2 (.take 3 (.only 4 (.only 5 (.only 6 (.only 7 (.take 8 (.last 9)))))))))) (ownB (.slice av done.length kv)) mixed (by kernel_rfl) ?_
 simp (disch:=(first|omega|(simp only [qI,qJ,qK]<;>omega)|exact qL _|(refine hnb _ ?_;first|omega|(simp only [World.size_alloc,size_wr,size_drew]<;>omega)))) only [go_sem,hbt]
 refine wp_copyN ap_22_22 (ok:=ok) (s:=y.2) (v:=vv) (by first|rfl|simp (disch:=(first|omega|(simp only [qI,qJ,qK]<;>omega)|exact qL _)) only [go_sem]) (by first|rfl|simp (disch:=(first|omega|(simp only [qI,qJ,qK]<;>omega)|exact qL _)) only [go_sem]) (hvv.keep (Ext.keeps ((Upd.refl _ _).drew) _)) (by omega) ?_
 intro v1 w1 ho1 hE1 hf1
 obtain ⟨a1,k1,rfl,_⟩:=ho1.shape
 have hB1:=Own.bytes (ok:=fun b=>w.heap.size≤b) ho1 fun b hb=>hf1 b hb
 have hP1:Upd (ownB (.slice av done.length kv)) w.drew w1:=hE1.mono fun _ h=>h.elim
 have hs1:=hE1.size
 simp only [size_drew] at hs1
 refine ⟨hP1,?_⟩
 simp (disch:=(first|omega|(simp only [qI,qJ,qK]<;>omega)|exact qL _|(refine hnb _ ?_;first|omega|(simp only [World.size_alloc,size_wr,size_drew]<;>omega)))) only [go_sem,hbt]
 refine ⟨hP1,?_⟩
 have hP2:Upd (ownB (.slice av done.length kv)) w.drew (w1.alloc (.cells #[.int .u32 y.1,.slice a1 y.2.length k1] 62)):=hP1.alloc _
 have hn2:blk (w1.alloc (.cells #[.int .u32 y.1,.slice a1 y.2.length k1] 62)) w1.heap.size=some (#[.int .u32 y.1,.slice a1 y.2.length k1],62,(0,0)):=blk_alloc_new rfl
 have hs2:(w1.alloc (.cells #[.int .u32 y.1,.slice a1 y.2.length k1] 62)).heap.size=w1.heap.size+1:=World.size_alloc _ _
 have hE2:Ext w1 (w1.alloc (.cells #[.int .u32 y.1,.slice a1 y.2.length k1] 62)):=Upd.alloc (Upd.refl _ _) _
 refine ⟨hP2,?_⟩
 try simp only [List.append_nil]
 generalize (w1.alloc (.cells #[.int .u32 y.1,.slice a1 y.2.length k1] 62))=w2 at *
 have hEw:Ext w w2:=(((Upd.refl _ _).drew).trans hE1).trans hE2
 obtain ⟨css,hown,hall⟩:=(hg.ext hEw).ex
 have hcl:=hall.1
 have hx2:TagC (fun b=>OK b∧b≠tb∧¬ ownB (.slice av done.length kv) b) w2 y [.int .u32 y.1,.slice a1 y.2.length k1]:=⟨_,rfl,(hB1.keep (hE2.keeps _)).weaken fun b _ hk=>⟨hOK b (by omega),by omega,hnb b (.inr hk)⟩,hy⟩
 refine wp_append ap_35_35 (m:=1) (news:=[.int .u32 y.1,.slice a1 y.2.length k1]) (n:=css.length) (cs:=css.flatten) (v:=.slice av done.length kv) ?_ rfl hown.1 hall.flat_cells (Src.blk (fr:=(0,0)) (T:=62) hn2 rfl rfl) ?_ ?_ ?_
 ·first|rfl|simp (disch:=(first|omega|(simp only [qI,qJ,qK]<;>omega)|exact qL _)) only [go_sem]
 ·omega
 ·omega
 intro v' w3 ho hu hfr
 have hg3:=GrowU.snoc hown hall hx2 hu hfr ho
 obtain ⟨va,vc,hv',_⟩:=ho.shape
 subst hv'
 have hP3:=hP2.trans hu
 have hs3:=hu.size
 have eD:=hP3.blk_some (show blk w.drew tb=_ from hbt) (hnb _ (.inl htb))
 have hne:¬ ownB (.slice va (css.length+1) vc) tb:=fun h=>(hfr _ h).elim (hnb _ (.inl htb)) (fun h=>by omega)
 refine ⟨hP3,?_⟩
 simp (disch:=(first|omega|(simp only [qI,qJ,qK]<;>omega)|exact qL _|(refine hnb _ ?_;first|omega|(simp only [World.size_alloc,size_wr,size_drew]<;>omega)))) only [go_sem,eD]
 repeat ((first|refine qA ?_|apply qB|refine qC ?_|apply qD|apply qE|apply qF|apply qG|apply qH);try simp (disch:=(first|omega|(simp only [qI,qJ,qK]<;>omega)|exact qL _)) only [go_sem])
 refine ⟨⟨.slice va (css.length+1) vc,by first|(rw [blk_wr_eq,eD];rfl)|rfl|(rw [eD];rfl)|(rw [blk_wr_eq,eD]),hg3.upd ((Upd.refl _ _).wr _ _ (.inr rfl)) hne⟩,?_⟩
 refine Upd.wr ?_ _ _ (.inr (.inl rfl))
 exact (((Upd.refl (fun b=>b=tb∨B≤b) w).drew).trans (hP3.mono fun b h=>.inr (hg.above h)))

set_option maxHeartbeats 4000000 in
theorem tellX2_fn {d:Nat} {ok:Blocks} (t:Tree) (cs:List Value) (w:World) {b o:Nat} {x:Blk} (hb:blk w b=some x) (hq:∀ k,k < 3→x.1[o+k]? = cs[k]?) (hR:RepS true (d+1) fs_X2 ok w t cs) (hg:GoodP (d+1) fs_X2 t) :
  Fn Tryz.prog 29 #[.pointer (some ⟨b,o,none⟩)] w fun r w'=>(∃ c,r = .agg c.toArray∧TreeC (fun b=>w.heap.size≤b) w' (tlP (d+1) fs_X2 t) c)∧Ext w w':=by
 have hbl:=blk_lt hb
 obtain ⟨⟨gd0,gd1,-⟩,hgu⟩:=hg
 replace gd0:GoodF (GoodP d) fX2_0 (t.at 0):=gd0
 replace gd1:GoodF (GoodP d) fX2_1 (t.at 1):=gd1
 obtain ⟨cs0,q,hcs,hL,hT⟩:=hR.inv
 obtain ⟨c0,e0,rfl,h0,c1,e1,rfl,h1,rfl⟩:=hL
 replace h0:RepF (RepS true d) (szS true d) fX2_0 ok w (t.at 0) c0:=h0
 replace h1:RepF (RepS true d) (szS true d) fX2_1 ok w (t.at 1) c1:=h1
 obtain rfl:=(RepF_num (by decide)).1 h0
 obtain rfl:=(RepF_num (by decide)).1 h1
 obtain ⟨qm,rfl⟩:=hT.shape
 subst hcs
 have hq0:x.1[o]? = some (.int .i32 (IntKind.i32.wrap (t.at 0).n)):=hq 0 (by decide)
 have hq1:x.1[o+1]? = some (.int .i64 (t.at 1).n):=hq 1 (by decide)
 have hq2:x.1[o+2]? = some (.map qm):=hq 2 (by decide)
 have XV:=(gd1.one (by decide)).1 rfl
 refine fn_of_W Tryz.func29 rfl Tryz.results29 Tryz.ntmps29 rfl ?_
 repeat ((first|refine qA ?_|apply qB|refine qC ?_|apply qD|apply qE|apply qF|apply qG|apply qH);try simp (disch:=(first|omega|(simp only [qI,qJ,qK]<;>omega)|exact qL _)) only [go_sem])
 refine wp_make (T:=34) (E:=37) (size:=5) (bytes:=88) (z:=.agg qZ5) (l:=2) (c:=2) (kl:=.i64) (kc:=.i64) (by kernel_rfl) (by kernel_rfl) (by first|rfl|(simp (disch:=(first|omega|(simp only [qI,qJ,qK]<;>omega)|exact qL _)) only [go_sem];rfl)) (by first|rfl|(simp (disch:=(first|omega|(simp only [qI,qJ,qK]<;>omega)|exact qL _)) only [go_sem];rfl)) (by omega) (by omega) (by omega) ?_
 have hmd:madeCells (Value.agg qZ5).cells (2 * 5)=(zs ZT 2).toArray:=by kernel_rfl
 rw [hmd]
 simp (disch:=(first|omega|(simp only [qI,qJ,qK]<;>omega)|exact qL _)) only [go_sem]
 repeat ((first|refine qA ?_|apply qB|refine qC ?_|apply qD|apply qE|apply qF|apply qG|apply qH);try simp (disch:=(first|omega|(simp only [qI,qJ,qK]<;>omega)|exact qL _)) only [go_sem])
 have hE1:Ext w (wr (((w.alloc (.cells qZ5 37)).alloc (.cells ((zs ZT 2).toArray) 37)).alloc (.cells qZ5 37)) (w.heap.size+2) 0 [zI,zS,zB,.slice (some ⟨w.heap.size+1,0,none⟩) 2 2,zS]):=(Upd.alloc (Upd.alloc (Upd.alloc (Upd.refl _ _) _) _) _).wr _ _ (.inl (by omega))
 have hz1:(wr (((w.alloc (.cells qZ5 37)).alloc (.cells ((zs ZT 2).toArray) 37)).alloc (.cells qZ5 37)) (w.heap.size+2) 0 [zI,zS,zB,.slice (some ⟨w.heap.size+1,0,none⟩) 2 2,zS]).heap.size=w.heap.size+3:=by simp only [size_wr,World.size_alloc]
 have hl1:blk (wr (((w.alloc (.cells qZ5 37)).alloc (.cells ((zs ZT 2).toArray) 37)).alloc (.cells qZ5 37)) (w.heap.size+2) 0 [zI,zS,zB,.slice (some ⟨w.heap.size+1,0,none⟩) 2 2,zS]) (w.heap.size+1)=some ((zs ZT 2).toArray,37,(0,0)):=by simp (disch:=(first|omega|(simp only [qI,qJ,qK]<;>omega)|exact qL _)) only [go_sem]
 have ht1:blk (wr (((w.alloc (.cells qZ5 37)).alloc (.cells ((zs ZT 2).toArray) 37)).alloc (.cells qZ5 37)) (w.heap.size+2) 0 [zI,zS,zB,.slice (some ⟨w.heap.size+1,0,none⟩) 2 2,zS]) (w.heap.size+2)=some (#[zI,zS,zB,.slice (some ⟨w.heap.size+1,0,none⟩) 2 2,zS],37,(0,0)):=by simp (disch:=(first|omega|(simp only [qI,qJ,qK]<;>omega)|exact qL _)) only [go_sem]
 have hr1:blk (wr (((w.alloc (.cells qZ5 37)).alloc (.cells ((zs ZT 2).toArray) 37)).alloc (.cells qZ5 37)) (w.heap.size+2) 0 [zI,zS,zB,.slice (some ⟨w.heap.size+1,0,none⟩) 2 2,zS]) w.heap.size=some (qZ5,37,(0,0)):=by simp (disch:=(first|omega|(simp only [qI,qJ,qK]<;>omega)|exact qL _)) only [go_sem]
 obtain ⟨w1,hw1⟩:∃ y,y=(wr (((w.alloc (.cells qZ5 37)).alloc (.cells ((zs ZT 2).toArray) 37)).alloc (.cells qZ5 37)) (w.heap.size+2) 0 [zI,zS,zB,.slice (some ⟨w.heap.size+1,0,none⟩) 2 2,zS]):=⟨_,rfl⟩
 rw [← hw1] at hE1 hz1 hl1 ht1 hr1
 rw [← hw1]
 clear hw1
 have hU1:Upd (fun b=>b=w.heap.size+1∨b=w.heap.size+2) w1 w1:=Upd.refl _ _
 have hb1:=hE1.blk_some hb id
 have hJ0:TJ (fun b=>w1.heap.size≤b) (w.heap.size+1) 37 2 0 [] w1:=TJ.start hl1
 obtain ⟨A0,B0,hA0,hl1,lS⟩:=hJ0.next (by decide)
 replace hA0:A0.length=0:=hA0
 obtain ⟨Y1,hY1,dJ,AV⟩:=el_open (n:=5) hl1 hA0 rfl
 have eG:5≤Y1.size:=by omega
 repeat ((first|refine qA ?_|apply qB|refine qC ?_|apply qD|apply qE|apply qF|apply qG|apply qH);try simp (disch:=(first|omega|(simp only [qI,qJ,qK]<;>omega)|exact qL _)) only [go_sem,hb1,ht1,hq0,dJ,eG])
 refine W.drawR (.take 0 (.take 1 (.take 2 (.take 3 (.take 4 (.take 5 (.take 6 (.only 7 (.take 8 (.last 9)))))))))) (NoB) mixed (by kernel_rfl) ?_
 try simp (disch:=(first|omega|(simp only [qI,qJ,qK]<;>omega)|exact qL _)) only [go_sem,hb1,ht1,hq0,dJ,eG,tl32]
 refine ⟨Upd.refl _ _,?_⟩
 have xB:blk w1.drew (w.heap.size+1)=_:=dJ
 have hx2:Upd (fun b=>b=w.heap.size+1∨b=w.heap.size+2) w1 w1.drew:=(Upd.refl _ _).drew
 rw [hY1] at xB
 generalize hw2:wr w1.drew (w.heap.size+1) 0 [.int .i64 (IntKind.i32.wrap (t.at 0).n),zS,zB,zS,zS] = w2
 have hl2:blk w2 (w.heap.size+1)=some (((A0++(([.int .i64 (IntKind.i32.wrap (t.at 0).n),zS,zB,zS,zS]:List Value)++B0)).toArray),37,(0,0)):=by rw [← hw2];exact el_blk0 xB hA0 (Nat.le_of_ble_eq_true rfl)
 have hv2:Upd (fun b=>b=w.heap.size+1∨b=w.heap.size+2) w1.drew w2:=by rw [← hw2];exact (Upd.refl _ _).wr _ _ (.inr (.inl rfl))
 have hV2:Upd (fun b=>b=w.heap.size+1∨b=w.heap.size+2) w1 w2:=hx2.trans hv2
 have hU2:Upd (fun b=>b=w.heap.size+1∨b=w.heap.size+2) w1 w2:=hU1.trans hV2
 have hz2:=hU2.size
 have hX2:Ext w w2:=hE1.more hU2 fun b hb h=>by omega
 have hb2:=hX2.blk_some hb id
 have ht2:blk w2 (w.heap.size+2)=some (#[zI,zS,zB,.slice (some ⟨w.heap.size+1,0,none⟩) 2 2,zS],37,(0,0)):=by
  rw [← hw2,blk_wr_ne (by omega)]
  exact ht1
 clear hw2
 have hf0:TreeC (fun b=>w1.heap.size≤b) w2 (.num (IntKind.i32.wrap (t.at 0).n)) [.int .i64 (IntKind.i32.wrap (t.at 0).n),zS,zB,zS,zS]:=(TreeC.keep (hv2.keeps fun b hb hk e=>by have hk':w1.heap.size≤b:=hk;omega) (TreeC.intro (tl32 _) (BytesV.nil _ _) (treesN _ _) (tagsN _ _):TreeC (fun b=>w1.heap.size≤b) w1.drew (.num (IntKind.i32.wrap (t.at 0).n)) [.int .i64 (IntKind.i32.wrap (t.at 0).n),zS,zB,zS,zS]))
 have hJ1:=lS w2 _ (tlF (tlP d) fX2_0 (t.at 0)) rfl hl2 (hf0) ((hV2).keeps fun b hb hk e=>by have hk':w1.heap.size≤b:=hk;omega)
 obtain ⟨A1,B1,hA1,hl2,lT⟩:=hJ1.next (by decide)
 replace hA1:A1.length=5:=hA1
 obtain ⟨Y2,hY2,jF,V9⟩:=el_open (n:=5) hl2 hA1 rfl
 have y7:10≤Y2.size:=by omega
 repeat ((first|refine qA ?_|apply qB|refine qC ?_|apply qD|apply qE|apply qF|apply qG|apply qH);try simp (disch:=(first|omega|(simp only [qI,qJ,qK]<;>omega)|exact qL _)) only [go_sem,hb2,ht2,hq1,jF,y7])
 refine W.drawR (.take 0 (.take 1 (.take 2 (.take 3 (.take 4 (.take 5 (.only 6 (.take 7 (.last 8))))))))) (NoB) mixed (by kernel_rfl) ?_
 try simp (disch:=(first|omega|(simp only [qI,qJ,qK]<;>omega)|exact qL _)) only [go_sem,hb2,ht2,hq1,jF,y7]
 refine ⟨Upd.refl _ _,?_⟩
 have fM:blk w2.drew (w.heap.size+1)=_:=jF
 have hx3:Upd (fun b=>b=w.heap.size+1∨b=w.heap.size+2) w2 w2.drew:=(Upd.refl _ _).drew
 rw [hY2] at fM
 generalize hw3:wr w2.drew (w.heap.size+1) 5 [.int .i64 ((t.at 1).n),zS,zB,zS,zS] = w3
 have hl3:blk w3 (w.heap.size+1)=some (((A1++(([.int .i64 ((t.at 1).n),zS,zB,zS,zS]:List Value)++B1)).toArray),37,(0,0)):=by rw [← hw3];exact el_blk0 fM hA1 (Nat.le_of_ble_eq_true rfl)
 have hv3:Upd (fun b=>b=w.heap.size+1∨b=w.heap.size+2) w2.drew w3:=by rw [← hw3];exact (Upd.refl _ _).wr _ _ (.inr (.inl rfl))
 have hV3:Upd (fun b=>b=w.heap.size+1∨b=w.heap.size+2) w2 w3:=hx3.trans hv3
 have hU3:Upd (fun b=>b=w.heap.size+1∨b=w.heap.size+2) w1 w3:=hU2.trans hV3
 have hz3:=hU3.size
 have hX3:Ext w w3:=hE1.more hU3 fun b hb h=>by omega
 have hb3:=hX3.blk_some hb id
 have ht3:blk w3 (w.heap.size+2)=some (#[zI,zS,zB,.slice (some ⟨w.heap.size+1,0,none⟩) 2 2,zS],37,(0,0)):=by
  rw [← hw3,blk_wr_ne (by omega)]
  exact ht2
 clear hw3
 have hf1:TreeC (fun b=>w1.heap.size≤b) w3 (.num ((t.at 1).n)) [.int .i64 ((t.at 1).n),zS,zB,zS,zS]:=(TreeC.keep (hv3.keeps fun b hb hk e=>by have hk':w1.heap.size≤b:=hk;omega) (TreeC.intro (XV) (BytesV.nil _ _) (treesN _ _) (tagsN _ _):TreeC (fun b=>w1.heap.size≤b) w2.drew (.num ((t.at 1).n)) [.int .i64 ((t.at 1).n),zS,zB,zS,zS]))
 have hJ2:=lT w3 _ (tlF (tlP d) fX2_1 (t.at 1)) rfl hl3 (hf1) ((hV3).keeps fun b hb hk e=>by have hk':w1.heap.size≤b:=hk;omega)
 repeat ((first|refine qA ?_|apply qB|refine qC ?_|apply qD|apply qE|apply qF|apply qG|apply qH);try simp (disch:=(first|omega|(simp only [qI,qJ,qK]<;>omega)|exact qL _)) only [go_sem,hb3,ht3])
 refine (EachG_fn (ok:=fun b=>b < w.heap.size) 66 ca_66 #[.pointer (some ⟨w.heap.size+2,0,none⟩)] w3 (tb:=b) (to:=o+2) hb3 hq2 ((hT.weaken fun b hb _=>hb).keep (hX3.keeps _)) (sortT_perm _) (sortT_lt hgu.2.1) (by rw [(sortT_perm t.u).length_eq];exact hgu.1)
  (fun b=>b=w.heap.size+2) (by omega) (fun b hb hk e=>by have hk':b < w.heap.size:=hk;omega) (fun b hb=>by have:=blk_lt ht3;omega)
  (fun wl done w'=>∃ v,blk w' (w.heap.size+2)=some (#[zI,zS,zB,.slice (some ⟨w.heap.size+1,0,none⟩) 2 2,v],37,(0,0))∧GrowU (fun b=>w1.heap.size≤b) wl.heap.size (w.heap.size+2) w' 62 v done) (fun wl hE=>⟨_,hE.blk_some ht3 id,GrowU.nil _ _ _ _ _⟩) ?_).mono ?_
 ·rintro wl hE done y vv wc hpre ⟨v,hbv,hg⟩ hU hvv hy
  have hz':=hE.size
  have hzu:=hU.size
  have htl:=blk_lt ht3
  have hpl:=hpre.length_le
  simp only [List.length_append,List.length_cons,List.length_nil] at hpl
  rw [(sortT_perm t.u).length_eq] at hpl
  have hlu:=hgu.1
  have hmy:y∈t.u:=(sortT_perm t.u).mem_iff.1 (hpre.subset (by simp))
  refine (tagclX2_fn (ok:=fun b=>b < w.heap.size) _ _ _ _ v done y vv wc hbv hg hzu (by omega) (hvv.keep ((hE.mono (fun _ h=>h.elim) |>.trans hU:Upd (fun b=>b=w.heap.size+2) w3 wc).keeps fun b _ hk e=>by have hk':b < w.heap.size:=hk;omega)) hy (hgu.2.2 y hmy) (by omega) (fun b hb=>by have:=hz3;omega)).mono ?_
  rintro _ w2' ⟨⟨v',h1,h2⟩,h3⟩
  exact ⟨⟨v',h1,h2⟩,hU.trans' h3 fun b hb h=>h.elim id fun h=>by omega⟩
 rintro _ w4 ⟨wl,hEl,⟨v,ht4,hgU⟩,hUe⟩
 have hzl:=hEl.size
 obtain ⟨aU,kU,hvs,_⟩:=hgU.shape
 subst hvs
 have hV4:Upd (fun b=>b=w.heap.size+1∨b=w.heap.size+2) w3 w4:=(hEl.mono fun _ h=>h.elim).trans (hUe.mono fun _ h=>.inr h)
 have hU4:Upd (fun b=>b=w.heap.size+1∨b=w.heap.size+2) w1 w4:=hU3.trans hV4
 have hz4:=hU4.size
 have hX4:Ext w w4:=hE1.more hU4 fun b hb h=>by omega
 have hb4:=hX4.blk_some hb id
 have hJe:TJ (fun b=>w1.heap.size≤b) (w.heap.size+1) 37 2 2 _ w4:=hJ2.keep ((hEl.mono fun _ h=>h.elim).trans hUe:Upd (fun b=>b=w.heap.size+2) w3 w4) (by omega) (((hEl.mono fun _ h=>h.elim).trans hUe:Upd (fun b=>b=w.heap.size+2) w3 w4).keeps fun b hb hk e=>by have hk':w1.heap.size≤b:=hk;omega)
 have hTU:=hgU.tags (ok':=(fun b=>w1.heap.size≤b)) (fun _ _ h=>h) (fun b hb=>by have:=hz3;omega)
 repeat ((first|refine qA ?_|apply qB|refine qC ?_|apply qD|apply qE|apply qF|apply qG|apply qH);try simp (disch:=(first|omega|(simp only [qI,qJ,qK]<;>omega)|exact qL _)) only [go_sem,hb4,ht4,cellsAt_five])
 refine (sorted_fn _ _ w4 hTU (sortT_lt hgu.2.1) (by rw [(sortT_perm t.u).length_eq];exact hgu.1)).mono ?_
 rintro _ w5 hEs
 have hV5:Upd (fun b=>b=w.heap.size+1∨b=w.heap.size+2) w4 w5:=hEs.mono fun _ h=>h.elim
 have hU5:Upd (fun b=>b=w.heap.size+1∨b=w.heap.size+2) w1 w5:=hU4.trans hV5
 have hz5:=hU5.size
 have hX5:Ext w w5:=hE1.more hU5 fun b hb h=>by omega
 have hb5:=hX5.blk_some hb id
 have hJy:=hJe.keep hEs id (Ext.keeps hEs _)
 have ht5:=hEs.blk_some ht4 id
 have hr5:=(hU5.blk_some hr1 (by omega))
 have hTL:TreesV (fun b=>(fun b=>w1.heap.size≤b) b∨b=w.heap.size+1) w5 (.slice (some ⟨w.heap.size+1,0,none⟩) 2 2) [tlF (tlP d) fX2_0 (t.at 0),tlF (tlP d) fX2_1 (t.at 1)]:=hJy.trees
 repeat ((first|refine qA ?_|apply qB|refine qC ?_|apply qD|apply qE|apply qF|apply qG|apply qH);try simp (disch:=(first|omega|(simp only [qI,qJ,qK]<;>omega)|exact qL _)) only [go_sem,hb5,ht5,hr5,cellsAt_five])
 refine ⟨⟨_,rfl,?_⟩,hX5.wr _ _ (.inl (Nat.le_refl _))⟩
 have hUr:Upd (fun b=>b=w.heap.size) w5 (wr w5 w.heap.size 0 [zI,zS,zB,.slice (some ⟨w.heap.size+1,0,none⟩) 2 2,.slice aU (sortT t.u).length kU]):=(Upd.refl _ _).wr _ _ (.inr rfl)
 have lI:=hTU.keep (hEs.keeps _)
 exact TreeC.intro rfl (BytesV.nil _ _) ((hTL.keep (hUr.keeps fun b _ hk e=>by rcases hk with hk|hk<;>omega)).weaken fun b _ hk=>by rcases hk with hk|hk<;>omega) ((lI.keep (hUr.keeps fun b _ hk e=>by omega)).weaken fun b _ hk=>by omega)

theorem tagclX0_fn {ok OK:Blocks} {B tb:Nat} (c0 c1 c2 c3 v:Value) (done:List TagD) (y:TagD) (vv:Value) (w:World) (hbt:blk w tb=some (#[c0,c1,c2,c3,v],37,(0,0))) (hg:GrowU OK B tb w 62 v done) (hB:B≤w.heap.size) (htb:tb < B) (hvv:BytesV ok w vv y.2) (hy:y.1 < 2 ^ 32) (hyl:y.2.length≤32767) (hdl:done.length≤32767) (hOK:∀ b,B≤b→OK b) :
  Fn Tryz.prog 84 #[.int .u32 y.1,vv,.pointer (some ⟨tb,0,none⟩)] w fun _ w'=>(∃ v',blk w' tb=some (#[c0,c1,c2,c3,v'],37,(0,0))∧GrowU OK B tb w' 62 v' (done++[y]))∧Upd (fun b=>b=tb∨B≤b) w w':=by
 have htl:=blk_lt hbt
 refine fn_of_W Tryz.func84 rfl Tryz.results84 Tryz.ntmps84 rfl ?_
 repeat ((first|refine qA ?_|apply qB|refine qC ?_|apply qD|apply qE|apply qF|apply qG|apply qH);try simp (disch:=(first|omega|(simp only [qI,qJ,qK]<;>omega)|exact qL _)) only [go_sem])
 obtain ⟨av,kv,rfl,_⟩:=hg.shape
 have hnb:∀ b,b < B∨w.heap.size≤b→¬ ownB (.slice av done.length kv) b:=fun b hb h=>by
  have:=hg.above h
  have:=hg.below h
  omega
 refine W.drawR (.take 0 (.take 1 (.take 2 (.take 3 (.only 4 (.only 5 (.only 6 (.only 7 (.take 8 (.last 9)))))))))) (ownB (.slice av done.length kv)) mixed (by kernel_rfl) ?_
 simp (disch:=(first|omega|(simp only [qI,qJ,qK]<;>omega)|exact qL _|(refine hnb _ ?_;first|omega|(simp only [World.size_alloc,size_wr,size_drew]<;>omega)))) only [go_sem,hbt]
 refine wp_copyN ap_22_22 (ok:=ok) (s:=y.2) (v:=vv) (by first|rfl|simp (disch:=(first|omega|(simp only [qI,qJ,qK]<;>omega)|exact qL _)) only [go_sem]) (by first|rfl|simp (disch:=(first|omega|(simp only [qI,qJ,qK]<;>omega)|exact qL _)) only [go_sem]) (hvv.keep (Ext.keeps ((Upd.refl _ _).drew) _)) (by omega) ?_
 intro v1 w1 ho1 hE1 hf1
 obtain ⟨a1,k1,rfl,_⟩:=ho1.shape
 have hB1:=Own.bytes (ok:=fun b=>w.heap.size≤b) ho1 fun b hb=>hf1 b hb
 have hP1:Upd (ownB (.slice av done.length kv)) w.drew w1:=hE1.mono fun _ h=>h.elim
 have hs1:=hE1.size
 simp only [size_drew] at hs1
 refine ⟨hP1,?_⟩
 simp (disch:=(first|omega|(simp only [qI,qJ,qK]<;>omega)|exact qL _|(refine hnb _ ?_;first|omega|(simp only [World.size_alloc,size_wr,size_drew]<;>omega)))) only [go_sem,hbt]
 refine ⟨hP1,?_⟩
 have hP2:Upd (ownB (.slice av done.length kv)) w.drew (w1.alloc (.cells #[.int .u32 y.1,.slice a1 y.2.length k1] 62)):=hP1.alloc _
 have hn2:blk (w1.alloc (.cells #[.int .u32 y.1,.slice a1 y.2.length k1] 62)) w1.heap.size=some (#[.int .u32 y.1,.slice a1 y.2.length k1],62,(0,0)):=blk_alloc_new rfl
 have hs2:(w1.alloc (.cells #[.int .u32 y.1,.slice a1 y.2.length k1] 62)).heap.size=w1.heap.size+1:=World.size_alloc _ _
 have hE2:Ext w1 (w1.alloc (.cells #[.int .u32 y.1,.slice a1 y.2.length k1] 62)):=Upd.alloc (Upd.refl _ _) _
 refine ⟨hP2,?_⟩
 try simp only [List.append_nil]
 generalize (w1.alloc (.cells #[.int .u32 y.1,.slice a1 y.2.length k1] 62))=w2 at *
 have hEw:Ext w w2:=(((Upd.refl _ _).drew).trans hE1).trans hE2
 obtain ⟨css,hown,hall⟩:=(hg.ext hEw).ex
 have hcl:=hall.1
 have hx2:TagC (fun b=>OK b∧b≠tb∧¬ ownB (.slice av done.length kv) b) w2 y [.int .u32 y.1,.slice a1 y.2.length k1]:=⟨_,rfl,(hB1.keep (hE2.keeps _)).weaken fun b _ hk=>⟨hOK b (by omega),by omega,hnb b (.inr hk)⟩,hy⟩
 refine wp_append ap_35_35 (m:=1) (news:=[.int .u32 y.1,.slice a1 y.2.length k1]) (n:=css.length) (cs:=css.flatten) (v:=.slice av done.length kv) ?_ rfl hown.1 hall.flat_cells (Src.blk (fr:=(0,0)) (T:=62) hn2 rfl rfl) ?_ ?_ ?_
 ·first|rfl|simp (disch:=(first|omega|(simp only [qI,qJ,qK]<;>omega)|exact qL _)) only [go_sem]
 ·omega
 ·omega
 intro v' w3 ho hu hfr
 have hg3:=GrowU.snoc hown hall hx2 hu hfr ho
 obtain ⟨va,vc,hv',_⟩:=ho.shape
 subst hv'
 have hP3:=hP2.trans hu
 have hs3:=hu.size
 have eD:=hP3.blk_some (show blk w.drew tb=_ from hbt) (hnb _ (.inl htb))
 have hne:¬ ownB (.slice va (css.length+1) vc) tb:=fun h=>(hfr _ h).elim (hnb _ (.inl htb)) (fun h=>by omega)
 refine ⟨hP3,?_⟩
 simp (disch:=(first|omega|(simp only [qI,qJ,qK]<;>omega)|exact qL _|(refine hnb _ ?_;first|omega|(simp only [World.size_alloc,size_wr,size_drew]<;>omega)))) only [go_sem,eD]
 repeat ((first|refine qA ?_|apply qB|refine qC ?_|apply qD|apply qE|apply qF|apply qG|apply qH);try simp (disch:=(first|omega|(simp only [qI,qJ,qK]<;>omega)|exact qL _)) only [go_sem])
 refine ⟨⟨.slice va (css.length+1) vc,by first|(rw [blk_wr_eq,eD];rfl)|rfl|(rw [eD];rfl)|(rw [blk_wr_eq,eD]),hg3.upd ((Upd.refl _ _).wr _ _ (.inr rfl)) hne⟩,?_⟩
 refine Upd.wr ?_ _ _ (.inr (.inl rfl))
 exact (((Upd.refl (fun b=>b=tb∨B≤b) w).drew).trans (hP3.mono fun b h=>.inr (hg.above h)))

set_option maxHeartbeats 4000000 in
theorem tellX0_fn {d:Nat} {ok:Blocks} (t:Tree) (cs:List Value) (w:World) {b o:Nat} {x:Blk} (hb:blk w b=some x) (hq:∀ k,k < 24→x.1[o+k]? = cs[k]?) (hR:RepS true (d+1) fs_X0 ok w t cs) (hg:GoodP (d+1) fs_X0 t) :
  Fn Tryz.prog 67 #[.pointer (some ⟨b,o,none⟩)] w fun r w'=>(∃ c,r = .agg c.toArray∧TreeC (fun b=>w.heap.size≤b) w' (tlP (d+1) fs_X0 t) c)∧Ext w w':=by
 have hbl:=blk_lt hb
 obtain ⟨⟨gd0,gd1,gd2,gd3,gd4,gd5,gd6,gd7,-⟩,hgu⟩:=hg
 replace gd0:GoodF (GoodP d) fX0_0 (t.at 0):=gd0
 replace gd1:GoodF (GoodP d) fX0_1 (t.at 1):=gd1
 replace gd2:GoodF (GoodP d) fX0_2 (t.at 2):=gd2
 replace gd3:GoodF (GoodP d) fX0_3 (t.at 3):=gd3
 replace gd4:GoodF (GoodP d) fX0_4 (t.at 4):=gd4
 replace gd5:GoodF (GoodP d) fX0_5 (t.at 5):=gd5
 replace gd6:GoodF (GoodP d) fX0_6 (t.at 6):=gd6
 replace gd7:GoodF (GoodP d) fX0_7 (t.at 7):=gd7
 obtain ⟨cs0,q,hcs,hL,hT⟩:=hR.inv
 obtain ⟨c0,e0,rfl,h0,c1,e1,rfl,h1,c2,e2,rfl,h2,c3,e3,rfl,h3,c4,e4,rfl,h4,c5,e5,rfl,h5,c6,e6,rfl,h6,c7,e7,rfl,h7,rfl⟩:=hL
 replace h0:RepF (RepS true d) (szS true d) fX0_0 ok w (t.at 0) c0:=h0
 replace h1:RepF (RepS true d) (szS true d) fX0_1 ok w (t.at 1) c1:=h1
 replace h2:RepF (RepS true d) (szS true d) fX0_2 ok w (t.at 2) c2:=h2
 replace h3:RepF (RepS true d) (szS true d) fX0_3 ok w (t.at 3) c3:=h3
 replace h4:RepF (RepS true d) (szS true d) fX0_4 ok w (t.at 4) c4:=h4
 replace h5:RepF (RepS true d) (szS true d) fX0_5 ok w (t.at 5) c5:=h5
 replace h6:RepF (RepS true d) (szS true d) fX0_6 ok w (t.at 6) c6:=h6
 replace h7:RepF (RepS true d) (szS true d) fX0_7 ok w (t.at 7) c7:=h7
 obtain rfl:=(RepF_num (by decide)).1 h0
 obtain rfl:=(RepF_num (by decide)).1 h1
 obtain rfl:=(RepF_num (by decide)).1 h2
 obtain rfl:=(RepF_num (by decide)).1 h3
 obtain rfl:=(RepF_num (by decide)).1 h4
 obtain rfl:=(RepF_num (by decide)).1 h5
 obtain rfl:=(RepF_uuid rfl).1 h6
 have WK:((uuidS (t.at 6).s).map byteV).length=16:=by rw [List.length_map,uuidS_len]
 generalize hZ6:(uuidS (t.at 6).s).map byteV=Z6 at *
 obtain ⟨z6_0,z6_1,z6_2,z6_3,z6_4,z6_5,z6_6,z6_7,z6_8,z6_9,z6_10,z6_11,z6_12,z6_13,z6_14,z6_15,rfl⟩:=list16 WK
 obtain rfl:=(RepF_num (by decide)).1 h7
 obtain ⟨qm,rfl⟩:=hT.shape
 subst hcs
 have hq0:x.1[o]? = some (.int .i32 (IntKind.i32.wrap (t.at 0).n)):=hq 0 (by decide)
 have hq1:x.1[o+1]? = some (.int .i32 (IntKind.i32.wrap (t.at 1).n)):=hq 1 (by decide)
 have hq2:x.1[o+2]? = some (.int .i64 (t.at 2).n):=hq 2 (by decide)
 have hq3:x.1[o+3]? = some (.int .i32 (IntKind.i32.wrap (t.at 3).n)):=hq 3 (by decide)
 have hq4:x.1[o+4]? = some (.int .i64 (t.at 4).n):=hq 4 (by decide)
 have hq5:x.1[o+5]? = some (.int .i32 (IntKind.i32.wrap (t.at 5).n)):=hq 5 (by decide)
 have hq6:x.1[o+6]? = some (z6_0):=hq 6 (by decide)
 have hq7:x.1[o+7]? = some (z6_1):=hq 7 (by decide)
 have hq8:x.1[o+8]? = some (z6_2):=hq 8 (by decide)
 have hq9:x.1[o+9]? = some (z6_3):=hq 9 (by decide)
 have gR:x.1[o+10]? = some (z6_4):=hq 10 (by decide)
 have eC:x.1[o+11]? = some (z6_5):=hq 11 (by decide)
 have dT:x.1[o+12]? = some (z6_6):=hq 12 (by decide)
 have lD:x.1[o+13]? = some (z6_7):=hq 13 (by decide)
 have lU:x.1[o+14]? = some (z6_8):=hq 14 (by decide)
 have kI:x.1[o+15]? = some (z6_9):=hq 15 (by decide)
 have xI:x.1[o+16]? = some (z6_10):=hq 16 (by decide)
 have dS:x.1[o+17]? = some (z6_11):=hq 17 (by decide)
 have iY:x.1[o+18]? = some (z6_12):=hq 18 (by decide)
 have u5:x.1[o+19]? = some (z6_13):=hq 19 (by decide)
 have kJ:x.1[o+20]? = some (z6_14):=hq 20 (by decide)
 have kK:x.1[o+21]? = some (z6_15):=hq 21 (by decide)
 have qP:x.1[o+22]? = some (.int .i64 (t.at 7).n):=hq 22 (by decide)
 have qQ:x.1[o+23]? = some (.map qm):=hq 23 (by decide)
 have XW:=(gd2.one (by decide)).1 rfl
 have XY:=(gd4.one (by decide)).1 rfl
 have XZ:=(gd7.one (by decide)).1 rfl
 refine fn_of_W Tryz.func67 rfl Tryz.results67 Tryz.ntmps67 rfl ?_
 repeat ((first|refine qA ?_|apply qB|refine qC ?_|apply qD|apply qE|apply qF|apply qG|apply qH);try simp (disch:=(first|omega|(simp only [qI,qJ,qK]<;>omega)|exact qL _)) only [go_sem])
 refine wp_make (T:=34) (E:=37) (size:=5) (bytes:=88) (z:=.agg qZ5) (l:=8) (c:=8) (kl:=.i64) (kc:=.i64) (by kernel_rfl) (by kernel_rfl) (by first|rfl|(simp (disch:=(first|omega|(simp only [qI,qJ,qK]<;>omega)|exact qL _)) only [go_sem];rfl)) (by first|rfl|(simp (disch:=(first|omega|(simp only [qI,qJ,qK]<;>omega)|exact qL _)) only [go_sem];rfl)) (by omega) (by omega) (by omega) ?_
 have hmd:madeCells (Value.agg qZ5).cells (8 * 5)=(zs ZT 8).toArray:=by kernel_rfl
 rw [hmd]
 simp (disch:=(first|omega|(simp only [qI,qJ,qK]<;>omega)|exact qL _)) only [go_sem]
 repeat ((first|refine qA ?_|apply qB|refine qC ?_|apply qD|apply qE|apply qF|apply qG|apply qH);try simp (disch:=(first|omega|(simp only [qI,qJ,qK]<;>omega)|exact qL _)) only [go_sem])
 have hE1:Ext w (wr (((w.alloc (.cells qZ5 37)).alloc (.cells ((zs ZT 8).toArray) 37)).alloc (.cells qZ5 37)) (w.heap.size+2) 0 [zI,zS,zB,.slice (some ⟨w.heap.size+1,0,none⟩) 8 8,zS]):=(Upd.alloc (Upd.alloc (Upd.alloc (Upd.refl _ _) _) _) _).wr _ _ (.inl (by omega))
 have hz1:(wr (((w.alloc (.cells qZ5 37)).alloc (.cells ((zs ZT 8).toArray) 37)).alloc (.cells qZ5 37)) (w.heap.size+2) 0 [zI,zS,zB,.slice (some ⟨w.heap.size+1,0,none⟩) 8 8,zS]).heap.size=w.heap.size+3:=by simp only [size_wr,World.size_alloc]
 have hl1:blk (wr (((w.alloc (.cells qZ5 37)).alloc (.cells ((zs ZT 8).toArray) 37)).alloc (.cells qZ5 37)) (w.heap.size+2) 0 [zI,zS,zB,.slice (some ⟨w.heap.size+1,0,none⟩) 8 8,zS]) (w.heap.size+1)=some ((zs ZT 8).toArray,37,(0,0)):=by simp (disch:=(first|omega|(simp only [qI,qJ,qK]<;>omega)|exact qL _)) only [go_sem]
 have ht1:blk (wr (((w.alloc (.cells qZ5 37)).alloc (.cells ((zs ZT 8).toArray) 37)).alloc (.cells qZ5 37)) (w.heap.size+2) 0 [zI,zS,zB,.slice (some ⟨w.heap.size+1,0,none⟩) 8 8,zS]) (w.heap.size+2)=some (#[zI,zS,zB,.slice (some ⟨w.heap.size+1,0,none⟩) 8 8,zS],37,(0,0)):=by simp (disch:=(first|omega|(simp only [qI,qJ,qK]<;>omega)|exact qL _)) only [go_sem]
 have hr1:blk (wr (((w.alloc (.cells qZ5 37)).alloc (.cells ((zs ZT 8).toArray) 37)).alloc (.cells qZ5 37)) (w.heap.size+2) 0 [zI,zS,zB,.slice (some ⟨w.heap.size+1,0,none⟩) 8 8,zS]) w.heap.size=some (qZ5,37,(0,0)):=by simp (disch:=(first|omega|(simp only [qI,qJ,qK]<;>omega)|exact qL _)) only [go_sem]
 obtain ⟨w1,hw1⟩:∃ y,y=(wr (((w.alloc (.cells qZ5 37)).alloc (.cells ((zs ZT 8).toArray) 37)).alloc (.cells qZ5 37)) (w.heap.size+2) 0 [zI,zS,zB,.slice (some ⟨w.heap.size+1,0,none⟩) 8 8,zS]):=⟨_,rfl⟩
 rw [← hw1] at hE1 hz1 hl1 ht1 hr1
 rw [← hw1]
 clear hw1
 have hU1:Upd (fun b=>b=w.heap.size+1∨b=w.heap.size+2) w1 w1:=Upd.refl _ _
 have hb1:=hE1.blk_some hb id
 have hJ0:TJ (fun b=>w1.heap.size≤b) (w.heap.size+1) 37 8 0 [] w1:=TJ.start hl1
 obtain ⟨A0,B0,hA0,hl1,lS⟩:=hJ0.next (by decide)
 replace hA0:A0.length=0:=hA0
 obtain ⟨Y1,hY1,dJ,AV⟩:=el_open (n:=5) hl1 hA0 rfl
 have eG:5≤Y1.size:=by omega
 repeat ((first|refine qA ?_|apply qB|refine qC ?_|apply qD|apply qE|apply qF|apply qG|apply qH);try simp (disch:=(first|omega|(simp only [qI,qJ,qK]<;>omega)|exact qL _)) only [go_sem,hb1,ht1,hq0,dJ,eG])
 refine W.drawR (.take 0 (.take 1 (.take 2 (.take 3 (.take 4 (.take 5 (.take 6 (.only 7 (.take 8 (.last 9)))))))))) (NoB) mixed (by kernel_rfl) ?_
 try simp (disch:=(first|omega|(simp only [qI,qJ,qK]<;>omega)|exact qL _)) only [go_sem,hb1,ht1,hq0,dJ,eG,tl32]
 refine ⟨Upd.refl _ _,?_⟩
 have xB:blk w1.drew (w.heap.size+1)=_:=dJ
 have hx2:Upd (fun b=>b=w.heap.size+1∨b=w.heap.size+2) w1 w1.drew:=(Upd.refl _ _).drew
 rw [hY1] at xB
 generalize hw2:wr w1.drew (w.heap.size+1) 0 [.int .i64 (IntKind.i32.wrap (t.at 0).n),zS,zB,zS,zS] = w2
 have hl2:blk w2 (w.heap.size+1)=some (((A0++(([.int .i64 (IntKind.i32.wrap (t.at 0).n),zS,zB,zS,zS]:List Value)++B0)).toArray),37,(0,0)):=by rw [← hw2];exact el_blk0 xB hA0 (Nat.le_of_ble_eq_true rfl)
 have hv2:Upd (fun b=>b=w.heap.size+1∨b=w.heap.size+2) w1.drew w2:=by rw [← hw2];exact (Upd.refl _ _).wr _ _ (.inr (.inl rfl))
 have hV2:Upd (fun b=>b=w.heap.size+1∨b=w.heap.size+2) w1 w2:=hx2.trans hv2
 have hU2:Upd (fun b=>b=w.heap.size+1∨b=w.heap.size+2) w1 w2:=hU1.trans hV2
 have hz2:=hU2.size
 have hX2:Ext w w2:=hE1.more hU2 fun b hb h=>by omega
 have hb2:=hX2.blk_some hb id
 have ht2:blk w2 (w.heap.size+2)=some (#[zI,zS,zB,.slice (some ⟨w.heap.size+1,0,none⟩) 8 8,zS],37,(0,0)):=by
  rw [← hw2,blk_wr_ne (by omega)]
  exact ht1
 clear hw2
 have hf0:TreeC (fun b=>w1.heap.size≤b) w2 (.num (IntKind.i32.wrap (t.at 0).n)) [.int .i64 (IntKind.i32.wrap (t.at 0).n),zS,zB,zS,zS]:=(TreeC.keep (hv2.keeps fun b hb hk e=>by have hk':w1.heap.size≤b:=hk;omega) (TreeC.intro (tl32 _) (BytesV.nil _ _) (treesN _ _) (tagsN _ _):TreeC (fun b=>w1.heap.size≤b) w1.drew (.num (IntKind.i32.wrap (t.at 0).n)) [.int .i64 (IntKind.i32.wrap (t.at 0).n),zS,zB,zS,zS]))
 have hJ1:=lS w2 _ (tlF (tlP d) fX0_0 (t.at 0)) rfl hl2 (hf0) ((hV2).keeps fun b hb hk e=>by have hk':w1.heap.size≤b:=hk;omega)
 obtain ⟨A1,B1,hA1,hl2,lT⟩:=hJ1.next (by decide)
 replace hA1:A1.length=5:=hA1
 obtain ⟨Y2,hY2,jF,V9⟩:=el_open (n:=5) hl2 hA1 rfl
 have y7:10≤Y2.size:=by omega
 repeat ((first|refine qA ?_|apply qB|refine qC ?_|apply qD|apply qE|apply qF|apply qG|apply qH);try simp (disch:=(first|omega|(simp only [qI,qJ,qK]<;>omega)|exact qL _)) only [go_sem,hb2,ht2,hq1,jF,y7])
 refine W.drawR (.take 0 (.take 1 (.take 2 (.take 3 (.take 4 (.take 5 (.take 6 (.only 7 (.take 8 (.last 9)))))))))) (NoB) mixed (by kernel_rfl) ?_
 try simp (disch:=(first|omega|(simp only [qI,qJ,qK]<;>omega)|exact qL _)) only [go_sem,hb2,ht2,hq1,jF,y7,tl32]
 refine ⟨Upd.refl _ _,?_⟩
 have fM:blk w2.drew (w.heap.size+1)=_:=jF
 have hx3:Upd (fun b=>b=w.heap.size+1∨b=w.heap.size+2) w2 w2.drew:=(Upd.refl _ _).drew
 rw [hY2] at fM
 generalize hw3:wr w2.drew (w.heap.size+1) 5 [.int .i64 (IntKind.i32.wrap (t.at 1).n),zS,zB,zS,zS] = w3
 have hl3:blk w3 (w.heap.size+1)=some (((A1++(([.int .i64 (IntKind.i32.wrap (t.at 1).n),zS,zB,zS,zS]:List Value)++B1)).toArray),37,(0,0)):=by rw [← hw3];exact el_blk0 fM hA1 (Nat.le_of_ble_eq_true rfl)
 have hv3:Upd (fun b=>b=w.heap.size+1∨b=w.heap.size+2) w2.drew w3:=by rw [← hw3];exact (Upd.refl _ _).wr _ _ (.inr (.inl rfl))
 have hV3:Upd (fun b=>b=w.heap.size+1∨b=w.heap.size+2) w2 w3:=hx3.trans hv3
 have hU3:Upd (fun b=>b=w.heap.size+1∨b=w.heap.size+2) w1 w3:=hU2.trans hV3
 have hz3:=hU3.size
 have hX3:Ext w w3:=hE1.more hU3 fun b hb h=>by omega
 have hb3:=hX3.blk_some hb id
 have ht3:blk w3 (w.heap.size+2)=some (#[zI,zS,zB,.slice (some ⟨w.heap.size+1,0,none⟩) 8 8,zS],37,(0,0)):=by
  rw [← hw3,blk_wr_ne (by omega)]
  exact ht2
 clear hw3
 have hf1:TreeC (fun b=>w1.heap.size≤b) w3 (.num (IntKind.i32.wrap (t.at 1).n)) [.int .i64 (IntKind.i32.wrap (t.at 1).n),zS,zB,zS,zS]:=(TreeC.keep (hv3.keeps fun b hb hk e=>by have hk':w1.heap.size≤b:=hk;omega) (TreeC.intro (tl32 _) (BytesV.nil _ _) (treesN _ _) (tagsN _ _):TreeC (fun b=>w1.heap.size≤b) w2.drew (.num (IntKind.i32.wrap (t.at 1).n)) [.int .i64 (IntKind.i32.wrap (t.at 1).n),zS,zB,zS,zS]))
 have hJ2:=lT w3 _ (tlF (tlP d) fX0_1 (t.at 1)) rfl hl3 (hf1) ((hV3).keeps fun b hb hk e=>by have hk':w1.heap.size≤b:=hk;omega)
 obtain ⟨A2,B2,hA2,hl3,qO⟩:=hJ2.next (by decide)
 replace hA2:A2.length=10:=hA2
 obtain ⟨Y3,hY3,eI,FU⟩:=el_open (n:=5) hl3 hA2 rfl
 have iO:15≤Y3.size:=by omega
 repeat ((first|refine qA ?_|apply qB|refine qC ?_|apply qD|apply qE|apply qF|apply qG|apply qH);try simp (disch:=(first|omega|(simp only [qI,qJ,qK]<;>omega)|exact qL _)) only [go_sem,hb3,ht3,hq2,eI,iO])
 refine W.drawR (.take 0 (.take 1 (.take 2 (.take 3 (.take 4 (.take 5 (.only 6 (.take 7 (.last 8))))))))) (NoB) mixed (by kernel_rfl) ?_
 try simp (disch:=(first|omega|(simp only [qI,qJ,qK]<;>omega)|exact qL _)) only [go_sem,hb3,ht3,hq2,eI,iO]
 refine ⟨Upd.refl _ _,?_⟩
 have xC:blk w3.drew (w.heap.size+1)=_:=eI
 have hx4:Upd (fun b=>b=w.heap.size+1∨b=w.heap.size+2) w3 w3.drew:=(Upd.refl _ _).drew
 rw [hY3] at xC
 generalize hw4:wr w3.drew (w.heap.size+1) 10 [.int .i64 ((t.at 2).n),zS,zB,zS,zS] = w4
 have hl4:blk w4 (w.heap.size+1)=some (((A2++(([.int .i64 ((t.at 2).n),zS,zB,zS,zS]:List Value)++B2)).toArray),37,(0,0)):=by rw [← hw4];exact el_blk0 xC hA2 (Nat.le_of_ble_eq_true rfl)
 have hv4:Upd (fun b=>b=w.heap.size+1∨b=w.heap.size+2) w3.drew w4:=by rw [← hw4];exact (Upd.refl _ _).wr _ _ (.inr (.inl rfl))
 have hV4:Upd (fun b=>b=w.heap.size+1∨b=w.heap.size+2) w3 w4:=hx4.trans hv4
 have hU4:Upd (fun b=>b=w.heap.size+1∨b=w.heap.size+2) w1 w4:=hU3.trans hV4
 have hz4:=hU4.size
 have hX4:Ext w w4:=hE1.more hU4 fun b hb h=>by omega
 have hb4:=hX4.blk_some hb id
 have ht4:blk w4 (w.heap.size+2)=some (#[zI,zS,zB,.slice (some ⟨w.heap.size+1,0,none⟩) 8 8,zS],37,(0,0)):=by
  rw [← hw4,blk_wr_ne (by omega)]
  exact ht3
 clear hw4
 have hf2:TreeC (fun b=>w1.heap.size≤b) w4 (.num ((t.at 2).n)) [.int .i64 ((t.at 2).n),zS,zB,zS,zS]:=(TreeC.keep (hv4.keeps fun b hb hk e=>by have hk':w1.heap.size≤b:=hk;omega) (TreeC.intro (XW) (BytesV.nil _ _) (treesN _ _) (tagsN _ _):TreeC (fun b=>w1.heap.size≤b) w3.drew (.num ((t.at 2).n)) [.int .i64 ((t.at 2).n),zS,zB,zS,zS]))
 have hJ3:=qO w4 _ (tlF (tlP d) fX0_2 (t.at 2)) rfl hl4 (hf2) ((hV4).keeps fun b hb hk e=>by have hk':w1.heap.size≤b:=hk;omega)
 obtain ⟨A3,B3,hA3,hl4,H4⟩:=hJ3.next (by decide)
 replace hA3:A3.length=15:=hA3
 obtain ⟨Y4,hY4,mW,VA⟩:=el_open (n:=5) hl4 hA3 rfl
 have t6:20≤Y4.size:=by omega
 repeat ((first|refine qA ?_|apply qB|refine qC ?_|apply qD|apply qE|apply qF|apply qG|apply qH);try simp (disch:=(first|omega|(simp only [qI,qJ,qK]<;>omega)|exact qL _)) only [go_sem,hb4,ht4,hq3,mW,t6])
 refine W.drawR (.take 0 (.take 1 (.take 2 (.take 3 (.take 4 (.take 5 (.take 6 (.only 7 (.take 8 (.last 9)))))))))) (NoB) mixed (by kernel_rfl) ?_
 try simp (disch:=(first|omega|(simp only [qI,qJ,qK]<;>omega)|exact qL _)) only [go_sem,hb4,ht4,hq3,mW,t6,tl32]
 refine ⟨Upd.refl _ _,?_⟩
 have lC:blk w4.drew (w.heap.size+1)=_:=mW
 have hx5:Upd (fun b=>b=w.heap.size+1∨b=w.heap.size+2) w4 w4.drew:=(Upd.refl _ _).drew
 rw [hY4] at lC
 generalize hw5:wr w4.drew (w.heap.size+1) 15 [.int .i64 (IntKind.i32.wrap (t.at 3).n),zS,zB,zS,zS] = w5
 have hl5:blk w5 (w.heap.size+1)=some (((A3++(([.int .i64 (IntKind.i32.wrap (t.at 3).n),zS,zB,zS,zS]:List Value)++B3)).toArray),37,(0,0)):=by rw [← hw5];exact el_blk0 lC hA3 (Nat.le_of_ble_eq_true rfl)
 have hv5:Upd (fun b=>b=w.heap.size+1∨b=w.heap.size+2) w4.drew w5:=by rw [← hw5];exact (Upd.refl _ _).wr _ _ (.inr (.inl rfl))
 have hV5:Upd (fun b=>b=w.heap.size+1∨b=w.heap.size+2) w4 w5:=hx5.trans hv5
 have hU5:Upd (fun b=>b=w.heap.size+1∨b=w.heap.size+2) w1 w5:=hU4.trans hV5
 have hz5:=hU5.size
 have hX5:Ext w w5:=hE1.more hU5 fun b hb h=>by omega
 have hb5:=hX5.blk_some hb id
 have ht5:blk w5 (w.heap.size+2)=some (#[zI,zS,zB,.slice (some ⟨w.heap.size+1,0,none⟩) 8 8,zS],37,(0,0)):=by
  rw [← hw5,blk_wr_ne (by omega)]
  exact ht4
 clear hw5
 have hf3:TreeC (fun b=>w1.heap.size≤b) w5 (.num (IntKind.i32.wrap (t.at 3).n)) [.int .i64 (IntKind.i32.wrap (t.at 3).n),zS,zB,zS,zS]:=(TreeC.keep (hv5.keeps fun b hb hk e=>by have hk':w1.heap.size≤b:=hk;omega) (TreeC.intro (tl32 _) (BytesV.nil _ _) (treesN _ _) (tagsN _ _):TreeC (fun b=>w1.heap.size≤b) w4.drew (.num (IntKind.i32.wrap (t.at 3).n)) [.int .i64 (IntKind.i32.wrap (t.at 3).n),zS,zB,zS,zS]))
 have hJ4:=H4 w5 _ (tlF (tlP d) fX0_3 (t.at 3)) rfl hl5 (hf3) ((hV5).keeps fun b hb hk e=>by have hk':w1.heap.size≤b:=hk;omega)
 obtain ⟨A4,B4,hA4,hl5,H5⟩:=hJ4.next (by decide)
 replace hA4:A4.length=20:=hA4
 obtain ⟨Y5,hY5,lR,KX⟩:=el_open (n:=5) hl5 hA4 rfl
 have oH:25≤Y5.size:=by omega
 repeat ((first|refine qA ?_|apply qB|refine qC ?_|apply qD|apply qE|apply qF|apply qG|apply qH);try simp (disch:=(first|omega|(simp only [qI,qJ,qK]<;>omega)|exact qL _)) only [go_sem,hb5,ht5,hq4,lR,oH])
 refine W.drawR (.take 0 (.take 1 (.take 2 (.take 3 (.take 4 (.take 5 (.only 6 (.take 7 (.last 8))))))))) (NoB) mixed (by kernel_rfl) ?_
 try simp (disch:=(first|omega|(simp only [qI,qJ,qK]<;>omega)|exact qL _)) only [go_sem,hb5,ht5,hq4,lR,oH]
 refine ⟨Upd.refl _ _,?_⟩
 have u3:blk w5.drew (w.heap.size+1)=_:=lR
 have hx6:Upd (fun b=>b=w.heap.size+1∨b=w.heap.size+2) w5 w5.drew:=(Upd.refl _ _).drew
 rw [hY5] at u3
 generalize hw6:wr w5.drew (w.heap.size+1) 20 [.int .i64 ((t.at 4).n),zS,zB,zS,zS] = w6
 have hl6:blk w6 (w.heap.size+1)=some (((A4++(([.int .i64 ((t.at 4).n),zS,zB,zS,zS]:List Value)++B4)).toArray),37,(0,0)):=by rw [← hw6];exact el_blk0 u3 hA4 (Nat.le_of_ble_eq_true rfl)
 have hv6:Upd (fun b=>b=w.heap.size+1∨b=w.heap.size+2) w5.drew w6:=by rw [← hw6];exact (Upd.refl _ _).wr _ _ (.inr (.inl rfl))
 have hV6:Upd (fun b=>b=w.heap.size+1∨b=w.heap.size+2) w5 w6:=hx6.trans hv6
 have hU6:Upd (fun b=>b=w.heap.size+1∨b=w.heap.size+2) w1 w6:=hU5.trans hV6
 have hz6:=hU6.size
 have hX6:Ext w w6:=hE1.more hU6 fun b hb h=>by omega
 have hb6:=hX6.blk_some hb id
 have ht6:blk w6 (w.heap.size+2)=some (#[zI,zS,zB,.slice (some ⟨w.heap.size+1,0,none⟩) 8 8,zS],37,(0,0)):=by
  rw [← hw6,blk_wr_ne (by omega)]
  exact ht5
 clear hw6
 have hf4:TreeC (fun b=>w1.heap.size≤b) w6 (.num ((t.at 4).n)) [.int .i64 ((t.at 4).n),zS,zB,zS,zS]:=(TreeC.keep (hv6.keeps fun b hb hk e=>by have hk':w1.heap.size≤b:=hk;omega) (TreeC.intro (XY) (BytesV.nil _ _) (treesN _ _) (tagsN _ _):TreeC (fun b=>w1.heap.size≤b) w5.drew (.num ((t.at 4).n)) [.int .i64 ((t.at 4).n),zS,zB,zS,zS]))
 have hJ5:=H5 w6 _ (tlF (tlP d) fX0_4 (t.at 4)) rfl hl6 (hf4) ((hV6).keeps fun b hb hk e=>by have hk':w1.heap.size≤b:=hk;omega)
 obtain ⟨A5,B5,hA5,hl6,H6⟩:=hJ5.next (by decide)
 replace hA5:A5.length=25:=hA5
 obtain ⟨Y6,hY6,kF,FV⟩:=el_open (n:=5) hl6 hA5 rfl
 have m7:30≤Y6.size:=by omega
 repeat ((first|refine qA ?_|apply qB|refine qC ?_|apply qD|apply qE|apply qF|apply qG|apply qH);try simp (disch:=(first|omega|(simp only [qI,qJ,qK]<;>omega)|exact qL _)) only [go_sem,hb6,ht6,hq5,kF,m7])
 refine W.drawR (.take 0 (.take 1 (.take 2 (.take 3 (.take 4 (.take 5 (.take 6 (.only 7 (.take 8 (.last 9)))))))))) (NoB) mixed (by kernel_rfl) ?_
 try simp (disch:=(first|omega|(simp only [qI,qJ,qK]<;>omega)|exact qL _)) only [go_sem,hb6,ht6,hq5,kF,m7,tl32]
 refine ⟨Upd.refl _ _,?_⟩
 have xD:blk w6.drew (w.heap.size+1)=_:=kF
 have hx7:Upd (fun b=>b=w.heap.size+1∨b=w.heap.size+2) w6 w6.drew:=(Upd.refl _ _).drew
 rw [hY6] at xD
 generalize hw7:wr w6.drew (w.heap.size+1) 25 [.int .i64 (IntKind.i32.wrap (t.at 5).n),zS,zB,zS,zS] = w7
 have hl7:blk w7 (w.heap.size+1)=some (((A5++(([.int .i64 (IntKind.i32.wrap (t.at 5).n),zS,zB,zS,zS]:List Value)++B5)).toArray),37,(0,0)):=by rw [← hw7];exact el_blk0 xD hA5 (Nat.le_of_ble_eq_true rfl)
 have hv7:Upd (fun b=>b=w.heap.size+1∨b=w.heap.size+2) w6.drew w7:=by rw [← hw7];exact (Upd.refl _ _).wr _ _ (.inr (.inl rfl))
 have hV7:Upd (fun b=>b=w.heap.size+1∨b=w.heap.size+2) w6 w7:=hx7.trans hv7
 have hU7:Upd (fun b=>b=w.heap.size+1∨b=w.heap.size+2) w1 w7:=hU6.trans hV7
 have hz7:=hU7.size
 have hX7:Ext w w7:=hE1.more hU7 fun b hb h=>by omega
 have hb7:=hX7.blk_some hb id
 have ht7:blk w7 (w.heap.size+2)=some (#[zI,zS,zB,.slice (some ⟨w.heap.size+1,0,none⟩) 8 8,zS],37,(0,0)):=by
  rw [← hw7,blk_wr_ne (by omega)]
  exact ht6
 clear hw7
 have hf5:TreeC (fun b=>w1.heap.size≤b) w7 (.num (IntKind.i32.wrap (t.at 5).n)) [.int .i64 (IntKind.i32.wrap (t.at 5).n),zS,zB,zS,zS]:=(TreeC.keep (hv7.keeps fun b hb hk e=>by have hk':w1.heap.size≤b:=hk;omega) (TreeC.intro (tl32 _) (BytesV.nil _ _) (treesN _ _) (tagsN _ _):TreeC (fun b=>w1.heap.size≤b) w6.drew (.num (IntKind.i32.wrap (t.at 5).n)) [.int .i64 (IntKind.i32.wrap (t.at 5).n),zS,zB,zS,zS]))
 have hJ6:=H6 w7 _ (tlF (tlP d) fX0_5 (t.at 5)) rfl hl7 (hf5) ((hV7).keeps fun b hb hk e=>by have hk':w1.heap.size≤b:=hk;omega)
 obtain ⟨A6,B6,hA6,hl7,H7⟩:=hJ6.next (by decide)
 replace hA6:A6.length=30:=hA6
 obtain ⟨Y7,hY7,fB,FW⟩:=el_open (n:=5) hl7 hA6 rfl
 have cE:35≤Y7.size:=by omega
 repeat ((first|refine qA ?_|apply qB|refine qC ?_|apply qD|apply qE|apply qF|apply qG|apply qH);try simp (disch:=(first|omega|(simp only [qI,qJ,qK]<;>omega)|exact qL _)) only [go_sem,hb7,ht7,fB,cE])
 refine W.drawR (.take 0 (.take 1 (.take 2 (.take 3 (.take 4 (.take 5 (.only 6 (.only 7 (.take 8 (.last 9)))))))))) (NoB) mixed (by kernel_rfl) ?_
 try simp (disch:=(first|omega|(simp only [qI,qJ,qK]<;>omega)|exact qL _)) only [go_sem,hb7,ht7,fB,cE]
 have VJ:blk w7.drew b=some x:=hb7
 have VT:BytesV AnyB w7.drew (.slice (some ⟨b,o+6,none⟩) 16 16) (uuidS (t.at 6).s):=bytes_at VJ (uuidS_len _) fun j hj=>by
  rw [hZ6,show o+6+j=o+(6+j) from by omega]
  exact (hq (6+j) (by omega)).trans (get_mid (pre:=[.int .i32 (IntKind.i32.wrap (t.at 0).n),.int .i32 (IntKind.i32.wrap (t.at 1).n),.int .i64 (t.at 2).n,.int .i32 (IntKind.i32.wrap (t.at 3).n),.int .i64 (t.at 4).n,.int .i32 (IntKind.i32.wrap (t.at 5).n)]) (xs:=[z6_0,z6_1,z6_2,z6_3,z6_4,z6_5,z6_6,z6_7,z6_8,z6_9,z6_10,z6_11,z6_12,z6_13,z6_14,z6_15]) (post:=[.int .i64 (t.at 7).n,.map qm]) hj)
 refine wp_copyN ap_22_22 (ok:=AnyB) (s:=uuidS (t.at 6).s) (v:=.slice (some ⟨b,o+6,none⟩) 16 16) (by first|rfl|simp (disch:=(first|omega|(simp only [qI,qJ,qK]<;>omega)|exact qL _)) only [go_sem]) (by first|rfl|simp (disch:=(first|omega|(simp only [qI,qJ,qK]<;>omega)|exact qL _)) only [go_sem]) VT (by rw [uuidS_len];omega) ?_
 intro v8 w8 ho8 J5 WD
 obtain ⟨av8,kv8,rfl,_⟩:=ho8.shape
 have hB8:=Own.bytes (ok:=fun b=>w7.drew.heap.size≤b) ho8 fun b hb=>WD b hb
 have hP8:Upd NoB w7.drew w8:=(Upd.refl _ _).trans (J5.mono fun _ h=>h.elim)
 have ZM:=J5.size
 try simp only [size_drew] at ZM
 refine ⟨hP8,?_⟩
 try simp (disch:=(first|omega|(simp only [qI,qJ,qK]<;>omega)|exact qL _)) only [go_sem,hb7,ht7,fB,cE]
 refine ⟨hP8,?_⟩
 have u4:=hP8.blk_some (show blk w7.drew (w.heap.size+1)=_ from fB) id
 have hx9:Upd (fun b=>b=w.heap.size+1∨b=w.heap.size+2) w7 w8:=((Upd.refl _ _).drew).trans (hP8.mono fun _ h=>h.elim)
 try simp (disch:=(first|omega|(simp only [qI,qJ,qK]<;>omega)|exact qL _)) only [go_sem,u4,cE]
 rw [hY7] at u4
 generalize hw9:wr w8 (w.heap.size+1) 30 [zI,.slice av8 (uuidS (t.at 6).s).length kv8,zB,zS,zS] = w9
 have hl9:blk w9 (w.heap.size+1)=some (((A6++(([zI,.slice av8 (uuidS (t.at 6).s).length kv8,zB,zS,zS]:List Value)++B6)).toArray),37,(0,0)):=by rw [← hw9];exact el_blk0 u4 hA6 (Nat.le_of_ble_eq_true rfl)
 have hv9:Upd (fun b=>b=w.heap.size+1∨b=w.heap.size+2) w8 w9:=by rw [← hw9];exact (Upd.refl _ _).wr _ _ (.inr (.inl rfl))
 have hV9:Upd (fun b=>b=w.heap.size+1∨b=w.heap.size+2) w7 w9:=hx9.trans hv9
 have hU9:Upd (fun b=>b=w.heap.size+1∨b=w.heap.size+2) w1 w9:=hU7.trans hV9
 have hz9:=hU9.size
 have hX9:Ext w w9:=hE1.more hU9 fun b hb h=>by omega
 have hb9:=hX9.blk_some hb id
 have ht9:blk w9 (w.heap.size+2)=some (#[zI,zS,zB,.slice (some ⟨w.heap.size+1,0,none⟩) 8 8,zS],37,(0,0)):=by
  rw [← hw9,blk_wr_ne (by omega)]
  exact hP8.blk_some (show blk w7.drew (w.heap.size+2)=_ from ht7) id
 clear hw9
 have hf6:TreeC (fun b=>w1.heap.size≤b) w9 (.oct false (uuidS (t.at 6).s)) [zI,.slice av8 (uuidS (t.at 6).s).length kv8,zB,zS,zS]:=(TreeC.keep (hv9.keeps fun b hb hk e=>by have hk':w1.heap.size≤b:=hk;omega) (TreeC.intro rfl (hB8.weaken fun b _ hk=>by have hk':w7.drew.heap.size≤b:=hk;(try simp only [size_drew] at hk');omega) (treesN _ _) (tagsN _ _):TreeC (fun b=>w1.heap.size≤b) w8 (.oct false (uuidS (t.at 6).s)) [zI,.slice av8 (uuidS (t.at 6).s).length kv8,zB,zS,zS]))
 have hJ7:=H7 w9 _ (tlF (tlP d) fX0_6 (t.at 6)) rfl hl9 (hf6) ((hV9).keeps fun b hb hk e=>by have hk':w1.heap.size≤b:=hk;omega)
 obtain ⟨A7,B7,hA7,hl9,H8⟩:=hJ7.next (by decide)
 replace hA7:A7.length=35:=hA7
 obtain ⟨Y9,hY9,pZ,VB⟩:=el_open (n:=5) hl9 hA7 rfl
 have y9:40≤Y9.size:=by omega
 repeat ((first|refine qA ?_|apply qB|refine qC ?_|apply qD|apply qE|apply qF|apply qG|apply qH);try simp (disch:=(first|omega|(simp only [qI,qJ,qK]<;>omega)|exact qL _)) only [go_sem,hb9,ht9,qP,pZ,y9])
 refine W.drawR (.take 0 (.take 1 (.take 2 (.take 3 (.take 4 (.take 5 (.only 6 (.take 7 (.last 8))))))))) (NoB) mixed (by kernel_rfl) ?_
 try simp (disch:=(first|omega|(simp only [qI,qJ,qK]<;>omega)|exact qL _)) only [go_sem,hb9,ht9,qP,pZ,y9]
 refine ⟨Upd.refl _ _,?_⟩
 have qM:blk w9.drew (w.heap.size+1)=_:=pZ
 have yG:Upd (fun b=>b=w.heap.size+1∨b=w.heap.size+2) w9 w9.drew:=(Upd.refl _ _).drew
 rw [hY9] at qM
 generalize eZ:wr w9.drew (w.heap.size+1) 35 [.int .i64 ((t.at 7).n),zS,zB,zS,zS] = w10
 have wV:blk w10 (w.heap.size+1)=some (((A7++(([.int .i64 ((t.at 7).n),zS,zB,zS,zS]:List Value)++B7)).toArray),37,(0,0)):=by rw [← eZ];exact el_blk0 qM hA7 (Nat.le_of_ble_eq_true rfl)
 have yF:Upd (fun b=>b=w.heap.size+1∨b=w.heap.size+2) w9.drew w10:=by rw [← eZ];exact (Upd.refl _ _).wr _ _ (.inr (.inl rfl))
 have eF:Upd (fun b=>b=w.heap.size+1∨b=w.heap.size+2) w9 w10:=yG.trans yF
 have eK:Upd (fun b=>b=w.heap.size+1∨b=w.heap.size+2) w1 w10:=hU9.trans eF
 have hz10:=eK.size
 have AN:Ext w w10:=hE1.more eK fun b hb h=>by omega
 have wM:=AN.blk_some hb id
 have oI:blk w10 (w.heap.size+2)=some (#[zI,zS,zB,.slice (some ⟨w.heap.size+1,0,none⟩) 8 8,zS],37,(0,0)):=by
  rw [← eZ,blk_wr_ne (by omega)]
  exact ht9
 clear eZ
 have hf7:TreeC (fun b=>w1.heap.size≤b) w10 (.num ((t.at 7).n)) [.int .i64 ((t.at 7).n),zS,zB,zS,zS]:=(TreeC.keep (yF.keeps fun b hb hk e=>by have hk':w1.heap.size≤b:=hk;omega) (TreeC.intro (XZ) (BytesV.nil _ _) (treesN _ _) (tagsN _ _):TreeC (fun b=>w1.heap.size≤b) w9.drew (.num ((t.at 7).n)) [.int .i64 ((t.at 7).n),zS,zB,zS,zS]))
 have hJ8:=H8 w10 _ (tlF (tlP d) fX0_7 (t.at 7)) rfl wV (hf7) ((eF).keeps fun b hb hk e=>by have hk':w1.heap.size≤b:=hk;omega)
 repeat ((first|refine qA ?_|apply qB|refine qC ?_|apply qD|apply qE|apply qF|apply qG|apply qH);try simp (disch:=(first|omega|(simp only [qI,qJ,qK]<;>omega)|exact qL _)) only [go_sem,wM,oI])
 refine (EachG_fn (ok:=fun b=>b < w.heap.size) 84 ca_84 #[.pointer (some ⟨w.heap.size+2,0,none⟩)] w10 (tb:=b) (to:=o+23) wM qQ ((hT.weaken fun b hb _=>hb).keep (AN.keeps _)) (sortT_perm _) (sortT_lt hgu.2.1) (by rw [(sortT_perm t.u).length_eq];exact hgu.1)
  (fun b=>b=w.heap.size+2) (by omega) (fun b hb hk e=>by have hk':b < w.heap.size:=hk;omega) (fun b hb=>by have:=blk_lt oI;omega)
  (fun wl done w'=>∃ v,blk w' (w.heap.size+2)=some (#[zI,zS,zB,.slice (some ⟨w.heap.size+1,0,none⟩) 8 8,v],37,(0,0))∧GrowU (fun b=>w1.heap.size≤b) wl.heap.size (w.heap.size+2) w' 62 v done) (fun wl hE=>⟨_,hE.blk_some oI id,GrowU.nil _ _ _ _ _⟩) ?_).mono ?_
 ·rintro wl hE done y vv wc hpre ⟨v,hbv,hg⟩ hU hvv hy
  have hz':=hE.size
  have hzu:=hU.size
  have htl:=blk_lt oI
  have hpl:=hpre.length_le
  simp only [List.length_append,List.length_cons,List.length_nil] at hpl
  rw [(sortT_perm t.u).length_eq] at hpl
  have hlu:=hgu.1
  have hmy:y∈t.u:=(sortT_perm t.u).mem_iff.1 (hpre.subset (by simp))
  refine (tagclX0_fn (ok:=fun b=>b < w.heap.size) _ _ _ _ v done y vv wc hbv hg hzu (by omega) (hvv.keep ((hE.mono (fun _ h=>h.elim) |>.trans hU:Upd (fun b=>b=w.heap.size+2) w10 wc).keeps fun b _ hk e=>by have hk':b < w.heap.size:=hk;omega)) hy (hgu.2.2 y hmy) (by omega) (fun b hb=>by have:=hz10;omega)).mono ?_
  rintro _ w2' ⟨⟨v',h1,h2⟩,h3⟩
  exact ⟨⟨v',h1,h2⟩,hU.trans' h3 fun b hb h=>h.elim id fun h=>by omega⟩
 rintro _ w11 ⟨wl,hEl,⟨v,m8,hgU⟩,hUe⟩
 have hzl:=hEl.size
 obtain ⟨aU,kU,hvs,_⟩:=hgU.shape
 subst hvs
 have eH:Upd (fun b=>b=w.heap.size+1∨b=w.heap.size+2) w10 w11:=(hEl.mono fun _ h=>h.elim).trans (hUe.mono fun _ h=>.inr h)
 have fA:Upd (fun b=>b=w.heap.size+1∨b=w.heap.size+2) w1 w11:=eK.trans eH
 have yZ:=fA.size
 have wH:Ext w w11:=hE1.more fA fun b hb h=>by omega
 have pU:=wH.blk_some hb id
 have hJe:TJ (fun b=>w1.heap.size≤b) (w.heap.size+1) 37 8 8 _ w11:=hJ8.keep ((hEl.mono fun _ h=>h.elim).trans hUe:Upd (fun b=>b=w.heap.size+2) w10 w11) (by omega) (((hEl.mono fun _ h=>h.elim).trans hUe:Upd (fun b=>b=w.heap.size+2) w10 w11).keeps fun b hb hk e=>by have hk':w1.heap.size≤b:=hk;omega)
 have hTU:=hgU.tags (ok':=(fun b=>w1.heap.size≤b)) (fun _ _ h=>h) (fun b hb=>by have:=hz10;omega)
 repeat ((first|refine qA ?_|apply qB|refine qC ?_|apply qD|apply qE|apply qF|apply qG|apply qH);try simp (disch:=(first|omega|(simp only [qI,qJ,qK]<;>omega)|exact qL _)) only [go_sem,pU,m8,cellsAt_five])
 refine (sorted_fn _ _ w11 hTU (sortT_lt hgu.2.1) (by rw [(sortT_perm t.u).length_eq];exact hgu.1)).mono ?_
 rintro _ w12 hEs
 have fG:Upd (fun b=>b=w.heap.size+1∨b=w.heap.size+2) w11 w12:=hEs.mono fun _ h=>h.elim
 have fD:Upd (fun b=>b=w.heap.size+1∨b=w.heap.size+2) w1 w12:=fA.trans fG
 have DP:=fD.size
 have mQ:Ext w w12:=hE1.more fD fun b hb h=>by omega
 have lP:=mQ.blk_some hb id
 have hJy:=hJe.keep hEs id (Ext.keeps hEs _)
 have lE:=hEs.blk_some m8 id
 have YT:=(fD.blk_some hr1 (by omega))
 have hTL:TreesV (fun b=>(fun b=>w1.heap.size≤b) b∨b=w.heap.size+1) w12 (.slice (some ⟨w.heap.size+1,0,none⟩) 8 8) [tlF (tlP d) fX0_0 (t.at 0),tlF (tlP d) fX0_1 (t.at 1),tlF (tlP d) fX0_2 (t.at 2),tlF (tlP d) fX0_3 (t.at 3),tlF (tlP d) fX0_4 (t.at 4),tlF (tlP d) fX0_5 (t.at 5),tlF (tlP d) fX0_6 (t.at 6),tlF (tlP d) fX0_7 (t.at 7)]:=hJy.trees
 repeat ((first|refine qA ?_|apply qB|refine qC ?_|apply qD|apply qE|apply qF|apply qG|apply qH);try simp (disch:=(first|omega|(simp only [qI,qJ,qK]<;>omega)|exact qL _)) only [go_sem,lP,lE,YT,cellsAt_five])
 refine ⟨⟨_,rfl,?_⟩,mQ.wr _ _ (.inl (Nat.le_refl _))⟩
 have hUr:Upd (fun b=>b=w.heap.size) w12 (wr w12 w.heap.size 0 [zI,zS,zB,.slice (some ⟨w.heap.size+1,0,none⟩) 8 8,.slice aU (sortT t.u).length kU]):=(Upd.refl _ _).wr _ _ (.inr rfl)
 have lI:=hTU.keep (hEs.keeps _)
 exact TreeC.intro rfl (BytesV.nil _ _) ((hTL.keep (hUr.keeps fun b _ hk e=>by rcases hk with hk|hk<;>omega)).weaken fun b _ hk=>by rcases hk with hk|hk<;>omega) ((lI.keep (hUr.keeps fun b _ hk e=>by omega)).weaken fun b _ hk=>by omega)

theorem tagclX3_fn {ok OK:Blocks} {B tb:Nat} (c0 c1 c2 c3 v:Value) (done:List TagD) (y:TagD) (vv:Value) (w:World) (hbt:blk w tb=some (#[c0,c1,c2,c3,v],37,(0,0))) (hg:GrowU OK B tb w 62 v done) (hB:B≤w.heap.size) (htb:tb < B) (hvv:BytesV ok w vv y.2) (hy:y.1 < 2 ^ 32) (hyl:y.2.length≤32767) (hdl:done.length≤32767) (hOK:∀ b,B≤b→OK b) :
  Fn Tryz.prog 68 #[.int .u32 y.1,vv,.pointer (some ⟨tb,0,none⟩)] w fun _ w'=>(∃ v',blk w' tb=some (#[c0,c1,c2,c3,v'],37,(0,0))∧GrowU OK B tb w' 62 v' (done++[y]))∧Upd (fun b=>b=tb∨B≤b) w w':=by
 have htl:=blk_lt hbt
 refine fn_of_W Tryz.func68 rfl Tryz.results68 Tryz.ntmps68 rfl ?_
 repeat ((first|refine qA ?_|apply qB|refine qC ?_|apply qD|apply qE|apply qF|apply qG|apply qH);try simp (disch:=(first|omega|(simp only [qI,qJ,qK]<;>omega)|exact qL _)) only [go_sem])
 obtain ⟨av,kv,rfl,_⟩:=hg.shape
 have hnb:∀ b,b < B∨w.heap.size≤b→¬ ownB (.slice av done.length kv) b:=fun b hb h=>by
  have:=hg.above h
  have:=hg.below h
  omega
 refine W.drawR (.take 0 (.take 1 (.take 2 (.take 3 (.only 4 (.only 5 (.only 6 (.only 7 (.take 8 (.last 9)))))))))) (ownB (.slice av done.length kv)) mixed (by kernel_rfl) ?_
 simp (disch:=(first|omega|(simp only [qI,qJ,qK]<;>omega)|exact qL _|(refine hnb _ ?_;first|omega|(simp only [World.size_alloc,size_wr,size_drew]<;>omega)))) only [go_sem,hbt]
 refine wp_copyN ap_22_22 (ok:=ok) (s:=y.2) (v:=vv) (by first|rfl|simp (disch:=(first|omega|(simp only [qI,qJ,qK]<;>omega)|exact qL _)) only [go_sem]) (by first|rfl|simp (disch:=(first|omega|(simp only [qI,qJ,qK]<;>omega)|exact qL _)) only [go_sem]) (hvv.keep (Ext.keeps ((Upd.refl _ _).drew) _)) (by omega) ?_
 intro v1 w1 ho1 hE1 hf1
 obtain ⟨a1,k1,rfl,_⟩:=ho1.shape
 have hB1:=Own.bytes (ok:=fun b=>w.heap.size≤b) ho1 fun b hb=>hf1 b hb
 have hP1:Upd (ownB (.slice av done.length kv)) w.drew w1:=hE1.mono fun _ h=>h.elim
 have hs1:=hE1.size
 simp only [size_drew] at hs1
 refine ⟨hP1,?_⟩
 simp (disch:=(first|omega|(simp only [qI,qJ,qK]<;>omega)|exact qL _|(refine hnb _ ?_;first|omega|(simp only [World.size_alloc,size_wr,size_drew]<;>omega)))) only [go_sem,hbt]
 refine ⟨hP1,?_⟩
 have hP2:Upd (ownB (.slice av done.length kv)) w.drew (w1.alloc (.cells #[.int .u32 y.1,.slice a1 y.2.length k1] 62)):=hP1.alloc _
 have hn2:blk (w1.alloc (.cells #[.int .u32 y.1,.slice a1 y.2.length k1] 62)) w1.heap.size=some (#[.int .u32 y.1,.slice a1 y.2.length k1],62,(0,0)):=blk_alloc_new rfl
 have hs2:(w1.alloc (.cells #[.int .u32 y.1,.slice a1 y.2.length k1] 62)).heap.size=w1.heap.size+1:=World.size_alloc _ _
 have hE2:Ext w1 (w1.alloc (.cells #[.int .u32 y.1,.slice a1 y.2.length k1] 62)):=Upd.alloc (Upd.refl _ _) _
 refine ⟨hP2,?_⟩
 try simp only [List.append_nil]
 generalize (w1.alloc (.cells #[.int .u32 y.1,.slice a1 y.2.length k1] 62))=w2 at *
 have hEw:Ext w w2:=(((Upd.refl _ _).drew).trans hE1).trans hE2
 obtain ⟨css,hown,hall⟩:=(hg.ext hEw).ex
 have hcl:=hall.1
 have hx2:TagC (fun b=>OK b∧b≠tb∧¬ ownB (.slice av done.length kv) b) w2 y [.int .u32 y.1,.slice a1 y.2.length k1]:=⟨_,rfl,(hB1.keep (hE2.keeps _)).weaken fun b _ hk=>⟨hOK b (by omega),by omega,hnb b (.inr hk)⟩,hy⟩
 refine wp_append ap_35_35 (m:=1) (news:=[.int .u32 y.1,.slice a1 y.2.length k1]) (n:=css.length) (cs:=css.flatten) (v:=.slice av done.length kv) ?_ rfl hown.1 hall.flat_cells (Src.blk (fr:=(0,0)) (T:=62) hn2 rfl rfl) ?_ ?_ ?_
 ·first|rfl|simp (disch:=(first|omega|(simp only [qI,qJ,qK]<;>omega)|exact qL _)) only [go_sem]
 ·omega
 ·omega
 intro v' w3 ho hu hfr
 have hg3:=GrowU.snoc hown hall hx2 hu hfr ho
 obtain ⟨va,vc,hv',_⟩:=ho.shape
 subst hv'
 have hP3:=hP2.trans hu
 have hs3:=hu.size
 have eD:=hP3.blk_some (show blk w.drew tb=_ from hbt) (hnb _ (.inl htb))
 have hne:¬ ownB (.slice va (css.length+1) vc) tb:=fun h=>(hfr _ h).elim (hnb _ (.inl htb)) (fun h=>by omega)
 refine ⟨hP3,?_⟩
 simp (disch:=(first|omega|(simp only [qI,qJ,qK]<;>omega)|exact qL _|(refine hnb _ ?_;first|omega|(simp only [World.size_alloc,size_wr,size_drew]<;>omega)))) only [go_sem,eD]
 repeat ((first|refine qA ?_|apply qB|refine qC ?_|apply qD|apply qE|apply qF|apply qG|apply qH);try simp (disch:=(first|omega|(simp only [qI,qJ,qK]<;>omega)|exact qL _)) only [go_sem])
 refine ⟨⟨.slice va (css.length+1) vc,by first|(rw [blk_wr_eq,eD];rfl)|rfl|(rw [eD];rfl)|(rw [blk_wr_eq,eD]),hg3.upd ((Upd.refl _ _).wr _ _ (.inr rfl)) hne⟩,?_⟩
 refine Upd.wr ?_ _ _ (.inr (.inl rfl))
 exact (((Upd.refl (fun b=>b=tb∨B≤b) w).drew).trans (hP3.mono fun b h=>.inr (hg.above h)))

set_option maxHeartbeats 4000000 in
theorem tellX3_fn {d:Nat} {ok:Blocks} (t:Tree) (cs:List Value) (w:World) {b o:Nat} {x:Blk} (hb:blk w b=some x) (hq:∀ k,k < 19→x.1[o+k]? = cs[k]?) (hR:RepS true (d+2) fs_X3 ok w t cs) (hg:GoodP (d+2) fs_X3 t) :
  Fn Tryz.prog 30 #[.pointer (some ⟨b,o,none⟩)] w fun r w'=>(∃ c,r = .agg c.toArray∧TreeC (fun b=>w.heap.size≤b) w' (tlP (d+2) fs_X3 t) c)∧Ext w w':=by
 have hbl:=blk_lt hb
 obtain ⟨⟨gd0,gd1,gd2,-⟩,hgu⟩:=hg
 replace gd0:GoodF (GoodP (d+1)) fX3_0 (t.at 0):=gd0
 replace gd1:GoodF (GoodP (d+1)) fX3_1 (t.at 1):=gd1
 replace gd2:GoodF (GoodP (d+1)) fX3_2 (t.at 2):=gd2
 obtain ⟨cs0,q,hcs,hL,hT⟩:=hR.inv
 obtain ⟨c0,e0,rfl,h0,c1,e1,rfl,h1,c2,e2,rfl,h2,rfl⟩:=hL
 replace h0:RepF (RepS true (d+1)) (szS true (d+1)) fX3_0 ok w (t.at 0) c0:=h0
 replace h1:RepF (RepS true (d+1)) (szS true (d+1)) fX3_1 ok w (t.at 1) c1:=h1
 replace h2:RepF (RepS true (d+1)) (szS true (d+1)) fX3_2 ok w (t.at 2) c2:=h2
 obtain rfl:=(RepF_text rfl (by decide)).1 h0
 obtain rfl:=(RepF_uuid rfl).1 h1
 have GJ:((uuidS (t.at 1).s).map byteV).length=16:=by rw [List.length_map,uuidS_len]
 generalize hZ1:(uuidS (t.at 1).s).map byteV=Z1 at *
 obtain ⟨z1_0,z1_1,z1_2,z1_3,z1_4,z1_5,z1_6,z1_7,z1_8,z1_9,z1_10,z1_11,z1_12,z1_13,z1_14,z1_15,rfl⟩:=list16 GJ
 obtain ⟨ab2,ac2,L2,rfl,hL2,H3,hs2⟩:=RepF_listT rfl h2
 have wP:=gd2.listL rfl hL2
 obtain ⟨qm,rfl⟩:=hT.shape
 subst hcs
 have hq0:x.1[o]? = some (strV (t.at 0).s):=hq 0 (by decide)
 have hq1:x.1[o+1]? = some (z1_0):=hq 1 (by decide)
 have hq2:x.1[o+2]? = some (z1_1):=hq 2 (by decide)
 have hq3:x.1[o+3]? = some (z1_2):=hq 3 (by decide)
 have hq4:x.1[o+4]? = some (z1_3):=hq 4 (by decide)
 have hq5:x.1[o+5]? = some (z1_4):=hq 5 (by decide)
 have hq6:x.1[o+6]? = some (z1_5):=hq 6 (by decide)
 have hq7:x.1[o+7]? = some (z1_6):=hq 7 (by decide)
 have hq8:x.1[o+8]? = some (z1_7):=hq 8 (by decide)
 have hq9:x.1[o+9]? = some (z1_8):=hq 9 (by decide)
 have gR:x.1[o+10]? = some (z1_9):=hq 10 (by decide)
 have eC:x.1[o+11]? = some (z1_10):=hq 11 (by decide)
 have dT:x.1[o+12]? = some (z1_11):=hq 12 (by decide)
 have lD:x.1[o+13]? = some (z1_12):=hq 13 (by decide)
 have lU:x.1[o+14]? = some (z1_13):=hq 14 (by decide)
 have kI:x.1[o+15]? = some (z1_14):=hq 15 (by decide)
 have xI:x.1[o+16]? = some (z1_15):=hq 16 (by decide)
 have dS:x.1[o+17]? = some (.slice ab2 L2.length ac2):=hq 17 (by decide)
 have iY:x.1[o+18]? = some (.map qm):=hq 18 (by decide)
 refine fn_of_W Tryz.func30 rfl Tryz.results30 Tryz.ntmps30 rfl ?_
 repeat ((first|refine qA ?_|apply qB|refine qC ?_|apply qD|apply qE|apply qF|apply qG|apply qH);try simp (disch:=(first|omega|(simp only [qI,qJ,qK]<;>omega)|exact qL _)) only [go_sem])
 refine wp_make (T:=34) (E:=37) (size:=5) (bytes:=88) (z:=.agg qZ5) (l:=3) (c:=3) (kl:=.i64) (kc:=.i64) (by kernel_rfl) (by kernel_rfl) (by first|rfl|(simp (disch:=(first|omega|(simp only [qI,qJ,qK]<;>omega)|exact qL _)) only [go_sem];rfl)) (by first|rfl|(simp (disch:=(first|omega|(simp only [qI,qJ,qK]<;>omega)|exact qL _)) only [go_sem];rfl)) (by omega) (by omega) (by omega) ?_
 have hmd:madeCells (Value.agg qZ5).cells (3 * 5)=(zs ZT 3).toArray:=by kernel_rfl
 rw [hmd]
 simp (disch:=(first|omega|(simp only [qI,qJ,qK]<;>omega)|exact qL _)) only [go_sem]
 repeat ((first|refine qA ?_|apply qB|refine qC ?_|apply qD|apply qE|apply qF|apply qG|apply qH);try simp (disch:=(first|omega|(simp only [qI,qJ,qK]<;>omega)|exact qL _)) only [go_sem])
 have hE1:Ext w (wr (((w.alloc (.cells qZ5 37)).alloc (.cells ((zs ZT 3).toArray) 37)).alloc (.cells qZ5 37)) (w.heap.size+2) 0 [zI,zS,zB,.slice (some ⟨w.heap.size+1,0,none⟩) 3 3,zS]):=(Upd.alloc (Upd.alloc (Upd.alloc (Upd.refl _ _) _) _) _).wr _ _ (.inl (by omega))
 have hz1:(wr (((w.alloc (.cells qZ5 37)).alloc (.cells ((zs ZT 3).toArray) 37)).alloc (.cells qZ5 37)) (w.heap.size+2) 0 [zI,zS,zB,.slice (some ⟨w.heap.size+1,0,none⟩) 3 3,zS]).heap.size=w.heap.size+3:=by simp only [size_wr,World.size_alloc]
 have hl1:blk (wr (((w.alloc (.cells qZ5 37)).alloc (.cells ((zs ZT 3).toArray) 37)).alloc (.cells qZ5 37)) (w.heap.size+2) 0 [zI,zS,zB,.slice (some ⟨w.heap.size+1,0,none⟩) 3 3,zS]) (w.heap.size+1)=some ((zs ZT 3).toArray,37,(0,0)):=by simp (disch:=(first|omega|(simp only [qI,qJ,qK]<;>omega)|exact qL _)) only [go_sem]
 have ht1:blk (wr (((w.alloc (.cells qZ5 37)).alloc (.cells ((zs ZT 3).toArray) 37)).alloc (.cells qZ5 37)) (w.heap.size+2) 0 [zI,zS,zB,.slice (some ⟨w.heap.size+1,0,none⟩) 3 3,zS]) (w.heap.size+2)=some (#[zI,zS,zB,.slice (some ⟨w.heap.size+1,0,none⟩) 3 3,zS],37,(0,0)):=by simp (disch:=(first|omega|(simp only [qI,qJ,qK]<;>omega)|exact qL _)) only [go_sem]
 have hr1:blk (wr (((w.alloc (.cells qZ5 37)).alloc (.cells ((zs ZT 3).toArray) 37)).alloc (.cells qZ5 37)) (w.heap.size+2) 0 [zI,zS,zB,.slice (some ⟨w.heap.size+1,0,none⟩) 3 3,zS]) w.heap.size=some (qZ5,37,(0,0)):=by simp (disch:=(first|omega|(simp only [qI,qJ,qK]<;>omega)|exact qL _)) only [go_sem]
 obtain ⟨w1,hw1⟩:∃ y,y=(wr (((w.alloc (.cells qZ5 37)).alloc (.cells ((zs ZT 3).toArray) 37)).alloc (.cells qZ5 37)) (w.heap.size+2) 0 [zI,zS,zB,.slice (some ⟨w.heap.size+1,0,none⟩) 3 3,zS]):=⟨_,rfl⟩
 rw [← hw1] at hE1 hz1 hl1 ht1 hr1
 rw [← hw1]
 clear hw1
 have hU1:Upd (fun b=>b=w.heap.size+1∨b=w.heap.size+2) w1 w1:=Upd.refl _ _
 have hb1:=hE1.blk_some hb id
 have hJ0:TJ (fun b=>w1.heap.size≤b) (w.heap.size+1) 37 3 0 [] w1:=TJ.start hl1
 obtain ⟨A0,B0,hA0,hl1,lS⟩:=hJ0.next (by decide)
 replace hA0:A0.length=0:=hA0
 obtain ⟨Y1,hY1,dJ,AV⟩:=el_open (n:=5) hl1 hA0 rfl
 have eG:5≤Y1.size:=by omega
 repeat ((first|refine qA ?_|apply qB|refine qC ?_|apply qD|apply qE|apply qF|apply qG|apply qH);try simp (disch:=(first|omega|(simp only [qI,qJ,qK]<;>omega)|exact qL _)) only [go_sem,hb1,ht1,hq0,dJ,eG])
 refine W.drawR (.take 0 (.take 1 (.take 2 (.take 3 (.take 4 (.take 5 (.only 6 (.only 7 (.take 8 (.last 9)))))))))) (NoB) mixed (by kernel_rfl) ?_
 try simp (disch:=(first|omega|(simp only [qI,qJ,qK]<;>omega)|exact qL _)) only [go_sem,hb1,ht1,hq0,dJ,eG]
 refine wp_octets (S:=9) (T:=22) (E:=5) (s:=(t.at 0).s) (by kernel_rfl) (by kernel_rfl) (by kernel_rfl) (by first|rfl|simp (disch:=(first|omega|(simp only [qI,qJ,qK]<;>omega)|exact qL _)) only [go_sem,hb1,ht1,hq0,dJ,eG]) ?_
 intro a2 k2 w2 hB2 mI
 have hP2:Upd NoB w1.drew w2:=(Upd.refl _ _).trans (mI.mono fun _ h=>h.elim)
 have y6:=mI.size
 try simp only [size_drew] at y6
 refine ⟨hP2,?_⟩
 try simp (disch:=(first|omega|(simp only [qI,qJ,qK]<;>omega)|exact qL _)) only [go_sem,hb1,ht1,hq0,dJ,eG]
 refine ⟨hP2,?_⟩
 have fM:=hP2.blk_some (show blk w1.drew (w.heap.size+1)=_ from dJ) id
 have hx3:Upd (fun b=>b=w.heap.size+1∨b=w.heap.size+2) w1 w2:=((Upd.refl _ _).drew).trans (hP2.mono fun _ h=>h.elim)
 try simp (disch:=(first|omega|(simp only [qI,qJ,qK]<;>omega)|exact qL _)) only [go_sem,fM,eG]
 rw [hY1] at fM
 generalize hw3:wr w2 (w.heap.size+1) 0 [zI,.slice (some a2) ((t.at 0).s).length k2,zB,zS,zS] = w3
 have hl3:blk w3 (w.heap.size+1)=some (((A0++(([zI,.slice (some a2) ((t.at 0).s).length k2,zB,zS,zS]:List Value)++B0)).toArray),37,(0,0)):=by rw [← hw3];exact el_blk0 fM hA0 (Nat.le_of_ble_eq_true rfl)
 have hv3:Upd (fun b=>b=w.heap.size+1∨b=w.heap.size+2) w2 w3:=by rw [← hw3];exact (Upd.refl _ _).wr _ _ (.inr (.inl rfl))
 have hV3:Upd (fun b=>b=w.heap.size+1∨b=w.heap.size+2) w1 w3:=hx3.trans hv3
 have hU3:Upd (fun b=>b=w.heap.size+1∨b=w.heap.size+2) w1 w3:=hU1.trans hV3
 have hz3:=hU3.size
 have hX3:Ext w w3:=hE1.more hU3 fun b hb h=>by omega
 have hb3:=hX3.blk_some hb id
 have ht3:blk w3 (w.heap.size+2)=some (#[zI,zS,zB,.slice (some ⟨w.heap.size+1,0,none⟩) 3 3,zS],37,(0,0)):=by
  rw [← hw3,blk_wr_ne (by omega)]
  exact hP2.blk_some (show blk w1.drew (w.heap.size+2)=_ from ht1) id
 clear hw3
 have hf0:TreeC (fun b=>w1.heap.size≤b) w3 (.oct false (t.at 0).s) [zI,.slice (some a2) ((t.at 0).s).length k2,zB,zS,zS]:=(TreeC.keep (hv3.keeps fun b hb hk e=>by have hk':w1.heap.size≤b:=hk;omega) (TreeC.intro rfl (hB2.weaken fun b _ hk=>by have hk':w1.drew.heap.size≤b:=hk;(try simp only [size_drew] at hk');omega) (treesN _ _) (tagsN _ _):TreeC (fun b=>w1.heap.size≤b) w2 (.oct false (t.at 0).s) [zI,.slice (some a2) ((t.at 0).s).length k2,zB,zS,zS]))
 have hJ1:=lS w3 _ (tlF (tlP (d+1)) fX3_0 (t.at 0)) rfl hl3 (hf0) ((hV3).keeps fun b hb hk e=>by have hk':w1.heap.size≤b:=hk;omega)
 obtain ⟨A1,B1,hA1,hl3,lT⟩:=hJ1.next (by decide)
 replace hA1:A1.length=5:=hA1
 obtain ⟨Y3,hY3,eI,FU⟩:=el_open (n:=5) hl3 hA1 rfl
 have iO:10≤Y3.size:=by omega
 repeat ((first|refine qA ?_|apply qB|refine qC ?_|apply qD|apply qE|apply qF|apply qG|apply qH);try simp (disch:=(first|omega|(simp only [qI,qJ,qK]<;>omega)|exact qL _)) only [go_sem,hb3,ht3,eI,iO])
 refine W.drawR (.take 0 (.take 1 (.take 2 (.take 3 (.take 4 (.take 5 (.only 6 (.only 7 (.take 8 (.last 9)))))))))) (NoB) mixed (by kernel_rfl) ?_
 try simp (disch:=(first|omega|(simp only [qI,qJ,qK]<;>omega)|exact qL _)) only [go_sem,hb3,ht3,eI,iO]
 have FY:blk w3.drew b=some x:=hb3
 have G9:BytesV AnyB w3.drew (.slice (some ⟨b,o+1,none⟩) 16 16) (uuidS (t.at 1).s):=bytes_at FY (uuidS_len _) fun j hj=>by
  rw [hZ1,show o+1+j=o+(1+j) from by omega]
  exact (hq (1+j) (by omega)).trans (get_mid (pre:=[strV (t.at 0).s]) (xs:=[z1_0,z1_1,z1_2,z1_3,z1_4,z1_5,z1_6,z1_7,z1_8,z1_9,z1_10,z1_11,z1_12,z1_13,z1_14,z1_15]) (post:=[.slice ab2 L2.length ac2,.map qm]) hj)
 refine wp_copyN ap_22_22 (ok:=AnyB) (s:=uuidS (t.at 1).s) (v:=.slice (some ⟨b,o+1,none⟩) 16 16) (by first|rfl|simp (disch:=(first|omega|(simp only [qI,qJ,qK]<;>omega)|exact qL _)) only [go_sem]) (by first|rfl|simp (disch:=(first|omega|(simp only [qI,qJ,qK]<;>omega)|exact qL _)) only [go_sem]) G9 (by rw [uuidS_len];omega) ?_
 intro v4 w4 ho4 vM GG
 obtain ⟨av4,kv4,rfl,_⟩:=ho4.shape
 have hB4:=Own.bytes (ok:=fun b=>w3.drew.heap.size≤b) ho4 fun b hb=>GG b hb
 have hP4:Upd NoB w3.drew w4:=(Upd.refl _ _).trans (vM.mono fun _ h=>h.elim)
 have HQ:=vM.size
 try simp only [size_drew] at HQ
 refine ⟨hP4,?_⟩
 try simp (disch:=(first|omega|(simp only [qI,qJ,qK]<;>omega)|exact qL _)) only [go_sem,hb3,ht3,eI,iO]
 refine ⟨hP4,?_⟩
 have lC:=hP4.blk_some (show blk w3.drew (w.heap.size+1)=_ from eI) id
 have hx5:Upd (fun b=>b=w.heap.size+1∨b=w.heap.size+2) w3 w4:=((Upd.refl _ _).drew).trans (hP4.mono fun _ h=>h.elim)
 try simp (disch:=(first|omega|(simp only [qI,qJ,qK]<;>omega)|exact qL _)) only [go_sem,lC,iO]
 rw [hY3] at lC
 generalize hw5:wr w4 (w.heap.size+1) 5 [zI,.slice av4 (uuidS (t.at 1).s).length kv4,zB,zS,zS] = w5
 have hl5:blk w5 (w.heap.size+1)=some (((A1++(([zI,.slice av4 (uuidS (t.at 1).s).length kv4,zB,zS,zS]:List Value)++B1)).toArray),37,(0,0)):=by rw [← hw5];exact el_blk0 lC hA1 (Nat.le_of_ble_eq_true rfl)
 have hv5:Upd (fun b=>b=w.heap.size+1∨b=w.heap.size+2) w4 w5:=by rw [← hw5];exact (Upd.refl _ _).wr _ _ (.inr (.inl rfl))
 have hV5:Upd (fun b=>b=w.heap.size+1∨b=w.heap.size+2) w3 w5:=hx5.trans hv5
 have hU5:Upd (fun b=>b=w.heap.size+1∨b=w.heap.size+2) w1 w5:=hU3.trans hV5
 have hz5:=hU5.size
 have hX5:Ext w w5:=hE1.more hU5 fun b hb h=>by omega
 have hb5:=hX5.blk_some hb id
 have ht5:blk w5 (w.heap.size+2)=some (#[zI,zS,zB,.slice (some ⟨w.heap.size+1,0,none⟩) 3 3,zS],37,(0,0)):=by
  rw [← hw5,blk_wr_ne (by omega)]
  exact hP4.blk_some (show blk w3.drew (w.heap.size+2)=_ from ht3) id
 clear hw5
 have hf1:TreeC (fun b=>w1.heap.size≤b) w5 (.oct false (uuidS (t.at 1).s)) [zI,.slice av4 (uuidS (t.at 1).s).length kv4,zB,zS,zS]:=(TreeC.keep (hv5.keeps fun b hb hk e=>by have hk':w1.heap.size≤b:=hk;omega) (TreeC.intro rfl (hB4.weaken fun b _ hk=>by have hk':w3.drew.heap.size≤b:=hk;(try simp only [size_drew] at hk');omega) (treesN _ _) (tagsN _ _):TreeC (fun b=>w1.heap.size≤b) w4 (.oct false (uuidS (t.at 1).s)) [zI,.slice av4 (uuidS (t.at 1).s).length kv4,zB,zS,zS]))
 have hJ2:=lT w5 _ (tlF (tlP (d+1)) fX3_1 (t.at 1)) rfl hl5 (hf1) ((hV5).keeps fun b hb hk e=>by have hk':w1.heap.size≤b:=hk;omega)
 obtain ⟨A2,B2,hA2,hl5,qO⟩:=hJ2.next (by decide)
 replace hA2:A2.length=10:=hA2
 obtain ⟨Y5,hY5,lR,KX⟩:=el_open (n:=5) hl5 hA2 rfl
 have oH:13≤Y5.size:=by omega
 repeat ((first|refine qA ?_|apply qB|refine qC ?_|apply qD|apply qE|apply qF|apply qG|apply qH);try simp (disch:=(first|omega|(simp only [qI,qJ,qK]<;>omega)|exact qL _)) only [go_sem,hb5,ht5,dS,lR,oH])
 refine W.drawR (.take 0 (.take 1 (.take 2 (.take 3 (.take 4 (.take 5 (.take 6 (.take 7 (.take 8 (.last 9)))))))))) (NoB) mixed (by kernel_rfl) ?_
 try simp (disch:=(first|omega|(simp only [qI,qJ,qK]<;>omega)|exact qL _)) only [go_sem,hb5,ht5,dS,lR,oH,H3]
 generalize hw6:wr w5.drew (w.heap.size+1) 12 [.bool (t.at 2).null] = w6
 have hl6:blk w6 (w.heap.size+1)=some (((A2++(([zI,zS,.bool (t.at 2).null,zS,zS]:List Value)++B2)).toArray),37,(0,0)):=by rw [← hw6];exact el_blk (o:=2) (show blk w5.drew (w.heap.size+1)=_ from hl5) hA2 (Nat.le_of_ble_eq_true rfl)
 have hV6:Upd (fun b=>b=w.heap.size+1∨b=w.heap.size+2) w5 w6:=by rw [← hw6];exact ((Upd.refl _ _).drew).wr _ _ (.inr (.inl rfl))
 have hU6:Upd (fun b=>b=w.heap.size+1∨b=w.heap.size+2) w1 w6:=hU5.trans hV6
 have hz6:=hU6.size
 have hX6:Ext w w6:=hE1.more hU6 fun b hb h=>by omega
 have hb6:=hX6.blk_some hb id
 have ht6:blk w6 (w.heap.size+2)=some (#[zI,zS,zB,.slice (some ⟨w.heap.size+1,0,none⟩) 3 3,zS],37,(0,0)):=by
  rw [← hw6,blk_wr_ne (by omega)]
  exact ht5
 clear hw6
 obtain ⟨Y6,hY6,kF,FV⟩:=el_open (n:=5) hl6 hA2 rfl
 have m7:14≤Y6.size:=by omega
 have GM:Y6[13]? = some (.slice none 0 0):=by rw [hY6];exact el_cell (R:=0) hA2 (o:=3) (Nat.le_of_ble_eq_true rfl)
 repeat ((first|refine qA ?_|apply qB|refine qC ?_|apply qD|apply qE|apply qF|apply qG|apply qH);try simp (disch:=(first|omega|(simp only [qI,qJ,qK]<;>omega)|exact qL _)) only [go_sem,hb6,ht6,dS,kF,m7,GM])
 refine W.exitJ 0 (EndQ [(0,.pointer (some ⟨b,o,none⟩)),(2,.pointer (some ⟨w.heap.size,0,none⟩)),(3,.pointer (some ⟨w.heap.size+2,0,none⟩)),(38,.int .i64 L2.length)] (fun w'=>∃ v,blk w' (w.heap.size+1)=some (((A2++(([zI,zS,.bool (t.at 2).null,v,zS]:List Value)++B2)).toArray),37,(0,0))∧GrowT (fun b=>w1.heap.size≤b) w6.heap.size (w.heap.size+1) w' 37 v (L2.map (tl1 (tlP (d+1)) fX3_2.of fX3_2.sub))∧Upd (fun b=>b=w.heap.size+1) w6 w')) (W.loop (LoopL [(0,.pointer (some ⟨b,o,none⟩)),(2,.pointer (some ⟨w.heap.size,0,none⟩)),(3,.pointer (some ⟨w.heap.size+2,0,none⟩)),(38,.int .i64 L2.length)] 39 (fun j w'=>∃ v,j≤L2.length∧blk w' (w.heap.size+1)=some (((A2++(([zI,zS,.bool (t.at 2).null,v,zS]:List Value)++B2)).toArray),37,(0,0))∧GrowT (fun b=>w1.heap.size≤b) w6.heap.size (w.heap.size+1) w' 37 v ((L2.take j).map (tl1 (tlP (d+1)) fX3_2.of fX3_2.sub))∧Upd (fun b=>b=w.heap.size+1) w6 w')) (fun ρ _=>L2.length - (RowKit.intOf (ρ 39)).toNat) ?_ ?_) ?_
 ·exact ⟨(by simp (disch:=(first|omega|(simp only [qI,qJ,qK]<;>omega)|exact qL _)) only [go_sem,Holds_nil,Holds_cons]),0,(by simp (disch:=(first|omega|(simp only [qI,qJ,qK]<;>omega)|exact qL _)) only [go_sem];all_goals rfl),zS,Nat.zero_le _,hl6,GrowT.nil _ _ _ _ _,Upd.refl _ _⟩
 ·rintro ρ w7 ⟨⟨bO,bN,bP,bQ,-⟩,j,hri,v,hj,hl7,hg,hUk⟩
  have hzk:=hUk.size
  have hX7:Ext w w7:=hX6.more hUk fun b hb h=>by omega
  have hz7:w1.heap.size≤w7.heap.size:=by have:=hz6;omega
  have hb7:=hX7.blk_some hb id
  have ht7:=hUk.blk_some ht6 (by omega)
  by_cases hlt:j < L2.length
  ·obtain ⟨_,be,oe,xe,ce,hbe,hoke,hxe,hble,hxs,hxx,hqe,hRe⟩:=SlR.get (size:=24) (by decide) hs2 hlt
   subst hbe
   have hcat:L2.take (j+1)=L2.take j++[L2[j]]:=List.take_succ_eq_append_getElem hlt
   have hgy:=wP.2 _ (List.getElem_mem hlt)
   have hll:=wP.1
   obtain ⟨av,kv,hvs,_⟩:=hg.shape
   have hlj:(List.map (tl1 (tlP (d+1)) fX3_2.of fX3_2.sub) (L2.take j)).length=j:=by simp;omega
   rw [hlj] at hvs
   subst hvs
   have hnb:∀ b,b < w6.heap.size∨w7.heap.size≤b→¬ ownB (.slice av j kv) b:=fun b hb h=>by
    have:=hg.above h
    have:=hg.below h
    omega
   generalize L2[j] = y at *
   obtain ⟨Y7,hY7,fB,FW⟩:=el_open (n:=5) hl7 hA2 rfl
   have cE:14≤Y7.size:=by omega
   have dR:Y7[13]? = some (.slice av j kv):=by rw [hY7];exact el_cell (R:=0) hA2 (o:=3) (Nat.le_of_ble_eq_true rfl)
   repeat ((first|refine qA ?_|apply qB|refine qC ?_|apply qD|apply qE|apply qF|apply qG|apply qH);try simp (disch:=(first|omega|(simp only [qI,qJ,qK]<;>omega)|exact qL _)) only [go_sem,hb7,ht7,dS,fB,cE,dR,bO,bN,bP,bQ,hri])
   refine W.drawR (.only 0 (.two 1 (.only 2 (.only 3 .done)) 2 (.only 1 (.only 3 .done)))) NoB mixed (by kernel_rfl) ?_
   try simp (disch:=(first|omega|(simp only [qI,qJ,qK]<;>omega)|exact qL _)) only [go_sem,hb7,ht7,dS,fB,cE,dR,bO,bN,bP,bQ,hri]
   have q0:Upd NoB w7.drew (w7.alloc (.cells #[zB] 4)).drew:=show Upd NoB w7.drew (w7.drew.alloc (.cells #[zB] 4)) from Upd.alloc (Upd.refl _ _) _
   have q1:Upd NoB w7.drew (wr (w7.alloc (.cells #[zB] 4)).drew w7.heap.size 0 [.bool true]):=q0.wr _ _ (.inl (Nat.le_refl _))
   have q2:Upd NoB w7.drew (wr (wr (w7.alloc (.cells #[zB] 4)).drew w7.heap.size 0 [.bool true]) w7.heap.size 0 [zB]):=q1.wr _ _ (.inl (Nat.le_refl _))
   have q3:Upd NoB w7.drew (wr (w7.alloc (.cells #[zB] 4)).drew w7.heap.size 0 [zB]):=q0.wr _ _ (.inl (Nat.le_refl _))
   have q4:Upd NoB w7.drew (wr (wr (w7.alloc (.cells #[zB] 4)).drew w7.heap.size 0 [zB]) w7.heap.size 0 [.bool true]):=q3.wr _ _ (.inl (Nat.le_refl _))
   refine ⟨q0,⟨q1,q2,q2,?_⟩,⟨q3,q4,q4,?_⟩⟩
   ·have hk8:Ext w7 (wr (wr (w7.alloc (.cells #[zB] 4)).drew w7.heap.size 0 [.bool true]) w7.heap.size 0 [zB]):=((Upd.refl _ _).drew).trans q2
    generalize (wr (wr (w7.alloc (.cells #[zB] 4)).drew w7.heap.size 0 [.bool true]) w7.heap.size 0 [zB])=w8 at *
    have hzk8:=hk8.size
    have hX8:Ext w w8:=hX7.trans hk8
    have hb8:=hk8.blk_some hb7 id
    have hl8:=hk8.blk_some hl7 id
    have hlb8:=hk8.blk_some fB id
    have ht8:=hk8.blk_some ht7 id
    have tG:=hX8.blk_some hxe id
    repeat ((first|refine qA ?_|apply qB|refine qC ?_|apply qD|apply qE|apply qF|apply qG|apply qH);try simp (disch:=(first|omega|(simp only [qI,qJ,qK]<;>omega)|exact qL _)) only [go_sem,hb8,hlb8,cE,dR,ht8,tG,dS,bO,bN,bP,bQ,hri])
    refine W.drawR (.take 0 (.take 1 (.take 2 (.take 3 (.take 4 (.take 5 (.take 6 (.take 7 (.take 8 (.take 9 (.take 10 (.take 11 (.take 12 (.only 13 (.only 14 (.only 15 (.take 16 (.take 17 (.last 18))))))))))))))))))) (ownB (.slice av j kv)) mixed (by kernel_rfl) ?_
    try simp (disch:=(first|omega|(simp only [qI,qJ,qK]<;>omega)|exact qL _|(refine hnb _ ?_;first|omega|(simp only [World.size_alloc,size_wr,size_drew]<;>omega)))) only [go_sem,hb8,hlb8,cE,dR,ht8,tG,dS,bO,bN,bP,bQ,hri]
    have hxq9:=(Upd.refl _ _:Upd (ownB (.slice av j kv)) w8.drew w8.drew).blk_some (show blk w8.drew be=_ from tG) (hnb _ (.inl (by omega)))
    refine (tellX0_fn (d:=d) (ok:=ok) y ce w8.drew (b:=be) (o:=oe+j * 24) hxq9 (fun k hk=>by have:=hqe k hk;rw [← Nat.add_assoc] at this;exact this) ((RepS_lay true _ _).keep (Rep1_part.1 hRe) ((((hX8.drew).mono fun _ h=>h.elim).trans (Upd.refl _ _):Upd (ownB (.slice av j kv)) w w8.drew).keeps fun b hb _=>hnb b (.inl (by omega)))) (hgy.2.2 rfl)).mono ?_
    rintro _ w9 ⟨⟨c9,rfl,hc9⟩,vN⟩
    obtain ⟨T9,hT9⟩:∃ T,T=tlP (d+1) fs_X0 y:=⟨_,rfl⟩
    replace hc9:TreeC (fun b=>w8.drew.heap.size≤b) w9 T9 c9:=by rw [hT9];exact hc9
    obtain ⟨vS9,vL9,vU9,rfl,hn9,hS9,SG,U9⟩:=hc9.inv
    have k1_9:=hS9.flat
    have k2_9:=SlR.flat SG
    have k3_9:=SlR.flat U9
    have hP9:Upd (ownB (.slice av j kv)) w8.drew w9:=(Upd.refl _ _).trans (vN.mono fun _ h=>h.elim)
    have HR:=vN.size
    try simp only [size_drew] at HR
    refine ⟨hP9,?_⟩
    try simp (disch:=(first|omega|(simp only [qI,qJ,qK]<;>omega)|exact qL _|(refine hnb _ ?_;first|omega|(simp only [World.size_alloc,size_wr,size_drew]<;>omega)))) only [go_sem,hb8,hlb8,cE,dR,ht8,tG,dS,bO,bN,bP,bQ,hri,k1_9,k2_9,k3_9]
    have pE:Upd (ownB (.slice av j kv)) w8.drew (w9.alloc (.cells #[.int .i64 T9.n,vS9,.bool T9.null,vL9,vU9] 37)):=show Upd (ownB (.slice av j kv)) w8.drew (w9.alloc (.cells #[.int .i64 T9.n,vS9,.bool T9.null,vL9,vU9] 37)) from (hP9).alloc _
    have XO:blk (w9.alloc (.cells #[.int .i64 T9.n,vS9,.bool T9.null,vL9,vU9] 37)) w9.heap.size=some (#[.int .i64 T9.n,vS9,.bool T9.null,vL9,vU9],37,(0,0)):=show blk (w9.alloc (.cells #[.int .i64 T9.n,vS9,.bool T9.null,vL9,vU9] 37)) w9.heap.size=some (#[.int .i64 T9.n,vS9,.bool T9.null,vL9,vU9],37,(0,0)) from blk_alloc_new rfl
    have Z7:(w9.alloc (.cells #[.int .i64 T9.n,vS9,.bool T9.null,vL9,vU9] 37)).heap.size=w9.heap.size+1:=show (w9.alloc (.cells #[.int .i64 T9.n,vS9,.bool T9.null,vL9,vU9] 37)).heap.size=w9.heap.size+1 from World.size_alloc _ _
    have IZ:Ext w9 (w9.alloc (.cells #[.int .i64 T9.n,vS9,.bool T9.null,vL9,vU9] 37)):=show Ext w9 (w9.alloc (.cells #[.int .i64 T9.n,vS9,.bool T9.null,vL9,vU9] 37)) from Upd.alloc (Upd.refl _ _) _
    refine ⟨pE,?_⟩
    try simp only [List.append_nil]
    generalize (w9.alloc (.cells #[.int .i64 T9.n,vS9,.bool T9.null,vL9,vU9] 37))=w10 at *
    try simp only [size_drew] at Z7
    have E1:Ext w7 w10:=((hk8.drew.trans vN).trans IZ)
    have hzw11:=E1.size
    obtain ⟨css,hown,hall⟩:=(hg.ext E1).ex
    have hcl:=hall.1
    rw [hlj] at hcl
    have I3:TreeC (fun b=>(fun b=>w1.heap.size≤b) b∧b≠w.heap.size+1∧¬ ownB (.slice av j kv) b) w10 ((tl1 (tlP (d+1)) fX3_2.of fX3_2.sub) y) [.int .i64 T9.n,vS9,.bool T9.null,vL9,vU9]:=by
     rw [show (tl1 (tlP (d+1)) fX3_2.of fX3_2.sub) y=_ from hT9.symm]
     exact TreeC.weaken (fun b _ hk=>⟨by omega,by omega,hnb b (.inr (by omega))⟩) (TreeC.weaken (ok':=fun b=>w7.heap.size≤b) (fun b _ hk=>by have hk':w8.drew.heap.size≤b:=hk;(try simp only [size_drew] at hk');omega) (TreeC.keep (Ext.keeps IZ _) hc9))
    refine wp_append ap_34_34 (m:=1) (news:=[.int .i64 T9.n,vS9,.bool T9.null,vL9,vU9]) (n:=css.length) (cs:=css.flatten) (v:=(.slice av j kv)) ?_ rfl hown.1 (all2_flat_tree hall) (Src.blk (fr:=(0,0)) (T:=37) XO rfl (by simp only [List.all_cons,List.all_nil,flat_int,flat_bool,k1_9,k2_9,k3_9,Bool.and_self])) ?_ ?_ ?_
    ·first|rfl|simp (disch:=(first|omega|(simp only [qI,qJ,qK]<;>omega)|exact qL _)) only [go_sem]
    ·omega
    ·omega
    intro v' w11 ho hu hfr
    have ae:=(pE:Upd (ownB (.slice av j kv)) w8.drew w10).trans hu
    have hzq11:=ae.size
    simp only [size_drew] at hzq11
    have BU:=ae.blk_some (show blk w8.drew (w.heap.size+1)=_ from hl8) (hnb _ (.inl (by omega)))
    have M0:=ae.blk_some (show blk w8.drew (w.heap.size+1)=_ from hlb8) (hnb _ (.inl (by omega)))
    have hg':=GrowT.snoc hown hall I3 hu hfr ho
    obtain ⟨va,vc,hv',_⟩:=ho.shape
    subst hv'
    have hne:¬ ownB (.slice va (css.length+1) vc) (w.heap.size+1):=fun h=>(hfr _ h).elim (hnb _ (.inl (by omega))) (fun h=>by omega)
    refine ⟨ae,?_⟩
    try simp (disch:=(first|omega|(simp only [qI,qJ,qK]<;>omega)|exact qL _|(refine hnb _ ?_;first|omega|(simp only [World.size_alloc,size_wr,size_drew]<;>omega)))) only [go_sem,M0,cE,dR,bO,bN,bP,bQ,hri]
    repeat ((first|refine qA ?_|apply qB|refine qC ?_|apply qD|apply qE|apply qF|apply qG|apply qH);try simp (disch:=(first|omega|(simp only [qI,qJ,qK]<;>omega)|exact qL _)) only [go_sem,M0,cE,dR,bO,bN,bP,bQ,hri])
    refine ⟨⟨(by simp (disch:=(first|omega|(simp only [qI,qJ,qK]<;>omega)|exact qL _)) only [go_sem,Holds_nil,Holds_cons,bO,bN,bP,bQ,hri]),j+1,(by simp (disch:=(first|omega|(simp only [qI,qJ,qK]<;>omega)|exact qL _)) only [go_sem,bO,bN,bP,bQ,hri];all_goals rfl),.slice va (css.length+1) vc,by omega,?_,?_,?_⟩,?_⟩
    ·exact el_blk (o:=3) BU hA2 (Nat.le_of_ble_eq_true rfl)
    ·rw [hcat,List.map_append];exact hg'.upd ((Upd.refl _ _).wr _ _ (.inr rfl)) hne
    ·refine Upd.wr ?_ _ _ (.inr rfl)
     exact (hUk.more ((E1.mono fun _ h=>h.elim).trans hu) fun b hb h=>absurd h (hnb b (.inl hb)))
    ·try simp (disch:=(first|omega|(simp only [qI,qJ,qK]<;>omega)|exact qL _)) only [go_sem,bO,bN,bP,bQ,hri]
     simp only [RowKit.intOf];omega
   ·have mS:Ext w7 (wr (wr (w7.alloc (.cells #[zB] 4)).drew w7.heap.size 0 [zB]) w7.heap.size 0 [.bool true]):=((Upd.refl _ _).drew).trans q4
    generalize (wr (wr (w7.alloc (.cells #[zB] 4)).drew w7.heap.size 0 [zB]) w7.heap.size 0 [.bool true])=w12 at *
    have hzk12:=mS.size
    have mQ:Ext w w12:=hX7.trans mS
    have lP:=mS.blk_some hb7 id
    have pY:=mS.blk_some hl7 id
    have lQ:=mS.blk_some fB id
    have lE:=mS.blk_some ht7 id
    have vG:=mQ.blk_some hxe id
    repeat ((first|refine qA ?_|apply qB|refine qC ?_|apply qD|apply qE|apply qF|apply qG|apply qH);try simp (disch:=(first|omega|(simp only [qI,qJ,qK]<;>omega)|exact qL _)) only [go_sem,lP,lQ,cE,dR,lE,vG,dS,bO,bN,bP,bQ,hri])
    refine W.drawR (.take 0 (.take 1 (.take 2 (.take 3 (.take 4 (.take 5 (.take 6 (.take 7 (.take 8 (.take 9 (.take 10 (.take 12 (.two 11 (.only 13 (.only 14 (.take 15 (.take 16 (.last 17))))) 13 (.only 11 (.only 14 (.take 15 (.take 16 (.last 17)))))))))))))))))) (ownB (.slice av j kv)) mixed (by kernel_rfl) ?_
    try simp (disch:=(first|omega|(simp only [qI,qJ,qK]<;>omega)|exact qL _|(refine hnb _ ?_;first|omega|(simp only [World.size_alloc,size_wr,size_drew]<;>omega)))) only [go_sem,lP,lQ,cE,dR,lE,vG,dS,bO,bN,bP,bQ,hri]
    refine ⟨?_,?_⟩
    ·skip
     have hxq13:=(Upd.refl _ _:Upd (ownB (.slice av j kv)) w12.drew w12.drew).blk_some (show blk w12.drew be=_ from vG) (hnb _ (.inl (by omega)))
     refine (tellX0_fn (d:=d) (ok:=ok) y ce w12.drew (b:=be) (o:=oe+j * 24) hxq13 (fun k hk=>by have:=hqe k hk;rw [← Nat.add_assoc] at this;exact this) ((RepS_lay true _ _).keep (Rep1_part.1 hRe) ((((mQ.drew).mono fun _ h=>h.elim).trans (Upd.refl _ _):Upd (ownB (.slice av j kv)) w w12.drew).keeps fun b hb _=>hnb b (.inl (by omega)))) (hgy.2.2 rfl)).mono ?_
     rintro _ w13 ⟨⟨c13,rfl,AY⟩,E8⟩
     obtain ⟨T13,JR⟩:∃ T,T=tlP (d+1) fs_X0 y:=⟨_,rfl⟩
     replace AY:TreeC (fun b=>w12.drew.heap.size≤b) w13 T13 c13:=by rw [JR];exact AY
     obtain ⟨vS13,vL13,vU13,rfl,hn13,SN,S7,U0⟩:=AY.inv
     have k1_13:=SN.flat
     have k2_13:=SlR.flat S7
     have k3_13:=SlR.flat U0
     have pF:Upd (ownB (.slice av j kv)) w12.drew w13:=(Upd.refl _ _).trans (E8.mono fun _ h=>h.elim)
     have Z9:=E8.size
     try simp only [size_drew] at Z9
     refine ⟨pF,?_⟩
     try simp (disch:=(first|omega|(simp only [qI,qJ,qK]<;>omega)|exact qL _|(refine hnb _ ?_;first|omega|(simp only [World.size_alloc,size_wr,size_drew]<;>omega)))) only [go_sem,lP,lQ,cE,dR,lE,vG,dS,bO,bN,bP,bQ,hri,k1_13,k2_13,k3_13]
     have tJ:Upd (ownB (.slice av j kv)) w12.drew (w13.alloc (.cells qZ5 37)):=show Upd (ownB (.slice av j kv)) w12.drew (w13.alloc (.cells qZ5 37)) from (pF).alloc _
     have H2:blk (w13.alloc (.cells qZ5 37)) w13.heap.size=some (qZ5,37,(0,0)):=show blk (w13.alloc (.cells qZ5 37)) w13.heap.size=some (qZ5,37,(0,0)) from blk_alloc_new rfl
     have HN:(w13.alloc (.cells qZ5 37)).heap.size=w13.heap.size+1:=show (w13.alloc (.cells qZ5 37)).heap.size=w13.heap.size+1 from World.size_alloc _ _
     have zC:Ext w13 (w13.alloc (.cells qZ5 37)):=show Ext w13 (w13.alloc (.cells qZ5 37)) from Upd.alloc (Upd.refl _ _) _
     refine ⟨tJ,?_⟩
     try simp only [List.append_nil]
     generalize (w13.alloc (.cells qZ5 37))=w14 at *
     try simp only [size_drew] at HN
     have pB:Ext w7 w14:=((mS.drew.trans E8).trans zC)
     have hzw15:=pB.size
     obtain ⟨css,hown,hall⟩:=(hg.ext pB).ex
     have hcl:=hall.1
     rw [hlj] at hcl
     have I4:TreeC (fun b=>(fun b=>w1.heap.size≤b) b∧b≠w.heap.size+1∧¬ ownB (.slice av j kv) b) w14 ((tl1 (tlP (d+1)) fX3_2.of fX3_2.sub) y) [.int .i64 T13.n,vS13,.bool T13.null,vL13,vU13]:=by
      rw [show (tl1 (tlP (d+1)) fX3_2.of fX3_2.sub) y=_ from JR.symm]
      exact TreeC.weaken (fun b _ hk=>⟨by omega,by omega,hnb b (.inr (by omega))⟩) (TreeC.weaken (ok':=fun b=>w7.heap.size≤b) (fun b _ hk=>by have hk':w12.drew.heap.size≤b:=hk;(try simp only [size_drew] at hk');omega) (TreeC.keep (Ext.keeps zC _) AY))
     refine wp_append ap_34_34 (m:=1) (news:=[zI,zS,zB,zS,zS]) (n:=css.length) (cs:=css.flatten) (v:=(.slice av j kv)) ?_ rfl hown.1 (all2_flat_tree hall) (Src.blk (fr:=(0,0)) (T:=37) H2 rfl rfl) ?_ ?_ ?_
     ·first|rfl|simp (disch:=(first|omega|(simp only [qI,qJ,qK]<;>omega)|exact qL _)) only [go_sem]
     ·omega
     ·omega
     intro v' w15 ho hu hfr
     have lG:=(tJ:Upd (ownB (.slice av j kv)) w12.drew w14).trans hu
     have II:=lG.size
     simp only [size_drew] at II
     have GZ:=lG.blk_some (show blk w12.drew (w.heap.size+1)=_ from pY) (hnb _ (.inl (by omega)))
     have wZ:=lG.blk_some (show blk w12.drew (w.heap.size+1)=_ from lQ) (hnb _ (.inl (by omega)))
     rcases ho.2 with ⟨_,h⟩|⟨g,cap,rest,fr,hv',hg',hbg,hlen,hth,hle⟩
     ·exact absurd h (Nat.succ_ne_zero _)
     subst hv'
     have hgne:¬ g=w.heap.size+1:=fun h=>(hfr g ⟨_,_,_,rfl,rfl⟩).elim (fun h'=>hnb _ (.inl (by omega)) (h ▸ h')) (fun h'=>by omega)
     have hfl:css.flatten.length=css.length * 5:=flatten_len hown.2
     have fK:(css.flatten++([zI,zS,zB,zS,zS]:List Value)++rest).length=cap * 5:=by simp only [List.length_append] at hlen ⊢;omega
     obtain ⟨XX,hXX⟩:∃ X:Array Value,X=(css.flatten++([zI,zS,zB,zS,zS]:List Value)++rest).toArray:=⟨_,rfl⟩
     have hbgX:blk w15 g=some (XX,37,fr):=by rw [hXX];exact hbg
     have hXsz:XX.size=cap * 5:=by rw [hXX,List.size_toArray];exact fK
     have dK:thaw fr (css.length * 5) 5=true:=thaw_of hth (by omega)
     have hst:css.length * 5+5≤XX.size:=by omega
     have hset:=Own.setlast (cs:=[.int .i64 T13.n,vS13,.bool T13.null,vL13,vU13]) ho rfl rfl
     have hu2:Upd (ownB (.slice av j kv)) w14 (wr w15 g (css.length * 5) [.int .i64 T13.n,vS13,.bool T13.null,vL13,vU13]):=hu.wr _ _ ((hfr g ⟨_,_,_,rfl,rfl⟩).symm)
     have hg2:=GrowT.snoc hown hall I4 hu2 hfr hset
     have hcj:css.length=j:=by first|exact hcl.symm.trans hlj|omega
     simp only [hcj] at dK hst hset hu2 hg2
     refine ⟨lG,?_⟩
     try simp (disch:=(first|omega|(simp only [qI,qJ,qK]<;>omega)|exact qL _|(refine hnb _ ?_;first|omega|(simp only [World.size_alloc,size_wr,size_drew]<;>omega)))) only [go_sem,wZ,cE,dR,hbgX,dK,hst,hcj,k1_13,k2_13,k3_13,bO,bN,bP,bQ,hri]
     repeat ((first|refine qA ?_|apply qB|refine qC ?_|apply qD|apply qE|apply qF|apply qG|apply qH);try simp (disch:=(first|omega|(simp only [qI,qJ,qK]<;>omega)|exact qL _)) only [go_sem,wZ,cE,dR,hbgX,dK,hst,hcj,k1_13,k2_13,k3_13,bO,bN,bP,bQ,hri])
     refine ⟨⟨(by simp (disch:=(first|omega|(simp only [qI,qJ,qK]<;>omega)|exact qL _)) only [go_sem,Holds_nil,Holds_cons,bO,bN,bP,bQ,hri]),j+1,(by simp (disch:=(first|omega|(simp only [qI,qJ,qK]<;>omega)|exact qL _)) only [go_sem,bO,bN,bP,bQ,hri];all_goals rfl),.slice (some ⟨g,0,none⟩) (j+1) cap,by omega,?_,?_,?_⟩,?_⟩
     ·rw [blk_wr_ne (by omega)];exact el_blk (o:=3) GZ hA2 (Nat.le_of_ble_eq_true rfl)
     ·rw [hcat,List.map_append,wr_comm (Ne.symm hgne)]
      exact hg2.upd ((Upd.refl _ _).wr _ _ (.inr rfl)) (fun h=>hgne (ownB_row h).symm)
     ·rw [wr_comm (Ne.symm hgne)]
      refine Upd.wr ?_ _ _ (.inr rfl)
      exact (hUk.more ((pB.mono fun _ h=>h.elim).trans hu2) fun b hb h=>absurd h (hnb b (.inl hb)))
     ·try simp (disch:=(first|omega|(simp only [qI,qJ,qK]<;>omega)|exact qL _)) only [go_sem,bO,bN,bP,bQ,hri]
      simp only [RowKit.intOf];omega
    ·skip
     have pG:Upd (ownB (.slice av j kv)) w12.drew (w12.alloc (.cells qZ5 37)).drew:=show Upd (ownB (.slice av j kv)) w12.drew (w12.drew.alloc (.cells qZ5 37)) from (Upd.refl _ _).alloc _
     have M9:blk (w12.alloc (.cells qZ5 37)).drew w12.drew.heap.size=some (qZ5,37,(0,0)):=show blk (w12.drew.alloc (.cells qZ5 37)) w12.drew.heap.size=some (qZ5,37,(0,0)) from blk_alloc_new rfl
     have HO:(w12.alloc (.cells qZ5 37)).drew.heap.size=w12.drew.heap.size+1:=show (w12.drew.alloc (.cells qZ5 37)).heap.size=w12.drew.heap.size+1 from World.size_alloc _ _
     have vK:Ext w12.drew (w12.alloc (.cells qZ5 37)).drew:=show Ext w12.drew (w12.drew.alloc (.cells qZ5 37)) from Upd.alloc (Upd.refl _ _) _
     refine ⟨pG,?_⟩
     try simp only [List.append_nil]
     generalize (w12.alloc (.cells qZ5 37)).drew=w16 at *
     try simp only [size_drew] at HO
     have hxq17:=(pG:Upd (ownB (.slice av j kv)) w12.drew w16).blk_some (show blk w12.drew be=_ from vG) (hnb _ (.inl (by omega)))
     refine (tellX0_fn (d:=d) (ok:=ok) y ce w16 (b:=be) (o:=oe+j * 24) hxq17 (fun k hk=>by have:=hqe k hk;rw [← Nat.add_assoc] at this;exact this) ((RepS_lay true _ _).keep (Rep1_part.1 hRe) ((((mQ.drew).mono fun _ h=>h.elim).trans (pG):Upd (ownB (.slice av j kv)) w w16).keeps fun b hb _=>hnb b (.inl (by omega)))) (hgy.2.2 rfl)).mono ?_
     rintro _ w17 ⟨⟨c17,rfl,AZ⟩,pD⟩
     obtain ⟨T17,JT⟩:∃ T,T=tlP (d+1) fs_X0 y:=⟨_,rfl⟩
     replace AZ:TreeC (fun b=>w16.heap.size≤b) w17 T17 c17:=by rw [JT];exact AZ
     obtain ⟨vS17,vL17,vU17,rfl,MA,EX,S9,U2⟩:=AZ.inv
     have k1_17:=EX.flat
     have k2_17:=SlR.flat S9
     have k3_17:=SlR.flat U2
     have vQ:Upd (ownB (.slice av j kv)) w12.drew w17:=(pG).trans (pD.mono fun _ h=>h.elim)
     have HP:=pD.size
     try simp only [size_drew] at HP
     refine ⟨vQ,?_⟩
     try simp (disch:=(first|omega|(simp only [qI,qJ,qK]<;>omega)|exact qL _|(refine hnb _ ?_;first|omega|(simp only [World.size_alloc,size_wr,size_drew]<;>omega)))) only [go_sem,lP,lQ,cE,dR,lE,vG,dS,bO,bN,bP,bQ,hri,k1_17,k2_17,k3_17]
     have pC:Ext w7 w17:=((mS.drew.trans vK).trans pD)
     have hzw18:=pC.size
     obtain ⟨css,hown,hall⟩:=(hg.ext pC).ex
     have hcl:=hall.1
     rw [hlj] at hcl
     have I5:TreeC (fun b=>(fun b=>w1.heap.size≤b) b∧b≠w.heap.size+1∧¬ ownB (.slice av j kv) b) w17 ((tl1 (tlP (d+1)) fX3_2.of fX3_2.sub) y) [.int .i64 T17.n,vS17,.bool T17.null,vL17,vU17]:=by
      rw [show (tl1 (tlP (d+1)) fX3_2.of fX3_2.sub) y=_ from JT.symm]
      exact TreeC.weaken (fun b _ hk=>⟨by omega,by omega,hnb b (.inr (by omega))⟩) (TreeC.weaken (ok':=fun b=>w7.heap.size≤b) (fun b _ hk=>by have hk':w16.heap.size≤b:=hk;(try simp only [size_drew] at hk');omega) AZ)
     refine wp_append ap_34_34 (m:=1) (news:=[zI,zS,zB,zS,zS]) (n:=css.length) (cs:=css.flatten) (v:=(.slice av j kv)) ?_ rfl hown.1 (all2_flat_tree hall) (Src.blk (fr:=(0,0)) (T:=37) (pD.blk_some M9 id) rfl rfl) ?_ ?_ ?_
     ·first|rfl|simp (disch:=(first|omega|(simp only [qI,qJ,qK]<;>omega)|exact qL _)) only [go_sem]
     ·omega
     ·omega
     intro v' w18 ho hu hfr
     have lH:=(vQ:Upd (ownB (.slice av j kv)) w12.drew w17).trans hu
     have IJ:=lH.size
     simp only [size_drew] at IJ
     have H0:=lH.blk_some (show blk w12.drew (w.heap.size+1)=_ from pY) (hnb _ (.inl (by omega)))
     have xA:=lH.blk_some (show blk w12.drew (w.heap.size+1)=_ from lQ) (hnb _ (.inl (by omega)))
     rcases ho.2 with ⟨_,h⟩|⟨g,cap,rest,fr,hv',hg',hbg,hlen,hth,hle⟩
     ·exact absurd h (Nat.succ_ne_zero _)
     subst hv'
     have hgne:¬ g=w.heap.size+1:=fun h=>(hfr g ⟨_,_,_,rfl,rfl⟩).elim (fun h'=>hnb _ (.inl (by omega)) (h ▸ h')) (fun h'=>by omega)
     have hfl:css.flatten.length=css.length * 5:=flatten_len hown.2
     have fK:(css.flatten++([zI,zS,zB,zS,zS]:List Value)++rest).length=cap * 5:=by simp only [List.length_append] at hlen ⊢;omega
     obtain ⟨XX,hXX⟩:∃ X:Array Value,X=(css.flatten++([zI,zS,zB,zS,zS]:List Value)++rest).toArray:=⟨_,rfl⟩
     have hbgX:blk w18 g=some (XX,37,fr):=by rw [hXX];exact hbg
     have hXsz:XX.size=cap * 5:=by rw [hXX,List.size_toArray];exact fK
     have dK:thaw fr (css.length * 5) 5=true:=thaw_of hth (by omega)
     have hst:css.length * 5+5≤XX.size:=by omega
     have hset:=Own.setlast (cs:=[.int .i64 T17.n,vS17,.bool T17.null,vL17,vU17]) ho rfl rfl
     have hu2:Upd (ownB (.slice av j kv)) w17 (wr w18 g (css.length * 5) [.int .i64 T17.n,vS17,.bool T17.null,vL17,vU17]):=hu.wr _ _ ((hfr g ⟨_,_,_,rfl,rfl⟩).symm)
     have hg2:=GrowT.snoc hown hall I5 hu2 hfr hset
     have hcj:css.length=j:=by first|exact hcl.symm.trans hlj|omega
     simp only [hcj] at dK hst hset hu2 hg2
     refine ⟨lH,?_⟩
     try simp (disch:=(first|omega|(simp only [qI,qJ,qK]<;>omega)|exact qL _|(refine hnb _ ?_;first|omega|(simp only [World.size_alloc,size_wr,size_drew]<;>omega)))) only [go_sem,xA,cE,dR,hbgX,dK,hst,hcj,k1_17,k2_17,k3_17,bO,bN,bP,bQ,hri]
     repeat ((first|refine qA ?_|apply qB|refine qC ?_|apply qD|apply qE|apply qF|apply qG|apply qH);try simp (disch:=(first|omega|(simp only [qI,qJ,qK]<;>omega)|exact qL _)) only [go_sem,xA,cE,dR,hbgX,dK,hst,hcj,k1_17,k2_17,k3_17,bO,bN,bP,bQ,hri])
     refine ⟨⟨(by simp (disch:=(first|omega|(simp only [qI,qJ,qK]<;>omega)|exact qL _)) only [go_sem,Holds_nil,Holds_cons,bO,bN,bP,bQ,hri]),j+1,(by simp (disch:=(first|omega|(simp only [qI,qJ,qK]<;>omega)|exact qL _)) only [go_sem,bO,bN,bP,bQ,hri];all_goals rfl),.slice (some ⟨g,0,none⟩) (j+1) cap,by omega,?_,?_,?_⟩,?_⟩
     ·rw [blk_wr_ne (by omega)];exact el_blk (o:=3) H0 hA2 (Nat.le_of_ble_eq_true rfl)
     ·rw [hcat,List.map_append,wr_comm (Ne.symm hgne)]
      exact hg2.upd ((Upd.refl _ _).wr _ _ (.inr rfl)) (fun h=>hgne (ownB_row h).symm)
     ·rw [wr_comm (Ne.symm hgne)]
      refine Upd.wr ?_ _ _ (.inr rfl)
      exact (hUk.more ((pC.mono fun _ h=>h.elim).trans hu2) fun b hb h=>absurd h (hnb b (.inl hb)))
     ·try simp (disch:=(first|omega|(simp only [qI,qJ,qK]<;>omega)|exact qL _)) only [go_sem,bO,bN,bP,bQ,hri]
      simp only [RowKit.intOf];omega
  ·have hjn:j=L2.length:=by omega
   subst hjn
   rw [List.take_length] at hg
   repeat ((first|refine qA ?_|apply qB|refine qC ?_|apply qD|apply qE|apply qF|apply qG|apply qH);try simp (disch:=(first|omega|(simp only [qI,qJ,qK]<;>omega)|exact qL _)) only [go_sem,bO,bN,bP,bQ,hri])
   exact ⟨(by simp (disch:=(first|omega|(simp only [qI,qJ,qK]<;>omega)|exact qL _)) only [go_sem,Holds_nil,Holds_cons,bO,bN,bP,bQ,hri]),v,hl7,hg,hUk⟩
 rintro ρ w19 ⟨⟨sH,eW,sI,YX,-⟩,v,BN,LH,KG⟩
 have kD:Upd (fun b=>b=w.heap.size+1∨b=w.heap.size+2) w6 w19:=KG.mono fun _ h=>.inl h
 have l0:Upd (fun b=>b=w.heap.size+1∨b=w.heap.size+2) w1 w19:=hU6.trans kD
 have DQ:=l0.size
 have mR:Ext w w19:=hE1.more l0 fun b hb h=>by omega
 have pV:=mR.blk_some hb id
 have m9:=KG.blk_some ht6 (by omega)
 obtain ⟨av2,kv2,hvs,_⟩:=LH.shape
 subst hvs
 have hf2:TreeC (fun b=>w1.heap.size≤b) w19 (.mk 0 [] (t.at 2).null (L2.map (tl1 (tlP (d+1)) fX3_2.of fX3_2.sub)) []) [zI,zS,.bool (t.at 2).null,.slice av2 (List.map (tl1 (tlP (d+1)) fX3_2.of fX3_2.sub) L2).length kv2,zS]:=TreeC.intro rfl (BytesV.nil _ _) (LH.trees (fun _ _ h=>h) (fun b hb=>by have:=hz6;omega)) (tagsN _ _)
 have hJ3:=qO w19 _ (tlF (tlP (d+1)) fX3_2 (t.at 2)) rfl BN (by rw [show tlF (tlP (d+1)) fX3_2 (t.at 2) = .mk 0 [] (t.at 2).null ((if (t.at 2).null=true then [] else (t.at 2).l).map (tl1 (tlP (d+1)) fX3_2.of fX3_2.sub)) [] from rfl,← hL2];exact hf2) (((hV6.trans kD)).keeps fun b hb hk e=>by have hk':w1.heap.size≤b:=hk;omega)
 repeat ((first|refine qA ?_|apply qB|refine qC ?_|apply qD|apply qE|apply qF|apply qG|apply qH);try simp (disch:=(first|omega|(simp only [qI,qJ,qK]<;>omega)|exact qL _)) only [go_sem,pV,m9,sH,eW,sI])
 refine (EachG_fn (ok:=fun b=>b < w.heap.size) 68 ca_68 #[.pointer (some ⟨w.heap.size+2,0,none⟩)] w19 (tb:=b) (to:=o+18) pV iY ((hT.weaken fun b hb _=>hb).keep (mR.keeps _)) (sortT_perm _) (sortT_lt hgu.2.1) (by rw [(sortT_perm t.u).length_eq];exact hgu.1)
  (fun b=>b=w.heap.size+2) (by omega) (fun b hb hk e=>by have hk':b < w.heap.size:=hk;omega) (fun b hb=>by have:=blk_lt m9;omega)
  (fun wl done w'=>∃ v,blk w' (w.heap.size+2)=some (#[zI,zS,zB,.slice (some ⟨w.heap.size+1,0,none⟩) 3 3,v],37,(0,0))∧GrowU (fun b=>w1.heap.size≤b) wl.heap.size (w.heap.size+2) w' 62 v done) (fun wl hE=>⟨_,hE.blk_some m9 id,GrowU.nil _ _ _ _ _⟩) ?_).mono ?_
 ·rintro wl hE done y vv wc hpre ⟨v,hbv,hg⟩ hU hvv hy
  have hz':=hE.size
  have hzu:=hU.size
  have htl:=blk_lt m9
  have hpl:=hpre.length_le
  simp only [List.length_append,List.length_cons,List.length_nil] at hpl
  rw [(sortT_perm t.u).length_eq] at hpl
  have hlu:=hgu.1
  have hmy:y∈t.u:=(sortT_perm t.u).mem_iff.1 (hpre.subset (by simp))
  refine (tagclX3_fn (ok:=fun b=>b < w.heap.size) _ _ _ _ v done y vv wc hbv hg hzu (by omega) (hvv.keep ((hE.mono (fun _ h=>h.elim) |>.trans hU:Upd (fun b=>b=w.heap.size+2) w19 wc).keeps fun b _ hk e=>by have hk':b < w.heap.size:=hk;omega)) hy (hgu.2.2 y hmy) (by omega) (fun b hb=>by have:=DQ;omega)).mono ?_
  rintro _ w2' ⟨⟨v',h1,h2⟩,h3⟩
  exact ⟨⟨v',h1,h2⟩,hU.trans' h3 fun b hb h=>h.elim id fun h=>by omega⟩
 rintro _ w20 ⟨wl,hEl,⟨v,NP,hgU⟩,hUe⟩
 have hzl:=hEl.size
 obtain ⟨aU,kU,hvs,_⟩:=hgU.shape
 subst hvs
 have iU:Upd (fun b=>b=w.heap.size+1∨b=w.heap.size+2) w19 w20:=(hEl.mono fun _ h=>h.elim).trans (hUe.mono fun _ h=>.inr h)
 have iP:Upd (fun b=>b=w.heap.size+1∨b=w.heap.size+2) w1 w20:=l0.trans iU
 have DR:=iP.size
 have tV:Ext w w20:=hE1.more iP fun b hb h=>by omega
 have VD:=tV.blk_some hb id
 have hJe:TJ (fun b=>w1.heap.size≤b) (w.heap.size+1) 37 3 3 _ w20:=hJ3.keep ((hEl.mono fun _ h=>h.elim).trans hUe:Upd (fun b=>b=w.heap.size+2) w19 w20) (by omega) (((hEl.mono fun _ h=>h.elim).trans hUe:Upd (fun b=>b=w.heap.size+2) w19 w20).keeps fun b hb hk e=>by have hk':w1.heap.size≤b:=hk;omega)
 have hTU:=hgU.tags (ok':=(fun b=>w1.heap.size≤b)) (fun _ _ h=>h) (fun b hb=>by have:=DQ;omega)
 repeat ((first|refine qA ?_|apply qB|refine qC ?_|apply qD|apply qE|apply qF|apply qG|apply qH);try simp (disch:=(first|omega|(simp only [qI,qJ,qK]<;>omega)|exact qL _)) only [go_sem,VD,NP,sH,eW,sI,cellsAt_five])
 refine (sorted_fn _ _ w20 hTU (sortT_lt hgu.2.1) (by rw [(sortT_perm t.u).length_eq];exact hgu.1)).mono ?_
 rintro _ w21 hEs
 have gN:Upd (fun b=>b=w.heap.size+1∨b=w.heap.size+2) w20 w21:=hEs.mono fun _ h=>h.elim
 have iQ:Upd (fun b=>b=w.heap.size+1∨b=w.heap.size+2) w1 w21:=iP.trans gN
 have IF:=iQ.size
 have wI:Ext w w21:=hE1.more iQ fun b hb h=>by omega
 have VE:=wI.blk_some hb id
 have hJy:=hJe.keep hEs id (Ext.keeps hEs _)
 have ht21:=hEs.blk_some NP id
 have YV:=(iQ.blk_some hr1 (by omega))
 have hTL:TreesV (fun b=>(fun b=>w1.heap.size≤b) b∨b=w.heap.size+1) w21 (.slice (some ⟨w.heap.size+1,0,none⟩) 3 3) [tlF (tlP (d+1)) fX3_0 (t.at 0),tlF (tlP (d+1)) fX3_1 (t.at 1),tlF (tlP (d+1)) fX3_2 (t.at 2)]:=hJy.trees
 repeat ((first|refine qA ?_|apply qB|refine qC ?_|apply qD|apply qE|apply qF|apply qG|apply qH);try simp (disch:=(first|omega|(simp only [qI,qJ,qK]<;>omega)|exact qL _)) only [go_sem,VE,ht21,sH,eW,sI,YV,cellsAt_five])
 refine ⟨⟨_,rfl,?_⟩,wI.wr _ _ (.inl (Nat.le_refl _))⟩
 have hUr:Upd (fun b=>b=w.heap.size) w21 (wr w21 w.heap.size 0 [zI,zS,zB,.slice (some ⟨w.heap.size+1,0,none⟩) 3 3,.slice aU (sortT t.u).length kU]):=(Upd.refl _ _).wr _ _ (.inr rfl)
 have lI:=hTU.keep (hEs.keeps _)
 exact TreeC.intro rfl (BytesV.nil _ _) ((hTL.keep (hUr.keeps fun b _ hk e=>by rcases hk with hk|hk<;>omega)).weaken fun b _ hk=>by rcases hk with hk|hk<;>omega) ((lI.keep (hUr.keeps fun b _ hk e=>by omega)).weaken fun b _ hk=>by omega)

theorem tagclX1_fn {ok OK:Blocks} {B tb:Nat} (c0 c1 c2 c3 v:Value) (done:List TagD) (y:TagD) (vv:Value) (w:World) (hbt:blk w tb=some (#[c0,c1,c2,c3,v],37,(0,0))) (hg:GrowU OK B tb w 62 v done) (hB:B≤w.heap.size) (htb:tb < B) (hvv:BytesV ok w vv y.2) (hy:y.1 < 2 ^ 32) (hyl:y.2.length≤32767) (hdl:done.length≤32767) (hOK:∀ b,B≤b→OK b) :
  Fn Tryz.prog 69 #[.int .u32 y.1,vv,.pointer (some ⟨tb,0,none⟩)] w fun _ w'=>(∃ v',blk w' tb=some (#[c0,c1,c2,c3,v'],37,(0,0))∧GrowU OK B tb w' 62 v' (done++[y]))∧Upd (fun b=>b=tb∨B≤b) w w':=by
 have htl:=blk_lt hbt
 refine fn_of_W Tryz.func69 rfl Tryz.results69 Tryz.ntmps69 rfl ?_
 repeat ((first|refine qA ?_|apply qB|refine qC ?_|apply qD|apply qE|apply qF|apply qG|apply qH);try simp (disch:=(first|omega|(simp only [qI,qJ,qK]<;>omega)|exact qL _)) only [go_sem])
 obtain ⟨av,kv,rfl,_⟩:=hg.shape
 have hnb:∀ b,b < B∨w.heap.size≤b→¬ ownB (.slice av done.length kv) b:=fun b hb h=>by
  have:=hg.above h
  have:=hg.below h
  omega
 refine W.drawR (.take 0 (.take 1 (.take 2 (.take 3 (.only 4 (.only 5 (.only 6 (.only 7 (.take 8 (.last 9)))))))))) (ownB (.slice av done.length kv)) mixed (by kernel_rfl) ?_
 simp (disch:=(first|omega|(simp only [qI,qJ,qK]<;>omega)|exact qL _|(refine hnb _ ?_;first|omega|(simp only [World.size_alloc,size_wr,size_drew]<;>omega)))) only [go_sem,hbt]
 refine wp_copyN ap_22_22 (ok:=ok) (s:=y.2) (v:=vv) (by first|rfl|simp (disch:=(first|omega|(simp only [qI,qJ,qK]<;>omega)|exact qL _)) only [go_sem]) (by first|rfl|simp (disch:=(first|omega|(simp only [qI,qJ,qK]<;>omega)|exact qL _)) only [go_sem]) (hvv.keep (Ext.keeps ((Upd.refl _ _).drew) _)) (by omega) ?_
 intro v1 w1 ho1 hE1 hf1
 obtain ⟨a1,k1,rfl,_⟩:=ho1.shape
 have hB1:=Own.bytes (ok:=fun b=>w.heap.size≤b) ho1 fun b hb=>hf1 b hb
 have hP1:Upd (ownB (.slice av done.length kv)) w.drew w1:=hE1.mono fun _ h=>h.elim
 have hs1:=hE1.size
 simp only [size_drew] at hs1
 refine ⟨hP1,?_⟩
 simp (disch:=(first|omega|(simp only [qI,qJ,qK]<;>omega)|exact qL _|(refine hnb _ ?_;first|omega|(simp only [World.size_alloc,size_wr,size_drew]<;>omega)))) only [go_sem,hbt]
 refine ⟨hP1,?_⟩
 have hP2:Upd (ownB (.slice av done.length kv)) w.drew (w1.alloc (.cells #[.int .u32 y.1,.slice a1 y.2.length k1] 62)):=hP1.alloc _
 have hn2:blk (w1.alloc (.cells #[.int .u32 y.1,.slice a1 y.2.length k1] 62)) w1.heap.size=some (#[.int .u32 y.1,.slice a1 y.2.length k1],62,(0,0)):=blk_alloc_new rfl
 have hs2:(w1.alloc (.cells #[.int .u32 y.1,.slice a1 y.2.length k1] 62)).heap.size=w1.heap.size+1:=World.size_alloc _ _
 have hE2:Ext w1 (w1.alloc (.cells #[.int .u32 y.1,.slice a1 y.2.length k1] 62)):=Upd.alloc (Upd.refl _ _) _
 refine ⟨hP2,?_⟩
 try simp only [List.append_nil]
 generalize (w1.alloc (.cells #[.int .u32 y.1,.slice a1 y.2.length k1] 62))=w2 at *
 have hEw:Ext w w2:=(((Upd.refl _ _).drew).trans hE1).trans hE2
 obtain ⟨css,hown,hall⟩:=(hg.ext hEw).ex
 have hcl:=hall.1
 have hx2:TagC (fun b=>OK b∧b≠tb∧¬ ownB (.slice av done.length kv) b) w2 y [.int .u32 y.1,.slice a1 y.2.length k1]:=⟨_,rfl,(hB1.keep (hE2.keeps _)).weaken fun b _ hk=>⟨hOK b (by omega),by omega,hnb b (.inr hk)⟩,hy⟩
 refine wp_append ap_35_35 (m:=1) (news:=[.int .u32 y.1,.slice a1 y.2.length k1]) (n:=css.length) (cs:=css.flatten) (v:=.slice av done.length kv) ?_ rfl hown.1 hall.flat_cells (Src.blk (fr:=(0,0)) (T:=62) hn2 rfl rfl) ?_ ?_ ?_
 ·first|rfl|simp (disch:=(first|omega|(simp only [qI,qJ,qK]<;>omega)|exact qL _)) only [go_sem]
 ·omega
 ·omega
 intro v' w3 ho hu hfr
 have hg3:=GrowU.snoc hown hall hx2 hu hfr ho
 obtain ⟨va,vc,hv',_⟩:=ho.shape
 subst hv'
 have hP3:=hP2.trans hu
 have hs3:=hu.size
 have eD:=hP3.blk_some (show blk w.drew tb=_ from hbt) (hnb _ (.inl htb))
 have hne:¬ ownB (.slice va (css.length+1) vc) tb:=fun h=>(hfr _ h).elim (hnb _ (.inl htb)) (fun h=>by omega)
 refine ⟨hP3,?_⟩
 simp (disch:=(first|omega|(simp only [qI,qJ,qK]<;>omega)|exact qL _|(refine hnb _ ?_;first|omega|(simp only [World.size_alloc,size_wr,size_drew]<;>omega)))) only [go_sem,eD]
 repeat ((first|refine qA ?_|apply qB|refine qC ?_|apply qD|apply qE|apply qF|apply qG|apply qH);try simp (disch:=(first|omega|(simp only [qI,qJ,qK]<;>omega)|exact qL _)) only [go_sem])
 refine ⟨⟨.slice va (css.length+1) vc,by first|(rw [blk_wr_eq,eD];rfl)|rfl|(rw [eD];rfl)|(rw [blk_wr_eq,eD]),hg3.upd ((Upd.refl _ _).wr _ _ (.inr rfl)) hne⟩,?_⟩
 refine Upd.wr ?_ _ _ (.inr (.inl rfl))
 exact (((Upd.refl (fun b=>b=tb∨B≤b) w).drew).trans (hP3.mono fun b h=>.inr (hg.above h)))

set_option maxHeartbeats 4000000 in
theorem tellX1_fn {d:Nat} {ok:Blocks} (t:Tree) (cs:List Value) (w:World) {b o:Nat} {x:Blk} (hb:blk w b=some x) (hq:∀ k,k < 19→x.1[o+k]? = cs[k]?) (hR:RepS true (d+1) fs_X1 ok w t cs) (hg:GoodP (d+1) fs_X1 t) :
  Fn Tryz.prog 31 #[.pointer (some ⟨b,o,none⟩)] w fun r w'=>(∃ c,r = .agg c.toArray∧TreeC (fun b=>w.heap.size≤b) w' (tlP (d+1) fs_X1 t) c)∧Ext w w':=by
 have hbl:=blk_lt hb
 obtain ⟨⟨gd0,gd1,gd2,-⟩,hgu⟩:=hg
 replace gd0:GoodF (GoodP d) fX1_0 (t.at 0):=gd0
 replace gd1:GoodF (GoodP d) fX1_1 (t.at 1):=gd1
 replace gd2:GoodF (GoodP d) fX1_2 (t.at 2):=gd2
 obtain ⟨cs0,q,hcs,hL,hT⟩:=hR.inv
 obtain ⟨c0,e0,rfl,h0,c1,e1,rfl,h1,c2,e2,rfl,h2,rfl⟩:=hL
 replace h0:RepF (RepS true d) (szS true d) fX1_0 ok w (t.at 0) c0:=h0
 replace h1:RepF (RepS true d) (szS true d) fX1_1 ok w (t.at 1) c1:=h1
 replace h2:RepF (RepS true d) (szS true d) fX1_2 ok w (t.at 2) c2:=h2
 obtain rfl:=(RepF_text rfl (by decide)).1 h0
 obtain rfl:=(RepF_uuid rfl).1 h1
 have GJ:((uuidS (t.at 1).s).map byteV).length=16:=by rw [List.length_map,uuidS_len]
 generalize hZ1:(uuidS (t.at 1).s).map byteV=Z1 at *
 obtain ⟨z1_0,z1_1,z1_2,z1_3,z1_4,z1_5,z1_6,z1_7,z1_8,z1_9,z1_10,z1_11,z1_12,z1_13,z1_14,z1_15,rfl⟩:=list16 GJ
 obtain ⟨ab2,ac2,L2,rfl,hL2,H3,hs2⟩:=RepF_listT rfl h2
 have wP:=gd2.listL rfl hL2
 obtain ⟨qm,rfl⟩:=hT.shape
 subst hcs
 have hq0:x.1[o]? = some (strV (t.at 0).s):=hq 0 (by decide)
 have hq1:x.1[o+1]? = some (z1_0):=hq 1 (by decide)
 have hq2:x.1[o+2]? = some (z1_1):=hq 2 (by decide)
 have hq3:x.1[o+3]? = some (z1_2):=hq 3 (by decide)
 have hq4:x.1[o+4]? = some (z1_3):=hq 4 (by decide)
 have hq5:x.1[o+5]? = some (z1_4):=hq 5 (by decide)
 have hq6:x.1[o+6]? = some (z1_5):=hq 6 (by decide)
 have hq7:x.1[o+7]? = some (z1_6):=hq 7 (by decide)
 have hq8:x.1[o+8]? = some (z1_7):=hq 8 (by decide)
 have hq9:x.1[o+9]? = some (z1_8):=hq 9 (by decide)
 have gR:x.1[o+10]? = some (z1_9):=hq 10 (by decide)
 have eC:x.1[o+11]? = some (z1_10):=hq 11 (by decide)
 have dT:x.1[o+12]? = some (z1_11):=hq 12 (by decide)
 have lD:x.1[o+13]? = some (z1_12):=hq 13 (by decide)
 have lU:x.1[o+14]? = some (z1_13):=hq 14 (by decide)
 have kI:x.1[o+15]? = some (z1_14):=hq 15 (by decide)
 have xI:x.1[o+16]? = some (z1_15):=hq 16 (by decide)
 have dS:x.1[o+17]? = some (.slice ab2 L2.length ac2):=hq 17 (by decide)
 have iY:x.1[o+18]? = some (.map qm):=hq 18 (by decide)
 refine fn_of_W Tryz.func31 rfl Tryz.results31 Tryz.ntmps31 rfl ?_
 repeat ((first|refine qA ?_|apply qB|refine qC ?_|apply qD|apply qE|apply qF|apply qG|apply qH);try simp (disch:=(first|omega|(simp only [qI,qJ,qK]<;>omega)|exact qL _)) only [go_sem])
 refine wp_make (T:=34) (E:=37) (size:=5) (bytes:=88) (z:=.agg qZ5) (l:=3) (c:=3) (kl:=.i64) (kc:=.i64) (by kernel_rfl) (by kernel_rfl) (by first|rfl|(simp (disch:=(first|omega|(simp only [qI,qJ,qK]<;>omega)|exact qL _)) only [go_sem];rfl)) (by first|rfl|(simp (disch:=(first|omega|(simp only [qI,qJ,qK]<;>omega)|exact qL _)) only [go_sem];rfl)) (by omega) (by omega) (by omega) ?_
 have hmd:madeCells (Value.agg qZ5).cells (3 * 5)=(zs ZT 3).toArray:=by kernel_rfl
 rw [hmd]
 simp (disch:=(first|omega|(simp only [qI,qJ,qK]<;>omega)|exact qL _)) only [go_sem]
 repeat ((first|refine qA ?_|apply qB|refine qC ?_|apply qD|apply qE|apply qF|apply qG|apply qH);try simp (disch:=(first|omega|(simp only [qI,qJ,qK]<;>omega)|exact qL _)) only [go_sem])
 have hE1:Ext w (wr (((w.alloc (.cells qZ5 37)).alloc (.cells ((zs ZT 3).toArray) 37)).alloc (.cells qZ5 37)) (w.heap.size+2) 0 [zI,zS,zB,.slice (some ⟨w.heap.size+1,0,none⟩) 3 3,zS]):=(Upd.alloc (Upd.alloc (Upd.alloc (Upd.refl _ _) _) _) _).wr _ _ (.inl (by omega))
 have hz1:(wr (((w.alloc (.cells qZ5 37)).alloc (.cells ((zs ZT 3).toArray) 37)).alloc (.cells qZ5 37)) (w.heap.size+2) 0 [zI,zS,zB,.slice (some ⟨w.heap.size+1,0,none⟩) 3 3,zS]).heap.size=w.heap.size+3:=by simp only [size_wr,World.size_alloc]
 have hl1:blk (wr (((w.alloc (.cells qZ5 37)).alloc (.cells ((zs ZT 3).toArray) 37)).alloc (.cells qZ5 37)) (w.heap.size+2) 0 [zI,zS,zB,.slice (some ⟨w.heap.size+1,0,none⟩) 3 3,zS]) (w.heap.size+1)=some ((zs ZT 3).toArray,37,(0,0)):=by simp (disch:=(first|omega|(simp only [qI,qJ,qK]<;>omega)|exact qL _)) only [go_sem]
 have ht1:blk (wr (((w.alloc (.cells qZ5 37)).alloc (.cells ((zs ZT 3).toArray) 37)).alloc (.cells qZ5 37)) (w.heap.size+2) 0 [zI,zS,zB,.slice (some ⟨w.heap.size+1,0,none⟩) 3 3,zS]) (w.heap.size+2)=some (#[zI,zS,zB,.slice (some ⟨w.heap.size+1,0,none⟩) 3 3,zS],37,(0,0)):=by simp (disch:=(first|omega|(simp only [qI,qJ,qK]<;>omega)|exact qL _)) only [go_sem]
 have hr1:blk (wr (((w.alloc (.cells qZ5 37)).alloc (.cells ((zs ZT 3).toArray) 37)).alloc (.cells qZ5 37)) (w.heap.size+2) 0 [zI,zS,zB,.slice (some ⟨w.heap.size+1,0,none⟩) 3 3,zS]) w.heap.size=some (qZ5,37,(0,0)):=by simp (disch:=(first|omega|(simp only [qI,qJ,qK]<;>omega)|exact qL _)) only [go_sem]
 obtain ⟨w1,hw1⟩:∃ y,y=(wr (((w.alloc (.cells qZ5 37)).alloc (.cells ((zs ZT 3).toArray) 37)).alloc (.cells qZ5 37)) (w.heap.size+2) 0 [zI,zS,zB,.slice (some ⟨w.heap.size+1,0,none⟩) 3 3,zS]):=⟨_,rfl⟩
 rw [← hw1] at hE1 hz1 hl1 ht1 hr1
 rw [← hw1]
 clear hw1
 have hU1:Upd (fun b=>b=w.heap.size+1∨b=w.heap.size+2) w1 w1:=Upd.refl _ _
 have hb1:=hE1.blk_some hb id
 have hJ0:TJ (fun b=>w1.heap.size≤b) (w.heap.size+1) 37 3 0 [] w1:=TJ.start hl1
 obtain ⟨A0,B0,hA0,hl1,lS⟩:=hJ0.next (by decide)
 replace hA0:A0.length=0:=hA0
 obtain ⟨Y1,hY1,dJ,AV⟩:=el_open (n:=5) hl1 hA0 rfl
 have eG:5≤Y1.size:=by omega
 repeat ((first|refine qA ?_|apply qB|refine qC ?_|apply qD|apply qE|apply qF|apply qG|apply qH);try simp (disch:=(first|omega|(simp only [qI,qJ,qK]<;>omega)|exact qL _)) only [go_sem,hb1,ht1,hq0,dJ,eG])
 refine W.drawR (.take 0 (.take 1 (.take 2 (.take 3 (.take 4 (.take 5 (.only 6 (.only 7 (.take 8 (.last 9)))))))))) (NoB) mixed (by kernel_rfl) ?_
 try simp (disch:=(first|omega|(simp only [qI,qJ,qK]<;>omega)|exact qL _)) only [go_sem,hb1,ht1,hq0,dJ,eG]
 refine wp_octets (S:=9) (T:=22) (E:=5) (s:=(t.at 0).s) (by kernel_rfl) (by kernel_rfl) (by kernel_rfl) (by first|rfl|simp (disch:=(first|omega|(simp only [qI,qJ,qK]<;>omega)|exact qL _)) only [go_sem,hb1,ht1,hq0,dJ,eG]) ?_
 intro a2 k2 w2 hB2 mI
 have hP2:Upd NoB w1.drew w2:=(Upd.refl _ _).trans (mI.mono fun _ h=>h.elim)
 have y6:=mI.size
 try simp only [size_drew] at y6
 refine ⟨hP2,?_⟩
 try simp (disch:=(first|omega|(simp only [qI,qJ,qK]<;>omega)|exact qL _)) only [go_sem,hb1,ht1,hq0,dJ,eG]
 refine ⟨hP2,?_⟩
 have fM:=hP2.blk_some (show blk w1.drew (w.heap.size+1)=_ from dJ) id
 have hx3:Upd (fun b=>b=w.heap.size+1∨b=w.heap.size+2) w1 w2:=((Upd.refl _ _).drew).trans (hP2.mono fun _ h=>h.elim)
 try simp (disch:=(first|omega|(simp only [qI,qJ,qK]<;>omega)|exact qL _)) only [go_sem,fM,eG]
 rw [hY1] at fM
 generalize hw3:wr w2 (w.heap.size+1) 0 [zI,.slice (some a2) ((t.at 0).s).length k2,zB,zS,zS] = w3
 have hl3:blk w3 (w.heap.size+1)=some (((A0++(([zI,.slice (some a2) ((t.at 0).s).length k2,zB,zS,zS]:List Value)++B0)).toArray),37,(0,0)):=by rw [← hw3];exact el_blk0 fM hA0 (Nat.le_of_ble_eq_true rfl)
 have hv3:Upd (fun b=>b=w.heap.size+1∨b=w.heap.size+2) w2 w3:=by rw [← hw3];exact (Upd.refl _ _).wr _ _ (.inr (.inl rfl))
 have hV3:Upd (fun b=>b=w.heap.size+1∨b=w.heap.size+2) w1 w3:=hx3.trans hv3
 have hU3:Upd (fun b=>b=w.heap.size+1∨b=w.heap.size+2) w1 w3:=hU1.trans hV3
 have hz3:=hU3.size
 have hX3:Ext w w3:=hE1.more hU3 fun b hb h=>by omega
 have hb3:=hX3.blk_some hb id
 have ht3:blk w3 (w.heap.size+2)=some (#[zI,zS,zB,.slice (some ⟨w.heap.size+1,0,none⟩) 3 3,zS],37,(0,0)):=by
  rw [← hw3,blk_wr_ne (by omega)]
  exact hP2.blk_some (show blk w1.drew (w.heap.size+2)=_ from ht1) id
 clear hw3
 have hf0:TreeC (fun b=>w1.heap.size≤b) w3 (.oct false (t.at 0).s) [zI,.slice (some a2) ((t.at 0).s).length k2,zB,zS,zS]:=(TreeC.keep (hv3.keeps fun b hb hk e=>by have hk':w1.heap.size≤b:=hk;omega) (TreeC.intro rfl (hB2.weaken fun b _ hk=>by have hk':w1.drew.heap.size≤b:=hk;(try simp only [size_drew] at hk');omega) (treesN _ _) (tagsN _ _):TreeC (fun b=>w1.heap.size≤b) w2 (.oct false (t.at 0).s) [zI,.slice (some a2) ((t.at 0).s).length k2,zB,zS,zS]))
 have hJ1:=lS w3 _ (tlF (tlP d) fX1_0 (t.at 0)) rfl hl3 (hf0) ((hV3).keeps fun b hb hk e=>by have hk':w1.heap.size≤b:=hk;omega)
 obtain ⟨A1,B1,hA1,hl3,lT⟩:=hJ1.next (by decide)
 replace hA1:A1.length=5:=hA1
 obtain ⟨Y3,hY3,eI,FU⟩:=el_open (n:=5) hl3 hA1 rfl
 have iO:10≤Y3.size:=by omega
 repeat ((first|refine qA ?_|apply qB|refine qC ?_|apply qD|apply qE|apply qF|apply qG|apply qH);try simp (disch:=(first|omega|(simp only [qI,qJ,qK]<;>omega)|exact qL _)) only [go_sem,hb3,ht3,eI,iO])
 refine W.drawR (.take 0 (.take 1 (.take 2 (.take 3 (.take 4 (.take 5 (.only 6 (.only 7 (.take 8 (.last 9)))))))))) (NoB) mixed (by kernel_rfl) ?_
 try simp (disch:=(first|omega|(simp only [qI,qJ,qK]<;>omega)|exact qL _)) only [go_sem,hb3,ht3,eI,iO]
 have FY:blk w3.drew b=some x:=hb3
 have G9:BytesV AnyB w3.drew (.slice (some ⟨b,o+1,none⟩) 16 16) (uuidS (t.at 1).s):=bytes_at FY (uuidS_len _) fun j hj=>by
  rw [hZ1,show o+1+j=o+(1+j) from by omega]
  exact (hq (1+j) (by omega)).trans (get_mid (pre:=[strV (t.at 0).s]) (xs:=[z1_0,z1_1,z1_2,z1_3,z1_4,z1_5,z1_6,z1_7,z1_8,z1_9,z1_10,z1_11,z1_12,z1_13,z1_14,z1_15]) (post:=[.slice ab2 L2.length ac2,.map qm]) hj)
 refine wp_copyN ap_22_22 (ok:=AnyB) (s:=uuidS (t.at 1).s) (v:=.slice (some ⟨b,o+1,none⟩) 16 16) (by first|rfl|simp (disch:=(first|omega|(simp only [qI,qJ,qK]<;>omega)|exact qL _)) only [go_sem]) (by first|rfl|simp (disch:=(first|omega|(simp only [qI,qJ,qK]<;>omega)|exact qL _)) only [go_sem]) G9 (by rw [uuidS_len];omega) ?_
 intro v4 w4 ho4 vM GG
 obtain ⟨av4,kv4,rfl,_⟩:=ho4.shape
 have hB4:=Own.bytes (ok:=fun b=>w3.drew.heap.size≤b) ho4 fun b hb=>GG b hb
 have hP4:Upd NoB w3.drew w4:=(Upd.refl _ _).trans (vM.mono fun _ h=>h.elim)
 have HQ:=vM.size
 try simp only [size_drew] at HQ
 refine ⟨hP4,?_⟩
 try simp (disch:=(first|omega|(simp only [qI,qJ,qK]<;>omega)|exact qL _)) only [go_sem,hb3,ht3,eI,iO]
 refine ⟨hP4,?_⟩
 have lC:=hP4.blk_some (show blk w3.drew (w.heap.size+1)=_ from eI) id
 have hx5:Upd (fun b=>b=w.heap.size+1∨b=w.heap.size+2) w3 w4:=((Upd.refl _ _).drew).trans (hP4.mono fun _ h=>h.elim)
 try simp (disch:=(first|omega|(simp only [qI,qJ,qK]<;>omega)|exact qL _)) only [go_sem,lC,iO]
 rw [hY3] at lC
 generalize hw5:wr w4 (w.heap.size+1) 5 [zI,.slice av4 (uuidS (t.at 1).s).length kv4,zB,zS,zS] = w5
 have hl5:blk w5 (w.heap.size+1)=some (((A1++(([zI,.slice av4 (uuidS (t.at 1).s).length kv4,zB,zS,zS]:List Value)++B1)).toArray),37,(0,0)):=by rw [← hw5];exact el_blk0 lC hA1 (Nat.le_of_ble_eq_true rfl)
 have hv5:Upd (fun b=>b=w.heap.size+1∨b=w.heap.size+2) w4 w5:=by rw [← hw5];exact (Upd.refl _ _).wr _ _ (.inr (.inl rfl))
 have hV5:Upd (fun b=>b=w.heap.size+1∨b=w.heap.size+2) w3 w5:=hx5.trans hv5
 have hU5:Upd (fun b=>b=w.heap.size+1∨b=w.heap.size+2) w1 w5:=hU3.trans hV5
 have hz5:=hU5.size
 have hX5:Ext w w5:=hE1.more hU5 fun b hb h=>by omega
 have hb5:=hX5.blk_some hb id
 have ht5:blk w5 (w.heap.size+2)=some (#[zI,zS,zB,.slice (some ⟨w.heap.size+1,0,none⟩) 3 3,zS],37,(0,0)):=by
  rw [← hw5,blk_wr_ne (by omega)]
  exact hP4.blk_some (show blk w3.drew (w.heap.size+2)=_ from ht3) id
 clear hw5
 have hf1:TreeC (fun b=>w1.heap.size≤b) w5 (.oct false (uuidS (t.at 1).s)) [zI,.slice av4 (uuidS (t.at 1).s).length kv4,zB,zS,zS]:=(TreeC.keep (hv5.keeps fun b hb hk e=>by have hk':w1.heap.size≤b:=hk;omega) (TreeC.intro rfl (hB4.weaken fun b _ hk=>by have hk':w3.drew.heap.size≤b:=hk;(try simp only [size_drew] at hk');omega) (treesN _ _) (tagsN _ _):TreeC (fun b=>w1.heap.size≤b) w4 (.oct false (uuidS (t.at 1).s)) [zI,.slice av4 (uuidS (t.at 1).s).length kv4,zB,zS,zS]))
 have hJ2:=lT w5 _ (tlF (tlP d) fX1_1 (t.at 1)) rfl hl5 (hf1) ((hV5).keeps fun b hb hk e=>by have hk':w1.heap.size≤b:=hk;omega)
 obtain ⟨A2,B2,hA2,hl5,qO⟩:=hJ2.next (by decide)
 replace hA2:A2.length=10:=hA2
 obtain ⟨Y5,hY5,lR,KX⟩:=el_open (n:=5) hl5 hA2 rfl
 have oH:13≤Y5.size:=by omega
 repeat ((first|refine qA ?_|apply qB|refine qC ?_|apply qD|apply qE|apply qF|apply qG|apply qH);try simp (disch:=(first|omega|(simp only [qI,qJ,qK]<;>omega)|exact qL _)) only [go_sem,hb5,ht5,dS,lR,oH])
 refine W.drawR (.take 0 (.take 1 (.take 2 (.take 3 (.take 4 (.take 5 (.take 6 (.take 7 (.take 8 (.last 9)))))))))) (NoB) mixed (by kernel_rfl) ?_
 try simp (disch:=(first|omega|(simp only [qI,qJ,qK]<;>omega)|exact qL _)) only [go_sem,hb5,ht5,dS,lR,oH,H3]
 generalize hw6:wr w5.drew (w.heap.size+1) 12 [.bool (t.at 2).null] = w6
 have hl6:blk w6 (w.heap.size+1)=some (((A2++(([zI,zS,.bool (t.at 2).null,zS,zS]:List Value)++B2)).toArray),37,(0,0)):=by rw [← hw6];exact el_blk (o:=2) (show blk w5.drew (w.heap.size+1)=_ from hl5) hA2 (Nat.le_of_ble_eq_true rfl)
 have hV6:Upd (fun b=>b=w.heap.size+1∨b=w.heap.size+2) w5 w6:=by rw [← hw6];exact ((Upd.refl _ _).drew).wr _ _ (.inr (.inl rfl))
 have hU6:Upd (fun b=>b=w.heap.size+1∨b=w.heap.size+2) w1 w6:=hU5.trans hV6
 have hz6:=hU6.size
 have hX6:Ext w w6:=hE1.more hU6 fun b hb h=>by omega
 have hb6:=hX6.blk_some hb id
 have ht6:blk w6 (w.heap.size+2)=some (#[zI,zS,zB,.slice (some ⟨w.heap.size+1,0,none⟩) 3 3,zS],37,(0,0)):=by
  rw [← hw6,blk_wr_ne (by omega)]
  exact ht5
 clear hw6
 obtain ⟨Y6,hY6,kF,FV⟩:=el_open (n:=5) hl6 hA2 rfl
 have m7:14≤Y6.size:=by omega
 have GM:Y6[13]? = some (.slice none 0 0):=by rw [hY6];exact el_cell (R:=0) hA2 (o:=3) (Nat.le_of_ble_eq_true rfl)
 repeat ((first|refine qA ?_|apply qB|refine qC ?_|apply qD|apply qE|apply qF|apply qG|apply qH);try simp (disch:=(first|omega|(simp only [qI,qJ,qK]<;>omega)|exact qL _)) only [go_sem,hb6,ht6,dS,kF,m7,GM])
 refine W.exitJ 0 (EndQ [(0,.pointer (some ⟨b,o,none⟩)),(2,.pointer (some ⟨w.heap.size,0,none⟩)),(3,.pointer (some ⟨w.heap.size+2,0,none⟩)),(38,.int .i64 L2.length)] (fun w'=>∃ v,blk w' (w.heap.size+1)=some (((A2++(([zI,zS,.bool (t.at 2).null,v,zS]:List Value)++B2)).toArray),37,(0,0))∧GrowT (fun b=>w1.heap.size≤b) w6.heap.size (w.heap.size+1) w' 37 v (L2.map (tl1 (tlP d) fX1_2.of fX1_2.sub))∧Upd (fun b=>b=w.heap.size+1) w6 w')) (W.loop (LoopL [(0,.pointer (some ⟨b,o,none⟩)),(2,.pointer (some ⟨w.heap.size,0,none⟩)),(3,.pointer (some ⟨w.heap.size+2,0,none⟩)),(38,.int .i64 L2.length)] 39 (fun j w'=>∃ v,j≤L2.length∧blk w' (w.heap.size+1)=some (((A2++(([zI,zS,.bool (t.at 2).null,v,zS]:List Value)++B2)).toArray),37,(0,0))∧GrowT (fun b=>w1.heap.size≤b) w6.heap.size (w.heap.size+1) w' 37 v ((L2.take j).map (tl1 (tlP d) fX1_2.of fX1_2.sub))∧Upd (fun b=>b=w.heap.size+1) w6 w')) (fun ρ _=>L2.length - (RowKit.intOf (ρ 39)).toNat) ?_ ?_) ?_
 ·exact ⟨(by simp (disch:=(first|omega|(simp only [qI,qJ,qK]<;>omega)|exact qL _)) only [go_sem,Holds_nil,Holds_cons]),0,(by simp (disch:=(first|omega|(simp only [qI,qJ,qK]<;>omega)|exact qL _)) only [go_sem];all_goals rfl),zS,Nat.zero_le _,hl6,GrowT.nil _ _ _ _ _,Upd.refl _ _⟩
 ·rintro ρ w7 ⟨⟨bO,bN,bP,bQ,-⟩,j,hri,v,hj,hl7,hg,hUk⟩
  have hzk:=hUk.size
  have hX7:Ext w w7:=hX6.more hUk fun b hb h=>by omega
  have hz7:w1.heap.size≤w7.heap.size:=by have:=hz6;omega
  have hb7:=hX7.blk_some hb id
  have ht7:=hUk.blk_some ht6 (by omega)
  by_cases hlt:j < L2.length
  ·obtain ⟨_,be,oe,xe,ce,hbe,hoke,hxe,hble,hxs,hxx,hqe,hRe⟩:=SlR.get (size:=1) (by decide) hs2 hlt
   subst hbe
   have hcat:L2.take (j+1)=L2.take j++[L2[j]]:=List.take_succ_eq_append_getElem hlt
   have hgy:=wP.2 _ (List.getElem_mem hlt)
   have hll:=wP.1
   obtain ⟨av,kv,hvs,_⟩:=hg.shape
   have hlj:(List.map (tl1 (tlP d) fX1_2.of fX1_2.sub) (L2.take j)).length=j:=by simp;omega
   rw [hlj] at hvs
   subst hvs
   have hnb:∀ b,b < w6.heap.size∨w7.heap.size≤b→¬ ownB (.slice av j kv) b:=fun b hb h=>by
    have:=hg.above h
    have:=hg.below h
    omega
   generalize L2[j] = y at *
   obtain rfl:=(Rep1_num (by decide)).1 hRe
   have C1:xe.1[oe+j]? = some (.int .i32 (IntKind.i32.wrap y.n)):=by have:=hqe 0 (by decide);rw [Nat.mul_one] at this;exact this
   obtain ⟨Y7,hY7,fB,FW⟩:=el_open (n:=5) hl7 hA2 rfl
   have cE:14≤Y7.size:=by omega
   have dR:Y7[13]? = some (.slice av j kv):=by rw [hY7];exact el_cell (R:=0) hA2 (o:=3) (Nat.le_of_ble_eq_true rfl)
   repeat ((first|refine qA ?_|apply qB|refine qC ?_|apply qD|apply qE|apply qF|apply qG|apply qH);try simp (disch:=(first|omega|(simp only [qI,qJ,qK]<;>omega)|exact qL _)) only [go_sem,hb7,ht7,dS,fB,cE,dR,bO,bN,bP,bQ,hri])
   refine W.drawR (.only 0 (.two 1 (.only 2 (.only 3 .done)) 2 (.only 1 (.only 3 .done)))) NoB mixed (by kernel_rfl) ?_
   try simp (disch:=(first|omega|(simp only [qI,qJ,qK]<;>omega)|exact qL _)) only [go_sem,hb7,ht7,dS,fB,cE,dR,bO,bN,bP,bQ,hri]
   have q0:Upd NoB w7.drew (w7.alloc (.cells #[zB] 4)).drew:=show Upd NoB w7.drew (w7.drew.alloc (.cells #[zB] 4)) from Upd.alloc (Upd.refl _ _) _
   have q1:Upd NoB w7.drew (wr (w7.alloc (.cells #[zB] 4)).drew w7.heap.size 0 [.bool true]):=q0.wr _ _ (.inl (Nat.le_refl _))
   have q2:Upd NoB w7.drew (wr (wr (w7.alloc (.cells #[zB] 4)).drew w7.heap.size 0 [.bool true]) w7.heap.size 0 [zB]):=q1.wr _ _ (.inl (Nat.le_refl _))
   have q3:Upd NoB w7.drew (wr (w7.alloc (.cells #[zB] 4)).drew w7.heap.size 0 [zB]):=q0.wr _ _ (.inl (Nat.le_refl _))
   have q4:Upd NoB w7.drew (wr (wr (w7.alloc (.cells #[zB] 4)).drew w7.heap.size 0 [zB]) w7.heap.size 0 [.bool true]):=q3.wr _ _ (.inl (Nat.le_refl _))
   refine ⟨q0,⟨q1,q2,q2,?_⟩,⟨q3,q4,q4,?_⟩⟩
   ·have hk8:Ext w7 (wr (wr (w7.alloc (.cells #[zB] 4)).drew w7.heap.size 0 [.bool true]) w7.heap.size 0 [zB]):=((Upd.refl _ _).drew).trans q2
    generalize (wr (wr (w7.alloc (.cells #[zB] 4)).drew w7.heap.size 0 [.bool true]) w7.heap.size 0 [zB])=w8 at *
    have hzk8:=hk8.size
    have hX8:Ext w w8:=hX7.trans hk8
    have hb8:=hk8.blk_some hb7 id
    have hl8:=hk8.blk_some hl7 id
    have hlb8:=hk8.blk_some fB id
    have ht8:=hk8.blk_some ht7 id
    have tG:=hX8.blk_some hxe id
    repeat ((first|refine qA ?_|apply qB|refine qC ?_|apply qD|apply qE|apply qF|apply qG|apply qH);try simp (disch:=(first|omega|(simp only [qI,qJ,qK]<;>omega)|exact qL _)) only [go_sem,hb8,hlb8,cE,dR,ht8,tG,dS,C1,tl32,bO,bN,bP,bQ,hri])
    refine W.drawR (.take 0 (.take 1 (.take 2 (.take 3 (.take 4 (.take 5 (.take 6 (.take 7 (.take 8 (.take 9 (.take 10 (.take 11 (.take 12 (.take 13 (.take 14 (.only 15 (.only 16 (.only 17 (.take 18 (.take 19 (.last 20))))))))))))))))))))) (ownB (.slice av j kv)) mixed (by kernel_rfl) ?_
    try simp (disch:=(first|omega|(simp only [qI,qJ,qK]<;>omega)|exact qL _|(refine hnb _ ?_;first|omega|(simp only [World.size_alloc,size_wr,size_drew]<;>omega)))) only [go_sem,hb8,hlb8,cE,dR,ht8,tG,dS,C1,tl32,bO,bN,bP,bQ,hri]
    refine ⟨Upd.refl _ _,?_⟩
    have hP9:Upd (ownB (.slice av j kv)) w8.drew (w8.alloc (.cells #[.int .i64 (IntKind.i32.wrap y.n),zS,zB,zS,zS] 37)).drew:=show Upd (ownB (.slice av j kv)) w8.drew (w8.drew.alloc (.cells #[.int .i64 (IntKind.i32.wrap y.n),zS,zB,zS,zS] 37)) from (Upd.refl _ _).alloc _
    have hn9:blk (w8.alloc (.cells #[.int .i64 (IntKind.i32.wrap y.n),zS,zB,zS,zS] 37)).drew w8.drew.heap.size=some (#[.int .i64 (IntKind.i32.wrap y.n),zS,zB,zS,zS],37,(0,0)):=show blk (w8.drew.alloc (.cells #[.int .i64 (IntKind.i32.wrap y.n),zS,zB,zS,zS] 37)) w8.drew.heap.size=some (#[.int .i64 (IntKind.i32.wrap y.n),zS,zB,zS,zS],37,(0,0)) from blk_alloc_new rfl
    have HR:(w8.alloc (.cells #[.int .i64 (IntKind.i32.wrap y.n),zS,zB,zS,zS] 37)).drew.heap.size=w8.drew.heap.size+1:=show (w8.drew.alloc (.cells #[.int .i64 (IntKind.i32.wrap y.n),zS,zB,zS,zS] 37)).heap.size=w8.drew.heap.size+1 from World.size_alloc _ _
    have vN:Ext w8.drew (w8.alloc (.cells #[.int .i64 (IntKind.i32.wrap y.n),zS,zB,zS,zS] 37)).drew:=show Ext w8.drew (w8.drew.alloc (.cells #[.int .i64 (IntKind.i32.wrap y.n),zS,zB,zS,zS] 37)) from Upd.alloc (Upd.refl _ _) _
    refine ⟨hP9,?_⟩
    try simp only [List.append_nil]
    generalize (w8.alloc (.cells #[.int .i64 (IntKind.i32.wrap y.n),zS,zB,zS,zS] 37)).drew=w9 at *
    try simp only [size_drew] at HR
    have E0:Ext w7 w9:=(hk8.drew.trans vN)
    have hzw10:=E0.size
    obtain ⟨css,hown,hall⟩:=(hg.ext E0).ex
    have hcl:=hall.1
    rw [hlj] at hcl
    have yG:TreeC (fun b=>(fun b=>w1.heap.size≤b) b∧b≠w.heap.size+1∧¬ ownB (.slice av j kv) b) w9 ((tl1 (tlP d) fX1_2.of fX1_2.sub) y) [.int .i64 (IntKind.i32.wrap y.n),zS,zB,zS,zS]:=by
     exact TreeC.weaken (fun b _ hk=>⟨by omega,by omega,hnb b (.inr (by omega))⟩) (TreeC.intro (tl32 _) (BytesV.nil _ _) (treesN _ _) (tagsN _ _):TreeC (fun b=>w7.heap.size≤b) _ (.num (IntKind.i32.wrap y.n)) [.int .i64 (IntKind.i32.wrap y.n),zS,zB,zS,zS])
    refine wp_append ap_34_34 (m:=1) (news:=[.int .i64 (IntKind.i32.wrap y.n),zS,zB,zS,zS]) (n:=css.length) (cs:=css.flatten) (v:=(.slice av j kv)) ?_ rfl hown.1 (all2_flat_tree hall) (Src.blk (fr:=(0,0)) (T:=37) hn9 rfl rfl) ?_ ?_ ?_
    ·first|rfl|simp (disch:=(first|omega|(simp only [qI,qJ,qK]<;>omega)|exact qL _)) only [go_sem]
    ·omega
    ·omega
    intro v' w10 ho hu hfr
    have pE:=(hP9:Upd (ownB (.slice av j kv)) w8.drew w9).trans hu
    have hzq10:=pE.size
    simp only [size_drew] at hzq10
    have qM:=pE.blk_some (show blk w8.drew (w.heap.size+1)=_ from hl8) (hnb _ (.inl (by omega)))
    have LZ:=pE.blk_some (show blk w8.drew (w.heap.size+1)=_ from hlb8) (hnb _ (.inl (by omega)))
    have hg':=GrowT.snoc hown hall yG hu hfr ho
    obtain ⟨va,vc,hv',_⟩:=ho.shape
    subst hv'
    have hne:¬ ownB (.slice va (css.length+1) vc) (w.heap.size+1):=fun h=>(hfr _ h).elim (hnb _ (.inl (by omega))) (fun h=>by omega)
    refine ⟨pE,?_⟩
    try simp (disch:=(first|omega|(simp only [qI,qJ,qK]<;>omega)|exact qL _|(refine hnb _ ?_;first|omega|(simp only [World.size_alloc,size_wr,size_drew]<;>omega)))) only [go_sem,LZ,cE,dR,bO,bN,bP,bQ,hri]
    repeat ((first|refine qA ?_|apply qB|refine qC ?_|apply qD|apply qE|apply qF|apply qG|apply qH);try simp (disch:=(first|omega|(simp only [qI,qJ,qK]<;>omega)|exact qL _)) only [go_sem,LZ,cE,dR,bO,bN,bP,bQ,hri])
    refine ⟨⟨(by simp (disch:=(first|omega|(simp only [qI,qJ,qK]<;>omega)|exact qL _)) only [go_sem,Holds_nil,Holds_cons,bO,bN,bP,bQ,hri]),j+1,(by simp (disch:=(first|omega|(simp only [qI,qJ,qK]<;>omega)|exact qL _)) only [go_sem,bO,bN,bP,bQ,hri];all_goals rfl),.slice va (css.length+1) vc,by omega,?_,?_,?_⟩,?_⟩
    ·exact el_blk (o:=3) qM hA2 (Nat.le_of_ble_eq_true rfl)
    ·rw [hcat,List.map_append];exact hg'.upd ((Upd.refl _ _).wr _ _ (.inr rfl)) hne
    ·refine Upd.wr ?_ _ _ (.inr rfl)
     exact (hUk.more ((E0.mono fun _ h=>h.elim).trans hu) fun b hb h=>absurd h (hnb b (.inl hb)))
    ·try simp (disch:=(first|omega|(simp only [qI,qJ,qK]<;>omega)|exact qL _)) only [go_sem,bO,bN,bP,bQ,hri]
     simp only [RowKit.intOf];omega
   ·have hk11:Ext w7 (wr (wr (w7.alloc (.cells #[zB] 4)).drew w7.heap.size 0 [zB]) w7.heap.size 0 [.bool true]):=((Upd.refl _ _).drew).trans q4
    generalize (wr (wr (w7.alloc (.cells #[zB] 4)).drew w7.heap.size 0 [zB]) w7.heap.size 0 [.bool true])=w11 at *
    have hzk11:=hk11.size
    have wH:Ext w w11:=hX7.trans hk11
    have pU:=hk11.blk_some hb7 id
    have tZ:=hk11.blk_some hl7 id
    have mV:=hk11.blk_some fB id
    have m8:=hk11.blk_some ht7 id
    have PQ:=wH.blk_some hxe id
    repeat ((first|refine qA ?_|apply qB|refine qC ?_|apply qD|apply qE|apply qF|apply qG|apply qH);try simp (disch:=(first|omega|(simp only [qI,qJ,qK]<;>omega)|exact qL _)) only [go_sem,pU,mV,cE,dR,m8,PQ,dS,C1,tl32,bO,bN,bP,bQ,hri])
    refine W.drawR (.take 0 (.take 1 (.take 2 (.take 3 (.take 4 (.take 5 (.take 6 (.take 7 (.take 8 (.take 9 (.take 10 (.take 11 (.take 12 (.take 14 (.two 13 (.only 15 (.only 16 (.take 17 (.take 18 (.last 19))))) 15 (.only 13 (.only 16 (.take 17 (.take 18 (.last 19)))))))))))))))))))) (ownB (.slice av j kv)) mixed (by kernel_rfl) ?_
    try simp (disch:=(first|omega|(simp only [qI,qJ,qK]<;>omega)|exact qL _|(refine hnb _ ?_;first|omega|(simp only [World.size_alloc,size_wr,size_drew]<;>omega)))) only [go_sem,pU,mV,cE,dR,m8,PQ,dS,C1,tl32,bO,bN,bP,bQ,hri]
    refine ⟨?_,?_⟩
    ·skip
     refine ⟨Upd.refl _ _,?_⟩
     have JI:Upd (ownB (.slice av j kv)) w11.drew (w11.alloc (.cells qZ5 37)).drew:=show Upd (ownB (.slice av j kv)) w11.drew (w11.drew.alloc (.cells qZ5 37)) from (Upd.refl _ _).alloc _
     have XP:blk (w11.alloc (.cells qZ5 37)).drew w11.drew.heap.size=some (qZ5,37,(0,0)):=show blk (w11.drew.alloc (.cells qZ5 37)) w11.drew.heap.size=some (qZ5,37,(0,0)) from blk_alloc_new rfl
     have Z8:(w11.alloc (.cells qZ5 37)).drew.heap.size=w11.drew.heap.size+1:=show (w11.drew.alloc (.cells qZ5 37)).heap.size=w11.drew.heap.size+1 from World.size_alloc _ _
     have RH:Ext w11.drew (w11.alloc (.cells qZ5 37)).drew:=show Ext w11.drew (w11.drew.alloc (.cells qZ5 37)) from Upd.alloc (Upd.refl _ _) _
     refine ⟨JI,?_⟩
     try simp only [List.append_nil]
     generalize (w11.alloc (.cells qZ5 37)).drew=w12 at *
     try simp only [size_drew] at Z8
     have E2:Ext w7 w12:=(hk11.drew.trans RH)
     have hzw13:=E2.size
     obtain ⟨css,hown,hall⟩:=(hg.ext E2).ex
     have hcl:=hall.1
     rw [hlj] at hcl
     have hx13:TreeC (fun b=>(fun b=>w1.heap.size≤b) b∧b≠w.heap.size+1∧¬ ownB (.slice av j kv) b) w12 ((tl1 (tlP d) fX1_2.of fX1_2.sub) y) [.int .i64 (IntKind.i32.wrap y.n),zS,zB,zS,zS]:=by
      exact TreeC.weaken (fun b _ hk=>⟨by omega,by omega,hnb b (.inr (by omega))⟩) (TreeC.intro (tl32 _) (BytesV.nil _ _) (treesN _ _) (tagsN _ _):TreeC (fun b=>w7.heap.size≤b) _ (.num (IntKind.i32.wrap y.n)) [.int .i64 (IntKind.i32.wrap y.n),zS,zB,zS,zS])
     refine wp_append ap_34_34 (m:=1) (news:=[zI,zS,zB,zS,zS]) (n:=css.length) (cs:=css.flatten) (v:=(.slice av j kv)) ?_ rfl hown.1 (all2_flat_tree hall) (Src.blk (fr:=(0,0)) (T:=37) XP rfl rfl) ?_ ?_ ?_
     ·first|rfl|simp (disch:=(first|omega|(simp only [qI,qJ,qK]<;>omega)|exact qL _)) only [go_sem]
     ·omega
     ·omega
     intro v' w13 ho hu hfr
     have pF:=(JI:Upd (ownB (.slice av j kv)) w11.drew w12).trans hu
     have hzq13:=pF.size
     simp only [size_drew] at hzq13
     have XF:=pF.blk_some (show blk w11.drew (w.heap.size+1)=_ from tZ) (hnb _ (.inl (by omega)))
     have M1:=pF.blk_some (show blk w11.drew (w.heap.size+1)=_ from mV) (hnb _ (.inl (by omega)))
     rcases ho.2 with ⟨_,h⟩|⟨g,cap,rest,fr,hv',hg',hbg,hlen,hth,hle⟩
     ·exact absurd h (Nat.succ_ne_zero _)
     subst hv'
     have hgne:¬ g=w.heap.size+1:=fun h=>(hfr g ⟨_,_,_,rfl,rfl⟩).elim (fun h'=>hnb _ (.inl (by omega)) (h ▸ h')) (fun h'=>by omega)
     have hfl:css.flatten.length=css.length * 5:=flatten_len hown.2
     have fK:(css.flatten++([zI,zS,zB,zS,zS]:List Value)++rest).length=cap * 5:=by simp only [List.length_append] at hlen ⊢;omega
     obtain ⟨XX,hXX⟩:∃ X:Array Value,X=(css.flatten++([zI,zS,zB,zS,zS]:List Value)++rest).toArray:=⟨_,rfl⟩
     have hbgX:blk w13 g=some (XX,37,fr):=by rw [hXX];exact hbg
     have hXsz:XX.size=cap * 5:=by rw [hXX,List.size_toArray];exact fK
     have dK:thaw fr (css.length * 5) 5=true:=thaw_of hth (by omega)
     have hst:css.length * 5+5≤XX.size:=by omega
     have hset:=Own.setlast (cs:=[.int .i64 (IntKind.i32.wrap y.n),zS,zB,zS,zS]) ho rfl rfl
     have hu2:Upd (ownB (.slice av j kv)) w12 (wr w13 g (css.length * 5) [.int .i64 (IntKind.i32.wrap y.n),zS,zB,zS,zS]):=hu.wr _ _ ((hfr g ⟨_,_,_,rfl,rfl⟩).symm)
     have hg2:=GrowT.snoc hown hall hx13 hu2 hfr hset
     have hcj:css.length=j:=by first|exact hcl.symm.trans hlj|omega
     simp only [hcj] at dK hst hset hu2 hg2
     refine ⟨pF,?_⟩
     try simp (disch:=(first|omega|(simp only [qI,qJ,qK]<;>omega)|exact qL _|(refine hnb _ ?_;first|omega|(simp only [World.size_alloc,size_wr,size_drew]<;>omega)))) only [go_sem,M1,cE,dR,hbgX,dK,hst,hcj,bO,bN,bP,bQ,hri]
     repeat ((first|refine qA ?_|apply qB|refine qC ?_|apply qD|apply qE|apply qF|apply qG|apply qH);try simp (disch:=(first|omega|(simp only [qI,qJ,qK]<;>omega)|exact qL _)) only [go_sem,M1,cE,dR,hbgX,dK,hst,hcj,bO,bN,bP,bQ,hri])
     refine ⟨⟨(by simp (disch:=(first|omega|(simp only [qI,qJ,qK]<;>omega)|exact qL _)) only [go_sem,Holds_nil,Holds_cons,bO,bN,bP,bQ,hri]),j+1,(by simp (disch:=(first|omega|(simp only [qI,qJ,qK]<;>omega)|exact qL _)) only [go_sem,bO,bN,bP,bQ,hri];all_goals rfl),.slice (some ⟨g,0,none⟩) (j+1) cap,by omega,?_,?_,?_⟩,?_⟩
     ·rw [blk_wr_ne (by omega)];exact el_blk (o:=3) XF hA2 (Nat.le_of_ble_eq_true rfl)
     ·rw [hcat,List.map_append,wr_comm (Ne.symm hgne)]
      exact hg2.upd ((Upd.refl _ _).wr _ _ (.inr rfl)) (fun h=>hgne (ownB_row h).symm)
     ·rw [wr_comm (Ne.symm hgne)]
      refine Upd.wr ?_ _ _ (.inr rfl)
      exact (hUk.more ((E2.mono fun _ h=>h.elim).trans hu2) fun b hb h=>absurd h (hnb b (.inl hb)))
     ·try simp (disch:=(first|omega|(simp only [qI,qJ,qK]<;>omega)|exact qL _)) only [go_sem,bO,bN,bP,bQ,hri]
      simp only [RowKit.intOf];omega
    ·skip
     have tJ:Upd (ownB (.slice av j kv)) w11.drew (w11.alloc (.cells qZ5 37)).drew:=show Upd (ownB (.slice av j kv)) w11.drew (w11.drew.alloc (.cells qZ5 37)) from (Upd.refl _ _).alloc _
     have H2:blk (w11.alloc (.cells qZ5 37)).drew w11.drew.heap.size=some (qZ5,37,(0,0)):=show blk (w11.drew.alloc (.cells qZ5 37)) w11.drew.heap.size=some (qZ5,37,(0,0)) from blk_alloc_new rfl
     have HN:(w11.alloc (.cells qZ5 37)).drew.heap.size=w11.drew.heap.size+1:=show (w11.drew.alloc (.cells qZ5 37)).heap.size=w11.drew.heap.size+1 from World.size_alloc _ _
     have zC:Ext w11.drew (w11.alloc (.cells qZ5 37)).drew:=show Ext w11.drew (w11.drew.alloc (.cells qZ5 37)) from Upd.alloc (Upd.refl _ _) _
     refine ⟨tJ,?_⟩
     try simp only [List.append_nil]
     generalize (w11.alloc (.cells qZ5 37)).drew=w14 at *
     try simp only [size_drew] at HN
     refine ⟨tJ,?_⟩
     have pB:Ext w7 w14:=(hk11.drew.trans zC)
     have hzw15:=pB.size
     obtain ⟨css,hown,hall⟩:=(hg.ext pB).ex
     have hcl:=hall.1
     rw [hlj] at hcl
     have I4:TreeC (fun b=>(fun b=>w1.heap.size≤b) b∧b≠w.heap.size+1∧¬ ownB (.slice av j kv) b) w14 ((tl1 (tlP d) fX1_2.of fX1_2.sub) y) [.int .i64 (IntKind.i32.wrap y.n),zS,zB,zS,zS]:=by
      exact TreeC.weaken (fun b _ hk=>⟨by omega,by omega,hnb b (.inr (by omega))⟩) (TreeC.intro (tl32 _) (BytesV.nil _ _) (treesN _ _) (tagsN _ _):TreeC (fun b=>w7.heap.size≤b) _ (.num (IntKind.i32.wrap y.n)) [.int .i64 (IntKind.i32.wrap y.n),zS,zB,zS,zS])
     refine wp_append ap_34_34 (m:=1) (news:=[zI,zS,zB,zS,zS]) (n:=css.length) (cs:=css.flatten) (v:=(.slice av j kv)) ?_ rfl hown.1 (all2_flat_tree hall) (Src.blk (fr:=(0,0)) (T:=37) H2 rfl rfl) ?_ ?_ ?_
     ·first|rfl|simp (disch:=(first|omega|(simp only [qI,qJ,qK]<;>omega)|exact qL _)) only [go_sem]
     ·omega
     ·omega
     intro v' w15 ho hu hfr
     have lG:=(tJ:Upd (ownB (.slice av j kv)) w11.drew w14).trans hu
     have II:=lG.size
     simp only [size_drew] at II
     have GZ:=lG.blk_some (show blk w11.drew (w.heap.size+1)=_ from tZ) (hnb _ (.inl (by omega)))
     have wZ:=lG.blk_some (show blk w11.drew (w.heap.size+1)=_ from mV) (hnb _ (.inl (by omega)))
     rcases ho.2 with ⟨_,h⟩|⟨g,cap,rest,fr,hv',hg',hbg,hlen,hth,hle⟩
     ·exact absurd h (Nat.succ_ne_zero _)
     subst hv'
     have hgne:¬ g=w.heap.size+1:=fun h=>(hfr g ⟨_,_,_,rfl,rfl⟩).elim (fun h'=>hnb _ (.inl (by omega)) (h ▸ h')) (fun h'=>by omega)
     have hfl:css.flatten.length=css.length * 5:=flatten_len hown.2
     have fK:(css.flatten++([zI,zS,zB,zS,zS]:List Value)++rest).length=cap * 5:=by simp only [List.length_append] at hlen ⊢;omega
     obtain ⟨XX,hXX⟩:∃ X:Array Value,X=(css.flatten++([zI,zS,zB,zS,zS]:List Value)++rest).toArray:=⟨_,rfl⟩
     have hbgX:blk w15 g=some (XX,37,fr):=by rw [hXX];exact hbg
     have hXsz:XX.size=cap * 5:=by rw [hXX,List.size_toArray];exact fK
     have dK:thaw fr (css.length * 5) 5=true:=thaw_of hth (by omega)
     have hst:css.length * 5+5≤XX.size:=by omega
     have hset:=Own.setlast (cs:=[.int .i64 (IntKind.i32.wrap y.n),zS,zB,zS,zS]) ho rfl rfl
     have hu2:Upd (ownB (.slice av j kv)) w14 (wr w15 g (css.length * 5) [.int .i64 (IntKind.i32.wrap y.n),zS,zB,zS,zS]):=hu.wr _ _ ((hfr g ⟨_,_,_,rfl,rfl⟩).symm)
     have hg2:=GrowT.snoc hown hall I4 hu2 hfr hset
     have hcj:css.length=j:=by first|exact hcl.symm.trans hlj|omega
     simp only [hcj] at dK hst hset hu2 hg2
     refine ⟨lG,?_⟩
     try simp (disch:=(first|omega|(simp only [qI,qJ,qK]<;>omega)|exact qL _|(refine hnb _ ?_;first|omega|(simp only [World.size_alloc,size_wr,size_drew]<;>omega)))) only [go_sem,wZ,cE,dR,hbgX,dK,hst,hcj,bO,bN,bP,bQ,hri]
     repeat ((first|refine qA ?_|apply qB|refine qC ?_|apply qD|apply qE|apply qF|apply qG|apply qH);try simp (disch:=(first|omega|(simp only [qI,qJ,qK]<;>omega)|exact qL _)) only [go_sem,wZ,cE,dR,hbgX,dK,hst,hcj,bO,bN,bP,bQ,hri])
     refine ⟨⟨(by simp (disch:=(first|omega|(simp only [qI,qJ,qK]<;>omega)|exact qL _)) only [go_sem,Holds_nil,Holds_cons,bO,bN,bP,bQ,hri]),j+1,(by simp (disch:=(first|omega|(simp only [qI,qJ,qK]<;>omega)|exact qL _)) only [go_sem,bO,bN,bP,bQ,hri];all_goals rfl),.slice (some ⟨g,0,none⟩) (j+1) cap,by omega,?_,?_,?_⟩,?_⟩
     ·rw [blk_wr_ne (by omega)];exact el_blk (o:=3) GZ hA2 (Nat.le_of_ble_eq_true rfl)
     ·rw [hcat,List.map_append,wr_comm (Ne.symm hgne)]
      exact hg2.upd ((Upd.refl _ _).wr _ _ (.inr rfl)) (fun h=>hgne (ownB_row h).symm)
     ·rw [wr_comm (Ne.symm hgne)]
      refine Upd.wr ?_ _ _ (.inr rfl)
      exact (hUk.more ((pB.mono fun _ h=>h.elim).trans hu2) fun b hb h=>absurd h (hnb b (.inl hb)))
     ·try simp (disch:=(first|omega|(simp only [qI,qJ,qK]<;>omega)|exact qL _)) only [go_sem,bO,bN,bP,bQ,hri]
      simp only [RowKit.intOf];omega
  ·have hjn:j=L2.length:=by omega
   subst hjn
   rw [List.take_length] at hg
   repeat ((first|refine qA ?_|apply qB|refine qC ?_|apply qD|apply qE|apply qF|apply qG|apply qH);try simp (disch:=(first|omega|(simp only [qI,qJ,qK]<;>omega)|exact qL _)) only [go_sem,bO,bN,bP,bQ,hri])
   exact ⟨(by simp (disch:=(first|omega|(simp only [qI,qJ,qK]<;>omega)|exact qL _)) only [go_sem,Holds_nil,Holds_cons,bO,bN,bP,bQ,hri]),v,hl7,hg,hUk⟩
 rintro ρ w16 ⟨⟨sH,eW,sI,YX,-⟩,v,hl16,LG,KF⟩
 have pO:Upd (fun b=>b=w.heap.size+1∨b=w.heap.size+2) w6 w16:=KF.mono fun _ h=>.inl h
 have tL:Upd (fun b=>b=w.heap.size+1∨b=w.heap.size+2) w1 w16:=hU6.trans pO
 have IE:=tL.size
 have AP:Ext w w16:=hE1.more tL fun b hb h=>by omega
 have hb16:=AP.blk_some hb id
 have C4:=KF.blk_some ht6 (by omega)
 obtain ⟨av2,kv2,hvs,_⟩:=LG.shape
 subst hvs
 have hf2:TreeC (fun b=>w1.heap.size≤b) w16 (.mk 0 [] (t.at 2).null (L2.map (tl1 (tlP d) fX1_2.of fX1_2.sub)) []) [zI,zS,.bool (t.at 2).null,.slice av2 (List.map (tl1 (tlP d) fX1_2.of fX1_2.sub) L2).length kv2,zS]:=TreeC.intro rfl (BytesV.nil _ _) (LG.trees (fun _ _ h=>h) (fun b hb=>by have:=hz6;omega)) (tagsN _ _)
 have hJ3:=qO w16 _ (tlF (tlP d) fX1_2 (t.at 2)) rfl hl16 (by rw [show tlF (tlP d) fX1_2 (t.at 2) = .mk 0 [] (t.at 2).null ((if (t.at 2).null=true then [] else (t.at 2).l).map (tl1 (tlP d) fX1_2.of fX1_2.sub)) [] from rfl,← hL2];exact hf2) (((hV6.trans pO)).keeps fun b hb hk e=>by have hk':w1.heap.size≤b:=hk;omega)
 repeat ((first|refine qA ?_|apply qB|refine qC ?_|apply qD|apply qE|apply qF|apply qG|apply qH);try simp (disch:=(first|omega|(simp only [qI,qJ,qK]<;>omega)|exact qL _)) only [go_sem,hb16,C4,sH,eW,sI])
 refine (EachG_fn (ok:=fun b=>b < w.heap.size) 69 ca_69 #[.pointer (some ⟨w.heap.size+2,0,none⟩)] w16 (tb:=b) (to:=o+18) hb16 iY ((hT.weaken fun b hb _=>hb).keep (AP.keeps _)) (sortT_perm _) (sortT_lt hgu.2.1) (by rw [(sortT_perm t.u).length_eq];exact hgu.1)
  (fun b=>b=w.heap.size+2) (by omega) (fun b hb hk e=>by have hk':b < w.heap.size:=hk;omega) (fun b hb=>by have:=blk_lt C4;omega)
  (fun wl done w'=>∃ v,blk w' (w.heap.size+2)=some (#[zI,zS,zB,.slice (some ⟨w.heap.size+1,0,none⟩) 3 3,v],37,(0,0))∧GrowU (fun b=>w1.heap.size≤b) wl.heap.size (w.heap.size+2) w' 62 v done) (fun wl hE=>⟨_,hE.blk_some C4 id,GrowU.nil _ _ _ _ _⟩) ?_).mono ?_
 ·rintro wl hE done y vv wc hpre ⟨v,hbv,hg⟩ hU hvv hy
  have hz':=hE.size
  have hzu:=hU.size
  have htl:=blk_lt C4
  have hpl:=hpre.length_le
  simp only [List.length_append,List.length_cons,List.length_nil] at hpl
  rw [(sortT_perm t.u).length_eq] at hpl
  have hlu:=hgu.1
  have hmy:y∈t.u:=(sortT_perm t.u).mem_iff.1 (hpre.subset (by simp))
  refine (tagclX1_fn (ok:=fun b=>b < w.heap.size) _ _ _ _ v done y vv wc hbv hg hzu (by omega) (hvv.keep ((hE.mono (fun _ h=>h.elim) |>.trans hU:Upd (fun b=>b=w.heap.size+2) w16 wc).keeps fun b _ hk e=>by have hk':b < w.heap.size:=hk;omega)) hy (hgu.2.2 y hmy) (by omega) (fun b hb=>by have:=IE;omega)).mono ?_
  rintro _ w2' ⟨⟨v',h1,h2⟩,h3⟩
  exact ⟨⟨v',h1,h2⟩,hU.trans' h3 fun b hb h=>h.elim id fun h=>by omega⟩
 rintro _ w17 ⟨wl,hEl,⟨v,NO,hgU⟩,hUe⟩
 have hzl:=hEl.size
 obtain ⟨aU,kU,hvs,_⟩:=hgU.shape
 subst hvs
 have tU:Upd (fun b=>b=w.heap.size+1∨b=w.heap.size+2) w16 w17:=(hEl.mono fun _ h=>h.elim).trans (hUe.mono fun _ h=>.inr h)
 have lJ:Upd (fun b=>b=w.heap.size+1∨b=w.heap.size+2) w1 w17:=tL.trans tU
 have Q2:=lJ.size
 have AQ:Ext w w17:=hE1.more lJ fun b hb h=>by omega
 have hb17:=AQ.blk_some hb id
 have hJe:TJ (fun b=>w1.heap.size≤b) (w.heap.size+1) 37 3 3 _ w17:=hJ3.keep ((hEl.mono fun _ h=>h.elim).trans hUe:Upd (fun b=>b=w.heap.size+2) w16 w17) (by omega) (((hEl.mono fun _ h=>h.elim).trans hUe:Upd (fun b=>b=w.heap.size+2) w16 w17).keeps fun b hb hk e=>by have hk':w1.heap.size≤b:=hk;omega)
 have hTU:=hgU.tags (ok':=(fun b=>w1.heap.size≤b)) (fun _ _ h=>h) (fun b hb=>by have:=IE;omega)
 repeat ((first|refine qA ?_|apply qB|refine qC ?_|apply qD|apply qE|apply qF|apply qG|apply qH);try simp (disch:=(first|omega|(simp only [qI,qJ,qK]<;>omega)|exact qL _)) only [go_sem,hb17,NO,sH,eW,sI,cellsAt_five])
 refine (sorted_fn _ _ w17 hTU (sortT_lt hgu.2.1) (by rw [(sortT_perm t.u).length_eq];exact hgu.1)).mono ?_
 rintro _ w18 hEs
 have kC:Upd (fun b=>b=w.heap.size+1∨b=w.heap.size+2) w17 w18:=hEs.mono fun _ h=>h.elim
 have jI:Upd (fun b=>b=w.heap.size+1∨b=w.heap.size+2) w1 w18:=lJ.trans kC
 have Q3:=jI.size
 have AR:Ext w w18:=hE1.more jI fun b hb h=>by omega
 have VC:=AR.blk_some hb id
 have hJy:=hJe.keep hEs id (Ext.keeps hEs _)
 have ht18:=hEs.blk_some NO id
 have YU:=(jI.blk_some hr1 (by omega))
 have hTL:TreesV (fun b=>(fun b=>w1.heap.size≤b) b∨b=w.heap.size+1) w18 (.slice (some ⟨w.heap.size+1,0,none⟩) 3 3) [tlF (tlP d) fX1_0 (t.at 0),tlF (tlP d) fX1_1 (t.at 1),tlF (tlP d) fX1_2 (t.at 2)]:=hJy.trees
 repeat ((first|refine qA ?_|apply qB|refine qC ?_|apply qD|apply qE|apply qF|apply qG|apply qH);try simp (disch:=(first|omega|(simp only [qI,qJ,qK]<;>omega)|exact qL _)) only [go_sem,VC,ht18,sH,eW,sI,YU,cellsAt_five])
 refine ⟨⟨_,rfl,?_⟩,AR.wr _ _ (.inl (Nat.le_refl _))⟩
 have hUr:Upd (fun b=>b=w.heap.size) w18 (wr w18 w.heap.size 0 [zI,zS,zB,.slice (some ⟨w.heap.size+1,0,none⟩) 3 3,.slice aU (sortT t.u).length kU]):=(Upd.refl _ _).wr _ _ (.inr rfl)
 have lI:=hTU.keep (hEs.keeps _)
 exact TreeC.intro rfl (BytesV.nil _ _) ((hTL.keep (hUr.keeps fun b _ hk e=>by rcases hk with hk|hk<;>omega)).weaken fun b _ hk=>by rcases hk with hk|hk<;>omega) ((lI.keep (hUr.keeps fun b _ hk e=>by omega)).weaken fun b _ hk=>by omega)

theorem tagclQ_fn {ok OK:Blocks} {B tb:Nat} (c0 c1 c2 c3 v:Value) (done:List TagD) (y:TagD) (vv:Value) (w:World) (hbt:blk w tb=some (#[c0,c1,c2,c3,v],37,(0,0))) (hg:GrowU OK B tb w 62 v done) (hB:B≤w.heap.size) (htb:tb < B) (hvv:BytesV ok w vv y.2) (hy:y.1 < 2 ^ 32) (hyl:y.2.length≤32767) (hdl:done.length≤32767) (hOK:∀ b,B≤b→OK b) :
  Fn Tryz.prog 33 #[.int .u32 y.1,vv,.pointer (some ⟨tb,0,none⟩)] w fun _ w'=>(∃ v',blk w' tb=some (#[c0,c1,c2,c3,v'],37,(0,0))∧GrowU OK B tb w' 62 v' (done++[y]))∧Upd (fun b=>b=tb∨B≤b) w w':=by
 have htl:=blk_lt hbt
 refine fn_of_W Tryz.func33 rfl Tryz.results33 Tryz.ntmps33 rfl ?_
 repeat ((first|refine qA ?_|apply qB|refine qC ?_|apply qD|apply qE|apply qF|apply qG|apply qH);try simp (disch:=(first|omega|(simp only [qI,qJ,qK]<;>omega)|exact qL _)) only [go_sem])
 obtain ⟨av,kv,rfl,_⟩:=hg.shape
 have hnb:∀ b,b < B∨w.heap.size≤b→¬ ownB (.slice av done.length kv) b:=fun b hb h=>by
  have:=hg.above h
  have:=hg.below h
  omega
 refine W.drawR (.take 0 (.take 1 (.take 2 (.take 3 (.only 4 (.only 5 (.only 6 (.only 7 (.take 8 (.last 9)))))))))) (ownB (.slice av done.length kv)) mixed (by kernel_rfl) ?_
 simp (disch:=(first|omega|(simp only [qI,qJ,qK]<;>omega)|exact qL _|(refine hnb _ ?_;first|omega|(simp only [World.size_alloc,size_wr,size_drew]<;>omega)))) only [go_sem,hbt]
 refine wp_copyN ap_22_22 (ok:=ok) (s:=y.2) (v:=vv) (by first|rfl|simp (disch:=(first|omega|(simp only [qI,qJ,qK]<;>omega)|exact qL _)) only [go_sem]) (by first|rfl|simp (disch:=(first|omega|(simp only [qI,qJ,qK]<;>omega)|exact qL _)) only [go_sem]) (hvv.keep (Ext.keeps ((Upd.refl _ _).drew) _)) (by omega) ?_
 intro v1 w1 ho1 hE1 hf1
 obtain ⟨a1,k1,rfl,_⟩:=ho1.shape
 have hB1:=Own.bytes (ok:=fun b=>w.heap.size≤b) ho1 fun b hb=>hf1 b hb
 have hP1:Upd (ownB (.slice av done.length kv)) w.drew w1:=hE1.mono fun _ h=>h.elim
 have hs1:=hE1.size
 simp only [size_drew] at hs1
 refine ⟨hP1,?_⟩
 simp (disch:=(first|omega|(simp only [qI,qJ,qK]<;>omega)|exact qL _|(refine hnb _ ?_;first|omega|(simp only [World.size_alloc,size_wr,size_drew]<;>omega)))) only [go_sem,hbt]
 refine ⟨hP1,?_⟩
 have hP2:Upd (ownB (.slice av done.length kv)) w.drew (w1.alloc (.cells #[.int .u32 y.1,.slice a1 y.2.length k1] 62)):=hP1.alloc _
 have hn2:blk (w1.alloc (.cells #[.int .u32 y.1,.slice a1 y.2.length k1] 62)) w1.heap.size=some (#[.int .u32 y.1,.slice a1 y.2.length k1],62,(0,0)):=blk_alloc_new rfl
 have hs2:(w1.alloc (.cells #[.int .u32 y.1,.slice a1 y.2.length k1] 62)).heap.size=w1.heap.size+1:=World.size_alloc _ _
 have hE2:Ext w1 (w1.alloc (.cells #[.int .u32 y.1,.slice a1 y.2.length k1] 62)):=Upd.alloc (Upd.refl _ _) _
 refine ⟨hP2,?_⟩
 try simp only [List.append_nil]
 generalize (w1.alloc (.cells #[.int .u32 y.1,.slice a1 y.2.length k1] 62))=w2 at *
 have hEw:Ext w w2:=(((Upd.refl _ _).drew).trans hE1).trans hE2
 obtain ⟨css,hown,hall⟩:=(hg.ext hEw).ex
 have hcl:=hall.1
 have hx2:TagC (fun b=>OK b∧b≠tb∧¬ ownB (.slice av done.length kv) b) w2 y [.int .u32 y.1,.slice a1 y.2.length k1]:=⟨_,rfl,(hB1.keep (hE2.keeps _)).weaken fun b _ hk=>⟨hOK b (by omega),by omega,hnb b (.inr hk)⟩,hy⟩
 refine wp_append ap_35_35 (m:=1) (news:=[.int .u32 y.1,.slice a1 y.2.length k1]) (n:=css.length) (cs:=css.flatten) (v:=.slice av done.length kv) ?_ rfl hown.1 hall.flat_cells (Src.blk (fr:=(0,0)) (T:=62) hn2 rfl rfl) ?_ ?_ ?_
 ·first|rfl|simp (disch:=(first|omega|(simp only [qI,qJ,qK]<;>omega)|exact qL _)) only [go_sem]
 ·omega
 ·omega
 intro v' w3 ho hu hfr
 have hg3:=GrowU.snoc hown hall hx2 hu hfr ho
 obtain ⟨va,vc,hv',_⟩:=ho.shape
 subst hv'
 have hP3:=hP2.trans hu
 have hs3:=hu.size
 have eD:=hP3.blk_some (show blk w.drew tb=_ from hbt) (hnb _ (.inl htb))
 have hne:¬ ownB (.slice va (css.length+1) vc) tb:=fun h=>(hfr _ h).elim (hnb _ (.inl htb)) (fun h=>by omega)
 refine ⟨hP3,?_⟩
 simp (disch:=(first|omega|(simp only [qI,qJ,qK]<;>omega)|exact qL _|(refine hnb _ ?_;first|omega|(simp only [World.size_alloc,size_wr,size_drew]<;>omega)))) only [go_sem,eD]
 repeat ((first|refine qA ?_|apply qB|refine qC ?_|apply qD|apply qE|apply qF|apply qG|apply qH);try simp (disch:=(first|omega|(simp only [qI,qJ,qK]<;>omega)|exact qL _)) only [go_sem])
 refine ⟨⟨.slice va (css.length+1) vc,by first|(rw [blk_wr_eq,eD];rfl)|rfl|(rw [eD];rfl)|(rw [blk_wr_eq,eD]),hg3.upd ((Upd.refl _ _).wr _ _ (.inr rfl)) hne⟩,?_⟩
 refine Upd.wr ?_ _ _ (.inr (.inl rfl))
 exact (((Upd.refl (fun b=>b=tb∨B≤b) w).drew).trans (hP3.mono fun b h=>.inr (hg.above h)))

set_option maxHeartbeats 4000000 in
theorem tellQ_fn {d:Nat} {ok:Blocks} (t:Tree) (cs:List Value) (w:World) {b:Nat} {x:Blk} (hb:blk w b=some x) (hq:∀ k,k < 15→x.1[1+k]? = cs[k]?) (hR:RepS true (d+3) fs_Q ok w t cs) (hg:GoodP (d+3) fs_Q t) :
  Fn Tryz.prog 21 #[.pointer (some ⟨b,0,none⟩)] w fun r w'=>(∃ c,r = .agg c.toArray∧TreeC (fun b=>w.heap.size≤b) w' (tlP (d+3) fs_Q t) c)∧Ext w w':=by
 have hbl:=blk_lt hb
 obtain ⟨⟨gd0,gd1,gd2,gd3,gd4,gd5,gd6,gd7,gd8,gd9,gd10,gd11,-⟩,hgu⟩:=hg
 replace gd0:GoodF (GoodP (d+2)) fQ_0 (t.at 0):=gd0
 replace gd1:GoodF (GoodP (d+2)) fQ_1 (t.at 1):=gd1
 replace gd2:GoodF (GoodP (d+2)) fQ_2 (t.at 2):=gd2
 replace gd3:GoodF (GoodP (d+2)) fQ_3 (t.at 3):=gd3
 replace gd4:GoodF (GoodP (d+2)) fQ_4 (t.at 4):=gd4
 replace gd5:GoodF (GoodP (d+2)) fQ_5 (t.at 5):=gd5
 replace gd6:GoodF (GoodP (d+2)) fQ_6 (t.at 6):=gd6
 replace gd7:GoodF (GoodP (d+2)) fQ_7 (t.at 7):=gd7
 replace gd8:GoodF (GoodP (d+2)) fQ_8 (t.at 8):=gd8
 replace gd9:GoodF (GoodP (d+2)) fQ_9 (t.at 9):=gd9
 replace gd10:GoodF (GoodP (d+2)) fQ_10 (t.at 10):=gd10
 replace gd11:GoodF (GoodP (d+2)) fQ_11 (t.at 11):=gd11
 obtain ⟨cs0,q,hcs,hL,hT⟩:=hR.inv
 obtain ⟨c0,e0,rfl,h0,c1,e1,rfl,h1,c2,e2,rfl,h2,c3,e3,rfl,h3,c4,e4,rfl,h4,c5,e5,rfl,h5,c6,e6,rfl,h6,c7,e7,rfl,h7,c8,e8,rfl,h8,c9,e9,rfl,h9,c10,e10,rfl,h10,c11,e11,rfl,h11,rfl⟩:=hL
 replace h0:RepF (RepS true (d+2)) (szS true (d+2)) fQ_0 ok w (t.at 0) c0:=h0
 replace h1:RepF (RepS true (d+2)) (szS true (d+2)) fQ_1 ok w (t.at 1) c1:=h1
 replace h2:RepF (RepS true (d+2)) (szS true (d+2)) fQ_2 ok w (t.at 2) c2:=h2
 replace h3:RepF (RepS true (d+2)) (szS true (d+2)) fQ_3 ok w (t.at 3) c3:=h3
 replace h4:RepF (RepS true (d+2)) (szS true (d+2)) fQ_4 ok w (t.at 4) c4:=h4
 replace h5:RepF (RepS true (d+2)) (szS true (d+2)) fQ_5 ok w (t.at 5) c5:=h5
 replace h6:RepF (RepS true (d+2)) (szS true (d+2)) fQ_6 ok w (t.at 6) c6:=h6
 replace h7:RepF (RepS true (d+2)) (szS true (d+2)) fQ_7 ok w (t.at 7) c7:=h7
 replace h8:RepF (RepS true (d+2)) (szS true (d+2)) fQ_8 ok w (t.at 8) c8:=h8
 replace h9:RepF (RepS true (d+2)) (szS true (d+2)) fQ_9 ok w (t.at 9) c9:=h9
 replace h10:RepF (RepS true (d+2)) (szS true (d+2)) fQ_10 ok w (t.at 10) c10:=h10
 replace h11:RepF (RepS true (d+2)) (szS true (d+2)) fQ_11 ok w (t.at 11) c11:=h11
 obtain ⟨p0,rfl,hp0⟩:=(RepF_ptr rfl (by decide)).1 h0
 obtain ⟨ap0,rfl⟩:=hp0.shape
 obtain rfl:=(RepF_num (by decide)).1 h1
 have hp2:RepS true (d+2) fs_X2 ok w (t.at 2) c2:=(RepF_part rfl (by decide)).1 h2
 have fK:c2.length=3:=((RepS_lay true (d+2) fs_X2).flat hp2).2
 obtain ⟨zp2_0,zp2_1,zp2_2,rfl⟩:∃ zp2_0 zp2_1 zp2_2,c2=[zp2_0,zp2_1,zp2_2]:=by
  match c2,fK with
  | [zp2_0,zp2_1,zp2_2],_=>exact ⟨_,_,_,rfl⟩
 obtain rfl:=(RepF_num (by decide)).1 h3
 obtain rfl:=(RepF_num (by decide)).1 h4
 obtain rfl:=(RepF_num (by decide)).1 h5
 obtain rfl:=(RepF_num (by decide)).1 h6
 obtain rfl:=(RepF_num (by decide)).1 h7
 obtain rfl:=(RepF_num (by decide)).1 h8
 obtain ⟨ab9,ac9,L9,rfl,hL9,MC,hs9⟩:=RepF_listT rfl h9
 have LL:=gd9.listL rfl hL9
 obtain ⟨ab10,ac10,L10,rfl,EM,MB,xY⟩:=RepF_listT rfl h10
 have LK:=gd10.listL rfl EM
 obtain rfl:=(RepF_text rfl (by decide)).1 h11
 obtain ⟨qm,rfl⟩:=hT.shape
 subst hcs
 have hq0:x.1[1]? = some (.pointer ap0):=hq 0 (by decide)
 have hq1:x.1[2]? = some (.int .i32 (IntKind.i32.wrap (t.at 1).n)):=hq 1 (by decide)
 have hq2:x.1[3]? = some (zp2_0):=hq 2 (by decide)
 have hq3:x.1[4]? = some (zp2_1):=hq 3 (by decide)
 have hq4:x.1[5]? = some (zp2_2):=hq 4 (by decide)
 have hq5:x.1[6]? = some (.int .i32 (IntKind.i32.wrap (t.at 3).n)):=hq 5 (by decide)
 have hq6:x.1[7]? = some (.int .i32 (IntKind.i32.wrap (t.at 4).n)):=hq 6 (by decide)
 have hq7:x.1[8]? = some (.int .i32 (IntKind.i32.wrap (t.at 5).n)):=hq 7 (by decide)
 have hq8:x.1[9]? = some (.int .i8 (IntKind.i8.wrap (t.at 6).n)):=hq 8 (by decide)
 have hq9:x.1[10]? = some (.int .i32 (IntKind.i32.wrap (t.at 7).n)):=hq 9 (by decide)
 have gR:x.1[11]? = some (.int .i32 (IntKind.i32.wrap (t.at 8).n)):=hq 10 (by decide)
 have eC:x.1[12]? = some (.slice ab9 L9.length ac9):=hq 11 (by decide)
 have dT:x.1[13]? = some (.slice ab10 L10.length ac10):=hq 12 (by decide)
 have lD:x.1[14]? = some (strV (t.at 11).s):=hq 13 (by decide)
 have lU:x.1[15]? = some (.map qm):=hq 14 (by decide)
 refine fn_of_W Tryz.func21 rfl Tryz.results21 Tryz.ntmps21 rfl ?_
 repeat ((first|refine qA ?_|apply qB|refine qC ?_|apply qD|apply qE|apply qF|apply qG|apply qH);try simp (disch:=(first|omega|(simp only [qI,qJ,qK]<;>omega)|exact qL _)) only [go_sem])
 refine wp_make (T:=34) (E:=37) (size:=5) (bytes:=88) (z:=.agg qZ5) (l:=12) (c:=12) (kl:=.i64) (kc:=.i64) (by kernel_rfl) (by kernel_rfl) (by first|rfl|(simp (disch:=(first|omega|(simp only [qI,qJ,qK]<;>omega)|exact qL _)) only [go_sem];rfl)) (by first|rfl|(simp (disch:=(first|omega|(simp only [qI,qJ,qK]<;>omega)|exact qL _)) only [go_sem];rfl)) (by omega) (by omega) (by omega) ?_
 have hmd:madeCells (Value.agg qZ5).cells (12 * 5)=(zs ZT 12).toArray:=by kernel_rfl
 rw [hmd]
 simp (disch:=(first|omega|(simp only [qI,qJ,qK]<;>omega)|exact qL _)) only [go_sem]
 repeat ((first|refine qA ?_|apply qB|refine qC ?_|apply qD|apply qE|apply qF|apply qG|apply qH);try simp (disch:=(first|omega|(simp only [qI,qJ,qK]<;>omega)|exact qL _)) only [go_sem])
 have hE1:Ext w (wr (((w.alloc (.cells qZ5 37)).alloc (.cells ((zs ZT 12).toArray) 37)).alloc (.cells qZ5 37)) (w.heap.size+2) 0 [zI,zS,zB,.slice (some ⟨w.heap.size+1,0,none⟩) 12 12,zS]):=(Upd.alloc (Upd.alloc (Upd.alloc (Upd.refl _ _) _) _) _).wr _ _ (.inl (by omega))
 have hz1:(wr (((w.alloc (.cells qZ5 37)).alloc (.cells ((zs ZT 12).toArray) 37)).alloc (.cells qZ5 37)) (w.heap.size+2) 0 [zI,zS,zB,.slice (some ⟨w.heap.size+1,0,none⟩) 12 12,zS]).heap.size=w.heap.size+3:=by simp only [size_wr,World.size_alloc]
 have hl1:blk (wr (((w.alloc (.cells qZ5 37)).alloc (.cells ((zs ZT 12).toArray) 37)).alloc (.cells qZ5 37)) (w.heap.size+2) 0 [zI,zS,zB,.slice (some ⟨w.heap.size+1,0,none⟩) 12 12,zS]) (w.heap.size+1)=some ((zs ZT 12).toArray,37,(0,0)):=by simp (disch:=(first|omega|(simp only [qI,qJ,qK]<;>omega)|exact qL _)) only [go_sem]
 have ht1:blk (wr (((w.alloc (.cells qZ5 37)).alloc (.cells ((zs ZT 12).toArray) 37)).alloc (.cells qZ5 37)) (w.heap.size+2) 0 [zI,zS,zB,.slice (some ⟨w.heap.size+1,0,none⟩) 12 12,zS]) (w.heap.size+2)=some (#[zI,zS,zB,.slice (some ⟨w.heap.size+1,0,none⟩) 12 12,zS],37,(0,0)):=by simp (disch:=(first|omega|(simp only [qI,qJ,qK]<;>omega)|exact qL _)) only [go_sem]
 have hr1:blk (wr (((w.alloc (.cells qZ5 37)).alloc (.cells ((zs ZT 12).toArray) 37)).alloc (.cells qZ5 37)) (w.heap.size+2) 0 [zI,zS,zB,.slice (some ⟨w.heap.size+1,0,none⟩) 12 12,zS]) w.heap.size=some (qZ5,37,(0,0)):=by simp (disch:=(first|omega|(simp only [qI,qJ,qK]<;>omega)|exact qL _)) only [go_sem]
 obtain ⟨w1,hw1⟩:∃ y,y=(wr (((w.alloc (.cells qZ5 37)).alloc (.cells ((zs ZT 12).toArray) 37)).alloc (.cells qZ5 37)) (w.heap.size+2) 0 [zI,zS,zB,.slice (some ⟨w.heap.size+1,0,none⟩) 12 12,zS]):=⟨_,rfl⟩
 rw [← hw1] at hE1 hz1 hl1 ht1 hr1
 rw [← hw1]
 clear hw1
 have hU1:Upd (fun b=>b=w.heap.size+1∨b=w.heap.size+2) w1 w1:=Upd.refl _ _
 have hb1:=hE1.blk_some hb id
 have hJ0:TJ (fun b=>w1.heap.size≤b) (w.heap.size+1) 37 12 0 [] w1:=TJ.start hl1
 obtain ⟨A0,B0,hA0,hl1,lS⟩:=hJ0.next (by decide)
 replace hA0:A0.length=0:=hA0
 obtain ⟨Y1,hY1,dJ,AV⟩:=el_open (n:=5) hl1 hA0 rfl
 have eG:5≤Y1.size:=by omega
 repeat ((first|refine qA ?_|apply qB|refine qC ?_|apply qD|apply qE|apply qF|apply qG|apply qH);try simp (disch:=(first|omega|(simp only [qI,qJ,qK]<;>omega)|exact qL _)) only [go_sem,hb1,ht1,hq0,dJ,eG])
 refine W.drawR (.take 0 (.take 1 (.take 2 (.take 3 (.take 4 (.take 5 (.only 6 (.take 7 (.last 8))))))))) (NoB) mixed (by kernel_rfl) ?_
 try simp (disch:=(first|omega|(simp only [qI,qJ,qK]<;>omega)|exact qL _)) only [go_sem,hb1,ht1,hq0,dJ,eG]
 refine (textTree_fn (ok:=ok) _ (t.at 0).null (t.at 0).s w1.drew (hp0.keep (Ext.keeps (hE1.drew) _))).mono ?_
 rintro _ w2 ⟨⟨vS2,rfl,hB2⟩,mI⟩
 have hfl2:=hB2.flat
 have hP2:Upd NoB w1.drew w2:=(Upd.refl _ _).trans (mI.mono fun _ h=>h.elim)
 have y6:=mI.size
 try simp only [size_drew] at y6
 refine ⟨hP2,?_⟩
 try simp (disch:=(first|omega|(simp only [qI,qJ,qK]<;>omega)|exact qL _)) only [go_sem,hb1,ht1,hq0,dJ,eG,hfl2]
 have fM:=hP2.blk_some (show blk w1.drew (w.heap.size+1)=_ from dJ) id
 have hx3:Upd (fun b=>b=w.heap.size+1∨b=w.heap.size+2) w1 w2:=((Upd.refl _ _).drew).trans (hP2.mono fun _ h=>h.elim)
 try simp (disch:=(first|omega|(simp only [qI,qJ,qK]<;>omega)|exact qL _)) only [go_sem,fM,eG]
 rw [hY1] at fM
 generalize hw3:wr w2 (w.heap.size+1) 0 [zI,vS2,.bool (t.at 0).null,zS,zS] = w3
 have hl3:blk w3 (w.heap.size+1)=some (((A0++(([zI,vS2,.bool (t.at 0).null,zS,zS]:List Value)++B0)).toArray),37,(0,0)):=by rw [← hw3];exact el_blk0 fM hA0 (Nat.le_of_ble_eq_true rfl)
 have hv3:Upd (fun b=>b=w.heap.size+1∨b=w.heap.size+2) w2 w3:=by rw [← hw3];exact (Upd.refl _ _).wr _ _ (.inr (.inl rfl))
 have hV3:Upd (fun b=>b=w.heap.size+1∨b=w.heap.size+2) w1 w3:=hx3.trans hv3
 have hU3:Upd (fun b=>b=w.heap.size+1∨b=w.heap.size+2) w1 w3:=hU1.trans hV3
 have hz3:=hU3.size
 have hX3:Ext w w3:=hE1.more hU3 fun b hb h=>by omega
 have hb3:=hX3.blk_some hb id
 have ht3:blk w3 (w.heap.size+2)=some (#[zI,zS,zB,.slice (some ⟨w.heap.size+1,0,none⟩) 12 12,zS],37,(0,0)):=by
  rw [← hw3,blk_wr_ne (by omega)]
  exact hP2.blk_some (show blk w1.drew (w.heap.size+2)=_ from ht1) id
 clear hw3
 have hf0:TreeC (fun b=>w1.heap.size≤b) w3 (.oct (t.at 0).null (if (t.at 0).null=true then [] else (t.at 0).s)) [zI,vS2,.bool (t.at 0).null,zS,zS]:=(TreeC.keep (hv3.keeps fun b hb hk e=>by have hk':w1.heap.size≤b:=hk;omega) (TreeC.intro rfl (hB2.weaken fun b _ hk=>by have hk':w1.drew.heap.size≤b:=hk;(try simp only [size_drew] at hk');omega) (treesN _ _) (tagsN _ _):TreeC (fun b=>w1.heap.size≤b) w2 (.oct (t.at 0).null (if (t.at 0).null=true then [] else (t.at 0).s)) [zI,vS2,.bool (t.at 0).null,zS,zS]))
 have hJ1:=lS w3 _ (tlF (tlP (d+2)) fQ_0 (t.at 0)) rfl hl3 (hf0) ((hV3).keeps fun b hb hk e=>by have hk':w1.heap.size≤b:=hk;omega)
 obtain ⟨A1,B1,hA1,hl3,lT⟩:=hJ1.next (by decide)
 replace hA1:A1.length=5:=hA1
 obtain ⟨Y3,hY3,eI,FU⟩:=el_open (n:=5) hl3 hA1 rfl
 have iO:10≤Y3.size:=by omega
 repeat ((first|refine qA ?_|apply qB|refine qC ?_|apply qD|apply qE|apply qF|apply qG|apply qH);try simp (disch:=(first|omega|(simp only [qI,qJ,qK]<;>omega)|exact qL _)) only [go_sem,hb3,ht3,hq1,eI,iO])
 refine W.drawR (.take 0 (.take 1 (.take 2 (.take 3 (.take 4 (.take 5 (.take 6 (.only 7 (.take 8 (.last 9)))))))))) (NoB) mixed (by kernel_rfl) ?_
 try simp (disch:=(first|omega|(simp only [qI,qJ,qK]<;>omega)|exact qL _)) only [go_sem,hb3,ht3,hq1,eI,iO,tl32]
 refine ⟨Upd.refl _ _,?_⟩
 have xC:blk w3.drew (w.heap.size+1)=_:=eI
 have hx4:Upd (fun b=>b=w.heap.size+1∨b=w.heap.size+2) w3 w3.drew:=(Upd.refl _ _).drew
 rw [hY3] at xC
 generalize hw4:wr w3.drew (w.heap.size+1) 5 [.int .i64 (IntKind.i32.wrap (t.at 1).n),zS,zB,zS,zS] = w4
 have hl4:blk w4 (w.heap.size+1)=some (((A1++(([.int .i64 (IntKind.i32.wrap (t.at 1).n),zS,zB,zS,zS]:List Value)++B1)).toArray),37,(0,0)):=by rw [← hw4];exact el_blk0 xC hA1 (Nat.le_of_ble_eq_true rfl)
 have hv4:Upd (fun b=>b=w.heap.size+1∨b=w.heap.size+2) w3.drew w4:=by rw [← hw4];exact (Upd.refl _ _).wr _ _ (.inr (.inl rfl))
 have hV4:Upd (fun b=>b=w.heap.size+1∨b=w.heap.size+2) w3 w4:=hx4.trans hv4
 have hU4:Upd (fun b=>b=w.heap.size+1∨b=w.heap.size+2) w1 w4:=hU3.trans hV4
 have hz4:=hU4.size
 have hX4:Ext w w4:=hE1.more hU4 fun b hb h=>by omega
 have hb4:=hX4.blk_some hb id
 have ht4:blk w4 (w.heap.size+2)=some (#[zI,zS,zB,.slice (some ⟨w.heap.size+1,0,none⟩) 12 12,zS],37,(0,0)):=by
  rw [← hw4,blk_wr_ne (by omega)]
  exact ht3
 clear hw4
 have hf1:TreeC (fun b=>w1.heap.size≤b) w4 (.num (IntKind.i32.wrap (t.at 1).n)) [.int .i64 (IntKind.i32.wrap (t.at 1).n),zS,zB,zS,zS]:=(TreeC.keep (hv4.keeps fun b hb hk e=>by have hk':w1.heap.size≤b:=hk;omega) (TreeC.intro (tl32 _) (BytesV.nil _ _) (treesN _ _) (tagsN _ _):TreeC (fun b=>w1.heap.size≤b) w3.drew (.num (IntKind.i32.wrap (t.at 1).n)) [.int .i64 (IntKind.i32.wrap (t.at 1).n),zS,zB,zS,zS]))
 have hJ2:=lT w4 _ (tlF (tlP (d+2)) fQ_1 (t.at 1)) rfl hl4 (hf1) ((hV4).keeps fun b hb hk e=>by have hk':w1.heap.size≤b:=hk;omega)
 obtain ⟨A2,B2,hA2,hl4,qO⟩:=hJ2.next (by decide)
 replace hA2:A2.length=10:=hA2
 obtain ⟨Y4,hY4,mW,VA⟩:=el_open (n:=5) hl4 hA2 rfl
 have t6:15≤Y4.size:=by omega
 repeat ((first|refine qA ?_|apply qB|refine qC ?_|apply qD|apply qE|apply qF|apply qG|apply qH);try simp (disch:=(first|omega|(simp only [qI,qJ,qK]<;>omega)|exact qL _)) only [go_sem,hb4,ht4,mW,t6])
 refine W.drawR (.take 0 (.take 1 (.take 2 (.take 3 (.take 4 (.only 5 (.take 6 (.last 7)))))))) (NoB) mixed (by kernel_rfl) ?_
 try simp (disch:=(first|omega|(simp only [qI,qJ,qK]<;>omega)|exact qL _)) only [go_sem,hb4,ht4,mW,t6]
 have VI:blk w4.drew b=some x:=hb4
 have YS:∀ k,k < 3→x.1[3+k]? = ([zp2_0,zp2_1,zp2_2]:List Value)[k]?:=fun k hk=>by
  rw [show 3+k=1+(2+k) from by omega]
  exact (hq (2+k) (by omega)).trans (get_mid (pre:=[.pointer ap0,.int .i32 (IntKind.i32.wrap (t.at 1).n)]) (xs:=[zp2_0,zp2_1,zp2_2]) (post:=[.int .i32 (IntKind.i32.wrap (t.at 3).n),.int .i32 (IntKind.i32.wrap (t.at 4).n),.int .i32 (IntKind.i32.wrap (t.at 5).n),.int .i8 (IntKind.i8.wrap (t.at 6).n),.int .i32 (IntKind.i32.wrap (t.at 7).n),.int .i32 (IntKind.i32.wrap (t.at 8).n),.slice ab9 L9.length ac9,.slice ab10 L10.length ac10,strV (t.at 11).s,.map qm]) hk)
 refine (tellX2_fn (d:=d+1) (ok:=ok) (t.at 2) [zp2_0,zp2_1,zp2_2] w4.drew (b:=b) (o:=3) VI YS ((RepS_lay true _ _).keep hp2 (Ext.keeps (hX4.drew) _)) ((gd2.one (by decide)).2.2 rfl)).mono ?_
 rintro _ w5 ⟨⟨c5,rfl,hc5⟩,J4⟩
 obtain ⟨T5,hT5⟩:∃ T,T=tlP (d+2) fs_X2 (t.at 2):=⟨_,rfl⟩
 replace hc5:TreeC (fun b=>w4.drew.heap.size≤b) w5 T5 c5:=by rw [hT5];exact hc5
 obtain ⟨vS5,vL5,vU5,rfl,hn5,hS5,SF,U8⟩:=hc5.inv
 have k1_5:=hS5.flat
 have k2_5:=SlR.flat SF
 have k3_5:=SlR.flat U8
 have hP5:Upd NoB w4.drew w5:=(Upd.refl _ _).trans (J4.mono fun _ h=>h.elim)
 have ZL:=J4.size
 try simp only [size_drew] at ZL
 refine ⟨hP5,?_⟩
 try simp (disch:=(first|omega|(simp only [qI,qJ,qK]<;>omega)|exact qL _)) only [go_sem,hb4,ht4,mW,t6,k1_5,k2_5,k3_5]
 have u3:=hP5.blk_some (show blk w4.drew (w.heap.size+1)=_ from mW) id
 have hx6:Upd (fun b=>b=w.heap.size+1∨b=w.heap.size+2) w4 w5:=((Upd.refl _ _).drew).trans (hP5.mono fun _ h=>h.elim)
 try simp (disch:=(first|omega|(simp only [qI,qJ,qK]<;>omega)|exact qL _)) only [go_sem,u3,t6]
 rw [hY4] at u3
 generalize hw6:wr w5 (w.heap.size+1) 10 [.int .i64 T5.n,vS5,.bool T5.null,vL5,vU5] = w6
 have hl6:blk w6 (w.heap.size+1)=some (((A2++(([.int .i64 T5.n,vS5,.bool T5.null,vL5,vU5]:List Value)++B2)).toArray),37,(0,0)):=by rw [← hw6];exact el_blk0 u3 hA2 (Nat.le_of_ble_eq_true rfl)
 have hv6:Upd (fun b=>b=w.heap.size+1∨b=w.heap.size+2) w5 w6:=by rw [← hw6];exact (Upd.refl _ _).wr _ _ (.inr (.inl rfl))
 have hV6:Upd (fun b=>b=w.heap.size+1∨b=w.heap.size+2) w4 w6:=hx6.trans hv6
 have hU6:Upd (fun b=>b=w.heap.size+1∨b=w.heap.size+2) w1 w6:=hU4.trans hV6
 have hz6:=hU6.size
 have hX6:Ext w w6:=hE1.more hU6 fun b hb h=>by omega
 have hb6:=hX6.blk_some hb id
 have ht6:blk w6 (w.heap.size+2)=some (#[zI,zS,zB,.slice (some ⟨w.heap.size+1,0,none⟩) 12 12,zS],37,(0,0)):=by
  rw [← hw6,blk_wr_ne (by omega)]
  exact hP5.blk_some (show blk w4.drew (w.heap.size+2)=_ from ht4) id
 clear hw6
 have hf2:TreeC (fun b=>w1.heap.size≤b) w6 T5 [.int .i64 T5.n,vS5,.bool T5.null,vL5,vU5]:=(TreeC.keep (hv6.keeps fun b hb hk e=>by have hk':w1.heap.size≤b:=hk;omega) (TreeC.weaken (fun b _ hk=>by have hk':w4.drew.heap.size≤b:=hk;(try simp only [size_drew] at hk');omega) hc5:TreeC (fun b=>w1.heap.size≤b) w5 T5 [.int .i64 T5.n,vS5,.bool T5.null,vL5,vU5]))
 subst hT5
 have hJ3:=qO w6 _ (tlF (tlP (d+2)) fQ_2 (t.at 2)) rfl hl6 (hf2) ((hV6).keeps fun b hb hk e=>by have hk':w1.heap.size≤b:=hk;omega)
 obtain ⟨A3,B3,hA3,hl6,H4⟩:=hJ3.next (by decide)
 replace hA3:A3.length=15:=hA3
 obtain ⟨Y6,hY6,kF,FV⟩:=el_open (n:=5) hl6 hA3 rfl
 have m7:20≤Y6.size:=by omega
 repeat ((first|refine qA ?_|apply qB|refine qC ?_|apply qD|apply qE|apply qF|apply qG|apply qH);try simp (disch:=(first|omega|(simp only [qI,qJ,qK]<;>omega)|exact qL _)) only [go_sem,hb6,ht6,hq5,kF,m7])
 refine W.drawR (.take 0 (.take 1 (.take 2 (.take 3 (.take 4 (.take 5 (.take 6 (.only 7 (.take 8 (.last 9)))))))))) (NoB) mixed (by kernel_rfl) ?_
 try simp (disch:=(first|omega|(simp only [qI,qJ,qK]<;>omega)|exact qL _)) only [go_sem,hb6,ht6,hq5,kF,m7,tl32]
 refine ⟨Upd.refl _ _,?_⟩
 have xD:blk w6.drew (w.heap.size+1)=_:=kF
 have hx7:Upd (fun b=>b=w.heap.size+1∨b=w.heap.size+2) w6 w6.drew:=(Upd.refl _ _).drew
 rw [hY6] at xD
 generalize hw7:wr w6.drew (w.heap.size+1) 15 [.int .i64 (IntKind.i32.wrap (t.at 3).n),zS,zB,zS,zS] = w7
 have hl7:blk w7 (w.heap.size+1)=some (((A3++(([.int .i64 (IntKind.i32.wrap (t.at 3).n),zS,zB,zS,zS]:List Value)++B3)).toArray),37,(0,0)):=by rw [← hw7];exact el_blk0 xD hA3 (Nat.le_of_ble_eq_true rfl)
 have hv7:Upd (fun b=>b=w.heap.size+1∨b=w.heap.size+2) w6.drew w7:=by rw [← hw7];exact (Upd.refl _ _).wr _ _ (.inr (.inl rfl))
 have hV7:Upd (fun b=>b=w.heap.size+1∨b=w.heap.size+2) w6 w7:=hx7.trans hv7
 have hU7:Upd (fun b=>b=w.heap.size+1∨b=w.heap.size+2) w1 w7:=hU6.trans hV7
 have hz7:=hU7.size
 have hX7:Ext w w7:=hE1.more hU7 fun b hb h=>by omega
 have hb7:=hX7.blk_some hb id
 have ht7:blk w7 (w.heap.size+2)=some (#[zI,zS,zB,.slice (some ⟨w.heap.size+1,0,none⟩) 12 12,zS],37,(0,0)):=by
  rw [← hw7,blk_wr_ne (by omega)]
  exact ht6
 clear hw7
 have hf3:TreeC (fun b=>w1.heap.size≤b) w7 (.num (IntKind.i32.wrap (t.at 3).n)) [.int .i64 (IntKind.i32.wrap (t.at 3).n),zS,zB,zS,zS]:=(TreeC.keep (hv7.keeps fun b hb hk e=>by have hk':w1.heap.size≤b:=hk;omega) (TreeC.intro (tl32 _) (BytesV.nil _ _) (treesN _ _) (tagsN _ _):TreeC (fun b=>w1.heap.size≤b) w6.drew (.num (IntKind.i32.wrap (t.at 3).n)) [.int .i64 (IntKind.i32.wrap (t.at 3).n),zS,zB,zS,zS]))
 have hJ4:=H4 w7 _ (tlF (tlP (d+2)) fQ_3 (t.at 3)) rfl hl7 (hf3) ((hV7).keeps fun b hb hk e=>by have hk':w1.heap.size≤b:=hk;omega)
 obtain ⟨A4,B4,hA4,hl7,H5⟩:=hJ4.next (by decide)
 replace hA4:A4.length=20:=hA4
 obtain ⟨Y7,hY7,fB,FW⟩:=el_open (n:=5) hl7 hA4 rfl
 have cE:25≤Y7.size:=by omega
 repeat ((first|refine qA ?_|apply qB|refine qC ?_|apply qD|apply qE|apply qF|apply qG|apply qH);try simp (disch:=(first|omega|(simp only [qI,qJ,qK]<;>omega)|exact qL _)) only [go_sem,hb7,ht7,hq6,fB,cE])
 refine W.drawR (.take 0 (.take 1 (.take 2 (.take 3 (.take 4 (.take 5 (.take 6 (.only 7 (.take 8 (.last 9)))))))))) (NoB) mixed (by kernel_rfl) ?_
 try simp (disch:=(first|omega|(simp only [qI,qJ,qK]<;>omega)|exact qL _)) only [go_sem,hb7,ht7,hq6,fB,cE,tl32]
 refine ⟨Upd.refl _ _,?_⟩
 have M8:blk w7.drew (w.heap.size+1)=_:=fB
 have hx8:Upd (fun b=>b=w.heap.size+1∨b=w.heap.size+2) w7 w7.drew:=(Upd.refl _ _).drew
 rw [hY7] at M8
 generalize hw8:wr w7.drew (w.heap.size+1) 20 [.int .i64 (IntKind.i32.wrap (t.at 4).n),zS,zB,zS,zS] = w8
 have hl8:blk w8 (w.heap.size+1)=some (((A4++(([.int .i64 (IntKind.i32.wrap (t.at 4).n),zS,zB,zS,zS]:List Value)++B4)).toArray),37,(0,0)):=by rw [← hw8];exact el_blk0 M8 hA4 (Nat.le_of_ble_eq_true rfl)
 have hv8:Upd (fun b=>b=w.heap.size+1∨b=w.heap.size+2) w7.drew w8:=by rw [← hw8];exact (Upd.refl _ _).wr _ _ (.inr (.inl rfl))
 have hV8:Upd (fun b=>b=w.heap.size+1∨b=w.heap.size+2) w7 w8:=hx8.trans hv8
 have hU8:Upd (fun b=>b=w.heap.size+1∨b=w.heap.size+2) w1 w8:=hU7.trans hV8
 have hz8:=hU8.size
 have hX8:Ext w w8:=hE1.more hU8 fun b hb h=>by omega
 have hb8:=hX8.blk_some hb id
 have ht8:blk w8 (w.heap.size+2)=some (#[zI,zS,zB,.slice (some ⟨w.heap.size+1,0,none⟩) 12 12,zS],37,(0,0)):=by
  rw [← hw8,blk_wr_ne (by omega)]
  exact ht7
 clear hw8
 have hf4:TreeC (fun b=>w1.heap.size≤b) w8 (.num (IntKind.i32.wrap (t.at 4).n)) [.int .i64 (IntKind.i32.wrap (t.at 4).n),zS,zB,zS,zS]:=(TreeC.keep (hv8.keeps fun b hb hk e=>by have hk':w1.heap.size≤b:=hk;omega) (TreeC.intro (tl32 _) (BytesV.nil _ _) (treesN _ _) (tagsN _ _):TreeC (fun b=>w1.heap.size≤b) w7.drew (.num (IntKind.i32.wrap (t.at 4).n)) [.int .i64 (IntKind.i32.wrap (t.at 4).n),zS,zB,zS,zS]))
 have hJ5:=H5 w8 _ (tlF (tlP (d+2)) fQ_4 (t.at 4)) rfl hl8 (hf4) ((hV8).keeps fun b hb hk e=>by have hk':w1.heap.size≤b:=hk;omega)
 obtain ⟨A5,B5,hA5,hl8,H6⟩:=hJ5.next (by decide)
 replace hA5:A5.length=25:=hA5
 obtain ⟨Y8,hY8,hlb8,hYs8⟩:=el_open (n:=5) hl8 hA5 rfl
 have NM:30≤Y8.size:=by omega
 repeat ((first|refine qA ?_|apply qB|refine qC ?_|apply qD|apply qE|apply qF|apply qG|apply qH);try simp (disch:=(first|omega|(simp only [qI,qJ,qK]<;>omega)|exact qL _)) only [go_sem,hb8,ht8,hq7,hlb8,NM])
 refine W.drawR (.take 0 (.take 1 (.take 2 (.take 3 (.take 4 (.take 5 (.take 6 (.only 7 (.take 8 (.last 9)))))))))) (NoB) mixed (by kernel_rfl) ?_
 try simp (disch:=(first|omega|(simp only [qI,qJ,qK]<;>omega)|exact qL _)) only [go_sem,hb8,ht8,hq7,hlb8,NM,tl32]
 refine ⟨Upd.refl _ _,?_⟩
 have u4:blk w8.drew (w.heap.size+1)=_:=hlb8
 have hx9:Upd (fun b=>b=w.heap.size+1∨b=w.heap.size+2) w8 w8.drew:=(Upd.refl _ _).drew
 rw [hY8] at u4
 generalize hw9:wr w8.drew (w.heap.size+1) 25 [.int .i64 (IntKind.i32.wrap (t.at 5).n),zS,zB,zS,zS] = w9
 have hl9:blk w9 (w.heap.size+1)=some (((A5++(([.int .i64 (IntKind.i32.wrap (t.at 5).n),zS,zB,zS,zS]:List Value)++B5)).toArray),37,(0,0)):=by rw [← hw9];exact el_blk0 u4 hA5 (Nat.le_of_ble_eq_true rfl)
 have hv9:Upd (fun b=>b=w.heap.size+1∨b=w.heap.size+2) w8.drew w9:=by rw [← hw9];exact (Upd.refl _ _).wr _ _ (.inr (.inl rfl))
 have hV9:Upd (fun b=>b=w.heap.size+1∨b=w.heap.size+2) w8 w9:=hx9.trans hv9
 have hU9:Upd (fun b=>b=w.heap.size+1∨b=w.heap.size+2) w1 w9:=hU8.trans hV9
 have hz9:=hU9.size
 have hX9:Ext w w9:=hE1.more hU9 fun b hb h=>by omega
 have hb9:=hX9.blk_some hb id
 have ht9:blk w9 (w.heap.size+2)=some (#[zI,zS,zB,.slice (some ⟨w.heap.size+1,0,none⟩) 12 12,zS],37,(0,0)):=by
  rw [← hw9,blk_wr_ne (by omega)]
  exact ht8
 clear hw9
 have hf5:TreeC (fun b=>w1.heap.size≤b) w9 (.num (IntKind.i32.wrap (t.at 5).n)) [.int .i64 (IntKind.i32.wrap (t.at 5).n),zS,zB,zS,zS]:=(TreeC.keep (hv9.keeps fun b hb hk e=>by have hk':w1.heap.size≤b:=hk;omega) (TreeC.intro (tl32 _) (BytesV.nil _ _) (treesN _ _) (tagsN _ _):TreeC (fun b=>w1.heap.size≤b) w8.drew (.num (IntKind.i32.wrap (t.at 5).n)) [.int .i64 (IntKind.i32.wrap (t.at 5).n),zS,zB,zS,zS]))
 have hJ6:=H6 w9 _ (tlF (tlP (d+2)) fQ_5 (t.at 5)) rfl hl9 (hf5) ((hV9).keeps fun b hb hk e=>by have hk':w1.heap.size≤b:=hk;omega)
 obtain ⟨A6,B6,hA6,hl9,H7⟩:=hJ6.next (by decide)
 replace hA6:A6.length=30:=hA6
 obtain ⟨Y9,hY9,pZ,VB⟩:=el_open (n:=5) hl9 hA6 rfl
 have y9:35≤Y9.size:=by omega
 repeat ((first|refine qA ?_|apply qB|refine qC ?_|apply qD|apply qE|apply qF|apply qG|apply qH);try simp (disch:=(first|omega|(simp only [qI,qJ,qK]<;>omega)|exact qL _)) only [go_sem,hb9,ht9,hq8,pZ,y9])
 refine W.drawR (.take 0 (.take 1 (.take 2 (.take 3 (.take 4 (.take 5 (.take 6 (.only 7 (.take 8 (.last 9)))))))))) (NoB) mixed (by kernel_rfl) ?_
 try simp (disch:=(first|omega|(simp only [qI,qJ,qK]<;>omega)|exact qL _)) only [go_sem,hb9,ht9,hq8,pZ,y9,tl8]
 refine ⟨Upd.refl _ _,?_⟩
 have qM:blk w9.drew (w.heap.size+1)=_:=pZ
 have yG:Upd (fun b=>b=w.heap.size+1∨b=w.heap.size+2) w9 w9.drew:=(Upd.refl _ _).drew
 rw [hY9] at qM
 generalize eZ:wr w9.drew (w.heap.size+1) 30 [.int .i64 (IntKind.i8.wrap (t.at 6).n),zS,zB,zS,zS] = w10
 have wV:blk w10 (w.heap.size+1)=some (((A6++(([.int .i64 (IntKind.i8.wrap (t.at 6).n),zS,zB,zS,zS]:List Value)++B6)).toArray),37,(0,0)):=by rw [← eZ];exact el_blk0 qM hA6 (Nat.le_of_ble_eq_true rfl)
 have yF:Upd (fun b=>b=w.heap.size+1∨b=w.heap.size+2) w9.drew w10:=by rw [← eZ];exact (Upd.refl _ _).wr _ _ (.inr (.inl rfl))
 have eF:Upd (fun b=>b=w.heap.size+1∨b=w.heap.size+2) w9 w10:=yG.trans yF
 have eK:Upd (fun b=>b=w.heap.size+1∨b=w.heap.size+2) w1 w10:=hU9.trans eF
 have hz10:=eK.size
 have AN:Ext w w10:=hE1.more eK fun b hb h=>by omega
 have wM:=AN.blk_some hb id
 have oI:blk w10 (w.heap.size+2)=some (#[zI,zS,zB,.slice (some ⟨w.heap.size+1,0,none⟩) 12 12,zS],37,(0,0)):=by
  rw [← eZ,blk_wr_ne (by omega)]
  exact ht9
 clear eZ
 have hf6:TreeC (fun b=>w1.heap.size≤b) w10 (.num (IntKind.i8.wrap (t.at 6).n)) [.int .i64 (IntKind.i8.wrap (t.at 6).n),zS,zB,zS,zS]:=(TreeC.keep (yF.keeps fun b hb hk e=>by have hk':w1.heap.size≤b:=hk;omega) (TreeC.intro (tl8 _) (BytesV.nil _ _) (treesN _ _) (tagsN _ _):TreeC (fun b=>w1.heap.size≤b) w9.drew (.num (IntKind.i8.wrap (t.at 6).n)) [.int .i64 (IntKind.i8.wrap (t.at 6).n),zS,zB,zS,zS]))
 have hJ7:=H7 w10 _ (tlF (tlP (d+2)) fQ_6 (t.at 6)) rfl wV (hf6) ((eF).keeps fun b hb hk e=>by have hk':w1.heap.size≤b:=hk;omega)
 obtain ⟨A7,B7,hA7,wV,H8⟩:=hJ7.next (by decide)
 replace hA7:A7.length=35:=hA7
 obtain ⟨Y10,V2,GL,hYs10⟩:=el_open (n:=5) wV hA7 rfl
 have NI:40≤Y10.size:=by omega
 repeat ((first|refine qA ?_|apply qB|refine qC ?_|apply qD|apply qE|apply qF|apply qG|apply qH);try simp (disch:=(first|omega|(simp only [qI,qJ,qK]<;>omega)|exact qL _)) only [go_sem,wM,oI,hq9,GL,NI])
 refine W.drawR (.take 0 (.take 1 (.take 2 (.take 3 (.take 4 (.take 5 (.take 6 (.only 7 (.take 8 (.last 9)))))))))) (NoB) mixed (by kernel_rfl) ?_
 try simp (disch:=(first|omega|(simp only [qI,qJ,qK]<;>omega)|exact qL _)) only [go_sem,wM,oI,hq9,GL,NI,tl32]
 refine ⟨Upd.refl _ _,?_⟩
 have BU:blk w10.drew (w.heap.size+1)=_:=GL
 have I3:Upd (fun b=>b=w.heap.size+1∨b=w.heap.size+2) w10 w10.drew:=(Upd.refl _ _).drew
 rw [V2] at BU
 generalize mB:wr w10.drew (w.heap.size+1) 35 [.int .i64 (IntKind.i32.wrap (t.at 7).n),zS,zB,zS,zS] = w11
 have tZ:blk w11 (w.heap.size+1)=some (((A7++(([.int .i64 (IntKind.i32.wrap (t.at 7).n),zS,zB,zS,zS]:List Value)++B7)).toArray),37,(0,0)):=by rw [← mB];exact el_blk0 BU hA7 (Nat.le_of_ble_eq_true rfl)
 have OI:Upd (fun b=>b=w.heap.size+1∨b=w.heap.size+2) w10.drew w11:=by rw [← mB];exact (Upd.refl _ _).wr _ _ (.inr (.inl rfl))
 have eH:Upd (fun b=>b=w.heap.size+1∨b=w.heap.size+2) w10 w11:=I3.trans OI
 have fA:Upd (fun b=>b=w.heap.size+1∨b=w.heap.size+2) w1 w11:=eK.trans eH
 have yZ:=fA.size
 have wH:Ext w w11:=hE1.more fA fun b hb h=>by omega
 have pU:=wH.blk_some hb id
 have m8:blk w11 (w.heap.size+2)=some (#[zI,zS,zB,.slice (some ⟨w.heap.size+1,0,none⟩) 12 12,zS],37,(0,0)):=by
  rw [← mB,blk_wr_ne (by omega)]
  exact oI
 clear mB
 have hf7:TreeC (fun b=>w1.heap.size≤b) w11 (.num (IntKind.i32.wrap (t.at 7).n)) [.int .i64 (IntKind.i32.wrap (t.at 7).n),zS,zB,zS,zS]:=(TreeC.keep (OI.keeps fun b hb hk e=>by have hk':w1.heap.size≤b:=hk;omega) (TreeC.intro (tl32 _) (BytesV.nil _ _) (treesN _ _) (tagsN _ _):TreeC (fun b=>w1.heap.size≤b) w10.drew (.num (IntKind.i32.wrap (t.at 7).n)) [.int .i64 (IntKind.i32.wrap (t.at 7).n),zS,zB,zS,zS]))
 have hJ8:=H8 w11 _ (tlF (tlP (d+2)) fQ_7 (t.at 7)) rfl tZ (hf7) ((eH).keeps fun b hb hk e=>by have hk':w1.heap.size≤b:=hk;omega)
 obtain ⟨A8,B8,hA8,tZ,YB⟩:=hJ8.next (by decide)
 replace hA8:A8.length=40:=hA8
 obtain ⟨Y11,V3,mV,hYs11⟩:=el_open (n:=5) tZ hA8 rfl
 have NJ:45≤Y11.size:=by omega
 repeat ((first|refine qA ?_|apply qB|refine qC ?_|apply qD|apply qE|apply qF|apply qG|apply qH);try simp (disch:=(first|omega|(simp only [qI,qJ,qK]<;>omega)|exact qL _)) only [go_sem,pU,m8,gR,mV,NJ])
 refine W.drawR (.take 0 (.take 1 (.take 2 (.take 3 (.take 4 (.take 5 (.take 6 (.only 7 (.take 8 (.last 9)))))))))) (NoB) mixed (by kernel_rfl) ?_
 try simp (disch:=(first|omega|(simp only [qI,qJ,qK]<;>omega)|exact qL _)) only [go_sem,pU,m8,gR,mV,NJ,tl32]
 refine ⟨Upd.refl _ _,?_⟩
 have M7:blk w11.drew (w.heap.size+1)=_:=mV
 have hx12:Upd (fun b=>b=w.heap.size+1∨b=w.heap.size+2) w11 w11.drew:=(Upd.refl _ _).drew
 rw [V3] at M7
 generalize iZ:wr w11.drew (w.heap.size+1) 40 [.int .i64 (IntKind.i32.wrap (t.at 8).n),zS,zB,zS,zS] = w12
 have pY:blk w12 (w.heap.size+1)=some (((A8++(([.int .i64 (IntKind.i32.wrap (t.at 8).n),zS,zB,zS,zS]:List Value)++B8)).toArray),37,(0,0)):=by rw [← iZ];exact el_blk0 M7 hA8 (Nat.le_of_ble_eq_true rfl)
 have OJ:Upd (fun b=>b=w.heap.size+1∨b=w.heap.size+2) w11.drew w12:=by rw [← iZ];exact (Upd.refl _ _).wr _ _ (.inr (.inl rfl))
 have fG:Upd (fun b=>b=w.heap.size+1∨b=w.heap.size+2) w11 w12:=hx12.trans OJ
 have fD:Upd (fun b=>b=w.heap.size+1∨b=w.heap.size+2) w1 w12:=fA.trans fG
 have DP:=fD.size
 have mQ:Ext w w12:=hE1.more fD fun b hb h=>by omega
 have lP:=mQ.blk_some hb id
 have lE:blk w12 (w.heap.size+2)=some (#[zI,zS,zB,.slice (some ⟨w.heap.size+1,0,none⟩) 12 12,zS],37,(0,0)):=by
  rw [← iZ,blk_wr_ne (by omega)]
  exact m8
 clear iZ
 have hf8:TreeC (fun b=>w1.heap.size≤b) w12 (.num (IntKind.i32.wrap (t.at 8).n)) [.int .i64 (IntKind.i32.wrap (t.at 8).n),zS,zB,zS,zS]:=(TreeC.keep (OJ.keeps fun b hb hk e=>by have hk':w1.heap.size≤b:=hk;omega) (TreeC.intro (tl32 _) (BytesV.nil _ _) (treesN _ _) (tagsN _ _):TreeC (fun b=>w1.heap.size≤b) w11.drew (.num (IntKind.i32.wrap (t.at 8).n)) [.int .i64 (IntKind.i32.wrap (t.at 8).n),zS,zB,zS,zS]))
 have hJ9:=YB w12 _ (tlF (tlP (d+2)) fQ_8 (t.at 8)) rfl pY (hf8) ((fG).keeps fun b hb hk e=>by have hk':w1.heap.size≤b:=hk;omega)
 obtain ⟨A9,B9,hA9,pY,YC⟩:=hJ9.next (by decide)
 replace hA9:A9.length=45:=hA9
 obtain ⟨Y12,hY12,lQ,hYs12⟩:=el_open (n:=5) pY hA9 rfl
 have NK:48≤Y12.size:=by omega
 repeat ((first|refine qA ?_|apply qB|refine qC ?_|apply qD|apply qE|apply qF|apply qG|apply qH);try simp (disch:=(first|omega|(simp only [qI,qJ,qK]<;>omega)|exact qL _)) only [go_sem,lP,lE,eC,lQ,NK])
 refine W.drawR (.take 0 (.take 1 (.take 2 (.take 3 (.take 4 (.take 5 (.take 6 (.take 7 (.take 8 (.last 9)))))))))) (NoB) mixed (by kernel_rfl) ?_
 try simp (disch:=(first|omega|(simp only [qI,qJ,qK]<;>omega)|exact qL _)) only [go_sem,lP,lE,eC,lQ,NK,MC]
 generalize CD:wr w12.drew (w.heap.size+1) 47 [.bool (t.at 9).null] = w13
 have LV:blk w13 (w.heap.size+1)=some (((A9++(([zI,zS,.bool (t.at 9).null,zS,zS]:List Value)++B9)).toArray),37,(0,0)):=by rw [← CD];exact el_blk (o:=2) (show blk w12.drew (w.heap.size+1)=_ from pY) hA9 (Nat.le_of_ble_eq_true rfl)
 have pN:Upd (fun b=>b=w.heap.size+1∨b=w.heap.size+2) w12 w13:=by rw [← CD];exact ((Upd.refl _ _).drew).wr _ _ (.inr (.inl rfl))
 have tK:Upd (fun b=>b=w.heap.size+1∨b=w.heap.size+2) w1 w13:=fD.trans pN
 have ID:=tK.size
 have KJ:Ext w w13:=hE1.more tK fun b hb h=>by omega
 have hb13:=KJ.blk_some hb id
 have HT:blk w13 (w.heap.size+2)=some (#[zI,zS,zB,.slice (some ⟨w.heap.size+1,0,none⟩) 12 12,zS],37,(0,0)):=by
  rw [← CD,blk_wr_ne (by omega)]
  exact lE
 clear CD
 obtain ⟨Y13,V4,WN,hYs13⟩:=el_open (n:=5) LV hA9 rfl
 have ZN:49≤Y13.size:=by omega
 have WP:Y13[48]? = some (.slice none 0 0):=by rw [V4];exact el_cell (R:=0) hA9 (o:=3) (Nat.le_of_ble_eq_true rfl)
 repeat ((first|refine qA ?_|apply qB|refine qC ?_|apply qD|apply qE|apply qF|apply qG|apply qH);try simp (disch:=(first|omega|(simp only [qI,qJ,qK]<;>omega)|exact qL _)) only [go_sem,hb13,HT,eC,WN,ZN,WP])
 refine W.exitJ 0 (EndQ [(0,.pointer (some ⟨b,0,none⟩)),(2,.pointer (some ⟨w.heap.size,0,none⟩)),(3,.pointer (some ⟨w.heap.size+2,0,none⟩)),(99,.int .i64 L9.length)] (fun w'=>∃ v,blk w' (w.heap.size+1)=some (((A9++(([zI,zS,.bool (t.at 9).null,v,zS]:List Value)++B9)).toArray),37,(0,0))∧GrowT (fun b=>w1.heap.size≤b) w13.heap.size (w.heap.size+1) w' 37 v (L9.map (tl1 (tlP (d+2)) fQ_9.of fQ_9.sub))∧Upd (fun b=>b=w.heap.size+1) w13 w')) (W.loop (LoopL [(0,.pointer (some ⟨b,0,none⟩)),(2,.pointer (some ⟨w.heap.size,0,none⟩)),(3,.pointer (some ⟨w.heap.size+2,0,none⟩)),(99,.int .i64 L9.length)] 100 (fun j w'=>∃ v,j≤L9.length∧blk w' (w.heap.size+1)=some (((A9++(([zI,zS,.bool (t.at 9).null,v,zS]:List Value)++B9)).toArray),37,(0,0))∧GrowT (fun b=>w1.heap.size≤b) w13.heap.size (w.heap.size+1) w' 37 v ((L9.take j).map (tl1 (tlP (d+2)) fQ_9.of fQ_9.sub))∧Upd (fun b=>b=w.heap.size+1) w13 w')) (fun ρ _=>L9.length - (RowKit.intOf (ρ 100)).toNat) ?_ ?_) ?_
 ·exact ⟨(by simp (disch:=(first|omega|(simp only [qI,qJ,qK]<;>omega)|exact qL _)) only [go_sem,Holds_nil,Holds_cons]),0,(by simp (disch:=(first|omega|(simp only [qI,qJ,qK]<;>omega)|exact qL _)) only [go_sem];all_goals rfl),zS,Nat.zero_le _,LV,GrowT.nil _ _ _ _ _,Upd.refl _ _⟩
 ·rintro ρ w14 ⟨⟨dY,dZ,eA,eB,-⟩,j,hri,v,hj,BM,hg,hUk⟩
  have hzk:=hUk.size
  have AO:Ext w w14:=KJ.more hUk fun b hb h=>by omega
  have Q1:w1.heap.size≤w14.heap.size:=by have:=ID;omega
  have hb14:=AO.blk_some hb id
  have C3:=hUk.blk_some HT (by omega)
  by_cases hlt:j < L9.length
  ·obtain ⟨_,be,oe,xe,ce,hbe,hoke,hxe,hble,hxs,hxx,hqe,hRe⟩:=SlR.get (size:=19) (by decide) hs9 hlt
   subst hbe
   have hcat:L9.take (j+1)=L9.take j++[L9[j]]:=List.take_succ_eq_append_getElem hlt
   have hgy:=LL.2 _ (List.getElem_mem hlt)
   have hll:=LL.1
   obtain ⟨av,kv,hvs,_⟩:=hg.shape
   have hlj:(List.map (tl1 (tlP (d+2)) fQ_9.of fQ_9.sub) (L9.take j)).length=j:=by simp;omega
   rw [hlj] at hvs
   subst hvs
   have hnb:∀ b,b < w13.heap.size∨w14.heap.size≤b→¬ ownB (.slice av j kv) b:=fun b hb h=>by
    have:=hg.above h
    have:=hg.below h
    omega
   generalize L9[j] = y at *
   obtain ⟨Y14,V5,BQ,hYs14⟩:=el_open (n:=5) BM hA9 rfl
   have iM:49≤Y14.size:=by omega
   have gP:Y14[48]? = some (.slice av j kv):=by rw [V5];exact el_cell (R:=0) hA9 (o:=3) (Nat.le_of_ble_eq_true rfl)
   repeat ((first|refine qA ?_|apply qB|refine qC ?_|apply qD|apply qE|apply qF|apply qG|apply qH);try simp (disch:=(first|omega|(simp only [qI,qJ,qK]<;>omega)|exact qL _)) only [go_sem,hb14,C3,eC,BQ,iM,gP,dY,dZ,eA,eB,hri])
   refine W.drawR (.only 0 (.two 1 (.only 2 (.only 3 .done)) 2 (.only 1 (.only 3 .done)))) NoB mixed (by kernel_rfl) ?_
   try simp (disch:=(first|omega|(simp only [qI,qJ,qK]<;>omega)|exact qL _)) only [go_sem,hb14,C3,eC,BQ,iM,gP,dY,dZ,eA,eB,hri]
   have q0:Upd NoB w14.drew (w14.alloc (.cells #[zB] 4)).drew:=show Upd NoB w14.drew (w14.drew.alloc (.cells #[zB] 4)) from Upd.alloc (Upd.refl _ _) _
   have q1:Upd NoB w14.drew (wr (w14.alloc (.cells #[zB] 4)).drew w14.heap.size 0 [.bool true]):=q0.wr _ _ (.inl (Nat.le_refl _))
   have q2:Upd NoB w14.drew (wr (wr (w14.alloc (.cells #[zB] 4)).drew w14.heap.size 0 [.bool true]) w14.heap.size 0 [zB]):=q1.wr _ _ (.inl (Nat.le_refl _))
   have q3:Upd NoB w14.drew (wr (w14.alloc (.cells #[zB] 4)).drew w14.heap.size 0 [zB]):=q0.wr _ _ (.inl (Nat.le_refl _))
   have q4:Upd NoB w14.drew (wr (wr (w14.alloc (.cells #[zB] 4)).drew w14.heap.size 0 [zB]) w14.heap.size 0 [.bool true]):=q3.wr _ _ (.inl (Nat.le_refl _))
   refine ⟨q0,⟨q1,q2,q2,?_⟩,⟨q3,q4,q4,?_⟩⟩
   ·have pW:Ext w14 (wr (wr (w14.alloc (.cells #[zB] 4)).drew w14.heap.size 0 [.bool true]) w14.heap.size 0 [zB]):=((Upd.refl _ _).drew).trans q2
    generalize (wr (wr (w14.alloc (.cells #[zB] 4)).drew w14.heap.size 0 [.bool true]) w14.heap.size 0 [zB])=w15 at *
    have hzk15:=pW.size
    have FM:Ext w w15:=AO.trans pW
    have hb15:=pW.blk_some hb14 id
    have WJ:=pW.blk_some BM id
    have BR:=pW.blk_some BQ id
    have HU:=pW.blk_some C3 id
    have DN:=FM.blk_some hxe id
    repeat ((first|refine qA ?_|apply qB|refine qC ?_|apply qD|apply qE|apply qF|apply qG|apply qH);try simp (disch:=(first|omega|(simp only [qI,qJ,qK]<;>omega)|exact qL _)) only [go_sem,hb15,BR,iM,gP,HU,DN,eC,dY,dZ,eA,eB,hri])
    refine W.drawR (.take 0 (.take 1 (.take 2 (.take 3 (.take 4 (.take 5 (.take 6 (.take 7 (.take 8 (.take 9 (.take 10 (.take 11 (.take 12 (.only 13 (.only 14 (.only 15 (.take 16 (.take 17 (.last 18))))))))))))))))))) (ownB (.slice av j kv)) mixed (by kernel_rfl) ?_
    try simp (disch:=(first|omega|(simp only [qI,qJ,qK]<;>omega)|exact qL _|(refine hnb _ ?_;first|omega|(simp only [World.size_alloc,size_wr,size_drew]<;>omega)))) only [go_sem,hb15,BR,iM,gP,HU,DN,eC,dY,dZ,eA,eB,hri]
    have hxq16:=(Upd.refl _ _:Upd (ownB (.slice av j kv)) w15.drew w15.drew).blk_some (show blk w15.drew be=_ from DN) (hnb _ (.inl (by omega)))
    refine (tellX3_fn (d:=d) (ok:=ok) y ce w15.drew (b:=be) (o:=oe+j * 19) hxq16 (fun k hk=>by have:=hqe k hk;rw [← Nat.add_assoc] at this;exact this) ((RepS_lay true _ _).keep (Rep1_part.1 hRe) ((((FM.drew).mono fun _ h=>h.elim).trans (Upd.refl _ _):Upd (ownB (.slice av j kv)) w w15.drew).keeps fun b hb _=>hnb b (.inl (by omega)))) (hgy.2.2 rfl)).mono ?_
    rintro _ w16 ⟨⟨c16,rfl,hc16⟩,vK⟩
    obtain ⟨T16,JS⟩:∃ T,T=tlP (d+2) fs_X3 y:=⟨_,rfl⟩
    replace hc16:TreeC (fun b=>w15.drew.heap.size≤b) w16 T16 c16:=by rw [JS];exact hc16
    obtain ⟨vS16,vL16,vU16,rfl,M9,SQ,S8,U1⟩:=hc16.inv
    have k1_16:=SQ.flat
    have k2_16:=SlR.flat S8
    have k3_16:=SlR.flat U1
    have pG:Upd (ownB (.slice av j kv)) w15.drew w16:=(Upd.refl _ _).trans (vK.mono fun _ h=>h.elim)
    have HO:=vK.size
    try simp only [size_drew] at HO
    refine ⟨pG,?_⟩
    try simp (disch:=(first|omega|(simp only [qI,qJ,qK]<;>omega)|exact qL _|(refine hnb _ ?_;first|omega|(simp only [World.size_alloc,size_wr,size_drew]<;>omega)))) only [go_sem,hb15,BR,iM,gP,HU,DN,eC,dY,dZ,eA,eB,hri,k1_16,k2_16,k3_16]
    have vQ:Upd (ownB (.slice av j kv)) w15.drew (w16.alloc (.cells #[.int .i64 T16.n,vS16,.bool T16.null,vL16,vU16] 37)):=show Upd (ownB (.slice av j kv)) w15.drew (w16.alloc (.cells #[.int .i64 T16.n,vS16,.bool T16.null,vL16,vU16] 37)) from (pG).alloc _
    have MA:blk (w16.alloc (.cells #[.int .i64 T16.n,vS16,.bool T16.null,vL16,vU16] 37)) w16.heap.size=some (#[.int .i64 T16.n,vS16,.bool T16.null,vL16,vU16],37,(0,0)):=show blk (w16.alloc (.cells #[.int .i64 T16.n,vS16,.bool T16.null,vL16,vU16] 37)) w16.heap.size=some (#[.int .i64 T16.n,vS16,.bool T16.null,vL16,vU16],37,(0,0)) from blk_alloc_new rfl
    have HP:(w16.alloc (.cells #[.int .i64 T16.n,vS16,.bool T16.null,vL16,vU16] 37)).heap.size=w16.heap.size+1:=show (w16.alloc (.cells #[.int .i64 T16.n,vS16,.bool T16.null,vL16,vU16] 37)).heap.size=w16.heap.size+1 from World.size_alloc _ _
    have pD:Ext w16 (w16.alloc (.cells #[.int .i64 T16.n,vS16,.bool T16.null,vL16,vU16] 37)):=show Ext w16 (w16.alloc (.cells #[.int .i64 T16.n,vS16,.bool T16.null,vL16,vU16] 37)) from Upd.alloc (Upd.refl _ _) _
    refine ⟨vQ,?_⟩
    try simp only [List.append_nil]
    generalize (w16.alloc (.cells #[.int .i64 T16.n,vS16,.bool T16.null,vL16,vU16] 37))=w17 at *
    try simp only [size_drew] at HP
    have pC:Ext w14 w17:=((pW.drew.trans vK).trans pD)
    have hzw18:=pC.size
    obtain ⟨css,hown,hall⟩:=(hg.ext pC).ex
    have hcl:=hall.1
    rw [hlj] at hcl
    have I5:TreeC (fun b=>(fun b=>w1.heap.size≤b) b∧b≠w.heap.size+1∧¬ ownB (.slice av j kv) b) w17 ((tl1 (tlP (d+2)) fQ_9.of fQ_9.sub) y) [.int .i64 T16.n,vS16,.bool T16.null,vL16,vU16]:=by
     rw [show (tl1 (tlP (d+2)) fQ_9.of fQ_9.sub) y=_ from JS.symm]
     exact TreeC.weaken (fun b _ hk=>⟨by omega,by omega,hnb b (.inr (by omega))⟩) (TreeC.weaken (ok':=fun b=>w14.heap.size≤b) (fun b _ hk=>by have hk':w15.drew.heap.size≤b:=hk;(try simp only [size_drew] at hk');omega) (TreeC.keep (Ext.keeps pD _) hc16))
    refine wp_append ap_34_34 (m:=1) (news:=[.int .i64 T16.n,vS16,.bool T16.null,vL16,vU16]) (n:=css.length) (cs:=css.flatten) (v:=(.slice av j kv)) ?_ rfl hown.1 (all2_flat_tree hall) (Src.blk (fr:=(0,0)) (T:=37) MA rfl (by simp only [List.all_cons,List.all_nil,flat_int,flat_bool,k1_16,k2_16,k3_16,Bool.and_self])) ?_ ?_ ?_
    ·first|rfl|simp (disch:=(first|omega|(simp only [qI,qJ,qK]<;>omega)|exact qL _)) only [go_sem]
    ·omega
    ·omega
    intro v' w18 ho hu hfr
    have lH:=(vQ:Upd (ownB (.slice av j kv)) w15.drew w17).trans hu
    have IJ:=lH.size
    simp only [size_drew] at IJ
    have H0:=lH.blk_some (show blk w15.drew (w.heap.size+1)=_ from WJ) (hnb _ (.inl (by omega)))
    have xA:=lH.blk_some (show blk w15.drew (w.heap.size+1)=_ from BR) (hnb _ (.inl (by omega)))
    have hg':=GrowT.snoc hown hall I5 hu hfr ho
    obtain ⟨va,vc,hv',_⟩:=ho.shape
    subst hv'
    have hne:¬ ownB (.slice va (css.length+1) vc) (w.heap.size+1):=fun h=>(hfr _ h).elim (hnb _ (.inl (by omega))) (fun h=>by omega)
    refine ⟨lH,?_⟩
    try simp (disch:=(first|omega|(simp only [qI,qJ,qK]<;>omega)|exact qL _|(refine hnb _ ?_;first|omega|(simp only [World.size_alloc,size_wr,size_drew]<;>omega)))) only [go_sem,xA,iM,gP,dY,dZ,eA,eB,hri]
    repeat ((first|refine qA ?_|apply qB|refine qC ?_|apply qD|apply qE|apply qF|apply qG|apply qH);try simp (disch:=(first|omega|(simp only [qI,qJ,qK]<;>omega)|exact qL _)) only [go_sem,xA,iM,gP,dY,dZ,eA,eB,hri])
    refine ⟨⟨(by simp (disch:=(first|omega|(simp only [qI,qJ,qK]<;>omega)|exact qL _)) only [go_sem,Holds_nil,Holds_cons,dY,dZ,eA,eB,hri]),j+1,(by simp (disch:=(first|omega|(simp only [qI,qJ,qK]<;>omega)|exact qL _)) only [go_sem,dY,dZ,eA,eB,hri];all_goals rfl),.slice va (css.length+1) vc,by omega,?_,?_,?_⟩,?_⟩
    ·exact el_blk (o:=3) H0 hA9 (Nat.le_of_ble_eq_true rfl)
    ·rw [hcat,List.map_append];exact hg'.upd ((Upd.refl _ _).wr _ _ (.inr rfl)) hne
    ·refine Upd.wr ?_ _ _ (.inr rfl)
     exact (hUk.more ((pC.mono fun _ h=>h.elim).trans hu) fun b hb h=>absurd h (hnb b (.inl hb)))
    ·try simp (disch:=(first|omega|(simp only [qI,qJ,qK]<;>omega)|exact qL _)) only [go_sem,dY,dZ,eA,eB,hri]
     simp only [RowKit.intOf];omega
   ·have mT:Ext w14 (wr (wr (w14.alloc (.cells #[zB] 4)).drew w14.heap.size 0 [zB]) w14.heap.size 0 [.bool true]):=((Upd.refl _ _).drew).trans q4
    generalize (wr (wr (w14.alloc (.cells #[zB] 4)).drew w14.heap.size 0 [zB]) w14.heap.size 0 [.bool true])=w19 at *
    have hzk19:=mT.size
    have mR:Ext w w19:=AO.trans mT
    have pV:=mT.blk_some hb14 id
    have BN:=mT.blk_some BM id
    have u1:=mT.blk_some BQ id
    have m9:=mT.blk_some C3 id
    have vH:=mR.blk_some hxe id
    repeat ((first|refine qA ?_|apply qB|refine qC ?_|apply qD|apply qE|apply qF|apply qG|apply qH);try simp (disch:=(first|omega|(simp only [qI,qJ,qK]<;>omega)|exact qL _)) only [go_sem,pV,u1,iM,gP,m9,vH,eC,dY,dZ,eA,eB,hri])
    refine W.drawR (.take 0 (.take 1 (.take 2 (.take 3 (.take 4 (.take 5 (.take 6 (.take 7 (.take 8 (.take 9 (.take 10 (.take 12 (.two 11 (.only 13 (.only 14 (.take 15 (.take 16 (.last 17))))) 13 (.only 11 (.only 14 (.take 15 (.take 16 (.last 17)))))))))))))))))) (ownB (.slice av j kv)) mixed (by kernel_rfl) ?_
    try simp (disch:=(first|omega|(simp only [qI,qJ,qK]<;>omega)|exact qL _|(refine hnb _ ?_;first|omega|(simp only [World.size_alloc,size_wr,size_drew]<;>omega)))) only [go_sem,pV,u1,iM,gP,m9,vH,eC,dY,dZ,eA,eB,hri]
    refine ⟨?_,?_⟩
    ·skip
     have hxq20:=(Upd.refl _ _:Upd (ownB (.slice av j kv)) w19.drew w19.drew).blk_some (show blk w19.drew be=_ from vH) (hnb _ (.inl (by omega)))
     refine (tellX3_fn (d:=d) (ok:=ok) y ce w19.drew (b:=be) (o:=oe+j * 19) hxq20 (fun k hk=>by have:=hqe k hk;rw [← Nat.add_assoc] at this;exact this) ((RepS_lay true _ _).keep (Rep1_part.1 hRe) ((((mR.drew).mono fun _ h=>h.elim).trans (Upd.refl _ _):Upd (ownB (.slice av j kv)) w w19.drew).keeps fun b hb _=>hnb b (.inl (by omega)))) (hgy.2.2 rfl)).mono ?_
     rintro _ w20 ⟨⟨c20,rfl,BA⟩,E9⟩
     obtain ⟨T20,JU⟩:∃ T,T=tlP (d+2) fs_X3 y:=⟨_,rfl⟩
     replace BA:TreeC (fun b=>w19.drew.heap.size≤b) w20 T20 c20:=by rw [JU];exact BA
     obtain ⟨vS20,vL20,vU20,rfl,hn20,EY,SA,U3⟩:=BA.inv
     have k1_20:=EY.flat
     have k2_20:=SlR.flat SA
     have k3_20:=SlR.flat U3
     have JJ:Upd (ownB (.slice av j kv)) w19.drew w20:=(Upd.refl _ _).trans (E9.mono fun _ h=>h.elim)
     have ZA:=E9.size
     try simp only [size_drew] at ZA
     refine ⟨JJ,?_⟩
     try simp (disch:=(first|omega|(simp only [qI,qJ,qK]<;>omega)|exact qL _|(refine hnb _ ?_;first|omega|(simp only [World.size_alloc,size_wr,size_drew]<;>omega)))) only [go_sem,pV,u1,iM,gP,m9,vH,eC,dY,dZ,eA,eB,hri,k1_20,k2_20,k3_20]
     have JK:Upd (ownB (.slice av j kv)) w19.drew (w20.alloc (.cells qZ5 37)):=show Upd (ownB (.slice av j kv)) w19.drew (w20.alloc (.cells qZ5 37)) from (JJ).alloc _
     have XQ:blk (w20.alloc (.cells qZ5 37)) w20.heap.size=some (qZ5,37,(0,0)):=show blk (w20.alloc (.cells qZ5 37)) w20.heap.size=some (qZ5,37,(0,0)) from blk_alloc_new rfl
     have ZB:(w20.alloc (.cells qZ5 37)).heap.size=w20.heap.size+1:=show (w20.alloc (.cells qZ5 37)).heap.size=w20.heap.size+1 from World.size_alloc _ _
     have J0:Ext w20 (w20.alloc (.cells qZ5 37)):=show Ext w20 (w20.alloc (.cells qZ5 37)) from Upd.alloc (Upd.refl _ _) _
     refine ⟨JK,?_⟩
     try simp only [List.append_nil]
     generalize (w20.alloc (.cells qZ5 37))=w21 at *
     try simp only [size_drew] at ZB
     have E3:Ext w14 w21:=((mT.drew.trans E9).trans J0)
     have hzw22:=E3.size
     obtain ⟨css,hown,hall⟩:=(hg.ext E3).ex
     have hcl:=hall.1
     rw [hlj] at hcl
     have hx22:TreeC (fun b=>(fun b=>w1.heap.size≤b) b∧b≠w.heap.size+1∧¬ ownB (.slice av j kv) b) w21 ((tl1 (tlP (d+2)) fQ_9.of fQ_9.sub) y) [.int .i64 T20.n,vS20,.bool T20.null,vL20,vU20]:=by
      rw [show (tl1 (tlP (d+2)) fQ_9.of fQ_9.sub) y=_ from JU.symm]
      exact TreeC.weaken (fun b _ hk=>⟨by omega,by omega,hnb b (.inr (by omega))⟩) (TreeC.weaken (ok':=fun b=>w14.heap.size≤b) (fun b _ hk=>by have hk':w19.drew.heap.size≤b:=hk;(try simp only [size_drew] at hk');omega) (TreeC.keep (Ext.keeps J0 _) BA))
     refine wp_append ap_34_34 (m:=1) (news:=[zI,zS,zB,zS,zS]) (n:=css.length) (cs:=css.flatten) (v:=(.slice av j kv)) ?_ rfl hown.1 (all2_flat_tree hall) (Src.blk (fr:=(0,0)) (T:=37) XQ rfl rfl) ?_ ?_ ?_
     ·first|rfl|simp (disch:=(first|omega|(simp only [qI,qJ,qK]<;>omega)|exact qL _)) only [go_sem]
     ·omega
     ·omega
     intro v' w22 ho hu hfr
     have zN:=(JK:Upd (ownB (.slice av j kv)) w19.drew w21).trans hu
     have hzq22:=zN.size
     simp only [size_drew] at hzq22
     have XG:=zN.blk_some (show blk w19.drew (w.heap.size+1)=_ from BN) (hnb _ (.inl (by omega)))
     have M2:=zN.blk_some (show blk w19.drew (w.heap.size+1)=_ from u1) (hnb _ (.inl (by omega)))
     rcases ho.2 with ⟨_,h⟩|⟨g,cap,rest,fr,hv',hg',hbg,hlen,hth,hle⟩
     ·exact absurd h (Nat.succ_ne_zero _)
     subst hv'
     have hgne:¬ g=w.heap.size+1:=fun h=>(hfr g ⟨_,_,_,rfl,rfl⟩).elim (fun h'=>hnb _ (.inl (by omega)) (h ▸ h')) (fun h'=>by omega)
     have hfl:css.flatten.length=css.length * 5:=flatten_len hown.2
     have fK:(css.flatten++([zI,zS,zB,zS,zS]:List Value)++rest).length=cap * 5:=by simp only [List.length_append] at hlen ⊢;omega
     obtain ⟨XX,hXX⟩:∃ X:Array Value,X=(css.flatten++([zI,zS,zB,zS,zS]:List Value)++rest).toArray:=⟨_,rfl⟩
     have hbgX:blk w22 g=some (XX,37,fr):=by rw [hXX];exact hbg
     have hXsz:XX.size=cap * 5:=by rw [hXX,List.size_toArray];exact fK
     have dK:thaw fr (css.length * 5) 5=true:=thaw_of hth (by omega)
     have hst:css.length * 5+5≤XX.size:=by omega
     have hset:=Own.setlast (cs:=[.int .i64 T20.n,vS20,.bool T20.null,vL20,vU20]) ho rfl rfl
     have hu2:Upd (ownB (.slice av j kv)) w21 (wr w22 g (css.length * 5) [.int .i64 T20.n,vS20,.bool T20.null,vL20,vU20]):=hu.wr _ _ ((hfr g ⟨_,_,_,rfl,rfl⟩).symm)
     have hg2:=GrowT.snoc hown hall hx22 hu2 hfr hset
     have hcj:css.length=j:=by first|exact hcl.symm.trans hlj|omega
     simp only [hcj] at dK hst hset hu2 hg2
     refine ⟨zN,?_⟩
     try simp (disch:=(first|omega|(simp only [qI,qJ,qK]<;>omega)|exact qL _|(refine hnb _ ?_;first|omega|(simp only [World.size_alloc,size_wr,size_drew]<;>omega)))) only [go_sem,M2,iM,gP,hbgX,dK,hst,hcj,k1_20,k2_20,k3_20,dY,dZ,eA,eB,hri]
     repeat ((first|refine qA ?_|apply qB|refine qC ?_|apply qD|apply qE|apply qF|apply qG|apply qH);try simp (disch:=(first|omega|(simp only [qI,qJ,qK]<;>omega)|exact qL _)) only [go_sem,M2,iM,gP,hbgX,dK,hst,hcj,k1_20,k2_20,k3_20,dY,dZ,eA,eB,hri])
     refine ⟨⟨(by simp (disch:=(first|omega|(simp only [qI,qJ,qK]<;>omega)|exact qL _)) only [go_sem,Holds_nil,Holds_cons,dY,dZ,eA,eB,hri]),j+1,(by simp (disch:=(first|omega|(simp only [qI,qJ,qK]<;>omega)|exact qL _)) only [go_sem,dY,dZ,eA,eB,hri];all_goals rfl),.slice (some ⟨g,0,none⟩) (j+1) cap,by omega,?_,?_,?_⟩,?_⟩
     ·rw [blk_wr_ne (by omega)];exact el_blk (o:=3) XG hA9 (Nat.le_of_ble_eq_true rfl)
     ·rw [hcat,List.map_append,wr_comm (Ne.symm hgne)]
      exact hg2.upd ((Upd.refl _ _).wr _ _ (.inr rfl)) (fun h=>hgne (ownB_row h).symm)
     ·rw [wr_comm (Ne.symm hgne)]
      refine Upd.wr ?_ _ _ (.inr rfl)
      exact (hUk.more ((E3.mono fun _ h=>h.elim).trans hu2) fun b hb h=>absurd h (hnb b (.inl hb)))
     ·try simp (disch:=(first|omega|(simp only [qI,qJ,qK]<;>omega)|exact qL _)) only [go_sem,dY,dZ,eA,eB,hri]
      simp only [RowKit.intOf];omega
    ·skip
     have zO:Upd (ownB (.slice av j kv)) w19.drew (w19.alloc (.cells qZ5 37)).drew:=show Upd (ownB (.slice av j kv)) w19.drew (w19.drew.alloc (.cells qZ5 37)) from (Upd.refl _ _).alloc _
     have XR:blk (w19.alloc (.cells qZ5 37)).drew w19.drew.heap.size=some (qZ5,37,(0,0)):=show blk (w19.drew.alloc (.cells qZ5 37)) w19.drew.heap.size=some (qZ5,37,(0,0)) from blk_alloc_new rfl
     have ZC:(w19.alloc (.cells qZ5 37)).drew.heap.size=w19.drew.heap.size+1:=show (w19.drew.alloc (.cells qZ5 37)).heap.size=w19.drew.heap.size+1 from World.size_alloc _ _
     have RI:Ext w19.drew (w19.alloc (.cells qZ5 37)).drew:=show Ext w19.drew (w19.drew.alloc (.cells qZ5 37)) from Upd.alloc (Upd.refl _ _) _
     refine ⟨zO,?_⟩
     try simp only [List.append_nil]
     generalize (w19.alloc (.cells qZ5 37)).drew=w23 at *
     try simp only [size_drew] at ZC
     have hxq24:=(zO:Upd (ownB (.slice av j kv)) w19.drew w23).blk_some (show blk w19.drew be=_ from vH) (hnb _ (.inl (by omega)))
     refine (tellX3_fn (d:=d) (ok:=ok) y ce w23 (b:=be) (o:=oe+j * 19) hxq24 (fun k hk=>by have:=hqe k hk;rw [← Nat.add_assoc] at this;exact this) ((RepS_lay true _ _).keep (Rep1_part.1 hRe) ((((mR.drew).mono fun _ h=>h.elim).trans (zO):Upd (ownB (.slice av j kv)) w w23).keeps fun b hb _=>hnb b (.inl (by omega)))) (hgy.2.2 rfl)).mono ?_
     rintro _ w24 ⟨⟨c24,rfl,BB⟩,zD⟩
     obtain ⟨T24,JV⟩:∃ T,T=tlP (d+2) fs_X3 y:=⟨_,rfl⟩
     replace BB:TreeC (fun b=>w23.heap.size≤b) w24 T24 c24:=by rw [JV];exact BB
     obtain ⟨vS24,vL24,vU24,rfl,hn24,ST,SB,U4⟩:=BB.inv
     have k1_24:=ST.flat
     have k2_24:=SlR.flat SB
     have k3_24:=SlR.flat U4
     have JL:Upd (ownB (.slice av j kv)) w19.drew w24:=(zO).trans (zD.mono fun _ h=>h.elim)
     have ZD:=zD.size
     try simp only [size_drew] at ZD
     refine ⟨JL,?_⟩
     try simp (disch:=(first|omega|(simp only [qI,qJ,qK]<;>omega)|exact qL _|(refine hnb _ ?_;first|omega|(simp only [World.size_alloc,size_wr,size_drew]<;>omega)))) only [go_sem,pV,u1,iM,gP,m9,vH,eC,dY,dZ,eA,eB,hri,k1_24,k2_24,k3_24]
     have E4:Ext w14 w24:=((mT.drew.trans RI).trans zD)
     have hzw25:=E4.size
     obtain ⟨css,hown,hall⟩:=(hg.ext E4).ex
     have hcl:=hall.1
     rw [hlj] at hcl
     have hx25:TreeC (fun b=>(fun b=>w1.heap.size≤b) b∧b≠w.heap.size+1∧¬ ownB (.slice av j kv) b) w24 ((tl1 (tlP (d+2)) fQ_9.of fQ_9.sub) y) [.int .i64 T24.n,vS24,.bool T24.null,vL24,vU24]:=by
      rw [show (tl1 (tlP (d+2)) fQ_9.of fQ_9.sub) y=_ from JV.symm]
      exact TreeC.weaken (fun b _ hk=>⟨by omega,by omega,hnb b (.inr (by omega))⟩) (TreeC.weaken (ok':=fun b=>w14.heap.size≤b) (fun b _ hk=>by have hk':w23.heap.size≤b:=hk;(try simp only [size_drew] at hk');omega) BB)
     refine wp_append ap_34_34 (m:=1) (news:=[zI,zS,zB,zS,zS]) (n:=css.length) (cs:=css.flatten) (v:=(.slice av j kv)) ?_ rfl hown.1 (all2_flat_tree hall) (Src.blk (fr:=(0,0)) (T:=37) (zD.blk_some XR id) rfl rfl) ?_ ?_ ?_
     ·first|rfl|simp (disch:=(first|omega|(simp only [qI,qJ,qK]<;>omega)|exact qL _)) only [go_sem]
     ·omega
     ·omega
     intro v' w25 ho hu hfr
     have zP:=(JL:Upd (ownB (.slice av j kv)) w19.drew w24).trans hu
     have hzq25:=zP.size
     simp only [size_drew] at hzq25
     have XH:=zP.blk_some (show blk w19.drew (w.heap.size+1)=_ from BN) (hnb _ (.inl (by omega)))
     have M3:=zP.blk_some (show blk w19.drew (w.heap.size+1)=_ from u1) (hnb _ (.inl (by omega)))
     rcases ho.2 with ⟨_,h⟩|⟨g,cap,rest,fr,hv',hg',hbg,hlen,hth,hle⟩
     ·exact absurd h (Nat.succ_ne_zero _)
     subst hv'
     have hgne:¬ g=w.heap.size+1:=fun h=>(hfr g ⟨_,_,_,rfl,rfl⟩).elim (fun h'=>hnb _ (.inl (by omega)) (h ▸ h')) (fun h'=>by omega)
     have hfl:css.flatten.length=css.length * 5:=flatten_len hown.2
     have fK:(css.flatten++([zI,zS,zB,zS,zS]:List Value)++rest).length=cap * 5:=by simp only [List.length_append] at hlen ⊢;omega
     obtain ⟨XX,hXX⟩:∃ X:Array Value,X=(css.flatten++([zI,zS,zB,zS,zS]:List Value)++rest).toArray:=⟨_,rfl⟩
     have hbgX:blk w25 g=some (XX,37,fr):=by rw [hXX];exact hbg
     have hXsz:XX.size=cap * 5:=by rw [hXX,List.size_toArray];exact fK
     have dK:thaw fr (css.length * 5) 5=true:=thaw_of hth (by omega)
     have hst:css.length * 5+5≤XX.size:=by omega
     have hset:=Own.setlast (cs:=[.int .i64 T24.n,vS24,.bool T24.null,vL24,vU24]) ho rfl rfl
     have hu2:Upd (ownB (.slice av j kv)) w24 (wr w25 g (css.length * 5) [.int .i64 T24.n,vS24,.bool T24.null,vL24,vU24]):=hu.wr _ _ ((hfr g ⟨_,_,_,rfl,rfl⟩).symm)
     have hg2:=GrowT.snoc hown hall hx25 hu2 hfr hset
     have hcj:css.length=j:=by first|exact hcl.symm.trans hlj|omega
     simp only [hcj] at dK hst hset hu2 hg2
     refine ⟨zP,?_⟩
     try simp (disch:=(first|omega|(simp only [qI,qJ,qK]<;>omega)|exact qL _|(refine hnb _ ?_;first|omega|(simp only [World.size_alloc,size_wr,size_drew]<;>omega)))) only [go_sem,M3,iM,gP,hbgX,dK,hst,hcj,k1_24,k2_24,k3_24,dY,dZ,eA,eB,hri]
     repeat ((first|refine qA ?_|apply qB|refine qC ?_|apply qD|apply qE|apply qF|apply qG|apply qH);try simp (disch:=(first|omega|(simp only [qI,qJ,qK]<;>omega)|exact qL _)) only [go_sem,M3,iM,gP,hbgX,dK,hst,hcj,k1_24,k2_24,k3_24,dY,dZ,eA,eB,hri])
     refine ⟨⟨(by simp (disch:=(first|omega|(simp only [qI,qJ,qK]<;>omega)|exact qL _)) only [go_sem,Holds_nil,Holds_cons,dY,dZ,eA,eB,hri]),j+1,(by simp (disch:=(first|omega|(simp only [qI,qJ,qK]<;>omega)|exact qL _)) only [go_sem,dY,dZ,eA,eB,hri];all_goals rfl),.slice (some ⟨g,0,none⟩) (j+1) cap,by omega,?_,?_,?_⟩,?_⟩
     ·rw [blk_wr_ne (by omega)];exact el_blk (o:=3) XH hA9 (Nat.le_of_ble_eq_true rfl)
     ·rw [hcat,List.map_append,wr_comm (Ne.symm hgne)]
      exact hg2.upd ((Upd.refl _ _).wr _ _ (.inr rfl)) (fun h=>hgne (ownB_row h).symm)
     ·rw [wr_comm (Ne.symm hgne)]
      refine Upd.wr ?_ _ _ (.inr rfl)
      exact (hUk.more ((E4.mono fun _ h=>h.elim).trans hu2) fun b hb h=>absurd h (hnb b (.inl hb)))
     ·try simp (disch:=(first|omega|(simp only [qI,qJ,qK]<;>omega)|exact qL _)) only [go_sem,dY,dZ,eA,eB,hri]
      simp only [RowKit.intOf];omega
  ·have hjn:j=L9.length:=by omega
   subst hjn
   rw [List.take_length] at hg
   repeat ((first|refine qA ?_|apply qB|refine qC ?_|apply qD|apply qE|apply qF|apply qG|apply qH);try simp (disch:=(first|omega|(simp only [qI,qJ,qK]<;>omega)|exact qL _)) only [go_sem,dY,dZ,eA,eB,hri])
   exact ⟨(by simp (disch:=(first|omega|(simp only [qI,qJ,qK]<;>omega)|exact qL _)) only [go_sem,Holds_nil,Holds_cons,dY,dZ,eA,eB,hri]),v,BM,hg,hUk⟩
 rintro ρ w26 ⟨⟨xV,xW,xX,hrd9_99,-⟩,v,BO,LI,KH⟩
 have jB:Upd (fun b=>b=w.heap.size+1∨b=w.heap.size+2) w13 w26:=KH.mono fun _ h=>.inl h
 have l3:Upd (fun b=>b=w.heap.size+1∨b=w.heap.size+2) w1 w26:=tK.trans jB
 have Q6:=l3.size
 have FN:Ext w w26:=hE1.more l3 fun b hb h=>by omega
 have KY:=FN.blk_some hb id
 have HV:=KH.blk_some HT (by omega)
 obtain ⟨av9,kv9,hvs,_⟩:=LI.shape
 subst hvs
 have hf9:TreeC (fun b=>w1.heap.size≤b) w26 (.mk 0 [] (t.at 9).null (L9.map (tl1 (tlP (d+2)) fQ_9.of fQ_9.sub)) []) [zI,zS,.bool (t.at 9).null,.slice av9 (List.map (tl1 (tlP (d+2)) fQ_9.of fQ_9.sub) L9).length kv9,zS]:=TreeC.intro rfl (BytesV.nil _ _) (LI.trees (fun _ _ h=>h) (fun b hb=>by have:=ID;omega)) (tagsN _ _)
 have S4:=YC w26 _ (tlF (tlP (d+2)) fQ_9 (t.at 9)) rfl BO (by rw [show tlF (tlP (d+2)) fQ_9 (t.at 9) = .mk 0 [] (t.at 9).null ((if (t.at 9).null=true then [] else (t.at 9).l).map (tl1 (tlP (d+2)) fQ_9.of fQ_9.sub)) [] from rfl,← hL9];exact hf9) (((pN.trans jB)).keeps fun b hb hk e=>by have hk':w1.heap.size≤b:=hk;omega)
 obtain ⟨A10,B10,k7,BO,Y0⟩:=S4.next (by decide)
 replace k7:A10.length=50:=k7
 obtain ⟨Y26,hY26,LY,hYs26⟩:=el_open (n:=5) BO k7 rfl
 have NL:53≤Y26.size:=by omega
 repeat ((first|refine qA ?_|apply qB|refine qC ?_|apply qD|apply qE|apply qF|apply qG|apply qH);try simp (disch:=(first|omega|(simp only [qI,qJ,qK]<;>omega)|exact qL _)) only [go_sem,KY,HV,dT,LY,NL,xV,xW,xX])
 refine W.drawR (.take 0 (.take 1 (.take 2 (.take 3 (.take 4 (.take 5 (.take 6 (.take 7 (.take 8 (.last 9)))))))))) (NoB) mixed (by kernel_rfl) ?_
 try simp (disch:=(first|omega|(simp only [qI,qJ,qK]<;>omega)|exact qL _)) only [go_sem,KY,HV,dT,LY,NL,xV,xW,xX,MB]
 generalize CK:wr w26.drew (w.heap.size+1) 52 [.bool (t.at 10).null] = w27
 have LW:blk w27 (w.heap.size+1)=some (((A10++(([zI,zS,.bool (t.at 10).null,zS,zS]:List Value)++B10)).toArray),37,(0,0)):=by rw [← CK];exact el_blk (o:=2) (show blk w26.drew (w.heap.size+1)=_ from BO) k7 (Nat.le_of_ble_eq_true rfl)
 have fH:Upd (fun b=>b=w.heap.size+1∨b=w.heap.size+2) w26 w27:=by rw [← CK];exact ((Upd.refl _ _).drew).wr _ _ (.inr (.inl rfl))
 have jJ:Upd (fun b=>b=w.heap.size+1∨b=w.heap.size+2) w1 w27:=l3.trans fH
 have z1:=jJ.size
 have wJ:Ext w w27:=hE1.more jJ fun b hb h=>by omega
 have VF:=wJ.blk_some hb id
 have HW:blk w27 (w.heap.size+2)=some (#[zI,zS,zB,.slice (some ⟨w.heap.size+1,0,none⟩) 12 12,zS],37,(0,0)):=by
  rw [← CK,blk_wr_ne (by omega)]
  exact HV
 clear CK
 obtain ⟨Y27,V6,WO,hYs27⟩:=el_open (n:=5) LW k7 rfl
 have ZW:54≤Y27.size:=by omega
 have WT:Y27[53]? = some (.slice none 0 0):=by rw [V6];exact el_cell (R:=0) k7 (o:=3) (Nat.le_of_ble_eq_true rfl)
 repeat ((first|refine qA ?_|apply qB|refine qC ?_|apply qD|apply qE|apply qF|apply qG|apply qH);try simp (disch:=(first|omega|(simp only [qI,qJ,qK]<;>omega)|exact qL _)) only [go_sem,VF,HW,dT,WO,ZW,WT,xV,xW,xX])
 refine W.exitJ 2 (EndQ [(0,.pointer (some ⟨b,0,none⟩)),(2,.pointer (some ⟨w.heap.size,0,none⟩)),(3,.pointer (some ⟨w.heap.size+2,0,none⟩)),(155,.int .i64 L10.length)] (fun w'=>∃ v,blk w' (w.heap.size+1)=some (((A10++(([zI,zS,.bool (t.at 10).null,v,zS]:List Value)++B10)).toArray),37,(0,0))∧GrowT (fun b=>w1.heap.size≤b) w27.heap.size (w.heap.size+1) w' 37 v (L10.map (tl1 (tlP (d+2)) fQ_10.of fQ_10.sub))∧Upd (fun b=>b=w.heap.size+1) w27 w')) (W.loop (LoopL [(0,.pointer (some ⟨b,0,none⟩)),(2,.pointer (some ⟨w.heap.size,0,none⟩)),(3,.pointer (some ⟨w.heap.size+2,0,none⟩)),(155,.int .i64 L10.length)] 156 (fun j w'=>∃ v,j≤L10.length∧blk w' (w.heap.size+1)=some (((A10++(([zI,zS,.bool (t.at 10).null,v,zS]:List Value)++B10)).toArray),37,(0,0))∧GrowT (fun b=>w1.heap.size≤b) w27.heap.size (w.heap.size+1) w' 37 v ((L10.take j).map (tl1 (tlP (d+2)) fQ_10.of fQ_10.sub))∧Upd (fun b=>b=w.heap.size+1) w27 w')) (fun ρ _=>L10.length - (RowKit.intOf (ρ 156)).toNat) ?_ ?_) ?_
 ·exact ⟨(by simp (disch:=(first|omega|(simp only [qI,qJ,qK]<;>omega)|exact qL _)) only [go_sem,Holds_nil,Holds_cons,xV,xW,xX]),0,(by simp (disch:=(first|omega|(simp only [qI,qJ,qK]<;>omega)|exact qL _)) only [go_sem,xV,xW,xX];all_goals rfl),zS,Nat.zero_le _,LW,GrowT.nil _ _ _ _ _,Upd.refl _ _⟩
 ·rintro ρ w28 ⟨⟨dU,dW,dX,dV,-⟩,j,hri,v,hj,BP,hg,hUk⟩
  have hzk:=hUk.size
  have tW:Ext w w28:=wJ.more hUk fun b hb h=>by omega
  have IG:w1.heap.size≤w28.heap.size:=by have:=z1;omega
  have AW:=tW.blk_some hb id
  have C5:=hUk.blk_some HW (by omega)
  by_cases hlt:j < L10.length
  ·obtain ⟨_,be,oe,xe,ce,hbe,hoke,hxe,hble,hxs,hxx,hqe,hRe⟩:=SlR.get (size:=19) (by decide) xY hlt
   subst hbe
   have hcat:L10.take (j+1)=L10.take j++[L10[j]]:=List.take_succ_eq_append_getElem hlt
   have hgy:=LK.2 _ (List.getElem_mem hlt)
   have hll:=LK.1
   obtain ⟨av,kv,hvs,_⟩:=hg.shape
   have hlj:(List.map (tl1 (tlP (d+2)) fQ_10.of fQ_10.sub) (L10.take j)).length=j:=by simp;omega
   rw [hlj] at hvs
   subst hvs
   have hnb:∀ b,b < w27.heap.size∨w28.heap.size≤b→¬ ownB (.slice av j kv) b:=fun b hb h=>by
    have:=hg.above h
    have:=hg.below h
    omega
   generalize L10[j] = y at *
   obtain ⟨Y28,V7,BS,hYs28⟩:=el_open (n:=5) BP k7 rfl
   have iN:54≤Y28.size:=by omega
   have gQ:Y28[53]? = some (.slice av j kv):=by rw [V7];exact el_cell (R:=0) k7 (o:=3) (Nat.le_of_ble_eq_true rfl)
   repeat ((first|refine qA ?_|apply qB|refine qC ?_|apply qD|apply qE|apply qF|apply qG|apply qH);try simp (disch:=(first|omega|(simp only [qI,qJ,qK]<;>omega)|exact qL _)) only [go_sem,AW,C5,dT,BS,iN,gQ,dU,dW,dX,dV,hri])
   refine W.drawR (.only 0 (.two 1 (.only 2 (.only 3 .done)) 2 (.only 1 (.only 3 .done)))) NoB mixed (by kernel_rfl) ?_
   try simp (disch:=(first|omega|(simp only [qI,qJ,qK]<;>omega)|exact qL _)) only [go_sem,AW,C5,dT,BS,iN,gQ,dU,dW,dX,dV,hri]
   have q0:Upd NoB w28.drew (w28.alloc (.cells #[zB] 4)).drew:=show Upd NoB w28.drew (w28.drew.alloc (.cells #[zB] 4)) from Upd.alloc (Upd.refl _ _) _
   have q1:Upd NoB w28.drew (wr (w28.alloc (.cells #[zB] 4)).drew w28.heap.size 0 [.bool true]):=q0.wr _ _ (.inl (Nat.le_refl _))
   have q2:Upd NoB w28.drew (wr (wr (w28.alloc (.cells #[zB] 4)).drew w28.heap.size 0 [.bool true]) w28.heap.size 0 [zB]):=q1.wr _ _ (.inl (Nat.le_refl _))
   have q3:Upd NoB w28.drew (wr (w28.alloc (.cells #[zB] 4)).drew w28.heap.size 0 [zB]):=q0.wr _ _ (.inl (Nat.le_refl _))
   have q4:Upd NoB w28.drew (wr (wr (w28.alloc (.cells #[zB] 4)).drew w28.heap.size 0 [zB]) w28.heap.size 0 [.bool true]):=q3.wr _ _ (.inl (Nat.le_refl _))
   refine ⟨q0,⟨q1,q2,q2,?_⟩,⟨q3,q4,q4,?_⟩⟩
   ·have pX:Ext w28 (wr (wr (w28.alloc (.cells #[zB] 4)).drew w28.heap.size 0 [.bool true]) w28.heap.size 0 [zB]):=((Upd.refl _ _).drew).trans q2
    generalize (wr (wr (w28.alloc (.cells #[zB] 4)).drew w28.heap.size 0 [.bool true]) w28.heap.size 0 [zB])=w29 at *
    have hzk29:=pX.size
    have AS:Ext w w29:=tW.trans pX
    have FX:=pX.blk_some AW id
    have WL:=pX.blk_some BP id
    have BT:=pX.blk_some BS id
    have HX:=pX.blk_some C5 id
    have DO:=AS.blk_some hxe id
    repeat ((first|refine qA ?_|apply qB|refine qC ?_|apply qD|apply qE|apply qF|apply qG|apply qH);try simp (disch:=(first|omega|(simp only [qI,qJ,qK]<;>omega)|exact qL _)) only [go_sem,FX,BT,iN,gQ,HX,DO,dT,dU,dW,dX,dV,hri])
    refine W.drawR (.take 0 (.take 1 (.take 2 (.take 3 (.take 4 (.take 5 (.take 6 (.take 7 (.take 8 (.take 9 (.take 10 (.take 11 (.take 12 (.only 13 (.only 14 (.only 15 (.take 16 (.take 17 (.last 18))))))))))))))))))) (ownB (.slice av j kv)) mixed (by kernel_rfl) ?_
    try simp (disch:=(first|omega|(simp only [qI,qJ,qK]<;>omega)|exact qL _|(refine hnb _ ?_;first|omega|(simp only [World.size_alloc,size_wr,size_drew]<;>omega)))) only [go_sem,FX,BT,iN,gQ,HX,DO,dT,dU,dW,dX,dV,hri]
    have hxq30:=(Upd.refl _ _:Upd (ownB (.slice av j kv)) w29.drew w29.drew).blk_some (show blk w29.drew be=_ from DO) (hnb _ (.inl (by omega)))
    refine (tellX1_fn (d:=d+1) (ok:=ok) y ce w29.drew (b:=be) (o:=oe+j * 19) hxq30 (fun k hk=>by have:=hqe k hk;rw [← Nat.add_assoc] at this;exact this) ((RepS_lay true _ _).keep (Rep1_part.1 hRe) ((((AS.drew).mono fun _ h=>h.elim).trans (Upd.refl _ _):Upd (ownB (.slice av j kv)) w w29.drew).keeps fun b hb _=>hnb b (.inl (by omega)))) (hgy.2.2 rfl)).mono ?_
    rintro _ w30 ⟨⟨c30,rfl,BC⟩,EA⟩
    obtain ⟨T30,JW⟩:∃ T,T=tlP (d+2) fs_X1 y:=⟨_,rfl⟩
    replace BC:TreeC (fun b=>w29.drew.heap.size≤b) w30 T30 c30:=by rw [JW];exact BC
    obtain ⟨vS30,vL30,vU30,rfl,hn30,F1,SC,U5⟩:=BC.inv
    have k1_30:=F1.flat
    have k2_30:=SlR.flat SC
    have k3_30:=SlR.flat U5
    have JM:Upd (ownB (.slice av j kv)) w29.drew w30:=(Upd.refl _ _).trans (EA.mono fun _ h=>h.elim)
    have ZE:=EA.size
    try simp only [size_drew] at ZE
    refine ⟨JM,?_⟩
    try simp (disch:=(first|omega|(simp only [qI,qJ,qK]<;>omega)|exact qL _|(refine hnb _ ?_;first|omega|(simp only [World.size_alloc,size_wr,size_drew]<;>omega)))) only [go_sem,FX,BT,iN,gQ,HX,DO,dT,dU,dW,dX,dV,hri,k1_30,k2_30,k3_30]
    have JN:Upd (ownB (.slice av j kv)) w29.drew (w30.alloc (.cells #[.int .i64 T30.n,vS30,.bool T30.null,vL30,vU30] 37)):=show Upd (ownB (.slice av j kv)) w29.drew (w30.alloc (.cells #[.int .i64 T30.n,vS30,.bool T30.null,vL30,vU30] 37)) from (JM).alloc _
    have XS:blk (w30.alloc (.cells #[.int .i64 T30.n,vS30,.bool T30.null,vL30,vU30] 37)) w30.heap.size=some (#[.int .i64 T30.n,vS30,.bool T30.null,vL30,vU30],37,(0,0)):=show blk (w30.alloc (.cells #[.int .i64 T30.n,vS30,.bool T30.null,vL30,vU30] 37)) w30.heap.size=some (#[.int .i64 T30.n,vS30,.bool T30.null,vL30,vU30],37,(0,0)) from blk_alloc_new rfl
    have ZF:(w30.alloc (.cells #[.int .i64 T30.n,vS30,.bool T30.null,vL30,vU30] 37)).heap.size=w30.heap.size+1:=show (w30.alloc (.cells #[.int .i64 T30.n,vS30,.bool T30.null,vL30,vU30] 37)).heap.size=w30.heap.size+1 from World.size_alloc _ _
    have J1:Ext w30 (w30.alloc (.cells #[.int .i64 T30.n,vS30,.bool T30.null,vL30,vU30] 37)):=show Ext w30 (w30.alloc (.cells #[.int .i64 T30.n,vS30,.bool T30.null,vL30,vU30] 37)) from Upd.alloc (Upd.refl _ _) _
    refine ⟨JN,?_⟩
    try simp only [List.append_nil]
    generalize (w30.alloc (.cells #[.int .i64 T30.n,vS30,.bool T30.null,vL30,vU30] 37))=w31 at *
    try simp only [size_drew] at ZF
    have E5:Ext w28 w31:=((pX.drew.trans EA).trans J1)
    have hzw32:=E5.size
    obtain ⟨css,hown,hall⟩:=(hg.ext E5).ex
    have hcl:=hall.1
    rw [hlj] at hcl
    have hx32:TreeC (fun b=>(fun b=>w1.heap.size≤b) b∧b≠w.heap.size+1∧¬ ownB (.slice av j kv) b) w31 ((tl1 (tlP (d+2)) fQ_10.of fQ_10.sub) y) [.int .i64 T30.n,vS30,.bool T30.null,vL30,vU30]:=by
     rw [show (tl1 (tlP (d+2)) fQ_10.of fQ_10.sub) y=_ from JW.symm]
     exact TreeC.weaken (fun b _ hk=>⟨by omega,by omega,hnb b (.inr (by omega))⟩) (TreeC.weaken (ok':=fun b=>w28.heap.size≤b) (fun b _ hk=>by have hk':w29.drew.heap.size≤b:=hk;(try simp only [size_drew] at hk');omega) (TreeC.keep (Ext.keeps J1 _) BC))
    refine wp_append ap_34_34 (m:=1) (news:=[.int .i64 T30.n,vS30,.bool T30.null,vL30,vU30]) (n:=css.length) (cs:=css.flatten) (v:=(.slice av j kv)) ?_ rfl hown.1 (all2_flat_tree hall) (Src.blk (fr:=(0,0)) (T:=37) XS rfl (by simp only [List.all_cons,List.all_nil,flat_int,flat_bool,k1_30,k2_30,k3_30,Bool.and_self])) ?_ ?_ ?_
    ·first|rfl|simp (disch:=(first|omega|(simp only [qI,qJ,qK]<;>omega)|exact qL _)) only [go_sem]
    ·omega
    ·omega
    intro v' w32 ho hu hfr
    have zQ:=(JN:Upd (ownB (.slice av j kv)) w29.drew w31).trans hu
    have hzq32:=zQ.size
    simp only [size_drew] at hzq32
    have XI:=zQ.blk_some (show blk w29.drew (w.heap.size+1)=_ from WL) (hnb _ (.inl (by omega)))
    have M4:=zQ.blk_some (show blk w29.drew (w.heap.size+1)=_ from BT) (hnb _ (.inl (by omega)))
    have hg':=GrowT.snoc hown hall hx32 hu hfr ho
    obtain ⟨va,vc,hv',_⟩:=ho.shape
    subst hv'
    have hne:¬ ownB (.slice va (css.length+1) vc) (w.heap.size+1):=fun h=>(hfr _ h).elim (hnb _ (.inl (by omega))) (fun h=>by omega)
    refine ⟨zQ,?_⟩
    try simp (disch:=(first|omega|(simp only [qI,qJ,qK]<;>omega)|exact qL _|(refine hnb _ ?_;first|omega|(simp only [World.size_alloc,size_wr,size_drew]<;>omega)))) only [go_sem,M4,iN,gQ,dU,dW,dX,dV,hri]
    repeat ((first|refine qA ?_|apply qB|refine qC ?_|apply qD|apply qE|apply qF|apply qG|apply qH);try simp (disch:=(first|omega|(simp only [qI,qJ,qK]<;>omega)|exact qL _)) only [go_sem,M4,iN,gQ,dU,dW,dX,dV,hri])
    refine ⟨⟨(by simp (disch:=(first|omega|(simp only [qI,qJ,qK]<;>omega)|exact qL _)) only [go_sem,Holds_nil,Holds_cons,dU,dW,dX,dV,hri]),j+1,(by simp (disch:=(first|omega|(simp only [qI,qJ,qK]<;>omega)|exact qL _)) only [go_sem,dU,dW,dX,dV,hri];all_goals rfl),.slice va (css.length+1) vc,by omega,?_,?_,?_⟩,?_⟩
    ·exact el_blk (o:=3) XI k7 (Nat.le_of_ble_eq_true rfl)
    ·rw [hcat,List.map_append];exact hg'.upd ((Upd.refl _ _).wr _ _ (.inr rfl)) hne
    ·refine Upd.wr ?_ _ _ (.inr rfl)
     exact (hUk.more ((E5.mono fun _ h=>h.elim).trans hu) fun b hb h=>absurd h (hnb b (.inl hb)))
    ·try simp (disch:=(first|omega|(simp only [qI,qJ,qK]<;>omega)|exact qL _)) only [go_sem,dU,dW,dX,dV,hri]
     simp only [RowKit.intOf];omega
   ·have mU:Ext w28 (wr (wr (w28.alloc (.cells #[zB] 4)).drew w28.heap.size 0 [zB]) w28.heap.size 0 [.bool true]):=((Upd.refl _ _).drew).trans q4
    generalize (wr (wr (w28.alloc (.cells #[zB] 4)).drew w28.heap.size 0 [zB]) w28.heap.size 0 [.bool true])=w33 at *
    have hzk33:=mU.size
    have AT:Ext w w33:=tW.trans mU
    have hb33:=mU.blk_some AW id
    have LX:=mU.blk_some BP id
    have u2:=mU.blk_some BS id
    have C6:=mU.blk_some C5 id
    have vI:=AT.blk_some hxe id
    repeat ((first|refine qA ?_|apply qB|refine qC ?_|apply qD|apply qE|apply qF|apply qG|apply qH);try simp (disch:=(first|omega|(simp only [qI,qJ,qK]<;>omega)|exact qL _)) only [go_sem,hb33,u2,iN,gQ,C6,vI,dT,dU,dW,dX,dV,hri])
    refine W.drawR (.take 0 (.take 1 (.take 2 (.take 3 (.take 4 (.take 5 (.take 6 (.take 7 (.take 8 (.take 9 (.take 10 (.take 12 (.two 11 (.only 13 (.only 14 (.take 15 (.take 16 (.last 17))))) 13 (.only 11 (.only 14 (.take 15 (.take 16 (.last 17)))))))))))))))))) (ownB (.slice av j kv)) mixed (by kernel_rfl) ?_
    try simp (disch:=(first|omega|(simp only [qI,qJ,qK]<;>omega)|exact qL _|(refine hnb _ ?_;first|omega|(simp only [World.size_alloc,size_wr,size_drew]<;>omega)))) only [go_sem,hb33,u2,iN,gQ,C6,vI,dT,dU,dW,dX,dV,hri]
    refine ⟨?_,?_⟩
    ·skip
     have hxq34:=(Upd.refl _ _:Upd (ownB (.slice av j kv)) w33.drew w33.drew).blk_some (show blk w33.drew be=_ from vI) (hnb _ (.inl (by omega)))
     refine (tellX1_fn (d:=d+1) (ok:=ok) y ce w33.drew (b:=be) (o:=oe+j * 19) hxq34 (fun k hk=>by have:=hqe k hk;rw [← Nat.add_assoc] at this;exact this) ((RepS_lay true _ _).keep (Rep1_part.1 hRe) ((((AT.drew).mono fun _ h=>h.elim).trans (Upd.refl _ _):Upd (ownB (.slice av j kv)) w w33.drew).keeps fun b hb _=>hnb b (.inl (by omega)))) (hgy.2.2 rfl)).mono ?_
     rintro _ w34 ⟨⟨c34,rfl,BD⟩,EB⟩
     obtain ⟨T34,JX⟩:∃ T,T=tlP (d+2) fs_X1 y:=⟨_,rfl⟩
     replace BD:TreeC (fun b=>w33.drew.heap.size≤b) w34 T34 c34:=by rw [JX];exact BD
     obtain ⟨vS34,vL34,vU34,rfl,hn34,F2,SD,U6⟩:=BD.inv
     have k1_34:=F2.flat
     have k2_34:=SlR.flat SD
     have k3_34:=SlR.flat U6
     have JO:Upd (ownB (.slice av j kv)) w33.drew w34:=(Upd.refl _ _).trans (EB.mono fun _ h=>h.elim)
     have ZG:=EB.size
     try simp only [size_drew] at ZG
     refine ⟨JO,?_⟩
     try simp (disch:=(first|omega|(simp only [qI,qJ,qK]<;>omega)|exact qL _|(refine hnb _ ?_;first|omega|(simp only [World.size_alloc,size_wr,size_drew]<;>omega)))) only [go_sem,hb33,u2,iN,gQ,C6,vI,dT,dU,dW,dX,dV,hri,k1_34,k2_34,k3_34]
     have JP:Upd (ownB (.slice av j kv)) w33.drew (w34.alloc (.cells qZ5 37)):=show Upd (ownB (.slice av j kv)) w33.drew (w34.alloc (.cells qZ5 37)) from (JO).alloc _
     have XT:blk (w34.alloc (.cells qZ5 37)) w34.heap.size=some (qZ5,37,(0,0)):=show blk (w34.alloc (.cells qZ5 37)) w34.heap.size=some (qZ5,37,(0,0)) from blk_alloc_new rfl
     have ZH:(w34.alloc (.cells qZ5 37)).heap.size=w34.heap.size+1:=show (w34.alloc (.cells qZ5 37)).heap.size=w34.heap.size+1 from World.size_alloc _ _
     have J2:Ext w34 (w34.alloc (.cells qZ5 37)):=show Ext w34 (w34.alloc (.cells qZ5 37)) from Upd.alloc (Upd.refl _ _) _
     refine ⟨JP,?_⟩
     try simp only [List.append_nil]
     generalize (w34.alloc (.cells qZ5 37))=w35 at *
     try simp only [size_drew] at ZH
     have E6:Ext w28 w35:=((mU.drew.trans EB).trans J2)
     have hzw36:=E6.size
     obtain ⟨css,hown,hall⟩:=(hg.ext E6).ex
     have hcl:=hall.1
     rw [hlj] at hcl
     have hx36:TreeC (fun b=>(fun b=>w1.heap.size≤b) b∧b≠w.heap.size+1∧¬ ownB (.slice av j kv) b) w35 ((tl1 (tlP (d+2)) fQ_10.of fQ_10.sub) y) [.int .i64 T34.n,vS34,.bool T34.null,vL34,vU34]:=by
      rw [show (tl1 (tlP (d+2)) fQ_10.of fQ_10.sub) y=_ from JX.symm]
      exact TreeC.weaken (fun b _ hk=>⟨by omega,by omega,hnb b (.inr (by omega))⟩) (TreeC.weaken (ok':=fun b=>w28.heap.size≤b) (fun b _ hk=>by have hk':w33.drew.heap.size≤b:=hk;(try simp only [size_drew] at hk');omega) (TreeC.keep (Ext.keeps J2 _) BD))
     refine wp_append ap_34_34 (m:=1) (news:=[zI,zS,zB,zS,zS]) (n:=css.length) (cs:=css.flatten) (v:=(.slice av j kv)) ?_ rfl hown.1 (all2_flat_tree hall) (Src.blk (fr:=(0,0)) (T:=37) XT rfl rfl) ?_ ?_ ?_
     ·first|rfl|simp (disch:=(first|omega|(simp only [qI,qJ,qK]<;>omega)|exact qL _)) only [go_sem]
     ·omega
     ·omega
     intro v' w36 ho hu hfr
     have zR:=(JP:Upd (ownB (.slice av j kv)) w33.drew w35).trans hu
     have hzq36:=zR.size
     simp only [size_drew] at hzq36
     have XJ:=zR.blk_some (show blk w33.drew (w.heap.size+1)=_ from LX) (hnb _ (.inl (by omega)))
     have M5:=zR.blk_some (show blk w33.drew (w.heap.size+1)=_ from u2) (hnb _ (.inl (by omega)))
     rcases ho.2 with ⟨_,h⟩|⟨g,cap,rest,fr,hv',hg',hbg,hlen,hth,hle⟩
     ·exact absurd h (Nat.succ_ne_zero _)
     subst hv'
     have hgne:¬ g=w.heap.size+1:=fun h=>(hfr g ⟨_,_,_,rfl,rfl⟩).elim (fun h'=>hnb _ (.inl (by omega)) (h ▸ h')) (fun h'=>by omega)
     have hfl:css.flatten.length=css.length * 5:=flatten_len hown.2
     have fK:(css.flatten++([zI,zS,zB,zS,zS]:List Value)++rest).length=cap * 5:=by simp only [List.length_append] at hlen ⊢;omega
     obtain ⟨XX,hXX⟩:∃ X:Array Value,X=(css.flatten++([zI,zS,zB,zS,zS]:List Value)++rest).toArray:=⟨_,rfl⟩
     have hbgX:blk w36 g=some (XX,37,fr):=by rw [hXX];exact hbg
     have hXsz:XX.size=cap * 5:=by rw [hXX,List.size_toArray];exact fK
     have dK:thaw fr (css.length * 5) 5=true:=thaw_of hth (by omega)
     have hst:css.length * 5+5≤XX.size:=by omega
     have hset:=Own.setlast (cs:=[.int .i64 T34.n,vS34,.bool T34.null,vL34,vU34]) ho rfl rfl
     have hu2:Upd (ownB (.slice av j kv)) w35 (wr w36 g (css.length * 5) [.int .i64 T34.n,vS34,.bool T34.null,vL34,vU34]):=hu.wr _ _ ((hfr g ⟨_,_,_,rfl,rfl⟩).symm)
     have hg2:=GrowT.snoc hown hall hx36 hu2 hfr hset
     have hcj:css.length=j:=by first|exact hcl.symm.trans hlj|omega
     simp only [hcj] at dK hst hset hu2 hg2
     refine ⟨zR,?_⟩
     try simp (disch:=(first|omega|(simp only [qI,qJ,qK]<;>omega)|exact qL _|(refine hnb _ ?_;first|omega|(simp only [World.size_alloc,size_wr,size_drew]<;>omega)))) only [go_sem,M5,iN,gQ,hbgX,dK,hst,hcj,k1_34,k2_34,k3_34,dU,dW,dX,dV,hri]
     repeat ((first|refine qA ?_|apply qB|refine qC ?_|apply qD|apply qE|apply qF|apply qG|apply qH);try simp (disch:=(first|omega|(simp only [qI,qJ,qK]<;>omega)|exact qL _)) only [go_sem,M5,iN,gQ,hbgX,dK,hst,hcj,k1_34,k2_34,k3_34,dU,dW,dX,dV,hri])
     refine ⟨⟨(by simp (disch:=(first|omega|(simp only [qI,qJ,qK]<;>omega)|exact qL _)) only [go_sem,Holds_nil,Holds_cons,dU,dW,dX,dV,hri]),j+1,(by simp (disch:=(first|omega|(simp only [qI,qJ,qK]<;>omega)|exact qL _)) only [go_sem,dU,dW,dX,dV,hri];all_goals rfl),.slice (some ⟨g,0,none⟩) (j+1) cap,by omega,?_,?_,?_⟩,?_⟩
     ·rw [blk_wr_ne (by omega)];exact el_blk (o:=3) XJ k7 (Nat.le_of_ble_eq_true rfl)
     ·rw [hcat,List.map_append,wr_comm (Ne.symm hgne)]
      exact hg2.upd ((Upd.refl _ _).wr _ _ (.inr rfl)) (fun h=>hgne (ownB_row h).symm)
     ·rw [wr_comm (Ne.symm hgne)]
      refine Upd.wr ?_ _ _ (.inr rfl)
      exact (hUk.more ((E6.mono fun _ h=>h.elim).trans hu2) fun b hb h=>absurd h (hnb b (.inl hb)))
     ·try simp (disch:=(first|omega|(simp only [qI,qJ,qK]<;>omega)|exact qL _)) only [go_sem,dU,dW,dX,dV,hri]
      simp only [RowKit.intOf];omega
    ·skip
     have aa:Upd (ownB (.slice av j kv)) w33.drew (w33.alloc (.cells qZ5 37)).drew:=show Upd (ownB (.slice av j kv)) w33.drew (w33.drew.alloc (.cells qZ5 37)) from (Upd.refl _ _).alloc _
     have XU:blk (w33.alloc (.cells qZ5 37)).drew w33.drew.heap.size=some (qZ5,37,(0,0)):=show blk (w33.drew.alloc (.cells qZ5 37)) w33.drew.heap.size=some (qZ5,37,(0,0)) from blk_alloc_new rfl
     have ZI:(w33.alloc (.cells qZ5 37)).drew.heap.size=w33.drew.heap.size+1:=show (w33.drew.alloc (.cells qZ5 37)).heap.size=w33.drew.heap.size+1 from World.size_alloc _ _
     have RJ:Ext w33.drew (w33.alloc (.cells qZ5 37)).drew:=show Ext w33.drew (w33.drew.alloc (.cells qZ5 37)) from Upd.alloc (Upd.refl _ _) _
     refine ⟨aa,?_⟩
     try simp only [List.append_nil]
     generalize (w33.alloc (.cells qZ5 37)).drew=w37 at *
     try simp only [size_drew] at ZI
     have hxq38:=(aa:Upd (ownB (.slice av j kv)) w33.drew w37).blk_some (show blk w33.drew be=_ from vI) (hnb _ (.inl (by omega)))
     refine (tellX1_fn (d:=d+1) (ok:=ok) y ce w37 (b:=be) (o:=oe+j * 19) hxq38 (fun k hk=>by have:=hqe k hk;rw [← Nat.add_assoc] at this;exact this) ((RepS_lay true _ _).keep (Rep1_part.1 hRe) ((((AT.drew).mono fun _ h=>h.elim).trans (aa):Upd (ownB (.slice av j kv)) w w37).keeps fun b hb _=>hnb b (.inl (by omega)))) (hgy.2.2 rfl)).mono ?_
     rintro _ w38 ⟨⟨c38,rfl,BE⟩,zE⟩
     obtain ⟨T38,JY⟩:∃ T,T=tlP (d+2) fs_X1 y:=⟨_,rfl⟩
     replace BE:TreeC (fun b=>w37.heap.size≤b) w38 T38 c38:=by rw [JY];exact BE
     obtain ⟨vS38,vL38,vU38,rfl,hn38,SZ,SE,U7⟩:=BE.inv
     have k1_38:=SZ.flat
     have k2_38:=SlR.flat SE
     have k3_38:=SlR.flat U7
     have JQ:Upd (ownB (.slice av j kv)) w33.drew w38:=(aa).trans (zE.mono fun _ h=>h.elim)
     have ZJ:=zE.size
     try simp only [size_drew] at ZJ
     refine ⟨JQ,?_⟩
     try simp (disch:=(first|omega|(simp only [qI,qJ,qK]<;>omega)|exact qL _|(refine hnb _ ?_;first|omega|(simp only [World.size_alloc,size_wr,size_drew]<;>omega)))) only [go_sem,hb33,u2,iN,gQ,C6,vI,dT,dU,dW,dX,dV,hri,k1_38,k2_38,k3_38]
     have E7:Ext w28 w38:=((mU.drew.trans RJ).trans zE)
     have hzw39:=E7.size
     obtain ⟨css,hown,hall⟩:=(hg.ext E7).ex
     have hcl:=hall.1
     rw [hlj] at hcl
     have hx39:TreeC (fun b=>(fun b=>w1.heap.size≤b) b∧b≠w.heap.size+1∧¬ ownB (.slice av j kv) b) w38 ((tl1 (tlP (d+2)) fQ_10.of fQ_10.sub) y) [.int .i64 T38.n,vS38,.bool T38.null,vL38,vU38]:=by
      rw [show (tl1 (tlP (d+2)) fQ_10.of fQ_10.sub) y=_ from JY.symm]
      exact TreeC.weaken (fun b _ hk=>⟨by omega,by omega,hnb b (.inr (by omega))⟩) (TreeC.weaken (ok':=fun b=>w28.heap.size≤b) (fun b _ hk=>by have hk':w37.heap.size≤b:=hk;(try simp only [size_drew] at hk');omega) BE)
     refine wp_append ap_34_34 (m:=1) (news:=[zI,zS,zB,zS,zS]) (n:=css.length) (cs:=css.flatten) (v:=(.slice av j kv)) ?_ rfl hown.1 (all2_flat_tree hall) (Src.blk (fr:=(0,0)) (T:=37) (zE.blk_some XU id) rfl rfl) ?_ ?_ ?_
     ·first|rfl|simp (disch:=(first|omega|(simp only [qI,qJ,qK]<;>omega)|exact qL _)) only [go_sem]
     ·omega
     ·omega
     intro v' w39 ho hu hfr
     have ac:=(JQ:Upd (ownB (.slice av j kv)) w33.drew w38).trans hu
     have hzq39:=ac.size
     simp only [size_drew] at hzq39
     have XK:=ac.blk_some (show blk w33.drew (w.heap.size+1)=_ from LX) (hnb _ (.inl (by omega)))
     have M6:=ac.blk_some (show blk w33.drew (w.heap.size+1)=_ from u2) (hnb _ (.inl (by omega)))
     rcases ho.2 with ⟨_,h⟩|⟨g,cap,rest,fr,hv',hg',hbg,hlen,hth,hle⟩
     ·exact absurd h (Nat.succ_ne_zero _)
     subst hv'
     have hgne:¬ g=w.heap.size+1:=fun h=>(hfr g ⟨_,_,_,rfl,rfl⟩).elim (fun h'=>hnb _ (.inl (by omega)) (h ▸ h')) (fun h'=>by omega)
     have hfl:css.flatten.length=css.length * 5:=flatten_len hown.2
     have fK:(css.flatten++([zI,zS,zB,zS,zS]:List Value)++rest).length=cap * 5:=by simp only [List.length_append] at hlen ⊢;omega
     obtain ⟨XX,hXX⟩:∃ X:Array Value,X=(css.flatten++([zI,zS,zB,zS,zS]:List Value)++rest).toArray:=⟨_,rfl⟩
     have hbgX:blk w39 g=some (XX,37,fr):=by rw [hXX];exact hbg
     have hXsz:XX.size=cap * 5:=by rw [hXX,List.size_toArray];exact fK
     have dK:thaw fr (css.length * 5) 5=true:=thaw_of hth (by omega)
     have hst:css.length * 5+5≤XX.size:=by omega
     have hset:=Own.setlast (cs:=[.int .i64 T38.n,vS38,.bool T38.null,vL38,vU38]) ho rfl rfl
     have hu2:Upd (ownB (.slice av j kv)) w38 (wr w39 g (css.length * 5) [.int .i64 T38.n,vS38,.bool T38.null,vL38,vU38]):=hu.wr _ _ ((hfr g ⟨_,_,_,rfl,rfl⟩).symm)
     have hg2:=GrowT.snoc hown hall hx39 hu2 hfr hset
     have hcj:css.length=j:=by first|exact hcl.symm.trans hlj|omega
     simp only [hcj] at dK hst hset hu2 hg2
     refine ⟨ac,?_⟩
     try simp (disch:=(first|omega|(simp only [qI,qJ,qK]<;>omega)|exact qL _|(refine hnb _ ?_;first|omega|(simp only [World.size_alloc,size_wr,size_drew]<;>omega)))) only [go_sem,M6,iN,gQ,hbgX,dK,hst,hcj,k1_38,k2_38,k3_38,dU,dW,dX,dV,hri]
     repeat ((first|refine qA ?_|apply qB|refine qC ?_|apply qD|apply qE|apply qF|apply qG|apply qH);try simp (disch:=(first|omega|(simp only [qI,qJ,qK]<;>omega)|exact qL _)) only [go_sem,M6,iN,gQ,hbgX,dK,hst,hcj,k1_38,k2_38,k3_38,dU,dW,dX,dV,hri])
     refine ⟨⟨(by simp (disch:=(first|omega|(simp only [qI,qJ,qK]<;>omega)|exact qL _)) only [go_sem,Holds_nil,Holds_cons,dU,dW,dX,dV,hri]),j+1,(by simp (disch:=(first|omega|(simp only [qI,qJ,qK]<;>omega)|exact qL _)) only [go_sem,dU,dW,dX,dV,hri];all_goals rfl),.slice (some ⟨g,0,none⟩) (j+1) cap,by omega,?_,?_,?_⟩,?_⟩
     ·rw [blk_wr_ne (by omega)];exact el_blk (o:=3) XK k7 (Nat.le_of_ble_eq_true rfl)
     ·rw [hcat,List.map_append,wr_comm (Ne.symm hgne)]
      exact hg2.upd ((Upd.refl _ _).wr _ _ (.inr rfl)) (fun h=>hgne (ownB_row h).symm)
     ·rw [wr_comm (Ne.symm hgne)]
      refine Upd.wr ?_ _ _ (.inr rfl)
      exact (hUk.more ((E7.mono fun _ h=>h.elim).trans hu2) fun b hb h=>absurd h (hnb b (.inl hb)))
     ·try simp (disch:=(first|omega|(simp only [qI,qJ,qK]<;>omega)|exact qL _)) only [go_sem,dU,dW,dX,dV,hri]
      simp only [RowKit.intOf];omega
  ·have hjn:j=L10.length:=by omega
   subst hjn
   rw [List.take_length] at hg
   repeat ((first|refine qA ?_|apply qB|refine qC ?_|apply qD|apply qE|apply qF|apply qG|apply qH);try simp (disch:=(first|omega|(simp only [qI,qJ,qK]<;>omega)|exact qL _)) only [go_sem,dU,dW,dX,dV,hri])
   exact ⟨(by simp (disch:=(first|omega|(simp only [qI,qJ,qK]<;>omega)|exact qL _)) only [go_sem,Holds_nil,Holds_cons,dU,dW,dX,dV,hri]),v,BP,hg,hUk⟩
 rintro ρ w40 ⟨⟨sE,sF,sG,hrd10_155,-⟩,v,GK,LJ,KI⟩
 have gO:Upd (fun b=>b=w.heap.size+1∨b=w.heap.size+2) w27 w40:=KI.mono fun _ h=>.inl h
 have iR:Upd (fun b=>b=w.heap.size+1∨b=w.heap.size+2) w1 w40:=jJ.trans gO
 have IH:=iR.size
 have wK:Ext w w40:=hE1.more iR fun b hb h=>by omega
 have AX:=wK.blk_some hb id
 have yA:=KI.blk_some HW (by omega)
 obtain ⟨av10,kv10,hvs,_⟩:=LJ.shape
 subst hvs
 have VW:TreeC (fun b=>w1.heap.size≤b) w40 (.mk 0 [] (t.at 10).null (L10.map (tl1 (tlP (d+2)) fQ_10.of fQ_10.sub)) []) [zI,zS,.bool (t.at 10).null,.slice av10 (List.map (tl1 (tlP (d+2)) fQ_10.of fQ_10.sub) L10).length kv10,zS]:=TreeC.intro rfl (BytesV.nil _ _) (LJ.trees (fun _ _ h=>h) (fun b hb=>by have:=z1;omega)) (tagsN _ _)
 have S5:=Y0 w40 _ (tlF (tlP (d+2)) fQ_10 (t.at 10)) rfl GK (by rw [show tlF (tlP (d+2)) fQ_10 (t.at 10) = .mk 0 [] (t.at 10).null ((if (t.at 10).null=true then [] else (t.at 10).l).map (tl1 (tlP (d+2)) fQ_10.of fQ_10.sub)) [] from rfl,← EM];exact VW) (((fH.trans gO)).keeps fun b hb hk e=>by have hk':w1.heap.size≤b:=hk;omega)
 obtain ⟨A11,B11,z6,GK,YA⟩:=S5.next (by decide)
 replace z6:A11.length=55:=z6
 obtain ⟨Y40,V8,wX,hYs40⟩:=el_open (n:=5) GK z6 rfl
 have y8:60≤Y40.size:=by omega
 repeat ((first|refine qA ?_|apply qB|refine qC ?_|apply qD|apply qE|apply qF|apply qG|apply qH);try simp (disch:=(first|omega|(simp only [qI,qJ,qK]<;>omega)|exact qL _)) only [go_sem,AX,yA,lD,wX,y8,sE,sF,sG])
 refine W.drawR (.take 0 (.take 1 (.take 2 (.take 3 (.take 4 (.take 5 (.only 6 (.only 7 (.take 8 (.last 9)))))))))) (NoB) mixed (by kernel_rfl) ?_
 try simp (disch:=(first|omega|(simp only [qI,qJ,qK]<;>omega)|exact qL _)) only [go_sem,AX,yA,lD,wX,y8,sE,sF,sG]
 refine wp_octets (S:=9) (T:=22) (E:=5) (s:=(t.at 11).s) (by kernel_rfl) (by kernel_rfl) (by kernel_rfl) (by first|rfl|simp (disch:=(first|omega|(simp only [qI,qJ,qK]<;>omega)|exact qL _)) only [go_sem,AX,yA,lD,wX,y8,sE,sF,sG]) ?_
 intro a41 k41 w41 QD J3
 have vR:Upd NoB w40.drew w41:=(Upd.refl _ _).trans (J3.mono fun _ h=>h.elim)
 have ZK:=J3.size
 try simp only [size_drew] at ZK
 refine ⟨vR,?_⟩
 try simp (disch:=(first|omega|(simp only [qI,qJ,qK]<;>omega)|exact qL _)) only [go_sem,AX,yA,lD,wX,y8,sE,sF,sG]
 refine ⟨vR,?_⟩
 have H1:=vR.blk_some (show blk w40.drew (w.heap.size+1)=_ from wX) id
 have hx42:Upd (fun b=>b=w.heap.size+1∨b=w.heap.size+2) w40 w41:=((Upd.refl _ _).drew).trans (vR.mono fun _ h=>h.elim)
 try simp (disch:=(first|omega|(simp only [qI,qJ,qK]<;>omega)|exact qL _)) only [go_sem,H1,y8]
 rw [V8] at H1
 generalize CS:wr w41 (w.heap.size+1) 55 [zI,.slice (some a41) ((t.at 11).s).length k41,zB,zS,zS] = w42
 have WM:blk w42 (w.heap.size+1)=some (((A11++(([zI,.slice (some a41) ((t.at 11).s).length k41,zB,zS,zS]:List Value)++B11)).toArray),37,(0,0)):=by rw [← CS];exact el_blk0 H1 z6 (Nat.le_of_ble_eq_true rfl)
 have OL:Upd (fun b=>b=w.heap.size+1∨b=w.heap.size+2) w41 w42:=by rw [← CS];exact (Upd.refl _ _).wr _ _ (.inr (.inl rfl))
 have l9:Upd (fun b=>b=w.heap.size+1∨b=w.heap.size+2) w40 w42:=hx42.trans OL
 have jK:Upd (fun b=>b=w.heap.size+1∨b=w.heap.size+2) w1 w42:=iR.trans l9
 have z2:=jK.size
 have tX:Ext w w42:=hE1.more jK fun b hb h=>by omega
 have LA:=tX.blk_some hb id
 have C7:blk w42 (w.heap.size+2)=some (#[zI,zS,zB,.slice (some ⟨w.heap.size+1,0,none⟩) 12 12,zS],37,(0,0)):=by
  rw [← CS,blk_wr_ne (by omega)]
  exact vR.blk_some (show blk w40.drew (w.heap.size+2)=_ from yA) id
 clear CS
 have VX:TreeC (fun b=>w1.heap.size≤b) w42 (.oct false (t.at 11).s) [zI,.slice (some a41) ((t.at 11).s).length k41,zB,zS,zS]:=(TreeC.keep (OL.keeps fun b hb hk e=>by have hk':w1.heap.size≤b:=hk;omega) (TreeC.intro rfl (QD.weaken fun b _ hk=>by have hk':w40.drew.heap.size≤b:=hk;(try simp only [size_drew] at hk');omega) (treesN _ _) (tagsN _ _):TreeC (fun b=>w1.heap.size≤b) w41 (.oct false (t.at 11).s) [zI,.slice (some a41) ((t.at 11).s).length k41,zB,zS,zS]))
 have S6:=YA w42 _ (tlF (tlP (d+2)) fQ_11 (t.at 11)) rfl WM (VX) ((l9).keeps fun b hb hk e=>by have hk':w1.heap.size≤b:=hk;omega)
 repeat ((first|refine qA ?_|apply qB|refine qC ?_|apply qD|apply qE|apply qF|apply qG|apply qH);try simp (disch:=(first|omega|(simp only [qI,qJ,qK]<;>omega)|exact qL _)) only [go_sem,LA,C7,sE,sF,sG])
 refine (EachG_fn (ok:=fun b=>b < w.heap.size) 33 ca_33 #[.pointer (some ⟨w.heap.size+2,0,none⟩)] w42 (tb:=b) (to:=15) LA lU ((hT.weaken fun b hb _=>hb).keep (tX.keeps _)) (sortT_perm _) (sortT_lt hgu.2.1) (by rw [(sortT_perm t.u).length_eq];exact hgu.1)
  (fun b=>b=w.heap.size+2) (by omega) (fun b hb hk e=>by have hk':b < w.heap.size:=hk;omega) (fun b hb=>by have:=blk_lt C7;omega)
  (fun wl done w'=>∃ v,blk w' (w.heap.size+2)=some (#[zI,zS,zB,.slice (some ⟨w.heap.size+1,0,none⟩) 12 12,v],37,(0,0))∧GrowU (fun b=>w1.heap.size≤b) wl.heap.size (w.heap.size+2) w' 62 v done) (fun wl hE=>⟨_,hE.blk_some C7 id,GrowU.nil _ _ _ _ _⟩) ?_).mono ?_
 ·rintro wl hE done y vv wc hpre ⟨v,hbv,hg⟩ hU hvv hy
  have hz':=hE.size
  have hzu:=hU.size
  have htl:=blk_lt C7
  have hpl:=hpre.length_le
  simp only [List.length_append,List.length_cons,List.length_nil] at hpl
  rw [(sortT_perm t.u).length_eq] at hpl
  have hlu:=hgu.1
  have hmy:y∈t.u:=(sortT_perm t.u).mem_iff.1 (hpre.subset (by simp))
  refine (tagclQ_fn (ok:=fun b=>b < w.heap.size) _ _ _ _ v done y vv wc hbv hg hzu (by omega) (hvv.keep ((hE.mono (fun _ h=>h.elim) |>.trans hU:Upd (fun b=>b=w.heap.size+2) w42 wc).keeps fun b _ hk e=>by have hk':b < w.heap.size:=hk;omega)) hy (hgu.2.2 y hmy) (by omega) (fun b hb=>by have:=z2;omega)).mono ?_
  rintro _ w2' ⟨⟨v',h1,h2⟩,h3⟩
  exact ⟨⟨v',h1,h2⟩,hU.trans' h3 fun b hb h=>h.elim id fun h=>by omega⟩
 rintro _ w43 ⟨wl,hEl,⟨v,NQ,hgU⟩,hUe⟩
 have hzl:=hEl.size
 obtain ⟨aU,kU,hvs,_⟩:=hgU.shape
 subst hvs
 have gJ:Upd (fun b=>b=w.heap.size+1∨b=w.heap.size+2) w42 w43:=(hEl.mono fun _ h=>h.elim).trans (hUe.mono fun _ h=>.inr h)
 have iS:Upd (fun b=>b=w.heap.size+1∨b=w.heap.size+2) w1 w43:=jK.trans gJ
 have DS:=iS.size
 have wL:Ext w w43:=hE1.more iS fun b hb h=>by omega
 have VG:=wL.blk_some hb id
 have hJe:TJ (fun b=>w1.heap.size≤b) (w.heap.size+1) 37 12 12 _ w43:=S6.keep ((hEl.mono fun _ h=>h.elim).trans hUe:Upd (fun b=>b=w.heap.size+2) w42 w43) (by omega) (((hEl.mono fun _ h=>h.elim).trans hUe:Upd (fun b=>b=w.heap.size+2) w42 w43).keeps fun b hb hk e=>by have hk':w1.heap.size≤b:=hk;omega)
 have hTU:=hgU.tags (ok':=(fun b=>w1.heap.size≤b)) (fun _ _ h=>h) (fun b hb=>by have:=z2;omega)
 repeat ((first|refine qA ?_|apply qB|refine qC ?_|apply qD|apply qE|apply qF|apply qG|apply qH);try simp (disch:=(first|omega|(simp only [qI,qJ,qK]<;>omega)|exact qL _)) only [go_sem,VG,NQ,sE,sF,sG,cellsAt_five])
 refine (sorted_fn _ _ w43 hTU (sortT_lt hgu.2.1) (by rw [(sortT_perm t.u).length_eq];exact hgu.1)).mono ?_
 rintro _ w44 hEs
 have gK:Upd (fun b=>b=w.heap.size+1∨b=w.heap.size+2) w43 w44:=hEs.mono fun _ h=>h.elim
 have fE:Upd (fun b=>b=w.heap.size+1∨b=w.heap.size+2) w1 w44:=iS.trans gK
 have DT:=fE.size
 have tY:Ext w w44:=hE1.more fE fun b hb h=>by omega
 have VH:=tY.blk_some hb id
 have hJy:=hJe.keep hEs id (Ext.keeps hEs _)
 have ht44:=hEs.blk_some NQ id
 have YW:=(fE.blk_some hr1 (by omega))
 have hTL:TreesV (fun b=>(fun b=>w1.heap.size≤b) b∨b=w.heap.size+1) w44 (.slice (some ⟨w.heap.size+1,0,none⟩) 12 12) [tlF (tlP (d+2)) fQ_0 (t.at 0),tlF (tlP (d+2)) fQ_1 (t.at 1),tlF (tlP (d+2)) fQ_2 (t.at 2),tlF (tlP (d+2)) fQ_3 (t.at 3),tlF (tlP (d+2)) fQ_4 (t.at 4),tlF (tlP (d+2)) fQ_5 (t.at 5),tlF (tlP (d+2)) fQ_6 (t.at 6),tlF (tlP (d+2)) fQ_7 (t.at 7),tlF (tlP (d+2)) fQ_8 (t.at 8),tlF (tlP (d+2)) fQ_9 (t.at 9),tlF (tlP (d+2)) fQ_10 (t.at 10),tlF (tlP (d+2)) fQ_11 (t.at 11)]:=hJy.trees
 repeat ((first|refine qA ?_|apply qB|refine qC ?_|apply qD|apply qE|apply qF|apply qG|apply qH);try simp (disch:=(first|omega|(simp only [qI,qJ,qK]<;>omega)|exact qL _)) only [go_sem,VH,ht44,sE,sF,sG,YW,cellsAt_five])
 refine ⟨⟨_,rfl,?_⟩,tY.wr _ _ (.inl (Nat.le_refl _))⟩
 have hUr:Upd (fun b=>b=w.heap.size) w44 (wr w44 w.heap.size 0 [zI,zS,zB,.slice (some ⟨w.heap.size+1,0,none⟩) 12 12,.slice aU (sortT t.u).length kU]):=(Upd.refl _ _).wr _ _ (.inr rfl)
 have lI:=hTU.keep (hEs.keeps _)
 exact TreeC.intro rfl (BytesV.nil _ _) ((hTL.keep (hUr.keeps fun b _ hk e=>by rcases hk with hk|hk<;>omega)).weaken fun b _ hk=>by rcases hk with hk|hk<;>omega) ((lI.keep (hUr.keeps fun b _ hk e=>by omega)).weaken fun b _ hk=>by omega)
end Ms

