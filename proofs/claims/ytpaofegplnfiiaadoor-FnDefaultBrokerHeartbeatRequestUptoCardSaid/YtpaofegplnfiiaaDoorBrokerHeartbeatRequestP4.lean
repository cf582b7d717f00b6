/- A part of the proof: see the last text. -/
import Derived.Test.YtpaofegplnfiiaaDoorC05
import Derived.Test.YtpaofegplnfiiaaDoorC06
import Derived.Test.YtpaofegplnfiiaaDoorC09
import Derived.Test.YtpaofegplnfiiaaDoorC10
import Derived.Test.YtpaofegplnfiiaaDoorBrokerHeartbeatRequestP0
import Derived.Test.YtpaofegplnfiiaaDoorBrokerHeartbeatRequestP2
import Derived.Test.YtpaofegplnfiiaaDoorBrokerHeartbeatRequestP3
set_option linter.unusedSimpArgs false
set_option linter.unusedVariables false
namespace Ms
open Go.World renaming size_alloc → qI
open Ms renaming size_wr → qJ,size_drew → qK,not_noB → qL
open W renaming seqR → qA,seq → qB,regR → qC,condK → qD,block → qE,skip → qF,ret → qG,exit → qH
open Nat renaming reduceEqDiff → n0,reduceAdd → n1,reduceMul → n2,reduceSub → n3,reduceLT → n4,reduceLeDiff → n5
open Int renaming reduceEq → i0,reduceLT → i1,reduceLE → i2,reduceNeg → i3,reduceAdd → i4,reduceSub → i5,reduceMul → i6,reduceToNat → i7
set_option maxRecDepth 8000
open Go Go.Proofs Go.Shelf
attribute [local congr] W_congr WPsq_congr WPp_congr optK_congr addrK_congr intK_congr boolK_congr sliceK_congr tupleK_congr funcK_congr Fn_congr rawK_congr takeK_congr stepK_congr convK_congr aggK_congr

set_option maxHeartbeats 4000000 in
theorem DefSetQ_fn {d:Nat} {ok:Blocks} {ver:Int} (t:Tree) (cells:List Value) (w:World) {vb:Nat} (hb:blk w vb=some ((.int .i16 ver :: cells).toArray,69,(0,0))) (hok:∀ b,ok b→b≠vb) (hR:RepS true (d+1) fsr_Q ok w t cells) :
  Fn Tryd.prog 17 #[.pointer (some ⟨vb,0,none⟩)] w fun _ w'=>(∃ cells',blk w' vb=some ((.int .i16 ver :: cells').toArray,69,(0,0))∧RepS true (d+1) fsr_Q ok w' (setDf fsr_Q t) cells')∧Upd (fun b=>b=vb) w w':=by
 obtain ⟨cs0,q,hcs,hL,hT⟩:=hR.inv
 obtain ⟨c0,e0,rfl,h0,c1,e1,rfl,h1,c2,e2,rfl,h2,c3,e3,rfl,h3,c4,e4,rfl,h4,c5,e5,rfl,h5,c6,e6,rfl,h6,rfl⟩:=hL
 replace h0:RepF (RepS true d) (szS true d) fQ_0 ok w (t.at 0) c0:=h0
 replace h1:RepF (RepS true d) (szS true d) fQ_1 ok w (t.at 1) c1:=h1
 replace h2:RepF (RepS true d) (szS true d) fQ_2 ok w (t.at 2) c2:=h2
 replace h3:RepF (RepS true d) (szS true d) fQ_3 ok w (t.at 3) c3:=h3
 replace h4:RepF (RepS true d) (szS true d) fQ_4 ok w (t.at 4) c4:=h4
 replace h5:RepF (RepS true d) (szS true d) fQ_5 ok w (t.at 5) c5:=h5
 replace h6:RepF (RepS true d) (szS true d) frQ_6 ok w (t.at 6) c6:=h6
 obtain rfl:=(RepF_num (by decide)).1 h0
 obtain rfl:=(RepF_num (by decide)).1 h1
 obtain rfl:=(RepF_num (by decide)).1 h2
 obtain rfl:=(RepF_num (by decide)).1 h3
 obtain rfl:=(RepF_num (by decide)).1 h4
 obtain ⟨ab5,ac5,L5,rfl,hL5,lW,hs5⟩:=RepF_listT rfl h5
 obtain ⟨ab6,ac6,L6,rfl,hL6,lX,hs6⟩:=RepF_listT rfl h6
 obtain ⟨qm,rfl⟩:=hT.shape
 subst hcs
 have hvl:=blk_lt hb
 simp only [List.append_eq,List.cons_append,List.nil_append,List.append_nil] at hb
 refine (DefaultQ_fn w hb).mono ?_
 rintro _ w' ⟨hb',hU⟩
 have hK:Keeps ok w w':=hU.keeps fun b _ hk e=>hok b hk e
 refine ⟨⟨[.int .i32 (IntKind.i32.wrap (t.at 0).n),.int .i64 (-1:Int),.int .i64 (t.at 2).n,.bool (decide ((t.at 3).n % 2=1)),.bool (decide ((t.at 4).n % 2=1)),.slice ab5 L5.length ac5,.slice ab6 L6.length ac6]++[.map qm],hb',RepS.mk' (RepL.cons1 (show RepF (RepS true d) (szS true d) fQ_0 ok w' ((setDf fsr_Q t).at 0) _ from ((RepF_lay fQ_0 fun _=>RepS_lay true d _).keep h0 hK)) (RepL.cons1 (show RepF (RepS true d) (szS true d) fQ_1 ok w' ((setDf fsr_Q t).at 1) _ from ((RepF_num (by decide)).2 rfl)) (RepL.cons1 (show RepF (RepS true d) (szS true d) fQ_2 ok w' ((setDf fsr_Q t).at 2) _ from ((RepF_lay fQ_2 fun _=>RepS_lay true d _).keep h2 hK)) (RepL.cons1 (show RepF (RepS true d) (szS true d) fQ_3 ok w' ((setDf fsr_Q t).at 3) _ from ((RepF_lay fQ_3 fun _=>RepS_lay true d _).keep h3 hK)) (RepL.cons1 (show RepF (RepS true d) (szS true d) fQ_4 ok w' ((setDf fsr_Q t).at 4) _ from ((RepF_lay fQ_4 fun _=>RepS_lay true d _).keep h4 hK)) (RepL.cons1 (show RepF (RepS true d) (szS true d) fQ_5 ok w' ((setDf fsr_Q t).at 5) _ from ((RepF_lay fQ_5 fun _=>RepS_lay true d _).keep h5 hK)) (RepL.cons1 (show RepF (RepS true d) (szS true d) frQ_6 ok w' ((setDf fsr_Q t).at 6) _ from ((RepF_lay frQ_6 fun _=>RepS_lay true d _).keep h6 hK)) RepL.nil))))))) (TagsM.keep hT hK)⟩,hU⟩

set_option maxHeartbeats 2000000 in
theorem DefDQ_fn {d:Nat} {ok:Blocks} {ev:Value} (ver:Nat) (hv:ver≤2) (b:Value) (s:List UInt8) (w:World) (hb:BytesV ok w b s) (hG:Glo ev w) (hs:s.length≤2 ^ 40) (fin:Tree × St) (hfin:fin=rdM d ver (flexB 0 ver) fsr_Q (some s)) (hst:fin.2≠none) (hgood:GoodP (d+1) fsr_Q (setDf fsr_Q fin.1)) (hev:∃ T p,ev = .iface T p) (honce:flexB 0 ver=true→onceM d ver fsr_Q (some s)) :
  Fn Tryd.prog 8 #[.int .i64 ver,b] w fun r w'=>(∃ c,r = .tuple #[.agg c.toArray,.bool true]∧TreeC AnyB w' (tlP (d+1) fsr_Q (setDf fsr_Q fin.1)) c)∧Ext w w':=by
 obtain ⟨ba,bc,rfl,_⟩:=hb.shape
 have hgl:=hG.lt
 have ew:IntKind.i16.wrap (ver:Int)=ver:=i16_wrap (by omega)
 have hE0:Ext w (w.alloc (.cells qZ5 37)):=Upd.alloc (Upd.refl _ _) _
 have hz0:(w.alloc (.cells qZ5 37)).heap.size=w.heap.size+1:=World.size_alloc _ _
 have hr0:blk (w.alloc (.cells qZ5 37)) w.heap.size=some (qZ5,37,(0,0)):=blk_alloc_new rfl
 refine fn_of_W Tryd.func8 rfl Tryd.results8 Tryd.ntmps8 rfl ?_
 repeat ((first|refine qA rfl ?_|apply qB|refine qC rfl ?_|apply qD|apply qE|apply qF|apply qG|apply qH);try simp (maxSteps:=1000000)(disch:=(first|omega|(simp only [qI,qJ,qK]<;>omega)|exact qL _)) only [go_sem,↓reduceIte,n0,reduceCtorEq,n1,n2,n3,n4,n5,i0,i1,i2,i3,i4,i5,i6,i7,ew])
 generalize (w.alloc (.cells qZ5 37))=w0 at *
 refine (NewPtrQ_fn w0).mono ?_
 rintro _ w1 ⟨rfl,hb1,hE1⟩
 have hz1:=blk_lt hb1
 repeat ((first|refine qA rfl ?_|apply qB|refine qC rfl ?_|apply qD|apply qE|apply qF|apply qG|apply qH);try simp (maxSteps:=1000000)(disch:=(first|omega|(simp only [qI,qJ,qK]<;>omega)|exact qL _)) only [go_sem,↓reduceIte,n0,reduceCtorEq,n1,n2,n3,n4,n5,i0,i1,i2,i3,i4,i5,i6,i7,ew])
 refine (SetVersionQ_fn w1 (vb:=w0.heap.size) ver hb1).mono ?_
 rintro _ w2 ⟨hb2,hU2⟩
 have hz2:=hU2.size
 have hE2:Ext w0 w2:=hE1.more hU2 fun b hb h=>by omega
 repeat ((first|refine qA rfl ?_|apply qB|refine qC rfl ?_|apply qD|apply qE|apply qF|apply qG|apply qH);try simp (maxSteps:=1000000)(disch:=(first|omega|(simp only [qI,qJ,qK]<;>omega)|exact qL _)) only [go_sem,↓reduceIte,n0,reduceCtorEq,n1,n2,n3,n4,n5,i0,i1,i2,i3,i4,i5,i6,i7,ew])
 refine wp_copyN ap_22_22 (ok:=ok) (s:=s) (v:=.slice ba _ bc) (by first|rfl|simp (maxSteps:=1000000)(disch:=(first|omega|(simp only [qI,qJ,qK]<;>omega)|exact qL _)) only [go_sem,↓reduceIte,n0,reduceCtorEq,n1,n2,n3,n4,n5,i0,i1,i2,i3,i4,i5,i6,i7]) (by first|rfl|simp (maxSteps:=1000000)(disch:=(first|omega|(simp only [qI,qJ,qK]<;>omega)|exact qL _)) only [go_sem,↓reduceIte,n0,reduceCtorEq,n1,n2,n3,n4,n5,i0,i1,i2,i3,i4,i5,i6,i7]) (hb.keep (Ext.keeps (hE0.trans hE2) _)) (by omega) ?_
 intro v3 w3 ho3 hE3 hf3
 have hz3:=hE3.size
 have hb3:=hE3.blk_some hb2 id
 have hE03:Ext w0 w3:=hE2.trans hE3
 have hG3:Glo ev w3:=hG.updS (hE0.trans hE03) id id
 obtain ⟨a3,c3,rfl,_⟩:=ho3.shape
 try simp (maxSteps:=1000000)(disch:=(first|omega|(simp only [qI,qJ,qK]<;>omega)|exact qL _)) only [go_sem,↓reduceIte,n0,reduceCtorEq,n1,n2,n3,n4,n5,i0,i1,i2,i3,i4,i5,i6,i7]
 refine (ReadFromQ_fn (d:=d) (ok:=fun b=>b < w3.heap.size∧b≠w0.heap.size) (ev:=ev) (ver:=ver) (by omega) (by omega) w3 _ _ hb3 ((Own.bytes ho3 hf3).weaken fun b hb hk=>⟨hb,by omega⟩) (fun b hb=>hb) hG3 ⟨by omega,by omega⟩ hev honce).mono ?_
 rw [← hfin]
 rintro r4 w4 ⟨h4n,h4s,hU4⟩
 have hz4:=hU4.size
 have hE4:Ext w0 w4:=hE03.more hU4 fun b hb h=>by omega
 have hr4:=hE4.blk_some hr0 id
 obtain ⟨rfl,cells,hb4,hR4⟩:=h4s hst
 repeat (first|simp (maxSteps:=1000000)(disch:=(first|omega|(simp only [qI,qJ,qK]<;>omega)|exact qL _)) only [go_sem,↓reduceIte,n0,reduceCtorEq,n1,n2,n3,n4,n5,i0,i1,i2,i3,i4,i5,i6,i7,hr4]|refine qA rfl ?_|apply qB|refine qC rfl ?_|apply qD|apply qE|apply qF|apply qG|apply qH)
 have pN:∀ b,okN (fun b=>b < w3.heap.size∧b≠w0.heap.size) w3.heap.size b→b≠w0.heap.size:=fun b hb=>by
  rcases hb with hb|hb
  ·exact hb.2
  ·omega
 refine (DefSetQ_fn (d:=d) fin.1 cells w4 hb4 pN hR4).mono ?_
 rintro _ w5 ⟨⟨cells5,hb5,hR5⟩,hU5⟩
 have hz5:=hU5.size
 have hE5:Ext w0 w5:=hE4.more hU5 fun b hb h=>by omega
 have hr5:=hE5.blk_some hr0 id
 repeat (first|simp (maxSteps:=1000000)(disch:=(first|omega|(simp only [qI,qJ,qK]<;>omega)|exact qL _)) only [go_sem,↓reduceIte,n0,reduceCtorEq,n1,n2,n3,n4,n5,i0,i1,i2,i3,i4,i5,i6,i7,hr5]|refine qA rfl ?_|apply qB|refine qC rfl ?_|apply qD|apply qE|apply qF|apply qG|apply qH)
 have hcl:=(RepS_lay true (d+1) fsr_Q).flat hR5
 refine (tellQ_fn (d:=d) (setDf fsr_Q fin.1) cells5 w5 hb5 (fun k hk=>by show ((.int .i16 (ver:Int) :: cells5).toArray)[1+k]? = cells5[k]?;rw [List.getElem?_toArray,Nat.add_comm,List.getElem?_cons_succ]) hR5 hgood).mono ?_
 rintro _ w6 ⟨⟨c6,rfl,hc6⟩,hE6⟩
 obtain ⟨vS,vL,vU,rfl,hn6,hS6,hL6,hU6⟩:=hc6.inv
 have f1:=hS6.flat
 have f2:=SlR.flat hL6
 have f3:=SlR.flat hU6
 have hr6:=hE6.blk_some hr5 id
 try simp (maxSteps:=1000000)(disch:=(first|omega|(simp only [qI,qJ,qK]<;>omega)|exact qL _)) only [go_sem,↓reduceIte,n0,reduceCtorEq,n1,n2,n3,n4,n5,i0,i1,i2,i3,i4,i5,i6,i7,hr6,f1,f2,f3]
 repeat ((first|refine qA rfl ?_|apply qB|refine qC rfl ?_|apply qD|apply qE|apply qF|apply qG|apply qH);try simp (maxSteps:=1000000)(disch:=(first|omega|(simp only [qI,qJ,qK]<;>omega)|exact qL _)) only [go_sem,↓reduceIte,n0,reduceCtorEq,n1,n2,n3,n4,n5,i0,i1,i2,i3,i4,i5,i6,i7,hr6,f1,f2,f3,cellsAt_five])
 have hUw:Upd (fun b=>b=w.heap.size) w6 (wr w6 w.heap.size 0 [.int .i64 (tlP (d+1) fsr_Q (setDf fsr_Q fin.1)).n,vS,.bool (tlP (d+1) fsr_Q (setDf fsr_Q fin.1)).null,vL,vU]):=(Upd.refl _ _).wr _ _ (.inr rfl)
 refine ⟨⟨_,rfl,TreeC.weaken (fun _ _ _=>trivial) (TreeC.keep (hUw.keeps (ok:=fun b=>w5.heap.size≤b) fun b _ hk e=>by have hk':w5.heap.size≤b:=hk;omega) hc6)⟩,(hE0.trans (hE5.trans hE6)).wr _ _ (.inl (Nat.le_refl _))⟩

theorem tsQ (pt:List Fld→Int→Bool→Tree→List UInt8) (D:Nat) (v:Int) (t:Tree):tagsS pt D fs_Q v true t=([(0,5,fQ_5),(1,6,fQ_6)]:List (Nat × Nat × Fld)).flatMap (tgO pt D v true t):=by
 have hk:knownS fs_Q=2:=rfl
 unfold tagsS
 rw [hk]
 have h5:usualS D fQ_5 (t.at 5)=true∨usualS D fQ_5 (t.at 5)=false:=by cases usualS D fQ_5 (t.at 5)<;>simp
 have h6:usualS D fQ_6 (t.at 6)=true∨usualS D fQ_6 (t.at 6)=false:=by cases usualS D fQ_6 (t.at 6)<;>simp
 all_goals rcases h5 with h5|h5
 all_goals rcases h6 with h6|h6
 all_goals simp [List.range_succ,List.range_zero,List.zipIdx_cons,fs_Q,tgO,h5,h6,show ∀ i,i=i from fun _=>rfl,show fQ_0.tag = -1 from rfl,show fQ_1.tag = -1 from rfl,show fQ_2.tag = -1 from rfl,show fQ_3.tag = -1 from rfl,show fQ_4.tag = -1 from rfl,show fQ_5.tag=0 from rfl,show fQ_6.tag=1 from rfl]
theorem setQ (pc:List Fld→Tree→Tree) (dp:List Fld→Tree) (D:Nat) (v:Int) (t:Tree):setT pc D v t [(0,5,fQ_5),(1,6,fQ_6)] (cnL pc dp v t fs_Q 0)=cnT pc dp D v true t fs_Q 0:=by
 have h5:usualS D fQ_5 (t.at 5)=true∨usualS D fQ_5 (t.at 5)=false:=by cases usualS D fQ_5 (t.at 5)<;>simp
 have h6:usualS D fQ_6 (t.at 6)=true∨usualS D fQ_6 (t.at 6)=false:=by cases usualS D fQ_6 (t.at 6)<;>simp
 all_goals rcases h5 with h5|h5
 all_goals rcases h6 with h6|h6
 all_goals simp [setT,cnL,cnT,liveS,fs_Q,h5,h6,show fQ_0.tag = -1 from rfl,show fQ_1.tag = -1 from rfl,show fQ_2.tag = -1 from rfl,show fQ_3.tag = -1 from rfl,show fQ_4.tag = -1 from rfl,show fQ_5.tag=0 from rfl,show fQ_6.tag=1 from rfl]

theorem tsrQ (pt:List Fld→Int→Bool→Tree→List UInt8) (D:Nat) (v:Int) (t:Tree):tagsS pt D fsr_Q v true t=([(0,5,fQ_5),(1,6,frQ_6)]:List (Nat × Nat × Fld)).flatMap (tgO pt D v true t):=by
 have hk:knownS fsr_Q=2:=rfl
 unfold tagsS
 rw [hk]
 have h5:usualS D fQ_5 (t.at 5)=true∨usualS D fQ_5 (t.at 5)=false:=by cases usualS D fQ_5 (t.at 5)<;>simp
 have h6:usualS D frQ_6 (t.at 6)=true∨usualS D frQ_6 (t.at 6)=false:=by cases usualS D frQ_6 (t.at 6)<;>simp
 all_goals rcases h5 with h5|h5
 all_goals rcases h6 with h6|h6
 all_goals simp [List.range_succ,List.range_zero,List.zipIdx_cons,fsr_Q,tgO,h5,h6,show ∀ i,i=i from fun _=>rfl,show fQ_0.tag = -1 from rfl,show fQ_1.tag = -1 from rfl,show fQ_2.tag = -1 from rfl,show fQ_3.tag = -1 from rfl,show fQ_4.tag = -1 from rfl,show fQ_5.tag=0 from rfl,show frQ_6.tag=1 from rfl]
theorem setrQ (pc:List Fld→Tree→Tree) (dp:List Fld→Tree) (D:Nat) (v:Int) (t:Tree):setT pc D v t [(0,5,fQ_5),(1,6,frQ_6)] (cnL pc dp v t fsr_Q 0)=cnT pc dp D v true t fsr_Q 0:=by
 have h5:usualS D fQ_5 (t.at 5)=true∨usualS D fQ_5 (t.at 5)=false:=by cases usualS D fQ_5 (t.at 5)<;>simp
 have h6:usualS D frQ_6 (t.at 6)=true∨usualS D frQ_6 (t.at 6)=false:=by cases usualS D frQ_6 (t.at 6)<;>simp
 all_goals rcases h5 with h5|h5
 all_goals rcases h6 with h6|h6
 all_goals simp [setT,cnL,cnT,liveS,fsr_Q,h5,h6,show fQ_0.tag = -1 from rfl,show fQ_1.tag = -1 from rfl,show fQ_2.tag = -1 from rfl,show fQ_3.tag = -1 from rfl,show fQ_4.tag = -1 from rfl,show fQ_5.tag=0 from rfl,show frQ_6.tag=1 from rfl]

def rTQ (t:Tree):Tree:=.mk t.n t.s t.null [(t.at 0),(t.at 1),(t.at 2),(t.at 3),(t.at 4),(t.at 5),((t.at 6).setNull false)] t.u

theorem fieldRQ_6 (pt:List Fld→Int→Bool→Tree→List UInt8) (v:Int) (flex:Bool) (x:Tree):fieldS pt frQ_6 v flex (x.setNull false)=fieldS pt fQ_6 v flex x:=by
 unfold fieldS
 rw [if_pos (show frQ_6.kind=11 from rfl),if_pos (show fQ_6.kind=11 from rfl)]
 have h1:nullS frQ_6 v (x.setNull false)=false:=by simp [nullS,Tree.setNull,Tree.null]
 have h2:nullS fQ_6 v x=false:=by simp [nullS,show fQ_6.null = -1 from rfl]
 rw [h1,h2];rfl
theorem usualRQ_6 (D:Nat) (x:Tree):usualS D frQ_6 (x.setNull false)=usualS D fQ_6 x:=by cases D<;>rfl
theorem sizedRQ {N:Nat} {t:Tree} (h:Sized N t):∃ M,Sized M (rTQ t):=by
 have hn:∀ (x:Tree) (b:Bool),Sized N x→Sized N (x.setNull b):=fun x b h=>by cases h with|mk ns hl he hk hN=>exact .mk ns hl he hk hN
 have hu:∀ x∈t.u,x.1 < 4294967296:=by cases h with|mk ns hl he hk hN=>exact hk
 refine ⟨_,.mk [N,N,N,N,N,N,N] rfl (fun i h1 h2 => ?_) hu (Nat.le_refl _)⟩
 match i,h1,h2 with
 | 0,_,_=>exact h.at 0
 | 1,_,_=>exact h.at 1
 | 2,_,_=>exact h.at 2
 | 3,_,_=>exact h.at 3
 | 4,_,_=>exact h.at 4
 | 5,_,_=>exact h.at 5
 | 6,_,_=>exact hn _ _ (h.at 6)
theorem partRQ (d:Nat) (v:Int) (flex:Bool) (t:Tree):partS (d+1) fsr_Q v flex (rTQ t)=partS (d+1) fs_Q v flex t:=by
 rw [partS_eq,partS_eq]
 unfold partT
 rw [plainS_L,plainS_L]
 have hp:plainL (partS d) v flex (rTQ t) fsr_Q 0=plainL (partS d) v flex t fs_Q 0:=by
  have hz:∀ (f:Fld) (x:Tree),0≤f.tag→(if f.tag < 0∧hasS f v=true then fieldS (partS d) f v flex x else [])=[]:=fun f x h=>if_neg fun h'=>by omega
  show plainL (partS d) v flex (rTQ t) [fQ_0,fQ_1,fQ_2,fQ_3,fQ_4,fQ_5,frQ_6] 0=plainL (partS d) v flex t [fQ_0,fQ_1,fQ_2,fQ_3,fQ_4,fQ_5,fQ_6] 0
  simp only [plainL,Nat.zero_add,Nat.reduceAdd]
  rw [hz frQ_6 _ (by decide),hz fQ_6 _ (by decide)]
  rfl
 have ht:tagsS (partS d) (d+1) fsr_Q v true (rTQ t)=tagsS (partS d) (d+1) fs_Q v true t:=by
  rw [tsrQ,tsQ]
  simp only [List.flatMap_cons,List.flatMap_nil]
  have h6:tgO (partS d) (d+1) v true (rTQ t) (1,6,frQ_6)=tgO (partS d) (d+1) v true t (1,6,fQ_6):=by
   unfold tgO
   show (if usualS (d+1) frQ_6 ((t.at 6).setNull false)=false then [(1,fieldS (partS d) frQ_6 v true ((t.at 6).setNull false))] else [])=_
   rw [usualRQ_6,fieldRQ_6]
  rw [h6]
  rfl
 have hu:unknownS fsr_Q (rTQ t).u=unknownS fs_Q t.u:=rfl
 rw [hp,hu]
 cases flex with
 | true=>rw [if_pos rfl,if_pos rfl,ht]
 | false=>rfl

set_option maxHeartbeats 4000000 in
theorem law_DefaultQ {ok:Blocks} {ev:Value} (n:Nat) (hn:n < 256) (t:Tree) (ct:List Value) (w:World) (ht:TreeC ok w t ct) (hsm:Small 4611686018427387903 t) (hG:Glo ev w) (hev:∃ T p,ev = .iface T p) {N:Nat} (hN:N≤1048576) (hsz:Sized N t) :
  Fn Tryd.prog 3 #[.int .u8 n,.agg ct.toArray] w fun r w'=>r = .bool true∧Ext w w':=by
 have sO:=TreeC.n64 ht
 obtain ⟨vS,vL,vU,rfl,hn',hS,hL,hU⟩:=ht.inv
 have f1:=hS.flat
 have f2:=SlR.flat hL
 have f3:=SlR.flat hU
 have hE:Ext w (w.alloc (.cells #[.int .i64 t.n,vS,.bool t.null,vL,vU] 26)):=Upd.alloc (Upd.refl _ _) _
 refine fn_of_W Tryd.func3 rfl Tryd.results3 Tryd.ntmps3 rfl ?_
 repeat ((first|refine qA rfl ?_|apply qB|refine qC rfl ?_|apply qD|apply qE|apply qF|apply qG|apply qH);try simp (maxSteps:=1000000)(disch:=(first|omega|(simp only [qI,qJ,qK]<;>omega)|exact qL _)) only [go_sem,↓reduceIte,n0,reduceCtorEq,n1,n2,n3,n4,n5,i0,i1,i2,i3,i4,i5,i6,i7,f1,f2,f3,cellsAt_five])
 have hb:blk (w.alloc (.cells #[.int .i64 t.n,vS,.bool t.null,vL,vU] 26)) w.heap.size=some (#[.int .i64 t.n,vS,.bool t.null,vL,vU],26,(0,0)):=blk_alloc_new rfl
 generalize (w.alloc (.cells #[.int .i64 t.n,vS,.bool t.null,vL,vU] 26))=w1 at *
 refine (zzFits1_fn (ok:=ok) t _ w1 (ht.keep (hE.keeps _)) hsm).mono ?_
 rintro r2 w2 ⟨⟨bb,rfl⟩,hE2⟩
 cases bb with
 | false =>
  simp (maxSteps:=1000000)(disch:=(first|omega|(simp only [qI,qJ,qK]<;>omega)|exact qL _)) only [go_sem,↓reduceIte,n0,reduceCtorEq,n1,n2,n3,n4,n5,i0,i1,i2,i3,i4,i5,i6,i7]
  repeat ((first|refine qA rfl ?_|apply qB|refine qC rfl ?_|apply qD|apply qE|apply qF|apply qG|apply qH);try simp (maxSteps:=1000000)(disch:=(first|omega|(simp only [qI,qJ,qK]<;>omega)|exact qL _)) only [go_sem,↓reduceIte,n0,reduceCtorEq,n1,n2,n3,n4,n5,i0,i1,i2,i3,i4,i5,i6,i7])
  all_goals exact hE.trans hE2
 | true =>
  simp (maxSteps:=1000000)(disch:=(first|omega|(simp only [qI,qJ,qK]<;>omega)|exact qL _)) only [go_sem,↓reduceIte,n0,reduceCtorEq,n1,n2,n3,n4,n5,i0,i1,i2,i3,i4,i5,i6,i7]
  repeat ((first|refine qA rfl ?_|apply qB|refine qC rfl ?_|apply qD|apply qE|apply qF|apply qG|apply qH);try simp (maxSteps:=1000000)(disch:=(first|omega|(simp only [qI,qJ,qK]<;>omega)|exact qL _)) only [go_sem,↓reduceIte,n0,reduceCtorEq,n1,n2,n3,n4,n5,i0,i1,i2,i3,i4,i5,i6,i7])
  refine (MaxQ_fn w2).mono ?_
  rintro _ w2m ⟨rfl,kJ⟩
  repeat ((first|refine qA rfl ?_|apply qB|refine qC rfl ?_|apply qD|apply qE|apply qF|apply qG|apply qH);try simp (maxSteps:=1000000)(disch:=(first|omega|(simp only [qI,qJ,qK]<;>omega)|exact qL _)) only [go_sem,↓reduceIte,n0,reduceCtorEq,n1,n2,n3,n4,n5,i0,i1,i2,i3,i4,i5,i6,i7])
  refine (cQ_fn w2m).mono ?_
  rintro r3 w3 ⟨⟨vs,rfl,hF0⟩,hE3⟩
  have hF:FldsV AnyB w3 vs fs_Q:=hF0.weaken fun _ _ _=>trivial
  have fF:=SlR.flat hF
  try simp (maxSteps:=1000000)(disch:=(first|omega|(simp only [qI,qJ,qK]<;>omega)|exact qL _)) only [go_sem,↓reduceIte,n0,reduceCtorEq,n1,n2,n3,n4,n5,i0,i1,i2,i3,i4,i5,i6,i7]
  refine (version_fn w3 n 2 hn (by decide)).mono ?_
  rintro _ w3v ⟨rfl,rfl⟩
  have hE03:Ext w w3v:=((hE.trans hE2).trans kJ).trans hE3
  have hb3:=hE3.blk_some (kJ.blk_some (hE2.blk_some hb id) id) id
  have hE4:Ext w3v (wr (w3v.alloc (.cells #[.slice none 0 0,.int .i64 0] 31)) w3v.heap.size 0 [vs,.int .i64 0]):=(Upd.alloc (Upd.refl _ _) _).wr _ _ (.inl (Nat.le_refl _))
  have hb4:blk (wr (w3v.alloc (.cells #[.slice none 0 0,.int .i64 0] 31)) w3v.heap.size 0 [vs,.int .i64 0]) w3v.heap.size=some (#[vs,.int .i64 0],31,(0,0)):=by simp (maxSteps:=1000000)(disch:=(first|omega|(simp only [qI,qJ,qK]<;>omega)|exact qL _)) only [go_sem,↓reduceIte,n0,reduceCtorEq,n1,n2,n3,n4,n5,i0,i1,i2,i3,i4,i5,i6,i7]
  try simp (maxSteps:=1000000)(disch:=(first|omega|(simp only [qI,qJ,qK]<;>omega)|exact qL _)) only [go_sem,↓reduceIte,n0,reduceCtorEq,n1,n2,n3,n4,n5,i0,i1,i2,i3,i4,i5,i6,i7,fF]
  generalize (wr (w3v.alloc (.cells #[.slice none 0 0,.int .i64 0] 31)) w3v.heap.size 0 [vs,.int .i64 0])=w4 at *
  have lF:=hE4.blk_some hb3 id
  have hv3:n % 3 < 3:=Nat.mod_lt _ (by omega)
  generalize n % 3=ver at *
  have hs1:=blk_lt hb4
  have hs2:=blk_lt lF
  repeat ((first|refine qA rfl ?_|apply qB|refine qC rfl ?_|apply qD|apply qE|apply qF|apply qG|apply qH);try simp (maxSteps:=1000000)(disch:=(first|omega|(simp only [qI,qJ,qK]<;>omega)|exact qL _)) only [go_sem,↓reduceIte,n0,reduceCtorEq,n1,n2,n3,n4,n5,i0,i1,i2,i3,i4,i5,i6,i7,lF,hb4,cellsAt_five,cellsAt_two])
  have hE04:Ext w w4:=hE03.trans hE4
  have hokF:okF 1 fs_Q=true:=by decide
  have hokR:okRT 0 ver (flexB 0 ver) fs_Q=true:=(by decide:∀ v:Fin 3,okRT 0 ((v.val:Nat):Int) (flexB 0 ((v.val:Nat):Int)) fs_Q=true) ⟨ver,hv3⟩
  have hokT:okTs 1 fs_Q=true:=by decide
  have hdf:okDf (1+1) fs_Q=true:=by decide
  have hts:tagsS (partS 1) 2 fs_Q ver true t=([(0,5,fQ_5),(1,6,fQ_6)]:List (Nat × Nat × Fld)).flatMap (tgO (partS 1) 2 ver true t):=tsQ _ _ _ _
  have hset:setT (cnP 1 ver true) 2 ver t [(0,5,fQ_5),(1,6,fQ_6)] (cnL (cnP 1 ver true) (dfP 1) ver t fs_Q 0)=cnT (cnP 1 ver true) (dfP 1) 2 ver true t fs_Q 0:=setQ _ _ _ _ _
  have hlen:∀ p∈([(0,5,fQ_5),(1,6,fQ_6)]:List (Nat × Nat × Fld)),tagX fs_Q p.1=some p.2∧p.1 < 4294967296∧p.2.2∈fs_Q∧0≤p.2.2.tag∧(fieldS (partS 1) p.2.2 ver true (t.at p.2.1)).length < 4294967296:=by
   intro p hp
   simp only [List.mem_cons,List.not_mem_nil,or_false] at hp
   rcases hp with rfl|rfl
   ·refine ⟨rfl,by decide,by simp [fs_Q],by decide,?_⟩
    exact Nat.lt_of_le_of_lt (fieldS_bound (C:=cst 1 fQ_5.sub) (sub:=fQ_5.sub) (fun N x hx=>partS_bound ver true 0 _ N x (by decide) hx) fQ_5 rfl (hsz.at 5)) (Nat.lt_of_le_of_lt (Nat.mul_le_mul_left _ (Nat.succ_le_succ hN)) (by decide))
   ·refine ⟨rfl,by decide,by simp [fs_Q],by decide,?_⟩
    exact Nat.lt_of_le_of_lt (fieldS_bound (C:=cst 1 fQ_6.sub) (sub:=fQ_6.sub) (fun N x hx=>partS_bound ver true 0 _ N x (by decide) hx) fQ_6 rfl (hsz.at 6)) (Nat.lt_of_le_of_lt (Nat.mul_le_mul_left _ (Nat.succ_le_succ hN)) (by decide))
  have hpl:(partS 2 fs_Q ver (flexB 0 ver) t).length≤2 ^ 40:=Nat.le_trans (partM_bound (d:=0) (by decide) hsz _ hts (fun p hp=>⟨(hlen p hp).2.1,(hlen p hp).2.2.1,(hlen p hp).2.2.2.2⟩) (by decide)) (Nat.le_trans (Nat.mul_le_mul_left _ (Nat.succ_le_succ hN)) (by decide))
  refine (Write_fn (ok:=AnyB) (d:=1) fs_Q 0 ver t vs _ w4 (hF.keep (Ext.keeps hE4 _)) hokF ((ht.weaken fun _ _ _=>trivial).keep (Ext.keeps hE04 _)) hsm hpl).mono ?_
  rintro r5 w5 ⟨ho5,hE5⟩
  have hE05:=hE04.trans hE5
  obtain ⟨a5,c5,rfl,_⟩:=ho5.shape
  repeat ((first|refine qA rfl ?_|apply qB|refine qC rfl ?_|apply qD|apply qE|apply qF|apply qG|apply qH);try simp (maxSteps:=1000000)(disch:=(first|omega|(simp only [qI,qJ,qK]<;>omega)|exact qL _)) only [go_sem,↓reduceIte,n0,reduceCtorEq,n1,n2,n3,n4,n5,i0,i1,i2,i3,i4,i5,i6,i7])
  have hrd:rdM 1 ver (flexB 0 ver) fs_Q (some (partS 2 fs_Q ver (flexB 0 ver) t))=(cnM 1 ver (flexB 0 ver) fs_Q t,some []):=rdM_part hokR hsz _ hts hset hlen (by decide)
  have hgood:GoodP (1+1) fs_Q (cnM 1 ver (flexB 0 ver) fs_Q t):=cnM_good ver _ 1 _ _ hdf
  have honce:(flexB 0 ver)=true→onceM 1 ver fs_Q (some (partS 2 fs_Q ver (flexB 0 ver) t)):=fun h=>by
   rw [h] at hokR ⊢
   exact onceM_part hokR hsz _ hts (fun p hp=>⟨(hlen p hp).2.1,(hlen p hp).2.2.2.2⟩) (by decide) (by decide)
  obtain ⟨M,hM⟩:=sizedRQ hsz
  have hokRR:okRT 0 ver (flexB 0 ver) fsr_Q=true:=(by decide:∀ v:Fin 3,okRT 0 ((v.val:Nat):Int) (flexB 0 ((v.val:Nat):Int)) fsr_Q=true) ⟨ver,hv3⟩
  have hdfR:okDf (1+1) fsr_Q=true:=by decide
  have htsR:tagsS (partS 1) 2 fsr_Q ver true (rTQ t)=([(0,5,fQ_5),(1,6,frQ_6)]:List (Nat × Nat × Fld)).flatMap (tgO (partS 1) 2 ver true (rTQ t)):=tsrQ _ _ _ _
  have hsetR:setT (cnP 1 ver true) 2 ver (rTQ t) [(0,5,fQ_5),(1,6,frQ_6)] (cnL (cnP 1 ver true) (dfP 1) ver (rTQ t) fsr_Q 0)=cnT (cnP 1 ver true) (dfP 1) 2 ver true (rTQ t) fsr_Q 0:=setrQ _ _ _ _ _
  have hlenR:∀ p∈([(0,5,fQ_5),(1,6,frQ_6)]:List (Nat × Nat × Fld)),tagX fsr_Q p.1=some p.2∧p.1 < 4294967296∧p.2.2∈fsr_Q∧0≤p.2.2.tag∧(fieldS (partS 1) p.2.2 ver true ((rTQ t).at p.2.1)).length < 4294967296:=by
   intro p hp
   simp only [List.mem_cons,List.not_mem_nil,or_false] at hp
   rcases hp with rfl|rfl
   ·refine ⟨rfl,by decide,by simp [fsr_Q],by decide,?_⟩
    have h:=(hlen (0,5,fQ_5) (by simp)).2.2.2.2
    exact h
   ·refine ⟨rfl,by decide,by simp [fsr_Q],by decide,?_⟩
    have h:=(hlen (1,6,fQ_6) (by simp)).2.2.2.2
    exact Nat.lt_of_le_of_lt (Nat.le_of_eq (congrArg List.length (fieldRQ_6 _ _ _ _))) h
  have hrdR:rdM 1 ver (flexB 0 ver) fsr_Q (some (partS 2 fs_Q ver (flexB 0 ver) t))=(cnM 1 ver (flexB 0 ver) fsr_Q (rTQ t),some []):=by
   rw [← partRQ];exact rdM_part hokRR hM _ htsR hsetR hlenR (by decide)
  have hgoodR:GoodP (1+1) fsr_Q (cnM 1 ver (flexB 0 ver) fsr_Q (rTQ t)):=cnM_good ver _ 1 _ _ hdfR
  have honceR:(flexB 0 ver)=true→onceM 1 ver fsr_Q (some (partS 2 fs_Q ver (flexB 0 ver) t)):=fun h=>by
   rw [← partRQ]
   rw [h] at hokRR ⊢
   exact onceM_part hokRR hM _ htsR (fun p hp=>⟨(hlenR p hp).2.1,(hlenR p hp).2.2.2.2⟩) (by decide) (by decide)
  have hnum:okNum fsr_Q=true:=by decide
  have hgoodD:GoodP (1+1) fsr_Q (setDf fsr_Q (cnM 1 ver (flexB 0 ver) fsr_Q (rTQ t))):=setDf_good (d:=1) hnum hdfR hgoodR
  refine (DefDQ_fn (d:=1) (ok:=AnyB) (ev:=ev) ver (by omega) _ _ w5 (Own.bytes (ok:=AnyB) ho5 fun _ _=>trivial) (hG.updS hE05 id id) hpl ((cnM 1 ver (flexB 0 ver) fsr_Q (rTQ t)),some []) hrdR.symm (by simp) hgoodD hev honceR).mono ?_
  rintro _ w6 ⟨⟨ca,rfl,hca⟩,hE6⟩
  simp only at hca
  have hsT:Small 32767 (tlP (1+1) fsr_Q (setDf fsr_Q (cnM 1 ver (flexB 0 ver) fsr_Q (rTQ t)))):=tlP_small _ _ _ hdfR hgoodD
  have htoldR:∀ i (h:i < fsr_Q.length),fsr_Q[i].df=0∨((tlP (1+1) fsr_Q (setDf fsr_Q (cnM 1 ver (flexB 0 ver) fsr_Q (rTQ t)))).at i).n=numS fsr_Q[i].kind fsr_Q[i].df:=defaults_told (d:=1) hnum
  generalize tlP (1+1) fsr_Q (setDf fsr_Q (cnM 1 ver (flexB 0 ver) fsr_Q (rTQ t)))=Ta at *
  have htold:∀ i (h:i < fs_Q.length),fs_Q[i].df=0∨(Ta.at i).n=numS fs_Q[i].kind fs_Q[i].df:=fun i h=>by
   match i,h with
   | 0,_=>exact htoldR 0 (by decide)
   | 1,_=>exact htoldR 1 (by decide)
   | 2,_=>exact htoldR 2 (by decide)
   | 3,_=>exact htoldR 3 (by decide)
   | 4,_=>exact htoldR 4 (by decide)
   | 5,_=>exact htoldR 5 (by decide)
   | 6,_=>exact htoldR 6 (by decide)
  have hE06:=hE05.trans hE6
  obtain ⟨aS,aL,aU,rfl,hna,hSa,hLa,hUa⟩:=hca.inv
  have g1:=hSa.flat
  have g2:=SlR.flat hLa
  have g3:=SlR.flat hUa
  have hE7:Ext w6 (wr (w6.alloc (.cells qZ5 37)) w6.heap.size 0 [.int .i64 Ta.n,aS,.bool Ta.null,aL,aU]):=(Upd.alloc (Upd.refl _ _) _).wr _ _ (.inl (Nat.le_refl _))
  have hb7:blk (wr (w6.alloc (.cells qZ5 37)) w6.heap.size 0 [.int .i64 Ta.n,aS,.bool Ta.null,aL,aU]) w6.heap.size=some (#[.int .i64 Ta.n,aS,.bool Ta.null,aL,aU],37,(0,0)):=by simp (maxSteps:=1000000)(disch:=(first|omega|(simp only [qI,qJ,qK]<;>omega)|exact qL _)) only [go_sem,↓reduceIte,n0,reduceCtorEq,n1,n2,n3,n4,n5,i0,i1,i2,i3,i4,i5,i6,i7]
  repeat (first|simp (maxSteps:=1000000)(disch:=(first|omega|(simp only [qI,qJ,qK]<;>omega)|exact qL _)) only [go_sem,↓reduceIte,n0,reduceCtorEq,n1,n2,n3,n4,n5,i0,i1,i2,i3,i4,i5,i6,i7,g1,g2,g3]|refine qA rfl ?_|apply qB|refine qC rfl ?_|apply qD|apply qE|apply qF|apply qG|apply qH)
  generalize (wr (w6.alloc (.cells qZ5 37)) w6.heap.size 0 [.int .i64 Ta.n,aS,.bool Ta.null,aL,aU])=w7 at *
  have hE47:=(hE5.trans hE6).trans hE7
  have hE07:=hE04.trans hE47
  have lH:=hE47.blk_some hb4 id
  have l1:=blk_lt hb7
  have l2:=blk_lt lH
  refine W.drawR (.take 0 (.take 1 (.take 2 (.take 3 (.take 4 (.only 5 (.only 6 (.take 7 (.only 8 .done))))))))) NoB mixed (by kernel_rfl) ?_
  try simp (maxSteps:=1000000)(disch:=(first|omega|(simp only [qI,qJ,qK]<;>omega)|exact qL _)) only [go_sem,↓reduceIte,n0,reduceCtorEq,n1,n2,n3,n4,n5,i0,i1,i2,i3,i4,i5,i6,i7,fF,g1,g2,g3,hb7,lH,cellsAt_five,cellsAt_two]
  have hEd:Ext w7 w7.drew:=(Upd.refl _ _).drew
  have hE0d:=hE07.trans hEd
  have n7:=hE47.trans hEd
  have hcad:=(hca.keep (Ext.keeps hE7 _)).keep (Ext.keeps hEd _)
  generalize w7.drew=w8 at *
  refine (got_fn hsT.lists AnyB _ w8 hcad).mono ?_
  rintro _ w10 ⟨⟨c10,rfl,oF⟩,dS⟩
  try refine ⟨dS,?_⟩
  try simp (maxSteps:=1000000)(disch:=(first|omega|(simp only [qI,qJ,qK]<;>omega)|exact qL _)) only [go_sem,↓reduceIte,n0,reduceCtorEq,n1,n2,n3,n4,n5,i0,i1,i2,i3,i4,i5,i6,i7]
  refine (Defaults_fn fs_Q Ta vs _ w10 (((hF.keep (Ext.keeps hE4 _)).keep (Ext.keeps n7 _)).keep (Ext.keeps dS _)) (okF_len hokF) (oF.weaken fun _ _ _=>trivial) (hsT.mono (by decide)) htold).mono ?_
  rintro _ w11 ⟨rfl,gE⟩
  try refine ⟨dS.trans gE,?_⟩
  try simp (maxSteps:=1000000)(disch:=(first|omega|(simp only [qI,qJ,qK]<;>omega)|exact qL _)) only [go_sem,↓reduceIte,n0,reduceCtorEq,n1,n2,n3,n4,n5,i0,i1,i2,i3,i4,i5,i6,i7]
  try refine ⟨dS.trans gE,?_⟩
  repeat ((first|refine qA rfl ?_|apply qB|refine qC rfl ?_|apply qD|apply qE|apply qF|apply qG|apply qH);try simp (maxSteps:=1000000)(disch:=(first|omega|(simp only [qI,qJ,qK]<;>omega)|exact qL _)) only [go_sem,↓reduceIte,n0,reduceCtorEq,n1,n2,n3,n4,n5,i0,i1,i2,i3,i4,i5,i6,i7])
  all_goals exact hE0d.trans (dS.trans gE)
end Ms

