/- A part of the proof: see the last text. -/
import Derived.Test.YtfeaoncgnhhjbaeGreatDoorC05
import Derived.Test.YtfeaoncgnhhjbaeGreatDoorC06
import Derived.Test.YtfeaoncgnhhjbaeGreatDoorC09
import Derived.Test.YtfeaoncgnhhjbaeGreatDoorC10
import Derived.Test.YtfeaoncgnhhjbaeGreatDoorC11
import Derived.Test.YtfeaoncgnhhjbaeGreatDoorFetchRequestP0
import Derived.Test.YtfeaoncgnhhjbaeGreatDoorFetchRequestP3
import Derived.Test.YtfeaoncgnhhjbaeGreatDoorFetchRequestP4
set_option linter.unusedSimpArgs false
set_option linter.unusedVariables false
namespace Ms
open Go.World renaming size_alloc → qI
open Ms renaming size_wr → qJ,size_drew → qK,not_noB → qL
open W renaming seqF → qA,seq → qB,regF → qC,condK → qD,block → qE,skip → qF,ret → qG,exit → qH
set_option maxRecDepth 8000
open Go Go.Proofs Go.Shelf
attribute [local congr] W_congr WPsq_congr WPp_congr optK_congr addrK_congr intK_congr boolK_congr sliceK_congr tupleK_congr funcK_congr Fn_congr rawK_congr takeK_congr stepK_congr convK_congr aggK_congr

def sd_Q (t:Tree):Tree:=.mk t.n t.s t.null [.oct true [],.num (-1),setDf fs_X2 (t.at 2),t.at 3,t.at 4,.num 2147483647,t.at 6,t.at 7,.num (-1),t.at 9,t.at 10,t.at 11] t.u
theorem sd_Q_good {t:Tree} (h:GoodP 4 fs_Q t):GoodP 4 fs_Q (sd_Q t):=by
 refine ⟨?_,h.2⟩
 obtain ⟨h0,h1,h2,h3,h4,h5,h6,h7,h8,h9,h10,h11,-⟩:=(show GoodF (GoodP 3) fQ_0 (t.at 0)∧GoodF (GoodP 3) fQ_1 (t.at 1)∧GoodF (GoodP 3) fQ_2 (t.at 2)∧GoodF (GoodP 3) fQ_3 (t.at 3)∧GoodF (GoodP 3) fQ_4 (t.at 4)∧GoodF (GoodP 3) fQ_5 (t.at 5)∧GoodF (GoodP 3) fQ_6 (t.at 6)∧GoodF (GoodP 3) fQ_7 (t.at 7)∧GoodF (GoodP 3) fQ_8 (t.at 8)∧GoodF (GoodP 3) fQ_9 (t.at 9)∧GoodF (GoodP 3) fQ_10 (t.at 10)∧GoodF (GoodP 3) fQ_11 (t.at 11)∧True from h.1)
 show GoodF (GoodP 3) fQ_0 ((sd_Q t).at 0)∧GoodF (GoodP 3) fQ_1 ((sd_Q t).at 1)∧GoodF (GoodP 3) fQ_2 ((sd_Q t).at 2)∧GoodF (GoodP 3) fQ_3 ((sd_Q t).at 3)∧GoodF (GoodP 3) fQ_4 ((sd_Q t).at 4)∧GoodF (GoodP 3) fQ_5 ((sd_Q t).at 5)∧GoodF (GoodP 3) fQ_6 ((sd_Q t).at 6)∧GoodF (GoodP 3) fQ_7 ((sd_Q t).at 7)∧GoodF (GoodP 3) fQ_8 ((sd_Q t).at 8)∧GoodF (GoodP 3) fQ_9 ((sd_Q t).at 9)∧GoodF (GoodP 3) fQ_10 ((sd_Q t).at 10)∧GoodF (GoodP 3) fQ_11 ((sd_Q t).at 11)∧True
 have p2:=GoodF.one h2 (by decide)
 have g2:GoodF (GoodP 3) fQ_2 (setDf fs_X2 (t.at 2)):=by
  unfold GoodF
  rw [if_neg (by decide)]
  exact ⟨fun h=>absurd h (by decide),p2.2.1,fun h=>setDf_good (d:=2) (by decide) (by decide) (p2.2.2 h)⟩
 exact ⟨by unfold GoodF;rw [if_neg (by decide)];exact good1_oct (Nat.zero_le _) (by decide),by unfold GoodF;rw [if_neg (by decide)];exact good1_num (by decide) (by decide),g2,h3,h4,by unfold GoodF;rw [if_neg (by decide)];exact good1_num (by decide) (by decide),h6,h7,by unfold GoodF;rw [if_neg (by decide)];exact good1_num (by decide) (by decide),h9,h10,h11,trivial⟩
theorem sd_Q_told (t:Tree):∀ i (h:i < fs_Q.length),fs_Q[i].df=0∨((tlP 4 fs_Q (sd_Q t)).at i).n=numS fs_Q[i].kind fs_Q[i].df:=fun i h=>by
 rcases defaults_told (d:=3) (t:=t) (show okNum fs_Q=true by decide) i h with h0|h0
 ·exact .inl h0
 by_cases hd:fs_Q[i].df=0
 ·exact .inl hd
 refine .inr (Eq.trans ?_ h0)
 have e:(sd_Q t).at i=(setDf fs_Q t).at i:=by
  match i,h,hd with
  | 0,_,hd=>exact absurd rfl hd
  | 1,_,_=>exact rfl
  | 2,_,hd=>exact absurd rfl hd
  | 3,_,hd=>exact absurd rfl hd
  | 4,_,hd=>exact absurd rfl hd
  | 5,_,_=>exact rfl
  | 6,_,hd=>exact absurd rfl hd
  | 7,_,hd=>exact absurd rfl hd
  | 8,_,_=>exact rfl
  | 9,_,hd=>exact absurd rfl hd
  | 10,_,hd=>exact absurd rfl hd
  | 11,_,hd=>exact absurd rfl hd
 rw [tlP,Tree.at_mk,tlL_get _ _ fs_Q 0 i h,tlP,Tree.at_mk,tlL_get _ _ fs_Q 0 i h,Nat.zero_add,e]

set_option maxHeartbeats 4000000 in
theorem DefSetQ_fn {d:Nat} {ok:Blocks} {ver:Int} (t:Tree) (cells:List Value) (w:World) {vb:Nat} (hb:blk w vb=some ((.int .i16 ver :: cells).toArray,75,(0,0))) (hok:∀ b,ok b→b≠vb) (hR:RepS true (d+3) fs_Q ok w t cells) :
  Fn Tryz.prog 20 #[.pointer (some ⟨vb,0,none⟩)] w fun _ w'=>(∃ cells',blk w' vb=some ((.int .i16 ver :: cells').toArray,75,(0,0))∧RepS true (d+3) fs_Q ok w' (sd_Q t) cells')∧Upd (fun b=>b=vb) w w':=by
 obtain ⟨cs0,q,hcs,hL,hT⟩:=hR.inv
 obtain ⟨c0,e0,rfl,h0,c1,e1,rfl,h1,c2,e2,rfl,h2,c3,e3,rfl,h3,c4,e4,rfl,h4,c5,e5,rfl,h5,c6,e6,rfl,h6,c7,e7,rfl,h7,c8,e8,rfl,h8,c9,e9,rfl,h9,c10,e10,rfl,h10,c11,e11,rfl,h11,rfl⟩:=hL
 replace h0:RepF (RepS true (d+2)) (szS true (d+2)) fQ_0 ok w (t.at 0) c0:=h0
 replace h1:RepF (RepS true (d+2)) (szS true (d+2)) fQ_1 ok w (t.at 1) c1:=h1
 replace h2:RepF (RepS true (d+2)) (szS true (d+2)) fQ_2 ok w (t.at 2) c2:=h2
 replace h3:RepF (RepS true (d+2)) (szS true (d+2)) fQ_3 ok w (t.at 3) c3:=h3
 replace h4:RepF (RepS true (d+2)) (szS true (d+2)) fQ_4 ok w (t.at 4) c4:=h4
 replace h5:RepF (RepS true (d+2)) (szS true (d+2)) fQ_5 ok w (t.at 5) c5:=h5
 replace h6:RepF (RepS true (d+2)) (szS true (d+2)) fQ_6 ok w (t.at 6) c6:=h6
 replace h7:RepF (RepS true (d+2)) (szS true (d+2)) fQ_7 ok w (t.at 7) c7:=h7
 replace h8:RepF (RepS true (d+2)) (szS true (d+2)) fQ_8 ok w (t.at 8) c8:=h8
 replace h9:RepF (RepS true (d+2)) (szS true (d+2)) fQ_9 ok w (t.at 9) c9:=h9
 replace h10:RepF (RepS true (d+2)) (szS true (d+2)) fQ_10 ok w (t.at 10) c10:=h10
 replace h11:RepF (RepS true (d+2)) (szS true (d+2)) fQ_11 ok w (t.at 11) c11:=h11
 obtain ⟨p0,rfl,hp0⟩:=(RepF_ptr rfl (by decide)).1 h0
 obtain rfl:=(RepF_num (by decide)).1 h1
 obtain ⟨cp2,qp2,VU,SH,JZ⟩:=((RepF_part rfl (by decide)).1 h2).inv
 obtain ⟨d2_0,de2_0,rfl,GA,d2_1,de2_1,rfl,GB,rfl⟩:=SH
 replace GA:RepF (RepS true _) (szS true _) fX2_0 ok w ((t.at 2).at 0) d2_0:=GA
 obtain rfl:=(RepF_num (by decide)).1 GA
 replace GB:RepF (RepS true _) (szS true _) fX2_1 ok w ((t.at 2).at 1) d2_1:=GB
 obtain rfl:=(RepF_num (by decide)).1 GB
 obtain ⟨qq2,rfl⟩:=JZ.shape
 subst VU
 obtain rfl:=(RepF_num (by decide)).1 h3
 obtain rfl:=(RepF_num (by decide)).1 h4
 obtain rfl:=(RepF_num (by decide)).1 h5
 obtain rfl:=(RepF_num (by decide)).1 h6
 obtain rfl:=(RepF_num (by decide)).1 h7
 obtain rfl:=(RepF_num (by decide)).1 h8
 obtain ⟨ab9,ac9,L9,rfl,hL9,MC,hs9⟩:=RepF_listT rfl h9
 obtain ⟨ab10,ac10,L10,rfl,EM,MB,xY⟩:=RepF_listT rfl h10
 obtain rfl:=(RepF_text rfl (by decide)).1 h11
 obtain ⟨qm,rfl⟩:=hT.shape
 subst hcs
 have hvl:=blk_lt hb
 simp only [List.append_eq,List.cons_append,List.nil_append,List.append_nil] at hb
 refine (DefaultQ_fn w hb).mono ?_
 rintro _ w' ⟨hb',hU⟩
 have hK:Keeps ok w w':=hU.keeps fun b _ hk e=>hok b hk e
 refine ⟨⟨[.pointer none,.int .i32 (IntKind.i32.wrap (-1:Int)),.int .i32 (IntKind.i32.wrap (-1:Int)),.int .i64 (-1:Int),.map qq2,.int .i32 (IntKind.i32.wrap (t.at 3).n),.int .i32 (IntKind.i32.wrap (t.at 4).n),.int .i32 (IntKind.i32.wrap (2147483647:Int)),.int .i8 (IntKind.i8.wrap (t.at 6).n),.int .i32 (IntKind.i32.wrap (t.at 7).n),.int .i32 (IntKind.i32.wrap (-1:Int)),.slice ab9 L9.length ac9,.slice ab10 L10.length ac10,strV (t.at 11).s]++[.map qm],hb',RepS.mk' (RepL.cons1 (show RepF (RepS true (d+2)) (szS true (d+2)) fQ_0 ok w' ((sd_Q t).at 0) _ from (RepF_ptr rfl (by decide)).2 ⟨_,rfl,rfl⟩) (RepL.cons1 (show RepF (RepS true (d+2)) (szS true (d+2)) fQ_1 ok w' ((sd_Q t).at 1) _ from ((RepF_num (by decide)).2 rfl)) (RepL.cons (c:=[.int .i32 (IntKind.i32.wrap (-1:Int)),.int .i64 (-1:Int),.map qq2]) (show RepF (RepS true (d+2)) (szS true (d+2)) fQ_2 ok w' ((sd_Q t).at 2) _ from (RepF_part rfl (by decide)).2 (RepS.mk' (c:=[.int .i32 (IntKind.i32.wrap (-1:Int)),.int .i64 (-1:Int)]) (RepL.cons1 (show RepF (RepS true _) (szS true _) fX2_0 ok w' ((setDf fs_X2 (t.at 2)).at 0) _ from (RepF_num (by decide)).2 rfl) (RepL.cons1 (show RepF (RepS true _) (szS true _) fX2_1 ok w' ((setDf fs_X2 (t.at 2)).at 1) _ from (RepF_num (by decide)).2 rfl) RepL.nil)) (TagsM.keep JZ hK))) (RepL.cons1 (show RepF (RepS true (d+2)) (szS true (d+2)) fQ_3 ok w' ((sd_Q t).at 3) _ from ((RepF_lay fQ_3 fun _=>RepS_lay true (d+2) _).keep h3 hK)) (RepL.cons1 (show RepF (RepS true (d+2)) (szS true (d+2)) fQ_4 ok w' ((sd_Q t).at 4) _ from ((RepF_lay fQ_4 fun _=>RepS_lay true (d+2) _).keep h4 hK)) (RepL.cons1 (show RepF (RepS true (d+2)) (szS true (d+2)) fQ_5 ok w' ((sd_Q t).at 5) _ from ((RepF_num (by decide)).2 rfl)) (RepL.cons1 (show RepF (RepS true (d+2)) (szS true (d+2)) fQ_6 ok w' ((sd_Q t).at 6) _ from ((RepF_lay fQ_6 fun _=>RepS_lay true (d+2) _).keep h6 hK)) (RepL.cons1 (show RepF (RepS true (d+2)) (szS true (d+2)) fQ_7 ok w' ((sd_Q t).at 7) _ from ((RepF_lay fQ_7 fun _=>RepS_lay true (d+2) _).keep h7 hK)) (RepL.cons1 (show RepF (RepS true (d+2)) (szS true (d+2)) fQ_8 ok w' ((sd_Q t).at 8) _ from ((RepF_num (by decide)).2 rfl)) (RepL.cons1 (show RepF (RepS true (d+2)) (szS true (d+2)) fQ_9 ok w' ((sd_Q t).at 9) _ from ((RepF_lay fQ_9 fun _=>RepS_lay true (d+2) _).keep h9 hK)) (RepL.cons1 (show RepF (RepS true (d+2)) (szS true (d+2)) fQ_10 ok w' ((sd_Q t).at 10) _ from ((RepF_lay fQ_10 fun _=>RepS_lay true (d+2) _).keep h10 hK)) (RepL.cons1 (show RepF (RepS true (d+2)) (szS true (d+2)) fQ_11 ok w' ((sd_Q t).at 11) _ from ((RepF_lay fQ_11 fun _=>RepS_lay true (d+2) _).keep h11 hK)) RepL.nil)))))))))))) (TagsM.keep hT hK)⟩,hU⟩

set_option maxHeartbeats 2000000 in
theorem DefDQ_fn {d:Nat} {ok:Blocks} {ev:Value} (ver:Nat) (hv:ver≤18) (b:Value) (s:List UInt8) (w:World) (hb:BytesV ok w b s) (hG:Glo ev w) (hs:s.length≤2 ^ 40) (fin:Tree × St) (hfin:fin=rdQ (d+3) ver (flexB 12 ver) fs_Q (some s)) (hst:fin.2≠none) (hgood:GoodP (d+3) fs_Q (sd_Q fin.1)) (hev:∃ T p,ev = .iface T p) :
  Fn Tryz.prog 8 #[.int .i64 ver,b] w fun r w'=>(∃ c,r = .tuple #[.agg c.toArray,.bool true]∧TreeC AnyB w' (tlP (d+3) fs_Q (sd_Q fin.1)) c)∧Ext w w':=by
 obtain ⟨ba,bc,rfl,_⟩:=hb.shape
 have hgl:=hG.lt
 have ew:IntKind.i16.wrap (ver:Int)=ver:=i16_wrap (by omega)
 have hE0:Ext w (w.alloc (.cells qZ5 37)):=Upd.alloc (Upd.refl _ _) _
 have hz0:(w.alloc (.cells qZ5 37)).heap.size=w.heap.size+1:=World.size_alloc _ _
 have hr0:blk (w.alloc (.cells qZ5 37)) w.heap.size=some (qZ5,37,(0,0)):=blk_alloc_new rfl
 refine fn_of_W Tryz.func8 rfl Tryz.results8 Tryz.ntmps8 rfl ?_
 repeat ((first|refine qA ?_|apply qB|refine qC ?_|apply qD|apply qE|apply qF|apply qG|apply qH);try simp (maxSteps:=1000000)(disch:=(first|omega|(simp only [qI,qJ,qK]<;>omega)|exact qL _)) only [go_sem,ew])
 generalize (w.alloc (.cells qZ5 37))=w0 at *
 refine (NewPtrQ_fn w0).mono ?_
 rintro _ w1 ⟨rfl,hb1,hE1⟩
 have hz1:=blk_lt hb1
 repeat ((first|refine qA ?_|apply qB|refine qC ?_|apply qD|apply qE|apply qF|apply qG|apply qH);try simp (maxSteps:=1000000)(disch:=(first|omega|(simp only [qI,qJ,qK]<;>omega)|exact qL _)) only [go_sem,ew])
 refine (SetVersionQ_fn w1 (vb:=w0.heap.size) ver hb1).mono ?_
 rintro _ w2 ⟨hb2,hU2⟩
 have hz2:=hU2.size
 have hE2:Ext w0 w2:=hE1.more hU2 fun b hb h=>by omega
 repeat ((first|refine qA ?_|apply qB|refine qC ?_|apply qD|apply qE|apply qF|apply qG|apply qH);try simp (maxSteps:=1000000)(disch:=(first|omega|(simp only [qI,qJ,qK]<;>omega)|exact qL _)) only [go_sem,ew])
 refine wp_copyN ap_22_22 (ok:=ok) (s:=s) (v:=.slice ba _ bc) (by first|rfl|simp (maxSteps:=1000000)(disch:=(first|omega|(simp only [qI,qJ,qK]<;>omega)|exact qL _)) only [go_sem]) (by first|rfl|simp (maxSteps:=1000000)(disch:=(first|omega|(simp only [qI,qJ,qK]<;>omega)|exact qL _)) only [go_sem]) (hb.keep (Ext.keeps (hE0.trans hE2) _)) (by omega) ?_
 intro v3 w3 ho3 hE3 hf3
 have hz3:=hE3.size
 have hb3:=hE3.blk_some hb2 id
 have hE03:Ext w0 w3:=hE2.trans hE3
 have hG3:Glo ev w3:=hG.updS (hE0.trans hE03) id id
 obtain ⟨a3,c3,rfl,_⟩:=ho3.shape
 try simp (maxSteps:=1000000)(disch:=(first|omega|(simp only [qI,qJ,qK]<;>omega)|exact qL _)) only [go_sem]
 refine (ReadFromQ_fn (d:=d) (ok:=fun b=>b < w3.heap.size∧b≠w0.heap.size) (ev:=ev) (ver:=ver) (by omega) (by omega) w3 _ _ hb3 ((Own.bytes ho3 hf3).weaken fun b hb hk=>⟨hb,by omega⟩) (fun b hb=>hb) hG3 ⟨by omega,by omega⟩ hev).mono ?_
 rw [← hfin]
 rintro r4 w4 ⟨h4n,h4s,hU4⟩
 have hz4:=hU4.size
 have hE4:Ext w0 w4:=hE03.more hU4 fun b hb h=>by omega
 have hr4:=hE4.blk_some hr0 id
 obtain ⟨rfl,cells,hb4,hR4⟩:=h4s hst
 repeat (first|simp (maxSteps:=1000000)(disch:=(first|omega|(simp only [qI,qJ,qK]<;>omega)|exact qL _)) only [go_sem,hr4]|refine qA ?_|apply qB|refine qC ?_|apply qD|apply qE|apply qF|apply qG|apply qH)
 have YD:∀ b,okN (fun b=>b < w3.heap.size∧b≠w0.heap.size) w3.heap.size b→b≠w0.heap.size:=fun b hb=>by
  rcases hb with hb|hb
  ·exact hb.2
  ·omega
 refine (DefSetQ_fn (d:=d) fin.1 cells w4 hb4 YD hR4).mono ?_
 rintro _ w5 ⟨⟨cells5,hb5,hR5⟩,hU5⟩
 have hz5:=hU5.size
 have hE5:Ext w0 w5:=hE4.more hU5 fun b hb h=>by omega
 have hr5:=hE5.blk_some hr0 id
 repeat (first|simp (maxSteps:=1000000)(disch:=(first|omega|(simp only [qI,qJ,qK]<;>omega)|exact qL _)) only [go_sem,hr5]|refine qA ?_|apply qB|refine qC ?_|apply qD|apply qE|apply qF|apply qG|apply qH)
 have hcl:=(RepS_lay true (d+3) fs_Q).flat hR5
 refine (tellQ_fn (d:=d) (sd_Q fin.1) cells5 w5 hb5 (fun k hk=>by show ((.int .i16 (ver:Int) :: cells5).toArray)[1+k]? = cells5[k]?;rw [List.getElem?_toArray,Nat.add_comm,List.getElem?_cons_succ]) hR5 hgood).mono ?_
 rintro _ w6 ⟨⟨c6,rfl,hc6⟩,hE6⟩
 obtain ⟨vS,vL,vU,rfl,hn6,hS6,hL6,hU6⟩:=hc6.inv
 have f1:=hS6.flat
 have f2:=SlR.flat hL6
 have f3:=SlR.flat hU6
 have hr6:=hE6.blk_some hr5 id
 try simp (maxSteps:=1000000)(disch:=(first|omega|(simp only [qI,qJ,qK]<;>omega)|exact qL _)) only [go_sem,hr6,f1,f2,f3]
 repeat ((first|refine qA ?_|apply qB|refine qC ?_|apply qD|apply qE|apply qF|apply qG|apply qH);try simp (maxSteps:=1000000)(disch:=(first|omega|(simp only [qI,qJ,qK]<;>omega)|exact qL _)) only [go_sem,hr6,f1,f2,f3,cellsAt_five])
 have hUw:Upd (fun b=>b=w.heap.size) w6 (wr w6 w.heap.size 0 [.int .i64 (tlP (d+3) fs_Q (sd_Q fin.1)).n,vS,.bool (tlP (d+3) fs_Q (sd_Q fin.1)).null,vL,vU]):=(Upd.refl _ _).wr _ _ (.inr rfl)
 refine ⟨⟨_,rfl,TreeC.weaken (fun _ _ _=>trivial) (TreeC.keep (hUw.keeps (ok:=fun b=>w5.heap.size≤b) fun b _ hk e=>by have hk':w5.heap.size≤b:=hk;omega) hc6)⟩,(hE0.trans (hE5.trans hE6)).wr _ _ (.inl (Nat.le_refl _))⟩

theorem tsX0 (pt:List Fld→Int→Bool→Tree→List UInt8) (D:Nat) (v:Int) (t:Tree):tagsS pt D fs_X0 v true t=([(0,6,fX0_6),(1,7,fX0_7)]:List (Nat × Nat × Fld)).flatMap (tgO pt D v true t):=by
 have hk:knownS fs_X0=2:=rfl
 unfold tagsS
 rw [hk]
 have h6:usualS D fX0_6 (t.at 6)=true∨usualS D fX0_6 (t.at 6)=false:=by cases usualS D fX0_6 (t.at 6)<;>simp
 have h7:usualS D fX0_7 (t.at 7)=true∨usualS D fX0_7 (t.at 7)=false:=by cases usualS D fX0_7 (t.at 7)<;>simp
 all_goals rcases h6 with h6|h6
 all_goals rcases h7 with h7|h7
 all_goals simp [List.range_succ,List.range_zero,List.zipIdx_cons,fs_X0,tgO,h6,h7,show ∀ i,i=i from fun _=>rfl,show fX0_0.tag = -1 from rfl,show fX0_1.tag = -1 from rfl,show fX0_2.tag = -1 from rfl,show fX0_3.tag = -1 from rfl,show fX0_4.tag = -1 from rfl,show fX0_5.tag = -1 from rfl,show fX0_6.tag=0 from rfl,show fX0_7.tag=1 from rfl]
theorem setX0 (pc:List Fld→Tree→Tree) (dp:List Fld→Tree) (D:Nat) (v:Int) (t:Tree):setT pc D v t [(0,6,fX0_6),(1,7,fX0_7)] (cnL pc dp v t fs_X0 0)=cnT pc dp D v true t fs_X0 0:=by
 have h6:usualS D fX0_6 (t.at 6)=true∨usualS D fX0_6 (t.at 6)=false:=by cases usualS D fX0_6 (t.at 6)<;>simp
 have h7:usualS D fX0_7 (t.at 7)=true∨usualS D fX0_7 (t.at 7)=false:=by cases usualS D fX0_7 (t.at 7)<;>simp
 all_goals rcases h6 with h6|h6
 all_goals rcases h7 with h7|h7
 all_goals simp [setT,cnL,cnT,liveS,fs_X0,h6,h7,show fX0_0.tag = -1 from rfl,show fX0_1.tag = -1 from rfl,show fX0_2.tag = -1 from rfl,show fX0_3.tag = -1 from rfl,show fX0_4.tag = -1 from rfl,show fX0_5.tag = -1 from rfl,show fX0_6.tag=0 from rfl,show fX0_7.tag=1 from rfl]

theorem tsQ (pt:List Fld→Int→Bool→Tree→List UInt8) (D:Nat) (v:Int) (t:Tree):tagsS pt D fs_Q v true t=([(0,0,fQ_0),(1,2,fQ_2)]:List (Nat × Nat × Fld)).flatMap (tgO pt D v true t):=by
 have hk:knownS fs_Q=2:=rfl
 unfold tagsS
 rw [hk]
 have h0:usualS D fQ_0 (t.at 0)=true∨usualS D fQ_0 (t.at 0)=false:=by cases usualS D fQ_0 (t.at 0)<;>simp
 have h2:usualS D fQ_2 (t.at 2)=true∨usualS D fQ_2 (t.at 2)=false:=by cases usualS D fQ_2 (t.at 2)<;>simp
 all_goals rcases h0 with h0|h0
 all_goals rcases h2 with h2|h2
 all_goals simp [List.range_succ,List.range_zero,List.zipIdx_cons,fs_Q,tgO,h0,h2,show ∀ i,i=i from fun _=>rfl,show fQ_0.tag=0 from rfl,show fQ_1.tag = -1 from rfl,show fQ_2.tag=1 from rfl,show fQ_3.tag = -1 from rfl,show fQ_4.tag = -1 from rfl,show fQ_5.tag = -1 from rfl,show fQ_6.tag = -1 from rfl,show fQ_7.tag = -1 from rfl,show fQ_8.tag = -1 from rfl,show fQ_9.tag = -1 from rfl,show fQ_10.tag = -1 from rfl,show fQ_11.tag = -1 from rfl]
theorem setQ (pc:List Fld→Tree→Tree) (dp:List Fld→Tree) (D:Nat) (v:Int) (t:Tree):setT pc D v t [(0,0,fQ_0),(1,2,fQ_2)] (cnL pc dp v t fs_Q 0)=cnT pc dp D v true t fs_Q 0:=by
 have h0:usualS D fQ_0 (t.at 0)=true∨usualS D fQ_0 (t.at 0)=false:=by cases usualS D fQ_0 (t.at 0)<;>simp
 have h2:usualS D fQ_2 (t.at 2)=true∨usualS D fQ_2 (t.at 2)=false:=by cases usualS D fQ_2 (t.at 2)<;>simp
 all_goals rcases h0 with h0|h0
 all_goals rcases h2 with h2|h2
 all_goals simp [setT,cnL,cnT,liveS,fs_Q,h0,h2,show fQ_0.tag=0 from rfl,show fQ_1.tag = -1 from rfl,show fQ_2.tag=1 from rfl,show fQ_3.tag = -1 from rfl,show fQ_4.tag = -1 from rfl,show fQ_5.tag = -1 from rfl,show fQ_6.tag = -1 from rfl,show fQ_7.tag = -1 from rfl,show fQ_8.tag = -1 from rfl,show fQ_9.tag = -1 from rfl,show fQ_10.tag = -1 from rfl,show fQ_11.tag = -1 from rfl]

theorem pb_X2 (d:Nat) (v:Int):PartB (d+1) v fs_X2 380:=levelB0 (C:=60) rfl (by
 intro f hf
 simp only [fs_X2,List.mem_cons,List.not_mem_nil,or_false] at hf
 rcases hf with rfl|rfl
 ·exact (partB_nil v _).mono (by decide)
 ·exact (partB_nil v _).mono (by decide)) (by decide)
theorem pr_X2 (d:Nat) (v:Int) (flex:Bool) (hk_X2:okL v flex fs_X2=true):PartR (d+1) v flex fs_X2:=levelR0 rfl hk_X2 (by
 intro f hf hp
 simp only [fs_X2,List.mem_cons,List.not_mem_nil,or_false] at hf
 rcases hf with rfl|rfl
 ·exact absurd hp (by decide)
 ·exact absurd hp (by decide))
theorem pb_X0 (d:Nat) (v:Int):PartB (d+1) v fs_X0 1700:=fun flex N t hs=>by
 have hf:∀ p∈([(0,6,fX0_6),(1,7,fX0_7)]:List (Nat × Nat × Fld)),p.1 < 4294967296∧p.2.2∈fs_X0∧(fieldS (partS d) p.2.2 v true (t.at p.2.1)).length < 4294967296:=by
  intro p hp
  simp only [List.mem_cons,List.not_mem_nil,or_false] at hp
  rcases hp with rfl|rfl
  ·refine ⟨by decide,by simp [fs_X0],?_⟩
   exact Nat.lt_of_le_of_lt (fieldS_uuid_len _ _ _ _ _ rfl) (by decide)
  ·refine ⟨by decide,by simp [fs_X0],?_⟩
   exact Nat.lt_of_le_of_lt (fieldS_num_len _ _ _ _ _ (by decide)) (by decide)
 exact Nat.le_trans (levelB (C:=60) (by
  intro f hf
  simp only [fs_X0,List.mem_cons,List.not_mem_nil,or_false] at hf
  rcases hf with rfl|rfl|rfl|rfl|rfl|rfl|rfl|rfl
  ·exact (partB_nil v _).mono (by decide)
  ·exact (partB_nil v _).mono (by decide)
  ·exact (partB_nil v _).mono (by decide)
  ·exact (partB_nil v _).mono (by decide)
  ·exact (partB_nil v _).mono (by decide)
  ·exact (partB_nil v _).mono (by decide)
  ·exact (partB_nil v _).mono (by decide)
  ·exact (partB_nil v _).mono (by decide)) hs [(0,6,fX0_6),(1,7,fX0_7)] (tsX0 _ _ _ _) hf (by decide)) (Nat.mul_le_mul_right _ (by decide))
theorem pr_X0 (d:Nat) (v:Int) (flex:Bool) (hk_X0:okL v flex fs_X0=true):PartR (d+1) v flex fs_X0:=fun N t hs=>by
 have hf:∀ p∈([(0,6,fX0_6),(1,7,fX0_7)]:List (Nat × Nat × Fld)),tagX fs_X0 p.1=some p.2∧p.1 < 4294967296∧p.2.2∈fs_X0∧0≤p.2.2.tag∧(fieldS (partS d) p.2.2 v true (t.at p.2.1)).length < 4294967296:=by
  intro p hp
  simp only [List.mem_cons,List.not_mem_nil,or_false] at hp
  rcases hp with rfl|rfl
  ·refine ⟨rfl,by decide,by simp [fs_X0],by decide,?_⟩
   exact Nat.lt_of_le_of_lt (fieldS_uuid_len _ _ _ _ _ rfl) (by decide)
  ·refine ⟨rfl,by decide,by simp [fs_X0],by decide,?_⟩
   exact Nat.lt_of_le_of_lt (fieldS_num_len _ _ _ _ _ (by decide)) (by decide)
 exact levelR hk_X0 (by
  intro f hf hp
  simp only [fs_X0,List.mem_cons,List.not_mem_nil,or_false] at hf
  rcases hf with rfl|rfl|rfl|rfl|rfl|rfl|rfl|rfl
  ·exact absurd hp (by decide)
  ·exact absurd hp (by decide)
  ·exact absurd hp (by decide)
  ·exact absurd hp (by decide)
  ·exact absurd hp (by decide)
  ·exact absurd hp (by decide)
  ·exact absurd hp (by decide)
  ·exact absurd hp (by decide)) hs [(0,6,fX0_6),(1,7,fX0_7)] (tsX0 _ _ _ _) (setX0 _ _ _ _ _) hf (by decide)
theorem pb_X3 (d:Nat) (v:Int):PartB (d+2) v fs_X3 10380:=levelB0 (C:=1700) rfl (by
 intro f hf
 simp only [fs_X3,List.mem_cons,List.not_mem_nil,or_false] at hf
 rcases hf with rfl|rfl|rfl
 ·exact (partB_nil v _).mono (by decide)
 ·exact (partB_nil v _).mono (by decide)
 ·exact (pb_X0 d v).mono (by decide)) (by decide)
theorem pr_X3 (d:Nat) (v:Int) (flex:Bool) (hk_X0:okL v flex fs_X0=true) (hk_X3:okL v flex fs_X3=true):PartR (d+2) v flex fs_X3:=levelR0 rfl hk_X3 (by
 intro f hf hp
 simp only [fs_X3,List.mem_cons,List.not_mem_nil,or_false] at hf
 rcases hf with rfl|rfl|rfl
 ·exact absurd hp (by decide)
 ·exact absurd hp (by decide)
 ·exact pr_X0 d v flex hk_X0)
theorem pb_X1 (d:Nat) (v:Int):PartB (d+1) v fs_X1 540:=levelB0 (C:=60) rfl (by
 intro f hf
 simp only [fs_X1,List.mem_cons,List.not_mem_nil,or_false] at hf
 rcases hf with rfl|rfl|rfl
 ·exact (partB_nil v _).mono (by decide)
 ·exact (partB_nil v _).mono (by decide)
 ·exact (partB_nil v _).mono (by decide)) (by decide)
theorem pr_X1 (d:Nat) (v:Int) (flex:Bool) (hk_X1:okL v flex fs_X1=true):PartR (d+1) v flex fs_X1:=levelR0 rfl hk_X1 (by
 intro f hf hp
 simp only [fs_X1,List.mem_cons,List.not_mem_nil,or_false] at hf
 rcases hf with rfl|rfl|rfl
 ·exact absurd hp (by decide)
 ·exact absurd hp (by decide)
 ·exact absurd hp (by decide))
theorem pb_Q (d:Nat) (v:Int) (flex:Bool) {N:Nat} {t:Tree} (hN:N≤1048576) (hs:Sized N t):(partS (d+3) fs_Q v flex t).length≤2 ^ 40:=by
 have hf:∀ p∈([(0,0,fQ_0),(1,2,fQ_2)]:List (Nat × Nat × Fld)),p.1 < 4294967296∧p.2.2∈fs_Q∧(fieldS (partS (d+2)) p.2.2 v true (t.at p.2.1)).length < 4294967296:=by
  intro p hp
  simp only [List.mem_cons,List.not_mem_nil,or_false] at hp
  rcases hp with rfl|rfl
  ·refine ⟨by decide,by simp [fs_Q],?_⟩
   exact Nat.lt_of_le_of_lt (fieldS_bound (C:=60) (sub:=fQ_0.sub) (fun M x hx=>partB_nil v _ true M x hx) fQ_0 rfl (hs.at 0)) (Nat.lt_of_le_of_lt (Nat.mul_le_mul_left _ (Nat.succ_le_succ hN)) (by decide))
  ·refine ⟨by decide,by simp [fs_Q],?_⟩
   exact Nat.lt_of_le_of_lt (fieldS_bound (C:=380) (sub:=fQ_2.sub) (fun M x hx=>pb_X2 (d+1) v true M x hx) fQ_2 rfl (hs.at 2)) (Nat.lt_of_le_of_lt (Nat.mul_le_mul_left _ (Nat.succ_le_succ hN)) (by decide))
 exact Nat.le_trans (levelB (C:=10380) (by
  intro f hf
  simp only [fs_Q,List.mem_cons,List.not_mem_nil,or_false] at hf
  rcases hf with rfl|rfl|rfl|rfl|rfl|rfl|rfl|rfl|rfl|rfl|rfl|rfl
  ·exact (partB_nil v _).mono (by decide)
  ·exact (partB_nil v _).mono (by decide)
  ·exact (pb_X2 (d+1) v).mono (by decide)
  ·exact (partB_nil v _).mono (by decide)
  ·exact (partB_nil v _).mono (by decide)
  ·exact (partB_nil v _).mono (by decide)
  ·exact (partB_nil v _).mono (by decide)
  ·exact (partB_nil v _).mono (by decide)
  ·exact (partB_nil v _).mono (by decide)
  ·exact (pb_X3 d v).mono (by decide)
  ·exact (pb_X1 (d+1) v).mono (by decide)
  ·exact (partB_nil v _).mono (by decide)) hs [(0,0,fQ_0),(1,2,fQ_2)] (tsQ _ _ _ _) hf (by decide)) (Nat.le_trans (Nat.mul_le_mul_left _ (Nat.succ_le_succ hN)) (by decide))
theorem pr_Q (d:Nat) (v:Int) (flex:Bool) (hk_X2:okL v flex fs_X2=true) (hk_X3:okL v flex fs_X3=true) (hk_X0:okL v flex fs_X0=true) (hk_X1:okL v flex fs_X1=true) (hk_Q:okL v flex fs_Q=true) {N:Nat} {t:Tree} (hN:N≤1048576) (hs:Sized N t):rdQ (d+3) v flex fs_Q (some (partS (d+3) fs_Q v flex t))=(cnQ (d+3) v flex fs_Q t,some []):=by
 have hf:∀ p∈([(0,0,fQ_0),(1,2,fQ_2)]:List (Nat × Nat × Fld)),tagX fs_Q p.1=some p.2∧p.1 < 4294967296∧p.2.2∈fs_Q∧0≤p.2.2.tag∧(fieldS (partS (d+2)) p.2.2 v true (t.at p.2.1)).length < 4294967296:=by
  intro p hp
  simp only [List.mem_cons,List.not_mem_nil,or_false] at hp
  rcases hp with rfl|rfl
  ·refine ⟨rfl,by decide,by simp [fs_Q],by decide,?_⟩
   exact Nat.lt_of_le_of_lt (fieldS_bound (C:=60) (sub:=fQ_0.sub) (fun M x hx=>partB_nil v _ true M x hx) fQ_0 rfl (hs.at 0)) (Nat.lt_of_le_of_lt (Nat.mul_le_mul_left _ (Nat.succ_le_succ hN)) (by decide))
  ·refine ⟨rfl,by decide,by simp [fs_Q],by decide,?_⟩
   exact Nat.lt_of_le_of_lt (fieldS_bound (C:=380) (sub:=fQ_2.sub) (fun M x hx=>pb_X2 (d+1) v true M x hx) fQ_2 rfl (hs.at 2)) (Nat.lt_of_le_of_lt (Nat.mul_le_mul_left _ (Nat.succ_le_succ hN)) (by decide))
 have h:=(levelR hk_Q (by
  intro f hf hp
  simp only [fs_Q,List.mem_cons,List.not_mem_nil,or_false] at hf
  rcases hf with rfl|rfl|rfl|rfl|rfl|rfl|rfl|rfl|rfl|rfl|rfl|rfl
  ·exact absurd hp (by decide)
  ·exact absurd hp (by decide)
  ·exact pr_X2 (d+1) v flex hk_X2
  ·exact absurd hp (by decide)
  ·exact absurd hp (by decide)
  ·exact absurd hp (by decide)
  ·exact absurd hp (by decide)
  ·exact absurd hp (by decide)
  ·exact absurd hp (by decide)
  ·exact pr_X3 d v flex hk_X0 hk_X3
  ·exact pr_X1 (d+1) v flex hk_X1
  ·exact absurd hp (by decide)) hs [(0,0,fQ_0),(1,2,fQ_2)] (tsQ _ _ _ _) (setQ _ _ _ _ _) hf (by decide)).1 []
 rw [List.append_nil] at h
 exact h
set_option maxHeartbeats 4000000 in
theorem law_DefaultQ {ok:Blocks} {ev:Value} (n:Nat) (hn:n < 256) (t:Tree) (ct:List Value) (w:World) (ht:TreeC ok w t ct) (hsm:Small 4611686018427387903 t) (hG:Glo ev w) (hev:∃ T p,ev = .iface T p) {N:Nat} (hN:N≤1048576) (hsz:Sized N t) :
  Fn Tryz.prog 3 #[.int .u8 n,.agg ct.toArray] w fun r w'=>r = .bool true∧Ext w w':=by
 have hn64:=TreeC.n64 ht
 obtain ⟨vS,vL,vU,rfl,hn',hS,hL,hU⟩:=ht.inv
 have f1:=hS.flat
 have f2:=SlR.flat hL
 have f3:=SlR.flat hU
 have hE:Ext w (w.alloc (.cells #[.int .i64 t.n,vS,.bool t.null,vL,vU] 26)):=Upd.alloc (Upd.refl _ _) _
 refine fn_of_W Tryz.func3 rfl Tryz.results3 Tryz.ntmps3 rfl ?_
 repeat ((first|refine qA ?_|apply qB|refine qC ?_|apply qD|apply qE|apply qF|apply qG|apply qH);try simp (maxSteps:=1000000)(disch:=(first|omega|(simp only [qI,qJ,qK]<;>omega)|exact qL _)) only [go_sem,f1,f2,f3,cellsAt_five])
 have hb:blk (w.alloc (.cells #[.int .i64 t.n,vS,.bool t.null,vL,vU] 26)) w.heap.size=some (#[.int .i64 t.n,vS,.bool t.null,vL,vU],26,(0,0)):=blk_alloc_new rfl
 generalize (w.alloc (.cells #[.int .i64 t.n,vS,.bool t.null,vL,vU] 26))=w1 at *
 refine (zzFits1_fn (ok:=ok) t _ w1 (ht.keep (hE.keeps _)) hsm).mono ?_
 rintro r2 w2 ⟨⟨bb,rfl⟩,hE2⟩
 cases bb with
 | false =>
  simp (maxSteps:=1000000)(disch:=(first|omega|(simp only [qI,qJ,qK]<;>omega)|exact qL _)) only [go_sem]
  repeat ((first|refine qA ?_|apply qB|refine qC ?_|apply qD|apply qE|apply qF|apply qG|apply qH);try simp (maxSteps:=1000000)(disch:=(first|omega|(simp only [qI,qJ,qK]<;>omega)|exact qL _)) only [go_sem])
  all_goals exact hE.trans hE2
 | true =>
  simp (maxSteps:=1000000)(disch:=(first|omega|(simp only [qI,qJ,qK]<;>omega)|exact qL _)) only [go_sem]
  repeat ((first|refine qA ?_|apply qB|refine qC ?_|apply qD|apply qE|apply qF|apply qG|apply qH);try simp (maxSteps:=1000000)(disch:=(first|omega|(simp only [qI,qJ,qK]<;>omega)|exact qL _)) only [go_sem])
  refine (MaxQ_fn w2).mono ?_
  rintro _ w2m ⟨rfl,IY⟩
  repeat ((first|refine qA ?_|apply qB|refine qC ?_|apply qD|apply qE|apply qF|apply qG|apply qH);try simp (maxSteps:=1000000)(disch:=(first|omega|(simp only [qI,qJ,qK]<;>omega)|exact qL _)) only [go_sem])
  refine (cQ_fn w2m).mono ?_
  rintro r3 w3 ⟨⟨vs,rfl,hF0⟩,hE3⟩
  have hF:FldsV AnyB w3 vs fs_Q:=hF0.weaken fun _ _ _=>trivial
  have fF:=SlR.flat hF
  try simp (maxSteps:=1000000)(disch:=(first|omega|(simp only [qI,qJ,qK]<;>omega)|exact qL _)) only [go_sem]
  refine (version_fn w3 n 18 hn (by decide)).mono ?_
  rintro _ w3v ⟨rfl,rfl⟩
  have hE03:Ext w w3v:=((hE.trans hE2).trans IY).trans hE3
  have hb3:=hE3.blk_some (IY.blk_some (hE2.blk_some hb id) id) id
  have hE4:Ext w3v (wr (w3v.alloc (.cells #[.slice none 0 0,.int .i64 0] 31)) w3v.heap.size 0 [vs,.int .i64 12]):=(Upd.alloc (Upd.refl _ _) _).wr _ _ (.inl (Nat.le_refl _))
  have hb4:blk (wr (w3v.alloc (.cells #[.slice none 0 0,.int .i64 0] 31)) w3v.heap.size 0 [vs,.int .i64 12]) w3v.heap.size=some (#[vs,.int .i64 12],31,(0,0)):=by simp (maxSteps:=1000000)(disch:=(first|omega|(simp only [qI,qJ,qK]<;>omega)|exact qL _)) only [go_sem]
  try simp (maxSteps:=1000000)(disch:=(first|omega|(simp only [qI,qJ,qK]<;>omega)|exact qL _)) only [go_sem,fF]
  generalize (wr (w3v.alloc (.cells #[.slice none 0 0,.int .i64 0] 31)) w3v.heap.size 0 [vs,.int .i64 12])=w4 at *
  have KZ:=hE4.blk_some hb3 id
  have hv3:n % 19 < 19:=Nat.mod_lt _ (by omega)
  generalize n % 19=ver at *
  have hs1:=blk_lt hb4
  have hs2:=blk_lt KZ
  repeat ((first|refine qA ?_|apply qB|refine qC ?_|apply qD|apply qE|apply qF|apply qG|apply qH);try simp (maxSteps:=1000000)(disch:=(first|omega|(simp only [qI,qJ,qK]<;>omega)|exact qL _)) only [go_sem,KZ,hb4,cellsAt_five,cellsAt_two])
  have hE04:Ext w w4:=hE03.trans hE4
  have hokF:okF 3 fs_Q=true:=by decide
  have hokA:(okL ver (flexB 12 ver) fs_X2 && okL ver (flexB 12 ver) fs_X3 && okL ver (flexB 12 ver) fs_X0 && okL ver (flexB 12 ver) fs_X1 && okL ver (flexB 12 ver) fs_Q)=true:=(by decide:∀ v:Fin 19,(okL ((v.val:Nat):Int) (flexB 12 ((v.val:Nat):Int)) fs_X2 && okL ((v.val:Nat):Int) (flexB 12 ((v.val:Nat):Int)) fs_X3 && okL ((v.val:Nat):Int) (flexB 12 ((v.val:Nat):Int)) fs_X0 && okL ((v.val:Nat):Int) (flexB 12 ((v.val:Nat):Int)) fs_X1 && okL ((v.val:Nat):Int) (flexB 12 ((v.val:Nat):Int)) fs_Q)=true) ⟨ver,hv3⟩
  simp only [Bool.and_eq_true] at hokA
  obtain ⟨⟨⟨⟨hk_X2,hk_X3⟩,hk_X0⟩,hk_X1⟩,hk_Q⟩:=hokA
  have hdf:okDf (1+3) fs_Q=true:=by decide
  have hpl:(partS 4 fs_Q ver (flexB 12 ver) t).length≤2 ^ 40:=pb_Q 1 ver (flexB 12 ver) hN hsz
  refine (Write_fn (ok:=AnyB) (d:=3) fs_Q 12 ver t vs _ w4 (hF.keep (Ext.keeps hE4 _)) hokF ((ht.weaken fun _ _ _=>trivial).keep (Ext.keeps hE04 _)) hsm hpl).mono ?_
  rintro r5 w5 ⟨ho5,hE5⟩
  have hE05:=hE04.trans hE5
  obtain ⟨a5,c5,rfl,_⟩:=ho5.shape
  repeat ((first|refine qA ?_|apply qB|refine qC ?_|apply qD|apply qE|apply qF|apply qG|apply qH);try simp (maxSteps:=1000000)(disch:=(first|omega|(simp only [qI,qJ,qK]<;>omega)|exact qL _)) only [go_sem])
  have hrd:rdQ 4 ver (flexB 12 ver) fs_Q (some (partS 4 fs_Q ver (flexB 12 ver) t))=(cnQ 4 ver (flexB 12 ver) fs_Q t,some []):=pr_Q 1 ver (flexB 12 ver) hk_X2 hk_X3 hk_X0 hk_X1 hk_Q hN hsz
  have hgood:GoodP (1+3) fs_Q (cnQ 4 ver (flexB 12 ver) fs_Q t):=cnQ_good ver _ 4 _ _ hdf
  have hnum:okNum fs_Q=true:=by decide
  have hgoodD:GoodP (1+3) fs_Q (sd_Q (cnQ 4 ver (flexB 12 ver) fs_Q t)):=sd_Q_good hgood
  refine (DefDQ_fn (d:=1) (ok:=AnyB) (ev:=ev) ver (by omega) _ _ w5 (Own.bytes (ok:=AnyB) ho5 fun _ _=>trivial) (hG.updS hE05 id id) hpl ((cnQ 4 ver (flexB 12 ver) fs_Q t),some []) hrd.symm (by simp) hgoodD hev).mono ?_
  rintro _ w6 ⟨⟨ca,rfl,hca⟩,hE6⟩
  simp only at hca
  have hsT:Small 32767 (tlP (1+3) fs_Q (sd_Q (cnQ 4 ver (flexB 12 ver) fs_Q t))):=tlP_small _ _ _ hdf hgoodD
  have htold:∀ i (h:i < fs_Q.length),fs_Q[i].df=0∨((tlP (1+3) fs_Q (sd_Q (cnQ 4 ver (flexB 12 ver) fs_Q t))).at i).n=numS fs_Q[i].kind fs_Q[i].df:=sd_Q_told _
  generalize tlP (1+3) fs_Q (sd_Q (cnQ 4 ver (flexB 12 ver) fs_Q t))=Ta at *
  have hE06:=hE05.trans hE6
  obtain ⟨aS,aL,aU,rfl,hna,hSa,hLa,hUa⟩:=hca.inv
  have g1:=hSa.flat
  have g2:=SlR.flat hLa
  have g3:=SlR.flat hUa
  have hE7:Ext w6 (wr (w6.alloc (.cells qZ5 37)) w6.heap.size 0 [.int .i64 Ta.n,aS,.bool Ta.null,aL,aU]):=(Upd.alloc (Upd.refl _ _) _).wr _ _ (.inl (Nat.le_refl _))
  have hb7:blk (wr (w6.alloc (.cells qZ5 37)) w6.heap.size 0 [.int .i64 Ta.n,aS,.bool Ta.null,aL,aU]) w6.heap.size=some (#[.int .i64 Ta.n,aS,.bool Ta.null,aL,aU],37,(0,0)):=by simp (maxSteps:=1000000)(disch:=(first|omega|(simp only [qI,qJ,qK]<;>omega)|exact qL _)) only [go_sem]
  repeat (first|simp (maxSteps:=1000000)(disch:=(first|omega|(simp only [qI,qJ,qK]<;>omega)|exact qL _)) only [go_sem,g1,g2,g3]|refine qA ?_|apply qB|refine qC ?_|apply qD|apply qE|apply qF|apply qG|apply qH)
  generalize (wr (w6.alloc (.cells qZ5 37)) w6.heap.size 0 [.int .i64 Ta.n,aS,.bool Ta.null,aL,aU])=w7 at *
  have hE47:=(hE5.trans hE6).trans hE7
  have hE07:=hE04.trans hE47
  have LC:=hE47.blk_some hb4 id
  have l1:=blk_lt hb7
  have l2:=blk_lt LC
  refine W.drawR (.take 0 (.take 1 (.take 2 (.take 3 (.take 4 (.only 5 (.only 6 (.take 7 (.only 8 .done))))))))) NoB mixed (by kernel_rfl) ?_
  try simp (maxSteps:=1000000)(disch:=(first|omega|(simp only [qI,qJ,qK]<;>omega)|exact qL _)) only [go_sem,fF,g1,g2,g3,hb7,LC,cellsAt_five,cellsAt_two]
  have hEd:Ext w7 w7.drew:=(Upd.refl _ _).drew
  have hE0d:=hE07.trans hEd
  have RG:=hE47.trans hEd
  have hcad:=(hca.keep (Ext.keeps hE7 _)).keep (Ext.keeps hEd _)
  generalize w7.drew=w8 at *
  refine (got_fn hsT.lists AnyB _ w8 hcad).mono ?_
  rintro _ w10 ⟨⟨c10,rfl,VS⟩,vJ⟩
  try refine ⟨vJ,?_⟩
  try simp (maxSteps:=1000000)(disch:=(first|omega|(simp only [qI,qJ,qK]<;>omega)|exact qL _)) only [go_sem]
  refine (Defaults_fn fs_Q Ta vs _ w10 (((hF.keep (Ext.keeps hE4 _)).keep (Ext.keeps RG _)).keep (Ext.keeps vJ _)) (okF_len hokF) (VS.weaken fun _ _ _=>trivial) (hsT.mono (by decide)) htold).mono ?_
  rintro _ w11 ⟨rfl,DZ⟩
  try refine ⟨vJ.trans DZ,?_⟩
  try simp (maxSteps:=1000000)(disch:=(first|omega|(simp only [qI,qJ,qK]<;>omega)|exact qL _)) only [go_sem]
  try refine ⟨vJ.trans DZ,?_⟩
  repeat ((first|refine qA ?_|apply qB|refine qC ?_|apply qD|apply qE|apply qF|apply qG|apply qH);try simp (maxSteps:=1000000)(disch:=(first|omega|(simp only [qI,qJ,qK]<;>omega)|exact qL _)) only [go_sem])
  all_goals exact hE0d.trans (vJ.trans DZ)
end Ms

