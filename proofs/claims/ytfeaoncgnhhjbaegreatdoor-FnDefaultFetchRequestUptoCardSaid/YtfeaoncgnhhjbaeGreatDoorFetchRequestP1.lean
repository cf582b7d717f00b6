/- A part of the proof: see the last text. -/
import Derived.Test.YtfeaoncgnhhjbaeGreatDoorC10
import Derived.Test.YtfeaoncgnhhjbaeGreatDoorFetchRequestP0
set_option linter.unusedSimpArgs false
set_option linter.unusedVariables false
namespace Ms
open Go.World renaming size_alloc → qI
open Ms renaming size_wr → qJ,size_drew → qK,not_noB → qL
open W renaming seqF → qA,seq → qB,regF → qC,condK → qD,block → qE,skip → qF,ret → qG,exit → qH
open Nat renaming reduceEqDiff → n0,reduceAdd → n1,reduceMul → n2,reduceSub → n3,reduceLT → n4,reduceLeDiff → n5
open Int renaming reduceEq → i0,reduceLT → i1,reduceLE → i2,reduceNeg → i3,reduceAdd → i4,reduceSub → i5,reduceMul → i6,reduceToNat → i7
set_option maxRecDepth 8000
open Go Go.Proofs Go.Shelf
attribute [local congr] W_congr WPsq_congr WPp_congr optK_congr addrK_congr intK_congr boolK_congr sliceK_congr tupleK_congr funcK_congr Fn_congr rawK_congr takeK_congr stepK_congr convK_congr aggK_congr

set_option maxHeartbeats 24000000 in
theorem readQ_0 {d:Nat} {ok:Blocks} {ver:Int} {ev:Value} (hlo:0≤ver) (hhi:ver≤11) (w:World) {vb:Nat} (src:Value) (s:List UInt8) (hv:blk w vb=some (#[.int .i16 ver,.pointer none,zM,zM,.int .i64 (-1),.map none,.int .i32 0,.int .i32 0,.int .i32 2147483647,.int .i8 0,.int .i32 0,zM,zS,zS,zT,.map none],75,(0,0))) (hsrc:BytesV ok w src s) (mY:∀ b,ok b→b < w.heap.size∧b≠vb) (hG:Glo ev w) (hgv:¬ 0=vb∧¬ 1=vb) (hev:∃ T p,ev = .iface T p) :
  Fn Tryz.prog 27 #[.pointer (some ⟨vb,0,none⟩),src,zB] w (ReadQ 75 ok ver (d+3) fs_Q vb w (rdQ (d+3) ver false fs_Q (some s)) ev):=by
 have hvl:=blk_lt hv
 have hgs:=hG.lt
 obtain ⟨sa,sc,rfl,_⟩:=hsrc.shape
 refine fn_of_W Tryz.func27 rfl Tryz.results27 Tryz.ntmps27 rfl ?_
 repeat ((first|refine qA ?_|apply qB|refine qC ?_|apply qD|apply qE|apply qF|apply qG|apply qH);try simp (disch:=omega) only [go_sem,hv])
 refine (DefaultQ_fn w hv).mono ?_
 rintro _ w0 ⟨hv0,hu0⟩
 have hz0:=hu0.size
 have HS:BytesV ok w0 (.slice sa s.length sc) s:=hsrc.keep (hu0.keeps fun b _ hk e=>(mY b hk).2 e)
 obtain ⟨rb,hrb⟩:∃ r,r=w0.heap.size:=⟨_,rfl⟩
 have hE1:Ext w0 (wr (w0.alloc (.cells #[zS,zB] 104)) w0.heap.size 0 [.slice sa s.length sc,zB]):=(Upd.alloc (Upd.refl _ _) _).wr _ _ (.inl (Nat.le_refl _))
 have hz1:(wr (w0.alloc (.cells #[zS,zB] 104)) w0.heap.size 0 [.slice sa s.length sc,zB]).heap.size=w0.heap.size+1:=by rw [size_wr,World.size_alloc]
 have hR1:Rdr RT ok (wr (w0.alloc (.cells #[zS,zB] 104)) w0.heap.size 0 [.slice sa s.length sc,zB]) w0.heap.size (some s):=Rdr.good (v:=.slice sa s.length sc) (by simp (disch:=omega) only [go_sem]) (HS.keep (hE1.keeps _))
 have hv_1:=hE1.blk_some hv0 id
 repeat ((first|refine qA ?_|apply qB|refine qC ?_|apply qD|apply qE|apply qF|apply qG|apply qH);try simp (disch:=omega) only [go_sem,hv0])
 generalize (wr (w0.alloc (.cells #[zS,zB] 104)) w0.heap.size 0 [.slice sa s.length sc,zB])=w1 at *
 rw [← hrb] at hR1
 try rw [← hrb]
 have hok:∀ b,ok b→b < w.heap.size∧b≠vb:=mY
 have hrok:¬ ok rb:=fun h=>by have:=(hok rb h).1;omega
 have hbase:Upd (fun b=>b=vb) w w1:=hu0.trans (hE1.mono fun _ h=>h.elim)
 have hG1:Glo ev w1:=hG.updS hbase hgv.1 hgv.2
 have hgrb:¬ 0=rb:=by omega
 have bK:¬ (0=vb∨0=rb):=fun h=>h.elim hgv.1 fun h=>by omega
 have bM:¬ (1=vb∨1=rb):=fun h=>h.elim hgv.2 fun h=>by omega
 obtain ⟨s0,hs0⟩:∃ s':St,s'=some s:=⟨_,rfl⟩
 rw [← hs0] at hR1 ⊢
 have hU1:Upd (fun b=>b=vb∨b=rb) w1 w1:=Upd.refl _ _
 have hoM:∀ b,(ok b∨w1.heap.size≤b)→¬ (b=vb∨b=rb):=fun b hk h=>by
  rcases hk with hk|hk
  ·have:=hok b hk;rcases h with h|h<;>omega
  ·rcases h with h|h<;>omega
 have hq1:Rdr RT ok w1 rb s0:=hR1
 obtain ⟨FB,hFB⟩:∃ P:Prop,P=((rdQ (d+3) ver false fs_Q s0).2=none):=⟨_,rfl⟩
 have hbP:(rdQ (d+3) ver false fs_Q s0).2=none→FB:=fun h=>Eq.mpr hFB h
 have hb_0:(rdL (rdQ (d+2) ver false) (dfP (d+2)) ver false [fQ_0,fQ_1,fQ_2,fQ_3,fQ_4,fQ_5,fQ_6,fQ_7,fQ_8,fQ_9,fQ_10,fQ_11] s0).2=none→FB:=fun h=>Eq.mpr hFB (rdQ_bad h)
 obtain ⟨x_0,hx_0⟩:∃ x,x=dfF (dfP (d+2)) fQ_0:=⟨_,rfl⟩
 have hf_0:RepF (RepS true (d+2)) (szS true (d+2)) fQ_0 (fun b=>ok b∨w1.heap.size≤b) w1 (x_0) [.pointer none]:=by rw [hx_0];exact (RepF_ptr rfl (by decide)).2 ⟨_,rfl,rfl⟩
 have hb_1:(rdL (rdQ (d+2) ver false) (dfP (d+2)) ver false [fQ_1,fQ_2,fQ_3,fQ_4,fQ_5,fQ_6,fQ_7,fQ_8,fQ_9,fQ_10,fQ_11] s0).2=none→FB:=fun h=>hb_0 (by rw [rdL_tg (by decide)];exact h)
 have hh_1:hasS fQ_1 ver=true:=hasS_t (by show (0:Int)≤ver;omega) (by show (14:Int) < 0∨ver≤(14:Int);omega)
 obtain ⟨x_1,hx_1⟩:∃ x,x=(rdF (rdQ (d+2) ver false) ver false fQ_1 s0).1:=⟨_,rfl⟩
 repeat ((first|refine qA ?_|apply qB|refine qC ?_|apply qD|apply qE|apply qF|apply qG|apply qH);try simp (disch:=omega) only [go_sem,hv_1])
 have hrd:rdF (rdQ (d+2) ver false) ver false fQ_1 s0=_:=rdF_num 3 rfl (by decide)
 refine (Int32_fn w1 hq1 hrok hG1.1 hgrb).mono ?_
 rintro _ w2 ⟨rfl,hq2,hu2⟩
 have hv_2:=hu2.blk_some hv_1 (by omega)
 have hV2:Upd (fun b=>b=vb∨b=rb) w1 w2:=hu2.mono (fun _ h=>.inr h)
 have hU2:=hU1.trans hV2
 have hz2:=hV2.size
 have hG2:=hG1.updS hU2 bK bM
 have hst:(rdF (rdQ (d+2) ver false) ver false fQ_1 s0).2=(rdInt .i32 4 s0).2:=by first|(rw [hrd];rfl)|rw [hrd]
 obtain ⟨s1,hs1⟩:∃ s,s=(rdF (rdQ (d+2) ver false) ver false fQ_1 s0).2:=⟨_,rfl⟩
 rw [← hst,← hs1] at hq2
 clear hst
 repeat ((first|refine qA ?_|apply qB|refine qC ?_|apply qD|apply qE|apply qF|apply qG|apply qH);try simp (disch:=omega) only [go_sem,hv_2])
 generalize hw3:wr w2 vb 2 [.int .i32 (rdInt .i32 4 s0).1] = w3
 have hS3:Upd (fun b=>b=vb∨b=rb) w2 w3:=by rw [← hw3];exact (Upd.refl _ _).wr _ _ (.inr (.inl rfl))
 have hv_3:blk w3 vb=some (#[.int .i16 ver,.pointer none,.int .i32 (rdInt .i32 4 s0).1,zM,.int .i64 (-1),.map none,.int .i32 0,.int .i32 0,.int .i32 2147483647,.int .i8 0,.int .i32 0,zM,zS,zS,zT,.map none],75,(0,0)):=by rw [← hw3,blk_wr_eq,hv_2];rfl
 have hV3:=hS3
 have hU3:=hU2.trans hV3
 have hz3:=hV3.size
 have hG3:=hG1.updS hU3 bK bM
 have hq3:=Rdr.stored hw3 hq2 (by omega) fun h=>by have:=(hok _ h).1;first|omega|exact (hok _ h).2 rfl
 clear hw3
 have hf_1:RepF (RepS true (d+2)) (szS true (d+2)) fQ_1 (fun b=>ok b∨w1.heap.size≤b) w3 (x_1) [.int .i32 (rdInt .i32 4 s0).1]:=(RepF_num (by decide)).2 (by rw [hx_1,hrd];exact congrArg (fun x=>[x]) (numC_rd 3 (by decide) 4 s0).symm)
 clear hrd
 have hb_2:(rdL (rdQ (d+2) ver false) (dfP (d+2)) ver false [fQ_2,fQ_3,fQ_4,fQ_5,fQ_6,fQ_7,fQ_8,fQ_9,fQ_10,fQ_11] s1).2=none→FB:=fun h=>hb_1 (by rw [rdL_st (by decide) hh_1,← hs1];exact h)
 obtain ⟨x_2,hx_2⟩:∃ x,x=dfF (dfP (d+2)) fQ_2:=⟨_,rfl⟩
 have hf_2:RepF (RepS true (d+2)) (szS true (d+2)) fQ_2 (fun b=>ok b∨w1.heap.size≤b) w3 (x_2) [zM,.int .i64 (-1),.map none]:=by rw [hx_2];exact (RepF_part rfl (by decide)).2 (RepS.introT (c:=[zM,.int .i64 (-1)]) (RepL.cons1 ((RepF_num (by decide)).2 rfl) (RepL.cons1 ((RepF_num (by decide)).2 rfl) RepL.nil)) (.inl ⟨rfl,rfl⟩))
 have hb_3:(rdL (rdQ (d+2) ver false) (dfP (d+2)) ver false [fQ_3,fQ_4,fQ_5,fQ_6,fQ_7,fQ_8,fQ_9,fQ_10,fQ_11] s1).2=none→FB:=fun h=>hb_2 (by rw [rdL_tg (by decide)];exact h)
 have hh_3:hasS fQ_3 ver=true:=hasS_t (by show (0:Int)≤ver;omega) (by show (-1:Int) < 0∨ver≤(-1:Int);omega)
 obtain ⟨x_3,hx_3⟩:∃ x,x=(rdF (rdQ (d+2) ver false) ver false fQ_3 s1).1:=⟨_,rfl⟩
 repeat ((first|refine qA ?_|apply qB|refine qC ?_|apply qD|apply qE|apply qF|apply qG|apply qH);try simp (disch:=omega) only [go_sem,hv_3])
 have hrd:rdF (rdQ (d+2) ver false) ver false fQ_3 s1=_:=rdF_num 3 rfl (by decide)
 refine (Int32_fn w3 hq3.1 hrok hG3.1 hgrb).mono ?_
 rintro _ w4 ⟨rfl,hq4,hu4⟩
 have hv_4:=hu4.blk_some hv_3 (by omega)
 have hV4:Upd (fun b=>b=vb∨b=rb) w3 w4:=hu4.mono (fun _ h=>.inr h)
 have hU4:=hU3.trans hV4
 have hz4:=hV4.size
 have hG4:=hG1.updS hU4 bK bM
 have hst:(rdF (rdQ (d+2) ver false) ver false fQ_3 s1).2=(rdInt .i32 4 s1).2:=by first|(rw [hrd];rfl)|rw [hrd]
 obtain ⟨s2,hs2⟩:∃ s,s=(rdF (rdQ (d+2) ver false) ver false fQ_3 s1).2:=⟨_,rfl⟩
 rw [← hst,← hs2] at hq4
 clear hst
 repeat ((first|refine qA ?_|apply qB|refine qC ?_|apply qD|apply qE|apply qF|apply qG|apply qH);try simp (disch:=omega) only [go_sem,hv_4])
 generalize hw5:wr w4 vb 6 [.int .i32 (rdInt .i32 4 s1).1] = w5
 have hS5:Upd (fun b=>b=vb∨b=rb) w4 w5:=by rw [← hw5];exact (Upd.refl _ _).wr _ _ (.inr (.inl rfl))
 have hv_5:blk w5 vb=some (#[.int .i16 ver,.pointer none,.int .i32 (rdInt .i32 4 s0).1,zM,.int .i64 (-1),.map none,.int .i32 (rdInt .i32 4 s1).1,.int .i32 0,.int .i32 2147483647,.int .i8 0,.int .i32 0,zM,zS,zS,zT,.map none],75,(0,0)):=by rw [← hw5,blk_wr_eq,hv_4];rfl
 have hV5:=hS5
 have hU5:=hU4.trans hV5
 have hz5:=hV5.size
 have hG5:=hG1.updS hU5 bK bM
 have hq5:=Rdr.stored hw5 hq4 (by omega) fun h=>by have:=(hok _ h).1;first|omega|exact (hok _ h).2 rfl
 clear hw5
 have hf_3:RepF (RepS true (d+2)) (szS true (d+2)) fQ_3 (fun b=>ok b∨w1.heap.size≤b) w5 (x_3) [.int .i32 (rdInt .i32 4 s1).1]:=(RepF_num (by decide)).2 (by rw [hx_3,hrd];exact congrArg (fun x=>[x]) (numC_rd 3 (by decide) 4 s1).symm)
 clear hrd
 have hb_4:(rdL (rdQ (d+2) ver false) (dfP (d+2)) ver false [fQ_4,fQ_5,fQ_6,fQ_7,fQ_8,fQ_9,fQ_10,fQ_11] s2).2=none→FB:=fun h=>hb_3 (by rw [rdL_st (by decide) hh_3,← hs2];exact h)
 have hh_4:hasS fQ_4 ver=true:=hasS_t (by show (0:Int)≤ver;omega) (by show (-1:Int) < 0∨ver≤(-1:Int);omega)
 obtain ⟨x_4,hx_4⟩:∃ x,x=(rdF (rdQ (d+2) ver false) ver false fQ_4 s2).1:=⟨_,rfl⟩
 repeat ((first|refine qA ?_|apply qB|refine qC ?_|apply qD|apply qE|apply qF|apply qG|apply qH);try simp (disch:=omega) only [go_sem,hv_5])
 have hrd:rdF (rdQ (d+2) ver false) ver false fQ_4 s2=_:=rdF_num 3 rfl (by decide)
 refine (Int32_fn w5 hq5.1 hrok hG5.1 hgrb).mono ?_
 rintro _ w6 ⟨rfl,hq6,hu6⟩
 have hv_6:=hu6.blk_some hv_5 (by omega)
 have hV6:Upd (fun b=>b=vb∨b=rb) w5 w6:=hu6.mono (fun _ h=>.inr h)
 have hU6:=hU5.trans hV6
 have hz6:=hV6.size
 have hG6:=hG1.updS hU6 bK bM
 have hst:(rdF (rdQ (d+2) ver false) ver false fQ_4 s2).2=(rdInt .i32 4 s2).2:=by first|(rw [hrd];rfl)|rw [hrd]
 obtain ⟨s3,hs3⟩:∃ s,s=(rdF (rdQ (d+2) ver false) ver false fQ_4 s2).2:=⟨_,rfl⟩
 rw [← hst,← hs3] at hq6
 clear hst
 repeat ((first|refine W.seqR rfl ?_|refine W.seq ?_|refine W.regR rfl ?_|refine W.block ?_|refine W.skip ?_|refine W.ret ?_|refine W.exit ?_);try simp (disch:=omega) only [go_sem,hv_6])
 generalize hw7:wr w6 vb 7 [.int .i32 (rdInt .i32 4 s2).1] = w7
 have hS7:Upd (fun b=>b=vb∨b=rb) w6 w7:=by rw [← hw7];exact (Upd.refl _ _).wr _ _ (.inr (.inl rfl))
 have hv_7:blk w7 vb=some (#[.int .i16 ver,.pointer none,.int .i32 (rdInt .i32 4 s0).1,zM,.int .i64 (-1),.map none,.int .i32 (rdInt .i32 4 s1).1,.int .i32 (rdInt .i32 4 s2).1,.int .i32 2147483647,.int .i8 0,.int .i32 0,zM,zS,zS,zT,.map none],75,(0,0)):=by rw [← hw7,blk_wr_eq,hv_6];rfl
 have hV7:=hS7
 have hU7:=hU6.trans hV7
 have hz7:=hV7.size
 have hG7:=hG1.updS hU7 bK bM
 have hq7:=Rdr.stored hw7 hq6 (by omega) fun h=>by have:=(hok _ h).1;first|omega|exact (hok _ h).2 rfl
 clear hw7
 have hf_4:RepF (RepS true (d+2)) (szS true (d+2)) fQ_4 (fun b=>ok b∨w1.heap.size≤b) w7 (x_4) [.int .i32 (rdInt .i32 4 s2).1]:=(RepF_num (by decide)).2 (by rw [hx_4,hrd];exact congrArg (fun x=>[x]) (numC_rd 3 (by decide) 4 s2).symm)
 clear hrd
 have hb_5:(rdL (rdQ (d+2) ver false) (dfP (d+2)) ver false [fQ_5,fQ_6,fQ_7,fQ_8,fQ_9,fQ_10,fQ_11] s3).2=none→FB:=fun h=>hb_4 (by rw [rdL_st (by decide) hh_4,← hs3];exact h)
 repeat ((first|refine W.seqR rfl ?_|refine W.seq ?_|refine W.regR rfl ?_|refine W.block ?_|refine W.skip ?_|refine W.ret ?_|refine W.exit ?_);try simp (disch:=omega) only [go_sem,hv_7])
 refine W.normJ (EndQ [(2,zB),(7,.pointer (some ⟨rb,0,none⟩)),(8,.int .i16 ver),(9,zB),(10,.pointer (some ⟨vb,0,none⟩))] fun w'=>∃ (x:Tree) (st:St) (c:Value),x=(rdA (rdQ (d+2) ver false) (dfP (d+2)) ver false fQ_5 s3).1∧st=(rdA (rdQ (d+2) ver false) (dfP (d+2)) ver false fQ_5 s3).2∧blk w' vb=some (#[.int .i16 ver,.pointer none,.int .i32 (rdInt .i32 4 s0).1,zM,.int .i64 (-1),.map none,.int .i32 (rdInt .i32 4 s1).1,.int .i32 (rdInt .i32 4 s2).1,c,.int .i8 0,.int .i32 0,zM,zS,zS,zT,.map none],75,(0,0))∧RepF (RepS true (d+2)) (szS true (d+2)) fQ_5 (fun b=>ok b∨w1.heap.size≤b) w' x [c]∧(Rdr RT ok w' rb st∧NN w' rb st)∧Upd (fun b=>b=vb∨b=rb) w7 w') ?_ ?_
 ·by_cases hvc_:(3:Int)≤ver
  ·have hyes:hasS fQ_5 ver=true:=hasS_t (by show (3:Int)≤ver;omega) (by show (-1:Int) < 0∨ver≤(-1:Int);omega)
   repeat ((first|refine qA ?_|apply qB|refine qC ?_|apply qD|apply qE|apply qF|apply qG|apply qH);try simp (disch:=omega) only [go_sem,hv_7,hvc_])
   have hhg_5:hasS fQ_5 ver=true:=hasS_t (by show (3:Int)≤ver;omega) (by show (-1:Int) < 0∨ver≤(-1:Int);omega)
   obtain ⟨xg_5,hxg_5⟩:∃ x,x=(rdF (rdQ (d+2) ver false) ver false fQ_5 s3).1:=⟨_,rfl⟩
   repeat ((first|refine qA ?_|apply qB|refine qC ?_|apply qD|apply qE|apply qF|apply qG|apply qH);try simp (disch:=omega) only [go_sem,hv_7])
   have hrd:rdF (rdQ (d+2) ver false) ver false fQ_5 s3=_:=rdF_num 3 rfl (by decide)
   refine (Int32_fn w7 hq7.1 hrok hG7.1 hgrb).mono ?_
   rintro _ w8 ⟨rfl,hq8,hu8⟩
   have hv_8:=hu8.blk_some hv_7 (by omega)
   have hV8:Upd (fun b=>b=vb∨b=rb) w7 w8:=hu8.mono (fun _ h=>.inr h)
   have hU8:=hU7.trans hV8
   have hz8:=hV8.size
   have hG8:=hG1.updS hU8 bK bM
   have hst:(rdF (rdQ (d+2) ver false) ver false fQ_5 s3).2=(rdInt .i32 4 s3).2:=by first|(rw [hrd];rfl)|rw [hrd]
   obtain ⟨s4,hs4⟩:∃ s,s=(rdF (rdQ (d+2) ver false) ver false fQ_5 s3).2:=⟨_,rfl⟩
   rw [← hst,← hs4] at hq8
   clear hst
   repeat ((first|refine qA ?_|apply qB|refine qC ?_|apply qD|apply qE|apply qF|apply qG|apply qH);try simp (disch:=omega) only [go_sem,hv_8])
   generalize hw9:wr w8 vb 8 [.int .i32 (rdInt .i32 4 s3).1] = w9
   have hS9:Upd (fun b=>b=vb∨b=rb) w8 w9:=by rw [← hw9];exact (Upd.refl _ _).wr _ _ (.inr (.inl rfl))
   have hv_9:blk w9 vb=some (#[.int .i16 ver,.pointer none,.int .i32 (rdInt .i32 4 s0).1,zM,.int .i64 (-1),.map none,.int .i32 (rdInt .i32 4 s1).1,.int .i32 (rdInt .i32 4 s2).1,.int .i32 (rdInt .i32 4 s3).1,.int .i8 0,.int .i32 0,zM,zS,zS,zT,.map none],75,(0,0)):=by rw [← hw9,blk_wr_eq,hv_8];rfl
   have hV9:=hS9
   have hU9:=hU8.trans hV9
   have hz9:=hV9.size
   have hG9:=hG1.updS hU9 bK bM
   have hq9:=Rdr.stored hw9 hq8 (by omega) fun h=>by have:=(hok _ h).1;first|omega|exact (hok _ h).2 rfl
   clear hw9
   have hfg_5:RepF (RepS true (d+2)) (szS true (d+2)) fQ_5 (fun b=>ok b∨w1.heap.size≤b) w9 (xg_5) [.int .i32 (rdInt .i32 4 s3).1]:=(RepF_num (by decide)).2 (by rw [hxg_5,hrd];exact congrArg (fun x=>[x]) (numC_rd 3 (by decide) 4 s3).symm)
   clear hrd
   repeat ((first|refine qA ?_|apply qB|refine qC ?_|apply qD|apply qE|apply qF|apply qG|apply qH);try simp (disch:=omega) only [go_sem,hv_9])
   exact ⟨(by simp (disch:=omega) only [go_sem,Holds_nil,Holds_cons]),_,_,_,(by rw [rdA_yes hyes];exact hxg_5),(by rw [rdA_yes hyes];exact hs4),hv_9,hfg_5,hq9,(hV8.trans hV9)⟩
  ·have hno:hasS fQ_5 ver=false:=hasS_f (by show ver < 3∨(0≤(-1:Int)∧(-1:Int) < ver);omega)
   repeat ((first|refine qA ?_|apply qB|refine qC ?_|apply qD|apply qE|apply qF|apply qG|apply qH);try simp (disch:=omega) only [go_sem,hv_7,hvc_])
   exact ⟨(by simp (disch:=omega) only [go_sem,Holds_nil,Holds_cons]),_,_,_,(by rw [rdA_no hno];try rfl),(by rw [rdA_no hno]),hv_7,(RepF_num (by decide)).2 rfl,hq7,Upd.refl _ _⟩
 rintro ρ w8 ⟨⟨nD,nE,nF,nG,nC,-⟩,x_5,s5,c_5,hx_5,hs5,hv_8,hf_5,hq8,hu8⟩
 have hV8:Upd (fun b=>b=vb∨b=rb) w7 w8:=hu8.mono (fun _ h=>h)
 have hU8:=hU7.trans hV8
 have hz8:=hV8.size
 have hG8:=hG1.updS hU8 bK bM
 have hb_6:(rdL (rdQ (d+2) ver false) (dfP (d+2)) ver false [fQ_6,fQ_7,fQ_8,fQ_9,fQ_10,fQ_11] s5).2=none→FB:=fun h=>hb_5 (by rw [rdL_any (by decide),← hs5];exact h)
 repeat ((first|refine W.seqR rfl ?_|refine W.seq ?_|refine W.regR rfl ?_|refine W.block ?_|refine W.skip ?_|refine W.ret ?_|refine W.exit ?_);try simp (disch:=omega) only [go_sem,hv_8,nD,nE,nF,nG,nC])
 refine W.normJ (EndQ [(2,zB),(7,.pointer (some ⟨rb,0,none⟩)),(8,.int .i16 ver),(9,zB),(10,.pointer (some ⟨vb,0,none⟩))] fun w'=>∃ (x:Tree) (st:St) (c:Value),x=(rdA (rdQ (d+2) ver false) (dfP (d+2)) ver false fQ_6 s5).1∧st=(rdA (rdQ (d+2) ver false) (dfP (d+2)) ver false fQ_6 s5).2∧blk w' vb=some (#[.int .i16 ver,.pointer none,.int .i32 (rdInt .i32 4 s0).1,zM,.int .i64 (-1),.map none,.int .i32 (rdInt .i32 4 s1).1,.int .i32 (rdInt .i32 4 s2).1,c_5,c,.int .i32 0,zM,zS,zS,zT,.map none],75,(0,0))∧RepF (RepS true (d+2)) (szS true (d+2)) fQ_6 (fun b=>ok b∨w1.heap.size≤b) w' x [c]∧(Rdr RT ok w' rb st∧NN w' rb st)∧Upd (fun b=>b=vb∨b=rb) w8 w') ?_ ?_
 ·by_cases hvc_:(4:Int)≤ver
  ·have hyes:hasS fQ_6 ver=true:=hasS_t (by show (4:Int)≤ver;omega) (by show (-1:Int) < 0∨ver≤(-1:Int);omega)
   repeat ((first|refine qA ?_|apply qB|refine qC ?_|apply qD|apply qE|apply qF|apply qG|apply qH);try simp (disch:=omega) only [go_sem,hv_8,nD,nE,nF,nG,nC,hvc_])
   have hhg_6:hasS fQ_6 ver=true:=hasS_t (by show (4:Int)≤ver;omega) (by show (-1:Int) < 0∨ver≤(-1:Int);omega)
   obtain ⟨xg_6,hxg_6⟩:∃ x,x=(rdF (rdQ (d+2) ver false) ver false fQ_6 s5).1:=⟨_,rfl⟩
   repeat ((first|refine qA ?_|apply qB|refine qC ?_|apply qD|apply qE|apply qF|apply qG|apply qH);try simp (disch:=omega) only [go_sem,hv_8,nD,nE,nF,nG,nC])
   have hrd:rdF (rdQ (d+2) ver false) ver false fQ_6 s5=_:=rdF_num 1 rfl (by decide)
   refine (Int8_fn w8 hq8.1 hrok).mono ?_
   rintro _ w9 ⟨rfl,hq9,hu9⟩
   have hv_9:=hu9.blk_some hv_8 (by omega)
   have hV9:Upd (fun b=>b=vb∨b=rb) w8 w9:=hu9.mono (fun _ h=>.inr h)
   have hU9:=hU8.trans hV9
   have hz9:=hV9.size
   have hG9:=hG1.updS hU9 bK bM
   have hst:(rdF (rdQ (d+2) ver false) ver false fQ_6 s5).2=(rdInt .i8 1 s5).2:=by first|(rw [hrd];rfl)|rw [hrd]
   obtain ⟨s6,hs6⟩:∃ s,s=(rdF (rdQ (d+2) ver false) ver false fQ_6 s5).2:=⟨_,rfl⟩
   rw [← hst,← hs6] at hq9
   clear hst
   repeat ((first|refine qA ?_|apply qB|refine qC ?_|apply qD|apply qE|apply qF|apply qG|apply qH);try simp (disch:=omega) only [go_sem,hv_9,nD,nE,nF,nG,nC])
   generalize eZ:wr w9 vb 9 [.int .i8 (rdInt .i8 1 s5).1] = w10
   have EV:Upd (fun b=>b=vb∨b=rb) w9 w10:=by rw [← eZ];exact (Upd.refl _ _).wr _ _ (.inr (.inl rfl))
   have hv_10:blk w10 vb=some (#[.int .i16 ver,.pointer none,.int .i32 (rdInt .i32 4 s0).1,zM,.int .i64 (-1),.map none,.int .i32 (rdInt .i32 4 s1).1,.int .i32 (rdInt .i32 4 s2).1,c_5,.int .i8 (rdInt .i8 1 s5).1,.int .i32 0,zM,zS,zS,zT,.map none],75,(0,0)):=by rw [← eZ,blk_wr_eq,hv_9];rfl
   have eF:=EV
   have eK:=hU9.trans eF
   have hz10:=eF.size
   have vO:=hG1.updS eK bK bM
   have gR:=Rdr.stored eZ hq9 (by omega) fun h=>by have:=(hok _ h).1;first|omega|exact (hok _ h).2 rfl
   clear eZ
   have hfg_6:RepF (RepS true (d+2)) (szS true (d+2)) fQ_6 (fun b=>ok b∨w1.heap.size≤b) w10 (xg_6) [.int .i8 (rdInt .i8 1 s5).1]:=(RepF_num (by decide)).2 (by rw [hxg_6,hrd];exact congrArg (fun x=>[x]) (numC_rd 1 (by decide) 1 s5).symm)
   clear hrd
   repeat ((first|refine qA ?_|apply qB|refine qC ?_|apply qD|apply qE|apply qF|apply qG|apply qH);try simp (disch:=omega) only [go_sem,hv_10,nD,nE,nF,nG,nC])
   exact ⟨(by simp (disch:=omega) only [go_sem,Holds_nil,Holds_cons,nD,nE,nF,nG,nC]),_,_,_,(by rw [rdA_yes hyes];exact hxg_6),(by rw [rdA_yes hyes];exact hs6),hv_10,hfg_6,gR,(hV9.trans eF)⟩
  ·have hno:hasS fQ_6 ver=false:=hasS_f (by show ver < 4∨(0≤(-1:Int)∧(-1:Int) < ver);omega)
   repeat ((first|refine qA ?_|apply qB|refine qC ?_|apply qD|apply qE|apply qF|apply qG|apply qH);try simp (disch:=omega) only [go_sem,hv_8,nD,nE,nF,nG,nC,hvc_])
   exact ⟨(by simp (disch:=omega) only [go_sem,Holds_nil,Holds_cons,nD,nE,nF,nG,nC]),_,_,_,(by rw [rdA_no hno];try rfl),(by rw [rdA_no hno]),hv_8,(RepF_num (by decide)).2 rfl,hq8,Upd.refl _ _⟩
 rintro ρ w9 ⟨⟨nI,nJ,nK,nL,nH,-⟩,x_6,s7,c_6,hx_6,hs7,hv_9,hf_6,hq9,hu9⟩
 have hV9:Upd (fun b=>b=vb∨b=rb) w8 w9:=hu9.mono (fun _ h=>h)
 have hU9:=hU8.trans hV9
 have hz9:=hV9.size
 have hG9:=hG1.updS hU9 bK bM
 have hb_7:(rdL (rdQ (d+2) ver false) (dfP (d+2)) ver false [fQ_7,fQ_8,fQ_9,fQ_10,fQ_11] s7).2=none→FB:=fun h=>hb_6 (by rw [rdL_any (by decide),← hs7];exact h)
 repeat ((first|refine W.seqR rfl ?_|refine W.seq ?_|refine W.regR rfl ?_|refine W.block ?_|refine W.skip ?_|refine W.ret ?_|refine W.exit ?_);try simp (disch:=omega) only [go_sem,hv_9,nI,nJ,nK,nL,nH])
 refine W.normJ (EndQ [(2,zB),(7,.pointer (some ⟨rb,0,none⟩)),(8,.int .i16 ver),(9,zB),(10,.pointer (some ⟨vb,0,none⟩))] fun w'=>∃ (x:Tree) (st:St) (c:Value),x=(rdA (rdQ (d+2) ver false) (dfP (d+2)) ver false fQ_7 s7).1∧st=(rdA (rdQ (d+2) ver false) (dfP (d+2)) ver false fQ_7 s7).2∧blk w' vb=some (#[.int .i16 ver,.pointer none,.int .i32 (rdInt .i32 4 s0).1,zM,.int .i64 (-1),.map none,.int .i32 (rdInt .i32 4 s1).1,.int .i32 (rdInt .i32 4 s2).1,c_5,c_6,c,zM,zS,zS,zT,.map none],75,(0,0))∧RepF (RepS true (d+2)) (szS true (d+2)) fQ_7 (fun b=>ok b∨w1.heap.size≤b) w' x [c]∧(Rdr RT ok w' rb st∧NN w' rb st)∧Upd (fun b=>b=vb∨b=rb) w9 w') ?_ ?_
 ·by_cases hvc_:(7:Int)≤ver
  ·have hyes:hasS fQ_7 ver=true:=hasS_t (by show (7:Int)≤ver;omega) (by show (-1:Int) < 0∨ver≤(-1:Int);omega)
   repeat ((first|refine qA ?_|apply qB|refine qC ?_|apply qD|apply qE|apply qF|apply qG|apply qH);try simp (disch:=omega) only [go_sem,hv_9,nI,nJ,nK,nL,nH,hvc_])
   have hhg_7:hasS fQ_7 ver=true:=hasS_t (by show (7:Int)≤ver;omega) (by show (-1:Int) < 0∨ver≤(-1:Int);omega)
   obtain ⟨xg_7,hxg_7⟩:∃ x,x=(rdF (rdQ (d+2) ver false) ver false fQ_7 s7).1:=⟨_,rfl⟩
   repeat ((first|refine qA ?_|apply qB|refine qC ?_|apply qD|apply qE|apply qF|apply qG|apply qH);try simp (disch:=omega) only [go_sem,hv_9,nI,nJ,nK,nL,nH])
   have hrd:rdF (rdQ (d+2) ver false) ver false fQ_7 s7=_:=rdF_num 3 rfl (by decide)
   refine (Int32_fn w9 hq9.1 hrok hG9.1 hgrb).mono ?_
   rintro _ w10 ⟨rfl,gR,C8⟩
   have hv_10:=C8.blk_some hv_9 (by omega)
   have eF:Upd (fun b=>b=vb∨b=rb) w9 w10:=C8.mono (fun _ h=>.inr h)
   have eK:=hU9.trans eF
   have hz10:=eF.size
   have vO:=hG1.updS eK bK bM
   have hst:(rdF (rdQ (d+2) ver false) ver false fQ_7 s7).2=(rdInt .i32 4 s7).2:=by first|(rw [hrd];rfl)|rw [hrd]
   obtain ⟨s8,hs8⟩:∃ s,s=(rdF (rdQ (d+2) ver false) ver false fQ_7 s7).2:=⟨_,rfl⟩
   rw [← hst,← hs8] at gR
   clear hst
   repeat ((first|refine qA ?_|apply qB|refine qC ?_|apply qD|apply qE|apply qF|apply qG|apply qH);try simp (disch:=omega) only [go_sem,hv_10,nI,nJ,nK,nL,nH])
   generalize mB:wr w10 vb 10 [.int .i32 (rdInt .i32 4 s7).1] = w11
   have SM:Upd (fun b=>b=vb∨b=rb) w10 w11:=by rw [← mB];exact (Upd.refl _ _).wr _ _ (.inr (.inl rfl))
   have hv_11:blk w11 vb=some (#[.int .i16 ver,.pointer none,.int .i32 (rdInt .i32 4 s0).1,zM,.int .i64 (-1),.map none,.int .i32 (rdInt .i32 4 s1).1,.int .i32 (rdInt .i32 4 s2).1,c_5,c_6,.int .i32 (rdInt .i32 4 s7).1,zM,zS,zS,zT,.map none],75,(0,0)):=by rw [← mB,blk_wr_eq,hv_10];rfl
   have eH:=SM
   have fA:=eK.trans eH
   have yZ:=eH.size
   have zF:=hG1.updS fA bK bM
   have eC:=Rdr.stored mB gR (by omega) fun h=>by have:=(hok _ h).1;first|omega|exact (hok _ h).2 rfl
   clear mB
   have hfg_7:RepF (RepS true (d+2)) (szS true (d+2)) fQ_7 (fun b=>ok b∨w1.heap.size≤b) w11 (xg_7) [.int .i32 (rdInt .i32 4 s7).1]:=(RepF_num (by decide)).2 (by rw [hxg_7,hrd];exact congrArg (fun x=>[x]) (numC_rd 3 (by decide) 4 s7).symm)
   clear hrd
   repeat ((first|refine qA ?_|apply qB|refine qC ?_|apply qD|apply qE|apply qF|apply qG|apply qH);try simp (disch:=omega) only [go_sem,hv_11,nI,nJ,nK,nL,nH])
   exact ⟨(by simp (disch:=omega) only [go_sem,Holds_nil,Holds_cons,nI,nJ,nK,nL,nH]),_,_,_,(by rw [rdA_yes hyes];exact hxg_7),(by rw [rdA_yes hyes];exact hs8),hv_11,hfg_7,eC,(eF.trans eH)⟩
  ·have hno:hasS fQ_7 ver=false:=hasS_f (by show ver < 7∨(0≤(-1:Int)∧(-1:Int) < ver);omega)
   repeat ((first|refine qA ?_|apply qB|refine qC ?_|apply qD|apply qE|apply qF|apply qG|apply qH);try simp (disch:=omega) only [go_sem,hv_9,nI,nJ,nK,nL,nH,hvc_])
   exact ⟨(by simp (disch:=omega) only [go_sem,Holds_nil,Holds_cons,nI,nJ,nK,nL,nH]),_,_,_,(by rw [rdA_no hno];try rfl),(by rw [rdA_no hno]),hv_9,(RepF_num (by decide)).2 rfl,hq9,Upd.refl _ _⟩
 rintro ρ w10 ⟨⟨nN,nO,nP,nQ,nM,-⟩,x_7,s9,c_7,hx_7,hs9,hv_10,hf_7,gR,C8⟩
 have eF:Upd (fun b=>b=vb∨b=rb) w9 w10:=C8.mono (fun _ h=>h)
 have eK:=hU9.trans eF
 have hz10:=eF.size
 have vO:=hG1.updS eK bK bM
 have hb_8:(rdL (rdQ (d+2) ver false) (dfP (d+2)) ver false [fQ_8,fQ_9,fQ_10,fQ_11] s9).2=none→FB:=fun h=>hb_7 (by rw [rdL_any (by decide),← hs9];exact h)
 repeat ((first|refine W.seqR rfl ?_|refine W.seq ?_|refine W.regR rfl ?_|refine W.block ?_|refine W.skip ?_|refine W.ret ?_|refine W.exit ?_);try simp (disch:=omega) only [go_sem,hv_10,nN,nO,nP,nQ,nM])
 refine W.normJ (EndQ [(2,zB),(7,.pointer (some ⟨rb,0,none⟩)),(8,.int .i16 ver),(9,zB),(10,.pointer (some ⟨vb,0,none⟩))] fun w'=>∃ (x:Tree) (st:St) (c:Value),x=(rdA (rdQ (d+2) ver false) (dfP (d+2)) ver false fQ_8 s9).1∧st=(rdA (rdQ (d+2) ver false) (dfP (d+2)) ver false fQ_8 s9).2∧blk w' vb=some (#[.int .i16 ver,.pointer none,.int .i32 (rdInt .i32 4 s0).1,zM,.int .i64 (-1),.map none,.int .i32 (rdInt .i32 4 s1).1,.int .i32 (rdInt .i32 4 s2).1,c_5,c_6,c_7,c,zS,zS,zT,.map none],75,(0,0))∧RepF (RepS true (d+2)) (szS true (d+2)) fQ_8 (fun b=>ok b∨w1.heap.size≤b) w' x [c]∧(Rdr RT ok w' rb st∧NN w' rb st)∧Upd (fun b=>b=vb∨b=rb) w10 w') ?_ ?_
 ·by_cases hvc_:(7:Int)≤ver
  ·have hyes:hasS fQ_8 ver=true:=hasS_t (by show (7:Int)≤ver;omega) (by show (-1:Int) < 0∨ver≤(-1:Int);omega)
   repeat ((first|refine qA ?_|apply qB|refine qC ?_|apply qD|apply qE|apply qF|apply qG|apply qH);try simp (disch:=omega) only [go_sem,hv_10,nN,nO,nP,nQ,nM,hvc_])
   have hhg_8:hasS fQ_8 ver=true:=hasS_t (by show (7:Int)≤ver;omega) (by show (-1:Int) < 0∨ver≤(-1:Int);omega)
   obtain ⟨xg_8,hxg_8⟩:∃ x,x=(rdF (rdQ (d+2) ver false) ver false fQ_8 s9).1:=⟨_,rfl⟩
   repeat ((first|refine qA ?_|apply qB|refine qC ?_|apply qD|apply qE|apply qF|apply qG|apply qH);try simp (disch:=omega) only [go_sem,hv_10,nN,nO,nP,nQ,nM])
   have hrd:rdF (rdQ (d+2) ver false) ver false fQ_8 s9=_:=rdF_num 3 rfl (by decide)
   refine (Int32_fn w10 gR.1 hrok vO.1 hgrb).mono ?_
   rintro _ w11 ⟨rfl,eC,t7⟩
   have hv_11:=t7.blk_some hv_10 (by omega)
   have eH:Upd (fun b=>b=vb∨b=rb) w10 w11:=t7.mono (fun _ h=>.inr h)
   have fA:=eK.trans eH
   have yZ:=eH.size
   have zF:=hG1.updS fA bK bM
   have hst:(rdF (rdQ (d+2) ver false) ver false fQ_8 s9).2=(rdInt .i32 4 s9).2:=by first|(rw [hrd];rfl)|rw [hrd]
   obtain ⟨s10,xY⟩:∃ s,s=(rdF (rdQ (d+2) ver false) ver false fQ_8 s9).2:=⟨_,rfl⟩
   rw [← hst,← xY] at eC
   clear hst
   repeat ((first|refine qA ?_|apply qB|refine qC ?_|apply qD|apply qE|apply qF|apply qG|apply qH);try simp (disch:=omega) only [go_sem,hv_11,nN,nO,nP,nQ,nM])
   generalize iZ:wr w11 vb 11 [.int .i32 (rdInt .i32 4 s9).1] = w12
   have EW:Upd (fun b=>b=vb∨b=rb) w11 w12:=by rw [← iZ];exact (Upd.refl _ _).wr _ _ (.inr (.inl rfl))
   have hv_12:blk w12 vb=some (#[.int .i16 ver,.pointer none,.int .i32 (rdInt .i32 4 s0).1,zM,.int .i64 (-1),.map none,.int .i32 (rdInt .i32 4 s1).1,.int .i32 (rdInt .i32 4 s2).1,c_5,c_6,c_7,.int .i32 (rdInt .i32 4 s9).1,zS,zS,zT,.map none],75,(0,0)):=by rw [← iZ,blk_wr_eq,hv_11];rfl
   have fG:=EW
   have fD:=fA.trans fG
   have DP:=fG.size
   have zG:=hG1.updS fD bK bM
   have dT:=Rdr.stored iZ eC (by omega) fun h=>by have:=(hok _ h).1;first|omega|exact (hok _ h).2 rfl
   clear iZ
   have hfg_8:RepF (RepS true (d+2)) (szS true (d+2)) fQ_8 (fun b=>ok b∨w1.heap.size≤b) w12 (xg_8) [.int .i32 (rdInt .i32 4 s9).1]:=(RepF_num (by decide)).2 (by rw [hxg_8,hrd];exact congrArg (fun x=>[x]) (numC_rd 3 (by decide) 4 s9).symm)
   clear hrd
   repeat ((first|refine qA ?_|apply qB|refine qC ?_|apply qD|apply qE|apply qF|apply qG|apply qH);try simp (disch:=omega) only [go_sem,hv_12,nN,nO,nP,nQ,nM])
   exact ⟨(by simp (disch:=omega) only [go_sem,Holds_nil,Holds_cons,nN,nO,nP,nQ,nM]),_,_,_,(by rw [rdA_yes hyes];exact hxg_8),(by rw [rdA_yes hyes];exact xY),hv_12,hfg_8,dT,(eH.trans fG)⟩
  ·have hno:hasS fQ_8 ver=false:=hasS_f (by show ver < 7∨(0≤(-1:Int)∧(-1:Int) < ver);omega)
   repeat ((first|refine qA ?_|apply qB|refine qC ?_|apply qD|apply qE|apply qF|apply qG|apply qH);try simp (disch:=omega) only [go_sem,hv_10,nN,nO,nP,nQ,nM,hvc_])
   exact ⟨(by simp (disch:=omega) only [go_sem,Holds_nil,Holds_cons,nN,nO,nP,nQ,nM]),_,_,_,(by rw [rdA_no hno];try rfl),(by rw [rdA_no hno]),hv_10,(RepF_num (by decide)).2 rfl,gR,Upd.refl _ _⟩
 rintro ρ w11 ⟨⟨fO,fP,fQ,fR,fN,-⟩,x_8,s11,c_8,hx_8,xZ,hv_11,hf_8,eC,t7⟩
 have eH:Upd (fun b=>b=vb∨b=rb) w10 w11:=t7.mono (fun _ h=>h)
 have fA:=eK.trans eH
 have yZ:=eH.size
 have zF:=hG1.updS fA bK bM
 have hb_9:(rdL (rdQ (d+2) ver false) (dfP (d+2)) ver false [fQ_9,fQ_10,fQ_11] s11).2=none→FB:=fun h=>hb_8 (by rw [rdL_any (by decide),← xZ];exact h)
 have hh_9:hasS fQ_9 ver=true:=hasS_t (by show (0:Int)≤ver;omega) (by show (-1:Int) < 0∨ver≤(-1:Int);omega)
 obtain ⟨x_9,hx_9⟩:∃ x,x=(rdF (rdQ (d+2) ver false) ver false fQ_9 s11).1:=⟨_,rfl⟩
 repeat ((first|refine qA ?_|apply qB|refine qC ?_|apply qD|apply qE|apply qF|apply qG|apply qH);try simp (disch:=omega) only [go_sem,hv_11,fO,fP,fQ,fR,fN])
 refine (RArrayLen_fn w11 eC.1 hrok zF.1 hgrb).mono ?_
 rintro _ w12 ⟨rfl,dT,NR⟩
 have hv_12:=NR.blk_some hv_11 (by omega)
 have fG:Upd (fun b=>b=vb∨b=rb) w11 w12:=NR.mono (fun _ h=>.inr h)
 have fD:=fA.trans fG
 have DP:=fG.size
 have zG:=hG1.updS fD bK bM
 obtain ⟨s12,uD⟩:∃ s,s=(rdALen false s11).2:=⟨_,rfl⟩
 rw [← uD] at dT
 have hyr0:=rdALen_rng false s11
 generalize hy0:(rdALen false s11).1=y0 at *
 obtain ⟨N0,hN0⟩:∃ N,N=y0.toNat:=⟨_,rfl⟩
 have wW:(rdMany (rd1 (rdQ (d+2) ver false) fQ_9.of fQ_9.sub false false) N0 s12).2=none→FB:=fun h=>hb_9 (by rw [rdL_st (by decide) hh_9];exact rdLQ_bad (rdFQ_listbad rfl (by rw [hy0,← hN0,← uD];exact h)))
 repeat ((first|refine W.seqR rfl ?_|refine W.seq ?_|refine W.regR rfl ?_|refine W.block ?_|refine W.skip ?_|refine W.ret ?_|refine W.exit ?_);try simp (disch:=omega) only [go_sem,hv_12,fO,fP,fQ,fR,fN])
 refine (ROk_fn w12 dT.1).mono ?_
 rintro _ wz ⟨rfl,hez⟩
 rw [hez]
 clear hez wz
 by_cases lV:s12=none
 ·have hso:s12.isSome=false:=by rw [lV];rfl
  repeat (first|simp (disch:=omega) only [go_sem,hv_12,fO,fP,fQ,fR,fN,hso]|refine qA ?_|apply qB|refine qC ?_|apply qD|apply qE|apply qF|apply qG|apply qH)
  refine (RComplete_fn w12 dT.1 zG.2).mono ?_
  rintro _ wz ⟨rfl,hez⟩
  rw [hez]
  repeat (first|simp (disch:=omega) only [go_sem,hv_12,fO,fP,fQ,fR,fN]|refine qA ?_|apply qB|refine qC ?_|apply qD|apply qE|apply qF|apply qG|apply qH)
  rw [errV_none lV]
  exact ReadQ.bad (Eq.mp hFB (wW (by rw [lV];exact rdMany_none rd1Q_none _))) (hbase.trans' fD fun i hi h=>h.elim id fun h=>by omega)
 have lZ:s12.isSome=true:=isSome_some lV
 try simp (disch:=omega) only [go_sem,hv_12,fO,fP,fQ,fR,fN,lZ]
 repeat ((first|refine W.seqR rfl ?_|refine W.seq ?_|refine W.regR rfl ?_|refine W.block ?_|refine W.skip ?_|refine W.ret ?_|refine W.exit ?_);try simp (disch:=omega) only [go_sem,hv_12,fO,fP,fQ,fR,fN,lZ])
 refine W.condK ?_
 try simp (disch:=omega) only [go_sem,hv_12,fO,fP,fQ,fR,fN,lZ]
 repeat ((first|refine W.seqR rfl ?_|refine W.seq ?_|refine W.regR rfl ?_|refine W.block ?_|refine W.skip ?_|refine W.ret ?_|refine W.exit ?_);try simp (disch:=omega) only [go_sem,hv_12,fO,fP,fQ,fR,fN,lZ,slBase_00])
 refine W.normJ (RowQ [(2,zB),(7,.pointer (some ⟨rb,0,none⟩)),(8,.int .i16 ver),(9,zB),(10,.pointer (some ⟨vb,0,none⟩)),(20,.int .i32 y0)] 19 (fun va w'=>LstI RT (rd1 (rdQ (d+2) ver false) fQ_9.of fQ_9.sub false false) (Rep1 (RepS true (d+2)) fQ_9.of fQ_9.sub) 19 85 [zT,zZ,zZ,zZ,zZ,zZ,zZ,zZ,zZ,zZ,zZ,zZ,zZ,zZ,zZ,zZ,zZ,zS,.map none] w12.heap.size N0 ok (fun b=>ok b∨w1.heap.size≤b) rb w12 s12 va 0 s12 [] [] w'∧(N0=0→if nilS fQ_9 ver y0=true then va=zS else ∃ a,va = .slice (some a) 0 0))) ?_ ?_
 ·by_cases hy0:(0:Int) < y0
  ·have hyv:Value.int .i32 y0 = .int .i32 ((N0:Nat):Int):=by rw [show y0=((N0:Nat):Int) by omega]
   repeat ((first|refine qA ?_|apply qB|refine qC ?_|apply qD|apply qE|apply qF|apply qG|apply qH);try simp (disch:=omega) only [go_sem,hv_12,fO,fP,fQ,fR,fN])
   refine wp_appendZ (m:=N0) utQ_72 utQ_21 inQ_85 (by decide) (by first|rfl|simp (disch:=omega) only [go_sem,fO,fP,fQ,fR,fN]) (by first|exact hyv|(simp (disch:=omega) only [go_sem,fO,fP,fQ,fR,fN];exact hyv)) (by omega) (by omega) (by decide) ?_
   intro q rest hq1
   have hEw:Ext w12 (w12.drew.alloc (.cells (zs [zT,zZ,zZ,zZ,zZ,zZ,zZ,zZ,zZ,zZ,zZ,zZ,zZ,zZ,zZ,zZ,zZ,zS,.map none] N0++rest).toArray 85)):=(Upd.refl _ _).drew.alloc _
   repeat (first|simp (disch:=omega) only [go_sem,hv_12,fO,fP,fQ,fR,fN]|refine qA ?_|apply qB|refine qC ?_|apply qD|apply qE|apply qF|apply qG|apply qH)
   exact ⟨(by simp (disch:=omega) only [go_sem,Holds_nil,Holds_cons,fO,fP,fQ,fR,fN]),.slice (some ⟨w12.heap.size,0,none⟩) N0 q,(by simp (disch:=omega) only [go_sem,fO,fP,fQ,fR,fN]),LstI.start (RowJ.start (by omega) hq1 (by show w12.heap.size≤w12.drew.heap.size;rw [size_drew];omega) (blk_alloc_new rfl)) ⟨dT.1.upd hEw (fun h=>h) (fun _ _ _ h=>h),dT.2.upd hEw fun h=>h⟩ (hEw.mono fun _ h=>h.elim),fun h0=>by omega⟩
  ·repeat ((first|refine qA ?_|apply qB|refine qC ?_|apply qD|apply qE|apply qF|apply qG|apply qH);try simp (disch:=omega) only [go_sem,hv_12,fO,fP,fQ,fR,fN])
   exact ⟨(by simp (disch:=omega) only [go_sem,Holds_nil,Holds_cons,fO,fP,fQ,fR,fN]),zS,(by simp (disch:=omega) only [go_sem,fO,fP,fQ,fR,fN,slBase_00]),LstI.start (RowJ.zero (by omega) (fun _ h=>by cases h)) dT (Upd.refl _ _),fun _=>by rw [nilS_plain (by decide) (by omega)];exact rfl⟩
 rintro ρ w13 ⟨⟨qY,r0,r6,r8,qX,qZ,-⟩,va0,cA,hL0,xE⟩
 repeat ((first|refine qA ?_|apply qB|refine qC ?_|apply qD|apply qE|apply qF|apply qG|apply qH);try simp (disch:=omega) only [go_sem,hv_12,qY,r0,r6,r8,qX,qZ,cA])
 refine W.exitRJ 0 (EndQ [(2,zB),(7,.pointer (some ⟨rb,0,none⟩)),(8,.int .i16 ver),(9,zB),(10,.pointer (some ⟨vb,0,none⟩)),(20,.int .i32 y0),(19,va0)] (fun w'=>∃ s xs css,LstI RT (rd1 (rdQ (d+2) ver false) fQ_9.of fQ_9.sub false false) (Rep1 (RepS true (d+2)) fQ_9.of fQ_9.sub) 19 85 [zT,zZ,zZ,zZ,zZ,zZ,zZ,zZ,zZ,zZ,zZ,zZ,zZ,zZ,zZ,zZ,zZ,zS,.map none] w12.heap.size N0 ok (fun b=>ok b∨w1.heap.size≤b) rb w12 s12 va0 N0 s xs css w')) (W.loop (LoopQ [(2,zB),(7,.pointer (some ⟨rb,0,none⟩)),(8,.int .i16 ver),(9,zB),(10,.pointer (some ⟨vb,0,none⟩)),(20,.int .i32 y0),(19,va0)] 21 (fun j w'=>∃ s xs css,LstI RT (rd1 (rdQ (d+2) ver false) fQ_9.of fQ_9.sub false false) (Rep1 (RepS true (d+2)) fQ_9.of fQ_9.sub) 19 85 [zT,zZ,zZ,zZ,zZ,zZ,zZ,zZ,zZ,zZ,zZ,zZ,zZ,zZ,zZ,zZ,zZ,zS,.map none] w12.heap.size N0 ok (fun b=>ok b∨w1.heap.size≤b) rb w12 s12 va0 j s xs css w')) (fun ρ _=>N0 - (RowKit.intOf (ρ 21)).toNat) ?_ ?_) ?_
 ·exact ⟨(by simp (disch:=omega) only [go_sem,Holds_nil,Holds_cons,qY,r0,r6,r8,qX,qZ,cA]),0,(by simp (disch:=omega) only [go_sem,qY,r0,r6,r8,qX,qZ,cA];all_goals rfl),s12,[],[],hL0⟩
 ·rintro ρ w14 ⟨⟨cH,cJ,cM,cO,cF,cI,rZ,-⟩,j1,cX,s13,xs0,css0,hL0⟩
  have hj0:=hL0.le
  have lU:=hL0.rd
  have vT:Upd (fun b=>b=vb∨b=rb) w1 w14:=fD.trans' hL0.upd fun i _ h=>.inr h
  have Q1:=hL0.upd.size
  have J6:Glo ev w14:=hG1.updS vT bK bM
  by_cases qN:j1 < N0
  ·obtain ⟨R1,q1,B1,eY,EP,EN,hA1,D8,kG⟩:=hL0.row.next qN
   have ET:=blk_lt D8
   generalize css0.flatten=A1 at hA1 D8 kG
   replace cA:ρ 19 = .slice (some ⟨R1,0,none⟩) N0 q1:=rZ.trans eY
   have jG:∀ b,ownB va0 b→w12.heap.size≤b∧b < w14.heap.size:=fun b h=>hL0.row.own h
   have dL:∀ b,(fun b=>(ok b∨w1.heap.size≤b)∧¬ ownB va0 b) b→¬ (b=R1∨b=rb):=fun b hk h=>h.elim (fun e=>hk.2 ⟨_,_,_,eY,e⟩) (fun e=>hoM b hk.1 (.inr e))
   obtain ⟨X14,AO,hxb14,hXs14⟩:=el_open (n:=19) D8 hA1 rfl
   repeat ((first|refine qA ?_|apply qB|refine qC ?_|apply qD|apply qE|apply qF|apply qG|apply qH);try simp (disch:=omega) only [go_sem,hxb14,cH,cJ,cM,cO,cF,cI,cA,cX])
   refine (DefaultEX3_fn w14 D8 hA1).mono ?_
   rintro _ w15 ⟨OM,uV⟩
   have kI:=And.intro (lU.1.upd uV (by omega) (fun b _ hk e=>by have:=(hok b hk).1;omega)) (lU.2.upd uV (by omega))
   have lK:Upd (fun b=>b=R1∨b=rb) w14 w15:=uV.mono (fun _ h=>.inl h)
   have pH:=vT.trans' lK fun i hi h=>h.elim (fun h=>by omega) .inr
   have hz15:=lK.size
   have EC:=hG1.updS pH bK bM
   obtain ⟨X15,FM,hxb15,hXs15⟩:=el_open (n:=19) OM hA1 rfl
   have FZ:(rdL (rdQ (d+1) ver false) (dfP (d+1)) ver false [fX3_0,fX3_1,fX3_2] s13).2=none→FB:=fun h=>wW (hL0.bad qN rd1Q_none (by show (rd1 (rdQ (d+2) ver false) 10 fs_X3 false false s13).2=none;rw [rd1_part];exact rdQ_bad h))
   have LM:hasS fX3_0 ver=true:=hasS_t (by show (0:Int)≤ver;omega) (by show (12:Int) < 0∨ver≤(12:Int);omega)
   obtain ⟨xe0_0,DJ⟩:∃ x,x=(rdF (rdQ (d+1) ver false) ver false fX3_0 s13).1:=⟨_,rfl⟩
   repeat ((first|refine qA ?_|apply qB|refine qC ?_|apply qD|apply qE|apply qF|apply qG|apply qH);try simp (disch:=omega) only [go_sem,hxb15,cH,cJ,cM,cO,cF,cI,cA,cX])
   have hmay:mayS fX3_0 ver=false:=mayS_no (by show (-1:Int) < 0∨ver < (-1:Int);omega)
   have hrd:rdF (rdQ (d+1) ver false) ver false fX3_0 s13=_:=rdF_text rfl hmay
   refine (RString_fn w15 kI.1 hrok EC.1 hgrb).mono ?_
   rintro _ w16 ⟨rfl,xI,NU⟩
   have ON:=NU.blk_some OM (by omega)
   have pO:Upd (fun b=>b=R1∨b=rb) w15 w16:=NU.mono (fun _ h=>.inr h)
   have tL:=pH.trans' pO fun i hi h=>h.elim (fun h=>by omega) .inr
   have IE:=pO.size
   have hG16:=hG1.updS tL bK bM
   obtain ⟨X16,AP,hxb16,hXs16⟩:=el_open (n:=19) ON hA1 rfl
   have hst:(rdF (rdQ (d+1) ver false) ver false fX3_0 s13).2=(rdStr false s13).2:=by first|(rw [hrd];rfl)|rw [hrd]
   obtain ⟨s14,uE⟩:∃ s,s=(rdF (rdQ (d+1) ver false) ver false fX3_0 s13).2:=⟨_,rfl⟩
   rw [← hst,← uE] at xI
   clear hst
   have ZO:j1 * 19+1≤X16.size:=by omega
   have WQ:X16[j1 * 19+17]? = some (.slice none 0 0):=by rw [AP];exact el_cell (R:=0) hA1 (Nat.le_of_ble_eq_true rfl)
   repeat ((first|refine qA ?_|apply qB|refine qC ?_|apply qD|apply qE|apply qF|apply qG|apply qH);try simp (disch:=omega) only [go_sem,hxb16,cH,cJ,cM,cO,cF,cI,cA,cX,ZO,WQ,Array.getElem?_setIfInBounds_ne])
   generalize CF:wr w16 R1 (j1 * 19) [strV (rdStr false s13).1] = w17
   have EX:Upd (fun b=>b=R1∨b=rb) w16 w17:=by rw [← CF];exact (Upd.refl _ _).wr _ _ (.inr (.inl rfl))
   have tB:blk w17 R1=some ((A1++(([strV (rdStr false s13).1,zZ,zZ,zZ,zZ,zZ,zZ,zZ,zZ,zZ,zZ,zZ,zZ,zZ,zZ,zZ,zZ,zS,.map none]:List Value)++B1)).toArray,85,(0,0)):=by rw [← CF];exact el_blk0 ON hA1 (Nat.le_of_ble_eq_true rfl)
   have tU:=EX
   have lJ:=tL.trans' tU fun i hi h=>h.elim (fun h=>by omega) .inr
   have Q2:=tU.size
   have J7:=hG1.updS lJ bK bM
   have dS:=Rdr.stored CF xI (by omega) fun h=>by have:=(hok _ h).1;first|omega|exact (hok _ h).2 rfl
   obtain ⟨X17,AQ,I8,UM⟩:=el_open (n:=19) tB hA1 rfl
   clear CF
   have GC:RepF (RepS true (d+1)) (szS true (d+1)) fX3_0 (fun b=>(ok b∨w1.heap.size≤b)∧¬ ownB va0 b) w17 (xe0_0) [strV (rdStr false s13).1]:=(RepF_text rfl (by decide)).2 (by rw [DJ,hrd];rfl)
   clear hrd
   have G0:(rdL (rdQ (d+1) ver false) (dfP (d+1)) ver false [fX3_1,fX3_2] s14).2=none→FB:=fun h=>FZ (by rw [rdL_st (by decide) LM,← uE];exact h)
   obtain ⟨xe0_1,DK⟩:∃ x,x=dfF (dfP (d+1)) fX3_1:=⟨_,rfl⟩
   have GD:RepF (RepS true (d+1)) (szS true (d+1)) fX3_1 (fun b=>(ok b∨w1.heap.size≤b)∧¬ ownB va0 b) w17 (xe0_1) [zZ,zZ,zZ,zZ,zZ,zZ,zZ,zZ,zZ,zZ,zZ,zZ,zZ,zZ,zZ,zZ]:=by rw [DK];exact (RepF_uuid rfl).2 rfl
   have LN:hasS fX3_1 ver=false:=hasS_f (by show ver < 13∨(0≤(-1:Int)∧(-1:Int) < ver);omega)
   have G1:(rdL (rdQ (d+1) ver false) (dfP (d+1)) ver false [fX3_2] s14).2=none→FB:=fun h=>G0 (by rw [rdL_no LN];exact h)
   have wQ:hasS fX3_2 ver=true:=hasS_t (by show (0:Int)≤ver;omega) (by show (-1:Int) < 0∨ver≤(-1:Int);omega)
   obtain ⟨xe0_2,yR⟩:∃ x,x=(rdF (rdQ (d+1) ver false) ver false fX3_2 s14).1:=⟨_,rfl⟩
   have WR:X17[j1 * 19+17]? = some (.slice none 0 0):=by rw [AQ];exact el_cell (R:=0) hA1 (Nat.le_of_ble_eq_true rfl)
   repeat ((first|refine qA ?_|apply qB|refine qC ?_|apply qD|apply qE|apply qF|apply qG|apply qH);try simp (disch:=omega) only [go_sem,I8,cH,cJ,cM,cO,cF,cI,cA,cX,WR])
   refine (RArrayLen_fn w17 dS.1 hrok J7.1 hgrb).mono ?_
   rintro _ w18 ⟨rfl,iY,uW⟩
   have uY:=uW.blk_some tB (by omega)
   have kC:Upd (fun b=>b=R1∨b=rb) w17 w18:=uW.mono (fun _ h=>.inr h)
   have jI:=lJ.trans' kC fun i hi h=>h.elim (fun h=>by omega) .inr
   have Q3:=kC.size
   have ED:=hG1.updS jI bK bM
   obtain ⟨X18,AR,gM,UN⟩:=el_open (n:=19) uY hA1 rfl
   obtain ⟨s15,sY⟩:∃ s,s=(rdALen false s14).2:=⟨_,rfl⟩
   rw [← sY] at iY
   have hyr1:=rdALen_rng false s14
   generalize hy1:(rdALen false s14).1=y1 at *
   obtain ⟨N1,hN1⟩:∃ N,N=y1.toNat:=⟨_,rfl⟩
   have dJ:(rdMany (rd1 (rdQ (d+1) ver false) fX3_2.of fX3_2.sub false false) N1 s15).2=none→FB:=fun h=>G1 (by rw [rdL_st (by decide) wQ];exact rdLQ_bad (rdFQ_listbad rfl (by rw [hy1,← hN1,← sY];exact h)))
   repeat ((first|refine W.seqR rfl ?_|refine W.seq ?_|refine W.regR rfl ?_|refine W.block ?_|refine W.skip ?_|refine W.ret ?_|refine W.exit ?_);try simp (disch:=omega) only [go_sem,gM,cH,cJ,cM,cO,cF,cI,cA,cX])
   refine (ROk_fn w18 iY.1).mono ?_
   rintro _ wz ⟨rfl,hez⟩
   rw [hez]
   clear hez wz
   by_cases lW:s15=none
   ·have hso:s15.isSome=false:=by rw [lW];rfl
    repeat (first|simp (disch:=omega) only [go_sem,gM,cH,cJ,cM,cO,cF,cI,cA,cX,hso]|refine qA ?_|apply qB|refine qC ?_|apply qD|apply qE|apply qF|apply qG|apply qH)
    refine (RComplete_fn w18 iY.1 ED.2).mono ?_
    rintro _ wz ⟨rfl,hez⟩
    rw [hez]
    repeat (first|simp (disch:=omega) only [go_sem,gM,cH,cJ,cM,cO,cF,cI,cA,cX]|refine qA ?_|apply qB|refine qC ?_|apply qD|apply qE|apply qF|apply qG|apply qH)
    rw [errV_none lW]
    exact ReadQ.bad (Eq.mp hFB (dJ (by rw [lW];exact rdMany_none rd1Q_none _))) (hbase.trans' jI fun i hi h=>h.elim id fun h=>by omega)
   have m4:s15.isSome=true:=isSome_some lW
   try simp (disch:=omega) only [go_sem,gM,cH,cJ,cM,cO,cF,cI,cA,cX,m4]
   repeat ((first|refine W.seqR rfl ?_|refine W.seq ?_|refine W.regR rfl ?_|refine W.block ?_|refine W.skip ?_|refine W.ret ?_|refine W.exit ?_);try simp (disch:=omega) only [go_sem,gM,cH,cJ,cM,cO,cF,cI,cA,cX,m4])
   refine W.condK ?_
   try simp (disch:=omega) only [go_sem,gM,cH,cJ,cM,cO,cF,cI,cA,cX,m4]
   repeat ((first|refine W.seqR rfl ?_|refine W.seq ?_|refine W.regR rfl ?_|refine W.block ?_|refine W.skip ?_|refine W.ret ?_|refine W.exit ?_);try simp (disch:=omega) only [go_sem,gM,cH,cJ,cM,cO,cF,cI,cA,cX,m4,slBase_00])
   refine W.normJ (RowQ [(2,zB),(7,.pointer (some ⟨rb,0,none⟩)),(8,.int .i16 ver),(9,zB),(10,.pointer (some ⟨vb,0,none⟩)),(20,.int .i32 y0),(19,.slice (some ⟨R1,0,none⟩) N0 q1),(21,.int .i32 j1),(23,.pointer (some ⟨R1,j1 * 19,none⟩)),(28,.int .i32 y1)] 27 (fun va w'=>LstI RT (rd1 (rdQ (d+1) ver false) fX3_2.of fX3_2.sub false false) (Rep1 (RepS true (d+1)) fX3_2.of fX3_2.sub) 24 113 [.int .i32 0,.int .i32 0,zI,.int .i32 0,zI,.int .i32 0,zZ,zZ,zZ,zZ,zZ,zZ,zZ,zZ,zZ,zZ,zZ,zZ,zZ,zZ,zZ,zZ,zI,.map none] w18.heap.size N1 ok (fun b=>(ok b∨w1.heap.size≤b)∧¬ ownB va0 b) rb w18 s15 va 0 s15 [] [] w'∧(N1=0→if nilS fX3_2 ver y1=true then va=zS else ∃ a,va = .slice (some a) 0 0))) ?_ ?_
   ·by_cases hy0:(0:Int) < y1
    ·have hyv:Value.int .i32 y1 = .int .i32 ((N1:Nat):Int):=by rw [show y1=((N1:Nat):Int) by omega]
     repeat ((first|refine qA ?_|apply qB|refine qC ?_|apply qD|apply qE|apply qF|apply qG|apply qH);try simp (disch:=omega) only [go_sem,gM,cH,cJ,cM,cO,cF,cI,cA,cX])
     refine wp_appendZ (m:=N1) utQ_83 utQ_21 inQ_113 (by decide) (by first|rfl|simp (disch:=omega) only [go_sem,cH,cJ,cM,cO,cF,cI,cA,cX]) (by first|exact hyv|(simp (disch:=omega) only [go_sem,cH,cJ,cM,cO,cF,cI,cA,cX];exact hyv)) (by omega) (by omega) (by decide) ?_
     intro q rest hq1
     have hEw:Ext w18 (w18.drew.alloc (.cells (zs [.int .i32 0,.int .i32 0,zI,.int .i32 0,zI,.int .i32 0,zZ,zZ,zZ,zZ,zZ,zZ,zZ,zZ,zZ,zZ,zZ,zZ,zZ,zZ,zZ,zZ,zI,.map none] N1++rest).toArray 113)):=(Upd.refl _ _).drew.alloc _
     repeat (first|simp (disch:=omega) only [go_sem,gM,cH,cJ,cM,cO,cF,cI,cA,cX]|refine qA ?_|apply qB|refine qC ?_|apply qD|apply qE|apply qF|apply qG|apply qH)
     exact ⟨(by simp (disch:=omega) only [go_sem,Holds_nil,Holds_cons,cH,cJ,cM,cO,cF,cI,cA,cX]),.slice (some ⟨w18.heap.size,0,none⟩) N1 q,(by simp (disch:=omega) only [go_sem,cH,cJ,cM,cO,cF,cI,cA,cX]),LstI.start (RowJ.start (by omega) hq1 (by show w18.heap.size≤w18.drew.heap.size;rw [size_drew];omega) (blk_alloc_new rfl)) ⟨iY.1.upd hEw (fun h=>h) (fun _ _ _ h=>h),iY.2.upd hEw fun h=>h⟩ (hEw.mono fun _ h=>h.elim),fun h0=>by omega⟩
    ·repeat ((first|refine qA ?_|apply qB|refine qC ?_|apply qD|apply qE|apply qF|apply qG|apply qH);try simp (disch:=omega) only [go_sem,gM,cH,cJ,cM,cO,cF,cI,cA,cX])
     exact ⟨(by simp (disch:=omega) only [go_sem,Holds_nil,Holds_cons,cH,cJ,cM,cO,cF,cI,cA,cX]),zS,(by simp (disch:=omega) only [go_sem,cH,cJ,cM,cO,cF,cI,cA,cX,slBase_00]),LstI.start (RowJ.zero (by omega) (fun _ h=>by cases h)) iY (Upd.refl _ _),fun _=>by rw [nilS_plain (by decide) (by omega)];exact rfl⟩
   rintro ρ w19 ⟨⟨rB,rG,rH,rI,r9,rC,rA,rD,rE,rF,-⟩,va1,cD,hL1,xF⟩
   repeat ((first|refine qA ?_|apply qB|refine qC ?_|apply qD|apply qE|apply qF|apply qG|apply qH);try simp (disch:=omega) only [go_sem,gM,rB,rG,rH,rI,r9,rC,rA,rD,rE,rF,cD])
   refine W.exitRJ 2 (EndQ [(2,zB),(7,.pointer (some ⟨rb,0,none⟩)),(8,.int .i16 ver),(9,zB),(10,.pointer (some ⟨vb,0,none⟩)),(20,.int .i32 y0),(19,.slice (some ⟨R1,0,none⟩) N0 q1),(21,.int .i32 j1),(23,.pointer (some ⟨R1,j1 * 19,none⟩)),(28,.int .i32 y1),(27,va1)] (fun w'=>∃ s xs css,LstI RT (rd1 (rdQ (d+1) ver false) fX3_2.of fX3_2.sub false false) (Rep1 (RepS true (d+1)) fX3_2.of fX3_2.sub) 24 113 [.int .i32 0,.int .i32 0,zI,.int .i32 0,zI,.int .i32 0,zZ,zZ,zZ,zZ,zZ,zZ,zZ,zZ,zZ,zZ,zZ,zZ,zZ,zZ,zZ,zZ,zI,.map none] w18.heap.size N1 ok (fun b=>(ok b∨w1.heap.size≤b)∧¬ ownB va0 b) rb w18 s15 va1 N1 s xs css w')) (W.loop (LoopQ [(2,zB),(7,.pointer (some ⟨rb,0,none⟩)),(8,.int .i16 ver),(9,zB),(10,.pointer (some ⟨vb,0,none⟩)),(20,.int .i32 y0),(19,.slice (some ⟨R1,0,none⟩) N0 q1),(21,.int .i32 j1),(23,.pointer (some ⟨R1,j1 * 19,none⟩)),(28,.int .i32 y1),(27,va1)] 29 (fun j w'=>∃ s xs css,LstI RT (rd1 (rdQ (d+1) ver false) fX3_2.of fX3_2.sub false false) (Rep1 (RepS true (d+1)) fX3_2.of fX3_2.sub) 24 113 [.int .i32 0,.int .i32 0,zI,.int .i32 0,zI,.int .i32 0,zZ,zZ,zZ,zZ,zZ,zZ,zZ,zZ,zZ,zZ,zZ,zZ,zZ,zZ,zZ,zZ,zI,.map none] w18.heap.size N1 ok (fun b=>(ok b∨w1.heap.size≤b)∧¬ ownB va0 b) rb w18 s15 va1 j s xs css w')) (fun ρ _=>N1 - (RowKit.intOf (ρ 29)).toNat) ?_ ?_) ?_
   ·exact ⟨(by simp (disch:=omega) only [go_sem,Holds_nil,Holds_cons,rB,rG,rH,rI,r9,rC,rA,rD,rE,rF,cD]),0,(by simp (disch:=omega) only [go_sem,rB,rG,rH,rI,r9,rC,rA,rD,rE,rF,cD];all_goals rfl),s15,[],[],hL1⟩
   ·rintro ρ w20 ⟨⟨dA,dF,dG,dH,d8,dB,d9,dC,dD,dE,sB,-⟩,j2,dI,s16,xs1,css1,hL1⟩
    have hj1:=hL1.le
    have kJ:=hL1.rd
    have iP:Upd (fun b=>b=vb∨b=rb) w1 w20:=jI.trans' hL1.upd fun i _ h=>.inr h
    have DR:=hL1.upd.size
    have zH:Glo ev w20:=hG1.updS iP bK bM
    by_cases mX:j2 < N1
    ·obtain ⟨R2,q2,B2,eJ,EQ,EO,hA2,DB,kH⟩:=hL1.row.next mX
     have EU:=blk_lt DB
     generalize css1.flatten=A2 at hA2 DB kH
     replace cD:ρ 27 = .slice (some ⟨R2,0,none⟩) N1 q2:=sB.trans eJ
     have hown2:∀ b,ownB va1 b→w18.heap.size≤b∧b < w20.heap.size:=fun b h=>hL1.row.own h
     have cZ:∀ b,(fun b=>(fun b=>(ok b∨w1.heap.size≤b)∧¬ ownB va0 b) b∧¬ ownB va1 b) b→¬ (b=R2∨b=rb):=fun b hk h=>h.elim (fun e=>hk.2 ⟨_,_,_,eJ,e⟩) (fun e=>dL b hk.1 (.inr e))
     obtain ⟨X20,tV,tD,FP⟩:=el_open (n:=24) DB hA2 rfl
     repeat ((first|refine qA ?_|apply qB|refine qC ?_|apply qD|apply qE|apply qF|apply qG|apply qH);try simp (disch:=omega) only [go_sem,tD,dA,dF,dG,dH,d8,dB,d9,dC,dD,dE,cD,dI])
     refine (DefaultEX0_fn w20 DB hA2).mono ?_
     rintro _ w21 ⟨P2,mA⟩
     have kK:=And.intro (kJ.1.upd mA (by omega) (fun b _ hk e=>by have:=(hok b hk).1;omega)) (kJ.2.upd mA (by omega))
     have gN:Upd (fun b=>b=R2∨b=rb) w20 w21:=mA.mono (fun _ h=>.inl h)
     have iQ:=iP.trans' gN fun i hi h=>h.elim (fun h=>by omega) .inr
     have IF:=gN.size
     have ac:=hG1.updS iQ bK bM
     obtain ⟨X21,wI,jA,KP⟩:=el_open (n:=24) P2 hA2 rfl
     have G2:(rdL (rdQ d ver false) (dfP d) ver false [fX0_0,fX0_1,fX0_2,fX0_3,fX0_4,fX0_5,fX0_6,fX0_7] s16).2=none→FB:=fun h=>dJ (hL1.bad mX rd1Q_none (by show (rd1 (rdQ (d+1) ver false) 10 fs_X0 false false s16).2=none;rw [rd1_part];exact rdQ_bad h))
     have wR:hasS fX0_0 ver=true:=hasS_t (by show (0:Int)≤ver;omega) (by show (-1:Int) < 0∨ver≤(-1:Int);omega)
     obtain ⟨xe0e1_0,yS⟩:∃ x,x=(rdF (rdQ d ver false) ver false fX0_0 s16).1:=⟨_,rfl⟩
     repeat ((first|refine qA ?_|apply qB|refine qC ?_|apply qD|apply qE|apply qF|apply qG|apply qH);try simp (disch:=omega) only [go_sem,jA,dA,dF,dG,dH,d8,dB,d9,dC,dD,dE,cD,dI])
     have hrd:rdF (rdQ d ver false) ver false fX0_0 s16=_:=rdF_num 3 rfl (by decide)
     refine (Int32_fn w21 kK.1 hrok ac.1 hgrb).mono ?_
     rintro _ w22 ⟨rfl,qP,NV⟩
     have P3:=NV.blk_some P2 (by omega)
     have mN:Upd (fun b=>b=R2∨b=rb) w21 w22:=NV.mono (fun _ h=>.inr h)
     have zU:=iQ.trans' mN fun i hi h=>h.elim (fun h=>by omega) .inr
     have hz22:=mN.size
     have RL:=hG1.updS zU bK bM
     obtain ⟨X22,UC,I9,UP⟩:=el_open (n:=24) P3 hA2 rfl
     have hst:(rdF (rdQ d ver false) ver false fX0_0 s16).2=(rdInt .i32 4 s16).2:=by first|(rw [hrd];rfl)|rw [hrd]
     obtain ⟨s17,sZ⟩:∃ s,s=(rdF (rdQ d ver false) ver false fX0_0 s16).2:=⟨_,rfl⟩
     rw [← hst,← sZ] at qP
     clear hst
     have ZR:j2 * 24+1≤X22.size:=by omega
     repeat ((first|refine W.seqR rfl ?_|refine W.seq ?_|refine W.regR rfl ?_|refine W.block ?_|refine W.skip ?_|refine W.ret ?_|refine W.exit ?_);try simp (disch:=omega) only [go_sem,I9,dA,dF,dG,dH,d8,dB,d9,dC,dD,dE,cD,dI,ZR])
     generalize CI:wr w22 R2 (j2 * 24) [.int .i32 (rdInt .i32 4 s16).1] = w23
     have SS:Upd (fun b=>b=R2∨b=rb) w22 w23:=by rw [← CI];exact (Upd.refl _ _).wr _ _ (.inr (.inl rfl))
     have oR:blk w23 R2=some ((A2++(([.int .i32 (rdInt .i32 4 s16).1,zM,zI,zM,.int .i64 (-1),.int .i32 0,zZ,zZ,zZ,zZ,zZ,zZ,zZ,zZ,zZ,zZ,zZ,zZ,zZ,zZ,zZ,zZ,.int .i64 9223372036854775807,.map none]:List Value)++B2)).toArray,113,(0,0)):=by rw [← CI];exact el_blk0 P3 hA2 (Nat.le_of_ble_eq_true rfl)
     have AC:=SS
     have tM:=zU.trans' AC fun i hi h=>h.elim (fun h=>by omega) .inr
     have hz23:=AC.size
     have J8:=hG1.updS tM bK bM
     have qQ:=Rdr.stored CI qP (by omega) fun h=>by have:=(hok _ h).1;first|omega|exact (hok _ h).2 rfl
     obtain ⟨X23,UD,vD,UQ⟩:=el_open (n:=24) oR hA2 rfl
     clear CI
     have BF:RepF (RepS true d) (szS true d) fX0_0 (fun b=>(fun b=>(ok b∨w1.heap.size≤b)∧¬ ownB va0 b) b∧¬ ownB va1 b) w23 (xe0e1_0) [.int .i32 (rdInt .i32 4 s16).1]:=(RepF_num (by decide)).2 (by rw [yS,hrd];exact congrArg (fun x=>[x]) (numC_rd 3 (by decide) 4 s16).symm)
     clear hrd
     have G3:(rdL (rdQ d ver false) (dfP d) ver false [fX0_1,fX0_2,fX0_3,fX0_4,fX0_5,fX0_6,fX0_7] s17).2=none→FB:=fun h=>G2 (by rw [rdL_st (by decide) wR,← sZ];exact h)
     repeat ((first|refine W.seqR rfl ?_|refine W.seq ?_|refine W.regR rfl ?_|refine W.block ?_|refine W.skip ?_|refine W.ret ?_|refine W.exit ?_);try simp (disch:=omega) only [go_sem,vD,dA,dF,dG,dH,d8,dB,d9,dC,dD,dE,cD,dI])
     refine W.normJ (EndQ [(2,zB),(7,.pointer (some ⟨rb,0,none⟩)),(8,.int .i16 ver),(9,zB),(10,.pointer (some ⟨vb,0,none⟩)),(20,.int .i32 y0),(19,.slice (some ⟨R1,0,none⟩) N0 q1),(21,.int .i32 j1),(23,.pointer (some ⟨R1,j1 * 19,none⟩)),(28,.int .i32 y1),(27,.slice (some ⟨R2,0,none⟩) N1 q2),(29,.int .i32 j2),(31,.pointer (some ⟨R2,j2 * 24,none⟩))] fun w'=>∃ (x:Tree) (st:St) (c:Value),x=(rdA (rdQ d ver false) (dfP d) ver false fX0_1 s17).1∧st=(rdA (rdQ d ver false) (dfP d) ver false fX0_1 s17).2∧blk w' R2=some ((A2++(([.int .i32 (rdInt .i32 4 s16).1,c,zI,zM,.int .i64 (-1),.int .i32 0,zZ,zZ,zZ,zZ,zZ,zZ,zZ,zZ,zZ,zZ,zZ,zZ,zZ,zZ,zZ,zZ,.int .i64 9223372036854775807,.map none]:List Value)++B2)).toArray,113,(0,0))∧RepF (RepS true d) (szS true d) fX0_1 (fun b=>(fun b=>(ok b∨w1.heap.size≤b)∧¬ ownB va0 b) b∧¬ ownB va1 b) w' x [c]∧(Rdr RT ok w' rb st∧NN w' rb st)∧Upd (fun b=>b=R2∨b=rb) w23 w') ?_ ?_
     ·by_cases hvc_:(9:Int)≤ver
      ·have hyes:hasS fX0_1 ver=true:=hasS_t (by show (9:Int)≤ver;omega) (by show (-1:Int) < 0∨ver≤(-1:Int);omega)
       repeat ((first|refine qA ?_|apply qB|refine qC ?_|apply qD|apply qE|apply qF|apply qG|apply qH);try simp (disch:=omega) only [go_sem,vD,dA,dF,dG,dH,d8,dB,d9,dC,dD,dE,cD,dI,hvc_])
       have hhe0e1g_1:hasS fX0_1 ver=true:=hasS_t (by show (9:Int)≤ver;omega) (by show (-1:Int) < 0∨ver≤(-1:Int);omega)
       obtain ⟨xe0e1g_1,PK⟩:∃ x,x=(rdF (rdQ d ver false) ver false fX0_1 s17).1:=⟨_,rfl⟩
       repeat ((first|refine qA ?_|apply qB|refine qC ?_|apply qD|apply qE|apply qF|apply qG|apply qH);try simp (disch:=omega) only [go_sem,vD,dA,dF,dG,dH,d8,dB,d9,dC,dD,dE,cD,dI])
       have hrd:rdF (rdQ d ver false) ver false fX0_1 s17=_:=rdF_num 3 rfl (by decide)
       refine (Int32_fn w23 qQ.1 hrok J8.1 hgrb).mono ?_
       rintro _ w24 ⟨rfl,u6,oJ⟩
       have oS:=oJ.blk_some oR (by omega)
       have iV:Upd (fun b=>b=R2∨b=rb) w23 w24:=oJ.mono (fun _ h=>.inr h)
       have mJ:=tM.trans' iV fun i hi h=>h.elim (fun h=>by omega) .inr
       have Q4:=iV.size
       have zJ:=hG1.updS mJ bK bM
       obtain ⟨X24,KK,yM,KQ⟩:=el_open (n:=24) oS hA2 rfl
       have hst:(rdF (rdQ d ver false) ver false fX0_1 s17).2=(rdInt .i32 4 s17).2:=by first|(rw [hrd];rfl)|rw [hrd]
       obtain ⟨s18,uF⟩:∃ s,s=(rdF (rdQ d ver false) ver false fX0_1 s17).2:=⟨_,rfl⟩
       rw [← hst,← uF] at u6
       clear hst
       have ZS:j2 * 24+2≤X24.size:=by omega
       repeat ((first|refine qA ?_|apply qB|refine qC ?_|apply qD|apply qE|apply qF|apply qG|apply qH);try simp (disch:=omega) only [go_sem,yM,dA,dF,dG,dH,d8,dB,d9,dC,dD,dE,cD,dI,ZS])
       generalize CJ:wr w24 R2 (j2 * 24+1) [.int .i32 (rdInt .i32 4 s17).1] = w25
       have SU:Upd (fun b=>b=R2∨b=rb) w24 w25:=by rw [← CJ];exact (Upd.refl _ _).wr _ _ (.inr (.inl rfl))
       have oT:blk w25 R2=some ((A2++(([.int .i32 (rdInt .i32 4 s16).1,.int .i32 (rdInt .i32 4 s17).1,zI,zM,.int .i64 (-1),.int .i32 0,zZ,zZ,zZ,zZ,zZ,zZ,zZ,zZ,zZ,zZ,zZ,zZ,zZ,zZ,zZ,zZ,.int .i64 9223372036854775807,.map none]:List Value)++B2)).toArray,113,(0,0)):=by rw [← CJ];exact el_blk (o:=1) oS hA2 (Nat.le_of_ble_eq_true rfl)
       have iW:=SU
       have pI:=mJ.trans' iW fun i hi h=>h.elim (fun h=>by omega) .inr
       have Q5:=iW.size
       have J9:=hG1.updS pI bK bM
       have qR:=Rdr.stored CJ u6 (by omega) fun h=>by have:=(hok _ h).1;first|omega|exact (hok _ h).2 rfl
       obtain ⟨X25,KL,yN,KR⟩:=el_open (n:=24) oT hA2 rfl
       clear CJ
       have VY:RepF (RepS true d) (szS true d) fX0_1 (fun b=>(fun b=>(ok b∨w1.heap.size≤b)∧¬ ownB va0 b) b∧¬ ownB va1 b) w25 (xe0e1g_1) [.int .i32 (rdInt .i32 4 s17).1]:=(RepF_num (by decide)).2 (by rw [PK,hrd];exact congrArg (fun x=>[x]) (numC_rd 3 (by decide) 4 s17).symm)
       clear hrd
       repeat ((first|refine qA ?_|apply qB|refine qC ?_|apply qD|apply qE|apply qF|apply qG|apply qH);try simp (disch:=omega) only [go_sem,yN,dA,dF,dG,dH,d8,dB,d9,dC,dD,dE,cD,dI])
       exact ⟨(by simp (disch:=omega) only [go_sem,Holds_nil,Holds_cons,dA,dF,dG,dH,d8,dB,d9,dC,dD,dE,cD,dI]),_,_,_,(by rw [rdA_yes hyes];exact PK),(by rw [rdA_yes hyes];exact uF),oT,VY,qR,(iV.trans iW)⟩
      ·have hno:hasS fX0_1 ver=false:=hasS_f (by show ver < 9∨(0≤(-1:Int)∧(-1:Int) < ver);omega)
       repeat ((first|refine qA ?_|apply qB|refine qC ?_|apply qD|apply qE|apply qF|apply qG|apply qH);try simp (disch:=omega) only [go_sem,vD,dA,dF,dG,dH,d8,dB,d9,dC,dD,dE,cD,dI,hvc_])
       exact ⟨(by simp (disch:=omega) only [go_sem,Holds_nil,Holds_cons,dA,dF,dG,dH,d8,dB,d9,dC,dD,dE,cD,dI]),_,_,_,(by rw [rdA_no hno];try rfl),(by rw [rdA_no hno]),oR,(RepF_num (by decide)).2 rfl,qQ,Upd.refl _ _⟩
     rintro ρ w24 ⟨⟨jO,jW,jX,jY,jM,jP,jN,jQ,jR,jT,jS,jU,jV,-⟩,xe0e1_1,s19,ce0e1_1,DL,uH,oS,BG,u6,oJ⟩
     have iV:Upd (fun b=>b=R2∨b=rb) w23 w24:=oJ.mono (fun _ h=>h)
     have mJ:=tM.trans' iV fun i hi h=>h.elim (fun h=>by omega) .inr
     have Q4:=iV.size
     have zJ:=hG1.updS mJ bK bM
     obtain ⟨X24,KK,yM,KQ⟩:=el_open (n:=24) oS hA2 rfl
     have G4:(rdL (rdQ d ver false) (dfP d) ver false [fX0_2,fX0_3,fX0_4,fX0_5,fX0_6,fX0_7] s19).2=none→FB:=fun h=>G3 (by rw [rdL_any (by decide),← uH];exact h)
     have wS:hasS fX0_2 ver=true:=hasS_t (by show (0:Int)≤ver;omega) (by show (-1:Int) < 0∨ver≤(-1:Int);omega)
     obtain ⟨xe0e1_2,yU⟩:∃ x,x=(rdF (rdQ d ver false) ver false fX0_2 s19).1:=⟨_,rfl⟩
     repeat ((first|refine qA ?_|apply qB|refine qC ?_|apply qD|apply qE|apply qF|apply qG|apply qH);try simp (disch:=omega) only [go_sem,yM,jO,jW,jX,jY,jM,jP,jN,jQ,jR,jT,jS,jU,jV])
     have hrd:rdF (rdQ d ver false) ver false fX0_2 s19=_:=rdF_num 4 rfl (by decide)
     refine (Int64_fn w24 u6.1 hrok zJ.1 hgrb).mono ?_
     rintro _ w25 ⟨rfl,qR,yB⟩
     have oT:=yB.blk_some oS (by omega)
     have iW:Upd (fun b=>b=R2∨b=rb) w24 w25:=yB.mono (fun _ h=>.inr h)
     have pI:=mJ.trans' iW fun i hi h=>h.elim (fun h=>by omega) .inr
     have Q5:=iW.size
     have J9:=hG1.updS pI bK bM
     obtain ⟨X25,KL,yN,KR⟩:=el_open (n:=24) oT hA2 rfl
     have hst:(rdF (rdQ d ver false) ver false fX0_2 s19).2=(rdInt .i64 8 s19).2:=by first|(rw [hrd];rfl)|rw [hrd]
     obtain ⟨s20,t1⟩:∃ s,s=(rdF (rdQ d ver false) ver false fX0_2 s19).2:=⟨_,rfl⟩
     rw [← hst,← t1] at qR
     clear hst
     have ZV:j2 * 24+3≤X25.size:=by omega
     repeat ((first|refine W.seqR rfl ?_|refine W.seq ?_|refine W.regR rfl ?_|refine W.block ?_|refine W.skip ?_|refine W.ret ?_|refine W.exit ?_);try simp (disch:=omega) only [go_sem,yN,jO,jW,jX,jY,jM,jP,jN,jQ,jR,jT,jS,jU,jV,ZV])
     generalize mC:wr w25 R2 (j2 * 24+2) [.int .i64 (rdInt .i64 8 s19).1] = w26
     have EZ:Upd (fun b=>b=R2∨b=rb) w25 w26:=by rw [← mC];exact (Upd.refl _ _).wr _ _ (.inr (.inl rfl))
     have vB:blk w26 R2=some ((A2++(([.int .i32 (rdInt .i32 4 s16).1,ce0e1_1,.int .i64 (rdInt .i64 8 s19).1,zM,.int .i64 (-1),.int .i32 0,zZ,zZ,zZ,zZ,zZ,zZ,zZ,zZ,zZ,zZ,zZ,zZ,zZ,zZ,zZ,zZ,.int .i64 9223372036854775807,.map none]:List Value)++B2)).toArray,113,(0,0)):=by rw [← mC];exact el_blk (o:=2) oT hA2 (Nat.le_of_ble_eq_true rfl)
     have jB:=EZ
     have l3:=pI.trans' jB fun i hi h=>h.elim (fun h=>by omega) .inr
     have Q6:=jB.size
     have EE:=hG1.updS l3 bK bM
     have BV:=Rdr.stored mC qR (by omega) fun h=>by have:=(hok _ h).1;first|omega|exact (hok _ h).2 rfl
     obtain ⟨X26,FN,oY,UR⟩:=el_open (n:=24) vB hA2 rfl
     clear mC
     have BH:RepF (RepS true d) (szS true d) fX0_2 (fun b=>(fun b=>(ok b∨w1.heap.size≤b)∧¬ ownB va0 b) b∧¬ ownB va1 b) w26 (xe0e1_2) [.int .i64 (rdInt .i64 8 s19).1]:=(RepF_num (by decide)).2 (by rw [yU,hrd];exact congrArg (fun x=>[x]) (numC_rd 4 (by decide) 8 s19).symm)
     clear hrd
     have G5:(rdL (rdQ d ver false) (dfP d) ver false [fX0_3,fX0_4,fX0_5,fX0_6,fX0_7] s20).2=none→FB:=fun h=>G4 (by rw [rdL_st (by decide) wS,← t1];exact h)
     obtain ⟨xe0e1_3,yV⟩:∃ x,x=dfF (dfP d) fX0_3:=⟨_,rfl⟩
     have BI:RepF (RepS true d) (szS true d) fX0_3 (fun b=>(fun b=>(ok b∨w1.heap.size≤b)∧¬ ownB va0 b) b∧¬ ownB va1 b) w26 (xe0e1_3) [zM]:=by rw [yV];exact (RepF_num (by decide)).2 rfl
     have wT:hasS fX0_3 ver=false:=hasS_f (by show ver < 12∨(0≤(-1:Int)∧(-1:Int) < ver);omega)
     have G6:(rdL (rdQ d ver false) (dfP d) ver false [fX0_4,fX0_5,fX0_6,fX0_7] s20).2=none→FB:=fun h=>G5 (by rw [rdL_no wT];exact h)
     repeat ((first|refine W.seqR rfl ?_|refine W.seq ?_|refine W.regR rfl ?_|refine W.block ?_|refine W.skip ?_|refine W.ret ?_|refine W.exit ?_);try simp (disch:=omega) only [go_sem,oY,jO,jW,jX,jY,jM,jP,jN,jQ,jR,jT,jS,jU,jV])
     refine W.condK ?_
     try simp (disch:=omega) only [go_sem,oY,jO,jW,jX,jY,jM,jP,jN,jQ,jR,jT,jS,jU,jV]
     repeat ((first|refine W.seqR rfl ?_|refine W.seq ?_|refine W.regR rfl ?_|refine W.block ?_|refine W.skip ?_|refine W.ret ?_|refine W.exit ?_);try simp (disch:=omega) only [go_sem,oY,jO,jW,jX,jY,jM,jP,jN,jQ,jR,jT,jS,jU,jV])
     refine W.normJ (EndQ [(2,zB),(7,.pointer (some ⟨rb,0,none⟩)),(8,.int .i16 ver),(9,zB),(10,.pointer (some ⟨vb,0,none⟩)),(20,.int .i32 y0),(19,.slice (some ⟨R1,0,none⟩) N0 q1),(21,.int .i32 j1),(23,.pointer (some ⟨R1,j1 * 19,none⟩)),(28,.int .i32 y1),(27,.slice (some ⟨R2,0,none⟩) N1 q2),(29,.int .i32 j2),(31,.pointer (some ⟨R2,j2 * 24,none⟩))] fun w'=>∃ (x:Tree) (st:St) (c:Value),x=(rdA (rdQ d ver false) (dfP d) ver false fX0_4 s20).1∧st=(rdA (rdQ d ver false) (dfP d) ver false fX0_4 s20).2∧blk w' R2=some ((A2++(([.int .i32 (rdInt .i32 4 s16).1,ce0e1_1,.int .i64 (rdInt .i64 8 s19).1,zM,c,.int .i32 0,zZ,zZ,zZ,zZ,zZ,zZ,zZ,zZ,zZ,zZ,zZ,zZ,zZ,zZ,zZ,zZ,.int .i64 9223372036854775807,.map none]:List Value)++B2)).toArray,113,(0,0))∧RepF (RepS true d) (szS true d) fX0_4 (fun b=>(fun b=>(ok b∨w1.heap.size≤b)∧¬ ownB va0 b) b∧¬ ownB va1 b) w' x [c]∧(Rdr RT ok w' rb st∧NN w' rb st)∧Upd (fun b=>b=R2∨b=rb) w26 w') ?_ ?_
     ·by_cases hvc_:(5:Int)≤ver
      ·have hyes:hasS fX0_4 ver=true:=hasS_t (by show (5:Int)≤ver;omega) (by show (-1:Int) < 0∨ver≤(-1:Int);omega)
       repeat ((first|refine qA ?_|apply qB|refine qC ?_|apply qD|apply qE|apply qF|apply qG|apply qH);try simp (disch:=omega) only [go_sem,oY,jO,jW,jX,jY,jM,jP,jN,jQ,jR,jT,jS,jU,jV,hvc_])
       have hhe0e1g_4:hasS fX0_4 ver=true:=hasS_t (by show (5:Int)≤ver;omega) (by show (-1:Int) < 0∨ver≤(-1:Int);omega)
       obtain ⟨xe0e1g_4,PL⟩:∃ x,x=(rdF (rdQ d ver false) ver false fX0_4 s20).1:=⟨_,rfl⟩
       repeat ((first|refine qA ?_|apply qB|refine qC ?_|apply qD|apply qE|apply qF|apply qG|apply qH);try simp (disch:=omega) only [go_sem,oY,jO,jW,jX,jY,jM,jP,jN,jQ,jR,jT,jS,jU,jV])
       have hrd:rdF (rdQ d ver false) ver false fX0_4 s20=_:=rdF_num 4 rfl (by decide)
       refine (Int64_fn w26 BV.1 hrok EE.1 hgrb).mono ?_
       rintro _ w27 ⟨rfl,qS,t8⟩
       have oU:=t8.blk_some vB (by omega)
       have fH:Upd (fun b=>b=R2∨b=rb) w26 w27:=t8.mono (fun _ h=>.inr h)
       have jJ:=l3.trans' fH fun i hi h=>h.elim (fun h=>by omega) .inr
       have z1:=fH.size
       have EF:=hG1.updS jJ bK bM
       obtain ⟨X27,wJ,yO,KS⟩:=el_open (n:=24) oU hA2 rfl
       have hst:(rdF (rdQ d ver false) ver false fX0_4 s20).2=(rdInt .i64 8 s20).2:=by first|(rw [hrd];rfl)|rw [hrd]
       obtain ⟨s21,uI⟩:∃ s,s=(rdF (rdQ d ver false) ver false fX0_4 s20).2:=⟨_,rfl⟩
       rw [← hst,← uI] at qS
       clear hst
       have ZY:j2 * 24+5≤X27.size:=by omega
       repeat ((first|refine qA ?_|apply qB|refine qC ?_|apply qD|apply qE|apply qF|apply qG|apply qH);try simp (disch:=omega) only [go_sem,yO,jO,jW,jX,jY,jM,jP,jN,jQ,jR,jT,jS,jU,jV,ZY])
       generalize mD:wr w27 R2 (j2 * 24+4) [.int .i64 (rdInt .i64 8 s20).1] = w28
       have F0:Upd (fun b=>b=R2∨b=rb) w27 w28:=by rw [← mD];exact (Upd.refl _ _).wr _ _ (.inr (.inl rfl))
       have oV:blk w28 R2=some ((A2++(([.int .i32 (rdInt .i32 4 s16).1,ce0e1_1,.int .i64 (rdInt .i64 8 s19).1,zM,.int .i64 (rdInt .i64 8 s20).1,.int .i32 0,zZ,zZ,zZ,zZ,zZ,zZ,zZ,zZ,zZ,zZ,zZ,zZ,zZ,zZ,zZ,zZ,.int .i64 9223372036854775807,.map none]:List Value)++B2)).toArray,113,(0,0)):=by rw [← mD];exact el_blk (o:=4) oU hA2 (Nat.le_of_ble_eq_true rfl)
       have iX:=F0
       have pJ:=jJ.trans' iX fun i hi h=>h.elim (fun h=>by omega) .inr
       have IG:=iX.size
       have EG:=hG1.updS pJ bK bM
       have u7:=Rdr.stored mD qS (by omega) fun h=>by have:=(hok _ h).1;first|omega|exact (hok _ h).2 rfl
       obtain ⟨X28,tW,yP,KT⟩:=el_open (n:=24) oV hA2 rfl
       clear mD
       have VZ:RepF (RepS true d) (szS true d) fX0_4 (fun b=>(fun b=>(ok b∨w1.heap.size≤b)∧¬ ownB va0 b) b∧¬ ownB va1 b) w28 (xe0e1g_4) [.int .i64 (rdInt .i64 8 s20).1]:=(RepF_num (by decide)).2 (by rw [PL,hrd];exact congrArg (fun x=>[x]) (numC_rd 4 (by decide) 8 s20).symm)
       clear hrd
       repeat ((first|refine qA ?_|apply qB|refine qC ?_|apply qD|apply qE|apply qF|apply qG|apply qH);try simp (disch:=omega) only [go_sem,yP,jO,jW,jX,jY,jM,jP,jN,jQ,jR,jT,jS,jU,jV])
       exact ⟨(by simp (disch:=omega) only [go_sem,Holds_nil,Holds_cons,jO,jW,jX,jY,jM,jP,jN,jQ,jR,jT,jS,jU,jV]),_,_,_,(by rw [rdA_yes hyes];exact PL),(by rw [rdA_yes hyes];exact uI),oV,VZ,u7,(fH.trans iX)⟩
      ·have hno:hasS fX0_4 ver=false:=hasS_f (by show ver < 5∨(0≤(-1:Int)∧(-1:Int) < ver);omega)
       repeat ((first|refine qA ?_|apply qB|refine qC ?_|apply qD|apply qE|apply qF|apply qG|apply qH);try simp (disch:=omega) only [go_sem,oY,jO,jW,jX,jY,jM,jP,jN,jQ,jR,jT,jS,jU,jV,hvc_])
       exact ⟨(by simp (disch:=omega) only [go_sem,Holds_nil,Holds_cons,jO,jW,jX,jY,jM,jP,jN,jQ,jR,jT,jS,jU,jV]),_,_,_,(by rw [rdA_no hno];try rfl),(by rw [rdA_no hno]),vB,(RepF_num (by decide)).2 rfl,BV,Upd.refl _ _⟩
     rintro ρ w27 ⟨⟨sL,sV,sW,sX,sJ,sM,sK,sN,sO,sR,sQ,sS,sU,-⟩,xe0e1_4,s22,ce0e1_4,DM,uJ,oU,BJ,qS,t8⟩
     have fH:Upd (fun b=>b=R2∨b=rb) w26 w27:=t8.mono (fun _ h=>h)
     have jJ:=l3.trans' fH fun i hi h=>h.elim (fun h=>by omega) .inr
     have z1:=fH.size
     have EF:=hG1.updS jJ bK bM
     obtain ⟨X27,wJ,yO,KS⟩:=el_open (n:=24) oU hA2 rfl
     have G7:(rdL (rdQ d ver false) (dfP d) ver false [fX0_5,fX0_6,fX0_7] s22).2=none→FB:=fun h=>G6 (by rw [rdL_any (by decide),← uJ];exact h)
     have wU:hasS fX0_5 ver=true:=hasS_t (by show (0:Int)≤ver;omega) (by show (-1:Int) < 0∨ver≤(-1:Int);omega)
     obtain ⟨xe0e1_5,yW⟩:∃ x,x=(rdF (rdQ d ver false) ver false fX0_5 s22).1:=⟨_,rfl⟩
     repeat ((first|refine qA ?_|apply qB|refine qC ?_|apply qD|apply qE|apply qF|apply qG|apply qH);try simp (disch:=omega) only [go_sem,yO,sL,sV,sW,sX,sJ,sM,sK,sN,sO,sR,sQ,sS,sU])
     have hrd:rdF (rdQ d ver false) ver false fX0_5 s22=_:=rdF_num 3 rfl (by decide)
     refine (Int32_fn w27 qS.1 hrok EF.1 hgrb).mono ?_
     rintro _ w28 ⟨rfl,u7,NW⟩
     have oV:=NW.blk_some oU (by omega)
     have iX:Upd (fun b=>b=R2∨b=rb) w27 w28:=NW.mono (fun _ h=>.inr h)
     have pJ:=jJ.trans' iX fun i hi h=>h.elim (fun h=>by omega) .inr
     have IG:=iX.size
     have EG:=hG1.updS pJ bK bM
     obtain ⟨X28,tW,yP,KT⟩:=el_open (n:=24) oV hA2 rfl
     have hst:(rdF (rdQ d ver false) ver false fX0_5 s22).2=(rdInt .i32 4 s22).2:=by first|(rw [hrd];rfl)|rw [hrd]
     obtain ⟨s23,uM⟩:∃ s,s=(rdF (rdQ d ver false) ver false fX0_5 s22).2:=⟨_,rfl⟩
     rw [← hst,← uM] at u7
     clear hst
     have ZZ:j2 * 24+6≤X28.size:=by omega
     repeat ((first|refine qA ?_|apply qB|refine qC ?_|apply qD|apply qE|apply qF|apply qG|apply qH);try simp (disch:=omega) only [go_sem,yP,sL,sV,sW,sX,sJ,sM,sK,sN,sO,sR,sQ,sS,sU,ZZ])
     generalize CL:wr w28 R2 (j2 * 24+5) [.int .i32 (rdInt .i32 4 s22).1] = w29
     have SV:Upd (fun b=>b=R2∨b=rb) w28 w29:=by rw [← CL];exact (Upd.refl _ _).wr _ _ (.inr (.inl rfl))
     have yL:blk w29 R2=some ((A2++(([.int .i32 (rdInt .i32 4 s16).1,ce0e1_1,.int .i64 (rdInt .i64 8 s19).1,zM,ce0e1_4,.int .i32 (rdInt .i32 4 s22).1,zZ,zZ,zZ,zZ,zZ,zZ,zZ,zZ,zZ,zZ,zZ,zZ,zZ,zZ,zZ,zZ,.int .i64 9223372036854775807,.map none]:List Value)++B2)).toArray,113,(0,0)):=by rw [← CL];exact el_blk (o:=5) oV hA2 (Nat.le_of_ble_eq_true rfl)
     have l4:=SV
     have zV:=pJ.trans' l4 fun i hi h=>h.elim (fun h=>by omega) .inr
     have hz29:=l4.size
     have RM:=hG1.updS zV bK bM
     have BW:=Rdr.stored CL u7 (by omega) fun h=>by have:=(hok _ h).1;first|omega|exact (hok _ h).2 rfl
     obtain ⟨X29,AS,DE,US⟩:=el_open (n:=24) yL hA2 rfl
     clear CL
     have BK:RepF (RepS true d) (szS true d) fX0_5 (fun b=>(fun b=>(ok b∨w1.heap.size≤b)∧¬ ownB va0 b) b∧¬ ownB va1 b) w29 (xe0e1_5) [.int .i32 (rdInt .i32 4 s22).1]:=(RepF_num (by decide)).2 (by rw [yW,hrd];exact congrArg (fun x=>[x]) (numC_rd 3 (by decide) 4 s22).symm)
     clear hrd
     have G8:(rdL (rdQ d ver false) (dfP d) ver false [fX0_6,fX0_7] s23).2=none→FB:=fun h=>G7 (by rw [rdL_st (by decide) wU,← uM];exact h)
     obtain ⟨xe0e1_6,yX⟩:∃ x,x=dfF (dfP d) fX0_6:=⟨_,rfl⟩
     have wN:RepF (RepS true d) (szS true d) fX0_6 (fun b=>(fun b=>(ok b∨w1.heap.size≤b)∧¬ ownB va0 b) b∧¬ ownB va1 b) w29 (xe0e1_6) [zZ,zZ,zZ,zZ,zZ,zZ,zZ,zZ,zZ,zZ,zZ,zZ,zZ,zZ,zZ,zZ]:=by rw [yX];exact (RepF_uuid rfl).2 rfl
     have VK:(rdL (rdQ d ver false) (dfP d) ver false [fX0_7] s23).2=none→FB:=fun h=>G8 (by rw [rdL_tg (by decide)];exact h)
     obtain ⟨xe0e1_7,yY⟩:∃ x,x=dfF (dfP d) fX0_7:=⟨_,rfl⟩
     have wO:RepF (RepS true d) (szS true d) fX0_7 (fun b=>(fun b=>(ok b∨w1.heap.size≤b)∧¬ ownB va0 b) b∧¬ ownB va1 b) w29 (xe0e1_7) [.int .i64 9223372036854775807]:=by rw [yY];exact (RepF_num (by decide)).2 rfl
     have GY:rdL (rdQ d ver false) (dfP d) ver false [] s23=([],s23):=rfl
     have GX:rdL (rdQ d ver false) (dfP d) ver false [fX0_7] s23=([xe0e1_7],s23):=by rw [rdL_tg (by decide),← yY,GY]
     have GW:rdL (rdQ d ver false) (dfP d) ver false [fX0_6,fX0_7] s23=([xe0e1_6,xe0e1_7],s23):=by rw [rdL_tg (by decide),← yX,GX]
     have GV:rdL (rdQ d ver false) (dfP d) ver false [fX0_5,fX0_6,fX0_7] s22=([xe0e1_5,xe0e1_6,xe0e1_7],s23):=by rw [rdL_st (by decide) wU,← yW,← uM,GW]
     have GU:rdL (rdQ d ver false) (dfP d) ver false [fX0_4,fX0_5,fX0_6,fX0_7] s20=([xe0e1_4,xe0e1_5,xe0e1_6,xe0e1_7],s23):=by rw [rdL_any (by decide),← DM,← uJ,GV]
     have GT:rdL (rdQ d ver false) (dfP d) ver false [fX0_3,fX0_4,fX0_5,fX0_6,fX0_7] s20=([xe0e1_3,xe0e1_4,xe0e1_5,xe0e1_6,xe0e1_7],s23):=by rw [rdL_no wT,← yV,GU]
     have GS:rdL (rdQ d ver false) (dfP d) ver false [fX0_2,fX0_3,fX0_4,fX0_5,fX0_6,fX0_7] s19=([xe0e1_2,xe0e1_3,xe0e1_4,xe0e1_5,xe0e1_6,xe0e1_7],s23):=by rw [rdL_st (by decide) wS,← yU,← t1,GT]
     have GR:rdL (rdQ d ver false) (dfP d) ver false [fX0_1,fX0_2,fX0_3,fX0_4,fX0_5,fX0_6,fX0_7] s17=([xe0e1_1,xe0e1_2,xe0e1_3,xe0e1_4,xe0e1_5,xe0e1_6,xe0e1_7],s23):=by rw [rdL_any (by decide),← DL,← uH,GS]
     have wY:rdL (rdQ d ver false) (dfP d) ver false [fX0_0,fX0_1,fX0_2,fX0_3,fX0_4,fX0_5,fX0_6,fX0_7] s16=([xe0e1_0,xe0e1_1,xe0e1_2,xe0e1_3,xe0e1_4,xe0e1_5,xe0e1_6,xe0e1_7],s23):=by rw [rdL_st (by decide) wR,← yS,← sZ,GR]
     have GF:rdQ (d+1) ver false fs_X0 s16=(.mk 0 [] false [xe0e1_0,xe0e1_1,xe0e1_2,xe0e1_3,xe0e1_4,xe0e1_5,xe0e1_6,xe0e1_7] [],s23):=rdQ_f wY
     have F9:TagsM (fun b=>(fun b=>(ok b∨w1.heap.size≤b)∧¬ ownB va0 b) b∧¬ ownB va1 b) w29 (.map none) []:=.inl ⟨rfl,rfl⟩
     have tI:Upd (fun b=>b=R2∨b=rb) w29 w29:=Upd.refl _ _
     have aa:Upd (fun b=>b=R2∨b=rb) w28 w29:=l4.trans tI
     have zA:Upd (fun b=>b=R2∨b=rb) w27 w29:=iX.trans aa
     have tH:Upd (fun b=>b=R2∨b=rb) w26 w29:=fH.trans zA
     have DW:Upd (fun b=>b=R2∨b=rb) w25 w29:=jB.trans tH
     have z8:Upd (fun b=>b=R2∨b=rb) w24 w29:=iW.trans DW
     have DV:Upd (fun b=>b=R2∨b=rb) w23 w29:=iV.trans z8
     have QM:Upd (fun b=>b=R2∨b=rb) w22 w29:=AC.trans DV
     have QL:Upd (fun b=>b=R2∨b=rb) w21 w29:=mN.trans QM
     have hCe0e1_20:Upd (fun b=>b=R2∨b=rb) w20 w29:=gN.trans QL
     have ES:RepS true (d+1) fs_X0 (fun b=>(fun b=>(ok b∨w1.heap.size≤b)∧¬ ownB va0 b) b∧¬ ownB va1 b) w29 (.mk 0 [] false [xe0e1_0,xe0e1_1,xe0e1_2,xe0e1_3,xe0e1_4,xe0e1_5,xe0e1_6,xe0e1_7] []) [.int .i32 (rdInt .i32 4 s16).1,ce0e1_1,.int .i64 (rdInt .i64 8 s19).1,zM,ce0e1_4,.int .i32 (rdInt .i32 4 s22).1,zZ,zZ,zZ,zZ,zZ,zZ,zZ,zZ,zZ,zZ,zZ,zZ,zZ,zZ,zZ,zZ,.int .i64 9223372036854775807,.map none]:=RepS.introT (c:=[.int .i32 (rdInt .i32 4 s16).1,ce0e1_1,.int .i64 (rdInt .i64 8 s19).1,zM,ce0e1_4,.int .i32 (rdInt .i32 4 s22).1,zZ,zZ,zZ,zZ,zZ,zZ,zZ,zZ,zZ,zZ,zZ,zZ,zZ,zZ,zZ,zZ,.int .i64 9223372036854775807]) (RepL.cons1 (BF.keepS (DV.keeps fun b _ hk e=>cZ b hk e)) (RepL.cons1 (BG.keepS (z8.keeps fun b _ hk e=>cZ b hk e)) (RepL.cons1 (BH.keepS (tH.keeps fun b _ hk e=>cZ b hk e)) (RepL.cons1 (BI.keepS (tH.keeps fun b _ hk e=>cZ b hk e)) (RepL.cons1 (BJ.keepS (zA.keeps fun b _ hk e=>cZ b hk e)) (RepL.cons1 (BK.keepS (tI.keeps fun b _ hk e=>cZ b hk e)) (RepL.cons16 (wN.keepS (tI.keeps fun b _ hk e=>cZ b hk e)) (RepL.cons1 (wO.keepS (tI.keeps fun b _ hk e=>cZ b hk e)) RepL.nil)))))))) F9
     have hrE:(rd1 (rdQ (d+1) ver false) fX3_2.of fX3_2.sub false false) s16=((.mk 0 [] false [xe0e1_0,xe0e1_1,xe0e1_2,xe0e1_3,xe0e1_4,xe0e1_5,xe0e1_6,xe0e1_7] []),s23):=by rw [show (rd1 (rdQ (d+1) ver false) fX3_2.of fX3_2.sub false false) s16=_ from rd1_part];exact GF
     have hxE:(Rep1 (RepS true (d+1)) fX3_2.of fX3_2.sub) (fun b=>(fun b=>(ok b∨w1.heap.size≤b)∧¬ ownB va0 b) b∧¬ ownB va1 b) w29 (.mk 0 [] false [xe0e1_0,xe0e1_1,xe0e1_2,xe0e1_3,xe0e1_4,xe0e1_5,xe0e1_6,xe0e1_7] []) [.int .i32 (rdInt .i32 4 s16).1,ce0e1_1,.int .i64 (rdInt .i64 8 s19).1,zM,ce0e1_4,.int .i32 (rdInt .i32 4 s22).1,zZ,zZ,zZ,zZ,zZ,zZ,zZ,zZ,zZ,zZ,zZ,zZ,zZ,zZ,zZ,zZ,.int .i64 9223372036854775807,.map none]:=Rep1_part.2 ES
     repeat ((first|refine qA ?_|apply qB|refine qC ?_|apply qD|apply qE|apply qF|apply qG|apply qH);try simp (disch:=omega) only [go_sem,DE,sL,sV,sW,sX,sJ,sM,sK,sN,sO,sR,sQ,sS,sU])
     have hTk:Upd (fun b=>b=R2∨b=rb) w20 w29:=((((((((gN.trans mN).trans AC).trans iV).trans iW).trans jB).trans fH).trans iX).trans l4)
     have hL':=hL1.step (Rep1_lay _ _ fun _=>RepS_lay true _ _) mX (kH w29 [.int .i32 (rdInt .i32 4 s16).1,ce0e1_1,.int .i64 (rdInt .i64 8 s19).1,zM,ce0e1_4,.int .i32 (rdInt .i32 4 s22).1,zZ,zZ,zZ,zZ,zZ,zZ,zZ,zZ,zZ,zZ,zZ,zZ,zZ,zZ,zZ,zZ,.int .i64 9223372036854775807,.map none] rfl yL) (by rw [hrE];exact hxE) (hTk.mono fun b h=>h.imp (fun e=>⟨_,_,_,eJ,e⟩) id) (by rw [hrE];exact BW) (fun h=>dL rb h (.inr rfl)) (Nat.le_refl _)
     have hij:IntKind.i32.wrap ((j2:Int)+1)=((j2+1:Nat):Int):=by rw [i32_wrap (by omega)];omega
     repeat ((first|refine qA ?_|apply qB|refine qC ?_|apply qD|apply qE|apply qF|apply qG|apply qH);try simp (disch:=omega) only [go_sem,DE,sL,sV,sW,sX,sJ,sM,sK,sN,sO,sR,sQ,sS,sU,hij])
     refine ⟨⟨(by simp (disch:=omega) only [go_sem,Holds_nil,Holds_cons,sL,sV,sW,sX,sJ,sM,sK,sN,sO,sR,sQ,sS,sU];exact eJ.symm),j2+1,(by simp (disch:=omega) only [go_sem,sL,sV,sW,sX,sJ,sM,sK,sN,sO,sR,sQ,sS,sU,hij];all_goals rfl),_,_,_,hL'⟩,?_⟩
     try simp (disch:=omega) only [go_sem,sL,sV,sW,sX,sJ,sM,sK,sN,sO,sR,sQ,sS,sU]
     simp only [RowKit.intOf]
     omega
    ·have hjN:j2=N1:=by omega
     rw [hjN] at hL1
     repeat ((first|refine qA ?_|apply qB|refine qC ?_|apply qD|apply qE|apply qF|apply qG|apply qH);try simp (disch:=omega) only [go_sem,dA,dF,dG,dH,d8,dB,d9,dC,dD,dE,sB,dI])
     exact ⟨(by simp (disch:=omega) only [go_sem,Holds_nil,Holds_cons,dA,dF,dG,dH,d8,dB,d9,dC,dD,dE,sB,dI]),s16,xs1,css1,hL1⟩
   rintro ρ w30 ⟨⟨gW,hO,hY,hZ,gT,gX,gV,gY,gZ,hH,hD,-⟩,s24,xs1,css1,hL1⟩
   have H9:=hL1.rd
   have NY:=hL1.upd
   have OP:=NY.blk_some uY (by omega)
   have l5:Upd (fun b=>b=R1∨b=rb) w18 w30:=NY.mono (fun _ h=>.inr h)
   have vV:=jI.trans' l5 fun i hi h=>h.elim (fun h=>by omega) .inr
   have hz30:=l5.size
   have JA:=hG1.updS vV bK bM
   obtain ⟨X30,UE,IA,UT⟩:=el_open (n:=19) OP hA1 rfl
   have xQ:rdF (rdQ (d+1) ver false) ver false fX3_2 s14=(.mk 0 [] (nilS fX3_2 ver y1) xs1 [],s24):=by
    have h:=rdF_listE (pt:=(rdQ (d+1) ver false)) (v:=ver) (flex:=false) (f:=fX3_2) (s:=s14) (xs:=xs1) (e:=s24) rfl (by rw [hy1,← hN1,← sY];exact hL1.done)
    rw [hy1] at h;exact h
   have YY:s24=(rdF (rdQ (d+1) ver false) ver false fX3_2 s14).2:=by rw [xQ]
   obtain ⟨aa1,qq1,I0⟩:=hL1.row.shape
   subst I0
   have hst30_17:j1 * 19+18≤X30.size:=by omega
   repeat ((first|refine qA ?_|apply qB|refine qC ?_|apply qD|apply qE|apply qF|apply qG|apply qH);try simp (disch:=omega) only [go_sem,IA,gW,hO,hY,hZ,gT,gX,gV,gY,gZ,hH,hD,hst30_17])
   generalize CN:wr w30 R1 (j1 * 19+17) [.slice aa1 N1 qq1] = w31
   have SW:Upd (fun b=>b=R1∨b=rb) w30 w31:=by rw [← CN];exact (Upd.refl _ _).wr _ _ (.inr (.inl rfl))
   have OQ:blk w31 R1=some ((A1++(([strV (rdStr false s13).1,zZ,zZ,zZ,zZ,zZ,zZ,zZ,zZ,zZ,zZ,zZ,zZ,zZ,zZ,zZ,zZ,.slice aa1 N1 qq1,.map none]:List Value)++B1)).toArray,85,(0,0)):=by rw [← CN];exact el_blk (o:=17) OP hA1 (Nat.le_of_ble_eq_true rfl)
   have kE:=SW
   have zW:=vV.trans' kE fun i hi h=>h.elim (fun h=>by omega) .inr
   have hz31:=kE.size
   have RN:=hG1.updS zW bK bM
   have BX:=Rdr.stored CN H9 (by omega) fun h=>by have:=(hok _ h).1;first|omega|exact (hok _ h).2 rfl
   obtain ⟨X31,UF,DF,UU⟩:=el_open (n:=19) OQ hA1 rfl
   clear CN
   have GE:RepF (RepS true (d+1)) (szS true (d+1)) fX3_2 (fun b=>(ok b∨w1.heap.size≤b)∧¬ ownB va0 b) w31 (xe0_2) [.slice aa1 N1 qq1]:=by rw [yR,xQ];exact RepF.keepS (RepF_row rfl xF hN1 rfl hL1.row hL1.all (fun b hb=>⟨.inr (by omega),fun ho=>by have:=(jG _ ho).2;omega⟩)) (kE.keeps fun b _ hk e=>dL b hk e)
   clear hL1 xF
   have GQ:rdL (rdQ (d+1) ver false) (dfP (d+1)) ver false [] s24=([],s24):=rfl
   have GP:rdL (rdQ (d+1) ver false) (dfP (d+1)) ver false [fX3_2] s14=([xe0_2],s24):=by rw [rdL_st (by decide) wQ,← yR,← YY,GQ]
   have GO:rdL (rdQ (d+1) ver false) (dfP (d+1)) ver false [fX3_1,fX3_2] s14=([xe0_1,xe0_2],s24):=by rw [rdL_no LN,← DK,GP]
   have GN:rdL (rdQ (d+1) ver false) (dfP (d+1)) ver false [fX3_0,fX3_1,fX3_2] s13=([xe0_0,xe0_1,xe0_2],s24):=by rw [rdL_st (by decide) LM,← DJ,← uE,GO]
   have BL:rdQ (d+2) ver false fs_X3 s13=(.mk 0 [] false [xe0_0,xe0_1,xe0_2] [],s24):=rdQ_f GN
   have F8:TagsM (fun b=>(ok b∨w1.heap.size≤b)∧¬ ownB va0 b) w31 (.map none) []:=.inl ⟨rfl,rfl⟩
   have IM:Upd (fun b=>b=R1∨b=rb) w31 w31:=Upd.refl _ _
   have QH:Upd (fun b=>b=R1∨b=rb) w30 w31:=kE.trans IM
   have DU:Upd (fun b=>b=R1∨b=rb) w18 w31:=l5.trans QH
   have z7:Upd (fun b=>b=R1∨b=rb) w17 w31:=kC.trans DU
   have QF:Upd (fun b=>b=R1∨b=rb) w16 w31:=tU.trans z7
   have QE:Upd (fun b=>b=R1∨b=rb) w15 w31:=pO.trans QF
   have hCe0_14:Upd (fun b=>b=R1∨b=rb) w14 w31:=lK.trans QE
   have ER:RepS true (d+2) fs_X3 (fun b=>(ok b∨w1.heap.size≤b)∧¬ ownB va0 b) w31 (.mk 0 [] false [xe0_0,xe0_1,xe0_2] []) [strV (rdStr false s13).1,zZ,zZ,zZ,zZ,zZ,zZ,zZ,zZ,zZ,zZ,zZ,zZ,zZ,zZ,zZ,zZ,.slice aa1 N1 qq1,.map none]:=RepS.introT (c:=[strV (rdStr false s13).1,zZ,zZ,zZ,zZ,zZ,zZ,zZ,zZ,zZ,zZ,zZ,zZ,zZ,zZ,zZ,zZ,.slice aa1 N1 qq1]) (RepL.cons1 (GC.keepS (z7.keeps fun b _ hk e=>dL b hk e)) (RepL.cons16 (GD.keepS (z7.keeps fun b _ hk e=>dL b hk e)) (RepL.cons1 (GE.keepS (IM.keeps fun b _ hk e=>dL b hk e)) RepL.nil))) F8
   have hrE:(rd1 (rdQ (d+2) ver false) fQ_9.of fQ_9.sub false false) s13=((.mk 0 [] false [xe0_0,xe0_1,xe0_2] []),s24):=by rw [show (rd1 (rdQ (d+2) ver false) fQ_9.of fQ_9.sub false false) s13=_ from rd1_part];exact BL
   have hxE:(Rep1 (RepS true (d+2)) fQ_9.of fQ_9.sub) (fun b=>(ok b∨w1.heap.size≤b)∧¬ ownB va0 b) w31 (.mk 0 [] false [xe0_0,xe0_1,xe0_2] []) [strV (rdStr false s13).1,zZ,zZ,zZ,zZ,zZ,zZ,zZ,zZ,zZ,zZ,zZ,zZ,zZ,zZ,zZ,zZ,.slice aa1 N1 qq1,.map none]:=Rep1_part.2 ER
   repeat ((first|refine qA ?_|apply qB|refine qC ?_|apply qD|apply qE|apply qF|apply qG|apply qH);try simp (disch:=omega) only [go_sem,DF,gW,hO,hY,hZ,gT,gX,gV,gY,gZ,hH,hD])
   have hTk:Upd (fun b=>b=R1∨b=rb) w14 w31:=(((((lK.trans pO).trans tU).trans kC).trans l5).trans kE)
   have hL':=hL0.step (Rep1_lay _ _ fun _=>RepS_lay true _ _) qN (kG w31 [strV (rdStr false s13).1,zZ,zZ,zZ,zZ,zZ,zZ,zZ,zZ,zZ,zZ,zZ,zZ,zZ,zZ,zZ,zZ,.slice aa1 N1 qq1,.map none] rfl OQ) (by rw [hrE];exact hxE) (hTk.mono fun b h=>h.imp (fun e=>⟨_,_,_,eY,e⟩) id) (by rw [hrE];exact BX) (fun h=>hoM rb h (.inr rfl)) (Nat.le_refl _)
   have hij:IntKind.i32.wrap ((j1:Int)+1)=((j1+1:Nat):Int):=by rw [i32_wrap (by omega)];omega
   repeat ((first|refine qA ?_|apply qB|refine qC ?_|apply qD|apply qE|apply qF|apply qG|apply qH);try simp (disch:=omega) only [go_sem,DF,gW,hO,hY,hZ,gT,gX,gV,gY,gZ,hH,hD,hij])
   refine ⟨⟨(by simp (disch:=omega) only [go_sem,Holds_nil,Holds_cons,gW,hO,hY,hZ,gT,gX,gV,gY,gZ,hH,hD];exact eY.symm),j1+1,(by simp (disch:=omega) only [go_sem,gW,hO,hY,hZ,gT,gX,gV,gY,gZ,hH,hD,hij];all_goals rfl),_,_,_,hL'⟩,?_⟩
   try simp (disch:=omega) only [go_sem,gW,hO,hY,hZ,gT,gX,gV,gY,gZ,hH,hD]
   simp only [RowKit.intOf]
   omega
  ·have hjN:j1=N0:=by omega
   rw [hjN] at hL0
   repeat ((first|refine qA ?_|apply qB|refine qC ?_|apply qD|apply qE|apply qF|apply qG|apply qH);try simp (disch:=omega) only [go_sem,cH,cJ,cM,cO,cF,cI,rZ,cX])
   exact ⟨(by simp (disch:=omega) only [go_sem,Holds_nil,Holds_cons,cH,cJ,cM,cO,cF,cI,rZ,cX]),s13,xs0,css0,hL0⟩
 rintro ρ w32 ⟨⟨bV,bX,bY,bZ,bR,bW,bU,-⟩,s25,xs0,css0,hL0⟩
 have HA:=hL0.rd
 have O0:=hL0.upd
 have hv_32:=O0.blk_some hv_12 (by omega)
 have lL:Upd (fun b=>b=vb∨b=rb) w12 w32:=O0.mono (fun _ h=>.inr h)
 have vW:=fD.trans lL
 have hz32:=lL.size
 have JB:=hG1.updS vW bK bM
 have xP:rdF (rdQ (d+2) ver false) ver false fQ_9 s11=(.mk 0 [] (nilS fQ_9 ver y0) xs0 [],s25):=by
  have h:=rdF_listE (pt:=(rdQ (d+2) ver false)) (v:=ver) (flex:=false) (f:=fQ_9) (s:=s11) (xs:=xs0) (e:=s25) rfl (by rw [hy0,← hN0,← uD];exact hL0.done)
  rw [hy0] at h;exact h
 have kX:s25=(rdF (rdQ (d+2) ver false) ver false fQ_9 s11).2:=by rw [xP]
 obtain ⟨aa0,qq0,HZ⟩:=hL0.row.shape
 subst HZ
 repeat ((first|refine W.seqR rfl ?_|refine W.seq ?_|refine W.regR rfl ?_|refine W.block ?_|refine W.skip ?_|refine W.ret ?_|refine W.exit ?_);try simp (disch:=omega) only [go_sem,hv_32,bV,bX,bY,bZ,bR,bW,bU])
 generalize CP:wr w32 vb 12 [.slice aa0 N0 qq0] = w33
 have SY:Upd (fun b=>b=vb∨b=rb) w32 w33:=by rw [← CP];exact (Upd.refl _ _).wr _ _ (.inr (.inl rfl))
 have hv_33:blk w33 vb=some (#[.int .i16 ver,.pointer none,.int .i32 (rdInt .i32 4 s0).1,zM,.int .i64 (-1),.map none,.int .i32 (rdInt .i32 4 s1).1,.int .i32 (rdInt .i32 4 s2).1,c_5,c_6,c_7,c_8,.slice aa0 N0 qq0,zS,zT,.map none],75,(0,0)):=by rw [← CP,blk_wr_eq,hv_32];rfl
 have l6:=SY
 have tN:=vW.trans l6
 have hz33:=l6.size
 have JC:=hG1.updS tN bK bM
 have xJ:=Rdr.stored CP HA (by omega) fun h=>by have:=(hok _ h).1;first|omega|exact (hok _ h).2 rfl
 clear CP
 have hf_9:RepF (RepS true (d+2)) (szS true (d+2)) fQ_9 (fun b=>ok b∨w1.heap.size≤b) w33 (x_9) [.slice aa0 N0 qq0]:=by rw [hx_9,xP];exact RepF.keepS (RepF_row rfl xE hN0 rfl hL0.row hL0.all (fun b hb=>.inr (by omega))) (l6.keeps fun b _ hk e=>(hoM b hk) e)
 clear hL0 xE
 have hb_10:(rdL (rdQ (d+2) ver false) (dfP (d+2)) ver false [fQ_10,fQ_11] s25).2=none→FB:=fun h=>hb_9 (by rw [rdL_st (by decide) hh_9,← kX];exact h)
 repeat ((first|refine W.seqR rfl ?_|refine W.seq ?_|refine W.regR rfl ?_|refine W.block ?_|refine W.skip ?_|refine W.ret ?_|refine W.exit ?_);try simp (disch:=omega) only [go_sem,hv_33,bV,bX,bY,bZ,bR,bW,bU])
 refine W.normRJ (EndQ [(2,zB),(7,.pointer (some ⟨rb,0,none⟩)),(8,.int .i16 ver),(9,zB),(10,.pointer (some ⟨vb,0,none⟩))] fun w'=>∃ (x:Tree) (st:St) (c:Value),x=(rdA (rdQ (d+2) ver false) (dfP (d+2)) ver false fQ_10 s25).1∧st=(rdA (rdQ (d+2) ver false) (dfP (d+2)) ver false fQ_10 s25).2∧blk w' vb=some (#[.int .i16 ver,.pointer none,.int .i32 (rdInt .i32 4 s0).1,zM,.int .i64 (-1),.map none,.int .i32 (rdInt .i32 4 s1).1,.int .i32 (rdInt .i32 4 s2).1,c_5,c_6,c_7,c_8,.slice aa0 N0 qq0,c,zT,.map none],75,(0,0))∧RepF (RepS true (d+2)) (szS true (d+2)) fQ_10 (fun b=>ok b∨w1.heap.size≤b) w' x [c]∧(Rdr RT ok w' rb st∧NN w' rb st)∧Upd (fun b=>b=vb∨b=rb) w33 w') ?_ ?_
 ·by_cases hvc_:(7:Int)≤ver
  ·have hyes:hasS fQ_10 ver=true:=hasS_t (by show (7:Int)≤ver;omega) (by show (-1:Int) < 0∨ver≤(-1:Int);omega)
   have hbh:(rdF (rdQ (d+2) ver false) ver false fQ_10 s25).2=none→FB:=fun h=>hb_10 (by rw [rdL_any (by decide),rdA_yes hyes];exact rdLQ_bad h)
   repeat ((first|refine qA ?_|apply qB|refine qC ?_|apply qD|apply qE|apply qF|apply qG|apply qH);try simp (disch:=omega) only [go_sem,hv_33,bV,bX,bY,bZ,bR,bW,bU,normRQ_normal,normRQ_ret,hvc_])
   have hhg_10:hasS fQ_10 ver=true:=hasS_t (by show (7:Int)≤ver;omega) (by show (-1:Int) < 0∨ver≤(-1:Int);omega)
   obtain ⟨xg_10,hxg_10⟩:∃ x,x=(rdF (rdQ (d+2) ver false) ver false fQ_10 s25).1:=⟨_,rfl⟩
   repeat ((first|refine qA ?_|apply qB|refine qC ?_|apply qD|apply qE|apply qF|apply qG|apply qH);try simp (disch:=omega) only [go_sem,hv_33,bV,bX,bY,bZ,bR,bW,bU,normRQ_normal,normRQ_ret])
   refine (RArrayLen_fn w33 xJ.1 hrok JC.1 hgrb).mono ?_
   rintro _ w34 ⟨rfl,kL,hu34⟩
   have hv_34:=hu34.blk_some hv_33 (by omega)
   have jC:Upd (fun b=>b=vb∨b=rb) w33 w34:=hu34.mono (fun _ h=>.inr h)
   have kA:=tN.trans jC
   have Q7:=jC.size
   have vP:=hG1.updS kA bK bM
   obtain ⟨s26,uO⟩:∃ s,s=(rdALen false s25).2:=⟨_,rfl⟩
   rw [← uO] at kL
   have hyr2:=rdALen_rng false s25
   generalize hy2:(rdALen false s25).1=y2 at *
   obtain ⟨N2,hN2⟩:∃ N,N=y2.toNat:=⟨_,rfl⟩
   have jF:(rdMany (rd1 (rdQ (d+2) ver false) fQ_10.of fQ_10.sub false false) N2 s26).2=none→FB:=fun h=>hbh (rdFQ_listbad rfl (by rw [hy2,← hN2,← uO];exact h))
   repeat ((first|refine W.seqR rfl ?_|refine W.seq ?_|refine W.regR rfl ?_|refine W.block ?_|refine W.skip ?_|refine W.ret ?_|refine W.exit ?_);try simp (disch:=omega) only [go_sem,hv_34,bV,bX,bY,bZ,bR,bW,bU,normRQ_normal,normRQ_ret])
   refine (ROk_fn w34 kL.1).mono ?_
   rintro _ wz ⟨rfl,hez⟩
   rw [hez]
   clear hez wz
   by_cases lX:s26=none
   ·have hso:s26.isSome=false:=by rw [lX];rfl
    repeat (first|simp (disch:=omega) only [go_sem,hv_34,bV,bX,bY,bZ,bR,bW,bU,normRQ_normal,normRQ_ret,hso]|refine qA ?_|apply qB|refine qC ?_|apply qD|apply qE|apply qF|apply qG|apply qH)
    refine (RComplete_fn w34 kL.1 vP.2).mono ?_
    rintro _ wz ⟨rfl,hez⟩
    rw [hez]
    repeat (first|simp (disch:=omega) only [go_sem,hv_34,bV,bX,bY,bZ,bR,bW,bU,normRQ_normal,normRQ_ret]|refine qA ?_|apply qB|refine qC ?_|apply qD|apply qE|apply qF|apply qG|apply qH)
    rw [errV_none lX]
    exact ReadQ.bad (Eq.mp hFB (jF (by rw [lX];exact rdMany_none rd1Q_none _))) (hbase.trans' kA fun i hi h=>h.elim id fun h=>by omega)
   have m5:s26.isSome=true:=isSome_some lX
   try simp (disch:=omega) only [go_sem,hv_34,bV,bX,bY,bZ,bR,bW,bU,normRQ_normal,normRQ_ret,m5]
   repeat ((first|refine W.seqR rfl ?_|refine W.seq ?_|refine W.regR rfl ?_|refine W.block ?_|refine W.skip ?_|refine W.ret ?_|refine W.exit ?_);try simp (disch:=omega) only [go_sem,hv_34,bV,bX,bY,bZ,bR,bW,bU,normRQ_normal,normRQ_ret,m5])
   refine W.condK ?_
   try simp (disch:=omega) only [go_sem,hv_34,bV,bX,bY,bZ,bR,bW,bU,normRQ_normal,normRQ_ret,m5]
   repeat ((first|refine W.seqR rfl ?_|refine W.seq ?_|refine W.regR rfl ?_|refine W.block ?_|refine W.skip ?_|refine W.ret ?_|refine W.exit ?_);try simp (disch:=omega) only [go_sem,hv_34,bV,bX,bY,bZ,bR,bW,bU,normRQ_normal,normRQ_ret,m5,slBase_00])
   refine W.normJ (RowQ [(2,zB),(7,.pointer (some ⟨rb,0,none⟩)),(8,.int .i16 ver),(9,zB),(10,.pointer (some ⟨vb,0,none⟩)),(48,.int .i32 y2)] 47 (fun va w'=>LstI RT (rd1 (rdQ (d+2) ver false) fQ_10.of fQ_10.sub false false) (Rep1 (RepS true (d+2)) fQ_10.of fQ_10.sub) 19 90 [zT,zZ,zZ,zZ,zZ,zZ,zZ,zZ,zZ,zZ,zZ,zZ,zZ,zZ,zZ,zZ,zZ,zS,.map none] w34.heap.size N2 ok (fun b=>ok b∨w1.heap.size≤b) rb w34 s26 va 0 s26 [] [] w'∧(N2=0→if nilS fQ_10 ver y2=true then va=zS else ∃ a,va = .slice (some a) 0 0))) ?_ ?_
   ·by_cases hy0:(0:Int) < y2
    ·have hyv:Value.int .i32 y2 = .int .i32 ((N2:Nat):Int):=by rw [show y2=((N2:Nat):Int) by omega]
     repeat ((first|refine qA ?_|apply qB|refine qC ?_|apply qD|apply qE|apply qF|apply qG|apply qH);try simp (disch:=omega) only [go_sem,hv_34,bV,bX,bY,bZ,bR,bW,bU,normRQ_normal,normRQ_ret])
     refine wp_appendZ (m:=N2) utQ_73 utQ_21 inQ_90 (by decide) (by first|rfl|simp (disch:=omega) only [go_sem,bV,bX,bY,bZ,bR,bW,bU]) (by first|exact hyv|(simp (disch:=omega) only [go_sem,bV,bX,bY,bZ,bR,bW,bU];exact hyv)) (by omega) (by omega) (by decide) ?_
     intro q rest hq1
     have hEw:Ext w34 (w34.drew.alloc (.cells (zs [zT,zZ,zZ,zZ,zZ,zZ,zZ,zZ,zZ,zZ,zZ,zZ,zZ,zZ,zZ,zZ,zZ,zS,.map none] N2++rest).toArray 90)):=(Upd.refl _ _).drew.alloc _
     repeat (first|simp (disch:=omega) only [go_sem,hv_34,bV,bX,bY,bZ,bR,bW,bU,normRQ_normal,normRQ_ret]|refine qA ?_|apply qB|refine qC ?_|apply qD|apply qE|apply qF|apply qG|apply qH)
     exact ⟨(by simp (disch:=omega) only [go_sem,Holds_nil,Holds_cons,bV,bX,bY,bZ,bR,bW,bU]),.slice (some ⟨w34.heap.size,0,none⟩) N2 q,(by simp (disch:=omega) only [go_sem,bV,bX,bY,bZ,bR,bW,bU]),LstI.start (RowJ.start (by omega) hq1 (by show w34.heap.size≤w34.drew.heap.size;rw [size_drew];omega) (blk_alloc_new rfl)) ⟨kL.1.upd hEw (fun h=>h) (fun _ _ _ h=>h),kL.2.upd hEw fun h=>h⟩ (hEw.mono fun _ h=>h.elim),fun h0=>by omega⟩
    ·repeat ((first|refine qA ?_|apply qB|refine qC ?_|apply qD|apply qE|apply qF|apply qG|apply qH);try simp (disch:=omega) only [go_sem,hv_34,bV,bX,bY,bZ,bR,bW,bU,normRQ_normal,normRQ_ret])
     exact ⟨(by simp (disch:=omega) only [go_sem,Holds_nil,Holds_cons,bV,bX,bY,bZ,bR,bW,bU]),zS,(by simp (disch:=omega) only [go_sem,bV,bX,bY,bZ,bR,bW,bU,slBase_00]),LstI.start (RowJ.zero (by omega) (fun _ h=>by cases h)) kL (Upd.refl _ _),fun _=>by rw [nilS_plain (by decide) (by omega)];exact rfl⟩
   rintro ρ w35 ⟨⟨rK,rM,rN,rO,rJ,rL,-⟩,va2,cC,hL2,xG⟩
   repeat ((first|refine qA ?_|apply qB|refine qC ?_|apply qD|apply qE|apply qF|apply qG|apply qH);try simp (disch:=omega) only [go_sem,hv_34,rK,rM,rN,rO,rJ,rL,cC,normRQ_normal,normRQ_ret])
   refine W.exitRJ 7 (EndQ [(2,zB),(7,.pointer (some ⟨rb,0,none⟩)),(8,.int .i16 ver),(9,zB),(10,.pointer (some ⟨vb,0,none⟩)),(48,.int .i32 y2),(47,va2)] (fun w'=>∃ s xs css,LstI RT (rd1 (rdQ (d+2) ver false) fQ_10.of fQ_10.sub false false) (Rep1 (RepS true (d+2)) fQ_10.of fQ_10.sub) 19 90 [zT,zZ,zZ,zZ,zZ,zZ,zZ,zZ,zZ,zZ,zZ,zZ,zZ,zZ,zZ,zZ,zZ,zS,.map none] w34.heap.size N2 ok (fun b=>ok b∨w1.heap.size≤b) rb w34 s26 va2 N2 s xs css w')) (W.loop (LoopQ [(2,zB),(7,.pointer (some ⟨rb,0,none⟩)),(8,.int .i16 ver),(9,zB),(10,.pointer (some ⟨vb,0,none⟩)),(48,.int .i32 y2),(47,va2)] 49 (fun j w'=>∃ s xs css,LstI RT (rd1 (rdQ (d+2) ver false) fQ_10.of fQ_10.sub false false) (Rep1 (RepS true (d+2)) fQ_10.of fQ_10.sub) 19 90 [zT,zZ,zZ,zZ,zZ,zZ,zZ,zZ,zZ,zZ,zZ,zZ,zZ,zZ,zZ,zZ,zZ,zS,.map none] w34.heap.size N2 ok (fun b=>ok b∨w1.heap.size≤b) rb w34 s26 va2 j s xs css w')) (fun ρ _=>N2 - (RowKit.intOf (ρ 49)).toNat) ?_ ?_) ?_
   ·exact ⟨(by simp (disch:=omega) only [go_sem,Holds_nil,Holds_cons,rK,rM,rN,rO,rJ,rL,cC]),0,(by simp (disch:=omega) only [go_sem,rK,rM,rN,rO,rJ,rL,cC];all_goals rfl),s26,[],[],hL2⟩
   ·rintro ρ w36 ⟨⟨bN,cR,cV,cW,cP,cQ,sC,-⟩,j1,cY,s27,xs2,css2,hL2⟩
    have hj2:=hL2.le
    have u9:=hL2.rd
    have pK:Upd (fun b=>b=vb∨b=rb) w1 w36:=kA.trans' hL2.upd fun i _ h=>.inr h
    have Q9:=hL2.upd.size
    have JD:Glo ev w36:=hG1.updS pK bK bM
    by_cases hlt2:j1 < N2
    ·obtain ⟨R1,q1,B1,eY,EP,EN,hA1,D9,kG⟩:=hL2.row.next hlt2
     have ET:=blk_lt D9
     generalize css2.flatten=A1 at hA1 D9 kG
     replace cC:ρ 47 = .slice (some ⟨R1,0,none⟩) N2 q1:=sC.trans eY
     have jG:∀ b,ownB va2 b→w34.heap.size≤b∧b < w36.heap.size:=fun b h=>hL2.row.own h
     have dL:∀ b,(fun b=>(ok b∨w1.heap.size≤b)∧¬ ownB va2 b) b→¬ (b=R1∨b=rb):=fun b hk h=>h.elim (fun e=>hk.2 ⟨_,_,_,eY,e⟩) (fun e=>hoM b hk.1 (.inr e))
     obtain ⟨X36,UH,IB,UV⟩:=el_open (n:=19) D9 hA1 rfl
     repeat ((first|refine qA ?_|apply qB|refine qC ?_|apply qD|apply qE|apply qF|apply qG|apply qH);try simp (disch:=omega) only [go_sem,IB,bN,cR,cV,cW,cP,cQ,cC,cY,normRQ_normal,normRQ_ret])
     refine (DefaultEX1_fn w36 D9 hA1).mono ?_
     rintro _ w37 ⟨OR,uX⟩
     have BY:=And.intro (u9.1.upd uX (by omega) (fun b _ hk e=>by have:=(hok b hk).1;omega)) (u9.2.upd uX (by omega))
     have l7:Upd (fun b=>b=R1∨b=rb) w36 w37:=uX.mono (fun _ h=>.inl h)
     have tO:=pK.trans' l7 fun i hi h=>h.elim (fun h=>by omega) .inr
     have hz37:=l7.size
     have JE:=hG1.updS tO bK bM
     obtain ⟨X37,UI,IC,UW⟩:=el_open (n:=19) OR hA1 rfl
     have VO:(rdL (rdQ (d+1) ver false) (dfP (d+1)) ver false [fX1_0,fX1_1,fX1_2] s27).2=none→FB:=fun h=>jF (hL2.bad hlt2 rd1Q_none (by show (rd1 (rdQ (d+2) ver false) 10 fs_X1 false false s27).2=none;rw [rd1_part];exact rdQ_bad h))
     have LR:hasS fX1_0 ver=true:=hasS_t (by show (7:Int)≤ver;omega) (by show (12:Int) < 0∨ver≤(12:Int);omega)
     obtain ⟨xge2_0,PU⟩:∃ x,x=(rdF (rdQ (d+1) ver false) ver false fX1_0 s27).1:=⟨_,rfl⟩
     repeat ((first|refine qA ?_|apply qB|refine qC ?_|apply qD|apply qE|apply qF|apply qG|apply qH);try simp (disch:=omega) only [go_sem,IC,bN,cR,cV,cW,cP,cQ,cC,cY,normRQ_normal,normRQ_ret])
     have hmay:mayS fX1_0 ver=false:=mayS_no (by show (-1:Int) < 0∨ver < (-1:Int);omega)
     have hrd:rdF (rdQ (d+1) ver false) ver false fX1_0 s27=_:=rdF_text rfl hmay
     refine (RString_fn w37 BY.1 hrok JE.1 hgrb).mono ?_
     rintro _ w38 ⟨rfl,xK,O2⟩
     have OS:=O2.blk_some OR (by omega)
     have AD:Upd (fun b=>b=R1∨b=rb) w37 w38:=O2.mono (fun _ h=>.inr h)
     have tP:=tO.trans' AD fun i hi h=>h.elim (fun h=>by omega) .inr
     have hz38:=AD.size
     have RO:=hG1.updS tP bK bM
     obtain ⟨X38,KM,DG,UX⟩:=el_open (n:=19) OS hA1 rfl
     have hst:(rdF (rdQ (d+1) ver false) ver false fX1_0 s27).2=(rdStr false s27).2:=by first|(rw [hrd];rfl)|rw [hrd]
     obtain ⟨s28,t2⟩:∃ s,s=(rdF (rdQ (d+1) ver false) ver false fX1_0 s27).2:=⟨_,rfl⟩
     rw [← hst,← t2] at xK
     clear hst
     have hst38_0:j1 * 19+1≤X38.size:=by omega
     have WU:X38[j1 * 19+17]? = some (.slice none 0 0):=by rw [KM];exact el_cell (R:=0) hA1 (Nat.le_of_ble_eq_true rfl)
     repeat ((first|refine qA ?_|apply qB|refine qC ?_|apply qD|apply qE|apply qF|apply qG|apply qH);try simp (disch:=omega) only [go_sem,DG,bN,cR,cV,cW,cP,cQ,cC,cY,normRQ_normal,normRQ_ret,hst38_0,WU,Array.getElem?_setIfInBounds_ne])
     generalize CR:wr w38 R1 (j1 * 19) [strV (rdStr false s27).1] = w39
     have TA:Upd (fun b=>b=R1∨b=rb) w38 w39:=by rw [← CR];exact (Upd.refl _ _).wr _ _ (.inr (.inl rfl))
     have OT:blk w39 R1=some ((A1++(([strV (rdStr false s27).1,zZ,zZ,zZ,zZ,zZ,zZ,zZ,zZ,zZ,zZ,zZ,zZ,zZ,zZ,zZ,zZ,zS,.map none]:List Value)++B1)).toArray,90,(0,0)):=by rw [← CR];exact el_blk0 OS hA1 (Nat.le_of_ble_eq_true rfl)
     have l8:=TA
     have tQ:=tP.trans' l8 fun i hi h=>h.elim (fun h=>by omega) .inr
     have hz39:=l8.size
     have JF:=hG1.updS tQ bK bM
     have qU:=Rdr.stored CR xK (by omega) fun h=>by have:=(hok _ h).1;first|omega|exact (hok _ h).2 rfl
     obtain ⟨X39,KN,vE,UY⟩:=el_open (n:=19) OT hA1 rfl
     clear CR
     have W9:RepF (RepS true (d+1)) (szS true (d+1)) fX1_0 (fun b=>(ok b∨w1.heap.size≤b)∧¬ ownB va2 b) w39 (xge2_0) [strV (rdStr false s27).1]:=(RepF_text rfl (by decide)).2 (by rw [PU,hrd];rfl)
     clear hrd
     have VP:(rdL (rdQ (d+1) ver false) (dfP (d+1)) ver false [fX1_1,fX1_2] s28).2=none→FB:=fun h=>VO (by rw [rdL_st (by decide) LR,← t2];exact h)
     obtain ⟨xge2_1,PV⟩:∃ x,x=dfF (dfP (d+1)) fX1_1:=⟨_,rfl⟩
     have WA:RepF (RepS true (d+1)) (szS true (d+1)) fX1_1 (fun b=>(ok b∨w1.heap.size≤b)∧¬ ownB va2 b) w39 (xge2_1) [zZ,zZ,zZ,zZ,zZ,zZ,zZ,zZ,zZ,zZ,zZ,zZ,zZ,zZ,zZ,zZ]:=by rw [PV];exact (RepF_uuid rfl).2 rfl
     have LS:hasS fX1_1 ver=false:=hasS_f (by show ver < 13∨(0≤(-1:Int)∧(-1:Int) < ver);omega)
     have VQ:(rdL (rdQ (d+1) ver false) (dfP (d+1)) ver false [fX1_2] s28).2=none→FB:=fun h=>VP (by rw [rdL_no LS];exact h)
     have LT:hasS fX1_2 ver=true:=hasS_t (by show (0:Int)≤ver;omega) (by show (-1:Int) < 0∨ver≤(-1:Int);omega)
     obtain ⟨xge2_2,PW⟩:∃ x,x=(rdF (rdQ (d+1) ver false) ver false fX1_2 s28).1:=⟨_,rfl⟩
     have WV:X39[j1 * 19+17]? = some (.slice none 0 0):=by rw [KN];exact el_cell (R:=0) hA1 (Nat.le_of_ble_eq_true rfl)
     repeat ((first|refine qA ?_|apply qB|refine qC ?_|apply qD|apply qE|apply qF|apply qG|apply qH);try simp (disch:=omega) only [go_sem,vE,bN,cR,cV,cW,cP,cQ,cC,cY,normRQ_normal,normRQ_ret,WV])
     refine (RArrayLen_fn w39 qU.1 hrok JF.1 hgrb).mono ?_
     rintro _ w40 ⟨rfl,fC,kY⟩
     have OU:=kY.blk_some OT (by omega)
     have gO:Upd (fun b=>b=R1∨b=rb) w39 w40:=kY.mono (fun _ h=>.inr h)
     have iR:=tQ.trans' gO fun i hi h=>h.elim (fun h=>by omega) .inr
     have IH:=gO.size
     have EI:=hG1.updS iR bK bM
     obtain ⟨X40,wK,gI,FQ⟩:=el_open (n:=19) OU hA1 rfl
     obtain ⟨s29,uP⟩:∃ s,s=(rdALen false s28).2:=⟨_,rfl⟩
     rw [← uP] at fC
     have hyr3:=rdALen_rng false s28
     generalize hy3:(rdALen false s28).1=y3 at *
     obtain ⟨N3,hN3⟩:∃ N,N=y3.toNat:=⟨_,rfl⟩
     have eI:(rdMany (rd1 (rdQ (d+1) ver false) fX1_2.of fX1_2.sub false false) N3 s29).2=none→FB:=fun h=>VQ (by rw [rdL_st (by decide) LT];exact rdLQ_bad (rdFQ_listbad rfl (by rw [hy3,← hN3,← uP];exact h)))
     repeat ((first|refine W.seqR rfl ?_|refine W.seq ?_|refine W.regR rfl ?_|refine W.block ?_|refine W.skip ?_|refine W.ret ?_|refine W.exit ?_);try simp (disch:=omega) only [go_sem,gI,bN,cR,cV,cW,cP,cQ,cC,cY,normRQ_normal,normRQ_ret])
     refine (ROk_fn w40 fC.1).mono ?_
     rintro _ wz ⟨rfl,hez⟩
     rw [hez]
     clear hez wz
     by_cases lY:s29=none
     ·have hso:s29.isSome=false:=by rw [lY];rfl
      repeat (first|simp (disch:=omega) only [go_sem,gI,bN,cR,cV,cW,cP,cQ,cC,cY,normRQ_normal,normRQ_ret,hso]|refine qA ?_|apply qB|refine qC ?_|apply qD|apply qE|apply qF|apply qG|apply qH)
      refine (RComplete_fn w40 fC.1 EI.2).mono ?_
      rintro _ wz ⟨rfl,hez⟩
      rw [hez]
      repeat (first|simp (disch:=omega) only [go_sem,gI,bN,cR,cV,cW,cP,cQ,cC,cY,normRQ_normal,normRQ_ret]|refine qA ?_|apply qB|refine qC ?_|apply qD|apply qE|apply qF|apply qG|apply qH)
      rw [errV_none lY]
      exact ReadQ.bad (Eq.mp hFB (eI (by rw [lY];exact rdMany_none rd1Q_none _))) (hbase.trans' iR fun i hi h=>h.elim id fun h=>by omega)
     have m6:s29.isSome=true:=isSome_some lY
     try simp (disch:=omega) only [go_sem,gI,bN,cR,cV,cW,cP,cQ,cC,cY,normRQ_normal,normRQ_ret,m6]
     repeat ((first|refine W.seqR rfl ?_|refine W.seq ?_|refine W.regR rfl ?_|refine W.block ?_|refine W.skip ?_|refine W.ret ?_|refine W.exit ?_);try simp (disch:=omega) only [go_sem,gI,bN,cR,cV,cW,cP,cQ,cC,cY,normRQ_normal,normRQ_ret,m6])
     refine W.condK ?_
     try simp (disch:=omega) only [go_sem,gI,bN,cR,cV,cW,cP,cQ,cC,cY,normRQ_normal,normRQ_ret,m6]
     repeat ((first|refine W.seqR rfl ?_|refine W.seq ?_|refine W.regR rfl ?_|refine W.block ?_|refine W.skip ?_|refine W.ret ?_|refine W.exit ?_);try simp (disch:=omega) only [go_sem,gI,bN,cR,cV,cW,cP,cQ,cC,cY,normRQ_normal,normRQ_ret,m6,slBase_00])
     refine W.normJ (RowQ [(2,zB),(7,.pointer (some ⟨rb,0,none⟩)),(8,.int .i16 ver),(9,zB),(10,.pointer (some ⟨vb,0,none⟩)),(48,.int .i32 y2),(47,.slice (some ⟨R1,0,none⟩) N2 q1),(49,.int .i32 j1),(51,.pointer (some ⟨R1,j1 * 19,none⟩)),(56,.int .i32 y3)] 55 (fun va w'=>LstI RT (rd1 (rdQ (d+1) ver false) fX1_2.of fX1_2.sub false false) (Rep1 (RepS true (d+1)) fX1_2.of fX1_2.sub) 1 21 [.int .i32 0] w40.heap.size N3 ok (fun b=>(ok b∨w1.heap.size≤b)∧¬ ownB va2 b) rb w40 s29 va 0 s29 [] [] w'∧(N3=0→if nilS fX1_2 ver y3=true then va=zS else ∃ a,va = .slice (some a) 0 0))) ?_ ?_
     ·by_cases hy0:(0:Int) < y3
      ·have hyv:Value.int .i32 y3 = .int .i32 ((N3:Nat):Int):=by rw [show y3=((N3:Nat):Int) by omega]
       repeat ((first|refine qA ?_|apply qB|refine qC ?_|apply qD|apply qE|apply qF|apply qG|apply qH);try simp (disch:=omega) only [go_sem,gI,bN,cR,cV,cW,cP,cQ,cC,cY,normRQ_normal,normRQ_ret])
       refine wp_appendZ (m:=N3) utQ_88 utQ_21 inQ_21 (by decide) (by first|rfl|simp (disch:=omega) only [go_sem,bN,cR,cV,cW,cP,cQ,cC,cY]) (by first|exact hyv|(simp (disch:=omega) only [go_sem,bN,cR,cV,cW,cP,cQ,cC,cY];exact hyv)) (by omega) (by omega) (by decide) ?_
       intro q rest hq1
       have hEw:Ext w40 (w40.drew.alloc (.cells (zs [.int .i32 0] N3++rest).toArray 21)):=(Upd.refl _ _).drew.alloc _
       repeat (first|simp (disch:=omega) only [go_sem,gI,bN,cR,cV,cW,cP,cQ,cC,cY,normRQ_normal,normRQ_ret]|refine qA ?_|apply qB|refine qC ?_|apply qD|apply qE|apply qF|apply qG|apply qH)
       exact ⟨(by simp (disch:=omega) only [go_sem,Holds_nil,Holds_cons,bN,cR,cV,cW,cP,cQ,cC,cY]),.slice (some ⟨w40.heap.size,0,none⟩) N3 q,(by simp (disch:=omega) only [go_sem,bN,cR,cV,cW,cP,cQ,cC,cY]),LstI.start (RowJ.start (by omega) hq1 (by show w40.heap.size≤w40.drew.heap.size;rw [size_drew];omega) (blk_alloc_new rfl)) ⟨fC.1.upd hEw (fun h=>h) (fun _ _ _ h=>h),fC.2.upd hEw fun h=>h⟩ (hEw.mono fun _ h=>h.elim),fun h0=>by omega⟩
      ·repeat ((first|refine qA ?_|apply qB|refine qC ?_|apply qD|apply qE|apply qF|apply qG|apply qH);try simp (disch:=omega) only [go_sem,gI,bN,cR,cV,cW,cP,cQ,cC,cY,normRQ_normal,normRQ_ret])
       exact ⟨(by simp (disch:=omega) only [go_sem,Holds_nil,Holds_cons,bN,cR,cV,cW,cP,cQ,cC,cY]),zS,(by simp (disch:=omega) only [go_sem,bN,cR,cV,cW,cP,cQ,cC,cY,slBase_00]),LstI.start (RowJ.zero (by omega) (fun _ h=>by cases h)) fC (Upd.refl _ _),fun _=>by rw [nilS_plain (by decide) (by omega)];exact rfl⟩
     rintro ρ w41 ⟨⟨rQ,rW,rX,rY,rP,rS,rR,rT,rU,rV,-⟩,va3,eE,hL3,xH⟩
     repeat ((first|refine qA ?_|apply qB|refine qC ?_|apply qD|apply qE|apply qF|apply qG|apply qH);try simp (disch:=omega) only [go_sem,gI,rQ,rW,rX,rY,rP,rS,rR,rT,rU,rV,eE,normRQ_normal,normRQ_ret])
     refine W.exitRJ 9 (EndQ [(2,zB),(7,.pointer (some ⟨rb,0,none⟩)),(8,.int .i16 ver),(9,zB),(10,.pointer (some ⟨vb,0,none⟩)),(48,.int .i32 y2),(47,.slice (some ⟨R1,0,none⟩) N2 q1),(49,.int .i32 j1),(51,.pointer (some ⟨R1,j1 * 19,none⟩)),(56,.int .i32 y3),(55,va3)] (fun w'=>∃ s xs css,LstI RT (rd1 (rdQ (d+1) ver false) fX1_2.of fX1_2.sub false false) (Rep1 (RepS true (d+1)) fX1_2.of fX1_2.sub) 1 21 [.int .i32 0] w40.heap.size N3 ok (fun b=>(ok b∨w1.heap.size≤b)∧¬ ownB va2 b) rb w40 s29 va3 N3 s xs css w')) (W.loop (LoopQ [(2,zB),(7,.pointer (some ⟨rb,0,none⟩)),(8,.int .i16 ver),(9,zB),(10,.pointer (some ⟨vb,0,none⟩)),(48,.int .i32 y2),(47,.slice (some ⟨R1,0,none⟩) N2 q1),(49,.int .i32 j1),(51,.pointer (some ⟨R1,j1 * 19,none⟩)),(56,.int .i32 y3),(55,va3)] 57 (fun j w'=>∃ s xs css,LstI RT (rd1 (rdQ (d+1) ver false) fX1_2.of fX1_2.sub false false) (Rep1 (RepS true (d+1)) fX1_2.of fX1_2.sub) 1 21 [.int .i32 0] w40.heap.size N3 ok (fun b=>(ok b∨w1.heap.size≤b)∧¬ ownB va2 b) rb w40 s29 va3 j s xs css w')) (fun ρ _=>N3 - (RowKit.intOf (ρ 57)).toNat) ?_ ?_) ?_
     ·exact ⟨(by simp (disch:=omega) only [go_sem,Holds_nil,Holds_cons,rQ,rW,rX,rY,rP,rS,rR,rT,rU,rV,eE]),0,(by simp (disch:=omega) only [go_sem,rQ,rW,rX,rY,rP,rS,rR,rT,rU,rV,eE];all_goals rfl),s29,[],[],hL3⟩
     ·rintro ρ w42 ⟨⟨eM,eS,eU,eV,eL,eO,eN,eP,eQ,eR,sD,-⟩,j2,eX,s30,xs3,css3,hL3⟩
      have hj3:=hL3.le
      have YE:=hL3.rd
      have jK:Upd (fun b=>b=vb∨b=rb) w1 w42:=iR.trans' hL3.upd fun i _ h=>.inr h
      have z2:=hL3.upd.size
      have lF:Glo ev w42:=hG1.updS jK bK bM
      by_cases hlt3:j2 < N3
      ·obtain ⟨R2,q2,B2,eJ,EQ,EO,hA2,jH,kH⟩:=hL3.row.next hlt3
       have EU:=blk_lt jH
       generalize css3.flatten=A2 at hA2 jH kH
       rw [Nat.mul_one] at hA2
       replace eE:ρ 55 = .slice (some ⟨R2,0,none⟩) N3 q2:=sD.trans eJ
       have hown2:∀ b,ownB va3 b→w40.heap.size≤b∧b < w42.heap.size:=fun b h=>hL3.row.own h
       have cZ:∀ b,(fun b=>(fun b=>(ok b∨w1.heap.size≤b)∧¬ ownB va2 b) b∧¬ ownB va3 b) b→¬ (b=R2∨b=rb):=fun b hk h=>h.elim (fun e=>hk.2 ⟨_,_,_,eJ,e⟩) (fun e=>dL b hk.1 (.inr e))
       obtain ⟨X42,tX,tE,FR⟩:=el_open (n:=1) jH hA2 rfl
       repeat ((first|refine qA ?_|apply qB|refine qC ?_|apply qD|apply qE|apply qF|apply qG|apply qH);try simp (disch:=omega) only [go_sem,tE,eM,eS,eU,eV,eL,eO,eN,eP,eQ,eR,eE,eX,normRQ_normal,normRQ_ret])
       refine (Int32_fn w42 YE.1 hrok lF.1 hgrb).mono ?_
       rintro _ w43 ⟨rfl,kN,oL⟩
       have kZ:=oL.blk_some jH (by omega)
       have gJ:Upd (fun b=>b=R2∨b=rb) w42 w43:=oL.mono (fun _ h=>.inr h)
       have iS:=jK.trans' gJ fun i hi h=>h.elim (fun h=>by omega) .inr
       have DS:=gJ.size
       have EJ:=hG1.updS iS bK bM
       obtain ⟨X43,wL,pA,FS⟩:=el_open (n:=1) kZ hA2 rfl
       obtain ⟨s31,uQ⟩:∃ s,s=(rdInt .i32 4 s30).2:=⟨_,rfl⟩
       rw [← uQ] at kN
       have hrE:(rd1 (rdQ (d+1) ver false) fX1_2.of fX1_2.sub false false) s30=((.num (rdInt .i32 4 s30).1),s31):=by rw [uQ];exact rd1_num 3 (by decide)
       have hst43_0:j2+1≤X43.size:=by omega
       repeat ((first|refine qA ?_|apply qB|refine qC ?_|apply qD|apply qE|apply qF|apply qG|apply qH);try simp (disch:=omega) only [go_sem,pA,eM,eS,eU,eV,eL,eO,eN,eP,eQ,eR,eE,eX,normRQ_normal,normRQ_ret,hst43_0])
       generalize mF:wr w43 R2 (j2) [.int .i32 (rdInt .i32 4 s30).1] = w44
       have F4:Upd (fun b=>b=R2∨b=rb) w43 w44:=by rw [← mF];exact (Upd.refl _ _).wr _ _ (.inr (.inl rfl))
       have oX:blk w44 R2=some ((A2++(([.int .i32 (rdInt .i32 4 s30).1]:List Value)++B2)).toArray,21,(0,0)):=by rw [← mF];exact el_blk0 kZ hA2 (Nat.le_of_ble_eq_true rfl)
       have gK:=F4
       have fE:=iS.trans' gK fun i hi h=>h.elim (fun h=>by omega) .inr
       have DT:=gK.size
       have zK:=hG1.updS fE bK bM
       have qV:=Rdr.stored mF kN (by omega) fun h=>by have:=(hok _ h).1;first|omega|exact (hok _ h).2 rfl
       obtain ⟨X44,tY,mH,FT⟩:=el_open (n:=1) oX hA2 rfl
       clear mF
       have hxE:(Rep1 (RepS true (d+1)) fX1_2.of fX1_2.sub) (fun b=>(fun b=>(ok b∨w1.heap.size≤b)∧¬ ownB va2 b) b∧¬ ownB va3 b) w44 (.num (rdInt .i32 4 s30).1) [.int .i32 (rdInt .i32 4 s30).1]:=(Rep1_num (by decide)).2 (congrArg (fun x=>[x]) (numC_rd 3 (by decide) 4 s30).symm)
       repeat ((first|refine qA ?_|apply qB|refine qC ?_|apply qD|apply qE|apply qF|apply qG|apply qH);try simp (disch:=omega) only [go_sem,mH,eM,eS,eU,eV,eL,eO,eN,eP,eQ,eR,eE,eX,normRQ_normal,normRQ_ret])
       have hTk:Upd (fun b=>b=R2∨b=rb) w42 w44:=(gJ.trans gK)
       have hL':=hL3.step (Rep1_lay _ _ fun _=>RepS_lay true _ _) hlt3 (kH w44 [.int .i32 (rdInt .i32 4 s30).1] rfl oX) (by rw [hrE];exact hxE) (hTk.mono fun b h=>h.imp (fun e=>⟨_,_,_,eJ,e⟩) id) (by rw [hrE];exact qV) (fun h=>dL rb h (.inr rfl)) (Nat.le_refl _)
       have hij:IntKind.i32.wrap ((j2:Int)+1)=((j2+1:Nat):Int):=by rw [i32_wrap (by omega)];omega
       repeat ((first|refine qA ?_|apply qB|refine qC ?_|apply qD|apply qE|apply qF|apply qG|apply qH);try simp (disch:=omega) only [go_sem,mH,eM,eS,eU,eV,eL,eO,eN,eP,eQ,eR,eE,eX,normRQ_normal,normRQ_ret,hij])
       refine ⟨⟨(by simp (disch:=omega) only [go_sem,Holds_nil,Holds_cons,eM,eS,eU,eV,eL,eO,eN,eP,eQ,eR,eE,eX];exact eJ.symm),j2+1,(by simp (disch:=omega) only [go_sem,eM,eS,eU,eV,eL,eO,eN,eP,eQ,eR,eE,eX,hij];all_goals rfl),_,_,_,hL'⟩,?_⟩
       try simp (disch:=omega) only [go_sem,eM,eS,eU,eV,eL,eO,eN,eP,eQ,eR,eE,eX]
       simp only [RowKit.intOf]
       omega
      ·have hjN:j2=N3:=by omega
       rw [hjN] at hL3
       repeat ((first|refine qA ?_|apply qB|refine qC ?_|apply qD|apply qE|apply qF|apply qG|apply qH);try simp (disch:=omega) only [go_sem,eM,eS,eU,eV,eL,eO,eN,eP,eQ,eR,sD,eX])
       exact ⟨(by simp (disch:=omega) only [go_sem,Holds_nil,Holds_cons,eM,eS,eU,eV,eL,eO,eN,eP,eQ,eR,sD,eX]),s30,xs3,css3,hL3⟩
     rintro ρ w45 ⟨⟨iB,iJ,iK,iL,iA,iD,iC,iF,iG,iI,iH,-⟩,s32,xs3,css3,hL3⟩
     have xM:=hL3.rd
     have O4:=hL3.upd
     have yI:=O4.blk_some OU (by omega)
     have jE:Upd (fun b=>b=R1∨b=rb) w40 w45:=O4.mono (fun _ h=>.inr h)
     have kB:=iR.trans' jE fun i hi h=>h.elim (fun h=>by omega) .inr
     have QA:=jE.size
     have EK:=hG1.updS kB bK bM
     obtain ⟨X45,KO,tF,KV⟩:=el_open (n:=19) yI hA1 rfl
     have xT:rdF (rdQ (d+1) ver false) ver false fX1_2 s28=(.mk 0 [] (nilS fX1_2 ver y3) xs3 [],s32):=by
      have h:=rdF_listE (pt:=(rdQ (d+1) ver false)) (v:=ver) (flex:=false) (f:=fX1_2) (s:=s28) (xs:=xs3) (e:=s32) rfl (by rw [hy3,← hN3,← uP];exact hL3.done)
      rw [hy3] at h;exact h
     have y4:s32=(rdF (rdQ (d+1) ver false) ver false fX1_2 s28).2:=by rw [xT]
     obtain ⟨aa3,qq3,I2⟩:=hL3.row.shape
     subst I2
     have hst45_17:j1 * 19+18≤X45.size:=by omega
     repeat ((first|refine qA ?_|apply qB|refine qC ?_|apply qD|apply qE|apply qF|apply qG|apply qH);try simp (disch:=omega) only [go_sem,tF,iB,iJ,iK,iL,iA,iD,iC,iF,iG,iI,iH,normRQ_normal,normRQ_ret,hst45_17])
     generalize CT:wr w45 R1 (j1 * 19+17) [.slice aa3 N3 qq3] = w46
     have TB:Upd (fun b=>b=R1∨b=rb) w45 w46:=by rw [← CT];exact (Upd.refl _ _).wr _ _ (.inr (.inl rfl))
     have yJ:blk w46 R1=some ((A1++(([strV (rdStr false s27).1,zZ,zZ,zZ,zZ,zZ,zZ,zZ,zZ,zZ,zZ,zZ,zZ,zZ,zZ,zZ,zZ,.slice aa3 N3 qq3,.map none]:List Value)++B1)).toArray,90,(0,0)):=by rw [← CT];exact el_blk (o:=17) yI hA1 (Nat.le_of_ble_eq_true rfl)
     have lA:=TB
     have zX:=kB.trans' lA fun i hi h=>h.elim (fun h=>by omega) .inr
     have hz46:=lA.size
     have RQ:=hG1.updS zX bK bM
     have BZ:=Rdr.stored CT xM (by omega) fun h=>by have:=(hok _ h).1;first|omega|exact (hok _ h).2 rfl
     obtain ⟨X46,UJ,DH,UZ⟩:=el_open (n:=19) yJ hA1 rfl
     clear CT
     have WB:RepF (RepS true (d+1)) (szS true (d+1)) fX1_2 (fun b=>(ok b∨w1.heap.size≤b)∧¬ ownB va2 b) w46 (xge2_2) [.slice aa3 N3 qq3]:=by rw [PW,xT];exact RepF.keepS (RepF_row rfl xH hN3 rfl hL3.row hL3.all (fun b hb=>⟨.inr (by omega),fun ho=>by have:=(jG _ ho).2;omega⟩)) (lA.keeps fun b _ hk e=>dL b hk e)
     clear hL3 xH
     have XE:rdL (rdQ (d+1) ver false) (dfP (d+1)) ver false [] s32=([],s32):=rfl
     have XD:rdL (rdQ (d+1) ver false) (dfP (d+1)) ver false [fX1_2] s28=([xge2_2],s32):=by rw [rdL_st (by decide) LT,← PW,← y4,XE]
     have XC:rdL (rdQ (d+1) ver false) (dfP (d+1)) ver false [fX1_1,fX1_2] s28=([xge2_1,xge2_2],s32):=by rw [rdL_no LS,← PV,XD]
     have XB:rdL (rdQ (d+1) ver false) (dfP (d+1)) ver false [fX1_0,fX1_1,fX1_2] s27=([xge2_0,xge2_1,xge2_2],s32):=by rw [rdL_st (by decide) LR,← PU,← t2,XC]
     have WC:rdQ (d+2) ver false fs_X1 s27=(.mk 0 [] false [xge2_0,xge2_1,xge2_2] [],s32):=rdQ_f XB
     have TV:TagsM (fun b=>(ok b∨w1.heap.size≤b)∧¬ ownB va2 b) w46 (.map none) []:=.inl ⟨rfl,rfl⟩
     have IV:Upd (fun b=>b=R1∨b=rb) w46 w46:=Upd.refl _ _
     have QZ:Upd (fun b=>b=R1∨b=rb) w45 w46:=lA.trans IV
     have QY:Upd (fun b=>b=R1∨b=rb) w40 w46:=jE.trans QZ
     have DY:Upd (fun b=>b=R1∨b=rb) w39 w46:=gO.trans QY
     have QX:Upd (fun b=>b=R1∨b=rb) w38 w46:=l8.trans DY
     have QW:Upd (fun b=>b=R1∨b=rb) w37 w46:=AD.trans QX
     have hCge2_36:Upd (fun b=>b=R1∨b=rb) w36 w46:=l7.trans QW
     have SJ:RepS true (d+2) fs_X1 (fun b=>(ok b∨w1.heap.size≤b)∧¬ ownB va2 b) w46 (.mk 0 [] false [xge2_0,xge2_1,xge2_2] []) [strV (rdStr false s27).1,zZ,zZ,zZ,zZ,zZ,zZ,zZ,zZ,zZ,zZ,zZ,zZ,zZ,zZ,zZ,zZ,.slice aa3 N3 qq3,.map none]:=RepS.introT (c:=[strV (rdStr false s27).1,zZ,zZ,zZ,zZ,zZ,zZ,zZ,zZ,zZ,zZ,zZ,zZ,zZ,zZ,zZ,zZ,.slice aa3 N3 qq3]) (RepL.cons1 (W9.keepS (DY.keeps fun b _ hk e=>dL b hk e)) (RepL.cons16 (WA.keepS (DY.keeps fun b _ hk e=>dL b hk e)) (RepL.cons1 (WB.keepS (IV.keeps fun b _ hk e=>dL b hk e)) RepL.nil))) TV
     have hrE:(rd1 (rdQ (d+2) ver false) fQ_10.of fQ_10.sub false false) s27=((.mk 0 [] false [xge2_0,xge2_1,xge2_2] []),s32):=by rw [show (rd1 (rdQ (d+2) ver false) fQ_10.of fQ_10.sub false false) s27=_ from rd1_part];exact WC
     have hxE:(Rep1 (RepS true (d+2)) fQ_10.of fQ_10.sub) (fun b=>(ok b∨w1.heap.size≤b)∧¬ ownB va2 b) w46 (.mk 0 [] false [xge2_0,xge2_1,xge2_2] []) [strV (rdStr false s27).1,zZ,zZ,zZ,zZ,zZ,zZ,zZ,zZ,zZ,zZ,zZ,zZ,zZ,zZ,zZ,zZ,.slice aa3 N3 qq3,.map none]:=Rep1_part.2 SJ
     repeat ((first|refine qA ?_|apply qB|refine qC ?_|apply qD|apply qE|apply qF|apply qG|apply qH);try simp (disch:=omega) only [go_sem,DH,iB,iJ,iK,iL,iA,iD,iC,iF,iG,iI,iH,normRQ_normal,normRQ_ret])
     have hTk:Upd (fun b=>b=R1∨b=rb) w36 w46:=(((((l7.trans AD).trans l8).trans gO).trans jE).trans lA)
     have hL':=hL2.step (Rep1_lay _ _ fun _=>RepS_lay true _ _) hlt2 (kG w46 [strV (rdStr false s27).1,zZ,zZ,zZ,zZ,zZ,zZ,zZ,zZ,zZ,zZ,zZ,zZ,zZ,zZ,zZ,zZ,.slice aa3 N3 qq3,.map none] rfl yJ) (by rw [hrE];exact hxE) (hTk.mono fun b h=>h.imp (fun e=>⟨_,_,_,eY,e⟩) id) (by rw [hrE];exact BZ) (fun h=>hoM rb h (.inr rfl)) (Nat.le_refl _)
     have hij:IntKind.i32.wrap ((j1:Int)+1)=((j1+1:Nat):Int):=by rw [i32_wrap (by omega)];omega
     repeat ((first|refine qA ?_|apply qB|refine qC ?_|apply qD|apply qE|apply qF|apply qG|apply qH);try simp (disch:=omega) only [go_sem,DH,iB,iJ,iK,iL,iA,iD,iC,iF,iG,iI,iH,normRQ_normal,normRQ_ret,hij])
     refine ⟨⟨(by simp (disch:=omega) only [go_sem,Holds_nil,Holds_cons,iB,iJ,iK,iL,iA,iD,iC,iF,iG,iI,iH];exact eY.symm),j1+1,(by simp (disch:=omega) only [go_sem,iB,iJ,iK,iL,iA,iD,iC,iF,iG,iI,iH,hij];all_goals rfl),_,_,_,hL'⟩,?_⟩
     try simp (disch:=omega) only [go_sem,iB,iJ,iK,iL,iA,iD,iC,iF,iG,iI,iH]
     simp only [RowKit.intOf]
     omega
    ·have hjN:j1=N2:=by omega
     rw [hjN] at hL2
     repeat ((first|refine qA ?_|apply qB|refine qC ?_|apply qD|apply qE|apply qF|apply qG|apply qH);try simp (disch:=omega) only [go_sem,bN,cR,cV,cW,cP,cQ,sC,cY])
     exact ⟨(by simp (disch:=omega) only [go_sem,Holds_nil,Holds_cons,bN,cR,cV,cW,cP,cQ,sC,cY]),s27,xs2,css2,hL2⟩
   rintro ρ w47 ⟨⟨eW,kT,kV,kW,kQ,kS,kR,-⟩,s33,xs2,css2,hL2⟩
   have HB:=hL2.rd
   have hu47:=hL2.upd
   have hv_47:=hu47.blk_some hv_34 (by omega)
   have lN:Upd (fun b=>b=vb∨b=rb) w34 w47:=hu47.mono (fun _ h=>.inr h)
   have zY:=kA.trans lN
   have hz47:=lN.size
   have RR:=hG1.updS zY bK bM
   have xR:rdF (rdQ (d+2) ver false) ver false fQ_10 s25=(.mk 0 [] (nilS fQ_10 ver y2) xs2 [],s33):=by
    have h:=rdF_listE (pt:=(rdQ (d+2) ver false)) (v:=ver) (flex:=false) (f:=fQ_10) (s:=s25) (xs:=xs2) (e:=s33) rfl (by rw [hy2,← hN2,← uO];exact hL2.done)
    rw [hy2] at h;exact h
   have C2:s33=(rdF (rdQ (d+2) ver false) ver false fQ_10 s25).2:=by rw [xR]
   obtain ⟨aa2,qq2,I1⟩:=hL2.row.shape
   subst I1
   repeat ((first|refine qA ?_|apply qB|refine qC ?_|apply qD|apply qE|apply qF|apply qG|apply qH);try simp (disch:=omega) only [go_sem,hv_47,eW,kT,kV,kW,kQ,kS,kR,normRQ_normal,normRQ_ret])
   generalize CV:wr w47 vb 13 [.slice aa2 N2 qq2] = w48
   have TD:Upd (fun b=>b=vb∨b=rb) w47 w48:=by rw [← CV];exact (Upd.refl _ _).wr _ _ (.inr (.inl rfl))
   have hv_48:blk w48 vb=some (#[.int .i16 ver,.pointer none,.int .i32 (rdInt .i32 4 s0).1,zM,.int .i64 (-1),.map none,.int .i32 (rdInt .i32 4 s1).1,.int .i32 (rdInt .i32 4 s2).1,c_5,c_6,c_7,c_8,.slice aa0 N0 qq0,.slice aa2 N2 qq2,zT,.map none],75,(0,0)):=by rw [← CV,blk_wr_eq,hv_47];rfl
   have lO:=TD
   have ae:=zY.trans lO
   have hz48:=lO.size
   have RS:=hG1.updS ae bK bM
   have HC:=Rdr.stored CV HB (by omega) fun h=>by have:=(hok _ h).1;first|omega|exact (hok _ h).2 rfl
   clear CV
   have hfg_10:RepF (RepS true (d+2)) (szS true (d+2)) fQ_10 (fun b=>ok b∨w1.heap.size≤b) w48 (xg_10) [.slice aa2 N2 qq2]:=by rw [hxg_10,xR];exact RepF.keepS (RepF_row rfl xG hN2 rfl hL2.row hL2.all (fun b hb=>.inr (by omega))) (lO.keeps fun b _ hk e=>(hoM b hk) e)
   clear hL2 xG
   repeat ((first|refine qA ?_|apply qB|refine qC ?_|apply qD|apply qE|apply qF|apply qG|apply qH);try simp (disch:=omega) only [go_sem,hv_48,eW,kT,kV,kW,kQ,kS,kR,normRQ_normal,normRQ_ret])
   exact ⟨(by simp (disch:=omega) only [go_sem,Holds_nil,Holds_cons,eW,kT,kV,kW,kQ,kS,kR]),_,_,_,(by rw [rdA_yes hyes];exact hxg_10),(by rw [rdA_yes hyes];exact C2),hv_48,hfg_10,HC,((jC.trans lN).trans lO)⟩
  ·have hno:hasS fQ_10 ver=false:=hasS_f (by show ver < 7∨(0≤(-1:Int)∧(-1:Int) < ver);omega)
   repeat ((first|refine qA ?_|apply qB|refine qC ?_|apply qD|apply qE|apply qF|apply qG|apply qH);try simp (disch:=omega) only [go_sem,hv_33,bV,bX,bY,bZ,bR,bW,bU,normRQ_normal,normRQ_ret,hvc_])
   exact ⟨(by simp (disch:=omega) only [go_sem,Holds_nil,Holds_cons,bV,bX,bY,bZ,bR,bW,bU]),_,_,_,(by rw [rdA_no hno];try rfl),(by rw [rdA_no hno]),hv_33,RepF_nil rfl,xJ,Upd.refl _ _⟩
 rintro ρ w34 ⟨⟨n8,n9,nA,nB,n7,-⟩,x_10,s34,c_10,hx_10,y5,hv_34,hf_10,kL,hu34⟩
 have jC:Upd (fun b=>b=vb∨b=rb) w33 w34:=hu34.mono (fun _ h=>h)
 have kA:=tN.trans jC
 have Q7:=jC.size
 have vP:=hG1.updS kA bK bM
 have hb_11:(rdL (rdQ (d+2) ver false) (dfP (d+2)) ver false [fQ_11] s34).2=none→FB:=fun h=>hb_10 (by rw [rdL_any (by decide),← y5];exact h)
 repeat ((first|refine W.seqR rfl ?_|refine W.seq ?_|refine W.regR rfl ?_|refine W.block ?_|refine W.skip ?_|refine W.ret ?_|refine W.exit ?_);try simp (disch:=omega) only [go_sem,hv_34,n8,n9,nA,nB,n7])
 refine W.normJ (EndQ [(2,zB),(7,.pointer (some ⟨rb,0,none⟩)),(8,.int .i16 ver),(9,zB),(10,.pointer (some ⟨vb,0,none⟩))] fun w'=>∃ (x:Tree) (st:St) (c:Value),x=(rdA (rdQ (d+2) ver false) (dfP (d+2)) ver false fQ_11 s34).1∧st=(rdA (rdQ (d+2) ver false) (dfP (d+2)) ver false fQ_11 s34).2∧blk w' vb=some (#[.int .i16 ver,.pointer none,.int .i32 (rdInt .i32 4 s0).1,zM,.int .i64 (-1),.map none,.int .i32 (rdInt .i32 4 s1).1,.int .i32 (rdInt .i32 4 s2).1,c_5,c_6,c_7,c_8,.slice aa0 N0 qq0,c_10,c,.map none],75,(0,0))∧RepF (RepS true (d+2)) (szS true (d+2)) fQ_11 (fun b=>ok b∨w1.heap.size≤b) w' x [c]∧(Rdr RT ok w' rb st∧NN w' rb st)∧Upd (fun b=>b=vb∨b=rb) w34 w') ?_ ?_
 ·by_cases hvc_:(11:Int)≤ver
  ·have hyes:hasS fQ_11 ver=true:=hasS_t (by show (11:Int)≤ver;omega) (by show (-1:Int) < 0∨ver≤(-1:Int);omega)
   repeat ((first|refine qA ?_|apply qB|refine qC ?_|apply qD|apply qE|apply qF|apply qG|apply qH);try simp (disch:=omega) only [go_sem,hv_34,n8,n9,nA,nB,n7,hvc_])
   have hhg_11:hasS fQ_11 ver=true:=hasS_t (by show (11:Int)≤ver;omega) (by show (-1:Int) < 0∨ver≤(-1:Int);omega)
   obtain ⟨xg_11,hxg_11⟩:∃ x,x=(rdF (rdQ (d+2) ver false) ver false fQ_11 s34).1:=⟨_,rfl⟩
   repeat ((first|refine qA ?_|apply qB|refine qC ?_|apply qD|apply qE|apply qF|apply qG|apply qH);try simp (disch:=omega) only [go_sem,hv_34,n8,n9,nA,nB,n7])
   have hmay:mayS fQ_11 ver=false:=mayS_no (by show (-1:Int) < 0∨ver < (-1:Int);omega)
   have hrd:rdF (rdQ (d+2) ver false) ver false fQ_11 s34=_:=rdF_text rfl hmay
   refine (RString_fn w34 kL.1 hrok vP.1 hgrb).mono ?_
   rintro _ w35 ⟨rfl,qT,tA⟩
   have hv_35:=tA.blk_some hv_34 (by omega)
   have jD:Upd (fun b=>b=vb∨b=rb) w34 w35:=tA.mono (fun _ h=>.inr h)
   have mK:=kA.trans jD
   have Q8:=jD.size
   have EH:=hG1.updS mK bK bM
   have hst:(rdF (rdQ (d+2) ver false) ver false fQ_11 s34).2=(rdStr false s34).2:=by first|(rw [hrd];rfl)|rw [hrd]
   obtain ⟨s35,uR⟩:∃ s,s=(rdF (rdQ (d+2) ver false) ver false fQ_11 s34).2:=⟨_,rfl⟩
   rw [← hst,← uR] at qT
   clear hst
   repeat ((first|refine qA ?_|apply qB|refine qC ?_|apply qD|apply qE|apply qF|apply qG|apply qH);try simp (disch:=omega) only [go_sem,hv_35,n8,n9,nA,nB,n7])
   generalize mE:wr w35 vb 14 [strV (rdStr false s34).1] = w36
   have F3:Upd (fun b=>b=vb∨b=rb) w35 w36:=by rw [← mE];exact (Upd.refl _ _).wr _ _ (.inr (.inl rfl))
   have hv_36:blk w36 vb=some (#[.int .i16 ver,.pointer none,.int .i32 (rdInt .i32 4 s0).1,zM,.int .i64 (-1),.map none,.int .i32 (rdInt .i32 4 s1).1,.int .i32 (rdInt .i32 4 s2).1,c_5,c_6,c_7,c_8,.slice aa0 N0 qq0,c_10,strV (rdStr false s34).1,.map none],75,(0,0)):=by rw [← mE,blk_wr_eq,hv_35];rfl
   have lM:=F3
   have pK:=mK.trans lM
   have Q9:=lM.size
   have JD:=hG1.updS pK bK bM
   have u9:=Rdr.stored mE qT (by omega) fun h=>by have:=(hok _ h).1;first|omega|exact (hok _ h).2 rfl
   clear mE
   have hfg_11:RepF (RepS true (d+2)) (szS true (d+2)) fQ_11 (fun b=>ok b∨w1.heap.size≤b) w36 (xg_11) [strV (rdStr false s34).1]:=(RepF_text rfl (by decide)).2 (by rw [hxg_11,hrd];rfl)
   clear hrd
   repeat ((first|refine qA ?_|apply qB|refine qC ?_|apply qD|apply qE|apply qF|apply qG|apply qH);try simp (disch:=omega) only [go_sem,hv_36,n8,n9,nA,nB,n7])
   exact ⟨(by simp (disch:=omega) only [go_sem,Holds_nil,Holds_cons,n8,n9,nA,nB,n7]),_,_,_,(by rw [rdA_yes hyes];exact hxg_11),(by rw [rdA_yes hyes];exact uR),hv_36,hfg_11,u9,(jD.trans lM)⟩
  ·have hno:hasS fQ_11 ver=false:=hasS_f (by show ver < 11∨(0≤(-1:Int)∧(-1:Int) < ver);omega)
   repeat ((first|refine qA ?_|apply qB|refine qC ?_|apply qD|apply qE|apply qF|apply qG|apply qH);try simp (disch:=omega) only [go_sem,hv_34,n8,n9,nA,nB,n7,hvc_])
   exact ⟨(by simp (disch:=omega) only [go_sem,Holds_nil,Holds_cons,n8,n9,nA,nB,n7]),_,_,_,(by rw [rdA_no hno];try rfl),(by rw [rdA_no hno]),hv_34,(RepF_text rfl (by decide)).2 rfl,kL,Upd.refl _ _⟩
 rintro ρ w35 ⟨⟨MO,MP,MQ,MR,MN,-⟩,x_11,s36,c_11,hx_11,YZ,hv_35,hf_11,qT,tA⟩
 have jD:Upd (fun b=>b=vb∨b=rb) w34 w35:=tA.mono (fun _ h=>h)
 have mK:=kA.trans jD
 have Q8:=jD.size
 have EH:=hG1.updS mK bK bM
 have hl_12:rdL (rdQ (d+2) ver false) (dfP (d+2)) ver false [] s36=([],s36):=rfl
 have hl_11:rdL (rdQ (d+2) ver false) (dfP (d+2)) ver false [fQ_11] s34=([x_11],s36):=by rw [rdL_any (by decide),← hx_11,← YZ,hl_12]
 have hl_10:rdL (rdQ (d+2) ver false) (dfP (d+2)) ver false [fQ_10,fQ_11] s25=([x_10,x_11],s36):=by rw [rdL_any (by decide),← hx_10,← y5,hl_11]
 have hl_9:rdL (rdQ (d+2) ver false) (dfP (d+2)) ver false [fQ_9,fQ_10,fQ_11] s11=([x_9,x_10,x_11],s36):=by rw [rdL_st (by decide) hh_9,← hx_9,← kX,hl_10]
 have hl_8:rdL (rdQ (d+2) ver false) (dfP (d+2)) ver false [fQ_8,fQ_9,fQ_10,fQ_11] s9=([x_8,x_9,x_10,x_11],s36):=by rw [rdL_any (by decide),← hx_8,← xZ,hl_9]
 have hl_7:rdL (rdQ (d+2) ver false) (dfP (d+2)) ver false [fQ_7,fQ_8,fQ_9,fQ_10,fQ_11] s7=([x_7,x_8,x_9,x_10,x_11],s36):=by rw [rdL_any (by decide),← hx_7,← hs9,hl_8]
 have hl_6:rdL (rdQ (d+2) ver false) (dfP (d+2)) ver false [fQ_6,fQ_7,fQ_8,fQ_9,fQ_10,fQ_11] s5=([x_6,x_7,x_8,x_9,x_10,x_11],s36):=by rw [rdL_any (by decide),← hx_6,← hs7,hl_7]
 have hl_5:rdL (rdQ (d+2) ver false) (dfP (d+2)) ver false [fQ_5,fQ_6,fQ_7,fQ_8,fQ_9,fQ_10,fQ_11] s3=([x_5,x_6,x_7,x_8,x_9,x_10,x_11],s36):=by rw [rdL_any (by decide),← hx_5,← hs5,hl_6]
 have hl_4:rdL (rdQ (d+2) ver false) (dfP (d+2)) ver false [fQ_4,fQ_5,fQ_6,fQ_7,fQ_8,fQ_9,fQ_10,fQ_11] s2=([x_4,x_5,x_6,x_7,x_8,x_9,x_10,x_11],s36):=by rw [rdL_st (by decide) hh_4,← hx_4,← hs3,hl_5]
 have hl_3:rdL (rdQ (d+2) ver false) (dfP (d+2)) ver false [fQ_3,fQ_4,fQ_5,fQ_6,fQ_7,fQ_8,fQ_9,fQ_10,fQ_11] s1=([x_3,x_4,x_5,x_6,x_7,x_8,x_9,x_10,x_11],s36):=by rw [rdL_st (by decide) hh_3,← hx_3,← hs2,hl_4]
 have hl_2:rdL (rdQ (d+2) ver false) (dfP (d+2)) ver false [fQ_2,fQ_3,fQ_4,fQ_5,fQ_6,fQ_7,fQ_8,fQ_9,fQ_10,fQ_11] s1=([x_2,x_3,x_4,x_5,x_6,x_7,x_8,x_9,x_10,x_11],s36):=by rw [rdL_tg (by decide),← hx_2,hl_3]
 have hl_1:rdL (rdQ (d+2) ver false) (dfP (d+2)) ver false [fQ_1,fQ_2,fQ_3,fQ_4,fQ_5,fQ_6,fQ_7,fQ_8,fQ_9,fQ_10,fQ_11] s0=([x_1,x_2,x_3,x_4,x_5,x_6,x_7,x_8,x_9,x_10,x_11],s36):=by rw [rdL_st (by decide) hh_1,← hx_1,← hs1,hl_2]
 have hl_0:rdL (rdQ (d+2) ver false) (dfP (d+2)) ver false [fQ_0,fQ_1,fQ_2,fQ_3,fQ_4,fQ_5,fQ_6,fQ_7,fQ_8,fQ_9,fQ_10,fQ_11] s0=([x_0,x_1,x_2,x_3,x_4,x_5,x_6,x_7,x_8,x_9,x_10,x_11],s36):=by rw [rdL_tg (by decide),← hx_0,hl_1]
 have hfin:rdQ (d+3) ver false fs_Q s0=(.mk 0 [] false [x_0,x_1,x_2,x_3,x_4,x_5,x_6,x_7,x_8,x_9,x_10,x_11] [],s36):=rdQ_f hl_0
 have hTg:TagsM (fun b=>ok b∨w1.heap.size≤b) w35 (.map none) []:=.inl ⟨rfl,rfl⟩
 have hC_35:Upd (fun b=>b=vb∨b=rb) w35 w35:=Upd.refl _ _
 have hC_34:Upd (fun b=>b=vb∨b=rb) w34 w35:=jD.trans hC_35
 have hC_33:Upd (fun b=>b=vb∨b=rb) w33 w35:=jC.trans hC_34
 have hC_32:Upd (fun b=>b=vb∨b=rb) w32 w35:=l6.trans hC_33
 have hC_12:Upd (fun b=>b=vb∨b=rb) w12 w35:=lL.trans hC_32
 have hC_11:Upd (fun b=>b=vb∨b=rb) w11 w35:=fG.trans hC_12
 have hC_10:Upd (fun b=>b=vb∨b=rb) w10 w35:=eH.trans hC_11
 have hC_9:Upd (fun b=>b=vb∨b=rb) w9 w35:=eF.trans hC_10
 have hC_8:Upd (fun b=>b=vb∨b=rb) w8 w35:=hV9.trans hC_9
 have hC_7:Upd (fun b=>b=vb∨b=rb) w7 w35:=hV8.trans hC_8
 have hC_6:Upd (fun b=>b=vb∨b=rb) w6 w35:=hV7.trans hC_7
 have hC_5:Upd (fun b=>b=vb∨b=rb) w5 w35:=hV6.trans hC_6
 have hC_4:Upd (fun b=>b=vb∨b=rb) w4 w35:=hV5.trans hC_5
 have hC_3:Upd (fun b=>b=vb∨b=rb) w3 w35:=hV4.trans hC_4
 have hC_2:Upd (fun b=>b=vb∨b=rb) w2 w35:=hV3.trans hC_3
 have hC_1:Upd (fun b=>b=vb∨b=rb) w1 w35:=hV2.trans hC_2
 have hR:RepS true (d+3) fs_Q (fun b=>ok b∨w1.heap.size≤b) w35 (.mk 0 [] false [x_0,x_1,x_2,x_3,x_4,x_5,x_6,x_7,x_8,x_9,x_10,x_11] []) [.pointer none,.int .i32 (rdInt .i32 4 s0).1,zM,.int .i64 (-1),.map none,.int .i32 (rdInt .i32 4 s1).1,.int .i32 (rdInt .i32 4 s2).1,c_5,c_6,c_7,c_8,.slice aa0 N0 qq0,c_10,c_11,.map none]:=RepS.introT (c:=[.pointer none,.int .i32 (rdInt .i32 4 s0).1,zM,.int .i64 (-1),.map none,.int .i32 (rdInt .i32 4 s1).1,.int .i32 (rdInt .i32 4 s2).1,c_5,c_6,c_7,c_8,.slice aa0 N0 qq0,c_10,c_11]) (RepL.cons1 (hf_0.keepS (hC_1.keeps fun b _ hk e=>(hoM b hk) e)) (RepL.cons1 (hf_1.keepS (hC_3.keeps fun b _ hk e=>(hoM b hk) e)) (RepL.cons (c:=[zM,.int .i64 (-1),.map none]) (hf_2.keepS (hC_3.keeps fun b _ hk e=>(hoM b hk) e)) (RepL.cons1 (hf_3.keepS (hC_5.keeps fun b _ hk e=>(hoM b hk) e)) (RepL.cons1 (hf_4.keepS (hC_7.keeps fun b _ hk e=>(hoM b hk) e)) (RepL.cons1 (hf_5.keepS (hC_8.keeps fun b _ hk e=>(hoM b hk) e)) (RepL.cons1 (hf_6.keepS (hC_9.keeps fun b _ hk e=>(hoM b hk) e)) (RepL.cons1 (hf_7.keepS (hC_10.keeps fun b _ hk e=>(hoM b hk) e)) (RepL.cons1 (hf_8.keepS (hC_11.keeps fun b _ hk e=>(hoM b hk) e)) (RepL.cons1 (hf_9.keepS (hC_33.keeps fun b _ hk e=>(hoM b hk) e)) (RepL.cons1 (hf_10.keepS (hC_34.keeps fun b _ hk e=>(hoM b hk) e)) (RepL.cons1 (hf_11.keepS (hC_35.keeps fun b _ hk e=>(hoM b hk) e)) RepL.nil)))))))))))) hTg
 repeat ((first|refine qA ?_|apply qB|refine qC ?_|apply qD|apply qE|apply qF|apply qG|apply qH);try simp (disch:=omega) only [go_sem,hv_35,MO,MP,MQ,MR,MN])
 refine (RComplete_fn w35 qT.1 EH.2).mono ?_
 rintro _ wz ⟨rfl,hez⟩
 rw [hez]
 repeat ((first|refine qA ?_|apply qB|refine qC ?_|apply qD|apply qE|apply qF|apply qG|apply qH);try simp (disch:=omega) only [go_sem,hv_35,MO,MP,MQ,MR,MN])
 rw [hfin]
 refine ⟨fun h => ?_,fun h=>⟨?_,[.pointer none,.int .i32 (rdInt .i32 4 s0).1,zM,.int .i64 (-1),.map none,.int .i32 (rdInt .i32 4 s1).1,.int .i32 (rdInt .i32 4 s2).1,c_5,c_6,c_7,c_8,.slice aa0 N0 qq0,c_10,c_11,.map none],hv_35,?_⟩,?_⟩
 ·have h':s36=none:=h
  rw [h'];rfl
 ·cases hsn:s36 with
  | none=>exact absurd hsn h
  | some x=>rfl
 ·exact (RepS_lay true (d+3) fs_Q).weaken hR fun b _ hk=>hk.imp id fun h=>by omega
 ·exact hbase.trans' mK fun i hi h=>h.elim id fun h=>by omega
end Ms

