/- A part of the proof: see the last text. -/
import Derived.Test.YtfeaoncgnhhjbaeGreatDoorC10
import Derived.Test.YtfeaoncgnhhjbaeGreatDoorFetchRequestP0
set_option linter.unusedSimpArgs false
set_option linter.unusedVariables false
namespace Ms
open Go.World renaming size_alloc → qI
open Ms renaming size_wr → qJ,size_drew → qK,not_noB → qL
open W renaming seqF → qA,seq → qB,regF → qC,condK → qD,block → qE,skip → qF,ret → qG,exit → qH
set_option maxRecDepth 8000
open Go Go.Proofs Go.Shelf
attribute [local congr] W_congr WPsq_congr WPp_congr optK_congr addrK_congr intK_congr boolK_congr sliceK_congr tupleK_congr funcK_congr Fn_congr rawK_congr takeK_congr stepK_congr convK_congr aggK_congr

set_option maxHeartbeats 24000000 in
theorem readQ_1 {d:Nat} {ok:Blocks} {ver:Int} {ev:Value} (hlo:12≤ver) (hhi:ver≤18) (w:World) {vb:Nat} (src:Value) (s:List UInt8) (hv:blk w vb=some (#[.int .i16 ver,.pointer none,zM,zM,.int .i64 (-1),.map none,.int .i32 0,.int .i32 0,.int .i32 2147483647,.int .i8 0,.int .i32 0,zM,zS,zS,zT,.map none],75,(0,0))) (hsrc:BytesV ok w src s) (mY:∀ b,ok b→b < w.heap.size∧b≠vb) (hG:Glo ev w) (hgv:¬ 0=vb∧¬ 1=vb) (hev:∃ T p,ev = .iface T p) :
  Fn Tryz.prog 27 #[.pointer (some ⟨vb,0,none⟩),src,zB] w (ReadQ 75 ok ver (d+3) fs_Q vb w (rdQ (d+3) ver true fs_Q (some s)) ev):=by
 have hvl:=blk_lt hv
 have hgs:=hG.lt
 obtain ⟨sa,sc,rfl,_⟩:=hsrc.shape
 refine fn_of_W Tryz.func27 rfl Tryz.results27 Tryz.ntmps27 rfl ?_
 repeat ((first|refine qA ?_|apply qB|refine qC ?_|apply qD|apply qE|apply qF|apply qG|apply qH);try simp (disch:=omega) only [go_sem,hv])
 refine (DefaultQ_fn w hv).mono ?_
 rintro _ w0 ⟨hv0,hu0⟩
 have hz0:=hu0.size
 have HS:BytesV ok w0 (.slice sa s.length sc) s:=hsrc.keep (hu0.keeps fun b _ hk e=>(mY b hk).2 e)
 obtain ⟨rb,hrb⟩:∃ r,r=w0.heap.size:=⟨_,rfl⟩
 have hE1:Ext w0 (wr (w0.alloc (.cells #[zS,zB] 104)) w0.heap.size 0 [.slice sa s.length sc,zB]):=(Upd.alloc (Upd.refl _ _) _).wr _ _ (.inl (Nat.le_refl _))
 have hz1:(wr (w0.alloc (.cells #[zS,zB] 104)) w0.heap.size 0 [.slice sa s.length sc,zB]).heap.size=w0.heap.size+1:=by rw [size_wr,World.size_alloc]
 have hR1:Rdr RT ok (wr (w0.alloc (.cells #[zS,zB] 104)) w0.heap.size 0 [.slice sa s.length sc,zB]) w0.heap.size (some s):=Rdr.good (v:=.slice sa s.length sc) (by simp (disch:=omega) only [go_sem]) (HS.keep (hE1.keeps _))
 have hv_1:=hE1.blk_some hv0 id
 repeat ((first|refine W.seqR rfl ?_|refine W.seq ?_|refine W.regR rfl ?_|refine W.block ?_|refine W.skip ?_|refine W.ret ?_|refine W.exit ?_);try simp (disch:=omega) only [go_sem,hv0])
 generalize (wr (w0.alloc (.cells #[zS,zB] 104)) w0.heap.size 0 [.slice sa s.length sc,zB])=w1 at *
 rw [← hrb] at hR1
 try rw [← hrb]
 have hok:∀ b,ok b→b < w.heap.size∧b≠vb:=mY
 have hrok:¬ ok rb:=fun h=>by have:=(hok rb h).1;omega
 have hbase:Upd (fun b=>b=vb) w w1:=hu0.trans (hE1.mono fun _ h=>h.elim)
 have hG1:Glo ev w1:=hG.updS hbase hgv.1 hgv.2
 have hgrb:¬ 0=rb:=by omega
 have bK:¬ (0=vb∨0=rb):=fun h=>h.elim hgv.1 fun h=>by omega
 have bM:¬ (1=vb∨1=rb):=fun h=>h.elim hgv.2 fun h=>by omega
 obtain ⟨s0,hs0⟩:∃ s':St,s'=some s:=⟨_,rfl⟩
 rw [← hs0] at hR1 ⊢
 have hU1:Upd (fun b=>b=vb∨b=rb) w1 w1:=Upd.refl _ _
 have hoM:∀ b,(ok b∨w1.heap.size≤b)→¬ (b=vb∨b=rb):=fun b hk h=>by
  rcases hk with hk|hk
  ·have:=hok b hk;rcases h with h|h<;>omega
  ·rcases h with h|h<;>omega
 have hq1:Rdr RT ok w1 rb s0:=hR1
 obtain ⟨FB,hFB⟩:∃ P:Prop,P=((rdQ (d+3) ver true fs_Q s0).2=none):=⟨_,rfl⟩
 have hbP:(rdQ (d+3) ver true fs_Q s0).2=none→FB:=fun h=>Eq.mpr hFB h
 have hb_0:(rdL (rdQ (d+2) ver true) (dfP (d+2)) ver true [fQ_0,fQ_1,fQ_2,fQ_3,fQ_4,fQ_5,fQ_6,fQ_7,fQ_8,fQ_9,fQ_10,fQ_11] s0).2=none→FB:=fun h=>Eq.mpr hFB (rdQ_bad h)
 obtain ⟨x_0,hx_0⟩:∃ x,x=dfF (dfP (d+2)) fQ_0:=⟨_,rfl⟩
 have hf_0:RepF (RepS true (d+2)) (szS true (d+2)) fQ_0 (fun b=>ok b∨w1.heap.size≤b) w1 (x_0) [.pointer none]:=by rw [hx_0];exact (RepF_ptr rfl (by decide)).2 ⟨_,rfl,rfl⟩
 have hb_1:(rdL (rdQ (d+2) ver true) (dfP (d+2)) ver true [fQ_1,fQ_2,fQ_3,fQ_4,fQ_5,fQ_6,fQ_7,fQ_8,fQ_9,fQ_10,fQ_11] s0).2=none→FB:=fun h=>hb_0 (by rw [rdL_tg (by decide)];exact h)
 repeat ((first|refine W.seqR rfl ?_|refine W.seq ?_|refine W.regR rfl ?_|refine W.block ?_|refine W.skip ?_|refine W.ret ?_|refine W.exit ?_);try simp (disch:=omega) only [go_sem,hv_1])
 refine W.normJ (EndQ [(2,zB),(7,.pointer (some ⟨rb,0,none⟩)),(8,.int .i16 ver),(9,.bool true),(10,.pointer (some ⟨vb,0,none⟩))] fun w'=>∃ (x:Tree) (st:St) (c:Value),x=(rdA (rdQ (d+2) ver true) (dfP (d+2)) ver true fQ_1 s0).1∧st=(rdA (rdQ (d+2) ver true) (dfP (d+2)) ver true fQ_1 s0).2∧blk w' vb=some (#[.int .i16 ver,.pointer none,c,zM,.int .i64 (-1),.map none,.int .i32 0,.int .i32 0,.int .i32 2147483647,.int .i8 0,.int .i32 0,zM,zS,zS,zT,.map none],75,(0,0))∧RepF (RepS true (d+2)) (szS true (d+2)) fQ_1 (fun b=>ok b∨w1.heap.size≤b) w' x [c]∧Rdr RT ok w' rb st∧Upd (fun b=>b=vb∨b=rb) w1 w') ?_ ?_
 ·by_cases hvc_:ver≤(14:Int)
  ·have hyes:hasS fQ_1 ver=true:=hasS_t (by show (0:Int)≤ver;omega) (by show (14:Int) < 0∨ver≤(14:Int);omega)
   repeat ((first|refine qA ?_|apply qB|refine qC ?_|apply qD|apply qE|apply qF|apply qG|apply qH);try simp (disch:=omega) only [go_sem,hv_1,hvc_])
   have hhg_1:hasS fQ_1 ver=true:=hasS_t (by show (0:Int)≤ver;omega) (by show (14:Int) < 0∨ver≤(14:Int);omega)
   obtain ⟨xg_1,hxg_1⟩:∃ x,x=(rdF (rdQ (d+2) ver true) ver true fQ_1 s0).1:=⟨_,rfl⟩
   repeat ((first|refine qA ?_|apply qB|refine qC ?_|apply qD|apply qE|apply qF|apply qG|apply qH);try simp (disch:=omega) only [go_sem,hv_1])
   have hrd:rdF (rdQ (d+2) ver true) ver true fQ_1 s0=_:=rdF_num 3 rfl (by decide)
   refine (Int32_fn w1 hq1 hrok hG1.1 hgrb).mono ?_
   rintro _ w2 ⟨rfl,hq2,hu2⟩
   have hv_2:=hu2.blk_some hv_1 (by omega)
   have hV2:Upd (fun b=>b=vb∨b=rb) w1 w2:=hu2.mono (fun _ h=>.inr h)
   have hU2:=hU1.trans hV2
   have hz2:=hV2.size
   have hG2:=hG1.updS hU2 bK bM
   have hst:(rdF (rdQ (d+2) ver true) ver true fQ_1 s0).2=(rdInt .i32 4 s0).2:=by first|(rw [hrd];rfl)|rw [hrd]
   obtain ⟨s1,hs1⟩:∃ s,s=(rdF (rdQ (d+2) ver true) ver true fQ_1 s0).2:=⟨_,rfl⟩
   rw [← hst,← hs1] at hq2
   clear hst
   repeat ((first|refine qA ?_|apply qB|refine qC ?_|apply qD|apply qE|apply qF|apply qG|apply qH);try simp (disch:=omega) only [go_sem,hv_2])
   generalize hw3:wr w2 vb 2 [.int .i32 (rdInt .i32 4 s0).1] = w3
   have hS3:Upd (fun b=>b=vb∨b=rb) w2 w3:=by rw [← hw3];exact (Upd.refl _ _).wr _ _ (.inr (.inl rfl))
   have hv_3:blk w3 vb=some (#[.int .i16 ver,.pointer none,.int .i32 (rdInt .i32 4 s0).1,zM,.int .i64 (-1),.map none,.int .i32 0,.int .i32 0,.int .i32 2147483647,.int .i8 0,.int .i32 0,zM,zS,zS,zT,.map none],75,(0,0)):=by rw [← hw3,blk_wr_eq,hv_2];rfl
   have hV3:=hS3
   have hU3:=hU2.trans hV3
   have hz3:=hV3.size
   have hG3:=hG1.updS hU3 bK bM
   have hq3:=Rdr.stored hw3 hq2 (by omega) fun h=>by have:=(hok _ h).1;first|omega|exact (hok _ h).2 rfl
   clear hw3
   have hfg_1:RepF (RepS true (d+2)) (szS true (d+2)) fQ_1 (fun b=>ok b∨w1.heap.size≤b) w3 (xg_1) [.int .i32 (rdInt .i32 4 s0).1]:=(RepF_num (by decide)).2 (by rw [hxg_1,hrd];exact congrArg (fun x=>[x]) (numC_rd 3 (by decide) 4 s0).symm)
   clear hrd
   repeat ((first|refine qA ?_|apply qB|refine qC ?_|apply qD|apply qE|apply qF|apply qG|apply qH);try simp (disch:=omega) only [go_sem,hv_3])
   exact ⟨(by simp (disch:=omega) only [go_sem,Holds_nil,Holds_cons]),_,_,_,(by rw [rdA_yes hyes];exact hxg_1),(by rw [rdA_yes hyes];exact hs1),hv_3,hfg_1,hq3.1,(hV2.trans hV3)⟩
  ·have hno:hasS fQ_1 ver=false:=hasS_f (by show ver < 0∨(0≤(14:Int)∧(14:Int) < ver);omega)
   repeat ((first|refine qA ?_|apply qB|refine qC ?_|apply qD|apply qE|apply qF|apply qG|apply qH);try simp (disch:=omega) only [go_sem,hv_1,hvc_])
   exact ⟨(by simp (disch:=omega) only [go_sem,Holds_nil,Holds_cons]),_,_,_,(by rw [rdA_no hno];try rfl),(by rw [rdA_no hno]),hv_1,(RepF_num (by decide)).2 rfl,hq1,Upd.refl _ _⟩
 rintro ρ w2 ⟨⟨dN,dO,dP,dQ,dM,-⟩,x_1,s2,c_1,hx_1,hs2,hv_2,hf_1,hq2,hu2⟩
 replace hq2:=And.intro hq2 True.intro
 have hV2:Upd (fun b=>b=vb∨b=rb) w1 w2:=hu2.mono (fun _ h=>h)
 have hU2:=hU1.trans hV2
 have hz2:=hV2.size
 have hG2:=hG1.updS hU2 bK bM
 have hb_2:(rdL (rdQ (d+2) ver true) (dfP (d+2)) ver true [fQ_2,fQ_3,fQ_4,fQ_5,fQ_6,fQ_7,fQ_8,fQ_9,fQ_10,fQ_11] s2).2=none→FB:=fun h=>hb_1 (by rw [rdL_any (by decide),← hs2];exact h)
 obtain ⟨x_2,hx_2⟩:∃ x,x=dfF (dfP (d+2)) fQ_2:=⟨_,rfl⟩
 have hf_2:RepF (RepS true (d+2)) (szS true (d+2)) fQ_2 (fun b=>ok b∨w1.heap.size≤b) w2 (x_2) [zM,.int .i64 (-1),.map none]:=by rw [hx_2];exact (RepF_part rfl (by decide)).2 (RepS.introT (c:=[zM,.int .i64 (-1)]) (RepL.cons1 ((RepF_num (by decide)).2 rfl) (RepL.cons1 ((RepF_num (by decide)).2 rfl) RepL.nil)) (.inl ⟨rfl,rfl⟩))
 have hb_3:(rdL (rdQ (d+2) ver true) (dfP (d+2)) ver true [fQ_3,fQ_4,fQ_5,fQ_6,fQ_7,fQ_8,fQ_9,fQ_10,fQ_11] s2).2=none→FB:=fun h=>hb_2 (by rw [rdL_tg (by decide)];exact h)
 have hh_3:hasS fQ_3 ver=true:=hasS_t (by show (0:Int)≤ver;omega) (by show (-1:Int) < 0∨ver≤(-1:Int);omega)
 obtain ⟨x_3,hx_3⟩:∃ x,x=(rdF (rdQ (d+2) ver true) ver true fQ_3 s2).1:=⟨_,rfl⟩
 repeat ((first|refine qA ?_|apply qB|refine qC ?_|apply qD|apply qE|apply qF|apply qG|apply qH);try simp (disch:=omega) only [go_sem,hv_2,dN,dO,dP,dQ,dM])
 have hrd:rdF (rdQ (d+2) ver true) ver true fQ_3 s2=_:=rdF_num 3 rfl (by decide)
 refine (Int32_fn w2 hq2.1 hrok hG2.1 hgrb).mono ?_
 rintro _ w3 ⟨rfl,hq3,hu3⟩
 have hv_3:=hu3.blk_some hv_2 (by omega)
 have hV3:Upd (fun b=>b=vb∨b=rb) w2 w3:=hu3.mono (fun _ h=>.inr h)
 have hU3:=hU2.trans hV3
 have hz3:=hV3.size
 have hG3:=hG1.updS hU3 bK bM
 have hst:(rdF (rdQ (d+2) ver true) ver true fQ_3 s2).2=(rdInt .i32 4 s2).2:=by first|(rw [hrd];rfl)|rw [hrd]
 obtain ⟨s3,hs3⟩:∃ s,s=(rdF (rdQ (d+2) ver true) ver true fQ_3 s2).2:=⟨_,rfl⟩
 rw [← hst,← hs3] at hq3
 clear hst
 repeat ((first|refine qA ?_|apply qB|refine qC ?_|apply qD|apply qE|apply qF|apply qG|apply qH);try simp (disch:=omega) only [go_sem,hv_3,dN,dO,dP,dQ,dM])
 generalize hw4:wr w3 vb 6 [.int .i32 (rdInt .i32 4 s2).1] = w4
 have hS4:Upd (fun b=>b=vb∨b=rb) w3 w4:=by rw [← hw4];exact (Upd.refl _ _).wr _ _ (.inr (.inl rfl))
 have hv_4:blk w4 vb=some (#[.int .i16 ver,.pointer none,c_1,zM,.int .i64 (-1),.map none,.int .i32 (rdInt .i32 4 s2).1,.int .i32 0,.int .i32 2147483647,.int .i8 0,.int .i32 0,zM,zS,zS,zT,.map none],75,(0,0)):=by rw [← hw4,blk_wr_eq,hv_3];rfl
 have hV4:=hS4
 have hU4:=hU3.trans hV4
 have hz4:=hV4.size
 have hG4:=hG1.updS hU4 bK bM
 have hq4:=Rdr.stored hw4 hq3 (by omega) fun h=>by have:=(hok _ h).1;first|omega|exact (hok _ h).2 rfl
 clear hw4
 have hf_3:RepF (RepS true (d+2)) (szS true (d+2)) fQ_3 (fun b=>ok b∨w1.heap.size≤b) w4 (x_3) [.int .i32 (rdInt .i32 4 s2).1]:=(RepF_num (by decide)).2 (by rw [hx_3,hrd];exact congrArg (fun x=>[x]) (numC_rd 3 (by decide) 4 s2).symm)
 clear hrd
 have hb_4:(rdL (rdQ (d+2) ver true) (dfP (d+2)) ver true [fQ_4,fQ_5,fQ_6,fQ_7,fQ_8,fQ_9,fQ_10,fQ_11] s3).2=none→FB:=fun h=>hb_3 (by rw [rdL_st (by decide) hh_3,← hs3];exact h)
 have hh_4:hasS fQ_4 ver=true:=hasS_t (by show (0:Int)≤ver;omega) (by show (-1:Int) < 0∨ver≤(-1:Int);omega)
 obtain ⟨x_4,hx_4⟩:∃ x,x=(rdF (rdQ (d+2) ver true) ver true fQ_4 s3).1:=⟨_,rfl⟩
 repeat ((first|refine qA ?_|apply qB|refine qC ?_|apply qD|apply qE|apply qF|apply qG|apply qH);try simp (disch:=omega) only [go_sem,hv_4,dN,dO,dP,dQ,dM])
 have hrd:rdF (rdQ (d+2) ver true) ver true fQ_4 s3=_:=rdF_num 3 rfl (by decide)
 refine (Int32_fn w4 hq4.1 hrok hG4.1 hgrb).mono ?_
 rintro _ w5 ⟨rfl,hq5,hu5⟩
 have hv_5:=hu5.blk_some hv_4 (by omega)
 have hV5:Upd (fun b=>b=vb∨b=rb) w4 w5:=hu5.mono (fun _ h=>.inr h)
 have hU5:=hU4.trans hV5
 have hz5:=hV5.size
 have hG5:=hG1.updS hU5 bK bM
 have hst:(rdF (rdQ (d+2) ver true) ver true fQ_4 s3).2=(rdInt .i32 4 s3).2:=by first|(rw [hrd];rfl)|rw [hrd]
 obtain ⟨s4,hs4⟩:∃ s,s=(rdF (rdQ (d+2) ver true) ver true fQ_4 s3).2:=⟨_,rfl⟩
 rw [← hst,← hs4] at hq5
 clear hst
 repeat ((first|refine qA ?_|apply qB|refine qC ?_|apply qD|apply qE|apply qF|apply qG|apply qH);try simp (disch:=omega) only [go_sem,hv_5,dN,dO,dP,dQ,dM])
 generalize hw6:wr w5 vb 7 [.int .i32 (rdInt .i32 4 s3).1] = w6
 have hS6:Upd (fun b=>b=vb∨b=rb) w5 w6:=by rw [← hw6];exact (Upd.refl _ _).wr _ _ (.inr (.inl rfl))
 have hv_6:blk w6 vb=some (#[.int .i16 ver,.pointer none,c_1,zM,.int .i64 (-1),.map none,.int .i32 (rdInt .i32 4 s2).1,.int .i32 (rdInt .i32 4 s3).1,.int .i32 2147483647,.int .i8 0,.int .i32 0,zM,zS,zS,zT,.map none],75,(0,0)):=by rw [← hw6,blk_wr_eq,hv_5];rfl
 have hV6:=hS6
 have hU6:=hU5.trans hV6
 have hz6:=hV6.size
 have hG6:=hG1.updS hU6 bK bM
 have hq6:=Rdr.stored hw6 hq5 (by omega) fun h=>by have:=(hok _ h).1;first|omega|exact (hok _ h).2 rfl
 clear hw6
 have hf_4:RepF (RepS true (d+2)) (szS true (d+2)) fQ_4 (fun b=>ok b∨w1.heap.size≤b) w6 (x_4) [.int .i32 (rdInt .i32 4 s3).1]:=(RepF_num (by decide)).2 (by rw [hx_4,hrd];exact congrArg (fun x=>[x]) (numC_rd 3 (by decide) 4 s3).symm)
 clear hrd
 have hb_5:(rdL (rdQ (d+2) ver true) (dfP (d+2)) ver true [fQ_5,fQ_6,fQ_7,fQ_8,fQ_9,fQ_10,fQ_11] s4).2=none→FB:=fun h=>hb_4 (by rw [rdL_st (by decide) hh_4,← hs4];exact h)
 have hh_5:hasS fQ_5 ver=true:=hasS_t (by show (3:Int)≤ver;omega) (by show (-1:Int) < 0∨ver≤(-1:Int);omega)
 obtain ⟨x_5,hx_5⟩:∃ x,x=(rdF (rdQ (d+2) ver true) ver true fQ_5 s4).1:=⟨_,rfl⟩
 repeat ((first|refine qA ?_|apply qB|refine qC ?_|apply qD|apply qE|apply qF|apply qG|apply qH);try simp (disch:=omega) only [go_sem,hv_6,dN,dO,dP,dQ,dM])
 have hrd:rdF (rdQ (d+2) ver true) ver true fQ_5 s4=_:=rdF_num 3 rfl (by decide)
 refine (Int32_fn w6 hq6.1 hrok hG6.1 hgrb).mono ?_
 rintro _ w7 ⟨rfl,hq7,hu7⟩
 have hv_7:=hu7.blk_some hv_6 (by omega)
 have hV7:Upd (fun b=>b=vb∨b=rb) w6 w7:=hu7.mono (fun _ h=>.inr h)
 have hU7:=hU6.trans hV7
 have hz7:=hV7.size
 have hG7:=hG1.updS hU7 bK bM
 have hst:(rdF (rdQ (d+2) ver true) ver true fQ_5 s4).2=(rdInt .i32 4 s4).2:=by first|(rw [hrd];rfl)|rw [hrd]
 obtain ⟨s5,hs5⟩:∃ s,s=(rdF (rdQ (d+2) ver true) ver true fQ_5 s4).2:=⟨_,rfl⟩
 rw [← hst,← hs5] at hq7
 clear hst
 repeat ((first|refine qA ?_|apply qB|refine qC ?_|apply qD|apply qE|apply qF|apply qG|apply qH);try simp (disch:=omega) only [go_sem,hv_7,dN,dO,dP,dQ,dM])
 generalize hw8:wr w7 vb 8 [.int .i32 (rdInt .i32 4 s4).1] = w8
 have hS8:Upd (fun b=>b=vb∨b=rb) w7 w8:=by rw [← hw8];exact (Upd.refl _ _).wr _ _ (.inr (.inl rfl))
 have hv_8:blk w8 vb=some (#[.int .i16 ver,.pointer none,c_1,zM,.int .i64 (-1),.map none,.int .i32 (rdInt .i32 4 s2).1,.int .i32 (rdInt .i32 4 s3).1,.int .i32 (rdInt .i32 4 s4).1,.int .i8 0,.int .i32 0,zM,zS,zS,zT,.map none],75,(0,0)):=by rw [← hw8,blk_wr_eq,hv_7];rfl
 have hV8:=hS8
 have hU8:=hU7.trans hV8
 have hz8:=hV8.size
 have hG8:=hG1.updS hU8 bK bM
 have hq8:=Rdr.stored hw8 hq7 (by omega) fun h=>by have:=(hok _ h).1;first|omega|exact (hok _ h).2 rfl
 clear hw8
 have hf_5:RepF (RepS true (d+2)) (szS true (d+2)) fQ_5 (fun b=>ok b∨w1.heap.size≤b) w8 (x_5) [.int .i32 (rdInt .i32 4 s4).1]:=(RepF_num (by decide)).2 (by rw [hx_5,hrd];exact congrArg (fun x=>[x]) (numC_rd 3 (by decide) 4 s4).symm)
 clear hrd
 have hb_6:(rdL (rdQ (d+2) ver true) (dfP (d+2)) ver true [fQ_6,fQ_7,fQ_8,fQ_9,fQ_10,fQ_11] s5).2=none→FB:=fun h=>hb_5 (by rw [rdL_st (by decide) hh_5,← hs5];exact h)
 have hh_6:hasS fQ_6 ver=true:=hasS_t (by show (4:Int)≤ver;omega) (by show (-1:Int) < 0∨ver≤(-1:Int);omega)
 obtain ⟨x_6,hx_6⟩:∃ x,x=(rdF (rdQ (d+2) ver true) ver true fQ_6 s5).1:=⟨_,rfl⟩
 repeat ((first|refine qA ?_|apply qB|refine qC ?_|apply qD|apply qE|apply qF|apply qG|apply qH);try simp (disch:=omega) only [go_sem,hv_8,dN,dO,dP,dQ,dM])
 have hrd:rdF (rdQ (d+2) ver true) ver true fQ_6 s5=_:=rdF_num 1 rfl (by decide)
 refine (Int8_fn w8 hq8.1 hrok).mono ?_
 rintro _ w9 ⟨rfl,hq9,hu9⟩
 have hv_9:=hu9.blk_some hv_8 (by omega)
 have hV9:Upd (fun b=>b=vb∨b=rb) w8 w9:=hu9.mono (fun _ h=>.inr h)
 have hU9:=hU8.trans hV9
 have hz9:=hV9.size
 have hG9:=hG1.updS hU9 bK bM
 have hst:(rdF (rdQ (d+2) ver true) ver true fQ_6 s5).2=(rdInt .i8 1 s5).2:=by first|(rw [hrd];rfl)|rw [hrd]
 obtain ⟨s6,hs6⟩:∃ s,s=(rdF (rdQ (d+2) ver true) ver true fQ_6 s5).2:=⟨_,rfl⟩
 rw [← hst,← hs6] at hq9
 clear hst
 repeat ((first|refine qA ?_|apply qB|refine qC ?_|apply qD|apply qE|apply qF|apply qG|apply qH);try simp (disch:=omega) only [go_sem,hv_9,dN,dO,dP,dQ,dM])
 generalize eZ:wr w9 vb 9 [.int .i8 (rdInt .i8 1 s5).1] = w10
 have EV:Upd (fun b=>b=vb∨b=rb) w9 w10:=by rw [← eZ];exact (Upd.refl _ _).wr _ _ (.inr (.inl rfl))
 have hv_10:blk w10 vb=some (#[.int .i16 ver,.pointer none,c_1,zM,.int .i64 (-1),.map none,.int .i32 (rdInt .i32 4 s2).1,.int .i32 (rdInt .i32 4 s3).1,.int .i32 (rdInt .i32 4 s4).1,.int .i8 (rdInt .i8 1 s5).1,.int .i32 0,zM,zS,zS,zT,.map none],75,(0,0)):=by rw [← eZ,blk_wr_eq,hv_9];rfl
 have eF:=EV
 have eK:=hU9.trans eF
 have hz10:=eF.size
 have vO:=hG1.updS eK bK bM
 have gR:=Rdr.stored eZ hq9 (by omega) fun h=>by have:=(hok _ h).1;first|omega|exact (hok _ h).2 rfl
 clear eZ
 have hf_6:RepF (RepS true (d+2)) (szS true (d+2)) fQ_6 (fun b=>ok b∨w1.heap.size≤b) w10 (x_6) [.int .i8 (rdInt .i8 1 s5).1]:=(RepF_num (by decide)).2 (by rw [hx_6,hrd];exact congrArg (fun x=>[x]) (numC_rd 1 (by decide) 1 s5).symm)
 clear hrd
 have hb_7:(rdL (rdQ (d+2) ver true) (dfP (d+2)) ver true [fQ_7,fQ_8,fQ_9,fQ_10,fQ_11] s6).2=none→FB:=fun h=>hb_6 (by rw [rdL_st (by decide) hh_6,← hs6];exact h)
 have hh_7:hasS fQ_7 ver=true:=hasS_t (by show (7:Int)≤ver;omega) (by show (-1:Int) < 0∨ver≤(-1:Int);omega)
 obtain ⟨x_7,hx_7⟩:∃ x,x=(rdF (rdQ (d+2) ver true) ver true fQ_7 s6).1:=⟨_,rfl⟩
 repeat ((first|refine qA ?_|apply qB|refine qC ?_|apply qD|apply qE|apply qF|apply qG|apply qH);try simp (disch:=omega) only [go_sem,hv_10,dN,dO,dP,dQ,dM])
 have hrd:rdF (rdQ (d+2) ver true) ver true fQ_7 s6=_:=rdF_num 3 rfl (by decide)
 refine (Int32_fn w10 gR.1 hrok vO.1 hgrb).mono ?_
 rintro _ w11 ⟨rfl,eC,t7⟩
 have hv_11:=t7.blk_some hv_10 (by omega)
 have eH:Upd (fun b=>b=vb∨b=rb) w10 w11:=t7.mono (fun _ h=>.inr h)
 have fA:=eK.trans eH
 have yZ:=eH.size
 have zF:=hG1.updS fA bK bM
 have hst:(rdF (rdQ (d+2) ver true) ver true fQ_7 s6).2=(rdInt .i32 4 s6).2:=by first|(rw [hrd];rfl)|rw [hrd]
 obtain ⟨s7,hs7⟩:∃ s,s=(rdF (rdQ (d+2) ver true) ver true fQ_7 s6).2:=⟨_,rfl⟩
 rw [← hst,← hs7] at eC
 clear hst
 repeat ((first|refine qA ?_|apply qB|refine qC ?_|apply qD|apply qE|apply qF|apply qG|apply qH);try simp (disch:=omega) only [go_sem,hv_11,dN,dO,dP,dQ,dM])
 generalize iZ:wr w11 vb 10 [.int .i32 (rdInt .i32 4 s6).1] = w12
 have EW:Upd (fun b=>b=vb∨b=rb) w11 w12:=by rw [← iZ];exact (Upd.refl _ _).wr _ _ (.inr (.inl rfl))
 have hv_12:blk w12 vb=some (#[.int .i16 ver,.pointer none,c_1,zM,.int .i64 (-1),.map none,.int .i32 (rdInt .i32 4 s2).1,.int .i32 (rdInt .i32 4 s3).1,.int .i32 (rdInt .i32 4 s4).1,.int .i8 (rdInt .i8 1 s5).1,.int .i32 (rdInt .i32 4 s6).1,zM,zS,zS,zT,.map none],75,(0,0)):=by rw [← iZ,blk_wr_eq,hv_11];rfl
 have fG:=EW
 have fD:=fA.trans fG
 have DP:=fG.size
 have zG:=hG1.updS fD bK bM
 have dT:=Rdr.stored iZ eC (by omega) fun h=>by have:=(hok _ h).1;first|omega|exact (hok _ h).2 rfl
 clear iZ
 have hf_7:RepF (RepS true (d+2)) (szS true (d+2)) fQ_7 (fun b=>ok b∨w1.heap.size≤b) w12 (x_7) [.int .i32 (rdInt .i32 4 s6).1]:=(RepF_num (by decide)).2 (by rw [hx_7,hrd];exact congrArg (fun x=>[x]) (numC_rd 3 (by decide) 4 s6).symm)
 clear hrd
 have hb_8:(rdL (rdQ (d+2) ver true) (dfP (d+2)) ver true [fQ_8,fQ_9,fQ_10,fQ_11] s7).2=none→FB:=fun h=>hb_7 (by rw [rdL_st (by decide) hh_7,← hs7];exact h)
 have hh_8:hasS fQ_8 ver=true:=hasS_t (by show (7:Int)≤ver;omega) (by show (-1:Int) < 0∨ver≤(-1:Int);omega)
 obtain ⟨x_8,hx_8⟩:∃ x,x=(rdF (rdQ (d+2) ver true) ver true fQ_8 s7).1:=⟨_,rfl⟩
 repeat ((first|refine qA ?_|apply qB|refine qC ?_|apply qD|apply qE|apply qF|apply qG|apply qH);try simp (disch:=omega) only [go_sem,hv_12,dN,dO,dP,dQ,dM])
 have hrd:rdF (rdQ (d+2) ver true) ver true fQ_8 s7=_:=rdF_num 3 rfl (by decide)
 refine (Int32_fn w12 dT.1 hrok zG.1 hgrb).mono ?_
 rintro _ w13 ⟨rfl,lD,NS⟩
 have hv_13:=NS.blk_some hv_12 (by omega)
 have pN:Upd (fun b=>b=vb∨b=rb) w12 w13:=NS.mono (fun _ h=>.inr h)
 have tK:=fD.trans pN
 have ID:=pN.size
 have hG13:=hG1.updS tK bK bM
 have hst:(rdF (rdQ (d+2) ver true) ver true fQ_8 s7).2=(rdInt .i32 4 s7).2:=by first|(rw [hrd];rfl)|rw [hrd]
 obtain ⟨s8,hs8⟩:∃ s,s=(rdF (rdQ (d+2) ver true) ver true fQ_8 s7).2:=⟨_,rfl⟩
 rw [← hst,← hs8] at lD
 clear hst
 repeat ((first|refine qA ?_|apply qB|refine qC ?_|apply qD|apply qE|apply qF|apply qG|apply qH);try simp (disch:=omega) only [go_sem,hv_13,dN,dO,dP,dQ,dM])
 generalize CE:wr w13 vb 11 [.int .i32 (rdInt .i32 4 s7).1] = w14
 have SO:Upd (fun b=>b=vb∨b=rb) w13 w14:=by rw [← CE];exact (Upd.refl _ _).wr _ _ (.inr (.inl rfl))
 have hv_14:blk w14 vb=some (#[.int .i16 ver,.pointer none,c_1,zM,.int .i64 (-1),.map none,.int .i32 (rdInt .i32 4 s2).1,.int .i32 (rdInt .i32 4 s3).1,.int .i32 (rdInt .i32 4 s4).1,.int .i8 (rdInt .i8 1 s5).1,.int .i32 (rdInt .i32 4 s6).1,.int .i32 (rdInt .i32 4 s7).1,zS,zS,zT,.map none],75,(0,0)):=by rw [← CE,blk_wr_eq,hv_13];rfl
 have AB:=SO
 have vT:=tK.trans AB
 have Q1:=AB.size
 have J6:=hG1.updS vT bK bM
 have lU:=Rdr.stored CE lD (by omega) fun h=>by have:=(hok _ h).1;first|omega|exact (hok _ h).2 rfl
 clear CE
 have hf_8:RepF (RepS true (d+2)) (szS true (d+2)) fQ_8 (fun b=>ok b∨w1.heap.size≤b) w14 (x_8) [.int .i32 (rdInt .i32 4 s7).1]:=(RepF_num (by decide)).2 (by rw [hx_8,hrd];exact congrArg (fun x=>[x]) (numC_rd 3 (by decide) 4 s7).symm)
 clear hrd
 have hb_9:(rdL (rdQ (d+2) ver true) (dfP (d+2)) ver true [fQ_9,fQ_10,fQ_11] s8).2=none→FB:=fun h=>hb_8 (by rw [rdL_st (by decide) hh_8,← hs8];exact h)
 have hh_9:hasS fQ_9 ver=true:=hasS_t (by show (0:Int)≤ver;omega) (by show (-1:Int) < 0∨ver≤(-1:Int);omega)
 obtain ⟨x_9,hx_9⟩:∃ x,x=(rdF (rdQ (d+2) ver true) ver true fQ_9 s8).1:=⟨_,rfl⟩
 repeat ((first|refine qA ?_|apply qB|refine qC ?_|apply qD|apply qE|apply qF|apply qG|apply qH);try simp (disch:=omega) only [go_sem,hv_14,dN,dO,dP,dQ,dM])
 refine (RCompactArrayLen_fn w14 lU.1 hrok J6.1 hgrb).mono ?_
 rintro _ w15 ⟨rfl,kI,uV⟩
 have hv_15:=uV.blk_some hv_14 (by omega)
 have lK:Upd (fun b=>b=vb∨b=rb) w14 w15:=uV.mono (fun _ h=>.inr h)
 have pH:=vT.trans lK
 have hz15:=lK.size
 have EC:=hG1.updS pH bK bM
 obtain ⟨s9,hs9⟩:∃ s,s=(rdALen true s8).2:=⟨_,rfl⟩
 rw [← hs9] at kI
 have hyr0:=rdALen_rng true s8
 generalize hy0:(rdALen true s8).1=y0 at *
 obtain ⟨N0,hN0⟩:∃ N,N=y0.toNat:=⟨_,rfl⟩
 have wW:(rdMany (rd1 (rdQ (d+2) ver true) fQ_9.of fQ_9.sub false true) N0 s9).2=none→FB:=fun h=>hb_9 (by rw [rdL_st (by decide) hh_9];exact rdLQ_bad (rdFQ_listbad rfl (by rw [hy0,← hN0,← hs9];exact h)))
 repeat ((first|refine W.seqR rfl ?_|refine W.seq ?_|refine W.regR rfl ?_|refine W.block ?_|refine W.skip ?_|refine W.ret ?_|refine W.exit ?_);try simp (disch:=omega) only [go_sem,hv_15,dN,dO,dP,dQ,dM])
 refine (ROk_fn w15 kI.1).mono ?_
 rintro _ wz ⟨rfl,hez⟩
 rw [hez]
 clear hez wz
 by_cases lV:s9=none
 ·have hso:s9.isSome=false:=by rw [lV];rfl
  repeat (first|simp (disch:=omega) only [go_sem,hv_15,dN,dO,dP,dQ,dM,hso]|refine qA ?_|apply qB|refine qC ?_|apply qD|apply qE|apply qF|apply qG|apply qH)
  refine (RComplete_fn w15 kI.1 EC.2).mono ?_
  rintro _ wz ⟨rfl,hez⟩
  rw [hez]
  repeat (first|simp (disch:=omega) only [go_sem,hv_15,dN,dO,dP,dQ,dM]|refine qA ?_|apply qB|refine qC ?_|apply qD|apply qE|apply qF|apply qG|apply qH)
  rw [errV_none lV]
  exact ReadQ.bad (Eq.mp hFB (wW (by rw [lV];exact rdMany_none rd1Q_none _))) (hbase.trans' pH fun i hi h=>h.elim id fun h=>by omega)
 have lZ:s9.isSome=true:=isSome_some lV
 try simp (disch:=omega) only [go_sem,hv_15,dN,dO,dP,dQ,dM,lZ]
 repeat ((first|refine W.seqR rfl ?_|refine W.seq ?_|refine W.regR rfl ?_|refine W.block ?_|refine W.skip ?_|refine W.ret ?_|refine W.exit ?_);try simp (disch:=omega) only [go_sem,hv_15,dN,dO,dP,dQ,dM,lZ])
 refine W.condK ?_
 try simp (disch:=omega) only [go_sem,hv_15,dN,dO,dP,dQ,dM,lZ]
 repeat ((first|refine W.seqR rfl ?_|refine W.seq ?_|refine W.regR rfl ?_|refine W.block ?_|refine W.skip ?_|refine W.ret ?_|refine W.exit ?_);try simp (disch:=omega) only [go_sem,hv_15,dN,dO,dP,dQ,dM,lZ,slBase_00])
 refine W.normJ (RowQ [(2,zB),(7,.pointer (some ⟨rb,0,none⟩)),(8,.int .i16 ver),(9,.bool true),(10,.pointer (some ⟨vb,0,none⟩)),(20,.int .i32 y0)] 19 (fun va w'=>LstI RT (rd1 (rdQ (d+2) ver true) fQ_9.of fQ_9.sub false true) (Rep1 (RepS true (d+2)) fQ_9.of fQ_9.sub) 19 85 [zT,zZ,zZ,zZ,zZ,zZ,zZ,zZ,zZ,zZ,zZ,zZ,zZ,zZ,zZ,zZ,zZ,zS,.map none] w15.heap.size N0 ok (fun b=>ok b∨w1.heap.size≤b) rb w15 s9 va 0 s9 [] [] w'∧(N0=0→if nilS fQ_9 ver y0=true then va=zS else ∃ a,va = .slice (some a) 0 0))) ?_ ?_
 ·by_cases hy0:(0:Int) < y0
  ·have hyv:Value.int .i32 y0 = .int .i32 ((N0:Nat):Int):=by rw [show y0=((N0:Nat):Int) by omega]
   repeat ((first|refine qA ?_|apply qB|refine qC ?_|apply qD|apply qE|apply qF|apply qG|apply qH);try simp (disch:=omega) only [go_sem,hv_15,dN,dO,dP,dQ,dM])
   refine wp_appendZ (m:=N0) utQ_72 utQ_21 inQ_85 (by decide) (by first|rfl|simp (disch:=omega) only [go_sem,dN,dO,dP,dQ,dM]) (by first|exact hyv|(simp (disch:=omega) only [go_sem,dN,dO,dP,dQ,dM];exact hyv)) (by omega) (by omega) (by decide) ?_
   intro q rest hq1
   have hEw:Ext w15 (w15.drew.alloc (.cells (zs [zT,zZ,zZ,zZ,zZ,zZ,zZ,zZ,zZ,zZ,zZ,zZ,zZ,zZ,zZ,zZ,zZ,zS,.map none] N0++rest).toArray 85)):=(Upd.refl _ _).drew.alloc _
   repeat (first|simp (disch:=omega) only [go_sem,hv_15,dN,dO,dP,dQ,dM]|refine qA ?_|apply qB|refine qC ?_|apply qD|apply qE|apply qF|apply qG|apply qH)
   exact ⟨(by simp (disch:=omega) only [go_sem,Holds_nil,Holds_cons,dN,dO,dP,dQ,dM]),.slice (some ⟨w15.heap.size,0,none⟩) N0 q,(by simp (disch:=omega) only [go_sem,dN,dO,dP,dQ,dM]),LstI.start (RowJ.start (by omega) hq1 (by show w15.heap.size≤w15.drew.heap.size;rw [size_drew];omega) (blk_alloc_new rfl)) ⟨kI.1.upd hEw (fun h=>h) (fun _ _ _ h=>h),kI.2.upd hEw fun h=>h⟩ (hEw.mono fun _ h=>h.elim),fun h0=>by omega⟩
  ·repeat ((first|refine qA ?_|apply qB|refine qC ?_|apply qD|apply qE|apply qF|apply qG|apply qH);try simp (disch:=omega) only [go_sem,hv_15,dN,dO,dP,dQ,dM])
   exact ⟨(by simp (disch:=omega) only [go_sem,Holds_nil,Holds_cons,dN,dO,dP,dQ,dM]),zS,(by simp (disch:=omega) only [go_sem,dN,dO,dP,dQ,dM,slBase_00]),LstI.start (RowJ.zero (by omega) (fun _ h=>by cases h)) kI (Upd.refl _ _),fun _=>by rw [nilS_plain (by decide) (by omega)];exact rfl⟩
 rintro ρ w16 ⟨⟨qY,r0,r6,r8,qX,qZ,-⟩,va0,cA,hL0,xE⟩
 repeat ((first|refine qA ?_|apply qB|refine qC ?_|apply qD|apply qE|apply qF|apply qG|apply qH);try simp (disch:=omega) only [go_sem,hv_15,qY,r0,r6,r8,qX,qZ,cA])
 refine W.exitRJ 0 (EndQ [(2,zB),(7,.pointer (some ⟨rb,0,none⟩)),(8,.int .i16 ver),(9,.bool true),(10,.pointer (some ⟨vb,0,none⟩)),(20,.int .i32 y0),(19,va0)] (fun w'=>∃ s xs css,LstI RT (rd1 (rdQ (d+2) ver true) fQ_9.of fQ_9.sub false true) (Rep1 (RepS true (d+2)) fQ_9.of fQ_9.sub) 19 85 [zT,zZ,zZ,zZ,zZ,zZ,zZ,zZ,zZ,zZ,zZ,zZ,zZ,zZ,zZ,zZ,zZ,zS,.map none] w15.heap.size N0 ok (fun b=>ok b∨w1.heap.size≤b) rb w15 s9 va0 N0 s xs css w')) (W.loop (LoopQ [(2,zB),(7,.pointer (some ⟨rb,0,none⟩)),(8,.int .i16 ver),(9,.bool true),(10,.pointer (some ⟨vb,0,none⟩)),(20,.int .i32 y0),(19,va0)] 21 (fun j w'=>∃ s xs css,LstI RT (rd1 (rdQ (d+2) ver true) fQ_9.of fQ_9.sub false true) (Rep1 (RepS true (d+2)) fQ_9.of fQ_9.sub) 19 85 [zT,zZ,zZ,zZ,zZ,zZ,zZ,zZ,zZ,zZ,zZ,zZ,zZ,zZ,zZ,zZ,zZ,zS,.map none] w15.heap.size N0 ok (fun b=>ok b∨w1.heap.size≤b) rb w15 s9 va0 j s xs css w')) (fun ρ _=>N0 - (RowKit.intOf (ρ 21)).toNat) ?_ ?_) ?_
 ·exact ⟨(by simp (disch:=omega) only [go_sem,Holds_nil,Holds_cons,qY,r0,r6,r8,qX,qZ,cA]),0,(by simp (disch:=omega) only [go_sem,qY,r0,r6,r8,qX,qZ,cA];all_goals rfl),s9,[],[],hL0⟩
 ·rintro ρ w17 ⟨⟨cH,cJ,cM,cO,cF,cI,rZ,-⟩,j1,cX,s10,xs0,css0,hL0⟩
  have hj0:=hL0.le
  have dS:=hL0.rd
  have lJ:Upd (fun b=>b=vb∨b=rb) w1 w17:=pH.trans' hL0.upd fun i _ h=>.inr h
  have Q2:=hL0.upd.size
  have J7:Glo ev w17:=hG1.updS lJ bK bM
  by_cases qN:j1 < N0
  ·obtain ⟨R1,q1,B1,eY,EP,EN,hA1,tB,kG⟩:=hL0.row.next qN
   have ET:=blk_lt tB
   generalize css0.flatten=A1 at hA1 tB kG
   replace cA:ρ 19 = .slice (some ⟨R1,0,none⟩) N0 q1:=rZ.trans eY
   have jG:∀ b,ownB va0 b→w15.heap.size≤b∧b < w17.heap.size:=fun b h=>hL0.row.own h
   have dL:∀ b,(fun b=>(ok b∨w1.heap.size≤b)∧¬ ownB va0 b) b→¬ (b=R1∨b=rb):=fun b hk h=>h.elim (fun e=>hk.2 ⟨_,_,_,eY,e⟩) (fun e=>hoM b hk.1 (.inr e))
   obtain ⟨X17,AQ,I8,UM⟩:=el_open (n:=19) tB hA1 rfl
   repeat ((first|refine qA ?_|apply qB|refine qC ?_|apply qD|apply qE|apply qF|apply qG|apply qH);try simp (disch:=omega) only [go_sem,I8,cH,cJ,cM,cO,cF,cI,cA,cX])
   refine (DefaultEX3_fn w17 tB hA1).mono ?_
   rintro _ w18 ⟨uY,uW⟩
   have iY:=And.intro (dS.1.upd uW (by omega) (fun b _ hk e=>by have:=(hok b hk).1;omega)) (dS.2.upd uW (by omega))
   have kC:Upd (fun b=>b=R1∨b=rb) w17 w18:=uW.mono (fun _ h=>.inl h)
   have jI:=lJ.trans' kC fun i hi h=>h.elim (fun h=>by omega) .inr
   have Q3:=kC.size
   have ED:=hG1.updS jI bK bM
   obtain ⟨X18,AR,gM,UN⟩:=el_open (n:=19) uY hA1 rfl
   have FZ:(rdL (rdQ (d+1) ver true) (dfP (d+1)) ver true [fX3_0,fX3_1,fX3_2] s10).2=none→FB:=fun h=>wW (hL0.bad qN rd1Q_none (by show (rd1 (rdQ (d+2) ver true) 10 fs_X3 false true s10).2=none;rw [rd1_part];exact rdQ_bad h))
   repeat ((first|refine W.seqR rfl ?_|refine W.seq ?_|refine W.regR rfl ?_|refine W.block ?_|refine W.skip ?_|refine W.ret ?_|refine W.exit ?_);try simp (disch:=omega) only [go_sem,gM,cH,cJ,cM,cO,cF,cI,cA,cX])
   refine W.normJ (EndQ [(2,zB),(7,.pointer (some ⟨rb,0,none⟩)),(8,.int .i16 ver),(9,.bool true),(10,.pointer (some ⟨vb,0,none⟩)),(20,.int .i32 y0),(19,.slice (some ⟨R1,0,none⟩) N0 q1),(21,.int .i32 j1),(23,.pointer (some ⟨R1,j1 * 19,none⟩))] fun w'=>∃ (x:Tree) (st:St) (c:Value),x=(rdA (rdQ (d+1) ver true) (dfP (d+1)) ver true fX3_0 s10).1∧st=(rdA (rdQ (d+1) ver true) (dfP (d+1)) ver true fX3_0 s10).2∧blk w' R1=some ((A1++(([c,zZ,zZ,zZ,zZ,zZ,zZ,zZ,zZ,zZ,zZ,zZ,zZ,zZ,zZ,zZ,zZ,zS,.map none]:List Value)++B1)).toArray,85,(0,0))∧RepF (RepS true (d+1)) (szS true (d+1)) fX3_0 (fun b=>(ok b∨w1.heap.size≤b)∧¬ ownB va0 b) w' x [c]∧(Rdr RT ok w' rb st∧NN w' rb st)∧Upd (fun b=>b=R1∨b=rb) w18 w') ?_ ?_
   ·by_cases hvc_:ver≤(12:Int)
    ·have hyes:hasS fX3_0 ver=true:=hasS_t (by show (0:Int)≤ver;omega) (by show (12:Int) < 0∨ver≤(12:Int);omega)
     repeat ((first|refine qA ?_|apply qB|refine qC ?_|apply qD|apply qE|apply qF|apply qG|apply qH);try simp (disch:=omega) only [go_sem,gM,cH,cJ,cM,cO,cF,cI,cA,cX,hvc_])
     have hhe0g_0:hasS fX3_0 ver=true:=hasS_t (by show (0:Int)≤ver;omega) (by show (12:Int) < 0∨ver≤(12:Int);omega)
     obtain ⟨xe0g_0,PO⟩:∃ x,x=(rdF (rdQ (d+1) ver true) ver true fX3_0 s10).1:=⟨_,rfl⟩
     repeat ((first|refine qA ?_|apply qB|refine qC ?_|apply qD|apply qE|apply qF|apply qG|apply qH);try simp (disch:=omega) only [go_sem,gM,cH,cJ,cM,cO,cF,cI,cA,cX])
     have hmay:mayS fX3_0 ver=false:=mayS_no (by show (-1:Int) < 0∨ver < (-1:Int);omega)
     have hrd:rdF (rdQ (d+1) ver true) ver true fX3_0 s10=_:=rdF_text rfl hmay
     refine (RCompactString_fn w18 iY.1 hrok ED.1 hgrb).mono ?_
     rintro _ w19 ⟨rfl,u5,C9⟩
     have uZ:=C9.blk_some uY (by omega)
     have kD:Upd (fun b=>b=R1∨b=rb) w18 w19:=C9.mono (fun _ h=>.inr h)
     have l0:=jI.trans' kD fun i hi h=>h.elim (fun h=>by omega) .inr
     have DQ:=kD.size
     have RK:=hG1.updS l0 bK bM
     obtain ⟨X19,mR,vC,UO⟩:=el_open (n:=19) uZ hA1 rfl
     have hst:(rdF (rdQ (d+1) ver true) ver true fX3_0 s10).2=(rdStr true s10).2:=by first|(rw [hrd];rfl)|rw [hrd]
     obtain ⟨s11,xZ⟩:∃ s,s=(rdF (rdQ (d+1) ver true) ver true fX3_0 s10).2:=⟨_,rfl⟩
     rw [← hst,← xZ] at u5
     clear hst
     have ZP:j1 * 19+1≤X19.size:=by omega
     repeat ((first|refine qA ?_|apply qB|refine qC ?_|apply qD|apply qE|apply qF|apply qG|apply qH);try simp (disch:=omega) only [go_sem,vC,cH,cJ,cM,cO,cF,cI,cA,cX,ZP])
     generalize CG:wr w19 R1 (j1 * 19) [strV (rdStr true s10).1] = w20
     have EY:Upd (fun b=>b=R1∨b=rb) w19 w20:=by rw [← CG];exact (Upd.refl _ _).wr _ _ (.inr (.inl rfl))
     have oP:blk w20 R1=some ((A1++(([strV (rdStr true s10).1,zZ,zZ,zZ,zZ,zZ,zZ,zZ,zZ,zZ,zZ,zZ,zZ,zZ,zZ,zZ,zZ,zS,.map none]:List Value)++B1)).toArray,85,(0,0)):=by rw [← CG];exact el_blk0 uZ hA1 (Nat.le_of_ble_eq_true rfl)
     have iU:=EY
     have iP:=l0.trans' iU fun i hi h=>h.elim (fun h=>by omega) .inr
     have DR:=iU.size
     have zH:=hG1.updS iP bK bM
     have kJ:=Rdr.stored CG u5 (by omega) fun h=>by have:=(hok _ h).1;first|omega|exact (hok _ h).2 rfl
     obtain ⟨X20,tV,tD,FP⟩:=el_open (n:=19) oP hA1 rfl
     clear CG
     have W2:RepF (RepS true (d+1)) (szS true (d+1)) fX3_0 (fun b=>(ok b∨w1.heap.size≤b)∧¬ ownB va0 b) w20 (xe0g_0) [strV (rdStr true s10).1]:=(RepF_text rfl (by decide)).2 (by rw [PO,hrd];rfl)
     clear hrd
     repeat ((first|refine qA ?_|apply qB|refine qC ?_|apply qD|apply qE|apply qF|apply qG|apply qH);try simp (disch:=omega) only [go_sem,tD,cH,cJ,cM,cO,cF,cI,cA,cX])
     exact ⟨(by simp (disch:=omega) only [go_sem,Holds_nil,Holds_cons,cH,cJ,cM,cO,cF,cI,cA,cX]),_,_,_,(by rw [rdA_yes hyes];exact PO),(by rw [rdA_yes hyes];exact xZ),oP,W2,kJ,(kD.trans iU)⟩
    ·have hno:hasS fX3_0 ver=false:=hasS_f (by show ver < 0∨(0≤(12:Int)∧(12:Int) < ver);omega)
     repeat ((first|refine qA ?_|apply qB|refine qC ?_|apply qD|apply qE|apply qF|apply qG|apply qH);try simp (disch:=omega) only [go_sem,gM,cH,cJ,cM,cO,cF,cI,cA,cX,hvc_])
     exact ⟨(by simp (disch:=omega) only [go_sem,Holds_nil,Holds_cons,cH,cJ,cM,cO,cF,cI,cA,cX]),_,_,_,(by rw [rdA_no hno];try rfl),(by rw [rdA_no hno]),uY,(RepF_text rfl (by decide)).2 rfl,iY,Upd.refl _ _⟩
   rintro ρ w19 ⟨⟨nT,nX,nY,nZ,nR,nU,nS,nV,nW,-⟩,xe0_0,s12,ce0_0,DJ,uD,uZ,GC,u5,C9⟩
   have kD:Upd (fun b=>b=R1∨b=rb) w18 w19:=C9.mono (fun _ h=>h)
   have l0:=jI.trans' kD fun i hi h=>h.elim (fun h=>by omega) .inr
   have DQ:=kD.size
   have RK:=hG1.updS l0 bK bM
   obtain ⟨X19,mR,vC,UO⟩:=el_open (n:=19) uZ hA1 rfl
   have G0:(rdL (rdQ (d+1) ver true) (dfP (d+1)) ver true [fX3_1,fX3_2] s12).2=none→FB:=fun h=>FZ (by rw [rdL_any (by decide),← uD];exact h)
   repeat ((first|refine W.seqR rfl ?_|refine W.seq ?_|refine W.regR rfl ?_|refine W.block ?_|refine W.skip ?_|refine W.ret ?_|refine W.exit ?_);try simp (disch:=omega) only [go_sem,vC,nT,nX,nY,nZ,nR,nU,nS,nV,nW])
   refine W.normJ (EndQ [(2,zB),(7,.pointer (some ⟨rb,0,none⟩)),(8,.int .i16 ver),(9,.bool true),(10,.pointer (some ⟨vb,0,none⟩)),(20,.int .i32 y0),(19,.slice (some ⟨R1,0,none⟩) N0 q1),(21,.int .i32 j1),(23,.pointer (some ⟨R1,j1 * 19,none⟩))] fun w'=>∃ (x:Tree) (st:St) (c0 c1 c2 c3 c4 c5 c6 c7 c8 c9 c10 c11 c12 c13 c14 c15:Value),x=(rdA (rdQ (d+1) ver true) (dfP (d+1)) ver true fX3_1 s12).1∧st=(rdA (rdQ (d+1) ver true) (dfP (d+1)) ver true fX3_1 s12).2∧blk w' R1=some ((A1++(([ce0_0,c0,c1,c2,c3,c4,c5,c6,c7,c8,c9,c10,c11,c12,c13,c14,c15,zS,.map none]:List Value)++B1)).toArray,85,(0,0))∧RepF (RepS true (d+1)) (szS true (d+1)) fX3_1 (fun b=>(ok b∨w1.heap.size≤b)∧¬ ownB va0 b) w' x [c0,c1,c2,c3,c4,c5,c6,c7,c8,c9,c10,c11,c12,c13,c14,c15]∧(Rdr RT ok w' rb st∧NN w' rb st)∧Upd (fun b=>b=R1∨b=rb) w19 w') ?_ ?_
   ·by_cases hvc_:(13:Int)≤ver
    ·have hyes:hasS fX3_1 ver=true:=hasS_t (by show (13:Int)≤ver;omega) (by show (-1:Int) < 0∨ver≤(-1:Int);omega)
     repeat ((first|refine qA ?_|apply qB|refine qC ?_|apply qD|apply qE|apply qF|apply qG|apply qH);try simp (disch:=omega) only [go_sem,vC,nT,nX,nY,nZ,nR,nU,nS,nV,nW,hvc_])
     have hhe0g_1:hasS fX3_1 ver=true:=hasS_t (by show (13:Int)≤ver;omega) (by show (-1:Int) < 0∨ver≤(-1:Int);omega)
     obtain ⟨xe0g_1,PP⟩:∃ x,x=(rdF (rdQ (d+1) ver true) ver true fX3_1 s12).1:=⟨_,rfl⟩
     repeat ((first|refine qA ?_|apply qB|refine qC ?_|apply qD|apply qE|apply qF|apply qG|apply qH);try simp (disch:=omega) only [go_sem,vC,nT,nX,nY,nZ,nR,nU,nS,nV,nW])
     have hrd:rdF (rdQ (d+1) ver true) ver true fX3_1 s12=_:=rdF_uuid rfl
     refine (RUuid_fn w19 u5.1 hrok).mono ?_
     rintro _ w20 ⟨rfl,kJ,CA⟩
     have oP:=CA.blk_some uZ (by omega)
     have iU:Upd (fun b=>b=R1∨b=rb) w19 w20:=CA.mono (fun _ h=>.inr h)
     have iP:=l0.trans' iU fun i hi h=>h.elim (fun h=>by omega) .inr
     have DR:=iU.size
     have zH:=hG1.updS iP bK bM
     obtain ⟨X20,tV,tD,FP⟩:=el_open (n:=19) oP hA1 rfl
     have hst:(rdF (rdQ (d+1) ver true) ver true fX3_1 s12).2=(rdSpan 16 s12).2:=by first|(rw [hrd];rfl)|rw [hrd]
     obtain ⟨s13,MS⟩:∃ s,s=(rdF (rdQ (d+1) ver true) ver true fX3_1 s12).2:=⟨_,rfl⟩
     rw [← hst,← MS] at kJ
     clear hst
     have hl16:((uuidS (rdSpan 16 s12).1).map byteV).length=16:=by rw [List.length_map,uuidS_len]
     have oO:=flat_bytes (uuidS (rdSpan 16 s12).1)
     have hxe:xe0g_1 = .oct false (uuidS (rdSpan 16 s12).1):=by rw [PP,hrd]
     have hxc:(uuidS (xe0g_1).s).map byteV=(uuidS (rdSpan 16 s12).1).map byteV:=by rw [hxe];show (uuidS (uuidS _)).map byteV=_;rw [uuidS_idem]
     generalize (uuidS (rdSpan 16 s12).1).map byteV=Xu at *
     obtain ⟨ue0g1_0,ue0g1_1,ue0g1_2,ue0g1_3,ue0g1_4,ue0g1_5,ue0g1_6,ue0g1_7,ue0g1_8,ue0g1_9,ue0g1_10,ue0g1_11,ue0g1_12,ue0g1_13,ue0g1_14,ue0g1_15,rfl⟩:=list16 hl16
     simp only [List.all_cons,List.all_nil,Bool.and_true,Bool.and_eq_true] at oO
     obtain ⟨fue0g1_0,fue0g1_1,fue0g1_2,fue0g1_3,fue0g1_4,fue0g1_5,fue0g1_6,fue0g1_7,fue0g1_8,fue0g1_9,fue0g1_10,fue0g1_11,fue0g1_12,fue0g1_13,fue0g1_14,fue0g1_15⟩:=oO
     have hcz:cellsAt #[ue0g1_0,ue0g1_1,ue0g1_2,ue0g1_3,ue0g1_4,ue0g1_5,ue0g1_6,ue0g1_7,ue0g1_8,ue0g1_9,ue0g1_10,ue0g1_11,ue0g1_12,ue0g1_13,ue0g1_14,ue0g1_15] 0 16=some (.agg #[ue0g1_0,ue0g1_1,ue0g1_2,ue0g1_3,ue0g1_4,ue0g1_5,ue0g1_6,ue0g1_7,ue0g1_8,ue0g1_9,ue0g1_10,ue0g1_11,ue0g1_12,ue0g1_13,ue0g1_14,ue0g1_15]):=cellsAt_full rfl
     have ZQ:j1 * 19+17≤X20.size:=by omega
     repeat (first|simp (disch:=omega) only [go_sem,tD,nT,nX,nY,nZ,nR,nU,nS,nV,nW,hcz,fue0g1_0,fue0g1_1,fue0g1_2,fue0g1_3,fue0g1_4,fue0g1_5,fue0g1_6,fue0g1_7,fue0g1_8,fue0g1_9,fue0g1_10,fue0g1_11,fue0g1_12,fue0g1_13,fue0g1_14,fue0g1_15,ZQ]|refine qA ?_|apply qB|refine qC ?_|apply qD|apply qE|apply qF|apply qG|apply qH)
     have hEu:Ext w20 (wr (w20.alloc (.cells #[zZ,zZ,zZ,zZ,zZ,zZ,zZ,zZ,zZ,zZ,zZ,zZ,zZ,zZ,zZ,zZ] 82)) w20.heap.size 0 [ue0g1_0,ue0g1_1,ue0g1_2,ue0g1_3,ue0g1_4,ue0g1_5,ue0g1_6,ue0g1_7,ue0g1_8,ue0g1_9,ue0g1_10,ue0g1_11,ue0g1_12,ue0g1_13,ue0g1_14,ue0g1_15]):=(Upd.alloc (Upd.refl _ _) _).wr _ _ (.inl (Nat.le_refl _))
     have kK:=And.intro (kJ.1.upd hEu (fun h=>h) (fun _ _ _ h=>h)) (kJ.2.upd hEu fun h=>h)
     have mA:Upd (fun b=>b=rb) w20 (wr (w20.alloc (.cells #[zZ,zZ,zZ,zZ,zZ,zZ,zZ,zZ,zZ,zZ,zZ,zZ,zZ,zZ,zZ,zZ] 82)) w20.heap.size 0 [ue0g1_0,ue0g1_1,ue0g1_2,ue0g1_3,ue0g1_4,ue0g1_5,ue0g1_6,ue0g1_7,ue0g1_8,ue0g1_9,ue0g1_10,ue0g1_11,ue0g1_12,ue0g1_13,ue0g1_14,ue0g1_15]):=hEu.mono fun _ h=>h.elim
     clear hEu
     generalize (wr (w20.alloc (.cells #[zZ,zZ,zZ,zZ,zZ,zZ,zZ,zZ,zZ,zZ,zZ,zZ,zZ,zZ,zZ,zZ] 82)) w20.heap.size 0 [ue0g1_0,ue0g1_1,ue0g1_2,ue0g1_3,ue0g1_4,ue0g1_5,ue0g1_6,ue0g1_7,ue0g1_8,ue0g1_9,ue0g1_10,ue0g1_11,ue0g1_12,ue0g1_13,ue0g1_14,ue0g1_15])=w21 at *
     have yH:=mA.blk_some oP (by omega)
     have gN:Upd (fun b=>b=R1∨b=rb) w20 w21:=mA.mono (fun _ h=>.inr h)
     have iQ:=iP.trans' gN fun i hi h=>h.elim (fun h=>by omega) .inr
     have IF:=gN.size
     have ac:=hG1.updS iQ bK bM
     obtain ⟨X21,wI,jA,KP⟩:=el_open (n:=19) yH hA1 rfl
     generalize CH:wr w21 R1 (j1 * 19+1) [ue0g1_0,ue0g1_1,ue0g1_2,ue0g1_3,ue0g1_4,ue0g1_5,ue0g1_6,ue0g1_7,ue0g1_8,ue0g1_9,ue0g1_10,ue0g1_11,ue0g1_12,ue0g1_13,ue0g1_14,ue0g1_15] = w22
     have SR:Upd (fun b=>b=R1∨b=rb) w21 w22:=by rw [← CH];exact (Upd.refl _ _).wr _ _ (.inr (.inl rfl))
     have OO:blk w22 R1=some ((A1++(([ce0_0,ue0g1_0,ue0g1_1,ue0g1_2,ue0g1_3,ue0g1_4,ue0g1_5,ue0g1_6,ue0g1_7,ue0g1_8,ue0g1_9,ue0g1_10,ue0g1_11,ue0g1_12,ue0g1_13,ue0g1_14,ue0g1_15,zS,.map none]:List Value)++B1)).toArray,85,(0,0)):=by rw [← CH];exact el_blk (o:=1) yH hA1 (Nat.le_of_ble_eq_true rfl)
     have mN:=SR
     have zU:=iQ.trans' mN fun i hi h=>h.elim (fun h=>by omega) .inr
     have hz22:=mN.size
     have RL:=hG1.updS zU bK bM
     have qP:=Rdr.stored CH kK (by omega) fun h=>by have:=(hok _ h).1;first|omega|exact (hok _ h).2 rfl
     obtain ⟨X22,UC,I9,UP⟩:=el_open (n:=19) OO hA1 rfl
     clear CH
     have W3:RepF (RepS true (d+1)) (szS true (d+1)) fX3_1 (fun b=>(ok b∨w1.heap.size≤b)∧¬ ownB va0 b) w22 (xe0g_1) [ue0g1_0,ue0g1_1,ue0g1_2,ue0g1_3,ue0g1_4,ue0g1_5,ue0g1_6,ue0g1_7,ue0g1_8,ue0g1_9,ue0g1_10,ue0g1_11,ue0g1_12,ue0g1_13,ue0g1_14,ue0g1_15]:=(RepF_uuid rfl).2 hxc.symm
     clear hrd
     repeat ((first|refine qA ?_|apply qB|refine qC ?_|apply qD|apply qE|apply qF|apply qG|apply qH);try simp (disch:=omega) only [go_sem,I9,nT,nX,nY,nZ,nR,nU,nS,nV,nW])
     exact ⟨(by simp (disch:=omega) only [go_sem,Holds_nil,Holds_cons,nT,nX,nY,nZ,nR,nU,nS,nV,nW]),_,_,_,_,_,_,_,_,_,_,_,_,_,_,_,_,_,_,(by rw [rdA_yes hyes];exact PP),(by rw [rdA_yes hyes];exact MS),OO,W3,qP,((iU.trans gN).trans mN)⟩
    ·have hno:hasS fX3_1 ver=false:=hasS_f (by show ver < 13∨(0≤(-1:Int)∧(-1:Int) < ver);omega)
     repeat ((first|refine qA ?_|apply qB|refine qC ?_|apply qD|apply qE|apply qF|apply qG|apply qH);try simp (disch:=omega) only [go_sem,vC,nT,nX,nY,nZ,nR,nU,nS,nV,nW,hvc_])
     exact ⟨(by simp (disch:=omega) only [go_sem,Holds_nil,Holds_cons,nT,nX,nY,nZ,nR,nU,nS,nV,nW]),_,_,_,_,_,_,_,_,_,_,_,_,_,_,_,_,_,_,(by rw [rdA_no hno];try rfl),(by rw [rdA_no hno]),uZ,(RepF_uuid rfl).2 rfl,u5,Upd.refl _ _⟩
   rintro ρ w20 ⟨⟨fV,fZ,g7,g8,fS,fW,fT,fX,fY,-⟩,xe0_1,s14,ce0_1_0,ce0_1_1,ce0_1_2,ce0_1_3,ce0_1_4,ce0_1_5,ce0_1_6,ce0_1_7,ce0_1_8,ce0_1_9,ce0_1_10,ce0_1_11,ce0_1_12,ce0_1_13,ce0_1_14,ce0_1_15,DK,uE,oP,GD,kJ,CA⟩
   have iU:Upd (fun b=>b=R1∨b=rb) w19 w20:=CA.mono (fun _ h=>h)
   have iP:=l0.trans' iU fun i hi h=>h.elim (fun h=>by omega) .inr
   have DR:=iU.size
   have zH:=hG1.updS iP bK bM
   obtain ⟨X20,tV,tD,FP⟩:=el_open (n:=19) oP hA1 rfl
   have G1:(rdL (rdQ (d+1) ver true) (dfP (d+1)) ver true [fX3_2] s14).2=none→FB:=fun h=>G0 (by rw [rdL_any (by decide),← uE];exact h)
   have wQ:hasS fX3_2 ver=true:=hasS_t (by show (0:Int)≤ver;omega) (by show (-1:Int) < 0∨ver≤(-1:Int);omega)
   obtain ⟨xe0_2,yR⟩:∃ x,x=(rdF (rdQ (d+1) ver true) ver true fX3_2 s14).1:=⟨_,rfl⟩
   have WS:X20[j1 * 19+17]? = some (.slice none 0 0):=by rw [tV];exact el_cell (R:=0) hA1 (Nat.le_of_ble_eq_true rfl)
   repeat ((first|refine qA ?_|apply qB|refine qC ?_|apply qD|apply qE|apply qF|apply qG|apply qH);try simp (disch:=omega) only [go_sem,tD,fV,fZ,g7,g8,fS,fW,fT,fX,fY,WS])
   refine (RCompactArrayLen_fn w20 kJ.1 hrok zH.1 hgrb).mono ?_
   rintro _ w21 ⟨rfl,kK,mA⟩
   have yH:=mA.blk_some oP (by omega)
   have gN:Upd (fun b=>b=R1∨b=rb) w20 w21:=mA.mono (fun _ h=>.inr h)
   have iQ:=iP.trans' gN fun i hi h=>h.elim (fun h=>by omega) .inr
   have IF:=gN.size
   have ac:=hG1.updS iQ bK bM
   obtain ⟨X21,wI,jA,KP⟩:=el_open (n:=19) yH hA1 rfl
   obtain ⟨s15,sY⟩:∃ s,s=(rdALen true s14).2:=⟨_,rfl⟩
   rw [← sY] at kK
   have hyr1:=rdALen_rng true s14
   generalize hy1:(rdALen true s14).1=y1 at *
   obtain ⟨N1,hN1⟩:∃ N,N=y1.toNat:=⟨_,rfl⟩
   have dJ:(rdMany (rd1 (rdQ (d+1) ver true) fX3_2.of fX3_2.sub false true) N1 s15).2=none→FB:=fun h=>G1 (by rw [rdL_st (by decide) wQ];exact rdLQ_bad (rdFQ_listbad rfl (by rw [hy1,← hN1,← sY];exact h)))
   repeat ((first|refine W.seqR rfl ?_|refine W.seq ?_|refine W.regR rfl ?_|refine W.block ?_|refine W.skip ?_|refine W.ret ?_|refine W.exit ?_);try simp (disch:=omega) only [go_sem,jA,fV,fZ,g7,g8,fS,fW,fT,fX,fY])
   refine (ROk_fn w21 kK.1).mono ?_
   rintro _ wz ⟨rfl,hez⟩
   rw [hez]
   clear hez wz
   by_cases lW:s15=none
   ·have hso:s15.isSome=false:=by rw [lW];rfl
    repeat (first|simp (disch:=omega) only [go_sem,jA,fV,fZ,g7,g8,fS,fW,fT,fX,fY,hso]|refine qA ?_|apply qB|refine qC ?_|apply qD|apply qE|apply qF|apply qG|apply qH)
    refine (RComplete_fn w21 kK.1 ac.2).mono ?_
    rintro _ wz ⟨rfl,hez⟩
    rw [hez]
    repeat (first|simp (disch:=omega) only [go_sem,jA,fV,fZ,g7,g8,fS,fW,fT,fX,fY]|refine qA ?_|apply qB|refine qC ?_|apply qD|apply qE|apply qF|apply qG|apply qH)
    rw [errV_none lW]
    exact ReadQ.bad (Eq.mp hFB (dJ (by rw [lW];exact rdMany_none rd1Q_none _))) (hbase.trans' iQ fun i hi h=>h.elim id fun h=>by omega)
   have m4:s15.isSome=true:=isSome_some lW
   try simp (disch:=omega) only [go_sem,jA,fV,fZ,g7,g8,fS,fW,fT,fX,fY,m4]
   repeat ((first|refine W.seqR rfl ?_|refine W.seq ?_|refine W.regR rfl ?_|refine W.block ?_|refine W.skip ?_|refine W.ret ?_|refine W.exit ?_);try simp (disch:=omega) only [go_sem,jA,fV,fZ,g7,g8,fS,fW,fT,fX,fY,m4])
   refine W.condK ?_
   try simp (disch:=omega) only [go_sem,jA,fV,fZ,g7,g8,fS,fW,fT,fX,fY,m4]
   repeat ((first|refine W.seqR rfl ?_|refine W.seq ?_|refine W.regR rfl ?_|refine W.block ?_|refine W.skip ?_|refine W.ret ?_|refine W.exit ?_);try simp (disch:=omega) only [go_sem,jA,fV,fZ,g7,g8,fS,fW,fT,fX,fY,m4,slBase_00])
   refine W.normJ (RowQ [(2,zB),(7,.pointer (some ⟨rb,0,none⟩)),(8,.int .i16 ver),(9,.bool true),(10,.pointer (some ⟨vb,0,none⟩)),(20,.int .i32 y0),(19,.slice (some ⟨R1,0,none⟩) N0 q1),(21,.int .i32 j1),(23,.pointer (some ⟨R1,j1 * 19,none⟩)),(28,.int .i32 y1)] 27 (fun va w'=>LstI RT (rd1 (rdQ (d+1) ver true) fX3_2.of fX3_2.sub false true) (Rep1 (RepS true (d+1)) fX3_2.of fX3_2.sub) 24 113 [.int .i32 0,.int .i32 0,zI,.int .i32 0,zI,.int .i32 0,zZ,zZ,zZ,zZ,zZ,zZ,zZ,zZ,zZ,zZ,zZ,zZ,zZ,zZ,zZ,zZ,zI,.map none] w21.heap.size N1 ok (fun b=>(ok b∨w1.heap.size≤b)∧¬ ownB va0 b) rb w21 s15 va 0 s15 [] [] w'∧(N1=0→if nilS fX3_2 ver y1=true then va=zS else ∃ a,va = .slice (some a) 0 0))) ?_ ?_
   ·by_cases hy0:(0:Int) < y1
    ·have hyv:Value.int .i32 y1 = .int .i32 ((N1:Nat):Int):=by rw [show y1=((N1:Nat):Int) by omega]
     repeat ((first|refine qA ?_|apply qB|refine qC ?_|apply qD|apply qE|apply qF|apply qG|apply qH);try simp (disch:=omega) only [go_sem,jA,fV,fZ,g7,g8,fS,fW,fT,fX,fY])
     refine wp_appendZ (m:=N1) utQ_83 utQ_21 inQ_113 (by decide) (by first|rfl|simp (disch:=omega) only [go_sem,fV,fZ,g7,g8,fS,fW,fT,fX,fY]) (by first|exact hyv|(simp (disch:=omega) only [go_sem,fV,fZ,g7,g8,fS,fW,fT,fX,fY];exact hyv)) (by omega) (by omega) (by decide) ?_
     intro q rest hq1
     have hEw:Ext w21 (w21.drew.alloc (.cells (zs [.int .i32 0,.int .i32 0,zI,.int .i32 0,zI,.int .i32 0,zZ,zZ,zZ,zZ,zZ,zZ,zZ,zZ,zZ,zZ,zZ,zZ,zZ,zZ,zZ,zZ,zI,.map none] N1++rest).toArray 113)):=(Upd.refl _ _).drew.alloc _
     repeat (first|simp (disch:=omega) only [go_sem,jA,fV,fZ,g7,g8,fS,fW,fT,fX,fY]|refine qA ?_|apply qB|refine qC ?_|apply qD|apply qE|apply qF|apply qG|apply qH)
     exact ⟨(by simp (disch:=omega) only [go_sem,Holds_nil,Holds_cons,fV,fZ,g7,g8,fS,fW,fT,fX,fY]),.slice (some ⟨w21.heap.size,0,none⟩) N1 q,(by simp (disch:=omega) only [go_sem,fV,fZ,g7,g8,fS,fW,fT,fX,fY]),LstI.start (RowJ.start (by omega) hq1 (by show w21.heap.size≤w21.drew.heap.size;rw [size_drew];omega) (blk_alloc_new rfl)) ⟨kK.1.upd hEw (fun h=>h) (fun _ _ _ h=>h),kK.2.upd hEw fun h=>h⟩ (hEw.mono fun _ h=>h.elim),fun h0=>by omega⟩
    ·repeat ((first|refine qA ?_|apply qB|refine qC ?_|apply qD|apply qE|apply qF|apply qG|apply qH);try simp (disch:=omega) only [go_sem,jA,fV,fZ,g7,g8,fS,fW,fT,fX,fY])
     exact ⟨(by simp (disch:=omega) only [go_sem,Holds_nil,Holds_cons,fV,fZ,g7,g8,fS,fW,fT,fX,fY]),zS,(by simp (disch:=omega) only [go_sem,fV,fZ,g7,g8,fS,fW,fT,fX,fY,slBase_00]),LstI.start (RowJ.zero (by omega) (fun _ h=>by cases h)) kK (Upd.refl _ _),fun _=>by rw [nilS_plain (by decide) (by omega)];exact rfl⟩
   rintro ρ w22 ⟨⟨rB,rG,rH,rI,r9,rC,rA,rD,rE,rF,-⟩,va1,cD,hL1,xF⟩
   repeat ((first|refine qA ?_|apply qB|refine qC ?_|apply qD|apply qE|apply qF|apply qG|apply qH);try simp (disch:=omega) only [go_sem,jA,rB,rG,rH,rI,r9,rC,rA,rD,rE,rF,cD])
   refine W.exitRJ 2 (EndQ [(2,zB),(7,.pointer (some ⟨rb,0,none⟩)),(8,.int .i16 ver),(9,.bool true),(10,.pointer (some ⟨vb,0,none⟩)),(20,.int .i32 y0),(19,.slice (some ⟨R1,0,none⟩) N0 q1),(21,.int .i32 j1),(23,.pointer (some ⟨R1,j1 * 19,none⟩)),(28,.int .i32 y1),(27,va1)] (fun w'=>∃ s xs css,LstI RT (rd1 (rdQ (d+1) ver true) fX3_2.of fX3_2.sub false true) (Rep1 (RepS true (d+1)) fX3_2.of fX3_2.sub) 24 113 [.int .i32 0,.int .i32 0,zI,.int .i32 0,zI,.int .i32 0,zZ,zZ,zZ,zZ,zZ,zZ,zZ,zZ,zZ,zZ,zZ,zZ,zZ,zZ,zZ,zZ,zI,.map none] w21.heap.size N1 ok (fun b=>(ok b∨w1.heap.size≤b)∧¬ ownB va0 b) rb w21 s15 va1 N1 s xs css w')) (W.loop (LoopQ [(2,zB),(7,.pointer (some ⟨rb,0,none⟩)),(8,.int .i16 ver),(9,.bool true),(10,.pointer (some ⟨vb,0,none⟩)),(20,.int .i32 y0),(19,.slice (some ⟨R1,0,none⟩) N0 q1),(21,.int .i32 j1),(23,.pointer (some ⟨R1,j1 * 19,none⟩)),(28,.int .i32 y1),(27,va1)] 29 (fun j w'=>∃ s xs css,LstI RT (rd1 (rdQ (d+1) ver true) fX3_2.of fX3_2.sub false true) (Rep1 (RepS true (d+1)) fX3_2.of fX3_2.sub) 24 113 [.int .i32 0,.int .i32 0,zI,.int .i32 0,zI,.int .i32 0,zZ,zZ,zZ,zZ,zZ,zZ,zZ,zZ,zZ,zZ,zZ,zZ,zZ,zZ,zZ,zZ,zI,.map none] w21.heap.size N1 ok (fun b=>(ok b∨w1.heap.size≤b)∧¬ ownB va0 b) rb w21 s15 va1 j s xs css w')) (fun ρ _=>N1 - (RowKit.intOf (ρ 29)).toNat) ?_ ?_) ?_
   ·exact ⟨(by simp (disch:=omega) only [go_sem,Holds_nil,Holds_cons,rB,rG,rH,rI,r9,rC,rA,rD,rE,rF,cD]),0,(by simp (disch:=omega) only [go_sem,rB,rG,rH,rI,r9,rC,rA,rD,rE,rF,cD];all_goals rfl),s15,[],[],hL1⟩
   ·rintro ρ w23 ⟨⟨dA,dF,dG,dH,d8,dB,d9,dC,dD,dE,sB,-⟩,j2,dI,s16,xs1,css1,hL1⟩
    have hj1:=hL1.le
    have qQ:=hL1.rd
    have tM:Upd (fun b=>b=vb∨b=rb) w1 w23:=iQ.trans' hL1.upd fun i _ h=>.inr h
    have hz23:=hL1.upd.size
    have J8:Glo ev w23:=hG1.updS tM bK bM
    by_cases mX:j2 < N1
    ·obtain ⟨R2,q2,B2,eJ,EQ,EO,hA2,oR,kH⟩:=hL1.row.next mX
     have EU:=blk_lt oR
     generalize css1.flatten=A2 at hA2 oR kH
     replace cD:ρ 27 = .slice (some ⟨R2,0,none⟩) N1 q2:=sB.trans eJ
     have hown2:∀ b,ownB va1 b→w21.heap.size≤b∧b < w23.heap.size:=fun b h=>hL1.row.own h
     have cZ:∀ b,(fun b=>(fun b=>(ok b∨w1.heap.size≤b)∧¬ ownB va0 b) b∧¬ ownB va1 b) b→¬ (b=R2∨b=rb):=fun b hk h=>h.elim (fun e=>hk.2 ⟨_,_,_,eJ,e⟩) (fun e=>dL b hk.1 (.inr e))
     obtain ⟨X23,UD,vD,UQ⟩:=el_open (n:=24) oR hA2 rfl
     repeat ((first|refine qA ?_|apply qB|refine qC ?_|apply qD|apply qE|apply qF|apply qG|apply qH);try simp (disch:=omega) only [go_sem,vD,dA,dF,dG,dH,d8,dB,d9,dC,dD,dE,cD,dI])
     refine (DefaultEX0_fn w23 oR hA2).mono ?_
     rintro _ w24 ⟨oS,oJ⟩
     have u6:=And.intro (qQ.1.upd oJ (by omega) (fun b _ hk e=>by have:=(hok b hk).1;omega)) (qQ.2.upd oJ (by omega))
     have iV:Upd (fun b=>b=R2∨b=rb) w23 w24:=oJ.mono (fun _ h=>.inl h)
     have mJ:=tM.trans' iV fun i hi h=>h.elim (fun h=>by omega) .inr
     have Q4:=iV.size
     have zJ:=hG1.updS mJ bK bM
     obtain ⟨X24,KK,yM,KQ⟩:=el_open (n:=24) oS hA2 rfl
     have LD:(rdQ (d+1) ver true fs_X0 s16).2=none→FB:=fun h=>dJ (hL1.bad mX rd1Q_none (by show (rd1 (rdQ (d+1) ver true) 10 fs_X0 false true s16).2=none;rw [rd1_part];exact h))
     have G2:(rdL (rdQ d ver true) (dfP d) ver true [fX0_0,fX0_1,fX0_2,fX0_3,fX0_4,fX0_5,fX0_6,fX0_7] s16).2=none→FB:=fun h=>dJ (hL1.bad mX rd1Q_none (by show (rd1 (rdQ (d+1) ver true) 10 fs_X0 false true s16).2=none;rw [rd1_part];exact rdQ_bad h))
     have wR:hasS fX0_0 ver=true:=hasS_t (by show (0:Int)≤ver;omega) (by show (-1:Int) < 0∨ver≤(-1:Int);omega)
     obtain ⟨xe0e1_0,yS⟩:∃ x,x=(rdF (rdQ d ver true) ver true fX0_0 s16).1:=⟨_,rfl⟩
     repeat ((first|refine qA ?_|apply qB|refine qC ?_|apply qD|apply qE|apply qF|apply qG|apply qH);try simp (disch:=omega) only [go_sem,yM,dA,dF,dG,dH,d8,dB,d9,dC,dD,dE,cD,dI])
     have hrd:rdF (rdQ d ver true) ver true fX0_0 s16=_:=rdF_num 3 rfl (by decide)
     refine (Int32_fn w24 u6.1 hrok zJ.1 hgrb).mono ?_
     rintro _ w25 ⟨rfl,qR,yB⟩
     have oT:=yB.blk_some oS (by omega)
     have iW:Upd (fun b=>b=R2∨b=rb) w24 w25:=yB.mono (fun _ h=>.inr h)
     have pI:=mJ.trans' iW fun i hi h=>h.elim (fun h=>by omega) .inr
     have Q5:=iW.size
     have J9:=hG1.updS pI bK bM
     obtain ⟨X25,KL,yN,KR⟩:=el_open (n:=24) oT hA2 rfl
     have hst:(rdF (rdQ d ver true) ver true fX0_0 s16).2=(rdInt .i32 4 s16).2:=by first|(rw [hrd];rfl)|rw [hrd]
     obtain ⟨s17,sZ⟩:∃ s,s=(rdF (rdQ d ver true) ver true fX0_0 s16).2:=⟨_,rfl⟩
     rw [← hst,← sZ] at qR
     clear hst
     have ZU:j2 * 24+1≤X25.size:=by omega
     repeat ((first|refine qA ?_|apply qB|refine qC ?_|apply qD|apply qE|apply qF|apply qG|apply qH);try simp (disch:=omega) only [go_sem,yN,dA,dF,dG,dH,d8,dB,d9,dC,dD,dE,cD,dI,ZU])
     generalize mC:wr w25 R2 (j2 * 24) [.int .i32 (rdInt .i32 4 s16).1] = w26
     have EZ:Upd (fun b=>b=R2∨b=rb) w25 w26:=by rw [← mC];exact (Upd.refl _ _).wr _ _ (.inr (.inl rfl))
     have vB:blk w26 R2=some ((A2++(([.int .i32 (rdInt .i32 4 s16).1,zM,zI,zM,.int .i64 (-1),.int .i32 0,zZ,zZ,zZ,zZ,zZ,zZ,zZ,zZ,zZ,zZ,zZ,zZ,zZ,zZ,zZ,zZ,.int .i64 9223372036854775807,.map none]:List Value)++B2)).toArray,113,(0,0)):=by rw [← mC];exact el_blk0 oT hA2 (Nat.le_of_ble_eq_true rfl)
     have jB:=EZ
     have l3:=pI.trans' jB fun i hi h=>h.elim (fun h=>by omega) .inr
     have Q6:=jB.size
     have EE:=hG1.updS l3 bK bM
     have BV:=Rdr.stored mC qR (by omega) fun h=>by have:=(hok _ h).1;first|omega|exact (hok _ h).2 rfl
     obtain ⟨X26,FN,oY,UR⟩:=el_open (n:=24) vB hA2 rfl
     clear mC
     have BF:RepF (RepS true d) (szS true d) fX0_0 (fun b=>(fun b=>(ok b∨w1.heap.size≤b)∧¬ ownB va0 b) b∧¬ ownB va1 b) w26 (xe0e1_0) [.int .i32 (rdInt .i32 4 s16).1]:=(RepF_num (by decide)).2 (by rw [yS,hrd];exact congrArg (fun x=>[x]) (numC_rd 3 (by decide) 4 s16).symm)
     clear hrd
     have G3:(rdL (rdQ d ver true) (dfP d) ver true [fX0_1,fX0_2,fX0_3,fX0_4,fX0_5,fX0_6,fX0_7] s17).2=none→FB:=fun h=>G2 (by rw [rdL_st (by decide) wR,← sZ];exact h)
     have LO:hasS fX0_1 ver=true:=hasS_t (by show (9:Int)≤ver;omega) (by show (-1:Int) < 0∨ver≤(-1:Int);omega)
     obtain ⟨xe0e1_1,DL⟩:∃ x,x=(rdF (rdQ d ver true) ver true fX0_1 s17).1:=⟨_,rfl⟩
     repeat ((first|refine qA ?_|apply qB|refine qC ?_|apply qD|apply qE|apply qF|apply qG|apply qH);try simp (disch:=omega) only [go_sem,oY,dA,dF,dG,dH,d8,dB,d9,dC,dD,dE,cD,dI])
     have hrd:rdF (rdQ d ver true) ver true fX0_1 s17=_:=rdF_num 3 rfl (by decide)
     refine (Int32_fn w26 BV.1 hrok EE.1 hgrb).mono ?_
     rintro _ w27 ⟨rfl,qS,t8⟩
     have oU:=t8.blk_some vB (by omega)
     have fH:Upd (fun b=>b=R2∨b=rb) w26 w27:=t8.mono (fun _ h=>.inr h)
     have jJ:=l3.trans' fH fun i hi h=>h.elim (fun h=>by omega) .inr
     have z1:=fH.size
     have EF:=hG1.updS jJ bK bM
     obtain ⟨X27,wJ,yO,KS⟩:=el_open (n:=24) oU hA2 rfl
     have hst:(rdF (rdQ d ver true) ver true fX0_1 s17).2=(rdInt .i32 4 s17).2:=by first|(rw [hrd];rfl)|rw [hrd]
     obtain ⟨s18,uF⟩:∃ s,s=(rdF (rdQ d ver true) ver true fX0_1 s17).2:=⟨_,rfl⟩
     rw [← hst,← uF] at qS
     clear hst
     have ZX:j2 * 24+2≤X27.size:=by omega
     repeat ((first|refine qA ?_|apply qB|refine qC ?_|apply qD|apply qE|apply qF|apply qG|apply qH);try simp (disch:=omega) only [go_sem,yO,dA,dF,dG,dH,d8,dB,d9,dC,dD,dE,cD,dI,ZX])
     generalize mD:wr w27 R2 (j2 * 24+1) [.int .i32 (rdInt .i32 4 s17).1] = w28
     have F0:Upd (fun b=>b=R2∨b=rb) w27 w28:=by rw [← mD];exact (Upd.refl _ _).wr _ _ (.inr (.inl rfl))
     have oV:blk w28 R2=some ((A2++(([.int .i32 (rdInt .i32 4 s16).1,.int .i32 (rdInt .i32 4 s17).1,zI,zM,.int .i64 (-1),.int .i32 0,zZ,zZ,zZ,zZ,zZ,zZ,zZ,zZ,zZ,zZ,zZ,zZ,zZ,zZ,zZ,zZ,.int .i64 9223372036854775807,.map none]:List Value)++B2)).toArray,113,(0,0)):=by rw [← mD];exact el_blk (o:=1) oU hA2 (Nat.le_of_ble_eq_true rfl)
     have iX:=F0
     have pJ:=jJ.trans' iX fun i hi h=>h.elim (fun h=>by omega) .inr
     have IG:=iX.size
     have EG:=hG1.updS pJ bK bM
     have u7:=Rdr.stored mD qS (by omega) fun h=>by have:=(hok _ h).1;first|omega|exact (hok _ h).2 rfl
     obtain ⟨X28,tW,yP,KT⟩:=el_open (n:=24) oV hA2 rfl
     clear mD
     have BG:RepF (RepS true d) (szS true d) fX0_1 (fun b=>(fun b=>(ok b∨w1.heap.size≤b)∧¬ ownB va0 b) b∧¬ ownB va1 b) w28 (xe0e1_1) [.int .i32 (rdInt .i32 4 s17).1]:=(RepF_num (by decide)).2 (by rw [DL,hrd];exact congrArg (fun x=>[x]) (numC_rd 3 (by decide) 4 s17).symm)
     clear hrd
     have G4:(rdL (rdQ d ver true) (dfP d) ver true [fX0_2,fX0_3,fX0_4,fX0_5,fX0_6,fX0_7] s18).2=none→FB:=fun h=>G3 (by rw [rdL_st (by decide) LO,← uF];exact h)
     have wS:hasS fX0_2 ver=true:=hasS_t (by show (0:Int)≤ver;omega) (by show (-1:Int) < 0∨ver≤(-1:Int);omega)
     obtain ⟨xe0e1_2,yU⟩:∃ x,x=(rdF (rdQ d ver true) ver true fX0_2 s18).1:=⟨_,rfl⟩
     repeat ((first|refine qA ?_|apply qB|refine qC ?_|apply qD|apply qE|apply qF|apply qG|apply qH);try simp (disch:=omega) only [go_sem,yP,dA,dF,dG,dH,d8,dB,d9,dC,dD,dE,cD,dI])
     have hrd:rdF (rdQ d ver true) ver true fX0_2 s18=_:=rdF_num 4 rfl (by decide)
     refine (Int64_fn w28 u7.1 hrok EG.1 hgrb).mono ?_
     rintro _ w29 ⟨rfl,BW,NX⟩
     have yL:=NX.blk_some oV (by omega)
     have l4:Upd (fun b=>b=R2∨b=rb) w28 w29:=NX.mono (fun _ h=>.inr h)
     have zV:=pJ.trans' l4 fun i hi h=>h.elim (fun h=>by omega) .inr
     have hz29:=l4.size
     have RM:=hG1.updS zV bK bM
     obtain ⟨X29,AS,DE,US⟩:=el_open (n:=24) yL hA2 rfl
     have hst:(rdF (rdQ d ver true) ver true fX0_2 s18).2=(rdInt .i64 8 s18).2:=by first|(rw [hrd];rfl)|rw [hrd]
     obtain ⟨s19,uH⟩:∃ s,s=(rdF (rdQ d ver true) ver true fX0_2 s18).2:=⟨_,rfl⟩
     rw [← hst,← uH] at BW
     clear hst
     have hst29_2:j2 * 24+3≤X29.size:=by omega
     repeat ((first|refine qA ?_|apply qB|refine qC ?_|apply qD|apply qE|apply qF|apply qG|apply qH);try simp (disch:=omega) only [go_sem,DE,dA,dF,dG,dH,d8,dB,d9,dC,dD,dE,cD,dI,hst29_2])
     generalize CM:wr w29 R2 (j2 * 24+2) [.int .i64 (rdInt .i64 8 s18).1] = w30
     have F1:Upd (fun b=>b=R2∨b=rb) w29 w30:=by rw [← CM];exact (Upd.refl _ _).wr _ _ (.inr (.inl rfl))
     have P4:blk w30 R2=some ((A2++(([.int .i32 (rdInt .i32 4 s16).1,.int .i32 (rdInt .i32 4 s17).1,.int .i64 (rdInt .i64 8 s18).1,zM,.int .i64 (-1),.int .i32 0,zZ,zZ,zZ,zZ,zZ,zZ,zZ,zZ,zZ,zZ,zZ,zZ,zZ,zZ,zZ,zZ,.int .i64 9223372036854775807,.map none]:List Value)++B2)).toArray,113,(0,0)):=by rw [← CM];exact el_blk (o:=2) yL hA2 (Nat.le_of_ble_eq_true rfl)
     have l5:=F1
     have vV:=zV.trans' l5 fun i hi h=>h.elim (fun h=>by omega) .inr
     have hz30:=l5.size
     have JA:=hG1.updS vV bK bM
     have H9:=Rdr.stored CM BW (by omega) fun h=>by have:=(hok _ h).1;first|omega|exact (hok _ h).2 rfl
     obtain ⟨X30,UE,IA,UT⟩:=el_open (n:=24) P4 hA2 rfl
     clear CM
     have BH:RepF (RepS true d) (szS true d) fX0_2 (fun b=>(fun b=>(ok b∨w1.heap.size≤b)∧¬ ownB va0 b) b∧¬ ownB va1 b) w30 (xe0e1_2) [.int .i64 (rdInt .i64 8 s18).1]:=(RepF_num (by decide)).2 (by rw [yU,hrd];exact congrArg (fun x=>[x]) (numC_rd 4 (by decide) 8 s18).symm)
     clear hrd
     have G5:(rdL (rdQ d ver true) (dfP d) ver true [fX0_3,fX0_4,fX0_5,fX0_6,fX0_7] s19).2=none→FB:=fun h=>G4 (by rw [rdL_st (by decide) wS,← uH];exact h)
     have wT:hasS fX0_3 ver=true:=hasS_t (by show (12:Int)≤ver;omega) (by show (-1:Int) < 0∨ver≤(-1:Int);omega)
     obtain ⟨xe0e1_3,yV⟩:∃ x,x=(rdF (rdQ d ver true) ver true fX0_3 s19).1:=⟨_,rfl⟩
     repeat ((first|refine qA ?_|apply qB|refine qC ?_|apply qD|apply qE|apply qF|apply qG|apply qH);try simp (disch:=omega) only [go_sem,IA,dA,dF,dG,dH,d8,dB,d9,dC,dD,dE,cD,dI])
     have hrd:rdF (rdQ d ver true) ver true fX0_3 s19=_:=rdF_num 3 rfl (by decide)
     refine (Int32_fn w30 H9.1 hrok JA.1 hgrb).mono ?_
     rintro _ w31 ⟨rfl,BX,NZ⟩
     have P5:=NZ.blk_some P4 (by omega)
     have kE:Upd (fun b=>b=R2∨b=rb) w30 w31:=NZ.mono (fun _ h=>.inr h)
     have zW:=vV.trans' kE fun i hi h=>h.elim (fun h=>by omega) .inr
     have hz31:=kE.size
     have RN:=hG1.updS zW bK bM
     obtain ⟨X31,UF,DF,UU⟩:=el_open (n:=24) P5 hA2 rfl
     have hst:(rdF (rdQ d ver true) ver true fX0_3 s19).2=(rdInt .i32 4 s19).2:=by first|(rw [hrd];rfl)|rw [hrd]
     obtain ⟨s20,t1⟩:∃ s,s=(rdF (rdQ d ver true) ver true fX0_3 s19).2:=⟨_,rfl⟩
     rw [← hst,← t1] at BX
     clear hst
     have hst31_3:j2 * 24+4≤X31.size:=by omega
     repeat ((first|refine qA ?_|apply qB|refine qC ?_|apply qD|apply qE|apply qF|apply qG|apply qH);try simp (disch:=omega) only [go_sem,DF,dA,dF,dG,dH,d8,dB,d9,dC,dD,dE,cD,dI,hst31_3])
     generalize CO:wr w31 R2 (j2 * 24+3) [.int .i32 (rdInt .i32 4 s19).1] = w32
     have SX:Upd (fun b=>b=R2∨b=rb) w31 w32:=by rw [← CO];exact (Upd.refl _ _).wr _ _ (.inr (.inl rfl))
     have P6:blk w32 R2=some ((A2++(([.int .i32 (rdInt .i32 4 s16).1,.int .i32 (rdInt .i32 4 s17).1,.int .i64 (rdInt .i64 8 s18).1,.int .i32 (rdInt .i32 4 s19).1,.int .i64 (-1),.int .i32 0,zZ,zZ,zZ,zZ,zZ,zZ,zZ,zZ,zZ,zZ,zZ,zZ,zZ,zZ,zZ,zZ,.int .i64 9223372036854775807,.map none]:List Value)++B2)).toArray,113,(0,0)):=by rw [← CO];exact el_blk (o:=3) P5 hA2 (Nat.le_of_ble_eq_true rfl)
     have lL:=SX
     have vW:=zW.trans' lL fun i hi h=>h.elim (fun h=>by omega) .inr
     have hz32:=lL.size
     have JB:=hG1.updS vW bK bM
     have HA:=Rdr.stored CO BX (by omega) fun h=>by have:=(hok _ h).1;first|omega|exact (hok _ h).2 rfl
     obtain ⟨X32,hX32,hxb32,hXs32⟩:=el_open (n:=24) P6 hA2 rfl
     clear CO
     have BI:RepF (RepS true d) (szS true d) fX0_3 (fun b=>(fun b=>(ok b∨w1.heap.size≤b)∧¬ ownB va0 b) b∧¬ ownB va1 b) w32 (xe0e1_3) [.int .i32 (rdInt .i32 4 s19).1]:=(RepF_num (by decide)).2 (by rw [yV,hrd];exact congrArg (fun x=>[x]) (numC_rd 3 (by decide) 4 s19).symm)
     clear hrd
     have G6:(rdL (rdQ d ver true) (dfP d) ver true [fX0_4,fX0_5,fX0_6,fX0_7] s20).2=none→FB:=fun h=>G5 (by rw [rdL_st (by decide) wT,← t1];exact h)
     have LP:hasS fX0_4 ver=true:=hasS_t (by show (5:Int)≤ver;omega) (by show (-1:Int) < 0∨ver≤(-1:Int);omega)
     obtain ⟨xe0e1_4,DM⟩:∃ x,x=(rdF (rdQ d ver true) ver true fX0_4 s20).1:=⟨_,rfl⟩
     repeat ((first|refine qA ?_|apply qB|refine qC ?_|apply qD|apply qE|apply qF|apply qG|apply qH);try simp (disch:=omega) only [go_sem,hxb32,dA,dF,dG,dH,d8,dB,d9,dC,dD,dE,cD,dI])
     have hrd:rdF (rdQ d ver true) ver true fX0_4 s20=_:=rdF_num 4 rfl (by decide)
     refine (Int64_fn w32 HA.1 hrok JB.1 hgrb).mono ?_
     rintro _ w33 ⟨rfl,xJ,O1⟩
     have P7:=O1.blk_some P6 (by omega)
     have l6:Upd (fun b=>b=R2∨b=rb) w32 w33:=O1.mono (fun _ h=>.inr h)
     have tN:=vW.trans' l6 fun i hi h=>h.elim (fun h=>by omega) .inr
     have hz33:=l6.size
     have JC:=hG1.updS tN bK bM
     obtain ⟨X33,AT,hxb33,hXs33⟩:=el_open (n:=24) P7 hA2 rfl
     have hst:(rdF (rdQ d ver true) ver true fX0_4 s20).2=(rdInt .i64 8 s20).2:=by first|(rw [hrd];rfl)|rw [hrd]
     obtain ⟨s21,uI⟩:∃ s,s=(rdF (rdQ d ver true) ver true fX0_4 s20).2:=⟨_,rfl⟩
     rw [← hst,← uI] at xJ
     clear hst
     have hst33_4:j2 * 24+5≤X33.size:=by omega
     repeat ((first|refine qA ?_|apply qB|refine qC ?_|apply qD|apply qE|apply qF|apply qG|apply qH);try simp (disch:=omega) only [go_sem,hxb33,dA,dF,dG,dH,d8,dB,d9,dC,dD,dE,cD,dI,hst33_4])
     generalize CQ:wr w33 R2 (j2 * 24+4) [.int .i64 (rdInt .i64 8 s20).1] = w34
     have F2:Upd (fun b=>b=R2∨b=rb) w33 w34:=by rw [← CQ];exact (Upd.refl _ _).wr _ _ (.inr (.inl rfl))
     have P9:blk w34 R2=some ((A2++(([.int .i32 (rdInt .i32 4 s16).1,.int .i32 (rdInt .i32 4 s17).1,.int .i64 (rdInt .i64 8 s18).1,.int .i32 (rdInt .i32 4 s19).1,.int .i64 (rdInt .i64 8 s20).1,.int .i32 0,zZ,zZ,zZ,zZ,zZ,zZ,zZ,zZ,zZ,zZ,zZ,zZ,zZ,zZ,zZ,zZ,.int .i64 9223372036854775807,.map none]:List Value)++B2)).toArray,113,(0,0)):=by rw [← CQ];exact el_blk (o:=4) P7 hA2 (Nat.le_of_ble_eq_true rfl)
     have jC:=F2
     have kA:=tN.trans' jC fun i hi h=>h.elim (fun h=>by omega) .inr
     have Q7:=jC.size
     have vP:=hG1.updS kA bK bM
     have kL:=Rdr.stored CQ xJ (by omega) fun h=>by have:=(hok _ h).1;first|omega|exact (hok _ h).2 rfl
     obtain ⟨X34,hX34,hxb34,hXs34⟩:=el_open (n:=24) P9 hA2 rfl
     clear CQ
     have BJ:RepF (RepS true d) (szS true d) fX0_4 (fun b=>(fun b=>(ok b∨w1.heap.size≤b)∧¬ ownB va0 b) b∧¬ ownB va1 b) w34 (xe0e1_4) [.int .i64 (rdInt .i64 8 s20).1]:=(RepF_num (by decide)).2 (by rw [DM,hrd];exact congrArg (fun x=>[x]) (numC_rd 4 (by decide) 8 s20).symm)
     clear hrd
     have G7:(rdL (rdQ d ver true) (dfP d) ver true [fX0_5,fX0_6,fX0_7] s21).2=none→FB:=fun h=>G6 (by rw [rdL_st (by decide) LP,← uI];exact h)
     have wU:hasS fX0_5 ver=true:=hasS_t (by show (0:Int)≤ver;omega) (by show (-1:Int) < 0∨ver≤(-1:Int);omega)
     obtain ⟨xe0e1_5,yW⟩:∃ x,x=(rdF (rdQ d ver true) ver true fX0_5 s21).1:=⟨_,rfl⟩
     repeat ((first|refine qA ?_|apply qB|refine qC ?_|apply qD|apply qE|apply qF|apply qG|apply qH);try simp (disch:=omega) only [go_sem,hxb34,dA,dF,dG,dH,d8,dB,d9,dC,dD,dE,cD,dI])
     have hrd:rdF (rdQ d ver true) ver true fX0_5 s21=_:=rdF_num 3 rfl (by decide)
     refine (Int32_fn w34 kL.1 hrok vP.1 hgrb).mono ?_
     rintro _ w35 ⟨rfl,qT,tA⟩
     have PA:=tA.blk_some P9 (by omega)
     have jD:Upd (fun b=>b=R2∨b=rb) w34 w35:=tA.mono (fun _ h=>.inr h)
     have mK:=kA.trans' jD fun i hi h=>h.elim (fun h=>by omega) .inr
     have Q8:=jD.size
     have EH:=hG1.updS mK bK bM
     obtain ⟨X35,hX35,hxb35,hXs35⟩:=el_open (n:=24) PA hA2 rfl
     have hst:(rdF (rdQ d ver true) ver true fX0_5 s21).2=(rdInt .i32 4 s21).2:=by first|(rw [hrd];rfl)|rw [hrd]
     obtain ⟨s22,uJ⟩:∃ s,s=(rdF (rdQ d ver true) ver true fX0_5 s21).2:=⟨_,rfl⟩
     rw [← hst,← uJ] at qT
     clear hst
     have hst35_5:j2 * 24+6≤X35.size:=by omega
     repeat ((first|refine qA ?_|apply qB|refine qC ?_|apply qD|apply qE|apply qF|apply qG|apply qH);try simp (disch:=omega) only [go_sem,hxb35,dA,dF,dG,dH,d8,dB,d9,dC,dD,dE,cD,dI,hst35_5])
     generalize mE:wr w35 R2 (j2 * 24+5) [.int .i32 (rdInt .i32 4 s21).1] = w36
     have F3:Upd (fun b=>b=R2∨b=rb) w35 w36:=by rw [← mE];exact (Upd.refl _ _).wr _ _ (.inr (.inl rfl))
     have PB:blk w36 R2=some ((A2++(([.int .i32 (rdInt .i32 4 s16).1,.int .i32 (rdInt .i32 4 s17).1,.int .i64 (rdInt .i64 8 s18).1,.int .i32 (rdInt .i32 4 s19).1,.int .i64 (rdInt .i64 8 s20).1,.int .i32 (rdInt .i32 4 s21).1,zZ,zZ,zZ,zZ,zZ,zZ,zZ,zZ,zZ,zZ,zZ,zZ,zZ,zZ,zZ,zZ,.int .i64 9223372036854775807,.map none]:List Value)++B2)).toArray,113,(0,0)):=by rw [← mE];exact el_blk (o:=5) PA hA2 (Nat.le_of_ble_eq_true rfl)
     have lM:=F3
     have pK:=mK.trans' lM fun i hi h=>h.elim (fun h=>by omega) .inr
     have Q9:=lM.size
     have JD:=hG1.updS pK bK bM
     have u9:=Rdr.stored mE qT (by omega) fun h=>by have:=(hok _ h).1;first|omega|exact (hok _ h).2 rfl
     obtain ⟨X36,UH,IB,UV⟩:=el_open (n:=24) PB hA2 rfl
     clear mE
     have BK:RepF (RepS true d) (szS true d) fX0_5 (fun b=>(fun b=>(ok b∨w1.heap.size≤b)∧¬ ownB va0 b) b∧¬ ownB va1 b) w36 (xe0e1_5) [.int .i32 (rdInt .i32 4 s21).1]:=(RepF_num (by decide)).2 (by rw [yW,hrd];exact congrArg (fun x=>[x]) (numC_rd 3 (by decide) 4 s21).symm)
     clear hrd
     have G8:(rdL (rdQ d ver true) (dfP d) ver true [fX0_6,fX0_7] s22).2=none→FB:=fun h=>G7 (by rw [rdL_st (by decide) wU,← uJ];exact h)
     obtain ⟨xe0e1_6,yX⟩:∃ x,x=dfF (dfP d) fX0_6:=⟨_,rfl⟩
     have wN:RepF (RepS true d) (szS true d) fX0_6 (fun b=>(fun b=>(ok b∨w1.heap.size≤b)∧¬ ownB va0 b) b∧¬ ownB va1 b) w36 (xe0e1_6) [zZ,zZ,zZ,zZ,zZ,zZ,zZ,zZ,zZ,zZ,zZ,zZ,zZ,zZ,zZ,zZ]:=by rw [yX];exact (RepF_uuid rfl).2 rfl
     have VK:(rdL (rdQ d ver true) (dfP d) ver true [fX0_7] s22).2=none→FB:=fun h=>G8 (by rw [rdL_tg (by decide)];exact h)
     obtain ⟨xe0e1_7,yY⟩:∃ x,x=dfF (dfP d) fX0_7:=⟨_,rfl⟩
     have wO:RepF (RepS true d) (szS true d) fX0_7 (fun b=>(fun b=>(ok b∨w1.heap.size≤b)∧¬ ownB va0 b) b∧¬ ownB va1 b) w36 (xe0e1_7) [.int .i64 9223372036854775807]:=by rw [yY];exact (RepF_num (by decide)).2 rfl
     have GY:rdL (rdQ d ver true) (dfP d) ver true [] s22=([],s22):=rfl
     have GX:rdL (rdQ d ver true) (dfP d) ver true [fX0_7] s22=([xe0e1_7],s22):=by rw [rdL_tg (by decide),← yY,GY]
     have GW:rdL (rdQ d ver true) (dfP d) ver true [fX0_6,fX0_7] s22=([xe0e1_6,xe0e1_7],s22):=by rw [rdL_tg (by decide),← yX,GX]
     have GV:rdL (rdQ d ver true) (dfP d) ver true [fX0_5,fX0_6,fX0_7] s21=([xe0e1_5,xe0e1_6,xe0e1_7],s22):=by rw [rdL_st (by decide) wU,← yW,← uJ,GW]
     have GU:rdL (rdQ d ver true) (dfP d) ver true [fX0_4,fX0_5,fX0_6,fX0_7] s20=([xe0e1_4,xe0e1_5,xe0e1_6,xe0e1_7],s22):=by rw [rdL_st (by decide) LP,← DM,← uI,GV]
     have GT:rdL (rdQ d ver true) (dfP d) ver true [fX0_3,fX0_4,fX0_5,fX0_6,fX0_7] s19=([xe0e1_3,xe0e1_4,xe0e1_5,xe0e1_6,xe0e1_7],s22):=by rw [rdL_st (by decide) wT,← yV,← t1,GU]
     have GS:rdL (rdQ d ver true) (dfP d) ver true [fX0_2,fX0_3,fX0_4,fX0_5,fX0_6,fX0_7] s18=([xe0e1_2,xe0e1_3,xe0e1_4,xe0e1_5,xe0e1_6,xe0e1_7],s22):=by rw [rdL_st (by decide) wS,← yU,← uH,GT]
     have GR:rdL (rdQ d ver true) (dfP d) ver true [fX0_1,fX0_2,fX0_3,fX0_4,fX0_5,fX0_6,fX0_7] s17=([xe0e1_1,xe0e1_2,xe0e1_3,xe0e1_4,xe0e1_5,xe0e1_6,xe0e1_7],s22):=by rw [rdL_st (by decide) LO,← DL,← uF,GS]
     have wY:rdL (rdQ d ver true) (dfP d) ver true [fX0_0,fX0_1,fX0_2,fX0_3,fX0_4,fX0_5,fX0_6,fX0_7] s16=([xe0e1_0,xe0e1_1,xe0e1_2,xe0e1_3,xe0e1_4,xe0e1_5,xe0e1_6,xe0e1_7],s22):=by rw [rdL_st (by decide) wR,← yS,← sZ,GR]
     repeat ((first|refine qA ?_|apply qB|refine qC ?_|apply qD|apply qE|apply qF|apply qG|apply qH);try simp (disch:=omega) only [go_sem,IB,dA,dF,dG,dH,d8,dB,d9,dC,dD,dE,cD,dI])
     refine (RUvarint_fn w36 u9.1 hrok).mono ?_
     rintro _ w37 ⟨rfl,BY,uX⟩
     have PC:=uX.blk_some PB (by omega)
     have l7:Upd (fun b=>b=R2∨b=rb) w36 w37:=uX.mono (fun _ h=>.inr h)
     have tO:=pK.trans' l7 fun i hi h=>h.elim (fun h=>by omega) .inr
     have hz37:=l7.size
     have JE:=hG1.updS tO bK bM
     obtain ⟨X37,UI,IC,UW⟩:=el_open (n:=24) PC hA2 rfl
     have hNl:=rdUv_lt s22
     obtain ⟨s23,uM⟩:∃ s,s=(rdUv s22).2:=⟨_,rfl⟩
     rw [← uM] at BY
     obtain ⟨NT,hNT⟩:∃ N,N=(rdUv s22).1:=⟨_,rfl⟩
     rw [← hNT] at hNl
     try rw [← hNT]
     have hCt_37:Upd (fun b=>b=R2∨b=rb) w37 w37:=Upd.refl _ _
     have hCt_36:Upd (fun b=>b=R2∨b=rb) w36 w37:=l7.trans hCt_37
     have hCt_35:Upd (fun b=>b=R2∨b=rb) w35 w37:=lM.trans hCt_36
     have hCt_34:Upd (fun b=>b=R2∨b=rb) w34 w37:=jD.trans hCt_35
     have hCt_33:Upd (fun b=>b=R2∨b=rb) w33 w37:=jC.trans hCt_34
     have hCt_32:Upd (fun b=>b=R2∨b=rb) w32 w37:=l6.trans hCt_33
     have hCt_31:Upd (fun b=>b=R2∨b=rb) w31 w37:=lL.trans hCt_32
     have hCt_30:Upd (fun b=>b=R2∨b=rb) w30 w37:=kE.trans hCt_31
     have hCt_29:Upd (fun b=>b=R2∨b=rb) w29 w37:=l5.trans hCt_30
     have hCt_28:Upd (fun b=>b=R2∨b=rb) w28 w37:=l4.trans hCt_29
     have hCt_27:Upd (fun b=>b=R2∨b=rb) w27 w37:=iX.trans hCt_28
     have hCt_26:Upd (fun b=>b=R2∨b=rb) w26 w37:=fH.trans hCt_27
     have hCt_25:Upd (fun b=>b=R2∨b=rb) w25 w37:=jB.trans hCt_26
     have hCt_24:Upd (fun b=>b=R2∨b=rb) w24 w37:=iW.trans hCt_25
     have hCt_23:Upd (fun b=>b=R2∨b=rb) w23 w37:=iV.trans hCt_24
     have hgt_0:RepF (RepS true d) (szS true d) fX0_0 (fun b=>(fun b=>(fun b=>(ok b∨w1.heap.size≤b)∧¬ ownB va0 b) b∧¬ ownB va1 b) b∧b < w37.heap.size) w37 xe0e1_0 [.int .i32 (rdInt .i32 4 s16).1]:=RepF.weakenS (BF.keepS (hCt_26.keeps fun b _ hk e=>cZ b hk e)) fun b hb hk=>⟨hk,hb⟩
     have hgt_1:RepF (RepS true d) (szS true d) fX0_1 (fun b=>(fun b=>(fun b=>(ok b∨w1.heap.size≤b)∧¬ ownB va0 b) b∧¬ ownB va1 b) b∧b < w37.heap.size) w37 xe0e1_1 [.int .i32 (rdInt .i32 4 s17).1]:=RepF.weakenS (BG.keepS (hCt_28.keeps fun b _ hk e=>cZ b hk e)) fun b hb hk=>⟨hk,hb⟩
     have hgt_2:RepF (RepS true d) (szS true d) fX0_2 (fun b=>(fun b=>(fun b=>(ok b∨w1.heap.size≤b)∧¬ ownB va0 b) b∧¬ ownB va1 b) b∧b < w37.heap.size) w37 xe0e1_2 [.int .i64 (rdInt .i64 8 s18).1]:=RepF.weakenS (BH.keepS (hCt_30.keeps fun b _ hk e=>cZ b hk e)) fun b hb hk=>⟨hk,hb⟩
     have hgt_3:RepF (RepS true d) (szS true d) fX0_3 (fun b=>(fun b=>(fun b=>(ok b∨w1.heap.size≤b)∧¬ ownB va0 b) b∧¬ ownB va1 b) b∧b < w37.heap.size) w37 xe0e1_3 [.int .i32 (rdInt .i32 4 s19).1]:=RepF.weakenS (BI.keepS (hCt_32.keeps fun b _ hk e=>cZ b hk e)) fun b hb hk=>⟨hk,hb⟩
     have hgt_4:RepF (RepS true d) (szS true d) fX0_4 (fun b=>(fun b=>(fun b=>(ok b∨w1.heap.size≤b)∧¬ ownB va0 b) b∧¬ ownB va1 b) b∧b < w37.heap.size) w37 xe0e1_4 [.int .i64 (rdInt .i64 8 s20).1]:=RepF.weakenS (BJ.keepS (hCt_34.keeps fun b _ hk e=>cZ b hk e)) fun b hb hk=>⟨hk,hb⟩
     have hgt_5:RepF (RepS true d) (szS true d) fX0_5 (fun b=>(fun b=>(fun b=>(ok b∨w1.heap.size≤b)∧¬ ownB va0 b) b∧¬ ownB va1 b) b∧b < w37.heap.size) w37 xe0e1_5 [.int .i32 (rdInt .i32 4 s21).1]:=RepF.weakenS (BK.keepS (hCt_36.keeps fun b _ hk e=>cZ b hk e)) fun b hb hk=>⟨hk,hb⟩
     have hgt_6:RepF (RepS true d) (szS true d) fX0_6 (fun b=>(fun b=>(fun b=>(ok b∨w1.heap.size≤b)∧¬ ownB va0 b) b∧¬ ownB va1 b) b∧b < w37.heap.size) w37 xe0e1_6 [zZ,zZ,zZ,zZ,zZ,zZ,zZ,zZ,zZ,zZ,zZ,zZ,zZ,zZ,zZ,zZ]:=RepF.weakenS (wN.keepS (hCt_36.keeps fun b _ hk e=>cZ b hk e)) fun b hb hk=>⟨hk,hb⟩
     have hgt_7:RepF (RepS true d) (szS true d) fX0_7 (fun b=>(fun b=>(fun b=>(ok b∨w1.heap.size≤b)∧¬ ownB va0 b) b∧¬ ownB va1 b) b∧b < w37.heap.size) w37 xe0e1_7 [.int .i64 9223372036854775807]:=RepF.weakenS (wO.keepS (hCt_36.keeps fun b _ hk e=>cZ b hk e)) fun b hb hk=>⟨hk,hb⟩
     repeat ((first|refine qA ?_|apply qB|refine qC ?_|apply qD|apply qE|apply qF|apply qG|apply qH);try simp (disch:=omega) only [go_sem,IC,dA,dF,dG,dH,d8,dB,d9,dC,dD,dE,cD,dI])
     refine W.exitRJ 4 (EndQ [(2,zB),(7,.pointer (some ⟨rb,0,none⟩)),(8,.int .i16 ver),(9,.bool true),(10,.pointer (some ⟨vb,0,none⟩)),(20,.int .i32 y0),(19,.slice (some ⟨R1,0,none⟩) N0 q1),(21,.int .i32 j1),(23,.pointer (some ⟨R1,j1 * 19,none⟩)),(28,.int .i32 y1),(27,.slice (some ⟨R2,0,none⟩) N1 q2),(29,.int .i32 j2),(31,.pointer (some ⟨R2,j2 * 24,none⟩))] (fun w'=>∃ (u:List TagD) (st:St) (qm:Option Nat) (y_6:Tree) (v_6:Value) (v_7:Value) (v_8:Value) (v_9:Value) (v_10:Value) (v_11:Value) (v_12:Value) (v_13:Value) (v_14:Value) (v_15:Value) (v_16:Value) (v_17:Value) (v_18:Value) (v_19:Value) (v_20:Value) (v_21:Value) (y_7:Tree) (v_22:Value),rdTg (rdQ d ver true) ver true fs_X0 0 [xe0e1_0,xe0e1_1,xe0e1_2,xe0e1_3,xe0e1_4,xe0e1_5,y_6,y_7] u st=rdTgs (rdQ d ver true) ver true fs_X0 [xe0e1_0,xe0e1_1,xe0e1_2,xe0e1_3,xe0e1_4,xe0e1_5,xe0e1_6,xe0e1_7] s22∧blk w' R2=some ((A2++(([.int .i32 (rdInt .i32 4 s16).1,.int .i32 (rdInt .i32 4 s17).1,.int .i64 (rdInt .i64 8 s18).1,.int .i32 (rdInt .i32 4 s19).1,.int .i64 (rdInt .i64 8 s20).1,.int .i32 (rdInt .i32 4 s21).1,v_6,v_7,v_8,v_9,v_10,v_11,v_12,v_13,v_14,v_15,v_16,v_17,v_18,v_19,v_20,v_21,v_22,.map qm]:List Value)++B2)).toArray,113,(0,0))∧RepF (RepS true d) (szS true d) fX0_6 (fun b=>(fun b=>(fun b=>(ok b∨w1.heap.size≤b)∧¬ ownB va0 b) b∧¬ ownB va1 b) b∧b < w'.heap.size∧¬ qm=some b) w' y_6 [v_6,v_7,v_8,v_9,v_10,v_11,v_12,v_13,v_14,v_15,v_16,v_17,v_18,v_19,v_20,v_21]∧RepF (RepS true d) (szS true d) fX0_7 (fun b=>(fun b=>(fun b=>(ok b∨w1.heap.size≤b)∧¬ ownB va0 b) b∧¬ ownB va1 b) b∧b < w'.heap.size∧¬ qm=some b) w' y_7 [v_22]∧TagsG ok w37.heap.size w' (.map qm) u∧(u.map (·.1)).Nodup∧(Rdr RT ok w' rb st∧NN w' rb st)∧Upd (fun b=>b=R2∨b=rb) w37 w')) (W.loop (LoopT [(2,zB),(7,.pointer (some ⟨rb,0,none⟩)),(8,.int .i16 ver),(9,.bool true),(10,.pointer (some ⟨vb,0,none⟩)),(20,.int .i32 y0),(19,.slice (some ⟨R1,0,none⟩) N0 q1),(21,.int .i32 j1),(23,.pointer (some ⟨R1,j1 * 19,none⟩)),(28,.int .i32 y1),(27,.slice (some ⟨R2,0,none⟩) N1 q2),(29,.int .i32 j2),(31,.pointer (some ⟨R2,j2 * 24,none⟩))] 38 (fun m w'=>∃ (u:List TagD) (st:St) (qm:Option Nat) (y_6:Tree) (v_6:Value) (v_7:Value) (v_8:Value) (v_9:Value) (v_10:Value) (v_11:Value) (v_12:Value) (v_13:Value) (v_14:Value) (v_15:Value) (v_16:Value) (v_17:Value) (v_18:Value) (v_19:Value) (v_20:Value) (v_21:Value) (y_7:Tree) (v_22:Value),m≤NT∧rdTg (rdQ d ver true) ver true fs_X0 m [xe0e1_0,xe0e1_1,xe0e1_2,xe0e1_3,xe0e1_4,xe0e1_5,y_6,y_7] u st=rdTgs (rdQ d ver true) ver true fs_X0 [xe0e1_0,xe0e1_1,xe0e1_2,xe0e1_3,xe0e1_4,xe0e1_5,xe0e1_6,xe0e1_7] s22∧blk w' R2=some ((A2++(([.int .i32 (rdInt .i32 4 s16).1,.int .i32 (rdInt .i32 4 s17).1,.int .i64 (rdInt .i64 8 s18).1,.int .i32 (rdInt .i32 4 s19).1,.int .i64 (rdInt .i64 8 s20).1,.int .i32 (rdInt .i32 4 s21).1,v_6,v_7,v_8,v_9,v_10,v_11,v_12,v_13,v_14,v_15,v_16,v_17,v_18,v_19,v_20,v_21,v_22,.map qm]:List Value)++B2)).toArray,113,(0,0))∧RepF (RepS true d) (szS true d) fX0_6 (fun b=>(fun b=>(fun b=>(ok b∨w1.heap.size≤b)∧¬ ownB va0 b) b∧¬ ownB va1 b) b∧b < w'.heap.size∧¬ qm=some b) w' y_6 [v_6,v_7,v_8,v_9,v_10,v_11,v_12,v_13,v_14,v_15,v_16,v_17,v_18,v_19,v_20,v_21]∧RepF (RepS true d) (szS true d) fX0_7 (fun b=>(fun b=>(fun b=>(ok b∨w1.heap.size≤b)∧¬ ownB va0 b) b∧¬ ownB va1 b) b∧b < w'.heap.size∧¬ qm=some b) w' y_7 [v_22]∧TagsG ok w37.heap.size w' (.map qm) u∧(u.map (·.1)).Nodup∧(Rdr RT ok w' rb st∧NN w' rb st)∧Upd (fun b=>b=R2∨b=rb) w37 w')) (fun ρ _=>(RowKit.intOf (ρ 38)).toNat) ?_ ?_) ?_
     ·exact ⟨(by simp (disch:=omega) only [go_sem,Holds_nil,Holds_cons,dA,dF,dG,dH,d8,dB,d9,dC,dD,dE,cD,dI]),NT,(by simp (disch:=omega) only [go_sem,dA,dF,dG,dH,d8,dB,d9,dC,dD,dE,cD,dI];all_goals rfl),[],s23,none,xe0e1_6,zZ,zZ,zZ,zZ,zZ,zZ,zZ,zZ,zZ,zZ,zZ,zZ,zZ,zZ,zZ,zZ,xe0e1_7,.int .i64 9223372036854775807,Nat.le_refl _,(by unfold rdTgs;rw [← hNT,← uM]),PC,RepF.weakenS hgt_6 (fun b hb hk=>⟨hk.1,hb,fun h=>by cases h⟩),RepF.weakenS hgt_7 (fun b hb hk=>⟨hk.1,hb,fun h=>by cases h⟩),TagsG.start _ _ _,by simp,BY,Upd.refl _ _⟩
     ·rintro ρ w38 ⟨⟨hrt_2,hrt_7,hrt_8,hrt_9,hrt_10,hrt_20,hrt_19,hrt_21,hrt_23,hrt_28,hrt_27,hrt_29,hrt_31,-⟩,m,hri,u,s24,qm,y_6,v_6,v_7,v_8,v_9,v_10,v_11,v_12,v_13,v_14,v_15,v_16,v_17,v_18,v_19,v_20,v_21,y_7,v_22,hmN,hE,I7,hfT_6,hfT_7,hTG,hnd,xK,tS⟩
      obtain ⟨X38,KM,DG,UX⟩:=el_open (n:=24) I7 hA2 rfl
      have tP:=tO.trans' tS fun i hi h=>h.elim (fun h=>by omega) .inr
      have hz38:=tP.size
      have hza38:=tS.size
      have RO:=hG1.updS tP bK bM
      have hmap:∀ b,qm=some b→b < w38.heap.size∧w37.heap.size≤b:=fun b h=>hTG.lt h
      by_cases hm0:m=0
      ·subst hm0
       have hc:¬ (0:Int) < ((0:Nat):Int):=by omega
       repeat ((first|refine qA ?_|apply qB|refine qC ?_|apply qD|apply qE|apply qF|apply qG|apply qH);try simp (disch:=omega) only [go_sem,DG,hrt_2,hrt_7,hrt_8,hrt_9,hrt_10,hrt_20,hrt_19,hrt_21,hrt_23,hrt_28,hrt_27,hrt_29,hrt_31,hri])
       exact ⟨(by simp (disch:=omega) only [go_sem,Holds_nil,Holds_cons,hrt_2,hrt_7,hrt_8,hrt_9,hrt_10,hrt_20,hrt_19,hrt_21,hrt_23,hrt_28,hrt_27,hrt_29,hrt_31,hri]),u,s24,qm,y_6,v_6,v_7,v_8,v_9,v_10,v_11,v_12,v_13,v_14,v_15,v_16,v_17,v_18,v_19,v_20,v_21,y_7,v_22,hE,I7,hfT_6,hfT_7,hTG,hnd,xK,tS⟩
      ·obtain ⟨m,rfl⟩:∃ q,m=q+1:=⟨m - 1,by omega⟩
       have hw1:IntKind.u32.wrap (((m+1:Nat):Int) - 1)=((m:Nat):Int):=by rw [u32_wrap (by omega)];omega
       repeat ((first|refine qA ?_|apply qB|refine qC ?_|apply qD|apply qE|apply qF|apply qG|apply qH);try simp (disch:=omega) only [go_sem,DG,hrt_2,hrt_7,hrt_8,hrt_9,hrt_10,hrt_20,hrt_19,hrt_21,hrt_23,hrt_28,hrt_27,hrt_29,hrt_31,hri])
       refine (RUvarint_fn w38 xK.1 hrok).mono ?_
       rintro _ w39 ⟨rfl,qU,O3⟩
       have DC:=O3.blk_some I7 (by omega)
       have l8:Upd (fun b=>b=R2∨b=rb) w38 w39:=O3.mono (fun _ h=>.inr h)
       have tQ:=tP.trans' l8 fun i hi h=>h.elim (fun h=>by omega) .inr
       have hz39:=l8.size
       have JF:=hG1.updS tQ bK bM
       obtain ⟨X39,KN,vE,UY⟩:=el_open (n:=24) DC hA2 rfl
       have hKl:=rdUv_lt s24
       obtain ⟨s25,kX⟩:∃ s,s=(rdUv s24).2:=⟨_,rfl⟩
       rw [← kX] at qU
       obtain ⟨K,hK⟩:∃ N,N=(rdUv s24).1:=⟨_,rfl⟩
       rw [← hK] at hKl
       try rw [← hK]
       by_cases hk0:K=0
       ·have hkI:(K:Int)=0:=by omega
        repeat ((first|refine qA ?_|apply qB|refine qC ?_|apply qD|apply qE|apply qF|apply qG|apply qH);try simp (disch:=omega) only [go_sem,vE,hrt_2,hrt_7,hrt_8,hrt_9,hrt_10,hrt_20,hrt_19,hrt_21,hrt_23,hrt_28,hrt_27,hrt_29,hrt_31,hri,hkI])
        refine (RUvarint_fn w39 qU.1 hrok).mono ?_
        rintro _ w40 ⟨rfl,fC,kY⟩
        have oW:=kY.blk_some DC (by omega)
        have gO:Upd (fun b=>b=R2∨b=rb) w39 w40:=kY.mono (fun _ h=>.inr h)
        have iR:=tQ.trans' gO fun i hi h=>h.elim (fun h=>by omega) .inr
        have IH:=gO.size
        have EI:=hG1.updS iR bK bM
        obtain ⟨X40,wK,gI,FQ⟩:=el_open (n:=24) oW hA2 rfl
        have hSl:=rdUv_lt s25
        obtain ⟨s26,uO⟩:∃ s,s=(rdUv s25).2:=⟨_,rfl⟩
        rw [← uO] at fC
        obtain ⟨SL,hSL⟩:∃ N,N=(rdUv s25).1:=⟨_,rfl⟩
        rw [← hSL] at hSl
        try rw [← hSL]
        have e64:IntKind.i64.wrap (SL:Int)=SL:=i64_wrap (by omega)
        repeat (first|simp (disch:=omega) only [go_sem,gI,hrt_2,hrt_7,hrt_8,hrt_9,hrt_10,hrt_20,hrt_19,hrt_21,hrt_23,hrt_28,hrt_27,hrt_29,hrt_31,hri,e64]|refine qA ?_|apply qB|refine qC ?_|apply qD|apply qE|apply qF|apply qG|apply qH)
        refine (Span_fn w40 fC.1 hrok _).mono ?_
        rintro r41 w41 ⟨hBs,_,_,hqx,hqy,oK⟩
        have kM:=And.intro hqx (hqy (.inl fC.2))
        clear hqx hqy
        have tC:=oK.blk_some oW (by omega)
        have pP:Upd (fun b=>b=R2∨b=rb) w40 w41:=oK.mono (fun _ h=>.inr h)
        have vX:=iR.trans' pP fun i hi h=>h.elim (fun h=>by omega) .inr
        have hz41:=pP.size
        have RP:=hG1.updS vX bK bM
        obtain ⟨X41,AU,oZ,KU⟩:=el_open (n:=24) tC hA2 rfl
        obtain ⟨s27,HE⟩:∃ s,s=(rdSpan (SL:Int) s26).2:=⟨_,rfl⟩
        rw [← HE] at kM
        obtain ⟨SP,hSP⟩:∃ x,x=(rdSpan (SL:Int) s26).1:=⟨_,rfl⟩
        rw [← hSP] at hBs
        rw [uO] at hSP HE
        obtain ⟨spa,spc,rfl,_⟩:=hBs.shape
        repeat ((first|refine qA ?_|apply qB|refine qC ?_|apply qD|apply qE|apply qF|apply qG|apply qH);try simp (disch:=omega) only [go_sem,oZ,hrt_2,hrt_7,hrt_8,hrt_9,hrt_10,hrt_20,hrt_19,hrt_21,hrt_23,hrt_28,hrt_27,hrt_29,hrt_31,hri,e64])
        obtain ⟨rc0,hrc⟩:∃ r,r=w41.heap.size:=⟨_,rfl⟩
        have hEi:Ext w41 (wr (w41.alloc (.cells #[zS,zB] 104)) w41.heap.size 0 [.slice spa SP.length spc,zB]):=(Upd.alloc (Upd.refl _ _) _).wr _ _ (.inl (Nat.le_refl _))
        have hzi:(wr (w41.alloc (.cells #[zS,zB] 104)) w41.heap.size 0 [.slice spa SP.length spc,zB]).heap.size=w41.heap.size+1:=by rw [size_wr,World.size_alloc]
        have hRi:Rdr RT ok (wr (w41.alloc (.cells #[zS,zB] 104)) w41.heap.size 0 [.slice spa SP.length spc,zB]) w41.heap.size (some SP):=Rdr.good (v:=.slice spa SP.length spc) (by simp (disch:=omega) only [go_sem]) (hBs.keep (hEi.keeps _))
        have jH:=hEi.blk_some tC id
        have hqo:=And.intro (kM.1.upd hEi (fun h=>h) (fun _ _ _ h=>h)) (kM.2.upd hEi fun h=>h)
        repeat ((first|refine qA ?_|apply qB|refine qC ?_|apply qD|apply qE|apply qF|apply qG|apply qH);try simp (disch:=omega) only [go_sem,oZ,hrt_2,hrt_7,hrt_8,hrt_9,hrt_10,hrt_20,hrt_19,hrt_21,hrt_23,hrt_28,hrt_27,hrt_29,hrt_31,hri,hkI])
        generalize (wr (w41.alloc (.cells #[zS,zB] 104)) w41.heap.size 0 [.slice spa SP.length spc,zB])=w42 at *
        rw [← hrc] at hRi
        try rw [← hrc]
        obtain ⟨X42,tX,tE,FR⟩:=el_open (n:=24) jH hA2 rfl
        have l9:Upd (fun b=>b=R2∨b=rb) w41 w42:=hEi.mono fun _ h=>h.elim
        have jK:=vX.trans' l9 fun i hi h=>h.elim (fun h=>by omega) .inr
        have z2:=l9.size
        have lF:=hG1.updS jK bK bM
        have hQo:Upd (fun b=>b=R2∨b=rb) w38 w42:=(((l8.trans gO).trans pP).trans l9)
        have hzo:=hQo.size
        have hrokc:¬ ok rc0:=fun h=>by have:=(hok _ h).1;omega
        have hgrbc:¬ 0=rc0:=by omega
        have fI:¬ (0=R2∨0=rc0):=fun h=>h.elim (fun h=>by omega) fun h=>by omega
        have fJ:¬ (1=R2∨1=rc0):=fun h=>h.elim (fun h=>by omega) fun h=>by omega
        have hoMc:∀ b,(fun b=>(fun b=>(fun b=>ok b∨w42.heap.size≤b) b∧¬ ownB va0 b) b∧¬ ownB va1 b) b→¬ (b=R2∨b=rc0):=fun b hk h=>by
         have hk2:=hk.2
         rcases h with h|h
         ·exact hk2 ⟨_,_,_,eJ,h⟩
         ·rcases hk.1 with hk|hk
          ·have:=hok b hk;omega
          ·omega
        have hbasec:Upd (fun b=>b=vb) w w42:=hbase.trans' jK fun i hi h=>h.elim id fun h=>by omega
        have hUc:Upd (fun b=>b=R2∨b=rc0) w42 w42:=Upd.refl _ _
        have hqc:Rdr RT ok w42 rc0 (some SP):=hRi
        obtain ⟨s28,t2⟩:∃ s:St,s=some SP:=⟨_,rfl⟩
        rw [← t2] at hqc
        have hbT:(rdF (rdQ d ver true) ver true fX0_6 s28).2=none→FB:=fun h=>LD (rdQ_badT wY (by rw [← hE];exact rdTg_bad (hK.symm.trans hk0) rfl (by rw [← kX,← hSL,← hSP,← t2];exact h)))
        have hhe0e1t0_6:hasS fX0_6 ver=true:=hasS_t (by show (0:Int)≤ver;omega) (by show (-1:Int) < 0∨ver≤(-1:Int);omega)
        obtain ⟨xe0e1t0_6,PM⟩:∃ x,x=(rdF (rdQ d ver true) ver true fX0_6 s28).1:=⟨_,rfl⟩
        repeat ((first|refine qA ?_|apply qB|refine qC ?_|apply qD|apply qE|apply qF|apply qG|apply qH);try simp (disch:=omega) only [go_sem,tE,hrt_2,hrt_7,hrt_8,hrt_9,hrt_10,hrt_20,hrt_19,hrt_21,hrt_23,hrt_28,hrt_27,hrt_29,hrt_31,hri])
        have hrd:rdF (rdQ d ver true) ver true fX0_6 s28=_:=rdF_uuid rfl
        refine (RUuid_fn w42 hqc hrokc).mono ?_
        rintro _ w43 ⟨rfl,kN,oL⟩
        have kZ:=oL.blk_some jH (by omega)
        have gJ:Upd (fun b=>b=R2∨b=rc0) w42 w43:=oL.mono (fun _ h=>.inr h)
        have iS:=hUc.trans gJ
        have DS:=gJ.size
        have EJ:=lF.updS iS fI fJ
        obtain ⟨X43,wL,pA,FS⟩:=el_open (n:=24) kZ hA2 rfl
        have hst:(rdF (rdQ d ver true) ver true fX0_6 s28).2=(rdSpan 16 s28).2:=by first|(rw [hrd];rfl)|rw [hrd]
        obtain ⟨s29,uP⟩:∃ s,s=(rdF (rdQ d ver true) ver true fX0_6 s28).2:=⟨_,rfl⟩
        rw [← hst,← uP] at kN
        clear hst
        have hl16:((uuidS (rdSpan 16 s28).1).map byteV).length=16:=by rw [List.length_map,uuidS_len]
        have oO:=flat_bytes (uuidS (rdSpan 16 s28).1)
        have hxe:xe0e1t0_6 = .oct false (uuidS (rdSpan 16 s28).1):=by rw [PM,hrd]
        have hxc:(uuidS (xe0e1t0_6).s).map byteV=(uuidS (rdSpan 16 s28).1).map byteV:=by rw [hxe];show (uuidS (uuidS _)).map byteV=_;rw [uuidS_idem]
        generalize (uuidS (rdSpan 16 s28).1).map byteV=Xu at *
        obtain ⟨ue0e1t06_0,ue0e1t06_1,ue0e1t06_2,ue0e1t06_3,ue0e1t06_4,ue0e1t06_5,ue0e1t06_6,ue0e1t06_7,ue0e1t06_8,ue0e1t06_9,ue0e1t06_10,ue0e1t06_11,ue0e1t06_12,ue0e1t06_13,ue0e1t06_14,ue0e1t06_15,rfl⟩:=list16 hl16
        simp only [List.all_cons,List.all_nil,Bool.and_true,Bool.and_eq_true] at oO
        obtain ⟨fue0e1t06_0,fue0e1t06_1,fue0e1t06_2,fue0e1t06_3,fue0e1t06_4,fue0e1t06_5,fue0e1t06_6,fue0e1t06_7,fue0e1t06_8,fue0e1t06_9,fue0e1t06_10,fue0e1t06_11,fue0e1t06_12,fue0e1t06_13,fue0e1t06_14,fue0e1t06_15⟩:=oO
        have hcz:cellsAt #[ue0e1t06_0,ue0e1t06_1,ue0e1t06_2,ue0e1t06_3,ue0e1t06_4,ue0e1t06_5,ue0e1t06_6,ue0e1t06_7,ue0e1t06_8,ue0e1t06_9,ue0e1t06_10,ue0e1t06_11,ue0e1t06_12,ue0e1t06_13,ue0e1t06_14,ue0e1t06_15] 0 16=some (.agg #[ue0e1t06_0,ue0e1t06_1,ue0e1t06_2,ue0e1t06_3,ue0e1t06_4,ue0e1t06_5,ue0e1t06_6,ue0e1t06_7,ue0e1t06_8,ue0e1t06_9,ue0e1t06_10,ue0e1t06_11,ue0e1t06_12,ue0e1t06_13,ue0e1t06_14,ue0e1t06_15]):=cellsAt_full rfl
        have hst43_6:j2 * 24+22≤X43.size:=by omega
        repeat (first|simp (disch:=omega) only [go_sem,pA,hrt_2,hrt_7,hrt_8,hrt_9,hrt_10,hrt_20,hrt_19,hrt_21,hrt_23,hrt_28,hrt_27,hrt_29,hrt_31,hri,hcz,fue0e1t06_0,fue0e1t06_1,fue0e1t06_2,fue0e1t06_3,fue0e1t06_4,fue0e1t06_5,fue0e1t06_6,fue0e1t06_7,fue0e1t06_8,fue0e1t06_9,fue0e1t06_10,fue0e1t06_11,fue0e1t06_12,fue0e1t06_13,fue0e1t06_14,fue0e1t06_15,hst43_6]|refine qA ?_|apply qB|refine qC ?_|apply qD|apply qE|apply qF|apply qG|apply qH)
        have hEu:Ext w43 (wr (w43.alloc (.cells #[zZ,zZ,zZ,zZ,zZ,zZ,zZ,zZ,zZ,zZ,zZ,zZ,zZ,zZ,zZ,zZ] 82)) w43.heap.size 0 [ue0e1t06_0,ue0e1t06_1,ue0e1t06_2,ue0e1t06_3,ue0e1t06_4,ue0e1t06_5,ue0e1t06_6,ue0e1t06_7,ue0e1t06_8,ue0e1t06_9,ue0e1t06_10,ue0e1t06_11,ue0e1t06_12,ue0e1t06_13,ue0e1t06_14,ue0e1t06_15]):=(Upd.alloc (Upd.refl _ _) _).wr _ _ (.inl (Nat.le_refl _))
        have qV:=And.intro (kN.1.upd hEu (fun h=>h) (fun _ _ _ h=>h)) (kN.2.upd hEu fun h=>h)
        have yC:Upd (fun b=>b=rc0) w43 (wr (w43.alloc (.cells #[zZ,zZ,zZ,zZ,zZ,zZ,zZ,zZ,zZ,zZ,zZ,zZ,zZ,zZ,zZ,zZ] 82)) w43.heap.size 0 [ue0e1t06_0,ue0e1t06_1,ue0e1t06_2,ue0e1t06_3,ue0e1t06_4,ue0e1t06_5,ue0e1t06_6,ue0e1t06_7,ue0e1t06_8,ue0e1t06_9,ue0e1t06_10,ue0e1t06_11,ue0e1t06_12,ue0e1t06_13,ue0e1t06_14,ue0e1t06_15]):=hEu.mono fun _ h=>h.elim
        clear hEu
        generalize (wr (w43.alloc (.cells #[zZ,zZ,zZ,zZ,zZ,zZ,zZ,zZ,zZ,zZ,zZ,zZ,zZ,zZ,zZ,zZ] 82)) w43.heap.size 0 [ue0e1t06_0,ue0e1t06_1,ue0e1t06_2,ue0e1t06_3,ue0e1t06_4,ue0e1t06_5,ue0e1t06_6,ue0e1t06_7,ue0e1t06_8,ue0e1t06_9,ue0e1t06_10,ue0e1t06_11,ue0e1t06_12,ue0e1t06_13,ue0e1t06_14,ue0e1t06_15])=w44 at *
        have oX:=yC.blk_some kZ (by omega)
        have gK:Upd (fun b=>b=R2∨b=rc0) w43 w44:=yC.mono (fun _ h=>.inr h)
        have fE:=iS.trans gK
        have DT:=gK.size
        have zK:=lF.updS fE fI fJ
        obtain ⟨X44,tY,mH,FT⟩:=el_open (n:=24) oX hA2 rfl
        generalize mG:wr w44 R2 (j2 * 24+6) [ue0e1t06_0,ue0e1t06_1,ue0e1t06_2,ue0e1t06_3,ue0e1t06_4,ue0e1t06_5,ue0e1t06_6,ue0e1t06_7,ue0e1t06_8,ue0e1t06_9,ue0e1t06_10,ue0e1t06_11,ue0e1t06_12,ue0e1t06_13,ue0e1t06_14,ue0e1t06_15] = w45
        have F5:Upd (fun b=>b=R2∨b=rc0) w44 w45:=by rw [← mG];exact (Upd.refl _ _).wr _ _ (.inr (.inl rfl))
        have PD:blk w45 R2=some ((A2++(([.int .i32 (rdInt .i32 4 s16).1,.int .i32 (rdInt .i32 4 s17).1,.int .i64 (rdInt .i64 8 s18).1,.int .i32 (rdInt .i32 4 s19).1,.int .i64 (rdInt .i64 8 s20).1,.int .i32 (rdInt .i32 4 s21).1,ue0e1t06_0,ue0e1t06_1,ue0e1t06_2,ue0e1t06_3,ue0e1t06_4,ue0e1t06_5,ue0e1t06_6,ue0e1t06_7,ue0e1t06_8,ue0e1t06_9,ue0e1t06_10,ue0e1t06_11,ue0e1t06_12,ue0e1t06_13,ue0e1t06_14,ue0e1t06_15,v_22,.map qm]:List Value)++B2)).toArray,113,(0,0)):=by rw [← mG];exact el_blk (o:=6) oX hA2 (Nat.le_of_ble_eq_true rfl)
        have jE:=F5
        have kB:=fE.trans jE
        have QA:=jE.size
        have EK:=lF.updS kB fI fJ
        have xM:=Rdr.stored mG qV (by omega) fun h=>by have:=(hok _ h).1;first|omega|exact (hok _ h).2 rfl
        obtain ⟨X45,KO,tF,KV⟩:=el_open (n:=24) PD hA2 rfl
        clear mG
        have W0:RepF (RepS true d) (szS true d) fX0_6 (fun b=>(fun b=>(ok b∨w42.heap.size≤b)∧¬ ownB va0 b) b∧¬ ownB va1 b) w45 (xe0e1t0_6) [ue0e1t06_0,ue0e1t06_1,ue0e1t06_2,ue0e1t06_3,ue0e1t06_4,ue0e1t06_5,ue0e1t06_6,ue0e1t06_7,ue0e1t06_8,ue0e1t06_9,ue0e1t06_10,ue0e1t06_11,ue0e1t06_12,ue0e1t06_13,ue0e1t06_14,ue0e1t06_15]:=(RepF_uuid rfl).2 hxc.symm
        clear hrd
        repeat ((first|refine qA ?_|apply qB|refine qC ?_|apply qD|apply qE|apply qF|apply qG|apply qH);try simp (disch:=omega) only [go_sem,tF,hrt_2,hrt_7,hrt_8,hrt_9,hrt_10,hrt_20,hrt_19,hrt_21,hrt_23,hrt_28,hrt_27,hrt_29,hrt_31,hri])
        refine (RComplete_fn w45 xM.1 EK.2).mono ?_
        rintro _ wz ⟨rfl,hez⟩
        rw [hez]
        clear hez wz
        have hxF:rdF (rdQ d ver true) ver true fX0_6 s28=(xe0e1t0_6,s29):=by rw [PM,uP]
        by_cases hsz:s29=none
        ·rw [errV_none hsz]
         obtain ⟨eT,ep,hevE⟩:=hev
         rw [hevE]
         repeat (first|simp (disch:=omega) only [go_sem,tF,hrt_2,hrt_7,hrt_8,hrt_9,hrt_10,hrt_20,hrt_19,hrt_21,hrt_23,hrt_28,hrt_27,hrt_29,hrt_31,hri]|refine qA ?_|apply qB|refine qC ?_|apply qD|apply qE|apply qF|apply qG|apply qH)
         rw [← hevE]
         exact ReadQ.bad (Eq.mp hFB (hbT (by rw [hxF];exact hsz))) (hbasec.trans' kB fun i hi h=>h.elim (fun h=>by omega) fun h=>by omega)
        have hen:errV ev s29 = .nilIface:=errV_some hsz
        rw [hen]
        repeat (first|simp (disch:=omega) only [go_sem,tF,hrt_2,hrt_7,hrt_8,hrt_9,hrt_10,hrt_20,hrt_19,hrt_21,hrt_23,hrt_28,hrt_27,hrt_29,hrt_31,hri,hw1]|refine qA ?_|apply qB|refine qC ?_|apply qD|apply qE|apply qF|apply qG|apply qH)
        have hRk:Upd (fun b=>b=R2∨b=rb) w38 w45:=hQo.trans' kB fun i hi h=>h.elim .inl fun h=>by omega
        have hzr:=hRk.size
        have hE2:rdTg (rdQ d ver true) ver true fs_X0 m [xe0e1_0,xe0e1_1,xe0e1_2,xe0e1_3,xe0e1_4,xe0e1_5,xe0e1t0_6,y_7] u s27=rdTgs (rdQ d ver true) ver true fs_X0 [xe0e1_0,xe0e1_1,xe0e1_2,xe0e1_3,xe0e1_4,xe0e1_5,xe0e1_6,xe0e1_7] s22:=by
         have h:=(rdTg_known (k:=0) (hK.symm.trans hk0) rfl (by rw [← kX,← hSL,← hSP,← t2];exact hxF) hsz).symm.trans hE
         rw [← kX,← hSL,← HE] at h;exact h
        refine ⟨⟨(by simp (disch:=omega) only [go_sem,Holds_nil,Holds_cons,hrt_2,hrt_7,hrt_8,hrt_9,hrt_10,hrt_20,hrt_19,hrt_21,hrt_23,hrt_28,hrt_27,hrt_29,hrt_31,hri]),m,(by simp (disch:=omega) only [go_sem,hrt_2,hrt_7,hrt_8,hrt_9,hrt_10,hrt_20,hrt_19,hrt_21,hrt_23,hrt_28,hrt_27,hrt_29,hrt_31,hri,hw1];all_goals rfl),u,s27,qm,xe0e1t0_6,ue0e1t06_0,ue0e1t06_1,ue0e1t06_2,ue0e1t06_3,ue0e1t06_4,ue0e1t06_5,ue0e1t06_6,ue0e1t06_7,ue0e1t06_8,ue0e1t06_9,ue0e1t06_10,ue0e1t06_11,ue0e1t06_12,ue0e1t06_13,ue0e1t06_14,ue0e1t06_15,y_7,v_22,by omega,hE2,PD,RepF.weakenS W0 (fun b hb hk=>⟨⟨⟨hk.1.1.imp id fun h=>by omega,hk.1.2⟩,hk.2⟩,hb,fun h=>by have:=hmap b h;rcases hk.1.1 with hk|hk<;>first|omega|(have:=(hok b hk).1;omega)⟩),RepF.weakenS (hfT_7.keepS (hRk.keeps fun b _ hk e=>(cZ b hk.1) e)) (fun b hb hk=>⟨hk.1,hb,hk.2.2⟩),hTG.keep (fun b hb hk=>hRk.keep b hb fun e=>by rcases hk with hk|hk<;>rcases e with e|e<;>first|omega|(have:=hok b hk.1;omega)),hnd,⟨hqo.1.upd kB (by omega) (fun b _ hk e=>by have:=hok b hk;omega),hqo.2.upd kB (by omega)⟩,tS.trans hRk⟩,?_⟩
        try simp (disch:=omega) only [go_sem,hrt_2,hrt_7,hrt_8,hrt_9,hrt_10,hrt_20,hrt_19,hrt_21,hrt_23,hrt_28,hrt_27,hrt_29,hrt_31,hri]
        simp only [RowKit.intOf]
        omega
       ·have GH:¬ (K:Int)=0:=by omega
        by_cases hk1:K=1
        ·have hkI:(K:Int)=1:=by omega
         repeat ((first|refine qA ?_|apply qB|refine qC ?_|apply qD|apply qE|apply qF|apply qG|apply qH);try simp (disch:=omega) only [go_sem,vE,hrt_2,hrt_7,hrt_8,hrt_9,hrt_10,hrt_20,hrt_19,hrt_21,hrt_23,hrt_28,hrt_27,hrt_29,hrt_31,hri,hkI])
         refine (RUvarint_fn w39 qU.1 hrok).mono ?_
         rintro _ w40 ⟨rfl,fC,kY⟩
         have oW:=kY.blk_some DC (by omega)
         have gO:Upd (fun b=>b=R2∨b=rb) w39 w40:=kY.mono (fun _ h=>.inr h)
         have iR:=tQ.trans' gO fun i hi h=>h.elim (fun h=>by omega) .inr
         have IH:=gO.size
         have EI:=hG1.updS iR bK bM
         obtain ⟨X40,wK,gI,FQ⟩:=el_open (n:=24) oW hA2 rfl
         have hSl:=rdUv_lt s25
         obtain ⟨s30,MT⟩:∃ s,s=(rdUv s25).2:=⟨_,rfl⟩
         rw [← MT] at fC
         obtain ⟨SL,hSL⟩:∃ N,N=(rdUv s25).1:=⟨_,rfl⟩
         rw [← hSL] at hSl
         try rw [← hSL]
         have e64:IntKind.i64.wrap (SL:Int)=SL:=i64_wrap (by omega)
         repeat (first|simp (disch:=omega) only [go_sem,gI,hrt_2,hrt_7,hrt_8,hrt_9,hrt_10,hrt_20,hrt_19,hrt_21,hrt_23,hrt_28,hrt_27,hrt_29,hrt_31,hri,e64]|refine qA ?_|apply qB|refine qC ?_|apply qD|apply qE|apply qF|apply qG|apply qH)
         refine (Span_fn w40 fC.1 hrok _).mono ?_
         rintro r41 w41 ⟨hBs,_,_,hqx,hqy,oK⟩
         have kM:=And.intro hqx (hqy (.inl fC.2))
         clear hqx hqy
         have tC:=oK.blk_some oW (by omega)
         have pP:Upd (fun b=>b=R2∨b=rb) w40 w41:=oK.mono (fun _ h=>.inr h)
         have vX:=iR.trans' pP fun i hi h=>h.elim (fun h=>by omega) .inr
         have hz41:=pP.size
         have RP:=hG1.updS vX bK bM
         obtain ⟨X41,AU,oZ,KU⟩:=el_open (n:=24) tC hA2 rfl
         obtain ⟨s31,uQ⟩:∃ s,s=(rdSpan (SL:Int) s30).2:=⟨_,rfl⟩
         rw [← uQ] at kM
         obtain ⟨SP,hSP⟩:∃ x,x=(rdSpan (SL:Int) s30).1:=⟨_,rfl⟩
         rw [← hSP] at hBs
         rw [MT] at hSP uQ
         obtain ⟨spa,spc,rfl,_⟩:=hBs.shape
         repeat ((first|refine qA ?_|apply qB|refine qC ?_|apply qD|apply qE|apply qF|apply qG|apply qH);try simp (disch:=omega) only [go_sem,oZ,hrt_2,hrt_7,hrt_8,hrt_9,hrt_10,hrt_20,hrt_19,hrt_21,hrt_23,hrt_28,hrt_27,hrt_29,hrt_31,hri,e64])
         obtain ⟨rc1,hrc⟩:∃ r,r=w41.heap.size:=⟨_,rfl⟩
         have hEi:Ext w41 (wr (w41.alloc (.cells #[zS,zB] 104)) w41.heap.size 0 [.slice spa SP.length spc,zB]):=(Upd.alloc (Upd.refl _ _) _).wr _ _ (.inl (Nat.le_refl _))
         have hzi:(wr (w41.alloc (.cells #[zS,zB] 104)) w41.heap.size 0 [.slice spa SP.length spc,zB]).heap.size=w41.heap.size+1:=by rw [size_wr,World.size_alloc]
         have hRi:Rdr RT ok (wr (w41.alloc (.cells #[zS,zB] 104)) w41.heap.size 0 [.slice spa SP.length spc,zB]) w41.heap.size (some SP):=Rdr.good (v:=.slice spa SP.length spc) (by simp (disch:=omega) only [go_sem]) (hBs.keep (hEi.keeps _))
         have jH:=hEi.blk_some tC id
         have hqo:=And.intro (kM.1.upd hEi (fun h=>h) (fun _ _ _ h=>h)) (kM.2.upd hEi fun h=>h)
         repeat ((first|refine qA ?_|apply qB|refine qC ?_|apply qD|apply qE|apply qF|apply qG|apply qH);try simp (disch:=omega) only [go_sem,oZ,hrt_2,hrt_7,hrt_8,hrt_9,hrt_10,hrt_20,hrt_19,hrt_21,hrt_23,hrt_28,hrt_27,hrt_29,hrt_31,hri,hkI])
         generalize (wr (w41.alloc (.cells #[zS,zB] 104)) w41.heap.size 0 [.slice spa SP.length spc,zB])=w42 at *
         rw [← hrc] at hRi
         try rw [← hrc]
         obtain ⟨X42,tX,tE,FR⟩:=el_open (n:=24) jH hA2 rfl
         have l9:Upd (fun b=>b=R2∨b=rb) w41 w42:=hEi.mono fun _ h=>h.elim
         have jK:=vX.trans' l9 fun i hi h=>h.elim (fun h=>by omega) .inr
         have z2:=l9.size
         have lF:=hG1.updS jK bK bM
         have hQo:Upd (fun b=>b=R2∨b=rb) w38 w42:=(((l8.trans gO).trans pP).trans l9)
         have hzo:=hQo.size
         have hrokc:¬ ok rc1:=fun h=>by have:=(hok _ h).1;omega
         have hgrbc:¬ 0=rc1:=by omega
         have fI:¬ (0=R2∨0=rc1):=fun h=>h.elim (fun h=>by omega) fun h=>by omega
         have fJ:¬ (1=R2∨1=rc1):=fun h=>h.elim (fun h=>by omega) fun h=>by omega
         have hoMc:∀ b,(fun b=>(fun b=>(fun b=>ok b∨w42.heap.size≤b) b∧¬ ownB va0 b) b∧¬ ownB va1 b) b→¬ (b=R2∨b=rc1):=fun b hk h=>by
          have hk2:=hk.2
          rcases h with h|h
          ·exact hk2 ⟨_,_,_,eJ,h⟩
          ·rcases hk.1 with hk|hk
           ·have:=hok b hk;omega
           ·omega
         have hbasec:Upd (fun b=>b=vb) w w42:=hbase.trans' jK fun i hi h=>h.elim id fun h=>by omega
         have hUc:Upd (fun b=>b=R2∨b=rc1) w42 w42:=Upd.refl _ _
         have hqc:Rdr RT ok w42 rc1 (some SP):=hRi
         obtain ⟨s32,y4⟩:∃ s:St,s=some SP:=⟨_,rfl⟩
         rw [← y4] at hqc
         have hbT:(rdF (rdQ d ver true) ver true fX0_7 s32).2=none→FB:=fun h=>LD (rdQ_badT wY (by rw [← hE];exact rdTg_bad (hK.symm.trans hk1) rfl (by rw [← kX,← hSL,← hSP,← y4];exact h)))
         have hhe0e1t1_7:hasS fX0_7 ver=true:=hasS_t (by show (0:Int)≤ver;omega) (by show (-1:Int) < 0∨ver≤(-1:Int);omega)
         obtain ⟨xe0e1t1_7,PN⟩:∃ x,x=(rdF (rdQ d ver true) ver true fX0_7 s32).1:=⟨_,rfl⟩
         repeat ((first|refine qA ?_|apply qB|refine qC ?_|apply qD|apply qE|apply qF|apply qG|apply qH);try simp (disch:=omega) only [go_sem,tE,hrt_2,hrt_7,hrt_8,hrt_9,hrt_10,hrt_20,hrt_19,hrt_21,hrt_23,hrt_28,hrt_27,hrt_29,hrt_31,hri])
         have hrd:rdF (rdQ d ver true) ver true fX0_7 s32=_:=rdF_num 4 rfl (by decide)
         refine (Int64_fn w42 hqc hrokc lF.1 hgrbc).mono ?_
         rintro _ w43 ⟨rfl,kN,oL⟩
         have kZ:=oL.blk_some jH (by omega)
         have gJ:Upd (fun b=>b=R2∨b=rc1) w42 w43:=oL.mono (fun _ h=>.inr h)
         have iS:=hUc.trans gJ
         have DS:=gJ.size
         have EJ:=lF.updS iS fI fJ
         obtain ⟨X43,wL,pA,FS⟩:=el_open (n:=24) kZ hA2 rfl
         have hst:(rdF (rdQ d ver true) ver true fX0_7 s32).2=(rdInt .i64 8 s32).2:=by first|(rw [hrd];rfl)|rw [hrd]
         obtain ⟨s33,C2⟩:∃ s,s=(rdF (rdQ d ver true) ver true fX0_7 s32).2:=⟨_,rfl⟩
         rw [← hst,← C2] at kN
         clear hst
         have hst43_22:j2 * 24+23≤X43.size:=by omega
         repeat ((first|refine qA ?_|apply qB|refine qC ?_|apply qD|apply qE|apply qF|apply qG|apply qH);try simp (disch:=omega) only [go_sem,pA,hrt_2,hrt_7,hrt_8,hrt_9,hrt_10,hrt_20,hrt_19,hrt_21,hrt_23,hrt_28,hrt_27,hrt_29,hrt_31,hri,hst43_22])
         generalize mF:wr w43 R2 (j2 * 24+22) [.int .i64 (rdInt .i64 8 s32).1] = w44
         have F4:Upd (fun b=>b=R2∨b=rc1) w43 w44:=by rw [← mF];exact (Upd.refl _ _).wr _ _ (.inr (.inl rfl))
         have oX:blk w44 R2=some ((A2++(([.int .i32 (rdInt .i32 4 s16).1,.int .i32 (rdInt .i32 4 s17).1,.int .i64 (rdInt .i64 8 s18).1,.int .i32 (rdInt .i32 4 s19).1,.int .i64 (rdInt .i64 8 s20).1,.int .i32 (rdInt .i32 4 s21).1,v_6,v_7,v_8,v_9,v_10,v_11,v_12,v_13,v_14,v_15,v_16,v_17,v_18,v_19,v_20,v_21,.int .i64 (rdInt .i64 8 s32).1,.map qm]:List Value)++B2)).toArray,113,(0,0)):=by rw [← mF];exact el_blk (o:=22) kZ hA2 (Nat.le_of_ble_eq_true rfl)
         have gK:=F4
         have fE:=iS.trans gK
         have DT:=gK.size
         have zK:=lF.updS fE fI fJ
         have qV:=Rdr.stored mF kN (by omega) fun h=>by have:=(hok _ h).1;first|omega|exact (hok _ h).2 rfl
         obtain ⟨X44,tY,mH,FT⟩:=el_open (n:=24) oX hA2 rfl
         clear mF
         have W1:RepF (RepS true d) (szS true d) fX0_7 (fun b=>(fun b=>(ok b∨w42.heap.size≤b)∧¬ ownB va0 b) b∧¬ ownB va1 b) w44 (xe0e1t1_7) [.int .i64 (rdInt .i64 8 s32).1]:=(RepF_num (by decide)).2 (by rw [PN,hrd];exact congrArg (fun x=>[x]) (numC_rd 4 (by decide) 8 s32).symm)
         clear hrd
         repeat ((first|refine qA ?_|apply qB|refine qC ?_|apply qD|apply qE|apply qF|apply qG|apply qH);try simp (disch:=omega) only [go_sem,mH,hrt_2,hrt_7,hrt_8,hrt_9,hrt_10,hrt_20,hrt_19,hrt_21,hrt_23,hrt_28,hrt_27,hrt_29,hrt_31,hri])
         refine (RComplete_fn w44 qV.1 zK.2).mono ?_
         rintro _ wz ⟨rfl,hez⟩
         rw [hez]
         clear hez wz
         have hxF:rdF (rdQ d ver true) ver true fX0_7 s32=(xe0e1t1_7,s33):=by rw [PN,C2]
         by_cases hsz:s33=none
         ·rw [errV_none hsz]
          obtain ⟨eT,ep,hevE⟩:=hev
          rw [hevE]
          repeat (first|simp (disch:=omega) only [go_sem,mH,hrt_2,hrt_7,hrt_8,hrt_9,hrt_10,hrt_20,hrt_19,hrt_21,hrt_23,hrt_28,hrt_27,hrt_29,hrt_31,hri]|refine qA ?_|apply qB|refine qC ?_|apply qD|apply qE|apply qF|apply qG|apply qH)
          rw [← hevE]
          exact ReadQ.bad (Eq.mp hFB (hbT (by rw [hxF];exact hsz))) (hbasec.trans' fE fun i hi h=>h.elim (fun h=>by omega) fun h=>by omega)
         have hen:errV ev s33 = .nilIface:=errV_some hsz
         rw [hen]
         repeat (first|simp (disch:=omega) only [go_sem,mH,hrt_2,hrt_7,hrt_8,hrt_9,hrt_10,hrt_20,hrt_19,hrt_21,hrt_23,hrt_28,hrt_27,hrt_29,hrt_31,hri,hw1]|refine qA ?_|apply qB|refine qC ?_|apply qD|apply qE|apply qF|apply qG|apply qH)
         have hRk:Upd (fun b=>b=R2∨b=rb) w38 w44:=hQo.trans' fE fun i hi h=>h.elim .inl fun h=>by omega
         have hzr:=hRk.size
         have hE2:rdTg (rdQ d ver true) ver true fs_X0 m [xe0e1_0,xe0e1_1,xe0e1_2,xe0e1_3,xe0e1_4,xe0e1_5,y_6,xe0e1t1_7] u s31=rdTgs (rdQ d ver true) ver true fs_X0 [xe0e1_0,xe0e1_1,xe0e1_2,xe0e1_3,xe0e1_4,xe0e1_5,xe0e1_6,xe0e1_7] s22:=by
          have h:=(rdTg_known (k:=1) (hK.symm.trans hk1) rfl (by rw [← kX,← hSL,← hSP,← y4];exact hxF) hsz).symm.trans hE
          rw [← kX,← hSL,← uQ] at h;exact h
         refine ⟨⟨(by simp (disch:=omega) only [go_sem,Holds_nil,Holds_cons,hrt_2,hrt_7,hrt_8,hrt_9,hrt_10,hrt_20,hrt_19,hrt_21,hrt_23,hrt_28,hrt_27,hrt_29,hrt_31,hri]),m,(by simp (disch:=omega) only [go_sem,hrt_2,hrt_7,hrt_8,hrt_9,hrt_10,hrt_20,hrt_19,hrt_21,hrt_23,hrt_28,hrt_27,hrt_29,hrt_31,hri,hw1];all_goals rfl),u,s31,qm,y_6,v_6,v_7,v_8,v_9,v_10,v_11,v_12,v_13,v_14,v_15,v_16,v_17,v_18,v_19,v_20,v_21,xe0e1t1_7,.int .i64 (rdInt .i64 8 s32).1,by omega,hE2,oX,RepF.weakenS (hfT_6.keepS (hRk.keeps fun b _ hk e=>(cZ b hk.1) e)) (fun b hb hk=>⟨hk.1,hb,hk.2.2⟩),RepF.weakenS W1 (fun b hb hk=>⟨⟨⟨hk.1.1.imp id fun h=>by omega,hk.1.2⟩,hk.2⟩,hb,fun h=>by have:=hmap b h;rcases hk.1.1 with hk|hk<;>first|omega|(have:=(hok b hk).1;omega)⟩),hTG.keep (fun b hb hk=>hRk.keep b hb fun e=>by rcases hk with hk|hk<;>rcases e with e|e<;>first|omega|(have:=hok b hk.1;omega)),hnd,⟨hqo.1.upd fE (by omega) (fun b _ hk e=>by have:=hok b hk;omega),hqo.2.upd fE (by omega)⟩,tS.trans hRk⟩,?_⟩
         try simp (disch:=omega) only [go_sem,hrt_2,hrt_7,hrt_8,hrt_9,hrt_10,hrt_20,hrt_19,hrt_21,hrt_23,hrt_28,hrt_27,hrt_29,hrt_31,hri]
         simp only [RowKit.intOf]
         omega
        ·have GI:¬ (K:Int)=1:=by omega
         repeat ((first|refine qA ?_|apply qB|refine qC ?_|apply qD|apply qE|apply qF|apply qG|apply qH);try simp (disch:=omega) only [go_sem,vE,hrt_2,hrt_7,hrt_8,hrt_9,hrt_10,hrt_20,hrt_19,hrt_21,hrt_23,hrt_28,hrt_27,hrt_29,hrt_31,hri,GH,GI])
         have hQk:Upd (fun b=>b=R2∨b=rb) w38 w39:=l8
         have hEd:Ext w39 w39.drew:=(Upd.refl _ _).drew
         have hqd:Rdr RT ok w39.drew rb s25∧NN w39.drew rb s25:=⟨qU.1.upd hEd (fun h=>h) (fun _ _ _ h=>h),qU.2.upd hEd fun h=>h⟩
         have hnb:∀ b,¬ b=rb→¬ b=rb:=fun _ h=>h
         refine W.drawR (.take 0 (.take 1 (.take 2 (.take 3 (.only 4 (.take 5 (.only 6 (.last 7)))))))) (fun b=>b=rb) mixed (by kernel_rfl) ?_
         try simp (disch:=(first|omega|(simp only [qI,qJ,qK]<;>omega)|exact qL _|(refine hnb _ ?_;first|omega|(simp only [World.size_alloc,size_wr,size_drew]<;>omega)))) only [go_sem,vE,hrt_2,hrt_7,hrt_8,hrt_9,hrt_10,hrt_20,hrt_19,hrt_21,hrt_23,hrt_28,hrt_27,hrt_29,hrt_31,hri]
         refine (RUvarint_fn w39.drew hqd.1 hrok).mono ?_
         rintro _ w40 ⟨rfl,fC,kY⟩
         have hSl:=rdUv_lt s25
         obtain ⟨s34,y5⟩:∃ s,s=(rdUv s25).2:=⟨_,rfl⟩
         rw [← y5] at fC
         obtain ⟨SL,hSL⟩:∃ N,N=(rdUv s25).1:=⟨_,rfl⟩
         rw [← hSL] at hSl
         try rw [← hSL]
         have e64:IntKind.i64.wrap (SL:Int)=SL:=i64_wrap (by omega)
         have hP1:Upd (fun b=>b=rb) w39.drew w40:=kY
         have oW:=kY.blk_some (show blk w39.drew R2=_ from DC) (by omega)
         obtain ⟨X40,wK,gI,FQ⟩:=el_open (n:=24) oW hA2 rfl
         refine ⟨hP1,?_⟩
         try simp (disch:=(first|omega|(simp only [qI,qJ,qK]<;>omega)|exact qL _|(refine hnb _ ?_;first|omega|(simp only [World.size_alloc,size_wr,size_drew]<;>omega)))) only [go_sem,gI,e64,hrt_2,hrt_7,hrt_8,hrt_9,hrt_10,hrt_20,hrt_19,hrt_21,hrt_23,hrt_28,hrt_27,hrt_29,hrt_31,hri]
         refine (Span_fn w40 fC.1 hrok _).mono ?_
         rintro r41 w41 ⟨hBs,_,_,hqx,hqy,oK⟩
         have kM:=And.intro hqx (hqy (.inl fC.2))
         clear hqx hqy
         obtain ⟨s35,uR⟩:∃ s,s=(rdSpan (SL:Int) s34).2:=⟨_,rfl⟩
         rw [← uR] at kM
         obtain ⟨SP,hSP⟩:∃ x,x=(rdSpan (SL:Int) s34).1:=⟨_,rfl⟩
         rw [← hSP] at hBs
         rw [y5] at hSP uR
         obtain ⟨spa,spc,rfl,_⟩:=hBs.shape
         have hP2:Upd (fun b=>b=rb) w39.drew w41:=hP1.trans oK
         have tC:=oK.blk_some oW (by omega)
         obtain ⟨X41,AU,oZ,KU⟩:=el_open (n:=24) tC hA2 rfl
         refine ⟨hP2,?_⟩
         try simp (disch:=(first|omega|(simp only [qI,qJ,qK]<;>omega)|exact qL _|(refine hnb _ ?_;first|omega|(simp only [World.size_alloc,size_wr,size_drew]<;>omega)))) only [go_sem,oZ,e64,hrt_2,hrt_7,hrt_8,hrt_9,hrt_10,hrt_20,hrt_19,hrt_21,hrt_23,hrt_28,hrt_27,hrt_29,hrt_31,hri]
         have hR7:Upd (fun b=>b=R2∨b=rb) w38 w41:=hQk.trans ((hEd.mono fun _ h=>h.elim).trans (hP2.mono fun _ h=>.inr h))
         have hz7:=hR7.size
         have F6:=hTG.keep (w':=w41) (fun b hb hk=>hR7.keep b hb fun e=>by rcases hk with hk|hk<;>rcases e with e|e<;>first|omega|(have:=hok b hk.1;omega))
         have hmc:X41[j2 * 24+23]? = some (.map qm):=by rw [AU];exact el_cell (R:=0) hA2 (Nat.le_of_ble_eq_true rfl)
         refine (TagsPutX_fn (okT:=ok) (L:=w37.heap.size) w41 F6 (by omega) (by omega) oZ (o:=j2 * 24+23) hmc (thaw_00 _ _) (K,SP) _ (hBs.weaken fun b _ hk=>⟨hk,by have:=hok b hk;omega⟩) hKl hnd (fun b hk=>by have:=hok b hk;omega)).mono ?_
         rintro _ w42 ⟨qn,hb8,F7,hU8,hnw⟩
         have jH:blk w42 R2=some ((A2++(([.int .i32 (rdInt .i32 4 s16).1,.int .i32 (rdInt .i32 4 s17).1,.int .i64 (rdInt .i64 8 s18).1,.int .i32 (rdInt .i32 4 s19).1,.int .i64 (rdInt .i64 8 s20).1,.int .i32 (rdInt .i32 4 s21).1,v_6,v_7,v_8,v_9,v_10,v_11,v_12,v_13,v_14,v_15,v_16,v_17,v_18,v_19,v_20,v_21,v_22,.map qn]:List Value)++B2)).toArray,113,(0,0)):=by
          have h:=hb8
          rw [AU,← hA2,el_set (Nat.le_of_ble_eq_true rfl)] at h
          exact h
         obtain ⟨X42,tX,tE,FR⟩:=el_open (n:=24) jH hA2 rfl
         have hUz:Upd (fun b=>b=R2∨b=rb) w37 w42:=(tS.trans hR7).trans' hU8 fun i hi h=>h.elim .inl fun h=>by cases h;have:=hmap _ rfl;omega
         have hz8:=hU8.size
         have hn:∀ f∈([fX0_0,fX0_1,fX0_2,fX0_3,fX0_4,fX0_5,fX0_6,fX0_7]:List Fld),f.tag≠(K:Int):=by
          intro f hf
          simp only [List.mem_cons,List.not_mem_nil,or_false] at hf
          rcases hf with rfl|rfl|rfl|rfl|rfl|rfl|rfl|rfl
          ·intro h;have h':(-1:Int)=(K:Int):=h;omega
          ·intro h;have h':(-1:Int)=(K:Int):=h;omega
          ·intro h;have h':(-1:Int)=(K:Int):=h;omega
          ·intro h;have h':(-1:Int)=(K:Int):=h;omega
          ·intro h;have h':(-1:Int)=(K:Int):=h;omega
          ·intro h;have h':(-1:Int)=(K:Int):=h;omega
          ·intro h;have h':(0:Int)=(K:Int):=h;omega
          ·intro h;have h':(1:Int)=(K:Int):=h;omega
         have hE2:rdTg (rdQ d ver true) ver true fs_X0 m [xe0e1_0,xe0e1_1,xe0e1_2,xe0e1_3,xe0e1_4,xe0e1_5,y_6,y_7] (tagPut u (K,SP)) s35=rdTgs (rdQ d ver true) ver true fs_X0 [xe0e1_0,xe0e1_1,xe0e1_2,xe0e1_3,xe0e1_4,xe0e1_5,xe0e1_6,xe0e1_7] s22:=by
          have h:=(rdTg_unk (by rw [← hK];exact tagX_none hn)).symm.trans hE
          rw [← hK,← kX,← hSL,← hSP,← uR] at h;exact h
         have hrm:¬ (rb=R2∨Value.map qm = .map (some rb)):=fun h=>h.elim (fun h=>by omega) fun h=>by cases h;have:=hmap _ rfl;omega
         repeat (first|simp (disch:=omega) only [go_sem,tE,hrt_2,hrt_7,hrt_8,hrt_9,hrt_10,hrt_20,hrt_19,hrt_21,hrt_23,hrt_28,hrt_27,hrt_29,hrt_31,hri,hw1]|refine qA ?_|apply qB|refine qC ?_|apply qD|apply qE|apply qF|apply qG|apply qH)
         refine ⟨⟨(by simp (disch:=omega) only [go_sem,Holds_nil,Holds_cons,hrt_2,hrt_7,hrt_8,hrt_9,hrt_10,hrt_20,hrt_19,hrt_21,hrt_23,hrt_28,hrt_27,hrt_29,hrt_31,hri]),m,(by simp (disch:=omega) only [go_sem,hrt_2,hrt_7,hrt_8,hrt_9,hrt_10,hrt_20,hrt_19,hrt_21,hrt_23,hrt_28,hrt_27,hrt_29,hrt_31,hri,hw1];all_goals rfl),_,s35,qn,y_6,v_6,v_7,v_8,v_9,v_10,v_11,v_12,v_13,v_14,v_15,v_16,v_17,v_18,v_19,v_20,v_21,y_7,v_22,by omega,hE2,jH,RepF.weakenS ((hfT_6.keepS (hR7.keeps fun b _ hk e=>(cZ b hk.1) e)).keepS (hU8.keeps fun b _ hk e=>e.elim (fun e=>cZ b hk.1 (.inl e)) fun e=>hk.2.2 (by cases e;rfl))) (fun b hb hk=>⟨hk.1,hb,fun h=>(hnw b h).elim (fun h=>hk.2.2 (by cases h;rfl)) fun h=>by have:=hk.2.1;omega⟩),RepF.weakenS ((hfT_7.keepS (hR7.keeps fun b _ hk e=>(cZ b hk.1) e)).keepS (hU8.keeps fun b _ hk e=>e.elim (fun e=>cZ b hk.1 (.inl e)) fun e=>hk.2.2 (by cases e;rfl))) (fun b hb hk=>⟨hk.1,hb,fun h=>(hnw b h).elim (fun h=>hk.2.2 (by cases h;rfl)) fun h=>by have:=hk.2.1;omega⟩),F7,tagPut_keys _ _ hnd,⟨kM.1.upd hU8 hrm (fun b _ hk h=>h.elim (fun h=>by have:=hok b hk;omega) fun h=>by cases h;have:=hmap _ rfl;have:=hok _ hk;omega),kM.2.upd hU8 hrm⟩,hUz⟩,?_⟩
         try simp (disch:=omega) only [go_sem,hrt_2,hrt_7,hrt_8,hrt_9,hrt_10,hrt_20,hrt_19,hrt_21,hrt_23,hrt_28,hrt_27,hrt_29,hrt_31,hri]
         simp only [RowKit.intOf]
         omega
     rintro ρ w43 ⟨⟨hrz_2,hrz_7,hrz_8,hrz_9,hrz_10,hrz_20,hrz_19,hrz_21,hrz_23,hrz_28,hrz_27,hrz_29,hrz_31,-⟩,ue0e1,s36,qm,y_6,v_6,v_7,v_8,v_9,v_10,v_11,v_12,v_13,v_14,v_15,v_16,v_17,v_18,v_19,v_20,v_21,y_7,v_22,RF,kZ,hfT_6,hfT_7,hTG,hnd,kN,UA⟩
     have gJ:Upd (fun b=>b=R2∨b=rb) w37 w43:=UA
     have iS:=tO.trans' gJ fun i hi h=>h.elim (fun h=>by omega) .inr
     have DS:=gJ.size
     have EJ:=hG1.updS iS bK bM
     obtain ⟨X43,wL,pA,FS⟩:=el_open (n:=24) kZ hA2 rfl
     have wN:=RepF.weakenS hfT_6 (ok':=(fun b=>(fun b=>(ok b∨w1.heap.size≤b)∧¬ ownB va0 b) b∧¬ ownB va1 b)) fun b _ hk=>hk.1
     have wO:=RepF.weakenS hfT_7 (ok':=(fun b=>(fun b=>(ok b∨w1.heap.size≤b)∧¬ ownB va0 b) b∧¬ ownB va1 b)) fun b _ hk=>hk.1
     have F9:TagsM (fun b=>(fun b=>(ok b∨w1.heap.size≤b)∧¬ ownB va0 b) b∧¬ ownB va1 b) w43 (.map qm) ue0e1:=hTG.tags (fun b _ hk=>⟨⟨.inl hk,fun ho=>by have:=(jG b ho).1;have:=(hok b hk).1;omega⟩,fun ho=>by have:=(hown2 b ho).1;have:=(hok b hk).1;omega⟩) (fun b hb=>⟨⟨.inr (by omega),fun ho=>by have:=(jG _ ho).2;omega⟩,fun ho=>by have:=(hown2 _ ho).2;omega⟩)
     have GF:rdQ (d+1) ver true fs_X0 s16=(.mk 0 [] false [xe0e1_0,xe0e1_1,xe0e1_2,xe0e1_3,xe0e1_4,xe0e1_5,y_6,y_7] ue0e1,s36):=rdQ_t wY RF.symm
     have DX:Upd (fun b=>b=R2∨b=rb) w43 w43:=Upd.refl _ _
     have QQ:Upd (fun b=>b=R2∨b=rb) w37 w43:=gJ.trans DX
     have IR:Upd (fun b=>b=R2∨b=rb) w36 w43:=l7.trans QQ
     have QP:Upd (fun b=>b=R2∨b=rb) w35 w43:=lM.trans IR
     have IQ:Upd (fun b=>b=R2∨b=rb) w34 w43:=jD.trans QP
     have QO:Upd (fun b=>b=R2∨b=rb) w33 w43:=jC.trans IQ
     have IP:Upd (fun b=>b=R2∨b=rb) w32 w43:=l6.trans QO
     have QN:Upd (fun b=>b=R2∨b=rb) w31 w43:=lL.trans IP
     have IO:Upd (fun b=>b=R2∨b=rb) w30 w43:=kE.trans QN
     have tI:Upd (fun b=>b=R2∨b=rb) w29 w43:=l5.trans IO
     have aa:Upd (fun b=>b=R2∨b=rb) w28 w43:=l4.trans tI
     have zA:Upd (fun b=>b=R2∨b=rb) w27 w43:=iX.trans aa
     have tH:Upd (fun b=>b=R2∨b=rb) w26 w43:=fH.trans zA
     have DW:Upd (fun b=>b=R2∨b=rb) w25 w43:=jB.trans tH
     have z8:Upd (fun b=>b=R2∨b=rb) w24 w43:=iW.trans DW
     have DV:Upd (fun b=>b=R2∨b=rb) w23 w43:=iV.trans z8
     have ES:RepS true (d+1) fs_X0 (fun b=>(fun b=>(ok b∨w1.heap.size≤b)∧¬ ownB va0 b) b∧¬ ownB va1 b) w43 (.mk 0 [] false [xe0e1_0,xe0e1_1,xe0e1_2,xe0e1_3,xe0e1_4,xe0e1_5,y_6,y_7] ue0e1) [.int .i32 (rdInt .i32 4 s16).1,.int .i32 (rdInt .i32 4 s17).1,.int .i64 (rdInt .i64 8 s18).1,.int .i32 (rdInt .i32 4 s19).1,.int .i64 (rdInt .i64 8 s20).1,.int .i32 (rdInt .i32 4 s21).1,v_6,v_7,v_8,v_9,v_10,v_11,v_12,v_13,v_14,v_15,v_16,v_17,v_18,v_19,v_20,v_21,v_22,.map qm]:=RepS.introT (c:=[.int .i32 (rdInt .i32 4 s16).1,.int .i32 (rdInt .i32 4 s17).1,.int .i64 (rdInt .i64 8 s18).1,.int .i32 (rdInt .i32 4 s19).1,.int .i64 (rdInt .i64 8 s20).1,.int .i32 (rdInt .i32 4 s21).1,v_6,v_7,v_8,v_9,v_10,v_11,v_12,v_13,v_14,v_15,v_16,v_17,v_18,v_19,v_20,v_21,v_22]) (RepL.cons1 (BF.keepS (tH.keeps fun b _ hk e=>cZ b hk e)) (RepL.cons1 (BG.keepS (aa.keeps fun b _ hk e=>cZ b hk e)) (RepL.cons1 (BH.keepS (IO.keeps fun b _ hk e=>cZ b hk e)) (RepL.cons1 (BI.keepS (IP.keeps fun b _ hk e=>cZ b hk e)) (RepL.cons1 (BJ.keepS (IQ.keeps fun b _ hk e=>cZ b hk e)) (RepL.cons1 (BK.keepS (IR.keeps fun b _ hk e=>cZ b hk e)) (RepL.cons16 (wN.keepS (DX.keeps fun b _ hk e=>cZ b hk e)) (RepL.cons1 (wO.keepS (DX.keeps fun b _ hk e=>cZ b hk e)) RepL.nil)))))))) F9
     have hrE:(rd1 (rdQ (d+1) ver true) fX3_2.of fX3_2.sub false true) s16=((.mk 0 [] false [xe0e1_0,xe0e1_1,xe0e1_2,xe0e1_3,xe0e1_4,xe0e1_5,y_6,y_7] ue0e1),s36):=by rw [show (rd1 (rdQ (d+1) ver true) fX3_2.of fX3_2.sub false true) s16=_ from rd1_part];exact GF
     have hxE:(Rep1 (RepS true (d+1)) fX3_2.of fX3_2.sub) (fun b=>(fun b=>(ok b∨w1.heap.size≤b)∧¬ ownB va0 b) b∧¬ ownB va1 b) w43 (.mk 0 [] false [xe0e1_0,xe0e1_1,xe0e1_2,xe0e1_3,xe0e1_4,xe0e1_5,y_6,y_7] ue0e1) [.int .i32 (rdInt .i32 4 s16).1,.int .i32 (rdInt .i32 4 s17).1,.int .i64 (rdInt .i64 8 s18).1,.int .i32 (rdInt .i32 4 s19).1,.int .i64 (rdInt .i64 8 s20).1,.int .i32 (rdInt .i32 4 s21).1,v_6,v_7,v_8,v_9,v_10,v_11,v_12,v_13,v_14,v_15,v_16,v_17,v_18,v_19,v_20,v_21,v_22,.map qm]:=Rep1_part.2 ES
     repeat ((first|refine qA ?_|apply qB|refine qC ?_|apply qD|apply qE|apply qF|apply qG|apply qH);try simp (disch:=omega) only [go_sem,pA,hrz_2,hrz_7,hrz_8,hrz_9,hrz_10,hrz_20,hrz_19,hrz_21,hrz_23,hrz_28,hrz_27,hrz_29,hrz_31])
     have hTk:Upd (fun b=>b=R2∨b=rb) w23 w43:=((((((((((((((iV.trans iW).trans jB).trans fH).trans iX).trans l4).trans l5).trans kE).trans lL).trans l6).trans jC).trans jD).trans lM).trans l7).trans gJ)
     have hL':=hL1.step (Rep1_lay _ _ fun _=>RepS_lay true _ _) mX (kH w43 [.int .i32 (rdInt .i32 4 s16).1,.int .i32 (rdInt .i32 4 s17).1,.int .i64 (rdInt .i64 8 s18).1,.int .i32 (rdInt .i32 4 s19).1,.int .i64 (rdInt .i64 8 s20).1,.int .i32 (rdInt .i32 4 s21).1,v_6,v_7,v_8,v_9,v_10,v_11,v_12,v_13,v_14,v_15,v_16,v_17,v_18,v_19,v_20,v_21,v_22,.map qm] rfl kZ) (by rw [hrE];exact hxE) (hTk.mono fun b h=>h.imp (fun e=>⟨_,_,_,eJ,e⟩) id) (by rw [hrE];exact kN) (fun h=>dL rb h (.inr rfl)) (Nat.le_refl _)
     have hij:IntKind.i32.wrap ((j2:Int)+1)=((j2+1:Nat):Int):=by rw [i32_wrap (by omega)];omega
     repeat ((first|refine qA ?_|apply qB|refine qC ?_|apply qD|apply qE|apply qF|apply qG|apply qH);try simp (disch:=omega) only [go_sem,pA,hrz_2,hrz_7,hrz_8,hrz_9,hrz_10,hrz_20,hrz_19,hrz_21,hrz_23,hrz_28,hrz_27,hrz_29,hrz_31,hij])
     refine ⟨⟨(by simp (disch:=omega) only [go_sem,Holds_nil,Holds_cons,hrz_2,hrz_7,hrz_8,hrz_9,hrz_10,hrz_20,hrz_19,hrz_21,hrz_23,hrz_28,hrz_27,hrz_29,hrz_31];exact eJ.symm),j2+1,(by simp (disch:=omega) only [go_sem,hrz_2,hrz_7,hrz_8,hrz_9,hrz_10,hrz_20,hrz_19,hrz_21,hrz_23,hrz_28,hrz_27,hrz_29,hrz_31,hij];all_goals rfl),_,_,_,hL'⟩,?_⟩
     try simp (disch:=omega) only [go_sem,hrz_2,hrz_7,hrz_8,hrz_9,hrz_10,hrz_20,hrz_19,hrz_21,hrz_23,hrz_28,hrz_27,hrz_29,hrz_31]
     simp only [RowKit.intOf]
     omega
    ·have hjN:j2=N1:=by omega
     rw [hjN] at hL1
     repeat ((first|refine qA ?_|apply qB|refine qC ?_|apply qD|apply qE|apply qF|apply qG|apply qH);try simp (disch:=omega) only [go_sem,dA,dF,dG,dH,d8,dB,d9,dC,dD,dE,sB,dI])
     exact ⟨(by simp (disch:=omega) only [go_sem,Holds_nil,Holds_cons,dA,dF,dG,dH,d8,dB,d9,dC,dD,dE,sB,dI]),s16,xs1,css1,hL1⟩
   rintro ρ w44 ⟨⟨gW,hO,hY,hZ,gT,gX,gV,gY,gZ,hH,hD,-⟩,s37,xs1,css1,hL1⟩
   have qV:=hL1.rd
   have yC:=hL1.upd
   have OV:=yC.blk_some yH (by omega)
   have gK:Upd (fun b=>b=R1∨b=rb) w21 w44:=yC.mono (fun _ h=>.inr h)
   have fE:=iQ.trans' gK fun i hi h=>h.elim (fun h=>by omega) .inr
   have DT:=gK.size
   have zK:=hG1.updS fE bK bM
   obtain ⟨X44,tY,mH,FT⟩:=el_open (n:=19) OV hA1 rfl
   have xQ:rdF (rdQ (d+1) ver true) ver true fX3_2 s14=(.mk 0 [] (nilS fX3_2 ver y1) xs1 [],s37):=by
    have h:=rdF_listE (pt:=(rdQ (d+1) ver true)) (v:=ver) (flex:=true) (f:=fX3_2) (s:=s14) (xs:=xs1) (e:=s37) rfl (by rw [hy1,← hN1,← sY];exact hL1.done)
    rw [hy1] at h;exact h
   have Z0:s37=(rdF (rdQ (d+1) ver true) ver true fX3_2 s14).2:=by rw [xQ]
   obtain ⟨aa1,qq1,I0⟩:=hL1.row.shape
   subst I0
   have hst44_17:j1 * 19+18≤X44.size:=by omega
   repeat ((first|refine qA ?_|apply qB|refine qC ?_|apply qD|apply qE|apply qF|apply qG|apply qH);try simp (disch:=omega) only [go_sem,mH,gW,hO,hY,hZ,gT,gX,gV,gY,gZ,hH,hD,hst44_17])
   generalize mG:wr w44 R1 (j1 * 19+17) [.slice aa1 N1 qq1] = w45
   have F5:Upd (fun b=>b=R1∨b=rb) w44 w45:=by rw [← mG];exact (Upd.refl _ _).wr _ _ (.inr (.inl rfl))
   have yI:blk w45 R1=some ((A1++(([ce0_0,ce0_1_0,ce0_1_1,ce0_1_2,ce0_1_3,ce0_1_4,ce0_1_5,ce0_1_6,ce0_1_7,ce0_1_8,ce0_1_9,ce0_1_10,ce0_1_11,ce0_1_12,ce0_1_13,ce0_1_14,ce0_1_15,.slice aa1 N1 qq1,.map none]:List Value)++B1)).toArray,85,(0,0)):=by rw [← mG];exact el_blk (o:=17) OV hA1 (Nat.le_of_ble_eq_true rfl)
   have jE:=F5
   have kB:=fE.trans' jE fun i hi h=>h.elim (fun h=>by omega) .inr
   have QA:=jE.size
   have EK:=hG1.updS kB bK bM
   have xM:=Rdr.stored mG qV (by omega) fun h=>by have:=(hok _ h).1;first|omega|exact (hok _ h).2 rfl
   obtain ⟨X45,KO,tF,KV⟩:=el_open (n:=19) yI hA1 rfl
   clear mG
   have GE:RepF (RepS true (d+1)) (szS true (d+1)) fX3_2 (fun b=>(ok b∨w1.heap.size≤b)∧¬ ownB va0 b) w45 (xe0_2) [.slice aa1 N1 qq1]:=by rw [yR,xQ];exact RepF.keepS (RepF_row rfl xF hN1 rfl hL1.row hL1.all (fun b hb=>⟨.inr (by omega),fun ho=>by have:=(jG _ ho).2;omega⟩)) (jE.keeps fun b _ hk e=>dL b hk e)
   clear hL1 xF
   have GQ:rdL (rdQ (d+1) ver true) (dfP (d+1)) ver true [] s37=([],s37):=rfl
   have GP:rdL (rdQ (d+1) ver true) (dfP (d+1)) ver true [fX3_2] s14=([xe0_2],s37):=by rw [rdL_st (by decide) wQ,← yR,← Z0,GQ]
   have GO:rdL (rdQ (d+1) ver true) (dfP (d+1)) ver true [fX3_1,fX3_2] s12=([xe0_1,xe0_2],s37):=by rw [rdL_any (by decide),← DK,← uE,GP]
   have GN:rdL (rdQ (d+1) ver true) (dfP (d+1)) ver true [fX3_0,fX3_1,fX3_2] s10=([xe0_0,xe0_1,xe0_2],s37):=by rw [rdL_any (by decide),← DJ,← uD,GO]
   have BL:rdQ (d+2) ver true fs_X3 s10=(.mk 0 [] false [xe0_0,xe0_1,xe0_2] (rdTags s37).1,(rdTags s37).2):=rdQ_tn (by decide) GN
   repeat ((first|refine qA ?_|apply qB|refine qC ?_|apply qD|apply qE|apply qF|apply qG|apply qH);try simp (disch:=omega) only [go_sem,tF,gW,hO,hY,hZ,gT,gX,gV,gY,gZ,hH,hD])
   refine (ReadTags_fn w45 xM.1 hrok).mono ?_
   rintro _ w46 ⟨qme0,rfl,TR,hTn,BZ,O5⟩
   have yJ:=O5.blk_some yI (by omega)
   have lA:Upd (fun b=>b=R1∨b=rb) w45 w46:=O5.mono (fun _ h=>.inr h)
   have zX:=kB.trans' lA fun i hi h=>h.elim (fun h=>by omega) .inr
   have hz46:=lA.size
   have RQ:=hG1.updS zX bK bM
   obtain ⟨X46,UJ,DH,UZ⟩:=el_open (n:=19) yJ hA1 rfl
   obtain ⟨s38,Z2⟩:∃ s,s=(rdTags s37).2:=⟨_,rfl⟩
   rw [← Z2] at BZ BL
   have hst46_18:j1 * 19+19≤X46.size:=by omega
   repeat (first|simp (disch:=omega) only [go_sem,DH,gW,hO,hY,hZ,gT,gX,gV,gY,gZ,hH,hD,hst46_18]|refine qA ?_|apply qB|refine qC ?_|apply qD|apply qE|apply qF|apply qG|apply qH)
   generalize CU:wr w46 R1 (j1 * 19+18) [.map qme0] = w47
   have TC:Upd (fun b=>b=R1∨b=rb) w46 w47:=by rw [← CU];exact (Upd.refl _ _).wr _ _ (.inr (.inl rfl))
   have OW:blk w47 R1=some ((A1++(([ce0_0,ce0_1_0,ce0_1_1,ce0_1_2,ce0_1_3,ce0_1_4,ce0_1_5,ce0_1_6,ce0_1_7,ce0_1_8,ce0_1_9,ce0_1_10,ce0_1_11,ce0_1_12,ce0_1_13,ce0_1_14,ce0_1_15,.slice aa1 N1 qq1,.map qme0]:List Value)++B1)).toArray,85,(0,0)):=by rw [← CU];exact el_blk (o:=18) yJ hA1 (Nat.le_of_ble_eq_true rfl)
   have lN:=TC
   have zY:=zX.trans' lN fun i hi h=>h.elim (fun h=>by omega) .inr
   have hz47:=lN.size
   have RR:=hG1.updS zY bK bM
   have HB:=Rdr.stored CU BZ (by omega) fun h=>by have:=(hok _ h).1;first|omega|exact (hok _ h).2 rfl
   obtain ⟨X47,hX47,PH,hXs47⟩:=el_open (n:=19) OW hA1 rfl
   clear CU
   have F8:TagsM (fun b=>(ok b∨w1.heap.size≤b)∧¬ ownB va0 b) w47 (.map qme0) (rdTags s37).1:=(TR.weaken fun b _ hk=>hk.elim (fun hk=>⟨.inl hk,fun ho=>by have:=(jG b ho).1;have:=(hok b hk).1;omega⟩) (fun h=>by have h':w45.heap.size≤b:=h;exact ⟨.inr (by omega),fun ho=>by have:=(jG _ ho).2;omega⟩)).keep (lN.keeps fun b _ hk e=>dL b hk e)
   have QK:Upd (fun b=>b=R1∨b=rb) w47 w47:=Upd.refl _ _
   have QJ:Upd (fun b=>b=R1∨b=rb) w46 w47:=lN.trans QK
   have IN:Upd (fun b=>b=R1∨b=rb) w45 w47:=lA.trans QJ
   have QI:Upd (fun b=>b=R1∨b=rb) w44 w47:=jE.trans IN
   have QG:Upd (fun b=>b=R1∨b=rb) w21 w47:=gK.trans QI
   have IL:Upd (fun b=>b=R1∨b=rb) w20 w47:=gN.trans QG
   have IK:Upd (fun b=>b=R1∨b=rb) w19 w47:=iU.trans IL
   have DU:Upd (fun b=>b=R1∨b=rb) w18 w47:=kD.trans IK
   have z7:Upd (fun b=>b=R1∨b=rb) w17 w47:=kC.trans DU
   have ER:RepS true (d+2) fs_X3 (fun b=>(ok b∨w1.heap.size≤b)∧¬ ownB va0 b) w47 (.mk 0 [] false [xe0_0,xe0_1,xe0_2] (rdTags s37).1) [ce0_0,ce0_1_0,ce0_1_1,ce0_1_2,ce0_1_3,ce0_1_4,ce0_1_5,ce0_1_6,ce0_1_7,ce0_1_8,ce0_1_9,ce0_1_10,ce0_1_11,ce0_1_12,ce0_1_13,ce0_1_14,ce0_1_15,.slice aa1 N1 qq1,.map qme0]:=RepS.introT (c:=[ce0_0,ce0_1_0,ce0_1_1,ce0_1_2,ce0_1_3,ce0_1_4,ce0_1_5,ce0_1_6,ce0_1_7,ce0_1_8,ce0_1_9,ce0_1_10,ce0_1_11,ce0_1_12,ce0_1_13,ce0_1_14,ce0_1_15,.slice aa1 N1 qq1]) (RepL.cons1 (GC.keepS (IK.keeps fun b _ hk e=>dL b hk e)) (RepL.cons16 (GD.keepS (IL.keeps fun b _ hk e=>dL b hk e)) (RepL.cons1 (GE.keepS (IN.keeps fun b _ hk e=>dL b hk e)) RepL.nil))) F8
   have hrE:(rd1 (rdQ (d+2) ver true) fQ_9.of fQ_9.sub false true) s10=((.mk 0 [] false [xe0_0,xe0_1,xe0_2] (rdTags s37).1),s38):=by rw [show (rd1 (rdQ (d+2) ver true) fQ_9.of fQ_9.sub false true) s10=_ from rd1_part];exact BL
   have hxE:(Rep1 (RepS true (d+2)) fQ_9.of fQ_9.sub) (fun b=>(ok b∨w1.heap.size≤b)∧¬ ownB va0 b) w47 (.mk 0 [] false [xe0_0,xe0_1,xe0_2] (rdTags s37).1) [ce0_0,ce0_1_0,ce0_1_1,ce0_1_2,ce0_1_3,ce0_1_4,ce0_1_5,ce0_1_6,ce0_1_7,ce0_1_8,ce0_1_9,ce0_1_10,ce0_1_11,ce0_1_12,ce0_1_13,ce0_1_14,ce0_1_15,.slice aa1 N1 qq1,.map qme0]:=Rep1_part.2 ER
   repeat ((first|refine qA ?_|apply qB|refine qC ?_|apply qD|apply qE|apply qF|apply qG|apply qH);try simp (disch:=omega) only [go_sem,PH,gW,hO,hY,hZ,gT,gX,gV,gY,gZ,hH,hD])
   have hTk:Upd (fun b=>b=R1∨b=rb) w17 w47:=(((((((kC.trans kD).trans iU).trans gN).trans gK).trans jE).trans lA).trans lN)
   have hL':=hL0.step (Rep1_lay _ _ fun _=>RepS_lay true _ _) qN (kG w47 [ce0_0,ce0_1_0,ce0_1_1,ce0_1_2,ce0_1_3,ce0_1_4,ce0_1_5,ce0_1_6,ce0_1_7,ce0_1_8,ce0_1_9,ce0_1_10,ce0_1_11,ce0_1_12,ce0_1_13,ce0_1_14,ce0_1_15,.slice aa1 N1 qq1,.map qme0] rfl OW) (by rw [hrE];exact hxE) (hTk.mono fun b h=>h.imp (fun e=>⟨_,_,_,eY,e⟩) id) (by rw [hrE];exact HB) (fun h=>hoM rb h (.inr rfl)) (Nat.le_refl _)
   have hij:IntKind.i32.wrap ((j1:Int)+1)=((j1+1:Nat):Int):=by rw [i32_wrap (by omega)];omega
   repeat ((first|refine qA ?_|apply qB|refine qC ?_|apply qD|apply qE|apply qF|apply qG|apply qH);try simp (disch:=omega) only [go_sem,PH,gW,hO,hY,hZ,gT,gX,gV,gY,gZ,hH,hD,hij])
   refine ⟨⟨(by simp (disch:=omega) only [go_sem,Holds_nil,Holds_cons,gW,hO,hY,hZ,gT,gX,gV,gY,gZ,hH,hD];exact eY.symm),j1+1,(by simp (disch:=omega) only [go_sem,gW,hO,hY,hZ,gT,gX,gV,gY,gZ,hH,hD,hij];all_goals rfl),_,_,_,hL'⟩,?_⟩
   try simp (disch:=omega) only [go_sem,gW,hO,hY,hZ,gT,gX,gV,gY,gZ,hH,hD]
   simp only [RowKit.intOf]
   omega
  ·have hjN:j1=N0:=by omega
   rw [hjN] at hL0
   repeat ((first|refine qA ?_|apply qB|refine qC ?_|apply qD|apply qE|apply qF|apply qG|apply qH);try simp (disch:=omega) only [go_sem,cH,cJ,cM,cO,cF,cI,rZ,cX])
   exact ⟨(by simp (disch:=omega) only [go_sem,Holds_nil,Holds_cons,cH,cJ,cM,cO,cF,cI,rZ,cX]),s10,xs0,css0,hL0⟩
 rintro ρ w48 ⟨⟨bV,bX,bY,bZ,bR,bW,bU,-⟩,s39,xs0,css0,hL0⟩
 have HC:=hL0.rd
 have O6:=hL0.upd
 have hv_48:=O6.blk_some hv_15 (by omega)
 have lO:Upd (fun b=>b=vb∨b=rb) w15 w48:=O6.mono (fun _ h=>.inr h)
 have ae:=pH.trans lO
 have hz48:=lO.size
 have RS:=hG1.updS ae bK bM
 have xP:rdF (rdQ (d+2) ver true) ver true fQ_9 s8=(.mk 0 [] (nilS fQ_9 ver y0) xs0 [],s39):=by
  have h:=rdF_listE (pt:=(rdQ (d+2) ver true)) (v:=ver) (flex:=true) (f:=fQ_9) (s:=s8) (xs:=xs0) (e:=s39) rfl (by rw [hy0,← hN0,← hs9];exact hL0.done)
  rw [hy0] at h;exact h
 have MU:s39=(rdF (rdQ (d+2) ver true) ver true fQ_9 s8).2:=by rw [xP]
 obtain ⟨aa0,qq0,HZ⟩:=hL0.row.shape
 subst HZ
 repeat ((first|refine qA ?_|apply qB|refine qC ?_|apply qD|apply qE|apply qF|apply qG|apply qH);try simp (disch:=omega) only [go_sem,hv_48,bV,bX,bY,bZ,bR,bW,bU])
 generalize CW:wr w48 vb 12 [.slice aa0 N0 qq0] = w49
 have TE:Upd (fun b=>b=vb∨b=rb) w48 w49:=by rw [← CW];exact (Upd.refl _ _).wr _ _ (.inr (.inl rfl))
 have hv_49:blk w49 vb=some (#[.int .i16 ver,.pointer none,c_1,zM,.int .i64 (-1),.map none,.int .i32 (rdInt .i32 4 s2).1,.int .i32 (rdInt .i32 4 s3).1,.int .i32 (rdInt .i32 4 s4).1,.int .i8 (rdInt .i8 1 s5).1,.int .i32 (rdInt .i32 4 s6).1,.int .i32 (rdInt .i32 4 s7).1,.slice aa0 N0 qq0,zS,zT,.map none],75,(0,0)):=by rw [← CW,blk_wr_eq,hv_48];rfl
 have wC:=TE
 have K0:=ae.trans wC
 have hz49:=wC.size
 have RU:=hG1.updS K0 bK bM
 have YF:=Rdr.stored CW HC (by omega) fun h=>by have:=(hok _ h).1;first|omega|exact (hok _ h).2 rfl
 clear CW
 have hf_9:RepF (RepS true (d+2)) (szS true (d+2)) fQ_9 (fun b=>ok b∨w1.heap.size≤b) w49 (x_9) [.slice aa0 N0 qq0]:=by rw [hx_9,xP];exact RepF.keepS (RepF_row rfl xE hN0 rfl hL0.row hL0.all (fun b hb=>.inr (by omega))) (wC.keeps fun b _ hk e=>(hoM b hk) e)
 clear hL0 xE
 have hb_10:(rdL (rdQ (d+2) ver true) (dfP (d+2)) ver true [fQ_10,fQ_11] s39).2=none→FB:=fun h=>hb_9 (by rw [rdL_st (by decide) hh_9,← MU];exact h)
 have hh_10:hasS fQ_10 ver=true:=hasS_t (by show (7:Int)≤ver;omega) (by show (-1:Int) < 0∨ver≤(-1:Int);omega)
 obtain ⟨x_10,hx_10⟩:∃ x,x=(rdF (rdQ (d+2) ver true) ver true fQ_10 s39).1:=⟨_,rfl⟩
 repeat ((first|refine qA ?_|apply qB|refine qC ?_|apply qD|apply qE|apply qF|apply qG|apply qH);try simp (disch:=omega) only [go_sem,hv_49,bV,bX,bY,bZ,bR,bW,bU])
 refine (RCompactArrayLen_fn w49 YF.1 hrok RU.1 hgrb).mono ?_
 rintro _ w50 ⟨rfl,uA,O7⟩
 have hv_50:=O7.blk_some hv_49 (by omega)
 have AE:Upd (fun b=>b=vb∨b=rb) w49 w50:=O7.mono (fun _ h=>.inr h)
 have AA:=K0.trans AE
 have hz50:=AE.size
 have RV:=hG1.updS AA bK bM
 obtain ⟨s40,HF⟩:∃ s,s=(rdALen true s39).2:=⟨_,rfl⟩
 rw [← HF] at uA
 have hyr2:=rdALen_rng true s39
 generalize hy2:(rdALen true s39).1=y2 at *
 obtain ⟨N2,hN2⟩:∃ N,N=y2.toNat:=⟨_,rfl⟩
 have jF:(rdMany (rd1 (rdQ (d+2) ver true) fQ_10.of fQ_10.sub false true) N2 s40).2=none→FB:=fun h=>hb_10 (by rw [rdL_st (by decide) hh_10];exact rdLQ_bad (rdFQ_listbad rfl (by rw [hy2,← hN2,← HF];exact h)))
 repeat ((first|refine W.seqR rfl ?_|refine W.seq ?_|refine W.regR rfl ?_|refine W.block ?_|refine W.skip ?_|refine W.ret ?_|refine W.exit ?_);try simp (disch:=omega) only [go_sem,hv_50,bV,bX,bY,bZ,bR,bW,bU])
 refine (ROk_fn w50 uA.1).mono ?_
 rintro _ wz ⟨rfl,hez⟩
 rw [hez]
 clear hez wz
 by_cases lX:s40=none
 ·have hso:s40.isSome=false:=by rw [lX];rfl
  repeat (first|simp (disch:=omega) only [go_sem,hv_50,bV,bX,bY,bZ,bR,bW,bU,hso]|refine qA ?_|apply qB|refine qC ?_|apply qD|apply qE|apply qF|apply qG|apply qH)
  refine (RComplete_fn w50 uA.1 RV.2).mono ?_
  rintro _ wz ⟨rfl,hez⟩
  rw [hez]
  repeat (first|simp (disch:=omega) only [go_sem,hv_50,bV,bX,bY,bZ,bR,bW,bU]|refine qA ?_|apply qB|refine qC ?_|apply qD|apply qE|apply qF|apply qG|apply qH)
  rw [errV_none lX]
  exact ReadQ.bad (Eq.mp hFB (jF (by rw [lX];exact rdMany_none rd1Q_none _))) (hbase.trans' AA fun i hi h=>h.elim id fun h=>by omega)
 have m5:s40.isSome=true:=isSome_some lX
 try simp (disch:=omega) only [go_sem,hv_50,bV,bX,bY,bZ,bR,bW,bU,m5]
 repeat ((first|refine W.seqR rfl ?_|refine W.seq ?_|refine W.regR rfl ?_|refine W.block ?_|refine W.skip ?_|refine W.ret ?_|refine W.exit ?_);try simp (disch:=omega) only [go_sem,hv_50,bV,bX,bY,bZ,bR,bW,bU,m5])
 refine W.condK ?_
 try simp (disch:=omega) only [go_sem,hv_50,bV,bX,bY,bZ,bR,bW,bU,m5]
 repeat ((first|refine W.seqR rfl ?_|refine W.seq ?_|refine W.regR rfl ?_|refine W.block ?_|refine W.skip ?_|refine W.ret ?_|refine W.exit ?_);try simp (disch:=omega) only [go_sem,hv_50,bV,bX,bY,bZ,bR,bW,bU,m5,slBase_00])
 refine W.normJ (RowQ [(2,zB),(7,.pointer (some ⟨rb,0,none⟩)),(8,.int .i16 ver),(9,.bool true),(10,.pointer (some ⟨vb,0,none⟩)),(48,.int .i32 y2)] 47 (fun va w'=>LstI RT (rd1 (rdQ (d+2) ver true) fQ_10.of fQ_10.sub false true) (Rep1 (RepS true (d+2)) fQ_10.of fQ_10.sub) 19 90 [zT,zZ,zZ,zZ,zZ,zZ,zZ,zZ,zZ,zZ,zZ,zZ,zZ,zZ,zZ,zZ,zZ,zS,.map none] w50.heap.size N2 ok (fun b=>ok b∨w1.heap.size≤b) rb w50 s40 va 0 s40 [] [] w'∧(N2=0→if nilS fQ_10 ver y2=true then va=zS else ∃ a,va = .slice (some a) 0 0))) ?_ ?_
 ·by_cases hy0:(0:Int) < y2
  ·have hyv:Value.int .i32 y2 = .int .i32 ((N2:Nat):Int):=by rw [show y2=((N2:Nat):Int) by omega]
   repeat ((first|refine qA ?_|apply qB|refine qC ?_|apply qD|apply qE|apply qF|apply qG|apply qH);try simp (disch:=omega) only [go_sem,hv_50,bV,bX,bY,bZ,bR,bW,bU])
   refine wp_appendZ (m:=N2) utQ_73 utQ_21 inQ_90 (by decide) (by first|rfl|simp (disch:=omega) only [go_sem,bV,bX,bY,bZ,bR,bW,bU]) (by first|exact hyv|(simp (disch:=omega) only [go_sem,bV,bX,bY,bZ,bR,bW,bU];exact hyv)) (by omega) (by omega) (by decide) ?_
   intro q rest hq1
   have hEw:Ext w50 (w50.drew.alloc (.cells (zs [zT,zZ,zZ,zZ,zZ,zZ,zZ,zZ,zZ,zZ,zZ,zZ,zZ,zZ,zZ,zZ,zZ,zS,.map none] N2++rest).toArray 90)):=(Upd.refl _ _).drew.alloc _
   repeat (first|simp (disch:=omega) only [go_sem,hv_50,bV,bX,bY,bZ,bR,bW,bU]|refine qA ?_|apply qB|refine qC ?_|apply qD|apply qE|apply qF|apply qG|apply qH)
   exact ⟨(by simp (disch:=omega) only [go_sem,Holds_nil,Holds_cons,bV,bX,bY,bZ,bR,bW,bU]),.slice (some ⟨w50.heap.size,0,none⟩) N2 q,(by simp (disch:=omega) only [go_sem,bV,bX,bY,bZ,bR,bW,bU]),LstI.start (RowJ.start (by omega) hq1 (by show w50.heap.size≤w50.drew.heap.size;rw [size_drew];omega) (blk_alloc_new rfl)) ⟨uA.1.upd hEw (fun h=>h) (fun _ _ _ h=>h),uA.2.upd hEw fun h=>h⟩ (hEw.mono fun _ h=>h.elim),fun h0=>by omega⟩
  ·repeat ((first|refine qA ?_|apply qB|refine qC ?_|apply qD|apply qE|apply qF|apply qG|apply qH);try simp (disch:=omega) only [go_sem,hv_50,bV,bX,bY,bZ,bR,bW,bU])
   exact ⟨(by simp (disch:=omega) only [go_sem,Holds_nil,Holds_cons,bV,bX,bY,bZ,bR,bW,bU]),zS,(by simp (disch:=omega) only [go_sem,bV,bX,bY,bZ,bR,bW,bU,slBase_00]),LstI.start (RowJ.zero (by omega) (fun _ h=>by cases h)) uA (Upd.refl _ _),fun _=>by rw [nilS_plain (by decide) (by omega)];exact rfl⟩
 rintro ρ w51 ⟨⟨rK,rM,rN,rO,rJ,rL,-⟩,va2,cC,hL2,xG⟩
 repeat ((first|refine qA ?_|apply qB|refine qC ?_|apply qD|apply qE|apply qF|apply qG|apply qH);try simp (disch:=omega) only [go_sem,hv_50,rK,rM,rN,rO,rJ,rL,cC])
 refine W.exitRJ 7 (EndQ [(2,zB),(7,.pointer (some ⟨rb,0,none⟩)),(8,.int .i16 ver),(9,.bool true),(10,.pointer (some ⟨vb,0,none⟩)),(48,.int .i32 y2),(47,va2)] (fun w'=>∃ s xs css,LstI RT (rd1 (rdQ (d+2) ver true) fQ_10.of fQ_10.sub false true) (Rep1 (RepS true (d+2)) fQ_10.of fQ_10.sub) 19 90 [zT,zZ,zZ,zZ,zZ,zZ,zZ,zZ,zZ,zZ,zZ,zZ,zZ,zZ,zZ,zZ,zZ,zS,.map none] w50.heap.size N2 ok (fun b=>ok b∨w1.heap.size≤b) rb w50 s40 va2 N2 s xs css w')) (W.loop (LoopQ [(2,zB),(7,.pointer (some ⟨rb,0,none⟩)),(8,.int .i16 ver),(9,.bool true),(10,.pointer (some ⟨vb,0,none⟩)),(48,.int .i32 y2),(47,va2)] 49 (fun j w'=>∃ s xs css,LstI RT (rd1 (rdQ (d+2) ver true) fQ_10.of fQ_10.sub false true) (Rep1 (RepS true (d+2)) fQ_10.of fQ_10.sub) 19 90 [zT,zZ,zZ,zZ,zZ,zZ,zZ,zZ,zZ,zZ,zZ,zZ,zZ,zZ,zZ,zZ,zZ,zS,.map none] w50.heap.size N2 ok (fun b=>ok b∨w1.heap.size≤b) rb w50 s40 va2 j s xs css w')) (fun ρ _=>N2 - (RowKit.intOf (ρ 49)).toNat) ?_ ?_) ?_
 ·exact ⟨(by simp (disch:=omega) only [go_sem,Holds_nil,Holds_cons,rK,rM,rN,rO,rJ,rL,cC]),0,(by simp (disch:=omega) only [go_sem,rK,rM,rN,rO,rJ,rL,cC];all_goals rfl),s40,[],[],hL2⟩
 ·rintro ρ w52 ⟨⟨bN,cR,cV,cW,cP,cQ,sC,-⟩,j1,cY,s41,xs2,css2,hL2⟩
  have hj2:=hL2.le
  have ME:=hL2.rd
  have K1:Upd (fun b=>b=vb∨b=rb) w1 w52:=AA.trans' hL2.upd fun i _ h=>.inr h
  have hz52:=hL2.upd.size
  have hG52:Glo ev w52:=hG1.updS K1 bK bM
  by_cases hlt2:j1 < N2
  ·obtain ⟨R1,q1,B1,eY,EP,EN,hA1,DA,kG⟩:=hL2.row.next hlt2
   have ET:=blk_lt DA
   generalize css2.flatten=A1 at hA1 DA kG
   replace cC:ρ 47 = .slice (some ⟨R1,0,none⟩) N2 q1:=sC.trans eY
   have jG:∀ b,ownB va2 b→w50.heap.size≤b∧b < w52.heap.size:=fun b h=>hL2.row.own h
   have dL:∀ b,(fun b=>(ok b∨w1.heap.size≤b)∧¬ ownB va2 b) b→¬ (b=R1∨b=rb):=fun b hk h=>h.elim (fun e=>hk.2 ⟨_,_,_,eY,e⟩) (fun e=>hoM b hk.1 (.inr e))
   obtain ⟨X52,hX52,hxb52,hXs52⟩:=el_open (n:=19) DA hA1 rfl
   repeat ((first|refine qA ?_|apply qB|refine qC ?_|apply qD|apply qE|apply qF|apply qG|apply qH);try simp (disch:=omega) only [go_sem,hxb52,bN,cR,cV,cW,cP,cQ,cC,cY])
   refine (DefaultEX1_fn w52 DA hA1).mono ?_
   rintro _ w53 ⟨I6,HY⟩
   have MF:=And.intro (ME.1.upd HY (by omega) (fun b _ hk e=>by have:=(hok b hk).1;omega)) (ME.2.upd HY (by omega))
   have AF:Upd (fun b=>b=R1∨b=rb) w52 w53:=HY.mono (fun _ h=>.inl h)
   have FA:=K1.trans' AF fun i hi h=>h.elim (fun h=>by omega) .inr
   have hz53:=AF.size
   have RW:=hG1.updS FA bK bM
   obtain ⟨X53,hX53,DI,hXs53⟩:=el_open (n:=19) I6 hA1 rfl
   have VL:(rdL (rdQ (d+1) ver true) (dfP (d+1)) ver true [fX1_0,fX1_1,fX1_2] s41).2=none→FB:=fun h=>jF (hL2.bad hlt2 rd1Q_none (by show (rd1 (rdQ (d+2) ver true) 10 fs_X1 false true s41).2=none;rw [rd1_part];exact rdQ_bad h))
   repeat ((first|refine W.seqR rfl ?_|refine W.seq ?_|refine W.regR rfl ?_|refine W.block ?_|refine W.skip ?_|refine W.ret ?_|refine W.exit ?_);try simp (disch:=omega) only [go_sem,DI,bN,cR,cV,cW,cP,cQ,cC,cY])
   refine W.normJ (EndQ [(2,zB),(7,.pointer (some ⟨rb,0,none⟩)),(8,.int .i16 ver),(9,.bool true),(10,.pointer (some ⟨vb,0,none⟩)),(48,.int .i32 y2),(47,.slice (some ⟨R1,0,none⟩) N2 q1),(49,.int .i32 j1),(51,.pointer (some ⟨R1,j1 * 19,none⟩))] fun w'=>∃ (x:Tree) (st:St) (c:Value),x=(rdA (rdQ (d+1) ver true) (dfP (d+1)) ver true fX1_0 s41).1∧st=(rdA (rdQ (d+1) ver true) (dfP (d+1)) ver true fX1_0 s41).2∧blk w' R1=some ((A1++(([c,zZ,zZ,zZ,zZ,zZ,zZ,zZ,zZ,zZ,zZ,zZ,zZ,zZ,zZ,zZ,zZ,zS,.map none]:List Value)++B1)).toArray,90,(0,0))∧RepF (RepS true (d+1)) (szS true (d+1)) fX1_0 (fun b=>(ok b∨w1.heap.size≤b)∧¬ ownB va2 b) w' x [c]∧(Rdr RT ok w' rb st∧NN w' rb st)∧Upd (fun b=>b=R1∨b=rb) w53 w') ?_ ?_
   ·by_cases hvc_:ver≤(12:Int)
    ·have hyes:hasS fX1_0 ver=true:=hasS_t (by show (7:Int)≤ver;omega) (by show (12:Int) < 0∨ver≤(12:Int);omega)
     repeat ((first|refine qA ?_|apply qB|refine qC ?_|apply qD|apply qE|apply qF|apply qG|apply qH);try simp (disch:=omega) only [go_sem,DI,bN,cR,cV,cW,cP,cQ,cC,cY,hvc_])
     have hhe2g_0:hasS fX1_0 ver=true:=hasS_t (by show (7:Int)≤ver;omega) (by show (12:Int) < 0∨ver≤(12:Int);omega)
     obtain ⟨xe2g_0,PS⟩:∃ x,x=(rdF (rdQ (d+1) ver true) ver true fX1_0 s41).1:=⟨_,rfl⟩
     repeat ((first|refine qA ?_|apply qB|refine qC ?_|apply qD|apply qE|apply qF|apply qG|apply qH);try simp (disch:=omega) only [go_sem,DI,bN,cR,cV,cW,cP,cQ,cC,cY])
     have hmay:mayS fX1_0 ver=false:=mayS_no (by show (-1:Int) < 0∨ver < (-1:Int);omega)
     have hrd:rdF (rdQ (d+1) ver true) ver true fX1_0 s41=_:=rdF_text rfl hmay
     refine (RCompactString_fn w53 MF.1 hrok RW.1 hgrb).mono ?_
     rintro _ w54 ⟨rfl,xN,CB⟩
     have vA:=CB.blk_some I6 (by omega)
     have mO:Upd (fun b=>b=R1∨b=rb) w53 w54:=CB.mono (fun _ h=>.inr h)
     have tR:=FA.trans' mO fun i hi h=>h.elim (fun h=>by omega) .inr
     have hz54:=mO.size
     have RX:=hG1.updS tR bK bM
     obtain ⟨X54,UK,vF,V0⟩:=el_open (n:=19) vA hA1 rfl
     have hst:(rdF (rdQ (d+1) ver true) ver true fX1_0 s41).2=(rdStr true s41).2:=by first|(rw [hrd];rfl)|rw [hrd]
     obtain ⟨s42,MV⟩:∃ s,s=(rdF (rdQ (d+1) ver true) ver true fX1_0 s41).2:=⟨_,rfl⟩
     rw [← hst,← MV] at xN
     clear hst
     have hst54_0:j1 * 19+1≤X54.size:=by omega
     repeat ((first|refine qA ?_|apply qB|refine qC ?_|apply qD|apply qE|apply qF|apply qG|apply qH);try simp (disch:=omega) only [go_sem,vF,bN,cR,cV,cW,cP,cQ,cC,cY,hst54_0])
     generalize CX:wr w54 R1 (j1 * 19) [strV (rdStr true s41).1] = w55
     have TF:Upd (fun b=>b=R1∨b=rb) w54 w55:=by rw [← CX];exact (Upd.refl _ _).wr _ _ (.inr (.inl rfl))
     have oQ:blk w55 R1=some ((A1++(([strV (rdStr true s41).1,zZ,zZ,zZ,zZ,zZ,zZ,zZ,zZ,zZ,zZ,zZ,zZ,zZ,zZ,zZ,zZ,zS,.map none]:List Value)++B1)).toArray,90,(0,0)):=by rw [← CX];exact el_blk0 vA hA1 (Nat.le_of_ble_eq_true rfl)
     have jL:=TF
     have pL:=tR.trans' jL fun i hi h=>h.elim (fun h=>by omega) .inr
     have QB:=jL.size
     have EL:=hG1.updS pL bK bM
     have qW:=Rdr.stored CX xN (by omega) fun h=>by have:=(hok _ h).1;first|omega|exact (hok _ h).2 rfl
     obtain ⟨X55,FO,yQ,KW⟩:=el_open (n:=19) oQ hA1 rfl
     clear CX
     have W7:RepF (RepS true (d+1)) (szS true (d+1)) fX1_0 (fun b=>(ok b∨w1.heap.size≤b)∧¬ ownB va2 b) w55 (xe2g_0) [strV (rdStr true s41).1]:=(RepF_text rfl (by decide)).2 (by rw [PS,hrd];rfl)
     clear hrd
     repeat ((first|refine qA ?_|apply qB|refine qC ?_|apply qD|apply qE|apply qF|apply qG|apply qH);try simp (disch:=omega) only [go_sem,yQ,bN,cR,cV,cW,cP,cQ,cC,cY])
     exact ⟨(by simp (disch:=omega) only [go_sem,Holds_nil,Holds_cons,bN,cR,cV,cW,cP,cQ,cC,cY]),_,_,_,(by rw [rdA_yes hyes];exact PS),(by rw [rdA_yes hyes];exact MV),oQ,W7,qW,(mO.trans jL)⟩
    ·have hno:hasS fX1_0 ver=false:=hasS_f (by show ver < 7∨(0≤(12:Int)∧(12:Int) < ver);omega)
     repeat ((first|refine qA ?_|apply qB|refine qC ?_|apply qD|apply qE|apply qF|apply qG|apply qH);try simp (disch:=omega) only [go_sem,DI,bN,cR,cV,cW,cP,cQ,cC,cY,hvc_])
     exact ⟨(by simp (disch:=omega) only [go_sem,Holds_nil,Holds_cons,bN,cR,cV,cW,cP,cQ,cC,cY]),_,_,_,(by rw [rdA_no hno];try rfl),(by rw [rdA_no hno]),I6,(RepF_text rfl (by decide)).2 rfl,MF,Upd.refl _ _⟩
   rintro ρ w54 ⟨⟨o8,oD,oE,oF,o7,oA,o9,oB,oC,-⟩,xe2_0,s43,ce2_0,hxe2_0,MW,vA,W4,xN,CB⟩
   have mO:Upd (fun b=>b=R1∨b=rb) w53 w54:=CB.mono (fun _ h=>h)
   have tR:=FA.trans' mO fun i hi h=>h.elim (fun h=>by omega) .inr
   have hz54:=mO.size
   have RX:=hG1.updS tR bK bM
   obtain ⟨X54,UK,vF,V0⟩:=el_open (n:=19) vA hA1 rfl
   have VM:(rdL (rdQ (d+1) ver true) (dfP (d+1)) ver true [fX1_1,fX1_2] s43).2=none→FB:=fun h=>VL (by rw [rdL_any (by decide),← MW];exact h)
   repeat ((first|refine W.seqR rfl ?_|refine W.seq ?_|refine W.regR rfl ?_|refine W.block ?_|refine W.skip ?_|refine W.ret ?_|refine W.exit ?_);try simp (disch:=omega) only [go_sem,vF,o8,oD,oE,oF,o7,oA,o9,oB,oC])
   refine W.normJ (EndQ [(2,zB),(7,.pointer (some ⟨rb,0,none⟩)),(8,.int .i16 ver),(9,.bool true),(10,.pointer (some ⟨vb,0,none⟩)),(48,.int .i32 y2),(47,.slice (some ⟨R1,0,none⟩) N2 q1),(49,.int .i32 j1),(51,.pointer (some ⟨R1,j1 * 19,none⟩))] fun w'=>∃ (x:Tree) (st:St) (c0 c1 c2 c3 c4 c5 c6 c7 c8 c9 c10 c11 c12 c13 c14 c15:Value),x=(rdA (rdQ (d+1) ver true) (dfP (d+1)) ver true fX1_1 s43).1∧st=(rdA (rdQ (d+1) ver true) (dfP (d+1)) ver true fX1_1 s43).2∧blk w' R1=some ((A1++(([ce2_0,c0,c1,c2,c3,c4,c5,c6,c7,c8,c9,c10,c11,c12,c13,c14,c15,zS,.map none]:List Value)++B1)).toArray,90,(0,0))∧RepF (RepS true (d+1)) (szS true (d+1)) fX1_1 (fun b=>(ok b∨w1.heap.size≤b)∧¬ ownB va2 b) w' x [c0,c1,c2,c3,c4,c5,c6,c7,c8,c9,c10,c11,c12,c13,c14,c15]∧(Rdr RT ok w' rb st∧NN w' rb st)∧Upd (fun b=>b=R1∨b=rb) w54 w') ?_ ?_
   ·by_cases hvc_:(13:Int)≤ver
    ·have hyes:hasS fX1_1 ver=true:=hasS_t (by show (13:Int)≤ver;omega) (by show (-1:Int) < 0∨ver≤(-1:Int);omega)
     repeat ((first|refine qA ?_|apply qB|refine qC ?_|apply qD|apply qE|apply qF|apply qG|apply qH);try simp (disch:=omega) only [go_sem,vF,o8,oD,oE,oF,o7,oA,o9,oB,oC,hvc_])
     have hhe2g_1:hasS fX1_1 ver=true:=hasS_t (by show (13:Int)≤ver;omega) (by show (-1:Int) < 0∨ver≤(-1:Int);omega)
     obtain ⟨xe2g_1,PT⟩:∃ x,x=(rdF (rdQ (d+1) ver true) ver true fX1_1 s43).1:=⟨_,rfl⟩
     repeat ((first|refine qA ?_|apply qB|refine qC ?_|apply qD|apply qE|apply qF|apply qG|apply qH);try simp (disch:=omega) only [go_sem,vF,o8,oD,oE,oF,o7,oA,o9,oB,oC])
     have hrd:rdF (rdQ (d+1) ver true) ver true fX1_1 s43=_:=rdF_uuid rfl
     refine (RUuid_fn w54 xN.1 hrok).mono ?_
     rintro _ w55 ⟨rfl,qW,CC⟩
     have oQ:=CC.blk_some vA (by omega)
     have jL:Upd (fun b=>b=R1∨b=rb) w54 w55:=CC.mono (fun _ h=>.inr h)
     have pL:=tR.trans' jL fun i hi h=>h.elim (fun h=>by omega) .inr
     have QB:=jL.size
     have EL:=hG1.updS pL bK bM
     obtain ⟨X55,FO,yQ,KW⟩:=el_open (n:=19) oQ hA1 rfl
     have hst:(rdF (rdQ (d+1) ver true) ver true fX1_1 s43).2=(rdSpan 16 s43).2:=by first|(rw [hrd];rfl)|rw [hrd]
     obtain ⟨s44,MX⟩:∃ s,s=(rdF (rdQ (d+1) ver true) ver true fX1_1 s43).2:=⟨_,rfl⟩
     rw [← hst,← MX] at qW
     clear hst
     have hl16:((uuidS (rdSpan 16 s43).1).map byteV).length=16:=by rw [List.length_map,uuidS_len]
     have oO:=flat_bytes (uuidS (rdSpan 16 s43).1)
     have hxe:xe2g_1 = .oct false (uuidS (rdSpan 16 s43).1):=by rw [PT,hrd]
     have hxc:(uuidS (xe2g_1).s).map byteV=(uuidS (rdSpan 16 s43).1).map byteV:=by rw [hxe];show (uuidS (uuidS _)).map byteV=_;rw [uuidS_idem]
     generalize (uuidS (rdSpan 16 s43).1).map byteV=Xu at *
     obtain ⟨ue2g1_0,ue2g1_1,ue2g1_2,ue2g1_3,ue2g1_4,ue2g1_5,ue2g1_6,ue2g1_7,ue2g1_8,ue2g1_9,ue2g1_10,ue2g1_11,ue2g1_12,ue2g1_13,ue2g1_14,ue2g1_15,rfl⟩:=list16 hl16
     simp only [List.all_cons,List.all_nil,Bool.and_true,Bool.and_eq_true] at oO
     obtain ⟨fue2g1_0,fue2g1_1,fue2g1_2,fue2g1_3,fue2g1_4,fue2g1_5,fue2g1_6,fue2g1_7,fue2g1_8,fue2g1_9,fue2g1_10,fue2g1_11,fue2g1_12,fue2g1_13,fue2g1_14,fue2g1_15⟩:=oO
     have hcz:cellsAt #[ue2g1_0,ue2g1_1,ue2g1_2,ue2g1_3,ue2g1_4,ue2g1_5,ue2g1_6,ue2g1_7,ue2g1_8,ue2g1_9,ue2g1_10,ue2g1_11,ue2g1_12,ue2g1_13,ue2g1_14,ue2g1_15] 0 16=some (.agg #[ue2g1_0,ue2g1_1,ue2g1_2,ue2g1_3,ue2g1_4,ue2g1_5,ue2g1_6,ue2g1_7,ue2g1_8,ue2g1_9,ue2g1_10,ue2g1_11,ue2g1_12,ue2g1_13,ue2g1_14,ue2g1_15]):=cellsAt_full rfl
     have hst55_1:j1 * 19+17≤X55.size:=by omega
     repeat (first|simp (disch:=omega) only [go_sem,yQ,o8,oD,oE,oF,o7,oA,o9,oB,oC,hcz,fue2g1_0,fue2g1_1,fue2g1_2,fue2g1_3,fue2g1_4,fue2g1_5,fue2g1_6,fue2g1_7,fue2g1_8,fue2g1_9,fue2g1_10,fue2g1_11,fue2g1_12,fue2g1_13,fue2g1_14,fue2g1_15,hst55_1]|refine qA ?_|apply qB|refine qC ?_|apply qD|apply qE|apply qF|apply qG|apply qH)
     have hEu:Ext w55 (wr (w55.alloc (.cells #[zZ,zZ,zZ,zZ,zZ,zZ,zZ,zZ,zZ,zZ,zZ,zZ,zZ,zZ,zZ,zZ] 82)) w55.heap.size 0 [ue2g1_0,ue2g1_1,ue2g1_2,ue2g1_3,ue2g1_4,ue2g1_5,ue2g1_6,ue2g1_7,ue2g1_8,ue2g1_9,ue2g1_10,ue2g1_11,ue2g1_12,ue2g1_13,ue2g1_14,ue2g1_15]):=(Upd.alloc (Upd.refl _ _) _).wr _ _ (.inl (Nat.le_refl _))
     have mZ:=And.intro (qW.1.upd hEu (fun h=>h) (fun _ _ _ h=>h)) (qW.2.upd hEu fun h=>h)
     have yD:Upd (fun b=>b=rb) w55 (wr (w55.alloc (.cells #[zZ,zZ,zZ,zZ,zZ,zZ,zZ,zZ,zZ,zZ,zZ,zZ,zZ,zZ,zZ,zZ] 82)) w55.heap.size 0 [ue2g1_0,ue2g1_1,ue2g1_2,ue2g1_3,ue2g1_4,ue2g1_5,ue2g1_6,ue2g1_7,ue2g1_8,ue2g1_9,ue2g1_10,ue2g1_11,ue2g1_12,ue2g1_13,ue2g1_14,ue2g1_15]):=hEu.mono fun _ h=>h.elim
     clear hEu
     generalize (wr (w55.alloc (.cells #[zZ,zZ,zZ,zZ,zZ,zZ,zZ,zZ,zZ,zZ,zZ,zZ,zZ,zZ,zZ,zZ] 82)) w55.heap.size 0 [ue2g1_0,ue2g1_1,ue2g1_2,ue2g1_3,ue2g1_4,ue2g1_5,ue2g1_6,ue2g1_7,ue2g1_8,ue2g1_9,ue2g1_10,ue2g1_11,ue2g1_12,ue2g1_13,ue2g1_14,ue2g1_15])=w56 at *
     have yK:=yD.blk_some oQ (by omega)
     have mP:Upd (fun b=>b=R1∨b=rb) w55 w56:=yD.mono (fun _ h=>.inr h)
     have pM:=pL.trans' mP fun i hi h=>h.elim (fun h=>by omega) .inr
     have hz56:=mP.size
     have JG:=hG1.updS pM bK bM
     obtain ⟨X56,UL,jZ,V1⟩:=el_open (n:=19) yK hA1 rfl
     generalize CY:wr w56 R1 (j1 * 19+1) [ue2g1_0,ue2g1_1,ue2g1_2,ue2g1_3,ue2g1_4,ue2g1_5,ue2g1_6,ue2g1_7,ue2g1_8,ue2g1_9,ue2g1_10,ue2g1_11,ue2g1_12,ue2g1_13,ue2g1_14,ue2g1_15] = w57
     have TG:Upd (fun b=>b=R1∨b=rb) w56 w57:=by rw [← CY];exact (Upd.refl _ _).wr _ _ (.inr (.inl rfl))
     have OX:blk w57 R1=some ((A1++(([ce2_0,ue2g1_0,ue2g1_1,ue2g1_2,ue2g1_3,ue2g1_4,ue2g1_5,ue2g1_6,ue2g1_7,ue2g1_8,ue2g1_9,ue2g1_10,ue2g1_11,ue2g1_12,ue2g1_13,ue2g1_14,ue2g1_15,zS,.map none]:List Value)++B1)).toArray,90,(0,0)):=by rw [← CY];exact el_blk (o:=1) yK hA1 (Nat.le_of_ble_eq_true rfl)
     have FF:=TG
     have TX:=pM.trans' FF fun i hi h=>h.elim (fun h=>by omega) .inr
     have hz57:=FF.size
     have hG57:=hG1.updS TX bK bM
     have YG:=Rdr.stored CY mZ (by omega) fun h=>by have:=(hok _ h).1;first|omega|exact (hok _ h).2 rfl
     obtain ⟨X57,hX57,hxb57,hXs57⟩:=el_open (n:=19) OX hA1 rfl
     clear CY
     have W8:RepF (RepS true (d+1)) (szS true (d+1)) fX1_1 (fun b=>(ok b∨w1.heap.size≤b)∧¬ ownB va2 b) w57 (xe2g_1) [ue2g1_0,ue2g1_1,ue2g1_2,ue2g1_3,ue2g1_4,ue2g1_5,ue2g1_6,ue2g1_7,ue2g1_8,ue2g1_9,ue2g1_10,ue2g1_11,ue2g1_12,ue2g1_13,ue2g1_14,ue2g1_15]:=(RepF_uuid rfl).2 hxc.symm
     clear hrd
     repeat ((first|refine qA ?_|apply qB|refine qC ?_|apply qD|apply qE|apply qF|apply qG|apply qH);try simp (disch:=omega) only [go_sem,hxb57,o8,oD,oE,oF,o7,oA,o9,oB,oC])
     exact ⟨(by simp (disch:=omega) only [go_sem,Holds_nil,Holds_cons,o8,oD,oE,oF,o7,oA,o9,oB,oC]),_,_,_,_,_,_,_,_,_,_,_,_,_,_,_,_,_,_,(by rw [rdA_yes hyes];exact PT),(by rw [rdA_yes hyes];exact MX),OX,W8,YG,((jL.trans mP).trans FF)⟩
    ·have hno:hasS fX1_1 ver=false:=hasS_f (by show ver < 13∨(0≤(-1:Int)∧(-1:Int) < ver);omega)
     repeat ((first|refine qA ?_|apply qB|refine qC ?_|apply qD|apply qE|apply qF|apply qG|apply qH);try simp (disch:=omega) only [go_sem,vF,o8,oD,oE,oF,o7,oA,o9,oB,oC,hvc_])
     exact ⟨(by simp (disch:=omega) only [go_sem,Holds_nil,Holds_cons,o8,oD,oE,oF,o7,oA,o9,oB,oC]),_,_,_,_,_,_,_,_,_,_,_,_,_,_,_,_,_,_,(by rw [rdA_no hno];try rfl),(by rw [rdA_no hno]),vA,(RepF_uuid rfl).2 rfl,xN,Upd.refl _ _⟩
   rintro ρ w55 ⟨⟨gA,gF,gG,gH,g9,gC,gB,gD,gE,-⟩,xe2_1,s45,ce2_1_0,ce2_1_1,ce2_1_2,ce2_1_3,ce2_1_4,ce2_1_5,ce2_1_6,ce2_1_7,ce2_1_8,ce2_1_9,ce2_1_10,ce2_1_11,ce2_1_12,ce2_1_13,ce2_1_14,ce2_1_15,hxe2_1,MY,oQ,W5,qW,CC⟩
   have jL:Upd (fun b=>b=R1∨b=rb) w54 w55:=CC.mono (fun _ h=>h)
   have pL:=tR.trans' jL fun i hi h=>h.elim (fun h=>by omega) .inr
   have QB:=jL.size
   have EL:=hG1.updS pL bK bM
   obtain ⟨X55,FO,yQ,KW⟩:=el_open (n:=19) oQ hA1 rfl
   have VN:(rdL (rdQ (d+1) ver true) (dfP (d+1)) ver true [fX1_2] s45).2=none→FB:=fun h=>VM (by rw [rdL_any (by decide),← MY];exact h)
   have LQ:hasS fX1_2 ver=true:=hasS_t (by show (0:Int)≤ver;omega) (by show (-1:Int) < 0∨ver≤(-1:Int);omega)
   obtain ⟨xe2_2,PR⟩:∃ x,x=(rdF (rdQ (d+1) ver true) ver true fX1_2 s45).1:=⟨_,rfl⟩
   have WW:X55[j1 * 19+17]? = some (.slice none 0 0):=by rw [FO];exact el_cell (R:=0) hA1 (Nat.le_of_ble_eq_true rfl)
   repeat ((first|refine qA ?_|apply qB|refine qC ?_|apply qD|apply qE|apply qF|apply qG|apply qH);try simp (disch:=omega) only [go_sem,yQ,gA,gF,gG,gH,g9,gC,gB,gD,gE,WW])
   refine (RCompactArrayLen_fn w55 qW.1 hrok EL.1 hgrb).mono ?_
   rintro _ w56 ⟨rfl,mZ,yD⟩
   have yK:=yD.blk_some oQ (by omega)
   have mP:Upd (fun b=>b=R1∨b=rb) w55 w56:=yD.mono (fun _ h=>.inr h)
   have pM:=pL.trans' mP fun i hi h=>h.elim (fun h=>by omega) .inr
   have hz56:=mP.size
   have JG:=hG1.updS pM bK bM
   obtain ⟨X56,UL,jZ,V1⟩:=el_open (n:=19) yK hA1 rfl
   obtain ⟨s46,HG⟩:∃ s,s=(rdALen true s45).2:=⟨_,rfl⟩
   rw [← HG] at mZ
   have hyr3:=rdALen_rng true s45
   generalize hy3:(rdALen true s45).1=y3 at *
   obtain ⟨N3,hN3⟩:∃ N,N=y3.toNat:=⟨_,rfl⟩
   have eI:(rdMany (rd1 (rdQ (d+1) ver true) fX1_2.of fX1_2.sub false true) N3 s46).2=none→FB:=fun h=>VN (by rw [rdL_st (by decide) LQ];exact rdLQ_bad (rdFQ_listbad rfl (by rw [hy3,← hN3,← HG];exact h)))
   repeat ((first|refine W.seqR rfl ?_|refine W.seq ?_|refine W.regR rfl ?_|refine W.block ?_|refine W.skip ?_|refine W.ret ?_|refine W.exit ?_);try simp (disch:=omega) only [go_sem,jZ,gA,gF,gG,gH,g9,gC,gB,gD,gE])
   refine (ROk_fn w56 mZ.1).mono ?_
   rintro _ wz ⟨rfl,hez⟩
   rw [hez]
   clear hez wz
   by_cases lY:s46=none
   ·have hso:s46.isSome=false:=by rw [lY];rfl
    repeat (first|simp (disch:=omega) only [go_sem,jZ,gA,gF,gG,gH,g9,gC,gB,gD,gE,hso]|refine qA ?_|apply qB|refine qC ?_|apply qD|apply qE|apply qF|apply qG|apply qH)
    refine (RComplete_fn w56 mZ.1 JG.2).mono ?_
    rintro _ wz ⟨rfl,hez⟩
    rw [hez]
    repeat (first|simp (disch:=omega) only [go_sem,jZ,gA,gF,gG,gH,g9,gC,gB,gD,gE]|refine qA ?_|apply qB|refine qC ?_|apply qD|apply qE|apply qF|apply qG|apply qH)
    rw [errV_none lY]
    exact ReadQ.bad (Eq.mp hFB (eI (by rw [lY];exact rdMany_none rd1Q_none _))) (hbase.trans' pM fun i hi h=>h.elim id fun h=>by omega)
   have m6:s46.isSome=true:=isSome_some lY
   try simp (disch:=omega) only [go_sem,jZ,gA,gF,gG,gH,g9,gC,gB,gD,gE,m6]
   repeat ((first|refine W.seqR rfl ?_|refine W.seq ?_|refine W.regR rfl ?_|refine W.block ?_|refine W.skip ?_|refine W.ret ?_|refine W.exit ?_);try simp (disch:=omega) only [go_sem,jZ,gA,gF,gG,gH,g9,gC,gB,gD,gE,m6])
   refine W.condK ?_
   try simp (disch:=omega) only [go_sem,jZ,gA,gF,gG,gH,g9,gC,gB,gD,gE,m6]
   repeat ((first|refine W.seqR rfl ?_|refine W.seq ?_|refine W.regR rfl ?_|refine W.block ?_|refine W.skip ?_|refine W.ret ?_|refine W.exit ?_);try simp (disch:=omega) only [go_sem,jZ,gA,gF,gG,gH,g9,gC,gB,gD,gE,m6,slBase_00])
   refine W.normJ (RowQ [(2,zB),(7,.pointer (some ⟨rb,0,none⟩)),(8,.int .i16 ver),(9,.bool true),(10,.pointer (some ⟨vb,0,none⟩)),(48,.int .i32 y2),(47,.slice (some ⟨R1,0,none⟩) N2 q1),(49,.int .i32 j1),(51,.pointer (some ⟨R1,j1 * 19,none⟩)),(56,.int .i32 y3)] 55 (fun va w'=>LstI RT (rd1 (rdQ (d+1) ver true) fX1_2.of fX1_2.sub false true) (Rep1 (RepS true (d+1)) fX1_2.of fX1_2.sub) 1 21 [.int .i32 0] w56.heap.size N3 ok (fun b=>(ok b∨w1.heap.size≤b)∧¬ ownB va2 b) rb w56 s46 va 0 s46 [] [] w'∧(N3=0→if nilS fX1_2 ver y3=true then va=zS else ∃ a,va = .slice (some a) 0 0))) ?_ ?_
   ·by_cases hy0:(0:Int) < y3
    ·have hyv:Value.int .i32 y3 = .int .i32 ((N3:Nat):Int):=by rw [show y3=((N3:Nat):Int) by omega]
     repeat ((first|refine qA ?_|apply qB|refine qC ?_|apply qD|apply qE|apply qF|apply qG|apply qH);try simp (disch:=omega) only [go_sem,jZ,gA,gF,gG,gH,g9,gC,gB,gD,gE])
     refine wp_appendZ (m:=N3) utQ_88 utQ_21 inQ_21 (by decide) (by first|rfl|simp (disch:=omega) only [go_sem,gA,gF,gG,gH,g9,gC,gB,gD,gE]) (by first|exact hyv|(simp (disch:=omega) only [go_sem,gA,gF,gG,gH,g9,gC,gB,gD,gE];exact hyv)) (by omega) (by omega) (by decide) ?_
     intro q rest hq1
     have hEw:Ext w56 (w56.drew.alloc (.cells (zs [.int .i32 0] N3++rest).toArray 21)):=(Upd.refl _ _).drew.alloc _
     repeat (first|simp (disch:=omega) only [go_sem,jZ,gA,gF,gG,gH,g9,gC,gB,gD,gE]|refine qA ?_|apply qB|refine qC ?_|apply qD|apply qE|apply qF|apply qG|apply qH)
     exact ⟨(by simp (disch:=omega) only [go_sem,Holds_nil,Holds_cons,gA,gF,gG,gH,g9,gC,gB,gD,gE]),.slice (some ⟨w56.heap.size,0,none⟩) N3 q,(by simp (disch:=omega) only [go_sem,gA,gF,gG,gH,g9,gC,gB,gD,gE]),LstI.start (RowJ.start (by omega) hq1 (by show w56.heap.size≤w56.drew.heap.size;rw [size_drew];omega) (blk_alloc_new rfl)) ⟨mZ.1.upd hEw (fun h=>h) (fun _ _ _ h=>h),mZ.2.upd hEw fun h=>h⟩ (hEw.mono fun _ h=>h.elim),fun h0=>by omega⟩
    ·repeat ((first|refine qA ?_|apply qB|refine qC ?_|apply qD|apply qE|apply qF|apply qG|apply qH);try simp (disch:=omega) only [go_sem,jZ,gA,gF,gG,gH,g9,gC,gB,gD,gE])
     exact ⟨(by simp (disch:=omega) only [go_sem,Holds_nil,Holds_cons,gA,gF,gG,gH,g9,gC,gB,gD,gE]),zS,(by simp (disch:=omega) only [go_sem,gA,gF,gG,gH,g9,gC,gB,gD,gE,slBase_00]),LstI.start (RowJ.zero (by omega) (fun _ h=>by cases h)) mZ (Upd.refl _ _),fun _=>by rw [nilS_plain (by decide) (by omega)];exact rfl⟩
   rintro ρ w57 ⟨⟨rQ,rW,rX,rY,rP,rS,rR,rT,rU,rV,-⟩,va3,eE,hL3,xH⟩
   repeat ((first|refine qA ?_|apply qB|refine qC ?_|apply qD|apply qE|apply qF|apply qG|apply qH);try simp (disch:=omega) only [go_sem,jZ,rQ,rW,rX,rY,rP,rS,rR,rT,rU,rV,eE])
   refine W.exitRJ 9 (EndQ [(2,zB),(7,.pointer (some ⟨rb,0,none⟩)),(8,.int .i16 ver),(9,.bool true),(10,.pointer (some ⟨vb,0,none⟩)),(48,.int .i32 y2),(47,.slice (some ⟨R1,0,none⟩) N2 q1),(49,.int .i32 j1),(51,.pointer (some ⟨R1,j1 * 19,none⟩)),(56,.int .i32 y3),(55,va3)] (fun w'=>∃ s xs css,LstI RT (rd1 (rdQ (d+1) ver true) fX1_2.of fX1_2.sub false true) (Rep1 (RepS true (d+1)) fX1_2.of fX1_2.sub) 1 21 [.int .i32 0] w56.heap.size N3 ok (fun b=>(ok b∨w1.heap.size≤b)∧¬ ownB va2 b) rb w56 s46 va3 N3 s xs css w')) (W.loop (LoopQ [(2,zB),(7,.pointer (some ⟨rb,0,none⟩)),(8,.int .i16 ver),(9,.bool true),(10,.pointer (some ⟨vb,0,none⟩)),(48,.int .i32 y2),(47,.slice (some ⟨R1,0,none⟩) N2 q1),(49,.int .i32 j1),(51,.pointer (some ⟨R1,j1 * 19,none⟩)),(56,.int .i32 y3),(55,va3)] 57 (fun j w'=>∃ s xs css,LstI RT (rd1 (rdQ (d+1) ver true) fX1_2.of fX1_2.sub false true) (Rep1 (RepS true (d+1)) fX1_2.of fX1_2.sub) 1 21 [.int .i32 0] w56.heap.size N3 ok (fun b=>(ok b∨w1.heap.size≤b)∧¬ ownB va2 b) rb w56 s46 va3 j s xs css w')) (fun ρ _=>N3 - (RowKit.intOf (ρ 57)).toNat) ?_ ?_) ?_
   ·exact ⟨(by simp (disch:=omega) only [go_sem,Holds_nil,Holds_cons,rQ,rW,rX,rY,rP,rS,rR,rT,rU,rV,eE]),0,(by simp (disch:=omega) only [go_sem,rQ,rW,rX,rY,rP,rS,rR,rT,rU,rV,eE];all_goals rfl),s46,[],[],hL3⟩
   ·rintro ρ w58 ⟨⟨eM,eS,eU,eV,eL,eO,eN,eP,eQ,eR,sD,-⟩,j2,eX,s47,xs3,css3,hL3⟩
    have hj3:=hL3.le
    have YH:=hL3.rd
    have K2:Upd (fun b=>b=vb∨b=rb) w1 w58:=pM.trans' hL3.upd fun i _ h=>.inr h
    have hz58:=hL3.upd.size
    have RY:Glo ev w58:=hG1.updS K2 bK bM
    by_cases hlt3:j2 < N3
    ·obtain ⟨R2,q2,B2,eJ,EQ,EO,hA2,DD,kH⟩:=hL3.row.next hlt3
     have EU:=blk_lt DD
     generalize css3.flatten=A2 at hA2 DD kH
     rw [Nat.mul_one] at hA2
     replace eE:ρ 55 = .slice (some ⟨R2,0,none⟩) N3 q2:=sD.trans eJ
     have hown2:∀ b,ownB va3 b→w56.heap.size≤b∧b < w58.heap.size:=fun b h=>hL3.row.own h
     have cZ:∀ b,(fun b=>(fun b=>(ok b∨w1.heap.size≤b)∧¬ ownB va2 b) b∧¬ ownB va3 b) b→¬ (b=R2∨b=rb):=fun b hk h=>h.elim (fun e=>hk.2 ⟨_,_,_,eJ,e⟩) (fun e=>dL b hk.1 (.inr e))
     obtain ⟨X58,hX58,hxb58,hXs58⟩:=el_open (n:=1) DD hA2 rfl
     repeat ((first|refine qA ?_|apply qB|refine qC ?_|apply qD|apply qE|apply qF|apply qG|apply qH);try simp (disch:=omega) only [go_sem,hxb58,eM,eS,eU,eV,eL,eO,eN,eP,eQ,eR,eE,eX])
     refine (Int32_fn w58 YH.1 hrok RY.1 hgrb).mono ?_
     rintro _ w59 ⟨rfl,MG,O8⟩
     have PE:=O8.blk_some DD (by omega)
     have FG:Upd (fun b=>b=R2∨b=rb) w58 w59:=O8.mono (fun _ h=>.inr h)
     have K3:=K2.trans' FG fun i hi h=>h.elim (fun h=>by omega) .inr
     have hz59:=FG.size
     have hG59:=hG1.updS K3 bK bM
     obtain ⟨X59,hX59,hxb59,hXs59⟩:=el_open (n:=1) PE hA2 rfl
     obtain ⟨s48,MZ⟩:∃ s,s=(rdInt .i32 4 s47).2:=⟨_,rfl⟩
     rw [← MZ] at MG
     have hrE:(rd1 (rdQ (d+1) ver true) fX1_2.of fX1_2.sub false true) s47=((.num (rdInt .i32 4 s47).1),s48):=by rw [MZ];exact rd1_num 3 (by decide)
     have hst59_0:j2+1≤X59.size:=by omega
     repeat ((first|refine qA ?_|apply qB|refine qC ?_|apply qD|apply qE|apply qF|apply qG|apply qH);try simp (disch:=omega) only [go_sem,hxb59,eM,eS,eU,eV,eL,eO,eN,eP,eQ,eR,eE,eX,hst59_0])
     generalize CZ:wr w59 R2 (j2) [.int .i32 (rdInt .i32 4 s47).1] = w60
     have TH:Upd (fun b=>b=R2∨b=rb) w59 w60:=by rw [← CZ];exact (Upd.refl _ _).wr _ _ (.inr (.inl rfl))
     have PF:blk w60 R2=some ((A2++(([.int .i32 (rdInt .i32 4 s47).1]:List Value)++B2)).toArray,21,(0,0)):=by rw [← CZ];exact el_blk0 PE hA2 (Nat.le_of_ble_eq_true rfl)
     have FH:=TH
     have TY:=K3.trans' FH fun i hi h=>h.elim (fun h=>by omega) .inr
     have hz60:=FH.size
     have hG60:=hG1.updS TY bK bM
     have YI:=Rdr.stored CZ MG (by omega) fun h=>by have:=(hok _ h).1;first|omega|exact (hok _ h).2 rfl
     obtain ⟨X60,hX60,PI,hXs60⟩:=el_open (n:=1) PF hA2 rfl
     clear CZ
     have hxE:(Rep1 (RepS true (d+1)) fX1_2.of fX1_2.sub) (fun b=>(fun b=>(ok b∨w1.heap.size≤b)∧¬ ownB va2 b) b∧¬ ownB va3 b) w60 (.num (rdInt .i32 4 s47).1) [.int .i32 (rdInt .i32 4 s47).1]:=(Rep1_num (by decide)).2 (congrArg (fun x=>[x]) (numC_rd 3 (by decide) 4 s47).symm)
     repeat ((first|refine qA ?_|apply qB|refine qC ?_|apply qD|apply qE|apply qF|apply qG|apply qH);try simp (disch:=omega) only [go_sem,PI,eM,eS,eU,eV,eL,eO,eN,eP,eQ,eR,eE,eX])
     have hTk:Upd (fun b=>b=R2∨b=rb) w58 w60:=(FG.trans FH)
     have hL':=hL3.step (Rep1_lay _ _ fun _=>RepS_lay true _ _) hlt3 (kH w60 [.int .i32 (rdInt .i32 4 s47).1] rfl PF) (by rw [hrE];exact hxE) (hTk.mono fun b h=>h.imp (fun e=>⟨_,_,_,eJ,e⟩) id) (by rw [hrE];exact YI) (fun h=>dL rb h (.inr rfl)) (Nat.le_refl _)
     have hij:IntKind.i32.wrap ((j2:Int)+1)=((j2+1:Nat):Int):=by rw [i32_wrap (by omega)];omega
     repeat ((first|refine qA ?_|apply qB|refine qC ?_|apply qD|apply qE|apply qF|apply qG|apply qH);try simp (disch:=omega) only [go_sem,PI,eM,eS,eU,eV,eL,eO,eN,eP,eQ,eR,eE,eX,hij])
     refine ⟨⟨(by simp (disch:=omega) only [go_sem,Holds_nil,Holds_cons,eM,eS,eU,eV,eL,eO,eN,eP,eQ,eR,eE,eX];exact eJ.symm),j2+1,(by simp (disch:=omega) only [go_sem,eM,eS,eU,eV,eL,eO,eN,eP,eQ,eR,eE,eX,hij];all_goals rfl),_,_,_,hL'⟩,?_⟩
     try simp (disch:=omega) only [go_sem,eM,eS,eU,eV,eL,eO,eN,eP,eQ,eR,eE,eX]
     simp only [RowKit.intOf]
     omega
    ·have hjN:j2=N3:=by omega
     rw [hjN] at hL3
     repeat ((first|refine qA ?_|apply qB|refine qC ?_|apply qD|apply qE|apply qF|apply qG|apply qH);try simp (disch:=omega) only [go_sem,eM,eS,eU,eV,eL,eO,eN,eP,eQ,eR,sD,eX])
     exact ⟨(by simp (disch:=omega) only [go_sem,Holds_nil,Holds_cons,eM,eS,eU,eV,eL,eO,eN,eP,eQ,eR,sD,eX]),s47,xs3,css3,hL3⟩
   rintro ρ w61 ⟨⟨iB,iJ,iK,iL,iA,iD,iC,iF,iG,iI,iH,-⟩,s49,xs3,css3,hL3⟩
   have YJ:=hL3.rd
   have O9:=hL3.upd
   have OY:=O9.blk_some yK (by omega)
   have AG:Upd (fun b=>b=R1∨b=rb) w56 w61:=O9.mono (fun _ h=>.inr h)
   have K4:=pM.trans' AG fun i hi h=>h.elim (fun h=>by omega) .inr
   have hz61:=AG.size
   have hG61:=hG1.updS K4 bK bM
   obtain ⟨X61,hX61,hxb61,hXs61⟩:=el_open (n:=19) OY hA1 rfl
   have xT:rdF (rdQ (d+1) ver true) ver true fX1_2 s45=(.mk 0 [] (nilS fX1_2 ver y3) xs3 [],s49):=by
    have h:=rdF_listE (pt:=(rdQ (d+1) ver true)) (v:=ver) (flex:=true) (f:=fX1_2) (s:=s45) (xs:=xs3) (e:=s49) rfl (by rw [hy3,← hN3,← HG];exact hL3.done)
    rw [hy3] at h;exact h
   have Z3:s49=(rdF (rdQ (d+1) ver true) ver true fX1_2 s45).2:=by rw [xT]
   obtain ⟨aa3,qq3,I2⟩:=hL3.row.shape
   subst I2
   have hst61_17:j1 * 19+18≤X61.size:=by omega
   repeat ((first|refine qA ?_|apply qB|refine qC ?_|apply qD|apply qE|apply qF|apply qG|apply qH);try simp (disch:=omega) only [go_sem,hxb61,iB,iJ,iK,iL,iA,iD,iC,iF,iG,iI,iH,hst61_17])
   generalize D0:wr w61 R1 (j1 * 19+17) [.slice aa3 N3 qq3] = w62
   have TI:Upd (fun b=>b=R1∨b=rb) w61 w62:=by rw [← D0];exact (Upd.refl _ _).wr _ _ (.inr (.inl rfl))
   have OZ:blk w62 R1=some ((A1++(([ce2_0,ce2_1_0,ce2_1_1,ce2_1_2,ce2_1_3,ce2_1_4,ce2_1_5,ce2_1_6,ce2_1_7,ce2_1_8,ce2_1_9,ce2_1_10,ce2_1_11,ce2_1_12,ce2_1_13,ce2_1_14,ce2_1_15,.slice aa3 N3 qq3,.map none]:List Value)++B1)).toArray,90,(0,0)):=by rw [← D0];exact el_blk (o:=17) OY hA1 (Nat.le_of_ble_eq_true rfl)
   have wD:=TI
   have K5:=K4.trans' wD fun i hi h=>h.elim (fun h=>by omega) .inr
   have hz62:=wD.size
   have hG62:=hG1.updS K5 bK bM
   have YK:=Rdr.stored D0 YJ (by omega) fun h=>by have:=(hok _ h).1;first|omega|exact (hok _ h).2 rfl
   obtain ⟨X62,hX62,hxb62,hXs62⟩:=el_open (n:=19) OZ hA1 rfl
   clear D0
   have W6:RepF (RepS true (d+1)) (szS true (d+1)) fX1_2 (fun b=>(ok b∨w1.heap.size≤b)∧¬ ownB va2 b) w62 (xe2_2) [.slice aa3 N3 qq3]:=by rw [PR,xT];exact RepF.keepS (RepF_row rfl xH hN3 rfl hL3.row hL3.all (fun b hb=>⟨.inr (by omega),fun ho=>by have:=(jG _ ho).2;omega⟩)) (wD.keeps fun b _ hk e=>dL b hk e)
   clear hL3 xH
   have XA:rdL (rdQ (d+1) ver true) (dfP (d+1)) ver true [] s49=([],s49):=rfl
   have WZ:rdL (rdQ (d+1) ver true) (dfP (d+1)) ver true [fX1_2] s45=([xe2_2],s49):=by rw [rdL_st (by decide) LQ,← PR,← Z3,XA]
   have WY:rdL (rdQ (d+1) ver true) (dfP (d+1)) ver true [fX1_1,fX1_2] s43=([xe2_1,xe2_2],s49):=by rw [rdL_any (by decide),← hxe2_1,← MY,WZ]
   have WX:rdL (rdQ (d+1) ver true) (dfP (d+1)) ver true [fX1_0,fX1_1,fX1_2] s41=([xe2_0,xe2_1,xe2_2],s49):=by rw [rdL_any (by decide),← hxe2_0,← MW,WY]
   have LE:rdQ (d+2) ver true fs_X1 s41=(.mk 0 [] false [xe2_0,xe2_1,xe2_2] (rdTags s49).1,(rdTags s49).2):=rdQ_tn (by decide) WX
   repeat ((first|refine qA ?_|apply qB|refine qC ?_|apply qD|apply qE|apply qF|apply qG|apply qH);try simp (disch:=omega) only [go_sem,hxb62,iB,iJ,iK,iL,iA,iD,iC,iF,iG,iI,iH])
   refine (ReadTags_fn w62 YK.1 hrok).mono ?_
   rintro _ w63 ⟨qme2,rfl,TS,hTn,MH,OA⟩
   have P0:=OA.blk_some OZ (by omega)
   have AH:Upd (fun b=>b=R1∨b=rb) w62 w63:=OA.mono (fun _ h=>.inr h)
   have K6:=K5.trans' AH fun i hi h=>h.elim (fun h=>by omega) .inr
   have hz63:=AH.size
   have hG63:=hG1.updS K6 bK bM
   obtain ⟨X63,hX63,hxb63,hXs63⟩:=el_open (n:=19) P0 hA1 rfl
   obtain ⟨s50,Z4⟩:∃ s,s=(rdTags s49).2:=⟨_,rfl⟩
   rw [← Z4] at MH LE
   have hst63_18:j1 * 19+19≤X63.size:=by omega
   repeat (first|simp (disch:=omega) only [go_sem,hxb63,iB,iJ,iK,iL,iA,iD,iC,iF,iG,iI,iH,hst63_18]|refine qA ?_|apply qB|refine qC ?_|apply qD|apply qE|apply qF|apply qG|apply qH)
   generalize D1:wr w63 R1 (j1 * 19+18) [.map qme2] = w64
   have TK:Upd (fun b=>b=R1∨b=rb) w63 w64:=by rw [← D1];exact (Upd.refl _ _).wr _ _ (.inr (.inl rfl))
   have P1:blk w64 R1=some ((A1++(([ce2_0,ce2_1_0,ce2_1_1,ce2_1_2,ce2_1_3,ce2_1_4,ce2_1_5,ce2_1_6,ce2_1_7,ce2_1_8,ce2_1_9,ce2_1_10,ce2_1_11,ce2_1_12,ce2_1_13,ce2_1_14,ce2_1_15,.slice aa3 N3 qq3,.map qme2]:List Value)++B1)).toArray,90,(0,0)):=by rw [← D1];exact el_blk (o:=18) P0 hA1 (Nat.le_of_ble_eq_true rfl)
   have wE:=TK
   have TZ:=K6.trans' wE fun i hi h=>h.elim (fun h=>by omega) .inr
   have hz64:=wE.size
   have hG64:=hG1.updS TZ bK bM
   have YL:=Rdr.stored D1 MH (by omega) fun h=>by have:=(hok _ h).1;first|omega|exact (hok _ h).2 rfl
   obtain ⟨X64,hX64,PJ,hXs64⟩:=el_open (n:=19) P1 hA1 rfl
   clear D1
   have TU:TagsM (fun b=>(ok b∨w1.heap.size≤b)∧¬ ownB va2 b) w64 (.map qme2) (rdTags s49).1:=(TS.weaken fun b _ hk=>hk.elim (fun hk=>⟨.inl hk,fun ho=>by have:=(jG b ho).1;have:=(hok b hk).1;omega⟩) (fun h=>by have h':w62.heap.size≤b:=h;exact ⟨.inr (by omega),fun ho=>by have:=(jG _ ho).2;omega⟩)).keep (wE.keeps fun b _ hk e=>dL b hk e)
   have QV:Upd (fun b=>b=R1∨b=rb) w64 w64:=Upd.refl _ _
   have QU:Upd (fun b=>b=R1∨b=rb) w63 w64:=wE.trans QV
   have IU:Upd (fun b=>b=R1∨b=rb) w62 w64:=AH.trans QU
   have QT:Upd (fun b=>b=R1∨b=rb) w61 w64:=wD.trans IU
   have QS:Upd (fun b=>b=R1∨b=rb) w56 w64:=AG.trans QT
   have IT:Upd (fun b=>b=R1∨b=rb) w55 w64:=mP.trans QS
   have IS:Upd (fun b=>b=R1∨b=rb) w54 w64:=jL.trans IT
   have QR:Upd (fun b=>b=R1∨b=rb) w53 w64:=mO.trans IS
   have hCe2_52:Upd (fun b=>b=R1∨b=rb) w52 w64:=AF.trans QR
   have SI:RepS true (d+2) fs_X1 (fun b=>(ok b∨w1.heap.size≤b)∧¬ ownB va2 b) w64 (.mk 0 [] false [xe2_0,xe2_1,xe2_2] (rdTags s49).1) [ce2_0,ce2_1_0,ce2_1_1,ce2_1_2,ce2_1_3,ce2_1_4,ce2_1_5,ce2_1_6,ce2_1_7,ce2_1_8,ce2_1_9,ce2_1_10,ce2_1_11,ce2_1_12,ce2_1_13,ce2_1_14,ce2_1_15,.slice aa3 N3 qq3,.map qme2]:=RepS.introT (c:=[ce2_0,ce2_1_0,ce2_1_1,ce2_1_2,ce2_1_3,ce2_1_4,ce2_1_5,ce2_1_6,ce2_1_7,ce2_1_8,ce2_1_9,ce2_1_10,ce2_1_11,ce2_1_12,ce2_1_13,ce2_1_14,ce2_1_15,.slice aa3 N3 qq3]) (RepL.cons1 (W4.keepS (IS.keeps fun b _ hk e=>dL b hk e)) (RepL.cons16 (W5.keepS (IT.keeps fun b _ hk e=>dL b hk e)) (RepL.cons1 (W6.keepS (IU.keeps fun b _ hk e=>dL b hk e)) RepL.nil))) TU
   have hrE:(rd1 (rdQ (d+2) ver true) fQ_10.of fQ_10.sub false true) s41=((.mk 0 [] false [xe2_0,xe2_1,xe2_2] (rdTags s49).1),s50):=by rw [show (rd1 (rdQ (d+2) ver true) fQ_10.of fQ_10.sub false true) s41=_ from rd1_part];exact LE
   have hxE:(Rep1 (RepS true (d+2)) fQ_10.of fQ_10.sub) (fun b=>(ok b∨w1.heap.size≤b)∧¬ ownB va2 b) w64 (.mk 0 [] false [xe2_0,xe2_1,xe2_2] (rdTags s49).1) [ce2_0,ce2_1_0,ce2_1_1,ce2_1_2,ce2_1_3,ce2_1_4,ce2_1_5,ce2_1_6,ce2_1_7,ce2_1_8,ce2_1_9,ce2_1_10,ce2_1_11,ce2_1_12,ce2_1_13,ce2_1_14,ce2_1_15,.slice aa3 N3 qq3,.map qme2]:=Rep1_part.2 SI
   repeat ((first|refine qA ?_|apply qB|refine qC ?_|apply qD|apply qE|apply qF|apply qG|apply qH);try simp (disch:=omega) only [go_sem,PJ,iB,iJ,iK,iL,iA,iD,iC,iF,iG,iI,iH])
   have hTk:Upd (fun b=>b=R1∨b=rb) w52 w64:=(((((((AF.trans mO).trans jL).trans mP).trans AG).trans wD).trans AH).trans wE)
   have hL':=hL2.step (Rep1_lay _ _ fun _=>RepS_lay true _ _) hlt2 (kG w64 [ce2_0,ce2_1_0,ce2_1_1,ce2_1_2,ce2_1_3,ce2_1_4,ce2_1_5,ce2_1_6,ce2_1_7,ce2_1_8,ce2_1_9,ce2_1_10,ce2_1_11,ce2_1_12,ce2_1_13,ce2_1_14,ce2_1_15,.slice aa3 N3 qq3,.map qme2] rfl P1) (by rw [hrE];exact hxE) (hTk.mono fun b h=>h.imp (fun e=>⟨_,_,_,eY,e⟩) id) (by rw [hrE];exact YL) (fun h=>hoM rb h (.inr rfl)) (Nat.le_refl _)
   have hij:IntKind.i32.wrap ((j1:Int)+1)=((j1+1:Nat):Int):=by rw [i32_wrap (by omega)];omega
   repeat ((first|refine qA ?_|apply qB|refine qC ?_|apply qD|apply qE|apply qF|apply qG|apply qH);try simp (disch:=omega) only [go_sem,PJ,iB,iJ,iK,iL,iA,iD,iC,iF,iG,iI,iH,hij])
   refine ⟨⟨(by simp (disch:=omega) only [go_sem,Holds_nil,Holds_cons,iB,iJ,iK,iL,iA,iD,iC,iF,iG,iI,iH];exact eY.symm),j1+1,(by simp (disch:=omega) only [go_sem,iB,iJ,iK,iL,iA,iD,iC,iF,iG,iI,iH,hij];all_goals rfl),_,_,_,hL'⟩,?_⟩
   try simp (disch:=omega) only [go_sem,iB,iJ,iK,iL,iA,iD,iC,iF,iG,iI,iH]
   simp only [RowKit.intOf]
   omega
  ·have hjN:j1=N2:=by omega
   rw [hjN] at hL2
   repeat ((first|refine qA ?_|apply qB|refine qC ?_|apply qD|apply qE|apply qF|apply qG|apply qH);try simp (disch:=omega) only [go_sem,bN,cR,cV,cW,cP,cQ,sC,cY])
   exact ⟨(by simp (disch:=omega) only [go_sem,Holds_nil,Holds_cons,bN,cR,cV,cW,cP,cQ,sC,cY]),s41,xs2,css2,hL2⟩
 rintro ρ w65 ⟨⟨eW,kT,kV,kW,kQ,kS,kR,-⟩,s51,xs2,css2,hL2⟩
 have YM:=hL2.rd
 have OB:=hL2.upd
 have hv_65:=OB.blk_some hv_50 (by omega)
 have AI:Upd (fun b=>b=vb∨b=rb) w50 w65:=OB.mono (fun _ h=>.inr h)
 have K7:=AA.trans AI
 have hz65:=AI.size
 have hG65:=hG1.updS K7 bK bM
 have xR:rdF (rdQ (d+2) ver true) ver true fQ_10 s39=(.mk 0 [] (nilS fQ_10 ver y2) xs2 [],s51):=by
  have h:=rdF_listE (pt:=(rdQ (d+2) ver true)) (v:=ver) (flex:=true) (f:=fQ_10) (s:=s39) (xs:=xs2) (e:=s51) rfl (by rw [hy2,← hN2,← HF];exact hL2.done)
  rw [hy2] at h;exact h
 have NA:s51=(rdF (rdQ (d+2) ver true) ver true fQ_10 s39).2:=by rw [xR]
 obtain ⟨aa2,qq2,I1⟩:=hL2.row.shape
 subst I1
 repeat ((first|refine qA ?_|apply qB|refine qC ?_|apply qD|apply qE|apply qF|apply qG|apply qH);try simp (disch:=omega) only [go_sem,hv_65,eW,kT,kV,kW,kQ,kS,kR])
 generalize D2:wr w65 vb 13 [.slice aa2 N2 qq2] = w66
 have TL:Upd (fun b=>b=vb∨b=rb) w65 w66:=by rw [← D2];exact (Upd.refl _ _).wr _ _ (.inr (.inl rfl))
 have hv_66:blk w66 vb=some (#[.int .i16 ver,.pointer none,c_1,zM,.int .i64 (-1),.map none,.int .i32 (rdInt .i32 4 s2).1,.int .i32 (rdInt .i32 4 s3).1,.int .i32 (rdInt .i32 4 s4).1,.int .i8 (rdInt .i8 1 s5).1,.int .i32 (rdInt .i32 4 s6).1,.int .i32 (rdInt .i32 4 s7).1,.slice aa0 N0 qq0,.slice aa2 N2 qq2,zT,.map none],75,(0,0)):=by rw [← D2,blk_wr_eq,hv_65];rfl
 have wF:=TL
 have K8:=K7.trans wF
 have hz66:=wF.size
 have RZ:=hG1.updS K8 bK bM
 have YN:=Rdr.stored D2 YM (by omega) fun h=>by have:=(hok _ h).1;first|omega|exact (hok _ h).2 rfl
 clear D2
 have hf_10:RepF (RepS true (d+2)) (szS true (d+2)) fQ_10 (fun b=>ok b∨w1.heap.size≤b) w66 (x_10) [.slice aa2 N2 qq2]:=by rw [hx_10,xR];exact RepF.keepS (RepF_row rfl xG hN2 rfl hL2.row hL2.all (fun b hb=>.inr (by omega))) (wF.keeps fun b _ hk e=>(hoM b hk) e)
 clear hL2 xG
 have hb_11:(rdL (rdQ (d+2) ver true) (dfP (d+2)) ver true [fQ_11] s51).2=none→FB:=fun h=>hb_10 (by rw [rdL_st (by decide) hh_10,← NA];exact h)
 have hh_11:hasS fQ_11 ver=true:=hasS_t (by show (11:Int)≤ver;omega) (by show (-1:Int) < 0∨ver≤(-1:Int);omega)
 obtain ⟨x_11,hx_11⟩:∃ x,x=(rdF (rdQ (d+2) ver true) ver true fQ_11 s51).1:=⟨_,rfl⟩
 repeat ((first|refine qA ?_|apply qB|refine qC ?_|apply qD|apply qE|apply qF|apply qG|apply qH);try simp (disch:=omega) only [go_sem,hv_66,eW,kT,kV,kW,kQ,kS,kR])
 have hmay:mayS fQ_11 ver=false:=mayS_no (by show (-1:Int) < 0∨ver < (-1:Int);omega)
 have hrd:rdF (rdQ (d+2) ver true) ver true fQ_11 s51=_:=rdF_text rfl hmay
 refine (RCompactString_fn w66 YN.1 hrok RZ.1 hgrb).mono ?_
 rintro _ w67 ⟨rfl,MI,OC⟩
 have hv_67:=OC.blk_some hv_66 (by omega)
 have AJ:Upd (fun b=>b=vb∨b=rb) w66 w67:=OC.mono (fun _ h=>.inr h)
 have K9:=K8.trans AJ
 have hz67:=AJ.size
 have hG67:=hG1.updS K9 bK bM
 have hst:(rdF (rdQ (d+2) ver true) ver true fQ_11 s51).2=(rdStr true s51).2:=by first|(rw [hrd];rfl)|rw [hrd]
 obtain ⟨s52,NB⟩:∃ s,s=(rdF (rdQ (d+2) ver true) ver true fQ_11 s51).2:=⟨_,rfl⟩
 rw [← hst,← NB] at MI
 clear hst
 repeat ((first|refine qA ?_|apply qB|refine qC ?_|apply qD|apply qE|apply qF|apply qG|apply qH);try simp (disch:=omega) only [go_sem,hv_67,eW,kT,kV,kW,kQ,kS,kR])
 generalize D3:wr w67 vb 14 [strV (rdStr true s51).1] = w68
 have TM:Upd (fun b=>b=vb∨b=rb) w67 w68:=by rw [← D3];exact (Upd.refl _ _).wr _ _ (.inr (.inl rfl))
 have hv_68:blk w68 vb=some (#[.int .i16 ver,.pointer none,c_1,zM,.int .i64 (-1),.map none,.int .i32 (rdInt .i32 4 s2).1,.int .i32 (rdInt .i32 4 s3).1,.int .i32 (rdInt .i32 4 s4).1,.int .i8 (rdInt .i8 1 s5).1,.int .i32 (rdInt .i32 4 s6).1,.int .i32 (rdInt .i32 4 s7).1,.slice aa0 N0 qq0,.slice aa2 N2 qq2,strV (rdStr true s51).1,.map none],75,(0,0)):=by rw [← D3,blk_wr_eq,hv_67];rfl
 have AK:=TM
 have KA:=K9.trans AK
 have hz68:=AK.size
 have hG68:=hG1.updS KA bK bM
 have YO:=Rdr.stored D3 MI (by omega) fun h=>by have:=(hok _ h).1;first|omega|exact (hok _ h).2 rfl
 clear D3
 have hf_11:RepF (RepS true (d+2)) (szS true (d+2)) fQ_11 (fun b=>ok b∨w1.heap.size≤b) w68 (x_11) [strV (rdStr true s51).1]:=(RepF_text rfl (by decide)).2 (by rw [hx_11,hrd];rfl)
 clear hrd
 have hl_12:rdL (rdQ (d+2) ver true) (dfP (d+2)) ver true [] s52=([],s52):=rfl
 have hl_11:rdL (rdQ (d+2) ver true) (dfP (d+2)) ver true [fQ_11] s51=([x_11],s52):=by rw [rdL_st (by decide) hh_11,← hx_11,← NB,hl_12]
 have hl_10:rdL (rdQ (d+2) ver true) (dfP (d+2)) ver true [fQ_10,fQ_11] s39=([x_10,x_11],s52):=by rw [rdL_st (by decide) hh_10,← hx_10,← NA,hl_11]
 have hl_9:rdL (rdQ (d+2) ver true) (dfP (d+2)) ver true [fQ_9,fQ_10,fQ_11] s8=([x_9,x_10,x_11],s52):=by rw [rdL_st (by decide) hh_9,← hx_9,← MU,hl_10]
 have hl_8:rdL (rdQ (d+2) ver true) (dfP (d+2)) ver true [fQ_8,fQ_9,fQ_10,fQ_11] s7=([x_8,x_9,x_10,x_11],s52):=by rw [rdL_st (by decide) hh_8,← hx_8,← hs8,hl_9]
 have hl_7:rdL (rdQ (d+2) ver true) (dfP (d+2)) ver true [fQ_7,fQ_8,fQ_9,fQ_10,fQ_11] s6=([x_7,x_8,x_9,x_10,x_11],s52):=by rw [rdL_st (by decide) hh_7,← hx_7,← hs7,hl_8]
 have hl_6:rdL (rdQ (d+2) ver true) (dfP (d+2)) ver true [fQ_6,fQ_7,fQ_8,fQ_9,fQ_10,fQ_11] s5=([x_6,x_7,x_8,x_9,x_10,x_11],s52):=by rw [rdL_st (by decide) hh_6,← hx_6,← hs6,hl_7]
 have hl_5:rdL (rdQ (d+2) ver true) (dfP (d+2)) ver true [fQ_5,fQ_6,fQ_7,fQ_8,fQ_9,fQ_10,fQ_11] s4=([x_5,x_6,x_7,x_8,x_9,x_10,x_11],s52):=by rw [rdL_st (by decide) hh_5,← hx_5,← hs5,hl_6]
 have hl_4:rdL (rdQ (d+2) ver true) (dfP (d+2)) ver true [fQ_4,fQ_5,fQ_6,fQ_7,fQ_8,fQ_9,fQ_10,fQ_11] s3=([x_4,x_5,x_6,x_7,x_8,x_9,x_10,x_11],s52):=by rw [rdL_st (by decide) hh_4,← hx_4,← hs4,hl_5]
 have hl_3:rdL (rdQ (d+2) ver true) (dfP (d+2)) ver true [fQ_3,fQ_4,fQ_5,fQ_6,fQ_7,fQ_8,fQ_9,fQ_10,fQ_11] s2=([x_3,x_4,x_5,x_6,x_7,x_8,x_9,x_10,x_11],s52):=by rw [rdL_st (by decide) hh_3,← hx_3,← hs3,hl_4]
 have hl_2:rdL (rdQ (d+2) ver true) (dfP (d+2)) ver true [fQ_2,fQ_3,fQ_4,fQ_5,fQ_6,fQ_7,fQ_8,fQ_9,fQ_10,fQ_11] s2=([x_2,x_3,x_4,x_5,x_6,x_7,x_8,x_9,x_10,x_11],s52):=by rw [rdL_tg (by decide),← hx_2,hl_3]
 have hl_1:rdL (rdQ (d+2) ver true) (dfP (d+2)) ver true [fQ_1,fQ_2,fQ_3,fQ_4,fQ_5,fQ_6,fQ_7,fQ_8,fQ_9,fQ_10,fQ_11] s0=([x_1,x_2,x_3,x_4,x_5,x_6,x_7,x_8,x_9,x_10,x_11],s52):=by rw [rdL_any (by decide),← hx_1,← hs2,hl_2]
 have hl_0:rdL (rdQ (d+2) ver true) (dfP (d+2)) ver true [fQ_0,fQ_1,fQ_2,fQ_3,fQ_4,fQ_5,fQ_6,fQ_7,fQ_8,fQ_9,fQ_10,fQ_11] s0=([x_0,x_1,x_2,x_3,x_4,x_5,x_6,x_7,x_8,x_9,x_10,x_11],s52):=by rw [rdL_tg (by decide),← hx_0,hl_1]
 repeat ((first|refine qA ?_|apply qB|refine qC ?_|apply qD|apply qE|apply qF|apply qG|apply qH);try simp (disch:=omega) only [go_sem,hv_68,eW,kT,kV,kW,kQ,kS,kR])
 refine (RUvarint_fn w68 YO.1 hrok).mono ?_
 rintro _ w69 ⟨rfl,MJ,OD⟩
 have hv_69:=OD.blk_some hv_68 (by omega)
 have AL:Upd (fun b=>b=vb∨b=rb) w68 w69:=OD.mono (fun _ h=>.inr h)
 have FC:=KA.trans AL
 have hz69:=AL.size
 have hG69:=hG1.updS FC bK bM
 have hNl:=rdUv_lt s52
 obtain ⟨s53,NC⟩:∃ s,s=(rdUv s52).2:=⟨_,rfl⟩
 rw [← NC] at MJ
 obtain ⟨NT,hNT⟩:∃ N,N=(rdUv s52).1:=⟨_,rfl⟩
 rw [← hNT] at hNl
 try rw [← hNT]
 have hCt_69:Upd (fun b=>b=vb∨b=rb) w69 w69:=Upd.refl _ _
 have hCt_68:Upd (fun b=>b=vb∨b=rb) w68 w69:=AL.trans hCt_69
 have hCt_67:Upd (fun b=>b=vb∨b=rb) w67 w69:=AK.trans hCt_68
 have hCt_66:Upd (fun b=>b=vb∨b=rb) w66 w69:=AJ.trans hCt_67
 have hCt_65:Upd (fun b=>b=vb∨b=rb) w65 w69:=wF.trans hCt_66
 have hCt_50:Upd (fun b=>b=vb∨b=rb) w50 w69:=AI.trans hCt_65
 have hCt_49:Upd (fun b=>b=vb∨b=rb) w49 w69:=AE.trans hCt_50
 have hCt_48:Upd (fun b=>b=vb∨b=rb) w48 w69:=wC.trans hCt_49
 have hCt_15:Upd (fun b=>b=vb∨b=rb) w15 w69:=lO.trans hCt_48
 have hCt_14:Upd (fun b=>b=vb∨b=rb) w14 w69:=lK.trans hCt_15
 have hCt_13:Upd (fun b=>b=vb∨b=rb) w13 w69:=AB.trans hCt_14
 have hCt_12:Upd (fun b=>b=vb∨b=rb) w12 w69:=pN.trans hCt_13
 have hCt_11:Upd (fun b=>b=vb∨b=rb) w11 w69:=fG.trans hCt_12
 have hCt_10:Upd (fun b=>b=vb∨b=rb) w10 w69:=eH.trans hCt_11
 have hCt_9:Upd (fun b=>b=vb∨b=rb) w9 w69:=eF.trans hCt_10
 have hCt_8:Upd (fun b=>b=vb∨b=rb) w8 w69:=hV9.trans hCt_9
 have hCt_7:Upd (fun b=>b=vb∨b=rb) w7 w69:=hV8.trans hCt_8
 have hCt_6:Upd (fun b=>b=vb∨b=rb) w6 w69:=hV7.trans hCt_7
 have hCt_5:Upd (fun b=>b=vb∨b=rb) w5 w69:=hV6.trans hCt_6
 have hCt_4:Upd (fun b=>b=vb∨b=rb) w4 w69:=hV5.trans hCt_5
 have hCt_3:Upd (fun b=>b=vb∨b=rb) w3 w69:=hV4.trans hCt_4
 have hCt_2:Upd (fun b=>b=vb∨b=rb) w2 w69:=hV3.trans hCt_3
 have hCt_1:Upd (fun b=>b=vb∨b=rb) w1 w69:=hV2.trans hCt_2
 have hgt_0:RepF (RepS true (d+2)) (szS true (d+2)) fQ_0 (fun b=>(ok b∨w1.heap.size≤b)∧b < w69.heap.size) w69 x_0 [.pointer none]:=RepF.weakenS (hf_0.keepS (hCt_1.keeps fun b _ hk e=>(hoM b hk) e)) fun b hb hk=>⟨hk,hb⟩
 have hgt_1:RepF (RepS true (d+2)) (szS true (d+2)) fQ_1 (fun b=>(ok b∨w1.heap.size≤b)∧b < w69.heap.size) w69 x_1 [c_1]:=RepF.weakenS (hf_1.keepS (hCt_2.keeps fun b _ hk e=>(hoM b hk) e)) fun b hb hk=>⟨hk,hb⟩
 have hgt_2:RepF (RepS true (d+2)) (szS true (d+2)) fQ_2 (fun b=>(ok b∨w1.heap.size≤b)∧b < w69.heap.size) w69 x_2 [zM,.int .i64 (-1),.map none]:=RepF.weakenS (hf_2.keepS (hCt_2.keeps fun b _ hk e=>(hoM b hk) e)) fun b hb hk=>⟨hk,hb⟩
 have hgt_3:RepF (RepS true (d+2)) (szS true (d+2)) fQ_3 (fun b=>(ok b∨w1.heap.size≤b)∧b < w69.heap.size) w69 x_3 [.int .i32 (rdInt .i32 4 s2).1]:=RepF.weakenS (hf_3.keepS (hCt_4.keeps fun b _ hk e=>(hoM b hk) e)) fun b hb hk=>⟨hk,hb⟩
 have hgt_4:RepF (RepS true (d+2)) (szS true (d+2)) fQ_4 (fun b=>(ok b∨w1.heap.size≤b)∧b < w69.heap.size) w69 x_4 [.int .i32 (rdInt .i32 4 s3).1]:=RepF.weakenS (hf_4.keepS (hCt_6.keeps fun b _ hk e=>(hoM b hk) e)) fun b hb hk=>⟨hk,hb⟩
 have hgt_5:RepF (RepS true (d+2)) (szS true (d+2)) fQ_5 (fun b=>(ok b∨w1.heap.size≤b)∧b < w69.heap.size) w69 x_5 [.int .i32 (rdInt .i32 4 s4).1]:=RepF.weakenS (hf_5.keepS (hCt_8.keeps fun b _ hk e=>(hoM b hk) e)) fun b hb hk=>⟨hk,hb⟩
 have hgt_6:RepF (RepS true (d+2)) (szS true (d+2)) fQ_6 (fun b=>(ok b∨w1.heap.size≤b)∧b < w69.heap.size) w69 x_6 [.int .i8 (rdInt .i8 1 s5).1]:=RepF.weakenS (hf_6.keepS (hCt_10.keeps fun b _ hk e=>(hoM b hk) e)) fun b hb hk=>⟨hk,hb⟩
 have hgt_7:RepF (RepS true (d+2)) (szS true (d+2)) fQ_7 (fun b=>(ok b∨w1.heap.size≤b)∧b < w69.heap.size) w69 x_7 [.int .i32 (rdInt .i32 4 s6).1]:=RepF.weakenS (hf_7.keepS (hCt_12.keeps fun b _ hk e=>(hoM b hk) e)) fun b hb hk=>⟨hk,hb⟩
 have hgt_8:RepF (RepS true (d+2)) (szS true (d+2)) fQ_8 (fun b=>(ok b∨w1.heap.size≤b)∧b < w69.heap.size) w69 x_8 [.int .i32 (rdInt .i32 4 s7).1]:=RepF.weakenS (hf_8.keepS (hCt_14.keeps fun b _ hk e=>(hoM b hk) e)) fun b hb hk=>⟨hk,hb⟩
 have hgt_9:RepF (RepS true (d+2)) (szS true (d+2)) fQ_9 (fun b=>(ok b∨w1.heap.size≤b)∧b < w69.heap.size) w69 x_9 [.slice aa0 N0 qq0]:=RepF.weakenS (hf_9.keepS (hCt_49.keeps fun b _ hk e=>(hoM b hk) e)) fun b hb hk=>⟨hk,hb⟩
 have hgt_10:RepF (RepS true (d+2)) (szS true (d+2)) fQ_10 (fun b=>(ok b∨w1.heap.size≤b)∧b < w69.heap.size) w69 x_10 [.slice aa2 N2 qq2]:=RepF.weakenS (hf_10.keepS (hCt_66.keeps fun b _ hk e=>(hoM b hk) e)) fun b hb hk=>⟨hk,hb⟩
 have hgt_11:RepF (RepS true (d+2)) (szS true (d+2)) fQ_11 (fun b=>(ok b∨w1.heap.size≤b)∧b < w69.heap.size) w69 x_11 [strV (rdStr true s51).1]:=RepF.weakenS (hf_11.keepS (hCt_68.keeps fun b _ hk e=>(hoM b hk) e)) fun b hb hk=>⟨hk,hb⟩
 repeat ((first|refine qA ?_|apply qB|refine qC ?_|apply qD|apply qE|apply qF|apply qG|apply qH);try simp (disch:=omega) only [go_sem,hv_69,eW,kT,kV,kW,kQ,kS,kR])
 refine W.exitRJ 11 (EndQ [(2,zB),(7,.pointer (some ⟨rb,0,none⟩)),(8,.int .i16 ver),(9,.bool true),(10,.pointer (some ⟨vb,0,none⟩))] (fun w'=>∃ (u:List TagD) (st:St) (qm:Option Nat) (y_0:Tree) (v_1:Value) (y_2:Tree) (v_3:Value) (v_4:Value) (v_5:Value),rdTg (rdQ (d+2) ver true) ver true fs_Q 0 [y_0,x_1,y_2,x_3,x_4,x_5,x_6,x_7,x_8,x_9,x_10,x_11] u st=rdTgs (rdQ (d+2) ver true) ver true fs_Q [x_0,x_1,x_2,x_3,x_4,x_5,x_6,x_7,x_8,x_9,x_10,x_11] s52∧blk w' vb=some (#[.int .i16 ver,v_1,c_1,v_3,v_4,v_5,.int .i32 (rdInt .i32 4 s2).1,.int .i32 (rdInt .i32 4 s3).1,.int .i32 (rdInt .i32 4 s4).1,.int .i8 (rdInt .i8 1 s5).1,.int .i32 (rdInt .i32 4 s6).1,.int .i32 (rdInt .i32 4 s7).1,.slice aa0 N0 qq0,.slice aa2 N2 qq2,strV (rdStr true s51).1,.map qm],75,(0,0))∧RepF (RepS true (d+2)) (szS true (d+2)) fQ_0 (fun b=>(ok b∨w1.heap.size≤b)∧b < w'.heap.size∧¬ qm=some b) w' y_0 [v_1]∧RepF (RepS true (d+2)) (szS true (d+2)) fQ_2 (fun b=>(ok b∨w1.heap.size≤b)∧b < w'.heap.size∧¬ qm=some b) w' y_2 [v_3,v_4,v_5]∧TagsG ok w69.heap.size w' (.map qm) u∧(u.map (·.1)).Nodup∧(Rdr RT ok w' rb st∧NN w' rb st)∧Upd (fun b=>b=vb∨b=rb) w69 w')) (W.loop (LoopT [(2,zB),(7,.pointer (some ⟨rb,0,none⟩)),(8,.int .i16 ver),(9,.bool true),(10,.pointer (some ⟨vb,0,none⟩))] 60 (fun m w'=>∃ (u:List TagD) (st:St) (qm:Option Nat) (y_0:Tree) (v_1:Value) (y_2:Tree) (v_3:Value) (v_4:Value) (v_5:Value),m≤NT∧rdTg (rdQ (d+2) ver true) ver true fs_Q m [y_0,x_1,y_2,x_3,x_4,x_5,x_6,x_7,x_8,x_9,x_10,x_11] u st=rdTgs (rdQ (d+2) ver true) ver true fs_Q [x_0,x_1,x_2,x_3,x_4,x_5,x_6,x_7,x_8,x_9,x_10,x_11] s52∧blk w' vb=some (#[.int .i16 ver,v_1,c_1,v_3,v_4,v_5,.int .i32 (rdInt .i32 4 s2).1,.int .i32 (rdInt .i32 4 s3).1,.int .i32 (rdInt .i32 4 s4).1,.int .i8 (rdInt .i8 1 s5).1,.int .i32 (rdInt .i32 4 s6).1,.int .i32 (rdInt .i32 4 s7).1,.slice aa0 N0 qq0,.slice aa2 N2 qq2,strV (rdStr true s51).1,.map qm],75,(0,0))∧RepF (RepS true (d+2)) (szS true (d+2)) fQ_0 (fun b=>(ok b∨w1.heap.size≤b)∧b < w'.heap.size∧¬ qm=some b) w' y_0 [v_1]∧RepF (RepS true (d+2)) (szS true (d+2)) fQ_2 (fun b=>(ok b∨w1.heap.size≤b)∧b < w'.heap.size∧¬ qm=some b) w' y_2 [v_3,v_4,v_5]∧TagsG ok w69.heap.size w' (.map qm) u∧(u.map (·.1)).Nodup∧(Rdr RT ok w' rb st∧NN w' rb st)∧Upd (fun b=>b=vb∨b=rb) w69 w')) (fun ρ _=>(RowKit.intOf (ρ 60)).toNat) ?_ ?_) ?_
 ·exact ⟨(by simp (disch:=omega) only [go_sem,Holds_nil,Holds_cons,eW,kT,kV,kW,kQ,kS,kR]),NT,(by simp (disch:=omega) only [go_sem,eW,kT,kV,kW,kQ,kS,kR];all_goals rfl),[],s53,none,x_0,.pointer none,x_2,zM,.int .i64 (-1),.map none,Nat.le_refl _,(by unfold rdTgs;rw [← hNT,← NC]),hv_69,RepF.weakenS hgt_0 (fun b hb hk=>⟨hk.1,hb,fun h=>by cases h⟩),RepF.weakenS hgt_2 (fun b hb hk=>⟨hk.1,hb,fun h=>by cases h⟩),TagsG.start _ _ _,by simp,MJ,Upd.refl _ _⟩
 ·rintro ρ w70 ⟨⟨hrt_2,hrt_7,hrt_8,hrt_9,hrt_10,-⟩,m,hri,u,s54,qm,y_0,v_1,y_2,v_3,v_4,v_5,hmN,hE,hv_70,hfT_0,hfT_2,hTG,hnd,MK,tT⟩
  have FD:=FC.trans tT
  have hz70:=FD.size
  have hza70:=tT.size
  have hG70:=hG1.updS FD bK bM
  have hmap:∀ b,qm=some b→b < w70.heap.size∧w69.heap.size≤b:=fun b h=>hTG.lt h
  by_cases hm0:m=0
  ·subst hm0
   have hc:¬ (0:Int) < ((0:Nat):Int):=by omega
   repeat ((first|refine qA ?_|apply qB|refine qC ?_|apply qD|apply qE|apply qF|apply qG|apply qH);try simp (disch:=omega) only [go_sem,hv_70,hrt_2,hrt_7,hrt_8,hrt_9,hrt_10,hri])
   exact ⟨(by simp (disch:=omega) only [go_sem,Holds_nil,Holds_cons,hrt_2,hrt_7,hrt_8,hrt_9,hrt_10,hri]),u,s54,qm,y_0,v_1,y_2,v_3,v_4,v_5,hE,hv_70,hfT_0,hfT_2,hTG,hnd,MK,tT⟩
  ·obtain ⟨m,rfl⟩:∃ q,m=q+1:=⟨m - 1,by omega⟩
   have hw1:IntKind.u32.wrap (((m+1:Nat):Int) - 1)=((m:Nat):Int):=by rw [u32_wrap (by omega)];omega
   repeat ((first|refine qA ?_|apply qB|refine qC ?_|apply qD|apply qE|apply qF|apply qG|apply qH);try simp (disch:=omega) only [go_sem,hv_70,hrt_2,hrt_7,hrt_8,hrt_9,hrt_10,hri])
   refine (RUvarint_fn w70 MK.1 hrok).mono ?_
   rintro _ w71 ⟨rfl,xO,OE⟩
   have hv_71:=OE.blk_some hv_70 (by omega)
   have wG:Upd (fun b=>b=vb∨b=rb) w70 w71:=OE.mono (fun _ h=>.inr h)
   have FE:=FD.trans wG
   have hz71:=wG.size
   have hG71:=hG1.updS FE bK bM
   have hKl:=rdUv_lt s54
   obtain ⟨s55,oG⟩:∃ s,s=(rdUv s54).2:=⟨_,rfl⟩
   rw [← oG] at xO
   obtain ⟨K,hK⟩:∃ N,N=(rdUv s54).1:=⟨_,rfl⟩
   rw [← hK] at hKl
   try rw [← hK]
   by_cases hk0:K=0
   ·have hkI:(K:Int)=0:=by omega
    repeat ((first|refine qA ?_|apply qB|refine qC ?_|apply qD|apply qE|apply qF|apply qG|apply qH);try simp (disch:=omega) only [go_sem,hv_71,hrt_2,hrt_7,hrt_8,hrt_9,hrt_10,hri,hkI])
    refine (RUvarint_fn w71 xO.1 hrok).mono ?_
    rintro _ w72 ⟨rfl,kO,oM⟩
    have hv_72:=oM.blk_some hv_71 (by omega)
    have pQ:Upd (fun b=>b=vb∨b=rb) w71 w72:=oM.mono (fun _ h=>.inr h)
    have vY:=FE.trans pQ
    have hz72:=pQ.size
    have S0:=hG1.updS vY bK bM
    have hSl:=rdUv_lt s55
    obtain ⟨s56,ND⟩:∃ s,s=(rdUv s55).2:=⟨_,rfl⟩
    rw [← ND] at kO
    obtain ⟨SL,hSL⟩:∃ N,N=(rdUv s55).1:=⟨_,rfl⟩
    rw [← hSL] at hSl
    try rw [← hSL]
    have e64:IntKind.i64.wrap (SL:Int)=SL:=i64_wrap (by omega)
    repeat (first|simp (disch:=omega) only [go_sem,hv_72,hrt_2,hrt_7,hrt_8,hrt_9,hrt_10,hri,e64]|refine qA ?_|apply qB|refine qC ?_|apply qD|apply qE|apply qF|apply qG|apply qH)
    refine (Span_fn w72 kO.1 hrok _).mono ?_
    rintro r73 w73 ⟨hBs,_,_,hqx,hqy,oN⟩
    have kP:=And.intro hqx (hqy (.inl kO.2))
    clear hqx hqy
    have hv_73:=oN.blk_some hv_72 (by omega)
    have pR:Upd (fun b=>b=vb∨b=rb) w72 w73:=oN.mono (fun _ h=>.inr h)
    have vZ:=vY.trans pR
    have hz73:=pR.size
    have S1:=hG1.updS vZ bK bM
    obtain ⟨s57,HH⟩:∃ s,s=(rdSpan (SL:Int) s56).2:=⟨_,rfl⟩
    rw [← HH] at kP
    obtain ⟨SP,hSP⟩:∃ x,x=(rdSpan (SL:Int) s56).1:=⟨_,rfl⟩
    rw [← hSP] at hBs
    rw [ND] at hSP HH
    obtain ⟨spa,spc,rfl,_⟩:=hBs.shape
    repeat ((first|refine qA ?_|apply qB|refine qC ?_|apply qD|apply qE|apply qF|apply qG|apply qH);try simp (disch:=omega) only [go_sem,hv_73,hrt_2,hrt_7,hrt_8,hrt_9,hrt_10,hri,e64])
    obtain ⟨rc0,hrc⟩:∃ r,r=w73.heap.size:=⟨_,rfl⟩
    have hEi:Ext w73 (wr (w73.alloc (.cells #[zS,zB] 104)) w73.heap.size 0 [.slice spa SP.length spc,zB]):=(Upd.alloc (Upd.refl _ _) _).wr _ _ (.inl (Nat.le_refl _))
    have hzi:(wr (w73.alloc (.cells #[zS,zB] 104)) w73.heap.size 0 [.slice spa SP.length spc,zB]).heap.size=w73.heap.size+1:=by rw [size_wr,World.size_alloc]
    have hRi:Rdr RT ok (wr (w73.alloc (.cells #[zS,zB] 104)) w73.heap.size 0 [.slice spa SP.length spc,zB]) w73.heap.size (some SP):=Rdr.good (v:=.slice spa SP.length spc) (by simp (disch:=omega) only [go_sem]) (hBs.keep (hEi.keeps _))
    have hv_74:=hEi.blk_some hv_73 id
    have hqo:=And.intro (kP.1.upd hEi (fun h=>h) (fun _ _ _ h=>h)) (kP.2.upd hEi fun h=>h)
    repeat ((first|refine qA ?_|apply qB|refine qC ?_|apply qD|apply qE|apply qF|apply qG|apply qH);try simp (disch:=omega) only [go_sem,hv_73,hrt_2,hrt_7,hrt_8,hrt_9,hrt_10,hri,hkI])
    generalize (wr (w73.alloc (.cells #[zS,zB] 104)) w73.heap.size 0 [.slice spa SP.length spc,zB])=w74 at *
    rw [← hrc] at hRi
    try rw [← hrc]
    have pS:Upd (fun b=>b=vb∨b=rb) w73 w74:=hEi.mono fun _ h=>h.elim
    have wA:=vZ.trans pS
    have hz74:=pS.size
    have k9:=hG1.updS wA bK bM
    have hQo:Upd (fun b=>b=vb∨b=rb) w70 w74:=(((wG.trans pQ).trans pR).trans pS)
    have hzo:=hQo.size
    have hrokc:¬ ok rc0:=fun h=>by have:=(hok _ h).1;omega
    have hgrbc:¬ 0=rc0:=by omega
    have fI:¬ (0=vb∨0=rc0):=fun h=>h.elim (fun h=>hgv.1 h) fun h=>by omega
    have fJ:¬ (1=vb∨1=rc0):=fun h=>h.elim (fun h=>hgv.2 h) fun h=>by omega
    have hoMc:∀ b,(ok b∨w74.heap.size≤b)→¬ (b=vb∨b=rc0):=fun b hk h=>by
     rcases hk with hk|hk
     ·have:=hok b hk;rcases h with h|h<;>omega
     ·rcases h with h|h<;>omega
    have hbasec:Upd (fun b=>b=vb) w w74:=hbase.trans' wA fun i hi h=>h.elim id fun h=>by omega
    have hUc:Upd (fun b=>b=vb∨b=rc0) w74 w74:=Upd.refl _ _
    have hqc:Rdr RT ok w74 rc0 (some SP):=hRi
    obtain ⟨s58,HI⟩:∃ s:St,s=some SP:=⟨_,rfl⟩
    rw [← HI] at hqc
    have hbT:(rdF (rdQ (d+2) ver true) ver true fQ_0 s58).2=none→FB:=fun h=>hbP (rdQ_badT hl_0 (by rw [← hE];exact rdTg_bad (hK.symm.trans hk0) rfl (by rw [← oG,← hSL,← hSP,← HI];exact h)))
    have hht0_0:hasS fQ_0 ver=true:=hasS_t (by show (0:Int)≤ver;omega) (by show (-1:Int) < 0∨ver≤(-1:Int);omega)
    obtain ⟨xt0_0,PX⟩:∃ x,x=(rdF (rdQ (d+2) ver true) ver true fQ_0 s58).1:=⟨_,rfl⟩
    repeat ((first|refine qA ?_|apply qB|refine qC ?_|apply qD|apply qE|apply qF|apply qG|apply qH);try simp (disch:=omega) only [go_sem,hv_74,hrt_2,hrt_7,hrt_8,hrt_9,hrt_10,hri])
    have hmay:mayS fQ_0 ver=true:=mayS_yes (by decide) (by show (0:Int)≤ver;omega)
    have hrd:rdF (rdQ (d+2) ver true) ver true fQ_0 s58=_:=rdF_ptr rfl hmay
    refine (RCompactNullableString_fn w74 hqc hrokc k9.1 hgrbc).mono ?_
    rintro r75 w75 ⟨MD,uC,yE⟩
    obtain ⟨ap75,rfl⟩:=MD.shape
    have hv_75:=yE.blk_some hv_74 (by omega)
    have lB:Upd (fun b=>b=vb∨b=rc0) w74 w75:=yE.mono (fun _ h=>.inr h)
    have mL:=hUc.trans lB
    have QC:=lB.size
    have zL:=k9.updS mL fI fJ
    have hst:(rdF (rdQ (d+2) ver true) ver true fQ_0 s58).2=(rdNStr true s58).2:=by first|(rw [hrd];rfl)|rw [hrd]
    obtain ⟨s59,NE⟩:∃ s,s=(rdF (rdQ (d+2) ver true) ver true fQ_0 s58).2:=⟨_,rfl⟩
    rw [← hst,← NE] at uC
    clear hst
    repeat ((first|refine qA ?_|apply qB|refine qC ?_|apply qD|apply qE|apply qF|apply qG|apply qH);try simp (disch:=omega) only [go_sem,hv_75,hrt_2,hrt_7,hrt_8,hrt_9,hrt_10,hri])
    generalize D4:wr w75 vb 1 [.pointer ap75] = w76
    have TN:Upd (fun b=>b=vb∨b=rc0) w75 w76:=by rw [← D4];exact (Upd.refl _ _).wr _ _ (.inr (.inl rfl))
    have hv_76:blk w76 vb=some (#[.int .i16 ver,.pointer ap75,c_1,v_3,v_4,v_5,.int .i32 (rdInt .i32 4 s2).1,.int .i32 (rdInt .i32 4 s3).1,.int .i32 (rdInt .i32 4 s4).1,.int .i8 (rdInt .i8 1 s5).1,.int .i32 (rdInt .i32 4 s6).1,.int .i32 (rdInt .i32 4 s7).1,.slice aa0 N0 qq0,.slice aa2 N2 qq2,strV (rdStr true s51).1,.map qm],75,(0,0)):=by rw [← D4,blk_wr_eq,hv_75];rfl
    have pT:=TN
    have mM:=mL.trans pT
    have hz76:=pT.size
    have JH:=k9.updS mM fI fJ
    have C0:=Rdr.stored D4 uC (by omega) fun h=>by have:=(hok _ h).1;first|omega|exact (hok _ h).2 rfl
    clear D4
    have WE:RepF (RepS true (d+2)) (szS true (d+2)) fQ_0 (fun b=>ok b∨w74.heap.size≤b) w76 (xt0_0) [.pointer ap75]:=(RepF_ptr rfl (by decide)).2 ⟨_,rfl,by rw [PX,hrd];exact (MD.weaken fun b _ hk=>by have hk':w74.heap.size≤b:=hk;exact .inr (by omega)).keep (pT.keeps fun b _ hk e=>(hoMc b hk) e)⟩
    clear hrd
    repeat ((first|refine qA ?_|apply qB|refine qC ?_|apply qD|apply qE|apply qF|apply qG|apply qH);try simp (disch:=omega) only [go_sem,hv_76,hrt_2,hrt_7,hrt_8,hrt_9,hrt_10,hri])
    refine (RComplete_fn w76 C0.1 JH.2).mono ?_
    rintro _ wz ⟨rfl,hez⟩
    rw [hez]
    clear hez wz
    have hxF:rdF (rdQ (d+2) ver true) ver true fQ_0 s58=(xt0_0,s59):=by rw [PX,NE]
    by_cases hsz:s59=none
    ·rw [errV_none hsz]
     obtain ⟨eT,ep,hevE⟩:=hev
     rw [hevE]
     repeat (first|simp (disch:=omega) only [go_sem,hv_76,hrt_2,hrt_7,hrt_8,hrt_9,hrt_10,hri]|refine qA ?_|apply qB|refine qC ?_|apply qD|apply qE|apply qF|apply qG|apply qH)
     rw [← hevE]
     exact ReadQ.bad (Eq.mp hFB (hbT (by rw [hxF];exact hsz))) (hbasec.trans' mM fun i hi h=>h.elim id fun h=>by omega)
    have hen:errV ev s59 = .nilIface:=errV_some hsz
    rw [hen]
    repeat (first|simp (disch:=omega) only [go_sem,hv_76,hrt_2,hrt_7,hrt_8,hrt_9,hrt_10,hri,hw1]|refine qA ?_|apply qB|refine qC ?_|apply qD|apply qE|apply qF|apply qG|apply qH)
    have hRk:Upd (fun b=>b=vb∨b=rb) w70 w76:=hQo.trans' mM fun i hi h=>h.elim .inl fun h=>by omega
    have hzr:=hRk.size
    have hE2:rdTg (rdQ (d+2) ver true) ver true fs_Q m [xt0_0,x_1,y_2,x_3,x_4,x_5,x_6,x_7,x_8,x_9,x_10,x_11] u s57=rdTgs (rdQ (d+2) ver true) ver true fs_Q [x_0,x_1,x_2,x_3,x_4,x_5,x_6,x_7,x_8,x_9,x_10,x_11] s52:=by
     have h:=(rdTg_known (k:=0) (hK.symm.trans hk0) rfl (by rw [← oG,← hSL,← hSP,← HI];exact hxF) hsz).symm.trans hE
     rw [← oG,← hSL,← HH] at h;exact h
    refine ⟨⟨(by simp (disch:=omega) only [go_sem,Holds_nil,Holds_cons,hrt_2,hrt_7,hrt_8,hrt_9,hrt_10,hri]),m,(by simp (disch:=omega) only [go_sem,hrt_2,hrt_7,hrt_8,hrt_9,hrt_10,hri,hw1];all_goals rfl),u,s57,qm,xt0_0,.pointer ap75,y_2,v_3,v_4,v_5,by omega,hE2,hv_76,RepF.weakenS WE (fun b hb hk=>⟨hk.imp id fun h=>by omega,hb,fun h=>by have:=hmap b h;rcases hk with hk|hk<;>first|omega|(have:=(hok b hk).1;omega)⟩),RepF.weakenS (hfT_2.keepS (hRk.keeps fun b _ hk e=>(hoM b hk.1) e)) (fun b hb hk=>⟨hk.1,hb,hk.2.2⟩),hTG.keep (fun b hb hk=>hRk.keep b hb fun e=>by rcases hk with hk|hk<;>rcases e with e|e<;>first|omega|(have:=hok b hk.1;omega)),hnd,⟨hqo.1.upd mM (by omega) (fun b _ hk e=>by have:=hok b hk;omega),hqo.2.upd mM (by omega)⟩,tT.trans hRk⟩,?_⟩
    try simp (disch:=omega) only [go_sem,hrt_2,hrt_7,hrt_8,hrt_9,hrt_10,hri]
    simp only [RowKit.intOf]
    omega
   ·have GH:¬ (K:Int)=0:=by omega
    by_cases hk1:K=1
    ·have hkI:(K:Int)=1:=by omega
     repeat ((first|refine qA ?_|apply qB|refine qC ?_|apply qD|apply qE|apply qF|apply qG|apply qH);try simp (disch:=omega) only [go_sem,hv_71,hrt_2,hrt_7,hrt_8,hrt_9,hrt_10,hri,hkI])
     refine (RUvarint_fn w71 xO.1 hrok).mono ?_
     rintro _ w72 ⟨rfl,kO,oM⟩
     have hv_72:=oM.blk_some hv_71 (by omega)
     have pQ:Upd (fun b=>b=vb∨b=rb) w71 w72:=oM.mono (fun _ h=>.inr h)
     have vY:=FE.trans pQ
     have hz72:=pQ.size
     have S0:=hG1.updS vY bK bM
     have hSl:=rdUv_lt s55
     obtain ⟨s60,NF⟩:∃ s,s=(rdUv s55).2:=⟨_,rfl⟩
     rw [← NF] at kO
     obtain ⟨SL,hSL⟩:∃ N,N=(rdUv s55).1:=⟨_,rfl⟩
     rw [← hSL] at hSl
     try rw [← hSL]
     have e64:IntKind.i64.wrap (SL:Int)=SL:=i64_wrap (by omega)
     repeat (first|simp (disch:=omega) only [go_sem,hv_72,hrt_2,hrt_7,hrt_8,hrt_9,hrt_10,hri,e64]|refine qA ?_|apply qB|refine qC ?_|apply qD|apply qE|apply qF|apply qG|apply qH)
     refine (Span_fn w72 kO.1 hrok _).mono ?_
     rintro r73 w73 ⟨hBs,_,_,hqx,hqy,oN⟩
     have kP:=And.intro hqx (hqy (.inl kO.2))
     clear hqx hqy
     have hv_73:=oN.blk_some hv_72 (by omega)
     have pR:Upd (fun b=>b=vb∨b=rb) w72 w73:=oN.mono (fun _ h=>.inr h)
     have vZ:=vY.trans pR
     have hz73:=pR.size
     have S1:=hG1.updS vZ bK bM
     obtain ⟨s61,HJ⟩:∃ s,s=(rdSpan (SL:Int) s60).2:=⟨_,rfl⟩
     rw [← HJ] at kP
     obtain ⟨SP,hSP⟩:∃ x,x=(rdSpan (SL:Int) s60).1:=⟨_,rfl⟩
     rw [← hSP] at hBs
     rw [NF] at hSP HJ
     obtain ⟨spa,spc,rfl,_⟩:=hBs.shape
     repeat ((first|refine qA ?_|apply qB|refine qC ?_|apply qD|apply qE|apply qF|apply qG|apply qH);try simp (disch:=omega) only [go_sem,hv_73,hrt_2,hrt_7,hrt_8,hrt_9,hrt_10,hri,e64])
     obtain ⟨rc1,hrc⟩:∃ r,r=w73.heap.size:=⟨_,rfl⟩
     have hEi:Ext w73 (wr (w73.alloc (.cells #[zS,zB] 104)) w73.heap.size 0 [.slice spa SP.length spc,zB]):=(Upd.alloc (Upd.refl _ _) _).wr _ _ (.inl (Nat.le_refl _))
     have hzi:(wr (w73.alloc (.cells #[zS,zB] 104)) w73.heap.size 0 [.slice spa SP.length spc,zB]).heap.size=w73.heap.size+1:=by rw [size_wr,World.size_alloc]
     have hRi:Rdr RT ok (wr (w73.alloc (.cells #[zS,zB] 104)) w73.heap.size 0 [.slice spa SP.length spc,zB]) w73.heap.size (some SP):=Rdr.good (v:=.slice spa SP.length spc) (by simp (disch:=omega) only [go_sem]) (hBs.keep (hEi.keeps _))
     have hv_74:=hEi.blk_some hv_73 id
     have hqo:=And.intro (kP.1.upd hEi (fun h=>h) (fun _ _ _ h=>h)) (kP.2.upd hEi fun h=>h)
     repeat ((first|refine qA ?_|apply qB|refine qC ?_|apply qD|apply qE|apply qF|apply qG|apply qH);try simp (disch:=omega) only [go_sem,hv_73,hrt_2,hrt_7,hrt_8,hrt_9,hrt_10,hri,hkI])
     generalize (wr (w73.alloc (.cells #[zS,zB] 104)) w73.heap.size 0 [.slice spa SP.length spc,zB])=w74 at *
     rw [← hrc] at hRi
     try rw [← hrc]
     have pS:Upd (fun b=>b=vb∨b=rb) w73 w74:=hEi.mono fun _ h=>h.elim
     have wA:=vZ.trans pS
     have hz74:=pS.size
     have k9:=hG1.updS wA bK bM
     have hQo:Upd (fun b=>b=vb∨b=rb) w70 w74:=(((wG.trans pQ).trans pR).trans pS)
     have hzo:=hQo.size
     have hrokc:¬ ok rc1:=fun h=>by have:=(hok _ h).1;omega
     have hgrbc:¬ 0=rc1:=by omega
     have fI:¬ (0=vb∨0=rc1):=fun h=>h.elim (fun h=>hgv.1 h) fun h=>by omega
     have fJ:¬ (1=vb∨1=rc1):=fun h=>h.elim (fun h=>hgv.2 h) fun h=>by omega
     have hoMc:∀ b,(ok b∨w74.heap.size≤b)→¬ (b=vb∨b=rc1):=fun b hk h=>by
      rcases hk with hk|hk
      ·have:=hok b hk;rcases h with h|h<;>omega
      ·rcases h with h|h<;>omega
     have hbasec:Upd (fun b=>b=vb) w w74:=hbase.trans' wA fun i hi h=>h.elim id fun h=>by omega
     have hUc:Upd (fun b=>b=vb∨b=rc1) w74 w74:=Upd.refl _ _
     have hqc:Rdr RT ok w74 rc1 (some SP):=hRi
     obtain ⟨s62,HK⟩:∃ s:St,s=some SP:=⟨_,rfl⟩
     rw [← HK] at hqc
     have hbT:(rdF (rdQ (d+2) ver true) ver true fQ_2 s62).2=none→FB:=fun h=>hbP (rdQ_badT hl_0 (by rw [← hE];exact rdTg_bad (hK.symm.trans hk1) rfl (by rw [← oG,← hSL,← hSP,← HK];exact h)))
     have hht1_2:hasS fQ_2 ver=true:=hasS_t (by show (0:Int)≤ver;omega) (by show (-1:Int) < 0∨ver≤(-1:Int);omega)
     obtain ⟨xt1_2,PY⟩:∃ x,x=(rdF (rdQ (d+2) ver true) ver true fQ_2 s62).1:=⟨_,rfl⟩
     repeat ((first|refine qA ?_|apply qB|refine qC ?_|apply qD|apply qE|apply qF|apply qG|apply qH);try simp (disch:=omega) only [go_sem,hv_74,hrt_2,hrt_7,hrt_8,hrt_9,hrt_10,hri])
     refine (DefaultEX2_fn w74 (A:=[.int .i16 ver,v_1,c_1]) (B:=[.int .i32 (rdInt .i32 4 s2).1,.int .i32 (rdInt .i32 4 s3).1,.int .i32 (rdInt .i32 4 s4).1,.int .i8 (rdInt .i8 1 s5).1,.int .i32 (rdInt .i32 4 s6).1,.int .i32 (rdInt .i32 4 s7).1,.slice aa0 N0 qq0,.slice aa2 N2 qq2,strV (rdStr true s51).1,.map qm]) (show blk w74 vb=some ((([.int .i16 ver,v_1,c_1]:List Value)++(([v_3,v_4,v_5]:List Value)++[.int .i32 (rdInt .i32 4 s2).1,.int .i32 (rdInt .i32 4 s3).1,.int .i32 (rdInt .i32 4 s4).1,.int .i8 (rdInt .i8 1 s5).1,.int .i32 (rdInt .i32 4 s6).1,.int .i32 (rdInt .i32 4 s7).1,.slice aa0 N0 qq0,.slice aa2 N2 qq2,strV (rdStr true s51).1,.map qm])).toArray,75,(0,0)) from hv_74) rfl).mono ?_
     rintro _ w75 ⟨VV,yE⟩
     have hv_75:blk w75 vb=some (#[.int .i16 ver,v_1,c_1,zM,.int .i64 (-1),v_5,.int .i32 (rdInt .i32 4 s2).1,.int .i32 (rdInt .i32 4 s3).1,.int .i32 (rdInt .i32 4 s4).1,.int .i8 (rdInt .i8 1 s5).1,.int .i32 (rdInt .i32 4 s6).1,.int .i32 (rdInt .i32 4 s7).1,.slice aa0 N0 qq0,.slice aa2 N2 qq2,strV (rdStr true s51).1,.map qm],75,(0,0)):=VV
     have uC:=And.intro (hqc.upd yE (by omega) (fun b _ hk e=>(hok b hk).2 e)) True.intro
     have lB:Upd (fun b=>b=vb∨b=rc1) w74 w75:=yE.mono (fun _ h=>.inl h)
     have mL:=hUc.trans lB
     have QC:=lB.size
     have zL:=k9.updS mL fI fJ
     have VR:(rdL (rdQ (d+1) ver true) (dfP (d+1)) ver true [fX2_0,fX2_1] s62).2=none→FB:=fun h=>hbT (by rw [rdF_part rfl (by decide)];exact rdQ_bad h)
     have LU:hasS fX2_0 ver=true:=hasS_t (by show (0:Int)≤ver;omega) (by show (-1:Int) < 0∨ver≤(-1:Int);omega)
     obtain ⟨xt1p2_0,PZ⟩:∃ x,x=(rdF (rdQ (d+1) ver true) ver true fX2_0 s62).1:=⟨_,rfl⟩
     repeat ((first|refine qA ?_|apply qB|refine qC ?_|apply qD|apply qE|apply qF|apply qG|apply qH);try simp (disch:=omega) only [go_sem,hv_75,hrt_2,hrt_7,hrt_8,hrt_9,hrt_10,hri])
     have hrd:rdF (rdQ (d+1) ver true) ver true fX2_0 s62=_:=rdF_num 3 rfl (by decide)
     refine (Int32_fn w75 uC.1 hrokc zL.1 hgrbc).mono ?_
     rintro _ w76 ⟨rfl,C0,OF⟩
     have hv_76:=OF.blk_some hv_75 (by omega)
     have pT:Upd (fun b=>b=vb∨b=rc1) w75 w76:=OF.mono (fun _ h=>.inr h)
     have mM:=mL.trans pT
     have hz76:=pT.size
     have JH:=k9.updS mM fI fJ
     have hst:(rdF (rdQ (d+1) ver true) ver true fX2_0 s62).2=(rdInt .i32 4 s62).2:=by first|(rw [hrd];rfl)|rw [hrd]
     obtain ⟨s63,HL⟩:∃ s,s=(rdF (rdQ (d+1) ver true) ver true fX2_0 s62).2:=⟨_,rfl⟩
     rw [← hst,← HL] at C0
     clear hst
     repeat ((first|refine qA ?_|apply qB|refine qC ?_|apply qD|apply qE|apply qF|apply qG|apply qH);try simp (disch:=omega) only [go_sem,hv_76,hrt_2,hrt_7,hrt_8,hrt_9,hrt_10,hri])
     generalize D5:wr w76 vb 3 [.int .i32 (rdInt .i32 4 s62).1] = w77
     have TO:Upd (fun b=>b=vb∨b=rc1) w76 w77:=by rw [← D5];exact (Upd.refl _ _).wr _ _ (.inr (.inl rfl))
     have hv_77:blk w77 vb=some (#[.int .i16 ver,v_1,c_1,.int .i32 (rdInt .i32 4 s62).1,.int .i64 (-1),v_5,.int .i32 (rdInt .i32 4 s2).1,.int .i32 (rdInt .i32 4 s3).1,.int .i32 (rdInt .i32 4 s4).1,.int .i8 (rdInt .i8 1 s5).1,.int .i32 (rdInt .i32 4 s6).1,.int .i32 (rdInt .i32 4 s7).1,.slice aa0 N0 qq0,.slice aa2 N2 qq2,strV (rdStr true s51).1,.map qm],75,(0,0)):=by rw [← D5,blk_wr_eq,hv_76];rfl
     have FI:=TO
     have KB:=mM.trans FI
     have hz77:=FI.size
     have S2:=k9.updS KB fI fJ
     have YP:=Rdr.stored D5 C0 (by omega) fun h=>by have:=(hok _ h).1;first|omega|exact (hok _ h).2 rfl
     clear D5
     have WG:RepF (RepS true (d+1)) (szS true (d+1)) fX2_0 (fun b=>ok b∨w74.heap.size≤b) w77 (xt1p2_0) [.int .i32 (rdInt .i32 4 s62).1]:=(RepF_num (by decide)).2 (by rw [PZ,hrd];exact congrArg (fun x=>[x]) (numC_rd 3 (by decide) 4 s62).symm)
     clear hrd
     have hbt1p2_1:(rdL (rdQ (d+1) ver true) (dfP (d+1)) ver true [fX2_1] s63).2=none→FB:=fun h=>VR (by rw [rdL_st (by decide) LU,← HL];exact h)
     have WI:hasS fX2_1 ver=true:=hasS_t (by show (0:Int)≤ver;omega) (by show (-1:Int) < 0∨ver≤(-1:Int);omega)
     obtain ⟨xt1p2_1,Q0⟩:∃ x,x=(rdF (rdQ (d+1) ver true) ver true fX2_1 s63).1:=⟨_,rfl⟩
     repeat ((first|refine qA ?_|apply qB|refine qC ?_|apply qD|apply qE|apply qF|apply qG|apply qH);try simp (disch:=omega) only [go_sem,hv_77,hrt_2,hrt_7,hrt_8,hrt_9,hrt_10,hri])
     have hrd:rdF (rdQ (d+1) ver true) ver true fX2_1 s63=_:=rdF_num 4 rfl (by decide)
     refine (Int64_fn w77 YP.1 hrokc S2.1 hgrbc).mono ?_
     rintro _ w78 ⟨rfl,ML,OG⟩
     have hv_78:=OG.blk_some hv_77 (by omega)
     have FJ:Upd (fun b=>b=vb∨b=rc1) w77 w78:=OG.mono (fun _ h=>.inr h)
     have KC:=KB.trans FJ
     have hz78:=FJ.size
     have hG78:=k9.updS KC fI fJ
     have hst:(rdF (rdQ (d+1) ver true) ver true fX2_1 s63).2=(rdInt .i64 8 s63).2:=by first|(rw [hrd];rfl)|rw [hrd]
     obtain ⟨s64,NG⟩:∃ s,s=(rdF (rdQ (d+1) ver true) ver true fX2_1 s63).2:=⟨_,rfl⟩
     rw [← hst,← NG] at ML
     clear hst
     repeat ((first|refine qA ?_|apply qB|refine qC ?_|apply qD|apply qE|apply qF|apply qG|apply qH);try simp (disch:=omega) only [go_sem,hv_78,hrt_2,hrt_7,hrt_8,hrt_9,hrt_10,hri])
     generalize D6:wr w78 vb 4 [.int .i64 (rdInt .i64 8 s63).1] = w79
     have TP:Upd (fun b=>b=vb∨b=rc1) w78 w79:=by rw [← D6];exact (Upd.refl _ _).wr _ _ (.inr (.inl rfl))
     have hv_79:blk w79 vb=some (#[.int .i16 ver,v_1,c_1,.int .i32 (rdInt .i32 4 s62).1,.int .i64 (rdInt .i64 8 s63).1,v_5,.int .i32 (rdInt .i32 4 s2).1,.int .i32 (rdInt .i32 4 s3).1,.int .i32 (rdInt .i32 4 s4).1,.int .i8 (rdInt .i8 1 s5).1,.int .i32 (rdInt .i32 4 s6).1,.int .i32 (rdInt .i32 4 s7).1,.slice aa0 N0 qq0,.slice aa2 N2 qq2,strV (rdStr true s51).1,.map qm],75,(0,0)):=by rw [← D6,blk_wr_eq,hv_78];rfl
     have FK:=TP
     have KD:=KC.trans FK
     have hz79:=FK.size
     have hG79:=k9.updS KD fI fJ
     have YQ:=Rdr.stored D6 ML (by omega) fun h=>by have:=(hok _ h).1;first|omega|exact (hok _ h).2 rfl
     clear D6
     have WH:RepF (RepS true (d+1)) (szS true (d+1)) fX2_1 (fun b=>ok b∨w74.heap.size≤b) w79 (xt1p2_1) [.int .i64 (rdInt .i64 8 s63).1]:=(RepF_num (by decide)).2 (by rw [Q0,hrd];exact congrArg (fun x=>[x]) (numC_rd 4 (by decide) 8 s63).symm)
     clear hrd
     have XN:rdL (rdQ (d+1) ver true) (dfP (d+1)) ver true [] s64=([],s64):=rfl
     have XM:rdL (rdQ (d+1) ver true) (dfP (d+1)) ver true [fX2_1] s63=([xt1p2_1],s64):=by rw [rdL_st (by decide) WI,← Q0,← NG,XN]
     have XL:rdL (rdQ (d+1) ver true) (dfP (d+1)) ver true [fX2_0,fX2_1] s62=([xt1p2_0,xt1p2_1],s64):=by rw [rdL_st (by decide) LU,← PZ,← HL,XM]
     have LF:rdQ (d+2) ver true fs_X2 s62=(.mk 0 [] false [xt1p2_0,xt1p2_1] (rdTags s64).1,(rdTags s64).2):=rdQ_tn (by decide) XL
     repeat ((first|refine qA ?_|apply qB|refine qC ?_|apply qD|apply qE|apply qF|apply qG|apply qH);try simp (disch:=omega) only [go_sem,hv_79,hrt_2,hrt_7,hrt_8,hrt_9,hrt_10,hri])
     refine (ReadTags_fn w79 YQ.1 hrokc).mono ?_
     rintro _ w80 ⟨qmt1p2,rfl,TT,hTn,MM,OH⟩
     have hv_80:=OH.blk_some hv_79 (by omega)
     have FL:Upd (fun b=>b=vb∨b=rc1) w79 w80:=OH.mono (fun _ h=>.inr h)
     have KE:=KD.trans FL
     have hz80:=FL.size
     have hG80:=k9.updS KE fI fJ
     obtain ⟨s65,Z5⟩:∃ s,s=(rdTags s64).2:=⟨_,rfl⟩
     rw [← Z5] at MM LF
     repeat (first|simp (disch:=omega) only [go_sem,hv_80,hrt_2,hrt_7,hrt_8,hrt_9,hrt_10,hri]|refine qA ?_|apply qB|refine qC ?_|apply qD|apply qE|apply qF|apply qG|apply qH)
     generalize D7:wr w80 vb 5 [.map qmt1p2] = w81
     have TQ:Upd (fun b=>b=vb∨b=rc1) w80 w81:=by rw [← D7];exact (Upd.refl _ _).wr _ _ (.inr (.inl rfl))
     have hv_81:blk w81 vb=some (#[.int .i16 ver,v_1,c_1,.int .i32 (rdInt .i32 4 s62).1,.int .i64 (rdInt .i64 8 s63).1,.map qmt1p2,.int .i32 (rdInt .i32 4 s2).1,.int .i32 (rdInt .i32 4 s3).1,.int .i32 (rdInt .i32 4 s4).1,.int .i8 (rdInt .i8 1 s5).1,.int .i32 (rdInt .i32 4 s6).1,.int .i32 (rdInt .i32 4 s7).1,.slice aa0 N0 qq0,.slice aa2 N2 qq2,strV (rdStr true s51).1,.map qm],75,(0,0)):=by rw [← D7,blk_wr_eq,hv_80];rfl
     have AM:=TQ
     have wB:=KE.trans AM
     have hz81:=AM.size
     have S3:=k9.updS wB fI fJ
     have YR:=Rdr.stored D7 MM (by omega) fun h=>by have:=(hok _ h).1;first|omega|exact (hok _ h).2 rfl
     clear D7
     have TW:TagsM (fun b=>ok b∨w74.heap.size≤b) w81 (.map qmt1p2) (rdTags s64).1:=(TT.weaken fun b _ hk=>hk.elim (fun hk=>.inl hk) (fun h=>by have h':w79.heap.size≤b:=h;exact .inr (by omega))).keep (AM.keeps fun b _ hk e=>(hoMc b hk) e)
     have RE:Upd (fun b=>b=vb∨b=rc1) w81 w81:=Upd.refl _ _
     have RD:Upd (fun b=>b=vb∨b=rc1) w80 w81:=AM.trans RE
     have IX:Upd (fun b=>b=vb∨b=rc1) w79 w81:=FL.trans RD
     have RC:Upd (fun b=>b=vb∨b=rc1) w78 w81:=FK.trans IX
     have IW:Upd (fun b=>b=vb∨b=rc1) w77 w81:=FJ.trans RC
     have RB:Upd (fun b=>b=vb∨b=rc1) w76 w81:=FI.trans IW
     have RA:Upd (fun b=>b=vb∨b=rc1) w75 w81:=pT.trans RB
     have hCt1p2_74:Upd (fun b=>b=vb∨b=rc1) w74 w81:=lB.trans RA
     have SK:RepS true (d+2) fs_X2 (fun b=>ok b∨w74.heap.size≤b) w81 (.mk 0 [] false [xt1p2_0,xt1p2_1] (rdTags s64).1) [.int .i32 (rdInt .i32 4 s62).1,.int .i64 (rdInt .i64 8 s63).1,.map qmt1p2]:=RepS.introT (c:=[.int .i32 (rdInt .i32 4 s62).1,.int .i64 (rdInt .i64 8 s63).1]) (RepL.cons1 (WG.keepS (IW.keeps fun b _ hk e=>(hoMc b hk) e)) (RepL.cons1 (WH.keepS (IX.keeps fun b _ hk e=>(hoMc b hk) e)) RepL.nil)) TW
     have HD:rdF (rdQ (d+2) ver true) ver true fQ_2 s62=((.mk 0 [] false [xt1p2_0,xt1p2_1] (rdTags s64).1),s65):=by rw [rdF_part rfl (by decide)];exact LF
     have hst1_p2:s65=(rdF (rdQ (d+2) ver true) ver true fQ_2 s62).2:=by rw [HD]
     have WF:RepF (RepS true (d+2)) (szS true (d+2)) fQ_2 (fun b=>ok b∨w74.heap.size≤b) w81 (xt1_2) [.int .i32 (rdInt .i32 4 s62).1,.int .i64 (rdInt .i64 8 s63).1,.map qmt1p2]:=by rw [PY,HD];exact (RepF_part rfl (by decide)).2 SK
     repeat ((first|refine qA ?_|apply qB|refine qC ?_|apply qD|apply qE|apply qF|apply qG|apply qH);try simp (disch:=omega) only [go_sem,hv_81,hrt_2,hrt_7,hrt_8,hrt_9,hrt_10,hri])
     refine (RComplete_fn w81 YR.1 S3.2).mono ?_
     rintro _ wz ⟨rfl,hez⟩
     rw [hez]
     clear hez wz
     have hxF:rdF (rdQ (d+2) ver true) ver true fQ_2 s62=(xt1_2,s65):=by rw [PY,HD]
     by_cases hsz:s65=none
     ·rw [errV_none hsz]
      obtain ⟨eT,ep,hevE⟩:=hev
      rw [hevE]
      repeat (first|simp (disch:=omega) only [go_sem,hv_81,hrt_2,hrt_7,hrt_8,hrt_9,hrt_10,hri]|refine qA ?_|apply qB|refine qC ?_|apply qD|apply qE|apply qF|apply qG|apply qH)
      rw [← hevE]
      exact ReadQ.bad (Eq.mp hFB (hbT (by rw [hxF];exact hsz))) (hbasec.trans' wB fun i hi h=>h.elim id fun h=>by omega)
     have hen:errV ev s65 = .nilIface:=errV_some hsz
     rw [hen]
     repeat (first|simp (disch:=omega) only [go_sem,hv_81,hrt_2,hrt_7,hrt_8,hrt_9,hrt_10,hri,hw1]|refine qA ?_|apply qB|refine qC ?_|apply qD|apply qE|apply qF|apply qG|apply qH)
     have hRk:Upd (fun b=>b=vb∨b=rb) w70 w81:=hQo.trans' wB fun i hi h=>h.elim .inl fun h=>by omega
     have hzr:=hRk.size
     have hE2:rdTg (rdQ (d+2) ver true) ver true fs_Q m [y_0,x_1,xt1_2,x_3,x_4,x_5,x_6,x_7,x_8,x_9,x_10,x_11] u s61=rdTgs (rdQ (d+2) ver true) ver true fs_Q [x_0,x_1,x_2,x_3,x_4,x_5,x_6,x_7,x_8,x_9,x_10,x_11] s52:=by
      have h:=(rdTg_known (k:=1) (hK.symm.trans hk1) rfl (by rw [← oG,← hSL,← hSP,← HK];exact hxF) hsz).symm.trans hE
      rw [← oG,← hSL,← HJ] at h;exact h
     refine ⟨⟨(by simp (disch:=omega) only [go_sem,Holds_nil,Holds_cons,hrt_2,hrt_7,hrt_8,hrt_9,hrt_10,hri]),m,(by simp (disch:=omega) only [go_sem,hrt_2,hrt_7,hrt_8,hrt_9,hrt_10,hri,hw1];all_goals rfl),u,s61,qm,y_0,v_1,xt1_2,.int .i32 (rdInt .i32 4 s62).1,.int .i64 (rdInt .i64 8 s63).1,.map qmt1p2,by omega,hE2,hv_81,RepF.weakenS (hfT_0.keepS (hRk.keeps fun b _ hk e=>(hoM b hk.1) e)) (fun b hb hk=>⟨hk.1,hb,hk.2.2⟩),RepF.weakenS WF (fun b hb hk=>⟨hk.imp id fun h=>by omega,hb,fun h=>by have:=hmap b h;rcases hk with hk|hk<;>first|omega|(have:=(hok b hk).1;omega)⟩),hTG.keep (fun b hb hk=>hRk.keep b hb fun e=>by rcases hk with hk|hk<;>rcases e with e|e<;>first|omega|(have:=hok b hk.1;omega)),hnd,⟨hqo.1.upd wB (by omega) (fun b _ hk e=>by have:=hok b hk;omega),hqo.2.upd wB (by omega)⟩,tT.trans hRk⟩,?_⟩
     try simp (disch:=omega) only [go_sem,hrt_2,hrt_7,hrt_8,hrt_9,hrt_10,hri]
     simp only [RowKit.intOf]
     omega
    ·have GI:¬ (K:Int)=1:=by omega
     repeat ((first|refine qA ?_|apply qB|refine qC ?_|apply qD|apply qE|apply qF|apply qG|apply qH);try simp (disch:=omega) only [go_sem,hv_71,hrt_2,hrt_7,hrt_8,hrt_9,hrt_10,hri,GH,GI])
     have hQk:Upd (fun b=>b=vb∨b=rb) w70 w71:=wG
     have hEd:Ext w71 w71.drew:=(Upd.refl _ _).drew
     have hqd:Rdr RT ok w71.drew rb s55∧NN w71.drew rb s55:=⟨xO.1.upd hEd (fun h=>h) (fun _ _ _ h=>h),xO.2.upd hEd fun h=>h⟩
     have hnb:∀ b,¬ b=rb→¬ b=rb:=fun _ h=>h
     refine W.drawR (.take 0 (.take 1 (.take 2 (.take 3 (.only 4 (.take 5 (.only 6 (.last 7)))))))) (fun b=>b=rb) mixed (by kernel_rfl) ?_
     try simp (disch:=(first|omega|(simp only [qI,qJ,qK]<;>omega)|exact qL _|(refine hnb _ ?_;first|omega|(simp only [World.size_alloc,size_wr,size_drew]<;>omega)))) only [go_sem,hv_71,hrt_2,hrt_7,hrt_8,hrt_9,hrt_10,hri]
     refine (RUvarint_fn w71.drew hqd.1 hrok).mono ?_
     rintro _ w72 ⟨rfl,kO,oM⟩
     have hSl:=rdUv_lt s55
     obtain ⟨s66,NH⟩:∃ s,s=(rdUv s55).2:=⟨_,rfl⟩
     rw [← NH] at kO
     obtain ⟨SL,hSL⟩:∃ N,N=(rdUv s55).1:=⟨_,rfl⟩
     rw [← hSL] at hSl
     try rw [← hSL]
     have e64:IntKind.i64.wrap (SL:Int)=SL:=i64_wrap (by omega)
     have hP1:Upd (fun b=>b=rb) w71.drew w72:=oM
     have hv_72:=oM.blk_some (show blk w71.drew vb=_ from hv_71) (by omega)
     refine ⟨hP1,?_⟩
     try simp (disch:=(first|omega|(simp only [qI,qJ,qK]<;>omega)|exact qL _|(refine hnb _ ?_;first|omega|(simp only [World.size_alloc,size_wr,size_drew]<;>omega)))) only [go_sem,hv_72,e64,hrt_2,hrt_7,hrt_8,hrt_9,hrt_10,hri]
     refine (Span_fn w72 kO.1 hrok _).mono ?_
     rintro r73 w73 ⟨hBs,_,_,hqx,hqy,oN⟩
     have kP:=And.intro hqx (hqy (.inl kO.2))
     clear hqx hqy
     obtain ⟨s67,HM⟩:∃ s,s=(rdSpan (SL:Int) s66).2:=⟨_,rfl⟩
     rw [← HM] at kP
     obtain ⟨SP,hSP⟩:∃ x,x=(rdSpan (SL:Int) s66).1:=⟨_,rfl⟩
     rw [← hSP] at hBs
     rw [NH] at hSP HM
     obtain ⟨spa,spc,rfl,_⟩:=hBs.shape
     have hP2:Upd (fun b=>b=rb) w71.drew w73:=hP1.trans oN
     have hv_73:=oN.blk_some hv_72 (by omega)
     refine ⟨hP2,?_⟩
     try simp (disch:=(first|omega|(simp only [qI,qJ,qK]<;>omega)|exact qL _|(refine hnb _ ?_;first|omega|(simp only [World.size_alloc,size_wr,size_drew]<;>omega)))) only [go_sem,hv_73,e64,hrt_2,hrt_7,hrt_8,hrt_9,hrt_10,hri]
     have hR7:Upd (fun b=>b=vb∨b=rb) w70 w73:=hQk.trans ((hEd.mono fun _ h=>h.elim).trans (hP2.mono fun _ h=>.inr h))
     have hz7:=hR7.size
     have F6:=hTG.keep (w':=w73) (fun b hb hk=>hR7.keep b hb fun e=>by rcases hk with hk|hk<;>rcases e with e|e<;>first|omega|(have:=hok b hk.1;omega))
     refine (TagsPutX_fn (okT:=ok) (L:=w69.heap.size) w73 F6 (by omega) (by omega) hv_73 (o:=15) rfl (thaw_00 _ _) (K,SP) _ (hBs.weaken fun b _ hk=>⟨hk,by have:=hok b hk;omega⟩) hKl hnd (fun b hk=>by have:=hok b hk;omega)).mono ?_
     rintro _ w74 ⟨qn,hb8,F7,hU8,hnw⟩
     have hv_74:blk w74 vb=some (#[.int .i16 ver,v_1,c_1,v_3,v_4,v_5,.int .i32 (rdInt .i32 4 s2).1,.int .i32 (rdInt .i32 4 s3).1,.int .i32 (rdInt .i32 4 s4).1,.int .i8 (rdInt .i8 1 s5).1,.int .i32 (rdInt .i32 4 s6).1,.int .i32 (rdInt .i32 4 s7).1,.slice aa0 N0 qq0,.slice aa2 N2 qq2,strV (rdStr true s51).1,.map qn],75,(0,0)):=hb8
     have hUz:Upd (fun b=>b=vb∨b=rb) w69 w74:=(tT.trans hR7).trans' hU8 fun i hi h=>h.elim .inl fun h=>by cases h;have:=hmap _ rfl;omega
     have hz8:=hU8.size
     have hn:∀ f∈([fQ_0,fQ_1,fQ_2,fQ_3,fQ_4,fQ_5,fQ_6,fQ_7,fQ_8,fQ_9,fQ_10,fQ_11]:List Fld),f.tag≠(K:Int):=by
      intro f hf
      simp only [List.mem_cons,List.not_mem_nil,or_false] at hf
      rcases hf with rfl|rfl|rfl|rfl|rfl|rfl|rfl|rfl|rfl|rfl|rfl|rfl
      ·intro h;have h':(0:Int)=(K:Int):=h;omega
      ·intro h;have h':(-1:Int)=(K:Int):=h;omega
      ·intro h;have h':(1:Int)=(K:Int):=h;omega
      ·intro h;have h':(-1:Int)=(K:Int):=h;omega
      ·intro h;have h':(-1:Int)=(K:Int):=h;omega
      ·intro h;have h':(-1:Int)=(K:Int):=h;omega
      ·intro h;have h':(-1:Int)=(K:Int):=h;omega
      ·intro h;have h':(-1:Int)=(K:Int):=h;omega
      ·intro h;have h':(-1:Int)=(K:Int):=h;omega
      ·intro h;have h':(-1:Int)=(K:Int):=h;omega
      ·intro h;have h':(-1:Int)=(K:Int):=h;omega
      ·intro h;have h':(-1:Int)=(K:Int):=h;omega
     have hE2:rdTg (rdQ (d+2) ver true) ver true fs_Q m [y_0,x_1,y_2,x_3,x_4,x_5,x_6,x_7,x_8,x_9,x_10,x_11] (tagPut u (K,SP)) s67=rdTgs (rdQ (d+2) ver true) ver true fs_Q [x_0,x_1,x_2,x_3,x_4,x_5,x_6,x_7,x_8,x_9,x_10,x_11] s52:=by
      have h:=(rdTg_unk (by rw [← hK];exact tagX_none hn)).symm.trans hE
      rw [← hK,← oG,← hSL,← hSP,← HM] at h;exact h
     have hrm:¬ (rb=vb∨Value.map qm = .map (some rb)):=fun h=>h.elim (fun h=>by omega) fun h=>by cases h;have:=hmap _ rfl;omega
     repeat (first|simp (disch:=omega) only [go_sem,hv_74,hrt_2,hrt_7,hrt_8,hrt_9,hrt_10,hri,hw1]|refine qA ?_|apply qB|refine qC ?_|apply qD|apply qE|apply qF|apply qG|apply qH)
     refine ⟨⟨(by simp (disch:=omega) only [go_sem,Holds_nil,Holds_cons,hrt_2,hrt_7,hrt_8,hrt_9,hrt_10,hri]),m,(by simp (disch:=omega) only [go_sem,hrt_2,hrt_7,hrt_8,hrt_9,hrt_10,hri,hw1];all_goals rfl),_,s67,qn,y_0,v_1,y_2,v_3,v_4,v_5,by omega,hE2,hv_74,RepF.weakenS ((hfT_0.keepS (hR7.keeps fun b _ hk e=>(hoM b hk.1) e)).keepS (hU8.keeps fun b _ hk e=>e.elim (fun e=>hoM b hk.1 (.inl e)) fun e=>hk.2.2 (by cases e;rfl))) (fun b hb hk=>⟨hk.1,hb,fun h=>(hnw b h).elim (fun h=>hk.2.2 (by cases h;rfl)) fun h=>by have:=hk.2.1;omega⟩),RepF.weakenS ((hfT_2.keepS (hR7.keeps fun b _ hk e=>(hoM b hk.1) e)).keepS (hU8.keeps fun b _ hk e=>e.elim (fun e=>hoM b hk.1 (.inl e)) fun e=>hk.2.2 (by cases e;rfl))) (fun b hb hk=>⟨hk.1,hb,fun h=>(hnw b h).elim (fun h=>hk.2.2 (by cases h;rfl)) fun h=>by have:=hk.2.1;omega⟩),F7,tagPut_keys _ _ hnd,⟨kP.1.upd hU8 hrm (fun b _ hk h=>h.elim (fun h=>by have:=hok b hk;omega) fun h=>by cases h;have:=hmap _ rfl;have:=hok _ hk;omega),kP.2.upd hU8 hrm⟩,hUz⟩,?_⟩
     try simp (disch:=omega) only [go_sem,hrt_2,hrt_7,hrt_8,hrt_9,hrt_10,hri]
     simp only [RowKit.intOf]
     omega
 rintro ρ w75 ⟨⟨hrz_2,hrz_7,hrz_8,hrz_9,hrz_10,-⟩,u,s68,qm,y_0,v_1,y_2,v_3,v_4,v_5,hE0,hv_75,hfT_0,hfT_2,hTG,hnd,uC,UB⟩
 have lB:Upd (fun b=>b=vb∨b=rb) w69 w75:=UB
 have mL:=FC.trans lB
 have QC:=lB.size
 have zL:=hG1.updS mL bK bM
 have hf_0:=RepF.weakenS hfT_0 (ok':=(fun b=>ok b∨w1.heap.size≤b)) fun b _ hk=>hk.1
 have hf_2:=RepF.weakenS hfT_2 (ok':=(fun b=>ok b∨w1.heap.size≤b)) fun b _ hk=>hk.1
 have hTg:TagsM (fun b=>ok b∨w1.heap.size≤b) w75 (.map qm) u:=hTG.tags (fun b _ hk=>.inl hk) (fun b hb=>.inr (by omega))
 have hfin:rdQ (d+3) ver true fs_Q s0=(.mk 0 [] false [y_0,x_1,y_2,x_3,x_4,x_5,x_6,x_7,x_8,x_9,x_10,x_11] u,s68):=rdQ_t hl_0 hE0.symm
 have hC_75:Upd (fun b=>b=vb∨b=rb) w75 w75:=Upd.refl _ _
 have hC_69:Upd (fun b=>b=vb∨b=rb) w69 w75:=lB.trans hC_75
 have hC_68:Upd (fun b=>b=vb∨b=rb) w68 w75:=AL.trans hC_69
 have hC_67:Upd (fun b=>b=vb∨b=rb) w67 w75:=AK.trans hC_68
 have hC_66:Upd (fun b=>b=vb∨b=rb) w66 w75:=AJ.trans hC_67
 have hC_65:Upd (fun b=>b=vb∨b=rb) w65 w75:=wF.trans hC_66
 have hC_50:Upd (fun b=>b=vb∨b=rb) w50 w75:=AI.trans hC_65
 have hC_49:Upd (fun b=>b=vb∨b=rb) w49 w75:=AE.trans hC_50
 have hC_48:Upd (fun b=>b=vb∨b=rb) w48 w75:=wC.trans hC_49
 have hC_15:Upd (fun b=>b=vb∨b=rb) w15 w75:=lO.trans hC_48
 have hC_14:Upd (fun b=>b=vb∨b=rb) w14 w75:=lK.trans hC_15
 have hC_13:Upd (fun b=>b=vb∨b=rb) w13 w75:=AB.trans hC_14
 have hC_12:Upd (fun b=>b=vb∨b=rb) w12 w75:=pN.trans hC_13
 have hC_11:Upd (fun b=>b=vb∨b=rb) w11 w75:=fG.trans hC_12
 have hC_10:Upd (fun b=>b=vb∨b=rb) w10 w75:=eH.trans hC_11
 have hC_9:Upd (fun b=>b=vb∨b=rb) w9 w75:=eF.trans hC_10
 have hC_8:Upd (fun b=>b=vb∨b=rb) w8 w75:=hV9.trans hC_9
 have hC_7:Upd (fun b=>b=vb∨b=rb) w7 w75:=hV8.trans hC_8
 have hC_6:Upd (fun b=>b=vb∨b=rb) w6 w75:=hV7.trans hC_7
 have hC_5:Upd (fun b=>b=vb∨b=rb) w5 w75:=hV6.trans hC_6
 have hC_4:Upd (fun b=>b=vb∨b=rb) w4 w75:=hV5.trans hC_5
 have hC_3:Upd (fun b=>b=vb∨b=rb) w3 w75:=hV4.trans hC_4
 have hC_2:Upd (fun b=>b=vb∨b=rb) w2 w75:=hV3.trans hC_3
 have hC_1:Upd (fun b=>b=vb∨b=rb) w1 w75:=hV2.trans hC_2
 have hR:RepS true (d+3) fs_Q (fun b=>ok b∨w1.heap.size≤b) w75 (.mk 0 [] false [y_0,x_1,y_2,x_3,x_4,x_5,x_6,x_7,x_8,x_9,x_10,x_11] u) [v_1,c_1,v_3,v_4,v_5,.int .i32 (rdInt .i32 4 s2).1,.int .i32 (rdInt .i32 4 s3).1,.int .i32 (rdInt .i32 4 s4).1,.int .i8 (rdInt .i8 1 s5).1,.int .i32 (rdInt .i32 4 s6).1,.int .i32 (rdInt .i32 4 s7).1,.slice aa0 N0 qq0,.slice aa2 N2 qq2,strV (rdStr true s51).1,.map qm]:=RepS.introT (c:=[v_1,c_1,v_3,v_4,v_5,.int .i32 (rdInt .i32 4 s2).1,.int .i32 (rdInt .i32 4 s3).1,.int .i32 (rdInt .i32 4 s4).1,.int .i8 (rdInt .i8 1 s5).1,.int .i32 (rdInt .i32 4 s6).1,.int .i32 (rdInt .i32 4 s7).1,.slice aa0 N0 qq0,.slice aa2 N2 qq2,strV (rdStr true s51).1]) (RepL.cons1 (hf_0.keepS (hC_75.keeps fun b _ hk e=>(hoM b hk) e)) (RepL.cons1 (hf_1.keepS (hC_2.keeps fun b _ hk e=>(hoM b hk) e)) (RepL.cons (c:=[v_3,v_4,v_5]) (hf_2.keepS (hC_75.keeps fun b _ hk e=>(hoM b hk) e)) (RepL.cons1 (hf_3.keepS (hC_4.keeps fun b _ hk e=>(hoM b hk) e)) (RepL.cons1 (hf_4.keepS (hC_6.keeps fun b _ hk e=>(hoM b hk) e)) (RepL.cons1 (hf_5.keepS (hC_8.keeps fun b _ hk e=>(hoM b hk) e)) (RepL.cons1 (hf_6.keepS (hC_10.keeps fun b _ hk e=>(hoM b hk) e)) (RepL.cons1 (hf_7.keepS (hC_12.keeps fun b _ hk e=>(hoM b hk) e)) (RepL.cons1 (hf_8.keepS (hC_14.keeps fun b _ hk e=>(hoM b hk) e)) (RepL.cons1 (hf_9.keepS (hC_49.keeps fun b _ hk e=>(hoM b hk) e)) (RepL.cons1 (hf_10.keepS (hC_66.keeps fun b _ hk e=>(hoM b hk) e)) (RepL.cons1 (hf_11.keepS (hC_68.keeps fun b _ hk e=>(hoM b hk) e)) RepL.nil)))))))))))) hTg
 repeat ((first|refine qA ?_|apply qB|refine qC ?_|apply qD|apply qE|apply qF|apply qG|apply qH);try simp (disch:=omega) only [go_sem,hv_75,hrz_2,hrz_7,hrz_8,hrz_9,hrz_10])
 refine (RComplete_fn w75 uC.1 zL.2).mono ?_
 rintro _ wz ⟨rfl,hez⟩
 rw [hez]
 repeat ((first|refine qA ?_|apply qB|refine qC ?_|apply qD|apply qE|apply qF|apply qG|apply qH);try simp (disch:=omega) only [go_sem,hv_75,hrz_2,hrz_7,hrz_8,hrz_9,hrz_10])
 rw [hfin]
 refine ⟨fun h => ?_,fun h=>⟨?_,[v_1,c_1,v_3,v_4,v_5,.int .i32 (rdInt .i32 4 s2).1,.int .i32 (rdInt .i32 4 s3).1,.int .i32 (rdInt .i32 4 s4).1,.int .i8 (rdInt .i8 1 s5).1,.int .i32 (rdInt .i32 4 s6).1,.int .i32 (rdInt .i32 4 s7).1,.slice aa0 N0 qq0,.slice aa2 N2 qq2,strV (rdStr true s51).1,.map qm],hv_75,?_⟩,?_⟩
 ·have h':s68=none:=h
  rw [h'];rfl
 ·cases hsn:s68 with
  | none=>exact absurd hsn h
  | some x=>rfl
 ·exact (RepS_lay true (d+3) fs_Q).weaken hR fun b _ hk=>hk.imp id fun h=>by omega
 ·exact hbase.trans' mL fun i hi h=>h.elim id fun h=>by omega
end Ms

